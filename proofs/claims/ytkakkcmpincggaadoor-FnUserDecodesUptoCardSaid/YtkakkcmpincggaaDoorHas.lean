/- What spec.Has returns, for every string and byte. -/
import Derived.Test.YtkakkcmpincggaaDoorProg
import Derived.WalkKit
import Derived.WalkSpells
import Derived.Lib.Strings
import Derived.Lib.Hide
namespace Go.Proofs.YtkakkcmpincggaaDoor
open Go.RowKit

/-- is a byte in a string? -/
def hasL (l : List UInt8) (c : UInt8) : Bool := l.contains c
theorem hasL_iff (l : List UInt8) (c : UInt8) : hasL l c = true ↔ c ∈ l := List.contains_iff_mem

theorem has_byte (s : ByteArray) (k : Nat) (h : k < s.size) (hl : k < s.data.toList.length) : s.data.toList[k]'hl = s[k]'h := by simp; rfl

theorem has_yes (s : ByteArray) (c : UInt8) (k : Nat) (hk : k < s.size) (h : s[k].toNat = c.toNat) : hasL s.data.toList c = true := by
  rw [hasL_iff]
  have hl : k < s.data.toList.length := by simpa using hk
  have e : s.data.toList[k]'hl = c := by rw [has_byte s k hk]; exact UInt8.toNat.inj h
  exact e ▸ List.getElem_mem hl
theorem has_no (s : ByteArray) (c : UInt8) (h : ∀ k (hk : k < s.size), s[k].toNat ≠ c.toNat) : hasL s.data.toList c = false := by
  rw [Bool.eq_false_iff]
  intro hm
  obtain ⟨k, hk, e⟩ := List.getElem_of_mem ((hasL_iff _ _).1 hm)
  have hk' : k < s.size := by simpa using hk
  rw [has_byte s k hk'] at e
  exact h k hk' (by rw [e])

set_option maxHeartbeats 400000 in
theorem has_any (s : ByteArray) (c : UInt8) (w : World) (hs : s.size < 4611686018427387904) :
    Calls Tryd.prog 18 #[.string s, .int .u8 (c.toNat : Int)] w fun e w' => e = .returned (.bool (hasL s.data.toList c)) ∧ w = w' := by
  go_enter Tryd.func18, Tryd.ntmps18
  go_wp2
  go_loop [8, 4] (fun i r => ∃ k : Nat, k ≤ s.size ∧ i = .int .i64 k ∧ r = .bool false ∧ Hid (∀ j (hj : j < s.size), j < k → s[j].toNat ≠ c.toNat)) (fun i _ => s.size - (intOf i).toNat)
  case atStart => exact ⟨0, Nat.zero_le _, rfl, rfl, fun j _ h => absurd h (by omega)⟩
  case round =>
    obtain ⟨k, hk, rfl, rfl, HN⟩ := hrel
    by_cases hlt : k < s.size
    · by_cases he : s[k].toNat = c.toNat
      · have HY := Lib.hid (has_yes s c k hlt he)
        have hb : ((s[k].toNat : Int) == (c.toNat : Int)) = true := by rw [he]; simp
        clear he
        go_wp2
        go_ret
        rw [HY.out]
        exact ⟨rfl, rfl⟩
      · have HM : Hid (∀ j (hj : j < s.size), j < k + 1 → s[j].toNat ≠ c.toNat) := fun j hj h => by
          by_cases e : j = k
          · subst e; exact he
          · exact HN.out j hj (by omega)
        have hb : ((s[k].toNat : Int) == (c.toNat : Int)) = false := by simp; omega
        clear he
        go_wp2
        go_round
        case rel => exact ⟨k + 1, by omega, by go_num, rfl, HM⟩
        case measure => simp [intOf]; omega
    · have HF := Lib.hid (has_no s c (fun j hj => HN.out j hj (by omega)))
      go_wp2
      go_ret
      rw [HF.out]
      exact ⟨rfl, rfl⟩
end Go.Proofs.YtkakkcmpincggaaDoor
