/- What validEncoded returns, for every string, where memory holds the table. -/
import Derived.Test.YtkakkcmpincggaaDoorTab
namespace Go.Proofs.YtkakkcmpincggaaDoor
open Go.RowKit

/-- the bytes that validEncoded lets by without asking the table -/
def special (c : UInt8) : Bool := [33, 36, 38, 39, 40, 41, 42, 43, 44, 59, 61, 58, 64, 91, 93, 37].contains c.toNat
def okB (m : Int) (c : UInt8) : Bool := special c || !esc m c
def validL (m : Int) (l : List UInt8) : Bool := l.all (okB m)

theorem special_cases {c : UInt8} (h : special c = true) : c.toNat = 33 ∨ c.toNat = 36 ∨ c.toNat = 38 ∨ c.toNat = 39 ∨ c.toNat = 40 ∨ c.toNat = 41 ∨ c.toNat = 42 ∨ c.toNat = 43 ∨ c.toNat = 44 ∨ c.toNat = 59 ∨ c.toNat = 61 ∨ c.toNat = 58 ∨ c.toNat = 64 ∨ c.toNat = 91 ∨ c.toNat = 93 ∨ c.toNat = 37 := by
  simpa [special] using h
theorem special_not {c : UInt8} (h : special c = false) : c.toNat ≠ 33 ∧ c.toNat ≠ 36 ∧ c.toNat ≠ 38 ∧ c.toNat ≠ 39 ∧ c.toNat ≠ 40 ∧ c.toNat ≠ 41 ∧ c.toNat ≠ 42 ∧ c.toNat ≠ 43 ∧ c.toNat ≠ 44 ∧ c.toNat ≠ 59 ∧ c.toNat ≠ 61 ∧ c.toNat ≠ 58 ∧ c.toNat ≠ 64 ∧ c.toNat ≠ 91 ∧ c.toNat ≠ 93 ∧ c.toNat ≠ 37 := by
  simpa [special] using h

theorem at_byte (s : ByteArray) (k : Nat) (h : k < s.size) (hl : k < s.data.toList.length) : s.data.toList[k]'hl = s[k]'h := by simp; rfl
theorem at_lt (s : ByteArray) (k : Nat) (h : k < s.size) : k < s.data.toList.length := by simpa using h
theorem valid_yes (m : Int) (s : ByteArray) (h : ∀ j (hj : j < s.size), okB m s[j] = true) : validL m s.data.toList = true := by
  rw [validL, List.all_eq_true]
  intro c hc
  obtain ⟨j, hj, rfl⟩ := List.getElem_of_mem hc
  have hj' : j < s.size := by simpa using hj
  rw [at_byte s j hj']
  exact h j hj'
theorem valid_no (m : Int) (s : ByteArray) (j : Nat) (hj : j < s.size) (h : okB m s[j] = false) : validL m s.data.toList = false := by
  rw [validL, List.all_eq_false]
  exact ⟨s.data.toList[j]'(at_lt s j hj), List.getElem_mem _, by rw [at_byte s j hj, h]; exact Bool.false_ne_true⟩

set_option maxHeartbeats 4000000 in
theorem valid_any (s : ByteArray) (m : Int) (w : World) (hs : s.size < 4611686018427387904) (hT : Tab w) :
    Calls Tryd.prog 30 #[.string s, .int .u8 m] w fun e w' => e = .returned (.bool (validL m s.data.toList)) ∧ w = w' := by
  have HT := Lib.hid hT
  clear hT
  go_enter Tryd.func30, Tryd.ntmps30
  go_wp2_with fail
  go_loop [5, 4] (fun i r => ∃ k : Nat, k ≤ s.size ∧ i = .int .i64 k ∧ r = .bool false ∧ Hid (∀ j (hj : j < s.size), j < k → okB m s[j] = true)) (fun i _ => s.size - (intOf i).toNat)
  case atStart => exact ⟨0, Nat.zero_le _, rfl, rfl, fun j _ h => absurd h (by omega)⟩
  case round =>
    obtain ⟨k, hk, rfl, rfl, HN⟩ := hrel
    by_cases hlt : k < s.size
    · have HM : Hid (okB m (s[k]'hlt) = true → ∀ j (hj : j < s.size), j < k + 1 → okB m s[j] = true) := fun he j hj h => by
        by_cases e : j = k
        · subst e; exact he
        · exact HN.out j hj (by omega)
      cases hsp : special (s[k]'hlt)
      · obtain ⟨m33, m36, m38, m39, m40, m41, m42, m43, m44, m59, m61, m58, m64, m91, m93, m37⟩ := special_not hsp
        have n33 : ((s[k].toNat : Int) == 33) = false := by simp; omega
        have n36 : ((s[k].toNat : Int) == 36) = false := by simp; omega
        have n38 : ((s[k].toNat : Int) == 38) = false := by simp; omega
        have n39 : ((s[k].toNat : Int) == 39) = false := by simp; omega
        have n40 : ((s[k].toNat : Int) == 40) = false := by simp; omega
        have n41 : ((s[k].toNat : Int) == 41) = false := by simp; omega
        have n42 : ((s[k].toNat : Int) == 42) = false := by simp; omega
        have n43 : ((s[k].toNat : Int) == 43) = false := by simp; omega
        have n44 : ((s[k].toNat : Int) == 44) = false := by simp; omega
        have n59 : ((s[k].toNat : Int) == 59) = false := by simp; omega
        have n61 : ((s[k].toNat : Int) == 61) = false := by simp; omega
        have n58 : ((s[k].toNat : Int) == 58) = false := by simp; omega
        have n64 : ((s[k].toNat : Int) == 64) = false := by simp; omega
        have n91 : ((s[k].toNat : Int) == 91) = false := by simp; omega
        have n93 : ((s[k].toNat : Int) == 93) = false := by simp; omega
        have n37 : ((s[k].toNat : Int) == 37) = false := by simp; omega
        clear m33 m36 m38 m39 m40 m41 m42 m43 m44 m59 m61 m58 m64 m91 m93 m37
        obtain ⟨b, hb⟩ : ∃ b, esc m (s[k]'hlt) = b := ⟨_, rfl⟩
        have HC : Hid (Calls Tryd.prog 38 #[.int .u8 ((s[k]'hlt).toNat : Int), .int .u8 m] w fun e w' => e = .returned (.bool b) ∧ w = w') := by
          rw [← hb]; exact should_any _ m w HT.out
        have HB : Hid (okB m (s[k]'hlt) = !b) := by rw [okB, hsp, hb]; exact Lib.hid rfl
        clear hb hsp
        cases b
        · go_wp2_with (go_at_call 38; refine (HC.out).mono ?_; rintro e w' ⟨rfl, rfl⟩)
          go_round
          case rel => exact ⟨k + 1, by omega, by go_num, rfl, HM.out HB.out⟩
          case measure => simp [intOf]; omega
        · have HF := Lib.hid (valid_no m s k hlt HB.out)
          go_wp2_with (go_at_call 38; refine (HC.out).mono ?_; rintro e w' ⟨rfl, rfl⟩)
          go_ret
          rw [HF.out]
          exact ⟨rfl, rfl⟩
      · have HB : Hid (okB m (s[k]'hlt) = true) := by rw [okB, hsp]; exact Lib.hid rfl
        have HS := Lib.hid (special_cases hsp)
        clear hsp
        rcases HS.out with h | h | h | h | h | h | h | h | h | h | h | h | h | h | h | h
        all_goals
          clear HS
          go_wp2_with fail
          go_round
          case rel => exact ⟨k + 1, by omega, by go_num, rfl, HM.out HB.out⟩
          case measure => simp [intOf]; omega
    · have HF := Lib.hid (valid_yes m s (fun j hj => HN.out j hj (by omega)))
      go_wp2_with fail
      go_ret
      rw [HF.out]
      exact ⟨rfl, rfl⟩
end Go.Proofs.YtkakkcmpincggaaDoor
