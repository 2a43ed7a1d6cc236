/- What validOptionalPort returns, for every string that begins with a colon. -/
import Derived.Test.YtpjponoafebboaaProg
import Derived.Test.YtpjponoafebboaaHostPlain
import Derived.WalkKit
import Derived.WalkSpells
import Derived.Lib.Strings
import Derived.Laws.RangeAny
import Derived.Lib.Hide
import Derived.Outline
namespace Go.Proofs.Ytpjponoafebboaa
open Go.RowKit

theorem byte_lt (s : ByteArray) (k : Nat) (h : k < s.size) : k < s.data.toList.length := by simpa using h
theorem byte_list (s : ByteArray) (k : Nat) (h : k < s.size) : s.data.toList[k]'(byte_lt s k h) = s[k] := by simp; rfl

theorem isDig_iff (c : UInt8) : plain.isDig c = true ↔ 48 ≤ c.toNat ∧ c.toNat ≤ 57 := by simp [plain.isDig]

theorem digs_of (t : ByteArray) (h : ∀ j (hj : j < t.size), plain.isDig t[j] = true) : plain.digs t.data.toList = true := by
  rw [plain.digs, List.all_eq_true]
  intro c hc
  obtain ⟨j, hj, rfl⟩ := List.getElem_of_mem hc
  have hj' : j < t.size := by simpa using hj
  rw [byte_list t j hj']
  exact h j hj'
theorem not_digs_of (t : ByteArray) (j : Nat) (hj : j < t.size) (h : ¬ (48 ≤ t[j].toNat ∧ t[j].toNat ≤ 57)) : plain.digs t.data.toList = false := by
  rw [plain.digs, List.all_eq_false]
  exact ⟨t.data.toList[j]'(byte_lt t j hj), List.getElem_mem _, by rw [byte_list t j hj, isDig_iff]; exact h⟩

theorem nonempty_of_size {s : ByteArray} (h : 0 < s.size) : s.toList.isEmpty = false := by
  rw [Lib.toList_data, List.isEmpty_eq_false_iff]
  intro e
  have h1 : s.data.toList.length = 0 := by rw [e]; rfl
  rw [Array.length_toList] at h1
  have h2 : s.size = s.data.size := rfl
  omega

theorem World.iter_below (w : World) (s : ByteArray) (pos : Nat) : Below w.heap.size w (w.iter s pos) := (Below.refl _ _).alloc (Nat.le_refl _) _

set_option maxHeartbeats 400000 in
theorem validPort_any (s t : ByteArray) (w : World) (hs : s.size < 4611686018427387904) (h0 : 0 < s.size) (hc : s[0].toNat = 58) (ht : t = s.extract 1 s.size) :
    Calls Try.prog 39 #[.string s] w fun e w' => e = .returned (.bool (plain.digs t.data.toList)) ∧ Below w.heap.size w w' := by
  have hne : s.toList.isEmpty = false := nonempty_of_size h0
  have hc1 : ((s[0].toNat : Int) != 58) = false := by rw [hc]; rfl
  have HT := Lib.hid ht
  clear ht
  go_enter Try.func39, Try.ntmps39
  go_wp2
  rw [← HT.out]
  clear HT
  go_loopw [2] (fun r w' => ∃ pos : Nat, w' = w.iter t pos ∧ r = .bool false ∧ pos ≤ t.size ∧ Hid (∀ j (hj : j < t.size), j < pos → plain.isDig t[j] = true)) (fun _ w' => t.size - w'.iterPos w.heap.size)
  case atStart => exact ⟨0, rfl, rfl, Nat.zero_le _, fun j _ h => absurd h (by omega)⟩
  case round =>
    obtain ⟨pos, rfl, rfl, hp, HD⟩ := hrel
    by_cases hlt : pos < t.size
    · by_cases ha : (t[pos]'hlt).toNat < 128
      · have hnx : ∀ ty, (Instr.next (.pointer (some ⟨w.heap.size, 0, none⟩)) true ty).run Try.prog (w.iter t pos) = _ := fun ty => run_next_ascii w t pos ty hlt ha
        by_cases h48 : (t[pos]'hlt).toNat < 48
        · have HF := Lib.hid (not_digs_of t pos hlt (by omega))
          go_wp2
          go_ret
          rw [HF.out]
          exact ⟨rfl, (World.iter_below w t _)⟩
        · by_cases h57 : 57 < (t[pos]'hlt).toNat
          · have HF := Lib.hid (not_digs_of t pos hlt (by omega))
            go_wp2
            go_ret
            rw [HF.out]
            exact ⟨rfl, (World.iter_below w t _)⟩
          · have HN : Hid (∀ j (hj : j < t.size), j < pos + 1 → plain.isDig t[j] = true) := fun j hj h => by
              by_cases e : j = pos
              · subst e; rw [isDig_iff]; omega
              · exact HD.out j hj (by omega)
            go_wp2
            go_roundw
            case rel => exact ⟨pos + 1, rfl, rfl, by omega, HN⟩
            case measure => simp; omega
      · have hh := decode_high t pos hlt (by omega)
        have hnx : ∀ ty, (Instr.next (.pointer (some ⟨w.heap.size, 0, none⟩)) true ty).run Try.prog (w.iter t pos) = _ := fun ty => run_next_any w t pos ty hlt
        have HF := Lib.hid (not_digs_of t pos hlt (by omega))
        generalize hrn : (Utf8.decode t pos).1 = rn at *
        generalize hwd : (Utf8.decode t pos).2 = wd at *
        clear hrn hwd
        go_wp2
        go_ret
        rw [HF.out]
        exact ⟨rfl, (World.iter_below w t _)⟩
    · have hnx : ∀ ty, (Instr.next (.pointer (some ⟨w.heap.size, 0, none⟩)) true ty).run Try.prog (w.iter t pos) = _ := fun ty => run_next_end w t pos ty hlt
      have HF := Lib.hid (digs_of t (fun j hj => HD.out j hj (by omega)))
      go_wp2
      go_ret
      rw [HF.out]
      exact ⟨rfl, (World.iter_below w t _)⟩
end Go.Proofs.Ytpjponoafebboaa
