/- What spec.value, unreserved, isTriple, IsOf and encode return, for every string. -/
import Derived.Test.YtkakkcmpincggaaDoorStr
import Derived.Test.YtkakkcmpincggaaDoorHas
import Derived.Test.YtkakkcmpincggaaDoorEscPlain
import Derived.Deep.QuietTactic
import Derived.BigQuiet
namespace Go.Proofs.YtkakkcmpincggaaDoor
open Go.RowKit

theorem value_any (c : UInt8) (w : World) :
    Calls Tryd.prog 26 #[.int .u8 (c.toNat : Int)] w fun e w' => e = .returned (.int .i64 (plain.value c : Nat)) ∧ w = w' := by
  have hl := c.toNat_lt
  obtain ⟨n, hn⟩ : ∃ n, c.toNat = n := ⟨_, rfl⟩
  have HV : Hid (plain.value c = if 48 ≤ n ∧ n ≤ 57 then n - 48 else if 65 ≤ n ∧ n ≤ 70 then n - 65 + 10 else if 97 ≤ n ∧ n ≤ 102 then n - 97 + 10 else 16) := by rw [← hn]; exact Lib.hid rfl
  rw [hn] at hl ⊢
  clear hn
  by_cases h1 : 48 ≤ n ∧ n ≤ 57
  · have HW : Hid (plain.value c = n - 48) := by rw [HV.out, if_pos h1]; exact Lib.hid rfl
    obtain ⟨a, b⟩ := h1
    clear HV
    go_enter Tryd.func26, Tryd.ntmps26
    go_wp2_with fail
    go_ret
    rw [HW.out]
    exact ⟨by go_num, rfl⟩
  · by_cases h2 : 65 ≤ n ∧ n ≤ 70
    · have HW : Hid (plain.value c = n - 65 + 10) := by rw [HV.out, if_neg h1, if_pos h2]; exact Lib.hid rfl
      obtain ⟨a, b⟩ := h2
      have h1' : 57 < n := by omega
      clear HV h1
      go_enter Tryd.func26, Tryd.ntmps26
      go_wp2_with fail
      go_ret
      rw [HW.out]
      exact ⟨by go_num, rfl⟩
    · by_cases h3 : 97 ≤ n ∧ n ≤ 102
      · have HW : Hid (plain.value c = n - 97 + 10) := by rw [HV.out, if_neg h1, if_neg h2, if_pos h3]; exact Lib.hid rfl
        obtain ⟨a, b⟩ := h3
        have h1' : 57 < n := by omega
        have h2' : 70 < n := by omega
        clear HV h1 h2
        go_enter Tryd.func26, Tryd.ntmps26
        go_wp2_with fail
        go_ret
        rw [HW.out]
        exact ⟨by go_num, rfl⟩
      · have HW : Hid (plain.value c = 16) := by rw [HV.out, if_neg h1, if_neg h2, if_neg h3]; exact Lib.hid rfl
        clear HV
        have cases5 : n < 48 ∨ (57 < n ∧ n < 65) ∨ (70 < n ∧ n < 97) ∨ 102 < n := by omega
        clear h1 h2 h3
        rcases cases5 with h | ⟨h, h'⟩ | ⟨h, h'⟩ | h
        all_goals
          go_enter Tryd.func26, Tryd.ntmps26
          go_wp2_with fail
          go_ret
          rw [HW.out]
          exact ⟨rfl, rfl⟩

/-- the unreserved bytes -/
def unres (c : UInt8) : Bool := (decide (97 ≤ c.toNat) && decide (c.toNat ≤ 122)) || (decide (65 ≤ c.toNat) && decide (c.toNat ≤ 90)) || (decide (48 ≤ c.toNat) && decide (c.toNat ≤ 57)) || hasL [45, 46, 95, 126] c

theorem unres_any (c : UInt8) (w : World) :
    Calls Tryd.prog 33 #[.int .u8 (c.toNat : Int)] w fun e w' => e = .returned (.bool (unres c)) ∧ w = w' := by
  have hl := c.toNat_lt
  have CH := Lib.hid (has_any ⟨#[45, 46, 95, 126]⟩ c w (by decide))
  obtain ⟨b, hb⟩ : ∃ b, hasL [45, 46, 95, 126] c = b := ⟨_, rfl⟩
  rw [show hasL (⟨#[45, 46, 95, 126]⟩ : ByteArray).data.toList c = b from hb] at CH
  obtain ⟨n, hn⟩ : ∃ n, c.toNat = n := ⟨_, rfl⟩
  have HV : Hid (unres c = ((decide (97 ≤ n) && decide (n ≤ 122)) || (decide (65 ≤ n) && decide (n ≤ 90)) || (decide (48 ≤ n) && decide (n ≤ 57)) || b)) := by rw [unres, hb, hn]; exact Lib.hid rfl
  rw [hn] at hl CH ⊢
  clear hn hb
  have cases7 : n < 48 ∨ (48 ≤ n ∧ n ≤ 57) ∨ (57 < n ∧ n < 65) ∨ (65 ≤ n ∧ n ≤ 90) ∨ (90 < n ∧ n < 97) ∨ (97 ≤ n ∧ n ≤ 122) ∨ 122 < n := by omega
  rcases cases7 with h | ⟨h, h'⟩ | ⟨h, h'⟩ | ⟨h, h'⟩ | ⟨h, h'⟩ | ⟨h, h'⟩ | h
  · have HW : Hid (unres c = b) := by
      rw [HV.out, show decide (97 ≤ n) = false from decide_eq_false (by omega), show decide (65 ≤ n) = false from decide_eq_false (by omega), show decide (48 ≤ n) = false from decide_eq_false (by omega)]; exact Lib.hid rfl
    clear HV
    go_enter Tryd.func33, Tryd.ntmps33
    go_wp2_with fail
    refine (CH.out).mono ?_
    rintro e w' ⟨rfl, rfl⟩
    go_wp2_with fail
    go_ret
    rw [HW.out]
    exact ⟨rfl, rfl⟩
  · have HW : Hid (unres c = true) := by
      rw [HV.out, show decide (48 ≤ n) = true from decide_eq_true (by omega), show decide (n ≤ 57) = true from decide_eq_true (by omega)]
      exact Lib.hid (by simp)
    clear HV
    go_enter Tryd.func33, Tryd.ntmps33
    go_wp2_with fail
    go_ret
    rw [HW.out]
    exact ⟨rfl, rfl⟩
  · have HW : Hid (unres c = b) := by
      rw [HV.out, show decide (97 ≤ n) = false from decide_eq_false (by omega), show decide (65 ≤ n) = false from decide_eq_false (by omega), show decide (n ≤ 57) = false from decide_eq_false (by omega)]
      exact Lib.hid (by simp)
    clear HV
    have d57 : decide ((n : Int) ≤ 57) = false := decide_eq_false (by omega)
    go_enter Tryd.func33, Tryd.ntmps33
    go_wp2_with fail
    refine (CH.out).mono ?_
    rintro e w' ⟨rfl, rfl⟩
    go_wp2_with fail
    go_ret
    rw [HW.out]
    exact ⟨rfl, rfl⟩
  · have HW : Hid (unres c = true) := by
      rw [HV.out, show decide (65 ≤ n) = true from decide_eq_true (by omega), show decide (n ≤ 90) = true from decide_eq_true (by omega)]
      exact Lib.hid (by simp)
    clear HV
    go_enter Tryd.func33, Tryd.ntmps33
    go_wp2_with fail
    go_ret
    rw [HW.out]
    exact ⟨rfl, rfl⟩
  · have HW : Hid (unres c = b) := by
      rw [HV.out, show decide (97 ≤ n) = false from decide_eq_false (by omega), show decide (n ≤ 90) = false from decide_eq_false (by omega), show decide (n ≤ 57) = false from decide_eq_false (by omega)]
      exact Lib.hid (by simp)
    clear HV
    have d57 : decide ((n : Int) ≤ 57) = false := decide_eq_false (by omega)
    have d90 : decide ((n : Int) ≤ 90) = false := decide_eq_false (by omega)
    go_enter Tryd.func33, Tryd.ntmps33
    go_wp2_with fail
    refine (CH.out).mono ?_
    rintro e w' ⟨rfl, rfl⟩
    go_wp2_with fail
    go_ret
    rw [HW.out]
    exact ⟨rfl, rfl⟩
  · have HW : Hid (unres c = true) := by
      rw [HV.out, show decide (97 ≤ n) = true from decide_eq_true (by omega), show decide (n ≤ 122) = true from decide_eq_true (by omega)]
      exact Lib.hid (by simp)
    clear HV
    go_enter Tryd.func33, Tryd.ntmps33
    go_wp2_with fail
    go_ret
    rw [HW.out]
    exact ⟨rfl, rfl⟩
  · have HW : Hid (unres c = b) := by
      rw [HV.out, show decide (n ≤ 122) = false from decide_eq_false (by omega), show decide (n ≤ 90) = false from decide_eq_false (by omega), show decide (n ≤ 57) = false from decide_eq_false (by omega)]
      exact Lib.hid (by simp)
    clear HV
    have d57 : decide ((n : Int) ≤ 57) = false := decide_eq_false (by omega)
    have d90 : decide ((n : Int) ≤ 90) = false := decide_eq_false (by omega)
    have d122 : decide ((n : Int) ≤ 122) = false := decide_eq_false (by omega)
    go_enter Tryd.func33, Tryd.ntmps33
    go_wp2_with fail
    refine (CH.out).mono ?_
    rintro e w' ⟨rfl, rfl⟩
    go_wp2_with fail
    go_ret
    rw [HW.out]
    exact ⟨rfl, rfl⟩

/-- a triple at a place -/
def tripleAt (l : List UInt8) (i : Nat) : Prop := ∃ h : i + 2 < l.length, l[i]'(by omega) = 37 ∧ plain.isHex (l[i + 1]'(by omega)) = true ∧ plain.isHex (l[i + 2]'h) = true

theorem sp_byte (s : ByteArray) (k : Nat) (h : k < s.size) (hl : k < s.data.toList.length) : s.data.toList[k]'hl = s[k]'h := by simp; rfl
theorem sp_lt (s : ByteArray) (k : Nat) (h : k < s.size) : k < s.data.toList.length := by simpa using h

set_option maxHeartbeats 1000000 in
theorem isTriple_any (s : ByteArray) (k : Nat) (w : World) (hs : s.size < 4611686018427387904) (hk : k < s.size) (b : Bool) (hb : b = true ↔ tripleAt s.data.toList k) :
    Calls Tryd.prog 25 #[.string s, .int .i64 (k : Int)] w fun e w' => e = .returned (.bool b) ∧ w = w' := by
  cases h37 : (((s[k]'hk).toNat : Int) == 37)
  · have hf : b = false := by
      cases b
      · rfl
      · obtain ⟨_, h1, _⟩ := hb.1 rfl
        rw [sp_byte s k hk] at h1
        rw [h1] at h37
        exact absurd h37 (by decide)
    subst hf
    clear hb
    go_enter Tryd.func25, Tryd.ntmps25
    go_wp2_with fail
    go_ret
    exact ⟨rfl, rfl⟩
  · have he : s.data.toList[k]'(sp_lt s k hk) = 37 := by
      rw [sp_byte s k hk]; exact UInt8.toNat.inj (by have := beq_iff_eq.1 h37; show _ = 37; omega)
    by_cases h2 : k + 2 < s.size
    · have hk1 : k + 1 < s.size := by omega
      have C1 := Lib.hid (value_any (s[k + 1]'hk1) w)
      have C2 := Lib.hid (value_any (s[k + 2]'h2) w)
      have hiff : b = true ↔ (plain.value (s[k + 1]'hk1) < 16 ∧ plain.value (s[k + 2]'h2) < 16) := by
        rw [hb]
        constructor
        · rintro ⟨h, _, a, c⟩
          rw [sp_byte s (k + 1) hk1] at a
          rw [sp_byte s (k + 2) h2] at c
          exact ⟨of_decide_eq_true a, of_decide_eq_true c⟩
        · rintro ⟨a, c⟩
          refine ⟨by rw [size_data]; exact h2, he, ?_, ?_⟩
          · rw [sp_byte s (k + 1) hk1]; exact decide_eq_true a
          · rw [sp_byte s (k + 2) h2]; exact decide_eq_true c
      clear hb he
      obtain ⟨x, hx⟩ : ∃ x, plain.value (s[k + 1]'hk1) = x := ⟨_, rfl⟩
      obtain ⟨y, hy⟩ : ∃ y, plain.value (s[k + 2]'h2) = y := ⟨_, rfl⟩
      rw [hx] at C1 hiff
      rw [hy] at C2 hiff
      clear hx hy
      by_cases hx : x < 16
      · by_cases hy : y < 16
        · have hbt : b = true := hiff.2 ⟨hx, hy⟩
          subst hbt
          clear hiff
          have dy : decide ((y : Int) < 16) = true := decide_eq_true (by omega)
          go_enter Tryd.func25, Tryd.ntmps25
          go_wp2_with fail
          refine (C1.out).mono ?_
          rintro e w' ⟨rfl, rfl⟩
          go_wp2_with fail
          refine (C2.out).mono ?_
          rintro e w' ⟨rfl, rfl⟩
          go_wp2_with fail
          go_ret
          exact ⟨rfl, rfl⟩
        · have hbt : b = false := by
            cases b
            · rfl
            · exact absurd (hiff.1 rfl).2 hy
          subst hbt
          clear hiff
          have dy : decide ((y : Int) < 16) = false := decide_eq_false (by omega)
          go_enter Tryd.func25, Tryd.ntmps25
          go_wp2_with fail
          refine (C1.out).mono ?_
          rintro e w' ⟨rfl, rfl⟩
          go_wp2_with fail
          refine (C2.out).mono ?_
          rintro e w' ⟨rfl, rfl⟩
          go_wp2_with fail
          go_ret
          exact ⟨rfl, rfl⟩
      · have hbt : b = false := by
          cases b
          · rfl
          · exact absurd (hiff.1 rfl).1 hx
        subst hbt
        clear hiff
        go_enter Tryd.func25, Tryd.ntmps25
        go_wp2_with fail
        refine (C1.out).mono ?_
        rintro e w' ⟨rfl, rfl⟩
        go_wp2_with fail
        go_ret
        exact ⟨rfl, rfl⟩
    · have hf : b = false := by
        cases b
        · rfl
        · obtain ⟨h, _⟩ := hb.1 rfl
          rw [size_data] at h
          exact absurd h h2
      subst hf
      clear hb he
      go_enter Tryd.func25, Tryd.ntmps25
      go_wp2_with fail
      go_ret
      exact ⟨rfl, rfl⟩
end Go.Proofs.YtkakkcmpincggaaDoor
