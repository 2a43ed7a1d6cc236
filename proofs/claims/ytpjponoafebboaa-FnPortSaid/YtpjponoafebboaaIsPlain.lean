/- That spec.IsPlain returns a bool, for every host. -/
import Derived.Test.YtpjponoafebboaaHostName
namespace Go.Proofs.Ytpjponoafebboaa
open Go.RowKit

def SomeBool (w : World) (e : Ending) (w' : World) : Prop := ∃ b : Bool, e = .returned (.bool b) ∧ w = w'

theorem has_open (s : ByteArray) (c : Int) (w : World) (h0 : 0 ≤ c) (h1 : c ≤ 255) (hs : s.size < 4611686018427387904) :
    Calls Try.prog 23 #[.string s, .int .u8 c] w (SomeBool w) := by
  obtain ⟨n, rfl⟩ := Int.eq_ofNat_of_zero_le h0
  have h := has_any s (UInt8.ofNat n) w hs
  rw [UInt8.toNat_ofNat_of_lt' (by show n < 256; omega)] at h
  exact h.mono fun e w' ⟨h1, h2⟩ => ⟨_, h1, h2⟩

theorem size_mid (s : ByteArray) (a b : Nat) (h : s.size < 4611686018427387904) : (s.extract a b).size < 4611686018427387904 := by
  simp only [ByteArray.size_extract]; omega

set_option maxHeartbeats 1600000 in
theorem isPlain_whole (s : ByteArray) (w : World) (hs : s.size < 4611686018427387904) (hc : plain.colonI s.data.toList = -1) :
    Calls Try.prog 18 #[.string s] w (SomeBool w) := by
  have HC := Lib.hid (colon_any s w hs)
  rw [hc] at HC
  clear hc
  by_cases hz : 2 < s.size
  · have h1 : s.size - 1 < s.size := by omega
    obtain ⟨c0, e0⟩ : ∃ c0, s[0].toNat = c0 := ⟨_, rfl⟩
    obtain ⟨c1, e1⟩ : ∃ c1, (s[s.size - 1]'h1).toNat = c1 := ⟨_, rfl⟩
    have hne : s.toList.isEmpty = false := nonempty_of_size (by omega)
    by_cases g0 : c0 = 91
    · subst g0
      by_cases g1 : c1 = 93
      · subst g1
        go_enter Try.func18, Try.ntmps18
        go_wp2_with (first | (go_at_call 31; refine (HC.out).mono ?_; rintro e w' ⟨rfl, rfl⟩) | (go_at_call 23; refine (has_open _ _ _ (by decide) (by decide) (size_mid _ _ _ hs)).mono ?_; rintro e w' ⟨b, rfl, rfl⟩; cases b))
        all_goals (go_ret; exact ⟨_, rfl, rfl⟩)
      · have g1' : ((c1 : Int) == 93) = false := by simp; omega
        clear g1
        go_enter Try.func18, Try.ntmps18
        go_wp2_with (first | (go_at_call 31; refine (HC.out).mono ?_; rintro e w' ⟨rfl, rfl⟩) | (go_at_call 23; refine (has_open _ _ _ (by decide) (by decide) hs).mono ?_; rintro e w' ⟨b, rfl, rfl⟩; cases b))
        all_goals (go_ret; exact ⟨_, rfl, rfl⟩)
    · have g0' : ((c0 : Int) == 91) = false := by simp; omega
      clear g0
      go_enter Try.func18, Try.ntmps18
      go_wp2_with (first | (go_at_call 31; refine (HC.out).mono ?_; rintro e w' ⟨rfl, rfl⟩) | (go_at_call 23; refine (has_open _ _ _ (by decide) (by decide) hs).mono ?_; rintro e w' ⟨b, rfl, rfl⟩; cases b))
      all_goals (go_ret; exact ⟨_, rfl, rfl⟩)
  · cases hne : s.toList.isEmpty
    all_goals
      go_enter Try.func18, Try.ntmps18
      go_wp2_with (first | (go_at_call 31; refine (HC.out).mono ?_; rintro e w' ⟨rfl, rfl⟩) | (go_at_call 23; refine (has_open _ _ _ (by decide) (by decide) hs).mono ?_; rintro e w' ⟨b, rfl, rfl⟩; cases b))
      all_goals (go_ret; exact ⟨_, rfl, rfl⟩)
set_option maxHeartbeats 1600000 in
theorem isPlain_last (s : ByteArray) (i : Nat) (w : World) (hs : s.size < 4611686018427387904) (_hi : i < s.size) (_hl : s.size ≤ i + 1) (hc : plain.colonI s.data.toList = i) :
    Calls Try.prog 18 #[.string s] w (SomeBool w) := by
  have HC := Lib.hid (colon_any s w hs)
  rw [hc] at HC
  clear hc
  by_cases hz : 2 < s.size
  · have h1 : s.size - 1 < s.size := by omega
    obtain ⟨c0, e0⟩ : ∃ c0, s[0].toNat = c0 := ⟨_, rfl⟩
    obtain ⟨c1, e1⟩ : ∃ c1, (s[s.size - 1]'h1).toNat = c1 := ⟨_, rfl⟩
    have hne : s.toList.isEmpty = false := nonempty_of_size (by omega)
    by_cases g0 : c0 = 91
    · subst g0
      by_cases g1 : c1 = 93
      · subst g1
        go_enter Try.func18, Try.ntmps18
        go_wp2_with (first | (go_at_call 31; refine (HC.out).mono ?_; rintro e w' ⟨rfl, rfl⟩) | (go_at_call 23; refine (has_open _ _ _ (by decide) (by decide) (size_mid _ _ _ hs)).mono ?_; rintro e w' ⟨b, rfl, rfl⟩; cases b))
        all_goals (go_ret; exact ⟨_, rfl, rfl⟩)
      · have g1' : ((c1 : Int) == 93) = false := by simp; omega
        clear g1
        go_enter Try.func18, Try.ntmps18
        go_wp2_with (first | (go_at_call 31; refine (HC.out).mono ?_; rintro e w' ⟨rfl, rfl⟩) | (go_at_call 23; refine (has_open _ _ _ (by decide) (by decide) hs).mono ?_; rintro e w' ⟨b, rfl, rfl⟩; cases b))
        all_goals (go_ret; exact ⟨_, rfl, rfl⟩)
    · have g0' : ((c0 : Int) == 91) = false := by simp; omega
      clear g0
      go_enter Try.func18, Try.ntmps18
      go_wp2_with (first | (go_at_call 31; refine (HC.out).mono ?_; rintro e w' ⟨rfl, rfl⟩) | (go_at_call 23; refine (has_open _ _ _ (by decide) (by decide) hs).mono ?_; rintro e w' ⟨b, rfl, rfl⟩; cases b))
      all_goals (go_ret; exact ⟨_, rfl, rfl⟩)
  · cases hne : s.toList.isEmpty
    all_goals
      go_enter Try.func18, Try.ntmps18
      go_wp2_with (first | (go_at_call 31; refine (HC.out).mono ?_; rintro e w' ⟨rfl, rfl⟩) | (go_at_call 23; refine (has_open _ _ _ (by decide) (by decide) hs).mono ?_; rintro e w' ⟨b, rfl, rfl⟩; cases b))
      all_goals (go_ret; exact ⟨_, rfl, rfl⟩)
set_option maxHeartbeats 1600000 in
theorem isPlain_cut (s : ByteArray) (i : Nat) (w : World) (hs : s.size < 4611686018427387904) (_hi : i < s.size) (_hl : i + 1 < s.size) (hc : plain.colonI s.data.toList = i) :
    Calls Try.prog 18 #[.string s] w (SomeBool w) := by
  have HC := Lib.hid (colon_any s w hs)
  rw [hc] at HC
  clear hc
  have hx : (s.extract 0 i).size = i := by simp only [ByteArray.size_extract]; omega
  have hm : min i s.size = i := Nat.min_eq_left (by omega)
  by_cases hz : 2 < i
  · have h0 : 0 < (s.extract 0 i).size := by omega
    have h1 : i - 1 < (s.extract 0 i).size := by omega
    obtain ⟨c0, e0⟩ : ∃ c0, (s.extract 0 i)[0].toNat = c0 := ⟨_, rfl⟩
    obtain ⟨c1, e1⟩ : ∃ c1, ((s.extract 0 i)[i - 1]'h1).toNat = c1 := ⟨_, rfl⟩
    have hne : (s.extract 0 i).toList.isEmpty = false := nonempty_of_size (by omega)
    by_cases g0 : c0 = 91
    · subst g0
      by_cases g1 : c1 = 93
      · subst g1
        go_enter Try.func18, Try.ntmps18
        go_wp2_with (first | (go_at_call 31; refine (HC.out).mono ?_; rintro e w' ⟨rfl, rfl⟩) | (go_at_call 23; refine (has_open _ _ _ (by decide) (by decide) (size_mid _ _ _ (size_mid _ _ _ hs))).mono ?_; rintro e w' ⟨b, rfl, rfl⟩; cases b))
        all_goals (go_ret; exact ⟨_, rfl, rfl⟩)
      · have g1' : ((c1 : Int) == 93) = false := by simp; omega
        clear g1
        go_enter Try.func18, Try.ntmps18
        go_wp2_with (first | (go_at_call 31; refine (HC.out).mono ?_; rintro e w' ⟨rfl, rfl⟩) | (go_at_call 23; refine (has_open _ _ _ (by decide) (by decide) (size_mid _ _ _ hs)).mono ?_; rintro e w' ⟨b, rfl, rfl⟩; cases b))
        all_goals (go_ret; exact ⟨_, rfl, rfl⟩)
    · have g0' : ((c0 : Int) == 91) = false := by simp; omega
      clear g0
      go_enter Try.func18, Try.ntmps18
      go_wp2_with (first | (go_at_call 31; refine (HC.out).mono ?_; rintro e w' ⟨rfl, rfl⟩) | (go_at_call 23; refine (has_open _ _ _ (by decide) (by decide) (size_mid _ _ _ hs)).mono ?_; rintro e w' ⟨b, rfl, rfl⟩; cases b))
      all_goals (go_ret; exact ⟨_, rfl, rfl⟩)
  · cases hne : (s.extract 0 i).toList.isEmpty
    all_goals
      go_enter Try.func18, Try.ntmps18
      go_wp2_with (first | (go_at_call 31; refine (HC.out).mono ?_; rintro e w' ⟨rfl, rfl⟩) | (go_at_call 23; refine (has_open _ _ _ (by decide) (by decide) (size_mid _ _ _ hs)).mono ?_; rintro e w' ⟨b, rfl, rfl⟩; cases b))
      all_goals (go_ret; exact ⟨_, rfl, rfl⟩)

theorem isPlain_any (s : ByteArray) (w : World) (hs : s.size < 4611686018427387904) :
    Calls Try.prog 18 #[.string s] w (SomeBool w) := by
  rcases host_cases s with ⟨h0, _⟩ | ⟨i, hi, h0, _⟩
  · exact isPlain_whole s w hs h0
  · by_cases hl : i + 1 < s.size
    · exact isPlain_cut s i w hs hi hl h0
    · exact isPlain_last s i w hs hi (by omega) h0
end Go.Proofs.Ytpjponoafebboaa
