/- What spec.Hostname returns, and that spec.IsPlain returns, for every host. -/
import Derived.Test.YtpjponoafebboaaHostSpec
import Derived.Outline
namespace Go.Proofs.Ytpjponoafebboaa
open Go.RowKit

/-- the tests of spec.Hostname on what is left of a host -/
theorem strip_short (h : ByteArray) (hz : h.size < 2) : stripB h = h := by
  by_cases hp : Lib.hasPrefix h.data.toList [91] = true ∧ Lib.hasSuffix h.data.toList [93] = true
  · have := two_of _ hp.1 hp.2
    rw [size_data] at this
    omega
  · rw [stripB_of h _ _ rfl rfl, if_neg (by simpa using hp)]
theorem prefix_iff (h : ByteArray) (h0 : 0 < h.size) : Lib.hasPrefix h.data.toList [91] = (h[0].toNat == 91) := by
  have hl := byte_lt h 0 h0
  have e := byte_list h 0 h0
  match hd : h.data.toList, hl with
  | c :: r, _ =>
    have : h[0] = c := by rw [← e]; simp only [hd]; rfl
    rw [this]
    simp only [Lib.hasPrefix, List.isPrefixOf_cons_cons, List.isPrefixOf_nil_left, Bool.and_true]
    rw [Bool.eq_iff_iff, beq_iff_eq, beq_iff_eq]
    constructor
    · intro h; rw [← h]; rfl
    · intro h; exact (UInt8.toNat.inj h).symm
theorem suffix_iff (h : ByteArray) (h0 : 0 < h.size) : Lib.hasSuffix h.data.toList [93] = ((h[h.size - 1]'(by omega)).toNat == 93) := by
  have e := byte_list h (h.size - 1) (by omega)
  rw [← Lib.hasSuffix_of_drop]
  have hl : h.data.toList.length = h.size := size_data h
  have hd : h.data.toList.drop (h.data.toList.length - [(93 : UInt8)].length) = [h[h.size - 1]'(by omega)] := by
    rw [List.length_singleton, hl, List.drop_eq_getElem_cons (by omega), e, List.drop_of_length_le (by omega)]
  rw [hd]
  have : decide ([(93 : UInt8)].length ≤ h.data.toList.length) = true := by simp; have : h.size = h.data.size := rfl; omega
  rw [this, Bool.true_and, Bool.eq_iff_iff, beq_iff_eq, beq_iff_eq]
  constructor
  · intro g; injection g with g; rw [g]; rfl
  · intro g
    have : h[h.size - 1]'(by omega) = 93 := UInt8.toNat.inj g
    rw [this]

set_option maxHeartbeats 800000 in
theorem specHostname_whole (s : ByteArray) (w : World) (hs : s.size < 4611686018427387904) (hc : plain.colonI s.data.toList = -1) :
    Calls Try.prog 20 #[.string s] w fun e w' => e = .returned (.string (stripB s)) ∧ w = w' := by
  have HC := Lib.hid (colon_any s w hs)
  rw [hc] at HC
  clear hc
  by_cases hz : s.size < 2
  · have HR := Lib.hid (strip_short s hz)
    go_enter Try.func20, Try.ntmps20
    go_wp2_with (go_at_call 31; refine (HC.out).mono ?_; rintro e w' ⟨rfl, rfl⟩)
    go_ret
    rw [HR.out]
    exact ⟨rfl, rfl⟩
  · have h0 : 0 < s.size := by omega
    have h1 : s.size - 1 < s.size := by omega
    have HR := Lib.hid (stripB_of s _ _ rfl rfl)
    rw [prefix_iff s h0, suffix_iff s h0] at HR
    obtain ⟨c0, e0⟩ : ∃ c0, s[0].toNat = c0 := ⟨_, rfl⟩
    obtain ⟨c1, e1⟩ : ∃ c1, (s[s.size - 1]'h1).toNat = c1 := ⟨_, rfl⟩
    rw [e0, e1] at HR
    by_cases g0 : c0 = 91
    · subst g0
      by_cases g1 : c1 = 93
      · subst g1
        go_enter Try.func20, Try.ntmps20
        go_wp2_with (go_at_call 31; refine (HC.out).mono ?_; rintro e w' ⟨rfl, rfl⟩)
        go_ret
        rw [HR.out]
        exact ⟨rfl, rfl⟩
      · have g1' : ((c1 : Int) == 93) = false := by simp; omega
        have HR2 : Hid (stripB s = s) := by rw [HR.out, if_neg (by simp; exact g1)]; exact Lib.hid rfl
        clear HR g1
        go_enter Try.func20, Try.ntmps20
        go_wp2_with (go_at_call 31; refine (HC.out).mono ?_; rintro e w' ⟨rfl, rfl⟩)
        go_ret
        rw [HR2.out]
        exact ⟨rfl, rfl⟩
    · have g0' : ((c0 : Int) == 91) = false := by simp; omega
      have HR2 : Hid (stripB s = s) := by rw [HR.out, if_neg (by simp; exact fun h => absurd h g0)]; exact Lib.hid rfl
      clear HR g0
      go_enter Try.func20, Try.ntmps20
      go_wp2_with (go_at_call 31; refine (HC.out).mono ?_; rintro e w' ⟨rfl, rfl⟩)
      go_ret
      rw [HR2.out]
      exact ⟨rfl, rfl⟩
set_option maxHeartbeats 800000 in
theorem specHostname_cut (s : ByteArray) (i : Nat) (w : World) (hs : s.size < 4611686018427387904) (hi : i < s.size) (hc : plain.colonI s.data.toList = i) :
    Calls Try.prog 20 #[.string s] w fun e w' => e = .returned (.string (stripB (s.extract 0 i))) ∧ w = w' := by
  have HC := Lib.hid (colon_any s w hs)
  rw [hc] at HC
  clear hc
  have hx : (s.extract 0 i).size = i := by simp only [ByteArray.size_extract]; omega
  have hm : min i s.size = i := Nat.min_eq_left (by omega)
  by_cases hz : i < 2
  · have HR := Lib.hid (strip_short (s.extract 0 i) (by omega))
    go_enter Try.func20, Try.ntmps20
    go_wp2_with (go_at_call 31; refine (HC.out).mono ?_; rintro e w' ⟨rfl, rfl⟩)
    go_ret
    rw [HR.out]
    exact ⟨rfl, rfl⟩
  · have h0 : 0 < (s.extract 0 i).size := by omega
    have h1 : i - 1 < (s.extract 0 i).size := by omega
    have HR := Lib.hid (stripB_of (s.extract 0 i) _ _ rfl rfl)
    rw [prefix_iff (s.extract 0 i) h0, suffix_iff (s.extract 0 i) h0] at HR
    simp only [hx] at HR
    obtain ⟨c0, e0⟩ : ∃ c0, (s.extract 0 i)[0].toNat = c0 := ⟨_, rfl⟩
    obtain ⟨c1, e1⟩ : ∃ c1, ((s.extract 0 i)[i - 1]'h1).toNat = c1 := ⟨_, rfl⟩
    rw [e0, e1] at HR
    by_cases g0 : c0 = 91
    · subst g0
      by_cases g1 : c1 = 93
      · subst g1
        go_enter Try.func20, Try.ntmps20
        go_wp2_with (go_at_call 31; refine (HC.out).mono ?_; rintro e w' ⟨rfl, rfl⟩)
        go_ret
        rw [HR.out]
        exact ⟨rfl, rfl⟩
      · have g1' : ((c1 : Int) == 93) = false := by simp; omega
        have HR2 : Hid (stripB (s.extract 0 i) = s.extract 0 i) := by rw [HR.out, if_neg (by simp; exact g1)]; exact Lib.hid rfl
        clear HR g1
        go_enter Try.func20, Try.ntmps20
        go_wp2_with (go_at_call 31; refine (HC.out).mono ?_; rintro e w' ⟨rfl, rfl⟩)
        go_ret
        rw [HR2.out]
        exact ⟨rfl, rfl⟩
    · have g0' : ((c0 : Int) == 91) = false := by simp; omega
      have HR2 : Hid (stripB (s.extract 0 i) = s.extract 0 i) := by rw [HR.out, if_neg (by simp; exact fun h => absurd h g0)]; exact Lib.hid rfl
      clear HR g0
      go_enter Try.func20, Try.ntmps20
      go_wp2_with (go_at_call 31; refine (HC.out).mono ?_; rintro e w' ⟨rfl, rfl⟩)
      go_ret
      rw [HR2.out]
      exact ⟨rfl, rfl⟩

theorem specHostname_any (s : ByteArray) (w : World) (hs : s.size < 4611686018427387904) :
    Calls Try.prog 20 #[.string s] w fun e w' => e = .returned (.string (hostB s)) ∧ w = w' := by
  rcases host_cases s with ⟨h0, h1, _⟩ | ⟨i, hi, h0, _, _, _, h1, _⟩
  · rw [hostB, h1]; exact specHostname_whole s w hs h0
  · rw [hostB, h1]; exact specHostname_cut s i w hs hi h0
end Go.Proofs.Ytpjponoafebboaa
