/- What splitHostPort returns, for every host. -/
import Derived.Test.YtpjponoafebboaaHostPort
import Derived.Test.YtpjponoafebboaaShelf
import Derived.Deep.QuietTactic
import Derived.BigQuiet
import Derived.WalkLawsBesides
import Derived.Lib.LastIndexByte
namespace Go.Proofs.Ytpjponoafebboaa
open Go.RowKit

/-- a string of these bytes -/
def S (l : List UInt8) : ByteArray := ⟨l.toArray⟩
theorem S_data (s : ByteArray) : S s.data.toList = s := Lib.mk_data s
theorem data_S (l : List UInt8) : (S l).data.toList = l := by simp [S]
theorem S_ext {a b : ByteArray} (h : a.data.toList = b.data.toList) : a = b := by rw [← S_data a, ← S_data b, h]
theorem size_data (s : ByteArray) : s.data.toList.length = s.size := (Lib.size_eq s).symm

def stripB (h : ByteArray) : ByteArray := S (plain.strip h.data.toList)
theorem stripB_of (h : ByteArray) (bp bs : Bool) (hp : Lib.hasPrefix h.data.toList [91] = bp) (hs : Lib.hasSuffix h.data.toList [93] = bs) :
    stripB h = if bp && bs then h.extract 1 (h.size - 1) else h := by
  subst hp hs
  unfold stripB plain.strip Lib.hasPrefix Lib.hasSuffix
  split
  · rw [Lib.extract_eq, S, size_data, show h.size - 1 - 1 = h.size - 2 from rfl]
  · exact S_data h
theorem two_of (l : List UInt8) (hp : Lib.hasPrefix l [91] = true) (hs : Lib.hasSuffix l [93] = true) : 2 ≤ l.length := by
  match l with
  | [] => simp [Lib.hasPrefix] at hp
  | [x] =>
    simp [Lib.hasPrefix, Lib.hasSuffix] at hp hs
    subst hp
    exact absurd hs (by decide)
  | _ :: _ :: _ => simp

theorem last_cases (s : ByteArray) :
    (Lib.lastIndexByte s 58 = -1 ∧ 58 ∉ s.data.toList) ∨
    ∃ (i : Nat) (hi : i < s.size), Lib.lastIndexByte s 58 = i ∧ s[i].toNat = 58 ∧ s.data.toList = s.data.toList.take i ++ 58 :: s.data.toList.drop (i + 1) ∧ 58 ∉ s.data.toList.drop (i + 1) := by
  have hb : ∀ j (hj : j < s.size), ((s.data[j]!).toNat : Int) = 58 ↔ s.data.toList[j]'(byte_lt s j hj) = 58 := by
    intro j hj
    have hj' : j < s.data.size := hj
    rw [getElem!_pos s.data j hj', Array.getElem_toList]
    constructor
    · intro h; apply UInt8.toNat.inj; simp; omega
    · intro h; rw [h]; rfl
  rcases Lib.lastIndexByte_spec s 58 with ⟨h, hn⟩ | ⟨i, hi, h, hc, hn⟩
  · refine .inl ⟨h, fun hm => ?_⟩
    obtain ⟨j, hj, e⟩ := List.getElem_of_mem hm
    have hj' : j < s.size := by simpa using hj
    exact hn j hj' ((hb j hj').2 e)
  · refine .inr ⟨i, hi, h, ?_, ?_, ?_⟩
    · have := (hb i hi).1 hc
      rw [byte_list s i hi] at this
      rw [this]; rfl
    · have e := (hb i hi).1 hc
      conv => lhs; rw [← List.take_append_drop i s.data.toList]
      rw [List.drop_eq_getElem_cons (byte_lt s i hi), e]
    · intro hm
      obtain ⟨j, hj, e⟩ := List.getElem_of_mem hm
      rw [List.getElem_drop] at e
      have hj' : i + 1 + j < s.size := by simp at hj; have : s.size = s.data.size := rfl; omega
      exact hn (i + 1 + j) (by omega) hj' ((hb _ hj').2 e)

set_option maxHeartbeats 800000 in
theorem split_none (s : ByteArray) (w : World) (hs : s.size < 4611686018427387904) (hi : Lib.lastIndexByte s 58 = -1) :
    Calls Try.prog 37 #[.string s] w fun e w' => e = .returned (.tuple #[.string (stripB s), .string ⟨#[]⟩]) ∧ Below w.heap.size w w' := by
  have cL : Hid (Calls Try.prog 38 #[.string s, .int .u8 58] w fun e w' => e = .returned (.int .i64 (-1)) ∧ w = w') := by
    rw [← hi]; exact (Try.strings_LastIndexByte s 58 hs w).mono fun _ _ h => ⟨h.1, h.2.symm⟩
  clear hi
  obtain ⟨bp, hp⟩ : ∃ bp, Lib.hasPrefix s.data.toList [91] = bp := ⟨_, rfl⟩
  obtain ⟨bs, hq⟩ : ∃ bs, Lib.hasSuffix s.data.toList [93] = bs := ⟨_, rfl⟩
  have HR := Lib.hid (stripB_of s bp bs hp hq)
  have cP : Hid (∀ wx, Calls Try.prog 40 #[.string s, .string ⟨#[91]⟩] wx fun e w' => e = .returned (.bool bp) ∧ wx = w') := fun wx => by
    rw [← hp]; exact (Try.strings_HasPrefix s ⟨#[91]⟩ wx).mono fun _ _ h => ⟨h.1, h.2.symm⟩
  have cS : Hid (∀ wx, Calls Try.prog 41 #[.string s, .string ⟨#[93]⟩] wx fun e w' => e = .returned (.bool bs) ∧ wx = w') := fun wx => by
    rw [← hq]; exact (Try.strings_HasSuffix s ⟨#[93]⟩ wx (by omega)).mono fun _ _ h => ⟨h.1, h.2.symm⟩
  have h2 : bp = true → bs = true → 2 ≤ s.size := fun e1 e2 => by
    rw [← size_data]; exact two_of _ (hp.trans e1) (hq.trans e2)
  clear hp hq
  cases bp
  · go_enter Try.func37, Try.ntmps37
    go_wp2_with (first | (go_at_call 38; refine (cL.out).mono ?_; rintro e w' ⟨rfl, rfl⟩) | (go_at_call 40; refine (cP.out _).mono ?_; rintro e w' ⟨rfl, rfl⟩))
    go_ret2
    rw [HR.out]
    exact ⟨rfl, Below.refl _ _⟩
  · cases bs
    · go_enter Try.func37, Try.ntmps37
      go_wp2_with (first | (go_at_call 38; refine (cL.out).mono ?_; rintro e w' ⟨rfl, rfl⟩) | (go_at_call 40; refine (cP.out _).mono ?_; rintro e w' ⟨rfl, rfl⟩) | (go_at_call 41; refine (cS.out _).mono ?_; rintro e w' ⟨rfl, rfl⟩))
      go_ret2
      rw [HR.out]
      exact ⟨rfl, Below.refl _ _⟩
    · have h2' := h2 rfl rfl
      clear h2
      go_enter Try.func37, Try.ntmps37
      go_wp2_with (first | (go_at_call 38; refine (cL.out).mono ?_; rintro e w' ⟨rfl, rfl⟩) | (go_at_call 40; refine (cP.out _).mono ?_; rintro e w' ⟨rfl, rfl⟩) | (go_at_call 41; refine (cS.out _).mono ?_; rintro e w' ⟨rfl, rfl⟩))
      go_ret2
      rw [HR.out]
      exact ⟨rfl, Below.refl _ _⟩

theorem valid_behind (s : ByteArray) (i : Nat) (w : World) (hs : s.size < 4611686018427387904) (hlt : i < s.size) (hc : s[i].toNat = 58) :
    Calls Try.prog 39 #[.string (s.extract i s.size)] w fun e w' => e = .returned (.bool (plain.digs (s.data.toList.drop (i + 1)))) ∧ Below w.heap.size w w' := by
  have hz : (s.extract i s.size).size = s.size - i := by simp only [ByteArray.size_extract]; omega
  have h0 : 0 < (s.extract i s.size).size := by omega
  have e0 : (s.extract i s.size).data.toList = s.data.toList.drop i := by
    rw [Lib.extract_data, List.take_of_length_le (by rw [List.length_drop, size_data]; omega)]
  have hb : (s.extract i s.size)[0].toNat = 58 := by
    rw [← byte_list _ 0 h0, List.getElem_of_eq e0, List.getElem_drop]
    have := byte_list s i hlt
    simp only [Nat.add_zero]
    rw [this]; exact hc
  have h := validPort_any (s.extract i s.size) _ w (by omega) h0 hb rfl
  have e1 : ((s.extract i s.size).extract 1 (s.extract i s.size).size).data.toList = s.data.toList.drop (i + 1) := by
    rw [Lib.extract_data, e0, hz, List.drop_drop, List.take_of_length_le (by rw [List.length_drop, size_data]; omega)]
  rw [e1] at h
  exact h

set_option maxHeartbeats 800000 in
theorem split_bad (s : ByteArray) (i : Nat) (w : World) (hs : s.size < 4611686018427387904) (hlt : i < s.size) (hi : Lib.lastIndexByte s 58 = i) (hc : s[i].toNat = 58) (hd : plain.digs (s.data.toList.drop (i + 1)) = false) :
    Calls Try.prog 37 #[.string s] w fun e w' => e = .returned (.tuple #[.string (stripB s), .string ⟨#[]⟩]) ∧ Below w.heap.size w w' := by
  have cL : Hid (Calls Try.prog 38 #[.string s, .int .u8 58] w fun e w' => e = .returned (.int .i64 (i : Int)) ∧ w = w') := by
    rw [← hi]; exact (Try.strings_LastIndexByte s 58 hs w).mono fun _ _ h => ⟨h.1, h.2.symm⟩
  clear hi
  have cV : Hid (Calls Try.prog 39 #[.string (s.extract i s.size)] w fun e w' => e = .returned (.bool false) ∧ Below w.heap.size w w') := by
    rw [← hd]; exact valid_behind s i w hs hlt hc
  clear hc hd
  obtain ⟨bp, hp⟩ : ∃ bp, Lib.hasPrefix (s).data.toList [91] = bp := ⟨_, rfl⟩
  obtain ⟨bs, hq⟩ : ∃ bs, Lib.hasSuffix (s).data.toList [93] = bs := ⟨_, rfl⟩
  have HR := Lib.hid (stripB_of (s) bp bs hp hq)
  have cP : Hid (∀ wx, Calls Try.prog 40 #[.string (s), .string ⟨#[91]⟩] wx fun e w' => e = .returned (.bool bp) ∧ wx = w') := fun wx => by
    rw [← hp]; exact (Try.strings_HasPrefix (s) ⟨#[91]⟩ wx).mono fun _ _ h => ⟨h.1, h.2.symm⟩
  have cS : Hid (∀ wx, Calls Try.prog 41 #[.string (s), .string ⟨#[93]⟩] wx fun e w' => e = .returned (.bool bs) ∧ wx = w') := fun wx => by
    rw [← hq]; exact (Try.strings_HasSuffix (s) ⟨#[93]⟩ wx (by omega)).mono fun _ _ h => ⟨h.1, h.2.symm⟩
  have h2 : bp = true → bs = true → 2 ≤ s.size := fun e1 e2 => by
    have := two_of _ (hp.trans e1) (hq.trans e2)
    rw [size_data] at this
    exact this
  clear hp hq
  cases bp
  · go_enter Try.func37, Try.ntmps37
    go_wp2_with (first | (go_at_call 38; refine (cL.out).mono ?_; rintro e w' ⟨rfl, rfl⟩) | (go_at_call 39; refine (cV.out).mono ?_; rintro e w' ⟨rfl, hb⟩) | (go_at_call 40; refine (cP.out _).mono ?_; rintro e w' ⟨rfl, rfl⟩) | (go_at_call 41; refine (cS.out _).mono ?_; rintro e w' ⟨rfl, rfl⟩))
    go_ret2
    rw [HR.out]
    exact ⟨rfl, hb⟩
  · cases bs
    · go_enter Try.func37, Try.ntmps37
      go_wp2_with (first | (go_at_call 38; refine (cL.out).mono ?_; rintro e w' ⟨rfl, rfl⟩) | (go_at_call 39; refine (cV.out).mono ?_; rintro e w' ⟨rfl, hb⟩) | (go_at_call 40; refine (cP.out _).mono ?_; rintro e w' ⟨rfl, rfl⟩) | (go_at_call 41; refine (cS.out _).mono ?_; rintro e w' ⟨rfl, rfl⟩))
      go_ret2
      rw [HR.out]
      exact ⟨rfl, hb⟩
    · have h2' := h2 rfl rfl
      clear h2
      go_enter Try.func37, Try.ntmps37
      go_wp2_with (first | (go_at_call 38; refine (cL.out).mono ?_; rintro e w' ⟨rfl, rfl⟩) | (go_at_call 39; refine (cV.out).mono ?_; rintro e w' ⟨rfl, hb⟩) | (go_at_call 40; refine (cP.out _).mono ?_; rintro e w' ⟨rfl, rfl⟩) | (go_at_call 41; refine (cS.out _).mono ?_; rintro e w' ⟨rfl, rfl⟩))
      go_ret2
      rw [HR.out]
      exact ⟨rfl, hb⟩

set_option maxHeartbeats 800000 in
theorem split_good (s : ByteArray) (i : Nat) (w : World) (hs : s.size < 4611686018427387904) (hlt : i < s.size) (hi : Lib.lastIndexByte s 58 = i) (hc : s[i].toNat = 58) (hd : plain.digs (s.data.toList.drop (i + 1)) = true) :
    Calls Try.prog 37 #[.string s] w fun e w' => e = .returned (.tuple #[.string (stripB (s.extract 0 i)), .string (s.extract (i + 1) s.size)]) ∧ Below w.heap.size w w' := by
  have cL : Hid (Calls Try.prog 38 #[.string s, .int .u8 58] w fun e w' => e = .returned (.int .i64 (i : Int)) ∧ w = w') := by
    rw [← hi]; exact (Try.strings_LastIndexByte s 58 hs w).mono fun _ _ h => ⟨h.1, h.2.symm⟩
  clear hi
  have cV : Hid (Calls Try.prog 39 #[.string (s.extract i s.size)] w fun e w' => e = .returned (.bool true) ∧ Below w.heap.size w w') := by
    rw [← hd]; exact valid_behind s i w hs hlt hc
  clear hc hd
  obtain ⟨bp, hp⟩ : ∃ bp, Lib.hasPrefix (s.extract 0 i).data.toList [91] = bp := ⟨_, rfl⟩
  obtain ⟨bs, hq⟩ : ∃ bs, Lib.hasSuffix (s.extract 0 i).data.toList [93] = bs := ⟨_, rfl⟩
  have HR := Lib.hid (stripB_of (s.extract 0 i) bp bs hp hq)
  have cP : Hid (∀ wx, Calls Try.prog 40 #[.string (s.extract 0 i), .string ⟨#[91]⟩] wx fun e w' => e = .returned (.bool bp) ∧ wx = w') := fun wx => by
    rw [← hp]; exact (Try.strings_HasPrefix (s.extract 0 i) ⟨#[91]⟩ wx).mono fun _ _ h => ⟨h.1, h.2.symm⟩
  have cS : Hid (∀ wx, Calls Try.prog 41 #[.string (s.extract 0 i), .string ⟨#[93]⟩] wx fun e w' => e = .returned (.bool bs) ∧ wx = w') := fun wx => by
    rw [← hq]; exact (Try.strings_HasSuffix (s.extract 0 i) ⟨#[93]⟩ wx (by simp only [ByteArray.size_extract]; omega)).mono fun _ _ h => ⟨h.1, h.2.symm⟩
  have h2 : bp = true → bs = true → 2 ≤ i := fun e1 e2 => by
    have := two_of _ (hp.trans e1) (hq.trans e2)
    rw [size_data] at this
    simp only [ByteArray.size_extract] at this; omega
  clear hp hq
  cases bp
  · go_enter Try.func37, Try.ntmps37
    go_wp2_with (first | (go_at_call 38; refine (cL.out).mono ?_; rintro e w' ⟨rfl, rfl⟩) | (go_at_call 39; refine (cV.out).mono ?_; rintro e w' ⟨rfl, hb⟩) | (go_at_call 40; refine (cP.out _).mono ?_; rintro e w' ⟨rfl, rfl⟩) | (go_at_call 41; refine (cS.out _).mono ?_; rintro e w' ⟨rfl, rfl⟩))
    go_quiet (fail)
    go_wp2_with (first | (go_at_call 38; refine (cL.out).mono ?_; rintro e w' ⟨rfl, rfl⟩) | (go_at_call 39; refine (cV.out).mono ?_; rintro e w' ⟨rfl, hb⟩) | (go_at_call 40; refine (cP.out _).mono ?_; rintro e w' ⟨rfl, rfl⟩) | (go_at_call 41; refine (cS.out _).mono ?_; rintro e w' ⟨rfl, rfl⟩))
    go_ret2
    rw [HR.out]
    exact ⟨rfl, below_drewN hb _⟩
  · cases bs
    · go_enter Try.func37, Try.ntmps37
      go_wp2_with (first | (go_at_call 38; refine (cL.out).mono ?_; rintro e w' ⟨rfl, rfl⟩) | (go_at_call 39; refine (cV.out).mono ?_; rintro e w' ⟨rfl, hb⟩) | (go_at_call 40; refine (cP.out _).mono ?_; rintro e w' ⟨rfl, rfl⟩) | (go_at_call 41; refine (cS.out _).mono ?_; rintro e w' ⟨rfl, rfl⟩))
      go_quiet (fail)
      go_wp2_with (first | (go_at_call 38; refine (cL.out).mono ?_; rintro e w' ⟨rfl, rfl⟩) | (go_at_call 39; refine (cV.out).mono ?_; rintro e w' ⟨rfl, hb⟩) | (go_at_call 40; refine (cP.out _).mono ?_; rintro e w' ⟨rfl, rfl⟩) | (go_at_call 41; refine (cS.out _).mono ?_; rintro e w' ⟨rfl, rfl⟩))
      go_ret2
      rw [HR.out]
      exact ⟨rfl, below_drewN hb _⟩
    · have h2' := h2 rfl rfl
      clear h2
      have hm : min i s.size = i := Nat.min_eq_left (by omega)
      rw [show (s.extract 0 i).size = i by simp only [ByteArray.size_extract]; omega] at HR
      go_enter Try.func37, Try.ntmps37
      go_wp2_with (first | (go_at_call 38; refine (cL.out).mono ?_; rintro e w' ⟨rfl, rfl⟩) | (go_at_call 39; refine (cV.out).mono ?_; rintro e w' ⟨rfl, hb⟩) | (go_at_call 40; refine (cP.out _).mono ?_; rintro e w' ⟨rfl, rfl⟩) | (go_at_call 41; refine (cS.out _).mono ?_; rintro e w' ⟨rfl, rfl⟩))
      go_quiet (fail)
      go_wp2_with (first | (go_at_call 38; refine (cL.out).mono ?_; rintro e w' ⟨rfl, rfl⟩) | (go_at_call 39; refine (cV.out).mono ?_; rintro e w' ⟨rfl, hb⟩) | (go_at_call 40; refine (cP.out _).mono ?_; rintro e w' ⟨rfl, rfl⟩) | (go_at_call 41; refine (cS.out _).mono ?_; rintro e w' ⟨rfl, rfl⟩))
      go_ret2
      rw [HR.out]
      exact ⟨rfl, below_drewN hb _⟩
end Go.Proofs.Ytpjponoafebboaa
