/- What spec.digits, spec.colon, spec.Hostname and spec.Port return, for every host. -/
import Derived.Test.YtpjponoafebboaaHostSplit
import Derived.Test.YtpjponoafebboaaHas
namespace Go.Proofs.Ytpjponoafebboaa
open Go.RowKit

set_option maxHeartbeats 400000 in
theorem digits_any (t : ByteArray) (w : World) (hs : t.size < 4611686018427387904) :
    Calls Try.prog 36 #[.string t] w fun e w' => e = .returned (.bool (plain.digs t.data.toList)) ∧ w = w' := by
  go_enter Try.func36, Try.ntmps36
  go_wp2
  go_loop [6, 2] (fun i r => ∃ k : Nat, k ≤ t.size ∧ i = .int .i64 k ∧ r = .bool false ∧ Hid (∀ j (hj : j < t.size), j < k → plain.isDig t[j] = true)) (fun i _ => t.size - (intOf i).toNat)
  case atStart => exact ⟨0, Nat.zero_le _, rfl, rfl, fun j _ h => absurd h (by omega)⟩
  case round =>
    obtain ⟨k, hk, rfl, rfl, HN⟩ := hrel
    by_cases hlt : k < t.size
    · by_cases h48 : (t[k]'hlt).toNat < 48
      · have HF := Lib.hid (not_digs_of t k hlt (by omega))
        go_wp2
        go_ret
        rw [HF.out]
        exact ⟨rfl, rfl⟩
      · by_cases h57 : 57 < (t[k]'hlt).toNat
        · have HF := Lib.hid (not_digs_of t k hlt (by omega))
          go_wp2
          go_ret
          rw [HF.out]
          exact ⟨rfl, rfl⟩
        · have HM : Hid (∀ j (hj : j < t.size), j < k + 1 → plain.isDig t[j] = true) := fun j hj h => by
            by_cases e : j = k
            · subst e; rw [isDig_iff]; omega
            · exact HN.out j hj (by omega)
          go_wp2
          go_round
          case rel => exact ⟨k + 1, by omega, by go_num, rfl, HM⟩
          case measure => simp [intOf]; omega
    · have HF := Lib.hid (digs_of t (fun j hj => HN.out j hj (by omega)))
      go_wp2
      go_ret
      rw [HF.out]
      exact ⟨rfl, rfl⟩

theorem digits_behind (s : ByteArray) (i : Nat) (w : World) (hs : s.size < 4611686018427387904) (hlt : i < s.size) :
    Calls Try.prog 36 #[.string (s.extract (i + 1) s.size)] w fun e w' => e = .returned (.bool (plain.digs (s.data.toList.drop (i + 1)))) ∧ w = w' := by
  have h := digits_any (s.extract (i + 1) s.size) w (by simp only [ByteArray.size_extract]; omega)
  rw [Lib.extract_data, List.take_of_length_le (by rw [List.length_drop, size_data]; omega)] at h
  exact h

theorem split_at (s : ByteArray) (m : Nat) (hm : m < s.size) (h : s[m].toNat = 58) : s.data.toList = s.data.toList.take m ++ 58 :: s.data.toList.drop (m + 1) := by
  conv => lhs; rw [← List.take_append_drop m s.data.toList]
  rw [List.drop_eq_getElem_cons (byte_lt s m hm), byte_list s m hm, show s[m] = 58 from UInt8.toNat.inj h]
theorem length_take_le (s : ByteArray) (m : Nat) (hm : m ≤ s.size) : (s.data.toList.take m).length = m := by
  rw [List.length_take, size_data]; omega

set_option maxHeartbeats 800000 in
theorem colon_any (s : ByteArray) (w : World) (hs : s.size < 4611686018427387904) :
    Calls Try.prog 31 #[.string s] w fun e w' => e = .returned (.int .i64 (plain.colonI s.data.toList)) ∧ w = w' := by
  go_enter Try.func31, Try.ntmps31
  go_wp2
  go_loop [3, 2] (fun i r => ∃ k : Nat, k ≤ s.size ∧ i = .int .i64 ((k : Int) - 1) ∧ r = .int .i64 0 ∧ Hid (58 ∉ s.data.toList.drop k)) (fun i _ => (intOf i + 1).toNat)
  case atStart => exact ⟨s.size, Nat.le_refl _, rfl, rfl, by rw [List.drop_of_length_le (by rw [size_data]; exact Nat.le_refl _)]; exact List.not_mem_nil⟩
  case round =>
    obtain ⟨k, hk, rfl, rfl, HN⟩ := hrel
    match k, hk, HN with
    | 0, hk, HN =>
      have HF := Lib.hid (plain.colonI_none (l := s.data.toList) (by simpa using HN.out))
      clear HN
      rw [show ((0 : Nat) : Int) - 1 = -1 from rfl]
      go_wp2
      go_ret
      rw [HF.out]
      exact ⟨rfl, rfl⟩
    | m + 1, hk, HN =>
      rw [show ((m + 1 : Nat) : Int) - 1 = (m : Int) by omega]
      have hm : m < s.size := by omega
      by_cases he : s[m].toNat = 58
      · have HS := Lib.hid (split_at s m hm he)
        have hb : ((s[m].toNat : Int) == 58) = true := by rw [he]; rfl
        clear he
        obtain ⟨d, hd⟩ : ∃ d, plain.digs (s.data.toList.drop (m + 1)) = d := ⟨_, rfl⟩
        have HC : Hid (Calls Try.prog 36 #[.string (s.extract (m + 1) s.size)] w fun e w' => e = .returned (.bool d) ∧ w = w') := by
          rw [← hd]; exact digits_behind s m w hs hm
        have HD := Lib.hid hd
        clear hd
        cases d
        · have HF : Hid (plain.colonI s.data.toList = -1) := by rw [HS.out]; exact plain.colonI_bad _ _ HN.out HD.out
          go_wp2_with (go_at_call 36; refine (HC.out).mono ?_; rintro e w' ⟨rfl, rfl⟩)
          go_ret
          rw [HF.out]
          exact ⟨rfl, rfl⟩
        · have HF : Hid (plain.colonI s.data.toList = m) := by
            rw [HS.out, plain.colonI_good _ _ HD.out, length_take_le s m (by omega)]
            exact Lib.hid rfl
          go_wp2_with (go_at_call 36; refine (HC.out).mono ?_; rintro e w' ⟨rfl, rfl⟩)
          go_ret
          rw [HF.out]
          exact ⟨rfl, rfl⟩
      · have HM : Hid (58 ∉ s.data.toList.drop m) := by
          rw [List.drop_eq_getElem_cons (byte_lt s m hm), byte_list s m hm]
          intro h
          rcases List.mem_cons.1 h with h | h
          · exact he (by rw [← h]; rfl)
          · exact HN.out h
        have hb : ((s[m].toNat : Int) == 58) = false := by simp; omega
        clear he
        go_wp2
        go_round
        case rel => exact ⟨m, by omega, rfl, rfl, HM⟩
        case measure => simp [intOf]

/-- the three kinds of a host: no colon; a last colon with other than digits behind it; with digits -/
theorem host_cases (s : ByteArray) :
    (plain.colonI s.data.toList = -1 ∧ S (plain.hostL s.data.toList) = stripB s ∧ S (plain.portL s.data.toList) = ⟨#[]⟩ ∧
      (Lib.lastIndexByte s 58 = -1 ∨ ∃ (i : Nat) (hi : i < s.size), Lib.lastIndexByte s 58 = i ∧ s[i].toNat = 58 ∧ plain.digs (s.data.toList.drop (i + 1)) = false)) ∨
    ∃ (i : Nat) (hi : i < s.size), plain.colonI s.data.toList = i ∧ Lib.lastIndexByte s 58 = i ∧ s[i].toNat = 58 ∧ plain.digs (s.data.toList.drop (i + 1)) = true ∧
      S (plain.hostL s.data.toList) = stripB (s.extract 0 i) ∧ S (plain.portL s.data.toList) = s.extract (i + 1) s.size := by
  rcases last_cases s with ⟨h, hn⟩ | ⟨i, hi, h, hc, e, hn⟩
  · refine .inl ⟨plain.colonI_none hn, ?_, ?_, .inl h⟩
    · rw [plain.hostL, plain.parts_none hn]; rfl
    · rw [plain.portL, plain.parts_none hn]; rfl
  · by_cases hd : plain.digs (s.data.toList.drop (i + 1)) = true
    · refine .inr ⟨i, hi, ?_, h, hc, hd, ?_, ?_⟩
      · rw [e, plain.colonI_good _ _ hd, length_take_le s i (by omega)]
      · rw [plain.hostL, e, plain.parts_of _ _ hd, stripB, Lib.extract_data]; rfl
      · rw [plain.portL, e, plain.parts_of _ _ hd, Lib.extract_eq]
        show S (s.data.toList.drop (i + 1)) = S _
        rw [List.take_of_length_le (l := s.data.toList.drop (i + 1)) (by rw [List.length_drop, size_data]; omega)]
    · have hd' : plain.digs (s.data.toList.drop (i + 1)) = false := by simpa using hd
      have hp := plain.parts_bad (s.data.toList.take i) _ hn hd'
      rw [← e] at hp
      refine .inl ⟨?_, ?_, ?_, .inr ⟨i, hi, h, hc, hd'⟩⟩
      · rw [e, plain.colonI_bad _ _ hn hd']
      · rw [plain.hostL, hp]; rfl
      · rw [plain.portL, hp]; rfl

def hostB (s : ByteArray) : ByteArray := S (plain.hostL s.data.toList)
def portB (s : ByteArray) : ByteArray := S (plain.portL s.data.toList)

theorem split_any (s : ByteArray) (w : World) (hs : s.size < 4611686018427387904) :
    Calls Try.prog 37 #[.string s] w fun e w' => e = .returned (.tuple #[.string (hostB s), .string (portB s)]) ∧ Below w.heap.size w w' := by
  rcases host_cases s with ⟨_, h1, h2, h | ⟨i, hi, h, hc, hd⟩⟩ | ⟨i, hi, _, h, hc, hd, h1, h2⟩
  · rw [hostB, portB, h1, h2]; exact split_none s w hs h
  · rw [hostB, portB, h1, h2]; exact split_bad s i w hs hi h hc hd
  · rw [hostB, portB, h1, h2]; exact split_good s i w hs hi h hc hd

theorem implHostname_any (s : ByteArray) (w : World) (hs : s.size < 4611686018427387904) :
    Calls Try.prog 19 #[.string s] w fun e w' => e = .returned (.string (hostB s)) ∧ Below w.heap.size w w' := by
  go_enter Try.func19, Try.ntmps19
  go_wp2_with (first | (go_at_call 37; refine (split_any _ _ hs).mono ?_; rintro e w1 ⟨rfl, hb⟩) | go_in)
  go_ret
  exact ⟨rfl, ((Below.refl _ _).alloc (Nat.le_refl _) _).trans (hb.mono (by simp))⟩
theorem implPort_any (s : ByteArray) (w : World) (hs : s.size < 4611686018427387904) :
    Calls Try.prog 21 #[.string s] w fun e w' => e = .returned (.string (portB s)) ∧ Below w.heap.size w w' := by
  go_enter Try.func21, Try.ntmps21
  go_wp2_with (first | (go_at_call 37; refine (split_any _ _ hs).mono ?_; rintro e w1 ⟨rfl, hb⟩) | go_in)
  go_ret
  exact ⟨rfl, ((Below.refl _ _).alloc (Nat.le_refl _) _).trans (hb.mono (by simp))⟩

theorem specPort_any (s : ByteArray) (w : World) (hs : s.size < 4611686018427387904) :
    Calls Try.prog 22 #[.string s] w fun e w' => e = .returned (.string (portB s)) ∧ w = w' := by
  have HC := Lib.hid (colon_any s w hs)
  rcases host_cases s with ⟨h0, _, h2, _⟩ | ⟨i, hi, h0, _, _, _, _, h2⟩
  · rw [h0] at HC
    have HP := Lib.hid h2
    clear h0 h2
    go_enter Try.func22, Try.ntmps22
    go_wp2_with (go_at_call 31; refine (HC.out).mono ?_; rintro e w' ⟨rfl, rfl⟩)
    go_ret
    rw [portB, HP.out]
    exact ⟨rfl, rfl⟩
  · rw [h0] at HC
    have HP := Lib.hid h2
    clear h0 h2
    go_enter Try.func22, Try.ntmps22
    go_wp2_with (go_at_call 31; refine (HC.out).mono ?_; rintro e w' ⟨rfl, rfl⟩)
    go_ret
    rw [portB, HP.out]
    exact ⟨rfl, rfl⟩
end Go.Proofs.Ytpjponoafebboaa
