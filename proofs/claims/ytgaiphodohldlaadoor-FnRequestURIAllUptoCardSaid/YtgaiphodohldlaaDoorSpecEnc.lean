/- What spec.encode returns, for every string of at most 4194304 bytes. -/
import Derived.Test.YtgaiphodohldlaaDoorSpecIsOf
import Derived.Test.YtgaiphodohldlaaDoorEscape
namespace Go.Proofs.YtgaiphodohldlaaDoor
open Go.RowKit

theorem enc_next (f : UInt8 → Bool) (s : ByteArray) (k : Nat) (h : k < s.size) : plain.encode f (s.data.toList.take (k + 1)) = plain.encode f (s.data.toList.take k) ++ plain.enc1 f s[k] := by
  rw [take_next s k h, plain.encode_append]
  congr 1
  simp [plain.encode]
theorem enc1_len (f : UInt8 → Bool) (c : UInt8) : (plain.enc1 f c).length ≤ 3 := by unfold plain.enc1; split <;> simp
theorem enc_len (f : UInt8 → Bool) (l : List UInt8) : (plain.encode f l).length ≤ 3 * l.length := by
  induction l with
  | nil => exact Nat.zero_le _
  | cons c r ih => rw [plain.encode_cons, List.length_append, List.length_cons]; have := enc1_len f c; omega

theorem below_drewN {B : Nat} {w w' : World} (h : Below B w w') (n : Nat) : Below B w (w'.drewN n) := ⟨h.os, h.tape, h.output, h.size, h.block⟩
theorem cut_one (s : ByteArray) (k : Nat) (h : k < s.size) : s.extract k (k + 1) = S [s[k]] := by
  refine S_ext ?_
  rw [data_S, ByteArray.data_extract, Array.toList_extract, List.extract_eq_take_drop, Nat.add_sub_cancel_left, List.drop_eq_getElem_cons (sp_lt s k h), sp_byte s k h]
  rfl
theorem cut_digit (n : Nat) (h : n < 16) : (⟨#[48, 49, 50, 51, 52, 53, 54, 55, 56, 57, 65, 66, 67, 68, 69, 70]⟩ : ByteArray).extract n (n + 1) = S [plain.upper n] := by
  exact (cut_one (⟨#[48, 49, 50, 51, 52, 53, 54, 55, 56, 57, 65, 66, 67, 68, 69, 70]⟩ : ByteArray) n h).trans (congrArg (fun c => S [c]) (digit n h h))
theorem enc_stay {f : UInt8 → Bool} {s x : ByteArray} {k : Nat} (h : k < s.size) (hf : f s[k] = true) (hx : x = S (plain.encode f (s.data.toList.take k))) : x ++ s.extract k (k + 1) = S (plain.encode f (s.data.toList.take (k + 1))) := by
  rw [enc_next f s k h, plain.enc1, if_pos hf, cut_one s k h, hx, S_app]
theorem enc_turn {f : UInt8 → Bool} {s x : ByteArray} {k n : Nat} (h : k < s.size) (hf : f s[k] = false) (hn : s[k].toNat = n) (hx : x = S (plain.encode f (s.data.toList.take k))) :
    x ++ ((⟨#[37]⟩ : ByteArray) ++ (⟨#[48, 49, 50, 51, 52, 53, 54, 55, 56, 57, 65, 66, 67, 68, 69, 70]⟩ : ByteArray).extract (n / 16) (n / 16 + 1) ++ (⟨#[48, 49, 50, 51, 52, 53, 54, 55, 56, 57, 65, 66, 67, 68, 69, 70]⟩ : ByteArray).extract (n % 16) (n % 16 + 1)) = S (plain.encode f (s.data.toList.take (k + 1))) := by
  have hl := (s[k]).toNat_lt
  rw [enc_next f s k h, plain.enc1, hf, if_neg Bool.false_ne_true, hn, cut_digit _ (by omega), cut_digit _ (by omega), hx]
  show S _ ++ (S [37] ++ S _ ++ S _) = _
  rw [S_app, S_app, S_app]
  rfl
theorem enc_size {f : UInt8 → Bool} {x : ByteArray} {l : List UInt8} {k : Nat} (hx : x = S (plain.encode f (l.take k))) : x.size ≤ 3 * k := by
  rw [hx, S_size]
  have h1 := enc_len f (l.take k)
  have h2 := List.length_take_le k l
  omega

set_option maxHeartbeats 4000000 in
theorem encode_any (s t : ByteArray) (w : World) (hs : s.size ≤ 4194304) (ht : t.size < 4611686018427387904) :
    Calls Tryd.prog 23 #[.string s, .string t] w fun e w' => e = .returned (.string (S (plain.encode (stands t.data.toList) s.data.toList))) ∧ Below w.heap.size w w' := by
  go_enter Tryd.func23, Tryd.ntmps23
  go_wp2_with fail
  go_loopw [10, 5] (fun i o wr => ∃ (k : Nat) (x : ByteArray), k ≤ s.size ∧ i = .int .i64 k ∧ o = .string x ∧ Hid (x = S (plain.encode (stands t.data.toList) (s.data.toList.take k))) ∧ Below w.heap.size w wr) (fun i _ _ => s.size - (intOf i).toNat)
  case atStart => exact ⟨0, ⟨#[]⟩, Nat.zero_le _, rfl, rfl, Lib.hid rfl, Below.refl _ _⟩
  case round =>
    obtain ⟨k, x, hk, rfl, rfl, HX, hbw⟩ := hrel
    have hx := enc_size HX.out
    by_cases hlt : k < s.size
    · have CU := Lib.hid (fun w => unres_any (s[k]'hlt) w)
      have CH := Lib.hid (fun w => has_any t (s[k]'hlt) w ht)
      obtain ⟨b, hb⟩ : ∃ b, stands t.data.toList (s[k]'hlt) = b := ⟨_, rfl⟩
      have hbb := hb
      obtain ⟨u, hu⟩ : ∃ u, unres (s[k]'hlt) = u := ⟨_, rfl⟩
      obtain ⟨v, hv⟩ : ∃ v, hasL t.data.toList (s[k]'hlt) = v := ⟨_, rfl⟩
      rw [stands, hu, hv] at hb
      rw [hu] at CU
      rw [hv] at CH
      clear hu hv
      cases u
      · cases v
        · subst hb
          have hc := (s[k]'hlt).toNat_lt
          obtain ⟨n, hn⟩ : ∃ n, (s[k]'hlt).toNat = n := ⟨_, rfl⟩
          have HM := Lib.hid (enc_turn (n := n) hlt hbb hn HX.out)
          rw [hn] at hc CU CH
          clear hbb
          have hq : n / 16 < 16 := by omega
          have hr : n % 16 < 16 := by omega
          have hq' : (n : Int).tdiv 16 = (n / 16 : Nat) := rfl
          have hr' : (n : Int).tmod 16 = (n % 16 : Nat) := rfl
          go_wp2_with fail
          refine (CU.out _).mono ?_
          rintro e w' ⟨rfl, rfl⟩
          go_wp2_with fail
          refine (CH.out _).mono ?_
          rintro e w' ⟨rfl, rfl⟩
          go_wp2_with fail
          go_quiet (fail)
          go_wp2_with fail
          go_round
          case rel => exact ⟨k + 1, _, by omega, by go_num, rfl, HM, below_drewN hbw _⟩
          case measure => simp [intOf]; omega
        · subst hb
          have HM := Lib.hid (enc_stay hlt hbb HX.out)
          clear hbb
          go_wp2_with fail
          refine (CU.out _).mono ?_
          rintro e w' ⟨rfl, rfl⟩
          go_wp2_with fail
          refine (CH.out _).mono ?_
          rintro e w' ⟨rfl, rfl⟩
          go_wp2_with fail
          go_round
          case rel => exact ⟨k + 1, _, by omega, by go_num, rfl, HM, hbw⟩
          case measure => simp [intOf]; omega
      · rw [Bool.true_or] at hb
        subst hb
        have HM := Lib.hid (enc_stay hlt hbb HX.out)
        clear hbb
        go_wp2_with fail
        refine (CU.out _).mono ?_
        rintro e w' ⟨rfl, rfl⟩
        go_wp2_with fail
        go_round
        case rel => exact ⟨k + 1, _, by omega, by go_num, rfl, HM, hbw⟩
        case measure => simp [intOf]; omega
    · have HE : Hid (x = S (plain.encode (stands t.data.toList) s.data.toList)) := by
        rw [HX.out, List.take_of_length_le (by rw [size_data]; omega)]; exact Lib.hid rfl
      clear HX
      go_wp2_with fail
      go_ret
      rw [← HE.out]
      exact ⟨rfl, hbw⟩
end Go.Proofs.YtgaiphodohldlaaDoor
