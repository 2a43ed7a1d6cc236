/- What userDecoded and FnUserDecodes return, where memory holds the table. -/
import Derived.Test.YtkakkcmpincggaaDoorUserStr
import Derived.Test.YtkakkcmpincggaaDoorFnFragmentDecodesW
namespace Go.Proofs.YtkakkcmpincggaaDoor
open Go.RowKit

theorem results_four {fn : Func} {t u v x : Tmp} (h : fn.results = #[.tmp t, .tmp u, .tmp v, .tmp x]) (tmps : Array Value) (P : Program) (w : World) :
    (results fn tmps).run P w = .ok (.tuple #[tmps.getD t undef, tmps.getD u undef, tmps.getD v undef, tmps.getD x undef]) w := by
  simp [results, h]

set_option maxHeartbeats 2000000 in
theorem userDecoded_one (s n : ByteArray) (w : World) (hs : s.size < 140737488355328)
    (HN : Hid (∀ j (hj : j < s.size), ((s[j].toNat : Int) == 58) = false))
    (CD : Hid (∀ wx, Calls Tryd.prog 16 #[.string s] wx fun e w' => e = .returned (.tuple #[.string n, .bool true]) ∧ Below wx.heap.size wx w')) :
    Calls Tryd.prog 19 #[.string s] w fun e w' => e = .returned (.tuple #[.string n, .string ⟨#[]⟩, .bool false, .bool true]) ∧ Below w.heap.size w w' := by
  go_enter Tryd.func19, Tryd.ntmps19
  go_wp2_with fail
  go_loop [11, 2, 3, 4, 5] (fun i a b c d => ∃ k : Nat, k ≤ s.size ∧ i = .int .i64 k ∧ a = .string ⟨#[]⟩ ∧ b = .string ⟨#[]⟩ ∧ c = .bool false ∧ d = .bool false) (fun i _ _ _ _ => s.size - (intOf i).toNat)
  case atStart => exact ⟨0, Nat.zero_le _, rfl, rfl, rfl, rfl, rfl⟩
  case round =>
    obtain ⟨k, hk, rfl, rfl, rfl, rfl, rfl⟩ := hrel
    by_cases hlt : k < s.size
    · have hb := HN.out k hlt
      go_wp2_with fail
      go_round
      case rel => exact ⟨k + 1, by omega, by go_num, rfl, rfl, rfl, rfl⟩
      case measure => simp [intOf]; omega
    · go_wp2_with fail
      refine (CD.out _).mono ?_
      rintro e w1 ⟨rfl, hb1⟩
      go_wp2_with fail
      (try simp only [Exit.inBlock, Exit.then])
      refine bodyPost_ret (results_four rfl _ _ _) rfl ?_
      exact ⟨rfl, hb1⟩

set_option maxHeartbeats 2000000 in
theorem userDecoded_two (s n p : ByteArray) (K : Nat) (hK : K < s.size) (w : World) (hs : s.size < 140737488355328)
    (HN : Hid (∀ j (hj : j < s.size), j < K → ((s[j].toNat : Int) == 58) = false)) (hc : (((s[K]'hK).toNat : Int) == 58) = true)
    (C1 : Hid (∀ wx, Calls Tryd.prog 16 #[.string (s.extract 0 K)] wx fun e w' => e = .returned (.tuple #[.string n, .bool true]) ∧ Below wx.heap.size wx w'))
    (C2 : Hid (∀ wx, Calls Tryd.prog 16 #[.string (s.extract (K + 1) s.size)] wx fun e w' => e = .returned (.tuple #[.string p, .bool true]) ∧ Below wx.heap.size wx w')) :
    Calls Tryd.prog 19 #[.string s] w fun e w' => e = .returned (.tuple #[.string n, .string p, .bool true, .bool true]) ∧ Below w.heap.size w w' := by
  go_enter Tryd.func19, Tryd.ntmps19
  go_wp2_with fail
  go_loop [11, 2, 3, 4, 5] (fun i a b c d => ∃ k : Nat, k ≤ K ∧ i = .int .i64 k ∧ a = .string ⟨#[]⟩ ∧ b = .string ⟨#[]⟩ ∧ c = .bool false ∧ d = .bool false) (fun i _ _ _ _ => s.size - (intOf i).toNat)
  case atStart => exact ⟨0, Nat.zero_le _, rfl, rfl, rfl, rfl, rfl⟩
  case round =>
    obtain ⟨k, hk, rfl, rfl, rfl, rfl, rfl⟩ := hrel
    have hlt : k < s.size := by omega
    by_cases he : k < K
    · have hb := HN.out k hlt he
      clear hc
      go_wp2_with fail
      go_round
      case rel => exact ⟨k + 1, by omega, by go_num, rfl, rfl, rfl, rfl⟩
      case measure => simp [intOf]; omega
    · have e : k = K := by omega
      subst e
      clear HN he hk
      go_wp2_with fail
      refine (C1.out _).mono ?_
      rintro e w1 ⟨rfl, hb1⟩
      go_wp2_with fail
      refine (C2.out _).mono ?_
      rintro e w2 ⟨rfl, hb2⟩
      go_wp2_with fail
      (try simp only [Exit.inBlock, Exit.then])
      refine bodyPost_ret (results_four rfl _ _ _) rfl ?_
      exact ⟨rfl, hb1.trans (hb2.mono hb1.size)⟩

theorem no58 {l : List UInt8} (h : 58 ∉ l) (j : Nat) (hj : j < l.length) : (((l[j]'hj).toNat : Int) == 58) = false := by
  rw [beq_eq_false_iff_ne]
  intro e
  exact h ((UInt8.toNat.inj (show (l[j]'hj).toNat = (58 : UInt8).toNat by show _ = 58; omega)) ▸ List.getElem_mem hj)

theorem user_byte_at (s : ByteArray) (j : Nat) (h : j < s.size) (hl : j < s.data.toList.length) : s[j]'h = s.data.toList[j]'hl := by simp; rfl

theorem decU (n : ByteArray) (wx : World) (x : ByteArray) (hx : x.data.toList = encP 16 n.data.toList) (hn : x.size < 140737488355328) :
    Calls Tryd.prog 16 #[.string x] wx fun e w' => e = .returned (.tuple #[.string n, .bool true]) ∧ Below wx.heap.size wx w' := by
  have := dec_some x n.data.toList wx hn (by rw [hx]; exact decode_encP esc_pct16 _)
  rw [S_data] at this
  exact this

theorem cut_data (s : ByteArray) (i j : Nat) : (s.extract i j).data.toList = (s.data.toList.take j).drop i := by
  rw [ByteArray.data_extract, Array.toList_extract, List.extract_eq_take_drop, List.drop_take]

theorem userDecoded_us (n p : ByteArray) (has : Bool) (w : World) (hn : n.size ≤ 4194304) (hp : p.size ≤ 4194304) (x : ByteArray) (hx : x = if has then p else ⟨#[]⟩) :
    Calls Tryd.prog 19 #[.string (usB n p has)] w fun e w' => e = .returned (.tuple #[.string n, .string x, .bool has, .bool true]) ∧ Below w.heap.size w w' := by
  have hz := usB_size n p has hn hp
  cases has
  · subst hx
    refine userDecoded_one _ n w (by omega) (fun j hj => ?_) (fun wx => decU n wx _ (usB_data' n p) (by omega))
    have hl : j < (usB n p false).data.toList.length := by rw [size_data]; exact hj
    rw [user_byte_at _ j hj hl]
    exact no58 (by rw [usB_data']; exact user_no_colon _) j hl
  · have hxp : x = p := hx
    subst hxp
    have hd := usB_data n x
    have hsz : (usB n x true).size = (encP 16 n.data.toList).length + 1 + (encP 16 x.data.toList).length := by
      rw [← size_data, hd, List.length_append, List.length_cons]; omega
    have hK : (encP 16 n.data.toList).length < (usB n x true).size := by omega
    refine userDecoded_two _ n x (encP 16 n.data.toList).length hK w (by omega) (fun j hj hjk => ?_) ?_ (fun wx => decU n wx _ ?_ ?_) (fun wx => decU x wx _ ?_ ?_)
    · have hl : j < (usB n x true).data.toList.length := by rw [size_data]; exact hj
      rw [user_byte_at _ j hj hl]
      simp only [hd]
      rw [List.getElem_append_left hjk]
      exact no58 (user_no_colon _) j hjk
    · have hl : (encP 16 n.data.toList).length < (usB n x true).data.toList.length := by rw [size_data]; exact hK
      rw [user_byte_at _ _ hK hl]
      simp only [hd]
      rw [List.getElem_append_right (Nat.le_refl _)]
      simp
    · rw [cut_data, hd, List.drop_zero, List.take_left']
      rfl
    · rw [ByteArray.size_extract]; omega
    · rw [cut_data, List.take_of_length_le (by rw [size_data]; omega), hd, List.drop_append, List.drop_of_length_le (by omega), Nat.add_sub_cancel_left]
      rfl
    · rw [ByteArray.size_extract]; omega

theorem us_a : usB ⟨#[97]⟩ ⟨#[]⟩ false = ⟨#[97]⟩ := S_ext (by rw [usB_data']; decide +kernel)

set_option maxHeartbeats 1000000 in
theorem fnUserDecodes_walk (n p : ByteArray) (has : Bool) (hn : n.size ≤ 1048576) (hp : p.size ≤ 1048576) (w : World) (hT : Tab w) :
    Calls Tryd.prog 9 #[.string n, .string p, .bool has] w fun e w' => e = .returned (.bool true) ∧ Below w.heap.size w w' := by
  have HT := Lib.hid hT
  clear hT
  have CU := Lib.hid (fun wx => userDecoded_us n p has wx (by omega) (by omega) _ rfl)
  have CE : Hid (∀ wx, Tab wx → Calls Tryd.prog 17 #[.string ⟨#[97]⟩, .string ⟨#[]⟩, .bool false] wx fun e w' => e = .returned (.string ⟨#[97]⟩) ∧ Below wx.heap.size wx w') := fun wx h => by
    have := implUS_any ⟨#[97]⟩ ⟨#[]⟩ false wx (by decide) (by decide) h
    rw [us_a] at this
    exact this
  have CI : Hid (∀ wx, Tab wx → Calls Tryd.prog 17 #[.string n, .string p, .bool has] wx fun e w' => e = .returned (.string (usB n p has)) ∧ Below wx.heap.size wx w') := fun wx h => implUS_any n p has wx (by omega) (by omega) h
  generalize usB n p has = us at *
  cases has
  all_goals
    simp only [Bool.false_eq_true, if_false, if_true] at CU
    go_enter Tryd.func9, Tryd.ntmps9
    go_wp2_with fail
    refine (CI.out _ HT.out).mono ?_
    rintro e w1 ⟨rfl, hb1⟩
    go_wp2_with fail
    refine (CU.out _).mono ?_
    rintro e w2 ⟨rfl, hb2⟩
    have hc2 := hb1.trans (hb2.mono hb1.size)
    have HT2 := Lib.hid (HT.out.below hc2)
    go_wp2_with fail
    refine (CE.out _ HT2.out).mono ?_
    rintro e w3 ⟨rfl, hb3⟩
    go_wp2_with fail
    go_ret
    exact ⟨rfl, hc2.trans (hb3.mono hc2.size)⟩
end Go.Proofs.YtkakkcmpincggaaDoor
