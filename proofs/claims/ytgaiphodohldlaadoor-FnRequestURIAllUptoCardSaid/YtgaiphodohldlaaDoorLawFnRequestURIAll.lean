/- Proved: the statement 'FnRequestURIAllUptoCardSaid' of the law FnRequestURIAll: for every input of bulk at most 1048576 the law returns true and each argument reads as it did. Conditions: none beside the statement's own. -/
import Derived.Test.YtgaiphodohldlaaDoorFrame
import Derived.Test.YtgaiphodohldlaaDoorUrl
import Derived.Test.YtgaiphodohldlaaDoorFnRequestURIAllW
import Derived.Test.YtgaiphodohldlaaDoorCards
import Derived.Test.YtgaiphodohldlaaDoorTie
import Derived.Deep.DeepHandedRow
import Derived.Lib.LaidTab
import Derived.SevenTiedAt
import Derived.Test.YtgaiphodohldlaaDoorLaid
namespace Go.Proofs.YtgaiphodohldlaaDoor.fnRequestURIAll
open Go.ChangeShapes Go.WideShapes Go.ChangeAt Go.RowKit
open Go.ChangeMaps (open_string shut_string)

theorem contract (H : Type) (enc : TypeId × Value → H) (W : World) (base : Nat) (args : Array Value) (ds gs : List (DataW H)) (before : List MemPlace)
    (hval0 : ∀ (j : Nat) t v, Tryd.f11.params[j]? = some t → args[j]? = some v → Value.okWide Tryd.prog W .any base t v)
    (hW : DataW.Whole enc Tryd.prog Tryd.f11.params.toList Rows.fnRequestURIAllSpec.vars false W args.toList ds gs before)
    (hsz0 : (DataW.weightsEach Tryd.prog (Tryd.f11.params.toList ++ Rows.fnRequestURIAllSpec.plain.varTypes Tryd.prog) (ds ++ gs)).all (· ≤ reachBytes) = true) (hk : Rows.uptoSmall H (ds ++ gs) = true) (hL : laidMetH Tryd.prog Rows.fnRequestURIAllUptoRow.laid W) :
    Calls Tryd.prog 11 args W fun e W' => ∃ v, e = .returned v ∧ Rows.fnRequestURIAllSpec.post enc Tryd.prog Tryd.f11 false true false false W args v W' := by
  have hval : ∀ (j : Nat) t v, Tryd.f11.params[j]? = some t → args[j]? = some v → Value.okWide Tryd.prog W .any base t v := hval0
  have hsz : (DataW.weightsEach Tryd.prog (Tryd.f11.params.toList ++ Rows.fnRequestURIAllSpec.plain.varTypes Tryd.prog) (ds ++ gs)).all (· ≤ reachBytes) = true := hsz0
  have hW' := hW
  have hlt : ∀ x ∈ before, x.block < W.heap.size := fun x hx => hW.lt x hx
  obtain ⟨p, q, hA0, hV, rfl, _, _⟩ := hW
  have hA : DataW.TrodAll enc Tryd.prog W 0 (fun _ => true) true Tryd.f11.params.toList args.toList ds p := hA0
  rw [Tryd.params11] at hA hval hsz
  obtain ⟨v0, vs0, d0, ds0, p0, q0, hargs, rfl, rfl, h0, r0⟩ := trodAll_cons hA
  obtain ⟨rfl, rfl, rfl⟩ := trodAll_nil r0
  obtain rfl : args = #[v0] := by cases args; simp_all
  obtain ⟨rfl, rfl⟩ := trodVars_none hV
  have hr0 := h0
  obtain ⟨u0, u1, u2, u3, u4, u5, u6, u7, u8, u9, u10, u11, u12, u13, rfl, rfl, rfl⟩ := open_url (hval 0 28 v0 rfl rfl) h0
  simp only [List.append_nil] at hW'
  have hk1 := of_decide_eq_true hk
  simp only [List.append_nil, Rows.uptoBulkAll, Rows.uptoBulk, Array.length_toList] at hk1
  have cu0 : u0.size ≤ 1048576 := by show u0.data.size ≤ 1048576; omega
  have cu1 : u1.size ≤ 1048576 := by show u1.data.size ≤ 1048576; omega
  have cu3 : u3.size ≤ 1048576 := by show u3.data.size ≤ 1048576; omega
  have cu5 : u5.size ≤ 1048576 := by show u5.data.size ≤ 1048576; omega
  have cu6 : u6.size ≤ 1048576 := by show u6.data.size ≤ 1048576; omega
  have cu7 : u7.size ≤ 1048576 := by show u7.data.size ≤ 1048576; omega
  have cu8 : u8.size ≤ 1048576 := by show u8.data.size ≤ 1048576; omega
  have cu9 : u9.size ≤ 1048576 := by show u9.data.size ≤ 1048576; omega
  have cu11 : u11.size ≤ 1048576 := by show u11.data.size ≤ 1048576; omega
  have cu12 : u12.size ≤ 1048576 := by show u12.data.size ≤ 1048576; omega
  refine (fnRequestURIAll_walk u0 u1 u2 u3 u4 u5 u6 u7 u8 u9 u10 u11 u12 u13 cu0 cu1 cu3 cu5 cu6 cu7 cu8 cu9 cu11 cu12 W (table hL)).mono fun e W' ⟨he, hb⟩ => ?_
  subst he
  exact ⟨_, rfl, law_post hW' rfl rfl rfl (trodAll_cons_mk (again (by kernel_rfl) (of_decide_eq_true (by kernel_rfl)) hr0 hb (fun x hx => by simp at hx)) (trodAll_mk0)) hb⟩

theorem laid_met (os : Os) : laidMet Tryd.prog Rows.fnRequestURIAllUptoRow.laid ((laidWorld os).forCall (fun _ _ => 0) ⟨#[], #[.agg #[.string ByteArray.empty, .string ByteArray.empty, .bool false, .string ByteArray.empty, .bool false, .string ByteArray.empty, .string ByteArray.empty, .string ByteArray.empty, .string ByteArray.empty, .string ByteArray.empty, .bool false, .string ByteArray.empty, .string ByteArray.empty, .bool false]], []⟩).memory :=
  laidMet_of_run' 8 (by kernel_rfl) (by kernel_rfl)
theorem reads (os : Os) {H : Type} (enc : TypeId × Value → H) : ∃ places, DataW.whole enc Tryd.prog ((laidWorld os).forCall (fun _ _ => 0) ⟨#[], #[.agg #[.string ByteArray.empty, .string ByteArray.empty, .bool false, .string ByteArray.empty, .bool false, .string ByteArray.empty, .string ByteArray.empty, .string ByteArray.empty, .string ByteArray.empty, .string ByteArray.empty, .bool false, .string ByteArray.empty, .string ByteArray.empty, .bool false]], []⟩).memory Tryd.f11.params.toList Rows.fnRequestURIAllSpec.vars false (#[.agg #[.string ByteArray.empty, .string ByteArray.empty, .bool false, .string ByteArray.empty, .bool false, .string ByteArray.empty, .string ByteArray.empty, .string ByteArray.empty, .string ByteArray.empty, .string ByteArray.empty, .bool false, .string ByteArray.empty, .string ByteArray.empty, .bool false]] : Array Value).toList 8 = some ([.agg [.lit (.string []), .lit (.string []), .lit (.bool false), .lit (.string []), .lit (.bool false), .lit (.string []), .lit (.string []), .lit (.string []), .lit (.string []), .lit (.string []), .lit (.bool false), .lit (.string []), .lit (.string []), .lit (.bool false)]], [], places) :=
  ⟨[], by kernel_rfl⟩

set_option maxRecDepth 100000 in
theorem lifted (os : Os) (started : os.Started) (H : Type) (enc : TypeId × Value → H) (F : Stop.Interp) :
    ReturnsInHanded {} Tryd.checked os 11 .any ((Rows.OpenSpec.upto Rows.fnRequestURIAllSpec).preRow enc Tryd.prog Tryd.f11 Rows.fnRequestURIAllUptoRow.domain false Rows.fnRequestURIAllUptoRow.laid) (((Rows.OpenSpec.upto Rows.fnRequestURIAllSpec).at F).post enc Tryd.prog Tryd.f11 false true false false) := by
  obtain ⟨places, hx⟩ := reads os enc
  refine returnsInHanded_of_row (C := Tryd.checked) (s := (Rows.OpenSpec.upto Rows.fnRequestURIAllSpec)) own started (by kernel_rfl) Tryd.func11
    (witness_row_at (enc := enc) (C := Tryd.checked) false (laidWorld os) #[.agg #[.string ByteArray.empty, .string ByteArray.empty, .bool false, .string ByteArray.empty, .bool false, .string ByteArray.empty, .string ByteArray.empty, .string ByteArray.empty, .string ByteArray.empty, .string ByteArray.empty, .bool false, .string ByteArray.empty, .string ByteArray.empty, .bool false]] rfl (by kernel_rfl) (by kernel_rfl) (by kernel_rfl)
      (OpenSpec.preRow_of_cond 8 hx (by kernel_rfl) (fun k hk => by cases hk; kernel_rfl) (by kernel_rfl) (laid_met os))) ?_
  intro W base args ds gs before hval hW _ hcond hsz hL _ _
  exact contract H enc W base args ds gs before hval hW hsz (hcond _ rfl) hL

theorem said : Rows.FnRequestURIAllUptoSaid :=
  OpenClaim.holds_of_cond 11 Tryd.f11 rfl rfl rfl rfl rfl rfl rfl ⟨rfl, rfl, rfl, rfl, rfl⟩ rfl rfl rfl rfl rfl (by kernel_rfl) Tryd.func11 (by kernel_rfl)
    (of_decide_eq_true (by kernel_rfl)) (by unfold Func.isWrapper; first | (rw [if_pos (by decide +kernel)]; kernel_rfl) | (rw [if_neg (by decide +kernel)]; exact ⟨rfl, rfl⟩))
    (fun os started H enc _ F => by rw [OpenClaim.pre_eq_preRow]; exact lifted os started H enc F)

theorem plain (f : FuncId) (fn : Func) (hf : Tryd.pinned.checked.prog.funcNamed Rows.fnRequestURIAllUptoRow.func = some f) (hfn : Tryd.pinned.checked.prog.funcs[f]? = some fn) :
    false = Tryd.pinned.checked.prog.looks [] ∧ ∀ (j : Nat) t, fn.params[j]? = some t → Tryd.pinned.checked.prog.wantsStandIn t = false := by
  obtain rfl : f = 11 := Option.some.inj ((show Tryd.prog.funcNamed Rows.fnRequestURIAllUptoRow.func = some 11 by kernel_rfl).symm.trans hf) |>.symm
  obtain rfl : fn = Tryd.f11 := (Option.some.inj (Tryd.func11.symm.trans hfn)).symm
  refine ⟨by kernel_rfl, fun j t ht => ?_⟩
  rw [Tryd.params11] at ht
  have hm := Array.mem_of_getElem? ht
  simp only [List.mem_toArray, List.mem_cons, List.not_mem_nil, or_false] at hm
  rcases hm with rfl
  · exact (show Tryd.prog.wantsStandIn 28 = false by kernel_rfl)

theorem proved : Rows.FnRequestURIAllUptoCardSaid :=
  Claim7.holds_tied_plain_at .later [] _ _ _ _ said (fun _ h => by cases h) (by kernel_rfl) (fun _ h => by cases h) fnRequestURIAllUpto_row_tie rfl ⟨rfl, rfl⟩ (by kernel_rfl) rfl plain (by kernel_rfl)
end Go.Proofs.YtgaiphodohldlaaDoor.fnRequestURIAll
