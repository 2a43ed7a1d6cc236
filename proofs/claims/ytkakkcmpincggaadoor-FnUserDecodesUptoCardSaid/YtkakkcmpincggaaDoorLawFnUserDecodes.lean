/- Proved: the statement 'FnUserDecodesUptoCardSaid' of the law FnUserDecodes: for every input of bulk at most 1048576 the law returns true and each argument reads as it did. Conditions: none beside the statement's own. -/
import Derived.Test.YtkakkcmpincggaaDoorFrame
import Derived.Test.YtkakkcmpincggaaDoorFnUserDecodesW
import Derived.Test.YtkakkcmpincggaaDoorCards
import Derived.Test.YtkakkcmpincggaaDoorTie
import Derived.Deep.DeepHandedRow
import Derived.Lib.LaidTab
import Derived.SevenTiedAt
import Derived.Test.YtkakkcmpincggaaDoorLaid
namespace Go.Proofs.YtkakkcmpincggaaDoor.fnUserDecodes
open Go.ChangeShapes Go.WideShapes Go.ChangeAt Go.RowKit
open Go.ChangeMaps (open_string shut_string)

theorem contract (H : Type) (enc : TypeId × Value → H) (W : World) (base : Nat) (args : Array Value) (ds gs : List (DataW H)) (before : List MemPlace)
    (hval0 : ∀ (j : Nat) t v, Tryd.f9.params[j]? = some t → args[j]? = some v → Value.okWide Tryd.prog W .any base t v)
    (hW : DataW.Whole enc Tryd.prog Tryd.f9.params.toList Rows.fnUserDecodesSpec.vars false W args.toList ds gs before)
    (hsz0 : (DataW.weightsEach Tryd.prog (Tryd.f9.params.toList ++ Rows.fnUserDecodesSpec.plain.varTypes Tryd.prog) (ds ++ gs)).all (· ≤ reachBytes) = true) (hk : Rows.uptoSmall H (ds ++ gs) = true) (hL : laidMetH Tryd.prog Rows.fnUserDecodesUptoRow.laid W) :
    Calls Tryd.prog 9 args W fun e W' => ∃ v, e = .returned v ∧ Rows.fnUserDecodesSpec.post enc Tryd.prog Tryd.f9 false true false false W args v W' := by
  have hval : ∀ (j : Nat) t v, Tryd.f9.params[j]? = some t → args[j]? = some v → Value.okWide Tryd.prog W .any base t v := hval0
  have hsz : (DataW.weightsEach Tryd.prog (Tryd.f9.params.toList ++ Rows.fnUserDecodesSpec.plain.varTypes Tryd.prog) (ds ++ gs)).all (· ≤ reachBytes) = true := hsz0
  have hW' := hW
  have hlt : ∀ x ∈ before, x.block < W.heap.size := fun x hx => hW.lt x hx
  obtain ⟨p, q, hA0, hV, rfl, _, _⟩ := hW
  have hA : DataW.TrodAll enc Tryd.prog W 0 (fun _ => true) true Tryd.f9.params.toList args.toList ds p := hA0
  rw [Tryd.params9] at hA hval hsz
  obtain ⟨v0, vs0, d0, ds0, p0, q0, hargs, rfl, rfl, h0, r0⟩ := trodAll_cons hA
  obtain ⟨v1, vs1, d1, ds1, p1, q1, rfl, rfl, rfl, h1, r1⟩ := trodAll_cons r0
  obtain ⟨v2, vs2, d2, ds2, p2, q2, rfl, rfl, rfl, h2, r2⟩ := trodAll_cons r1
  obtain ⟨rfl, rfl, rfl⟩ := trodAll_nil r2
  obtain rfl : args = #[v0, v1, v2] := by cases args; simp_all
  obtain ⟨rfl, rfl⟩ := trodVars_none hV
  have hr0 := h0
  have hr1 := h1
  have hr2 := h2
  obtain ⟨a0, rfl, rfl, rfl, _⟩ := open_string Tryd.underlying9 (hval 0 9 v0 rfl rfl) h0
  have b0 : a0.size < 140737488355328 := by
    have := sized_string hsz (j := 0) (t := 9) rfl rfl
    rw [Array.length_toList] at this
    exact reach_lt this
  obtain ⟨a1, rfl, rfl, rfl, _⟩ := open_string Tryd.underlying9 (hval 1 9 v1 rfl rfl) h1
  have b1 : a1.size < 140737488355328 := by
    have := sized_string hsz (j := 1) (t := 9) rfl rfl
    rw [Array.length_toList] at this
    exact reach_lt this
  obtain ⟨a2, rfl, rfl, rfl⟩ := open_bool Tryd.underlying4 (hval 2 4 v2 rfl rfl) h2
  simp only [List.append_nil] at hW'
  have hk1 := of_decide_eq_true hk
  simp only [List.append_nil, Rows.uptoBulkAll, Rows.uptoBulk, Array.length_toList] at hk1
  have c0 : a0.size ≤ 1048576 := by show a0.data.size ≤ 1048576; omega
  have c1 : a1.size ≤ 1048576 := by show a1.data.size ≤ 1048576; omega
  refine (fnUserDecodes_walk a0 a1 a2 c0 c1 W (table hL)).mono fun e W' ⟨he, hb⟩ => ?_
  subst he
  exact ⟨_, rfl, law_post hW' rfl rfl rfl (trodAll_cons_mk (again (by kernel_rfl) (of_decide_eq_true (by kernel_rfl)) hr0 hb (fun x hx => by simp at hx)) (trodAll_cons_mk (again (by kernel_rfl) (of_decide_eq_true (by kernel_rfl)) hr1 hb (fun x hx => by simp at hx)) (trodAll_cons_mk (again (by kernel_rfl) (of_decide_eq_true (by kernel_rfl)) hr2 hb (fun x hx => by simp at hx)) (trodAll_mk0)))) hb⟩

theorem laid_met (os : Os) : laidMet Tryd.prog Rows.fnUserDecodesUptoRow.laid ((laidWorld os).forCall (fun _ _ => 0) ⟨#[], #[.string ByteArray.empty, .string ByteArray.empty, .bool false], []⟩).memory :=
  laidMet_of_run' 8 (by kernel_rfl) (by kernel_rfl)
theorem reads (os : Os) {H : Type} (enc : TypeId × Value → H) : ∃ places, DataW.whole enc Tryd.prog ((laidWorld os).forCall (fun _ _ => 0) ⟨#[], #[.string ByteArray.empty, .string ByteArray.empty, .bool false], []⟩).memory Tryd.f9.params.toList Rows.fnUserDecodesSpec.vars false (#[.string ByteArray.empty, .string ByteArray.empty, .bool false] : Array Value).toList 8 = some ([.lit (.string []), .lit (.string []), .lit (.bool false)], [], places) :=
  ⟨[], by kernel_rfl⟩

set_option maxRecDepth 100000 in
theorem lifted (os : Os) (started : os.Started) (H : Type) (enc : TypeId × Value → H) (F : Stop.Interp) :
    ReturnsInHanded {} Tryd.checked os 9 .any ((Rows.OpenSpec.upto Rows.fnUserDecodesSpec).preRow enc Tryd.prog Tryd.f9 Rows.fnUserDecodesUptoRow.domain false Rows.fnUserDecodesUptoRow.laid) (((Rows.OpenSpec.upto Rows.fnUserDecodesSpec).at F).post enc Tryd.prog Tryd.f9 false true false false) := by
  obtain ⟨places, hx⟩ := reads os enc
  refine returnsInHanded_of_row (C := Tryd.checked) (s := (Rows.OpenSpec.upto Rows.fnUserDecodesSpec)) own started (by kernel_rfl) Tryd.func9
    (witness_row_at (enc := enc) (C := Tryd.checked) false (laidWorld os) #[.string ByteArray.empty, .string ByteArray.empty, .bool false] rfl (by kernel_rfl) (by kernel_rfl) (by kernel_rfl)
      (OpenSpec.preRow_of_cond 8 hx (by kernel_rfl) (fun k hk => by cases hk; kernel_rfl) (by kernel_rfl) (laid_met os))) ?_
  intro W base args ds gs before hval hW _ hcond hsz hL _ _
  exact contract H enc W base args ds gs before hval hW hsz (hcond _ rfl) hL

theorem said : Rows.FnUserDecodesUptoSaid :=
  OpenClaim.holds_of_cond 9 Tryd.f9 rfl rfl rfl rfl rfl rfl rfl ⟨rfl, rfl, rfl, rfl, rfl⟩ rfl rfl rfl rfl rfl (by kernel_rfl) Tryd.func9 (by kernel_rfl)
    (of_decide_eq_true (by kernel_rfl)) (by unfold Func.isWrapper; first | (rw [if_pos (by decide +kernel)]; kernel_rfl) | (rw [if_neg (by decide +kernel)]; exact ⟨rfl, rfl⟩))
    (fun os started H enc _ F => by rw [OpenClaim.pre_eq_preRow]; exact lifted os started H enc F)

theorem plain (f : FuncId) (fn : Func) (hf : Tryd.pinned.checked.prog.funcNamed Rows.fnUserDecodesUptoRow.func = some f) (hfn : Tryd.pinned.checked.prog.funcs[f]? = some fn) :
    false = Tryd.pinned.checked.prog.looks [] ∧ ∀ (j : Nat) t, fn.params[j]? = some t → Tryd.pinned.checked.prog.wantsStandIn t = false := by
  obtain rfl : f = 9 := Option.some.inj ((show Tryd.prog.funcNamed Rows.fnUserDecodesUptoRow.func = some 9 by kernel_rfl).symm.trans hf) |>.symm
  obtain rfl : fn = Tryd.f9 := (Option.some.inj (Tryd.func9.symm.trans hfn)).symm
  refine ⟨by kernel_rfl, fun j t ht => ?_⟩
  rw [Tryd.params9] at ht
  have hm := Array.mem_of_getElem? ht
  simp only [List.mem_toArray, List.mem_cons, List.not_mem_nil, or_false] at hm
  rcases hm with rfl | rfl | rfl
  · exact (show Tryd.prog.wantsStandIn 9 = false by kernel_rfl)
  · exact (show Tryd.prog.wantsStandIn 9 = false by kernel_rfl)
  · exact (show Tryd.prog.wantsStandIn 4 = false by kernel_rfl)

theorem proved : Rows.FnUserDecodesUptoCardSaid :=
  Claim7.holds_tied_plain_at .later [] _ _ _ _ said (fun _ h => by cases h) (by kernel_rfl) (fun _ h => by cases h) fnUserDecodesUpto_row_tie rfl ⟨rfl, rfl⟩ (by kernel_rfl) rfl plain (by kernel_rfl)
end Go.Proofs.YtkakkcmpincggaaDoor.fnUserDecodes
