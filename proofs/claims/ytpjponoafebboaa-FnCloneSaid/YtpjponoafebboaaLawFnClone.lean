/- Proved: the statement 'FnCloneSaid' of the law FnClone: for every input the law returns true and each argument reads as it did. Conditions: none beside the statement's own. -/
import Derived.Test.YtpjponoafebboaaFrame
import Derived.Test.YtpjponoafebboaaUrl
import Derived.Test.YtpjponoafebboaaFnCloneW
namespace Go.Proofs.Ytpjponoafebboaa.fnClone
open Go.ChangeShapes Go.WideShapes Go.ChangeAt Go.RowKit
open Go.ChangeMaps (open_string shut_string)

theorem contract (H : Type) (enc : TypeId × Value → H) (W : World) (base : Nat) (args : Array Value) (ds gs : List (DataW H)) (before : List MemPlace)
    (hval0 : ∀ (j : Nat) t v, Try.f5.params[j]? = some t → args[j]? = some v → Value.okWide Try.prog W .any base t v)
    (hW : DataW.Whole enc Try.prog Try.f5.params.toList Rows.fnCloneSpec.vars false W args.toList ds gs before)
    (hsz0 : (DataW.weightsEach Try.prog (Try.f5.params.toList ++ Rows.fnCloneSpec.plain.varTypes Try.prog) (ds ++ gs)).all (· ≤ reachBytes) = true) :
    Calls Try.prog 5 args W fun e W' => ∃ v, e = .returned v ∧ Rows.fnCloneSpec.post enc Try.prog Try.f5 false true false false W args v W' := by
  have hval : ∀ (j : Nat) t v, Try.f5.params[j]? = some t → args[j]? = some v → Value.okWide Try.prog W .any base t v := hval0
  have hsz : (DataW.weightsEach Try.prog (Try.f5.params.toList ++ Rows.fnCloneSpec.plain.varTypes Try.prog) (ds ++ gs)).all (· ≤ reachBytes) = true := hsz0
  have hW' := hW
  have hlt : ∀ x ∈ before, x.block < W.heap.size := fun x hx => hW.lt x hx
  obtain ⟨p, q, hA0, hV, rfl, _, _⟩ := hW
  have hA : DataW.TrodAll enc Try.prog W 0 (fun _ => true) true Try.f5.params.toList args.toList ds p := hA0
  rw [Try.params5] at hA hval hsz
  obtain ⟨v0, vs0, d0, ds0, p0, q0, hargs, rfl, rfl, h0, r0⟩ := trodAll_cons hA
  obtain ⟨rfl, rfl, rfl⟩ := trodAll_nil r0
  obtain rfl : args = #[v0] := by cases args; simp_all
  obtain ⟨rfl, rfl⟩ := trodVars_none hV
  have hr0 := h0
  obtain ⟨u0, u1, u2, u3, u4, u5, u6, u7, u8, u9, u10, u11, u12, u13, rfl, rfl, rfl⟩ := open_url (hval 0 28 v0 rfl rfl) h0
  have bu0 : u0.size < 140737488355328 := by
    have := sized_field hsz (j := 0) rfl rfl 0 rfl rfl
    rw [Array.length_toList] at this
    exact reach_lt this
  have bu1 : u1.size < 140737488355328 := by
    have := sized_field hsz (j := 0) rfl rfl 1 rfl rfl
    rw [Array.length_toList] at this
    exact reach_lt this
  have bu3 : u3.size < 140737488355328 := by
    have := sized_field hsz (j := 0) rfl rfl 3 rfl rfl
    rw [Array.length_toList] at this
    exact reach_lt this
  have bu5 : u5.size < 140737488355328 := by
    have := sized_field hsz (j := 0) rfl rfl 5 rfl rfl
    rw [Array.length_toList] at this
    exact reach_lt this
  have bu6 : u6.size < 140737488355328 := by
    have := sized_field hsz (j := 0) rfl rfl 6 rfl rfl
    rw [Array.length_toList] at this
    exact reach_lt this
  have bu7 : u7.size < 140737488355328 := by
    have := sized_field hsz (j := 0) rfl rfl 7 rfl rfl
    rw [Array.length_toList] at this
    exact reach_lt this
  have bu8 : u8.size < 140737488355328 := by
    have := sized_field hsz (j := 0) rfl rfl 8 rfl rfl
    rw [Array.length_toList] at this
    exact reach_lt this
  have bu9 : u9.size < 140737488355328 := by
    have := sized_field hsz (j := 0) rfl rfl 9 rfl rfl
    rw [Array.length_toList] at this
    exact reach_lt this
  have bu11 : u11.size < 140737488355328 := by
    have := sized_field hsz (j := 0) rfl rfl 11 rfl rfl
    rw [Array.length_toList] at this
    exact reach_lt this
  have bu12 : u12.size < 140737488355328 := by
    have := sized_field hsz (j := 0) rfl rfl 12 rfl rfl
    rw [Array.length_toList] at this
    exact reach_lt this
  simp only [List.append_nil] at hW'
  refine (fnClone_walk u0 u1 u2 u3 u4 u5 u6 u7 u8 u9 u10 u11 u12 u13 bu0 bu1 bu3 bu5 bu6 bu7 bu8 bu9 bu11 bu12 W).mono fun e W' ⟨he, hb⟩ => ?_
  subst he
  exact ⟨_, rfl, law_post hW' rfl rfl rfl (trodAll_cons_mk (again (by kernel_rfl) (of_decide_eq_true (by kernel_rfl)) hr0 hb (fun x hx => by simp at hx)) (trodAll_mk0)) hb⟩

set_option maxRecDepth 100000 in
theorem lifted (os : Os) (started : os.Started) (H : Type) (enc : TypeId × Value → H) :
    ReturnsInHanded {} Try.checked os 5 .any (Rows.fnCloneSpec.pre6 enc Try.prog Try.f5 Rows.fnCloneRow.domain false) (Rows.fnCloneSpec.post enc Try.prog Try.f5 false true false false) := by
  refine returnsInHanded_of_change_sized (C := Try.checked) own started (by kernel_rfl) Try.func5
    (ChangeSpec.witness6 (enc := enc) (C := Try.checked) false ⟨#[], #[.agg #[.string ByteArray.empty, .string ByteArray.empty, .bool false, .string ByteArray.empty, .bool false, .string ByteArray.empty, .string ByteArray.empty, .string ByteArray.empty, .string ByteArray.empty, .string ByteArray.empty, .bool false, .string ByteArray.empty, .string ByteArray.empty, .bool false]], []⟩ 8 (by kernel_rfl) (by kernel_rfl) (by kernel_rfl) (by kernel_rfl)) ?_
  intro W base args ds gs before hval hW _ hsz _
  exact contract H enc W base args ds gs before hval hW hsz

theorem proved : Rows.FnCloneSaid :=
  OpenClaim.holds_of_wide 5 Try.f5 rfl rfl rfl rfl rfl rfl rfl ⟨rfl, rfl, rfl, rfl, rfl⟩ rfl rfl rfl rfl rfl (by kernel_rfl) Try.func5 (by kernel_rfl)
    (of_decide_eq_true (by kernel_rfl)) (by unfold Func.isWrapper; first | (rw [if_pos (by decide +kernel)]; kernel_rfl) | (rw [if_neg (by decide +kernel)]; exact ⟨rfl, rfl⟩))
    (fun os started H enc _ => lifted os started H enc)
end Go.Proofs.Ytpjponoafebboaa.fnClone
