/- The last step of a law's row: the call returned true and nothing that lay in memory before it has changed. Conditions: the specification says 'true, and each argument as it was'; the row bears no 'again'. -/
import Derived.Test.YtkakkcmpincggaaDoorRows
import Derived.WalkKit
import Derived.ProofKit
import Derived.OpenShut
import Derived.ShutString
import Derived.Carry
import Derived.SizedLaws
namespace Go.Proofs.YtkakkcmpincggaaDoor
open Go.ChangeShapes Go.WideShapes Go.ChangeAt Go.RowKit

theorem own : ownKnob Tryd.prog.godebug = none := by kernel_rfl
theorem laidOut : laidOutB Tryd.prog = true := by kernel_rfl

theorem law_post {H : Type} {enc : TypeId × Value → H} {f : Func} {s : ChangeSpec} {W W' : World} {args : Array Value} {ds : List (DataW H)} {before : List MemPlace}
    (hW : DataW.Whole enc Tryd.prog f.params.toList s.vars false W args.toList ds [] before) (hv : s.vars = [])
    (hr : f.resultTypes = #[4]) (hs : s.fn H ds = { results := [.lit (.bool true)], args := ds })
    (hargs : DataW.TrodAll enc Tryd.prog W' 0 (fun b => decide (b < W.heap.size)) true f.params.toList args.toList ds before)
    (hb : Below W.heap.size W W') :
    s.post enc Tryd.prog f false true false false W args (.bool true) W' := by
  have hs' : s.fn H (ds ++ []) = { results := [.lit (.bool true)], args := ds } := by rw [List.append_nil]; exact hs
  refine ⟨ds, [], before, [], before, [], hW, ?_, ?_, ?_, ?_, fun h => by cases h⟩
  · rw [hs', hr]
    exact trodAll_cons_mk (shut_bool Tryd.underlying4 true) trodAll_mk0
  · rw [hs']
    exact hargs
  · rw [hs', hv]
    rfl
  · exact World.keptBut_mono (fun p hp => ⟨hp, Or.inr (Or.inl hp)⟩) (hb.frame (· ∈ before))

/-- an argument that reads below the heap's size reads so still -/
theorem again {H : Type} {enc : TypeId × Value → H} {t : TypeId} (hr : Tryd.prog.readableRec t = true) (hrow : t < Tryd.prog.types.size) {W W' : World} {v : Value} {d : DataW H} {ps : List MemPlace}
    (h : DataW.Trod enc Tryd.prog W 0 (fun _ => true) true t v d ps) (hb : Below W.heap.size W W') (hlt : ∀ x ∈ ps, x.block < W.heap.size) :
    DataW.Trod enc Tryd.prog W' 0 (fun b => decide (b < W.heap.size)) true t v d ps := Below.trod laidOut hr hrow h hb hlt

theorem reach_lt {n : Nat} (h : n ≤ reachBytes) : n < 140737488355328 := by
  have h2 := reachBytes_lt
  have e3 : (2 : Nat) ^ 47 = 140737488355328 := by decide
  omega
end Go.Proofs.YtkakkcmpincggaaDoor
