/- What FnRequestPath returns, where memory holds the table. -/
import Derived.Test.YtgaiphodohldlaaDoorRequest
import Derived.Test.YtgaiphodohldlaaDoorImplEP
namespace Go.Proofs.YtgaiphodohldlaaDoor
open Go.RowKit

theorem rqBase_ne (sch op p raw : ByteArray) : (rqBase sch op p raw).data.toList ≠ [] := by
  unfold rqBase
  cases ho : op.toList.isEmpty
  · simp only [Bool.false_eq_true, if_false]
    split
    · rw [data_app, data_app]; simp
    · exact ne_nil ho
  · simp only [if_true]
    split
    · simp
    · rename_i h; exact ne_nil (by simpa using h)
theorem rqB_ne (sch op p raw q : ByteArray) (force : Bool) : (rqB sch op p raw q force).toList.isEmpty = false := by
  refine nonempty_of ?_
  unfold rqB
  split
  · rw [data_app, data_app]; simp
  · exact rqBase_ne _ _ _ _
theorem rqB_path (p raw : ByteArray) (h : p.toList.isEmpty = false) : rqB ⟨#[]⟩ ⟨#[]⟩ p raw ⟨#[]⟩ false = epB p raw := by
  have he : (epB p raw).toList.isEmpty = false := epB_ne (ne_nil h)
  have e0 : (⟨#[]⟩ : ByteArray).toList.isEmpty = true := (empty_iff _).2 rfl
  unfold rqB rqBase
  rw [e0, he]
  rfl
theorem rqB_scheme (a b op p raw q : ByteArray) (force : Bool) (h : op.toList.isEmpty = true) : rqB a op p raw q force = rqB b op p raw q force := by
  unfold rqB rqBase
  rw [h]
  rfl

set_option maxHeartbeats 1000000 in
theorem fnRequestPath_walk (p r : ByteArray) (hp : p.size ≤ 1048576) (hr : r.size ≤ 1048576) (w : World) (hT : Tab w) :
    Calls Tryd.prog 12 #[.string p, .string r] w fun e w' => e = .returned (.bool true) ∧ Below w.heap.size w w' := by
  have HT := Lib.hid hT
  clear hT
  have z0 : (⟨#[]⟩ : ByteArray).size < 140737488355328 := by decide
  cases he : p.toList.isEmpty
  · have HR := Lib.hid (rqB_path p r he)
    have hne : (epB p r).toList.isEmpty = false := epB_ne (ne_nil he)
    go_enter Tryd.func12, Tryd.ntmps12
    go_wp2_with fail
    refine (implRQ_any _ _ _ _ _ _ _ _ _ _ _ _ _ _ _ z0 z0 (by omega) (by omega) z0 HT.out).mono ?_
    rintro e w1 ⟨rfl, hb1⟩
    rw [HR.out]
    have HT1 := Lib.hid (HT.out.below hb1)
    go_wp2_with fail
    refine (implEP_any _ _ _ (by omega) (by omega) HT1.out).mono ?_
    rintro e w2 ⟨rfl, hb2⟩
    go_wp2_with fail
    go_ret
    exact ⟨rfl, hb1.trans (hb2.mono hb1.size)⟩
  · go_enter Tryd.func12, Tryd.ntmps12
    go_wp2_with fail
    refine (implRQ_any _ _ _ _ _ _ _ _ _ _ _ _ _ _ _ z0 z0 (by omega) (by omega) z0 HT.out).mono ?_
    rintro e w1 ⟨rfl, hb1⟩
    go_wp2_with fail
    go_ret
    exact ⟨rfl, hb1⟩
end Go.Proofs.YtgaiphodohldlaaDoor
