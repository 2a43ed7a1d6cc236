/- What impl.EscapedFragment returns, where memory holds the table, and its laws. -/
import Derived.Test.YtkakkcmpincggaaDoorEscLaw
import Derived.Test.YtkakkcmpincggaaDoorEscFragment
import Derived.Test.YtkakkcmpincggaaDoorSpecSets
namespace Go.Proofs.YtkakkcmpincggaaDoor
open Go.RowKit

theorem decode_efL (v r : List UInt8) : plain.decode (efL v r) = some v := by
  by_cases hk : keptFragment v r
  · rw [efL_kept hk]; exact hk.2.2
  · rw [efL_made hk]; exact decode_encP esc_pct64 v
theorem efL_ne {v r : List UInt8} (h : v ≠ []) : efL v r ≠ [] := by
  intro e
  have := decode_efL v r
  rw [e] at this
  exact h (Option.some.inj this).symm
theorem not_keptF_nil (v : List UInt8) : ¬ keptFragment v [] := fun h => h.1 rfl
theorem efL_size (v r : List UInt8) : (efL v r).length ≤ 3 * v.length + r.length := by
  by_cases hk : keptFragment v r
  · rw [efL_kept hk]; omega
  · rw [efL_made hk]; have := encP_le 64 v; omega

/-- the escaped form of a fragment and its raw one -/
noncomputable def efB (p r : ByteArray) : ByteArray := S (efL p.data.toList r.data.toList)
theorem efB_ne {p r : ByteArray} (h : p.data.toList ≠ []) : (efB p r).toList.isEmpty = false := nonempty_of (by rw [efB, data_S]; exact efL_ne h)
theorem efB_size (p r : ByteArray) : (efB p r).size ≤ 3 * p.size + r.size := by
  rw [efB, S_size, ← size_data p, ← size_data r]; exact efL_size _ _
theorem escFB_any (b : Nat) (v r : ByteArray) (w : World) (hb : b < w.heap.size) (c0 : w.cell? ⟨b, 5, none⟩ = some (.string v)) (c1 : w.cell? ⟨b, 8, none⟩ = some (.string r)) (hv : v.size ≤ 4194304) (hr : r.size < 140737488355328) (hT : Tab w) :
    Calls Tryd.prog 22 #[.pointer (some ⟨b, 0, none⟩)] w fun e w' => e = .returned (.string (efB v r)) ∧ Below w.heap.size w w' := escFragment_any b v r w hb c0 c1 hv hr hT

theorem implEF_any (p r : ByteArray) (w : World) (hp : p.size ≤ 4194304) (hr : r.size < 140737488355328) (hT : Tab w) :
    Calls Tryd.prog 13 #[.string p, .string r] w fun e w' => e = .returned (.string (efB p r)) ∧ Below w.heap.size w w' := by
  have HT := Lib.hid hT
  clear hT
  go_enter Tryd.func13, Tryd.ntmps13
  go_wp2_with fail
  refine (escFB_any _ p r _ ?_ ?_ ?_ hp hr ?_).mono ?_
  · simp
  · go_simp
  · go_simp
  · exact HT.out.below ((Below.refl _ _).alloc (Nat.le_refl _) _)
  rintro e w1 ⟨rfl, hb⟩
  go_wp2_with fail
  go_ret
  exact ⟨rfl, ((Below.refl _ _).alloc (Nat.le_refl _) _).trans (hb.mono (by simp))⟩

theorem implEF_kept (p r : ByteArray) (w : World) (hr : r.size < 140737488355328) (hT : Tab w) (hk : keptFragment p.data.toList r.data.toList) :
    Calls Tryd.prog 13 #[.string p, .string r] w fun e w' => e = .returned (.string r) ∧ Below w.heap.size w w' := by
  have HT := Lib.hid hT
  have HK := Lib.hid hk
  clear hT hk
  go_enter Tryd.func13, Tryd.ntmps13
  go_wp2_with fail
  refine (escFragment_kept _ p r _ ?_ ?_ ?_ hr ?_ HK.out).mono ?_
  · simp
  · go_simp
  · go_simp
  · exact HT.out.below ((Below.refl _ _).alloc (Nat.le_refl _) _)
  rintro e w1 ⟨rfl, hb⟩
  go_wp2_with fail
  go_ret
  exact ⟨rfl, ((Below.refl _ _).alloc (Nat.le_refl _) _).trans (hb.mono (by simp))⟩
end Go.Proofs.YtkakkcmpincggaaDoor
