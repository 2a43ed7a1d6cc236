/- What FnRequestQuery returns, where memory holds the table. -/
import Derived.Test.YtkakkcmpincggaaDoorRequest
namespace Go.Proofs.YtkakkcmpincggaaDoor
open Go.RowKit

theorem rqBase_size (sch op p raw : ByteArray) : (rqBase sch op p raw).size ≤ sch.size + op.size + (epB p raw).size + 1 := by
  unfold rqBase
  split
  · split
    · show 1 ≤ _; omega
    · omega
  · split
    · rw [ByteArray.size_append, ByteArray.size_append]; show _ + 1 + _ ≤ _; omega
    · omega
theorem rqB_none (sch op p raw : ByteArray) : rqB sch op p raw ⟨#[]⟩ false = rqBase sch op p raw := by
  unfold rqB
  rw [(empty_iff ⟨#[]⟩).2 rfl]
  rfl
theorem rqB_query (sch op p raw q : ByteArray) (h : q.toList.isEmpty = false) : rqB sch op p raw q false = rqBase sch op p raw ++ ⟨#[63]⟩ ++ q := by
  unfold rqB
  rw [h]
  refine S_ext ?_
  simp only [Bool.false_or, Bool.not_false, if_true, data_app, List.append_assoc]

set_option maxHeartbeats 4000000 in
theorem fnRequestQuery_walk (u0 : ByteArray) (u1 : ByteArray) (u2 : Bool) (u3 : ByteArray) (u4 : Bool) (u5 : ByteArray) (u6 : ByteArray) (u7 : ByteArray) (u8 : ByteArray) (u9 : ByteArray) (u10 : Bool) (u11 : ByteArray) (u12 : ByteArray) (u13 : Bool) (q : ByteArray) (h0 : u0.size ≤ 1048576) (h1 : u1.size ≤ 1048576) (_h3 : u3.size ≤ 1048576) (_h5 : u5.size ≤ 1048576) (_h6 : u6.size ≤ 1048576) (h7 : u7.size ≤ 1048576) (h8 : u8.size ≤ 1048576) (_h9 : u9.size ≤ 1048576) (_h11 : u11.size ≤ 1048576) (_h12 : u12.size ≤ 1048576) (hq : q.size ≤ 1048576) (w : World) (hT : Tab w) :
    Calls Tryd.prog 12 #[.agg #[.string u0, .string u1, .bool u2, .string u3, .bool u4, .string u5, .string u6, .string u7, .string u8, .string u9, .bool u10, .string u11, .string u12, .bool u13], .string q] w fun e w' => e = .returned (.bool true) ∧ Below w.heap.size w w' := by
  have HT := Lib.hid hT
  clear hT
  have z0 : (⟨#[]⟩ : ByteArray).size < 140737488355328 := by decide
  have hez := epB_size u7 u8
  have hrz := rqBase_size u0 u1 u7 u8
  have hz : (rqBase u0 u1 u7 u8).size < 1407374883553280 := by omega
  clear hez hrz
  cases hqe : q.toList.isEmpty
  · have HR1 := Lib.hid (rqB_none u0 u1 u7 u8)
    have HR2 := Lib.hid (rqB_query u0 u1 u7 u8 q hqe)
    have hg : 0 < w.heap.size := HT.out.1
    go_enter Tryd.func12, Tryd.ntmps12
    go_wp2_with fail
    have hB1 : Below w.heap.size w (w.alloc (.cells #[.string u0, .string u1, .bool u2, .string u3, .bool u4, .string u5, .string u6, .string u7, .string u8, .string ⟨#[]⟩, .bool false, .string u11, .string u12, .bool u13] 34)) := (Below.refl _ _).alloc (Nat.le_refl _) _
    refine (implRQ_any _ _ _ _ _ _ _ _ _ _ _ _ _ _ _ (by omega) (by omega) (by omega) (by omega) z0 (HT.out.below hB1)).mono ?_
    rintro e w1 ⟨rfl, hb1⟩
    rw [HR1.out]
    have y0 : w1.cell? ⟨w.heap.size, 0, none⟩ = some (.string u0) := (hb1.cell (p := ⟨w.heap.size, 0, none⟩) (by simp)).trans (by go_simp)
    have y1 : w1.cell? ⟨w.heap.size, 1, none⟩ = some (.string u1) := (hb1.cell (p := ⟨w.heap.size, 1, none⟩) (by simp)).trans (by go_simp)
    have y2 : w1.cell? ⟨w.heap.size, 2, none⟩ = some (.bool u2) := (hb1.cell (p := ⟨w.heap.size, 2, none⟩) (by simp)).trans (by go_simp)
    have y3 : w1.cell? ⟨w.heap.size, 3, none⟩ = some (.string u3) := (hb1.cell (p := ⟨w.heap.size, 3, none⟩) (by simp)).trans (by go_simp)
    have y4 : w1.cell? ⟨w.heap.size, 4, none⟩ = some (.bool u4) := (hb1.cell (p := ⟨w.heap.size, 4, none⟩) (by simp)).trans (by go_simp)
    have y5 : w1.cell? ⟨w.heap.size, 5, none⟩ = some (.string u5) := (hb1.cell (p := ⟨w.heap.size, 5, none⟩) (by simp)).trans (by go_simp)
    have y6 : w1.cell? ⟨w.heap.size, 6, none⟩ = some (.string u6) := (hb1.cell (p := ⟨w.heap.size, 6, none⟩) (by simp)).trans (by go_simp)
    have y7 : w1.cell? ⟨w.heap.size, 7, none⟩ = some (.string u7) := (hb1.cell (p := ⟨w.heap.size, 7, none⟩) (by simp)).trans (by go_simp)
    have y8 : w1.cell? ⟨w.heap.size, 8, none⟩ = some (.string u8) := (hb1.cell (p := ⟨w.heap.size, 8, none⟩) (by simp)).trans (by go_simp)
    have y9 : w1.cell? ⟨w.heap.size, 9, none⟩ = some (.string ⟨#[]⟩) := (hb1.cell (p := ⟨w.heap.size, 9, none⟩) (by simp)).trans (by go_simp)
    have y10 : w1.cell? ⟨w.heap.size, 10, none⟩ = some (.bool false) := (hb1.cell (p := ⟨w.heap.size, 10, none⟩) (by simp)).trans (by go_simp)
    have y11 : w1.cell? ⟨w.heap.size, 11, none⟩ = some (.string u11) := (hb1.cell (p := ⟨w.heap.size, 11, none⟩) (by simp)).trans (by go_simp)
    have y12 : w1.cell? ⟨w.heap.size, 12, none⟩ = some (.string u12) := (hb1.cell (p := ⟨w.heap.size, 12, none⟩) (by simp)).trans (by go_simp)
    have y13 : w1.cell? ⟨w.heap.size, 13, none⟩ = some (.bool u13) := (hb1.cell (p := ⟨w.heap.size, 13, none⟩) (by simp)).trans (by go_simp)
    have f9 : w1.frozen? ⟨w.heap.size, 9, none⟩ = false := (hb1.frozen (p := ⟨w.heap.size, 9, none⟩) (by simp)).trans (by go_simp)
    have hc1 := hB1.trans (hb1.mono hB1.size)
    have HT1 := Lib.hid ((HT.out.below hc1).set (p := ⟨w.heap.size, 9, none⟩) (by show _ ≠ w.heap.size; omega) (.string q))
    have hc2 := hc1.setCell (p := ⟨w.heap.size, 9, none⟩) (Nat.le_refl _) (.string q)
    clear hb1 hB1 hc1
    go_wp2_with fail
    refine (implRQ_any _ _ _ _ _ _ _ _ _ _ _ _ _ _ _ (by omega) (by omega) (by omega) (by omega) (by omega) HT1.out).mono ?_
    rintro e w2 ⟨rfl, hb2⟩
    rw [HR2.out]
    go_wp2_with fail
    go_ret
    exact ⟨rfl, hc2.trans (hb2.mono hc2.size)⟩
  · go_enter Tryd.func12, Tryd.ntmps12
    go_wp2_with fail
    go_ret
    exact ⟨rfl, (Below.refl _ _).alloc (Nat.le_refl _) _⟩
end Go.Proofs.YtkakkcmpincggaaDoor
