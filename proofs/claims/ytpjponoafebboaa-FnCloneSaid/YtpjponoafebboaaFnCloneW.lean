/- What FnClone returns, for every URL that the form reaches. -/
import Derived.Test.YtpjponoafebboaaCloneTidy
import Derived.RegionTactic
import Derived.Deep.RegionWith
namespace Go.Proofs.Ytpjponoafebboaa
open Go.RowKit

set_option maxHeartbeats 3200000 in
theorem fnClone_off (u0 u1 u3 : ByteArray) (u4 : Bool) (u5 : ByteArray) (u6 u7 u8 u9 : ByteArray) (u10 : Bool) (u11 u12 : ByteArray) (u13 : Bool) (w : World) (h0 : u0.size < 140737488355328)
    (HT : Hid (∀ wx, Calls Try.prog 16 #[.agg #[.string u0, .string u1, .bool false, .string u3, .bool u4, .string u5, .string u6, .string u7, .string u8, .string u9, .bool u10, .string u11, .string u12, .bool u13]] wx fun e w' => e = .returned (urlV u0 u1 false ⟨#[]⟩ false ⟨#[]⟩ u6 u7 u8 u9 u10 u11 u12 u13) ∧ Below wx.heap.size wx w'))
    (HC : Hid (∀ wx, Calls Try.prog 17 #[.agg #[.string (u0 ++ ⟨#[120]⟩), .string u1, .bool false, .string ⟨#[]⟩, .bool false, .string ⟨#[]⟩, .string u6, .string u7, .string u8, .string u9, .bool u10, .string u11, .string u12, .bool u13]] wx fun e w' => e = .returned (urlV (u0 ++ ⟨#[120]⟩) u1 false ⟨#[]⟩ false ⟨#[]⟩ u6 u7 u8 u9 u10 u11 u12 u13) ∧ Below wx.heap.size wx w')) :
    Calls Try.prog 5 #[.agg #[.string u0, .string u1, .bool false, .string u3, .bool u4, .string u5, .string u6, .string u7, .string u8, .string u9, .bool u10, .string u11, .string u12, .bool u13]] w fun e w' => e = .returned (.bool true) ∧ Below w.heap.size w w' := by
  go_enter Try.func5, Try.ntmps5
  go_wp2_with fail
  refine (HT.out _).mono ?_
  rintro e w1 ⟨rfl, hb⟩
  have z0 : w1.cell? ⟨w.heap.size, 0, none⟩ = some (.string u0) := (hb.cell (p := ⟨w.heap.size, 0, none⟩) (by simp)).trans (by go_simp)
  have f0 : w1.frozen? ⟨w.heap.size, 0, none⟩ = false := (hb.frozen (p := ⟨w.heap.size, 0, none⟩) (by simp)).trans (by go_simp)
  have z1 : w1.cell? ⟨w.heap.size, 1, none⟩ = some (.string u1) := (hb.cell (p := ⟨w.heap.size, 1, none⟩) (by simp)).trans (by go_simp)
  have f1 : w1.frozen? ⟨w.heap.size, 1, none⟩ = false := (hb.frozen (p := ⟨w.heap.size, 1, none⟩) (by simp)).trans (by go_simp)
  have z2 : w1.cell? ⟨w.heap.size, 2, none⟩ = some (.bool false) := (hb.cell (p := ⟨w.heap.size, 2, none⟩) (by simp)).trans (by go_simp)
  have f2 : w1.frozen? ⟨w.heap.size, 2, none⟩ = false := (hb.frozen (p := ⟨w.heap.size, 2, none⟩) (by simp)).trans (by go_simp)
  have z3 : w1.cell? ⟨w.heap.size, 3, none⟩ = some (.string u3) := (hb.cell (p := ⟨w.heap.size, 3, none⟩) (by simp)).trans (by go_simp)
  have f3 : w1.frozen? ⟨w.heap.size, 3, none⟩ = false := (hb.frozen (p := ⟨w.heap.size, 3, none⟩) (by simp)).trans (by go_simp)
  have z4 : w1.cell? ⟨w.heap.size, 4, none⟩ = some (.bool u4) := (hb.cell (p := ⟨w.heap.size, 4, none⟩) (by simp)).trans (by go_simp)
  have f4 : w1.frozen? ⟨w.heap.size, 4, none⟩ = false := (hb.frozen (p := ⟨w.heap.size, 4, none⟩) (by simp)).trans (by go_simp)
  have z5 : w1.cell? ⟨w.heap.size, 5, none⟩ = some (.string u5) := (hb.cell (p := ⟨w.heap.size, 5, none⟩) (by simp)).trans (by go_simp)
  have f5 : w1.frozen? ⟨w.heap.size, 5, none⟩ = false := (hb.frozen (p := ⟨w.heap.size, 5, none⟩) (by simp)).trans (by go_simp)
  have z6 : w1.cell? ⟨w.heap.size, 6, none⟩ = some (.string u6) := (hb.cell (p := ⟨w.heap.size, 6, none⟩) (by simp)).trans (by go_simp)
  have f6 : w1.frozen? ⟨w.heap.size, 6, none⟩ = false := (hb.frozen (p := ⟨w.heap.size, 6, none⟩) (by simp)).trans (by go_simp)
  have z7 : w1.cell? ⟨w.heap.size, 7, none⟩ = some (.string u7) := (hb.cell (p := ⟨w.heap.size, 7, none⟩) (by simp)).trans (by go_simp)
  have f7 : w1.frozen? ⟨w.heap.size, 7, none⟩ = false := (hb.frozen (p := ⟨w.heap.size, 7, none⟩) (by simp)).trans (by go_simp)
  have z8 : w1.cell? ⟨w.heap.size, 8, none⟩ = some (.string u8) := (hb.cell (p := ⟨w.heap.size, 8, none⟩) (by simp)).trans (by go_simp)
  have f8 : w1.frozen? ⟨w.heap.size, 8, none⟩ = false := (hb.frozen (p := ⟨w.heap.size, 8, none⟩) (by simp)).trans (by go_simp)
  have z9 : w1.cell? ⟨w.heap.size, 9, none⟩ = some (.string u9) := (hb.cell (p := ⟨w.heap.size, 9, none⟩) (by simp)).trans (by go_simp)
  have f9 : w1.frozen? ⟨w.heap.size, 9, none⟩ = false := (hb.frozen (p := ⟨w.heap.size, 9, none⟩) (by simp)).trans (by go_simp)
  have z10 : w1.cell? ⟨w.heap.size, 10, none⟩ = some (.bool u10) := (hb.cell (p := ⟨w.heap.size, 10, none⟩) (by simp)).trans (by go_simp)
  have f10 : w1.frozen? ⟨w.heap.size, 10, none⟩ = false := (hb.frozen (p := ⟨w.heap.size, 10, none⟩) (by simp)).trans (by go_simp)
  have z11 : w1.cell? ⟨w.heap.size, 11, none⟩ = some (.string u11) := (hb.cell (p := ⟨w.heap.size, 11, none⟩) (by simp)).trans (by go_simp)
  have f11 : w1.frozen? ⟨w.heap.size, 11, none⟩ = false := (hb.frozen (p := ⟨w.heap.size, 11, none⟩) (by simp)).trans (by go_simp)
  have z12 : w1.cell? ⟨w.heap.size, 12, none⟩ = some (.string u12) := (hb.cell (p := ⟨w.heap.size, 12, none⟩) (by simp)).trans (by go_simp)
  have f12 : w1.frozen? ⟨w.heap.size, 12, none⟩ = false := (hb.frozen (p := ⟨w.heap.size, 12, none⟩) (by simp)).trans (by go_simp)
  have z13 : w1.cell? ⟨w.heap.size, 13, none⟩ = some (.bool u13) := (hb.cell (p := ⟨w.heap.size, 13, none⟩) (by simp)).trans (by go_simp)
  have f13 : w1.frozen? ⟨w.heap.size, 13, none⟩ = false := (hb.frozen (p := ⟨w.heap.size, 13, none⟩) (by simp)).trans (by go_simp)
  have hz : w.heap.size < w1.heap.size := by have := hb.size; simp at this; omega
  have hB : Below w.heap.size w w1 := ((Below.refl _ w).alloc (Nat.le_refl _) _).trans (hb.mono (by simp))
  clear hb
  simp only [urlV] at HC ⊢
  go_wp2_with fail
  obtain ⟨w2, hW⟩ : ∃ x : World, x = (((((((((((((((w1.setCell ⟨w.heap.size, 0, none⟩ (.string u0)).setCell ⟨w.heap.size, 1, none⟩ (.string u1)).setCell ⟨w.heap.size, 2, none⟩ (.bool false)).setCell ⟨w.heap.size, 3, none⟩ (.string ⟨#[]⟩)).setCell ⟨w.heap.size, 4, none⟩ (.bool false)).setCell ⟨w.heap.size, 5, none⟩ (.string ⟨#[]⟩)).setCell ⟨w.heap.size, 6, none⟩ (.string u6)).setCell ⟨w.heap.size, 7, none⟩ (.string u7)).setCell ⟨w.heap.size, 8, none⟩ (.string u8)).setCell ⟨w.heap.size, 9, none⟩ (.string u9)).setCell ⟨w.heap.size, 10, none⟩ (.bool u10)).setCell ⟨w.heap.size, 11, none⟩ (.string u11)).setCell ⟨w.heap.size, 12, none⟩ (.string u12)).setCell ⟨w.heap.size, 13, none⟩ (.bool u13)).setCell ⟨w.heap.size, 0, none⟩ (.string (u0 ++ ⟨#[120]⟩))) := ⟨_, rfl⟩
  rw [← hW]
  have hB2 : Below w.heap.size w w2 := by
    subst hW
    repeat (refine Below.setCell ?_ (by simp) _)
    exact hB
  have hz2 : w.heap.size < w2.heap.size := by subst hW; simpa [World.setCell] using hz
  have y0 : w2.cell? ⟨w.heap.size, 0, none⟩ = some (.string (u0 ++ ⟨#[120]⟩)) := by subst hW; go_simp
  have y1 : w2.cell? ⟨w.heap.size, 1, none⟩ = some (.string u1) := by subst hW; go_simp
  have y2 : w2.cell? ⟨w.heap.size, 2, none⟩ = some (.bool false) := by subst hW; go_simp
  have y3 : w2.cell? ⟨w.heap.size, 3, none⟩ = some (.string ⟨#[]⟩) := by subst hW; go_simp
  have y4 : w2.cell? ⟨w.heap.size, 4, none⟩ = some (.bool false) := by subst hW; go_simp
  have y5 : w2.cell? ⟨w.heap.size, 5, none⟩ = some (.string ⟨#[]⟩) := by subst hW; go_simp
  have y6 : w2.cell? ⟨w.heap.size, 6, none⟩ = some (.string u6) := by subst hW; go_simp
  have y7 : w2.cell? ⟨w.heap.size, 7, none⟩ = some (.string u7) := by subst hW; go_simp
  have y8 : w2.cell? ⟨w.heap.size, 8, none⟩ = some (.string u8) := by subst hW; go_simp
  have y9 : w2.cell? ⟨w.heap.size, 9, none⟩ = some (.string u9) := by subst hW; go_simp
  have y10 : w2.cell? ⟨w.heap.size, 10, none⟩ = some (.bool u10) := by subst hW; go_simp
  have y11 : w2.cell? ⟨w.heap.size, 11, none⟩ = some (.string u11) := by subst hW; go_simp
  have y12 : w2.cell? ⟨w.heap.size, 12, none⟩ = some (.string u12) := by subst hW; go_simp
  have y13 : w2.cell? ⟨w.heap.size, 13, none⟩ = some (.bool u13) := by subst hW; go_simp
  clear hW hB hz z0 f0 z1 f1 z2 f2 z3 f3 z4 f4 z5 f5 z6 f6 z7 f7 z8 f8 z9 f9 z10 f10 z11 f11 z12 f12 z13 f13 h0 HT
  go_region_with (go_at_call 17; refine (HC.out _).mono ?_; rintro e w3 ⟨rfl, hb3⟩; have hb4 := hb3; have x0 := (hb4.cell (p := ⟨w.heap.size, 0, none⟩) hz2).trans y0; have x1 := (hb4.cell (p := ⟨w.heap.size, 1, none⟩) hz2).trans y1; have x2 := (hb4.cell (p := ⟨w.heap.size, 2, none⟩) hz2).trans y2; have x3 := (hb4.cell (p := ⟨w.heap.size, 3, none⟩) hz2).trans y3; have x4 := (hb4.cell (p := ⟨w.heap.size, 4, none⟩) hz2).trans y4; have x5 := (hb4.cell (p := ⟨w.heap.size, 5, none⟩) hz2).trans y5; have x6 := (hb4.cell (p := ⟨w.heap.size, 6, none⟩) hz2).trans y6; have x7 := (hb4.cell (p := ⟨w.heap.size, 7, none⟩) hz2).trans y7; have x8 := (hb4.cell (p := ⟨w.heap.size, 8, none⟩) hz2).trans y8; have x9 := (hb4.cell (p := ⟨w.heap.size, 9, none⟩) hz2).trans y9; have x10 := (hb4.cell (p := ⟨w.heap.size, 10, none⟩) hz2).trans y10; have x11 := (hb4.cell (p := ⟨w.heap.size, 11, none⟩) hz2).trans y11; have x12 := (hb4.cell (p := ⟨w.heap.size, 12, none⟩) hz2).trans y12; have x13 := (hb4.cell (p := ⟨w.heap.size, 13, none⟩) hz2).trans y13; clear hb4)
  all_goals (go_wp2_with fail; go_ret; exact ⟨rfl, hB2.drew.trans (hb3.mono (Nat.le_of_lt hz2))⟩)

set_option maxHeartbeats 3200000 in
theorem fnClone_on (u0 u1 u3 : ByteArray) (u4 : Bool) (u5 : ByteArray) (u6 u7 u8 u9 : ByteArray) (u10 : Bool) (u11 u12 : ByteArray) (u13 : Bool) (w : World) (h0 : u0.size < 140737488355328)
    (HT : Hid (∀ wx, Calls Try.prog 16 #[.agg #[.string u0, .string u1, .bool true, .string u3, .bool u4, .string u5, .string u6, .string u7, .string u8, .string u9, .bool u10, .string u11, .string u12, .bool u13]] wx fun e w' => e = .returned (urlV u0 u1 true u3 u4 (pwOf u5 u4) u6 u7 u8 u9 u10 u11 u12 u13) ∧ Below wx.heap.size wx w'))
    (HC : Hid (∀ wx, Calls Try.prog 17 #[.agg #[.string (u0 ++ ⟨#[120]⟩), .string u1, .bool true, .string u3, .bool u4, .string (pwOf u5 u4), .string u6, .string u7, .string u8, .string u9, .bool u10, .string u11, .string u12, .bool u13]] wx fun e w' => e = .returned (urlV (u0 ++ ⟨#[120]⟩) u1 true u3 u4 (pwOf u5 u4) u6 u7 u8 u9 u10 u11 u12 u13) ∧ Below wx.heap.size wx w')) :
    Calls Try.prog 5 #[.agg #[.string u0, .string u1, .bool true, .string u3, .bool u4, .string u5, .string u6, .string u7, .string u8, .string u9, .bool u10, .string u11, .string u12, .bool u13]] w fun e w' => e = .returned (.bool true) ∧ Below w.heap.size w w' := by
  go_enter Try.func5, Try.ntmps5
  go_wp2_with fail
  refine (HT.out _).mono ?_
  rintro e w1 ⟨rfl, hb⟩
  have z0 : w1.cell? ⟨w.heap.size, 0, none⟩ = some (.string u0) := (hb.cell (p := ⟨w.heap.size, 0, none⟩) (by simp)).trans (by go_simp)
  have f0 : w1.frozen? ⟨w.heap.size, 0, none⟩ = false := (hb.frozen (p := ⟨w.heap.size, 0, none⟩) (by simp)).trans (by go_simp)
  have z1 : w1.cell? ⟨w.heap.size, 1, none⟩ = some (.string u1) := (hb.cell (p := ⟨w.heap.size, 1, none⟩) (by simp)).trans (by go_simp)
  have f1 : w1.frozen? ⟨w.heap.size, 1, none⟩ = false := (hb.frozen (p := ⟨w.heap.size, 1, none⟩) (by simp)).trans (by go_simp)
  have z2 : w1.cell? ⟨w.heap.size, 2, none⟩ = some (.bool true) := (hb.cell (p := ⟨w.heap.size, 2, none⟩) (by simp)).trans (by go_simp)
  have f2 : w1.frozen? ⟨w.heap.size, 2, none⟩ = false := (hb.frozen (p := ⟨w.heap.size, 2, none⟩) (by simp)).trans (by go_simp)
  have z3 : w1.cell? ⟨w.heap.size, 3, none⟩ = some (.string u3) := (hb.cell (p := ⟨w.heap.size, 3, none⟩) (by simp)).trans (by go_simp)
  have f3 : w1.frozen? ⟨w.heap.size, 3, none⟩ = false := (hb.frozen (p := ⟨w.heap.size, 3, none⟩) (by simp)).trans (by go_simp)
  have z4 : w1.cell? ⟨w.heap.size, 4, none⟩ = some (.bool u4) := (hb.cell (p := ⟨w.heap.size, 4, none⟩) (by simp)).trans (by go_simp)
  have f4 : w1.frozen? ⟨w.heap.size, 4, none⟩ = false := (hb.frozen (p := ⟨w.heap.size, 4, none⟩) (by simp)).trans (by go_simp)
  have z5 : w1.cell? ⟨w.heap.size, 5, none⟩ = some (.string u5) := (hb.cell (p := ⟨w.heap.size, 5, none⟩) (by simp)).trans (by go_simp)
  have f5 : w1.frozen? ⟨w.heap.size, 5, none⟩ = false := (hb.frozen (p := ⟨w.heap.size, 5, none⟩) (by simp)).trans (by go_simp)
  have z6 : w1.cell? ⟨w.heap.size, 6, none⟩ = some (.string u6) := (hb.cell (p := ⟨w.heap.size, 6, none⟩) (by simp)).trans (by go_simp)
  have f6 : w1.frozen? ⟨w.heap.size, 6, none⟩ = false := (hb.frozen (p := ⟨w.heap.size, 6, none⟩) (by simp)).trans (by go_simp)
  have z7 : w1.cell? ⟨w.heap.size, 7, none⟩ = some (.string u7) := (hb.cell (p := ⟨w.heap.size, 7, none⟩) (by simp)).trans (by go_simp)
  have f7 : w1.frozen? ⟨w.heap.size, 7, none⟩ = false := (hb.frozen (p := ⟨w.heap.size, 7, none⟩) (by simp)).trans (by go_simp)
  have z8 : w1.cell? ⟨w.heap.size, 8, none⟩ = some (.string u8) := (hb.cell (p := ⟨w.heap.size, 8, none⟩) (by simp)).trans (by go_simp)
  have f8 : w1.frozen? ⟨w.heap.size, 8, none⟩ = false := (hb.frozen (p := ⟨w.heap.size, 8, none⟩) (by simp)).trans (by go_simp)
  have z9 : w1.cell? ⟨w.heap.size, 9, none⟩ = some (.string u9) := (hb.cell (p := ⟨w.heap.size, 9, none⟩) (by simp)).trans (by go_simp)
  have f9 : w1.frozen? ⟨w.heap.size, 9, none⟩ = false := (hb.frozen (p := ⟨w.heap.size, 9, none⟩) (by simp)).trans (by go_simp)
  have z10 : w1.cell? ⟨w.heap.size, 10, none⟩ = some (.bool u10) := (hb.cell (p := ⟨w.heap.size, 10, none⟩) (by simp)).trans (by go_simp)
  have f10 : w1.frozen? ⟨w.heap.size, 10, none⟩ = false := (hb.frozen (p := ⟨w.heap.size, 10, none⟩) (by simp)).trans (by go_simp)
  have z11 : w1.cell? ⟨w.heap.size, 11, none⟩ = some (.string u11) := (hb.cell (p := ⟨w.heap.size, 11, none⟩) (by simp)).trans (by go_simp)
  have f11 : w1.frozen? ⟨w.heap.size, 11, none⟩ = false := (hb.frozen (p := ⟨w.heap.size, 11, none⟩) (by simp)).trans (by go_simp)
  have z12 : w1.cell? ⟨w.heap.size, 12, none⟩ = some (.string u12) := (hb.cell (p := ⟨w.heap.size, 12, none⟩) (by simp)).trans (by go_simp)
  have f12 : w1.frozen? ⟨w.heap.size, 12, none⟩ = false := (hb.frozen (p := ⟨w.heap.size, 12, none⟩) (by simp)).trans (by go_simp)
  have z13 : w1.cell? ⟨w.heap.size, 13, none⟩ = some (.bool u13) := (hb.cell (p := ⟨w.heap.size, 13, none⟩) (by simp)).trans (by go_simp)
  have f13 : w1.frozen? ⟨w.heap.size, 13, none⟩ = false := (hb.frozen (p := ⟨w.heap.size, 13, none⟩) (by simp)).trans (by go_simp)
  have hz : w.heap.size < w1.heap.size := by have := hb.size; simp at this; omega
  have hB : Below w.heap.size w w1 := ((Below.refl _ w).alloc (Nat.le_refl _) _).trans (hb.mono (by simp))
  clear hb
  simp only [urlV] at HC ⊢
  go_wp2_with fail
  obtain ⟨w2, hW⟩ : ∃ x : World, x = (((((((((((((((w1.setCell ⟨w.heap.size, 0, none⟩ (.string u0)).setCell ⟨w.heap.size, 1, none⟩ (.string u1)).setCell ⟨w.heap.size, 2, none⟩ (.bool true)).setCell ⟨w.heap.size, 3, none⟩ (.string u3)).setCell ⟨w.heap.size, 4, none⟩ (.bool u4)).setCell ⟨w.heap.size, 5, none⟩ (.string (pwOf u5 u4))).setCell ⟨w.heap.size, 6, none⟩ (.string u6)).setCell ⟨w.heap.size, 7, none⟩ (.string u7)).setCell ⟨w.heap.size, 8, none⟩ (.string u8)).setCell ⟨w.heap.size, 9, none⟩ (.string u9)).setCell ⟨w.heap.size, 10, none⟩ (.bool u10)).setCell ⟨w.heap.size, 11, none⟩ (.string u11)).setCell ⟨w.heap.size, 12, none⟩ (.string u12)).setCell ⟨w.heap.size, 13, none⟩ (.bool u13)).setCell ⟨w.heap.size, 0, none⟩ (.string (u0 ++ ⟨#[120]⟩))) := ⟨_, rfl⟩
  rw [← hW]
  have hB2 : Below w.heap.size w w2 := by
    subst hW
    repeat (refine Below.setCell ?_ (by simp) _)
    exact hB
  have hz2 : w.heap.size < w2.heap.size := by subst hW; simpa [World.setCell] using hz
  have y0 : w2.cell? ⟨w.heap.size, 0, none⟩ = some (.string (u0 ++ ⟨#[120]⟩)) := by subst hW; go_simp
  have y1 : w2.cell? ⟨w.heap.size, 1, none⟩ = some (.string u1) := by subst hW; go_simp
  have y2 : w2.cell? ⟨w.heap.size, 2, none⟩ = some (.bool true) := by subst hW; go_simp
  have y3 : w2.cell? ⟨w.heap.size, 3, none⟩ = some (.string u3) := by subst hW; go_simp
  have y4 : w2.cell? ⟨w.heap.size, 4, none⟩ = some (.bool u4) := by subst hW; go_simp
  have y5 : w2.cell? ⟨w.heap.size, 5, none⟩ = some (.string (pwOf u5 u4)) := by subst hW; go_simp
  have y6 : w2.cell? ⟨w.heap.size, 6, none⟩ = some (.string u6) := by subst hW; go_simp
  have y7 : w2.cell? ⟨w.heap.size, 7, none⟩ = some (.string u7) := by subst hW; go_simp
  have y8 : w2.cell? ⟨w.heap.size, 8, none⟩ = some (.string u8) := by subst hW; go_simp
  have y9 : w2.cell? ⟨w.heap.size, 9, none⟩ = some (.string u9) := by subst hW; go_simp
  have y10 : w2.cell? ⟨w.heap.size, 10, none⟩ = some (.bool u10) := by subst hW; go_simp
  have y11 : w2.cell? ⟨w.heap.size, 11, none⟩ = some (.string u11) := by subst hW; go_simp
  have y12 : w2.cell? ⟨w.heap.size, 12, none⟩ = some (.string u12) := by subst hW; go_simp
  have y13 : w2.cell? ⟨w.heap.size, 13, none⟩ = some (.bool u13) := by subst hW; go_simp
  clear hW hB hz z0 f0 z1 f1 z2 f2 z3 f3 z4 f4 z5 f5 z6 f6 z7 f7 z8 f8 z9 f9 z10 f10 z11 f11 z12 f12 z13 f13 h0 HT
  go_region_with (go_at_call 17; refine (HC.out _).mono ?_; rintro e w3 ⟨rfl, hb3⟩; have hb4 := hb3; have x0 := (hb4.cell (p := ⟨w.heap.size, 0, none⟩) hz2).trans y0; have x1 := (hb4.cell (p := ⟨w.heap.size, 1, none⟩) hz2).trans y1; have x2 := (hb4.cell (p := ⟨w.heap.size, 2, none⟩) hz2).trans y2; have x3 := (hb4.cell (p := ⟨w.heap.size, 3, none⟩) hz2).trans y3; have x4 := (hb4.cell (p := ⟨w.heap.size, 4, none⟩) hz2).trans y4; have x5 := (hb4.cell (p := ⟨w.heap.size, 5, none⟩) hz2).trans y5; have x6 := (hb4.cell (p := ⟨w.heap.size, 6, none⟩) hz2).trans y6; have x7 := (hb4.cell (p := ⟨w.heap.size, 7, none⟩) hz2).trans y7; have x8 := (hb4.cell (p := ⟨w.heap.size, 8, none⟩) hz2).trans y8; have x9 := (hb4.cell (p := ⟨w.heap.size, 9, none⟩) hz2).trans y9; have x10 := (hb4.cell (p := ⟨w.heap.size, 10, none⟩) hz2).trans y10; have x11 := (hb4.cell (p := ⟨w.heap.size, 11, none⟩) hz2).trans y11; have x12 := (hb4.cell (p := ⟨w.heap.size, 12, none⟩) hz2).trans y12; have x13 := (hb4.cell (p := ⟨w.heap.size, 13, none⟩) hz2).trans y13; clear hb4)
  all_goals (go_wp2_with fail; go_ret; exact ⟨rfl, hB2.drew.trans (hb3.mono (Nat.le_of_lt hz2))⟩)

theorem fnClone_walk (u0 : ByteArray) (u1 : ByteArray) (u2 : Bool) (u3 : ByteArray) (u4 : Bool) (u5 : ByteArray) (u6 : ByteArray) (u7 : ByteArray) (u8 : ByteArray) (u9 : ByteArray) (u10 : Bool) (u11 : ByteArray) (u12 : ByteArray) (u13 : Bool) (h0 : u0.size < 140737488355328) (_h1 : u1.size < 140737488355328) (_h3 : u3.size < 140737488355328) (_h5 : u5.size < 140737488355328) (_h6 : u6.size < 140737488355328) (_h7 : u7.size < 140737488355328) (_h8 : u8.size < 140737488355328) (_h9 : u9.size < 140737488355328) (_h11 : u11.size < 140737488355328) (_h12 : u12.size < 140737488355328) (w : World) :
    Calls Try.prog 5 #[.agg #[.string u0, .string u1, .bool u2, .string u3, .bool u4, .string u5, .string u6, .string u7, .string u8, .string u9, .bool u10, .string u11, .string u12, .bool u13]] w fun e w' => e = .returned (.bool true) ∧ Below w.heap.size w w' := by
  cases u2
  · refine fnClone_off u0 u1 u3 u4 u5 u6 u7 u8 u9 u10 u11 u12 u13 w h0 (fun wx => ?_) (fun wx => implClone_off _ _ _ _ _ _ _ _ _ _ _)
    cases u4
    · exact tidy_ff _ _ _ _ _ _ _ _ _ _ _ _ _
    · exact tidy_ft _ _ _ _ _ _ _ _ _ _ _ _ _
  · refine fnClone_on u0 u1 u3 u4 u5 u6 u7 u8 u9 u10 u11 u12 u13 w h0 (fun wx => ?_) (fun wx => ?_)
    · cases u4
      · exact tidy_tf _ _ _ _ _ _ _ _ _ _ _ _ _
      · exact tidy_tt _ _ _ _ _ _ _ _ _ _ _ _ _
    · have h := implClone_on (u0 ++ ⟨#[120]⟩) u1 u3 u4 (pwOf u5 u4) u6 u7 u8 u9 u10 u11 u12 u13 wx
      have e : pwOf (pwOf u5 u4) u4 = pwOf u5 u4 := by cases u4 <;> rfl
      rw [e] at h
      exact h
end Go.Proofs.Ytpjponoafebboaa
