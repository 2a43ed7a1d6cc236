/- What impl.Clone, tidy and FnClone return, for every URL that the form reaches. -/
import Derived.Test.YtpjponoafebboaaCloneTo
namespace Go.Proofs.Ytpjponoafebboaa
open Go.RowKit

theorem alloc_size (w : World) (o : Obj) : (w.alloc o).heap.size = w.heap.size + 1 := by simp

set_option maxHeartbeats 1600000 in
theorem implClone_off (u0 u1 : ByteArray) (u6 u7 u8 u9 : ByteArray) (u10 : Bool) (u11 u12 : ByteArray) (u13 : Bool) (w : World) :
    Calls Try.prog 17 #[.agg #[.string u0, .string u1, .bool false, .string ⟨#[]⟩, .bool false, .string ⟨#[]⟩, .string u6, .string u7, .string u8, .string u9, .bool u10, .string u11, .string u12, .bool u13]] w fun e w' => e = .returned (urlV u0 u1 false ⟨#[]⟩ false ⟨#[]⟩ u6 u7 u8 u9 u10 u11 u12 u13) ∧ Below w.heap.size w w' := by
  go_enter Try.func17, Try.ntmps17
  go_wp2_with fail
  refine (implTo_off _ _ _ _ _ _ _ _ _ _ _ _ _ _).mono ?_
  rintro e w' ⟨rfl, rfl⟩
  go_wp2_with fail
  refine (urlClone_off _ u0 u1 u6 u7 u8 u9 u10 u11 u12 u13 _ ?_ ?_ ?_ ?_ ?_ ?_ ?_ ?_ ?_ ?_ ?_ ?_).mono ?_
  all_goals try (go_simp; done)
  rintro e w' ⟨rfl, rfl⟩
  go_wp2_with fail
  refine (from_off _ u0 u1 u6 u7 u8 u9 u10 u11 u12 u13 _ ?_ ?_ ?_ ?_ ?_ ?_ ?_ ?_ ?_ ?_ ?_ ?_).mono ?_
  all_goals try (go_simp; done)
  rintro e w1 ⟨rfl, hb⟩
  have hz : w.heap.size + 1 < w1.heap.size := by have := hb.size; simp at this; omega
  have z0 : w1.cell? ⟨w.heap.size + 1, 0, none⟩ = some (.string ⟨#[]⟩) := (hb.cell (p := ⟨w.heap.size + 1, 0, none⟩) (by simp)).trans (by go_simp)
  have f0 : w1.frozen? ⟨w.heap.size + 1, 0, none⟩ = false := (hb.frozen (p := ⟨w.heap.size + 1, 0, none⟩) (by simp)).trans (by go_simp)
  have z1 : w1.cell? ⟨w.heap.size + 1, 1, none⟩ = some (.string ⟨#[]⟩) := (hb.cell (p := ⟨w.heap.size + 1, 1, none⟩) (by simp)).trans (by go_simp)
  have f1 : w1.frozen? ⟨w.heap.size + 1, 1, none⟩ = false := (hb.frozen (p := ⟨w.heap.size + 1, 1, none⟩) (by simp)).trans (by go_simp)
  have z2 : w1.cell? ⟨w.heap.size + 1, 2, none⟩ = some (.bool false) := (hb.cell (p := ⟨w.heap.size + 1, 2, none⟩) (by simp)).trans (by go_simp)
  have f2 : w1.frozen? ⟨w.heap.size + 1, 2, none⟩ = false := (hb.frozen (p := ⟨w.heap.size + 1, 2, none⟩) (by simp)).trans (by go_simp)
  have z3 : w1.cell? ⟨w.heap.size + 1, 3, none⟩ = some (.string ⟨#[]⟩) := (hb.cell (p := ⟨w.heap.size + 1, 3, none⟩) (by simp)).trans (by go_simp)
  have f3 : w1.frozen? ⟨w.heap.size + 1, 3, none⟩ = false := (hb.frozen (p := ⟨w.heap.size + 1, 3, none⟩) (by simp)).trans (by go_simp)
  have z4 : w1.cell? ⟨w.heap.size + 1, 4, none⟩ = some (.bool false) := (hb.cell (p := ⟨w.heap.size + 1, 4, none⟩) (by simp)).trans (by go_simp)
  have f4 : w1.frozen? ⟨w.heap.size + 1, 4, none⟩ = false := (hb.frozen (p := ⟨w.heap.size + 1, 4, none⟩) (by simp)).trans (by go_simp)
  have z5 : w1.cell? ⟨w.heap.size + 1, 5, none⟩ = some (.string ⟨#[]⟩) := (hb.cell (p := ⟨w.heap.size + 1, 5, none⟩) (by simp)).trans (by go_simp)
  have f5 : w1.frozen? ⟨w.heap.size + 1, 5, none⟩ = false := (hb.frozen (p := ⟨w.heap.size + 1, 5, none⟩) (by simp)).trans (by go_simp)
  have z6 : w1.cell? ⟨w.heap.size + 1, 6, none⟩ = some (.string ⟨#[]⟩) := (hb.cell (p := ⟨w.heap.size + 1, 6, none⟩) (by simp)).trans (by go_simp)
  have f6 : w1.frozen? ⟨w.heap.size + 1, 6, none⟩ = false := (hb.frozen (p := ⟨w.heap.size + 1, 6, none⟩) (by simp)).trans (by go_simp)
  have z7 : w1.cell? ⟨w.heap.size + 1, 7, none⟩ = some (.string ⟨#[]⟩) := (hb.cell (p := ⟨w.heap.size + 1, 7, none⟩) (by simp)).trans (by go_simp)
  have f7 : w1.frozen? ⟨w.heap.size + 1, 7, none⟩ = false := (hb.frozen (p := ⟨w.heap.size + 1, 7, none⟩) (by simp)).trans (by go_simp)
  have z8 : w1.cell? ⟨w.heap.size + 1, 8, none⟩ = some (.string ⟨#[]⟩) := (hb.cell (p := ⟨w.heap.size + 1, 8, none⟩) (by simp)).trans (by go_simp)
  have f8 : w1.frozen? ⟨w.heap.size + 1, 8, none⟩ = false := (hb.frozen (p := ⟨w.heap.size + 1, 8, none⟩) (by simp)).trans (by go_simp)
  have z9 : w1.cell? ⟨w.heap.size + 1, 9, none⟩ = some (.string ⟨#[]⟩) := (hb.cell (p := ⟨w.heap.size + 1, 9, none⟩) (by simp)).trans (by go_simp)
  have f9 : w1.frozen? ⟨w.heap.size + 1, 9, none⟩ = false := (hb.frozen (p := ⟨w.heap.size + 1, 9, none⟩) (by simp)).trans (by go_simp)
  have z10 : w1.cell? ⟨w.heap.size + 1, 10, none⟩ = some (.bool false) := (hb.cell (p := ⟨w.heap.size + 1, 10, none⟩) (by simp)).trans (by go_simp)
  have f10 : w1.frozen? ⟨w.heap.size + 1, 10, none⟩ = false := (hb.frozen (p := ⟨w.heap.size + 1, 10, none⟩) (by simp)).trans (by go_simp)
  have z11 : w1.cell? ⟨w.heap.size + 1, 11, none⟩ = some (.string ⟨#[]⟩) := (hb.cell (p := ⟨w.heap.size + 1, 11, none⟩) (by simp)).trans (by go_simp)
  have f11 : w1.frozen? ⟨w.heap.size + 1, 11, none⟩ = false := (hb.frozen (p := ⟨w.heap.size + 1, 11, none⟩) (by simp)).trans (by go_simp)
  have z12 : w1.cell? ⟨w.heap.size + 1, 12, none⟩ = some (.string ⟨#[]⟩) := (hb.cell (p := ⟨w.heap.size + 1, 12, none⟩) (by simp)).trans (by go_simp)
  have f12 : w1.frozen? ⟨w.heap.size + 1, 12, none⟩ = false := (hb.frozen (p := ⟨w.heap.size + 1, 12, none⟩) (by simp)).trans (by go_simp)
  have z13 : w1.cell? ⟨w.heap.size + 1, 13, none⟩ = some (.bool false) := (hb.cell (p := ⟨w.heap.size + 1, 13, none⟩) (by simp)).trans (by go_simp)
  have f13 : w1.frozen? ⟨w.heap.size + 1, 13, none⟩ = false := (hb.frozen (p := ⟨w.heap.size + 1, 13, none⟩) (by simp)).trans (by go_simp)
  have hB : Below w.heap.size w w1 := ((((((Below.refl _ w).alloc (Nat.le_refl _) _).alloc (by simp) _).alloc (by simp; omega) _).alloc (by simp; omega) _).alloc (by simp; omega) _).trans (hb.mono (by simp; omega))
  clear hb
  simp only [urlV]
  go_wp2_with fail
  refine bodyPost_ret (v := urlV u0 u1 false ⟨#[]⟩ false ⟨#[]⟩ u6 u7 u8 u9 u10 u11 u12 u13) (by simp [results, Try.results17, go_sem, urlV, *]) rfl ⟨rfl, ?_⟩
  repeat (refine Below.setCell ?_ (by simp) _)
  exact hB

set_option maxHeartbeats 1600000 in
theorem implClone_on (u0 u1 u3 : ByteArray) (u4 : Bool) (u5 : ByteArray) (u6 u7 u8 u9 : ByteArray) (u10 : Bool) (u11 u12 : ByteArray) (u13 : Bool) (w : World) :
    Calls Try.prog 17 #[.agg #[.string u0, .string u1, .bool true, .string u3, .bool u4, .string u5, .string u6, .string u7, .string u8, .string u9, .bool u10, .string u11, .string u12, .bool u13]] w fun e w' => e = .returned (urlV u0 u1 true u3 u4 (pwOf u5 u4) u6 u7 u8 u9 u10 u11 u12 u13) ∧ Below w.heap.size w w' := by
  go_enter Try.func17, Try.ntmps17
  go_wp2_with fail
  refine (implTo_on _ _ _ _ _ _ _ _ _ _ _ _ _ _).mono ?_
  rintro e w' ⟨rfl, rfl⟩
  have ho : infoObj u3 u5 u4 = .cells #[.string u3, .string (pwOf u5 u4), .bool u4] 49 := by cases u4 <;> rfl
  rw [ho]
  clear ho
  go_wp2_with fail
  refine (urlClone_on _ (w.heap.size + 1 + 1 + 1 + 1) u0 u1 u3 u4 (pwOf u5 u4) u6 u7 u8 u9 u10 u11 u12 u13 _ ?_ ?_ ?_ ?_ ?_ ?_ ?_ ?_ ?_ ?_ ?_ ?_ ?_ ?_ ?_ ?_).mono ?_
  all_goals try (go_simp; done)
  rintro e w' ⟨rfl, rfl⟩
  go_wp2_with fail
  refine (from_on _ (w.heap.size + 1 + 1 + 1 + 1 + 1 + 1) u0 u1 u3 u4 (pwOf u5 u4) u6 u7 u8 u9 u10 u11 u12 u13 _ ?_ ?_ ?_ ?_ ?_ ?_ ?_ ?_ ?_ ?_ ?_ ?_ ?_ ?_ ?_ ?_).mono ?_
  all_goals try (go_simp; done)
  rintro e w1 ⟨rfl, hb⟩
  have hz : w.heap.size + 1 < w1.heap.size := by have := hb.size; simp at this; omega
  have z0 : w1.cell? ⟨w.heap.size + 1, 0, none⟩ = some (.string ⟨#[]⟩) := (hb.cell (p := ⟨w.heap.size + 1, 0, none⟩) (by simp)).trans (by go_simp)
  have f0 : w1.frozen? ⟨w.heap.size + 1, 0, none⟩ = false := (hb.frozen (p := ⟨w.heap.size + 1, 0, none⟩) (by simp)).trans (by go_simp)
  have z1 : w1.cell? ⟨w.heap.size + 1, 1, none⟩ = some (.string ⟨#[]⟩) := (hb.cell (p := ⟨w.heap.size + 1, 1, none⟩) (by simp)).trans (by go_simp)
  have f1 : w1.frozen? ⟨w.heap.size + 1, 1, none⟩ = false := (hb.frozen (p := ⟨w.heap.size + 1, 1, none⟩) (by simp)).trans (by go_simp)
  have z2 : w1.cell? ⟨w.heap.size + 1, 2, none⟩ = some (.bool false) := (hb.cell (p := ⟨w.heap.size + 1, 2, none⟩) (by simp)).trans (by go_simp)
  have f2 : w1.frozen? ⟨w.heap.size + 1, 2, none⟩ = false := (hb.frozen (p := ⟨w.heap.size + 1, 2, none⟩) (by simp)).trans (by go_simp)
  have z3 : w1.cell? ⟨w.heap.size + 1, 3, none⟩ = some (.string ⟨#[]⟩) := (hb.cell (p := ⟨w.heap.size + 1, 3, none⟩) (by simp)).trans (by go_simp)
  have f3 : w1.frozen? ⟨w.heap.size + 1, 3, none⟩ = false := (hb.frozen (p := ⟨w.heap.size + 1, 3, none⟩) (by simp)).trans (by go_simp)
  have z4 : w1.cell? ⟨w.heap.size + 1, 4, none⟩ = some (.bool false) := (hb.cell (p := ⟨w.heap.size + 1, 4, none⟩) (by simp)).trans (by go_simp)
  have f4 : w1.frozen? ⟨w.heap.size + 1, 4, none⟩ = false := (hb.frozen (p := ⟨w.heap.size + 1, 4, none⟩) (by simp)).trans (by go_simp)
  have z5 : w1.cell? ⟨w.heap.size + 1, 5, none⟩ = some (.string ⟨#[]⟩) := (hb.cell (p := ⟨w.heap.size + 1, 5, none⟩) (by simp)).trans (by go_simp)
  have f5 : w1.frozen? ⟨w.heap.size + 1, 5, none⟩ = false := (hb.frozen (p := ⟨w.heap.size + 1, 5, none⟩) (by simp)).trans (by go_simp)
  have z6 : w1.cell? ⟨w.heap.size + 1, 6, none⟩ = some (.string ⟨#[]⟩) := (hb.cell (p := ⟨w.heap.size + 1, 6, none⟩) (by simp)).trans (by go_simp)
  have f6 : w1.frozen? ⟨w.heap.size + 1, 6, none⟩ = false := (hb.frozen (p := ⟨w.heap.size + 1, 6, none⟩) (by simp)).trans (by go_simp)
  have z7 : w1.cell? ⟨w.heap.size + 1, 7, none⟩ = some (.string ⟨#[]⟩) := (hb.cell (p := ⟨w.heap.size + 1, 7, none⟩) (by simp)).trans (by go_simp)
  have f7 : w1.frozen? ⟨w.heap.size + 1, 7, none⟩ = false := (hb.frozen (p := ⟨w.heap.size + 1, 7, none⟩) (by simp)).trans (by go_simp)
  have z8 : w1.cell? ⟨w.heap.size + 1, 8, none⟩ = some (.string ⟨#[]⟩) := (hb.cell (p := ⟨w.heap.size + 1, 8, none⟩) (by simp)).trans (by go_simp)
  have f8 : w1.frozen? ⟨w.heap.size + 1, 8, none⟩ = false := (hb.frozen (p := ⟨w.heap.size + 1, 8, none⟩) (by simp)).trans (by go_simp)
  have z9 : w1.cell? ⟨w.heap.size + 1, 9, none⟩ = some (.string ⟨#[]⟩) := (hb.cell (p := ⟨w.heap.size + 1, 9, none⟩) (by simp)).trans (by go_simp)
  have f9 : w1.frozen? ⟨w.heap.size + 1, 9, none⟩ = false := (hb.frozen (p := ⟨w.heap.size + 1, 9, none⟩) (by simp)).trans (by go_simp)
  have z10 : w1.cell? ⟨w.heap.size + 1, 10, none⟩ = some (.bool false) := (hb.cell (p := ⟨w.heap.size + 1, 10, none⟩) (by simp)).trans (by go_simp)
  have f10 : w1.frozen? ⟨w.heap.size + 1, 10, none⟩ = false := (hb.frozen (p := ⟨w.heap.size + 1, 10, none⟩) (by simp)).trans (by go_simp)
  have z11 : w1.cell? ⟨w.heap.size + 1, 11, none⟩ = some (.string ⟨#[]⟩) := (hb.cell (p := ⟨w.heap.size + 1, 11, none⟩) (by simp)).trans (by go_simp)
  have f11 : w1.frozen? ⟨w.heap.size + 1, 11, none⟩ = false := (hb.frozen (p := ⟨w.heap.size + 1, 11, none⟩) (by simp)).trans (by go_simp)
  have z12 : w1.cell? ⟨w.heap.size + 1, 12, none⟩ = some (.string ⟨#[]⟩) := (hb.cell (p := ⟨w.heap.size + 1, 12, none⟩) (by simp)).trans (by go_simp)
  have f12 : w1.frozen? ⟨w.heap.size + 1, 12, none⟩ = false := (hb.frozen (p := ⟨w.heap.size + 1, 12, none⟩) (by simp)).trans (by go_simp)
  have z13 : w1.cell? ⟨w.heap.size + 1, 13, none⟩ = some (.bool false) := (hb.cell (p := ⟨w.heap.size + 1, 13, none⟩) (by simp)).trans (by go_simp)
  have f13 : w1.frozen? ⟨w.heap.size + 1, 13, none⟩ = false := (hb.frozen (p := ⟨w.heap.size + 1, 13, none⟩) (by simp)).trans (by go_simp)
  have hB : Below w.heap.size w w1 := ((((((((Below.refl _ w).alloc (Nat.le_refl _) _).alloc (by simp) _).alloc (by simp; omega) _).alloc (by simp; omega) _).alloc (by simp; omega) _).alloc (by simp; omega) _).alloc (by simp; omega) _).trans (hb.mono (by simp; omega))
  clear hb
  simp only [urlV]
  go_wp2_with fail
  refine bodyPost_ret (v := urlV u0 u1 true u3 u4 (pwOf u5 u4) u6 u7 u8 u9 u10 u11 u12 u13) (by simp [results, Try.results17, go_sem, urlV, *]) rfl ⟨rfl, ?_⟩
  repeat (refine Below.setCell ?_ (by simp) _)
  exact hB
end Go.Proofs.Ytpjponoafebboaa
