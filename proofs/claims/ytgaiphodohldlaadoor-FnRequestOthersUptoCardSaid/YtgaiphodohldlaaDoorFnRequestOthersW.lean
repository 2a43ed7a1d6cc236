/- What FnRequestOthers returns, where memory holds the table. -/
import Derived.Test.YtgaiphodohldlaaDoorFnRequestPathW
import Derived.Lib.QuietBelow
namespace Go.Proofs.YtgaiphodohldlaaDoor
open Go.RowKit Go.Sort

set_option maxHeartbeats 4000000 in
theorem requestOthers_on (u0 : ByteArray) (u1 : ByteArray) (u2 : Bool) (u3 : ByteArray) (u4 : Bool) (u5 : ByteArray) (u6 : ByteArray) (u7 : ByteArray) (u8 : ByteArray) (u9 : ByteArray) (u10 : Bool) (u11 : ByteArray) (u12 : ByteArray) (u13 : Bool) (h0 : u0.size ≤ 1048576) (h1 : u1.size ≤ 1048576) (_h3 : u3.size ≤ 1048576) (_h5 : u5.size ≤ 1048576) (_h6 : u6.size ≤ 1048576) (h7 : u7.size ≤ 1048576) (h8 : u8.size ≤ 1048576) (h9 : u9.size ≤ 1048576) (_h11 : u11.size ≤ 1048576) (_h12 : u12.size ≤ 1048576) (w : World) (hT : Tab w) (ho : u1.toList.isEmpty = false) :
    Calls Tryd.prog 14 #[.agg #[.string u0, .string u1, .bool u2, .string u3, .bool u4, .string u5, .string u6, .string u7, .string u8, .string u9, .bool u10, .string u11, .string u12, .bool u13]] w fun e w' => e = .returned (.bool true) ∧ Below w.heap.size w w' := by
  obtain ⟨x, hx⟩ : ∃ x, rqB u0 u1 u7 u8 u9 u10 = x := ⟨_, rfl⟩
  have hne := rqB_ne u0 u1 u7 u8 u9 u10
  rw [hx] at hne
  have CA : Hid (∀ wx, Tab wx → Calls Tryd.prog 19 #[.agg #[.string u0, .string u1, .bool u2, .string u3, .bool u4, .string u5, .string u6, .string u7, .string u8, .string u9, .bool u10, .string u11, .string u12, .bool u13]] wx fun e w' => e = .returned (.string x) ∧ Below wx.heap.size wx w') := fun wx h => by
    rw [← hx]; exact implRQ_any u0 u1 u2 u3 u4 u5 u6 u7 u8 u9 u10 u11 u12 u13 wx (by omega) (by omega) (by omega) (by omega) (by omega) h
  have CB : Hid (∀ wx, Tab wx → Calls Tryd.prog 19 #[.agg #[.string u0, .string u1, .bool false, .string ⟨#[]⟩, .bool false, .string ⟨#[]⟩, .string ⟨#[]⟩, .string u7, .string u8, .string u9, .bool u10, .string ⟨#[]⟩, .string ⟨#[]⟩, .bool false]] wx fun e w' => e = .returned (.string x) ∧ Below wx.heap.size wx w') := fun wx h => by
    rw [← hx]; exact implRQ_any u0 u1 false ⟨#[]⟩ false ⟨#[]⟩ ⟨#[]⟩ u7 u8 u9 u10 ⟨#[]⟩ ⟨#[]⟩ false wx (by omega) (by omega) (by omega) (by omega) (by omega) h
  clear hx
  have HT := Lib.hid hT
  clear hT
  go_enter Tryd.func14, Tryd.ntmps14
  go_wp2_with fail
  obtain ⟨w2, hW⟩ : ∃ y : World, y = (w.alloc (.cells #[.string u0, .string u1, .bool u2, .string u3, .bool u4, .string u5, .string u6, .string u7, .string u8, .string u9, .bool u10, .string u11, .string u12, .bool u13] 28)).alloc (.cells #[.string u0, .string u1, .bool false, .string ⟨#[]⟩, .bool false, .string ⟨#[]⟩, .string ⟨#[]⟩, .string u7, .string u8, .string u9, .bool u10, .string ⟨#[]⟩, .string ⟨#[]⟩, .bool false] 28) := ⟨_, rfl⟩
  rw [← hW]
  have hB2 : Below w.heap.size w w2 := by subst hW; exact ((Below.refl _ _).alloc (Nat.le_refl _) _).alloc (by simp) _
  have HT2 := Lib.hid (HT.out.below hB2)
  have y0 := cell_regrown (show w2.cell? ⟨w.heap.size, 0, none⟩ = some (.string u0) by subst hW; go_simp)
  have x0 := cell_regrown (show w2.cell? ⟨w.heap.size + 1, 0, none⟩ = some (.string u0) by subst hW; go_simp)
  have y1 := cell_regrown (show w2.cell? ⟨w.heap.size, 1, none⟩ = some (.string u1) by subst hW; go_simp)
  have x1 := cell_regrown (show w2.cell? ⟨w.heap.size + 1, 1, none⟩ = some (.string u1) by subst hW; go_simp)
  have y2 := cell_regrown (show w2.cell? ⟨w.heap.size, 2, none⟩ = some (.bool u2) by subst hW; go_simp)
  have x2 := cell_regrown (show w2.cell? ⟨w.heap.size + 1, 2, none⟩ = some (.bool false) by subst hW; go_simp)
  have y3 := cell_regrown (show w2.cell? ⟨w.heap.size, 3, none⟩ = some (.string u3) by subst hW; go_simp)
  have x3 := cell_regrown (show w2.cell? ⟨w.heap.size + 1, 3, none⟩ = some (.string ⟨#[]⟩) by subst hW; go_simp)
  have y4 := cell_regrown (show w2.cell? ⟨w.heap.size, 4, none⟩ = some (.bool u4) by subst hW; go_simp)
  have x4 := cell_regrown (show w2.cell? ⟨w.heap.size + 1, 4, none⟩ = some (.bool false) by subst hW; go_simp)
  have y5 := cell_regrown (show w2.cell? ⟨w.heap.size, 5, none⟩ = some (.string u5) by subst hW; go_simp)
  have x5 := cell_regrown (show w2.cell? ⟨w.heap.size + 1, 5, none⟩ = some (.string ⟨#[]⟩) by subst hW; go_simp)
  have y6 := cell_regrown (show w2.cell? ⟨w.heap.size, 6, none⟩ = some (.string u6) by subst hW; go_simp)
  have x6 := cell_regrown (show w2.cell? ⟨w.heap.size + 1, 6, none⟩ = some (.string ⟨#[]⟩) by subst hW; go_simp)
  have y7 := cell_regrown (show w2.cell? ⟨w.heap.size, 7, none⟩ = some (.string u7) by subst hW; go_simp)
  have x7 := cell_regrown (show w2.cell? ⟨w.heap.size + 1, 7, none⟩ = some (.string u7) by subst hW; go_simp)
  have y8 := cell_regrown (show w2.cell? ⟨w.heap.size, 8, none⟩ = some (.string u8) by subst hW; go_simp)
  have x8 := cell_regrown (show w2.cell? ⟨w.heap.size + 1, 8, none⟩ = some (.string u8) by subst hW; go_simp)
  have y9 := cell_regrown (show w2.cell? ⟨w.heap.size, 9, none⟩ = some (.string u9) by subst hW; go_simp)
  have x9 := cell_regrown (show w2.cell? ⟨w.heap.size + 1, 9, none⟩ = some (.string u9) by subst hW; go_simp)
  have y10 := cell_regrown (show w2.cell? ⟨w.heap.size, 10, none⟩ = some (.bool u10) by subst hW; go_simp)
  have x10 := cell_regrown (show w2.cell? ⟨w.heap.size + 1, 10, none⟩ = some (.bool u10) by subst hW; go_simp)
  have y11 := cell_regrown (show w2.cell? ⟨w.heap.size, 11, none⟩ = some (.string u11) by subst hW; go_simp)
  have x11 := cell_regrown (show w2.cell? ⟨w.heap.size + 1, 11, none⟩ = some (.string ⟨#[]⟩) by subst hW; go_simp)
  have y12 := cell_regrown (show w2.cell? ⟨w.heap.size, 12, none⟩ = some (.string u12) by subst hW; go_simp)
  have x12 := cell_regrown (show w2.cell? ⟨w.heap.size + 1, 12, none⟩ = some (.string ⟨#[]⟩) by subst hW; go_simp)
  have y13 := cell_regrown (show w2.cell? ⟨w.heap.size, 13, none⟩ = some (.bool u13) by subst hW; go_simp)
  have x13 := cell_regrown (show w2.cell? ⟨w.heap.size + 1, 13, none⟩ = some (.bool false) by subst hW; go_simp)
  have cA : ∀ d os, Calls Tryd.prog 19 #[.agg #[.string u0, .string u1, .bool u2, .string u3, .bool u4, .string u5, .string u6, .string u7, .string u8, .string u9, .bool u10, .string u11, .string u12, .bool u13]] (grow (redrawn w2 d) os) fun e w'' => e = .returned (.string x) ∧ ∃ p : Regrown, w'' = grow (redrawn w2 p.d) p.os := fun d os => Calls.regrown_of (CA.out _ (HT2.out.below (below_regrown w2 d os)))
  have cB : ∀ d os, Calls Tryd.prog 19 #[.agg #[.string u0, .string u1, .bool false, .string ⟨#[]⟩, .bool false, .string ⟨#[]⟩, .string ⟨#[]⟩, .string u7, .string u8, .string u9, .bool u10, .string ⟨#[]⟩, .string ⟨#[]⟩, .bool false]] (grow (redrawn w2 d) os) fun e w'' => e = .returned (.string x) ∧ ∃ p : Regrown, w'' = grow (redrawn w2 p.d) p.os := fun d os => Calls.regrown_of (CB.out _ (HT2.out.below (below_regrown w2 d os)))
  have HcA := Lib.hid cA
  have HcB := Lib.hid cB
  clear hW CA CB cA cB
  cases h7e : u7.toList.isEmpty
  all_goals
    refine wp_region_quiet_below (by kernel_rfl) (by kernel_rfl) ?_
    repeat (quiet_step (first | (with_reducible exact HcA.out _ _) | (with_reducible exact HcB.out _ _)))
    refine wpQuiet_nil ?_
    intro _ hw'
    obtain ⟨⟨dq, osq⟩, hw''⟩ := hw'
    subst hw''
    go_wp2_with fail
    go_ret
    exact ⟨rfl, hB2.trans ((below_regrown w2 dq osq).mono hB2.size)⟩

set_option maxHeartbeats 4000000 in
theorem requestOthers_off (u0 : ByteArray) (u1 : ByteArray) (u2 : Bool) (u3 : ByteArray) (u4 : Bool) (u5 : ByteArray) (u6 : ByteArray) (u7 : ByteArray) (u8 : ByteArray) (u9 : ByteArray) (u10 : Bool) (u11 : ByteArray) (u12 : ByteArray) (u13 : Bool) (h0 : u0.size ≤ 1048576) (h1 : u1.size ≤ 1048576) (_h3 : u3.size ≤ 1048576) (_h5 : u5.size ≤ 1048576) (_h6 : u6.size ≤ 1048576) (h7 : u7.size ≤ 1048576) (h8 : u8.size ≤ 1048576) (h9 : u9.size ≤ 1048576) (_h11 : u11.size ≤ 1048576) (_h12 : u12.size ≤ 1048576) (w : World) (hT : Tab w) (ho : u1.toList.isEmpty = true) :
    Calls Tryd.prog 14 #[.agg #[.string u0, .string u1, .bool u2, .string u3, .bool u4, .string u5, .string u6, .string u7, .string u8, .string u9, .bool u10, .string u11, .string u12, .bool u13]] w fun e w' => e = .returned (.bool true) ∧ Below w.heap.size w w' := by
  obtain ⟨x, hx⟩ : ∃ x, rqB u0 u1 u7 u8 u9 u10 = x := ⟨_, rfl⟩
  have hne := rqB_ne u0 u1 u7 u8 u9 u10
  rw [hx] at hne
  have CA : Hid (∀ wx, Tab wx → Calls Tryd.prog 19 #[.agg #[.string u0, .string u1, .bool u2, .string u3, .bool u4, .string u5, .string u6, .string u7, .string u8, .string u9, .bool u10, .string u11, .string u12, .bool u13]] wx fun e w' => e = .returned (.string x) ∧ Below wx.heap.size wx w') := fun wx h => by
    rw [← hx]; exact implRQ_any u0 u1 u2 u3 u4 u5 u6 u7 u8 u9 u10 u11 u12 u13 wx (by omega) (by omega) (by omega) (by omega) (by omega) h
  have CB : Hid (∀ wx, Tab wx → Calls Tryd.prog 19 #[.agg #[.string ⟨#[]⟩, .string u1, .bool false, .string ⟨#[]⟩, .bool false, .string ⟨#[]⟩, .string ⟨#[]⟩, .string u7, .string u8, .string u9, .bool u10, .string ⟨#[]⟩, .string ⟨#[]⟩, .bool false]] wx fun e w' => e = .returned (.string x) ∧ Below wx.heap.size wx w') := fun wx h => by
    rw [← hx, rqB_scheme u0 ⟨#[]⟩ _ _ _ _ _ ho]; exact implRQ_any (⟨#[]⟩ : ByteArray) u1 false ⟨#[]⟩ false ⟨#[]⟩ ⟨#[]⟩ u7 u8 u9 u10 ⟨#[]⟩ ⟨#[]⟩ false wx (by decide) (by omega) (by omega) (by omega) (by omega) h
  clear hx
  have HT := Lib.hid hT
  clear hT
  go_enter Tryd.func14, Tryd.ntmps14
  go_wp2_with fail
  obtain ⟨w2, hW⟩ : ∃ y : World, y = (w.alloc (.cells #[.string u0, .string u1, .bool u2, .string u3, .bool u4, .string u5, .string u6, .string u7, .string u8, .string u9, .bool u10, .string u11, .string u12, .bool u13] 28)).alloc (.cells #[.string ⟨#[]⟩, .string u1, .bool false, .string ⟨#[]⟩, .bool false, .string ⟨#[]⟩, .string ⟨#[]⟩, .string u7, .string u8, .string u9, .bool u10, .string ⟨#[]⟩, .string ⟨#[]⟩, .bool false] 28) := ⟨_, rfl⟩
  rw [← hW]
  have hB2 : Below w.heap.size w w2 := by subst hW; exact ((Below.refl _ _).alloc (Nat.le_refl _) _).alloc (by simp) _
  have HT2 := Lib.hid (HT.out.below hB2)
  have y0 := cell_regrown (show w2.cell? ⟨w.heap.size, 0, none⟩ = some (.string u0) by subst hW; go_simp)
  have x0 := cell_regrown (show w2.cell? ⟨w.heap.size + 1, 0, none⟩ = some (.string ⟨#[]⟩) by subst hW; go_simp)
  have y1 := cell_regrown (show w2.cell? ⟨w.heap.size, 1, none⟩ = some (.string u1) by subst hW; go_simp)
  have x1 := cell_regrown (show w2.cell? ⟨w.heap.size + 1, 1, none⟩ = some (.string u1) by subst hW; go_simp)
  have y2 := cell_regrown (show w2.cell? ⟨w.heap.size, 2, none⟩ = some (.bool u2) by subst hW; go_simp)
  have x2 := cell_regrown (show w2.cell? ⟨w.heap.size + 1, 2, none⟩ = some (.bool false) by subst hW; go_simp)
  have y3 := cell_regrown (show w2.cell? ⟨w.heap.size, 3, none⟩ = some (.string u3) by subst hW; go_simp)
  have x3 := cell_regrown (show w2.cell? ⟨w.heap.size + 1, 3, none⟩ = some (.string ⟨#[]⟩) by subst hW; go_simp)
  have y4 := cell_regrown (show w2.cell? ⟨w.heap.size, 4, none⟩ = some (.bool u4) by subst hW; go_simp)
  have x4 := cell_regrown (show w2.cell? ⟨w.heap.size + 1, 4, none⟩ = some (.bool false) by subst hW; go_simp)
  have y5 := cell_regrown (show w2.cell? ⟨w.heap.size, 5, none⟩ = some (.string u5) by subst hW; go_simp)
  have x5 := cell_regrown (show w2.cell? ⟨w.heap.size + 1, 5, none⟩ = some (.string ⟨#[]⟩) by subst hW; go_simp)
  have y6 := cell_regrown (show w2.cell? ⟨w.heap.size, 6, none⟩ = some (.string u6) by subst hW; go_simp)
  have x6 := cell_regrown (show w2.cell? ⟨w.heap.size + 1, 6, none⟩ = some (.string ⟨#[]⟩) by subst hW; go_simp)
  have y7 := cell_regrown (show w2.cell? ⟨w.heap.size, 7, none⟩ = some (.string u7) by subst hW; go_simp)
  have x7 := cell_regrown (show w2.cell? ⟨w.heap.size + 1, 7, none⟩ = some (.string u7) by subst hW; go_simp)
  have y8 := cell_regrown (show w2.cell? ⟨w.heap.size, 8, none⟩ = some (.string u8) by subst hW; go_simp)
  have x8 := cell_regrown (show w2.cell? ⟨w.heap.size + 1, 8, none⟩ = some (.string u8) by subst hW; go_simp)
  have y9 := cell_regrown (show w2.cell? ⟨w.heap.size, 9, none⟩ = some (.string u9) by subst hW; go_simp)
  have x9 := cell_regrown (show w2.cell? ⟨w.heap.size + 1, 9, none⟩ = some (.string u9) by subst hW; go_simp)
  have y10 := cell_regrown (show w2.cell? ⟨w.heap.size, 10, none⟩ = some (.bool u10) by subst hW; go_simp)
  have x10 := cell_regrown (show w2.cell? ⟨w.heap.size + 1, 10, none⟩ = some (.bool u10) by subst hW; go_simp)
  have y11 := cell_regrown (show w2.cell? ⟨w.heap.size, 11, none⟩ = some (.string u11) by subst hW; go_simp)
  have x11 := cell_regrown (show w2.cell? ⟨w.heap.size + 1, 11, none⟩ = some (.string ⟨#[]⟩) by subst hW; go_simp)
  have y12 := cell_regrown (show w2.cell? ⟨w.heap.size, 12, none⟩ = some (.string u12) by subst hW; go_simp)
  have x12 := cell_regrown (show w2.cell? ⟨w.heap.size + 1, 12, none⟩ = some (.string ⟨#[]⟩) by subst hW; go_simp)
  have y13 := cell_regrown (show w2.cell? ⟨w.heap.size, 13, none⟩ = some (.bool u13) by subst hW; go_simp)
  have x13 := cell_regrown (show w2.cell? ⟨w.heap.size + 1, 13, none⟩ = some (.bool false) by subst hW; go_simp)
  have cA : ∀ d os, Calls Tryd.prog 19 #[.agg #[.string u0, .string u1, .bool u2, .string u3, .bool u4, .string u5, .string u6, .string u7, .string u8, .string u9, .bool u10, .string u11, .string u12, .bool u13]] (grow (redrawn w2 d) os) fun e w'' => e = .returned (.string x) ∧ ∃ p : Regrown, w'' = grow (redrawn w2 p.d) p.os := fun d os => Calls.regrown_of (CA.out _ (HT2.out.below (below_regrown w2 d os)))
  have cB : ∀ d os, Calls Tryd.prog 19 #[.agg #[.string ⟨#[]⟩, .string u1, .bool false, .string ⟨#[]⟩, .bool false, .string ⟨#[]⟩, .string ⟨#[]⟩, .string u7, .string u8, .string u9, .bool u10, .string ⟨#[]⟩, .string ⟨#[]⟩, .bool false]] (grow (redrawn w2 d) os) fun e w'' => e = .returned (.string x) ∧ ∃ p : Regrown, w'' = grow (redrawn w2 p.d) p.os := fun d os => Calls.regrown_of (CB.out _ (HT2.out.below (below_regrown w2 d os)))
  have HcA := Lib.hid cA
  have HcB := Lib.hid cB
  clear hW CA CB cA cB
  cases h7e : u7.toList.isEmpty
  all_goals
    refine wp_region_quiet_below (by kernel_rfl) (by kernel_rfl) ?_
    repeat (quiet_step (first | (with_reducible exact HcA.out _ _) | (with_reducible exact HcB.out _ _)))
    refine wpQuiet_nil ?_
    intro _ hw'
    obtain ⟨⟨dq, osq⟩, hw''⟩ := hw'
    subst hw''
    go_wp2_with fail
    go_ret
    exact ⟨rfl, hB2.trans ((below_regrown w2 dq osq).mono hB2.size)⟩

theorem fnRequestOthers_walk (u0 : ByteArray) (u1 : ByteArray) (u2 : Bool) (u3 : ByteArray) (u4 : Bool) (u5 : ByteArray) (u6 : ByteArray) (u7 : ByteArray) (u8 : ByteArray) (u9 : ByteArray) (u10 : Bool) (u11 : ByteArray) (u12 : ByteArray) (u13 : Bool) (h0 : u0.size ≤ 1048576) (h1 : u1.size ≤ 1048576) (h3 : u3.size ≤ 1048576) (h5 : u5.size ≤ 1048576) (h6 : u6.size ≤ 1048576) (h7 : u7.size ≤ 1048576) (h8 : u8.size ≤ 1048576) (h9 : u9.size ≤ 1048576) (h11 : u11.size ≤ 1048576) (h12 : u12.size ≤ 1048576) (w : World) (hT : Tab w) :
    Calls Tryd.prog 14 #[.agg #[.string u0, .string u1, .bool u2, .string u3, .bool u4, .string u5, .string u6, .string u7, .string u8, .string u9, .bool u10, .string u11, .string u12, .bool u13]] w fun e w' => e = .returned (.bool true) ∧ Below w.heap.size w w' := by
  cases ho : u1.toList.isEmpty
  · exact requestOthers_on u0 u1 u2 u3 u4 u5 u6 u7 u8 u9 u10 u11 u12 u13 h0 h1 h3 h5 h6 h7 h8 h9 h11 h12 w hT ho
  · exact requestOthers_off u0 u1 u2 u3 u4 u5 u6 u7 u8 u9 u10 u11 u12 u13 h0 h1 h3 h5 h6 h7 h8 h9 h11 h12 w hT ho
end Go.Proofs.YtgaiphodohldlaaDoor
