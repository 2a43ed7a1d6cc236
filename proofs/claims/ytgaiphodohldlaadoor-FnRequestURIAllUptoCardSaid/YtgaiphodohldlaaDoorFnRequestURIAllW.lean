/- What spec.RequestURI and FnRequestURIAll return, where memory holds the table. -/
import Derived.Test.YtgaiphodohldlaaDoorFnRequestURIW
import Derived.Test.YtgaiphodohldlaaDoorFnEscapedPathW
import Derived.Lib.QuietBelow
namespace Go.Proofs.YtgaiphodohldlaaDoor
open Go.RowKit Go.Sort

theorem begins_any (op : ByteArray) (w : World) (hs : op.size < 140737488355328) :
    Calls Tryd.prog 27 #[.string op, .string ⟨#[47, 47]⟩] w fun e w' => e = .returned (.bool (Lib.hasPrefix op.data.toList [47, 47])) ∧ w = w' := by
  by_cases h : 2 ≤ op.size
  · rw [slash_long h]
    obtain ⟨b, hb⟩ : ∃ b, ((op.extract 0 2).toList == [47, 47]) = b := ⟨_, rfl⟩
    rw [hb]
    cases b
    all_goals
      go_enter Tryd.func27, Tryd.ntmps27
      go_wp2_with fail
      go_ret
      exact ⟨rfl, rfl⟩
  · rw [slash_short (by omega)]
    go_enter Tryd.func27, Tryd.ntmps27
    go_wp2_with fail
    go_ret
    exact ⟨rfl, rfl⟩

set_option maxHeartbeats 4000000 in
theorem specRQ_any (sch op p raw q : ByteArray) (force : Bool) (w : World)
    (h0 : sch.size < 140737488355328) (h1 : op.size < 140737488355328) (h4 : p.size ≤ 4194304) (h6 : q.size < 140737488355328) (h7 : raw.size < 140737488355328) :
    Calls Tryd.prog 20 #[.string sch, .string op, .string p, .string raw, .string q, .bool force] w fun e w' => e = .returned (.string (rqB sch op p raw q force)) ∧ Below w.heap.size w w' := by
  have CE := Lib.hid (specEP_any p raw w h4 h7)
  have hez := epB_size p raw
  have hz : (epB p raw).size < 1407374883553280 := by omega
  clear hez
  have HR : Hid (rqB sch op p raw q force = if force || !q.toList.isEmpty then (if op.toList.isEmpty then (if (epB p raw).toList.isEmpty then ⟨#[47]⟩ else epB p raw) else if Lib.hasPrefix op.data.toList [47, 47] then sch ++ ⟨#[58]⟩ ++ op else op) ++ (⟨#[63]⟩ ++ q) else (if op.toList.isEmpty then (if (epB p raw).toList.isEmpty then ⟨#[47]⟩ else epB p raw) else if Lib.hasPrefix op.data.toList [47, 47] then sch ++ ⟨#[58]⟩ ++ op else op)) := Lib.hid rfl
  cases ho : op.toList.isEmpty
  · obtain ⟨bp, hbp⟩ : ∃ bp, Lib.hasPrefix op.data.toList [47, 47] = bp := ⟨_, rfl⟩
    have CP : Hid (Calls Tryd.prog 27 #[.string op, .string ⟨#[47, 47]⟩] w fun e w' => e = .returned (.bool bp) ∧ w = w') := by
      rw [← hbp]; exact begins_any op w h1
    rw [ho, hbp] at HR
    clear hbp
    cases bp <;> cases force <;> cases hq : q.toList.isEmpty
    all_goals
      rw [hq] at HR
      simp only [Bool.false_eq_true, if_false, if_true, Bool.not_false, Bool.not_true, Bool.or_false, Bool.or_true] at HR
      go_enter Tryd.func20, Tryd.ntmps20
      go_wp2_with (go_at_call 27; refine (CP.out).mono ?_; rintro e w' ⟨rfl, rfl⟩)
      go_ret
      rw [HR.out]
      exact ⟨rfl, Below.refl _ _⟩
  · rw [ho] at HR
    cases he : (epB p raw).toList.isEmpty <;> cases force <;> cases hq : q.toList.isEmpty
    all_goals
      rw [he, hq] at HR
      simp only [Bool.false_eq_true, if_false, if_true, Bool.not_false, Bool.not_true, Bool.or_false, Bool.or_true] at HR
      go_enter Tryd.func20, Tryd.ntmps20
      go_wp2_with fail
      refine (CE.out).mono ?_
      rintro e w1 ⟨rfl, hb1⟩
      go_wp2_with fail
      go_ret
      rw [HR.out]
      exact ⟨rfl, hb1⟩

set_option maxHeartbeats 4000000 in
theorem fnRequestURIAll_walk (u0 : ByteArray) (u1 : ByteArray) (u2 : Bool) (u3 : ByteArray) (u4 : Bool) (u5 : ByteArray) (u6 : ByteArray) (u7 : ByteArray) (u8 : ByteArray) (u9 : ByteArray) (u10 : Bool) (u11 : ByteArray) (u12 : ByteArray) (u13 : Bool) (h0 : u0.size ≤ 1048576) (h1 : u1.size ≤ 1048576) (_h3 : u3.size ≤ 1048576) (_h5 : u5.size ≤ 1048576) (_h6 : u6.size ≤ 1048576) (h7 : u7.size ≤ 1048576) (h8 : u8.size ≤ 1048576) (h9 : u9.size ≤ 1048576) (_h11 : u11.size ≤ 1048576) (_h12 : u12.size ≤ 1048576) (w : World) (hT : Tab w) :
    Calls Tryd.prog 11 #[.agg #[.string u0, .string u1, .bool u2, .string u3, .bool u4, .string u5, .string u6, .string u7, .string u8, .string u9, .bool u10, .string u11, .string u12, .bool u13]] w fun e w' => e = .returned (.bool true) ∧ Below w.heap.size w w' := by
  obtain ⟨x, hx⟩ : ∃ x, rqB u0 u1 u7 u8 u9 u10 = x := ⟨_, rfl⟩
  have CA : Hid (∀ wx, Tab wx → Calls Tryd.prog 19 #[.agg #[.string u0, .string u1, .bool u2, .string u3, .bool u4, .string u5, .string u6, .string u7, .string u8, .string u9, .bool u10, .string u11, .string u12, .bool u13]] wx fun e w' => e = .returned (.string x) ∧ Below wx.heap.size wx w') := fun wx h => by
    rw [← hx]; exact implRQ_any u0 u1 u2 u3 u4 u5 u6 u7 u8 u9 u10 u11 u12 u13 wx (by omega) (by omega) (by omega) (by omega) (by omega) h
  have CB : Hid (∀ wx, Calls Tryd.prog 20 #[.string u0, .string u1, .string u7, .string u8, .string u9, .bool u10] wx fun e w' => e = .returned (.string x) ∧ Below wx.heap.size wx w') := fun wx => by
    rw [← hx]; exact specRQ_any u0 u1 u7 u8 u9 u10 wx (by omega) (by omega) (by omega) (by omega) (by omega)
  clear hx
  have HT := Lib.hid hT
  clear hT
  go_enter Tryd.func11, Tryd.ntmps11
  go_wp2_with fail
  obtain ⟨w2, hW⟩ : ∃ y : World, y = w.alloc (.cells #[.string u0, .string u1, .bool u2, .string u3, .bool u4, .string u5, .string u6, .string u7, .string u8, .string u9, .bool u10, .string u11, .string u12, .bool u13] 28) := ⟨_, rfl⟩
  rw [← hW]
  have hB2 : Below w.heap.size w w2 := by subst hW; exact (Below.refl _ _).alloc (Nat.le_refl _) _
  have HT2 := Lib.hid (HT.out.below hB2)
  have y0 := cell_regrown (show w2.cell? ⟨w.heap.size, 0, none⟩ = some (.string u0) by subst hW; go_simp)
  have y1 := cell_regrown (show w2.cell? ⟨w.heap.size, 1, none⟩ = some (.string u1) by subst hW; go_simp)
  have y2 := cell_regrown (show w2.cell? ⟨w.heap.size, 2, none⟩ = some (.bool u2) by subst hW; go_simp)
  have y3 := cell_regrown (show w2.cell? ⟨w.heap.size, 3, none⟩ = some (.string u3) by subst hW; go_simp)
  have y4 := cell_regrown (show w2.cell? ⟨w.heap.size, 4, none⟩ = some (.bool u4) by subst hW; go_simp)
  have y5 := cell_regrown (show w2.cell? ⟨w.heap.size, 5, none⟩ = some (.string u5) by subst hW; go_simp)
  have y6 := cell_regrown (show w2.cell? ⟨w.heap.size, 6, none⟩ = some (.string u6) by subst hW; go_simp)
  have y7 := cell_regrown (show w2.cell? ⟨w.heap.size, 7, none⟩ = some (.string u7) by subst hW; go_simp)
  have y8 := cell_regrown (show w2.cell? ⟨w.heap.size, 8, none⟩ = some (.string u8) by subst hW; go_simp)
  have y9 := cell_regrown (show w2.cell? ⟨w.heap.size, 9, none⟩ = some (.string u9) by subst hW; go_simp)
  have y10 := cell_regrown (show w2.cell? ⟨w.heap.size, 10, none⟩ = some (.bool u10) by subst hW; go_simp)
  have y11 := cell_regrown (show w2.cell? ⟨w.heap.size, 11, none⟩ = some (.string u11) by subst hW; go_simp)
  have y12 := cell_regrown (show w2.cell? ⟨w.heap.size, 12, none⟩ = some (.string u12) by subst hW; go_simp)
  have y13 := cell_regrown (show w2.cell? ⟨w.heap.size, 13, none⟩ = some (.bool u13) by subst hW; go_simp)
  have cA : ∀ d os, Calls Tryd.prog 19 #[.agg #[.string u0, .string u1, .bool u2, .string u3, .bool u4, .string u5, .string u6, .string u7, .string u8, .string u9, .bool u10, .string u11, .string u12, .bool u13]] (grow (redrawn w2 d) os) fun e w'' => e = .returned (.string x) ∧ ∃ p : Regrown, w'' = grow (redrawn w2 p.d) p.os := fun d os => Calls.regrown_of (CA.out _ (HT2.out.below (below_regrown w2 d os)))
  have cB : ∀ d os, Calls Tryd.prog 20 #[.string u0, .string u1, .string u7, .string u8, .string u9, .bool u10] (grow (redrawn w2 d) os) fun e w'' => e = .returned (.string x) ∧ ∃ p : Regrown, w'' = grow (redrawn w2 p.d) p.os := fun d os => Calls.regrown_of (CB.out _)
  have HcA := Lib.hid cA
  have HcB := Lib.hid cB
  clear hW CA CB cA cB
  refine wp_region_quiet_below (by kernel_rfl) (by kernel_rfl) ?_
  repeat (quiet_step (first | (with_reducible exact HcA.out _ _) | (with_reducible exact HcB.out _ _)))
  refine wpQuiet_nil ?_
  intro _ hw'
  obtain ⟨⟨dq, osq⟩, hw''⟩ := hw'
  subst hw''
  go_wp2_with fail
  go_ret
  exact ⟨rfl, hB2.trans ((below_regrown w2 dq osq).mono hB2.size)⟩
end Go.Proofs.YtgaiphodohldlaaDoor
