/- What FnRequestURI returns, where memory holds the table. -/
import Derived.Test.YtgaiphodohldlaaDoorFnRequestPathW
namespace Go.Proofs.YtgaiphodohldlaaDoor
open Go.RowKit

theorem empty_true : (⟨#[]⟩ : ByteArray).toList.isEmpty = true := (empty_iff _).2 rfl
theorem rqB_op (sch op p raw q : ByteArray) (force : Bool) (h1 : op.toList.isEmpty = false) (h2 : Lib.hasPrefix op.data.toList [47, 47] = false) : rqB sch op p raw q force = if force || !q.toList.isEmpty then op ++ (⟨#[63]⟩ ++ q) else op := by
  unfold rqB rqBase
  rw [h1, h2]
  rfl
theorem rqB_ep (sch p raw q : ByteArray) (force : Bool) (h : p.toList.isEmpty = false) : rqB sch ⟨#[]⟩ p raw q force = if force || !q.toList.isEmpty then epB p raw ++ (⟨#[63]⟩ ++ q) else epB p raw := by
  have he : (epB p raw).toList.isEmpty = false := epB_ne (ne_nil h)
  unfold rqB rqBase
  rw [empty_true, he]
  rfl
theorem slash_short {op : ByteArray} (h : op.size < 2) : Lib.hasPrefix op.data.toList [47, 47] = false := by
  have := Lib.hasPrefix_raw op ⟨#[47, 47]⟩
  rw [← this, show decide ((⟨#[47, 47]⟩ : ByteArray).size ≤ op.size) = false from decide_eq_false (by show ¬ 2 ≤ op.size; omega)]
  rfl
theorem slash_long {op : ByteArray} (h : 2 ≤ op.size) : Lib.hasPrefix op.data.toList [47, 47] = ((op.extract 0 2).toList == [47, 47]) := by
  have := Lib.hasPrefix_raw op ⟨#[47, 47]⟩
  rw [← this, show decide ((⟨#[47, 47]⟩ : ByteArray).size ≤ op.size) = true from decide_eq_true (by show 2 ≤ op.size; exact h), Lib.toList_data ⟨#[47, 47]⟩]
  rfl
theorem app_ne {a b : ByteArray} (h : a.toList.isEmpty = false) : (a ++ b).toList.isEmpty = false := nonempty_of (by rw [data_app]; intro e; exact ne_nil h (List.append_eq_nil_iff.1 e).1)

set_option maxHeartbeats 4000000 in
theorem requestURI_path (u0 : ByteArray) (u2 : Bool) (u3 : ByteArray) (u4 : Bool) (u5 : ByteArray) (u6 : ByteArray) (u7 : ByteArray) (u8 : ByteArray) (u9 : ByteArray) (u10 : Bool) (u11 : ByteArray) (u12 : ByteArray) (u13 : Bool) (h0 : u0.size ≤ 1048576) (_h3 : u3.size ≤ 1048576) (_h5 : u5.size ≤ 1048576) (_h6 : u6.size ≤ 1048576) (h7 : u7.size ≤ 1048576) (h8 : u8.size ≤ 1048576) (h9 : u9.size ≤ 1048576) (_h11 : u11.size ≤ 1048576) (_h12 : u12.size ≤ 1048576) (w : World) (hT : Tab w) :
    Calls Tryd.prog 13 #[.agg #[.string u0, .string ⟨#[]⟩, .bool u2, .string u3, .bool u4, .string u5, .string u6, .string u7, .string u8, .string u9, .bool u10, .string u11, .string u12, .bool u13]] w fun e w' => e = .returned (.bool true) ∧ Below w.heap.size w w' := by
  have HT := Lib.hid hT
  clear hT
  have z0 : (⟨#[]⟩ : ByteArray).size < 140737488355328 := by decide
  have hez := epB_size u7 u8
  have hz : (epB u7 u8).size < 1407374883553280 := by omega
  clear hez
  cases h7e : u7.toList.isEmpty
  · have HR := Lib.hid (rqB_ep u0 u7 u8 u9 u10 h7e)
    have hne : (epB u7 u8).toList.isEmpty = false := epB_ne (ne_nil h7e)
    have hne2 : (epB u7 u8 ++ (⟨#[63]⟩ ++ u9)).toList.isEmpty = false := app_ne hne
    cases h9e : u9.toList.isEmpty <;> cases u10
    all_goals
      rw [h9e] at HR
      simp only [Bool.false_eq_true, if_false, if_true, Bool.not_false, Bool.not_true, Bool.or_false, Bool.or_true] at HR
    · go_enter Tryd.func13, Tryd.ntmps13
      go_wp2_with fail
      have hB1 : Below w.heap.size w (w.alloc (.cells #[.string u0, .string ⟨#[]⟩, .bool u2, .string u3, .bool u4, .string u5, .string u6, .string u7, .string u8, .string u9, .bool false, .string u11, .string u12, .bool u13] 28)) := (Below.refl _ _).alloc (Nat.le_refl _) _
      refine (implEP_any _ _ _ (by omega) (by omega) (HT.out.below hB1)).mono ?_
      rintro e w1 ⟨rfl, hb1⟩
      have y0 : w1.cell? ⟨w.heap.size, 0, none⟩ = some (.string u0) := (hb1.cell (p := ⟨w.heap.size, 0, none⟩) (by simp)).trans (by go_simp)
      have y1 : w1.cell? ⟨w.heap.size, 1, none⟩ = some (.string ⟨#[]⟩) := (hb1.cell (p := ⟨w.heap.size, 1, none⟩) (by simp)).trans (by go_simp)
      have y2 : w1.cell? ⟨w.heap.size, 2, none⟩ = some (.bool u2) := (hb1.cell (p := ⟨w.heap.size, 2, none⟩) (by simp)).trans (by go_simp)
      have y3 : w1.cell? ⟨w.heap.size, 3, none⟩ = some (.string u3) := (hb1.cell (p := ⟨w.heap.size, 3, none⟩) (by simp)).trans (by go_simp)
      have y4 : w1.cell? ⟨w.heap.size, 4, none⟩ = some (.bool u4) := (hb1.cell (p := ⟨w.heap.size, 4, none⟩) (by simp)).trans (by go_simp)
      have y5 : w1.cell? ⟨w.heap.size, 5, none⟩ = some (.string u5) := (hb1.cell (p := ⟨w.heap.size, 5, none⟩) (by simp)).trans (by go_simp)
      have y6 : w1.cell? ⟨w.heap.size, 6, none⟩ = some (.string u6) := (hb1.cell (p := ⟨w.heap.size, 6, none⟩) (by simp)).trans (by go_simp)
      have y7 : w1.cell? ⟨w.heap.size, 7, none⟩ = some (.string u7) := (hb1.cell (p := ⟨w.heap.size, 7, none⟩) (by simp)).trans (by go_simp)
      have y8 : w1.cell? ⟨w.heap.size, 8, none⟩ = some (.string u8) := (hb1.cell (p := ⟨w.heap.size, 8, none⟩) (by simp)).trans (by go_simp)
      have y9 : w1.cell? ⟨w.heap.size, 9, none⟩ = some (.string u9) := (hb1.cell (p := ⟨w.heap.size, 9, none⟩) (by simp)).trans (by go_simp)
      have y10 : w1.cell? ⟨w.heap.size, 10, none⟩ = some (.bool false) := (hb1.cell (p := ⟨w.heap.size, 10, none⟩) (by simp)).trans (by go_simp)
      have y11 : w1.cell? ⟨w.heap.size, 11, none⟩ = some (.string u11) := (hb1.cell (p := ⟨w.heap.size, 11, none⟩) (by simp)).trans (by go_simp)
      have y12 : w1.cell? ⟨w.heap.size, 12, none⟩ = some (.string u12) := (hb1.cell (p := ⟨w.heap.size, 12, none⟩) (by simp)).trans (by go_simp)
      have y13 : w1.cell? ⟨w.heap.size, 13, none⟩ = some (.bool u13) := (hb1.cell (p := ⟨w.heap.size, 13, none⟩) (by simp)).trans (by go_simp)
      have hc1 := hB1.trans (hb1.mono hB1.size)
      have HT1 := Lib.hid (HT.out.below hc1)
      clear hb1 hB1
      go_wp2_with fail
      refine (implRQ_any _ _ _ _ _ _ _ _ _ _ _ _ _ _ _ (by omega) z0 (by omega) (by omega) (by omega) HT1.out).mono ?_
      rintro e w2 ⟨rfl, hb2⟩
      rw [HR.out]
      go_wp2_with fail
      go_ret
      exact ⟨rfl, hc1.trans (hb2.mono hc1.size)⟩
    · go_enter Tryd.func13, Tryd.ntmps13
      go_wp2_with fail
      have hB1 : Below w.heap.size w (w.alloc (.cells #[.string u0, .string ⟨#[]⟩, .bool u2, .string u3, .bool u4, .string u5, .string u6, .string u7, .string u8, .string u9, .bool true, .string u11, .string u12, .bool u13] 28)) := (Below.refl _ _).alloc (Nat.le_refl _) _
      refine (implEP_any _ _ _ (by omega) (by omega) (HT.out.below hB1)).mono ?_
      rintro e w1 ⟨rfl, hb1⟩
      have y0 : w1.cell? ⟨w.heap.size, 0, none⟩ = some (.string u0) := (hb1.cell (p := ⟨w.heap.size, 0, none⟩) (by simp)).trans (by go_simp)
      have y1 : w1.cell? ⟨w.heap.size, 1, none⟩ = some (.string ⟨#[]⟩) := (hb1.cell (p := ⟨w.heap.size, 1, none⟩) (by simp)).trans (by go_simp)
      have y2 : w1.cell? ⟨w.heap.size, 2, none⟩ = some (.bool u2) := (hb1.cell (p := ⟨w.heap.size, 2, none⟩) (by simp)).trans (by go_simp)
      have y3 : w1.cell? ⟨w.heap.size, 3, none⟩ = some (.string u3) := (hb1.cell (p := ⟨w.heap.size, 3, none⟩) (by simp)).trans (by go_simp)
      have y4 : w1.cell? ⟨w.heap.size, 4, none⟩ = some (.bool u4) := (hb1.cell (p := ⟨w.heap.size, 4, none⟩) (by simp)).trans (by go_simp)
      have y5 : w1.cell? ⟨w.heap.size, 5, none⟩ = some (.string u5) := (hb1.cell (p := ⟨w.heap.size, 5, none⟩) (by simp)).trans (by go_simp)
      have y6 : w1.cell? ⟨w.heap.size, 6, none⟩ = some (.string u6) := (hb1.cell (p := ⟨w.heap.size, 6, none⟩) (by simp)).trans (by go_simp)
      have y7 : w1.cell? ⟨w.heap.size, 7, none⟩ = some (.string u7) := (hb1.cell (p := ⟨w.heap.size, 7, none⟩) (by simp)).trans (by go_simp)
      have y8 : w1.cell? ⟨w.heap.size, 8, none⟩ = some (.string u8) := (hb1.cell (p := ⟨w.heap.size, 8, none⟩) (by simp)).trans (by go_simp)
      have y9 : w1.cell? ⟨w.heap.size, 9, none⟩ = some (.string u9) := (hb1.cell (p := ⟨w.heap.size, 9, none⟩) (by simp)).trans (by go_simp)
      have y10 : w1.cell? ⟨w.heap.size, 10, none⟩ = some (.bool true) := (hb1.cell (p := ⟨w.heap.size, 10, none⟩) (by simp)).trans (by go_simp)
      have y11 : w1.cell? ⟨w.heap.size, 11, none⟩ = some (.string u11) := (hb1.cell (p := ⟨w.heap.size, 11, none⟩) (by simp)).trans (by go_simp)
      have y12 : w1.cell? ⟨w.heap.size, 12, none⟩ = some (.string u12) := (hb1.cell (p := ⟨w.heap.size, 12, none⟩) (by simp)).trans (by go_simp)
      have y13 : w1.cell? ⟨w.heap.size, 13, none⟩ = some (.bool u13) := (hb1.cell (p := ⟨w.heap.size, 13, none⟩) (by simp)).trans (by go_simp)
      have hc1 := hB1.trans (hb1.mono hB1.size)
      have HT1 := Lib.hid (HT.out.below hc1)
      clear hb1 hB1
      go_wp2_with fail
      refine (implRQ_any _ _ _ _ _ _ _ _ _ _ _ _ _ _ _ (by omega) z0 (by omega) (by omega) (by omega) HT1.out).mono ?_
      rintro e w2 ⟨rfl, hb2⟩
      rw [HR.out]
      go_wp2_with fail
      go_ret
      exact ⟨rfl, hc1.trans (hb2.mono hc1.size)⟩
    · go_enter Tryd.func13, Tryd.ntmps13
      go_wp2_with fail
      have hB1 : Below w.heap.size w (w.alloc (.cells #[.string u0, .string ⟨#[]⟩, .bool u2, .string u3, .bool u4, .string u5, .string u6, .string u7, .string u8, .string u9, .bool false, .string u11, .string u12, .bool u13] 28)) := (Below.refl _ _).alloc (Nat.le_refl _) _
      refine (implEP_any _ _ _ (by omega) (by omega) (HT.out.below hB1)).mono ?_
      rintro e w1 ⟨rfl, hb1⟩
      have y0 : w1.cell? ⟨w.heap.size, 0, none⟩ = some (.string u0) := (hb1.cell (p := ⟨w.heap.size, 0, none⟩) (by simp)).trans (by go_simp)
      have y1 : w1.cell? ⟨w.heap.size, 1, none⟩ = some (.string ⟨#[]⟩) := (hb1.cell (p := ⟨w.heap.size, 1, none⟩) (by simp)).trans (by go_simp)
      have y2 : w1.cell? ⟨w.heap.size, 2, none⟩ = some (.bool u2) := (hb1.cell (p := ⟨w.heap.size, 2, none⟩) (by simp)).trans (by go_simp)
      have y3 : w1.cell? ⟨w.heap.size, 3, none⟩ = some (.string u3) := (hb1.cell (p := ⟨w.heap.size, 3, none⟩) (by simp)).trans (by go_simp)
      have y4 : w1.cell? ⟨w.heap.size, 4, none⟩ = some (.bool u4) := (hb1.cell (p := ⟨w.heap.size, 4, none⟩) (by simp)).trans (by go_simp)
      have y5 : w1.cell? ⟨w.heap.size, 5, none⟩ = some (.string u5) := (hb1.cell (p := ⟨w.heap.size, 5, none⟩) (by simp)).trans (by go_simp)
      have y6 : w1.cell? ⟨w.heap.size, 6, none⟩ = some (.string u6) := (hb1.cell (p := ⟨w.heap.size, 6, none⟩) (by simp)).trans (by go_simp)
      have y7 : w1.cell? ⟨w.heap.size, 7, none⟩ = some (.string u7) := (hb1.cell (p := ⟨w.heap.size, 7, none⟩) (by simp)).trans (by go_simp)
      have y8 : w1.cell? ⟨w.heap.size, 8, none⟩ = some (.string u8) := (hb1.cell (p := ⟨w.heap.size, 8, none⟩) (by simp)).trans (by go_simp)
      have y9 : w1.cell? ⟨w.heap.size, 9, none⟩ = some (.string u9) := (hb1.cell (p := ⟨w.heap.size, 9, none⟩) (by simp)).trans (by go_simp)
      have y10 : w1.cell? ⟨w.heap.size, 10, none⟩ = some (.bool false) := (hb1.cell (p := ⟨w.heap.size, 10, none⟩) (by simp)).trans (by go_simp)
      have y11 : w1.cell? ⟨w.heap.size, 11, none⟩ = some (.string u11) := (hb1.cell (p := ⟨w.heap.size, 11, none⟩) (by simp)).trans (by go_simp)
      have y12 : w1.cell? ⟨w.heap.size, 12, none⟩ = some (.string u12) := (hb1.cell (p := ⟨w.heap.size, 12, none⟩) (by simp)).trans (by go_simp)
      have y13 : w1.cell? ⟨w.heap.size, 13, none⟩ = some (.bool u13) := (hb1.cell (p := ⟨w.heap.size, 13, none⟩) (by simp)).trans (by go_simp)
      have hc1 := hB1.trans (hb1.mono hB1.size)
      have HT1 := Lib.hid (HT.out.below hc1)
      clear hb1 hB1
      go_wp2_with fail
      refine (implRQ_any _ _ _ _ _ _ _ _ _ _ _ _ _ _ _ (by omega) z0 (by omega) (by omega) (by omega) HT1.out).mono ?_
      rintro e w2 ⟨rfl, hb2⟩
      rw [HR.out]
      go_wp2_with fail
      go_ret
      exact ⟨rfl, hc1.trans (hb2.mono hc1.size)⟩
    · go_enter Tryd.func13, Tryd.ntmps13
      go_wp2_with fail
      go_ret
      exact ⟨rfl, (Below.refl _ _).alloc (Nat.le_refl _) _⟩
  · go_enter Tryd.func13, Tryd.ntmps13
    go_wp2_with fail
    go_ret
    exact ⟨rfl, (Below.refl _ _).alloc (Nat.le_refl _) _⟩

set_option maxHeartbeats 4000000 in
theorem requestURI_op (u0 : ByteArray) (u1 : ByteArray) (u2 : Bool) (u3 : ByteArray) (u4 : Bool) (u5 : ByteArray) (u6 : ByteArray) (u7 : ByteArray) (u8 : ByteArray) (u9 : ByteArray) (u10 : Bool) (u11 : ByteArray) (u12 : ByteArray) (u13 : Bool) (h0 : u0.size ≤ 1048576) (h1 : u1.size ≤ 1048576) (_h3 : u3.size ≤ 1048576) (_h5 : u5.size ≤ 1048576) (_h6 : u6.size ≤ 1048576) (h7 : u7.size ≤ 1048576) (h8 : u8.size ≤ 1048576) (h9 : u9.size ≤ 1048576) (_h11 : u11.size ≤ 1048576) (_h12 : u12.size ≤ 1048576) (w : World) (hT : Tab w) (ho : u1.toList.isEmpty = false) :
    Calls Tryd.prog 13 #[.agg #[.string u0, .string u1, .bool u2, .string u3, .bool u4, .string u5, .string u6, .string u7, .string u8, .string u9, .bool u10, .string u11, .string u12, .bool u13]] w fun e w' => e = .returned (.bool true) ∧ Below w.heap.size w w' := by
  have HT := Lib.hid hT
  clear hT
  have hne2 : (u1 ++ (⟨#[63]⟩ ++ u9)).toList.isEmpty = false := app_ne ho
  have core : Lib.hasPrefix u1.data.toList [47, 47] = false → (2 ≤ u1.size → ((u1.extract 0 2).toList == [47, 47]) = false) →
      Calls Tryd.prog 13 #[.agg #[.string u0, .string u1, .bool u2, .string u3, .bool u4, .string u5, .string u6, .string u7, .string u8, .string u9, .bool u10, .string u11, .string u12, .bool u13]] w fun e w' => e = .returned (.bool true) ∧ Below w.heap.size w w' := fun hp he2 => by
    have HR := Lib.hid (rqB_op u0 u1 u7 u8 u9 u10 ho hp)
    clear hp
    by_cases h2 : 2 ≤ u1.size
    · have h3 := he2 h2
      clear he2
      cases h9e : u9.toList.isEmpty <;> cases u10
      all_goals
        rw [h9e] at HR
        simp only [Bool.false_eq_true, if_false, if_true, Bool.not_false, Bool.not_true, Bool.or_false, Bool.or_true] at HR
      · go_enter Tryd.func13, Tryd.ntmps13
        go_wp2_with fail
        have hB1 : Below w.heap.size w (w.alloc (.cells #[.string u0, .string u1, .bool u2, .string u3, .bool u4, .string u5, .string u6, .string u7, .string u8, .string u9, .bool false, .string u11, .string u12, .bool u13] 28)) := (Below.refl _ _).alloc (Nat.le_refl _) _
        refine (implRQ_any _ _ _ _ _ _ _ _ _ _ _ _ _ _ _ (by omega) (by omega) (by omega) (by omega) (by omega) (HT.out.below hB1)).mono ?_
        rintro e w2 ⟨rfl, hb2⟩
        rw [HR.out]
        go_wp2_with fail
        go_ret
        exact ⟨rfl, hB1.trans (hb2.mono hB1.size)⟩
      · go_enter Tryd.func13, Tryd.ntmps13
        go_wp2_with fail
        have hB1 : Below w.heap.size w (w.alloc (.cells #[.string u0, .string u1, .bool u2, .string u3, .bool u4, .string u5, .string u6, .string u7, .string u8, .string u9, .bool true, .string u11, .string u12, .bool u13] 28)) := (Below.refl _ _).alloc (Nat.le_refl _) _
        refine (implRQ_any _ _ _ _ _ _ _ _ _ _ _ _ _ _ _ (by omega) (by omega) (by omega) (by omega) (by omega) (HT.out.below hB1)).mono ?_
        rintro e w2 ⟨rfl, hb2⟩
        rw [HR.out]
        go_wp2_with fail
        go_ret
        exact ⟨rfl, hB1.trans (hb2.mono hB1.size)⟩
      · go_enter Tryd.func13, Tryd.ntmps13
        go_wp2_with fail
        have hB1 : Below w.heap.size w (w.alloc (.cells #[.string u0, .string u1, .bool u2, .string u3, .bool u4, .string u5, .string u6, .string u7, .string u8, .string u9, .bool false, .string u11, .string u12, .bool u13] 28)) := (Below.refl _ _).alloc (Nat.le_refl _) _
        refine (implRQ_any _ _ _ _ _ _ _ _ _ _ _ _ _ _ _ (by omega) (by omega) (by omega) (by omega) (by omega) (HT.out.below hB1)).mono ?_
        rintro e w2 ⟨rfl, hb2⟩
        rw [HR.out]
        go_wp2_with fail
        go_ret
        exact ⟨rfl, hB1.trans (hb2.mono hB1.size)⟩
      · go_enter Tryd.func13, Tryd.ntmps13
        go_wp2_with fail
        go_ret
        exact ⟨rfl, (Below.refl _ _).alloc (Nat.le_refl _) _⟩
    · clear he2
      cases h9e : u9.toList.isEmpty <;> cases u10
      all_goals
        rw [h9e] at HR
        simp only [Bool.false_eq_true, if_false, if_true, Bool.not_false, Bool.not_true, Bool.or_false, Bool.or_true] at HR
      · go_enter Tryd.func13, Tryd.ntmps13
        go_wp2_with fail
        have hB1 : Below w.heap.size w (w.alloc (.cells #[.string u0, .string u1, .bool u2, .string u3, .bool u4, .string u5, .string u6, .string u7, .string u8, .string u9, .bool false, .string u11, .string u12, .bool u13] 28)) := (Below.refl _ _).alloc (Nat.le_refl _) _
        refine (implRQ_any _ _ _ _ _ _ _ _ _ _ _ _ _ _ _ (by omega) (by omega) (by omega) (by omega) (by omega) (HT.out.below hB1)).mono ?_
        rintro e w2 ⟨rfl, hb2⟩
        rw [HR.out]
        go_wp2_with fail
        go_ret
        exact ⟨rfl, hB1.trans (hb2.mono hB1.size)⟩
      · go_enter Tryd.func13, Tryd.ntmps13
        go_wp2_with fail
        have hB1 : Below w.heap.size w (w.alloc (.cells #[.string u0, .string u1, .bool u2, .string u3, .bool u4, .string u5, .string u6, .string u7, .string u8, .string u9, .bool true, .string u11, .string u12, .bool u13] 28)) := (Below.refl _ _).alloc (Nat.le_refl _) _
        refine (implRQ_any _ _ _ _ _ _ _ _ _ _ _ _ _ _ _ (by omega) (by omega) (by omega) (by omega) (by omega) (HT.out.below hB1)).mono ?_
        rintro e w2 ⟨rfl, hb2⟩
        rw [HR.out]
        go_wp2_with fail
        go_ret
        exact ⟨rfl, hB1.trans (hb2.mono hB1.size)⟩
      · go_enter Tryd.func13, Tryd.ntmps13
        go_wp2_with fail
        have hB1 : Below w.heap.size w (w.alloc (.cells #[.string u0, .string u1, .bool u2, .string u3, .bool u4, .string u5, .string u6, .string u7, .string u8, .string u9, .bool false, .string u11, .string u12, .bool u13] 28)) := (Below.refl _ _).alloc (Nat.le_refl _) _
        refine (implRQ_any _ _ _ _ _ _ _ _ _ _ _ _ _ _ _ (by omega) (by omega) (by omega) (by omega) (by omega) (HT.out.below hB1)).mono ?_
        rintro e w2 ⟨rfl, hb2⟩
        rw [HR.out]
        go_wp2_with fail
        go_ret
        exact ⟨rfl, hB1.trans (hb2.mono hB1.size)⟩
      · go_enter Tryd.func13, Tryd.ntmps13
        go_wp2_with fail
        go_ret
        exact ⟨rfl, (Below.refl _ _).alloc (Nat.le_refl _) _⟩
  by_cases h2 : 2 ≤ u1.size
  · cases hp : Lib.hasPrefix u1.data.toList [47, 47]
    · exact core hp (fun _ => by rw [← slash_long h2]; exact hp)
    · have h3 : ((u1.extract 0 2).toList == [47, 47]) = true := by rw [← slash_long h2]; exact hp
      clear hp core
      go_enter Tryd.func13, Tryd.ntmps13
      go_wp2_with fail
      go_ret
      exact ⟨rfl, (Below.refl _ _).alloc (Nat.le_refl _) _⟩
  · exact core (slash_short (by omega)) (fun h => absurd h h2)

theorem fnRequestURI_walk (u0 : ByteArray) (u1 : ByteArray) (u2 : Bool) (u3 : ByteArray) (u4 : Bool) (u5 : ByteArray) (u6 : ByteArray) (u7 : ByteArray) (u8 : ByteArray) (u9 : ByteArray) (u10 : Bool) (u11 : ByteArray) (u12 : ByteArray) (u13 : Bool) (h0 : u0.size ≤ 1048576) (h1 : u1.size ≤ 1048576) (h3 : u3.size ≤ 1048576) (h5 : u5.size ≤ 1048576) (h6 : u6.size ≤ 1048576) (h7 : u7.size ≤ 1048576) (h8 : u8.size ≤ 1048576) (h9 : u9.size ≤ 1048576) (h11 : u11.size ≤ 1048576) (h12 : u12.size ≤ 1048576) (w : World) (hT : Tab w) :
    Calls Tryd.prog 13 #[.agg #[.string u0, .string u1, .bool u2, .string u3, .bool u4, .string u5, .string u6, .string u7, .string u8, .string u9, .bool u10, .string u11, .string u12, .bool u13]] w fun e w' => e = .returned (.bool true) ∧ Below w.heap.size w w' := by
  cases ho : u1.toList.isEmpty
  · exact requestURI_op u0 u1 u2 u3 u4 u5 u6 u7 u8 u9 u10 u11 u12 u13 h0 h1 h3 h5 h6 h7 h8 h9 h11 h12 w hT ho
  · obtain rfl := is_empty ho
    exact requestURI_path u0 u2 u3 u4 u5 u6 u7 u8 u9 u10 u11 u12 u13 h0 h3 h5 h6 h7 h8 h9 h11 h12 w hT
end Go.Proofs.YtgaiphodohldlaaDoor
