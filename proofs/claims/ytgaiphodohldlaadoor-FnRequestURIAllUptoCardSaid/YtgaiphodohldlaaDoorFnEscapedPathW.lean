/- What spec.EscapedPath and FnEscapedPath return, where memory holds the table. -/
import Derived.Test.YtgaiphodohldlaaDoorFnPathDecodesW
import Derived.Test.YtgaiphodohldlaaDoorSpecEnc
namespace Go.Proofs.YtgaiphodohldlaaDoor
open Go.RowKit

theorem enc1_any (n : ByteArray) (w : World) (hn : n.size ≤ 4194304) :
    Calls Tryd.prog 23 #[.string n, .string ⟨#[36, 38, 43, 44, 47, 58, 59, 61, 64]⟩] w fun e w' => e = .returned (.string (S (encP 1 n.data.toList))) ∧ Below w.heap.size w w' := by
  rw [encP_path]; exact encode_any n ⟨#[36, 38, 43, 44, 47, 58, 59, 61, 64]⟩ w hn (by decide)
theorem isOfR_any (r : ByteArray) (w : World) (hr : r.size < 140737488355328) :
    Calls Tryd.prog 22 #[.string r, .string ⟨#[33, 36, 38, 39, 40, 41, 42, 43, 44, 59, 61, 58, 64, 47, 91, 93]⟩] w fun e w' => e = .returned (.bool (plain.isOf (stands pathR) r.data.toList)) ∧ w = w' :=
  isOf_any r ⟨#[33, 36, 38, 39, 40, 41, 42, 43, 44, 59, 61, 58, 64, 47, 91, 93]⟩ w (by omega) (by decide)

set_option maxHeartbeats 1000000 in
/-- behind the first question: a path that is * stays, others are encoded -/
theorem specEP_made (p r q : ByteArray) (ok is : Bool) (w : World) (hp : p.size ≤ 4194304) (x : ByteArray) (hx : (p = ⟨#[42]⟩ ∧ x = ⟨#[42]⟩) ∨ (¬ p = ⟨#[42]⟩ ∧ x = S (encP 1 p.data.toList)))
    (CD : Hid (∀ wx, Calls Tryd.prog 18 #[.string r] wx fun e w' => e = .returned (.tuple #[.string q, .bool ok]) ∧ Below wx.heap.size wx w'))
    (CI : Hid (∀ wx, Calls Tryd.prog 22 #[.string r, .string ⟨#[33, 36, 38, 39, 40, 41, 42, 43, 44, 59, 61, 58, 64, 47, 91, 93]⟩] wx fun e w' => e = .returned (.bool is) ∧ wx = w'))
    (h : (r.toList.isEmpty = true) ∨ (r.toList.isEmpty = false ∧ ok = false) ∨ (r.toList.isEmpty = false ∧ ok = true ∧ (q.toList == p.toList) = false) ∨ (r.toList.isEmpty = false ∧ ok = true ∧ q = p ∧ is = false)) :
    Calls Tryd.prog 16 #[.string p, .string r] w fun e w' => e = .returned (.string x) ∧ Below w.heap.size w w' := by
  have CE := Lib.hid (fun wx => enc1_any p wx hp)
  rcases hx with ⟨rfl, rfl⟩ | ⟨hs, rfl⟩
  · rcases h with h | ⟨h, rfl⟩ | ⟨h, rfl, h2⟩ | ⟨h, rfl, rfl, rfl⟩
    · go_enter Tryd.func16, Tryd.ntmps16
      go_wp2_with fail
      refine (CD.out _).mono ?_
      rintro e w1 ⟨rfl, hb1⟩
      go_wp2_with fail
      go_ret
      exact ⟨rfl, hb1⟩
    · go_enter Tryd.func16, Tryd.ntmps16
      go_wp2_with fail
      refine (CD.out _).mono ?_
      rintro e w1 ⟨rfl, hb1⟩
      go_wp2_with fail
      go_ret
      exact ⟨rfl, hb1⟩
    · have h3 : (q.toList == [42]) = false := by rw [Lib.toList_data ⟨#[42]⟩] at h2; exact h2
      clear h2
      go_enter Tryd.func16, Tryd.ntmps16
      go_wp2_with fail
      refine (CD.out _).mono ?_
      rintro e w1 ⟨rfl, hb1⟩
      go_wp2_with fail
      go_ret
      exact ⟨rfl, hb1⟩
    · go_enter Tryd.func16, Tryd.ntmps16
      go_wp2_with fail
      refine (CD.out _).mono ?_
      rintro e w1 ⟨rfl, hb1⟩
      go_wp2_with fail
      refine (CI.out _).mono ?_
      rintro e w' ⟨rfl, rfl⟩
      go_wp2_with fail
      go_ret
      exact ⟨rfl, hb1⟩
  · have n1 := star_ne hs
    clear hs
    rcases h with h | ⟨h, rfl⟩ | ⟨h, rfl, h2⟩ | ⟨h, rfl, rfl, rfl⟩
    · go_enter Tryd.func16, Tryd.ntmps16
      go_wp2_with fail
      refine (CD.out _).mono ?_
      rintro e w1 ⟨rfl, hb1⟩
      go_wp2_with fail
      refine (CE.out _).mono ?_
      rintro e w2 ⟨rfl, hb2⟩
      go_wp2_with fail
      go_ret
      exact ⟨rfl, hb1.trans (hb2.mono hb1.size)⟩
    · go_enter Tryd.func16, Tryd.ntmps16
      go_wp2_with fail
      refine (CD.out _).mono ?_
      rintro e w1 ⟨rfl, hb1⟩
      go_wp2_with fail
      refine (CE.out _).mono ?_
      rintro e w2 ⟨rfl, hb2⟩
      go_wp2_with fail
      go_ret
      exact ⟨rfl, hb1.trans (hb2.mono hb1.size)⟩
    · go_enter Tryd.func16, Tryd.ntmps16
      go_wp2_with fail
      refine (CD.out _).mono ?_
      rintro e w1 ⟨rfl, hb1⟩
      go_wp2_with fail
      refine (CE.out _).mono ?_
      rintro e w2 ⟨rfl, hb2⟩
      go_wp2_with fail
      go_ret
      exact ⟨rfl, hb1.trans (hb2.mono hb1.size)⟩
    · go_enter Tryd.func16, Tryd.ntmps16
      go_wp2_with fail
      refine (CD.out _).mono ?_
      rintro e w1 ⟨rfl, hb1⟩
      go_wp2_with fail
      refine (CI.out _).mono ?_
      rintro e w' ⟨rfl, rfl⟩
      go_wp2_with fail
      refine (CE.out _).mono ?_
      rintro e w2 ⟨rfl, hb2⟩
      go_wp2_with fail
      go_ret
      exact ⟨rfl, hb1.trans (hb2.mono hb1.size)⟩

set_option maxHeartbeats 1000000 in
theorem specEP_kept (p r : ByteArray) (w : World) (hne : r.toList.isEmpty = false)
    (CD : Hid (∀ wx, Calls Tryd.prog 18 #[.string r] wx fun e w' => e = .returned (.tuple #[.string p, .bool true]) ∧ Below wx.heap.size wx w'))
    (CI : Hid (∀ wx, Calls Tryd.prog 22 #[.string r, .string ⟨#[33, 36, 38, 39, 40, 41, 42, 43, 44, 59, 61, 58, 64, 47, 91, 93]⟩] wx fun e w' => e = .returned (.bool true) ∧ wx = w')) :
    Calls Tryd.prog 16 #[.string p, .string r] w fun e w' => e = .returned (.string r) ∧ Below w.heap.size w w' := by
  go_enter Tryd.func16, Tryd.ntmps16
  go_wp2_with fail
  refine (CD.out _).mono ?_
  rintro e w1 ⟨rfl, hb1⟩
  go_wp2_with fail
  refine (CI.out _).mono ?_
  rintro e w' ⟨rfl, rfl⟩
  go_wp2_with fail
  go_ret
  exact ⟨rfl, hb1⟩

theorem specEP_any (p r : ByteArray) (w : World) (hp : p.size ≤ 4194304) (hr : r.size < 140737488355328) :
    Calls Tryd.prog 16 #[.string p, .string r] w fun e w' => e = .returned (.string (epB p r)) ∧ Below w.heap.size w w' := by
  by_cases hk : keptPath p.data.toList r.data.toList
  · rw [epB, epL_kept hk, S_data]
    obtain ⟨h1, h2, h3⟩ := hk
    rw [valid_path h3] at h2
    refine specEP_kept p r w (nonempty_of h1) (fun wx => ?_) (fun wx => ?_)
    · have := dec_some r p.data.toList wx hr h3
      rw [S_data] at this
      exact this
    · rw [← h2]; exact isOfR_any r wx hr
  · have hx : (p = ⟨#[42]⟩ ∧ epB p r = ⟨#[42]⟩) ∨ (¬ p = ⟨#[42]⟩ ∧ epB p r = S (encP 1 p.data.toList)) := by
      by_cases hv : p.data.toList = [42]
      · exact .inl ⟨S_ext hv, by rw [epB, epL_star hk hv]; rfl⟩
      · exact .inr ⟨fun e => hv (by rw [e]), by rw [epB, epL_made hk hv]⟩
    cases hd : plain.decode r.data.toList with
    | none =>
      refine specEP_made p r ⟨#[]⟩ false _ w hp _ hx (fun wx => dec_none r wx hr hd) (fun wx => isOfR_any r wx hr) ?_
      cases he : r.toList.isEmpty
      · exact .inr (.inl ⟨rfl, rfl⟩)
      · exact .inl rfl
    | some q =>
      refine specEP_made p r (S q) true _ w hp _ hx (fun wx => dec_some r q wx hr hd) (fun wx => isOfR_any r wx hr) ?_
      cases he : r.toList.isEmpty
      · by_cases hq : S q = p
        · refine .inr (.inr (.inr ⟨rfl, rfl, hq, ?_⟩))
          rw [← valid_path hd]
          cases hv : validL 1 r.data.toList
          · rfl
          · exact absurd ⟨ne_nil he, hv, by rw [hd, ← hq, data_S]⟩ hk
        · exact .inr (.inr (.inl ⟨rfl, rfl, str_ne hq⟩))
      · exact .inl rfl

theorem fnEscapedPath_walk (p r : ByteArray) (hp : p.size ≤ 1048576) (hr : r.size ≤ 1048576) (w : World) (hT : Tab w) :
    Calls Tryd.prog 3 #[.string p, .string r] w fun e w' => e = .returned (.bool true) ∧ Below w.heap.size w w' := by
  have HT := Lib.hid hT
  clear hT
  go_enter Tryd.func3, Tryd.ntmps3
  go_wp2_with fail
  refine (implEP_any _ _ _ (by omega) (by omega) HT.out).mono ?_
  rintro e w1 ⟨rfl, hb1⟩
  go_wp2_with fail
  refine (specEP_any _ _ _ (by omega) (by omega)).mono ?_
  rintro e w2 ⟨rfl, hb2⟩
  go_wp2_with fail
  go_ret
  exact ⟨rfl, hb1.trans (hb2.mono hb1.size)⟩
end Go.Proofs.YtgaiphodohldlaaDoor
