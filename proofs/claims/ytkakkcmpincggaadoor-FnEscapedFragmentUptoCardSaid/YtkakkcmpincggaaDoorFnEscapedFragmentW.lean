/- What spec.EscapedFragment and FnEscapedFragment return, where memory holds the table. -/
import Derived.Test.YtkakkcmpincggaaDoorFnFragmentDecodesW
import Derived.Test.YtkakkcmpincggaaDoorSpecEnc
namespace Go.Proofs.YtkakkcmpincggaaDoor
open Go.RowKit

theorem enc64_any (n : ByteArray) (w : World) (hn : n.size ≤ 4194304) :
    Calls Tryd.prog 24 #[.string n, .string ⟨#[36, 38, 43, 44, 47, 58, 59, 61, 63, 64, 33, 40, 41, 42]⟩] w fun e w' => e = .returned (.string (S (encP 64 n.data.toList))) ∧ Below w.heap.size w w' := by
  rw [encP_frag]; exact encode_any n ⟨#[36, 38, 43, 44, 47, 58, 59, 61, 63, 64, 33, 40, 41, 42]⟩ w hn (by decide)
theorem isOfR_any (r : ByteArray) (w : World) (hr : r.size < 140737488355328) :
    Calls Tryd.prog 23 #[.string r, .string ⟨#[33, 36, 38, 39, 40, 41, 42, 43, 44, 59, 61, 58, 64, 47, 63, 91, 93]⟩] w fun e w' => e = .returned (.bool (plain.isOf (stands fragR) r.data.toList)) ∧ w = w' :=
  isOf_any r ⟨#[33, 36, 38, 39, 40, 41, 42, 43, 44, 59, 61, 58, 64, 47, 63, 91, 93]⟩ w (by omega) (by decide)

set_option maxHeartbeats 1000000 in
/-- behind the question: it is encoded -/
theorem specEF_made (p r q : ByteArray) (ok is : Bool) (w : World) (hp : p.size ≤ 4194304)
    (CD : Hid (∀ wx, Calls Tryd.prog 16 #[.string r] wx fun e w' => e = .returned (.tuple #[.string q, .bool ok]) ∧ Below wx.heap.size wx w'))
    (CI : Hid (∀ wx, Calls Tryd.prog 23 #[.string r, .string ⟨#[33, 36, 38, 39, 40, 41, 42, 43, 44, 59, 61, 58, 64, 47, 63, 91, 93]⟩] wx fun e w' => e = .returned (.bool is) ∧ wx = w'))
    (h : (r.toList.isEmpty = true) ∨ (r.toList.isEmpty = false ∧ ok = false) ∨ (r.toList.isEmpty = false ∧ ok = true ∧ (q.toList == p.toList) = false) ∨ (r.toList.isEmpty = false ∧ ok = true ∧ q = p ∧ is = false)) :
    Calls Tryd.prog 14 #[.string p, .string r] w fun e w' => e = .returned (.string (S (encP 64 p.data.toList))) ∧ Below w.heap.size w w' := by
  have CE := Lib.hid (fun wx => enc64_any p wx hp)
  rcases h with h | ⟨h, rfl⟩ | ⟨h, rfl, h2⟩ | ⟨h, rfl, rfl, rfl⟩
  · go_enter Tryd.func14, Tryd.ntmps14
    go_wp2_with fail
    refine (CD.out _).mono ?_
    rintro e w1 ⟨rfl, hb1⟩
    go_wp2_with fail
    refine (CE.out _).mono ?_
    rintro e w2 ⟨rfl, hb2⟩
    go_wp2_with fail
    go_ret
    exact ⟨rfl, hb1.trans (hb2.mono hb1.size)⟩
  · go_enter Tryd.func14, Tryd.ntmps14
    go_wp2_with fail
    refine (CD.out _).mono ?_
    rintro e w1 ⟨rfl, hb1⟩
    go_wp2_with fail
    refine (CE.out _).mono ?_
    rintro e w2 ⟨rfl, hb2⟩
    go_wp2_with fail
    go_ret
    exact ⟨rfl, hb1.trans (hb2.mono hb1.size)⟩
  · go_enter Tryd.func14, Tryd.ntmps14
    go_wp2_with fail
    refine (CD.out _).mono ?_
    rintro e w1 ⟨rfl, hb1⟩
    go_wp2_with fail
    refine (CE.out _).mono ?_
    rintro e w2 ⟨rfl, hb2⟩
    go_wp2_with fail
    go_ret
    exact ⟨rfl, hb1.trans (hb2.mono hb1.size)⟩
  · go_enter Tryd.func14, Tryd.ntmps14
    go_wp2_with fail
    refine (CD.out _).mono ?_
    rintro e w1 ⟨rfl, hb1⟩
    go_wp2_with fail
    refine (CI.out _).mono ?_
    rintro e w' ⟨rfl, rfl⟩
    go_wp2_with fail
    refine (CE.out _).mono ?_
    rintro e w2 ⟨rfl, hb2⟩
    go_wp2_with fail
    go_ret
    exact ⟨rfl, hb1.trans (hb2.mono hb1.size)⟩

set_option maxHeartbeats 1000000 in
theorem specEF_kept (p r : ByteArray) (w : World) (hne : r.toList.isEmpty = false)
    (CD : Hid (∀ wx, Calls Tryd.prog 16 #[.string r] wx fun e w' => e = .returned (.tuple #[.string p, .bool true]) ∧ Below wx.heap.size wx w'))
    (CI : Hid (∀ wx, Calls Tryd.prog 23 #[.string r, .string ⟨#[33, 36, 38, 39, 40, 41, 42, 43, 44, 59, 61, 58, 64, 47, 63, 91, 93]⟩] wx fun e w' => e = .returned (.bool true) ∧ wx = w')) :
    Calls Tryd.prog 14 #[.string p, .string r] w fun e w' => e = .returned (.string r) ∧ Below w.heap.size w w' := by
  go_enter Tryd.func14, Tryd.ntmps14
  go_wp2_with fail
  refine (CD.out _).mono ?_
  rintro e w1 ⟨rfl, hb1⟩
  go_wp2_with fail
  refine (CI.out _).mono ?_
  rintro e w' ⟨rfl, rfl⟩
  go_wp2_with fail
  go_ret
  exact ⟨rfl, hb1⟩

theorem specEF_any (p r : ByteArray) (w : World) (hp : p.size ≤ 4194304) (hr : r.size < 140737488355328) :
    Calls Tryd.prog 14 #[.string p, .string r] w fun e w' => e = .returned (.string (efB p r)) ∧ Below w.heap.size w w' := by
  by_cases hk : keptFragment p.data.toList r.data.toList
  · rw [efB, efL_kept hk, S_data]
    obtain ⟨h1, h2, h3⟩ := hk
    rw [valid_frag h3] at h2
    refine specEF_kept p r w (nonempty_of h1) (fun wx => ?_) (fun wx => ?_)
    · have := dec_some r p.data.toList wx hr h3
      rw [S_data] at this
      exact this
    · rw [← h2]; exact isOfR_any r wx hr
  · rw [efB, efL_made hk]
    cases hd : plain.decode r.data.toList with
    | none =>
      refine specEF_made p r ⟨#[]⟩ false _ w hp (fun wx => dec_none r wx hr hd) (fun wx => isOfR_any r wx hr) ?_
      cases he : r.toList.isEmpty
      · exact .inr (.inl ⟨rfl, rfl⟩)
      · exact .inl rfl
    | some q =>
      refine specEF_made p r (S q) true _ w hp (fun wx => dec_some r q wx hr hd) (fun wx => isOfR_any r wx hr) ?_
      cases he : r.toList.isEmpty
      · by_cases hq : S q = p
        · refine .inr (.inr (.inr ⟨rfl, rfl, hq, ?_⟩))
          rw [← valid_frag hd]
          cases hv : validL 64 r.data.toList
          · rfl
          · exact absurd ⟨ne_nil he, hv, by rw [hd, ← hq, data_S]⟩ hk
        · exact .inr (.inr (.inl ⟨rfl, rfl, str_ne hq⟩))
      · exact .inl rfl

theorem fnEscapedFragment_walk (p r : ByteArray) (hp : p.size ≤ 1048576) (hr : r.size ≤ 1048576) (w : World) (hT : Tab w) :
    Calls Tryd.prog 3 #[.string p, .string r] w fun e w' => e = .returned (.bool true) ∧ Below w.heap.size w w' := by
  have HT := Lib.hid hT
  clear hT
  go_enter Tryd.func3, Tryd.ntmps3
  go_wp2_with fail
  refine (implEF_any _ _ _ (by omega) (by omega) HT.out).mono ?_
  rintro e w1 ⟨rfl, hb1⟩
  go_wp2_with fail
  refine (specEF_any _ _ _ (by omega) (by omega)).mono ?_
  rintro e w2 ⟨rfl, hb2⟩
  go_wp2_with fail
  go_ret
  exact ⟨rfl, hb1.trans (hb2.mono hb1.size)⟩
end Go.Proofs.YtkakkcmpincggaaDoor
