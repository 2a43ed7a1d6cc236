/- What spec.UserString and FnUserString return, where memory holds the table. -/
import Derived.Test.YtkakkcmpincggaaDoorUserStr
import Derived.Test.YtkakkcmpincggaaDoorSpecSets
import Derived.Test.YtkakkcmpincggaaDoorSpecEnc
namespace Go.Proofs.YtkakkcmpincggaaDoor
open Go.RowKit

theorem enc16_any (n : ByteArray) (w : World) (hn : n.size ≤ 4194304) :
    Calls Tryd.prog 24 #[.string n, .string ⟨#[36, 38, 43, 44, 59, 61]⟩] w fun e w' => e = .returned (.string (S (encP 16 n.data.toList))) ∧ Below w.heap.size w w' := by
  rw [encP_user]; exact encode_any n ⟨#[36, 38, 43, 44, 59, 61]⟩ w hn (by decide)

set_option maxHeartbeats 1000000 in
theorem specUS_any (n p : ByteArray) (has : Bool) (w : World) (hn : n.size ≤ 4194304) (hp : p.size ≤ 4194304) :
    Calls Tryd.prog 20 #[.string n, .string p, .bool has] w fun e w' => e = .returned (.string (usB n p has)) ∧ Below w.heap.size w w' := by
  have z1 := encS_size n.data.toList (by rw [size_data]; exact hn)
  have z2 := encS_size p.data.toList (by rw [size_data]; exact hp)
  have C1 := Lib.hid (fun wx => enc16_any n wx hn)
  have C2 := Lib.hid (fun wx => enc16_any p wx hp)
  have HU : Hid (usB n p has = match has with | true => S (encP 16 n.data.toList) ++ (⟨#[58]⟩ ++ S (encP 16 p.data.toList)) | false => S (encP 16 n.data.toList)) := by cases has <;> exact Lib.hid rfl
  rw [HU.out]
  clear HU
  generalize S (encP 16 n.data.toList) = x at *
  generalize S (encP 16 p.data.toList) = y at *
  cases has
  · go_enter Tryd.func20, Tryd.ntmps20
    go_wp2_with fail
    refine (C1.out _).mono ?_
    rintro e w1 ⟨rfl, hb1⟩
    go_wp2_with fail
    go_ret
    exact ⟨rfl, hb1⟩
  · go_enter Tryd.func20, Tryd.ntmps20
    go_wp2_with fail
    refine (C1.out _).mono ?_
    rintro e w1 ⟨rfl, hb1⟩
    go_wp2_with fail
    refine (C2.out _).mono ?_
    rintro e w2 ⟨rfl, hb2⟩
    go_wp2_with fail
    go_ret
    exact ⟨rfl, hb1.trans (hb2.mono hb1.size)⟩

set_option maxHeartbeats 1000000 in
theorem fnUserString_walk (n p : ByteArray) (has : Bool) (hn : n.size ≤ 1048576) (hp : p.size ≤ 1048576) (w : World) (hT : Tab w) :
    Calls Tryd.prog 10 #[.string n, .string p, .bool has] w fun e w' => e = .returned (.bool true) ∧ Below w.heap.size w w' := by
  have HT := Lib.hid hT
  clear hT
  have z1 : (⟨#[97]⟩ ++ n : ByteArray).size ≤ 4194304 := by rw [one_more]; omega
  have hne := usB_ne 97 n p has
  go_enter Tryd.func10, Tryd.ntmps10
  go_wp2_with fail
  refine (implUS_any _ _ _ _ (by omega) (by omega) HT.out).mono ?_
  rintro e w1 ⟨rfl, hb1⟩
  go_wp2_with fail
  refine (specUS_any _ _ _ _ (by omega) (by omega)).mono ?_
  rintro e w2 ⟨rfl, hb2⟩
  have hc2 := hb1.trans (hb2.mono hb1.size)
  have HT2 := Lib.hid (HT.out.below hc2)
  go_wp2_with fail
  refine (implUS_any _ _ _ _ z1 (by omega) HT2.out).mono ?_
  rintro e w3 ⟨rfl, hb3⟩
  go_wp2_with fail
  go_ret
  exact ⟨rfl, hc2.trans (hb3.mono hc2.size)⟩
end Go.Proofs.YtkakkcmpincggaaDoor
