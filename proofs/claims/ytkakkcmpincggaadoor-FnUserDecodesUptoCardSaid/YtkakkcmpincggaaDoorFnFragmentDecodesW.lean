/- What FnFragmentDecodes, FnFragmentIgnored and FnFragmentKept return, where memory holds the table. -/
import Derived.Test.YtkakkcmpincggaaDoorFnFragmentBytesW
import Derived.Test.YtkakkcmpincggaaDoorSpecDec
namespace Go.Proofs.YtkakkcmpincggaaDoor
open Go.RowKit

theorem dec_some (x : ByteArray) (p : List UInt8) (w : World) (hx : x.size < 140737488355328) (h : plain.decode x.data.toList = some p) :
    Calls Tryd.prog 16 #[.string x] w fun e w' => e = .returned (.tuple #[.string (S p), .bool true]) ∧ Below w.heap.size w w' := by
  rw [← decV_some h]; exact decode_any x w hx
theorem dec_none (x : ByteArray) (w : World) (hx : x.size < 140737488355328) (h : plain.decode x.data.toList = none) :
    Calls Tryd.prog 16 #[.string x] w fun e w' => e = .returned (.tuple #[.string ⟨#[]⟩, .bool false]) ∧ Below w.heap.size w w' := by
  rw [← decV_none h]; exact decode_any x w hx

theorem ef_a : efB ⟨#[97]⟩ ⟨#[]⟩ = ⟨#[97]⟩ := by
  rw [efB, show (⟨#[]⟩ : ByteArray).data.toList = [] from rfl, efL_made (not_keptF_nil _)]
  exact S_ext (by rw [data_S]; decide +kernel)

set_option maxHeartbeats 1000000 in
theorem fnFragmentDecodes_walk (p r : ByteArray) (hp : p.size ≤ 1048576) (hr : r.size ≤ 1048576) (w : World) (hT : Tab w) :
    Calls Tryd.prog 5 #[.string p, .string r] w fun e w' => e = .returned (.bool true) ∧ Below w.heap.size w w' := by
  have HT := Lib.hid hT
  clear hT
  have s1 := efB_size p r
  have CD : Hid (∀ wx, Calls Tryd.prog 16 #[.string (efB p r)] wx fun e w' => e = .returned (.tuple #[.string p, .bool true]) ∧ Below wx.heap.size wx w') := fun wx => by
    have := dec_some (efB p r) p.data.toList wx (by omega) (by rw [efB, data_S]; exact decode_efL _ _)
    rw [S_data] at this
    exact this
  have CE : Hid (∀ wx, Tab wx → Calls Tryd.prog 13 #[.string ⟨#[97]⟩, .string ⟨#[]⟩] wx fun e w' => e = .returned (.string ⟨#[97]⟩) ∧ Below wx.heap.size wx w') := fun wx h => by
    have := implEF_any ⟨#[97]⟩ ⟨#[]⟩ wx (by decide) none_sizeF h
    rw [ef_a] at this
    exact this
  clear s1
  go_enter Tryd.func5, Tryd.ntmps5
  go_wp2_with fail
  refine (implEF_any _ _ _ (by omega) (by omega) HT.out).mono ?_
  rintro e w1 ⟨rfl, hb1⟩
  go_wp2_with fail
  refine (CD.out _).mono ?_
  rintro e w2 ⟨rfl, hb2⟩
  have hc2 := hb1.trans (hb2.mono hb1.size)
  have HT2 := Lib.hid (HT.out.below hc2)
  go_wp2_with fail
  refine (CE.out _ HT2.out).mono ?_
  rintro e w3 ⟨rfl, hb3⟩
  go_wp2_with fail
  go_ret
  exact ⟨rfl, hc2.trans (hb3.mono hc2.size)⟩

theorem more_one (c : UInt8) (a : ByteArray) : (a ++ ⟨#[c]⟩ : ByteArray).size = a.size + 1 := by rw [ByteArray.size_append]; rfl
theorem made_ne' (c : UInt8) (a r : ByteArray) : (efB (a ++ ⟨#[c]⟩) r).toList.isEmpty = false := efB_ne (by rw [data_app]; simp)
theorem efB_ignored {p r : ByteArray} (h : plain.decode r.data.toList ≠ some p.data.toList) : efB p r = efB p ⟨#[]⟩ := by
  have h1 : ¬ keptFragment p.data.toList r.data.toList := fun hk => h hk.2.2
  rw [efB, efB]
  congr 1
  rw [efL_made h1, efL_made (not_keptF_nil _)]

set_option maxHeartbeats 1000000 in
theorem fnFragmentIgnored_walk (p r : ByteArray) (hp : p.size ≤ 1048576) (hr : r.size ≤ 1048576) (w : World) (hT : Tab w) :
    Calls Tryd.prog 6 #[.string p, .string r] w fun e w' => e = .returned (.bool true) ∧ Below w.heap.size w w' := by
  have HT := Lib.hid hT
  clear hT
  have z1 : (p ++ ⟨#[47]⟩ : ByteArray).size ≤ 4194304 := by rw [more_one]; omega
  have z2 : (r ++ ⟨#[37]⟩ : ByteArray).size < 140737488355328 := by rw [more_one]; omega
  have hne := made_ne' 47 p (r ++ ⟨#[37]⟩)
  by_cases hd : plain.decode r.data.toList = some p.data.toList
  · have CD : Hid (∀ wx, Calls Tryd.prog 16 #[.string r] wx fun e w' => e = .returned (.tuple #[.string p, .bool true]) ∧ Below wx.heap.size wx w') := fun wx => by
      have := dec_some r p.data.toList wx (by omega) hd
      rw [S_data] at this
      exact this
    clear hd
    go_enter Tryd.func6, Tryd.ntmps6
    go_wp2_with fail
    refine (CD.out _).mono ?_
    rintro e w1 ⟨rfl, hb1⟩
    go_wp2_with fail
    go_ret
    exact ⟨rfl, hb1⟩
  · have CE : Hid (∀ wx, Tab wx → Calls Tryd.prog 13 #[.string p, .string r] wx fun e w' => e = .returned (.string (efB p ⟨#[]⟩)) ∧ Below wx.heap.size wx w') := fun wx h => by
      rw [← efB_ignored hd]; exact implEF_any p r wx (by omega) (by omega) h
    have C0 : Hid (∀ wx, Tab wx → Calls Tryd.prog 13 #[.string p, .string ⟨#[]⟩] wx fun e w' => e = .returned (.string (efB p ⟨#[]⟩)) ∧ Below wx.heap.size wx w') := fun wx h => implEF_any p ⟨#[]⟩ wx (by omega) none_sizeF h
    cases hq : plain.decode r.data.toList with
    | none =>
      have CD := Lib.hid (fun wx => dec_none r wx (by omega) hq)
      clear hd hq
      go_enter Tryd.func6, Tryd.ntmps6
      go_wp2_with fail
      refine (CD.out _).mono ?_
      rintro e w1 ⟨rfl, hb1⟩
      have HT1 := Lib.hid (HT.out.below hb1)
      go_wp2_with fail
      refine (CE.out _ HT1.out).mono ?_
      rintro e w2 ⟨rfl, hb2⟩
      have hc2 := hb1.trans (hb2.mono hb1.size)
      have HT2 := Lib.hid (HT.out.below hc2)
      go_wp2_with fail
      refine (C0.out _ HT2.out).mono ?_
      rintro e w3 ⟨rfl, hb3⟩
      have hc3 := hc2.trans (hb3.mono hc2.size)
      have HT3 := Lib.hid (HT.out.below hc3)
      go_wp2_with fail
      refine (implEF_any _ _ _ z1 z2 HT3.out).mono ?_
      rintro e w4 ⟨rfl, hb4⟩
      go_wp2_with fail
      go_ret
      exact ⟨rfl, hc3.trans (hb4.mono hc3.size)⟩
    | some q =>
      have CD := Lib.hid (fun wx => dec_some r q wx (by omega) hq)
      have hqne : ((S q).toList == p.toList) = false := str_ne (fun e => hd (by rw [hq, ← e, data_S]))
      generalize S q = qq at *
      clear hd hq
      go_enter Tryd.func6, Tryd.ntmps6
      go_wp2_with fail
      refine (CD.out _).mono ?_
      rintro e w1 ⟨rfl, hb1⟩
      have HT1 := Lib.hid (HT.out.below hb1)
      go_wp2_with fail
      refine (CE.out _ HT1.out).mono ?_
      rintro e w2 ⟨rfl, hb2⟩
      have hc2 := hb1.trans (hb2.mono hb1.size)
      have HT2 := Lib.hid (HT.out.below hc2)
      go_wp2_with fail
      refine (C0.out _ HT2.out).mono ?_
      rintro e w3 ⟨rfl, hb3⟩
      have hc3 := hc2.trans (hb3.mono hc2.size)
      have HT3 := Lib.hid (HT.out.below hc3)
      go_wp2_with fail
      refine (implEF_any _ _ _ z1 z2 HT3.out).mono ?_
      rintro e w4 ⟨rfl, hb4⟩
      go_wp2_with fail
      go_ret
      exact ⟨rfl, hc3.trans (hb4.mono hc3.size)⟩
end Go.Proofs.YtkakkcmpincggaaDoor
