/- What IsFragment and FnFragmentBytes return, where memory holds the table. -/
import Derived.Test.YtkakkcmpincggaaDoorImplEF
namespace Go.Proofs.YtkakkcmpincggaaDoor
open Go.RowKit

theorem one_moreF (c : UInt8) (a : ByteArray) : (⟨#[c]⟩ ++ a : ByteArray).size = a.size + 1 := by rw [ByteArray.size_append]; show 1 + _ = _; omega
theorem madeF_ne (c : UInt8) (a r : ByteArray) : (efB (⟨#[c]⟩ ++ a) r).toList.isEmpty = false := efB_ne (by rw [data_app]; simp)
theorem none_sizeF : (⟨#[]⟩ : ByteArray).size < 140737488355328 := by decide

theorem isFragment_any (s : ByteArray) (w : World) (hs : s.size < 4611686018427387904) :
    Calls Tryd.prog 15 #[.string s] w fun e w' => e = .returned (.bool (plain.isOf (stands fragO) s.data.toList)) ∧ w = w' := by
  go_enter Tryd.func15, Tryd.ntmps15
  go_wp2_with fail
  refine (isOf_any _ _ _ hs (by decide)).mono ?_
  rintro e w' ⟨rfl, rfl⟩
  go_wp2_with fail
  go_ret
  exact ⟨rfl, rfl⟩

theorem isOf_efB (p : ByteArray) : plain.isOf (stands fragO) (efB p ⟨#[]⟩).data.toList = true := by
  rw [efB, data_S, efL_made (not_keptF_nil _), encP]; exact plain.isOf_encode (by rw [esc_pct64]; rfl) stay_fragO _

theorem fnFragmentBytes_walk (p : ByteArray) (hp : p.size ≤ 1048576) (w : World) (hT : Tab w) :
    Calls Tryd.prog 4 #[.string p] w fun e w' => e = .returned (.bool true) ∧ Below w.heap.size w w' := by
  have HT := Lib.hid hT
  clear hT
  have z1 : (⟨#[97]⟩ ++ p : ByteArray).size ≤ 4194304 := by rw [one_moreF]; omega
  have hne := madeF_ne 97 p ⟨#[]⟩
  have s1 := efB_size p ⟨#[]⟩
  have s0 : (⟨#[]⟩ : ByteArray).size = 0 := rfl
  have s3 : (efB p ⟨#[]⟩).size ≤ 4194304 := by omega
  clear s1 s0
  have CI : Hid (∀ wx, Calls Tryd.prog 15 #[.string (efB p ⟨#[]⟩)] wx fun e w' => e = .returned (.bool true) ∧ wx = w') := by
    rw [← isOf_efB p]; exact fun wx => isFragment_any _ wx (by omega)
  go_enter Tryd.func4, Tryd.ntmps4
  go_wp2_with fail
  refine (implEF_any _ _ _ (by omega) none_sizeF HT.out).mono ?_
  rintro e w1 ⟨rfl, hb1⟩
  have HT1 := Lib.hid (HT.out.below hb1)
  go_wp2_with fail
  refine (CI.out _).mono ?_
  rintro e w' ⟨rfl, rfl⟩
  go_wp2_with fail
  refine (implEF_any _ _ _ z1 none_sizeF HT1.out).mono ?_
  rintro e w2 ⟨rfl, hb2⟩
  go_wp2_with fail
  go_ret
  exact ⟨rfl, hb1.trans (hb2.mono hb1.size)⟩
end Go.Proofs.YtkakkcmpincggaaDoor
