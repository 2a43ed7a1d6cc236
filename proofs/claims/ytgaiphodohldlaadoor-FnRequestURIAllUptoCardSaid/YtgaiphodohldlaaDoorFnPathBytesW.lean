/- What IsPath and FnPathBytes return, where memory holds the table. -/
import Derived.Test.YtgaiphodohldlaaDoorFnPathsApartW
import Derived.Test.YtgaiphodohldlaaDoorSpecSets
namespace Go.Proofs.YtgaiphodohldlaaDoor
open Go.RowKit

theorem isPath_any (s : ByteArray) (w : World) (hs : s.size < 4611686018427387904) :
    Calls Tryd.prog 17 #[.string s] w fun e w' => e = .returned (.bool (plain.isOf (stands pathO) s.data.toList)) ∧ w = w' := by
  go_enter Tryd.func17, Tryd.ntmps17
  go_wp2_with fail
  refine (isOf_any _ _ _ hs (by decide)).mono ?_
  rintro e w' ⟨rfl, rfl⟩
  go_wp2_with fail
  go_ret
  exact ⟨rfl, rfl⟩

theorem isOf_epB (p : ByteArray) : plain.isOf (stands pathO) (epB p ⟨#[]⟩).data.toList = true := by
  rw [epB, data_S]
  by_cases hv : p.data.toList = [42]
  · rw [epL_star (not_kept_nil _) hv]; decide +kernel
  · rw [epL_made (not_kept_nil _) hv, encP]; exact plain.isOf_encode (by rw [esc_pct1]; rfl) stay_pathO _

theorem fnPathBytes_walk (p : ByteArray) (hp : p.size ≤ 1048576) (w : World) (hT : Tab w) :
    Calls Tryd.prog 5 #[.string p] w fun e w' => e = .returned (.bool true) ∧ Below w.heap.size w w' := by
  have HT := Lib.hid hT
  clear hT
  have z1 : (⟨#[47]⟩ ++ p : ByteArray).size ≤ 4194304 := by rw [one_more]; omega
  have hne := made_ne 47 p ⟨#[]⟩
  have s1 := epB_size p ⟨#[]⟩
  have s0 : (⟨#[]⟩ : ByteArray).size = 0 := rfl
  have s3 : (epB p ⟨#[]⟩).size ≤ 4194304 := by omega
  clear s1 s0
  have CI : Hid (∀ wx, Calls Tryd.prog 17 #[.string (epB p ⟨#[]⟩)] wx fun e w' => e = .returned (.bool true) ∧ wx = w') := by
    rw [← isOf_epB p]; exact fun wx => isPath_any _ wx (by omega)
  go_enter Tryd.func5, Tryd.ntmps5
  go_wp2_with fail
  refine (implEP_any _ _ _ (by omega) none_size HT.out).mono ?_
  rintro e w1 ⟨rfl, hb1⟩
  have HT1 := Lib.hid (HT.out.below hb1)
  go_wp2_with fail
  refine (CI.out _).mono ?_
  rintro e w' ⟨rfl, rfl⟩
  go_wp2_with fail
  refine (implEP_any _ _ _ z1 none_size HT1.out).mono ?_
  rintro e w2 ⟨rfl, hb2⟩
  go_wp2_with fail
  go_ret
  exact ⟨rfl, hb1.trans (hb2.mono hb1.size)⟩
end Go.Proofs.YtgaiphodohldlaaDoor
