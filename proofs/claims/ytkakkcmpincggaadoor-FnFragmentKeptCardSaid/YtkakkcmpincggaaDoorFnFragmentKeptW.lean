/- What FnFragmentKept returns, for every raw path, where memory holds the table. -/
import Derived.Test.YtkakkcmpincggaaDoorFnFragmentDecodesW
namespace Go.Proofs.YtkakkcmpincggaaDoor
open Go.RowKit

theorem decode_len : ∀ (n : Nat) (l p : List UInt8), l.length ≤ n → plain.decode l = some p → p.length ≤ l.length
  | n, l, p, hn, h => by
    rcases plain.decode_cases h with ⟨rfl, rfl⟩ | ⟨c, r, q, hc, rfl, hq, rfl⟩ | ⟨a, b, r, q, ha, hb, rfl, hq, rfl⟩
    · exact Nat.le_refl _
    · match n, hn with
      | n + 1, hn =>
        have ih := decode_len n r q (by simpa using hn) hq
        simp; exact ih
    · match n, hn with
      | n + 1, hn =>
        have ih := decode_len n r q (by simp at hn; omega) hq
        simp; omega

theorem ef_kept (q r : ByteArray) (w : World) (hr : r.size < 140737488355328) (hT : Tab w) (hd : plain.decode r.data.toList = some q.data.toList) (hv : validL 64 r.data.toList = true) :
    Calls Tryd.prog 13 #[.string q, .string r] w fun e w' => e = .returned (.string r) ∧ Below w.heap.size w w' := by
  by_cases h0 : r.data.toList = []
  · have hq : q = ⟨#[]⟩ := S_ext (by rw [h0] at hd; exact (Option.some.inj hd).symm)
    have hr0 : r = ⟨#[]⟩ := S_ext h0
    subst hq hr0
    have h := implEF_any ⟨#[]⟩ ⟨#[]⟩ w (by decide) none_sizeF hT
    have e : efB ⟨#[]⟩ ⟨#[]⟩ = ⟨#[]⟩ := by
      rw [efB]
      exact congrArg S (efL_made (not_keptF_nil _))
    rw [e] at h
    exact h
  · exact implEF_kept q r w hr hT ⟨h0, hv, hd⟩

theorem valid_snoc {l : List UInt8} (h : validL 64 l = true) : validL 64 (l ++ [97]) = true := by
  rw [validL, List.all_append, show l.all (okB 64) = true from h]; decide +kernel

set_option maxHeartbeats 1000000 in
theorem fnFragmentKept_walk (r : ByteArray) (hr : r.size < 140737488355327) (w : World) (hT : Tab w) :
    Calls Tryd.prog 7 #[.string r] w fun e w' => e = .returned (.bool true) ∧ Below w.heap.size w w' := by
  have HT := Lib.hid hT
  clear hT
  cases hd : plain.decode r.data.toList with
  | none =>
    have CD := Lib.hid (fun wx => dec_none r wx (by omega) hd)
    clear hd
    go_enter Tryd.func7, Tryd.ntmps7
    go_wp2_with fail
    refine (CD.out _).mono ?_
    rintro e w1 ⟨rfl, hb1⟩
    go_wp2_with fail
    go_ret
    exact ⟨rfl, hb1⟩
  | some p =>
    have CD := Lib.hid (fun wx => dec_some r p wx (by omega) hd)
    have hlen := decode_len _ _ p (Nat.le_refl _) hd
    rw [size_data, ← S_size p] at hlen
    have CI := Lib.hid (fun wx => isFragment_any r wx (by omega))
    cases hi : plain.isOf (stands fragO) r.data.toList
    · rw [hi] at CI
      generalize S p = q at *
      clear hd hi
      go_enter Tryd.func7, Tryd.ntmps7
      go_wp2_with fail
      refine (CD.out _).mono ?_
      rintro e w1 ⟨rfl, hb1⟩
      go_wp2_with fail
      refine (CI.out _).mono ?_
      rintro e w' ⟨rfl, rfl⟩
      go_wp2_with fail
      go_ret
      exact ⟨rfl, hb1⟩
    · rw [hi] at CI
      have hv := valid_fragO hd hi
      have C1 : Hid (∀ wx, Tab wx → Calls Tryd.prog 13 #[.string (S p), .string r] wx fun e w' => e = .returned (.string r) ∧ Below wx.heap.size wx w') := fun wx h => ef_kept (S p) r wx (by omega) h (by rw [data_S]; exact hd) hv
      have C2 : Hid (∀ wx, Tab wx → Calls Tryd.prog 13 #[.string (S p ++ ⟨#[97]⟩), .string (r ++ ⟨#[97]⟩)] wx fun e w' => e = .returned (.string (r ++ ⟨#[97]⟩)) ∧ Below wx.heap.size wx w') := fun wx h => ef_kept _ _ wx (by rw [more_one]; omega) h (by rw [data_app, data_app, data_S]; exact plain.decode_snoc (by decide) _ _ _ (Nat.le_refl _) hd) (by rw [data_app]; exact valid_snoc hv)
      generalize S p = q at *
      clear hd hi hv
      go_enter Tryd.func7, Tryd.ntmps7
      go_wp2_with fail
      refine (CD.out _).mono ?_
      rintro e w1 ⟨rfl, hb1⟩
      have HT1 := Lib.hid (HT.out.below hb1)
      go_wp2_with fail
      refine (CI.out _).mono ?_
      rintro e w' ⟨rfl, rfl⟩
      go_wp2_with fail
      refine (C1.out _ HT1.out).mono ?_
      rintro e w2 ⟨rfl, hb2⟩
      have hc2 := hb1.trans (hb2.mono hb1.size)
      have HT2 := Lib.hid (HT.out.below hc2)
      go_wp2_with fail
      refine (C2.out _ HT2.out).mono ?_
      rintro e w3 ⟨rfl, hb3⟩
      go_wp2_with fail
      go_ret
      exact ⟨rfl, hc2.trans (hb3.mono hc2.size)⟩
end Go.Proofs.YtkakkcmpincggaaDoor
