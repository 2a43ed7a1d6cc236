/- What spec.IsOf returns, for every string. -/
import Derived.Test.YtkakkcmpincggaaDoorSpecEsc
namespace Go.Proofs.YtkakkcmpincggaaDoor
open Go.RowKit

namespace plain
theorem isOf_triple (ok : UInt8 → Bool) {l : List UInt8} {k : Nat} (h : tripleAt l k) : isOf ok (l.drop k) = isOf ok (l.drop (k + 3)) := by
  obtain ⟨h2, h1, ha, hb⟩ := h
  rw [List.drop_eq_getElem_cons (by omega), List.drop_eq_getElem_cons (i := k + 1) (by omega), List.drop_eq_getElem_cons (i := k + 1 + 1) (by omega), h1, isOf_three]
  have ha' : isHex (l[k + 1]'(by omega)) = true := ha
  have hb' : isHex (l[k + 1 + 1]'(by omega)) = true := hb
  rw [ha', hb']
  rfl
theorem isOf_bad (ok : UInt8 → Bool) {l : List UInt8} {k : Nat} (hk : k < l.length) (h1 : l[k] = 37) (h : ¬ tripleAt l k) : isOf ok (l.drop k) = false := by
  rw [List.drop_eq_getElem_cons hk, h1]
  by_cases h2 : k + 2 < l.length
  · rw [List.drop_eq_getElem_cons (i := k + 1) (by omega), List.drop_eq_getElem_cons (i := k + 1 + 1) (by omega), isOf_three, if_neg]
    intro hh
    rw [Bool.and_eq_true] at hh
    exact h ⟨h2, h1, hh.1, hh.2⟩
  · by_cases h3 : k + 1 < l.length
    · rw [List.drop_eq_getElem_cons (i := k + 1) h3, List.drop_of_length_le (i := k + 1 + 1) (by omega), isOf.eq_def]; simp
    · rw [List.drop_of_length_le (i := k + 1) (by omega), isOf.eq_def]; simp
theorem isOf_next (ok : UInt8 → Bool) {l : List UInt8} {k : Nat} (hk : k < l.length) (h1 : l[k] ≠ 37) : isOf ok (l.drop k) = (ok l[k] && isOf ok (l.drop (k + 1))) := by
  rw [List.drop_eq_getElem_cons hk, isOf_other ok h1]
end plain

/-- the bytes that IsOf lets stand -/
def stands (o : List UInt8) (c : UInt8) : Bool := unres c || hasL o c

set_option maxHeartbeats 2000000 in
theorem isOf_any (s o : ByteArray) (w : World) (hs : s.size < 4611686018427387904) (ho : o.size < 4611686018427387904) :
    Calls Tryd.prog 23 #[.string s, .string o] w fun e w' => e = .returned (.bool (plain.isOf (stands o.data.toList) s.data.toList)) ∧ w = w' := by
  obtain ⟨res, hres⟩ : ∃ x, plain.isOf (stands o.data.toList) s.data.toList = x := ⟨_, rfl⟩
  have HR := Lib.hid hres
  rw [hres]
  clear hres
  go_enter Tryd.func23, Tryd.ntmps23
  go_wp2_with fail
  go_loop [5, 4] (fun i r => ∃ k : Nat, k ≤ s.size ∧ i = .int .i64 k ∧ r = .bool false ∧ Hid (plain.isOf (stands o.data.toList) (s.data.toList.drop k) = res)) (fun i _ => s.size - (intOf i).toNat)
  case atStart => exact ⟨0, Nat.zero_le _, rfl, rfl, HR⟩
  case round =>
    clear HR
    obtain ⟨k, hk, rfl, rfl, HR⟩ := hrel
    by_cases hlt : k < s.size
    · have hl : k < s.data.toList.length := sp_lt s k hlt
      by_cases ht : tripleAt s.data.toList k
      · have CT := Lib.hid (isTriple_any s k w hs hlt true ⟨fun _ => ht, fun _ => rfl⟩)
        have HM : Hid (plain.isOf (stands o.data.toList) (s.data.toList.drop (k + 3)) = res) := by
          rw [← plain.isOf_triple _ ht]; exact HR
        have h3 : k + 2 < s.size := by obtain ⟨h, _⟩ := ht; rw [size_data] at h; exact h
        clear ht HR hl
        go_wp2_with fail
        refine (CT.out).mono ?_
        rintro e w' ⟨rfl, rfl⟩
        go_wp2_with fail
        go_round
        case rel => exact ⟨k + 3, by omega, by go_num, rfl, HM⟩
        case measure => simp [intOf]; omega
      · have CT := Lib.hid (isTriple_any s k w hs hlt false ⟨fun h => Bool.noConfusion h, fun h => absurd h ht⟩)
        have hbyte := sp_byte s k hlt hl
        cases h37 : (((s[k]'hlt).toNat : Int) == 37)
        · have hne : s.data.toList[k]'hl ≠ 37 := by
            intro h1; rw [hbyte] at h1; rw [h1] at h37; exact absurd h37 (by decide)
          have HN := plain.isOf_next (stands o.data.toList) hl hne
          rw [HR.out, hbyte, stands] at HN
          have CU := Lib.hid (unres_any (s[k]'hlt) w)
          have CH := Lib.hid (has_any o (s[k]'hlt) w ho)
          obtain ⟨u, hu⟩ : ∃ u, unres (s[k]'hlt) = u := ⟨_, rfl⟩
          obtain ⟨v, hv⟩ : ∃ v, hasL o.data.toList (s[k]'hlt) = v := ⟨_, rfl⟩
          rw [hu] at CU HN
          rw [hv] at CH HN
          have HN := Lib.hid HN
          clear ht hbyte hne hu hv HR hl
          cases u
          · cases v
            · have HF : Hid (res = false) := by rw [HN.out]; exact Lib.hid rfl
              clear HN
              go_wp2_with fail
              refine (CT.out).mono ?_
              rintro e w' ⟨rfl, rfl⟩
              go_wp2_with fail
              refine (CU.out).mono ?_
              rintro e w' ⟨rfl, rfl⟩
              go_wp2_with fail
              refine (CH.out).mono ?_
              rintro e w' ⟨rfl, rfl⟩
              go_wp2_with fail
              go_ret
              rw [HF.out]
              exact ⟨rfl, rfl⟩
            · have HM : Hid (plain.isOf (stands o.data.toList) (s.data.toList.drop (k + 1)) = res) := by rw [HN.out]; exact Lib.hid rfl
              clear HN
              go_wp2_with fail
              refine (CT.out).mono ?_
              rintro e w' ⟨rfl, rfl⟩
              go_wp2_with fail
              refine (CU.out).mono ?_
              rintro e w' ⟨rfl, rfl⟩
              go_wp2_with fail
              refine (CH.out).mono ?_
              rintro e w' ⟨rfl, rfl⟩
              go_wp2_with fail
              go_round
              case rel => exact ⟨k + 1, by omega, by go_num, rfl, HM⟩
              case measure => simp [intOf]; omega
          · have HM : Hid (plain.isOf (stands o.data.toList) (s.data.toList.drop (k + 1)) = res) := by rw [HN.out]; exact Lib.hid (by simp)
            clear HN
            go_wp2_with fail
            refine (CT.out).mono ?_
            rintro e w' ⟨rfl, rfl⟩
            go_wp2_with fail
            refine (CU.out).mono ?_
            rintro e w' ⟨rfl, rfl⟩
            go_wp2_with fail
            go_round
            case rel => exact ⟨k + 1, by omega, by go_num, rfl, HM⟩
            case measure => simp [intOf]; omega
        · have he : s.data.toList[k]'hl = 37 := by
            rw [hbyte]; exact UInt8.toNat.inj (by have := beq_iff_eq.1 h37; show _ = 37; omega)
          have HF : Hid (res = false) := by rw [← HR.out, plain.isOf_bad _ hl he ht]; exact Lib.hid rfl
          clear ht hbyte he HR hl
          go_wp2_with fail
          refine (CT.out).mono ?_
          rintro e w' ⟨rfl, rfl⟩
          go_wp2_with fail
          go_ret
          rw [HF.out]
          exact ⟨rfl, rfl⟩
    · have HF : Hid (res = true) := by
        rw [← HR.out, List.drop_of_length_le (by rw [size_data]; omega)]; exact Lib.hid rfl
      clear HR
      go_wp2_with fail
      go_ret
      rw [HF.out]
      exact ⟨rfl, rfl⟩
end Go.Proofs.YtkakkcmpincggaaDoor
