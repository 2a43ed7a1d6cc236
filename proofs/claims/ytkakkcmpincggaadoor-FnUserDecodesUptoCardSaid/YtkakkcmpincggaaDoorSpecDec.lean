/- What spec.Decode returns, for every string. -/
import Derived.Test.YtkakkcmpincggaaDoorSpecIsOf
import Derived.Test.YtkakkcmpincggaaDoorEscape
import Derived.Test.YtkakkcmpincggaaDoorUnescPlain
import Derived.Laws.AppendOwn
import Derived.Lib.UnsafeStr
import Derived.Lib.ConvBytes
import Derived.Laws.IdiomStrings
import Derived.StillTailTactics
import Derived.OwnWalk
import Derived.Deep.RegionHeld3
import Derived.Deep.AppendLies
namespace Go.Proofs.YtkakkcmpincggaaDoor
open Go.RowKit

/-- what Decode returns -/
def decV (l : List UInt8) : Value := match plain.decode l with
  | some p => .tuple #[.string (S p), .bool true]
  | none => .tuple #[.string ⟨#[]⟩, .bool false]
theorem decV_some {l p : List UInt8} (h : plain.decode l = some p) : decV l = .tuple #[.string (S p), .bool true] := by rw [decV, h]
theorem decV_none {l : List UInt8} (h : plain.decode l = none) : decV l = .tuple #[.string ⟨#[]⟩, .bool false] := by rw [decV, h]

theorem one_cell (w : World) (t : TypeId) (x : Value) : ∀ j u, [x][j]? = some u → (w.alloc (.cells #[x] t)).cell? ((⟨w.heap.size, 0, none⟩ : Addr).add j) = some u := by
  intro j u' hj
  match j, hj with
  | 0, hj => simp at hj; subst hj; simp [Addr.add]
theorem one_one (c : UInt8) : ∀ u ∈ [Value.int .u8 (c.toNat : Int)], u.oneCell' = true := by
  intro u' hu'; simp at hu'; subst hu'; rfl
theorem one_int (n : Int) : ∀ u ∈ [Value.int .u8 n], u.oneCell' = true := by
  intro u' hu'; simp at hu'; subst hu'; rfl
theorem u8_in (n : Int) (h0 : 0 ≤ n) (h1 : n < 256) : IntKind.u8.wrap n = n := by
  simp [IntKind.wrap, IntKind.bits, IntKind.signed]; omega
theorem cells_snoc (out : List UInt8) (c : UInt8) : Lib.byteCells out ++ [Value.int .u8 (c.toNat : Int)] = Lib.byteCells (out ++ [c]) := by simp [Lib.byteCells]

set_option maxHeartbeats 4000000 in
theorem decode_any (s : ByteArray) (w : World) (hs : s.size < 140737488355328) :
    Calls Tryd.prog 16 #[.string s] w fun e w' => e = .returned (decV s.data.toList) ∧ Below w.heap.size w w' := by
  obtain ⟨i0, hi, hz0, hz1, hz2⟩ := info_parts byteInfo
  have HP := Lib.hid (plain.Pre.start s.data.toList)
  go_enter Tryd.func16, Tryd.ntmps16
  go_wp2_with fail
  go_loopw [5, 4, 2, 3] (fun i v r q wr => ∃ (k n : Nat) (out : List UInt8), k ≤ s.size ∧ i = .int .i64 k ∧ r = .string ⟨#[]⟩ ∧ q = .bool false ∧ Hid (plain.Pre s.data.toList k n out) ∧ Hid (wr.ownsRow w.heap.size 5 1 v out.length (Lib.byteCells out)) ∧ Below w.heap.size w wr) (fun i _ _ _ _ => s.size - (intOf i).toNat)
  case atStart => exact ⟨0, 0, [], Nat.zero_le _, rfl, rfl, rfl, HP, World.ownsRow_nil _ _ _ _, Below.refl _ _⟩
  case round =>
    clear HP
    obtain ⟨k, n, out, hk, rfl, rfl, rfl, HP, HO, hbw⟩ := hrel
    have hol : out.length ≤ k := by have := HP.out.2.1; omega
    have hbs := hbw.size
    by_cases hlt : k < s.size
    · have hl : k < s.data.toList.length := sp_lt s k hlt
      have hbyte := sp_byte s k hlt hl
      cases h37 : (((s[k]'hlt).toNat : Int) == 37)
      · have hne : s.data.toList[k]'hl ≠ 37 := by
          intro h1; rw [hbyte] at h1; rw [h1] at h37; exact absurd h37 (by decide)
        have HR := Lib.hid (HP.out.plain hl hne)
        rw [hbyte] at HR
        clear hbyte hne hl HP
        have hg : ∀ k', _ → w.heap.size ≤ k' := fun k' hk' => (HO.out.lt k' hk').1
        go_wp2_with (at_builtin; refine wpList_append_own _ rfl _ _ 42 rfl w.heap.size 5 i0 (.int .u8 0) 1 1 Tryd.underlying42 hi hz0 hz1 hz2 rfl (by decide) _ _ _ rfl (HO.out.alloc _) ⟨wr.heap.size, 0, none⟩ 1 1 [Value.int .u8 ((s[k]'hlt).toNat : Int)] rfl rfl (one_cell wr _ _) (one_one _) (by unfold maxLen; omega) (by omega) (by simp; omega) ?_)
        intro v' w1 hown' hgrow _
        have HO2 := Lib.hid hown'
        rw [cells_snoc, show out.length + 1 = (out ++ [s[k]'hlt]).length by simp] at HO2
        have hb2 : Below w.heap.size w w1 := (hbw.alloc hbs _).grown hgrow (by simp; omega) hg
        clear hown' hgrow hg HO
        go_wp2_with fail
        go_roundw
        case rel => exact ⟨k + 1, n, _, by omega, by go_num, rfl, rfl, HR, HO2, hb2⟩
        case measure => simp [intOf]; omega
      · have he : s.data.toList[k]'hl = 37 := by
          rw [hbyte]; exact UInt8.toNat.inj (by have := beq_iff_eq.1 h37; show _ = 37; omega)
        by_cases ht : tripleAt s.data.toList k
        · have CT := Lib.hid (isTriple_any s k wr (by omega) hlt true ⟨fun _ => ht, fun _ => rfl⟩)
          obtain ⟨h2, _, x1, x2⟩ := ht
          have HR := Lib.hid (HP.out.triple h2 he x1 x2)
          rw [size_data] at h2
          have hk1 : k + 1 < s.size := by omega
          rw [sp_byte s (k + 1) hk1] at x1 HR
          rw [sp_byte s (k + 2) h2] at x2 HR
          clear he hbyte hl HP
          have C1 : Hid (∀ wx, Calls Tryd.prog 26 #[.int .u8 ((s[k + 1]'hk1).toNat : Int)] wx fun e w' => e = .returned (.int .i64 (plain.value (s[k + 1]'hk1) : Nat)) ∧ w' = wx) := fun wx => (value_any _ wx).mono fun _ _ h => ⟨h.1, h.2.symm⟩
          have C2 : Hid (∀ wx, Calls Tryd.prog 26 #[.int .u8 ((s[k + 2]'h2).toNat : Int)] wx fun e w' => e = .returned (.int .i64 (plain.value (s[k + 2]'h2) : Nat)) ∧ w' = wx) := fun wx => (value_any _ wx).mono fun _ _ h => ⟨h.1, h.2.symm⟩
          have v1 : plain.value (s[k + 1]'hk1) < 16 := of_decide_eq_true x1
          have v2 : plain.value (s[k + 2]'h2) < 16 := of_decide_eq_true x2
          have HX := Lib.hid (plain.pair_nat _ _ x1 x2)
          clear x1 x2
          obtain ⟨x, hx⟩ : ∃ x, plain.value (s[k + 1]'hk1) = x := ⟨_, rfl⟩
          obtain ⟨y, hy⟩ : ∃ y, plain.value (s[k + 2]'h2) = y := ⟨_, rfl⟩
          obtain ⟨c, hc⟩ : ∃ c, plain.pair (s[k + 1]'hk1) (s[k + 2]'h2) = c := ⟨_, rfl⟩
          rw [hx] at C1 v1 HX
          rw [hy] at C2 v2 HX
          rw [hc] at HR HX
          clear hx hy hc
          have hcn : (c.toNat : Int) = 16 * (x : Int) + (y : Int) := by have := HX.out; omega
          have HXI := Lib.hid hcn
          clear HX hcn
          have r1 : k + 3 ≤ s.size := by omega
          have r2 : s.size - (k + 3) < s.size - k := by omega
          have i1 : (k : Int) + 1 < (s.size : Int) := by omega
          have i2 : (k : Int) + 2 < (s.size : Int) := by omega
          have p1 : 0 ≤ (k : Int) + 1 := by omega
          have p2 : 0 ≤ (k : Int) + 2 := by omega
          have t1 : ((k : Int) + 1).toNat = k + 1 := by omega
          have t2 : ((k : Int) + 2).toNat = k + 2 := by omega
          have s1 : IntKind.i64.wrap ((k : Int) + 1) = (k : Int) + 1 := IntWalk.i64_in _ (by omega)
          have s2 : IntKind.i64.wrap ((k : Int) + 2) = (k : Int) + 2 := IntWalk.i64_in _ (by omega)
          have m1 : IntKind.i64.wrap (16 * (x : Int)) = 16 * (x : Int) := IntWalk.i64_in _ (by omega)
          have m2 : IntKind.i64.wrap (16 * (x : Int) + (y : Int)) = 16 * (x : Int) + (y : Int) := IntWalk.i64_in _ (by omega)
          have m3 : IntKind.u8.wrap (16 * (x : Int) + (y : Int)) = 16 * (x : Int) + (y : Int) := u8_in _ (by omega) (by omega)
          have hg : ∀ k', _ → w.heap.size ≤ k' := fun k' hk' => (HO.out.lt k' hk').1
          go_wp2_with fail
          refine (CT.out).mono ?_
          rintro e w' ⟨rfl, rfl⟩
          go_wp2_with fail
          have HO1 := Lib.hid (HO.out.drew)
          go_region_held3 (fun _ => True) (trivial) (first | (with_reducible (go_at_call 26; refine (C1.out _).mono ?_; rintro e w' ⟨rfl, rfl⟩)) | (with_reducible (go_at_call 26; refine (C2.out _).mono ?_; rintro e w' ⟨rfl, rfl⟩)) | (refine step_append_lies _ (by rfl) (.tmp 27) (.tmp 41) 42 (by rfl) w.heap.size 5 i0 (.int .u8 0) 1 1 Tryd.underlying42 hi hz0 hz1 hz2 rfl (by decide) _ out.length (Lib.byteCells out) (by rfl) (HO1.out.alloc _) ⟨wr.heap.size, 0, none⟩ 1 1 [Value.int .u8 (16 * (x : Int) + (y : Int))] (by rfl) rfl (one_cell wr.drew _ _) (one_int _) (by decide) (by unfold maxLen; omega) (by omega) (by simp; omega) _ rfl ?_; intro g cap w1 hown' hgrow _ _))
          all_goals
            have HO2 : Hid (w1.ownsRow w.heap.size 5 1 (.slice (some ⟨g, 0, none⟩) (out.length + 1) cap) (out ++ [c]).length (Lib.byteCells (out ++ [c]))) := by
              rw [List.length_append, ← cells_snoc, HXI.out]; exact Lib.hid hown'
            have hb2 : Below w.heap.size w w1 := Below.grown (hbw.drew.alloc hbs _) hgrow (by simp; omega) hg
            clear hown' hgrow hg HO HO1
            go_wp2_with fail
            go_roundw
            case rel => exact ⟨k + 3, n + 1, out ++ [c], r1, by go_num, rfl, rfl, HR, HO2, hb2⟩
            case measure =>
              simp [intOf]
              exact r2
        · have CT := Lib.hid (isTriple_any s k wr (by omega) hlt false ⟨fun h => Bool.noConfusion h, fun h => absurd h ht⟩)
          have HD := Lib.hid (decV_none (HP.out.bad hl he (fun h2 hh => ht ⟨h2, he, hh.1, hh.2⟩)))
          clear ht hbyte he HP hl
          go_wp2_with fail
          refine (CT.out).mono ?_
          rintro e w' ⟨rfl, rfl⟩
          go_wp2_with fail
          go_ret2
          rw [HD.out]
          exact ⟨rfl, hbw⟩
    · have HE := Lib.hid (HP.out.end_ (by rw [size_data]; exact hlt))
      clear HP
      have HD := Lib.hid (decV_some HE.out)
      rcases HO.out.2 with ⟨rfl, h0⟩ | ⟨g, cap, cur, rfl, -, -, -, -, -, -⟩
      · have hout : out = [] := List.length_eq_zero_iff.1 h0
        subst hout
        have hcv : (convert 42 9 (.slice none 0 0)).run Tryd.prog wr = .ok (.string ⟨#[]⟩) wr := by
          rw [run_convert_bytes_string wr 42 9 5 none 0 0 Tryd.underlying42 Tryd.underlying5 Tryd.underlying9]; rfl
        go_wp2_with fail
        go_ret2
        rw [HD.out]
        exact ⟨rfl, hbw⟩
      · have hown := HO.out
        have hcv := run_convert_bytes_back (P := Tryd.prog) wr 42 9 5 ⟨g, 0, none⟩ cap out Tryd.underlying42 Tryd.underlying5 Tryd.underlying9 (fun j hj => hown.cells (g := g) rfl j _ (by simp [Lib.byteCells, hj]))
        clear hown
        go_wp2_with fail
        go_ret2
        rw [HD.out]
        exact ⟨rfl, hbw⟩
end Go.Proofs.YtkakkcmpincggaaDoor
