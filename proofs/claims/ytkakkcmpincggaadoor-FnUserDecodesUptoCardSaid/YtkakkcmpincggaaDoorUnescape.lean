/- What unescape returns, in the modes of a path and of a fragment, where memory holds the table. -/
import Derived.Test.YtkakkcmpincggaaDoorTab
import Derived.Test.YtkakkcmpincggaaDoorUnescPlain
import Derived.Test.YtkakkcmpincggaaDoorWriteByte
import Derived.StillTailTactics
import Derived.IntWalk
import Derived.Lib.UnsafeStr
import Derived.Deep.QuietTactic
import Derived.BigQuiet
namespace Go.Proofs.YtkakkcmpincggaaDoor
open Go.RowKit

def UnRes (l : List UInt8) (w : World) (e : Ending) (w' : World) : Prop :=
  (∃ p, plain.decode l = some p ∧ e = .returned (.tuple #[.string ⟨p.toArray⟩, .nilIface]) ∧ Below w.heap.size w w') ∨
  (plain.decode l = none ∧ ∃ t, e = .returned (.tuple #[.string ⟨#[]⟩, .iface 59 (.string t)]) ∧ w = w')

theorem un_byte (s : ByteArray) (k : Nat) (h : k < s.size) (hl : k < s.data.toList.length) : s.data.toList[k]'hl = s[k]'h := by simp; rfl
theorem un_lt (s : ByteArray) (k : Nat) (h : k < s.size) : k < s.data.toList.length := by simpa using h
theorem un_len (s : ByteArray) : s.data.toList.length = s.size := (Lib.size_eq s).symm

theorem or_pair_all : ∀ x y : Fin 16, bits .or .u8 ((x.val : Int) * 16) (y.val : Int) = ((16 * x.val + y.val : Nat) : Int) := by decide +kernel
theorem or_pair (x y : Nat) (hx : x < 16) (hy : y < 16) : bits .or .u8 ((x : Int) * 16) (y : Int) = ((16 * x + y : Nat) : Int) := or_pair_all ⟨x, hx⟩ ⟨y, hy⟩

theorem write_any (B : Nat) (out : List UInt8) (c : UInt8) (w : World) (h : Lib.BuilderAt 65 5 B B (.pointer (some ⟨B, 0, none⟩)) (Lib.byteCells out) w) (hl : out.length < 140737488355327) (hB : B ≤ w.heap.size) :
    Calls Tryd.prog 42 #[.pointer (some ⟨B, 0, none⟩), .int .u8 (c.toNat : Int)] w fun e w' => e = .returned .nilIface ∧ Lib.BuilderAt 65 5 B B (.pointer (some ⟨B, 0, none⟩)) (Lib.byteCells (out ++ [c])) w' ∧ Below B w w' := by
  rw [Lib.byteCells_append]
  exact Tryd.Builder_WriteByte B B (Lib.byteCells out) _ w (.inr h) (by rw [Lib.byteCells_length]; omega) hB

set_option maxRecDepth 100000 in
set_option maxHeartbeats 8000000 in
theorem unescape_any (s : ByteArray) (m : Int) (w : World) (hs : s.size < 140737488355328) (m4 : ((m : Int) == 4) = false) (m8 : ((m : Int) == 8) = false) (m32 : ((m : Int) == 32) = false) (hT : Tab w) :
    Calls Tryd.prog 31 #[.string s, .int .u8 m] w (UnRes s.data.toList w) := by
  have HT := Lib.hid hT
  clear hT
  go_enter Tryd.func31, Tryd.ntmps31
  go_wp2_with fail
  go_loop [8, 6, 7, 0] (fun i a b r => ∃ (k n : Nat) (pre : List UInt8), k ≤ s.size ∧ n ≤ k ∧ i = .int .i64 k ∧ a = .int .i64 n ∧ b = .bool false ∧ r = .string s ∧ Hid (plain.Pre s.data.toList k n pre)) (fun i _ _ _ => s.size - (intOf i).toNat)
  case atStart => exact ⟨0, 0, [], Nat.zero_le _, Nat.le_refl _, rfl, rfl, rfl, rfl, plain.Pre.start _⟩
  case round =>
    obtain ⟨k, n, pre, hk, hn, rfl, rfl, rfl, rfl, HP⟩ := hrel
    by_cases hlt : k < s.size
    · cases h37 : (((s[k]'hlt).toNat : Int) == 37)
      · have HQ : Hid (plain.Pre s.data.toList (k + 1) n (pre ++ [s.data.toList[k]'(un_lt s k hlt)])) := HP.out.plain (un_lt s k hlt) (fun e => by
          rw [un_byte s k hlt] at e
          rw [e] at h37
          exact absurd h37 (by decide))
        cases h43 : (((s[k]'hlt).toNat : Int) == 43)
        all_goals
          go_wp2_with fail
          go_round
          case rel => exact ⟨k + 1, n, _, by omega, by omega, by go_num, rfl, rfl, rfl, HQ⟩
          case measure => simp [intOf]; omega
      · have he : s.data.toList[k]'(un_lt s k hlt) = 37 := by
          rw [un_byte s k hlt]; exact UInt8.toNat.inj (by have := beq_iff_eq.1 h37; show _ = 37; omega)
        have HE := Lib.hid he
        clear he
        by_cases h2 : k + 2 < s.size
        · obtain ⟨b1, hb1⟩ : ∃ b, plain.isHex (s[k + 1]'(by omega)) = b := ⟨_, rfl⟩
          obtain ⟨b2, hb2⟩ : ∃ b, plain.isHex (s[k + 2]'h2) = b := ⟨_, rfl⟩
          have hk1 : k + 1 < s.size := by omega
          have C1 : Hid (Calls Tryd.prog 39 #[.int .u8 ((s[k + 1]'hk1).toNat : Int)] w fun e w' => e = .returned (.bool b1) ∧ w = w') := by
            rw [← hb1]; exact ishex_any _ w HT.out
          have C2 : Hid (Calls Tryd.prog 39 #[.int .u8 ((s[k + 2]'h2).toNat : Int)] w fun e w' => e = .returned (.bool b2) ∧ w = w') := by
            rw [← hb2]; exact ishex_any _ w HT.out
          have HB1 := Lib.hid hb1
          have HB2 := Lib.hid hb2
          clear hb1 hb2
          cases b1
          · have HF : Hid (plain.decode s.data.toList = none) := HP.out.bad (un_lt s k hlt) HE.out (fun h => by rw [un_byte s (k + 1) hk1, HB1.out]; simp)
            go_wp2_with fail
            refine (C1.out).mono ?_
            rintro e w' ⟨rfl, rfl⟩
            go_wp2_with fail
            all_goals (go_ret2; exact .inr ⟨HF.out, _, rfl, rfl⟩)
          · cases b2
            · have HF : Hid (plain.decode s.data.toList = none) := HP.out.bad (un_lt s k hlt) HE.out (fun h => by rw [un_byte s (k + 2) h2, HB2.out]; simp)
              go_wp2_with fail
              refine (C1.out).mono ?_
              rintro e w' ⟨rfl, rfl⟩
              go_wp2_with fail
              refine (C2.out).mono ?_
              rintro e w' ⟨rfl, rfl⟩
              go_wp2_with fail
              all_goals (go_ret2; exact .inr ⟨HF.out, _, rfl, rfl⟩)
            · have HQ : Hid (plain.Pre s.data.toList (k + 3) (n + 1) _) := HP.out.triple (by rw [un_len]; exact h2) HE.out (by rw [un_byte s (k + 1) hk1]; exact HB1.out) (by rw [un_byte s (k + 2) h2]; exact HB2.out)
              go_wp2_with fail
              refine (C1.out).mono ?_
              rintro e w' ⟨rfl, rfl⟩
              go_wp2_with fail
              refine (C2.out).mono ?_
              rintro e w' ⟨rfl, rfl⟩
              go_wp2_with fail
              go_round
              case rel => exact ⟨k + 3, n + 1, _, by omega, by omega, by go_num, by go_num, rfl, rfl, HQ⟩
              case measure => simp [intOf]; omega
        · have HF : Hid (plain.decode s.data.toList = none) := HP.out.bad (un_lt s k hlt) HE.out (fun h => by rw [un_len] at h; exact absurd h h2)
          go_wp2_with fail
          all_goals (go_ret2; exact .inr ⟨HF.out, _, rfl, rfl⟩)
    · have HD := Lib.hid (HP.out.end_ (by rw [un_len]; exact hlt))
      cases h0 : ((n : Int) == 0)
      · have hgn := HP.out.2.1
        have hkn : k = s.size := by omega
        have HK := Lib.hid hkn
        clear hkn
        obtain ⟨g, hg⟩ : ∃ g : Nat, (s.size : Int) - 2 * (n : Int) = (g : Int) := ⟨pre.length, by have := HK.out; omega⟩
        have hgb : g ≤ s.size := by omega
        clear hgn
        have hlt' := hlt
        go_wp2_with fail
        have hB0 : (w.alloc (.cells #[.pointer none, .slice none 0 0] 65)).heap[w.heap.size]? = some (.cells #[.pointer none, .slice none 0 0] 65 (0, 0)) := heap_alloc_new w _
        refine (Tryd.Builder_Grow_fresh w.heap.size w.heap.size g _ (Nat.le_refl _) hB0 (by simp) (by omega)).mono ?_
        rintro e w1 ⟨rfl, hA, hb1'⟩
        have hb1 : Below w.heap.size w w1 := ((Below.refl _ _).alloc (Nat.le_refl _) _).trans hb1'
        have HA := Lib.hid hA
        clear hA hb1' hB0 hg
        go_wp2_with fail
        go_loopw [12] (fun i wr => ∃ (k n : Nat) (out : List UInt8), k ≤ s.size ∧ i = .int .i64 k ∧ Hid (plain.Pre s.data.toList k n out) ∧ Hid (Lib.BuilderAt 65 5 w.heap.size w.heap.size (.pointer (some ⟨w.heap.size, 0, none⟩)) (Lib.byteCells out) wr) ∧ Below w.heap.size w wr) (fun i _ => s.size - (intOf i).toNat)
        case atStart => exact ⟨0, 0, [], Nat.zero_le _, rfl, plain.Pre.start _, HA, hb1⟩
        case round =>
          clear HA hb1
          obtain ⟨k, n, out, hk, rfl, HQ, HA, hb1⟩ := hrel
          have hol : out.length ≤ k := by have := HQ.out.2.1; omega
          have hbs := hb1.size
          by_cases hlt : k < s.size
          · cases h37 : (((s[k]'hlt).toNat : Int) == 37)
            · have hne : s.data.toList[k]'(un_lt s k hlt) ≠ 37 := fun e => by
                rw [un_byte s k hlt] at e
                rw [e] at h37
                exact absurd h37 (by decide)
              have HR := Lib.hid (HQ.out.plain (un_lt s k hlt) hne)
              rw [un_byte s k hlt] at HR
              clear hne
              have HC : Hid (Calls Tryd.prog 42 #[.pointer (some ⟨w.heap.size, 0, none⟩), .int .u8 ((s[k]'hlt).toNat : Int)] wr fun e w' => e = .returned .nilIface ∧ Lib.BuilderAt 65 5 w.heap.size w.heap.size (.pointer (some ⟨w.heap.size, 0, none⟩)) (Lib.byteCells (out ++ [s[k]'hlt])) w' ∧ Below w.heap.size wr w') := by
                exact write_any w.heap.size out _ wr HA.out (by omega) hbs
              cases h43 : (((s[k]'hlt).toNat : Int) == 43)
              · go_wp2_with fail
                refine (HC.out).mono ?_
                rintro e w2 ⟨rfl, hA2, hb2⟩
                have HA2 := Lib.hid hA2
                have hb3 := hb1.trans hb2
                clear hA2 hb2
                go_wp2_with fail
                go_roundw
                case rel => exact ⟨k + 1, n, _, by omega, by go_num, HR, HA2, hb3⟩
                case measure => simp [intOf]; omega
              · rw [show ((s[k]'hlt).toNat : Int) = 43 from beq_iff_eq.1 h43] at HC
                go_wp2_with fail
                refine (HC.out).mono ?_
                rintro e w2 ⟨rfl, hA2, hb2⟩
                have HA2 := Lib.hid hA2
                have hb3 := hb1.trans hb2
                clear hA2 hb2
                go_wp2_with fail
                go_roundw
                case rel => exact ⟨k + 1, n, _, by omega, by go_num, HR, HA2, hb3⟩
                case measure => simp [intOf]; omega
            · have he : s.data.toList[k]'(un_lt s k hlt) = 37 := by
                rw [un_byte s k hlt]; exact UInt8.toNat.inj (by have := beq_iff_eq.1 h37; show _ = 37; omega)
              obtain ⟨h2, x1, x2⟩ := HQ.out.hex HD.out (un_lt s k hlt) he
              have HR := Lib.hid (HQ.out.triple h2 he x1 x2)
              rw [un_len] at h2
              have hk1 : k + 1 < s.size := by omega
              rw [un_byte s (k + 1) hk1] at x1 HR
              rw [un_byte s (k + 2) h2] at x2 HR
              clear he
              have C1 : Hid (∀ wx, Calls Tryd.prog 40 #[.int .u8 ((s[k + 1]'hk1).toNat : Int)] wx fun e w' => e = .returned (.int .u8 (plain.value (s[k + 1]'hk1) : Nat)) ∧ w' = wx) := fun wx => (unhex_any _ wx x1).mono fun _ _ h => ⟨h.1, h.2.symm⟩
              have C2 : Hid (∀ wx, Calls Tryd.prog 40 #[.int .u8 ((s[k + 2]'h2).toNat : Int)] wx fun e w' => e = .returned (.int .u8 (plain.value (s[k + 2]'h2) : Nat)) ∧ w' = wx) := fun wx => (unhex_any _ wx x2).mono fun _ _ h => ⟨h.1, h.2.symm⟩
              have v1 : plain.value (s[k + 1]'hk1) < 16 := of_decide_eq_true x1
              have v2 : plain.value (s[k + 2]'h2) < 16 := of_decide_eq_true x2
              have HX := Lib.hid (plain.pair_nat _ _ x1 x2)
              clear x1 x2
              have hol' : out.length < 140737488355327 := by omega
              have HO := Lib.hid (or_pair (plain.value (s[k + 1]'hk1)) (plain.value (s[k + 2]'h2)) v1 v2)
              have r1 : k + 3 ≤ s.size := by omega
              have r2 : s.size - (k + 3) < s.size - k := by omega
              have i1 : (k : Int) + 1 < (s.size : Int) := by omega
              have i2 : (k : Int) + 2 < (s.size : Int) := by omega
              have p1 : 0 ≤ (k : Int) + 1 := by omega
              have p2 : 0 ≤ (k : Int) + 2 := by omega
              have t1 : ((k : Int) + 1).toNat = k + 1 := by omega
              have t2 : ((k : Int) + 2).toNat = k + 2 := by omega
              have s1 : IntKind.i64.wrap ((k : Int) + 1) = (k : Int) + 1 := IntWalk.i64_in _ (by omega)
              have s2 : IntKind.i64.wrap ((k : Int) + 2) = (k : Int) + 2 := IntWalk.i64_in _ (by omega)
              go_wp2_with fail
              refine wp_region_still_tail 12 (by kernel_rfl) (by kernel_rfl) ?_
              simp only [List.take_succ_cons, List.take_zero, List.drop_succ_cons, List.drop_zero]
              repeat still_step
              still_call (C1.out _)
              repeat still_step
              still_call (C2.out _)
              repeat still_step
              refine wpStill_nil ?_
              change wpList _ _ _ _ _ wr.drew
              go_wp2_with fail
              rw [HO.out, ← HX.out]
              have hdr := HA.out.drew
              refine (write_any w.heap.size out (plain.pair (s[k + 1]'hk1) (s[k + 2]'h2)) wr.drew hdr hol' hbs).mono ?_
              rintro e w2 ⟨rfl, hA2, hb2⟩
              have HA2 := Lib.hid hA2
              have hb3 : Below w.heap.size w w2 := hb1.drew.trans hb2
              clear hA2 hb2 hdr
              go_wp2_with fail
              go_roundw
              case rel => exact ⟨k + 3, n + 1, _, r1, by go_num, HR, HA2, hb3⟩
              case measure =>
                simp [intOf]
                exact r2
          · have HE := Lib.hid (HQ.out.end_ (by rw [un_len]; exact hlt))
            go_wp2_with fail
            refine (Tryd.Builder_String_any w.heap.size w.heap.size out wr (.inr HA.out) hbs).mono ?_
            rintro e w2 ⟨rfl, hb2⟩
            go_wp2_with fail
            go_ret2
            exact .inl ⟨out, HE.out, rfl, hb1.trans hb2⟩
      · have HW := Lib.hid (HP.out.whole (by rw [un_len]; exact hlt) (by have := beq_iff_eq.1 h0; omega))
        go_wp2_with fail
        go_ret2
        refine .inl ⟨_, HD.out, ?_, Below.refl _ _⟩
        rw [HW.out, Lib.mk_data]
        rfl
end Go.Proofs.YtkakkcmpincggaaDoor
