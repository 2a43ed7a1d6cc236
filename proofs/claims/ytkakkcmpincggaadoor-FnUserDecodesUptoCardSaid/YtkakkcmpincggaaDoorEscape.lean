/- What escape returns, in every mode but that of a query, where memory holds the table. -/
import Derived.Test.YtkakkcmpincggaaDoorTab
import Derived.Lib.ConvBytes
import Derived.Lib.AtoiErrMem
import Derived.Laws.IdiomStrings
import Derived.Laws.MakeOwn
import Derived.Deep.OwnRows
import Derived.Outline
namespace Go.Proofs.YtkakkcmpincggaaDoor
open Go.RowKit

/-- the escaped form in a mode -/
def encP (m : Int) (l : List UInt8) : List UInt8 := plain.encode (fun c => !esc m c) l
def cnt (m : Int) (l : List UInt8) : Nat := (l.filter (esc m)).length

theorem encP_length (m : Int) (l : List UInt8) : (encP m l).length = l.length + 2 * cnt m l := by
  induction l with
  | nil => rfl
  | cons c r ih =>
    have e : encP m (c :: r) = plain.enc1 (fun c => !esc m c) c ++ encP m r := plain.encode_cons _ _ _
    rw [e, List.length_append, ih, cnt, cnt, plain.enc1]
    cases h : esc m c
    · simp [h]; omega
    · simp [h]; omega
theorem encP_same (m : Int) (l : List UInt8) (h : cnt m l = 0) : encP m l = l := by
  induction l with
  | nil => rfl
  | cons c r ih =>
    have e : encP m (c :: r) = plain.enc1 (fun c => !esc m c) c ++ encP m r := plain.encode_cons _ _ _
    cases hc : esc m c
    · have hr : cnt m r = 0 := by rw [← h, cnt, cnt]; simp [hc]
      rw [e, ih hr, plain.enc1]
      simp [hc]
    · rw [cnt] at h
      simp [hc] at h
theorem take_next (s : ByteArray) (k : Nat) (h : k < s.size) : s.data.toList.take (k + 1) = s.data.toList.take k ++ [s[k]] := by
  rw [List.take_succ_eq_append_getElem (by simpa using h)]; simp; rfl
theorem cnt_next (m : Int) (s : ByteArray) (k : Nat) (h : k < s.size) : cnt m (s.data.toList.take (k + 1)) = cnt m (s.data.toList.take k) + if esc m s[k] then 1 else 0 := by
  rw [take_next s k h, cnt, cnt, List.filter_append, List.length_append]
  cases hc : esc m s[k] <;> simp [hc]
theorem cnt_le (m : Int) (l : List UInt8) : cnt m l ≤ l.length := List.length_filter_le _ _
theorem encP_next (m : Int) (s : ByteArray) (k : Nat) (h : k < s.size) : encP m (s.data.toList.take (k + 1)) = encP m (s.data.toList.take k) ++ plain.enc1 (fun c => !esc m c) s[k] := by
  rw [take_next s k h, encP, encP, plain.encode_append]
  congr 1
  simp [plain.encode]
theorem byte_getD (s : ByteArray) (k : Nat) (h : k < s.size) : s.data.toList.getD k 0 = s[k] := by
  have hl : k < s.data.toList.length := by simpa using h
  rw [List.getD, List.getElem?_eq_getElem hl]
  simp; rfl
theorem encP_room (m : Int) (s : ByteArray) (k : Nat) : (encP m (s.data.toList.take k)).length ≤ (encP m s.data.toList).length := by
  conv => rhs; rw [← List.take_append_drop k s.data.toList]
  rw [encP, encP, plain.encode_append, List.length_append]; omega
theorem data_len (s : ByteArray) : s.data.toList.length = s.size := (Lib.size_eq s).symm

/-- block b is a row of at least n cells, none frozen, that begins with the bytes l -/
def Holds (w : World) (b n : Nat) (l : List UInt8) : Prop :=
  l.length ≤ n ∧ ∃ cs t, w.heap[b]? = some (.cells cs t (0, 0)) ∧ n ≤ cs.size ∧ ∀ j (hj : j < l.length), cs[j]? = some (.int .u8 (l[j].toNat : Int))
theorem Holds.cell {w : World} {b n : Nat} {l : List UInt8} (h : Holds w b n l) (j : Nat) (hj : j < l.length) : w.cell? ⟨b, j, none⟩ = some (.int .u8 (l[j].toNat : Int)) := by
  obtain ⟨_, cs, t, hb, _, hc⟩ := h
  rw [cell_of_row w b j cs t (0, 0) hb]; exact hc j hj
theorem Holds.old {w : World} {b n : Nat} {l : List UInt8} (h : Holds w b n l) (j : Nat) (hj : j < n) : ∃ v, w.cell? ⟨b, j, none⟩ = some v := by
  obtain ⟨_, cs, t, hb, hn, _⟩ := h
  exact ⟨cs[j]'(by omega), by rw [cell_of_row w b j cs t (0, 0) hb]; exact Array.getElem?_eq_getElem (by omega)⟩
theorem Holds.free {w : World} {b n : Nat} {l : List UInt8} (h : Holds w b n l) (j : Nat) : w.frozen? ⟨b, j, none⟩ = false := by
  obtain ⟨_, cs, t, hb, _⟩ := h
  simp [World.frozen?, hb]
theorem Holds.push {w : World} {b n : Nat} {l : List UInt8} (h : Holds w b n l) (hl : l.length < n) (c : UInt8) : Holds (w.setCell ⟨b, l.length, none⟩ (.int .u8 (c.toNat : Int))) b n (l ++ [c]) := by
  obtain ⟨_, cs, t, hb, hn, hc⟩ := h
  refine ⟨by simp; omega, cs.setIfInBounds l.length (.int .u8 (c.toNat : Int)), t, by simp [World.setCell, Array.getElem?_modify, hb], by simpa using hn, fun j hj => ?_⟩
  by_cases e : j = l.length
  · subst e
    simp [Array.getElem?_setIfInBounds]
    omega
  · have hj' : j < l.length := by simp at hj; omega
    rw [Array.getElem?_setIfInBounds_ne (fun h => e h.symm), hc j hj', List.getElem_append_left hj']
theorem Holds.below {w w' : World} {B b n : Nat} {l : List UInt8} (h : Holds w b n l) (hb : Below B w w') (hB : b < B) : Holds w' b n l := by
  obtain ⟨h0, cs, t, h1, h2, h3⟩ := h
  exact ⟨h0, cs, t, (hb.block b hB).trans h1, h2, h3⟩
theorem Holds.new (w : World) (n : Nat) (cs : Array Value) (t : TypeId) (h : n ≤ cs.size) : Holds (w.alloc (.cells cs t)) w.heap.size n [] :=
  ⟨Nat.zero_le _, cs, t, heap_alloc_new w _, h, fun _ hj => absurd hj (Nat.not_lt_zero _)⟩

theorem Tab.set {w : World} (h : Tab w) {p : Addr} (hp : 0 ≠ p.block) (v : Value) : Tab (w.setCell p v) :=
  ⟨by simpa [World.setCell] using h.1, fun n hn => (World.cell?_setCell_other w p ⟨0, n, none⟩ v (fun e => hp (by rw [e]))).trans (h.2 n hn)⟩
theorem digit_at : ∀ (n : Fin 16), (⟨#[48, 49, 50, 51, 52, 53, 54, 55, 56, 57, 65, 66, 67, 68, 69, 70]⟩ : ByteArray)[n.val]'(n.isLt) = plain.upper n.val := by decide
theorem digit (n : Nat) (h : n < 16) (hh : n < (⟨#[48, 49, 50, 51, 52, 53, 54, 55, 56, 57, 65, 66, 67, 68, 69, 70]⟩ : ByteArray).size) : (⟨#[48, 49, 50, 51, 52, 53, 54, 55, 56, 57, 65, 66, 67, 68, 69, 70]⟩ : ByteArray)[n]'hh = plain.upper n := digit_at ⟨n, h⟩

/-- three stores: % and two digits -/
theorem Holds.three {w : World} {b n : Nat} {l : List UInt8} (h : Holds w b n l) (hl : l.length + 2 < n) (x y : UInt8) :
    Holds (((w.setCell ⟨b, l.length, none⟩ (.int .u8 37)).setCell ⟨b, l.length + 1, none⟩ (.int .u8 (x.toNat : Int))).setCell ⟨b, l.length + 2, none⟩ (.int .u8 (y.toNat : Int))) b n (l ++ [37, x, y]) := by
  have h1 := h.push (by omega) 37
  have h2 := h1.push (by simp; omega) x
  have h3 := h2.push (by simp; omega) y
  simp only [List.length_append, List.length_cons, List.length_nil, Nat.zero_add, List.append_assoc, List.cons_append, List.nil_append] at h3
  exact h3

theorem addr_add (b j : Nat) : (⟨b, 0, none⟩ : Addr).add j = ⟨b, j, none⟩ := by
  unfold Addr.add
  split
  · subst_vars; rfl
  · simp
theorem byteInfo : (Tryd.prog.info? 5).map (fun i => (i.zero, i.size, i.bytes)) = some (some (.int .u8 0), 1, 1) := by kernel_rfl

set_option maxRecDepth 100000 in
set_option maxHeartbeats 8000000 in
theorem escape_any (s : ByteArray) (m : Int) (w : World) (hs : s.size ≤ 4194304) (hm : ((m : Int) == 32) = false) (hT : Tab w) :
    Calls Tryd.prog 32 #[.string s, .int .u8 m] w fun e w' => e = .returned (.string ⟨(encP m s.data.toList).toArray⟩) ∧ Below w.heap.size w w' := by
  have HT := Lib.hid hT
  clear hT
  have hcv := fun (wx : World) => Lib.run_convert_string_bytes (P := Tryd.prog) wx 9 42 5 s Tryd.underlying9 Tryd.underlying42 Tryd.underlying5
  go_enter Tryd.func32, Tryd.ntmps32
  go_wp2_with fail
  have hb1 := Lib.bytesWorld_below w 5 s
  have HC1 := Lib.hid (fun j hj => Lib.bytesWorld_cell w 5 s j hj)
  have HT1 := Lib.hid (HT.out.below hb1)
  have hz1 : w.heap.size < (Lib.bytesWorld w 5 s).heap.size := by rw [Lib.bytesWorld_size]; omega
  generalize hW : Lib.bytesWorld w 5 s = w1 at *
  clear hW hcv
  go_loop [19, 5, 6] (fun i a b => ∃ k : Nat, k ≤ s.size ∧ i = .int .i64 k ∧ a = .int .i64 0 ∧ b = .int .i64 (cnt m (s.data.toList.take k) : Nat)) (fun i _ _ => s.size - (intOf i).toNat)
  case atStart => exact ⟨0, Nat.zero_le _, rfl, rfl, rfl⟩
  case round =>
    obtain ⟨k, hk, rfl, rfl, rfl⟩ := hrel
    have hle : cnt m (s.data.toList.take k) ≤ k := by
      have h1 := cnt_le m (s.data.toList.take k)
      have h2 := List.length_take_le k s.data.toList
      omega
    by_cases hlt : k < s.size
    · have hck : w1.cell? ⟨w.heap.size, k, none⟩ = some (.int .u8 ((s[k]'hlt).toNat : Int)) := by rw [HC1.out k hlt, byte_getD s k hlt]
      obtain ⟨b, hb⟩ : ∃ b, esc m (s[k]'hlt) = b := ⟨_, rfl⟩
      have HS : Hid (Calls Tryd.prog 38 #[.int .u8 ((s[k]'hlt).toNat : Int), .int .u8 m] w1 fun e w' => e = .returned (.bool b) ∧ w1 = w') := by
        rw [← hb]; exact should_any _ m w1 HT1.out
      have HN := Lib.hid (cnt_next m s k hlt)
      rw [hb] at HN
      clear hb
      cases b
      · go_wp2_with (go_at_call 38; refine (HS.out).mono ?_; rintro e w' ⟨rfl, rfl⟩)
        go_round
        case rel => exact ⟨k + 1, by omega, by go_num, rfl, by rw [HN.out]; rfl⟩
        case measure => simp [intOf]; omega
      · cases h32 : (((s[k]'hlt).toNat : Int) == 32)
        all_goals
          go_wp2_with (go_at_call 38; refine (HS.out).mono ?_; rintro e w' ⟨rfl, rfl⟩)
          go_round
          case rel => exact ⟨k + 1, by omega, by go_num, rfl, by rw [HN.out]; go_num⟩
          case measure => simp [intOf]; omega
    · have hke : s.data.toList.take k = s.data.toList := List.take_of_length_le (by rw [data_len]; omega)
      rw [hke] at hle ⊢
      clear hke
      have HL := Lib.hid (encP_length m s.data.toList)
      rw [data_len] at HL
      obtain ⟨n, hn⟩ : ∃ n, cnt m s.data.toList = n := ⟨_, rfl⟩
      rw [hn] at HL hle ⊢
      by_cases h0 : n = 0
      · subst h0
        have HE := Lib.hid (encP_same m s.data.toList hn)
        clear hn
        go_wp2_with fail
        go_ret
        rw [HE.out]
        exact ⟨by rw [Lib.mk_data]; rfl, hb1⟩
      · clear hn
        have hn0 : ((n : Int) == 0) = false := by simp; omega
        obtain ⟨R, hR⟩ : ∃ R : Nat, (s.size : Int) + 2 * (n : Int) = (R : Int) := ⟨s.size + 2 * n, by omega⟩
        by_cases hreq : R ≤ 64
        · have hreqI : (R : Int) ≤ 64 := by omega
          go_wp2_with fail
          obtain ⟨bt, hbt⟩ : ∃ x : Nat, x = w1.heap.size := ⟨_, rfl⟩
          obtain ⟨w2, hW2⟩ : ∃ x : World, x = w1.alloc (.cells #[.int .u8 0, .int .u8 0, .int .u8 0, .int .u8 0, .int .u8 0, .int .u8 0, .int .u8 0, .int .u8 0, .int .u8 0, .int .u8 0, .int .u8 0, .int .u8 0, .int .u8 0, .int .u8 0, .int .u8 0, .int .u8 0, .int .u8 0, .int .u8 0, .int .u8 0, .int .u8 0, .int .u8 0, .int .u8 0, .int .u8 0, .int .u8 0, .int .u8 0, .int .u8 0, .int .u8 0, .int .u8 0, .int .u8 0, .int .u8 0, .int .u8 0, .int .u8 0, .int .u8 0, .int .u8 0, .int .u8 0, .int .u8 0, .int .u8 0, .int .u8 0, .int .u8 0, .int .u8 0, .int .u8 0, .int .u8 0, .int .u8 0, .int .u8 0, .int .u8 0, .int .u8 0, .int .u8 0, .int .u8 0, .int .u8 0, .int .u8 0, .int .u8 0, .int .u8 0, .int .u8 0, .int .u8 0, .int .u8 0, .int .u8 0, .int .u8 0, .int .u8 0, .int .u8 0, .int .u8 0, .int .u8 0, .int .u8 0, .int .u8 0, .int .u8 0] 68) := ⟨_, rfl⟩
          rw [← hW2, ← hbt]
          have hb2 : Below w.heap.size w w2 := by subst hW2; exact hb1.alloc hb1.size _
          have hH : Holds w2 bt R [] := by subst hW2; subst hbt; exact Holds.new w1 R _ _ hreq
          have hz2 : bt < w2.heap.size := by subst hW2; subst hbt; simp
          have hw2 : w.heap.size ≤ bt := by omega
          have hg : 0 < w.heap.size := HT.out.1
          have HT2 := Lib.hid (HT.out.below hb2)
          have HRl : Hid ((encP m s.data.toList).length = R) := by rw [HL.out]; exact Lib.hid (by omega)
          have hRb : R ≤ 12582912 := by omega
          clear hW2 hbt HT1 HC1 hb1 hz1 hreq hreqI hR
          rw [Lib.run_convert_string_bytes (P := Tryd.prog) w2 9 42 5 s Tryd.underlying9 Tryd.underlying42 Tryd.underlying5]
          have hb3' := Lib.bytesWorld_below w2 5 s
          have HC3 := Lib.hid (fun j hj => Lib.bytesWorld_cell w2 5 s j hj)
          have HT3 := Lib.hid (HT2.out.below hb3')
          have HH := Lib.hid (hH.below hb3' hz2)
          have hb3 : Below w.heap.size w (Lib.bytesWorld w2 5 s) := hb2.trans (hb3'.mono hb2.size)
          generalize hW3 : Lib.bytesWorld w2 5 s = w3 at *
          obtain ⟨sb, hsb⟩ : ∃ x : Nat, x = w2.heap.size := ⟨_, rfl⟩
          rw [← hsb] at HC3 ⊢
          have hne : bt < sb := by omega
          clear hW3 hsb hb3' hH hb2 hz2 HT2
          go_wp2_with fail
          go_loopw [78, 13] (fun i j wr => ∃ (k : Nat) (l : List UInt8), k ≤ s.size ∧ i = .int .i64 k ∧ j = .int .i64 (l.length : Nat) ∧ Hid (l = encP m (s.data.toList.take k)) ∧ Hid (Holds wr bt R l) ∧ Hid (Tab wr) ∧ Below w.heap.size w wr ∧ Hid (∀ j, j < s.size → wr.cell? ⟨sb, j, none⟩ = some (.int .u8 ((s.data.toList.getD j 0).toNat : Int)))) (fun i _ _ => s.size - (intOf i).toNat)
          case atStart => exact ⟨0, [], Nat.zero_le _, rfl, rfl, rfl, HH, HT3, hb3, HC3⟩
          case round =>
            clear HH HT3 hb3 HC3
            obtain ⟨k, l, hk, rfl, rfl, Hl, HH, HT3, hb3, HC3⟩ := hrel
            by_cases hlt : k < s.size
            · have hck : wr.cell? ⟨sb, k, none⟩ = some (.int .u8 ((s[k]'hlt).toNat : Int)) := by rw [HC3.out k hlt, byte_getD s k hlt]
              have HN := Lib.hid (encP_next m s k hlt)
              have HM := encP_room m s (k + 1)
              rw [HRl.out] at HM
              obtain ⟨b, hb⟩ : ∃ b, esc m (s[k]'hlt) = b := ⟨_, rfl⟩
              have HS : Hid (Calls Tryd.prog 38 #[.int .u8 ((s[k]'hlt).toNat : Int), .int .u8 m] wr fun e w' => e = .returned (.bool b) ∧ wr = w') := by
                rw [← hb]; exact should_any _ m wr HT3.out
              rw [HN.out, ← Hl.out, plain.enc1, hb] at HM
              rw [← Hl.out, plain.enc1, hb] at HN
              clear hb
              have hf0 := HH.out.free l.length
              cases b
              · simp only [Bool.not_false, if_true] at HN HM
                rw [List.length_append] at HM
                have hl : l.length < R := by simp at HM; omega
                have hlI : (l.length : Int) < (R : Int) := by omega
                clear HM
                obtain ⟨v0, hv0⟩ := HH.out.old l.length hl
                cases h32 : (((s[k]'hlt).toNat : Int) == 32)
                all_goals
                  go_wp2_with (go_at_call 38; refine (HS.out).mono ?_; rintro e w' ⟨rfl, rfl⟩)
                  go_roundw
                  case rel =>
                    refine ⟨k + 1, l ++ [s[k]'hlt], by omega, by go_num, by simp, HN.out.symm, HH.out.push hl _, HT3.out.set (by show _ ≠ bt; omega) _, hb3.setCell hw2 _, fun j hj => ?_⟩
                    exact (World.cell?_setCell_other _ _ ⟨sb, j, none⟩ _ (fun e => by injection e; omega)).trans (HC3.out j hj)
                  case measure => simp [intOf]; omega
              · simp only [Bool.not_true, Bool.false_eq_true, if_false] at HN HM
                rw [List.length_append] at HM
                have hl : l.length + 2 < R := by simp at HM; omega
                have hlI : (l.length : Int) + 2 < (R : Int) := by omega
                have hf1 := HH.out.free (l.length + 1)
                have hf2 := HH.out.free (l.length + 2)
                clear HM
                obtain ⟨v0, hv0⟩ := HH.out.old l.length (by omega)
                obtain ⟨v1, hv1⟩ := HH.out.old (l.length + 1) (by omega)
                obtain ⟨v2, hv2⟩ := HH.out.old (l.length + 2) (by omega)
                have hc16 : (s[k]'hlt).toNat < 256 := (s[k]'hlt).toNat_lt
                cases h32 : (((s[k]'hlt).toNat : Int) == 32)
                all_goals
                  go_wp2_with (go_at_call 38; refine (HS.out).mono ?_; rintro e w' ⟨rfl, rfl⟩)
                  go_roundw
                  case rel =>
                    rw [digit ((s[k]'hlt).toNat / 16) (by omega), digit ((s[k]'hlt).toNat % 16) (by omega)]
                    refine ⟨k + 1, l ++ [37, plain.upper ((s[k]'hlt).toNat / 16), plain.upper ((s[k]'hlt).toNat % 16)], by omega, by go_num, by simp, HN.out.symm, HH.out.three hl _ _, ((HT3.out.set (by show _ ≠ bt; omega) _).set (by show _ ≠ bt; omega) _).set (by show _ ≠ bt; omega) _, ((hb3.setCell hw2 _).setCell hw2 _).setCell hw2 _, fun j hj => ?_⟩
                    exact (World.cell?_setCell_other _ _ ⟨sb, j, none⟩ _ (fun e => by injection e; omega)).trans ((World.cell?_setCell_other _ _ ⟨sb, j, none⟩ _ (fun e => by injection e; omega)).trans ((World.cell?_setCell_other _ _ ⟨sb, j, none⟩ _ (fun e => by injection e; omega)).trans (HC3.out j hj)))
                  case measure => simp [intOf]; omega
            · have hlen : l = encP m s.data.toList := by rw [Hl.out, List.take_of_length_le (by rw [data_len]; omega)]
              have hRl : R = l.length := by rw [hlen]; exact HRl.out.symm
              have hconv : (convert 42 9 (.slice (some ⟨bt, 0, none⟩) R 64)).run Tryd.prog wr = .ok (.string ⟨l.toArray⟩) wr := by
                rw [hRl]
                exact run_convert_bytes_back wr 42 9 5 ⟨bt, 0, none⟩ _ l Tryd.underlying42 Tryd.underlying5 Tryd.underlying9 (fun j hj => by rw [addr_add]; exact HH.out.cell j hj)
              have HE := Lib.hid hlen
              clear hlen hRl
              go_wp2_with fail
              go_ret
              rw [← HE.out]
              exact ⟨rfl, hb3⟩
        · have hreqI : ¬ (R : Int) ≤ 64 := by omega
          have hmk := fun wx => run_make_row' (P := Tryd.prog) 42 5 (.int .u8 0) 1 Tryd.underlying42 byteInfo rfl .i64 .i64 R (by omega) (by omega) wx
          go_wp2_with fail
          obtain ⟨bt, hbt⟩ : ∃ x : Nat, x = w1.heap.size + 1 := ⟨_, rfl⟩
          obtain ⟨w2, hW2⟩ : ∃ x : World, x = (w1.alloc (.cells #[.int .u8 0, .int .u8 0, .int .u8 0, .int .u8 0, .int .u8 0, .int .u8 0, .int .u8 0, .int .u8 0, .int .u8 0, .int .u8 0, .int .u8 0, .int .u8 0, .int .u8 0, .int .u8 0, .int .u8 0, .int .u8 0, .int .u8 0, .int .u8 0, .int .u8 0, .int .u8 0, .int .u8 0, .int .u8 0, .int .u8 0, .int .u8 0, .int .u8 0, .int .u8 0, .int .u8 0, .int .u8 0, .int .u8 0, .int .u8 0, .int .u8 0, .int .u8 0, .int .u8 0, .int .u8 0, .int .u8 0, .int .u8 0, .int .u8 0, .int .u8 0, .int .u8 0, .int .u8 0, .int .u8 0, .int .u8 0, .int .u8 0, .int .u8 0, .int .u8 0, .int .u8 0, .int .u8 0, .int .u8 0, .int .u8 0, .int .u8 0, .int .u8 0, .int .u8 0, .int .u8 0, .int .u8 0, .int .u8 0, .int .u8 0, .int .u8 0, .int .u8 0, .int .u8 0, .int .u8 0, .int .u8 0, .int .u8 0, .int .u8 0, .int .u8 0] 68)).alloc (.cells (madeCells #[.int .u8 0] R) 5) := ⟨_, rfl⟩
          rw [← hW2, ← hbt]
          have hb2 : Below w.heap.size w w2 := by subst hW2; exact (hb1.alloc hb1.size _).alloc (by simp; omega) _
          have hH : Holds w2 bt R [] := by
            subst hW2; subst hbt
            have := Holds.new (w1.alloc (.cells #[.int .u8 0, .int .u8 0, .int .u8 0, .int .u8 0, .int .u8 0, .int .u8 0, .int .u8 0, .int .u8 0, .int .u8 0, .int .u8 0, .int .u8 0, .int .u8 0, .int .u8 0, .int .u8 0, .int .u8 0, .int .u8 0, .int .u8 0, .int .u8 0, .int .u8 0, .int .u8 0, .int .u8 0, .int .u8 0, .int .u8 0, .int .u8 0, .int .u8 0, .int .u8 0, .int .u8 0, .int .u8 0, .int .u8 0, .int .u8 0, .int .u8 0, .int .u8 0, .int .u8 0, .int .u8 0, .int .u8 0, .int .u8 0, .int .u8 0, .int .u8 0, .int .u8 0, .int .u8 0, .int .u8 0, .int .u8 0, .int .u8 0, .int .u8 0, .int .u8 0, .int .u8 0, .int .u8 0, .int .u8 0, .int .u8 0, .int .u8 0, .int .u8 0, .int .u8 0, .int .u8 0, .int .u8 0, .int .u8 0, .int .u8 0, .int .u8 0, .int .u8 0, .int .u8 0, .int .u8 0, .int .u8 0, .int .u8 0, .int .u8 0, .int .u8 0] 68)) R (madeCells #[.int .u8 0] R) 5 (by rw [size_madeCells]; exact Nat.le_refl _)
            simpa using this
          have hz2 : bt < w2.heap.size := by subst hW2; subst hbt; simp
          have hw2 : w.heap.size ≤ bt := by omega
          have hg : 0 < w.heap.size := HT.out.1
          have HT2 := Lib.hid (HT.out.below hb2)
          have HRl : Hid ((encP m s.data.toList).length = R) := by rw [HL.out]; exact Lib.hid (by omega)
          have hRb : R ≤ 12582912 := by omega
          clear hW2 hbt HT1 HC1 hb1 hz1 hreq hreqI hR hmk
          rw [Lib.run_convert_string_bytes (P := Tryd.prog) w2 9 42 5 s Tryd.underlying9 Tryd.underlying42 Tryd.underlying5]
          have hb3' := Lib.bytesWorld_below w2 5 s
          have HC3 := Lib.hid (fun j hj => Lib.bytesWorld_cell w2 5 s j hj)
          have HT3 := Lib.hid (HT2.out.below hb3')
          have HH := Lib.hid (hH.below hb3' hz2)
          have hb3 : Below w.heap.size w (Lib.bytesWorld w2 5 s) := hb2.trans (hb3'.mono hb2.size)
          generalize hW3 : Lib.bytesWorld w2 5 s = w3 at *
          obtain ⟨sb, hsb⟩ : ∃ x : Nat, x = w2.heap.size := ⟨_, rfl⟩
          rw [← hsb] at HC3 ⊢
          have hne : bt < sb := by omega
          clear hW3 hsb hb3' hH hb2 hz2 HT2
          go_wp2_with fail
          go_loopw [78, 13] (fun i j wr => ∃ (k : Nat) (l : List UInt8), k ≤ s.size ∧ i = .int .i64 k ∧ j = .int .i64 (l.length : Nat) ∧ Hid (l = encP m (s.data.toList.take k)) ∧ Hid (Holds wr bt R l) ∧ Hid (Tab wr) ∧ Below w.heap.size w wr ∧ Hid (∀ j, j < s.size → wr.cell? ⟨sb, j, none⟩ = some (.int .u8 ((s.data.toList.getD j 0).toNat : Int)))) (fun i _ _ => s.size - (intOf i).toNat)
          case atStart => exact ⟨0, [], Nat.zero_le _, rfl, rfl, rfl, HH, HT3, hb3, HC3⟩
          case round =>
            clear HH HT3 hb3 HC3
            obtain ⟨k, l, hk, rfl, rfl, Hl, HH, HT3, hb3, HC3⟩ := hrel
            by_cases hlt : k < s.size
            · have hck : wr.cell? ⟨sb, k, none⟩ = some (.int .u8 ((s[k]'hlt).toNat : Int)) := by rw [HC3.out k hlt, byte_getD s k hlt]
              have HN := Lib.hid (encP_next m s k hlt)
              have HM := encP_room m s (k + 1)
              rw [HRl.out] at HM
              obtain ⟨b, hb⟩ : ∃ b, esc m (s[k]'hlt) = b := ⟨_, rfl⟩
              have HS : Hid (Calls Tryd.prog 38 #[.int .u8 ((s[k]'hlt).toNat : Int), .int .u8 m] wr fun e w' => e = .returned (.bool b) ∧ wr = w') := by
                rw [← hb]; exact should_any _ m wr HT3.out
              rw [HN.out, ← Hl.out, plain.enc1, hb] at HM
              rw [← Hl.out, plain.enc1, hb] at HN
              clear hb
              have hf0 := HH.out.free l.length
              cases b
              · simp only [Bool.not_false, if_true] at HN HM
                rw [List.length_append] at HM
                have hl : l.length < R := by simp at HM; omega
                have hlI : (l.length : Int) < (R : Int) := by omega
                clear HM
                obtain ⟨v0, hv0⟩ := HH.out.old l.length hl
                cases h32 : (((s[k]'hlt).toNat : Int) == 32)
                all_goals
                  go_wp2_with (go_at_call 38; refine (HS.out).mono ?_; rintro e w' ⟨rfl, rfl⟩)
                  go_roundw
                  case rel =>
                    refine ⟨k + 1, l ++ [s[k]'hlt], by omega, by go_num, by simp, HN.out.symm, HH.out.push hl _, HT3.out.set (by show _ ≠ bt; omega) _, hb3.setCell hw2 _, fun j hj => ?_⟩
                    exact (World.cell?_setCell_other _ _ ⟨sb, j, none⟩ _ (fun e => by injection e; omega)).trans (HC3.out j hj)
                  case measure => simp [intOf]; omega
              · simp only [Bool.not_true, Bool.false_eq_true, if_false] at HN HM
                rw [List.length_append] at HM
                have hl : l.length + 2 < R := by simp at HM; omega
                have hlI : (l.length : Int) + 2 < (R : Int) := by omega
                have hf1 := HH.out.free (l.length + 1)
                have hf2 := HH.out.free (l.length + 2)
                clear HM
                obtain ⟨v0, hv0⟩ := HH.out.old l.length (by omega)
                obtain ⟨v1, hv1⟩ := HH.out.old (l.length + 1) (by omega)
                obtain ⟨v2, hv2⟩ := HH.out.old (l.length + 2) (by omega)
                have hc16 : (s[k]'hlt).toNat < 256 := (s[k]'hlt).toNat_lt
                cases h32 : (((s[k]'hlt).toNat : Int) == 32)
                all_goals
                  go_wp2_with (go_at_call 38; refine (HS.out).mono ?_; rintro e w' ⟨rfl, rfl⟩)
                  go_roundw
                  case rel =>
                    rw [digit ((s[k]'hlt).toNat / 16) (by omega), digit ((s[k]'hlt).toNat % 16) (by omega)]
                    refine ⟨k + 1, l ++ [37, plain.upper ((s[k]'hlt).toNat / 16), plain.upper ((s[k]'hlt).toNat % 16)], by omega, by go_num, by simp, HN.out.symm, HH.out.three hl _ _, ((HT3.out.set (by show _ ≠ bt; omega) _).set (by show _ ≠ bt; omega) _).set (by show _ ≠ bt; omega) _, ((hb3.setCell hw2 _).setCell hw2 _).setCell hw2 _, fun j hj => ?_⟩
                    exact (World.cell?_setCell_other _ _ ⟨sb, j, none⟩ _ (fun e => by injection e; omega)).trans ((World.cell?_setCell_other _ _ ⟨sb, j, none⟩ _ (fun e => by injection e; omega)).trans ((World.cell?_setCell_other _ _ ⟨sb, j, none⟩ _ (fun e => by injection e; omega)).trans (HC3.out j hj)))
                  case measure => simp [intOf]; omega
            · have hlen : l = encP m s.data.toList := by rw [Hl.out, List.take_of_length_le (by rw [data_len]; omega)]
              have hRl : R = l.length := by rw [hlen]; exact HRl.out.symm
              have hconv : (convert 42 9 (.slice (some ⟨bt, 0, none⟩) R R)).run Tryd.prog wr = .ok (.string ⟨l.toArray⟩) wr := by
                rw [hRl]
                exact run_convert_bytes_back wr 42 9 5 ⟨bt, 0, none⟩ _ l Tryd.underlying42 Tryd.underlying5 Tryd.underlying9 (fun j hj => by rw [addr_add]; exact HH.out.cell j hj)
              have HE := Lib.hid hlen
              clear hlen hRl
              go_wp2_with fail
              go_ret
              rw [← HE.out]
              exact ⟨rfl, hb3⟩
end Go.Proofs.YtkakkcmpincggaaDoor
