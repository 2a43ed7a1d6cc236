/- What FnHostOfParts and FnHostSix return, for every name and port that the form reaches. -/
import Derived.Test.YtpjponoafebboaaHostName
namespace Go.Proofs.Ytpjponoafebboaa
open Go.RowKit

theorem has_is (s : ByteArray) (u : UInt8) (c : Int) (b : Bool) (h : (u.toNat : Int) = c) (hb : hasL s.data.toList u = b) (hs : s.size < 4611686018427387904) (w : World) :
    Calls Try.prog 23 #[.string s, .int .u8 c] w fun e w' => e = .returned (.bool b) ∧ w = w' := by
  subst h hb
  exact has_any s u w hs

theorem data_app (a b : ByteArray) : (a ++ b).data.toList = a.data.toList ++ b.data.toList := by simp
theorem str_ne {a b : ByteArray} (h : ¬ a = b) : (a.toList == b.toList) = false := by
  rw [beq_eq_false_iff_ne, Lib.toList_data, Lib.toList_data]
  exact fun e => h (S_ext e)
theorem ne_nil {p : ByteArray} (h : p.toList.isEmpty = false) : p.data.toList ≠ [] := by
  rw [Lib.toList_data] at h
  exact List.isEmpty_eq_false_iff.1 h
theorem hasL_not {l : List UInt8} {c : UInt8} (h : hasL l c = false) : c ∉ l := fun hm => by
  rw [(hasL_iff l c).2 hm] at h; cases h

/-- the port of 'x', a colon and p is p: p is digits -/
theorem port_premise {p : ByteArray} (he : p.toList.isEmpty = false) (hq : portB (⟨#[120, 58]⟩ ++ p) = p) : plain.digs p.data.toList = true := by
  refine plain.digs_of_port _ (ne_nil he) ?_
  have := congrArg (fun s : ByteArray => s.data.toList) hq
  simp only [portB, data_S, data_app] at this
  exact this

theorem six_host (n : ByteArray) : hostB (⟨#[91, 58, 58]⟩ ++ n ++ ⟨#[93]⟩) = ⟨#[58, 58]⟩ ++ n := by
  refine S_ext ?_
  rw [hostB, data_S, data_app, data_app, data_app]
  have := plain.six_bad n.data.toList
  show plain.strip (plain.parts (91 :: 58 :: 58 :: (n.data.toList ++ [93]))).1 = _
  rw [this]
  exact plain.strip_brackets (58 :: 58 :: n.data.toList)
theorem six_port (n : ByteArray) : portB (⟨#[91, 58, 58]⟩ ++ n ++ ⟨#[93]⟩) = ⟨#[]⟩ := by
  refine S_ext ?_
  rw [portB, data_S, data_app, data_app]
  have := plain.six_bad n.data.toList
  show (plain.parts (91 :: 58 :: 58 :: (n.data.toList ++ [93]))).2 = _
  rw [this]
theorem with_port (a p : ByteArray) (hd : plain.digs p.data.toList = true) : hostB (a ++ ⟨#[58]⟩ ++ p) = stripB a ∧ portB (a ++ ⟨#[58]⟩ ++ p) = p := by
  have e : (a ++ ⟨#[58]⟩ ++ p).data.toList = a.data.toList ++ 58 :: p.data.toList := by rw [data_app, data_app]; simp
  refine ⟨?_, ?_⟩
  · rw [hostB, e, plain.hostL, plain.parts_of _ _ hd]; rfl
  · rw [portB, e, plain.portL, plain.parts_of _ _ hd]; exact S_data p
theorem strip_six (n : ByteArray) : stripB (⟨#[91, 58, 58]⟩ ++ n ++ ⟨#[93]⟩) = ⟨#[58, 58]⟩ ++ n := by
  refine S_ext ?_
  rw [stripB, data_S, data_app, data_app, data_app]
  exact plain.strip_brackets (58 :: 58 :: n.data.toList)
theorem strip_name (n : ByteArray) (h : hasL n.data.toList 91 = false) : stripB n = n := by
  rw [stripB, plain.strip_plain (hasL_not h), S_data]
theorem strip_in (n : ByteArray) : stripB (⟨#[91]⟩ ++ n ++ ⟨#[93]⟩) = n := by
  refine S_ext ?_
  rw [stripB, data_S, data_app, data_app]
  exact plain.strip_brackets n.data.toList
theorem name_alone (n : ByteArray) (h1 : hasL n.data.toList 58 = false) (h2 : hasL n.data.toList 91 = false) : hostB n = n ∧ portB n = ⟨#[]⟩ := by
  rw [hostB, portB, plain.hostL, plain.portL, plain.parts_none (hasL_not h1)]
  exact ⟨by show S (plain.strip n.data.toList) = n; rw [plain.strip_plain (hasL_not h2), S_data], rfl⟩
theorem name_in (n : ByteArray) (h1 : hasL n.data.toList 58 = false) : hostB (⟨#[91]⟩ ++ n ++ ⟨#[93]⟩) = n := by
  have hn : 58 ∉ (⟨#[91]⟩ ++ n ++ ⟨#[93]⟩ : ByteArray).data.toList := by
    rw [data_app, data_app]
    have := hasL_not h1
    simpa using this
  have := strip_in n
  rw [stripB] at this
  rw [hostB, plain.hostL, plain.parts_none hn]
  exact this
theorem in_port (n p : ByteArray) (hd : plain.digs p.data.toList = true) : hostB (⟨#[91]⟩ ++ n ++ ⟨#[93, 58]⟩ ++ p) = n ∧ portB (⟨#[91]⟩ ++ n ++ ⟨#[93, 58]⟩ ++ p) = p := by
  have e : (⟨#[91]⟩ ++ n ++ ⟨#[93, 58]⟩ ++ p : ByteArray) = (⟨#[91]⟩ ++ n ++ ⟨#[93]⟩) ++ ⟨#[58]⟩ ++ p := by
    refine S_ext ?_
    simp only [data_app]
    simp
  rw [e, (with_port _ p hd).1, (with_port _ p hd).2]
  exact ⟨strip_in n, rfl⟩

set_option maxHeartbeats 800000 in
theorem fnHostSix_walk (n p : ByteArray) (hn : n.size < 140737488355328) (hp : p.size < 140737488355328) (w : World) :
    Calls Try.prog 12 #[.string n, .string p] w fun e w' => e = .returned (.bool true) ∧ Below w.heap.size w w' := by
  obtain ⟨b1, hb1⟩ : ∃ b, hasL n.data.toList 91 = b := ⟨_, rfl⟩
  obtain ⟨b2, hb2⟩ : ∃ b, hasL n.data.toList 93 = b := ⟨_, rfl⟩
  have H1 := Lib.hid (has_is n 91 91 b1 rfl hb1 (by omega))
  have H2 := Lib.hid (has_is n 93 93 b2 rfl hb2 (by omega))
  have z1 : (⟨#[120, 58]⟩ ++ p : ByteArray).size < 4611686018427387904 := by rw [ByteArray.size_append]; show 2 + _ < _; omega
  have z2 : (⟨#[91, 58, 58]⟩ ++ n ++ ⟨#[93]⟩ : ByteArray).size < 4611686018427387904 := by rw [ByteArray.size_append, ByteArray.size_append]; show 3 + _ + 1 < _; omega
  have z3 : (⟨#[91, 58, 58]⟩ ++ n ++ ⟨#[93]⟩ ++ ⟨#[58]⟩ ++ p : ByteArray).size < 4611686018427387904 := by rw [ByteArray.size_append, ByteArray.size_append, ByteArray.size_append, ByteArray.size_append]; show 3 + _ + 1 + 1 + _ < _; omega
  clear hb1 hb2
  cases b1
  · cases b2
    · cases he : p.toList.isEmpty
      · by_cases hq : portB (⟨#[120, 58]⟩ ++ p) = p
        · have hd := port_premise he hq
          have HW := Lib.hid (with_port (⟨#[91, 58, 58]⟩ ++ n ++ ⟨#[93]⟩) p hd)
          have HP := Lib.hid ((specPort_any _ w z1).mono fun e w' h => (by rw [hq] at h; exact h : e = .returned (.string p) ∧ w = w'))
          clear hd hq
          go_enter Try.func12, Try.ntmps12
          go_wp2_with fail
          refine (H1.out _).mono ?_
          rintro e w' ⟨rfl, rfl⟩
          go_wp2_with fail
          refine (H2.out _).mono ?_
          rintro e w' ⟨rfl, rfl⟩
          go_wp2_with fail
          refine (HP.out).mono ?_
          rintro e w' ⟨rfl, rfl⟩
          go_wp2_with fail
          refine (implHostname_any _ _ z2).mono ?_
          rintro e w1 ⟨rfl, hb1⟩
          rw [six_host]
          go_wp2_with fail
          refine (implPort_any _ _ z2).mono ?_
          rintro e w2 ⟨rfl, hb2⟩
          rw [six_port]
          go_wp2_with fail
          refine (implHostname_any _ _ z3).mono ?_
          rintro e w3 ⟨rfl, hb3⟩
          rw [HW.out.1, strip_six]
          go_wp2_with fail
          refine (implPort_any _ _ z3).mono ?_
          rintro e w4 ⟨rfl, hb4⟩
          rw [HW.out.2]
          go_wp2_with fail
          go_ret
          exact ⟨rfl, hb1.trans ((hb2.mono hb1.size).trans ((hb3.mono (Nat.le_trans hb1.size hb2.size)).trans (hb4.mono (Nat.le_trans hb1.size (Nat.le_trans hb2.size hb3.size)))))⟩
        · have hne := str_ne hq
          clear hq
          go_enter Try.func12, Try.ntmps12
          go_wp2_with fail
          refine (H1.out _).mono ?_
          rintro e w' ⟨rfl, rfl⟩
          go_wp2_with fail
          refine (H2.out _).mono ?_
          rintro e w' ⟨rfl, rfl⟩
          go_wp2_with fail
          refine (specPort_any _ _ z1).mono ?_
          rintro e w' ⟨rfl, rfl⟩
          go_wp2_with fail
          go_ret
          exact ⟨rfl, Below.refl _ _⟩
      · go_enter Try.func12, Try.ntmps12
        go_wp2_with fail
        refine (H1.out _).mono ?_
        rintro e w' ⟨rfl, rfl⟩
        go_wp2_with fail
        refine (H2.out _).mono ?_
        rintro e w' ⟨rfl, rfl⟩
        go_wp2_with fail
        go_ret
        exact ⟨rfl, Below.refl _ _⟩
    · go_enter Try.func12, Try.ntmps12
      go_wp2_with fail
      refine (H1.out _).mono ?_
      rintro e w' ⟨rfl, rfl⟩
      go_wp2_with fail
      refine (H2.out _).mono ?_
      rintro e w' ⟨rfl, rfl⟩
      go_wp2_with fail
      go_ret
      exact ⟨rfl, Below.refl _ _⟩
  · go_enter Try.func12, Try.ntmps12
    go_wp2_with fail
    refine (H1.out _).mono ?_
    rintro e w' ⟨rfl, rfl⟩
    go_wp2_with fail
    go_ret
    exact ⟨rfl, Below.refl _ _⟩

set_option maxHeartbeats 1600000 in
theorem fnHostOfParts_walk (n p : ByteArray) (hn : n.size < 140737488355328) (hp : p.size < 140737488355328) (w : World) :
    Calls Try.prog 11 #[.string n, .string p] w fun e w' => e = .returned (.bool true) ∧ Below w.heap.size w w' := by
  obtain ⟨b1, hb1⟩ : ∃ b, hasL n.data.toList 58 = b := ⟨_, rfl⟩
  obtain ⟨b2, hb2⟩ : ∃ b, hasL n.data.toList 91 = b := ⟨_, rfl⟩
  obtain ⟨b3, hb3⟩ : ∃ b, hasL n.data.toList 93 = b := ⟨_, rfl⟩
  have H1 := Lib.hid (has_is n 58 58 b1 rfl hb1 (by omega))
  have H2 := Lib.hid (has_is n 91 91 b2 rfl hb2 (by omega))
  have H3 := Lib.hid (has_is n 93 93 b3 rfl hb3 (by omega))
  have HB1 := Lib.hid hb1
  have HB2 := Lib.hid hb2
  clear hb1 hb2 hb3
  have z0 : n.size < 4611686018427387904 := by omega
  have z1 : (⟨#[120, 58]⟩ ++ p : ByteArray).size < 4611686018427387904 := by rw [ByteArray.size_append]; show 2 + _ < _; omega
  have z2 : (n ++ ⟨#[58]⟩ ++ p : ByteArray).size < 4611686018427387904 := by rw [ByteArray.size_append, ByteArray.size_append]; show _ + 1 + _ < _; omega
  have z3 : (⟨#[91]⟩ ++ n ++ ⟨#[93, 58]⟩ ++ p : ByteArray).size < 4611686018427387904 := by rw [ByteArray.size_append, ByteArray.size_append, ByteArray.size_append]; show 1 + _ + 2 + _ < _; omega
  have z4 : (⟨#[91]⟩ ++ n ++ ⟨#[93]⟩ : ByteArray).size < 4611686018427387904 := by rw [ByteArray.size_append, ByteArray.size_append]; show 1 + _ + 1 < _; omega
  cases hm : n.toList.isEmpty
  · cases b1
    · cases b2
      · cases b3
        · cases he : p.toList.isEmpty
          · by_cases hq : portB (⟨#[120, 58]⟩ ++ p) = p
            · have hd := port_premise he hq
              have HW : Hid (hostB (n ++ ⟨#[58]⟩ ++ p) = n ∧ portB (n ++ ⟨#[58]⟩ ++ p) = p) := ⟨((with_port n p hd).1).trans (strip_name n HB2.out), (with_port n p hd).2⟩
              have HI := Lib.hid (in_port n p hd)
              have HA := Lib.hid (name_alone n HB1.out HB2.out)
              have HB := Lib.hid (name_in n HB1.out)
              have HP := Lib.hid ((specPort_any _ w z1).mono fun e w' h => (by rw [hq] at h; exact h : e = .returned (.string p) ∧ w = w'))
              clear hd hq
              go_enter Try.func11, Try.ntmps11
              go_wp2_with fail
              refine (H1.out _).mono ?_
              rintro e w' ⟨rfl, rfl⟩
              go_wp2_with fail
              refine (H2.out _).mono ?_
              rintro e w' ⟨rfl, rfl⟩
              go_wp2_with fail
              refine (H3.out _).mono ?_
              rintro e w' ⟨rfl, rfl⟩
              go_wp2_with fail
              refine (HP.out).mono ?_
              rintro e w' ⟨rfl, rfl⟩
              go_wp2_with fail
              refine (implHostname_any _ _ z2).mono ?_
              rintro e w1 ⟨rfl, hb1⟩
              rw [HW.out.1]
              have hc1 := hb1
              go_wp2_with fail
              refine (implPort_any _ _ z2).mono ?_
              rintro e w2 ⟨rfl, hb2⟩
              rw [HW.out.2]
              have hc2 := hc1.trans (hb2.mono hc1.size)
              go_wp2_with fail
              refine (implHostname_any _ _ z3).mono ?_
              rintro e w3 ⟨rfl, hb3⟩
              rw [HI.out.1]
              have hc3 := hc2.trans (hb3.mono hc2.size)
              go_wp2_with fail
              refine (implPort_any _ _ z3).mono ?_
              rintro e w4 ⟨rfl, hb4⟩
              rw [HI.out.2]
              have hc4 := hc3.trans (hb4.mono hc3.size)
              go_wp2_with fail
              refine (implHostname_any _ _ z0).mono ?_
              rintro e w5 ⟨rfl, hb5⟩
              rw [HA.out.1]
              have hc5 := hc4.trans (hb5.mono hc4.size)
              go_wp2_with fail
              refine (implPort_any _ _ z0).mono ?_
              rintro e w6 ⟨rfl, hb6⟩
              rw [HA.out.2]
              have hc6 := hc5.trans (hb6.mono hc5.size)
              go_wp2_with fail
              refine (implHostname_any _ _ z4).mono ?_
              rintro e w7 ⟨rfl, hb7⟩
              rw [HB.out]
              have hc7 := hc6.trans (hb7.mono hc6.size)
              go_wp2_with fail
              go_ret
              exact ⟨rfl, hc7⟩
            · have hne := str_ne hq
              clear hq
              go_enter Try.func11, Try.ntmps11
              go_wp2_with fail
              refine (H1.out _).mono ?_
              rintro e w' ⟨rfl, rfl⟩
              go_wp2_with fail
              refine (H2.out _).mono ?_
              rintro e w' ⟨rfl, rfl⟩
              go_wp2_with fail
              refine (H3.out _).mono ?_
              rintro e w' ⟨rfl, rfl⟩
              go_wp2_with fail
              refine (specPort_any _ _ z1).mono ?_
              rintro e w' ⟨rfl, rfl⟩
              go_wp2_with fail
              go_ret
              exact ⟨rfl, Below.refl _ _⟩
          · go_enter Try.func11, Try.ntmps11
            go_wp2_with fail
            refine (H1.out _).mono ?_
            rintro e w' ⟨rfl, rfl⟩
            go_wp2_with fail
            refine (H2.out _).mono ?_
            rintro e w' ⟨rfl, rfl⟩
            go_wp2_with fail
            refine (H3.out _).mono ?_
            rintro e w' ⟨rfl, rfl⟩
            go_wp2_with fail
            go_ret
            exact ⟨rfl, Below.refl _ _⟩
        · go_enter Try.func11, Try.ntmps11
          go_wp2_with fail
          refine (H1.out _).mono ?_
          rintro e w' ⟨rfl, rfl⟩
          go_wp2_with fail
          refine (H2.out _).mono ?_
          rintro e w' ⟨rfl, rfl⟩
          go_wp2_with fail
          refine (H3.out _).mono ?_
          rintro e w' ⟨rfl, rfl⟩
          go_wp2_with fail
          go_ret
          exact ⟨rfl, Below.refl _ _⟩
      · go_enter Try.func11, Try.ntmps11
        go_wp2_with fail
        refine (H1.out _).mono ?_
        rintro e w' ⟨rfl, rfl⟩
        go_wp2_with fail
        refine (H2.out _).mono ?_
        rintro e w' ⟨rfl, rfl⟩
        go_wp2_with fail
        go_ret
        exact ⟨rfl, Below.refl _ _⟩
    · go_enter Try.func11, Try.ntmps11
      go_wp2_with fail
      refine (H1.out _).mono ?_
      rintro e w' ⟨rfl, rfl⟩
      go_wp2_with fail
      go_ret
      exact ⟨rfl, Below.refl _ _⟩
  · go_enter Try.func11, Try.ntmps11
    go_wp2_with fail
    go_ret
    exact ⟨rfl, Below.refl _ _⟩
end Go.Proofs.Ytpjponoafebboaa
