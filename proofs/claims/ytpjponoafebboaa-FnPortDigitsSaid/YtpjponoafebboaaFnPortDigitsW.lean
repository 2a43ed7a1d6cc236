/- What FnPortDigits returns, for every host that the form reaches. -/
import Derived.Test.YtpjponoafebboaaHostName
import Derived.Outline
namespace Go.Proofs.Ytpjponoafebboaa
open Go.RowKit

theorem dig_at (p : ByteArray) (h : plain.digs p.data.toList = true) (j : Nat) (hj : j < p.size) : 48 ≤ p[j].toNat ∧ p[j].toNat ≤ 57 := by
  rw [← isDig_iff, ← byte_list p j hj]
  exact List.all_eq_true.1 h _ (List.getElem_mem _)

theorem port_one (p : ByteArray) (h : plain.digs p.data.toList = true) : portB (⟨#[104, 58]⟩ ++ p ++ ⟨#[49]⟩) = p ++ ⟨#[49]⟩ := by
  refine S_ext ?_
  have e : (⟨#[104, 58]⟩ ++ p ++ ⟨#[49]⟩ : ByteArray).data.toList = [104] ++ 58 :: (p.data.toList ++ [49]) := by simp
  have hd : plain.digs (p.data.toList ++ [49]) = true := by
    rw [plain.digs, List.all_append]
    rw [plain.digs] at h
    rw [h]; rfl
  rw [portB, e, data_S, plain.portL, plain.parts_of _ _ hd]
  simp

/-- the end of a host that has a port -/
theorem port_tail (s : ByteArray) : (portB s).toList.isEmpty = true ∨ ((portB s).size < s.size ∧ s.extract (s.size - (portB s).size - 1) s.size = ⟨#[58]⟩ ++ portB s) := by
  rcases plain.port_end s.data.toList with h | ⟨a, h⟩
  · left; rw [Lib.toList_data, portB, data_S, h]; rfl
  · right
    have hl : s.size = a.length + 1 + (portB s).size := by
      rw [← size_data, ← size_data, portB, data_S]
      conv => lhs; rw [h]
      simp; omega
    refine ⟨by omega, S_ext ?_⟩
    rw [Lib.extract_data, show s.size - (portB s).size - 1 = a.length by omega]
    have e2 : (⟨#[58]⟩ ++ portB s : ByteArray).data.toList = 58 :: plain.portL s.data.toList := by
      rw [portB]; simp [S]
    rw [e2, List.take_of_length_le (by rw [List.length_drop, size_data]; omega)]
    conv => lhs; rw [h]
    simp

set_option maxHeartbeats 800000 in
theorem portDigits_core (s p : ByteArray) (w : World) (hs : s.size < 140737488355328) (hp : p.size < 140737488355328)
    (HC : Hid (Calls Try.prog 21 #[.string s] w fun e w' => e = .returned (.string p) ∧ Below w.heap.size w w'))
    (HO : Hid (∀ wx, Calls Try.prog 21 #[.string (⟨#[104, 58]⟩ ++ p ++ ⟨#[49]⟩)] wx fun e w' => e = .returned (.string (p ++ ⟨#[49]⟩)) ∧ Below wx.heap.size wx w'))
    (HD : Hid (plain.digs p.data.toList = true))
    (ht : p.toList.isEmpty = true ∨ (p.size < s.size ∧ s.extract (s.size - p.size - 1) s.size = ⟨#[58]⟩ ++ p)) :
    Calls Try.prog 10 #[.string s] w fun e w' => e = .returned (.bool true) ∧ Below w.heap.size w w' := by
  have HT := Lib.hid ht
  clear ht
  go_enter Try.func10, Try.ntmps10
  go_wp2_with (go_at_call 21; refine (HC.out).mono ?_; rintro e w1 ⟨rfl, hb1⟩)
  go_loop [9, 2] (fun i r => ∃ k : Nat, k ≤ p.size ∧ i = .int .i64 k ∧ r = .bool false) (fun i _ => p.size - (intOf i).toNat)
  case atStart => exact ⟨0, Nat.zero_le _, rfl, rfl⟩
  case round =>
    obtain ⟨k, hk, rfl, rfl⟩ := hrel
    by_cases hlt : k < p.size
    · obtain ⟨d1, d2⟩ := dig_at p HD.out k hlt
      go_wp2_with fail
      go_round
      case rel => exact ⟨k + 1, by omega, by go_num, rfl⟩
      case measure => simp [intOf]; omega
    · rcases HT.out with he | ⟨hl, ht⟩
      · go_wp2_with fail
        refine (HO.out _).mono ?_
        rintro e w2 ⟨rfl, hb2⟩
        go_wp2_with fail
        go_ret
        exact ⟨rfl, hb1.trans (hb2.mono hb1.size)⟩
      · cases he : p.toList.isEmpty
        · go_wp2_with fail
          refine (HO.out _).mono ?_
          rintro e w2 ⟨rfl, hb2⟩
          go_wp2_with fail
          go_ret
          exact ⟨rfl, hb1.trans (hb2.mono hb1.size)⟩
        · go_wp2_with fail
          refine (HO.out _).mono ?_
          rintro e w2 ⟨rfl, hb2⟩
          go_wp2_with fail
          go_ret
          exact ⟨rfl, hb1.trans (hb2.mono hb1.size)⟩

theorem port_le (s : ByteArray) : (portB s).size ≤ s.size := by
  rcases port_tail s with h | h
  · rw [Lib.toList_data, List.isEmpty_iff] at h
    rw [← size_data, h]; exact Nat.zero_le _
  · omega

theorem fnPortDigits_walk (s : ByteArray) (hs : s.size < 140737488355328) (w : World) :
    Calls Try.prog 10 #[.string s] w fun e w' => e = .returned (.bool true) ∧ Below w.heap.size w w' := by
  have hd : plain.digs (portB s).data.toList = true := by rw [portB, data_S]; exact plain.port_digs _
  have hz := port_le s
  refine portDigits_core s (portB s) w hs (by omega) (implPort_any s w (by omega)) (fun wx => ?_) hd (port_tail s)
  have h := implPort_any (⟨#[104, 58]⟩ ++ portB s ++ ⟨#[49]⟩) wx (by rw [ByteArray.size_append, ByteArray.size_append]; show 2 + _ + 1 < _; omega)
  rw [port_one _ hd] at h
  exact h
end Go.Proofs.Ytpjponoafebboaa
