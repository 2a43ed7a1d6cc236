/- The plain laws of the escaped forms that the table makes. No walk in sight. -/
import Derived.Test.YtkakkcmpincggaaDoorEscPath
namespace Go.Proofs.YtkakkcmpincggaaDoor
open Go.RowKit

theorem esc_pct1 : esc 1 37 = true := by decide +kernel
theorem esc_pct16 : esc 16 37 = true := by decide +kernel
theorem esc_pct64 : esc 64 37 = true := by decide +kernel
theorem esc_upper1 : ∀ c : UInt8, esc 1 (plain.upper (c.toNat / 16)) = false ∧ esc 1 (plain.upper (c.toNat % 16)) = false := plain.forall_u8 (by decide +kernel)
theorem esc_upper64 : ∀ c : UInt8, esc 64 (plain.upper (c.toNat / 16)) = false ∧ esc 64 (plain.upper (c.toNat % 16)) = false := plain.forall_u8 (by decide +kernel)

theorem encP_nil (m : Int) : encP m [] = [] := rfl
theorem encP_cons (m : Int) (c : UInt8) (l : List UInt8) : encP m (c :: l) = plain.enc1 (fun c => !esc m c) c ++ encP m l := plain.encode_cons _ _ _
theorem encP_app (m : Int) (a b : List UInt8) : encP m (a ++ b) = encP m a ++ encP m b := plain.encode_append _ _ _
theorem decode_encP {m : Int} (h : esc m 37 = true) (l : List UInt8) : plain.decode (encP m l) = some l := plain.decode_encode (by simp [h]) l

theorem valid_encP {m : Int} (hu : ∀ c : UInt8, esc m (plain.upper (c.toNat / 16)) = false ∧ esc m (plain.upper (c.toNat % 16)) = false) : ∀ l, validL m (encP m l) = true
  | [] => rfl
  | c :: l => by
    have ih := valid_encP hu l
    rw [encP_cons, validL, List.all_append]
    rw [validL] at ih
    rw [ih, Bool.and_true, plain.enc1]
    cases h : esc m c
    · simp [okB, h]
    · obtain ⟨h1, h2⟩ := hu c
      have h37 : special 37 = true := by decide
      simp [okB, h1, h2, h37]
theorem encP_ne {m : Int} {l : List UInt8} (h : l ≠ []) : encP m l ≠ [] := by
  intro e
  have := encP_length m l
  rw [e] at this
  cases l with
  | nil => exact h rfl
  | cons c r => simp at this; omega
theorem encP_le (m : Int) (l : List UInt8) : (encP m l).length ≤ 3 * l.length := by
  rw [encP_length]; have := cnt_le m l; omega

theorem decode_epL (v r : List UInt8) : plain.decode (epL v r) = some v := by
  by_cases hk : keptPath v r
  · rw [epL_kept hk]; exact hk.2.2
  · by_cases hv : v = [42]
    · rw [epL_star hk hv, hv]; rfl
    · rw [epL_made hk hv]; exact decode_encP esc_pct1 v
theorem valid_epL (v r : List UInt8) : validL 1 (epL v r) = true := by
  by_cases hk : keptPath v r
  · rw [epL_kept hk]; exact hk.2.1
  · by_cases hv : v = [42]
    · rw [epL_star hk hv]; decide +kernel
    · rw [epL_made hk hv]; exact valid_encP esc_upper1 v
theorem epL_ne {v r : List UInt8} (h : v ≠ []) : epL v r ≠ [] := by
  intro e
  have := decode_epL v r
  rw [e] at this
  exact h (Option.some.inj this).symm
theorem epL_inj {a b r s : List UInt8} (h : epL a r = epL b s) : a = b := by
  have := decode_epL a r
  rw [h, decode_epL b s] at this
  exact (Option.some.inj this).symm
theorem not_kept_nil (v : List UInt8) : ¬ keptPath v [] := fun h => h.1 rfl
theorem epL_nil : epL [] [] = [] := by
  rw [epL_made (not_kept_nil _) (by simp)]; rfl
theorem epL_again (v r : List UInt8) : epL v (epL v r) = epL v r := by
  by_cases he : epL v r = []
  · have hv : v = [] := by
      have := decode_epL v r
      rw [he] at this
      exact (Option.some.inj this).symm
    subst hv
    rw [he]; exact epL_nil
  · exact epL_kept ⟨he, valid_epL v r, decode_epL v r⟩
theorem epL_size (v r : List UInt8) : (epL v r).length ≤ 3 * v.length + r.length + 1 := by
  by_cases hk : keptPath v r
  · rw [epL_kept hk]; omega
  · by_cases hv : v = [42]
    · rw [epL_star hk hv]; simp
    · rw [epL_made hk hv]; have := encP_le 1 v; omega
theorem epL_app {a b : List UInt8} (ha : a ≠ [42]) (hb : b ≠ [42]) (hc : a ++ b ≠ [42]) : epL (a ++ b) [] = epL a [] ++ epL b [] := by
  rw [epL_made (not_kept_nil _) ha, epL_made (not_kept_nil _) hb, epL_made (not_kept_nil _) hc, encP_app]

/-- the escaped form of a path and its raw one -/
noncomputable def epB (p r : ByteArray) : ByteArray := S (epL p.data.toList r.data.toList)
theorem epB_ne {p r : ByteArray} (h : p.data.toList ≠ []) : (epB p r).toList.isEmpty = false := nonempty_of (by rw [epB, data_S]; exact epL_ne h)
theorem epB_size (p r : ByteArray) : (epB p r).size ≤ 3 * p.size + r.size + 1 := by
  rw [epB, S_size, ← size_data p, ← size_data r]; exact epL_size _ _
theorem escB_any (b : Nat) (v r : ByteArray) (w : World) (hb : b < w.heap.size) (c0 : w.cell? ⟨b, 4, none⟩ = some (.string v)) (c1 : w.cell? ⟨b, 7, none⟩ = some (.string r)) (hv : v.size ≤ 4194304) (hr : r.size < 140737488355328) (hT : Tab w) :
    Calls Tryd.prog 36 #[.pointer (some ⟨b, 0, none⟩)] w fun e w' => e = .returned (.string (epB v r)) ∧ Below w.heap.size w w' := escPath_any b v r w hb c0 c1 hv hr hT
end Go.Proofs.YtkakkcmpincggaaDoor
