/- The plain laws of decoding step by step: what has been read of a string means a part of what the string means. No program in sight. -/
import Derived.Test.YtkakkcmpincggaaDoorEscPlain
namespace Go.Proofs.YtkakkcmpincggaaDoor.plain

/-- the first i bytes of l mean pre, n triples among them -/
def Pre (l : List UInt8) (i n : Nat) (pre : List UInt8) : Prop :=
  decode l = (decode (l.drop i)).map (pre ++ ·) ∧ pre.length + 2 * n = i ∧ (n = 0 → pre = l.take i) ∧ i ≤ l.length

theorem Pre.start (l : List UInt8) : Pre l 0 0 [] := ⟨by simp, rfl, fun _ => rfl, Nat.zero_le _⟩

theorem Pre.plain {l : List UInt8} {i n : Nat} {pre : List UInt8} (h : Pre l i n pre) (hi : i < l.length) (hc : l[i] ≠ 37) : Pre l (i + 1) n (pre ++ [l[i]]) := by
  obtain ⟨h1, h2, h3, h4⟩ := h
  refine ⟨?_, by simp; omega, fun hn => ?_, by omega⟩
  · rw [h1, List.drop_eq_getElem_cons hi, decode_other hc]
    cases decode (l.drop (i + 1)) <;> simp
  · rw [h3 hn, List.take_succ_eq_append_getElem hi]

theorem Pre.triple {l : List UInt8} {i n : Nat} {pre : List UInt8} (h : Pre l i n pre) (hi : i + 2 < l.length) (hc : l[i] = 37) (ha : isHex l[i + 1] = true) (hb : isHex l[i + 2] = true) :
    Pre l (i + 3) (n + 1) (pre ++ [pair l[i + 1] l[i + 2]]) := by
  obtain ⟨h1, h2, h3, h4⟩ := h
  refine ⟨?_, by simp; omega, fun hn => by omega, by omega⟩
  rw [h1, List.drop_eq_getElem_cons (by omega), hc, List.drop_eq_getElem_cons (i := i + 1) (by omega), List.drop_eq_getElem_cons (i := i + 1 + 1) (by omega), decode_three]
  simp only [show i + 1 + 1 = i + 2 from rfl, show i + 2 + 1 = i + 3 from rfl]
  rw [ha, hb]
  cases decode (l.drop (i + 3)) <;> simp

theorem Pre.bad {l : List UInt8} {i n : Nat} {pre : List UInt8} (h : Pre l i n pre) (hi : i < l.length) (hc : l[i] = 37)
    (hb : ∀ h2 : i + 2 < l.length, ¬ (isHex (l[i + 1]'(by omega)) = true ∧ isHex (l[i + 2]'h2) = true)) : decode l = none := by
  rw [h.1, List.drop_eq_getElem_cons hi, hc]
  by_cases h2 : i + 2 < l.length
  · rw [List.drop_eq_getElem_cons (i := i + 1) (by omega), List.drop_eq_getElem_cons (i := i + 1 + 1) (by omega), decode_three]
    have := hb h2
    rw [if_neg (by simpa using this)]
    rfl
  · by_cases h1 : i + 1 < l.length
    · rw [List.drop_eq_getElem_cons (i := i + 1) h1, List.drop_of_length_le (by omega)]; rfl
    · rw [List.drop_of_length_le (by omega)]; rfl

theorem Pre.hex {l : List UInt8} {i n : Nat} {pre p : List UInt8} (h : Pre l i n pre) (hd : decode l = some p) (hi : i < l.length) (hc : l[i] = 37) :
    ∃ h2 : i + 2 < l.length, isHex (l[i + 1]'(by omega)) = true ∧ isHex (l[i + 2]'h2) = true := by
  rcases Classical.em (∃ h2 : i + 2 < l.length, isHex (l[i + 1]'(by omega)) = true ∧ isHex (l[i + 2]'h2) = true) with h' | h'
  · exact h'
  · have := h.bad hi hc (fun h2 hh => h' ⟨h2, hh⟩)
    rw [hd] at this
    cases this

theorem Pre.end_ {l : List UInt8} {i n : Nat} {pre : List UInt8} (h : Pre l i n pre) (hi : ¬ i < l.length) : decode l = some pre := by
  rw [h.1, List.drop_of_length_le (by omega)]
  simp [decode]
theorem Pre.whole {l : List UInt8} {i n : Nat} {pre : List UInt8} (h : Pre l i n pre) (hi : ¬ i < l.length) (hn : n = 0) : pre = l := by
  rw [h.2.2.1 hn, List.take_of_length_le (by omega)]

theorem pair_nat : ∀ a b : UInt8, isHex a = true → isHex b = true → (pair a b).toNat = 16 * value a + value b := by
  intro a b ha hb
  have h1 : value a < 16 := of_decide_eq_true ha
  have h2 : value b < 16 := of_decide_eq_true hb
  rw [pair, UInt8.toNat_ofNat_of_lt' (by show _ < 256; omega)]
end Go.Proofs.YtkakkcmpincggaaDoor.plain
