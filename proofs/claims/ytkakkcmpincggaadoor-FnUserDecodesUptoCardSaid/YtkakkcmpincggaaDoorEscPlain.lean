/- The plain laws of escaping: what a string means, how bytes are written, which strings are triples and bytes of a kind alone. No program in sight. -/
namespace Go.Proofs.YtkakkcmpincggaaDoor.plain

/-- the value of a hexadecimal digit; 16: it is none -/
def value (c : UInt8) : Nat :=
  if 48 ≤ c.toNat ∧ c.toNat ≤ 57 then c.toNat - 48
  else if 65 ≤ c.toNat ∧ c.toNat ≤ 70 then c.toNat - 65 + 10
  else if 97 ≤ c.toNat ∧ c.toNat ≤ 102 then c.toNat - 97 + 10
  else 16
def isHex (c : UInt8) : Bool := decide (value c < 16)
def pair (a b : UInt8) : UInt8 := UInt8.ofNat (16 * value a + value b)

/-- the bytes that a string means -/
def decode : List UInt8 → Option (List UInt8)
  | [] => some []
  | c :: r => if c = 37 then
      match r with
      | a :: b :: r' => if isHex a && isHex b then (decode r').map (pair a b :: ·) else none
      | _ => none
    else (decode r).map (c :: ·)

def upper (n : Nat) : UInt8 := if n < 10 then UInt8.ofNat (48 + n) else UInt8.ofNat (55 + n)
def enc1 (stay : UInt8 → Bool) (c : UInt8) : List UInt8 := if stay c then [c] else [37, upper (c.toNat / 16), upper (c.toNat % 16)]
def encode (stay : UInt8 → Bool) (l : List UInt8) : List UInt8 := l.flatMap (enc1 stay)

/-- triples and bytes of a kind alone -/
def isOf (ok : UInt8 → Bool) : List UInt8 → Bool
  | [] => true
  | c :: r => if c = 37 then
      match r with
      | a :: b :: r' => if isHex a && isHex b then isOf ok r' else false
      | _ => false
    else ok c && isOf ok r

theorem decode_other {c : UInt8} (h : c ≠ 37) (r : List UInt8) : decode (c :: r) = (decode r).map (c :: ·) := by
  rw [decode.eq_def]; simp [h]
theorem decode_three (a b : UInt8) (r : List UInt8) : decode (37 :: a :: b :: r) = if isHex a && isHex b then (decode r).map (pair a b :: ·) else none := by
  rw [decode.eq_def]; simp
theorem isOf_other (ok : UInt8 → Bool) {c : UInt8} (h : c ≠ 37) (r : List UInt8) : isOf ok (c :: r) = (ok c && isOf ok r) := by
  rw [isOf.eq_def]; simp [h]
theorem isOf_three (ok : UInt8 → Bool) (a b : UInt8) (r : List UInt8) : isOf ok (37 :: a :: b :: r) = if isHex a && isHex b then isOf ok r else false := by
  rw [isOf.eq_def]; simp
theorem decode_one : decode [37] = none := rfl
theorem decode_two (a : UInt8) : decode [37, a] = none := rfl

theorem forall_u8 {p : UInt8 → Prop} (h : ∀ n : Fin 256, p (UInt8.ofNat n.val)) (c : UInt8) : p c := by
  have := h ⟨c.toNat, c.toNat_lt⟩
  simpa using this

theorem hex_upper : ∀ c : UInt8, isHex (upper (c.toNat / 16)) = true ∧ isHex (upper (c.toNat % 16)) = true ∧ pair (upper (c.toNat / 16)) (upper (c.toNat % 16)) = c :=
  forall_u8 (by decide +kernel)

theorem encode_nil (stay : UInt8 → Bool) : encode stay [] = [] := rfl
theorem encode_cons (stay : UInt8 → Bool) (c : UInt8) (l : List UInt8) : encode stay (c :: l) = enc1 stay c ++ encode stay l := by simp [encode]
theorem encode_append (stay : UInt8 → Bool) (a b : List UInt8) : encode stay (a ++ b) = encode stay a ++ encode stay b := by simp [encode]

theorem decode_encode {stay : UInt8 → Bool} (h : stay 37 = false) : ∀ l, decode (encode stay l) = some l
  | [] => rfl
  | c :: l => by
    rw [encode_cons, enc1]
    have ih := decode_encode h l
    by_cases hc : stay c = true
    · have hne : c ≠ 37 := by rintro rfl; rw [h] at hc; cases hc
      rw [if_pos hc, List.cons_append, List.nil_append, decode_other hne, ih]; rfl
    · obtain ⟨h1, h2, h3⟩ := hex_upper c
      rw [if_neg hc]
      simp only [List.cons_append, List.nil_append]
      rw [decode_three]
      simp [h1, h2, h3, ih]

theorem isOf_encode {stay ok : UInt8 → Bool} (h : stay 37 = false) (hs : ∀ c, stay c = true → ok c = true) : ∀ l, isOf ok (encode stay l) = true
  | [] => rfl
  | c :: l => by
    rw [encode_cons, enc1]
    have ih := isOf_encode h hs l
    by_cases hc : stay c = true
    · have hne : c ≠ 37 := by rintro rfl; rw [h] at hc; cases hc
      rw [if_pos hc, List.cons_append, List.nil_append, isOf_other ok hne, hs c hc, ih]; rfl
    · obtain ⟨h1, h2, h3⟩ := hex_upper c
      rw [if_neg hc]
      simp only [List.cons_append, List.nil_append]
      rw [isOf_three]
      simp [h1, h2, ih]

theorem encode_inj {stay : UInt8 → Bool} (h : stay 37 = false) {a b : List UInt8} (e : encode stay a = encode stay b) : a = b := by
  have := decode_encode h a
  rw [e, decode_encode h b] at this
  exact (Option.some.inj this).symm

/-- a string that decodes: its first byte is none, a plain one, or that of a triple -/
theorem decode_cases {l p : List UInt8} (h : decode l = some p) :
    (l = [] ∧ p = []) ∨ (∃ c r q, c ≠ 37 ∧ l = c :: r ∧ decode r = some q ∧ p = c :: q) ∨
    (∃ a b r q, isHex a = true ∧ isHex b = true ∧ l = 37 :: a :: b :: r ∧ decode r = some q ∧ p = pair a b :: q) := by
  match l, h with
  | [], h => left; cases h; exact ⟨rfl, rfl⟩
  | c :: r, h =>
    right
    by_cases hc : c = 37
    · subst hc
      right
      match r, h with
      | a :: b :: r', h =>
        rw [decode_three] at h
        by_cases hh : (isHex a && isHex b) = true
        · rw [if_pos hh] at h
          obtain ⟨q, hq, rfl⟩ := Option.map_eq_some_iff.1 h
          rw [Bool.and_eq_true] at hh
          exact ⟨a, b, r', q, hh.1, hh.2, rfl, hq, rfl⟩
        · rw [if_neg hh] at h; cases h
    · left
      rw [decode_other hc] at h
      obtain ⟨q, hq, rfl⟩ := Option.map_eq_some_iff.1 h
      exact ⟨c, r, q, hc, rfl, hq, rfl⟩

/-- where a string decodes, 'triples and bytes of a kind' is 'bytes of that kind or %', if hexadecimal digits are of the kind -/
theorem isOf_all {ok : UInt8 → Bool} (hx : ∀ c, isHex c = true → ok c = true) : ∀ (n : Nat) (l p : List UInt8), l.length ≤ n → decode l = some p → isOf ok l = l.all fun c => c == 37 || ok c
  | n, l, p, hn, h => by
    rcases decode_cases h with ⟨rfl, _⟩ | ⟨c, r, q, hc, rfl, hq, _⟩ | ⟨a, b, r, q, ha, hb, rfl, hq, _⟩
    · rfl
    · match n, hn with
      | n + 1, hn =>
        have ih := isOf_all hx n r q (by simpa using hn) hq
        have : (c == 37) = false := by simpa using hc
        rw [isOf_other ok hc, List.all_cons, ih, this]; rfl
    · match n, hn with
      | n + 1, hn =>
        have ih := isOf_all hx n r q (by simp at hn; omega) hq
        rw [isOf_three, ih]
        simp [hx a ha, hx b hb, ha, hb]

theorem decode_snoc_pct : ∀ (n : Nat) (l : List UInt8), l.length ≤ n → decode (l ++ [37]) = none
  | n, l, hn => by
    cases h : decode (l ++ [37]) with
    | none => rfl
    | some p =>
      rcases decode_cases h with ⟨e, _⟩ | ⟨c, r, q, hc, e, hq, _⟩ | ⟨a, b, r, q, ha, hb, e, hq, _⟩
      · simp at e
      · match n, l, hn, e with
        | _, [], _, e => simp at e; exact absurd e.1.symm hc
        | n + 1, x :: l, hn, e =>
          simp at e
          obtain ⟨_, rfl⟩ := e
          rw [decode_snoc_pct n l (by simpa using hn)] at hq
          cases hq
      · match n, l, hn, e with
        | _, [], _, e => simp at e
        | _, [x], _, e => simp at e
        | _, [x, y], _, e =>
          simp at e
          obtain ⟨_, _, rfl, rfl⟩ := e
          exact absurd hb (by decide)
        | n + 1, x :: y :: z :: l, hn, e =>
          simp at e
          obtain ⟨_, _, _, rfl⟩ := e
          rw [decode_snoc_pct n l (by simp at hn; omega)] at hq
          cases hq

theorem decode_snoc {x : UInt8} (hx : x ≠ 37) : ∀ (n : Nat) (l p : List UInt8), l.length ≤ n → decode l = some p → decode (l ++ [x]) = some (p ++ [x])
  | n, l, p, hn, h => by
    rcases decode_cases h with ⟨rfl, rfl⟩ | ⟨c, r, q, hc, rfl, hq, rfl⟩ | ⟨a, b, r, q, ha, hb, rfl, hq, rfl⟩
    · rw [List.nil_append, decode_other hx]; rfl
    · match n, hn with
      | n + 1, hn =>
        rw [List.cons_append, decode_other hc, decode_snoc hx n r q (by simpa using hn) hq]; rfl
    · match n, hn with
      | n + 1, hn =>
        simp only [List.cons_append]
        rw [decode_three, decode_snoc hx n r q (by simp at hn; omega) hq]
        simp [ha, hb]
end Go.Proofs.YtkakkcmpincggaaDoor.plain
