/- The plain laws of a host: cut at the last colon, a port of digits, brackets struck. No program in sight. -/
namespace Go.Proofs.Ytpjponoafebboaa.plain

def isDig (c : UInt8) : Bool := decide (48 ≤ c.toNat) && decide (c.toNat ≤ 57)
def digs (l : List UInt8) : Bool := l.all isDig

/-- the two sides of the last colon -/
def cut : List UInt8 → Option (List UInt8 × List UInt8)
  | [] => none
  | c :: r => match cut r with
    | some (a, b) => some (c :: a, b)
    | none => if c = 58 then some ([], r) else none

def parts (l : List UInt8) : List UInt8 × List UInt8 := match cut l with
  | some (a, b) => if digs b then (a, b) else (l, [])
  | none => (l, [])

def strip (l : List UInt8) : List UInt8 := if [91].isPrefixOf l && [93].isSuffixOf l then (l.drop 1).take (l.length - 2) else l

def hostL (l : List UInt8) : List UInt8 := strip (parts l).1
def portL (l : List UInt8) : List UInt8 := (parts l).2

theorem cut_spec : ∀ l : List UInt8, (cut l = none ∧ 58 ∉ l) ∨ ∃ a b, cut l = some (a, b) ∧ l = a ++ 58 :: b ∧ 58 ∉ b
  | [] => .inl ⟨rfl, by simp⟩
  | c :: r => by
    rcases cut_spec r with ⟨h, hn⟩ | ⟨a, b, h, e, hb⟩
    · by_cases hc : c = 58
      · exact .inr ⟨[], r, by simp [cut, h, hc], by simp [hc], hn⟩
      · exact .inl ⟨by simp [cut, h, hc], by simp [hn]; exact fun e => hc e.symm⟩
    · exact .inr ⟨c :: a, b, by simp [cut, h], by simp [e], hb⟩

theorem cut_none {l : List UInt8} (h : 58 ∉ l) : cut l = none := by
  rcases cut_spec l with ⟨e, _⟩ | ⟨a, b, _, e, _⟩
  · exact e
  · exact absurd (by rw [e]; simp) h

theorem cut_of : ∀ (a b : List UInt8), 58 ∉ b → cut (a ++ 58 :: b) = some (a, b)
  | [], b, h => by simp [cut, cut_none h]
  | c :: a, b, h => by simp [cut, cut_of a b h]

theorem digs_no_colon {l : List UInt8} (h : digs l = true) : 58 ∉ l := by
  intro hm
  have := List.all_eq_true.1 h _ hm
  exact absurd this (by decide)

theorem parts_of (a b : List UInt8) (h : digs b = true) : parts (a ++ 58 :: b) = (a, b) := by
  simp [parts, cut_of a b (digs_no_colon h), h]
theorem parts_none {l : List UInt8} (h : 58 ∉ l) : parts l = (l, []) := by simp [parts, cut_none h]
theorem parts_bad (a b : List UInt8) (h : 58 ∉ b) (hd : digs b = false) : parts (a ++ 58 :: b) = (a ++ 58 :: b, []) := by
  simp [parts, cut_of a b h, hd]

theorem port_digs (l : List UInt8) : digs (portL l) = true := by
  unfold portL parts
  split
  · split
    · assumption
    · rfl
  · rfl
theorem port_end (l : List UInt8) : portL l = [] ∨ ∃ a, l = a ++ 58 :: portL l := by
  unfold portL parts
  rcases cut_spec l with ⟨e, _⟩ | ⟨a, b, h, e, _⟩
  · simp [e]
  · rw [h]
    by_cases hd : digs b = true
    · simp only [hd, if_true]; exact .inr ⟨a, e⟩
    · simp [hd]

/-- what the premise 'Port of x, a colon and the port is the port' says -/
theorem digs_of_port (p : List UInt8) (hp : p ≠ []) (h : portL (120 :: 58 :: p) = p) : digs p = true := by
  by_cases hd : digs p = true
  · exact hd
  · rcases cut_spec p with ⟨_, hn⟩ | ⟨a, b, _, e, hb⟩
    · have := parts_bad [120] p hn (by simpa using hd)
      simp only [List.cons_append, List.nil_append] at this
      rw [portL, this] at h
      exact absurd h.symm hp
    · have e2 : 120 :: 58 :: p = (120 :: 58 :: a) ++ 58 :: b := by rw [e]; rfl
      rw [portL, e2] at h
      have hlen : p.length = a.length + b.length + 1 := by rw [e]; simp; omega
      by_cases hdb : digs b = true
      · rw [parts_of _ _ hdb] at h
        simp only at h
        rw [← h] at hlen
        omega
      · rw [parts_bad _ _ hb (by simpa using hdb)] at h
        exact absurd h.symm hp

theorem strip_plain {l : List UInt8} (h : 91 ∉ l) : strip l = l := by
  unfold strip
  cases l with
  | nil => simp
  | cons c r => simp at h; simp [h.1]
theorem strip_brackets (l : List UInt8) : strip (91 :: l ++ [93]) = l := by
  unfold strip
  have h1 : [91].isPrefixOf (91 :: l ++ [93]) = true := by simp
  have h2 : [93].isSuffixOf (91 :: l ++ [93]) = true := by
    rw [List.isSuffixOf_iff_suffix]; exact ⟨91 :: l, by simp⟩
  rw [h1, h2]
  simp

theorem six_bad (n : List UInt8) : parts (91 :: 58 :: 58 :: (n ++ [93])) = (91 :: 58 :: 58 :: (n ++ [93]), []) := by
  rcases cut_spec n with ⟨_, hn⟩ | ⟨a, b, _, e, hb⟩
  · have := parts_bad [91, 58] (n ++ [93]) (by simp [hn]) (by simp [digs, isDig])
    simpa using this
  · have := parts_bad (91 :: 58 :: 58 :: a) (b ++ [93]) (by simp [hb]) (by simp [digs, isDig])
    rw [e]
    simpa using this

/-- the place of the last colon, if there are digits alone behind it; else -1 -/
def colonI (l : List UInt8) : Int := match cut l with
  | some (a, b) => if digs b then (a.length : Int) else -1
  | none => -1
theorem colonI_none {l : List UInt8} (h : 58 ∉ l) : colonI l = -1 := by simp [colonI, cut_none h]
theorem colonI_good (a b : List UInt8) (h : digs b = true) : colonI (a ++ 58 :: b) = a.length := by simp [colonI, cut_of a b (digs_no_colon h), h]
theorem colonI_bad (a b : List UInt8) (h : 58 ∉ b) (hd : digs b = false) : colonI (a ++ 58 :: b) = -1 := by simp [colonI, cut_of a b h, hd]
end Go.Proofs.Ytpjponoafebboaa.plain
