/- What impl.UserString returns, where memory holds the table, and its plain laws. -/
import Derived.Test.YtkakkcmpincggaaDoorInfo
import Derived.Test.YtkakkcmpincggaaDoorEscLaw
namespace Go.Proofs.YtkakkcmpincggaaDoor
open Go.RowKit

def usB (n p : ByteArray) : Bool → ByteArray
  | true => S (encP 16 n.data.toList) ++ (⟨#[58]⟩ ++ S (encP 16 p.data.toList))
  | false => S (encP 16 n.data.toList)

theorem encS_size (l : List UInt8) (h : l.length ≤ 4194304) : (S (encP 16 l)).size ≤ 12582912 := by
  rw [S_size]; have := encP_le 16 l; omega

set_option maxHeartbeats 1000000 in
theorem userString_at (b : Nat) (n p : ByteArray) (has : Bool) (w : World) (hb : b < w.heap.size) (hn : n.size ≤ 4194304) (hp : p.size ≤ 4194304) (hT : Tab w)
    (c0 : w.cell? ⟨b, 0, none⟩ = some (.string n)) (c1 : w.cell? ⟨b, 1, none⟩ = some (.string (pwOf p has))) (c2 : w.cell? ⟨b, 2, none⟩ = some (.bool has)) :
    Calls Tryd.prog 28 #[.pointer (some ⟨b, 0, none⟩)] w fun e w' => e = .returned (.string (usB n p has)) ∧ Below w.heap.size w w' := by
  have HT := Lib.hid hT
  clear hT
  have z1 := encS_size n.data.toList (by rw [size_data]; exact hn)
  have z2 := encS_size p.data.toList (by rw [size_data]; exact hp)
  have CN : Hid (∀ wx, Tab wx → Calls Tryd.prog 32 #[.string n, .int .u8 16] wx fun e w' => e = .returned (.string (S (encP 16 n.data.toList))) ∧ Below wx.heap.size wx w') := fun wx h => escape_any n 16 wx hn (by decide) h
  have CP : Hid (∀ wx, Tab wx → Calls Tryd.prog 32 #[.string p, .int .u8 16] wx fun e w' => e = .returned (.string (S (encP 16 p.data.toList))) ∧ Below wx.heap.size wx w') := fun wx h => escape_any p 16 wx hp (by decide) h
  cases has
  · simp only [pwOf] at c1
    go_enter Tryd.func28, Tryd.ntmps28
    go_wp2_with fail
    refine (CN.out _ HT.out).mono ?_
    rintro e w1 ⟨rfl, hb1⟩
    have d2 := (hb1.cell (p := ⟨b, 2, none⟩) hb).trans c2
    go_wp2_with fail
    go_ret
    exact ⟨rfl, hb1⟩
  · simp only [pwOf] at c1
    go_enter Tryd.func28, Tryd.ntmps28
    go_wp2_with fail
    refine (CN.out _ HT.out).mono ?_
    rintro e w1 ⟨rfl, hb1⟩
    have d2 := (hb1.cell (p := ⟨b, 2, none⟩) hb).trans c2
    have d1 := (hb1.cell (p := ⟨b, 1, none⟩) hb).trans c1
    have HT1 := Lib.hid (HT.out.below hb1)
    go_wp2_with fail
    refine (CP.out _ HT1.out).mono ?_
    rintro e w2 ⟨rfl, hb2⟩
    go_wp2_with fail
    go_ret
    exact ⟨rfl, hb1.trans (hb2.mono hb1.size)⟩

theorem implUS_any (n p : ByteArray) (has : Bool) (w : World) (hn : n.size ≤ 4194304) (hp : p.size ≤ 4194304) (hT : Tab w) :
    Calls Tryd.prog 17 #[.string n, .string p, .bool has] w fun e w' => e = .returned (.string (usB n p has)) ∧ Below w.heap.size w w' := by
  have HT := Lib.hid hT
  clear hT
  go_enter Tryd.func17, Tryd.ntmps17
  go_wp2_with fail
  refine (info_any _ _ _ _).mono ?_
  rintro e w' ⟨rfl, rfl⟩
  go_wp2_with fail
  refine (userString_at _ n p has _ ?_ hn hp ?_ ?_ ?_ ?_).mono ?_
  · simp
  · exact HT.out.below ((Below.refl _ _).alloc (Nat.le_refl _) _)
  · cases has <;> simp [infoObj]
  · cases has <;> simp [infoObj, pwOf]
  · cases has <;> simp [infoObj]
  rintro e w1 ⟨rfl, hb⟩
  go_wp2_with fail
  go_ret
  exact ⟨rfl, ((Below.refl _ _).alloc (Nat.le_refl _) _).trans (hb.mono (by simp))⟩

/-! ### plain laws -/
theorem esc_upper16 : ∀ c : UInt8, esc 16 (plain.upper (c.toNat / 16)) = false ∧ esc 16 (plain.upper (c.toNat % 16)) = false := plain.forall_u8 (by decide +kernel)
theorem user_byte : ∀ c : UInt8, esc 16 c = false → c ≠ 58 ∧ [47, 63, 35, 91, 93, 64].contains c = false := plain.forall_u8 (by decide +kernel)

/-- the bytes of an escaped name are such that stay, or %: -/
theorem user_mem : ∀ (l : List UInt8) (c : UInt8), c ∈ encP 16 l → esc 16 c = false ∨ c = 37
  | [], c, h => by simp [encP_nil] at h
  | x :: l, c, h => by
    rw [encP_cons, List.mem_append] at h
    rcases h with h | h
    · rw [plain.enc1] at h
      cases hx : esc 16 x
      · simp [hx] at h; subst h; exact .inl hx
      · obtain ⟨h1, h2⟩ := esc_upper16 x
        simp [hx] at h
        rcases h with rfl | rfl | rfl
        · exact .inr rfl
        · exact .inl h1
        · exact .inl h2
    · exact user_mem l c h
theorem user_no_colon (l : List UInt8) : 58 ∉ encP 16 l := fun h => by
  rcases user_mem l 58 h with h | h
  · exact (user_byte 58 h).1 rfl
  · exact absurd h (by decide)
theorem split_unique : ∀ {x x' y y' : List UInt8}, 58 ∉ x → 58 ∉ x' → x ++ 58 :: y = x' ++ 58 :: y' → x = x' ∧ y = y'
  | [], [], _, _, _, _, e => ⟨rfl, by simpa using e⟩
  | [], c :: r, _, _, _, h', e => by simp at e; exact absurd e.1 (fun h => h' (by rw [h]; simp))
  | c :: r, [], _, _, h, _, e => by simp at e; exact absurd e.1 (fun h2 => h (by rw [← h2]; simp))
  | c :: r, c' :: r', y, y', h, h', e => by
    simp at e h h'
    obtain ⟨e1, e2⟩ := e
    obtain ⟨i1, i2⟩ := split_unique h.2 h'.2 e2
    exact ⟨by rw [e1, i1], i2⟩
theorem encP16_inj {a b : List UInt8} (h : encP 16 a = encP 16 b) : a = b := by
  have := decode_encP esc_pct16 a
  rw [h, decode_encP esc_pct16 b] at this
  exact (Option.some.inj this).symm
theorem usB_data (n p : ByteArray) : (usB n p true).data.toList = encP 16 n.data.toList ++ 58 :: encP 16 p.data.toList := by
  rw [usB, data_app, data_app, data_S, data_S]; rfl
theorem usB_data' (n p : ByteArray) : (usB n p false).data.toList = encP 16 n.data.toList := by rw [usB, data_S]
theorem usB_inj_true {a p b q : ByteArray} (h : usB a p true = usB b q true) : a = b ∧ p = q := by
  have e := congrArg (fun s : ByteArray => s.data.toList) h
  simp only [usB_data] at e
  obtain ⟨h1, h2⟩ := split_unique (user_no_colon _) (user_no_colon _) e
  exact ⟨S_ext (encP16_inj h1), S_ext (encP16_inj h2)⟩
theorem usB_inj_false {a p b q : ByteArray} (h : usB a p false = usB b q false) : a = b := by
  have e := congrArg (fun s : ByteArray => s.data.toList) h
  simp only [usB_data'] at e
  exact S_ext (encP16_inj e)
theorem usB_false (a p q : ByteArray) : usB a p false = usB a q false := rfl
theorem usB_ne (c : UInt8) (n p : ByteArray) (has : Bool) : (usB (⟨#[c]⟩ ++ n) p has).toList.isEmpty = false := by
  refine nonempty_of ?_
  have hn : encP 16 (⟨#[c]⟩ ++ n : ByteArray).data.toList ≠ [] := encP_ne (by rw [data_app]; simp)
  cases has
  · rw [usB_data']; exact hn
  · rw [usB_data]; simp
theorem usB_size (n p : ByteArray) (has : Bool) (hn : n.size ≤ 4194304) (hp : p.size ≤ 4194304) : (usB n p has).size ≤ 25165825 := by
  have h1 := encP_le 16 n.data.toList
  have h2 := encP_le 16 p.data.toList
  rw [size_data] at h1 h2
  cases has
  · rw [← size_data, usB_data']; omega
  · rw [← size_data, usB_data, List.length_append, List.length_cons]; omega
theorem one_more (c : UInt8) (a : ByteArray) : (⟨#[c]⟩ ++ a : ByteArray).size = a.size + 1 := by rw [ByteArray.size_append]; show 1 + _ = _; omega
end Go.Proofs.YtkakkcmpincggaaDoor
