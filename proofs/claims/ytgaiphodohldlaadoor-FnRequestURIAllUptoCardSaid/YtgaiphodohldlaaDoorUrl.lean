/- A parameter of type impl.URL (14 fields of one cell each, strings and bools) opened. -/
import Derived.Test.YtgaiphodohldlaaDoorFrame
import Derived.Lib.SmallJoins
namespace Go.Proofs.YtgaiphodohldlaaDoor
open Go.Joins Go.ChangeShapes Go.WideShapes Go.RowKit Go.Deep
section
variable {H : Type} {enc : TypeId × Value → H} {P : Program} {w : World} {base : Nat} {spare : Nat → Bool} {held : Bool}
theorem open_agg14 {r : Reach} {b0 : Nat} {t : TypeId} {f0 f1 f2 f3 f4 f5 f6 f7 f8 f9 f10 f11 f12 f13 : Field} {v : Value} {d : DataW H} {p : List MemPlace} (hs : P.underlying t = some (.struct #[f0, f1, f2, f3, f4, f5, f6, f7, f8, f9, f10, f11, f12, f13])) (hone : oneCellFields P #[f0, f1, f2, f3, f4, f5, f6, f7, f8, f9, f10, f11, f12, f13] = true) (hC : P.cellsOf t = 14)
    (hv : Value.okWide P w r b0 t v) (h : DataW.Trod enc P w base spare held t v d p) :
    ∃ (v0 v1 v2 v3 v4 v5 v6 v7 v8 v9 v10 v11 v12 v13 : Value) (y0 y1 y2 y3 y4 y5 y6 y7 y8 y9 y10 y11 y12 y13 : DataW H × List MemPlace) (n : Nat), v = .agg #[v0, v1, v2, v3, v4, v5, v6, v7, v8, v9, v10, v11, v12, v13] ∧ d = .agg [y0.1, y1.1, y2.1, y3.1, y4.1, y5.1, y6.1, y7.1, y8.1, y9.1, y10.1, y11.1, y12.1, y13.1] ∧ p = y0.2 ++ (y1.2 ++ (y2.2 ++ (y3.2 ++ (y4.2 ++ (y5.2 ++ (y6.2 ++ (y7.2 ++ (y8.2 ++ (y9.2 ++ (y10.2 ++ (y11.2 ++ (y12.2 ++ (y13.2))))))))))))) ∧
      DataW.trod enc P w base spare held n f0.type [v0] = some y0 ∧ DataW.trod enc P w base spare held n f1.type [v1] = some y1 ∧ DataW.trod enc P w base spare held n f2.type [v2] = some y2 ∧ DataW.trod enc P w base spare held n f3.type [v3] = some y3 ∧ DataW.trod enc P w base spare held n f4.type [v4] = some y4 ∧ DataW.trod enc P w base spare held n f5.type [v5] = some y5 ∧ DataW.trod enc P w base spare held n f6.type [v6] = some y6 ∧ DataW.trod enc P w base spare held n f7.type [v7] = some y7 ∧ DataW.trod enc P w base spare held n f8.type [v8] = some y8 ∧ DataW.trod enc P w base spare held n f9.type [v9] = some y9 ∧ DataW.trod enc P w base spare held n f10.type [v10] = some y10 ∧ DataW.trod enc P w base spare held n f11.type [v11] = some y11 ∧ DataW.trod enc P w base spare held n f12.type [v12] = some y12 ∧ DataW.trod enc P w base spare held n f13.type [v13] = some y13 := by
  obtain ⟨cs, rfl, hsz⟩ := okWide_struct hs hv
  obtain ⟨l⟩ := cs
  match l, hsz.trans hC with
  | [c0, c1, c2, c3, c4, c5, c6, c7, c8, c9, c10, c11, c12, c13], _ =>
    obtain ⟨fuel, hf⟩ := h
    obtain ⟨xs, n, _, hx, _, hlen, hg⟩ := DataW.trod_struct hs hf
    obtain ⟨o0, k0⟩ := hone_of hone 0 f0 rfl
    obtain ⟨o1, k1⟩ := hone_of hone 1 f1 rfl
    obtain ⟨o2, k2⟩ := hone_of hone 2 f2 rfl
    obtain ⟨o3, k3⟩ := hone_of hone 3 f3 rfl
    obtain ⟨o4, k4⟩ := hone_of hone 4 f4 rfl
    obtain ⟨o5, k5⟩ := hone_of hone 5 f5 rfl
    obtain ⟨o6, k6⟩ := hone_of hone 6 f6 rfl
    obtain ⟨o7, k7⟩ := hone_of hone 7 f7 rfl
    obtain ⟨o8, k8⟩ := hone_of hone 8 f8 rfl
    obtain ⟨o9, k9⟩ := hone_of hone 9 f9 rfl
    obtain ⟨o10, k10⟩ := hone_of hone 10 f10 rfl
    obtain ⟨o11, k11⟩ := hone_of hone 11 f11 rfl
    obtain ⟨o12, k12⟩ := hone_of hone 12 f12 rfl
    obtain ⟨o13, k13⟩ := hone_of hone 13 f13 rfl
    match xs, hlen with
    | [y0, y1, y2, y3, y4, y5, y6, y7, y8, y9, y10, y11, y12, y13], _ =>
      simp only [Prod.mk.injEq] at hx
      exact ⟨c0, c1, c2, c3, c4, c5, c6, c7, c8, c9, c10, c11, c12, c13, y0, y1, y2, y3, y4, y5, y6, y7, y8, y9, y10, y11, y12, y13, n, rfl, by simpa using hx.1, by simpa using hx.2, by simpa [Value.cells, o0, k0] using hg 0 f0 rfl, by simpa [Value.cells, o1, k1] using hg 1 f1 rfl, by simpa [Value.cells, o2, k2] using hg 2 f2 rfl, by simpa [Value.cells, o3, k3] using hg 3 f3 rfl, by simpa [Value.cells, o4, k4] using hg 4 f4 rfl, by simpa [Value.cells, o5, k5] using hg 5 f5 rfl, by simpa [Value.cells, o6, k6] using hg 6 f6 rfl, by simpa [Value.cells, o7, k7] using hg 7 f7 rfl, by simpa [Value.cells, o8, k8] using hg 8 f8 rfl, by simpa [Value.cells, o9, k9] using hg 9 f9 rfl, by simpa [Value.cells, o10, k10] using hg 10 f10 rfl, by simpa [Value.cells, o11, k11] using hg 11 f11 rfl, by simpa [Value.cells, o12, k12] using hg 12 f12 rfl, by simpa [Value.cells, o13, k13] using hg 13 f13 rfl⟩
end

theorem cellsU : Tryd.prog.cellsOf 28 = 14 := by kernel_rfl
theorem open_url {H : Type} {enc : TypeId × Value → H} {w : World} {base b0 : Nat} {spare : Nat → Bool} {held : Bool} {r : Reach} {v : Value} {d : DataW H} {p : List MemPlace}
    (hv : Value.okWide Tryd.prog w r b0 28 v) (h : DataW.Trod enc Tryd.prog w base spare held 28 v d p) :
    ∃ (u0 : ByteArray) (u1 : ByteArray) (u2 : Bool) (u3 : ByteArray) (u4 : Bool) (u5 : ByteArray) (u6 : ByteArray) (u7 : ByteArray) (u8 : ByteArray) (u9 : ByteArray) (u10 : Bool) (u11 : ByteArray) (u12 : ByteArray) (u13 : Bool), v = .agg #[.string u0, .string u1, .bool u2, .string u3, .bool u4, .string u5, .string u6, .string u7, .string u8, .string u9, .bool u10, .string u11, .string u12, .bool u13] ∧ d = .agg [.lit (.string u0.data.toList), .lit (.string u1.data.toList), .lit (.bool u2), .lit (.string u3.data.toList), .lit (.bool u4), .lit (.string u5.data.toList), .lit (.string u6.data.toList), .lit (.string u7.data.toList), .lit (.string u8.data.toList), .lit (.string u9.data.toList), .lit (.bool u10), .lit (.string u11.data.toList), .lit (.string u12.data.toList), .lit (.bool u13)] ∧ p = [] := by
  obtain ⟨v0, v1, v2, v3, v4, v5, v6, v7, v8, v9, v10, v11, v12, v13, y0, y1, y2, y3, y4, y5, y6, y7, y8, y9, y10, y11, y12, y13, n, rfl, rfl, rfl, h0, h1, h2, h3, h4, h5, h6, h7, h8, h9, h10, h11, h12, h13⟩ := open_agg14 Tryd.underlying28 (by kernel_rfl) cellsU hv h
  obtain ⟨u0, e0, rfl, _⟩ := DataW.trod_string Tryd.underlying9 h0
  obtain ⟨u1, e1, rfl, _⟩ := DataW.trod_string Tryd.underlying9 h1
  obtain ⟨u2, e2, rfl⟩ := DataW.trod_bool Tryd.underlying4 h2
  obtain ⟨u3, e3, rfl, _⟩ := DataW.trod_string Tryd.underlying9 h3
  obtain ⟨u4, e4, rfl⟩ := DataW.trod_bool Tryd.underlying4 h4
  obtain ⟨u5, e5, rfl, _⟩ := DataW.trod_string Tryd.underlying9 h5
  obtain ⟨u6, e6, rfl, _⟩ := DataW.trod_string Tryd.underlying9 h6
  obtain ⟨u7, e7, rfl, _⟩ := DataW.trod_string Tryd.underlying9 h7
  obtain ⟨u8, e8, rfl, _⟩ := DataW.trod_string Tryd.underlying9 h8
  obtain ⟨u9, e9, rfl, _⟩ := DataW.trod_string Tryd.underlying9 h9
  obtain ⟨u10, e10, rfl⟩ := DataW.trod_bool Tryd.underlying4 h10
  obtain ⟨u11, e11, rfl, _⟩ := DataW.trod_string Tryd.underlying9 h11
  obtain ⟨u12, e12, rfl, _⟩ := DataW.trod_string Tryd.underlying9 h12
  obtain ⟨u13, e13, rfl⟩ := DataW.trod_bool Tryd.underlying4 h13
  simp only [List.cons.injEq, and_true] at e0 e1 e2 e3 e4 e5 e6 e7 e8 e9 e10 e11 e12 e13
  subst e0 e1 e2 e3 e4 e5 e6 e7 e8 e9 e10 e11 e12 e13
  exact ⟨u0, u1, u2, u3, u4, u5, u6, u7, u8, u9, u10, u11, u12, u13, rfl, rfl, rfl⟩

/-- a string field of a struct argument within the form's reach -/
theorem sized_field {H : Type} {ts : List TypeId} {ds ps : List (DataW H)} (h : (DataW.weightsEach Tryd.prog ts ds).all (· ≤ reachBytes) = true) {j : Nat} (ht : ts[j]? = some 28) (hd : ds[j]? = some (.agg ps)) (i : Nat) {tt : TypeId} (hf : [9, 9, 4, 9, 4, 9, 9, 9, 9, 9, 4, 9, 9, 4][i]? = some tt) {bytes : List UInt8} (hi : ps[i]? = some (.lit (.string bytes))) : bytes.length ≤ reachBytes := by
  have h1 : bytes.length ∈ DataW.weightsEach Tryd.prog [9, 9, 4, 9, 4, 9, 9, 9, 9, 9, 4, 9, 9, 4] ps := DataW.weights_mem_each hf hi _ (by simp [DataW.weights])
  have h2 : bytes.length ∈ (DataW.agg ps).weights Tryd.prog 28 := by
    rw [DataW.weights, Tryd.underlying28]
    exact h1
  have := List.all_eq_true.1 h _ (DataW.weights_mem_each ht hd _ h2)
  simpa using this
end Go.Proofs.YtgaiphodohldlaaDoor
