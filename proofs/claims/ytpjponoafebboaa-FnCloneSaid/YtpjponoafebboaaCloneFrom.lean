/- What impl.from returns, for every url.URL in memory. -/
import Derived.Test.YtpjponoafebboaaFnUsernameW
import Derived.Deep.RegionHeld3
namespace Go.Proofs.Ytpjponoafebboaa
open Go.RowKit

def urlV (u0 u1 : ByteArray) (u2 : Bool) (u3 : ByteArray) (u4 : Bool) (u5 u6 u7 u8 u9 : ByteArray) (u10 : Bool) (u11 u12 : ByteArray) (u13 : Bool) : Value :=
  .agg #[.string u0, .string u1, .bool u2, .string u3, .bool u4, .string u5, .string u6, .string u7, .string u8, .string u9, .bool u10, .string u11, .string u12, .bool u13]

set_option maxHeartbeats 2000000 in
theorem from_off (b : Nat) (u0 u1 : ByteArray) (u6 u7 u8 u9 : ByteArray) (u10 : Bool) (u11 u12 : ByteArray) (u13 : Bool) (w : World) (hb : b < w.heap.size)
    (c0 : w.cell? ⟨b, 0, none⟩ = some (.string u0)) (c1 : w.cell? ⟨b, 1, none⟩ = some (.string u1)) (c2 : w.cell? ⟨b, 2, none⟩ = some (.pointer none)) (c3 : w.cell? ⟨b, 3, none⟩ = some (.string u6))
    (c4 : w.cell? ⟨b, 4, none⟩ = some (.string u7)) (c5 : w.cell? ⟨b, 5, none⟩ = some (.string u11)) (c6 : w.cell? ⟨b, 6, none⟩ = some (.string u9)) (c7 : w.cell? ⟨b, 7, none⟩ = some (.string u8))
    (c8 : w.cell? ⟨b, 8, none⟩ = some (.string u12)) (c9 : w.cell? ⟨b, 9, none⟩ = some (.bool u10)) (c10 : w.cell? ⟨b, 10, none⟩ = some (.bool u13)) :
    Calls Try.prog 28 #[.pointer (some ⟨b, 0, none⟩)] w
      fun e w' => e = .returned (urlV u0 u1 false ⟨#[]⟩ false ⟨#[]⟩ u6 u7 u8 u9 u10 u11 u12 u13) ∧ Below w.heap.size w w' := by
  go_enter Try.func28, Try.ntmps28
  go_wp2
  go_region_held3 (fun w' => w'.cell? ⟨b, 0, none⟩ = some (.string u0) ∧ w'.cell? ⟨b, 1, none⟩ = some (.string u1) ∧ w'.cell? ⟨b, 3, none⟩ = some (.string u6) ∧ w'.cell? ⟨b, 4, none⟩ = some (.string u7) ∧ w'.cell? ⟨b, 5, none⟩ = some (.string u11) ∧ w'.cell? ⟨b, 6, none⟩ = some (.string u9) ∧ w'.cell? ⟨b, 7, none⟩ = some (.string u8) ∧ w'.cell? ⟨b, 8, none⟩ = some (.string u12) ∧ w'.cell? ⟨b, 9, none⟩ = some (.bool u10) ∧ w'.cell? ⟨b, 10, none⟩ = some (.bool u13)) (go_keep) (first | fail)
  all_goals go_wp2
  all_goals (refine bodyPost_ret (v := urlV u0 u1 false ⟨#[]⟩ false ⟨#[]⟩ u6 u7 u8 u9 u10 u11 u12 u13) (by simp [results, Try.results28, go_sem, urlV]) rfl ⟨rfl, ?_⟩)
  all_goals exact (((Below.refl _ _).alloc (Nat.le_refl _) _).alloc (by simp) _).drew

set_option maxHeartbeats 4000000 in
theorem from_on (b ub : Nat) (u0 u1 u3 : ByteArray) (u4 : Bool) (u5 : ByteArray) (u6 u7 u8 u9 : ByteArray) (u10 : Bool) (u11 u12 : ByteArray) (u13 : Bool) (w : World) (hb : b < w.heap.size) (hub : ub < w.heap.size)
    (c0 : w.cell? ⟨b, 0, none⟩ = some (.string u0)) (c1 : w.cell? ⟨b, 1, none⟩ = some (.string u1)) (c2 : w.cell? ⟨b, 2, none⟩ = some (.pointer (some ⟨ub, 0, none⟩))) (c3 : w.cell? ⟨b, 3, none⟩ = some (.string u6))
    (c4 : w.cell? ⟨b, 4, none⟩ = some (.string u7)) (c5 : w.cell? ⟨b, 5, none⟩ = some (.string u11)) (c6 : w.cell? ⟨b, 6, none⟩ = some (.string u9)) (c7 : w.cell? ⟨b, 7, none⟩ = some (.string u8))
    (c8 : w.cell? ⟨b, 8, none⟩ = some (.string u12)) (c9 : w.cell? ⟨b, 9, none⟩ = some (.bool u10)) (c10 : w.cell? ⟨b, 10, none⟩ = some (.bool u13))
    (n0 : w.cell? ⟨ub, 0, none⟩ = some (.string u3)) (n1 : w.cell? ⟨ub, 1, none⟩ = some (.string u5)) (n2 : w.cell? ⟨ub, 2, none⟩ = some (.bool u4)) :
    Calls Try.prog 28 #[.pointer (some ⟨b, 0, none⟩)] w
      fun e w' => e = .returned (urlV u0 u1 true u3 u4 u5 u6 u7 u8 u9 u10 u11 u12 u13) ∧ Below w.heap.size w w' := by
  go_enter Try.func28, Try.ntmps28
  go_wp2
  go_region_held3 (fun w' => w'.cell? ⟨b, 0, none⟩ = some (.string u0) ∧ w'.cell? ⟨b, 1, none⟩ = some (.string u1) ∧ w'.cell? ⟨b, 3, none⟩ = some (.string u6) ∧ w'.cell? ⟨b, 4, none⟩ = some (.string u7) ∧ w'.cell? ⟨b, 5, none⟩ = some (.string u11) ∧ w'.cell? ⟨b, 6, none⟩ = some (.string u9) ∧ w'.cell? ⟨b, 7, none⟩ = some (.string u8) ∧ w'.cell? ⟨b, 8, none⟩ = some (.string u12) ∧ w'.cell? ⟨b, 9, none⟩ = some (.bool u10) ∧ w'.cell? ⟨b, 10, none⟩ = some (.bool u13)) (go_keep) (first | fail)
  rename_i hHeld
  clear hHeld
  go_wp2_with fail
  refine (username_any _ u3 _ ?_).mono ?_
  · go_simp
  rintro e w' ⟨rfl, rfl⟩
  go_wp2_with fail
  refine (password_at _ u5 u4 _ ?_ ?_).mono ?_
  · go_simp
  · go_simp
  rintro e w' ⟨rfl, n, rfl⟩
  go_wp2_with fail
  refine bodyPost_ret (v := urlV u0 u1 true u3 u4 u5 u6 u7 u8 u9 u10 u11 u12 u13) (by simp [results, Try.results28, go_sem, urlV]) rfl ⟨rfl, ?_⟩
  repeat (refine Below.setCell ?_ (by simp) _)
  exact below_drewN (((Below.refl _ _).alloc (Nat.le_refl _) _).alloc (by simp) _) _
end Go.Proofs.Ytpjponoafebboaa
