/- What tidy returns, for every URL that the form reaches. -/
import Derived.Test.YtpjponoafebboaaCloneImpl
namespace Go.Proofs.Ytpjponoafebboaa
open Go.RowKit

set_option maxHeartbeats 800000 in
theorem tidy_ff (u0 u1 u3 u5 : ByteArray) (u6 u7 u8 u9 : ByteArray) (u10 : Bool) (u11 u12 : ByteArray) (u13 : Bool) (w : World) :
    Calls Try.prog 16 #[.agg #[.string u0, .string u1, .bool false, .string u3, .bool false, .string u5, .string u6, .string u7, .string u8, .string u9, .bool u10, .string u11, .string u12, .bool u13]] w fun e w' => e = .returned (urlV u0 u1 false ⟨#[]⟩ false ⟨#[]⟩ u6 u7 u8 u9 u10 u11 u12 u13) ∧ Below w.heap.size w w' := by
  go_enter Try.func16, Try.ntmps16
  go_wp2
  refine bodyPost_ret (v := urlV u0 u1 false ⟨#[]⟩ false ⟨#[]⟩ u6 u7 u8 u9 u10 u11 u12 u13) (by simp [results, Try.results16, go_sem, urlV]) rfl ⟨rfl, ?_⟩
  exact ((Below.refl _ _).alloc (Nat.le_refl _) _).alloc (by simp) _

set_option maxHeartbeats 800000 in
theorem tidy_ft (u0 u1 u3 u5 : ByteArray) (u6 u7 u8 u9 : ByteArray) (u10 : Bool) (u11 u12 : ByteArray) (u13 : Bool) (w : World) :
    Calls Try.prog 16 #[.agg #[.string u0, .string u1, .bool false, .string u3, .bool true, .string u5, .string u6, .string u7, .string u8, .string u9, .bool u10, .string u11, .string u12, .bool u13]] w fun e w' => e = .returned (urlV u0 u1 false ⟨#[]⟩ false ⟨#[]⟩ u6 u7 u8 u9 u10 u11 u12 u13) ∧ Below w.heap.size w w' := by
  go_enter Try.func16, Try.ntmps16
  go_wp2
  refine bodyPost_ret (v := urlV u0 u1 false ⟨#[]⟩ false ⟨#[]⟩ u6 u7 u8 u9 u10 u11 u12 u13) (by simp [results, Try.results16, go_sem, urlV]) rfl ⟨rfl, ?_⟩
  exact ((Below.refl _ _).alloc (Nat.le_refl _) _).alloc (by simp) _

set_option maxHeartbeats 800000 in
theorem tidy_tf (u0 u1 u3 u5 : ByteArray) (u6 u7 u8 u9 : ByteArray) (u10 : Bool) (u11 u12 : ByteArray) (u13 : Bool) (w : World) :
    Calls Try.prog 16 #[.agg #[.string u0, .string u1, .bool true, .string u3, .bool false, .string u5, .string u6, .string u7, .string u8, .string u9, .bool u10, .string u11, .string u12, .bool u13]] w fun e w' => e = .returned (urlV u0 u1 true u3 false ⟨#[]⟩ u6 u7 u8 u9 u10 u11 u12 u13) ∧ Below w.heap.size w w' := by
  go_enter Try.func16, Try.ntmps16
  go_wp2
  refine bodyPost_ret (v := urlV u0 u1 true u3 false ⟨#[]⟩ u6 u7 u8 u9 u10 u11 u12 u13) (by simp [results, Try.results16, go_sem, urlV]) rfl ⟨rfl, ?_⟩
  exact ((Below.refl _ _).alloc (Nat.le_refl _) _).alloc (by simp) _

set_option maxHeartbeats 800000 in
theorem tidy_tt (u0 u1 u3 u5 : ByteArray) (u6 u7 u8 u9 : ByteArray) (u10 : Bool) (u11 u12 : ByteArray) (u13 : Bool) (w : World) :
    Calls Try.prog 16 #[.agg #[.string u0, .string u1, .bool true, .string u3, .bool true, .string u5, .string u6, .string u7, .string u8, .string u9, .bool u10, .string u11, .string u12, .bool u13]] w fun e w' => e = .returned (urlV u0 u1 true u3 true u5 u6 u7 u8 u9 u10 u11 u12 u13) ∧ Below w.heap.size w w' := by
  go_enter Try.func16, Try.ntmps16
  go_wp2
  refine bodyPost_ret (v := urlV u0 u1 true u3 true u5 u6 u7 u8 u9 u10 u11 u12 u13) (by simp [results, Try.results16, go_sem, urlV]) rfl ⟨rfl, ?_⟩
  exact ((Below.refl _ _).alloc (Nat.le_refl _) _).alloc (by simp) _
end Go.Proofs.Ytpjponoafebboaa
