/- What impl.to, Clone and impl.Clone return, for every URL that the form reaches. -/
import Derived.Test.YtpjponoafebboaaCloneFrom
import Derived.Outline
namespace Go.Proofs.Ytpjponoafebboaa
open Go.RowKit

set_option maxHeartbeats 1600000 in
theorem urlClone_off (b : Nat) (u0 u1 : ByteArray) (u6 u7 u8 u9 : ByteArray) (u10 : Bool) (u11 u12 : ByteArray) (u13 : Bool) (w : World) (hb : b < w.heap.size)
    (c0 : w.cell? ⟨b, 0, none⟩ = some (.string u0)) (c1 : w.cell? ⟨b, 1, none⟩ = some (.string u1)) (c2 : w.cell? ⟨b, 2, none⟩ = some (.pointer none)) (c3 : w.cell? ⟨b, 3, none⟩ = some (.string u6))
    (c4 : w.cell? ⟨b, 4, none⟩ = some (.string u7)) (c5 : w.cell? ⟨b, 5, none⟩ = some (.string u11)) (c6 : w.cell? ⟨b, 6, none⟩ = some (.string u9)) (c7 : w.cell? ⟨b, 7, none⟩ = some (.string u8))
    (c8 : w.cell? ⟨b, 8, none⟩ = some (.string u12)) (c9 : w.cell? ⟨b, 9, none⟩ = some (.bool u10)) (c10 : w.cell? ⟨b, 10, none⟩ = some (.bool u13)) :
    Calls Try.prog 30 #[.pointer (some ⟨b, 0, none⟩)] w fun e w' => e = .returned (.pointer (some ⟨w.heap.size, 0, none⟩)) ∧ w.alloc (.cells #[.string u0, .string u1, .pointer none, .string u6, .string u7, .string u11, .string u9, .string u8, .string u12, .bool u10, .bool u13] 37) = w' := by
  go_enter Try.func30, Try.ntmps30
  go_wp2
  go_ret
  exact ⟨rfl, rfl⟩

set_option maxHeartbeats 1600000 in
theorem urlClone_on (b ub : Nat) (u0 u1 u3 : ByteArray) (u4 : Bool) (u5 : ByteArray) (u6 u7 u8 u9 : ByteArray) (u10 : Bool) (u11 u12 : ByteArray) (u13 : Bool) (w : World) (hb : b < w.heap.size) (hub : ub < w.heap.size)
    (c0 : w.cell? ⟨b, 0, none⟩ = some (.string u0)) (c1 : w.cell? ⟨b, 1, none⟩ = some (.string u1)) (c2 : w.cell? ⟨b, 2, none⟩ = some (.pointer (some ⟨ub, 0, none⟩))) (c3 : w.cell? ⟨b, 3, none⟩ = some (.string u6))
    (c4 : w.cell? ⟨b, 4, none⟩ = some (.string u7)) (c5 : w.cell? ⟨b, 5, none⟩ = some (.string u11)) (c6 : w.cell? ⟨b, 6, none⟩ = some (.string u9)) (c7 : w.cell? ⟨b, 7, none⟩ = some (.string u8))
    (c8 : w.cell? ⟨b, 8, none⟩ = some (.string u12)) (c9 : w.cell? ⟨b, 9, none⟩ = some (.bool u10)) (c10 : w.cell? ⟨b, 10, none⟩ = some (.bool u13))
    (n0 : w.cell? ⟨ub, 0, none⟩ = some (.string u3)) (n1 : w.cell? ⟨ub, 1, none⟩ = some (.string u5)) (n2 : w.cell? ⟨ub, 2, none⟩ = some (.bool u4)) :
    Calls Try.prog 30 #[.pointer (some ⟨b, 0, none⟩)] w fun e w' => e = .returned (.pointer (some ⟨w.heap.size, 0, none⟩)) ∧
      (w.alloc (.cells #[.string u0, .string u1, .pointer (some ⟨w.heap.size + 1, 0, none⟩), .string u6, .string u7, .string u11, .string u9, .string u8, .string u12, .bool u10, .bool u13] 37)).alloc (.cells #[.string u3, .string u5, .bool u4] 49) = w' := by
  go_enter Try.func30, Try.ntmps30
  go_wp2
  go_ret
  exact ⟨rfl, rfl⟩

set_option maxHeartbeats 1600000 in
theorem implTo_off (u0 u1 u3 : ByteArray) (u4 : Bool) (u5 : ByteArray) (u6 u7 u8 u9 : ByteArray) (u10 : Bool) (u11 u12 : ByteArray) (u13 : Bool) (w : World) :
    Calls Try.prog 29 #[.agg #[.string u0, .string u1, .bool false, .string u3, .bool u4, .string u5, .string u6, .string u7, .string u8, .string u9, .bool u10, .string u11, .string u12, .bool u13]] w fun e w' => e = .returned (.pointer (some ⟨w.heap.size + 1, 0, none⟩)) ∧
      (w.alloc (.cells #[.string u0, .string u1, .bool false, .string u3, .bool u4, .string u5, .string u6, .string u7, .string u8, .string u9, .bool u10, .string u11, .string u12, .bool u13] 28)).alloc (.cells #[.string u0, .string u1, .pointer none, .string u6, .string u7, .string u11, .string u9, .string u8, .string u12, .bool u10, .bool u13] 37) = w' := by
  go_enter Try.func29, Try.ntmps29
  go_wp2
  go_ret
  exact ⟨rfl, rfl⟩

set_option maxHeartbeats 1600000 in
theorem implTo_on (u0 u1 u3 : ByteArray) (u4 : Bool) (u5 : ByteArray) (u6 u7 u8 u9 : ByteArray) (u10 : Bool) (u11 u12 : ByteArray) (u13 : Bool) (w : World) :
    Calls Try.prog 29 #[.agg #[.string u0, .string u1, .bool true, .string u3, .bool u4, .string u5, .string u6, .string u7, .string u8, .string u9, .bool u10, .string u11, .string u12, .bool u13]] w fun e w' => e = .returned (.pointer (some ⟨w.heap.size + 1, 0, none⟩)) ∧
      ((w.alloc (.cells #[.string u0, .string u1, .bool true, .string u3, .bool u4, .string u5, .string u6, .string u7, .string u8, .string u9, .bool u10, .string u11, .string u12, .bool u13] 28)).alloc (.cells #[.string u0, .string u1, .pointer (some ⟨w.heap.size + 1 + 1, 0, none⟩), .string u6, .string u7, .string u11, .string u9, .string u8, .string u12, .bool u10, .bool u13] 37)).alloc (infoObj u3 u5 u4) = w' := by
  go_enter Try.func29, Try.ntmps29
  go_wp2_with fail
  refine (info_any _ _ _ _).mono ?_
  rintro e w' ⟨rfl, rfl⟩
  cases u4
  · simp only [infoObj]
    go_wp2_with fail
    go_ret
    exact ⟨rfl, rfl⟩
  · simp only [infoObj]
    go_wp2_with fail
    go_ret
    exact ⟨rfl, rfl⟩
end Go.Proofs.Ytpjponoafebboaa
