/- Strings as lists of bytes. -/
import Derived.WalkKit
import Derived.WalkSpells
import Derived.Lib.Strings
import Derived.Lib.Hide
namespace Go.Proofs.YtkakkcmpincggaaDoor
open Go.RowKit

/-- a string of these bytes -/
def S (l : List UInt8) : ByteArray := ⟨l.toArray⟩
theorem S_data (s : ByteArray) : S s.data.toList = s := Lib.mk_data s
theorem data_S (l : List UInt8) : (S l).data.toList = l := by simp [S]
theorem S_ext {a b : ByteArray} (h : a.data.toList = b.data.toList) : a = b := by rw [← S_data a, ← S_data b, h]
theorem S_inj {a b : List UInt8} (h : S a = S b) : a = b := by rw [← data_S a, ← data_S b, h]
theorem S_size (l : List UInt8) : (S l).size = l.length := by rw [Lib.size_eq, data_S]
theorem size_data (s : ByteArray) : s.data.toList.length = s.size := (Lib.size_eq s).symm
theorem data_app (a b : ByteArray) : (a ++ b).data.toList = a.data.toList ++ b.data.toList := by simp
theorem S_app (a b : List UInt8) : S a ++ S b = S (a ++ b) := S_ext (by rw [data_app, data_S, data_S, data_S])
theorem str_ne {a b : ByteArray} (h : ¬ a = b) : (a.toList == b.toList) = false := by
  rw [beq_eq_false_iff_ne, Lib.toList_data, Lib.toList_data]
  exact fun e => h (S_ext e)
theorem list_ne {p : List UInt8} {b : ByteArray} (h : ¬ p = b.data.toList) : (p == b.toList) = false := by
  rw [beq_eq_false_iff_ne, Lib.toList_data]; exact h
theorem list_ne' {p : List UInt8} {b : ByteArray} (h : ¬ b.data.toList = p) : (b.toList == p) = false := by
  rw [beq_eq_false_iff_ne, Lib.toList_data]; exact h
theorem empty_iff (s : ByteArray) : s.toList.isEmpty = true ↔ s.data.toList = [] := by rw [Lib.toList_data, List.isEmpty_iff]
theorem nonempty_of {s : ByteArray} (h : s.data.toList ≠ []) : s.toList.isEmpty = false := by
  rw [Lib.toList_data, List.isEmpty_eq_false_iff]; exact h
theorem ne_nil {s : ByteArray} (h : s.toList.isEmpty = false) : s.data.toList ≠ [] := by
  rw [Lib.toList_data] at h
  exact List.isEmpty_eq_false_iff.1 h
theorem is_empty {s : ByteArray} (h : s.toList.isEmpty = true) : s = ⟨#[]⟩ := S_ext ((empty_iff s).1 h)
end Go.Proofs.YtkakkcmpincggaaDoor
