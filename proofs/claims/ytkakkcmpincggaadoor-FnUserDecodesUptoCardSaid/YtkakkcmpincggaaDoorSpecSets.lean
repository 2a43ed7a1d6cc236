/- Which bytes stand where: the table of net/url against the sets of package spec. -/
import Derived.Test.YtkakkcmpincggaaDoorSpecIsOf
import Derived.Test.YtkakkcmpincggaaDoorEscLaw
namespace Go.Proofs.YtkakkcmpincggaaDoor
open Go.RowKit

def pathO : List UInt8 := [33, 36, 38, 39, 40, 41, 42, 43, 44, 59, 61, 58, 64, 47]
def fragO : List UInt8 := [33, 36, 38, 39, 40, 41, 42, 43, 44, 59, 61, 58, 64, 47, 63]
def pathR : List UInt8 := [33, 36, 38, 39, 40, 41, 42, 43, 44, 59, 61, 58, 64, 47, 91, 93]
def fragR : List UInt8 := [33, 36, 38, 39, 40, 41, 42, 43, 44, 59, 61, 58, 64, 47, 63, 91, 93]
def pathStay : List UInt8 := [36, 38, 43, 44, 47, 58, 59, 61, 64]
def fragStay : List UInt8 := [36, 38, 43, 44, 47, 58, 59, 61, 63, 64, 33, 40, 41, 42]
def userStay : List UInt8 := [36, 38, 43, 44, 59, 61]

theorem stay_path : ∀ c : UInt8, (!esc 1 c) = stands pathStay c := plain.forall_u8 (by decide +kernel)
theorem stay_frag : ∀ c : UInt8, (!esc 64 c) = stands fragStay c := plain.forall_u8 (by decide +kernel)
theorem stay_user : ∀ c : UInt8, (!esc 16 c) = stands userStay c := plain.forall_u8 (by decide +kernel)
theorem stay_pathO : ∀ c : UInt8, (!esc 1 c) = true → stands pathO c = true := plain.forall_u8 (by decide +kernel)
theorem stay_fragO : ∀ c : UInt8, (!esc 64 c) = true → stands fragO c = true := plain.forall_u8 (by decide +kernel)
theorem ok_path : ∀ c : UInt8, okB 1 c = (c == 37 || stands pathR c) := plain.forall_u8 (by decide +kernel)
theorem ok_frag : ∀ c : UInt8, okB 64 c = (c == 37 || stands fragR c) := plain.forall_u8 (by decide +kernel)
theorem ok_pathO : ∀ c : UInt8, (c == 37 || stands pathO c) = true → okB 1 c = true := plain.forall_u8 (by decide +kernel)
theorem ok_fragO : ∀ c : UInt8, (c == 37 || stands fragO c) = true → okB 64 c = true := plain.forall_u8 (by decide +kernel)
theorem hex_stands (o : List UInt8) : ∀ c : UInt8, plain.isHex c = true → stands o c = true := by
  intro c h
  have : unres c = true := (plain.forall_u8 (p := fun c => plain.isHex c = true → unres c = true) (by decide +kernel)) c h
  rw [stands, this]; rfl

theorem encP_path (l : List UInt8) : encP 1 l = plain.encode (stands pathStay) l := by rw [encP]; exact congrArg (fun f => plain.encode f l) (funext stay_path)
theorem encP_frag (l : List UInt8) : encP 64 l = plain.encode (stands fragStay) l := by rw [encP]; exact congrArg (fun f => plain.encode f l) (funext stay_frag)
theorem encP_user (l : List UInt8) : encP 16 l = plain.encode (stands userStay) l := by rw [encP]; exact congrArg (fun f => plain.encode f l) (funext stay_user)
theorem valid_path {l p : List UInt8} (h : plain.decode l = some p) : validL 1 l = plain.isOf (stands pathR) l := by
  rw [plain.isOf_all (hex_stands _) l.length l p (Nat.le_refl _) h, validL]; exact congrArg (List.all l) (funext ok_path)
theorem valid_frag {l p : List UInt8} (h : plain.decode l = some p) : validL 64 l = plain.isOf (stands fragR) l := by
  rw [plain.isOf_all (hex_stands _) l.length l p (Nat.le_refl _) h, validL]; exact congrArg (List.all l) (funext ok_frag)
theorem valid_pathO {l p : List UInt8} (h : plain.decode l = some p) (hi : plain.isOf (stands pathO) l = true) : validL 1 l = true := by
  rw [plain.isOf_all (hex_stands _) l.length l p (Nat.le_refl _) h, List.all_eq_true] at hi
  rw [validL, List.all_eq_true]
  exact fun c hc => ok_pathO c (hi c hc)
theorem valid_fragO {l p : List UInt8} (h : plain.decode l = some p) (hi : plain.isOf (stands fragO) l = true) : validL 64 l = true := by
  rw [plain.isOf_all (hex_stands _) l.length l p (Nat.le_refl _) h, List.all_eq_true] at hi
  rw [validL, List.all_eq_true]
  exact fun c hc => ok_fragO c (hi c hc)
end Go.Proofs.YtkakkcmpincggaaDoor
