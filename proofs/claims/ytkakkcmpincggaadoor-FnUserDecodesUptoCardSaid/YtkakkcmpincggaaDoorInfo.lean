/- What impl.info makes. -/
import Derived.Test.YtkakkcmpincggaaDoorProg
import Derived.WalkKit
import Derived.WalkSpells
namespace Go.Proofs.YtkakkcmpincggaaDoor
open Go.RowKit

/-- what the two makers of a Userinfo leave: three cells -/
def infoObj (name pw : ByteArray) : Bool → Obj
  | true => .cells #[.string name, .string pw, .bool true] 57
  | false => .cells #[.string name, .string ⟨#[]⟩, .bool false] 57
def pwOf (pw : ByteArray) : Bool → ByteArray
  | true => pw
  | false => ⟨#[]⟩

theorem info_any (name pw : ByteArray) (has : Bool) (w : World) :
    Calls Tryd.prog 27 #[.string name, .string pw, .bool has] w fun e w' => e = .returned (.pointer (some ⟨w.heap.size, 0, none⟩)) ∧ w.alloc (infoObj name pw has) = w' := by
  cases has
  all_goals
    go_enter Tryd.func27, Tryd.ntmps27
    go_wp2
    go_ret
    exact ⟨rfl, rfl⟩
end Go.Proofs.YtkakkcmpincggaaDoor
