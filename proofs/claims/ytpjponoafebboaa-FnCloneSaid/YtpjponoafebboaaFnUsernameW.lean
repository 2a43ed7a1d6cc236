/- What FnUsername and what it calls return, for every string that the form reaches. -/
import Derived.Test.YtpjponoafebboaaProg
import Derived.WalkKit
import Derived.WalkSpells
import Derived.Lib.Strings
import Derived.Deep.QuietTactic
import Derived.BigQuiet
import Derived.WalkLawsBesides
namespace Go.Proofs.Ytpjponoafebboaa
open Go.RowKit

/-- what the two makers of a Userinfo leave: three cells -/
def infoObj (name pw : ByteArray) : Bool → Obj
  | true => .cells #[.string name, .string pw, .bool true] 49
  | false => .cells #[.string name, .string ⟨#[]⟩, .bool false] 49
def pwOf (pw : ByteArray) : Bool → ByteArray
  | true => pw
  | false => ⟨#[]⟩

theorem info_any (name pw : ByteArray) (has : Bool) (w : World) :
    Calls Try.prog 25 #[.string name, .string pw, .bool has] w fun e w' => e = .returned (.pointer (some ⟨w.heap.size, 0, none⟩)) ∧ w.alloc (infoObj name pw has) = w' := by
  cases has
  all_goals
    go_enter Try.func25, Try.ntmps25
    go_wp2
    go_ret
    exact ⟨rfl, rfl⟩

theorem username_any (a : Addr) (name : ByteArray) (w : World) (hc : w.cell? a = some (.string name)) :
    Calls Try.prog 27 #[.pointer (some a)] w fun e w' => e = .returned (.string name) ∧ w = w' := by
  go_enter Try.func27, Try.ntmps27
  go_wp2
  go_ret
  exact ⟨rfl, rfl⟩

theorem password_at (b : Nat) (pw : ByteArray) (has : Bool) (w : World) (h1 : w.cell? ⟨b, 1, none⟩ = some (.string pw)) (h2 : w.cell? ⟨b, 2, none⟩ = some (.bool has)) :
    Calls Try.prog 26 #[.pointer (some ⟨b, 0, none⟩)] w fun e w' => e = .returned (.tuple #[.string pw, .bool has]) ∧ ∃ n, w' = w.drewN n := by
  go_enter Try.func26, Try.ntmps26
  go_wp2
  go_quiet (fail)
  go_wp2
  go_ret2
  exact ⟨rfl, _, rfl⟩

theorem implUsername_any (name pw : ByteArray) (has : Bool) (w : World) :
    Calls Try.prog 15 #[.string name, .string pw, .bool has] w fun e w' => e = .returned (.string name) ∧ Below w.heap.size w w' := by
  go_enter Try.func15, Try.ntmps15
  go_wp2_with fail
  refine (info_any _ _ _ _).mono ?_
  rintro e w1 ⟨rfl, rfl⟩
  go_wp2_with fail
  refine (username_any _ name _ (by cases has <;> simp [infoObj])).mono ?_
  rintro e w1 ⟨rfl, rfl⟩
  go_wp2_with fail
  go_ret
  exact ⟨rfl, (Below.refl _ _).alloc (Nat.le_refl _) _⟩

theorem implPassword_any (name pw : ByteArray) (has : Bool) (w : World) :
    Calls Try.prog 14 #[.string name, .string pw, .bool has] w fun e w' => e = .returned (.tuple #[.string (pwOf pw has), .bool has]) ∧ Below w.heap.size w w' := by
  go_enter Try.func14, Try.ntmps14
  go_wp2_with fail
  refine (info_any _ _ _ _).mono ?_
  rintro e w1 ⟨rfl, rfl⟩
  go_wp2_with fail
  refine (password_at _ (pwOf pw has) has _ (by cases has <;> simp [infoObj, pwOf]) (by cases has <;> simp [infoObj])).mono ?_
  rintro e w1 ⟨rfl, n, rfl⟩
  go_wp2_with fail
  go_ret2
  exact ⟨rfl, below_drewN ((Below.refl _ _).alloc (Nat.le_refl _) _) _⟩

theorem fnUsername_walk (name pw : ByteArray) (has : Bool) (hn : name.size < 140737488355328) (_hp : pw.size < 140737488355328) (w : World) :
    Calls Try.prog 4 #[.string name, .string pw, .bool has] w fun e w' => e = .returned (.bool true) ∧ Below w.heap.size w w' := by
  cases has
  all_goals
    go_enter Try.func4, Try.ntmps4
    go_wp2_with fail
    refine (implPassword_any _ _ _ _).mono ?_
    rintro e w1 ⟨rfl, hb1⟩
    simp only [pwOf]
    go_wp2_with fail
    refine (implPassword_any _ _ _ _).mono ?_
    rintro e w2 ⟨rfl, hb2⟩
    simp only [pwOf]
    go_wp2_with fail
    refine (implUsername_any _ _ _ _).mono ?_
    rintro e w3 ⟨rfl, hb3⟩
    go_wp2_with fail
    refine (implUsername_any _ _ _ _).mono ?_
    rintro e w4 ⟨rfl, hb4⟩
    go_wp2_with fail
    go_ret
    exact ⟨rfl, hb1.trans ((hb2.mono hb1.size).trans ((hb3.mono (Nat.le_trans hb1.size hb2.size)).trans (hb4.mono (Nat.le_trans hb1.size (Nat.le_trans hb2.size hb3.size)))))⟩
end Go.Proofs.Ytpjponoafebboaa
