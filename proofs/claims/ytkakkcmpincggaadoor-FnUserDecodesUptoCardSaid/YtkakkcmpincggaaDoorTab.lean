/- The table of net/url, and what shouldEscape, ishex and unhex return where memory holds it. -/
import Derived.Test.YtkakkcmpincggaaDoorProg
import Derived.Test.YtkakkcmpincggaaDoorEscPlain
import Derived.WalkKit
import Derived.WalkSpells
import Derived.Lib.Strings
import Derived.Lib.Hide
import Derived.WalkLawsBesides
import Derived.Laws.BitsAllLaws
import Derived.Laws.BitsLemmas
namespace Go.Proofs.YtkakkcmpincggaaDoor
open Go.RowKit

def tab : List Int := [
  0, 0, 0, 0, 0, 0, 0, 0, 0, 0, 0, 0, 0, 0, 0, 0, 0, 0, 0, 0, 0, 0, 0, 0, 0, 0, 0, 0, 0, 0, 0, 0,
  0, 76, 12, 0, 95, 0, 95, 12, 76, 76, 76, 95, 93, 127, 127, 65, 255, 255, 255, 255, 255, 255, 255, 255, 255, 255, 79, 93, 12, 95, 12, 64,
  67, 255, 255, 255, 255, 255, 255, 127, 127, 127, 127, 127, 127, 127, 127, 127, 127, 127, 127, 127, 127, 127, 127, 127, 127, 127, 127, 12, 0, 12, 0, 127,
  0, 255, 255, 255, 255, 255, 255, 127, 127, 127, 127, 127, 127, 127, 127, 127, 127, 127, 127, 127, 127, 127, 127, 127, 127, 127, 127, 0, 0, 0, 127, 0,
  0, 0, 0, 0, 0, 0, 0, 0, 0, 0, 0, 0, 0, 0, 0, 0, 0, 0, 0, 0, 0, 0, 0, 0, 0, 0, 0, 0, 0, 0, 0, 0,
  0, 0, 0, 0, 0, 0, 0, 0, 0, 0, 0, 0, 0, 0, 0, 0, 0, 0, 0, 0, 0, 0, 0, 0, 0, 0, 0, 0, 0, 0, 0, 0,
  0, 0, 0, 0, 0, 0, 0, 0, 0, 0, 0, 0, 0, 0, 0, 0, 0, 0, 0, 0, 0, 0, 0, 0, 0, 0, 0, 0, 0, 0, 0, 0,
  0, 0, 0, 0, 0, 0, 0, 0, 0, 0, 0, 0, 0, 0, 0, 0, 0, 0, 0, 0, 0, 0, 0, 0, 0, 0, 0, 0, 0, 0, 0, 0]
def tabN (n : Nat) : Int := tab.getD n 0

/-- memory holds the table -/
def Tab (w : World) : Prop := 0 < w.heap.size ∧ ∀ n, n < 256 → w.cell? ⟨0, n, none⟩ = some (.int .u8 (tabN n))
theorem Tab.below {w w' : World} (h : Tab w) (hb : Below w.heap.size w w') : Tab w' :=
  ⟨Nat.lt_of_lt_of_le h.1 hb.size, fun n hn => (hb.cell (p := ⟨0, n, none⟩) h.1).trans (h.2 n hn)⟩

/-- must a byte be escaped in a mode? -/
def esc (m : Int) (c : UInt8) : Bool := bits .and .u8 (tabN c.toNat) m == 0

theorem should_any (c : UInt8) (m : Int) (w : World) (hT : Tab w) :
    Calls Tryd.prog 38 #[.int .u8 (c.toNat : Int), .int .u8 m] w fun e w' => e = .returned (.bool (esc m c)) ∧ w = w' := by
  have hc := hT.2 c.toNat c.toNat_lt
  have hl : (c.toNat : Int) < 256 := by have := c.toNat_lt; omega
  have hl2 := c.toNat_lt
  have HE : Hid (esc m c = (bits .and .u8 (tabN c.toNat) m == 0)) := Lib.hid rfl
  clear hT
  go_enter Tryd.func38, Tryd.ntmps38
  go_wp2
  go_ret
  rw [HE.out]
  exact ⟨rfl, rfl⟩

theorem hex_tab : ∀ c : UInt8, (bits .and .u8 (tabN c.toNat) 128 != 0) = plain.isHex c :=
  plain.forall_u8 (by decide +kernel)

theorem ishex_any (c : UInt8) (w : World) (hT : Tab w) :
    Calls Tryd.prog 39 #[.int .u8 (c.toNat : Int)] w fun e w' => e = .returned (.bool (plain.isHex c)) ∧ w = w' := by
  have hc := hT.2 c.toNat c.toNat_lt
  have hl : (c.toNat : Int) < 256 := by have := c.toNat_lt; omega
  have hl2 := c.toNat_lt
  have HE := Lib.hid (hex_tab c)
  clear hT
  go_enter Tryd.func39, Tryd.ntmps39
  go_wp2
  go_ret
  rw [← HE.out]
  exact ⟨rfl, rfl⟩

theorem unhex_val : ∀ c : UInt8, plain.isHex c = true → 9 * ((c.toNat : Int) / 64) + (c.toNat : Int) % 16 = (plain.value c : Nat) :=
  plain.forall_u8 (by decide +kernel)

theorem unhex_any (c : UInt8) (w : World) (h : plain.isHex c = true) :
    Calls Tryd.prog 40 #[.int .u8 (c.toNat : Int)] w fun e w' => e = .returned (.int .u8 (plain.value c : Nat)) ∧ w = w' := by
  have hl : (c.toNat : Int) < 256 := by have := c.toNat_lt; omega
  have H := Lib.hid (unhex_val c h)
  clear h
  go_enter Tryd.func40, Tryd.ntmps40
  go_wp2
  go_ret
  rw [← H.out]
  exact ⟨rfl, rfl⟩
end Go.Proofs.YtkakkcmpincggaaDoor
