/- From the row's list of variables to the table in memory; a world that holds it. -/
import Derived.Test.YtkakkcmpincggaaDoorRows
import Derived.Test.YtkakkcmpincggaaDoorTab
import Derived.Deep.DeepHandedRow
import Derived.Lib.LaidTab
namespace Go.Proofs.YtkakkcmpincggaaDoor
open Go.RowKit

def tabName : String := Rows.fnEscapedFragmentRow.named.headD ""
theorem gTab : Tryd.prog.globalNamed tabName = some 0 := by kernel_rfl
theorem gTabType : (Tryd.prog.globals[0]?).map (·.type) = some 69 := by kernel_rfl
theorem cellsTab : Tryd.prog.cellsOf 69 = 256 := by kernel_rfl
theorem cellsEnc : Tryd.prog.cellsOf 47 = 1 := by kernel_rfl
theorem tabData_is : (Rows.laid_net_url_table : DataW Unit) = Lib.tabData .u8 tab := by kernel_rfl
theorem tab_length : tab.length = 256 := by decide +kernel

theorem table {W : World} (h : laidMetH Tryd.prog [(tabName, Rows.laid_net_url_table)] W) : Tab W := by
  rw [tabData_is] at h
  have hI : Lib.TabIs Tryd.prog W tabName .u8 tab := Lib.tabIs_of_head (rest := []) gTab gTabType Tryd.underlying69 Tryd.underlying47 cellsEnc cellsTab h
  have hc : ∀ n, n < 256 → W.cell? ⟨0, n, none⟩ = some (.int .u8 (tabN n)) := fun n hn => hI.cell gTab n (by rw [tab_length]; exact hn)
  exact ⟨World.block_lt_of_cell? _ _ (hc 0 (by decide)), hc⟩

/-- the settled world, the table holding what its initialiser lays -/
noncomputable def laidWorld (os : Os) : World :=
  { World.holding Tryd.prog os ⟨#[], #[], []⟩ with heap := (World.holding Tryd.prog os ⟨#[], #[], []⟩).heap.modify 0 fun
      | .cells _ t frozen => .cells (tab.map (Value.int .u8)).toArray t frozen
      | o => o }
end Go.Proofs.YtkakkcmpincggaaDoor
