/-
  THE ROW'S CLOSED CELLS, ONE BY ONE.
-/
import Derived.Test.YtbepocojafbbbaaGreatDoorRows
import Derived.ProofKit
import Derived.OpenShut
import Derived.SevenTiedAt
import Derived.Stop.Joined
namespace Go.Proofs.YtbepocojafbbbaaGreatDoor
open Go.ChangeShapes Go.WideShapes Go.ChangeAt Go.RowKit

theorem andt {a b : Bool} (ha : a = true) (hb : b = true) : (a && b) = true := by rw [ha, hb]; rfl
theorem fnHasPath_inPlace : (Rows.fnHasPathRow.inPlace == Tryz.prog.inPlace 3) = true := by kernel_rfl
theorem fnHasPath_unfollowed : (Rows.fnHasPathRow.unfollowed == Tryz.prog.unfollowed 3) = true := by kernel_rfl
theorem fnHasPath_recurses : (Rows.fnHasPathRow.recurses == Tryz.prog.recurses 3) = true := by kernel_rfl
theorem fnHasPath_named : (Rows.fnHasPathRow.named == Tryz.prog.varsNamed 3) = true := by kernel_rfl
theorem fnHasPath_wf : Rows.fnHasPathRow.wf (OpenSpec.ofChange Rows.fnHasPathSpec) = true := by kernel_rfl
end Go.Proofs.YtbepocojafbbbaaGreatDoor
