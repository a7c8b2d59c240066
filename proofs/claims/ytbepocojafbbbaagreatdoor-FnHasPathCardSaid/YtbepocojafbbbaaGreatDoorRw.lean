/-
  A WORLD IN WHICH THE ROW'S LIST IS LAID: as the door's own run leaves it, the pinned table by the function.
-/
import Derived.Test.YtbepocojafbbbaaGreatDoorRows
import Derived.ProofKit
import Derived.OpenShut
import Derived.LaidMore
import Derived.LaidLaws
import Derived.LaidOnce
import Derived.Lay
import Derived.Lib.LaidIn
import Derived.Stop.Joined
namespace Go.Proofs.YtbepocojafbbbaaGreatDoor
open Go.ChangeShapes Go.WideShapes Go.ChangeAt Go.RowKit

/-- The pinned table alone, and the rest of the list. -/
noncomputable abbrev pin1 : List (String × DataW Unit) := [("unicode/utf8.first", Rows.laid_unicode_utf8_first)]
noncomputable abbrev rest9 : List (String × DataW Unit) := Rows.fnHasPathRow.laid.take 9
noncomputable def laidWorld (os : Os) : World := World.layVars Tryz.prog (World.doorLaid Tryz.prog 115 os) pin1
theorem laidWorld_os (os : Os) : (laidWorld os).os = os := World.layVars_os _ _ _
noncomputable def blocks (os : Os) : List Nat := ((DataW.laidRun Tryz.prog (laidWorld os) 8 (rest9.map (·.1))).map (fun x => x.2.map MemPlace.block)).getD []

theorem rest_in (os : Os) : LaidIn Tryz.prog (laidWorld os) rest9 (blocks os) :=
  LaidIn.of_run (blocks os) 8 (by kernel_rfl) (by kernel_rfl) (by kernel_rfl) (by kernel_rfl)
theorem pin_fits (os : Os) : (World.doorLaid Tryz.prog 115 os).layFits Tryz.prog pin1 (blocks os) = true := by kernel_rfl
theorem pin_ifaces (os : Os) : (World.doorLaid Tryz.prog 115 os).layIfaces Tryz.prog pin1 (laidWorld os) = true := by kernel_rfl
theorem great_eq : (Rows.fnHasPathRow.laid.filter fun x => ["unicode/utf8.first"].contains x.1) = pin1 := by kernel_rfl
theorem small_eq : (Rows.fnHasPathRow.laid.filter fun x => !["unicode/utf8.first"].contains x.1) = rest9 := by kernel_rfl
theorem laid_world (os : Os) : laidMet Tryz.prog Rows.fnHasPathRow.laid (laidWorld os) :=
  laidMet_layVars (w0 := World.doorLaid Tryz.prog 115 os) ["unicode/utf8.first"] (blocks os) (by rw [great_eq]; rfl) (by rw [great_eq]; exact pin_fits os) (by rw [great_eq]; exact pin_ifaces os) (by rw [small_eq]; exact rest_in os)
theorem laid_met (os : Os) (args : Array Value) : laidMetH Tryz.prog Rows.fnHasPathRow.laid ((laidWorld os).forCall (fun _ _ => 0) ⟨#[], args, []⟩).memory := by
  rw [MakeChecks.laidMetH_plain _ _ _ (by kernel_rfl)]
  exact (laid_world os).of_heap (by simp [World.memory, World.forCall, Input.heap])
theorem laid_shaped (os : Os) (args : Array Value) : ((laidWorld os).forCall (fun _ _ => 0) ⟨#[], args, []⟩).Shaped Tryz.prog :=
  World.shaped_of_ZipB (by kernel_rfl) (by kernel_rfl)
end Go.Proofs.YtbepocojafbbbaaGreatDoor
