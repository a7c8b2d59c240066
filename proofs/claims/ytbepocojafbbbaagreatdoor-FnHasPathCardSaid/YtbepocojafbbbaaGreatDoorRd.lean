/-
  THE ROW'S CLOSED CELLS, TOGETHER.
-/
import Derived.Test.YtbepocojafbbbaaGreatDoorRc
import Derived.ProofKit
import Derived.OpenShut
import Derived.SevenTiedAt
import Derived.Stop.Joined
namespace Go.Proofs.YtbepocojafbbbaaGreatDoor
open Go.ChangeShapes Go.WideShapes Go.ChangeAt Go.RowKit

set_option maxHeartbeats 4000000 in
set_option maxRecDepth 100000 in
theorem fnHasPath_closed : joinedFacts Tryz.prog 3 Tryz.f3 Rows.fnHasPathSpec Rows.fnHasPathRow = true := by
  unfold joinedFacts
  repeat' with_reducible refine andt ?_ ?_
  all_goals first
    | with_reducible exact fnHasPath_inPlace
    | with_reducible exact fnHasPath_unfollowed
    | with_reducible exact fnHasPath_recurses
    | with_reducible exact fnHasPath_named
    | with_reducible exact fnHasPath_wf
    | (as_aux_lemma => kernel_rfl)
theorem fnHasPath_inst : Tryz.f3.isInstance Tryz.prog Rows.fnHasPathRow.origin Rows.fnHasPathRow.targs := of_decide_eq_true (by kernel_rfl)
theorem fnHasPath_fn : Tryz.prog.funcNamed "pub-claviger/laws.FnHasPath" = some 3 := by kernel_rfl
end Go.Proofs.YtbepocojafbbbaaGreatDoor
