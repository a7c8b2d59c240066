/-
  THE LAW FnHasPath: for every kind of word and every size (two bytes), in every world in which the row's listed variables are as the program lays them, the call returns true and the arguments read as they did. The condition: the list 'laid' of the row.
-/
import Derived.Test.YtbepocojafbbbaaGreatDoorFh
import Derived.Test.YtbepocojafbbbaaGreatDoorRv
import Derived.Test.YtbepocojafbbbaaGreatDoorRd
import Derived.Test.YtbepocojafbbbaaGreatDoorTie
import Derived.Test.YtbepocojafbbbaaGreatDoorCards
import Derived.ProofKit
import Derived.OpenShut
import Derived.SevenTiedAt
import Derived.Stop.Joined
namespace Go.Proofs.YtbepocojafbbbaaGreatDoor
open Go.ChangeShapes Go.WideShapes Go.ChangeAt Go.RowKit Go.Shelf

theorem hasPath_law : HasPathLaw := fun w f s hf hs ad hG =>
  (law_spec w f s hf hs ad hG).mono fun _ _ h => ⟨h.1, h.2.below⟩

theorem hasPath_holds : Rows.FnHasPathSaid :=
  OpenClaim.holds_of_wide 3 Tryz.f3 rfl rfl rfl rfl rfl rfl rfl ⟨rfl, rfl, rfl, rfl, rfl⟩ rfl rfl rfl rfl rfl fnHasPath_fn Tryz.func3 fnHasPath_closed
    fnHasPath_inst (by unfold Func.isWrapper; first | (rw [if_pos (by decide +kernel)]; kernel_rfl) | (rw [if_neg (by decide +kernel)]; exact ⟨rfl, rfl⟩))
    (fun os started H enc _ => hasPath_lifted hasPath_law os started H enc)

theorem hasPath_wfText : Rows.fnHasPathRow.wfByText (OpenSpec.ofChange Rows.fnHasPathSpec) = true := by kernel_rfl
theorem hasPath_main : Tryz.pinned.checked.prog.mainIs = some (true, "d288c69b76e0cbd7dc9d72982df11b85d9f0d97f9ddd9438485019f9838beaf4".toList) := by kernel_rfl
theorem hasPath_goes : false = Rows.fnHasPathRow.goesBy Tryz.pinned.checked.prog := by kernel_rfl
theorem hasPath_looks : true = Tryz.pinned.checked.prog.looks [] := by kernel_rfl
theorem hasPath_stands : ([5, 5].all fun u => !Tryz.prog.wantsStandIn u) = true := by kernel_rfl

theorem hasPath_card : Rows.FnHasPathCardSaid :=
  Claim7.holds_tied_plain_at .later [] [.data, .data, .data, .data, .data, .sentinel, .sentinel, .sentinel, .sentinel, .pinned] true (true, "d288c69b76e0cbd7dc9d72982df11b85d9f0d97f9ddd9438485019f9838beaf4") true hasPath_holds (fun _ h => by cases h) hasPath_wfText (fun _ h => by cases h) fnHasPath_row_tie rfl ⟨rfl, rfl⟩ hasPath_main rfl
    (fun f fn hf hfn => by
      obtain rfl : f = 3 := Option.some.inj (fnHasPath_fn.symm.trans hf) |>.symm
      obtain rfl : fn = Tryz.f3 := (Option.some.inj (Tryz.func3.symm.trans hfn)).symm
      exact ⟨hasPath_looks, fun j t ht => by
        rw [Tryz.params3] at ht
        have hm : t ∈ [5, 5] := by simpa using Array.mem_of_getElem? ht
        exact (show Tryz.prog.wantsStandIn t = false by simpa using List.all_eq_true.1 hasPath_stands t hm)⟩)
    hasPath_goes
#print axioms hasPath_card
end Go.Proofs.YtbepocojafbbbaaGreatDoor
