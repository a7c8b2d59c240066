/-
  WHAT THE ROW'S LIST GIVES: io.EOF's cell; and a world in which the list is laid.
-/
import Derived.Test.YtbepocojafbbbaaGreatDoorRn
import Derived.ProofKit
import Derived.OpenShut
import Derived.LaidMore
import Derived.LaidLaws
import Derived.Lay
import Derived.Stop.Joined
import Derived.Lib.LaidU8
namespace Go.Proofs.YtbepocojafbbbaaGreatDoor
open Go.ChangeShapes Go.WideShapes Go.ChangeAt Go.RowKit

theorem own : ownKnob Tryz.prog.godebug = none := by kernel_rfl
theorem LaidVars_place {P : Program} {w : World} : ∀ {l : List (String × DataW Unit)} {ps : List MemPlace}, DataW.LaidVars P w l ps → ∀ n d, (n, d) ∈ l →
    ∃ g t cs fuel p, P.globalNamed n = some g ∧ (P.globals[g]?).map (·.type) = some t ∧ w.var? P n = some cs ∧ DataW.trod (fun _ => ()) P w 0 (fun _ => true) false fuel t cs.toList = some (d, p) ∧
      ∀ x ∈ MemPlace.row ⟨g, 0, none⟩ cs.size, x ∈ ps
  | [], _, _, _, _, hm => by cases hm
  | (n', d') :: r, ps, h, n, d, hm => by
    obtain ⟨g, t, cs, fuel, p, q, h1, h2, h3, h4, h5, h6⟩ := h
    rcases List.mem_cons.1 hm with e | e
    · cases e
      exact ⟨g, t, cs, fuel, p, h1, h2, h3, h4, fun x hx => by rw [h6]; simp [hx]⟩
    · obtain ⟨g', t', cs', fuel', p', i1, i2, i3, i4, i5⟩ := LaidVars_place h5 n d e
      exact ⟨g', t', cs', fuel', p', i1, i2, i3, i4, fun x hx => by rw [h6]; simp [i5 x hx]⟩

set_option maxRecDepth 100000 in
theorem eof_of_laid' {W : World} {l : List (String × DataW Unit)} (h : laidMet Tryz.prog l W) (hm : ("io.EOF", Rows.laid_io_EOF) ∈ l) : ∃ ad, W.cell? ⟨0, 0, none⟩ = some (.iface 341 (.pointer (some ad))) := by
  obtain ⟨ps, hv, hnd, hrows⟩ := h
  obtain ⟨g, t, cs, fuel, p, h1, h2, h3, h4, h5⟩ := LaidVars_place hv _ _ hm
  obtain rfl := Option.some.inj ((show Tryz.prog.globalNamed "io.EOF" = some 0 by kernel_rfl).symm.trans h1)
  obtain rfl := Option.some.inj ((show (Tryz.prog.globals[0]?).map (·.type) = some 88 by kernel_rfl).symm.trans h2)
  obtain ⟨l0⟩ := cs
  have ok0 : ∀ u v, l0 = [.iface u v] → Value.okWide Tryz.prog W .any 0 u v := fun u v e => by
    subst e
    exact (hrows 0 0 (h5 _ (by simp [MemPlace.row]))).2 u v (by simpa using World.var?_cell h1 h3 0)
  obtain ⟨a0, s0, rfl, hc0, hs0, hz0, rfl⟩ := errorString_of_trod Tryz.underlying88 row341 Tryz.underlying341 Tryz.underlying343 rfl rfl Tryz.underlying9 (by kernel_rfl) (by kernel_rfl) h4 ok0
  exact ⟨a0, by simpa using World.var?_cell h1 h3 0⟩

theorem eof_of_laid {W : World} (h : laidMetH Tryz.prog Rows.fnHasPathRow.laid W) : ∃ ad, W.cell? ⟨0, 0, none⟩ = some (.iface 341 (.pointer (some ad))) := by
  rw [MakeChecks.laidMetH_plain _ _ _ (by kernel_rfl)] at h
  exact eof_of_laid' h (by simp [Rows.fnHasPathRow])

end Go.Proofs.YtbepocojafbbbaaGreatDoor
