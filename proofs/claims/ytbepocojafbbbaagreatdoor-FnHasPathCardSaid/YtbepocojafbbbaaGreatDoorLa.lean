/- Laws: a whole variable is stored into a known block; loaded out of one. -/
import Derived.Test.YtbepocojafbbbaaGreatDoorBase
namespace Go.Proofs.YtbepocojafbbbaaGreatDoor
open Go.RowKit

theorem setRow_blk {w : World} {b : Nat} {c : Array Value} {e : TypeId} (h : Blk w b c e) (d : Array Value) : Blk (w.setRow b d) b d e := setRow_heap w b c d e (0, 0) h
theorem setRow_ex (w : World) (b : Nat) (d : Array Value) : Ex (On b) w (w.setRow b d) :=
  ⟨rfl, rfl, rfl, by simp [World.setRow], fun k _ hn => by
    simp only [World.setRow, Array.getElem?_modify]
    rw [if_neg (fun e => hn e.symm)]⟩

theorem run_storeVar_blk {P : Program} {w : World} {b : Nat} {c : Array Value} {e ty : TypeId} {v : Value} (hB : Blk w b c e) (hi : (P.info? ty).map (·.size) = some c.size) (hv : v.cells.size = c.size)
    (h1 : ∀ u ∈ v.cells.toList, u.oneCell' = true) : (storeVar ty ⟨b, 0, none⟩ v).run P w = .ok () (w.setRow b v.cells) := by
  cases hq : P.info? ty with
  | none => simp [hq] at hi
  | some i =>
    have hs : i.size = c.size := by simpa [hq] using hi
    have hst := run_storeCells_from (P := P) b e v.cells.toList 0 c w hB (by simpa using hv) h1
    simp at hst
    simp [storeVar, Sem.run_bind, sizeOf, typeInfo, hq, hs, hv, hst]

theorem wp_store_blk {P : Program} {o : Oper} {a : Act} {w : World} {K : Act → World → Prop} {Q : Exit → Act → World → Prop} (ty : TypeId) (x y : Operand) (ho : o.op = .store ty x y)
    (b : Nat) (hx : a.eval x = .pointer (some ⟨b, 0, none⟩)) (v : Value) (hy : a.eval y = v) (c : Array Value) (e : TypeId) (hB : Blk w b c e) (hi : (P.info? ty).map (·.size) = some c.size) (hv : v.cells.size = c.size)
    (h1 : ∀ u ∈ v.cells.toList, u.oneCell' = true) (h : ∀ w', Blk w' b v.cells e → Ex (On b) w w' → K (a.put o.dst undef) w') : o.wp P a w K Q := by
  unfold Oper.wp execOp
  simp only [ho, hx, hy, Instr.storeAt, Instr.sureAddr, Sem.run_bind, Sem.run_pure, Result.andThen_ok, run_storeVar_blk hB hi hv h1]
  exact h _ (setRow_blk hB _) (setRow_ex _ _ _)

theorem wpList_store_blk {P : Program} {ops : Array Oper} {rest : List Oper} {o : Oper} {a : Act} {w : World} {Q : Exit → Act → World → Prop} (hgd : o.guard = none) (ty : TypeId) (x y : Operand) (ho : o.op = .store ty x y)
    (b : Nat) (hx : a.eval x = .pointer (some ⟨b, 0, none⟩)) (v : Value) (hy : a.eval y = v) (c : Array Value) (e : TypeId) (hB : Blk w b c e) (hi : (P.info? ty).map (·.size) = some c.size) (hv : v.cells.size = c.size)
    (h1 : ∀ u ∈ v.cells.toList, u.oneCell' = true) (h : ∀ w', Blk w' b v.cells e → Ex (On b) w w' → wpList P ops Q rest (a.put o.dst undef) w') : wpList P ops Q (o :: rest) a w :=
  wpList_plain hgd fun _ hK => wp_store_blk ty x y ho b hx v hy c e hB hi hv h1 fun w' h1 h2 => hK _ _ (h w' h1 h2)

theorem results_cell_tmp {P : Program} {fn : Func} {p q : Tmp} {ty : TypeId} (h : fn.results = #[.cell p ty, .tmp q]) (tmps : Array Value) (w : World) (g : Nat) (t : TypeId) (cs : Array Value) (fr : Nat × Nat) (d : TypeDesc)
    (hp : tmps.getD p undef = .pointer (some ⟨g, 0, none⟩)) (hg : w.heap[g]? = some (.cells cs t fr))
    (hu : P.underlying ty = some d) (hd : (match d with | .struct _ | .array _ _ => true | _ => false) = true) (hi : (P.info? ty).map (·.size) = some cs.size) (u : Value) (hq : tmps.getD q undef = u) :
    (results fn tmps).run P w = .ok (.tuple #[.agg cs, u]) w := by
  have hp' : tmps[p]?.getD undef = .pointer (some ⟨g, 0, none⟩) := by simpa using hp
  have hq' : tmps[q]?.getD undef = u := by simpa using hq
  simp [results, h, hp', hq', asAddr, run_loadVar_row w g t ty cs fr d hg hu hd hi]
end Go.Proofs.YtbepocojafbbbaaGreatDoor
