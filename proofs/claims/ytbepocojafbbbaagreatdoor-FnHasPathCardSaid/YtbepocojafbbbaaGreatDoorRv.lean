/-
  FROM THE LAW'S WALK TO THE ROW: the arguments opened, the list read, the witness.
-/
import Derived.Test.YtbepocojafbbbaaGreatDoorRa
import Derived.Test.YtbepocojafbbbaaGreatDoorRw
import Derived.Test.YtbepocojafbbbaaGreatDoorTie
import Derived.Test.YtbepocojafbbbaaGreatDoorCards
import Derived.ProofKit
import Derived.OpenShut
import Derived.SevenTiedAt
import Derived.Stop.Joined
namespace Go.Proofs.YtbepocojafbbbaaGreatDoor
open Go.ChangeShapes Go.WideShapes Go.ChangeAt Go.RowKit Go.Shelf

/-- What the walk shows. -/
def HasPathLaw : Prop := ∀ (w : World) (f s : Nat), f < 256 → s < 256 → ∀ ad : Addr, w.cell? ⟨0, 0, none⟩ = some (.iface 341 (.pointer (some ad))) →
  Calls Tryz.prog 3 #[.int .u8 f, .int .u8 s] w fun e w' => e = .returned (.bool true) ∧ Below w.heap.size w w'

set_option maxRecDepth 100000 in
theorem hasPath_lifted (law : HasPathLaw) (os : Os) (started : os.Started) (H : Type) (enc : TypeId × Value → H) :
    ReturnsInHanded {} Tryz.checked os 3 .any (fun w args => (Rows.fnHasPathSpec.pre enc Tryz.prog Tryz.f3 [] false w args ∧ laidMetH Tryz.prog Rows.fnHasPathRow.laid w) ∧ sizedMet enc Tryz.prog Tryz.f3 (OpenSpec.ofChange Rows.fnHasPathSpec) false w args)
      (Rows.fnHasPathSpec.post enc Tryz.prog Tryz.f3 false true false false) := by
  refine returnsInHanded_of_change_and (C := Tryz.checked) (X := fun w _ => laidMetH Tryz.prog Rows.fnHasPathRow.laid w) (fun _ _ _ hh h => h.of_heap hh) own started (by kernel_rfl) Tryz.func3
    (ChangeSpec.witness_shaped (enc := enc) (C := Tryz.checked) (os := os) (X := fun w _ => laidMetH Tryz.prog Rows.fnHasPathRow.laid w) false (laidWorld os) #[.int .u8 0, .int .u8 0] 8 (laidWorld_os _)
      (laid_shaped _ _) (by kernel_rfl) (by kernel_rfl) (by kernel_rfl) (laid_met _ _)) ?_
  intro W base args ds gs before hval0 hW _ _ hL _
  have hval : ∀ (j : Nat) t v, Tryz.f3.params[j]? = some t → args[j]? = some v → Value.okWide Tryz.prog W .any base t v := hval0
  have hW' := hW
  obtain ⟨p, q, hA0, hV, rfl, _, _⟩ := hW
  have hA : DataW.TrodAll enc Tryz.prog W 0 (fun _ => true) true Tryz.f3.params.toList args.toList ds p := hA0
  rw [Tryz.params3] at hA hval
  obtain ⟨v0, vs0, d0, ds0, p0, q0, hargs, rfl, rfl, h0, r0⟩ := trodAll_cons hA
  obtain ⟨v1, vs1, d1, ds1, p1, q1, rfl, rfl, rfl, h1, r1⟩ := trodAll_cons r0
  obtain ⟨rfl, rfl, rfl⟩ := trodAll_nil r1
  obtain rfl : args = #[v0, v1] := by cases args; simp_all
  obtain ⟨rfl, rfl⟩ := trodVars_none hV
  obtain ⟨a0, rfl, rfl, rfl, w0⟩ := open_int Tryz.underlying5 (hval 0 5 v0 rfl rfl) h0
  obtain ⟨a1, rfl, rfl, rfl, w1⟩ := open_int Tryz.underlying5 (hval 1 5 v1 rfl rfl) h1
  clear hA0 hval0
  simp only [List.append_nil] at hW'
  obtain ⟨ad, hG⟩ := eof_of_laid hL
  have b0 : 0 ≤ a0 ∧ a0 ≤ 255 := by simpa [Lit.wf, IntKind.min, IntKind.max, IntKind.signed, IntKind.bits] using w0
  have b1 : 0 ≤ a1 ∧ a1 ≤ 255 := by simpa [Lit.wf, IntKind.min, IntKind.max, IntKind.signed, IntKind.bits] using w1
  obtain ⟨f, rfl⟩ : ∃ f : Nat, a0 = f := ⟨a0.toNat, by omega⟩
  obtain ⟨s, rfl⟩ : ∃ s : Nat, a1 = s := ⟨a1.toNat, by omega⟩
  refine (law W f s (by omega) (by omega) ad hG).mono fun e W' ⟨he, hb⟩ => ?_
  subst he
  exact ⟨_, rfl, _, _, _, [], [], [], hW', trodAll_cons_mk (shut_bool Tryz.underlying4 _) trodAll_mk0, trodAll_cons_mk (shut_int Tryz.underlying5 w0) (trodAll_cons_mk (shut_int Tryz.underlying5 w1) trodAll_mk0), rfl, hb.frame _, fun h => by cases h⟩

end Go.Proofs.YtbepocojafbbbaaGreatDoor
