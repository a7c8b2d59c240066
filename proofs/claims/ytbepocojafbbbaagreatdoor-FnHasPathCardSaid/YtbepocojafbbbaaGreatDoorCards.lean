/-
  DERIVED. GIVEN WITH THE SEED: THE CARDS: each row of YtbepocojafbbbaaGreatDoorRows.lean that lists a variable, with what it lists TIED to the program's text (the seventh form; the later family's looks); each row that meets fmt, with fmt's text TOLD by the authors' own Lean function (tested against real Go, not proved from fmt's source: count such statements apart). THE CARD IS WHAT COUNTS. Prove the row's statement (the work); the ties are given (YtbepocojafbbbaaGreatDoorTie.lean); close each card by the builder's one call (the guide's Derived/Test/ToyasCard.lean, 'card_holds'). Laid BY PROGRAM, IN A SANDBOX (cutbox-door.mjs). By AI agents, Wed Nov 11 2026. No macro, syntax, notation, axiom, sorry.
-/
import Derived.Test.YtbepocojafbbbaaGreatDoorRows
import GoSem.ClaimSeven
namespace Go.Proofs.YtbepocojafbbbaaGreatDoor
namespace Rows

/-- THE TIED CARD OF 'laws.FnHasPath'. -/
def fnHasPathCard : Claim7 := { stood := { row := fnHasPathRow, standIns := [], harness := (true, "d288c69b76e0cbd7dc9d72982df11b85d9f0d97f9ddd9438485019f9838beaf4"), looks := true }, kinds := [], alts := [], laidByText := true, laidKinds := [.data, .data, .data, .data, .data, .sentinel, .sentinel, .sentinel, .sentinel, .pinned], laidTests := true, laidLooks := .later }
def FnHasPathCardSaid : Prop := Claim7.holds Tryz.pinned (.plain (OpenSpec.ofChange fnHasPathSpec)) fnHasPathCard

/-- THE TIED CARD OF 'laws.FnDecodeJoined'. -/
def fnDecodeJoinedCard : Claim7 := { stood := { row := fnDecodeJoinedRow, standIns := [], harness := (true, "d288c69b76e0cbd7dc9d72982df11b85d9f0d97f9ddd9438485019f9838beaf4"), looks := true }, kinds := [], alts := [], laidByText := true, laidKinds := [.data, .data, .data, .data, .data, .sentinel, .sentinel, .sentinel, .sentinel, .pinned], laidTests := true, laidLooks := .later }
def FnDecodeJoinedCardSaid : Prop := Claim7.holds Tryz.pinned (.plain (OpenSpec.ofChange fnDecodeJoinedSpec)) fnDecodeJoinedCard

/-- THE TIED CARD OF 'laws.FnPolicyParses'. -/
def fnPolicyParsesCard : Claim7 := { stood := { row := fnPolicyParsesRow, standIns := [], harness := (true, "d288c69b76e0cbd7dc9d72982df11b85d9f0d97f9ddd9438485019f9838beaf4"), looks := true }, kinds := [], alts := [], laidByText := true, laidKinds := [.data, .data, .data, .data, .data, .sentinel, .sentinel, .sentinel, .sentinel, .pinned], laidTests := true, laidLooks := .later }
def FnPolicyParsesCardSaid : Prop := Claim7.holds Tryz.pinned (.plain (OpenSpec.ofChange fnPolicyParsesSpec)) fnPolicyParsesCard

/-- THE TIED CARD OF 'laws.FnReadIf'. -/
def fnReadIfCard : Claim7 := { stood := { row := fnReadIfRow, standIns := [], harness := (true, "d288c69b76e0cbd7dc9d72982df11b85d9f0d97f9ddd9438485019f9838beaf4"), looks := true }, kinds := [], alts := [], laidByText := true, laidKinds := [.data, .data, .data, .data, .data, .sentinel, .sentinel, .sentinel, .sentinel, .pinned], laidTests := true, laidLooks := .later }
def FnReadIfCardSaid : Prop := Claim7.holds Tryz.pinned (.plain (OpenSpec.ofChange fnReadIfSpec)) fnReadIfCard

/-- THE TIED CARD OF 'laws.FnReadIsIn'. -/
def fnReadIsInCard : Claim7 := { stood := { row := fnReadIsInRow, standIns := [], harness := (true, "d288c69b76e0cbd7dc9d72982df11b85d9f0d97f9ddd9438485019f9838beaf4"), looks := true }, kinds := [], alts := [], laidByText := true, laidKinds := [.data, .data, .data, .data, .data, .sentinel, .sentinel, .sentinel, .sentinel, .pinned], laidTests := true, laidLooks := .later }
def FnReadIsInCardSaid : Prop := Claim7.holds Tryz.pinned (.plain (OpenSpec.ofChange fnReadIsInSpec)) fnReadIsInCard

/-- THE TIED CARD OF 'laws.FnReadWhole'. -/
def fnReadWholeCard : Claim7 := { stood := { row := fnReadWholeRow, standIns := [], harness := (true, "d288c69b76e0cbd7dc9d72982df11b85d9f0d97f9ddd9438485019f9838beaf4"), looks := true }, kinds := [], alts := [], laidByText := true, laidKinds := [.data, .data, .data, .data, .data, .sentinel, .sentinel, .sentinel, .sentinel, .pinned], laidTests := true, laidLooks := .later }
def FnReadWholeCardSaid : Prop := Claim7.holds Tryz.pinned (.plain (OpenSpec.ofChange fnReadWholeSpec)) fnReadWholeCard

/-- THE SECOND FORM's CARD OF 'laws.FnHasPath'. -/
def fnHasPathUptoCard : Claim7 := { stood := { row := fnHasPathUptoRow, standIns := [], harness := (true, "d288c69b76e0cbd7dc9d72982df11b85d9f0d97f9ddd9438485019f9838beaf4"), looks := true }, kinds := [], alts := [], laidByText := true, laidKinds := [.data, .data, .data, .data, .data, .sentinel, .sentinel, .sentinel, .sentinel, .pinned], laidTests := true, laidLooks := .later }
def FnHasPathUptoCardSaid : Prop := Claim7.holds Tryz.pinned (.plain (OpenSpec.upto fnHasPathSpec)) fnHasPathUptoCard

/-- THE SECOND FORM's CARD OF 'laws.FnDecodeJoined'. -/
def fnDecodeJoinedUptoCard : Claim7 := { stood := { row := fnDecodeJoinedUptoRow, standIns := [], harness := (true, "d288c69b76e0cbd7dc9d72982df11b85d9f0d97f9ddd9438485019f9838beaf4"), looks := true }, kinds := [], alts := [], laidByText := true, laidKinds := [.data, .data, .data, .data, .data, .sentinel, .sentinel, .sentinel, .sentinel, .pinned], laidTests := true, laidLooks := .later }
def FnDecodeJoinedUptoCardSaid : Prop := Claim7.holds Tryz.pinned (.plain (OpenSpec.upto fnDecodeJoinedSpec)) fnDecodeJoinedUptoCard

/-- THE SECOND FORM's CARD OF 'laws.FnPolicyParses'. -/
def fnPolicyParsesUptoCard : Claim7 := { stood := { row := fnPolicyParsesUptoRow, standIns := [], harness := (true, "d288c69b76e0cbd7dc9d72982df11b85d9f0d97f9ddd9438485019f9838beaf4"), looks := true }, kinds := [], alts := [], laidByText := true, laidKinds := [.data, .data, .data, .data, .data, .sentinel, .sentinel, .sentinel, .sentinel, .pinned], laidTests := true, laidLooks := .later }
def FnPolicyParsesUptoCardSaid : Prop := Claim7.holds Tryz.pinned (.plain (OpenSpec.upto fnPolicyParsesSpec)) fnPolicyParsesUptoCard

/-- THE SECOND FORM's CARD OF 'laws.FnReadIf'. -/
def fnReadIfUptoCard : Claim7 := { stood := { row := fnReadIfUptoRow, standIns := [], harness := (true, "d288c69b76e0cbd7dc9d72982df11b85d9f0d97f9ddd9438485019f9838beaf4"), looks := true }, kinds := [], alts := [], laidByText := true, laidKinds := [.data, .data, .data, .data, .data, .sentinel, .sentinel, .sentinel, .sentinel, .pinned], laidTests := true, laidLooks := .later }
def FnReadIfUptoCardSaid : Prop := Claim7.holds Tryz.pinned (.plain (OpenSpec.upto fnReadIfSpec)) fnReadIfUptoCard

/-- THE SECOND FORM's CARD OF 'laws.FnReadIsIn'. -/
def fnReadIsInUptoCard : Claim7 := { stood := { row := fnReadIsInUptoRow, standIns := [], harness := (true, "d288c69b76e0cbd7dc9d72982df11b85d9f0d97f9ddd9438485019f9838beaf4"), looks := true }, kinds := [], alts := [], laidByText := true, laidKinds := [.data, .data, .data, .data, .data, .sentinel, .sentinel, .sentinel, .sentinel, .pinned], laidTests := true, laidLooks := .later }
def FnReadIsInUptoCardSaid : Prop := Claim7.holds Tryz.pinned (.plain (OpenSpec.upto fnReadIsInSpec)) fnReadIsInUptoCard

/-- THE SECOND FORM's CARD OF 'laws.FnReadWhole'. -/
def fnReadWholeUptoCard : Claim7 := { stood := { row := fnReadWholeUptoRow, standIns := [], harness := (true, "d288c69b76e0cbd7dc9d72982df11b85d9f0d97f9ddd9438485019f9838beaf4"), looks := true }, kinds := [], alts := [], laidByText := true, laidKinds := [.data, .data, .data, .data, .data, .sentinel, .sentinel, .sentinel, .sentinel, .pinned], laidTests := true, laidLooks := .later }
def FnReadWholeUptoCardSaid : Prop := Claim7.holds Tryz.pinned (.plain (OpenSpec.upto fnReadWholeSpec)) fnReadWholeUptoCard
end Rows
end Go.Proofs.YtbepocojafbbbaaGreatDoor
