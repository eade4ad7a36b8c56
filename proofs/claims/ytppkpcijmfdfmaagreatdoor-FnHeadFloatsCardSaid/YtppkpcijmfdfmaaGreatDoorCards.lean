/-
  DERIVED. GIVEN WITH THE SEED: THE CARDS: each row of YtppkpcijmfdfmaaGreatDoorRows.lean that lists a variable, with what it lists TIED to the program's text (the seventh form; the later family's looks); each row that meets fmt, with fmt's text TOLD by the authors' own Lean function (tested against real Go, not proved from fmt's source: count such statements apart). THE CARD IS WHAT COUNTS. Prove the row's statement (the work); the ties are given (YtppkpcijmfdfmaaGreatDoorTie.lean); close each card by the builder's one call (the guide's Derived/Test/ToyasCard.lean, 'card_holds'). Laid BY PROGRAM, IN A SANDBOX (cutbox-door.mjs). By AI agents, Wed Nov 11 2026. No macro, syntax, notation, axiom, sorry.
-/
import Derived.Test.YtppkpcijmfdfmaaGreatDoorRows
import GoSem.ClaimSeven
namespace Go.Proofs.YtppkpcijmfdfmaaGreatDoor
namespace Rows

/-- THE TIED CARD OF 'laws.FnHeadFloats'. -/
def fnHeadFloatsCard : Claim7 := { stood := { row := fnHeadFloatsRow, standIns := [], harness := (true, "81d444f15f53a777dd541dbe70da5e577ab0d6b482ad7a3c84e2e74970e47b66"), looks := true }, kinds := [], alts := [], laidByText := true, laidKinds := [.data, .data, .widerDeep, .widerDeep, .data, .data, .data, .data, .data, .data, .data, .data, .data, .sentinel, .sentinel, .data, .pinned, .pinned, .pinned], laidTests := true, laidLooks := .later }
def FnHeadFloatsCardSaid : Prop := Claim7.holds Tryz.pinned (.plain (OpenSpec.ofChange fnHeadFloatsSpec)) fnHeadFloatsCard

/-- THE TIED CARD OF 'laws.FnHeadHalves'. -/
def fnHeadHalvesCard : Claim7 := { stood := { row := fnHeadHalvesRow, standIns := [], harness := (true, "81d444f15f53a777dd541dbe70da5e577ab0d6b482ad7a3c84e2e74970e47b66"), looks := true }, kinds := [], alts := [], laidByText := true, laidKinds := [.data, .data, .widerDeep, .widerDeep, .data, .data, .data, .data, .data, .data, .data, .data, .sentinel, .sentinel, .data, .pinned, .pinned], laidTests := true, laidLooks := .later }
def FnHeadHalvesCardSaid : Prop := Claim7.holds Tryz.pinned (.plain (OpenSpec.ofChange fnHeadHalvesSpec)) fnHeadHalvesCard

/-- THE TIED CARD OF 'laws.FnHeadTens'. -/
def fnHeadTensCard : Claim7 := { stood := { row := fnHeadTensRow, standIns := [], harness := (true, "81d444f15f53a777dd541dbe70da5e577ab0d6b482ad7a3c84e2e74970e47b66"), looks := true }, kinds := [], alts := [], laidByText := true, laidKinds := [.data, .data, .widerDeep, .widerDeep, .data, .data, .data, .data, .data, .data, .data, .data, .sentinel, .sentinel, .data, .pinned, .pinned], laidTests := true, laidLooks := .later }
def FnHeadTensCardSaid : Prop := Claim7.holds Tryz.pinned (.plain (OpenSpec.ofChange fnHeadTensSpec)) fnHeadTensCard

/-- THE TIED CARD OF 'laws.FnHeadOneKind'. -/
def fnHeadOneKindCard : Claim7 := { stood := { row := fnHeadOneKindRow, standIns := [], harness := (true, "81d444f15f53a777dd541dbe70da5e577ab0d6b482ad7a3c84e2e74970e47b66"), looks := true }, kinds := [], alts := [], laidByText := true, laidKinds := [.data, .data, .widerDeep, .widerDeep, .data, .data, .data, .data, .data, .data, .data, .data, .data, .sentinel, .sentinel, .data, .pinned, .pinned, .pinned], laidTests := true, laidLooks := .later }
def FnHeadOneKindCardSaid : Prop := Claim7.holds Tryz.pinned (.plain (OpenSpec.ofChange fnHeadOneKindSpec)) fnHeadOneKindCard

/-- THE TIED CARD OF 'laws.FnHeadAgree'. -/
def fnHeadAgreeCard : Claim7 := { stood := { row := fnHeadAgreeRow, standIns := [], harness := (true, "81d444f15f53a777dd541dbe70da5e577ab0d6b482ad7a3c84e2e74970e47b66"), looks := true }, kinds := [], alts := [], laidByText := true, laidKinds := [.data, .data, .widerDeep, .widerDeep, .data, .data, .data, .data, .data, .data, .data, .data, .data, .sentinel, .sentinel, .data, .pinned, .pinned, .pinned], laidTests := true, laidLooks := .later }
def FnHeadAgreeCardSaid : Prop := Claim7.holds Tryz.pinned (.plain (OpenSpec.ofChange fnHeadAgreeSpec)) fnHeadAgreeCard

/-- THE TIED CARD OF 'laws.FnHeadRuns'. -/
def fnHeadRunsCard : Claim7 := { stood := { row := fnHeadRunsRow, standIns := [], harness := (true, "81d444f15f53a777dd541dbe70da5e577ab0d6b482ad7a3c84e2e74970e47b66"), looks := true }, kinds := [], alts := [], laidByText := true, laidKinds := [.data, .data, .widerDeep, .widerDeep, .data, .data, .data, .data, .data, .data, .data, .data, .data, .sentinel, .sentinel, .data, .pinned, .pinned, .pinned], laidTests := true, laidLooks := .later }
def FnHeadRunsCardSaid : Prop := Claim7.holds Tryz.pinned (.plain (OpenSpec.ofChange fnHeadRunsSpec)) fnHeadRunsCard

/-- THE TIED CARD OF 'laws.FnHeadTrees'. -/
def fnHeadTreesCard : Claim7 := { stood := { row := fnHeadTreesRow, standIns := [], harness := (true, "81d444f15f53a777dd541dbe70da5e577ab0d6b482ad7a3c84e2e74970e47b66"), looks := true }, kinds := [], alts := [], laidByText := true, laidKinds := [.data, .data, .widerDeep, .widerDeep, .data, .data, .data, .data, .data, .data, .data, .data, .data, .sentinel, .sentinel, .data, .pinned, .pinned, .pinned], laidTests := true, laidLooks := .later }
def FnHeadTreesCardSaid : Prop := Claim7.holds Tryz.pinned (.plain (OpenSpec.ofChange fnHeadTreesSpec)) fnHeadTreesCard

/-- THE TIED CARD OF 'laws.FnHeadNoObject'. -/
def fnHeadNoObjectCard : Claim7 := { stood := { row := fnHeadNoObjectRow, standIns := [], harness := (true, "81d444f15f53a777dd541dbe70da5e577ab0d6b482ad7a3c84e2e74970e47b66"), looks := true }, kinds := [], alts := [], laidByText := true, laidKinds := [.data, .data, .widerDeep, .widerDeep, .data, .data, .data, .data, .data, .data, .data, .data, .data, .sentinel, .sentinel, .data, .pinned, .pinned, .pinned], laidTests := true, laidLooks := .later }
def FnHeadNoObjectCardSaid : Prop := Claim7.holds Tryz.pinned (.plain (OpenSpec.ofChange fnHeadNoObjectSpec)) fnHeadNoObjectCard

/-- THE TIED CARD OF 'laws.FnHeadTorn'. -/
def fnHeadTornCard : Claim7 := { stood := { row := fnHeadTornRow, standIns := [], harness := (true, "81d444f15f53a777dd541dbe70da5e577ab0d6b482ad7a3c84e2e74970e47b66"), looks := true }, kinds := [], alts := [], laidByText := true, laidKinds := [.data, .data, .widerDeep, .widerDeep, .data, .data, .data, .data, .data, .data, .data, .data, .data, .sentinel, .sentinel, .data, .pinned, .pinned, .pinned], laidTests := true, laidLooks := .later }
def FnHeadTornCardSaid : Prop := Claim7.holds Tryz.pinned (.plain (OpenSpec.ofChange fnHeadTornSpec)) fnHeadTornCard

/-- THE TIED CARD OF 'laws.FnHeadWrongWord'. -/
def fnHeadWrongWordCard : Claim7 := { stood := { row := fnHeadWrongWordRow, standIns := [], harness := (true, "81d444f15f53a777dd541dbe70da5e577ab0d6b482ad7a3c84e2e74970e47b66"), looks := true }, kinds := [], alts := [], laidByText := true, laidKinds := [.data, .data, .widerDeep, .widerDeep, .data, .data, .data, .data, .data, .data, .data, .data, .data, .sentinel, .sentinel, .data, .pinned, .pinned, .pinned], laidTests := true, laidLooks := .later }
def FnHeadWrongWordCardSaid : Prop := Claim7.holds Tryz.pinned (.plain (OpenSpec.ofChange fnHeadWrongWordSpec)) fnHeadWrongWordCard

/-- THE TIED CARD OF 'laws.FnHeadWritten'. -/
def fnHeadWrittenCard : Claim7 := { stood := { row := fnHeadWrittenRow, standIns := [], harness := (true, "81d444f15f53a777dd541dbe70da5e577ab0d6b482ad7a3c84e2e74970e47b66"), looks := true }, kinds := [], alts := [], laidByText := true, laidKinds := [.data, .data, .widerDeep, .widerDeep, .data, .data, .data, .data, .data, .data, .data, .data, .data, .sentinel, .sentinel, .data, .pinned, .pinned, .pinned], laidTests := true, laidLooks := .later }
def FnHeadWrittenCardSaid : Prop := Claim7.holds Tryz.pinned (.plain (OpenSpec.ofChange fnHeadWrittenSpec)) fnHeadWrittenCard

/-- THE TIED CARD OF 'laws.FnHeadTwice'. -/
def fnHeadTwiceCard : Claim7 := { stood := { row := fnHeadTwiceRow, standIns := [], harness := (true, "81d444f15f53a777dd541dbe70da5e577ab0d6b482ad7a3c84e2e74970e47b66"), looks := true }, kinds := [], alts := [], laidByText := true, laidKinds := [.data, .data, .widerDeep, .widerDeep, .data, .data, .data, .data, .data, .data, .data, .data, .data, .sentinel, .sentinel, .data, .pinned, .pinned, .pinned], laidTests := true, laidLooks := .later }
def FnHeadTwiceCardSaid : Prop := Claim7.holds Tryz.pinned (.plain (OpenSpec.ofChange fnHeadTwiceSpec)) fnHeadTwiceCard

/-- THE TIED CARD OF 'laws.FnHeadAdded'. -/
def fnHeadAddedCard : Claim7 := { stood := { row := fnHeadAddedRow, standIns := [], harness := (true, "81d444f15f53a777dd541dbe70da5e577ab0d6b482ad7a3c84e2e74970e47b66"), looks := true }, kinds := [], alts := [], laidByText := true, laidKinds := [.data, .data, .widerDeep, .widerDeep, .data, .data, .data, .data, .data, .data, .data, .data, .data, .sentinel, .sentinel, .data, .pinned, .pinned, .pinned], laidTests := true, laidLooks := .later }
def FnHeadAddedCardSaid : Prop := Claim7.holds Tryz.pinned (.plain (OpenSpec.ofChange fnHeadAddedSpec)) fnHeadAddedCard

/-- THE TIED CARD OF 'laws.FnHeadTurned'. -/
def fnHeadTurnedCard : Claim7 := { stood := { row := fnHeadTurnedRow, standIns := [], harness := (true, "81d444f15f53a777dd541dbe70da5e577ab0d6b482ad7a3c84e2e74970e47b66"), looks := true }, kinds := [], alts := [], laidByText := true, laidKinds := [.data, .data, .widerDeep, .widerDeep, .data, .data, .data, .data, .data, .data, .data, .data, .data, .sentinel, .sentinel, .data, .pinned, .pinned, .pinned], laidTests := true, laidLooks := .later }
def FnHeadTurnedCardSaid : Prop := Claim7.holds Tryz.pinned (.plain (OpenSpec.ofChange fnHeadTurnedSpec)) fnHeadTurnedCard

/-- THE TIED CARD OF 'laws.FnHeadChanged'. -/
def fnHeadChangedCard : Claim7 := { stood := { row := fnHeadChangedRow, standIns := [], harness := (true, "81d444f15f53a777dd541dbe70da5e577ab0d6b482ad7a3c84e2e74970e47b66"), looks := true }, kinds := [], alts := [], laidByText := true, laidKinds := [.data, .data, .widerDeep, .widerDeep, .data, .data, .data, .data, .data, .data, .data, .data, .data, .sentinel, .sentinel, .data, .pinned, .pinned, .pinned], laidTests := true, laidLooks := .later }
def FnHeadChangedCardSaid : Prop := Claim7.holds Tryz.pinned (.plain (OpenSpec.ofChange fnHeadChangedSpec)) fnHeadChangedCard

/-- THE TIED CARD OF 'laws.FnHeadWithout'. -/
def fnHeadWithoutCard : Claim7 := { stood := { row := fnHeadWithoutRow, standIns := [], harness := (true, "81d444f15f53a777dd541dbe70da5e577ab0d6b482ad7a3c84e2e74970e47b66"), looks := true }, kinds := [], alts := [], laidByText := true, laidKinds := [.data, .data, .widerDeep, .widerDeep, .data, .data, .data, .data, .data, .data, .data, .data, .data, .sentinel, .sentinel, .data, .pinned, .pinned, .pinned], laidTests := true, laidLooks := .later }
def FnHeadWithoutCardSaid : Prop := Claim7.holds Tryz.pinned (.plain (OpenSpec.ofChange fnHeadWithoutSpec)) fnHeadWithoutCard

/-- THE TIED CARD OF 'laws.FnHeadDoubled'. -/
def fnHeadDoubledCard : Claim7 := { stood := { row := fnHeadDoubledRow, standIns := [], harness := (true, "81d444f15f53a777dd541dbe70da5e577ab0d6b482ad7a3c84e2e74970e47b66"), looks := true }, kinds := [], alts := [], laidByText := true, laidKinds := [.data, .data, .widerDeep, .widerDeep, .data, .data, .data, .data, .data, .data, .data, .data, .data, .sentinel, .sentinel, .data, .pinned, .pinned, .pinned], laidTests := true, laidLooks := .later }
def FnHeadDoubledCardSaid : Prop := Claim7.holds Tryz.pinned (.plain (OpenSpec.ofChange fnHeadDoubledSpec)) fnHeadDoubledCard

/-- THE TIED CARD OF 'laws.FnHeadLost'. -/
def fnHeadLostCard : Claim7 := { stood := { row := fnHeadLostRow, standIns := [], harness := (true, "81d444f15f53a777dd541dbe70da5e577ab0d6b482ad7a3c84e2e74970e47b66"), looks := true }, kinds := [], alts := [], laidByText := true, laidKinds := [.data, .data, .widerDeep, .widerDeep, .data, .data, .data, .data, .data, .data, .data, .data, .data, .sentinel, .sentinel, .data, .pinned, .pinned, .pinned], laidTests := true, laidLooks := .later }
def FnHeadLostCardSaid : Prop := Claim7.holds Tryz.pinned (.plain (OpenSpec.ofChange fnHeadLostSpec)) fnHeadLostCard

/-- THE SECOND FORM's CARD OF 'laws.FnHeadFloats'. -/
def fnHeadFloatsUptoCard : Claim7 := { stood := { row := fnHeadFloatsUptoRow, standIns := [], harness := (true, "81d444f15f53a777dd541dbe70da5e577ab0d6b482ad7a3c84e2e74970e47b66"), looks := true }, kinds := [], alts := [], laidByText := true, laidKinds := [.data, .data, .widerDeep, .widerDeep, .data, .data, .data, .data, .data, .data, .data, .data, .data, .sentinel, .sentinel, .data, .pinned, .pinned, .pinned], laidTests := true, laidLooks := .later }
def FnHeadFloatsUptoCardSaid : Prop := Claim7.holds Tryz.pinned (.plain (OpenSpec.upto fnHeadFloatsSpec)) fnHeadFloatsUptoCard

/-- THE SECOND FORM's CARD OF 'laws.FnHeadHalves'. -/
def fnHeadHalvesUptoCard : Claim7 := { stood := { row := fnHeadHalvesUptoRow, standIns := [], harness := (true, "81d444f15f53a777dd541dbe70da5e577ab0d6b482ad7a3c84e2e74970e47b66"), looks := true }, kinds := [], alts := [], laidByText := true, laidKinds := [.data, .data, .widerDeep, .widerDeep, .data, .data, .data, .data, .data, .data, .data, .data, .sentinel, .sentinel, .data, .pinned, .pinned], laidTests := true, laidLooks := .later }
def FnHeadHalvesUptoCardSaid : Prop := Claim7.holds Tryz.pinned (.plain (OpenSpec.upto fnHeadHalvesSpec)) fnHeadHalvesUptoCard

/-- THE SECOND FORM's CARD OF 'laws.FnHeadTens'. -/
def fnHeadTensUptoCard : Claim7 := { stood := { row := fnHeadTensUptoRow, standIns := [], harness := (true, "81d444f15f53a777dd541dbe70da5e577ab0d6b482ad7a3c84e2e74970e47b66"), looks := true }, kinds := [], alts := [], laidByText := true, laidKinds := [.data, .data, .widerDeep, .widerDeep, .data, .data, .data, .data, .data, .data, .data, .data, .sentinel, .sentinel, .data, .pinned, .pinned], laidTests := true, laidLooks := .later }
def FnHeadTensUptoCardSaid : Prop := Claim7.holds Tryz.pinned (.plain (OpenSpec.upto fnHeadTensSpec)) fnHeadTensUptoCard

/-- THE SECOND FORM's CARD OF 'laws.FnHeadOneKind'. -/
def fnHeadOneKindUptoCard : Claim7 := { stood := { row := fnHeadOneKindUptoRow, standIns := [], harness := (true, "81d444f15f53a777dd541dbe70da5e577ab0d6b482ad7a3c84e2e74970e47b66"), looks := true }, kinds := [], alts := [], laidByText := true, laidKinds := [.data, .data, .widerDeep, .widerDeep, .data, .data, .data, .data, .data, .data, .data, .data, .data, .sentinel, .sentinel, .data, .pinned, .pinned, .pinned], laidTests := true, laidLooks := .later }
def FnHeadOneKindUptoCardSaid : Prop := Claim7.holds Tryz.pinned (.plain (OpenSpec.upto fnHeadOneKindSpec)) fnHeadOneKindUptoCard

/-- THE SECOND FORM's CARD OF 'laws.FnHeadAgree'. -/
def fnHeadAgreeUptoCard : Claim7 := { stood := { row := fnHeadAgreeUptoRow, standIns := [], harness := (true, "81d444f15f53a777dd541dbe70da5e577ab0d6b482ad7a3c84e2e74970e47b66"), looks := true }, kinds := [], alts := [], laidByText := true, laidKinds := [.data, .data, .widerDeep, .widerDeep, .data, .data, .data, .data, .data, .data, .data, .data, .data, .sentinel, .sentinel, .data, .pinned, .pinned, .pinned], laidTests := true, laidLooks := .later }
def FnHeadAgreeUptoCardSaid : Prop := Claim7.holds Tryz.pinned (.plain (OpenSpec.upto fnHeadAgreeSpec)) fnHeadAgreeUptoCard

/-- THE SECOND FORM's CARD OF 'laws.FnHeadRuns'. -/
def fnHeadRunsUptoCard : Claim7 := { stood := { row := fnHeadRunsUptoRow, standIns := [], harness := (true, "81d444f15f53a777dd541dbe70da5e577ab0d6b482ad7a3c84e2e74970e47b66"), looks := true }, kinds := [], alts := [], laidByText := true, laidKinds := [.data, .data, .widerDeep, .widerDeep, .data, .data, .data, .data, .data, .data, .data, .data, .data, .sentinel, .sentinel, .data, .pinned, .pinned, .pinned], laidTests := true, laidLooks := .later }
def FnHeadRunsUptoCardSaid : Prop := Claim7.holds Tryz.pinned (.plain (OpenSpec.upto fnHeadRunsSpec)) fnHeadRunsUptoCard

/-- THE SECOND FORM's CARD OF 'laws.FnHeadTrees'. -/
def fnHeadTreesUptoCard : Claim7 := { stood := { row := fnHeadTreesUptoRow, standIns := [], harness := (true, "81d444f15f53a777dd541dbe70da5e577ab0d6b482ad7a3c84e2e74970e47b66"), looks := true }, kinds := [], alts := [], laidByText := true, laidKinds := [.data, .data, .widerDeep, .widerDeep, .data, .data, .data, .data, .data, .data, .data, .data, .data, .sentinel, .sentinel, .data, .pinned, .pinned, .pinned], laidTests := true, laidLooks := .later }
def FnHeadTreesUptoCardSaid : Prop := Claim7.holds Tryz.pinned (.plain (OpenSpec.upto fnHeadTreesSpec)) fnHeadTreesUptoCard

/-- THE SECOND FORM's CARD OF 'laws.FnHeadNoObject'. -/
def fnHeadNoObjectUptoCard : Claim7 := { stood := { row := fnHeadNoObjectUptoRow, standIns := [], harness := (true, "81d444f15f53a777dd541dbe70da5e577ab0d6b482ad7a3c84e2e74970e47b66"), looks := true }, kinds := [], alts := [], laidByText := true, laidKinds := [.data, .data, .widerDeep, .widerDeep, .data, .data, .data, .data, .data, .data, .data, .data, .data, .sentinel, .sentinel, .data, .pinned, .pinned, .pinned], laidTests := true, laidLooks := .later }
def FnHeadNoObjectUptoCardSaid : Prop := Claim7.holds Tryz.pinned (.plain (OpenSpec.upto fnHeadNoObjectSpec)) fnHeadNoObjectUptoCard

/-- THE SECOND FORM's CARD OF 'laws.FnHeadTorn'. -/
def fnHeadTornUptoCard : Claim7 := { stood := { row := fnHeadTornUptoRow, standIns := [], harness := (true, "81d444f15f53a777dd541dbe70da5e577ab0d6b482ad7a3c84e2e74970e47b66"), looks := true }, kinds := [], alts := [], laidByText := true, laidKinds := [.data, .data, .widerDeep, .widerDeep, .data, .data, .data, .data, .data, .data, .data, .data, .data, .sentinel, .sentinel, .data, .pinned, .pinned, .pinned], laidTests := true, laidLooks := .later }
def FnHeadTornUptoCardSaid : Prop := Claim7.holds Tryz.pinned (.plain (OpenSpec.upto fnHeadTornSpec)) fnHeadTornUptoCard

/-- THE SECOND FORM's CARD OF 'laws.FnHeadWrongWord'. -/
def fnHeadWrongWordUptoCard : Claim7 := { stood := { row := fnHeadWrongWordUptoRow, standIns := [], harness := (true, "81d444f15f53a777dd541dbe70da5e577ab0d6b482ad7a3c84e2e74970e47b66"), looks := true }, kinds := [], alts := [], laidByText := true, laidKinds := [.data, .data, .widerDeep, .widerDeep, .data, .data, .data, .data, .data, .data, .data, .data, .data, .sentinel, .sentinel, .data, .pinned, .pinned, .pinned], laidTests := true, laidLooks := .later }
def FnHeadWrongWordUptoCardSaid : Prop := Claim7.holds Tryz.pinned (.plain (OpenSpec.upto fnHeadWrongWordSpec)) fnHeadWrongWordUptoCard

/-- THE SECOND FORM's CARD OF 'laws.FnHeadWritten'. -/
def fnHeadWrittenUptoCard : Claim7 := { stood := { row := fnHeadWrittenUptoRow, standIns := [], harness := (true, "81d444f15f53a777dd541dbe70da5e577ab0d6b482ad7a3c84e2e74970e47b66"), looks := true }, kinds := [], alts := [], laidByText := true, laidKinds := [.data, .data, .widerDeep, .widerDeep, .data, .data, .data, .data, .data, .data, .data, .data, .data, .sentinel, .sentinel, .data, .pinned, .pinned, .pinned], laidTests := true, laidLooks := .later }
def FnHeadWrittenUptoCardSaid : Prop := Claim7.holds Tryz.pinned (.plain (OpenSpec.upto fnHeadWrittenSpec)) fnHeadWrittenUptoCard

/-- THE SECOND FORM's CARD OF 'laws.FnHeadTwice'. -/
def fnHeadTwiceUptoCard : Claim7 := { stood := { row := fnHeadTwiceUptoRow, standIns := [], harness := (true, "81d444f15f53a777dd541dbe70da5e577ab0d6b482ad7a3c84e2e74970e47b66"), looks := true }, kinds := [], alts := [], laidByText := true, laidKinds := [.data, .data, .widerDeep, .widerDeep, .data, .data, .data, .data, .data, .data, .data, .data, .data, .sentinel, .sentinel, .data, .pinned, .pinned, .pinned], laidTests := true, laidLooks := .later }
def FnHeadTwiceUptoCardSaid : Prop := Claim7.holds Tryz.pinned (.plain (OpenSpec.upto fnHeadTwiceSpec)) fnHeadTwiceUptoCard

/-- THE SECOND FORM's CARD OF 'laws.FnHeadAdded'. -/
def fnHeadAddedUptoCard : Claim7 := { stood := { row := fnHeadAddedUptoRow, standIns := [], harness := (true, "81d444f15f53a777dd541dbe70da5e577ab0d6b482ad7a3c84e2e74970e47b66"), looks := true }, kinds := [], alts := [], laidByText := true, laidKinds := [.data, .data, .widerDeep, .widerDeep, .data, .data, .data, .data, .data, .data, .data, .data, .data, .sentinel, .sentinel, .data, .pinned, .pinned, .pinned], laidTests := true, laidLooks := .later }
def FnHeadAddedUptoCardSaid : Prop := Claim7.holds Tryz.pinned (.plain (OpenSpec.upto fnHeadAddedSpec)) fnHeadAddedUptoCard

/-- THE SECOND FORM's CARD OF 'laws.FnHeadTurned'. -/
def fnHeadTurnedUptoCard : Claim7 := { stood := { row := fnHeadTurnedUptoRow, standIns := [], harness := (true, "81d444f15f53a777dd541dbe70da5e577ab0d6b482ad7a3c84e2e74970e47b66"), looks := true }, kinds := [], alts := [], laidByText := true, laidKinds := [.data, .data, .widerDeep, .widerDeep, .data, .data, .data, .data, .data, .data, .data, .data, .data, .sentinel, .sentinel, .data, .pinned, .pinned, .pinned], laidTests := true, laidLooks := .later }
def FnHeadTurnedUptoCardSaid : Prop := Claim7.holds Tryz.pinned (.plain (OpenSpec.upto fnHeadTurnedSpec)) fnHeadTurnedUptoCard

/-- THE SECOND FORM's CARD OF 'laws.FnHeadChanged'. -/
def fnHeadChangedUptoCard : Claim7 := { stood := { row := fnHeadChangedUptoRow, standIns := [], harness := (true, "81d444f15f53a777dd541dbe70da5e577ab0d6b482ad7a3c84e2e74970e47b66"), looks := true }, kinds := [], alts := [], laidByText := true, laidKinds := [.data, .data, .widerDeep, .widerDeep, .data, .data, .data, .data, .data, .data, .data, .data, .data, .sentinel, .sentinel, .data, .pinned, .pinned, .pinned], laidTests := true, laidLooks := .later }
def FnHeadChangedUptoCardSaid : Prop := Claim7.holds Tryz.pinned (.plain (OpenSpec.upto fnHeadChangedSpec)) fnHeadChangedUptoCard

/-- THE SECOND FORM's CARD OF 'laws.FnHeadWithout'. -/
def fnHeadWithoutUptoCard : Claim7 := { stood := { row := fnHeadWithoutUptoRow, standIns := [], harness := (true, "81d444f15f53a777dd541dbe70da5e577ab0d6b482ad7a3c84e2e74970e47b66"), looks := true }, kinds := [], alts := [], laidByText := true, laidKinds := [.data, .data, .widerDeep, .widerDeep, .data, .data, .data, .data, .data, .data, .data, .data, .data, .sentinel, .sentinel, .data, .pinned, .pinned, .pinned], laidTests := true, laidLooks := .later }
def FnHeadWithoutUptoCardSaid : Prop := Claim7.holds Tryz.pinned (.plain (OpenSpec.upto fnHeadWithoutSpec)) fnHeadWithoutUptoCard

/-- THE SECOND FORM's CARD OF 'laws.FnHeadDoubled'. -/
def fnHeadDoubledUptoCard : Claim7 := { stood := { row := fnHeadDoubledUptoRow, standIns := [], harness := (true, "81d444f15f53a777dd541dbe70da5e577ab0d6b482ad7a3c84e2e74970e47b66"), looks := true }, kinds := [], alts := [], laidByText := true, laidKinds := [.data, .data, .widerDeep, .widerDeep, .data, .data, .data, .data, .data, .data, .data, .data, .data, .sentinel, .sentinel, .data, .pinned, .pinned, .pinned], laidTests := true, laidLooks := .later }
def FnHeadDoubledUptoCardSaid : Prop := Claim7.holds Tryz.pinned (.plain (OpenSpec.upto fnHeadDoubledSpec)) fnHeadDoubledUptoCard

/-- THE SECOND FORM's CARD OF 'laws.FnHeadLost'. -/
def fnHeadLostUptoCard : Claim7 := { stood := { row := fnHeadLostUptoRow, standIns := [], harness := (true, "81d444f15f53a777dd541dbe70da5e577ab0d6b482ad7a3c84e2e74970e47b66"), looks := true }, kinds := [], alts := [], laidByText := true, laidKinds := [.data, .data, .widerDeep, .widerDeep, .data, .data, .data, .data, .data, .data, .data, .data, .data, .sentinel, .sentinel, .data, .pinned, .pinned, .pinned], laidTests := true, laidLooks := .later }
def FnHeadLostUptoCardSaid : Prop := Claim7.holds Tryz.pinned (.plain (OpenSpec.upto fnHeadLostSpec)) fnHeadLostUptoCard
end Rows
end Go.Proofs.YtppkpcijmfdfmaaGreatDoor
