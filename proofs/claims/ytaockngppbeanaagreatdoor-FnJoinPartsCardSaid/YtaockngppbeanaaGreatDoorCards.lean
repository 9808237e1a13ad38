/-
  DERIVED. GIVEN WITH THE SEED: THE CARDS: each row of YtaockngppbeanaaGreatDoorRows.lean that lists a variable, with what it lists TIED to the program's text (the seventh form; the later family's looks); each row that meets fmt, with fmt's text TOLD by the authors' own Lean function (tested against real Go, not proved from fmt's source: count such statements apart). THE CARD IS WHAT COUNTS. Prove the row's statement (the work); the ties are given (YtaockngppbeanaaGreatDoorTie.lean); close each card by the builder's one call (the guide's Derived/Test/ToyasCard.lean, 'card_holds'). Laid BY PROGRAM, IN A SANDBOX (cutbox-door.mjs). By AI agents, Wed Nov 11 2026. No macro, syntax, notation, axiom, sorry.
-/
import Derived.Test.YtaockngppbeanaaGreatDoorRows
import GoSem.ClaimSeven
namespace Go.Proofs.YtaockngppbeanaaGreatDoor
namespace Rows

/-- THE TIED CARD OF 'laws.FnIndices'. -/
def fnIndicesCard : Claim7 := { stood := { row := fnIndicesRow, standIns := [], harness := (true, "34576ace1abf9279c66bb0c830340af08c00465d8ed9cfcec34cc98ff62a59c8"), looks := true }, kinds := [], alts := [], laidByText := true, laidKinds := [.data, .data, .widerDeep, .widerDeep, .data, .data, .data, .data, .data, .data, .sentinel, .sentinel, .pinned, .pinned, .pinned], laidTests := true, laidLooks := .later }
def FnIndicesCardSaid : Prop := Claim7.holds Tryz.pinned (.plain (OpenSpec.ofChange fnIndicesSpec)) fnIndicesCard

/-- THE TIED CARD OF 'laws.FnJoinParts'. -/
def fnJoinPartsCard : Claim7 := { stood := { row := fnJoinPartsRow, standIns := [], harness := (true, "34576ace1abf9279c66bb0c830340af08c00465d8ed9cfcec34cc98ff62a59c8"), looks := true }, kinds := [], alts := [], laidByText := true, laidKinds := [.data, .data, .widerDeep, .widerDeep, .data, .data, .data, .data, .data, .data, .sentinel, .sentinel, .pinned, .pinned, .pinned], laidTests := true, laidLooks := .later }
def FnJoinPartsCardSaid : Prop := Claim7.holds Tryz.pinned (.plain (OpenSpec.ofChange fnJoinPartsSpec)) fnJoinPartsCard

/-- THE SECOND FORM's CARD OF 'laws.FnIndices'. -/
def fnIndicesUptoCard : Claim7 := { stood := { row := fnIndicesUptoRow, standIns := [], harness := (true, "34576ace1abf9279c66bb0c830340af08c00465d8ed9cfcec34cc98ff62a59c8"), looks := true }, kinds := [], alts := [], laidByText := true, laidKinds := [.data, .data, .widerDeep, .widerDeep, .data, .data, .data, .data, .data, .data, .sentinel, .sentinel, .pinned, .pinned, .pinned], laidTests := true, laidLooks := .later }
def FnIndicesUptoCardSaid : Prop := Claim7.holds Tryz.pinned (.plain (OpenSpec.upto fnIndicesSpec)) fnIndicesUptoCard

/-- THE SECOND FORM's CARD OF 'laws.FnJoinParts'. -/
def fnJoinPartsUptoCard : Claim7 := { stood := { row := fnJoinPartsUptoRow, standIns := [], harness := (true, "34576ace1abf9279c66bb0c830340af08c00465d8ed9cfcec34cc98ff62a59c8"), looks := true }, kinds := [], alts := [], laidByText := true, laidKinds := [.data, .data, .widerDeep, .widerDeep, .data, .data, .data, .data, .data, .data, .sentinel, .sentinel, .pinned, .pinned, .pinned], laidTests := true, laidLooks := .later }
def FnJoinPartsUptoCardSaid : Prop := Claim7.holds Tryz.pinned (.plain (OpenSpec.upto fnJoinPartsSpec)) fnJoinPartsUptoCard
end Rows
end Go.Proofs.YtaockngppbeanaaGreatDoor
