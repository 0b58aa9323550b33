/-
  DERIVED. GIVEN WITH THE SEED: THE CARDS: each row of YtkdbjocchponfaaGreatDoorRows.lean that lists a variable, with what it lists TIED to the program's text (the seventh form; the later family's looks); each row that meets fmt, with fmt's text TOLD by the authors' own Lean function (tested against real Go, not proved from fmt's source: count such statements apart). THE CARD IS WHAT COUNTS. Prove the row's statement (the work); the ties are given (YtkdbjocchponfaaGreatDoorTie.lean); close each card by the builder's one call (the guide's Derived/Test/ToyasCard.lean, 'card_holds'). Laid BY PROGRAM, IN A SANDBOX (cutbox-door.mjs). By AI agents, Wed Nov 11 2026. No macro, syntax, notation, axiom, sorry.
-/
import Derived.Test.YtkdbjocchponfaaGreatDoorRows
import GoSem.ClaimSeven
namespace Go.Proofs.YtkdbjocchponfaaGreatDoor
namespace Rows

/-- THE TIED CARD OF 'laws.FnIxMakeZero'. -/
def fnIxMakeZeroCard : Claim7 := { stood := { row := fnIxMakeZeroRow, standIns := [], harness := (true, "c33deae562035c3eeb8651bc4684ddf6e7f275eab35206bfd5886ba53858194f"), looks := true }, kinds := [], alts := [], laidByText := true, laidKinds := [.sentinel, .sentinel, .sentinel, .sentinel, .sentinel, .sentinel, .sentinel, .sentinel, .sentinel, .sentinel, .sentinel, .sentinel, .sentinel, .sentinel, .sentinel, .data, .sentinel, .sentinel, .sentinel], laidTests := true, laidLooks := .later }
def FnIxMakeZeroCardSaid : Prop := Claim7.holds Tryz.pinned (.plain (OpenSpec.ofChange fnIxMakeZeroSpec)) fnIxMakeZeroCard

/-- THE SECOND FORM's CARD OF 'laws.FnIxMakeZero'. -/
def fnIxMakeZeroUptoCard : Claim7 := { stood := { row := fnIxMakeZeroUptoRow, standIns := [], harness := (true, "c33deae562035c3eeb8651bc4684ddf6e7f275eab35206bfd5886ba53858194f"), looks := true }, kinds := [], alts := [], laidByText := true, laidKinds := [.sentinel, .sentinel, .sentinel, .sentinel, .sentinel, .sentinel, .sentinel, .sentinel, .sentinel, .sentinel, .sentinel, .sentinel, .sentinel, .sentinel, .sentinel, .data, .sentinel, .sentinel, .sentinel], laidTests := true, laidLooks := .later }
def FnIxMakeZeroUptoCardSaid : Prop := Claim7.holds Tryz.pinned (.plain (OpenSpec.upto fnIxMakeZeroSpec)) fnIxMakeZeroUptoCard
end Rows
end Go.Proofs.YtkdbjocchponfaaGreatDoor
