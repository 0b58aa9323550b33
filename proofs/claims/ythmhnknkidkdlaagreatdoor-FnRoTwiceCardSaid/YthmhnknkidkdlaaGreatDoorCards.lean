/-
  DERIVED. GIVEN WITH THE SEED: THE CARDS: each row of YthmhnknkidkdlaaGreatDoorRows.lean that lists a variable, with what it lists TIED to the program's text (the seventh form; the later family's looks); each row that meets fmt, with fmt's text TOLD by the authors' own Lean function (tested against real Go, not proved from fmt's source: count such statements apart). THE CARD IS WHAT COUNTS. Prove the row's statement (the work); the ties are given (YthmhnknkidkdlaaGreatDoorTie.lean); close each card by the builder's one call (the guide's Derived/Test/ToyasCard.lean, 'card_holds'). Laid BY PROGRAM, IN A SANDBOX (cutbox-door.mjs). By AI agents, Wed Nov 11 2026. No macro, syntax, notation, axiom, sorry.
-/
import Derived.Test.YthmhnknkidkdlaaGreatDoorRows
import GoSem.ClaimSeven
namespace Go.Proofs.YthmhnknkidkdlaaGreatDoor
namespace Rows

/-- THE TIED CARD OF 'laws.FnRoTwice'. -/
def fnRoTwiceCard : Claim7 := { stood := { row := fnRoTwiceRow, standIns := [], harness := (true, "7bcedef18087e74fd833cd693258d4b2767e5a32a1fb9eb414c77160d78a0084"), looks := true }, kinds := [], alts := [], laidByText := true, laidKinds := [.sentinel, .sentinel, .sentinel, .sentinel, .sentinel, .sentinel, .sentinel, .sentinel, .sentinel, .sentinel, .sentinel, .sentinel, .sentinel, .sentinel, .sentinel, .sentinel, .data, .sentinel, .sentinel, .sentinel, .sentinel], laidTests := true, laidLooks := .later }
def FnRoTwiceCardSaid : Prop := Claim7.holds Tryz.pinned (.plain (OpenSpec.ofChange fnRoTwiceSpec)) fnRoTwiceCard

/-- THE SECOND FORM's CARD OF 'laws.FnRoTwice'. -/
def fnRoTwiceUptoCard : Claim7 := { stood := { row := fnRoTwiceUptoRow, standIns := [], harness := (true, "7bcedef18087e74fd833cd693258d4b2767e5a32a1fb9eb414c77160d78a0084"), looks := true }, kinds := [], alts := [], laidByText := true, laidKinds := [.sentinel, .sentinel, .sentinel, .sentinel, .sentinel, .sentinel, .sentinel, .sentinel, .sentinel, .sentinel, .sentinel, .sentinel, .sentinel, .sentinel, .sentinel, .sentinel, .data, .sentinel, .sentinel, .sentinel, .sentinel], laidTests := true, laidLooks := .later }
def FnRoTwiceUptoCardSaid : Prop := Claim7.holds Tryz.pinned (.plain (OpenSpec.upto fnRoTwiceSpec)) fnRoTwiceUptoCard
end Rows
end Go.Proofs.YthmhnknkidkdlaaGreatDoor
