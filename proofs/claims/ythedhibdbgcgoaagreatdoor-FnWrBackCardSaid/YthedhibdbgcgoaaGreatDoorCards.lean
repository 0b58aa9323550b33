/-
  DERIVED. GIVEN WITH THE SEED: THE CARDS: each row of YthedhibdbgcgoaaGreatDoorRows.lean that lists a variable, with what it lists TIED to the program's text (the seventh form; the later family's looks); each row that meets fmt, with fmt's text TOLD by the authors' own Lean function (tested against real Go, not proved from fmt's source: count such statements apart). THE CARD IS WHAT COUNTS. Prove the row's statement (the work); the ties are given (YthedhibdbgcgoaaGreatDoorTie.lean); close each card by the builder's one call (the guide's Derived/Test/ToyasCard.lean, 'card_holds'). Laid BY PROGRAM, IN A SANDBOX (cutbox-door.mjs). By AI agents, Wed Nov 11 2026. No macro, syntax, notation, axiom, sorry.
-/
import Derived.Test.YthedhibdbgcgoaaGreatDoorRows
import GoSem.ClaimSeven
namespace Go.Proofs.YthedhibdbgcgoaaGreatDoor
namespace Rows

/-- THE TIED CARD OF 'laws.FnWrBack'. -/
def fnWrBackCard : Claim7 := { stood := { row := fnWrBackRow, standIns := [], harness := (true, "625ab9fb3be631a78be9c5b6842f3b39d5e28151efa1d18db0e6614f4c8cc7d4"), looks := true }, kinds := [], alts := [], laidByText := true, laidKinds := [.sentinel, .sentinel, .sentinel, .sentinel, .sentinel, .sentinel, .sentinel, .sentinel, .sentinel, .sentinel, .sentinel, .sentinel, .sentinel, .sentinel, .sentinel, .sentinel, .data, .sentinel, .sentinel, .sentinel, .sentinel], laidTests := true, laidLooks := .later }
def FnWrBackCardSaid : Prop := Claim7.holds Tryz.pinned (.plain (OpenSpec.ofChange fnWrBackSpec)) fnWrBackCard

/-- THE SECOND FORM's CARD OF 'laws.FnWrBack'. -/
def fnWrBackUptoCard : Claim7 := { stood := { row := fnWrBackUptoRow, standIns := [], harness := (true, "625ab9fb3be631a78be9c5b6842f3b39d5e28151efa1d18db0e6614f4c8cc7d4"), looks := true }, kinds := [], alts := [], laidByText := true, laidKinds := [.sentinel, .sentinel, .sentinel, .sentinel, .sentinel, .sentinel, .sentinel, .sentinel, .sentinel, .sentinel, .sentinel, .sentinel, .sentinel, .sentinel, .sentinel, .sentinel, .data, .sentinel, .sentinel, .sentinel, .sentinel], laidTests := true, laidLooks := .later }
def FnWrBackUptoCardSaid : Prop := Claim7.holds Tryz.pinned (.plain (OpenSpec.upto fnWrBackSpec)) fnWrBackUptoCard
end Rows
end Go.Proofs.YthedhibdbgcgoaaGreatDoor
