/-
  DERIVED. GIVEN WITH THE SEED: THE CARDS: each row of YtioabgenlaikaaaGreatDoorRows.lean that lists a variable, with what it lists TIED to the program's text (the seventh form; the later family's looks); each row that meets fmt, with fmt's text TOLD by the authors' own Lean function (tested against real Go, not proved from fmt's source: count such statements apart). THE CARD IS WHAT COUNTS. Prove the row's statement (the work); the ties are given (YtioabgenlaikaaaGreatDoorTie.lean); close each card by the builder's one call (the guide's Derived/Test/ToyasCard.lean, 'card_holds'). Laid BY PROGRAM, IN A SANDBOX (cutbox-door.mjs). By AI agents, Wed Nov 11 2026. No macro, syntax, notation, axiom, sorry.
-/
import Derived.Test.YtioabgenlaikaaaGreatDoorRows
import GoSem.ClaimSeven
namespace Go.Proofs.YtioabgenlaikaaaGreatDoor
namespace Rows

/-- THE TIED CARD OF 'laws.FnC2Pragma'. -/
def fnC2PragmaCard : Claim7 := { stood := { row := fnC2PragmaRow, standIns := [], harness := (true, "11f3855f0fb14e72964bfa7ea04e06cac9c0f3b1916485cf4363d12a1f7b2133"), looks := true }, kinds := [], alts := [], laidByText := true, laidKinds := [.sentinel, .sentinel, .sentinel, .sentinel, .sentinel, .sentinel, .sentinel, .sentinel, .sentinel, .sentinel, .sentinel, .sentinel, .sentinel, .sentinel, .sentinel, .data, .sentinel, .sentinel, .sentinel], laidTests := true, laidLooks := .later }
def FnC2PragmaCardSaid : Prop := Claim7.holds Tryz.pinned (.plain (OpenSpec.ofChange fnC2PragmaSpec)) fnC2PragmaCard

/-- THE SECOND FORM's CARD OF 'laws.FnC2Pragma'. -/
def fnC2PragmaUptoCard : Claim7 := { stood := { row := fnC2PragmaUptoRow, standIns := [], harness := (true, "11f3855f0fb14e72964bfa7ea04e06cac9c0f3b1916485cf4363d12a1f7b2133"), looks := true }, kinds := [], alts := [], laidByText := true, laidKinds := [.sentinel, .sentinel, .sentinel, .sentinel, .sentinel, .sentinel, .sentinel, .sentinel, .sentinel, .sentinel, .sentinel, .sentinel, .sentinel, .sentinel, .sentinel, .data, .sentinel, .sentinel, .sentinel], laidTests := true, laidLooks := .later }
def FnC2PragmaUptoCardSaid : Prop := Claim7.holds Tryz.pinned (.plain (OpenSpec.upto fnC2PragmaSpec)) fnC2PragmaUptoCard
end Rows
end Go.Proofs.YtioabgenlaikaaaGreatDoor
