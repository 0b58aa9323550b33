/-
  DERIVED. GIVEN WITH THE SEED: THE CARDS: each row of YtpipfopddlgakaaDoorRows.lean that lists a variable, with what it lists TIED to the program's text (the seventh form; the later family's looks); each row that meets fmt, with fmt's text TOLD by the authors' own Lean function (tested against real Go, not proved from fmt's source: count such statements apart). THE CARD IS WHAT COUNTS. Prove the row's statement (the work); the ties are given (YtpipfopddlgakaaDoorTie.lean); close each card by the builder's one call (the guide's Derived/Test/ToyasCard.lean, 'card_holds'). Laid BY PROGRAM, IN A SANDBOX (cutbox-door.mjs). By AI agents, Wed Nov 11 2026. No macro, syntax, notation, axiom, sorry.
-/
import Derived.Test.YtpipfopddlgakaaDoorRows
import GoSem.ClaimSeven
namespace Go.Proofs.YtpipfopddlgakaaDoor
namespace Rows

/-- THE TIED CARD OF 'laws.FnStIdentity'. -/
def fnStIdentityCard : Claim7 := { stood := { row := fnStIdentityRow, standIns := [], harness := (true, "64f35ed9fc3f1b195134fccd35a67e4e7dd378264703f6cdc053a8263979c44d"), looks := false }, kinds := [], alts := [], laidByText := true, laidKinds := [.sentinel, .sentinel, .sentinel, .sentinel, .sentinel, .sentinel, .data], laidTests := true, laidLooks := .later }
def FnStIdentityCardSaid : Prop := Claim7.holds Tryd.pinned (.plain (OpenSpec.ofChange fnStIdentitySpec)) fnStIdentityCard

/-- THE SECOND FORM's CARD OF 'laws.FnStIdentity'. -/
def fnStIdentityUptoCard : Claim7 := { stood := { row := fnStIdentityUptoRow, standIns := [], harness := (true, "64f35ed9fc3f1b195134fccd35a67e4e7dd378264703f6cdc053a8263979c44d"), looks := false }, kinds := [], alts := [], laidByText := true, laidKinds := [.sentinel, .sentinel, .sentinel, .sentinel, .sentinel, .sentinel, .data], laidTests := true, laidLooks := .later }
def FnStIdentityUptoCardSaid : Prop := Claim7.holds Tryd.pinned (.plain (OpenSpec.upto fnStIdentitySpec)) fnStIdentityUptoCard
end Rows
end Go.Proofs.YtpipfopddlgakaaDoor
