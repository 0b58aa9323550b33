/-
  DERIVED. GIVEN WITH THE SEED: THE CARDS: each row of YtcgggcjmmphldaaGreatDoorRows.lean that lists a variable, with what it lists TIED to the program's text (the seventh form; the later family's looks); each row that meets fmt, with fmt's text TOLD by the authors' own Lean function (tested against real Go, not proved from fmt's source: count such statements apart). THE CARD IS WHAT COUNTS. Prove the row's statement (the work); the ties are given (YtcgggcjmmphldaaGreatDoorTie.lean); close each card by the builder's one call (the guide's Derived/Test/ToyasCard.lean, 'card_holds'). Laid BY PROGRAM, IN A SANDBOX (cutbox-door.mjs). By AI agents, Wed Nov 11 2026. No macro, syntax, notation, axiom, sorry.
-/
import Derived.Test.YtcgggcjmmphldaaGreatDoorRows
import GoSem.ClaimSeven
namespace Go.Proofs.YtcgggcjmmphldaaGreatDoor
namespace Rows

/-- THE TIED CARD OF 'laws.FnIxAdd'. -/
def fnIxAddCard : Claim7 := { stood := { row := fnIxAddRow, standIns := [], harness := (true, "70502b6f0cccbd6e395064bd2942a9a0841a8d019e94c0f430d5ab30f599d9e0"), looks := true }, kinds := [], alts := [], laidByText := true, laidKinds := [.sentinel, .sentinel, .sentinel, .sentinel, .sentinel, .sentinel, .sentinel, .sentinel, .data, .sentinel], laidTests := true, laidLooks := .later }
def FnIxAddCardSaid : Prop := Claim7.holds Tryz.pinned (.plain (OpenSpec.ofChange fnIxAddSpec)) fnIxAddCard

/-- THE TIED CARD OF 'laws.FnIxBytes'. -/
def fnIxBytesCard : Claim7 := { stood := { row := fnIxBytesRow, standIns := [], harness := (true, "70502b6f0cccbd6e395064bd2942a9a0841a8d019e94c0f430d5ab30f599d9e0"), looks := true }, kinds := [], alts := [], laidByText := true, laidKinds := [.sentinel, .sentinel, .sentinel, .sentinel, .sentinel, .sentinel, .sentinel, .sentinel, .data, .sentinel], laidTests := true, laidLooks := .later }
def FnIxBytesCardSaid : Prop := Claim7.holds Tryz.pinned (.plain (OpenSpec.ofChange fnIxBytesSpec)) fnIxBytesCard

/-- THE TIED CARD OF 'laws.FnIxGet'. -/
def fnIxGetCard : Claim7 := { stood := { row := fnIxGetRow, standIns := [], harness := (true, "70502b6f0cccbd6e395064bd2942a9a0841a8d019e94c0f430d5ab30f599d9e0"), looks := true }, kinds := [], alts := [], laidByText := true, laidKinds := [.sentinel, .sentinel, .sentinel, .sentinel, .sentinel, .sentinel, .sentinel, .sentinel, .data, .sentinel], laidTests := true, laidLooks := .later }
def FnIxGetCardSaid : Prop := Claim7.holds Tryz.pinned (.plain (OpenSpec.ofChange fnIxGetSpec)) fnIxGetCard

/-- THE TIED CARD OF 'laws.FnIxLengths'. -/
def fnIxLengthsCard : Claim7 := { stood := { row := fnIxLengthsRow, standIns := [], harness := (true, "70502b6f0cccbd6e395064bd2942a9a0841a8d019e94c0f430d5ab30f599d9e0"), looks := true }, kinds := [], alts := [], laidByText := true, laidKinds := [.sentinel, .sentinel, .sentinel, .sentinel, .sentinel, .sentinel, .sentinel, .sentinel, .data, .sentinel], laidTests := true, laidLooks := .later }
def FnIxLengthsCardSaid : Prop := Claim7.holds Tryz.pinned (.plain (OpenSpec.ofChange fnIxLengthsSpec)) fnIxLengthsCard

/-- THE TIED CARD OF 'laws.FnIxEach'. -/
def fnIxEachCard : Claim7 := { stood := { row := fnIxEachRow, standIns := [], harness := (true, "70502b6f0cccbd6e395064bd2942a9a0841a8d019e94c0f430d5ab30f599d9e0"), looks := true }, kinds := [], alts := [], laidByText := true, laidKinds := [.sentinel, .sentinel, .sentinel, .sentinel, .sentinel, .sentinel, .sentinel, .sentinel, .data, .sentinel], laidTests := true, laidLooks := .later }
def FnIxEachCardSaid : Prop := Claim7.holds Tryz.pinned (.plain (OpenSpec.ofChange fnIxEachSpec)) fnIxEachCard

/-- THE SECOND FORM's CARD OF 'laws.FnIxAdd'. -/
def fnIxAddUptoCard : Claim7 := { stood := { row := fnIxAddUptoRow, standIns := [], harness := (true, "70502b6f0cccbd6e395064bd2942a9a0841a8d019e94c0f430d5ab30f599d9e0"), looks := true }, kinds := [], alts := [], laidByText := true, laidKinds := [.sentinel, .sentinel, .sentinel, .sentinel, .sentinel, .sentinel, .sentinel, .sentinel, .data, .sentinel], laidTests := true, laidLooks := .later }
def FnIxAddUptoCardSaid : Prop := Claim7.holds Tryz.pinned (.plain (OpenSpec.upto fnIxAddSpec)) fnIxAddUptoCard

/-- THE SECOND FORM's CARD OF 'laws.FnIxBytes'. -/
def fnIxBytesUptoCard : Claim7 := { stood := { row := fnIxBytesUptoRow, standIns := [], harness := (true, "70502b6f0cccbd6e395064bd2942a9a0841a8d019e94c0f430d5ab30f599d9e0"), looks := true }, kinds := [], alts := [], laidByText := true, laidKinds := [.sentinel, .sentinel, .sentinel, .sentinel, .sentinel, .sentinel, .sentinel, .sentinel, .data, .sentinel], laidTests := true, laidLooks := .later }
def FnIxBytesUptoCardSaid : Prop := Claim7.holds Tryz.pinned (.plain (OpenSpec.upto fnIxBytesSpec)) fnIxBytesUptoCard

/-- THE SECOND FORM's CARD OF 'laws.FnIxGet'. -/
def fnIxGetUptoCard : Claim7 := { stood := { row := fnIxGetUptoRow, standIns := [], harness := (true, "70502b6f0cccbd6e395064bd2942a9a0841a8d019e94c0f430d5ab30f599d9e0"), looks := true }, kinds := [], alts := [], laidByText := true, laidKinds := [.sentinel, .sentinel, .sentinel, .sentinel, .sentinel, .sentinel, .sentinel, .sentinel, .data, .sentinel], laidTests := true, laidLooks := .later }
def FnIxGetUptoCardSaid : Prop := Claim7.holds Tryz.pinned (.plain (OpenSpec.upto fnIxGetSpec)) fnIxGetUptoCard

/-- THE SECOND FORM's CARD OF 'laws.FnIxLengths'. -/
def fnIxLengthsUptoCard : Claim7 := { stood := { row := fnIxLengthsUptoRow, standIns := [], harness := (true, "70502b6f0cccbd6e395064bd2942a9a0841a8d019e94c0f430d5ab30f599d9e0"), looks := true }, kinds := [], alts := [], laidByText := true, laidKinds := [.sentinel, .sentinel, .sentinel, .sentinel, .sentinel, .sentinel, .sentinel, .sentinel, .data, .sentinel], laidTests := true, laidLooks := .later }
def FnIxLengthsUptoCardSaid : Prop := Claim7.holds Tryz.pinned (.plain (OpenSpec.upto fnIxLengthsSpec)) fnIxLengthsUptoCard

/-- THE SECOND FORM's CARD OF 'laws.FnIxEach'. -/
def fnIxEachUptoCard : Claim7 := { stood := { row := fnIxEachUptoRow, standIns := [], harness := (true, "70502b6f0cccbd6e395064bd2942a9a0841a8d019e94c0f430d5ab30f599d9e0"), looks := true }, kinds := [], alts := [], laidByText := true, laidKinds := [.sentinel, .sentinel, .sentinel, .sentinel, .sentinel, .sentinel, .sentinel, .sentinel, .data, .sentinel], laidTests := true, laidLooks := .later }
def FnIxEachUptoCardSaid : Prop := Claim7.holds Tryz.pinned (.plain (OpenSpec.upto fnIxEachSpec)) fnIxEachUptoCard
end Rows
end Go.Proofs.YtcgggcjmmphldaaGreatDoor
