/-
  DERIVED. GIVEN WITH THE SEED: THE CARDS: each row of YbulkapkiDoorRows.lean that lists a variable, with what it lists TIED to the program's text (the seventh form; the later family's looks); each row that meets fmt, with fmt's text TOLD by the authors' own Lean function (tested against real Go, not proved from fmt's source: count such statements apart). THE CARD IS WHAT COUNTS. Prove the row's statement (the work); the ties are given (YbulkapkiDoorTie.lean); close each card by the builder's one call (the guide's Derived/Test/ToyasCard.lean, 'card_holds'). Laid BY PROGRAM, IN A SANDBOX (cutbox-door.mjs). By AI agents, Wed Nov 11 2026. No macro, syntax, notation, axiom, sorry.
-/
import Derived.Test.YbulkapkiDoorRows
import GoSem.ClaimSeven
namespace Go.Proofs.YbulkapkiDoor
namespace Rows

/-- THE TIED CARD OF 'cutesv.LawS2049CLine'. -/
def lawS2049CLineCard : Claim7 := { stood := { row := lawS2049CLineRow, standIns := [], harness := (true, "95edf88b7bf90a7a9d692d8f73dc05a46275b27f8a4a0dec70d20d9bf8681689"), looks := true }, kinds := [], alts := [], laidByText := true, laidKinds := [.data, .data, .data, .sentinel, .sentinel], laidTests := true, laidLooks := .later }
def LawS2049CLineCardSaid : Prop := Claim7.holds Ybad.pinned (.plain (OpenSpec.ofChange lawS2049CLineSpec)) lawS2049CLineCard
end Rows
end Go.Proofs.YbulkapkiDoor
