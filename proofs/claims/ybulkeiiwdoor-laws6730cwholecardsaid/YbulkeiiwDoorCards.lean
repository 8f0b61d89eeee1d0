/-
  DERIVED. GIVEN WITH THE SEED: THE CARDS: each row of YbulkeiiwDoorRows.lean that lists a variable, with what it lists TIED to the program's text (the seventh form; the later family's looks); each row that meets fmt, with fmt's text TOLD by the authors' own Lean function (tested against real Go, not proved from fmt's source: count such statements apart). THE CARD IS WHAT COUNTS. Prove the row's statement (the work); the ties are given (YbulkeiiwDoorTie.lean); close each card by the builder's one call (the guide's Derived/Test/ToyasCard.lean, 'card_holds'). Laid BY PROGRAM, IN A SANDBOX (cutbox-door.mjs). By AI agents, Wed Nov 11 2026. No macro, syntax, notation, axiom, sorry.
-/
import Derived.Test.YbulkeiiwDoorRows
import GoSem.ClaimSeven
namespace Go.Proofs.YbulkeiiwDoor
namespace Rows

/-- THE TIED CARD OF 'ipv4.LawS6730AWhole'. -/
def lawS6730AWholeCard : Claim7 := { stood := { row := lawS6730AWholeRow, standIns := [], harness := (true, "9062796665d02ed5a521e50b1d96170fd3c4996bb09bc306d8ed33116de2186a"), looks := false }, kinds := [], alts := [], laidByText := true, laidKinds := [.called], laidTests := true, laidLooks := .later }
def LawS6730AWholeCardSaid : Prop := Claim7.holds Ybad.pinned (.plain (OpenSpec.ofChange lawS6730AWholeSpec)) lawS6730AWholeCard

/-- THE TIED CARD OF 'ruleset.LawS6730CWhole'. -/
def lawS6730CWholeCard : Claim7 := { stood := { row := lawS6730CWholeRow, standIns := [], harness := (true, "9062796665d02ed5a521e50b1d96170fd3c4996bb09bc306d8ed33116de2186a"), looks := false }, kinds := [], alts := [], laidByText := true, laidKinds := [.wider], laidTests := true, laidLooks := .later }
def LawS6730CWholeCardSaid : Prop := Claim7.holds Ybad.pinned (.plain (OpenSpec.ofChange lawS6730CWholeSpec)) lawS6730CWholeCard
end Rows
end Go.Proofs.YbulkeiiwDoor
