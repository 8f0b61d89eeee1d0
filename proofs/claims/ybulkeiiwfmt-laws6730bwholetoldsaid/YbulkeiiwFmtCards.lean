/-
  DERIVED. GIVEN WITH THE SEED: THE CARDS: each row of YbulkeiiwFmtRows.lean that lists a variable, with what it lists TIED to the program's text (the seventh form; the later family's looks); each row that meets fmt, with fmt's text TOLD by the authors' own Lean function (tested against real Go, not proved from fmt's source: count such statements apart). THE CARD IS WHAT COUNTS. Prove the row's statement (the work); the ties are given (YbulkeiiwFmtTie.lean); close each card by the builder's one call (the guide's Derived/Test/ToyasCard.lean, 'card_holds'). Laid BY PROGRAM, IN A SANDBOX (cutbox-door.mjs). By AI agents, Wed Nov 11 2026. No macro, syntax, notation, axiom, sorry.
-/
import Derived.Test.YbulkeiiwFmtRows
import GoSem.ClaimSeven
namespace Go.Proofs.YbulkeiiwFmt
namespace Rows

/-- THE TOLD AND TIED CARD OF 'ruleset.LawS6730BWhole'. -/
def lawS6730BWholeCard : Claim7 := { stood := { row := lawS6730BWholeRow, standIns := [], harness := (true, "abdfe1d7e1fb5c31f41b25eed55743cae639beaf466851de13cbb2f9098d1866"), looks := false }, told := true, laidByText := true, laidKinds := [.called, .called, .zero], laidTests := true, laidLooks := .later, goes := false }
def LawS6730BWholeToldSaid : Prop := Claim7.holds Ybaf.pinned (.plain (OpenSpec.ofChange lawS6730BWholeSpec)) lawS6730BWholeCard
/-- ITS FALSE NEIGHBOUR. Refute it at one input. -/
def LawS6730BWholeToldWrongFalsely : Prop := Claim7.holds Ybaf.pinned (.plain (OpenSpec.ofChange lawS6730BWholeWrong)) lawS6730BWholeCard
end Rows
end Go.Proofs.YbulkeiiwFmt
