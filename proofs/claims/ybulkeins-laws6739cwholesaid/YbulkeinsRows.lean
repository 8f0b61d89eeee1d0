/-
  No cell of these rows narrows 'for every input' (looked for: loops, veiled, ifaces, maps, wideKeys, modest, calm, conditions, laid).
  DERIVED. THE GIVEN ROWS OF THIS SEAT. 1 by the template 'for every input the law returns true; each argument reads behind the call as it read before'; 0 by the template 'total and deterministic' (their statements: YbulkeinsTotals.lean).
  GIVEN WITH THE SEED: the statements are not yours to turn. If you find one false, say at which input.
  Laid BY PROGRAM, IN A SANDBOX (cutbox-rows.mjs): the forced cells as the released guide's own fill.sh prints them over the translation bd0821e69867fc78… (all of the seat's roots in one cut). By AI agents, Wed Nov 11 2026. No macro, syntax, notation, axiom, sorry.
-/
import Derived.Test.YbulkeinsChecked
import GoSem.Claim
import GoSem.ClaimJoined
import GoSem.ClaimMapViews
import Derived.JoinedTies
import Derived.KernelRfl
namespace Go.Proofs.Ybulkeins
/- THE CELL 'sum', in the pinned program and in every row, IS THE sha256 OF THE DUMP (.gsa) THAT YbulkeinsProg.lean LOADS. Nothing in Lean hashes anything: it is a label: what it is worth is what the hold of that sum in a sandbox is worth. -/
noncomputable def Yba.pinned : Pinned := { name := "ybulkeins", sum := "bd0821e69867fc785f596bf27938aa9ed4d7927d830645d8db3a484840d91ed1", checked := Yba.checked }
namespace Rows
def none {H : Type} : Left H := { results := [], args := [] }

/-- 'invoice.LawS6739CWhole': WHATEVER THE INPUT: true; the input reads as it did. -/
def lawS6739CWholeSpec : ChangeSpec := { name := "lawS6739CWhole", fn := fun _ => fun
  | [d1, d2, d3, d4, d5, d6, d7] => { results := [.lit (.bool true)], args := [d1, d2, d3, d4, d5, d6, d7] }
  | _ => none }
def lawS6739CWholeRow : OpenClaim := { program := "ybulkeins", sum := "bd0821e69867fc785f596bf27938aa9ed4d7927d830645d8db3a484840d91ed1", func := "example.com/floorline/floorline/invoice.LawS6739CWhole", spec := "lawS6739CWhole", apart := false }
def LawS6739CWholeSaid : Prop := lawS6739CWholeRow.holds Yba.pinned (OpenSpec.ofChange lawS6739CWholeSpec)

/-- ITS FALSE NEIGHBOUR: 'it returns false'. Refute it at one input. -/
def lawS6739CWholeWrong : ChangeSpec := { name := "lawS6739CWhole", fn := fun _ => fun
  | [d1, d2, d3, d4, d5, d6, d7] => { results := [.lit (.bool false)], args := [d1, d2, d3, d4, d5, d6, d7] }
  | _ => none }
def LawS6739CWholeWrongFalsely : Prop := lawS6739CWholeRow.holds Yba.pinned (OpenSpec.ofChange lawS6739CWholeWrong)

end Rows
end Go.Proofs.Ybulkeins
