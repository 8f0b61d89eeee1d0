/-
  NARROWER THAN 'FOR EVERY INPUT', by the rows' own cells (each row's printed sentence says how): LawS6730AWhole: laid · LawS6730CWhole: laid.
  DERIVED. THE GIVEN ROWS OF THIS SEAT. 2 by the template 'for every input the law returns true; each argument reads behind the call as it read before'; 0 by the template 'total and deterministic' (their statements: YbulkeiiwDoorTotals.lean).
  GIVEN WITH THE SEED: the statements are not yours to turn. If you find one false, say at which input.
  Laid BY PROGRAM, IN A SANDBOX (cutbox-rows.mjs): the forced cells as the released guide's own fill.sh prints them over the translation 2215966590b13b52… (all of the seat's roots in one cut). By AI agents, Wed Nov 11 2026. No macro, syntax, notation, axiom, sorry.
-/
import Derived.Test.YbulkeiiwDoorChecked
import GoSem.Claim
import GoSem.ClaimJoined
import GoSem.ClaimMapViews
import Derived.JoinedTies
import Derived.KernelRfl
namespace Go.Proofs.YbulkeiiwDoor
/- THE CELL 'sum', in the pinned program and in every row, IS THE sha256 OF THE DUMP (.gsa) THAT YbulkeiiwDoorProg.lean LOADS. Nothing in Lean hashes anything: it is a label: what it is worth is what the hold of that sum in a sandbox is worth. -/
noncomputable def Ybad.pinned : Pinned := { name := "ybulkeiiwdoor", sum := "2215966590b13b520c5fe1ac1ac15147813a621067fd4501388192437678f6d0", checked := Ybad.checked }
namespace Rows
def none {H : Type} : Left H := { results := [], args := [] }

/- WHAT THE LISTED PACKAGE-LEVEL VARIABLES READ AS WHEN THE CALL BEGINS. Each datum BY PROGRAM (the guide's laid-datum.mjs) off the statement by which the dump's own 'gosem.cut.vars' lays the variable. In a bare row this is a premise. The card (YbulkeiiwDoorCards.lean) ties it to the program's text. -/
def laid_net_netip_z4 {H : Type} : DataW H := .agg [.ptr (.agg [.lit (.bool false), .lit (.string [])])]
def laid_example_com_narrow_gate_narrow_gate_internal_ruleset_fieldLast {H : Type} : DataW H := .agg [.lit (.int .u32 255), .lit (.int .u32 65535), .lit (.int .u32 65535), .lit (.int .u32 65535), .lit (.int .u32 4294967295), .lit (.int .u32 4294967295)]

/-- 'ipv4.LawS6730AWhole': WHATEVER THE INPUT: true; the input reads as it did. -/
def lawS6730AWholeSpec : ChangeSpec := { name := "lawS6730AWhole", fn := fun _ => fun
  | [d] => { results := [.lit (.bool true)], args := [d] }
  | _ => none }
def lawS6730AWholeRow : OpenClaim := { program := "ybulkeiiwdoor", sum := "2215966590b13b520c5fe1ac1ac15147813a621067fd4501388192437678f6d0", func := "example.com/narrow-gate/narrow-gate/internal/ipv4.LawS6730AWhole", spec := "lawS6730AWhole", named := ["encoding/binary.BigEndian", "net/netip.z4"], apart := false, laid := [("net/netip.z4", laid_net_netip_z4)] }
def LawS6730AWholeSaid : Prop := lawS6730AWholeRow.holds Ybad.pinned (OpenSpec.ofChange lawS6730AWholeSpec)

/-- ITS FALSE NEIGHBOUR: 'it returns false'. Refute it at one input. -/
def lawS6730AWholeWrong : ChangeSpec := { name := "lawS6730AWhole", fn := fun _ => fun
  | [d] => { results := [.lit (.bool false)], args := [d] }
  | _ => none }
def LawS6730AWholeWrongFalsely : Prop := lawS6730AWholeRow.holds Ybad.pinned (OpenSpec.ofChange lawS6730AWholeWrong)

/-- 'ruleset.LawS6730CWhole': WHATEVER THE INPUT: true; the input reads as it did. -/
def lawS6730CWholeSpec : ChangeSpec := { name := "lawS6730CWhole", vars := ["example.com/narrow-gate/narrow-gate/internal/ruleset.fieldLast"], fn := fun _ => fun
  | [d1, d2, d3, d4, d5, g1] => { results := [.lit (.bool true)], args := [d1, d2, d3, d4, d5], vars := [g1] }
  | _ => none }
def lawS6730CWholeRow : OpenClaim := { program := "ybulkeiiwdoor", sum := "2215966590b13b520c5fe1ac1ac15147813a621067fd4501388192437678f6d0", func := "example.com/narrow-gate/narrow-gate/internal/ruleset.LawS6730CWhole", spec := "lawS6730CWhole", unfollowed := true, recurses := true, named := ["example.com/narrow-gate/narrow-gate/internal/ruleset.fieldLast"], apart := false, laid := [("example.com/narrow-gate/narrow-gate/internal/ruleset.fieldLast", laid_example_com_narrow_gate_narrow_gate_internal_ruleset_fieldLast)] }
def LawS6730CWholeSaid : Prop := lawS6730CWholeRow.holds Ybad.pinned (OpenSpec.ofChange lawS6730CWholeSpec)

/-- ITS FALSE NEIGHBOUR: 'it returns false'. Refute it at one input. -/
def lawS6730CWholeWrong : ChangeSpec := { name := "lawS6730CWhole", vars := ["example.com/narrow-gate/narrow-gate/internal/ruleset.fieldLast"], fn := fun _ => fun
  | [d1, d2, d3, d4, d5, g1] => { results := [.lit (.bool false)], args := [d1, d2, d3, d4, d5], vars := [g1] }
  | _ => none }
def LawS6730CWholeWrongFalsely : Prop := lawS6730CWholeRow.holds Ybad.pinned (OpenSpec.ofChange lawS6730CWholeWrong)

end Rows
end Go.Proofs.YbulkeiiwDoor
