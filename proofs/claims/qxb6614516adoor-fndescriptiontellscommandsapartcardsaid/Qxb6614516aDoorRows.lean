/-
  NARROWER THAN 'FOR EVERY INPUT', by the rows' own cells (each row's printed sentence says how): FnDescriptionTellsCommandsApart: maps, laid.
  DERIVED. THE GIVEN ROWS OF THIS SEAT. 1 by the template 'for every input the law returns true; each argument reads behind the call as it read before'; 0 by the template 'total and deterministic' (their statements: Qxb6614516aDoorTotals.lean).
  GIVEN WITH THE SEED: the statements are not yours to turn. If you find one false, say at which input.
  Laid BY PROGRAM, IN A SANDBOX (cutbox-rows.mjs): the forced cells as the released guide's own fill.sh prints them over the translation 82815d9405546048… (all of the seat's roots in one cut). By AI agents, Wed Nov 11 2026. No macro, syntax, notation, axiom, sorry.
-/
import Derived.Test.Qxb6614516aDoorChecked
import GoSem.Claim
import GoSem.ClaimJoined
import GoSem.ClaimMapViews
import Derived.JoinedTies
import Derived.KernelRfl
namespace Go.Proofs.Qxb6614516aDoor
/- THE CELL 'sum', in the pinned program and in every row, IS THE sha256 OF THE DUMP (.gsa) THAT Qxb6614516aDoorProg.lean LOADS. Nothing in Lean hashes anything: it is a label: what it is worth is what the hold of that sum in a sandbox is worth. -/
noncomputable def Tryd.pinned : Pinned := { name := "qxb6614516adoor", sum := "82815d940554604882306612b7896ddc603f56c736982204f2bf04e7ade37c50", checked := Tryd.checked }
namespace Rows
def none {H : Type} : Left H := { results := [], args := [] }

/- WHAT THE LISTED PACKAGE-LEVEL VARIABLES READ AS WHEN THE CALL BEGINS. Each datum BY PROGRAM (the guide's laid-datum.mjs) off the statement by which the dump's own 'gosem.cut.vars' lays the variable. In a bare row this is a premise. The card (Qxb6614516aDoorCards.lean) ties it to the program's text. -/
def laid_example_com_bursar_bursar_internal_money_terms {H : Type} : DataW H := .map [(.string [99, 114, 101, 97, 116, 101], .agg [.lit (.string [82, 101, 103, 105, 115, 116, 114, 97, 116, 105, 111, 110, 32, 70, 101, 101]), .lit (.bool true)]), (.string [114, 101, 110, 101, 119], .agg [.lit (.string [82, 101, 110, 101, 119, 97, 108, 32, 70, 101, 101]), .lit (.bool true)]), (.string [114, 101, 115, 116, 111, 114, 101], .agg [.lit (.string [82, 101, 100, 101, 109, 112, 116, 105, 111, 110, 32, 70, 101, 101]), .lit (.bool false)]), (.string [116, 114, 97, 110, 115, 102, 101, 114], .agg [.lit (.string [84, 114, 97, 110, 115, 102, 101, 114, 32, 70, 101, 101]), .lit (.bool true)])]

/-- 'zzlaws_internal_money_b1.FnDescriptionTellsCommandsApart': WHATEVER THE INPUT: true; the input reads as it did. -/
def fnDescriptionTellsCommandsApartSpec : ChangeSpec := { name := "fnDescriptionTellsCommandsApart", vars := ["example.com/bursar/bursar/internal/money.terms"], fn := fun _ => fun
  | [d1, d2, g1] => { results := [.lit (.bool true)], args := [d1, d2], vars := [g1] }
  | _ => none }
def fnDescriptionTellsCommandsApartRow : OpenClaim := { program := "qxb6614516adoor", sum := "82815d940554604882306612b7896ddc603f56c736982204f2bf04e7ade37c50", func := "example.com/bursar/bursar/zzlaws_internal_money_b1.FnDescriptionTellsCommandsApart", spec := "fnDescriptionTellsCommandsApart", named := ["example.com/bursar/bursar/internal/money.terms"], maps := true, apart := false, laid := [("example.com/bursar/bursar/internal/money.terms", laid_example_com_bursar_bursar_internal_money_terms)] }
def FnDescriptionTellsCommandsApartSaid : Prop := fnDescriptionTellsCommandsApartRow.holds Tryd.pinned (OpenSpec.ofChange fnDescriptionTellsCommandsApartSpec)

/-- ITS FALSE NEIGHBOUR: 'it returns false'. Refute it at one input. -/
def fnDescriptionTellsCommandsApartWrong : ChangeSpec := { name := "fnDescriptionTellsCommandsApart", vars := ["example.com/bursar/bursar/internal/money.terms"], fn := fun _ => fun
  | [d1, d2, g1] => { results := [.lit (.bool false)], args := [d1, d2], vars := [g1] }
  | _ => none }
def FnDescriptionTellsCommandsApartWrongFalsely : Prop := fnDescriptionTellsCommandsApartRow.holds Tryd.pinned (OpenSpec.ofChange fnDescriptionTellsCommandsApartWrong)

end Rows
end Go.Proofs.Qxb6614516aDoor
