/-
  No cell of these rows narrows 'for every input' (looked for: loops, veiled, ifaces, maps, wideKeys, modest, calm, conditions, laid).
  DERIVED. THE GIVEN ROWS OF THIS SEAT. 2 by the template 'for every input the law returns true; each argument reads behind the call as it read before'; 0 by the template 'total and deterministic' (their statements: Qxb6614317aTotals.lean).
  GIVEN WITH THE SEED: the statements are not yours to turn. If you find one false, say at which input.
  Laid BY PROGRAM, IN A SANDBOX (cutbox-rows.mjs): the forced cells as the released guide's own fill.sh prints them over the translation efd03c3ed844b193… (all of the seat's roots in one cut). By AI agents, Wed Nov 11 2026. No macro, syntax, notation, axiom, sorry.
-/
import Derived.Test.Qxb6614317aChecked
import GoSem.Claim
import GoSem.ClaimJoined
import GoSem.ClaimMapViews
import Derived.JoinedTies
import Derived.KernelRfl
namespace Go.Proofs.Qxb6614317a
/- THE CELL 'sum', in the pinned program and in every row, IS THE sha256 OF THE DUMP (.gsa) THAT Qxb6614317aProg.lean LOADS. Nothing in Lean hashes anything: it is a label: what it is worth is what the hold of that sum in a sandbox is worth. -/
noncomputable def Try.pinned : Pinned := { name := "qxb6614317a", sum := "efd03c3ed844b1939f9b321337393413d40538eba644aba185b055f111831e86", checked := Try.checked }
namespace Rows
def none {H : Type} : Left H := { results := [], args := [] }

/-- 'zzlaws_pkg_ngap_b1.FnEncoderAlignIdempotentToNextOctet': WHATEVER THE INPUT: true; the input reads as it did. -/
def fnEncoderAlignIdempotentToNextOctetSpec : ChangeSpec := { name := "fnEncoderAlignIdempotentToNextOctet", fn := fun _ => fun
  | [d1, d2] => { results := [.lit (.bool true)], args := [d1, d2] }
  | _ => none }
def fnEncoderAlignIdempotentToNextOctetRow : OpenClaim := { program := "qxb6614317a", sum := "efd03c3ed844b1939f9b321337393413d40538eba644aba185b055f111831e86", func := "example.com/fulmar/fulmar/zzlaws_pkg_ngap_b1.FnEncoderAlignIdempotentToNextOctet", spec := "fnEncoderAlignIdempotentToNextOctet", apart := false }
def FnEncoderAlignIdempotentToNextOctetSaid : Prop := fnEncoderAlignIdempotentToNextOctetRow.holds Try.pinned (OpenSpec.ofChange fnEncoderAlignIdempotentToNextOctetSpec)

/-- ITS FALSE NEIGHBOUR: 'it returns false'. Refute it at one input. -/
def fnEncoderAlignIdempotentToNextOctetWrong : ChangeSpec := { name := "fnEncoderAlignIdempotentToNextOctet", fn := fun _ => fun
  | [d1, d2] => { results := [.lit (.bool false)], args := [d1, d2] }
  | _ => none }
def FnEncoderAlignIdempotentToNextOctetWrongFalsely : Prop := fnEncoderAlignIdempotentToNextOctetRow.holds Try.pinned (OpenSpec.ofChange fnEncoderAlignIdempotentToNextOctetWrong)

/-- 'zzlaws_pkg_ngap_b1.FnEncoderAlignMeetsDecoderAlign': WHATEVER THE INPUT: true; the input reads as it did. -/
def fnEncoderAlignMeetsDecoderAlignSpec : ChangeSpec := { name := "fnEncoderAlignMeetsDecoderAlign", fn := fun _ => fun
  | [d1, d2] => { results := [.lit (.bool true)], args := [d1, d2] }
  | _ => none }
def fnEncoderAlignMeetsDecoderAlignRow : OpenClaim := { program := "qxb6614317a", sum := "efd03c3ed844b1939f9b321337393413d40538eba644aba185b055f111831e86", func := "example.com/fulmar/fulmar/zzlaws_pkg_ngap_b1.FnEncoderAlignMeetsDecoderAlign", spec := "fnEncoderAlignMeetsDecoderAlign", apart := false }
def FnEncoderAlignMeetsDecoderAlignSaid : Prop := fnEncoderAlignMeetsDecoderAlignRow.holds Try.pinned (OpenSpec.ofChange fnEncoderAlignMeetsDecoderAlignSpec)

/-- ITS FALSE NEIGHBOUR: 'it returns false'. Refute it at one input. -/
def fnEncoderAlignMeetsDecoderAlignWrong : ChangeSpec := { name := "fnEncoderAlignMeetsDecoderAlign", fn := fun _ => fun
  | [d1, d2] => { results := [.lit (.bool false)], args := [d1, d2] }
  | _ => none }
def FnEncoderAlignMeetsDecoderAlignWrongFalsely : Prop := fnEncoderAlignMeetsDecoderAlignRow.holds Try.pinned (OpenSpec.ofChange fnEncoderAlignMeetsDecoderAlignWrong)

end Rows
end Go.Proofs.Qxb6614317a
