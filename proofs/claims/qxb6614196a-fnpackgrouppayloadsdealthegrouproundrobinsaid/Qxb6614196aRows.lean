/-
  No cell of these rows narrows 'for every input' (looked for: loops, veiled, ifaces, maps, wideKeys, modest, calm, conditions, laid).
  DERIVED. THE GIVEN ROWS OF THIS SEAT. 5 by the template 'for every input the law returns true; each argument reads behind the call as it read before'; 0 by the template 'total and deterministic' (their statements: Qxb6614196aTotals.lean).
  GIVEN WITH THE SEED: the statements are not yours to turn. If you find one false, say at which input.
  Laid BY PROGRAM, IN A SANDBOX (cutbox-rows.mjs): the forced cells as the released guide's own fill.sh prints them over the translation 8b2f8b5fdd496c9a… (all of the seat's roots in one cut). By AI agents, Wed Nov 11 2026. No macro, syntax, notation, axiom, sorry.
-/
import Derived.Test.Qxb6614196aChecked
import GoSem.Claim
import GoSem.ClaimJoined
import GoSem.ClaimMapViews
import Derived.JoinedTies
import Derived.KernelRfl
namespace Go.Proofs.Qxb6614196a
/- THE CELL 'sum', in the pinned program and in every row, IS THE sha256 OF THE DUMP (.gsa) THAT Qxb6614196aProg.lean LOADS. Nothing in Lean hashes anything: it is a label: what it is worth is what the hold of that sum in a sandbox is worth. -/
noncomputable def Try.pinned : Pinned := { name := "qxb6614196a", sum := "8b2f8b5fdd496c9aeeb84eab8c4c5c2cf1106a34ab9e24104ee192d32f4c8317", checked := Try.checked }
namespace Rows
def none {H : Type} : Left H := { results := [], args := [] }

/-- 'zzlaws_root_b1.FnTocEndGrowsOneOctetPerTwoFrames': WHATEVER THE INPUT: true; the input reads as it did. -/
def fnTocEndGrowsOneOctetPerTwoFramesSpec : ChangeSpec := { name := "fnTocEndGrowsOneOctetPerTwoFrames", fn := fun _ => fun
  | [d1, d2, d3, d4] => { results := [.lit (.bool true)], args := [d1, d2, d3, d4] }
  | _ => none }
def fnTocEndGrowsOneOctetPerTwoFramesRow : OpenClaim := { program := "qxb6614196a", sum := "8b2f8b5fdd496c9aeeb84eab8c4c5c2cf1106a34ab9e24104ee192d32f4c8317", func := "example.com/vocopack/vocopack/zzlaws_root_b1.FnTocEndGrowsOneOctetPerTwoFrames", spec := "fnTocEndGrowsOneOctetPerTwoFrames", apart := false }
def FnTocEndGrowsOneOctetPerTwoFramesSaid : Prop := fnTocEndGrowsOneOctetPerTwoFramesRow.holds Try.pinned (OpenSpec.ofChange fnTocEndGrowsOneOctetPerTwoFramesSpec)

/-- ITS FALSE NEIGHBOUR: 'it returns false'. Refute it at one input. -/
def fnTocEndGrowsOneOctetPerTwoFramesWrong : ChangeSpec := { name := "fnTocEndGrowsOneOctetPerTwoFrames", fn := fun _ => fun
  | [d1, d2, d3, d4] => { results := [.lit (.bool false)], args := [d1, d2, d3, d4] }
  | _ => none }
def FnTocEndGrowsOneOctetPerTwoFramesWrongFalsely : Prop := fnTocEndGrowsOneOctetPerTwoFramesRow.holds Try.pinned (OpenSpec.ofChange fnTocEndGrowsOneOctetPerTwoFramesWrong)

/-- 'zzlaws_root_b1.FnPackGroupPayloadsDealTheGroupRoundRobin': WHATEVER THE INPUT: true; the input reads as it did. -/
def fnPackGroupPayloadsDealTheGroupRoundRobinSpec : ChangeSpec := { name := "fnPackGroupPayloadsDealTheGroupRoundRobin", fn := fun _ => fun
  | [d1, d2, d3, d4, d5, d6, d7] => { results := [.lit (.bool true)], args := [d1, d2, d3, d4, d5, d6, d7] }
  | _ => none }
def fnPackGroupPayloadsDealTheGroupRoundRobinRow : OpenClaim := { program := "qxb6614196a", sum := "8b2f8b5fdd496c9aeeb84eab8c4c5c2cf1106a34ab9e24104ee192d32f4c8317", func := "example.com/vocopack/vocopack/zzlaws_root_b1.FnPackGroupPayloadsDealTheGroupRoundRobin", spec := "fnPackGroupPayloadsDealTheGroupRoundRobin", unfollowed := true, recurses := true, apart := false }
def FnPackGroupPayloadsDealTheGroupRoundRobinSaid : Prop := fnPackGroupPayloadsDealTheGroupRoundRobinRow.holds Try.pinned (OpenSpec.ofChange fnPackGroupPayloadsDealTheGroupRoundRobinSpec)

/-- ITS FALSE NEIGHBOUR: 'it returns false'. Refute it at one input. -/
def fnPackGroupPayloadsDealTheGroupRoundRobinWrong : ChangeSpec := { name := "fnPackGroupPayloadsDealTheGroupRoundRobin", fn := fun _ => fun
  | [d1, d2, d3, d4, d5, d6, d7] => { results := [.lit (.bool false)], args := [d1, d2, d3, d4, d5, d6, d7] }
  | _ => none }
def FnPackGroupPayloadsDealTheGroupRoundRobinWrongFalsely : Prop := fnPackGroupPayloadsDealTheGroupRoundRobinRow.holds Try.pinned (OpenSpec.ofChange fnPackGroupPayloadsDealTheGroupRoundRobinWrong)

/-- 'zzlaws_root_b1.FnPackGroupInterleavedPayloadIsBundledPayloadOfItsSlice': WHATEVER THE INPUT: true; the input reads as it did. -/
def fnPackGroupInterleavedPayloadIsBundledPayloadOfItsSliceSpec : ChangeSpec := { name := "fnPackGroupInterleavedPayloadIsBundledPayloadOfItsSlice", fn := fun _ => fun
  | [d1, d2, d3, d4, d5, d6, d7] => { results := [.lit (.bool true)], args := [d1, d2, d3, d4, d5, d6, d7] }
  | _ => none }
def fnPackGroupInterleavedPayloadIsBundledPayloadOfItsSliceRow : OpenClaim := { program := "qxb6614196a", sum := "8b2f8b5fdd496c9aeeb84eab8c4c5c2cf1106a34ab9e24104ee192d32f4c8317", func := "example.com/vocopack/vocopack/zzlaws_root_b1.FnPackGroupInterleavedPayloadIsBundledPayloadOfItsSlice", spec := "fnPackGroupInterleavedPayloadIsBundledPayloadOfItsSlice", unfollowed := true, recurses := true, apart := false }
def FnPackGroupInterleavedPayloadIsBundledPayloadOfItsSliceSaid : Prop := fnPackGroupInterleavedPayloadIsBundledPayloadOfItsSliceRow.holds Try.pinned (OpenSpec.ofChange fnPackGroupInterleavedPayloadIsBundledPayloadOfItsSliceSpec)

/-- ITS FALSE NEIGHBOUR: 'it returns false'. Refute it at one input. -/
def fnPackGroupInterleavedPayloadIsBundledPayloadOfItsSliceWrong : ChangeSpec := { name := "fnPackGroupInterleavedPayloadIsBundledPayloadOfItsSlice", fn := fun _ => fun
  | [d1, d2, d3, d4, d5, d6, d7] => { results := [.lit (.bool false)], args := [d1, d2, d3, d4, d5, d6, d7] }
  | _ => none }
def FnPackGroupInterleavedPayloadIsBundledPayloadOfItsSliceWrongFalsely : Prop := fnPackGroupInterleavedPayloadIsBundledPayloadOfItsSliceRow.holds Try.pinned (OpenSpec.ofChange fnPackGroupInterleavedPayloadIsBundledPayloadOfItsSliceWrong)

/-- 'zzlaws_root_b1.FnMaxRedLeastWholePayloadsCoverRedundancy': WHATEVER THE INPUT: true; the input reads as it did. -/
def fnMaxRedLeastWholePayloadsCoverRedundancySpec : ChangeSpec := { name := "fnMaxRedLeastWholePayloadsCoverRedundancy", fn := fun _ => fun
  | [d1, d2] => { results := [.lit (.bool true)], args := [d1, d2] }
  | _ => none }
def fnMaxRedLeastWholePayloadsCoverRedundancyRow : OpenClaim := { program := "qxb6614196a", sum := "8b2f8b5fdd496c9aeeb84eab8c4c5c2cf1106a34ab9e24104ee192d32f4c8317", func := "example.com/vocopack/vocopack/zzlaws_root_b1.FnMaxRedLeastWholePayloadsCoverRedundancy", spec := "fnMaxRedLeastWholePayloadsCoverRedundancy", apart := false }
def FnMaxRedLeastWholePayloadsCoverRedundancySaid : Prop := fnMaxRedLeastWholePayloadsCoverRedundancyRow.holds Try.pinned (OpenSpec.ofChange fnMaxRedLeastWholePayloadsCoverRedundancySpec)

/-- ITS FALSE NEIGHBOUR: 'it returns false'. Refute it at one input. -/
def fnMaxRedLeastWholePayloadsCoverRedundancyWrong : ChangeSpec := { name := "fnMaxRedLeastWholePayloadsCoverRedundancy", fn := fun _ => fun
  | [d1, d2] => { results := [.lit (.bool false)], args := [d1, d2] }
  | _ => none }
def FnMaxRedLeastWholePayloadsCoverRedundancyWrongFalsely : Prop := fnMaxRedLeastWholePayloadsCoverRedundancyRow.holds Try.pinned (OpenSpec.ofChange fnMaxRedLeastWholePayloadsCoverRedundancyWrong)

/-- 'zzlaws_root_b1.FnMaxRedCoveredSlotsAreAFixedPoint': WHATEVER THE INPUT: true; the input reads as it did. -/
def fnMaxRedCoveredSlotsAreAFixedPointSpec : ChangeSpec := { name := "fnMaxRedCoveredSlotsAreAFixedPoint", fn := fun _ => fun
  | [d1, d2] => { results := [.lit (.bool true)], args := [d1, d2] }
  | _ => none }
def fnMaxRedCoveredSlotsAreAFixedPointRow : OpenClaim := { program := "qxb6614196a", sum := "8b2f8b5fdd496c9aeeb84eab8c4c5c2cf1106a34ab9e24104ee192d32f4c8317", func := "example.com/vocopack/vocopack/zzlaws_root_b1.FnMaxRedCoveredSlotsAreAFixedPoint", spec := "fnMaxRedCoveredSlotsAreAFixedPoint", apart := false }
def FnMaxRedCoveredSlotsAreAFixedPointSaid : Prop := fnMaxRedCoveredSlotsAreAFixedPointRow.holds Try.pinned (OpenSpec.ofChange fnMaxRedCoveredSlotsAreAFixedPointSpec)

/-- ITS FALSE NEIGHBOUR: 'it returns false'. Refute it at one input. -/
def fnMaxRedCoveredSlotsAreAFixedPointWrong : ChangeSpec := { name := "fnMaxRedCoveredSlotsAreAFixedPoint", fn := fun _ => fun
  | [d1, d2] => { results := [.lit (.bool false)], args := [d1, d2] }
  | _ => none }
def FnMaxRedCoveredSlotsAreAFixedPointWrongFalsely : Prop := fnMaxRedCoveredSlotsAreAFixedPointRow.holds Try.pinned (OpenSpec.ofChange fnMaxRedCoveredSlotsAreAFixedPointWrong)

end Rows
end Go.Proofs.Qxb6614196a
