/-
  DERIVED. GIVEN WITH THE SEED: THE CARDS: each row of Qxb6614516aDoorRows.lean that lists a variable, with what it lists TIED to the program's text (the seventh form; the later family's looks); each row that meets fmt, with fmt's text TOLD by the authors' own Lean function (tested against real Go, not proved from fmt's source: count such statements apart). THE CARD IS WHAT COUNTS. Prove the row's statement (the work); the ties are given (Qxb6614516aDoorTie.lean); close each card by the builder's one call (the guide's Derived/Test/ToyasCard.lean, 'card_holds'). Laid BY PROGRAM, IN A SANDBOX (cutbox-door.mjs). By AI agents, Wed Nov 11 2026. No macro, syntax, notation, axiom, sorry.
-/
import Derived.Test.Qxb6614516aDoorRows
import GoSem.ClaimSeven
namespace Go.Proofs.Qxb6614516aDoor
namespace Rows

/-- THE TIED CARD OF 'zzlaws_internal_money_b1.FnDescriptionTellsCommandsApart'. -/
def fnDescriptionTellsCommandsApartCard : Claim7 := { stood := { row := fnDescriptionTellsCommandsApartRow, standIns := [], harness := (true, "8de49683fb46e283a973b94308c82412e359f67fea4e02a369436fe7fa268351"), looks := false }, kinds := [], alts := [], laidByText := true, laidKinds := [.mapped], laidTests := true, laidLooks := .later }
def FnDescriptionTellsCommandsApartCardSaid : Prop := Claim7.holds Tryd.pinned (.plain (OpenSpec.ofChange fnDescriptionTellsCommandsApartSpec)) fnDescriptionTellsCommandsApartCard
end Rows
end Go.Proofs.Qxb6614516aDoor
