/-
  DERIVED. GIVEN WITH THE SEED: THE CARDS: each row of YtgccaabpckfhlaaGreatDoorRows.lean that lists a variable, with what it lists TIED to the program's text (the seventh form; the later family's looks); each row that meets fmt, with fmt's text TOLD by the authors' own Lean function (tested against real Go, not proved from fmt's source: count such statements apart). THE CARD IS WHAT COUNTS. Prove the row's statement (the work); the ties are given (YtgccaabpckfhlaaGreatDoorTie.lean); close each card by the builder's one call (the guide's Derived/Test/ToyasCard.lean, 'card_holds'). Laid BY PROGRAM, IN A SANDBOX (cutbox-door.mjs). By AI agents, Wed Nov 11 2026. No macro, syntax, notation, axiom, sorry.
-/
import Derived.Test.YtgccaabpckfhlaaGreatDoorRows
import GoSem.ClaimSeven
namespace Go.Proofs.YtgccaabpckfhlaaGreatDoor
namespace Rows

/-- THE TIED CARD OF 'laws.FnCompareUint64'. -/
def fnCompareUint64Card : Claim7 := { stood := { row := fnCompareUint64Row, standIns := [], harness := (true, "ec8c003870d0ad9d404cc53ca853296f8225cc1adee1a224d4a9d8ec4b9a8ca2"), looks := true }, kinds := [], alts := [], laidByText := true, laidKinds := [.data, .data], laidTests := true, laidLooks := .later }
def FnCompareUint64CardSaid : Prop := Claim7.holds Tryz.pinned (.plain (OpenSpec.ofChange fnCompareUint64Spec)) fnCompareUint64Card

/-- THE SECOND FORM's CARD OF 'laws.FnCompareUint64'. -/
def fnCompareUint64UptoCard : Claim7 := { stood := { row := fnCompareUint64UptoRow, standIns := [], harness := (true, "ec8c003870d0ad9d404cc53ca853296f8225cc1adee1a224d4a9d8ec4b9a8ca2"), looks := true }, kinds := [], alts := [], laidByText := true, laidKinds := [.data, .data], laidTests := true, laidLooks := .later }
def FnCompareUint64UptoCardSaid : Prop := Claim7.holds Tryz.pinned (.plain (OpenSpec.upto fnCompareUint64Spec)) fnCompareUint64UptoCard
end Rows
end Go.Proofs.YtgccaabpckfhlaaGreatDoor
