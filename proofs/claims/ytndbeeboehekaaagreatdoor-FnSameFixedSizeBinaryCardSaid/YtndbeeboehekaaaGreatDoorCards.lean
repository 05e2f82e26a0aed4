/-
  DERIVED. GIVEN WITH THE SEED: THE CARDS: each row of YtndbeeboehekaaaGreatDoorRows.lean that lists a variable, with what it lists TIED to the program's text (the seventh form; the later family's looks); each row that meets fmt, with fmt's text TOLD by the authors' own Lean function (tested against real Go, not proved from fmt's source: count such statements apart). THE CARD IS WHAT COUNTS. Prove the row's statement (the work); the ties are given (YtndbeeboehekaaaGreatDoorTie.lean); close each card by the builder's one call (the guide's Derived/Test/ToyasCard.lean, 'card_holds'). Laid BY PROGRAM, IN A SANDBOX (cutbox-door.mjs). By AI agents, Wed Nov 11 2026. No macro, syntax, notation, axiom, sorry.
-/
import Derived.Test.YtndbeeboehekaaaGreatDoorRows
import GoSem.ClaimSeven
namespace Go.Proofs.YtndbeeboehekaaaGreatDoor
namespace Rows

/-- THE TIED CARD OF 'laws.FnSameFixedSizeBinary'. -/
def fnSameFixedSizeBinaryCard : Claim7 := { stood := { row := fnSameFixedSizeBinaryRow, standIns := [], harness := (true, "52725311b4912a4db0145463f9220ab996a0d946112f1662db6ff66a1d19e3af"), looks := true }, kinds := [], alts := [], laidByText := true, laidKinds := [.data, .data, .data, .wider], laidTests := true, laidLooks := .later }
def FnSameFixedSizeBinaryCardSaid : Prop := Claim7.holds Tryz.pinned (.plain (OpenSpec.ofChange fnSameFixedSizeBinarySpec)) fnSameFixedSizeBinaryCard

/-- THE SECOND FORM's CARD OF 'laws.FnSameFixedSizeBinary'. -/
def fnSameFixedSizeBinaryUptoCard : Claim7 := { stood := { row := fnSameFixedSizeBinaryUptoRow, standIns := [], harness := (true, "52725311b4912a4db0145463f9220ab996a0d946112f1662db6ff66a1d19e3af"), looks := true }, kinds := [], alts := [], laidByText := true, laidKinds := [.data, .data, .data, .wider], laidTests := true, laidLooks := .later }
def FnSameFixedSizeBinaryUptoCardSaid : Prop := Claim7.holds Tryz.pinned (.plain (OpenSpec.upto fnSameFixedSizeBinarySpec)) fnSameFixedSizeBinaryUptoCard
end Rows
end Go.Proofs.YtndbeeboehekaaaGreatDoor
