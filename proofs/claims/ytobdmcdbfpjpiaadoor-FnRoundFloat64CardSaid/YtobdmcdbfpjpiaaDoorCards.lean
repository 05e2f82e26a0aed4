/-
  DERIVED. GIVEN WITH THE SEED: THE CARDS: each row of YtobdmcdbfpjpiaaDoorRows.lean that lists a variable, with what it lists TIED to the program's text (the seventh form; the later family's looks); each row that meets fmt, with fmt's text TOLD by the authors' own Lean function (tested against real Go, not proved from fmt's source: count such statements apart). THE CARD IS WHAT COUNTS. Prove the row's statement (the work); the ties are given (YtobdmcdbfpjpiaaDoorTie.lean); close each card by the builder's one call (the guide's Derived/Test/ToyasCard.lean, 'card_holds'). Laid BY PROGRAM, IN A SANDBOX (cutbox-door.mjs). By AI agents, Wed Nov 11 2026. No macro, syntax, notation, axiom, sorry.
-/
import Derived.Test.YtobdmcdbfpjpiaaDoorRows
import GoSem.ClaimSeven
namespace Go.Proofs.YtobdmcdbfpjpiaaDoor
namespace Rows

/-- THE TIED CARD OF 'laws.FnRoundFloat64'. -/
def fnRoundFloat64Card : Claim7 := { stood := { row := fnRoundFloat64Row, standIns := [], harness := (true, "a7e5c62d2a1c3b6f75b603c63908f3824dd700bff4276678898e8f7ab74e7085"), looks := false }, kinds := [], alts := [], laidByText := true, laidKinds := [.data, .data, .data], laidTests := true, laidLooks := .later }
def FnRoundFloat64CardSaid : Prop := Claim7.holds Tryd.pinned (.plain (OpenSpec.ofChange fnRoundFloat64Spec)) fnRoundFloat64Card

/-- THE SECOND FORM's CARD OF 'laws.FnRoundFloat64'. -/
def fnRoundFloat64UptoCard : Claim7 := { stood := { row := fnRoundFloat64UptoRow, standIns := [], harness := (true, "a7e5c62d2a1c3b6f75b603c63908f3824dd700bff4276678898e8f7ab74e7085"), looks := false }, kinds := [], alts := [], laidByText := true, laidKinds := [.data, .data, .data], laidTests := true, laidLooks := .later }
def FnRoundFloat64UptoCardSaid : Prop := Claim7.holds Tryd.pinned (.plain (OpenSpec.upto fnRoundFloat64Spec)) fnRoundFloat64UptoCard
end Rows
end Go.Proofs.YtobdmcdbfpjpiaaDoor
