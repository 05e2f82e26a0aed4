/-
  DERIVED. GIVEN WITH THE SEED: THE PROGRAM's TIES (one call each: nine closed facts by the kernel) AND EACH ROW's TIE, after the 31st guide's Derived/Test/Toyas{Tie, Card}.lean. No idea stands in it: it is a product of the set-up. Laid BY PROGRAM, IN A SANDBOX (cutbox-door.mjs). By AI agents, Wed Nov 11 2026. No macro, syntax, notation, axiom, sorry.
-/
import Derived.Test.YtndbeeboehekaaaGreatDoorRows
import Derived.LaidByTextLater
import Derived.SevenTiedAt
import Derived.LaidSub
import Derived.LaidOnce
namespace Go.Proofs.YtndbeeboehekaaaGreatDoor
open Go
set_option maxRecDepth 100000
theorem seatTie1 : Tryz.prog.laidByTextLater [("given.example/pub-arrowroot/pub/arrow/arrow/bitutil.BitMask", Rows.laid_given_example_pub_arrowroot_pub_arrow_arrow_bitutil_BitMask), ("given.example/pub-arrowroot/pub/arrow/arrow/bitutil.PrecedingBitmask", Rows.laid_given_example_pub_arrowroot_pub_arrow_arrow_bitutil_PrecedingBitmask), ("given.example/pub-arrowroot/pub/arrow/arrow/bitutil.TrailingBitmask", Rows.laid_given_example_pub_arrowroot_pub_arrow_arrow_bitutil_TrailingBitmask), ("given.example/pub-arrowroot/spec.Exactly", Rows.laid_given_example_pub_arrowroot_spec_Exactly)] [.data, .data, .data, .wider] true :=
  Program.laidByTextLater_by_one 29 8 9 (by kernel_rfl) (by kernel_rfl) (by kernel_rfl) (by kernel_rfl) (by kernel_rfl) (by kernel_rfl) (fun _ _ => by kernel_rfl)
theorem noOwnUnsafe : Tryz.pinned.checked.prog.headLifts.contains "ownunsafe" = false := by kernel_rfl
theorem tie : Tryz.prog.laidByTextLater [("given.example/pub-arrowroot/pub/arrow/arrow/bitutil.BitMask", Rows.laid_given_example_pub_arrowroot_pub_arrow_arrow_bitutil_BitMask), ("given.example/pub-arrowroot/pub/arrow/arrow/bitutil.PrecedingBitmask", Rows.laid_given_example_pub_arrowroot_pub_arrow_arrow_bitutil_PrecedingBitmask), ("given.example/pub-arrowroot/pub/arrow/arrow/bitutil.TrailingBitmask", Rows.laid_given_example_pub_arrowroot_pub_arrow_arrow_bitutil_TrailingBitmask), ("given.example/pub-arrowroot/spec.Exactly", Rows.laid_given_example_pub_arrowroot_spec_Exactly)] [.data, .data, .data, .wider] true :=
  Program.laidByTextLater.sub seatTie1 ["given.example/pub-arrowroot/pub/arrow/arrow/bitutil.BitMask", "given.example/pub-arrowroot/pub/arrow/arrow/bitutil.PrecedingBitmask", "given.example/pub-arrowroot/pub/arrow/arrow/bitutil.TrailingBitmask", "given.example/pub-arrowroot/spec.Exactly"] (by kernel_rfl) (by kernel_rfl)
theorem fnSameFixedSizeBinary_row_tie : Rows.fnSameFixedSizeBinaryRow.laidByTextAt .later Tryz.pinned [.data, .data, .data, .wider] true :=
  OpenClaim.laidByTextAt_later rfl rfl tie noOwnUnsafe
theorem fnSameFixedSizeBinaryUpto_row_tie : Rows.fnSameFixedSizeBinaryUptoRow.laidByTextAt .later Tryz.pinned [.data, .data, .data, .wider] true :=
  OpenClaim.laidByTextAt_later rfl rfl tie noOwnUnsafe
end Go.Proofs.YtndbeeboehekaaaGreatDoor
