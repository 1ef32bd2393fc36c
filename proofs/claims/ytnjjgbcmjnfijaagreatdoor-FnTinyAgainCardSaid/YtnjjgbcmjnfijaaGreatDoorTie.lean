/-
  DERIVED. GIVEN WITH THE SEED: THE PROGRAM's TIES (one call each: nine closed facts by the kernel) AND EACH ROW's TIE, after the 31st guide's Derived/Test/Toyas{Tie, Card}.lean. No idea stands in it: it is a product of the set-up. Laid BY PROGRAM, IN A SANDBOX (cutbox-door.mjs). By AI agents, Wed Nov 11 2026. No macro, syntax, notation, axiom, sorry.
-/
import Derived.Test.YtnjjgbcmjnfijaaGreatDoorRows
import Derived.LaidByTextLater
import Derived.SevenTiedAt
import Derived.LaidSub
import Derived.LaidOnce
namespace Go.Proofs.YtnjjgbcmjnfijaaGreatDoor
open Go
set_option maxRecDepth 100000
theorem seatTie1 : Tryz.prog.laidByTextLater [("math.pow10tab", Rows.laid_math_pow10tab), ("math.pow10postab32", Rows.laid_math_pow10postab32), ("math.pow10negtab32", Rows.laid_math_pow10negtab32), ("pub-alidade/pub/simplefeatures/rtree.Stop", Rows.laid_pub_alidade_pub_simplefeatures_rtree_Stop)] [.data, .data, .data, .sentinel] true :=
  Program.laidByTextLater_by_one 43 8 33 (by kernel_rfl) (by kernel_rfl) (by kernel_rfl) (by kernel_rfl) (by kernel_rfl) (by kernel_rfl) (fun _ _ => by kernel_rfl)
theorem noOwnUnsafe : Tryz.pinned.checked.prog.headLifts.contains "ownunsafe" = false := by kernel_rfl
theorem tie : Tryz.prog.laidByTextLater [("math.pow10tab", Rows.laid_math_pow10tab), ("math.pow10postab32", Rows.laid_math_pow10postab32), ("math.pow10negtab32", Rows.laid_math_pow10negtab32), ("pub-alidade/pub/simplefeatures/rtree.Stop", Rows.laid_pub_alidade_pub_simplefeatures_rtree_Stop)] [.data, .data, .data, .sentinel] true :=
  Program.laidByTextLater.sub seatTie1 ["math.pow10tab", "math.pow10postab32", "math.pow10negtab32", "pub-alidade/pub/simplefeatures/rtree.Stop"] (by kernel_rfl) (by kernel_rfl)
theorem fnTinyAgain_row_tie : Rows.fnTinyAgainRow.laidByTextAt .later Tryz.pinned [.data, .data, .data, .sentinel] true :=
  OpenClaim.laidByTextAt_later rfl rfl tie noOwnUnsafe
theorem fnTinyBack_row_tie : Rows.fnTinyBackRow.laidByTextAt .later Tryz.pinned [.data, .data, .data, .sentinel] true :=
  OpenClaim.laidByTextAt_later rfl rfl tie noOwnUnsafe
theorem fnTinyAgainUpto_row_tie : Rows.fnTinyAgainUptoRow.laidByTextAt .later Tryz.pinned [.data, .data, .data, .sentinel] true :=
  OpenClaim.laidByTextAt_later rfl rfl tie noOwnUnsafe
theorem fnTinyBackUpto_row_tie : Rows.fnTinyBackUptoRow.laidByTextAt .later Tryz.pinned [.data, .data, .data, .sentinel] true :=
  OpenClaim.laidByTextAt_later rfl rfl tie noOwnUnsafe
end Go.Proofs.YtnjjgbcmjnfijaaGreatDoor
