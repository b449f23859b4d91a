/-
  DERIVED. GIVEN WITH THE SEED: THE PROGRAM's TIES (one call each: nine closed facts by the kernel) AND EACH ROW's TIE, after the 31st guide's Derived/Test/Toyas{Tie, Card}.lean. No idea stands in it: it is a product of the set-up. Laid BY PROGRAM, IN A SANDBOX (cutbox-door.mjs). By AI agents, Wed Nov 11 2026. No macro, syntax, notation, axiom, sorry.
-/
import Derived.Test.YtelhfcjchpdkiaaDoorRows
import Derived.LaidByTextLater
import Derived.SevenTiedAt
import Derived.LaidSub
import Derived.LaidOnce
namespace Go.Proofs.YtelhfcjchpdkiaaDoor
open Go
set_option maxRecDepth 100000
theorem seatTie1 : Tryd.prog.laidByTextLater [("pub-orthodrome/pub/gogeom/bigxy.dpSafeEpsilon", Rows.laid_pub_orthodrome_pub_gogeom_bigxy_dpSafeEpsilon)] [.data] true :=
  Program.laidByTextLater_by_one 13 8 2 (by kernel_rfl) (by kernel_rfl) (by kernel_rfl) (by kernel_rfl) (by kernel_rfl) (by kernel_rfl) (fun _ _ => by kernel_rfl)
theorem noOwnUnsafe : Tryd.pinned.checked.prog.headLifts.contains "ownunsafe" = false := by kernel_rfl
theorem tie : Tryd.prog.laidByTextLater [("pub-orthodrome/pub/gogeom/bigxy.dpSafeEpsilon", Rows.laid_pub_orthodrome_pub_gogeom_bigxy_dpSafeEpsilon)] [.data] true :=
  Program.laidByTextLater.sub seatTie1 ["pub-orthodrome/pub/gogeom/bigxy.dpSafeEpsilon"] (by kernel_rfl) (by kernel_rfl)
theorem fnOrientationGreat_row_tie : Rows.fnOrientationGreatRow.laidByTextAt .later Tryd.pinned [.data] true :=
  OpenClaim.laidByTextAt_later rfl rfl tie noOwnUnsafe
theorem fnRingIsCCW_row_tie : Rows.fnRingIsCCWRow.laidByTextAt .later Tryd.pinned [.data] true :=
  OpenClaim.laidByTextAt_later rfl rfl tie noOwnUnsafe
theorem fnOrientationGreatUpto_row_tie : Rows.fnOrientationGreatUptoRow.laidByTextAt .later Tryd.pinned [.data] true :=
  OpenClaim.laidByTextAt_later rfl rfl tie noOwnUnsafe
theorem fnRingIsCCWUpto_row_tie : Rows.fnRingIsCCWUptoRow.laidByTextAt .later Tryd.pinned [.data] true :=
  OpenClaim.laidByTextAt_later rfl rfl tie noOwnUnsafe
end Go.Proofs.YtelhfcjchpdkiaaDoor
