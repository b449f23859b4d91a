/-
  DERIVED. GIVEN WITH THE SEED: THE PROGRAM's TIES (one call each: nine closed facts by the kernel) AND EACH ROW's TIE, after the 31st guide's Derived/Test/Toyas{Tie, Card}.lean. No idea stands in it: it is a product of the set-up. Laid BY PROGRAM, IN A SANDBOX (cutbox-door.mjs). By AI agents, Wed Nov 11 2026. No macro, syntax, notation, axiom, sorry.
-/
import Derived.Test.YtmilmnedgadidaaDoorRows
import Derived.LaidByTextLater
import Derived.SevenTiedAt
import Derived.LaidSub
import Derived.LaidOnce
namespace Go.Proofs.YtmilmnedgadidaaDoor
open Go
set_option maxRecDepth 100000
theorem seatTie1 : Tryd.prog.laidByTextLater [("pub-orthodrome/pub/gogeom.errIncorrectEnd", Rows.laid_pub_orthodrome_pub_gogeom_errIncorrectEnd), ("pub-orthodrome/pub/gogeom.errLengthStrideMismatch", Rows.laid_pub_orthodrome_pub_gogeom_errLengthStrideMismatch), ("pub-orthodrome/pub/gogeom.errMisalignedEnd", Rows.laid_pub_orthodrome_pub_gogeom_errMisalignedEnd), ("pub-orthodrome/pub/gogeom.errNonEmptyEnds", Rows.laid_pub_orthodrome_pub_gogeom_errNonEmptyEnds), ("pub-orthodrome/pub/gogeom.errNonEmptyEndss", Rows.laid_pub_orthodrome_pub_gogeom_errNonEmptyEndss), ("pub-orthodrome/pub/gogeom.errNonEmptyFlatCoords", Rows.laid_pub_orthodrome_pub_gogeom_errNonEmptyFlatCoords), ("pub-orthodrome/pub/gogeom.errOutOfOrderEnd", Rows.laid_pub_orthodrome_pub_gogeom_errOutOfOrderEnd), ("pub-orthodrome/pub/gogeom.errStrideLayoutMismatch", Rows.laid_pub_orthodrome_pub_gogeom_errStrideLayoutMismatch)] [.sentinel, .sentinel, .sentinel, .sentinel, .sentinel, .sentinel, .sentinel, .sentinel] true :=
  Program.laidByTextLater_by_one 161 8 2 (by kernel_rfl) (by kernel_rfl) (by kernel_rfl) (by kernel_rfl) (by kernel_rfl) (by kernel_rfl) (fun _ _ => by kernel_rfl)
theorem noOwnUnsafe : Tryd.pinned.checked.prog.headLifts.contains "ownunsafe" = false := by kernel_rfl
theorem tie : Tryd.prog.laidByTextLater [("pub-orthodrome/pub/gogeom.errIncorrectEnd", Rows.laid_pub_orthodrome_pub_gogeom_errIncorrectEnd), ("pub-orthodrome/pub/gogeom.errLengthStrideMismatch", Rows.laid_pub_orthodrome_pub_gogeom_errLengthStrideMismatch), ("pub-orthodrome/pub/gogeom.errMisalignedEnd", Rows.laid_pub_orthodrome_pub_gogeom_errMisalignedEnd), ("pub-orthodrome/pub/gogeom.errNonEmptyEnds", Rows.laid_pub_orthodrome_pub_gogeom_errNonEmptyEnds), ("pub-orthodrome/pub/gogeom.errNonEmptyEndss", Rows.laid_pub_orthodrome_pub_gogeom_errNonEmptyEndss), ("pub-orthodrome/pub/gogeom.errNonEmptyFlatCoords", Rows.laid_pub_orthodrome_pub_gogeom_errNonEmptyFlatCoords), ("pub-orthodrome/pub/gogeom.errOutOfOrderEnd", Rows.laid_pub_orthodrome_pub_gogeom_errOutOfOrderEnd), ("pub-orthodrome/pub/gogeom.errStrideLayoutMismatch", Rows.laid_pub_orthodrome_pub_gogeom_errStrideLayoutMismatch)] [.sentinel, .sentinel, .sentinel, .sentinel, .sentinel, .sentinel, .sentinel, .sentinel] true :=
  Program.laidByTextLater.sub seatTie1 ["pub-orthodrome/pub/gogeom.errIncorrectEnd", "pub-orthodrome/pub/gogeom.errLengthStrideMismatch", "pub-orthodrome/pub/gogeom.errMisalignedEnd", "pub-orthodrome/pub/gogeom.errNonEmptyEnds", "pub-orthodrome/pub/gogeom.errNonEmptyEndss", "pub-orthodrome/pub/gogeom.errNonEmptyFlatCoords", "pub-orthodrome/pub/gogeom.errOutOfOrderEnd", "pub-orthodrome/pub/gogeom.errStrideLayoutMismatch"] (by kernel_rfl) (by kernel_rfl)
theorem fnVerifyEnds_row_tie : Rows.fnVerifyEndsRow.laidByTextAt .later Tryd.pinned [.sentinel, .sentinel, .sentinel, .sentinel, .sentinel, .sentinel, .sentinel, .sentinel] true :=
  OpenClaim.laidByTextAt_later rfl rfl tie noOwnUnsafe
theorem fnVerifyEndsUpto_row_tie : Rows.fnVerifyEndsUptoRow.laidByTextAt .later Tryd.pinned [.sentinel, .sentinel, .sentinel, .sentinel, .sentinel, .sentinel, .sentinel, .sentinel] true :=
  OpenClaim.laidByTextAt_later rfl rfl tie noOwnUnsafe
end Go.Proofs.YtmilmnedgadidaaDoor
