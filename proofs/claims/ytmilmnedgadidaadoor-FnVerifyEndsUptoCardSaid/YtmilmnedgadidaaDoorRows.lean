/-
  NARROWER THAN 'FOR EVERY INPUT', by the rows' own cells (each row's printed sentence says how): FnVerifyEnds: loops, laid.
  DERIVED. THE GIVEN ROWS OF THIS SEAT. 1 by the template 'for every input the law returns true; each argument reads behind the call as it read before'; 0 by the template 'total and deterministic' (their statements: YtmilmnedgadidaaDoorTotals.lean).
  GIVEN WITH THE SEED: the statements are not yours to turn. If you find one false, say at which input.
  Laid BY PROGRAM, IN A SANDBOX (cutbox-rows.mjs): the forced cells as the released guide's own fill.sh prints them over the translation 839aae20bea40c93… (all of the seat's roots in one cut). By AI agents, Wed Nov 11 2026. No macro, syntax, notation, axiom, sorry.
-/
import Derived.Test.YtmilmnedgadidaaDoorChecked
import GoSem.Claim
import GoSem.ClaimJoined
import GoSem.ClaimMapViews
import Derived.JoinedTies
import Derived.KernelRfl
namespace Go.Proofs.YtmilmnedgadidaaDoor
/- THE CELL 'sum', in the pinned program and in every row, IS THE sha256 OF THE DUMP (.gsa) THAT YtmilmnedgadidaaDoorProg.lean LOADS. Nothing in Lean hashes anything: it is a label: what it is worth is what the hold of that sum in a sandbox is worth. -/
noncomputable def Tryd.pinned : Pinned := { name := "ytmilmnedgadidaadoor", sum := "839aae20bea40c932fd7e17007371c1e6a4b3e42436423a6632eb382f4d35bd9", checked := Tryd.checked }
namespace Rows
def none {H : Type} : Left H := { results := [], args := [] }

/- WHAT THE LISTED PACKAGE-LEVEL VARIABLES READ AS WHEN THE CALL BEGINS. Each datum BY PROGRAM (the guide's laid-datum.mjs) off the statement by which the dump's own 'gosem.cut.vars' lays the variable. In a bare row this is a premise. The card (YtmilmnedgadidaaDoorCards.lean) ties it to the program's text. -/
def laid_pub_orthodrome_pub_gogeom_errIncorrectEnd {H : Type} : DataW H := .iface "*errors.errorString" (.ptr (.agg [.lit (.string [103, 101, 111, 109, 58, 32, 105, 110, 99, 111, 114, 114, 101, 99, 116, 32, 101, 110, 100])]))
def laid_pub_orthodrome_pub_gogeom_errLengthStrideMismatch {H : Type} : DataW H := .iface "*errors.errorString" (.ptr (.agg [.lit (.string [103, 101, 111, 109, 58, 32, 108, 101, 110, 103, 116, 104, 47, 115, 116, 114, 105, 100, 101, 32, 109, 105, 115, 109, 97, 116, 99, 104])]))
def laid_pub_orthodrome_pub_gogeom_errMisalignedEnd {H : Type} : DataW H := .iface "*errors.errorString" (.ptr (.agg [.lit (.string [103, 101, 111, 109, 58, 32, 109, 105, 115, 97, 108, 105, 103, 110, 101, 100, 32, 101, 110, 100])]))
def laid_pub_orthodrome_pub_gogeom_errNonEmptyEnds {H : Type} : DataW H := .iface "*errors.errorString" (.ptr (.agg [.lit (.string [103, 101, 111, 109, 58, 32, 110, 111, 110, 45, 101, 109, 112, 116, 121, 32, 101, 110, 100, 115])]))
def laid_pub_orthodrome_pub_gogeom_errNonEmptyEndss {H : Type} : DataW H := .iface "*errors.errorString" (.ptr (.agg [.lit (.string [103, 101, 111, 109, 58, 32, 110, 111, 110, 45, 101, 109, 112, 116, 121, 32, 101, 110, 100, 115, 115])]))
def laid_pub_orthodrome_pub_gogeom_errNonEmptyFlatCoords {H : Type} : DataW H := .iface "*errors.errorString" (.ptr (.agg [.lit (.string [103, 101, 111, 109, 58, 32, 110, 111, 110, 45, 101, 109, 112, 116, 121, 32, 102, 108, 97, 116, 67, 111, 111, 114, 100, 115])]))
def laid_pub_orthodrome_pub_gogeom_errOutOfOrderEnd {H : Type} : DataW H := .iface "*errors.errorString" (.ptr (.agg [.lit (.string [103, 101, 111, 109, 58, 32, 111, 117, 116, 45, 111, 102, 45, 111, 114, 100, 101, 114, 32, 101, 110, 100])]))
def laid_pub_orthodrome_pub_gogeom_errStrideLayoutMismatch {H : Type} : DataW H := .iface "*errors.errorString" (.ptr (.agg [.lit (.string [103, 101, 111, 109, 58, 32, 115, 116, 114, 105, 100, 101, 47, 108, 97, 121, 111, 117, 116, 32, 109, 105, 115, 109, 97, 116, 99, 104])]))

/-- 'laws.FnVerifyEnds': WHATEVER THE INPUT: true; the input reads as it did. -/
def fnVerifyEndsSpec : ChangeSpec := { name := "fnVerifyEnds", fn := fun _ => fun
  | [d1, d2] => { results := [.lit (.bool true)], args := [d1, d2] }
  | _ => none }
def fnVerifyEndsRow : OpenClaim := { program := "ytmilmnedgadidaadoor", sum := "839aae20bea40c932fd7e17007371c1e6a4b3e42436423a6632eb382f4d35bd9", func := "pub-orthodrome/laws.FnVerifyEnds", spec := "fnVerifyEnds", unfollowed := true, recurses := true, named := ["pub-orthodrome/pub/gogeom.errStrideLayoutMismatch", "pub-orthodrome/pub/gogeom.errNonEmptyFlatCoords", "pub-orthodrome/pub/gogeom.errLengthStrideMismatch", "pub-orthodrome/pub/gogeom.errNonEmptyEnds", "pub-orthodrome/pub/gogeom.errMisalignedEnd", "pub-orthodrome/pub/gogeom.errOutOfOrderEnd", "pub-orthodrome/pub/gogeom.errIncorrectEnd", "pub-orthodrome/pub/gogeom.errNonEmptyEndss"], loops := true, apart := false, laid := [("pub-orthodrome/pub/gogeom.errIncorrectEnd", laid_pub_orthodrome_pub_gogeom_errIncorrectEnd), ("pub-orthodrome/pub/gogeom.errLengthStrideMismatch", laid_pub_orthodrome_pub_gogeom_errLengthStrideMismatch), ("pub-orthodrome/pub/gogeom.errMisalignedEnd", laid_pub_orthodrome_pub_gogeom_errMisalignedEnd), ("pub-orthodrome/pub/gogeom.errNonEmptyEnds", laid_pub_orthodrome_pub_gogeom_errNonEmptyEnds), ("pub-orthodrome/pub/gogeom.errNonEmptyEndss", laid_pub_orthodrome_pub_gogeom_errNonEmptyEndss), ("pub-orthodrome/pub/gogeom.errNonEmptyFlatCoords", laid_pub_orthodrome_pub_gogeom_errNonEmptyFlatCoords), ("pub-orthodrome/pub/gogeom.errOutOfOrderEnd", laid_pub_orthodrome_pub_gogeom_errOutOfOrderEnd), ("pub-orthodrome/pub/gogeom.errStrideLayoutMismatch", laid_pub_orthodrome_pub_gogeom_errStrideLayoutMismatch)] }
def FnVerifyEndsSaid : Prop := fnVerifyEndsRow.holds Tryd.pinned (OpenSpec.ofChange fnVerifyEndsSpec)

/-- ITS FALSE NEIGHBOUR: 'it returns false'. Refute it at one input. -/
def fnVerifyEndsWrong : ChangeSpec := { name := "fnVerifyEnds", fn := fun _ => fun
  | [d1, d2] => { results := [.lit (.bool false)], args := [d1, d2] }
  | _ => none }
def FnVerifyEndsWrongFalsely : Prop := fnVerifyEndsRow.holds Tryd.pinned (OpenSpec.ofChange fnVerifyEndsWrong)

/- THE SECOND FORM. 'bulk': how many values and letters a reading holds, each counted each time it is reached (what is shared counts as often as it is met; a slice's spare places count too). A statement '..UptoSaid' is the law's where the arguments, and the package variables that the reading takes, are together of bulk at most 1048576: NARROWER than '..Said'. Prove '..Said' where nothing that the law and all that it calls make is longer than what came in: it says more and counts as full. Else prove '..UptoSaid'. A law counts once. -/
mutual
def uptoBulk {H : Type} : DataW H → Nat
  | .lit (.string bytes) => bytes.length + 1
  | .lit _ => 1
  | .nil => 1
  | .ptr d => uptoBulk d + 1
  | .slice elems spare => uptoBulkAll elems + uptoBulkAll spare + 1
  | .agg parts => uptoBulkAll parts + 1
  | .iface _ d => uptoBulk d + 1
  | .map entries => uptoBulkEntries entries + 1
  | .held _ => 1
def uptoBulkAll {H : Type} : List (DataW H) → Nat
  | [] => 0
  | d :: r => uptoBulk d + uptoBulkAll r
def uptoBulkEntries {H : Type} : List (Lit × DataW H) → Nat
  | [] => 0
  | x :: r => uptoBulkEntry x + uptoBulkEntries r
def uptoBulkEntry {H : Type} : Lit × DataW H → Nat
  | (.string bytes, d) => bytes.length + uptoBulk d + 1
  | (_, d) => uptoBulk d + 1
 end
def uptoSmall : (H : Type) → List (DataW H) → Bool := fun _ ds => decide (uptoBulkAll ds ≤ 1048576)
def OpenSpec.upto (s : _root_.Go.ChangeSpec) : _root_.Go.OpenSpec := { _root_.Go.OpenSpec.ofChange s with cond := some uptoSmall }

/-- 'laws.FnVerifyEnds', WHERE WHAT IT READS IS OF BULK AT MOST 1048576: true; the input reads as it did. -/
def fnVerifyEndsUptoRow : OpenClaim := { program := "ytmilmnedgadidaadoor", sum := "839aae20bea40c932fd7e17007371c1e6a4b3e42436423a6632eb382f4d35bd9", func := "pub-orthodrome/laws.FnVerifyEnds", spec := "fnVerifyEnds", unfollowed := true, recurses := true, named := ["pub-orthodrome/pub/gogeom.errStrideLayoutMismatch", "pub-orthodrome/pub/gogeom.errNonEmptyFlatCoords", "pub-orthodrome/pub/gogeom.errLengthStrideMismatch", "pub-orthodrome/pub/gogeom.errNonEmptyEnds", "pub-orthodrome/pub/gogeom.errMisalignedEnd", "pub-orthodrome/pub/gogeom.errOutOfOrderEnd", "pub-orthodrome/pub/gogeom.errIncorrectEnd", "pub-orthodrome/pub/gogeom.errNonEmptyEndss"], loops := true, apart := false, laid := [("pub-orthodrome/pub/gogeom.errIncorrectEnd", laid_pub_orthodrome_pub_gogeom_errIncorrectEnd), ("pub-orthodrome/pub/gogeom.errLengthStrideMismatch", laid_pub_orthodrome_pub_gogeom_errLengthStrideMismatch), ("pub-orthodrome/pub/gogeom.errMisalignedEnd", laid_pub_orthodrome_pub_gogeom_errMisalignedEnd), ("pub-orthodrome/pub/gogeom.errNonEmptyEnds", laid_pub_orthodrome_pub_gogeom_errNonEmptyEnds), ("pub-orthodrome/pub/gogeom.errNonEmptyEndss", laid_pub_orthodrome_pub_gogeom_errNonEmptyEndss), ("pub-orthodrome/pub/gogeom.errNonEmptyFlatCoords", laid_pub_orthodrome_pub_gogeom_errNonEmptyFlatCoords), ("pub-orthodrome/pub/gogeom.errOutOfOrderEnd", laid_pub_orthodrome_pub_gogeom_errOutOfOrderEnd), ("pub-orthodrome/pub/gogeom.errStrideLayoutMismatch", laid_pub_orthodrome_pub_gogeom_errStrideLayoutMismatch)], narrowed := true }
def FnVerifyEndsUptoSaid : Prop := fnVerifyEndsUptoRow.holds Tryd.pinned (OpenSpec.upto fnVerifyEndsSpec)

end Rows
end Go.Proofs.YtmilmnedgadidaaDoor
