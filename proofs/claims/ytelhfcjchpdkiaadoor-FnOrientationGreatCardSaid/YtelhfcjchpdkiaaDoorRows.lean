/-
  NARROWER THAN 'FOR EVERY INPUT', by the rows' own cells (each row's printed sentence says how): FnOrientationGreat: laid · FnRingIsCCW: laid.
  DERIVED. THE GIVEN ROWS OF THIS SEAT. 2 by the template 'for every input the law returns true; each argument reads behind the call as it read before'; 0 by the template 'total and deterministic' (their statements: YtelhfcjchpdkiaaDoorTotals.lean).
  GIVEN WITH THE SEED: the statements are not yours to turn. If you find one false, say at which input.
  Laid BY PROGRAM, IN A SANDBOX (cutbox-rows.mjs): the forced cells as the released guide's own fill.sh prints them over the translation e9fdf0276a75e8be… (all of the seat's roots in one cut). By AI agents, Wed Nov 11 2026. No macro, syntax, notation, axiom, sorry.
-/
import Derived.Test.YtelhfcjchpdkiaaDoorChecked
import GoSem.Claim
import GoSem.ClaimJoined
import GoSem.ClaimMapViews
import Derived.JoinedTies
import Derived.KernelRfl
namespace Go.Proofs.YtelhfcjchpdkiaaDoor
/- THE CELL 'sum', in the pinned program and in every row, IS THE sha256 OF THE DUMP (.gsa) THAT YtelhfcjchpdkiaaDoorProg.lean LOADS. Nothing in Lean hashes anything: it is a label: what it is worth is what the hold of that sum in a sandbox is worth. -/
noncomputable def Tryd.pinned : Pinned := { name := "ytelhfcjchpdkiaadoor", sum := "e9fdf0276a75e8be49d349c7ed09d16b1f3fa4224048f71a74677436815b0f6f", checked := Tryd.checked }
namespace Rows
def none {H : Type} : Left H := { results := [], args := [] }

/- WHAT THE LISTED PACKAGE-LEVEL VARIABLES READ AS WHEN THE CALL BEGINS. Each datum BY PROGRAM (the guide's laid-datum.mjs) off the statement by which the dump's own 'gosem.cut.vars' lays the variable. In a bare row this is a premise. The card (YtelhfcjchpdkiaaDoorCards.lean) ties it to the program's text. -/
def laid_pub_orthodrome_pub_gogeom_bigxy_dpSafeEpsilon {H : Type} : DataW H := .lit (.float .f64 4382569440205035030)

/-- 'laws.FnOrientationGreat': WHATEVER THE INPUT: true; the input reads as it did. -/
def fnOrientationGreatSpec : ChangeSpec := { name := "fnOrientationGreat", fn := fun _ => fun
  | [d1, d2, d3] => { results := [.lit (.bool true)], args := [d1, d2, d3] }
  | _ => none }
def fnOrientationGreatRow : OpenClaim := { program := "ytelhfcjchpdkiaadoor", sum := "e9fdf0276a75e8be49d349c7ed09d16b1f3fa4224048f71a74677436815b0f6f", func := "pub-orthodrome/laws.FnOrientationGreat", spec := "fnOrientationGreat", inPlace := ["math.archTrunc", "math.Float64bits", "math.Float64frombits"], named := ["pub-orthodrome/pub/gogeom/bigxy.dpSafeEpsilon"], apart := false, laid := [("pub-orthodrome/pub/gogeom/bigxy.dpSafeEpsilon", laid_pub_orthodrome_pub_gogeom_bigxy_dpSafeEpsilon)] }
def FnOrientationGreatSaid : Prop := fnOrientationGreatRow.holds Tryd.pinned (OpenSpec.ofChange fnOrientationGreatSpec)

/-- ITS FALSE NEIGHBOUR: 'it returns false'. Refute it at one input. -/
def fnOrientationGreatWrong : ChangeSpec := { name := "fnOrientationGreat", fn := fun _ => fun
  | [d1, d2, d3] => { results := [.lit (.bool false)], args := [d1, d2, d3] }
  | _ => none }
def FnOrientationGreatWrongFalsely : Prop := fnOrientationGreatRow.holds Tryd.pinned (OpenSpec.ofChange fnOrientationGreatWrong)

/-- 'laws.FnRingIsCCW': WHATEVER THE INPUT: true; the input reads as it did. -/
def fnRingIsCCWSpec : ChangeSpec := { name := "fnRingIsCCW", fn := fun _ => fun
  | [d1, d2] => { results := [.lit (.bool true)], args := [d1, d2] }
  | _ => none }
def fnRingIsCCWRow : OpenClaim := { program := "ytelhfcjchpdkiaadoor", sum := "e9fdf0276a75e8be49d349c7ed09d16b1f3fa4224048f71a74677436815b0f6f", func := "pub-orthodrome/laws.FnRingIsCCW", spec := "fnRingIsCCW", inPlace := ["math.archTrunc", "math.Float64bits", "math.Float64frombits"], unfollowed := true, recurses := true, named := ["pub-orthodrome/pub/gogeom/bigxy.dpSafeEpsilon"], apart := false, laid := [("pub-orthodrome/pub/gogeom/bigxy.dpSafeEpsilon", laid_pub_orthodrome_pub_gogeom_bigxy_dpSafeEpsilon)] }
def FnRingIsCCWSaid : Prop := fnRingIsCCWRow.holds Tryd.pinned (OpenSpec.ofChange fnRingIsCCWSpec)

/-- ITS FALSE NEIGHBOUR: 'it returns false'. Refute it at one input. -/
def fnRingIsCCWWrong : ChangeSpec := { name := "fnRingIsCCW", fn := fun _ => fun
  | [d1, d2] => { results := [.lit (.bool false)], args := [d1, d2] }
  | _ => none }
def FnRingIsCCWWrongFalsely : Prop := fnRingIsCCWRow.holds Tryd.pinned (OpenSpec.ofChange fnRingIsCCWWrong)

/- THE SECOND FORM. 'bulk': how many values and letters a reading holds, each counted each time it is reached (what is shared counts as often as it is met; a slice's spare places count too). A statement '..UptoSaid' is the law's where the arguments, and the package variables that the reading takes, are together of bulk at most 1048576: NARROWER than '..Said'. Prove '..Said' where nothing that the law and all that it calls make is longer than what came in: it says more and counts as full. Else prove '..UptoSaid'. A law counts once. -/
mutual
def uptoBulk {H : Type} : DataW H → Nat
  | .lit (.string bytes) => bytes.length + 1
  | .lit _ => 1
  | .nil => 1
  | .ptr d => uptoBulk d + 1
  | .slice elems spare => uptoBulkAll elems + uptoBulkAll spare + 1
  | .agg parts => uptoBulkAll parts + 1
  | .iface _ d => uptoBulk d + 1
  | .map entries => uptoBulkEntries entries + 1
  | .held _ => 1
def uptoBulkAll {H : Type} : List (DataW H) → Nat
  | [] => 0
  | d :: r => uptoBulk d + uptoBulkAll r
def uptoBulkEntries {H : Type} : List (Lit × DataW H) → Nat
  | [] => 0
  | x :: r => uptoBulkEntry x + uptoBulkEntries r
def uptoBulkEntry {H : Type} : Lit × DataW H → Nat
  | (.string bytes, d) => bytes.length + uptoBulk d + 1
  | (_, d) => uptoBulk d + 1
 end
def uptoSmall : (H : Type) → List (DataW H) → Bool := fun _ ds => decide (uptoBulkAll ds ≤ 1048576)
def OpenSpec.upto (s : _root_.Go.ChangeSpec) : _root_.Go.OpenSpec := { _root_.Go.OpenSpec.ofChange s with cond := some uptoSmall }

/-- 'laws.FnOrientationGreat', WHERE WHAT IT READS IS OF BULK AT MOST 1048576: true; the input reads as it did. -/
def fnOrientationGreatUptoRow : OpenClaim := { program := "ytelhfcjchpdkiaadoor", sum := "e9fdf0276a75e8be49d349c7ed09d16b1f3fa4224048f71a74677436815b0f6f", func := "pub-orthodrome/laws.FnOrientationGreat", spec := "fnOrientationGreat", inPlace := ["math.archTrunc", "math.Float64bits", "math.Float64frombits"], named := ["pub-orthodrome/pub/gogeom/bigxy.dpSafeEpsilon"], apart := false, laid := [("pub-orthodrome/pub/gogeom/bigxy.dpSafeEpsilon", laid_pub_orthodrome_pub_gogeom_bigxy_dpSafeEpsilon)], narrowed := true }
def FnOrientationGreatUptoSaid : Prop := fnOrientationGreatUptoRow.holds Tryd.pinned (OpenSpec.upto fnOrientationGreatSpec)

/-- 'laws.FnRingIsCCW', WHERE WHAT IT READS IS OF BULK AT MOST 1048576: true; the input reads as it did. -/
def fnRingIsCCWUptoRow : OpenClaim := { program := "ytelhfcjchpdkiaadoor", sum := "e9fdf0276a75e8be49d349c7ed09d16b1f3fa4224048f71a74677436815b0f6f", func := "pub-orthodrome/laws.FnRingIsCCW", spec := "fnRingIsCCW", inPlace := ["math.archTrunc", "math.Float64bits", "math.Float64frombits"], unfollowed := true, recurses := true, named := ["pub-orthodrome/pub/gogeom/bigxy.dpSafeEpsilon"], apart := false, laid := [("pub-orthodrome/pub/gogeom/bigxy.dpSafeEpsilon", laid_pub_orthodrome_pub_gogeom_bigxy_dpSafeEpsilon)], narrowed := true }
def FnRingIsCCWUptoSaid : Prop := fnRingIsCCWUptoRow.holds Tryd.pinned (OpenSpec.upto fnRingIsCCWSpec)

end Rows
end Go.Proofs.YtelhfcjchpdkiaaDoor
