/-
  NARROWER THAN 'FOR EVERY INPUT', by the rows' own cells (each row's printed sentence says how): FnHilbertBegins: laid · FnHilbertBack: laid · FnReadFlat0: laid · FnWriteFlat1: laid · FnMatVec: laid · FnMatSkew: laid.
  DERIVED. THE GIVEN ROWS OF THIS SEAT. 6 by the template 'for every input the law returns true; each argument reads behind the call as it read before'; 0 by the template 'total and deterministic' (their statements: YtjalgjeibnjinaaDoorTotals.lean).
  GIVEN WITH THE SEED: the statements are not yours to turn. If you find one false, say at which input.
  Laid BY PROGRAM, IN A SANDBOX (cutbox-rows.mjs): the forced cells as the released guide's own fill.sh prints them over the translation f0f70d575e1691c6… (all of the seat's roots in one cut). By AI agents, Wed Nov 11 2026. No macro, syntax, notation, axiom, sorry.
-/
import Derived.Test.YtjalgjeibnjinaaDoorChecked
import GoSem.Claim
import GoSem.ClaimJoined
import GoSem.ClaimMapViews
import Derived.JoinedTies
import Derived.KernelRfl
namespace Go.Proofs.YtjalgjeibnjinaaDoor
/- THE CELL 'sum', in the pinned program and in every row, IS THE sha256 OF THE DUMP (.gsa) THAT YtjalgjeibnjinaaDoorProg.lean LOADS. Nothing in Lean hashes anything: it is a label: what it is worth is what the hold of that sum in a sandbox is worth. -/
noncomputable def Tryd.pinned : Pinned := { name := "ytjalgjeibnjinaadoor", sum := "f0f70d575e1691c6c952315d27ffaee54137354d2577c9308eb0bc22684ba2cd", checked := Tryd.checked }
namespace Rows
def none {H : Type} : Left H := { results := [], args := [] }

/- WHAT THE LISTED PACKAGE-LEVEL VARIABLES READ AS WHEN THE CALL BEGINS. Each datum BY PROGRAM (the guide's laid-datum.mjs) off the statement by which the dump's own 'gosem.cut.vars' lays the variable. In a bare row this is a premise. The card (YtjalgjeibnjinaaDoorCards.lean) ties it to the program's text. -/
def laid_pub_orthodrome_pub_gonum_spatial_curve_ErrUnderflow {H : Type} : DataW H := .iface "*errors.errorString" (.ptr (.agg [.lit (.string [111, 114, 100, 101, 114, 32, 105, 115, 32, 108, 101, 115, 115, 32, 116, 104, 97, 110, 32, 49])]))
def laid_pub_orthodrome_pub_gonum_spatial_curve_ErrOverflow {H : Type} : DataW H := .iface "*errors.errorString" (.ptr (.agg [.lit (.string [111, 118, 101, 114, 102, 108, 111, 119, 32, 105, 110, 116])]))
def laid_io_ErrShortBuffer {H : Type} : DataW H := .iface "*errors.errorString" (.ptr (.agg [.lit (.string [115, 104, 111, 114, 116, 32, 98, 117, 102, 102, 101, 114])]))
def laid_io_EOF {H : Type} : DataW H := .iface "*errors.errorString" (.ptr (.agg [.lit (.string [69, 79, 70])]))
def laid_io_ErrUnexpectedEOF {H : Type} : DataW H := .iface "*errors.errorString" (.ptr (.agg [.lit (.string [117, 110, 101, 120, 112, 101, 99, 116, 101, 100, 32, 69, 79, 70])]))
def laid_pub_orthodrome_pub_gogeom_encoding_wkbcommon_MaxGeometryElements {H : Type} : DataW H := .agg [.lit (.int .i64 0), .lit (.int .i64 (-1)), .lit (.int .i64 (-1)), .lit (.int .i64 (-1))]
def laid_pub_orthodrome_pub_gonum_mat_ErrRowAccess {H : Type} : DataW H := .agg [.lit (.string [109, 97, 116, 58, 32, 114, 111, 119, 32, 105, 110, 100, 101, 120, 32, 111, 117, 116, 32, 111, 102, 32, 114, 97, 110, 103, 101])]
def laid_pub_orthodrome_pub_gonum_mat_ErrColAccess {H : Type} : DataW H := .agg [.lit (.string [109, 97, 116, 58, 32, 99, 111, 108, 117, 109, 110, 32, 105, 110, 100, 101, 120, 32, 111, 117, 116, 32, 111, 102, 32, 114, 97, 110, 103, 101])]
def laid_pub_orthodrome_pub_gonum_mat_ErrShape {H : Type} : DataW H := .agg [.lit (.string [109, 97, 116, 58, 32, 100, 105, 109, 101, 110, 115, 105, 111, 110, 32, 109, 105, 115, 109, 97, 116, 99, 104])]

/-- 'laws.FnHilbertBegins': WHATEVER THE INPUT: true; the input reads as it did. -/
def fnHilbertBeginsSpec : ChangeSpec := { name := "fnHilbertBegins", fn := fun _ => fun
  | [d1, d2] => { results := [.lit (.bool true)], args := [d1, d2] }
  | _ => none }
def fnHilbertBeginsRow : OpenClaim := { program := "ytjalgjeibnjinaadoor", sum := "f0f70d575e1691c6c952315d27ffaee54137354d2577c9308eb0bc22684ba2cd", func := "pub-orthodrome/laws.FnHilbertBegins", spec := "fnHilbertBegins", unfollowed := true, recurses := true, named := ["pub-orthodrome/pub/gonum/spatial/curve.ErrUnderflow", "pub-orthodrome/pub/gonum/spatial/curve.ErrOverflow"], apart := false, laid := [("pub-orthodrome/pub/gonum/spatial/curve.ErrUnderflow", laid_pub_orthodrome_pub_gonum_spatial_curve_ErrUnderflow), ("pub-orthodrome/pub/gonum/spatial/curve.ErrOverflow", laid_pub_orthodrome_pub_gonum_spatial_curve_ErrOverflow)] }
def FnHilbertBeginsSaid : Prop := fnHilbertBeginsRow.holds Tryd.pinned (OpenSpec.ofChange fnHilbertBeginsSpec)

/-- ITS FALSE NEIGHBOUR: 'it returns false'. Refute it at one input. -/
def fnHilbertBeginsWrong : ChangeSpec := { name := "fnHilbertBegins", fn := fun _ => fun
  | [d1, d2] => { results := [.lit (.bool false)], args := [d1, d2] }
  | _ => none }
def FnHilbertBeginsWrongFalsely : Prop := fnHilbertBeginsRow.holds Tryd.pinned (OpenSpec.ofChange fnHilbertBeginsWrong)

/-- 'laws.FnHilbertBack': WHATEVER THE INPUT: true; the input reads as it did. -/
def fnHilbertBackSpec : ChangeSpec := { name := "fnHilbertBack", fn := fun _ => fun
  | [d1, d2, d3] => { results := [.lit (.bool true)], args := [d1, d2, d3] }
  | _ => none }
def fnHilbertBackRow : OpenClaim := { program := "ytjalgjeibnjinaadoor", sum := "f0f70d575e1691c6c952315d27ffaee54137354d2577c9308eb0bc22684ba2cd", func := "pub-orthodrome/laws.FnHilbertBack", spec := "fnHilbertBack", unfollowed := true, recurses := true, named := ["pub-orthodrome/pub/gonum/spatial/curve.ErrUnderflow", "pub-orthodrome/pub/gonum/spatial/curve.ErrOverflow"], apart := false, laid := [("pub-orthodrome/pub/gonum/spatial/curve.ErrUnderflow", laid_pub_orthodrome_pub_gonum_spatial_curve_ErrUnderflow), ("pub-orthodrome/pub/gonum/spatial/curve.ErrOverflow", laid_pub_orthodrome_pub_gonum_spatial_curve_ErrOverflow)] }
def FnHilbertBackSaid : Prop := fnHilbertBackRow.holds Tryd.pinned (OpenSpec.ofChange fnHilbertBackSpec)

/-- ITS FALSE NEIGHBOUR: 'it returns false'. Refute it at one input. -/
def fnHilbertBackWrong : ChangeSpec := { name := "fnHilbertBack", fn := fun _ => fun
  | [d1, d2, d3] => { results := [.lit (.bool false)], args := [d1, d2, d3] }
  | _ => none }
def FnHilbertBackWrongFalsely : Prop := fnHilbertBackRow.holds Tryd.pinned (OpenSpec.ofChange fnHilbertBackWrong)

/-- 'laws.FnReadFlat0': WHATEVER THE INPUT: true; the input reads as it did. -/
def fnReadFlat0Spec : ChangeSpec := { name := "fnReadFlat0", fn := fun _ => fun
  | [d1, d2, d3] => { results := [.lit (.bool true)], args := [d1, d2, d3] }
  | _ => none }
def fnReadFlat0Row : OpenClaim := { program := "ytjalgjeibnjinaadoor", sum := "f0f70d575e1691c6c952315d27ffaee54137354d2577c9308eb0bc22684ba2cd", func := "pub-orthodrome/laws.FnReadFlat0", spec := "fnReadFlat0", inPlace := ["math.Float64frombits", "math.Float64bits"], unfollowed := true, recurses := true, named := ["encoding/binary.BigEndian", "encoding/binary.LittleEndian", "io.ErrShortBuffer", "io.EOF", "io.ErrUnexpectedEOF"], apart := false, laid := [("io.ErrShortBuffer", laid_io_ErrShortBuffer), ("io.EOF", laid_io_EOF), ("io.ErrUnexpectedEOF", laid_io_ErrUnexpectedEOF)] }
def FnReadFlat0Said : Prop := fnReadFlat0Row.holds Tryd.pinned (OpenSpec.ofChange fnReadFlat0Spec)

/-- ITS FALSE NEIGHBOUR: 'it returns false'. Refute it at one input. -/
def fnReadFlat0Wrong : ChangeSpec := { name := "fnReadFlat0", fn := fun _ => fun
  | [d1, d2, d3] => { results := [.lit (.bool false)], args := [d1, d2, d3] }
  | _ => none }
def FnReadFlat0WrongFalsely : Prop := fnReadFlat0Row.holds Tryd.pinned (OpenSpec.ofChange fnReadFlat0Wrong)

/-- 'laws.FnWriteFlat1': WHATEVER THE INPUT: true; the input reads as it did. -/
def fnWriteFlat1Spec : ChangeSpec := { name := "fnWriteFlat1", fn := fun _ => fun
  | [d1, d2, d3] => { results := [.lit (.bool true)], args := [d1, d2, d3] }
  | _ => none }
def fnWriteFlat1Row : OpenClaim := { program := "ytjalgjeibnjinaadoor", sum := "f0f70d575e1691c6c952315d27ffaee54137354d2577c9308eb0bc22684ba2cd", func := "pub-orthodrome/laws.FnWriteFlat1", spec := "fnWriteFlat1", inPlace := ["math.Float64bits", "math.Float64frombits"], unfollowed := true, recurses := true, named := ["encoding/binary.BigEndian", "encoding/binary.LittleEndian", "pub-orthodrome/pub/gogeom/encoding/wkbcommon.MaxGeometryElements", "io.ErrShortBuffer", "io.EOF", "io.ErrUnexpectedEOF"], apart := false, laid := [("io.ErrShortBuffer", laid_io_ErrShortBuffer), ("io.EOF", laid_io_EOF), ("io.ErrUnexpectedEOF", laid_io_ErrUnexpectedEOF), ("pub-orthodrome/pub/gogeom/encoding/wkbcommon.MaxGeometryElements", laid_pub_orthodrome_pub_gogeom_encoding_wkbcommon_MaxGeometryElements)] }
def FnWriteFlat1Said : Prop := fnWriteFlat1Row.holds Tryd.pinned (OpenSpec.ofChange fnWriteFlat1Spec)

/-- ITS FALSE NEIGHBOUR: 'it returns false'. Refute it at one input. -/
def fnWriteFlat1Wrong : ChangeSpec := { name := "fnWriteFlat1", fn := fun _ => fun
  | [d1, d2, d3] => { results := [.lit (.bool false)], args := [d1, d2, d3] }
  | _ => none }
def FnWriteFlat1WrongFalsely : Prop := fnWriteFlat1Row.holds Tryd.pinned (OpenSpec.ofChange fnWriteFlat1Wrong)

/-- 'laws.FnMatVec': WHATEVER THE INPUT: true; the input reads as it did. -/
def fnMatVecSpec : ChangeSpec := { name := "fnMatVec", fn := fun _ => fun
  | [d1, d2] => { results := [.lit (.bool true)], args := [d1, d2] }
  | _ => none }
def fnMatVecRow : OpenClaim := { program := "ytjalgjeibnjinaadoor", sum := "f0f70d575e1691c6c952315d27ffaee54137354d2577c9308eb0bc22684ba2cd", func := "pub-orthodrome/laws.FnMatVec", spec := "fnMatVec", inPlace := ["math.archTrunc", "math.Float64bits", "math.Float64frombits"], unfollowed := true, recurses := true, named := ["pub-orthodrome/pub/gonum/mat.ErrShape", "pub-orthodrome/pub/gonum/mat.ErrRowAccess", "pub-orthodrome/pub/gonum/mat.ErrColAccess"], apart := false, laid := [("pub-orthodrome/pub/gonum/mat.ErrRowAccess", laid_pub_orthodrome_pub_gonum_mat_ErrRowAccess), ("pub-orthodrome/pub/gonum/mat.ErrColAccess", laid_pub_orthodrome_pub_gonum_mat_ErrColAccess), ("pub-orthodrome/pub/gonum/mat.ErrShape", laid_pub_orthodrome_pub_gonum_mat_ErrShape)] }
def FnMatVecSaid : Prop := fnMatVecRow.holds Tryd.pinned (OpenSpec.ofChange fnMatVecSpec)

/-- ITS FALSE NEIGHBOUR: 'it returns false'. Refute it at one input. -/
def fnMatVecWrong : ChangeSpec := { name := "fnMatVec", fn := fun _ => fun
  | [d1, d2] => { results := [.lit (.bool false)], args := [d1, d2] }
  | _ => none }
def FnMatVecWrongFalsely : Prop := fnMatVecRow.holds Tryd.pinned (OpenSpec.ofChange fnMatVecWrong)

/-- 'laws.FnMatSkew': WHATEVER THE INPUT: true; the input reads as it did. -/
def fnMatSkewSpec : ChangeSpec := { name := "fnMatSkew", fn := fun _ => fun
  | [d1, d2] => { results := [.lit (.bool true)], args := [d1, d2] }
  | _ => none }
def fnMatSkewRow : OpenClaim := { program := "ytjalgjeibnjinaadoor", sum := "f0f70d575e1691c6c952315d27ffaee54137354d2577c9308eb0bc22684ba2cd", func := "pub-orthodrome/laws.FnMatSkew", spec := "fnMatSkew", inPlace := ["math.archTrunc", "math.Float64bits", "math.Float64frombits"], named := ["pub-orthodrome/pub/gonum/mat.ErrRowAccess", "pub-orthodrome/pub/gonum/mat.ErrColAccess", "pub-orthodrome/pub/gonum/mat.ErrShape"], apart := false, laid := [("pub-orthodrome/pub/gonum/mat.ErrRowAccess", laid_pub_orthodrome_pub_gonum_mat_ErrRowAccess), ("pub-orthodrome/pub/gonum/mat.ErrColAccess", laid_pub_orthodrome_pub_gonum_mat_ErrColAccess), ("pub-orthodrome/pub/gonum/mat.ErrShape", laid_pub_orthodrome_pub_gonum_mat_ErrShape)] }
def FnMatSkewSaid : Prop := fnMatSkewRow.holds Tryd.pinned (OpenSpec.ofChange fnMatSkewSpec)

/-- ITS FALSE NEIGHBOUR: 'it returns false'. Refute it at one input. -/
def fnMatSkewWrong : ChangeSpec := { name := "fnMatSkew", fn := fun _ => fun
  | [d1, d2] => { results := [.lit (.bool false)], args := [d1, d2] }
  | _ => none }
def FnMatSkewWrongFalsely : Prop := fnMatSkewRow.holds Tryd.pinned (OpenSpec.ofChange fnMatSkewWrong)

/- THE SECOND FORM. 'bulk': how many values and letters a reading holds, each counted each time it is reached (what is shared counts as often as it is met; a slice's spare places count too). A statement '..UptoSaid' is the law's where the arguments, and the package variables that the reading takes, are together of bulk at most 1048576: NARROWER than '..Said'. Prove '..Said' where nothing that the law and all that it calls make is longer than what came in: it says more and counts as full. Else prove '..UptoSaid'. A law counts once. -/
mutual
def uptoBulk {H : Type} : DataW H → Nat
  | .lit (.string bytes) => bytes.length + 1
  | .lit _ => 1
  | .nil => 1
  | .ptr d => uptoBulk d + 1
  | .slice elems spare => uptoBulkAll elems + uptoBulkAll spare + 1
  | .agg parts => uptoBulkAll parts + 1
  | .iface _ d => uptoBulk d + 1
  | .map entries => uptoBulkEntries entries + 1
  | .held _ => 1
def uptoBulkAll {H : Type} : List (DataW H) → Nat
  | [] => 0
  | d :: r => uptoBulk d + uptoBulkAll r
def uptoBulkEntries {H : Type} : List (Lit × DataW H) → Nat
  | [] => 0
  | x :: r => uptoBulkEntry x + uptoBulkEntries r
def uptoBulkEntry {H : Type} : Lit × DataW H → Nat
  | (.string bytes, d) => bytes.length + uptoBulk d + 1
  | (_, d) => uptoBulk d + 1
 end
def uptoSmall : (H : Type) → List (DataW H) → Bool := fun _ ds => decide (uptoBulkAll ds ≤ 1048576)
def OpenSpec.upto (s : _root_.Go.ChangeSpec) : _root_.Go.OpenSpec := { _root_.Go.OpenSpec.ofChange s with cond := some uptoSmall }

/-- 'laws.FnHilbertBegins', WHERE WHAT IT READS IS OF BULK AT MOST 1048576: true; the input reads as it did. -/
def fnHilbertBeginsUptoRow : OpenClaim := { program := "ytjalgjeibnjinaadoor", sum := "f0f70d575e1691c6c952315d27ffaee54137354d2577c9308eb0bc22684ba2cd", func := "pub-orthodrome/laws.FnHilbertBegins", spec := "fnHilbertBegins", unfollowed := true, recurses := true, named := ["pub-orthodrome/pub/gonum/spatial/curve.ErrUnderflow", "pub-orthodrome/pub/gonum/spatial/curve.ErrOverflow"], apart := false, laid := [("pub-orthodrome/pub/gonum/spatial/curve.ErrUnderflow", laid_pub_orthodrome_pub_gonum_spatial_curve_ErrUnderflow), ("pub-orthodrome/pub/gonum/spatial/curve.ErrOverflow", laid_pub_orthodrome_pub_gonum_spatial_curve_ErrOverflow)], narrowed := true }
def FnHilbertBeginsUptoSaid : Prop := fnHilbertBeginsUptoRow.holds Tryd.pinned (OpenSpec.upto fnHilbertBeginsSpec)

/-- 'laws.FnHilbertBack', WHERE WHAT IT READS IS OF BULK AT MOST 1048576: true; the input reads as it did. -/
def fnHilbertBackUptoRow : OpenClaim := { program := "ytjalgjeibnjinaadoor", sum := "f0f70d575e1691c6c952315d27ffaee54137354d2577c9308eb0bc22684ba2cd", func := "pub-orthodrome/laws.FnHilbertBack", spec := "fnHilbertBack", unfollowed := true, recurses := true, named := ["pub-orthodrome/pub/gonum/spatial/curve.ErrUnderflow", "pub-orthodrome/pub/gonum/spatial/curve.ErrOverflow"], apart := false, laid := [("pub-orthodrome/pub/gonum/spatial/curve.ErrUnderflow", laid_pub_orthodrome_pub_gonum_spatial_curve_ErrUnderflow), ("pub-orthodrome/pub/gonum/spatial/curve.ErrOverflow", laid_pub_orthodrome_pub_gonum_spatial_curve_ErrOverflow)], narrowed := true }
def FnHilbertBackUptoSaid : Prop := fnHilbertBackUptoRow.holds Tryd.pinned (OpenSpec.upto fnHilbertBackSpec)

/-- 'laws.FnReadFlat0', WHERE WHAT IT READS IS OF BULK AT MOST 1048576: true; the input reads as it did. -/
def fnReadFlat0UptoRow : OpenClaim := { program := "ytjalgjeibnjinaadoor", sum := "f0f70d575e1691c6c952315d27ffaee54137354d2577c9308eb0bc22684ba2cd", func := "pub-orthodrome/laws.FnReadFlat0", spec := "fnReadFlat0", inPlace := ["math.Float64frombits", "math.Float64bits"], unfollowed := true, recurses := true, named := ["encoding/binary.BigEndian", "encoding/binary.LittleEndian", "io.ErrShortBuffer", "io.EOF", "io.ErrUnexpectedEOF"], apart := false, laid := [("io.ErrShortBuffer", laid_io_ErrShortBuffer), ("io.EOF", laid_io_EOF), ("io.ErrUnexpectedEOF", laid_io_ErrUnexpectedEOF)], narrowed := true }
def FnReadFlat0UptoSaid : Prop := fnReadFlat0UptoRow.holds Tryd.pinned (OpenSpec.upto fnReadFlat0Spec)

/-- 'laws.FnWriteFlat1', WHERE WHAT IT READS IS OF BULK AT MOST 1048576: true; the input reads as it did. -/
def fnWriteFlat1UptoRow : OpenClaim := { program := "ytjalgjeibnjinaadoor", sum := "f0f70d575e1691c6c952315d27ffaee54137354d2577c9308eb0bc22684ba2cd", func := "pub-orthodrome/laws.FnWriteFlat1", spec := "fnWriteFlat1", inPlace := ["math.Float64bits", "math.Float64frombits"], unfollowed := true, recurses := true, named := ["encoding/binary.BigEndian", "encoding/binary.LittleEndian", "pub-orthodrome/pub/gogeom/encoding/wkbcommon.MaxGeometryElements", "io.ErrShortBuffer", "io.EOF", "io.ErrUnexpectedEOF"], apart := false, laid := [("io.ErrShortBuffer", laid_io_ErrShortBuffer), ("io.EOF", laid_io_EOF), ("io.ErrUnexpectedEOF", laid_io_ErrUnexpectedEOF), ("pub-orthodrome/pub/gogeom/encoding/wkbcommon.MaxGeometryElements", laid_pub_orthodrome_pub_gogeom_encoding_wkbcommon_MaxGeometryElements)], narrowed := true }
def FnWriteFlat1UptoSaid : Prop := fnWriteFlat1UptoRow.holds Tryd.pinned (OpenSpec.upto fnWriteFlat1Spec)

/-- 'laws.FnMatVec', WHERE WHAT IT READS IS OF BULK AT MOST 1048576: true; the input reads as it did. -/
def fnMatVecUptoRow : OpenClaim := { program := "ytjalgjeibnjinaadoor", sum := "f0f70d575e1691c6c952315d27ffaee54137354d2577c9308eb0bc22684ba2cd", func := "pub-orthodrome/laws.FnMatVec", spec := "fnMatVec", inPlace := ["math.archTrunc", "math.Float64bits", "math.Float64frombits"], unfollowed := true, recurses := true, named := ["pub-orthodrome/pub/gonum/mat.ErrShape", "pub-orthodrome/pub/gonum/mat.ErrRowAccess", "pub-orthodrome/pub/gonum/mat.ErrColAccess"], apart := false, laid := [("pub-orthodrome/pub/gonum/mat.ErrRowAccess", laid_pub_orthodrome_pub_gonum_mat_ErrRowAccess), ("pub-orthodrome/pub/gonum/mat.ErrColAccess", laid_pub_orthodrome_pub_gonum_mat_ErrColAccess), ("pub-orthodrome/pub/gonum/mat.ErrShape", laid_pub_orthodrome_pub_gonum_mat_ErrShape)], narrowed := true }
def FnMatVecUptoSaid : Prop := fnMatVecUptoRow.holds Tryd.pinned (OpenSpec.upto fnMatVecSpec)

/-- 'laws.FnMatSkew', WHERE WHAT IT READS IS OF BULK AT MOST 1048576: true; the input reads as it did. -/
def fnMatSkewUptoRow : OpenClaim := { program := "ytjalgjeibnjinaadoor", sum := "f0f70d575e1691c6c952315d27ffaee54137354d2577c9308eb0bc22684ba2cd", func := "pub-orthodrome/laws.FnMatSkew", spec := "fnMatSkew", inPlace := ["math.archTrunc", "math.Float64bits", "math.Float64frombits"], named := ["pub-orthodrome/pub/gonum/mat.ErrRowAccess", "pub-orthodrome/pub/gonum/mat.ErrColAccess", "pub-orthodrome/pub/gonum/mat.ErrShape"], apart := false, laid := [("pub-orthodrome/pub/gonum/mat.ErrRowAccess", laid_pub_orthodrome_pub_gonum_mat_ErrRowAccess), ("pub-orthodrome/pub/gonum/mat.ErrColAccess", laid_pub_orthodrome_pub_gonum_mat_ErrColAccess), ("pub-orthodrome/pub/gonum/mat.ErrShape", laid_pub_orthodrome_pub_gonum_mat_ErrShape)], narrowed := true }
def FnMatSkewUptoSaid : Prop := fnMatSkewUptoRow.holds Tryd.pinned (OpenSpec.upto fnMatSkewSpec)

end Rows
end Go.Proofs.YtjalgjeibnjinaaDoor
