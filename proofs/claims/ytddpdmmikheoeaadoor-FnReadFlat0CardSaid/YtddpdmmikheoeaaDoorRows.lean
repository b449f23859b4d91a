/-
  NARROWER THAN 'FOR EVERY INPUT', by the rows' own cells (each row's printed sentence says how): FnReadFlat0: laid · FnWriteFlat1: laid.
  DERIVED. THE GIVEN ROWS OF THIS SEAT. 2 by the template 'for every input the law returns true; each argument reads behind the call as it read before'; 0 by the template 'total and deterministic' (their statements: YtddpdmmikheoeaaDoorTotals.lean).
  GIVEN WITH THE SEED: the statements are not yours to turn. If you find one false, say at which input.
  Laid BY PROGRAM, IN A SANDBOX (cutbox-rows.mjs): the forced cells as the released guide's own fill.sh prints them over the translation 7a45d3ec72caa065… (all of the seat's roots in one cut). By AI agents, Wed Nov 11 2026. No macro, syntax, notation, axiom, sorry.
-/
import Derived.Test.YtddpdmmikheoeaaDoorChecked
import GoSem.Claim
import GoSem.ClaimJoined
import GoSem.ClaimMapViews
import Derived.JoinedTies
import Derived.KernelRfl
namespace Go.Proofs.YtddpdmmikheoeaaDoor
/- THE CELL 'sum', in the pinned program and in every row, IS THE sha256 OF THE DUMP (.gsa) THAT YtddpdmmikheoeaaDoorProg.lean LOADS. Nothing in Lean hashes anything: it is a label: what it is worth is what the hold of that sum in a sandbox is worth. -/
noncomputable def Tryd.pinned : Pinned := { name := "ytddpdmmikheoeaadoor", sum := "7a45d3ec72caa06532a8681837c27c7c9617bfbf51806e70379c4e272421a475", checked := Tryd.checked }
namespace Rows
def none {H : Type} : Left H := { results := [], args := [] }

/- WHAT THE LISTED PACKAGE-LEVEL VARIABLES READ AS WHEN THE CALL BEGINS. Each datum BY PROGRAM (the guide's laid-datum.mjs) off the statement by which the dump's own 'gosem.cut.vars' lays the variable. In a bare row this is a premise. The card (YtddpdmmikheoeaaDoorCards.lean) ties it to the program's text. -/
def laid_io_ErrShortBuffer {H : Type} : DataW H := .iface "*errors.errorString" (.ptr (.agg [.lit (.string [115, 104, 111, 114, 116, 32, 98, 117, 102, 102, 101, 114])]))
def laid_io_EOF {H : Type} : DataW H := .iface "*errors.errorString" (.ptr (.agg [.lit (.string [69, 79, 70])]))
def laid_io_ErrUnexpectedEOF {H : Type} : DataW H := .iface "*errors.errorString" (.ptr (.agg [.lit (.string [117, 110, 101, 120, 112, 101, 99, 116, 101, 100, 32, 69, 79, 70])]))
def laid_pub_orthodrome_pub_gogeom_encoding_wkbcommon_MaxGeometryElements {H : Type} : DataW H := .agg [.lit (.int .i64 0), .lit (.int .i64 (-1)), .lit (.int .i64 (-1)), .lit (.int .i64 (-1))]

/-- 'laws.FnReadFlat0': WHATEVER THE INPUT: true; the input reads as it did. -/
def fnReadFlat0Spec : ChangeSpec := { name := "fnReadFlat0", fn := fun _ => fun
  | [d1, d2, d3] => { results := [.lit (.bool true)], args := [d1, d2, d3] }
  | _ => none }
def fnReadFlat0Row : OpenClaim := { program := "ytddpdmmikheoeaadoor", sum := "7a45d3ec72caa06532a8681837c27c7c9617bfbf51806e70379c4e272421a475", func := "pub-orthodrome/laws.FnReadFlat0", spec := "fnReadFlat0", inPlace := ["math.Float64frombits", "math.Float64bits"], unfollowed := true, recurses := true, named := ["encoding/binary.BigEndian", "encoding/binary.LittleEndian", "io.ErrShortBuffer", "io.EOF", "io.ErrUnexpectedEOF"], apart := false, laid := [("io.ErrShortBuffer", laid_io_ErrShortBuffer), ("io.EOF", laid_io_EOF), ("io.ErrUnexpectedEOF", laid_io_ErrUnexpectedEOF)] }
def FnReadFlat0Said : Prop := fnReadFlat0Row.holds Tryd.pinned (OpenSpec.ofChange fnReadFlat0Spec)

/-- ITS FALSE NEIGHBOUR: 'it returns false'. Refute it at one input. -/
def fnReadFlat0Wrong : ChangeSpec := { name := "fnReadFlat0", fn := fun _ => fun
  | [d1, d2, d3] => { results := [.lit (.bool false)], args := [d1, d2, d3] }
  | _ => none }
def FnReadFlat0WrongFalsely : Prop := fnReadFlat0Row.holds Tryd.pinned (OpenSpec.ofChange fnReadFlat0Wrong)

/-- 'laws.FnWriteFlat1': WHATEVER THE INPUT: true; the input reads as it did. -/
def fnWriteFlat1Spec : ChangeSpec := { name := "fnWriteFlat1", fn := fun _ => fun
  | [d1, d2, d3] => { results := [.lit (.bool true)], args := [d1, d2, d3] }
  | _ => none }
def fnWriteFlat1Row : OpenClaim := { program := "ytddpdmmikheoeaadoor", sum := "7a45d3ec72caa06532a8681837c27c7c9617bfbf51806e70379c4e272421a475", func := "pub-orthodrome/laws.FnWriteFlat1", spec := "fnWriteFlat1", inPlace := ["math.Float64bits", "math.Float64frombits"], unfollowed := true, recurses := true, named := ["encoding/binary.BigEndian", "encoding/binary.LittleEndian", "pub-orthodrome/pub/gogeom/encoding/wkbcommon.MaxGeometryElements", "io.ErrShortBuffer", "io.EOF", "io.ErrUnexpectedEOF"], apart := false, laid := [("io.ErrShortBuffer", laid_io_ErrShortBuffer), ("io.EOF", laid_io_EOF), ("io.ErrUnexpectedEOF", laid_io_ErrUnexpectedEOF), ("pub-orthodrome/pub/gogeom/encoding/wkbcommon.MaxGeometryElements", laid_pub_orthodrome_pub_gogeom_encoding_wkbcommon_MaxGeometryElements)] }
def FnWriteFlat1Said : Prop := fnWriteFlat1Row.holds Tryd.pinned (OpenSpec.ofChange fnWriteFlat1Spec)

/-- ITS FALSE NEIGHBOUR: 'it returns false'. Refute it at one input. -/
def fnWriteFlat1Wrong : ChangeSpec := { name := "fnWriteFlat1", fn := fun _ => fun
  | [d1, d2, d3] => { results := [.lit (.bool false)], args := [d1, d2, d3] }
  | _ => none }
def FnWriteFlat1WrongFalsely : Prop := fnWriteFlat1Row.holds Tryd.pinned (OpenSpec.ofChange fnWriteFlat1Wrong)

/- THE SECOND FORM. 'bulk': how many values and letters a reading holds, each counted each time it is reached (what is shared counts as often as it is met; a slice's spare places count too). A statement '..UptoSaid' is the law's where the arguments, and the package variables that the reading takes, are together of bulk at most 1048576: NARROWER than '..Said'. Prove '..Said' where nothing that the law and all that it calls make is longer than what came in: it says more and counts as full. Else prove '..UptoSaid'. A law counts once. -/
mutual
def uptoBulk {H : Type} : DataW H → Nat
  | .lit (.string bytes) => bytes.length + 1
  | .lit _ => 1
  | .nil => 1
  | .ptr d => uptoBulk d + 1
  | .slice elems spare => uptoBulkAll elems + uptoBulkAll spare + 1
  | .agg parts => uptoBulkAll parts + 1
  | .iface _ d => uptoBulk d + 1
  | .map entries => uptoBulkEntries entries + 1
  | .held _ => 1
def uptoBulkAll {H : Type} : List (DataW H) → Nat
  | [] => 0
  | d :: r => uptoBulk d + uptoBulkAll r
def uptoBulkEntries {H : Type} : List (Lit × DataW H) → Nat
  | [] => 0
  | x :: r => uptoBulkEntry x + uptoBulkEntries r
def uptoBulkEntry {H : Type} : Lit × DataW H → Nat
  | (.string bytes, d) => bytes.length + uptoBulk d + 1
  | (_, d) => uptoBulk d + 1
 end
def uptoSmall : (H : Type) → List (DataW H) → Bool := fun _ ds => decide (uptoBulkAll ds ≤ 1048576)
def OpenSpec.upto (s : _root_.Go.ChangeSpec) : _root_.Go.OpenSpec := { _root_.Go.OpenSpec.ofChange s with cond := some uptoSmall }

/-- 'laws.FnReadFlat0', WHERE WHAT IT READS IS OF BULK AT MOST 1048576: true; the input reads as it did. -/
def fnReadFlat0UptoRow : OpenClaim := { program := "ytddpdmmikheoeaadoor", sum := "7a45d3ec72caa06532a8681837c27c7c9617bfbf51806e70379c4e272421a475", func := "pub-orthodrome/laws.FnReadFlat0", spec := "fnReadFlat0", inPlace := ["math.Float64frombits", "math.Float64bits"], unfollowed := true, recurses := true, named := ["encoding/binary.BigEndian", "encoding/binary.LittleEndian", "io.ErrShortBuffer", "io.EOF", "io.ErrUnexpectedEOF"], apart := false, laid := [("io.ErrShortBuffer", laid_io_ErrShortBuffer), ("io.EOF", laid_io_EOF), ("io.ErrUnexpectedEOF", laid_io_ErrUnexpectedEOF)], narrowed := true }
def FnReadFlat0UptoSaid : Prop := fnReadFlat0UptoRow.holds Tryd.pinned (OpenSpec.upto fnReadFlat0Spec)

/-- 'laws.FnWriteFlat1', WHERE WHAT IT READS IS OF BULK AT MOST 1048576: true; the input reads as it did. -/
def fnWriteFlat1UptoRow : OpenClaim := { program := "ytddpdmmikheoeaadoor", sum := "7a45d3ec72caa06532a8681837c27c7c9617bfbf51806e70379c4e272421a475", func := "pub-orthodrome/laws.FnWriteFlat1", spec := "fnWriteFlat1", inPlace := ["math.Float64bits", "math.Float64frombits"], unfollowed := true, recurses := true, named := ["encoding/binary.BigEndian", "encoding/binary.LittleEndian", "pub-orthodrome/pub/gogeom/encoding/wkbcommon.MaxGeometryElements", "io.ErrShortBuffer", "io.EOF", "io.ErrUnexpectedEOF"], apart := false, laid := [("io.ErrShortBuffer", laid_io_ErrShortBuffer), ("io.EOF", laid_io_EOF), ("io.ErrUnexpectedEOF", laid_io_ErrUnexpectedEOF), ("pub-orthodrome/pub/gogeom/encoding/wkbcommon.MaxGeometryElements", laid_pub_orthodrome_pub_gogeom_encoding_wkbcommon_MaxGeometryElements)], narrowed := true }
def FnWriteFlat1UptoSaid : Prop := fnWriteFlat1UptoRow.holds Tryd.pinned (OpenSpec.upto fnWriteFlat1Spec)

end Rows
end Go.Proofs.YtddpdmmikheoeaaDoor
