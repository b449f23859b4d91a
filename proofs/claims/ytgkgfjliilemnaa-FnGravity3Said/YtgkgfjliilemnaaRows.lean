/-
  No cell of these rows narrows 'for every input' (looked for: loops, veiled, ifaces, maps, wideKeys, modest, calm, conditions, laid).
  DERIVED. THE GIVEN ROWS OF THIS SEAT. 9 by the template 'for every input the law returns true; each argument reads behind the call as it read before'; 0 by the template 'total and deterministic' (their statements: YtgkgfjliilemnaaTotals.lean).
  GIVEN WITH THE SEED: the statements are not yours to turn. If you find one false, say at which input.
  Laid BY PROGRAM, IN A SANDBOX (cutbox-rows.mjs): the forced cells as the released guide's own fill.sh prints them over the translation 364512590bf2f7a9… (all of the seat's roots in one cut). By AI agents, Wed Nov 11 2026. No macro, syntax, notation, axiom, sorry.
-/
import Derived.Test.YtgkgfjliilemnaaChecked
import GoSem.Claim
import GoSem.ClaimJoined
import GoSem.ClaimMapViews
import Derived.JoinedTies
import Derived.KernelRfl
namespace Go.Proofs.Ytgkgfjliilemnaa
/- THE CELL 'sum', in the pinned program and in every row, IS THE sha256 OF THE DUMP (.gsa) THAT YtgkgfjliilemnaaProg.lean LOADS. Nothing in Lean hashes anything: it is a label: what it is worth is what the hold of that sum in a sandbox is worth. -/
noncomputable def Try.pinned : Pinned := { name := "ytgkgfjliilemnaa", sum := "364512590bf2f7a93e88d2cdc4ab97015a70968225a69c1def4008941d1f83ac", checked := Try.checked }
namespace Rows
def none {H : Type} : Left H := { results := [], args := [] }

/-- 'laws.FnIsAcute': WHATEVER THE INPUT: true; the input reads as it did. -/
def fnIsAcuteSpec : ChangeSpec := { name := "fnIsAcute", fn := fun _ => fun
  | [d1, d2, d3] => { results := [.lit (.bool true)], args := [d1, d2, d3] }
  | _ => none }
def fnIsAcuteRow : OpenClaim := { program := "ytgkgfjliilemnaa", sum := "364512590bf2f7a93e88d2cdc4ab97015a70968225a69c1def4008941d1f83ac", func := "pub-orthodrome/laws.FnIsAcute", spec := "fnIsAcute", inPlace := ["math.archTrunc", "math.Float64bits", "math.Float64frombits"], apart := false }
def FnIsAcuteSaid : Prop := fnIsAcuteRow.holds Try.pinned (OpenSpec.ofChange fnIsAcuteSpec)

/-- ITS FALSE NEIGHBOUR: 'it returns false'. Refute it at one input. -/
def fnIsAcuteWrong : ChangeSpec := { name := "fnIsAcute", fn := fun _ => fun
  | [d1, d2, d3] => { results := [.lit (.bool false)], args := [d1, d2, d3] }
  | _ => none }
def FnIsAcuteWrongFalsely : Prop := fnIsAcuteRow.holds Try.pinned (OpenSpec.ofChange fnIsAcuteWrong)

/-- 'laws.FnSpaceLength': WHATEVER THE INPUT: true; the input reads as it did. -/
def fnSpaceLengthSpec : ChangeSpec := { name := "fnSpaceLength", fn := fun _ => fun
  | [d] => { results := [.lit (.bool true)], args := [d] }
  | _ => none }
def fnSpaceLengthRow : OpenClaim := { program := "ytgkgfjliilemnaa", sum := "364512590bf2f7a93e88d2cdc4ab97015a70968225a69c1def4008941d1f83ac", func := "pub-orthodrome/laws.FnSpaceLength", spec := "fnSpaceLength", inPlace := ["math.archTrunc", "math.Float64bits", "math.Float64frombits", "math.sqrt"], apart := false }
def FnSpaceLengthSaid : Prop := fnSpaceLengthRow.holds Try.pinned (OpenSpec.ofChange fnSpaceLengthSpec)

/-- ITS FALSE NEIGHBOUR: 'it returns false'. Refute it at one input. -/
def fnSpaceLengthWrong : ChangeSpec := { name := "fnSpaceLength", fn := fun _ => fun
  | [d] => { results := [.lit (.bool false)], args := [d] }
  | _ => none }
def FnSpaceLengthWrongFalsely : Prop := fnSpaceLengthRow.holds Try.pinned (OpenSpec.ofChange fnSpaceLengthWrong)

/-- 'laws.FnSpaceFlat': WHATEVER THE INPUT: true; the input reads as it did. -/
def fnSpaceFlatSpec : ChangeSpec := { name := "fnSpaceFlat", fn := fun _ => fun
  | [d1, d2, d3, d4] => { results := [.lit (.bool true)], args := [d1, d2, d3, d4] }
  | _ => none }
def fnSpaceFlatRow : OpenClaim := { program := "ytgkgfjliilemnaa", sum := "364512590bf2f7a93e88d2cdc4ab97015a70968225a69c1def4008941d1f83ac", func := "pub-orthodrome/laws.FnSpaceFlat", spec := "fnSpaceFlat", inPlace := ["math.archTrunc", "math.Float64bits", "math.Float64frombits", "math.sqrt"], apart := false }
def FnSpaceFlatSaid : Prop := fnSpaceFlatRow.holds Try.pinned (OpenSpec.ofChange fnSpaceFlatSpec)

/-- ITS FALSE NEIGHBOUR: 'it returns false'. Refute it at one input. -/
def fnSpaceFlatWrong : ChangeSpec := { name := "fnSpaceFlat", fn := fun _ => fun
  | [d1, d2, d3, d4] => { results := [.lit (.bool false)], args := [d1, d2, d3, d4] }
  | _ => none }
def FnSpaceFlatWrongFalsely : Prop := fnSpaceFlatRow.holds Try.pinned (OpenSpec.ofChange fnSpaceFlatWrong)

/-- 'laws.FnPointLineNone': WHATEVER THE INPUT: true; the input reads as it did. -/
def fnPointLineNoneSpec : ChangeSpec := { name := "fnPointLineNone", fn := fun _ => fun
  | [d1, d2, d3] => { results := [.lit (.bool true)], args := [d1, d2, d3] }
  | _ => none }
def fnPointLineNoneRow : OpenClaim := { program := "ytgkgfjliilemnaa", sum := "364512590bf2f7a93e88d2cdc4ab97015a70968225a69c1def4008941d1f83ac", func := "pub-orthodrome/laws.FnPointLineNone", spec := "fnPointLineNone", inPlace := ["math.archTrunc", "math.Float64bits", "math.Float64frombits", "math.sqrt"], apart := false }
def FnPointLineNoneSaid : Prop := fnPointLineNoneRow.holds Try.pinned (OpenSpec.ofChange fnPointLineNoneSpec)

/-- ITS FALSE NEIGHBOUR: 'it returns false'. Refute it at one input. -/
def fnPointLineNoneWrong : ChangeSpec := { name := "fnPointLineNone", fn := fun _ => fun
  | [d1, d2, d3] => { results := [.lit (.bool false)], args := [d1, d2, d3] }
  | _ => none }
def FnPointLineNoneWrongFalsely : Prop := fnPointLineNoneRow.holds Try.pinned (OpenSpec.ofChange fnPointLineNoneWrong)

/-- 'laws.FnLocateInRing': WHATEVER THE INPUT: true; the input reads as it did. -/
def fnLocateInRingSpec : ChangeSpec := { name := "fnLocateInRing", fn := fun _ => fun
  | [d1, d2, d3] => { results := [.lit (.bool true)], args := [d1, d2, d3] }
  | _ => none }
def fnLocateInRingRow : OpenClaim := { program := "ytgkgfjliilemnaa", sum := "364512590bf2f7a93e88d2cdc4ab97015a70968225a69c1def4008941d1f83ac", func := "pub-orthodrome/laws.FnLocateInRing", spec := "fnLocateInRing", inPlace := ["math.archTrunc", "math.Float64bits", "math.Float64frombits", "math.archFloor"], unfollowed := true, recurses := true, apart := false }
def FnLocateInRingSaid : Prop := fnLocateInRingRow.holds Try.pinned (OpenSpec.ofChange fnLocateInRingSpec)

/-- ITS FALSE NEIGHBOUR: 'it returns false'. Refute it at one input. -/
def fnLocateInRingWrong : ChangeSpec := { name := "fnLocateInRing", fn := fun _ => fun
  | [d1, d2, d3] => { results := [.lit (.bool false)], args := [d1, d2, d3] }
  | _ => none }
def FnLocateInRingWrongFalsely : Prop := fnLocateInRingRow.holds Try.pinned (OpenSpec.ofChange fnLocateInRingWrong)

/-- 'laws.FnHomogeneousMeet': WHATEVER THE INPUT: true; the input reads as it did. -/
def fnHomogeneousMeetSpec : ChangeSpec := { name := "fnHomogeneousMeet", fn := fun _ => fun
  | [d1, d2, d3, d4] => { results := [.lit (.bool true)], args := [d1, d2, d3, d4] }
  | _ => none }
def fnHomogeneousMeetRow : OpenClaim := { program := "ytgkgfjliilemnaa", sum := "364512590bf2f7a93e88d2cdc4ab97015a70968225a69c1def4008941d1f83ac", func := "pub-orthodrome/laws.FnHomogeneousMeet", spec := "fnHomogeneousMeet", inPlace := ["math.archTrunc", "math.Float64bits", "math.Float64frombits"], unfollowed := true, recurses := true, apart := false }
def FnHomogeneousMeetSaid : Prop := fnHomogeneousMeetRow.holds Try.pinned (OpenSpec.ofChange fnHomogeneousMeetSpec)

/-- ITS FALSE NEIGHBOUR: 'it returns false'. Refute it at one input. -/
def fnHomogeneousMeetWrong : ChangeSpec := { name := "fnHomogeneousMeet", fn := fun _ => fun
  | [d1, d2, d3, d4] => { results := [.lit (.bool false)], args := [d1, d2, d3, d4] }
  | _ => none }
def FnHomogeneousMeetWrongFalsely : Prop := fnHomogeneousMeetRow.holds Try.pinned (OpenSpec.ofChange fnHomogeneousMeetWrong)

/-- 'laws.FnCos2': WHATEVER THE INPUT: true; the input reads as it did. -/
def fnCos2Spec : ChangeSpec := { name := "fnCos2", fn := fun _ => fun
  | [d1, d2] => { results := [.lit (.bool true)], args := [d1, d2] }
  | _ => none }
def fnCos2Row : OpenClaim := { program := "ytgkgfjliilemnaa", sum := "364512590bf2f7a93e88d2cdc4ab97015a70968225a69c1def4008941d1f83ac", func := "pub-orthodrome/laws.FnCos2", spec := "fnCos2", inPlace := ["math.archTrunc", "math.Float64bits", "math.Float64frombits", "math.archHypot", "math.sqrt"], apart := false }
def FnCos2Said : Prop := fnCos2Row.holds Try.pinned (OpenSpec.ofChange fnCos2Spec)

/-- ITS FALSE NEIGHBOUR: 'it returns false'. Refute it at one input. -/
def fnCos2Wrong : ChangeSpec := { name := "fnCos2", fn := fun _ => fun
  | [d1, d2] => { results := [.lit (.bool false)], args := [d1, d2] }
  | _ => none }
def FnCos2WrongFalsely : Prop := fnCos2Row.holds Try.pinned (OpenSpec.ofChange fnCos2Wrong)

/-- 'laws.FnCos3': WHATEVER THE INPUT: true; the input reads as it did. -/
def fnCos3Spec : ChangeSpec := { name := "fnCos3", fn := fun _ => fun
  | [d1, d2] => { results := [.lit (.bool true)], args := [d1, d2] }
  | _ => none }
def fnCos3Row : OpenClaim := { program := "ytgkgfjliilemnaa", sum := "364512590bf2f7a93e88d2cdc4ab97015a70968225a69c1def4008941d1f83ac", func := "pub-orthodrome/laws.FnCos3", spec := "fnCos3", inPlace := ["math.archTrunc", "math.Float64bits", "math.Float64frombits", "math.archHypot", "math.sqrt"], apart := false }
def FnCos3Said : Prop := fnCos3Row.holds Try.pinned (OpenSpec.ofChange fnCos3Spec)

/-- ITS FALSE NEIGHBOUR: 'it returns false'. Refute it at one input. -/
def fnCos3Wrong : ChangeSpec := { name := "fnCos3", fn := fun _ => fun
  | [d1, d2] => { results := [.lit (.bool false)], args := [d1, d2] }
  | _ => none }
def FnCos3WrongFalsely : Prop := fnCos3Row.holds Try.pinned (OpenSpec.ofChange fnCos3Wrong)

/-- 'laws.FnGravity3': WHATEVER THE INPUT: true; the input reads as it did. -/
def fnGravity3Spec : ChangeSpec := { name := "fnGravity3", fn := fun _ => fun
  | [d1, d2, d3] => { results := [.lit (.bool true)], args := [d1, d2, d3] }
  | _ => none }
def fnGravity3Row : OpenClaim := { program := "ytgkgfjliilemnaa", sum := "364512590bf2f7a93e88d2cdc4ab97015a70968225a69c1def4008941d1f83ac", func := "pub-orthodrome/laws.FnGravity3", spec := "fnGravity3", inPlace := ["math.archTrunc", "math.Float64bits", "math.Float64frombits", "math.sqrt"], apart := false }
def FnGravity3Said : Prop := fnGravity3Row.holds Try.pinned (OpenSpec.ofChange fnGravity3Spec)

/-- ITS FALSE NEIGHBOUR: 'it returns false'. Refute it at one input. -/
def fnGravity3Wrong : ChangeSpec := { name := "fnGravity3", fn := fun _ => fun
  | [d1, d2, d3] => { results := [.lit (.bool false)], args := [d1, d2, d3] }
  | _ => none }
def FnGravity3WrongFalsely : Prop := fnGravity3Row.holds Try.pinned (OpenSpec.ofChange fnGravity3Wrong)

/- THE SECOND FORM. 'bulk': how many values and letters a reading holds, each counted each time it is reached (what is shared counts as often as it is met; a slice's spare places count too). A statement '..UptoSaid' is the law's where the arguments, and the package variables that the reading takes, are together of bulk at most 1048576: NARROWER than '..Said'. Prove '..Said' where nothing that the law and all that it calls make is longer than what came in: it says more and counts as full. Else prove '..UptoSaid'. A law counts once. -/
mutual
def uptoBulk {H : Type} : DataW H → Nat
  | .lit (.string bytes) => bytes.length + 1
  | .lit _ => 1
  | .nil => 1
  | .ptr d => uptoBulk d + 1
  | .slice elems spare => uptoBulkAll elems + uptoBulkAll spare + 1
  | .agg parts => uptoBulkAll parts + 1
  | .iface _ d => uptoBulk d + 1
  | .map entries => uptoBulkEntries entries + 1
  | .held _ => 1
def uptoBulkAll {H : Type} : List (DataW H) → Nat
  | [] => 0
  | d :: r => uptoBulk d + uptoBulkAll r
def uptoBulkEntries {H : Type} : List (Lit × DataW H) → Nat
  | [] => 0
  | x :: r => uptoBulkEntry x + uptoBulkEntries r
def uptoBulkEntry {H : Type} : Lit × DataW H → Nat
  | (.string bytes, d) => bytes.length + uptoBulk d + 1
  | (_, d) => uptoBulk d + 1
 end
def uptoSmall : (H : Type) → List (DataW H) → Bool := fun _ ds => decide (uptoBulkAll ds ≤ 1048576)
def OpenSpec.upto (s : _root_.Go.ChangeSpec) : _root_.Go.OpenSpec := { _root_.Go.OpenSpec.ofChange s with cond := some uptoSmall }

/-- 'laws.FnIsAcute', WHERE WHAT IT READS IS OF BULK AT MOST 1048576: true; the input reads as it did. -/
def fnIsAcuteUptoRow : OpenClaim := { program := "ytgkgfjliilemnaa", sum := "364512590bf2f7a93e88d2cdc4ab97015a70968225a69c1def4008941d1f83ac", func := "pub-orthodrome/laws.FnIsAcute", spec := "fnIsAcute", inPlace := ["math.archTrunc", "math.Float64bits", "math.Float64frombits"], apart := false, narrowed := true }
def FnIsAcuteUptoSaid : Prop := fnIsAcuteUptoRow.holds Try.pinned (OpenSpec.upto fnIsAcuteSpec)

/-- 'laws.FnSpaceLength', WHERE WHAT IT READS IS OF BULK AT MOST 1048576: true; the input reads as it did. -/
def fnSpaceLengthUptoRow : OpenClaim := { program := "ytgkgfjliilemnaa", sum := "364512590bf2f7a93e88d2cdc4ab97015a70968225a69c1def4008941d1f83ac", func := "pub-orthodrome/laws.FnSpaceLength", spec := "fnSpaceLength", inPlace := ["math.archTrunc", "math.Float64bits", "math.Float64frombits", "math.sqrt"], apart := false, narrowed := true }
def FnSpaceLengthUptoSaid : Prop := fnSpaceLengthUptoRow.holds Try.pinned (OpenSpec.upto fnSpaceLengthSpec)

/-- 'laws.FnSpaceFlat', WHERE WHAT IT READS IS OF BULK AT MOST 1048576: true; the input reads as it did. -/
def fnSpaceFlatUptoRow : OpenClaim := { program := "ytgkgfjliilemnaa", sum := "364512590bf2f7a93e88d2cdc4ab97015a70968225a69c1def4008941d1f83ac", func := "pub-orthodrome/laws.FnSpaceFlat", spec := "fnSpaceFlat", inPlace := ["math.archTrunc", "math.Float64bits", "math.Float64frombits", "math.sqrt"], apart := false, narrowed := true }
def FnSpaceFlatUptoSaid : Prop := fnSpaceFlatUptoRow.holds Try.pinned (OpenSpec.upto fnSpaceFlatSpec)

/-- 'laws.FnPointLineNone', WHERE WHAT IT READS IS OF BULK AT MOST 1048576: true; the input reads as it did. -/
def fnPointLineNoneUptoRow : OpenClaim := { program := "ytgkgfjliilemnaa", sum := "364512590bf2f7a93e88d2cdc4ab97015a70968225a69c1def4008941d1f83ac", func := "pub-orthodrome/laws.FnPointLineNone", spec := "fnPointLineNone", inPlace := ["math.archTrunc", "math.Float64bits", "math.Float64frombits", "math.sqrt"], apart := false, narrowed := true }
def FnPointLineNoneUptoSaid : Prop := fnPointLineNoneUptoRow.holds Try.pinned (OpenSpec.upto fnPointLineNoneSpec)

/-- 'laws.FnLocateInRing', WHERE WHAT IT READS IS OF BULK AT MOST 1048576: true; the input reads as it did. -/
def fnLocateInRingUptoRow : OpenClaim := { program := "ytgkgfjliilemnaa", sum := "364512590bf2f7a93e88d2cdc4ab97015a70968225a69c1def4008941d1f83ac", func := "pub-orthodrome/laws.FnLocateInRing", spec := "fnLocateInRing", inPlace := ["math.archTrunc", "math.Float64bits", "math.Float64frombits", "math.archFloor"], unfollowed := true, recurses := true, apart := false, narrowed := true }
def FnLocateInRingUptoSaid : Prop := fnLocateInRingUptoRow.holds Try.pinned (OpenSpec.upto fnLocateInRingSpec)

/-- 'laws.FnHomogeneousMeet', WHERE WHAT IT READS IS OF BULK AT MOST 1048576: true; the input reads as it did. -/
def fnHomogeneousMeetUptoRow : OpenClaim := { program := "ytgkgfjliilemnaa", sum := "364512590bf2f7a93e88d2cdc4ab97015a70968225a69c1def4008941d1f83ac", func := "pub-orthodrome/laws.FnHomogeneousMeet", spec := "fnHomogeneousMeet", inPlace := ["math.archTrunc", "math.Float64bits", "math.Float64frombits"], unfollowed := true, recurses := true, apart := false, narrowed := true }
def FnHomogeneousMeetUptoSaid : Prop := fnHomogeneousMeetUptoRow.holds Try.pinned (OpenSpec.upto fnHomogeneousMeetSpec)

/-- 'laws.FnCos2', WHERE WHAT IT READS IS OF BULK AT MOST 1048576: true; the input reads as it did. -/
def fnCos2UptoRow : OpenClaim := { program := "ytgkgfjliilemnaa", sum := "364512590bf2f7a93e88d2cdc4ab97015a70968225a69c1def4008941d1f83ac", func := "pub-orthodrome/laws.FnCos2", spec := "fnCos2", inPlace := ["math.archTrunc", "math.Float64bits", "math.Float64frombits", "math.archHypot", "math.sqrt"], apart := false, narrowed := true }
def FnCos2UptoSaid : Prop := fnCos2UptoRow.holds Try.pinned (OpenSpec.upto fnCos2Spec)

/-- 'laws.FnCos3', WHERE WHAT IT READS IS OF BULK AT MOST 1048576: true; the input reads as it did. -/
def fnCos3UptoRow : OpenClaim := { program := "ytgkgfjliilemnaa", sum := "364512590bf2f7a93e88d2cdc4ab97015a70968225a69c1def4008941d1f83ac", func := "pub-orthodrome/laws.FnCos3", spec := "fnCos3", inPlace := ["math.archTrunc", "math.Float64bits", "math.Float64frombits", "math.archHypot", "math.sqrt"], apart := false, narrowed := true }
def FnCos3UptoSaid : Prop := fnCos3UptoRow.holds Try.pinned (OpenSpec.upto fnCos3Spec)

/-- 'laws.FnGravity3', WHERE WHAT IT READS IS OF BULK AT MOST 1048576: true; the input reads as it did. -/
def fnGravity3UptoRow : OpenClaim := { program := "ytgkgfjliilemnaa", sum := "364512590bf2f7a93e88d2cdc4ab97015a70968225a69c1def4008941d1f83ac", func := "pub-orthodrome/laws.FnGravity3", spec := "fnGravity3", inPlace := ["math.archTrunc", "math.Float64bits", "math.Float64frombits", "math.sqrt"], apart := false, narrowed := true }
def FnGravity3UptoSaid : Prop := fnGravity3UptoRow.holds Try.pinned (OpenSpec.upto fnGravity3Spec)

end Rows
end Go.Proofs.Ytgkgfjliilemnaa
