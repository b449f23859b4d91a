/-
  No cell of these rows narrows 'for every input' (looked for: loops, veiled, ifaces, maps, wideKeys, modest, calm, conditions, laid).
  DERIVED. THE GIVEN ROWS OF THIS SEAT. 7 by the template 'for every input the law returns true; each argument reads behind the call as it read before'; 0 by the template 'total and deterministic' (their statements: YtomhkbijijdghaaTotals.lean).
  GIVEN WITH THE SEED: the statements are not yours to turn. If you find one false, say at which input.
  Laid BY PROGRAM, IN A SANDBOX (cutbox-rows.mjs): the forced cells as the released guide's own fill.sh prints them over the translation 5630f920b873531a… (all of the seat's roots in one cut). By AI agents, Wed Nov 11 2026. No macro, syntax, notation, axiom, sorry.
-/
import Derived.Test.YtomhkbijijdghaaChecked
import GoSem.Claim
import GoSem.ClaimJoined
import GoSem.ClaimMapViews
import Derived.JoinedTies
import Derived.KernelRfl
namespace Go.Proofs.Ytomhkbijijdghaa
/- THE CELL 'sum', in the pinned program and in every row, IS THE sha256 OF THE DUMP (.gsa) THAT YtomhkbijijdghaaProg.lean LOADS. Nothing in Lean hashes anything: it is a label: what it is worth is what the hold of that sum in a sandbox is worth. -/
noncomputable def Try.pinned : Pinned := { name := "ytomhkbijijdghaa", sum := "5630f920b873531a9d36d486b00585250169ad171fe615c2186d7ad8cd7205ac", checked := Try.checked }
namespace Rows
def none {H : Type} : Left H := { results := [], args := [] }

/-- 'laws.FnKDo': WHATEVER THE INPUT: true; the input reads as it did. -/
def fnKDoSpec : ChangeSpec := { name := "fnKDo", fn := fun _ => fun
  | [d1, d2, d3] => { results := [.lit (.bool true)], args := [d1, d2, d3] }
  | _ => none }
def fnKDoRow : OpenClaim := { program := "ytomhkbijijdghaa", sum := "5630f920b873531a9d36d486b00585250169ad171fe615c2186d7ad8cd7205ac", func := "pub-orthodrome/laws.FnKDo", spec := "fnKDo", inPlace := ["math.archTrunc", "math.Float64bits", "math.Float64frombits"], unfollowed := true, recurses := true, apart := false }
def FnKDoSaid : Prop := fnKDoRow.holds Try.pinned (OpenSpec.ofChange fnKDoSpec)

/-- ITS FALSE NEIGHBOUR: 'it returns false'. Refute it at one input. -/
def fnKDoWrong : ChangeSpec := { name := "fnKDo", fn := fun _ => fun
  | [d1, d2, d3] => { results := [.lit (.bool false)], args := [d1, d2, d3] }
  | _ => none }
def FnKDoWrongFalsely : Prop := fnKDoRow.holds Try.pinned (OpenSpec.ofChange fnKDoWrong)

/-- 'laws.FnSimplifyLayouts': WHATEVER THE INPUT: true; the input reads as it did. -/
def fnSimplifyLayoutsSpec : ChangeSpec := { name := "fnSimplifyLayouts", fn := fun _ => fun
  | [d1, d2, d3] => { results := [.lit (.bool true)], args := [d1, d2, d3] }
  | _ => none }
def fnSimplifyLayoutsRow : OpenClaim := { program := "ytomhkbijijdghaa", sum := "5630f920b873531a9d36d486b00585250169ad171fe615c2186d7ad8cd7205ac", func := "pub-orthodrome/laws.FnSimplifyLayouts", spec := "fnSimplifyLayouts", inPlace := ["math.archTrunc", "math.Float64bits", "math.Float64frombits"], unfollowed := true, recurses := true, apart := false }
def FnSimplifyLayoutsSaid : Prop := fnSimplifyLayoutsRow.holds Try.pinned (OpenSpec.ofChange fnSimplifyLayoutsSpec)

/-- ITS FALSE NEIGHBOUR: 'it returns false'. Refute it at one input. -/
def fnSimplifyLayoutsWrong : ChangeSpec := { name := "fnSimplifyLayouts", fn := fun _ => fun
  | [d1, d2, d3] => { results := [.lit (.bool false)], args := [d1, d2, d3] }
  | _ => none }
def FnSimplifyLayoutsWrongFalsely : Prop := fnSimplifyLayoutsRow.holds Try.pinned (OpenSpec.ofChange fnSimplifyLayoutsWrong)

/-- 'laws.FnVNearest': WHATEVER THE INPUT: true; the input reads as it did. -/
def fnVNearestSpec : ChangeSpec := { name := "fnVNearest", fn := fun _ => fun
  | [d1, d2, d3] => { results := [.lit (.bool true)], args := [d1, d2, d3] }
  | _ => none }
def fnVNearestRow : OpenClaim := { program := "ytomhkbijijdghaa", sum := "5630f920b873531a9d36d486b00585250169ad171fe615c2186d7ad8cd7205ac", func := "pub-orthodrome/laws.FnVNearest", spec := "fnVNearest", inPlace := ["math.Float64bits", "math.archTrunc", "math.Float64frombits", "math.archMin", "math.sqrt"], unfollowed := true, recurses := true, apart := false }
def FnVNearestSaid : Prop := fnVNearestRow.holds Try.pinned (OpenSpec.ofChange fnVNearestSpec)

/-- ITS FALSE NEIGHBOUR: 'it returns false'. Refute it at one input. -/
def fnVNearestWrong : ChangeSpec := { name := "fnVNearest", fn := fun _ => fun
  | [d1, d2, d3] => { results := [.lit (.bool false)], args := [d1, d2, d3] }
  | _ => none }
def FnVNearestWrongFalsely : Prop := fnVNearestRow.holds Try.pinned (OpenSpec.ofChange fnVNearestWrong)

/-- 'laws.FnSpaceFlat': WHATEVER THE INPUT: true; the input reads as it did. -/
def fnSpaceFlatSpec : ChangeSpec := { name := "fnSpaceFlat", fn := fun _ => fun
  | [d1, d2, d3, d4] => { results := [.lit (.bool true)], args := [d1, d2, d3, d4] }
  | _ => none }
def fnSpaceFlatRow : OpenClaim := { program := "ytomhkbijijdghaa", sum := "5630f920b873531a9d36d486b00585250169ad171fe615c2186d7ad8cd7205ac", func := "pub-orthodrome/laws.FnSpaceFlat", spec := "fnSpaceFlat", inPlace := ["math.archTrunc", "math.Float64bits", "math.Float64frombits", "math.sqrt"], apart := false }
def FnSpaceFlatSaid : Prop := fnSpaceFlatRow.holds Try.pinned (OpenSpec.ofChange fnSpaceFlatSpec)

/-- ITS FALSE NEIGHBOUR: 'it returns false'. Refute it at one input. -/
def fnSpaceFlatWrong : ChangeSpec := { name := "fnSpaceFlat", fn := fun _ => fun
  | [d1, d2, d3, d4] => { results := [.lit (.bool false)], args := [d1, d2, d3, d4] }
  | _ => none }
def FnSpaceFlatWrongFalsely : Prop := fnSpaceFlatRow.holds Try.pinned (OpenSpec.ofChange fnSpaceFlatWrong)

/-- 'laws.FnSpaceLength': WHATEVER THE INPUT: true; the input reads as it did. -/
def fnSpaceLengthSpec : ChangeSpec := { name := "fnSpaceLength", fn := fun _ => fun
  | [d] => { results := [.lit (.bool true)], args := [d] }
  | _ => none }
def fnSpaceLengthRow : OpenClaim := { program := "ytomhkbijijdghaa", sum := "5630f920b873531a9d36d486b00585250169ad171fe615c2186d7ad8cd7205ac", func := "pub-orthodrome/laws.FnSpaceLength", spec := "fnSpaceLength", inPlace := ["math.archTrunc", "math.Float64bits", "math.Float64frombits", "math.sqrt"], apart := false }
def FnSpaceLengthSaid : Prop := fnSpaceLengthRow.holds Try.pinned (OpenSpec.ofChange fnSpaceLengthSpec)

/-- ITS FALSE NEIGHBOUR: 'it returns false'. Refute it at one input. -/
def fnSpaceLengthWrong : ChangeSpec := { name := "fnSpaceLength", fn := fun _ => fun
  | [d] => { results := [.lit (.bool false)], args := [d] }
  | _ => none }
def FnSpaceLengthWrongFalsely : Prop := fnSpaceLengthRow.holds Try.pinned (OpenSpec.ofChange fnSpaceLengthWrong)

/-- 'laws.FnHomogeneousMeet': WHATEVER THE INPUT: true; the input reads as it did. -/
def fnHomogeneousMeetSpec : ChangeSpec := { name := "fnHomogeneousMeet", fn := fun _ => fun
  | [d1, d2, d3, d4] => { results := [.lit (.bool true)], args := [d1, d2, d3, d4] }
  | _ => none }
def fnHomogeneousMeetRow : OpenClaim := { program := "ytomhkbijijdghaa", sum := "5630f920b873531a9d36d486b00585250169ad171fe615c2186d7ad8cd7205ac", func := "pub-orthodrome/laws.FnHomogeneousMeet", spec := "fnHomogeneousMeet", inPlace := ["math.archTrunc", "math.Float64bits", "math.Float64frombits"], unfollowed := true, recurses := true, apart := false }
def FnHomogeneousMeetSaid : Prop := fnHomogeneousMeetRow.holds Try.pinned (OpenSpec.ofChange fnHomogeneousMeetSpec)

/-- ITS FALSE NEIGHBOUR: 'it returns false'. Refute it at one input. -/
def fnHomogeneousMeetWrong : ChangeSpec := { name := "fnHomogeneousMeet", fn := fun _ => fun
  | [d1, d2, d3, d4] => { results := [.lit (.bool false)], args := [d1, d2, d3, d4] }
  | _ => none }
def FnHomogeneousMeetWrongFalsely : Prop := fnHomogeneousMeetRow.holds Try.pinned (OpenSpec.ofChange fnHomogeneousMeetWrong)

/-- 'laws.FnLocateInRing': WHATEVER THE INPUT: true; the input reads as it did. -/
def fnLocateInRingSpec : ChangeSpec := { name := "fnLocateInRing", fn := fun _ => fun
  | [d1, d2, d3] => { results := [.lit (.bool true)], args := [d1, d2, d3] }
  | _ => none }
def fnLocateInRingRow : OpenClaim := { program := "ytomhkbijijdghaa", sum := "5630f920b873531a9d36d486b00585250169ad171fe615c2186d7ad8cd7205ac", func := "pub-orthodrome/laws.FnLocateInRing", spec := "fnLocateInRing", inPlace := ["math.archTrunc", "math.Float64bits", "math.Float64frombits", "math.archFloor"], unfollowed := true, recurses := true, apart := false }
def FnLocateInRingSaid : Prop := fnLocateInRingRow.holds Try.pinned (OpenSpec.ofChange fnLocateInRingSpec)

/-- ITS FALSE NEIGHBOUR: 'it returns false'. Refute it at one input. -/
def fnLocateInRingWrong : ChangeSpec := { name := "fnLocateInRing", fn := fun _ => fun
  | [d1, d2, d3] => { results := [.lit (.bool false)], args := [d1, d2, d3] }
  | _ => none }
def FnLocateInRingWrongFalsely : Prop := fnLocateInRingRow.holds Try.pinned (OpenSpec.ofChange fnLocateInRingWrong)

/- THE SECOND FORM. 'bulk': how many values and letters a reading holds, each counted each time it is reached (what is shared counts as often as it is met; a slice's spare places count too). A statement '..UptoSaid' is the law's where the arguments, and the package variables that the reading takes, are together of bulk at most 1048576: NARROWER than '..Said'. Prove '..Said' where nothing that the law and all that it calls make is longer than what came in: it says more and counts as full. Else prove '..UptoSaid'. A law counts once. -/
mutual
def uptoBulk {H : Type} : DataW H → Nat
  | .lit (.string bytes) => bytes.length + 1
  | .lit _ => 1
  | .nil => 1
  | .ptr d => uptoBulk d + 1
  | .slice elems spare => uptoBulkAll elems + uptoBulkAll spare + 1
  | .agg parts => uptoBulkAll parts + 1
  | .iface _ d => uptoBulk d + 1
  | .map entries => uptoBulkEntries entries + 1
  | .held _ => 1
def uptoBulkAll {H : Type} : List (DataW H) → Nat
  | [] => 0
  | d :: r => uptoBulk d + uptoBulkAll r
def uptoBulkEntries {H : Type} : List (Lit × DataW H) → Nat
  | [] => 0
  | x :: r => uptoBulkEntry x + uptoBulkEntries r
def uptoBulkEntry {H : Type} : Lit × DataW H → Nat
  | (.string bytes, d) => bytes.length + uptoBulk d + 1
  | (_, d) => uptoBulk d + 1
 end
def uptoSmall : (H : Type) → List (DataW H) → Bool := fun _ ds => decide (uptoBulkAll ds ≤ 1048576)
def OpenSpec.upto (s : _root_.Go.ChangeSpec) : _root_.Go.OpenSpec := { _root_.Go.OpenSpec.ofChange s with cond := some uptoSmall }

/-- 'laws.FnKDo', WHERE WHAT IT READS IS OF BULK AT MOST 1048576: true; the input reads as it did. -/
def fnKDoUptoRow : OpenClaim := { program := "ytomhkbijijdghaa", sum := "5630f920b873531a9d36d486b00585250169ad171fe615c2186d7ad8cd7205ac", func := "pub-orthodrome/laws.FnKDo", spec := "fnKDo", inPlace := ["math.archTrunc", "math.Float64bits", "math.Float64frombits"], unfollowed := true, recurses := true, apart := false, narrowed := true }
def FnKDoUptoSaid : Prop := fnKDoUptoRow.holds Try.pinned (OpenSpec.upto fnKDoSpec)

/-- 'laws.FnSimplifyLayouts', WHERE WHAT IT READS IS OF BULK AT MOST 1048576: true; the input reads as it did. -/
def fnSimplifyLayoutsUptoRow : OpenClaim := { program := "ytomhkbijijdghaa", sum := "5630f920b873531a9d36d486b00585250169ad171fe615c2186d7ad8cd7205ac", func := "pub-orthodrome/laws.FnSimplifyLayouts", spec := "fnSimplifyLayouts", inPlace := ["math.archTrunc", "math.Float64bits", "math.Float64frombits"], unfollowed := true, recurses := true, apart := false, narrowed := true }
def FnSimplifyLayoutsUptoSaid : Prop := fnSimplifyLayoutsUptoRow.holds Try.pinned (OpenSpec.upto fnSimplifyLayoutsSpec)

/-- 'laws.FnVNearest', WHERE WHAT IT READS IS OF BULK AT MOST 1048576: true; the input reads as it did. -/
def fnVNearestUptoRow : OpenClaim := { program := "ytomhkbijijdghaa", sum := "5630f920b873531a9d36d486b00585250169ad171fe615c2186d7ad8cd7205ac", func := "pub-orthodrome/laws.FnVNearest", spec := "fnVNearest", inPlace := ["math.Float64bits", "math.archTrunc", "math.Float64frombits", "math.archMin", "math.sqrt"], unfollowed := true, recurses := true, apart := false, narrowed := true }
def FnVNearestUptoSaid : Prop := fnVNearestUptoRow.holds Try.pinned (OpenSpec.upto fnVNearestSpec)

/-- 'laws.FnSpaceFlat', WHERE WHAT IT READS IS OF BULK AT MOST 1048576: true; the input reads as it did. -/
def fnSpaceFlatUptoRow : OpenClaim := { program := "ytomhkbijijdghaa", sum := "5630f920b873531a9d36d486b00585250169ad171fe615c2186d7ad8cd7205ac", func := "pub-orthodrome/laws.FnSpaceFlat", spec := "fnSpaceFlat", inPlace := ["math.archTrunc", "math.Float64bits", "math.Float64frombits", "math.sqrt"], apart := false, narrowed := true }
def FnSpaceFlatUptoSaid : Prop := fnSpaceFlatUptoRow.holds Try.pinned (OpenSpec.upto fnSpaceFlatSpec)

/-- 'laws.FnSpaceLength', WHERE WHAT IT READS IS OF BULK AT MOST 1048576: true; the input reads as it did. -/
def fnSpaceLengthUptoRow : OpenClaim := { program := "ytomhkbijijdghaa", sum := "5630f920b873531a9d36d486b00585250169ad171fe615c2186d7ad8cd7205ac", func := "pub-orthodrome/laws.FnSpaceLength", spec := "fnSpaceLength", inPlace := ["math.archTrunc", "math.Float64bits", "math.Float64frombits", "math.sqrt"], apart := false, narrowed := true }
def FnSpaceLengthUptoSaid : Prop := fnSpaceLengthUptoRow.holds Try.pinned (OpenSpec.upto fnSpaceLengthSpec)

/-- 'laws.FnHomogeneousMeet', WHERE WHAT IT READS IS OF BULK AT MOST 1048576: true; the input reads as it did. -/
def fnHomogeneousMeetUptoRow : OpenClaim := { program := "ytomhkbijijdghaa", sum := "5630f920b873531a9d36d486b00585250169ad171fe615c2186d7ad8cd7205ac", func := "pub-orthodrome/laws.FnHomogeneousMeet", spec := "fnHomogeneousMeet", inPlace := ["math.archTrunc", "math.Float64bits", "math.Float64frombits"], unfollowed := true, recurses := true, apart := false, narrowed := true }
def FnHomogeneousMeetUptoSaid : Prop := fnHomogeneousMeetUptoRow.holds Try.pinned (OpenSpec.upto fnHomogeneousMeetSpec)

/-- 'laws.FnLocateInRing', WHERE WHAT IT READS IS OF BULK AT MOST 1048576: true; the input reads as it did. -/
def fnLocateInRingUptoRow : OpenClaim := { program := "ytomhkbijijdghaa", sum := "5630f920b873531a9d36d486b00585250169ad171fe615c2186d7ad8cd7205ac", func := "pub-orthodrome/laws.FnLocateInRing", spec := "fnLocateInRing", inPlace := ["math.archTrunc", "math.Float64bits", "math.Float64frombits", "math.archFloor"], unfollowed := true, recurses := true, apart := false, narrowed := true }
def FnLocateInRingUptoSaid : Prop := fnLocateInRingUptoRow.holds Try.pinned (OpenSpec.upto fnLocateInRingSpec)

end Rows
end Go.Proofs.Ytomhkbijijdghaa
