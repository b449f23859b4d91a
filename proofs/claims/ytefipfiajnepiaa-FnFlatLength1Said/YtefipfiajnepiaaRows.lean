/-
  No cell of these rows narrows 'for every input' (looked for: loops, veiled, ifaces, maps, wideKeys, modest, calm, conditions, laid).
  DERIVED. THE GIVEN ROWS OF THIS SEAT. 4 by the template 'for every input the law returns true; each argument reads behind the call as it read before'; 0 by the template 'total and deterministic' (their statements: YtefipfiajnepiaaTotals.lean).
  GIVEN WITH THE SEED: the statements are not yours to turn. If you find one false, say at which input.
  Laid BY PROGRAM, IN A SANDBOX (cutbox-rows.mjs): the forced cells as the released guide's own fill.sh prints them over the translation 6c49a0b410158472… (all of the seat's roots in one cut). By AI agents, Wed Nov 11 2026. No macro, syntax, notation, axiom, sorry.
-/
import Derived.Test.YtefipfiajnepiaaChecked
import GoSem.Claim
import GoSem.ClaimJoined
import GoSem.ClaimMapViews
import Derived.JoinedTies
import Derived.KernelRfl
namespace Go.Proofs.Ytefipfiajnepiaa
/- THE CELL 'sum', in the pinned program and in every row, IS THE sha256 OF THE DUMP (.gsa) THAT YtefipfiajnepiaaProg.lean LOADS. Nothing in Lean hashes anything: it is a label: what it is worth is what the hold of that sum in a sandbox is worth. -/
noncomputable def Try.pinned : Pinned := { name := "ytefipfiajnepiaa", sum := "6c49a0b4101584724137c26f2202875748888168bde3116a8dccbf4bbaaa20d5", checked := Try.checked }
namespace Rows
def none {H : Type} : Left H := { results := [], args := [] }

/-- 'laws.FnBoxClone': WHATEVER THE INPUT: true; the input reads as it did. -/
def fnBoxCloneSpec : ChangeSpec := { name := "fnBoxClone", fn := fun _ => fun
  | [d] => { results := [.lit (.bool true)], args := [d] }
  | _ => none }
def fnBoxCloneRow : OpenClaim := { program := "ytefipfiajnepiaa", sum := "6c49a0b4101584724137c26f2202875748888168bde3116a8dccbf4bbaaa20d5", func := "pub-orthodrome/laws.FnBoxClone", spec := "fnBoxClone", unfollowed := true, recurses := true, apart := false }
def FnBoxCloneSaid : Prop := fnBoxCloneRow.holds Try.pinned (OpenSpec.ofChange fnBoxCloneSpec)

/-- ITS FALSE NEIGHBOUR: 'it returns false'. Refute it at one input. -/
def fnBoxCloneWrong : ChangeSpec := { name := "fnBoxClone", fn := fun _ => fun
  | [d] => { results := [.lit (.bool false)], args := [d] }
  | _ => none }
def FnBoxCloneWrongFalsely : Prop := fnBoxCloneRow.holds Try.pinned (OpenSpec.ofChange fnBoxCloneWrong)

/-- 'laws.FnKPartition': WHATEVER THE INPUT: true; the input reads as it did. -/
def fnKPartitionSpec : ChangeSpec := { name := "fnKPartition", fn := fun _ => fun
  | [d1, d2] => { results := [.lit (.bool true)], args := [d1, d2] }
  | _ => none }
def fnKPartitionRow : OpenClaim := { program := "ytefipfiajnepiaa", sum := "6c49a0b4101584724137c26f2202875748888168bde3116a8dccbf4bbaaa20d5", func := "pub-orthodrome/laws.FnKPartition", spec := "fnKPartition", unfollowed := true, recurses := true, apart := false }
def FnKPartitionSaid : Prop := fnKPartitionRow.holds Try.pinned (OpenSpec.ofChange fnKPartitionSpec)

/-- ITS FALSE NEIGHBOUR: 'it returns false'. Refute it at one input. -/
def fnKPartitionWrong : ChangeSpec := { name := "fnKPartition", fn := fun _ => fun
  | [d1, d2] => { results := [.lit (.bool false)], args := [d1, d2] }
  | _ => none }
def FnKPartitionWrongFalsely : Prop := fnKPartitionRow.holds Try.pinned (OpenSpec.ofChange fnKPartitionWrong)

/-- 'laws.FnKDo': WHATEVER THE INPUT: true; the input reads as it did. -/
def fnKDoSpec : ChangeSpec := { name := "fnKDo", fn := fun _ => fun
  | [d1, d2, d3] => { results := [.lit (.bool true)], args := [d1, d2, d3] }
  | _ => none }
def fnKDoRow : OpenClaim := { program := "ytefipfiajnepiaa", sum := "6c49a0b4101584724137c26f2202875748888168bde3116a8dccbf4bbaaa20d5", func := "pub-orthodrome/laws.FnKDo", spec := "fnKDo", inPlace := ["math.archTrunc", "math.Float64bits", "math.Float64frombits"], unfollowed := true, recurses := true, apart := false }
def FnKDoSaid : Prop := fnKDoRow.holds Try.pinned (OpenSpec.ofChange fnKDoSpec)

/-- ITS FALSE NEIGHBOUR: 'it returns false'. Refute it at one input. -/
def fnKDoWrong : ChangeSpec := { name := "fnKDo", fn := fun _ => fun
  | [d1, d2, d3] => { results := [.lit (.bool false)], args := [d1, d2, d3] }
  | _ => none }
def FnKDoWrongFalsely : Prop := fnKDoRow.holds Try.pinned (OpenSpec.ofChange fnKDoWrong)

/-- 'laws.FnFlatLength1': WHATEVER THE INPUT: true; the input reads as it did. -/
def fnFlatLength1Spec : ChangeSpec := { name := "fnFlatLength1", fn := fun _ => fun
  | [d1, d2] => { results := [.lit (.bool true)], args := [d1, d2] }
  | _ => none }
def fnFlatLength1Row : OpenClaim := { program := "ytefipfiajnepiaa", sum := "6c49a0b4101584724137c26f2202875748888168bde3116a8dccbf4bbaaa20d5", func := "pub-orthodrome/laws.FnFlatLength1", spec := "fnFlatLength1", inPlace := ["math.archTrunc", "math.Float64bits", "math.Float64frombits", "math.sqrt"], unfollowed := true, recurses := true, apart := false }
def FnFlatLength1Said : Prop := fnFlatLength1Row.holds Try.pinned (OpenSpec.ofChange fnFlatLength1Spec)

/-- ITS FALSE NEIGHBOUR: 'it returns false'. Refute it at one input. -/
def fnFlatLength1Wrong : ChangeSpec := { name := "fnFlatLength1", fn := fun _ => fun
  | [d1, d2] => { results := [.lit (.bool false)], args := [d1, d2] }
  | _ => none }
def FnFlatLength1WrongFalsely : Prop := fnFlatLength1Row.holds Try.pinned (OpenSpec.ofChange fnFlatLength1Wrong)

/- THE SECOND FORM. 'bulk': how many values and letters a reading holds, each counted each time it is reached (what is shared counts as often as it is met; a slice's spare places count too). A statement '..UptoSaid' is the law's where the arguments, and the package variables that the reading takes, are together of bulk at most 1048576: NARROWER than '..Said'. Prove '..Said' where nothing that the law and all that it calls make is longer than what came in: it says more and counts as full. Else prove '..UptoSaid'. A law counts once. -/
mutual
def uptoBulk {H : Type} : DataW H → Nat
  | .lit (.string bytes) => bytes.length + 1
  | .lit _ => 1
  | .nil => 1
  | .ptr d => uptoBulk d + 1
  | .slice elems spare => uptoBulkAll elems + uptoBulkAll spare + 1
  | .agg parts => uptoBulkAll parts + 1
  | .iface _ d => uptoBulk d + 1
  | .map entries => uptoBulkEntries entries + 1
  | .held _ => 1
def uptoBulkAll {H : Type} : List (DataW H) → Nat
  | [] => 0
  | d :: r => uptoBulk d + uptoBulkAll r
def uptoBulkEntries {H : Type} : List (Lit × DataW H) → Nat
  | [] => 0
  | x :: r => uptoBulkEntry x + uptoBulkEntries r
def uptoBulkEntry {H : Type} : Lit × DataW H → Nat
  | (.string bytes, d) => bytes.length + uptoBulk d + 1
  | (_, d) => uptoBulk d + 1
 end
def uptoSmall : (H : Type) → List (DataW H) → Bool := fun _ ds => decide (uptoBulkAll ds ≤ 1048576)
def OpenSpec.upto (s : _root_.Go.ChangeSpec) : _root_.Go.OpenSpec := { _root_.Go.OpenSpec.ofChange s with cond := some uptoSmall }

/-- 'laws.FnBoxClone', WHERE WHAT IT READS IS OF BULK AT MOST 1048576: true; the input reads as it did. -/
def fnBoxCloneUptoRow : OpenClaim := { program := "ytefipfiajnepiaa", sum := "6c49a0b4101584724137c26f2202875748888168bde3116a8dccbf4bbaaa20d5", func := "pub-orthodrome/laws.FnBoxClone", spec := "fnBoxClone", unfollowed := true, recurses := true, apart := false, narrowed := true }
def FnBoxCloneUptoSaid : Prop := fnBoxCloneUptoRow.holds Try.pinned (OpenSpec.upto fnBoxCloneSpec)

/-- 'laws.FnKPartition', WHERE WHAT IT READS IS OF BULK AT MOST 1048576: true; the input reads as it did. -/
def fnKPartitionUptoRow : OpenClaim := { program := "ytefipfiajnepiaa", sum := "6c49a0b4101584724137c26f2202875748888168bde3116a8dccbf4bbaaa20d5", func := "pub-orthodrome/laws.FnKPartition", spec := "fnKPartition", unfollowed := true, recurses := true, apart := false, narrowed := true }
def FnKPartitionUptoSaid : Prop := fnKPartitionUptoRow.holds Try.pinned (OpenSpec.upto fnKPartitionSpec)

/-- 'laws.FnKDo', WHERE WHAT IT READS IS OF BULK AT MOST 1048576: true; the input reads as it did. -/
def fnKDoUptoRow : OpenClaim := { program := "ytefipfiajnepiaa", sum := "6c49a0b4101584724137c26f2202875748888168bde3116a8dccbf4bbaaa20d5", func := "pub-orthodrome/laws.FnKDo", spec := "fnKDo", inPlace := ["math.archTrunc", "math.Float64bits", "math.Float64frombits"], unfollowed := true, recurses := true, apart := false, narrowed := true }
def FnKDoUptoSaid : Prop := fnKDoUptoRow.holds Try.pinned (OpenSpec.upto fnKDoSpec)

/-- 'laws.FnFlatLength1', WHERE WHAT IT READS IS OF BULK AT MOST 1048576: true; the input reads as it did. -/
def fnFlatLength1UptoRow : OpenClaim := { program := "ytefipfiajnepiaa", sum := "6c49a0b4101584724137c26f2202875748888168bde3116a8dccbf4bbaaa20d5", func := "pub-orthodrome/laws.FnFlatLength1", spec := "fnFlatLength1", inPlace := ["math.archTrunc", "math.Float64bits", "math.Float64frombits", "math.sqrt"], unfollowed := true, recurses := true, apart := false, narrowed := true }
def FnFlatLength1UptoSaid : Prop := fnFlatLength1UptoRow.holds Try.pinned (OpenSpec.upto fnFlatLength1Spec)

end Rows
end Go.Proofs.Ytefipfiajnepiaa
