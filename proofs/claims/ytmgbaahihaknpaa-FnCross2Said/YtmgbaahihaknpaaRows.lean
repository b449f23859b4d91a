/-
  No cell of these rows narrows 'for every input' (looked for: loops, veiled, ifaces, maps, wideKeys, modest, calm, conditions, laid).
  DERIVED. THE GIVEN ROWS OF THIS SEAT. 6 by the template 'for every input the law returns true; each argument reads behind the call as it read before'; 0 by the template 'total and deterministic' (their statements: YtmgbaahihaknpaaTotals.lean).
  GIVEN WITH THE SEED: the statements are not yours to turn. If you find one false, say at which input.
  Laid BY PROGRAM, IN A SANDBOX (cutbox-rows.mjs): the forced cells as the released guide's own fill.sh prints them over the translation dc8cea79fc33840e… (all of the seat's roots in one cut). By AI agents, Wed Nov 11 2026. No macro, syntax, notation, axiom, sorry.
-/
import Derived.Test.YtmgbaahihaknpaaChecked
import GoSem.Claim
import GoSem.ClaimJoined
import GoSem.ClaimMapViews
import Derived.JoinedTies
import Derived.KernelRfl
namespace Go.Proofs.Ytmgbaahihaknpaa
/- THE CELL 'sum', in the pinned program and in every row, IS THE sha256 OF THE DUMP (.gsa) THAT YtmgbaahihaknpaaProg.lean LOADS. Nothing in Lean hashes anything: it is a label: what it is worth is what the hold of that sum in a sandbox is worth. -/
noncomputable def Try.pinned : Pinned := { name := "ytmgbaahihaknpaa", sum := "dc8cea79fc33840ee8b31a1e1cfa48ab78300bfb8466dc62fe298fc24a73ec56", checked := Try.checked }
namespace Rows
def none {H : Type} : Left H := { results := [], args := [] }

/-- 'laws.FnIndexes': WHATEVER THE INPUT: true; the input reads as it did. -/
def fnIndexesSpec : ChangeSpec := { name := "fnIndexes", fn := fun _ => fun
  | [d] => { results := [.lit (.bool true)], args := [d] }
  | _ => none }
def fnIndexesRow : OpenClaim := { program := "ytmgbaahihaknpaa", sum := "dc8cea79fc33840ee8b31a1e1cfa48ab78300bfb8466dc62fe298fc24a73ec56", func := "pub-orthodrome/laws.FnIndexes", spec := "fnIndexes", apart := false }
def FnIndexesSaid : Prop := fnIndexesRow.holds Try.pinned (OpenSpec.ofChange fnIndexesSpec)

/-- ITS FALSE NEIGHBOUR: 'it returns false'. Refute it at one input. -/
def fnIndexesWrong : ChangeSpec := { name := "fnIndexes", fn := fun _ => fun
  | [d] => { results := [.lit (.bool false)], args := [d] }
  | _ => none }
def FnIndexesWrongFalsely : Prop := fnIndexesRow.holds Try.pinned (OpenSpec.ofChange fnIndexesWrong)

/-- 'laws.FnCross2': WHATEVER THE INPUT: true; the input reads as it did. -/
def fnCross2Spec : ChangeSpec := { name := "fnCross2", fn := fun _ => fun
  | [d1, d2] => { results := [.lit (.bool true)], args := [d1, d2] }
  | _ => none }
def fnCross2Row : OpenClaim := { program := "ytmgbaahihaknpaa", sum := "dc8cea79fc33840ee8b31a1e1cfa48ab78300bfb8466dc62fe298fc24a73ec56", func := "pub-orthodrome/laws.FnCross2", spec := "fnCross2", inPlace := ["math.archTrunc", "math.Float64bits", "math.Float64frombits"], apart := false }
def FnCross2Said : Prop := fnCross2Row.holds Try.pinned (OpenSpec.ofChange fnCross2Spec)

/-- ITS FALSE NEIGHBOUR: 'it returns false'. Refute it at one input. -/
def fnCross2Wrong : ChangeSpec := { name := "fnCross2", fn := fun _ => fun
  | [d1, d2] => { results := [.lit (.bool false)], args := [d1, d2] }
  | _ => none }
def FnCross2WrongFalsely : Prop := fnCross2Row.holds Try.pinned (OpenSpec.ofChange fnCross2Wrong)

/-- 'laws.FnBoxMoved2': WHATEVER THE INPUT: true; the input reads as it did. -/
def fnBoxMoved2Spec : ChangeSpec := { name := "fnBoxMoved2", fn := fun _ => fun
  | [d1, d2, d3] => { results := [.lit (.bool true)], args := [d1, d2, d3] }
  | _ => none }
def fnBoxMoved2Row : OpenClaim := { program := "ytmgbaahihaknpaa", sum := "dc8cea79fc33840ee8b31a1e1cfa48ab78300bfb8466dc62fe298fc24a73ec56", func := "pub-orthodrome/laws.FnBoxMoved2", spec := "fnBoxMoved2", inPlace := ["math.archTrunc", "math.Float64bits", "math.Float64frombits"], apart := false }
def FnBoxMoved2Said : Prop := fnBoxMoved2Row.holds Try.pinned (OpenSpec.ofChange fnBoxMoved2Spec)

/-- ITS FALSE NEIGHBOUR: 'it returns false'. Refute it at one input. -/
def fnBoxMoved2Wrong : ChangeSpec := { name := "fnBoxMoved2", fn := fun _ => fun
  | [d1, d2, d3] => { results := [.lit (.bool false)], args := [d1, d2, d3] }
  | _ => none }
def FnBoxMoved2WrongFalsely : Prop := fnBoxMoved2Row.holds Try.pinned (OpenSpec.ofChange fnBoxMoved2Wrong)

/-- 'laws.FnBoxMoved3': WHATEVER THE INPUT: true; the input reads as it did. -/
def fnBoxMoved3Spec : ChangeSpec := { name := "fnBoxMoved3", fn := fun _ => fun
  | [d1, d2, d3] => { results := [.lit (.bool true)], args := [d1, d2, d3] }
  | _ => none }
def fnBoxMoved3Row : OpenClaim := { program := "ytmgbaahihaknpaa", sum := "dc8cea79fc33840ee8b31a1e1cfa48ab78300bfb8466dc62fe298fc24a73ec56", func := "pub-orthodrome/laws.FnBoxMoved3", spec := "fnBoxMoved3", inPlace := ["math.archTrunc", "math.Float64bits", "math.Float64frombits"], apart := false }
def FnBoxMoved3Said : Prop := fnBoxMoved3Row.holds Try.pinned (OpenSpec.ofChange fnBoxMoved3Spec)

/-- ITS FALSE NEIGHBOUR: 'it returns false'. Refute it at one input. -/
def fnBoxMoved3Wrong : ChangeSpec := { name := "fnBoxMoved3", fn := fun _ => fun
  | [d1, d2, d3] => { results := [.lit (.bool false)], args := [d1, d2, d3] }
  | _ => none }
def FnBoxMoved3WrongFalsely : Prop := fnBoxMoved3Row.holds Try.pinned (OpenSpec.ofChange fnBoxMoved3Wrong)

/-- 'laws.FnAdd2': WHATEVER THE INPUT: true; the input reads as it did. -/
def fnAdd2Spec : ChangeSpec := { name := "fnAdd2", fn := fun _ => fun
  | [d1, d2] => { results := [.lit (.bool true)], args := [d1, d2] }
  | _ => none }
def fnAdd2Row : OpenClaim := { program := "ytmgbaahihaknpaa", sum := "dc8cea79fc33840ee8b31a1e1cfa48ab78300bfb8466dc62fe298fc24a73ec56", func := "pub-orthodrome/laws.FnAdd2", spec := "fnAdd2", inPlace := ["math.archTrunc", "math.Float64bits", "math.Float64frombits"], apart := false }
def FnAdd2Said : Prop := fnAdd2Row.holds Try.pinned (OpenSpec.ofChange fnAdd2Spec)

/-- ITS FALSE NEIGHBOUR: 'it returns false'. Refute it at one input. -/
def fnAdd2Wrong : ChangeSpec := { name := "fnAdd2", fn := fun _ => fun
  | [d1, d2] => { results := [.lit (.bool false)], args := [d1, d2] }
  | _ => none }
def FnAdd2WrongFalsely : Prop := fnAdd2Row.holds Try.pinned (OpenSpec.ofChange fnAdd2Wrong)

/-- 'laws.FnAdd3': WHATEVER THE INPUT: true; the input reads as it did. -/
def fnAdd3Spec : ChangeSpec := { name := "fnAdd3", fn := fun _ => fun
  | [d1, d2] => { results := [.lit (.bool true)], args := [d1, d2] }
  | _ => none }
def fnAdd3Row : OpenClaim := { program := "ytmgbaahihaknpaa", sum := "dc8cea79fc33840ee8b31a1e1cfa48ab78300bfb8466dc62fe298fc24a73ec56", func := "pub-orthodrome/laws.FnAdd3", spec := "fnAdd3", inPlace := ["math.archTrunc", "math.Float64bits", "math.Float64frombits"], apart := false }
def FnAdd3Said : Prop := fnAdd3Row.holds Try.pinned (OpenSpec.ofChange fnAdd3Spec)

/-- ITS FALSE NEIGHBOUR: 'it returns false'. Refute it at one input. -/
def fnAdd3Wrong : ChangeSpec := { name := "fnAdd3", fn := fun _ => fun
  | [d1, d2] => { results := [.lit (.bool false)], args := [d1, d2] }
  | _ => none }
def FnAdd3WrongFalsely : Prop := fnAdd3Row.holds Try.pinned (OpenSpec.ofChange fnAdd3Wrong)

/- THE SECOND FORM. 'bulk': how many values and letters a reading holds, each counted each time it is reached (what is shared counts as often as it is met; a slice's spare places count too). A statement '..UptoSaid' is the law's where the arguments, and the package variables that the reading takes, are together of bulk at most 1048576: NARROWER than '..Said'. Prove '..Said' where nothing that the law and all that it calls make is longer than what came in: it says more and counts as full. Else prove '..UptoSaid'. A law counts once. -/
mutual
def uptoBulk {H : Type} : DataW H → Nat
  | .lit (.string bytes) => bytes.length + 1
  | .lit _ => 1
  | .nil => 1
  | .ptr d => uptoBulk d + 1
  | .slice elems spare => uptoBulkAll elems + uptoBulkAll spare + 1
  | .agg parts => uptoBulkAll parts + 1
  | .iface _ d => uptoBulk d + 1
  | .map entries => uptoBulkEntries entries + 1
  | .held _ => 1
def uptoBulkAll {H : Type} : List (DataW H) → Nat
  | [] => 0
  | d :: r => uptoBulk d + uptoBulkAll r
def uptoBulkEntries {H : Type} : List (Lit × DataW H) → Nat
  | [] => 0
  | x :: r => uptoBulkEntry x + uptoBulkEntries r
def uptoBulkEntry {H : Type} : Lit × DataW H → Nat
  | (.string bytes, d) => bytes.length + uptoBulk d + 1
  | (_, d) => uptoBulk d + 1
 end
def uptoSmall : (H : Type) → List (DataW H) → Bool := fun _ ds => decide (uptoBulkAll ds ≤ 1048576)
def OpenSpec.upto (s : _root_.Go.ChangeSpec) : _root_.Go.OpenSpec := { _root_.Go.OpenSpec.ofChange s with cond := some uptoSmall }

/-- 'laws.FnIndexes', WHERE WHAT IT READS IS OF BULK AT MOST 1048576: true; the input reads as it did. -/
def fnIndexesUptoRow : OpenClaim := { program := "ytmgbaahihaknpaa", sum := "dc8cea79fc33840ee8b31a1e1cfa48ab78300bfb8466dc62fe298fc24a73ec56", func := "pub-orthodrome/laws.FnIndexes", spec := "fnIndexes", apart := false, narrowed := true }
def FnIndexesUptoSaid : Prop := fnIndexesUptoRow.holds Try.pinned (OpenSpec.upto fnIndexesSpec)

/-- 'laws.FnCross2', WHERE WHAT IT READS IS OF BULK AT MOST 1048576: true; the input reads as it did. -/
def fnCross2UptoRow : OpenClaim := { program := "ytmgbaahihaknpaa", sum := "dc8cea79fc33840ee8b31a1e1cfa48ab78300bfb8466dc62fe298fc24a73ec56", func := "pub-orthodrome/laws.FnCross2", spec := "fnCross2", inPlace := ["math.archTrunc", "math.Float64bits", "math.Float64frombits"], apart := false, narrowed := true }
def FnCross2UptoSaid : Prop := fnCross2UptoRow.holds Try.pinned (OpenSpec.upto fnCross2Spec)

/-- 'laws.FnBoxMoved2', WHERE WHAT IT READS IS OF BULK AT MOST 1048576: true; the input reads as it did. -/
def fnBoxMoved2UptoRow : OpenClaim := { program := "ytmgbaahihaknpaa", sum := "dc8cea79fc33840ee8b31a1e1cfa48ab78300bfb8466dc62fe298fc24a73ec56", func := "pub-orthodrome/laws.FnBoxMoved2", spec := "fnBoxMoved2", inPlace := ["math.archTrunc", "math.Float64bits", "math.Float64frombits"], apart := false, narrowed := true }
def FnBoxMoved2UptoSaid : Prop := fnBoxMoved2UptoRow.holds Try.pinned (OpenSpec.upto fnBoxMoved2Spec)

/-- 'laws.FnBoxMoved3', WHERE WHAT IT READS IS OF BULK AT MOST 1048576: true; the input reads as it did. -/
def fnBoxMoved3UptoRow : OpenClaim := { program := "ytmgbaahihaknpaa", sum := "dc8cea79fc33840ee8b31a1e1cfa48ab78300bfb8466dc62fe298fc24a73ec56", func := "pub-orthodrome/laws.FnBoxMoved3", spec := "fnBoxMoved3", inPlace := ["math.archTrunc", "math.Float64bits", "math.Float64frombits"], apart := false, narrowed := true }
def FnBoxMoved3UptoSaid : Prop := fnBoxMoved3UptoRow.holds Try.pinned (OpenSpec.upto fnBoxMoved3Spec)

/-- 'laws.FnAdd2', WHERE WHAT IT READS IS OF BULK AT MOST 1048576: true; the input reads as it did. -/
def fnAdd2UptoRow : OpenClaim := { program := "ytmgbaahihaknpaa", sum := "dc8cea79fc33840ee8b31a1e1cfa48ab78300bfb8466dc62fe298fc24a73ec56", func := "pub-orthodrome/laws.FnAdd2", spec := "fnAdd2", inPlace := ["math.archTrunc", "math.Float64bits", "math.Float64frombits"], apart := false, narrowed := true }
def FnAdd2UptoSaid : Prop := fnAdd2UptoRow.holds Try.pinned (OpenSpec.upto fnAdd2Spec)

/-- 'laws.FnAdd3', WHERE WHAT IT READS IS OF BULK AT MOST 1048576: true; the input reads as it did. -/
def fnAdd3UptoRow : OpenClaim := { program := "ytmgbaahihaknpaa", sum := "dc8cea79fc33840ee8b31a1e1cfa48ab78300bfb8466dc62fe298fc24a73ec56", func := "pub-orthodrome/laws.FnAdd3", spec := "fnAdd3", inPlace := ["math.archTrunc", "math.Float64bits", "math.Float64frombits"], apart := false, narrowed := true }
def FnAdd3UptoSaid : Prop := fnAdd3UptoRow.holds Try.pinned (OpenSpec.upto fnAdd3Spec)

end Rows
end Go.Proofs.Ytmgbaahihaknpaa
