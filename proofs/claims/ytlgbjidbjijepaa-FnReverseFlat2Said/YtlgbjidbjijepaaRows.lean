/-
  No cell of these rows narrows 'for every input' (looked for: loops, veiled, ifaces, maps, wideKeys, modest, calm, conditions, laid).
  DERIVED. THE GIVEN ROWS OF THIS SEAT. 4 by the template 'for every input the law returns true; each argument reads behind the call as it read before'; 0 by the template 'total and deterministic' (their statements: YtlgbjidbjijepaaTotals.lean).
  GIVEN WITH THE SEED: the statements are not yours to turn. If you find one false, say at which input.
  Laid BY PROGRAM, IN A SANDBOX (cutbox-rows.mjs): the forced cells as the released guide's own fill.sh prints them over the translation a82610c5a40dd39b… (all of the seat's roots in one cut). By AI agents, Wed Nov 11 2026. No macro, syntax, notation, axiom, sorry.
-/
import Derived.Test.YtlgbjidbjijepaaChecked
import GoSem.Claim
import GoSem.ClaimJoined
import GoSem.ClaimMapViews
import Derived.JoinedTies
import Derived.KernelRfl
namespace Go.Proofs.Ytlgbjidbjijepaa
/- THE CELL 'sum', in the pinned program and in every row, IS THE sha256 OF THE DUMP (.gsa) THAT YtlgbjidbjijepaaProg.lean LOADS. Nothing in Lean hashes anything: it is a label: what it is worth is what the hold of that sum in a sandbox is worth. -/
noncomputable def Try.pinned : Pinned := { name := "ytlgbjidbjijepaa", sum := "a82610c5a40dd39b8f00bbbe43b62aa4e9d34ad5027a7994d4a2faa37c555513", checked := Try.checked }
namespace Rows
def none {H : Type} : Left H := { results := [], args := [] }

/-- 'laws.FnReverseFlat2': WHATEVER THE INPUT: true; the input reads as it did. -/
def fnReverseFlat2Spec : ChangeSpec := { name := "fnReverseFlat2", fn := fun _ => fun
  | [d1, d2, d3] => { results := [.lit (.bool true)], args := [d1, d2, d3] }
  | _ => none }
def fnReverseFlat2Row : OpenClaim := { program := "ytlgbjidbjijepaa", sum := "a82610c5a40dd39b8f00bbbe43b62aa4e9d34ad5027a7994d4a2faa37c555513", func := "pub-orthodrome/laws.FnReverseFlat2", spec := "fnReverseFlat2", inPlace := ["math.Float64bits"], unfollowed := true, recurses := true, apart := false }
def FnReverseFlat2Said : Prop := fnReverseFlat2Row.holds Try.pinned (OpenSpec.ofChange fnReverseFlat2Spec)

/-- ITS FALSE NEIGHBOUR: 'it returns false'. Refute it at one input. -/
def fnReverseFlat2Wrong : ChangeSpec := { name := "fnReverseFlat2", fn := fun _ => fun
  | [d1, d2, d3] => { results := [.lit (.bool false)], args := [d1, d2, d3] }
  | _ => none }
def FnReverseFlat2WrongFalsely : Prop := fnReverseFlat2Row.holds Try.pinned (OpenSpec.ofChange fnReverseFlat2Wrong)

/-- 'laws.FnInflate1': WHATEVER THE INPUT: true; the input reads as it did. -/
def fnInflate1Spec : ChangeSpec := { name := "fnInflate1", fn := fun _ => fun
  | [d1, d2] => { results := [.lit (.bool true)], args := [d1, d2] }
  | _ => none }
def fnInflate1Row : OpenClaim := { program := "ytlgbjidbjijepaa", sum := "a82610c5a40dd39b8f00bbbe43b62aa4e9d34ad5027a7994d4a2faa37c555513", func := "pub-orthodrome/laws.FnInflate1", spec := "fnInflate1", inPlace := ["math.Float64bits"], unfollowed := true, recurses := true, apart := false }
def FnInflate1Said : Prop := fnInflate1Row.holds Try.pinned (OpenSpec.ofChange fnInflate1Spec)

/-- ITS FALSE NEIGHBOUR: 'it returns false'. Refute it at one input. -/
def fnInflate1Wrong : ChangeSpec := { name := "fnInflate1", fn := fun _ => fun
  | [d1, d2] => { results := [.lit (.bool false)], args := [d1, d2] }
  | _ => none }
def FnInflate1WrongFalsely : Prop := fnInflate1Row.holds Try.pinned (OpenSpec.ofChange fnInflate1Wrong)

/-- 'laws.FnIsAcute': WHATEVER THE INPUT: true; the input reads as it did. -/
def fnIsAcuteSpec : ChangeSpec := { name := "fnIsAcute", fn := fun _ => fun
  | [d1, d2, d3] => { results := [.lit (.bool true)], args := [d1, d2, d3] }
  | _ => none }
def fnIsAcuteRow : OpenClaim := { program := "ytlgbjidbjijepaa", sum := "a82610c5a40dd39b8f00bbbe43b62aa4e9d34ad5027a7994d4a2faa37c555513", func := "pub-orthodrome/laws.FnIsAcute", spec := "fnIsAcute", inPlace := ["math.archTrunc", "math.Float64bits", "math.Float64frombits"], apart := false }
def FnIsAcuteSaid : Prop := fnIsAcuteRow.holds Try.pinned (OpenSpec.ofChange fnIsAcuteSpec)

/-- ITS FALSE NEIGHBOUR: 'it returns false'. Refute it at one input. -/
def fnIsAcuteWrong : ChangeSpec := { name := "fnIsAcute", fn := fun _ => fun
  | [d1, d2, d3] => { results := [.lit (.bool false)], args := [d1, d2, d3] }
  | _ => none }
def FnIsAcuteWrongFalsely : Prop := fnIsAcuteRow.holds Try.pinned (OpenSpec.ofChange fnIsAcuteWrong)

/-- 'laws.FnBoxesOverlap': WHATEVER THE INPUT: true; the input reads as it did. -/
def fnBoxesOverlapSpec : ChangeSpec := { name := "fnBoxesOverlap", fn := fun _ => fun
  | [d1, d2, d3, d4] => { results := [.lit (.bool true)], args := [d1, d2, d3, d4] }
  | _ => none }
def fnBoxesOverlapRow : OpenClaim := { program := "ytlgbjidbjijepaa", sum := "a82610c5a40dd39b8f00bbbe43b62aa4e9d34ad5027a7994d4a2faa37c555513", func := "pub-orthodrome/laws.FnBoxesOverlap", spec := "fnBoxesOverlap", inPlace := ["math.archMin", "math.Float64bits", "math.Float64frombits", "math.archMax"], apart := false }
def FnBoxesOverlapSaid : Prop := fnBoxesOverlapRow.holds Try.pinned (OpenSpec.ofChange fnBoxesOverlapSpec)

/-- ITS FALSE NEIGHBOUR: 'it returns false'. Refute it at one input. -/
def fnBoxesOverlapWrong : ChangeSpec := { name := "fnBoxesOverlap", fn := fun _ => fun
  | [d1, d2, d3, d4] => { results := [.lit (.bool false)], args := [d1, d2, d3, d4] }
  | _ => none }
def FnBoxesOverlapWrongFalsely : Prop := fnBoxesOverlapRow.holds Try.pinned (OpenSpec.ofChange fnBoxesOverlapWrong)

/- THE SECOND FORM. 'bulk': how many values and letters a reading holds, each counted each time it is reached (what is shared counts as often as it is met; a slice's spare places count too). A statement '..UptoSaid' is the law's where the arguments, and the package variables that the reading takes, are together of bulk at most 1048576: NARROWER than '..Said'. Prove '..Said' where nothing that the law and all that it calls make is longer than what came in: it says more and counts as full. Else prove '..UptoSaid'. A law counts once. -/
mutual
def uptoBulk {H : Type} : DataW H → Nat
  | .lit (.string bytes) => bytes.length + 1
  | .lit _ => 1
  | .nil => 1
  | .ptr d => uptoBulk d + 1
  | .slice elems spare => uptoBulkAll elems + uptoBulkAll spare + 1
  | .agg parts => uptoBulkAll parts + 1
  | .iface _ d => uptoBulk d + 1
  | .map entries => uptoBulkEntries entries + 1
  | .held _ => 1
def uptoBulkAll {H : Type} : List (DataW H) → Nat
  | [] => 0
  | d :: r => uptoBulk d + uptoBulkAll r
def uptoBulkEntries {H : Type} : List (Lit × DataW H) → Nat
  | [] => 0
  | x :: r => uptoBulkEntry x + uptoBulkEntries r
def uptoBulkEntry {H : Type} : Lit × DataW H → Nat
  | (.string bytes, d) => bytes.length + uptoBulk d + 1
  | (_, d) => uptoBulk d + 1
 end
def uptoSmall : (H : Type) → List (DataW H) → Bool := fun _ ds => decide (uptoBulkAll ds ≤ 1048576)
def OpenSpec.upto (s : _root_.Go.ChangeSpec) : _root_.Go.OpenSpec := { _root_.Go.OpenSpec.ofChange s with cond := some uptoSmall }

/-- 'laws.FnReverseFlat2', WHERE WHAT IT READS IS OF BULK AT MOST 1048576: true; the input reads as it did. -/
def fnReverseFlat2UptoRow : OpenClaim := { program := "ytlgbjidbjijepaa", sum := "a82610c5a40dd39b8f00bbbe43b62aa4e9d34ad5027a7994d4a2faa37c555513", func := "pub-orthodrome/laws.FnReverseFlat2", spec := "fnReverseFlat2", inPlace := ["math.Float64bits"], unfollowed := true, recurses := true, apart := false, narrowed := true }
def FnReverseFlat2UptoSaid : Prop := fnReverseFlat2UptoRow.holds Try.pinned (OpenSpec.upto fnReverseFlat2Spec)

/-- 'laws.FnInflate1', WHERE WHAT IT READS IS OF BULK AT MOST 1048576: true; the input reads as it did. -/
def fnInflate1UptoRow : OpenClaim := { program := "ytlgbjidbjijepaa", sum := "a82610c5a40dd39b8f00bbbe43b62aa4e9d34ad5027a7994d4a2faa37c555513", func := "pub-orthodrome/laws.FnInflate1", spec := "fnInflate1", inPlace := ["math.Float64bits"], unfollowed := true, recurses := true, apart := false, narrowed := true }
def FnInflate1UptoSaid : Prop := fnInflate1UptoRow.holds Try.pinned (OpenSpec.upto fnInflate1Spec)

/-- 'laws.FnIsAcute', WHERE WHAT IT READS IS OF BULK AT MOST 1048576: true; the input reads as it did. -/
def fnIsAcuteUptoRow : OpenClaim := { program := "ytlgbjidbjijepaa", sum := "a82610c5a40dd39b8f00bbbe43b62aa4e9d34ad5027a7994d4a2faa37c555513", func := "pub-orthodrome/laws.FnIsAcute", spec := "fnIsAcute", inPlace := ["math.archTrunc", "math.Float64bits", "math.Float64frombits"], apart := false, narrowed := true }
def FnIsAcuteUptoSaid : Prop := fnIsAcuteUptoRow.holds Try.pinned (OpenSpec.upto fnIsAcuteSpec)

/-- 'laws.FnBoxesOverlap', WHERE WHAT IT READS IS OF BULK AT MOST 1048576: true; the input reads as it did. -/
def fnBoxesOverlapUptoRow : OpenClaim := { program := "ytlgbjidbjijepaa", sum := "a82610c5a40dd39b8f00bbbe43b62aa4e9d34ad5027a7994d4a2faa37c555513", func := "pub-orthodrome/laws.FnBoxesOverlap", spec := "fnBoxesOverlap", inPlace := ["math.archMin", "math.Float64bits", "math.Float64frombits", "math.archMax"], apart := false, narrowed := true }
def FnBoxesOverlapUptoSaid : Prop := fnBoxesOverlapUptoRow.holds Try.pinned (OpenSpec.upto fnBoxesOverlapSpec)

end Rows
end Go.Proofs.Ytlgbjidbjijepaa
