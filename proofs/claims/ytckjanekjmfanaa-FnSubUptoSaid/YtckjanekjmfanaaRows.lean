/-
  NARROWER THAN 'FOR EVERY INPUT', by the rows' own cells (each row's printed sentence says how): FnOrdinates: loops · FnSub: loops · FnLineCoords: loops · FnLayoutOf: loops · FnCoordPoint: loops · FnBounds: loops · FnAreaTurned: loops.
  DERIVED. THE GIVEN ROWS OF THIS SEAT. 9 by the template 'for every input the law returns true; each argument reads behind the call as it read before'; 0 by the template 'total and deterministic' (their statements: YtckjanekjmfanaaTotals.lean).
  GIVEN WITH THE SEED: the statements are not yours to turn. If you find one false, say at which input.
  Laid BY PROGRAM, IN A SANDBOX (cutbox-rows.mjs): the forced cells as the released guide's own fill.sh prints them over the translation 99f208d8ace56f75… (all of the seat's roots in one cut). By AI agents, Wed Nov 11 2026. No macro, syntax, notation, axiom, sorry.
-/
import Derived.Test.YtckjanekjmfanaaChecked
import GoSem.Claim
import GoSem.ClaimJoined
import GoSem.ClaimMapViews
import Derived.JoinedTies
import Derived.KernelRfl
namespace Go.Proofs.Ytckjanekjmfanaa
/- THE CELL 'sum', in the pinned program and in every row, IS THE sha256 OF THE DUMP (.gsa) THAT YtckjanekjmfanaaProg.lean LOADS. Nothing in Lean hashes anything: it is a label: what it is worth is what the hold of that sum in a sandbox is worth. -/
noncomputable def Try.pinned : Pinned := { name := "ytckjanekjmfanaa", sum := "99f208d8ace56f758d1b7fe811834477d524bf476b690c976816f3b1f813c529", checked := Try.checked }
namespace Rows
def none {H : Type} : Left H := { results := [], args := [] }

/-- 'laws.FnOrdinates': WHATEVER THE INPUT: true; the input reads as it did. -/
def fnOrdinatesSpec : ChangeSpec := { name := "fnOrdinates", fn := fun _ => fun
  | [d] => { results := [.lit (.bool true)], args := [d] }
  | _ => none }
def fnOrdinatesRow : OpenClaim := { program := "ytckjanekjmfanaa", sum := "99f208d8ace56f758d1b7fe811834477d524bf476b690c976816f3b1f813c529", func := "pub-orthodrome/laws.FnOrdinates", spec := "fnOrdinates", inPlace := ["math.Float64bits"], unfollowed := true, recurses := true, loops := true, apart := false }
def FnOrdinatesSaid : Prop := fnOrdinatesRow.holds Try.pinned (OpenSpec.ofChange fnOrdinatesSpec)

/-- ITS FALSE NEIGHBOUR: 'it returns false'. Refute it at one input. -/
def fnOrdinatesWrong : ChangeSpec := { name := "fnOrdinates", fn := fun _ => fun
  | [d] => { results := [.lit (.bool false)], args := [d] }
  | _ => none }
def FnOrdinatesWrongFalsely : Prop := fnOrdinatesRow.holds Try.pinned (OpenSpec.ofChange fnOrdinatesWrong)

/-- 'laws.FnSub': WHATEVER THE INPUT: true; the input reads as it did. -/
def fnSubSpec : ChangeSpec := { name := "fnSub", fn := fun _ => fun
  | [d1, d2, d3] => { results := [.lit (.bool true)], args := [d1, d2, d3] }
  | _ => none }
def fnSubRow : OpenClaim := { program := "ytckjanekjmfanaa", sum := "99f208d8ace56f758d1b7fe811834477d524bf476b690c976816f3b1f813c529", func := "pub-orthodrome/laws.FnSub", spec := "fnSub", inPlace := ["math.Float64bits"], unfollowed := true, recurses := true, loops := true, apart := false }
def FnSubSaid : Prop := fnSubRow.holds Try.pinned (OpenSpec.ofChange fnSubSpec)

/-- ITS FALSE NEIGHBOUR: 'it returns false'. Refute it at one input. -/
def fnSubWrong : ChangeSpec := { name := "fnSub", fn := fun _ => fun
  | [d1, d2, d3] => { results := [.lit (.bool false)], args := [d1, d2, d3] }
  | _ => none }
def FnSubWrongFalsely : Prop := fnSubRow.holds Try.pinned (OpenSpec.ofChange fnSubWrong)

/-- 'laws.FnLineCoords': WHATEVER THE INPUT: true; the input reads as it did. -/
def fnLineCoordsSpec : ChangeSpec := { name := "fnLineCoords", fn := fun _ => fun
  | [d] => { results := [.lit (.bool true)], args := [d] }
  | _ => none }
def fnLineCoordsRow : OpenClaim := { program := "ytckjanekjmfanaa", sum := "99f208d8ace56f758d1b7fe811834477d524bf476b690c976816f3b1f813c529", func := "pub-orthodrome/laws.FnLineCoords", spec := "fnLineCoords", inPlace := ["math.Float64bits"], unfollowed := true, recurses := true, loops := true, apart := false }
def FnLineCoordsSaid : Prop := fnLineCoordsRow.holds Try.pinned (OpenSpec.ofChange fnLineCoordsSpec)

/-- ITS FALSE NEIGHBOUR: 'it returns false'. Refute it at one input. -/
def fnLineCoordsWrong : ChangeSpec := { name := "fnLineCoords", fn := fun _ => fun
  | [d] => { results := [.lit (.bool false)], args := [d] }
  | _ => none }
def FnLineCoordsWrongFalsely : Prop := fnLineCoordsRow.holds Try.pinned (OpenSpec.ofChange fnLineCoordsWrong)

/-- 'laws.FnLayoutOf': WHATEVER THE INPUT: true; the input reads as it did. -/
def fnLayoutOfSpec : ChangeSpec := { name := "fnLayoutOf", fn := fun _ => fun
  | [d] => { results := [.lit (.bool true)], args := [d] }
  | _ => none }
def fnLayoutOfRow : OpenClaim := { program := "ytckjanekjmfanaa", sum := "99f208d8ace56f758d1b7fe811834477d524bf476b690c976816f3b1f813c529", func := "pub-orthodrome/laws.FnLayoutOf", spec := "fnLayoutOf", unfollowed := true, recurses := true, loops := true, apart := false }
def FnLayoutOfSaid : Prop := fnLayoutOfRow.holds Try.pinned (OpenSpec.ofChange fnLayoutOfSpec)

/-- ITS FALSE NEIGHBOUR: 'it returns false'. Refute it at one input. -/
def fnLayoutOfWrong : ChangeSpec := { name := "fnLayoutOf", fn := fun _ => fun
  | [d] => { results := [.lit (.bool false)], args := [d] }
  | _ => none }
def FnLayoutOfWrongFalsely : Prop := fnLayoutOfRow.holds Try.pinned (OpenSpec.ofChange fnLayoutOfWrong)

/-- 'laws.FnCoordPoint': WHATEVER THE INPUT: true; the input reads as it did. -/
def fnCoordPointSpec : ChangeSpec := { name := "fnCoordPoint", fn := fun _ => fun
  | [d1, d2] => { results := [.lit (.bool true)], args := [d1, d2] }
  | _ => none }
def fnCoordPointRow : OpenClaim := { program := "ytckjanekjmfanaa", sum := "99f208d8ace56f758d1b7fe811834477d524bf476b690c976816f3b1f813c529", func := "pub-orthodrome/laws.FnCoordPoint", spec := "fnCoordPoint", inPlace := ["math.Float64bits"], unfollowed := true, recurses := true, loops := true, apart := false }
def FnCoordPointSaid : Prop := fnCoordPointRow.holds Try.pinned (OpenSpec.ofChange fnCoordPointSpec)

/-- ITS FALSE NEIGHBOUR: 'it returns false'. Refute it at one input. -/
def fnCoordPointWrong : ChangeSpec := { name := "fnCoordPoint", fn := fun _ => fun
  | [d1, d2] => { results := [.lit (.bool false)], args := [d1, d2] }
  | _ => none }
def FnCoordPointWrongFalsely : Prop := fnCoordPointRow.holds Try.pinned (OpenSpec.ofChange fnCoordPointWrong)

/-- 'laws.FnSetLines': WHATEVER THE INPUT: true; the input reads as it did. -/
def fnSetLinesSpec : ChangeSpec := { name := "fnSetLines", fn := fun _ => fun
  | [d1, d2, d3] => { results := [.lit (.bool true)], args := [d1, d2, d3] }
  | _ => none }
def fnSetLinesRow : OpenClaim := { program := "ytckjanekjmfanaa", sum := "99f208d8ace56f758d1b7fe811834477d524bf476b690c976816f3b1f813c529", func := "pub-orthodrome/laws.FnSetLines", spec := "fnSetLines", inPlace := ["math.Float64bits"], unfollowed := true, recurses := true, apart := false }
def FnSetLinesSaid : Prop := fnSetLinesRow.holds Try.pinned (OpenSpec.ofChange fnSetLinesSpec)

/-- ITS FALSE NEIGHBOUR: 'it returns false'. Refute it at one input. -/
def fnSetLinesWrong : ChangeSpec := { name := "fnSetLines", fn := fun _ => fun
  | [d1, d2, d3] => { results := [.lit (.bool false)], args := [d1, d2, d3] }
  | _ => none }
def FnSetLinesWrongFalsely : Prop := fnSetLinesRow.holds Try.pinned (OpenSpec.ofChange fnSetLinesWrong)

/-- 'laws.FnBounds': WHATEVER THE INPUT: true; the input reads as it did. -/
def fnBoundsSpec : ChangeSpec := { name := "fnBounds", fn := fun _ => fun
  | [d] => { results := [.lit (.bool true)], args := [d] }
  | _ => none }
def fnBoundsRow : OpenClaim := { program := "ytckjanekjmfanaa", sum := "99f208d8ace56f758d1b7fe811834477d524bf476b690c976816f3b1f813c529", func := "pub-orthodrome/laws.FnBounds", spec := "fnBounds", inPlace := ["math.Float64frombits"], unfollowed := true, recurses := true, loops := true, apart := false }
def FnBoundsSaid : Prop := fnBoundsRow.holds Try.pinned (OpenSpec.ofChange fnBoundsSpec)

/-- ITS FALSE NEIGHBOUR: 'it returns false'. Refute it at one input. -/
def fnBoundsWrong : ChangeSpec := { name := "fnBounds", fn := fun _ => fun
  | [d] => { results := [.lit (.bool false)], args := [d] }
  | _ => none }
def FnBoundsWrongFalsely : Prop := fnBoundsRow.holds Try.pinned (OpenSpec.ofChange fnBoundsWrong)

/-- 'laws.FnAreaTurned': WHATEVER THE INPUT: true; the input reads as it did. -/
def fnAreaTurnedSpec : ChangeSpec := { name := "fnAreaTurned", fn := fun _ => fun
  | [d] => { results := [.lit (.bool true)], args := [d] }
  | _ => none }
def fnAreaTurnedRow : OpenClaim := { program := "ytckjanekjmfanaa", sum := "99f208d8ace56f758d1b7fe811834477d524bf476b690c976816f3b1f813c529", func := "pub-orthodrome/laws.FnAreaTurned", spec := "fnAreaTurned", inPlace := ["math.archTrunc", "math.Float64bits", "math.Float64frombits"], unfollowed := true, recurses := true, loops := true, apart := false }
def FnAreaTurnedSaid : Prop := fnAreaTurnedRow.holds Try.pinned (OpenSpec.ofChange fnAreaTurnedSpec)

/-- ITS FALSE NEIGHBOUR: 'it returns false'. Refute it at one input. -/
def fnAreaTurnedWrong : ChangeSpec := { name := "fnAreaTurned", fn := fun _ => fun
  | [d] => { results := [.lit (.bool false)], args := [d] }
  | _ => none }
def FnAreaTurnedWrongFalsely : Prop := fnAreaTurnedRow.holds Try.pinned (OpenSpec.ofChange fnAreaTurnedWrong)

/-- 'laws.FnUnique': WHATEVER THE INPUT: true; the input reads as it did. -/
def fnUniqueSpec : ChangeSpec := { name := "fnUnique", fn := fun _ => fun
  | [d1, d2, d3] => { results := [.lit (.bool true)], args := [d1, d2, d3] }
  | _ => none }
def fnUniqueRow : OpenClaim := { program := "ytckjanekjmfanaa", sum := "99f208d8ace56f758d1b7fe811834477d524bf476b690c976816f3b1f813c529", func := "pub-orthodrome/laws.FnUnique", spec := "fnUnique", inPlace := ["math.Float64bits"], unfollowed := true, recurses := true, apart := false }
def FnUniqueSaid : Prop := fnUniqueRow.holds Try.pinned (OpenSpec.ofChange fnUniqueSpec)

/-- ITS FALSE NEIGHBOUR: 'it returns false'. Refute it at one input. -/
def fnUniqueWrong : ChangeSpec := { name := "fnUnique", fn := fun _ => fun
  | [d1, d2, d3] => { results := [.lit (.bool false)], args := [d1, d2, d3] }
  | _ => none }
def FnUniqueWrongFalsely : Prop := fnUniqueRow.holds Try.pinned (OpenSpec.ofChange fnUniqueWrong)

/- THE SECOND FORM. 'bulk': how many values and letters a reading holds, each counted each time it is reached (what is shared counts as often as it is met; a slice's spare places count too). A statement '..UptoSaid' is the law's where the arguments, and the package variables that the reading takes, are together of bulk at most 1048576: NARROWER than '..Said'. Prove '..Said' where nothing that the law and all that it calls make is longer than what came in: it says more and counts as full. Else prove '..UptoSaid'. A law counts once. -/
mutual
def uptoBulk {H : Type} : DataW H → Nat
  | .lit (.string bytes) => bytes.length + 1
  | .lit _ => 1
  | .nil => 1
  | .ptr d => uptoBulk d + 1
  | .slice elems spare => uptoBulkAll elems + uptoBulkAll spare + 1
  | .agg parts => uptoBulkAll parts + 1
  | .iface _ d => uptoBulk d + 1
  | .map entries => uptoBulkEntries entries + 1
  | .held _ => 1
def uptoBulkAll {H : Type} : List (DataW H) → Nat
  | [] => 0
  | d :: r => uptoBulk d + uptoBulkAll r
def uptoBulkEntries {H : Type} : List (Lit × DataW H) → Nat
  | [] => 0
  | x :: r => uptoBulkEntry x + uptoBulkEntries r
def uptoBulkEntry {H : Type} : Lit × DataW H → Nat
  | (.string bytes, d) => bytes.length + uptoBulk d + 1
  | (_, d) => uptoBulk d + 1
 end
def uptoSmall : (H : Type) → List (DataW H) → Bool := fun _ ds => decide (uptoBulkAll ds ≤ 1048576)
def OpenSpec.upto (s : _root_.Go.ChangeSpec) : _root_.Go.OpenSpec := { _root_.Go.OpenSpec.ofChange s with cond := some uptoSmall }

/-- 'laws.FnOrdinates', WHERE WHAT IT READS IS OF BULK AT MOST 1048576: true; the input reads as it did. -/
def fnOrdinatesUptoRow : OpenClaim := { program := "ytckjanekjmfanaa", sum := "99f208d8ace56f758d1b7fe811834477d524bf476b690c976816f3b1f813c529", func := "pub-orthodrome/laws.FnOrdinates", spec := "fnOrdinates", inPlace := ["math.Float64bits"], unfollowed := true, recurses := true, loops := true, apart := false, narrowed := true }
def FnOrdinatesUptoSaid : Prop := fnOrdinatesUptoRow.holds Try.pinned (OpenSpec.upto fnOrdinatesSpec)

/-- 'laws.FnSub', WHERE WHAT IT READS IS OF BULK AT MOST 1048576: true; the input reads as it did. -/
def fnSubUptoRow : OpenClaim := { program := "ytckjanekjmfanaa", sum := "99f208d8ace56f758d1b7fe811834477d524bf476b690c976816f3b1f813c529", func := "pub-orthodrome/laws.FnSub", spec := "fnSub", inPlace := ["math.Float64bits"], unfollowed := true, recurses := true, loops := true, apart := false, narrowed := true }
def FnSubUptoSaid : Prop := fnSubUptoRow.holds Try.pinned (OpenSpec.upto fnSubSpec)

/-- 'laws.FnLineCoords', WHERE WHAT IT READS IS OF BULK AT MOST 1048576: true; the input reads as it did. -/
def fnLineCoordsUptoRow : OpenClaim := { program := "ytckjanekjmfanaa", sum := "99f208d8ace56f758d1b7fe811834477d524bf476b690c976816f3b1f813c529", func := "pub-orthodrome/laws.FnLineCoords", spec := "fnLineCoords", inPlace := ["math.Float64bits"], unfollowed := true, recurses := true, loops := true, apart := false, narrowed := true }
def FnLineCoordsUptoSaid : Prop := fnLineCoordsUptoRow.holds Try.pinned (OpenSpec.upto fnLineCoordsSpec)

/-- 'laws.FnLayoutOf', WHERE WHAT IT READS IS OF BULK AT MOST 1048576: true; the input reads as it did. -/
def fnLayoutOfUptoRow : OpenClaim := { program := "ytckjanekjmfanaa", sum := "99f208d8ace56f758d1b7fe811834477d524bf476b690c976816f3b1f813c529", func := "pub-orthodrome/laws.FnLayoutOf", spec := "fnLayoutOf", unfollowed := true, recurses := true, loops := true, apart := false, narrowed := true }
def FnLayoutOfUptoSaid : Prop := fnLayoutOfUptoRow.holds Try.pinned (OpenSpec.upto fnLayoutOfSpec)

/-- 'laws.FnCoordPoint', WHERE WHAT IT READS IS OF BULK AT MOST 1048576: true; the input reads as it did. -/
def fnCoordPointUptoRow : OpenClaim := { program := "ytckjanekjmfanaa", sum := "99f208d8ace56f758d1b7fe811834477d524bf476b690c976816f3b1f813c529", func := "pub-orthodrome/laws.FnCoordPoint", spec := "fnCoordPoint", inPlace := ["math.Float64bits"], unfollowed := true, recurses := true, loops := true, apart := false, narrowed := true }
def FnCoordPointUptoSaid : Prop := fnCoordPointUptoRow.holds Try.pinned (OpenSpec.upto fnCoordPointSpec)

/-- 'laws.FnSetLines', WHERE WHAT IT READS IS OF BULK AT MOST 1048576: true; the input reads as it did. -/
def fnSetLinesUptoRow : OpenClaim := { program := "ytckjanekjmfanaa", sum := "99f208d8ace56f758d1b7fe811834477d524bf476b690c976816f3b1f813c529", func := "pub-orthodrome/laws.FnSetLines", spec := "fnSetLines", inPlace := ["math.Float64bits"], unfollowed := true, recurses := true, apart := false, narrowed := true }
def FnSetLinesUptoSaid : Prop := fnSetLinesUptoRow.holds Try.pinned (OpenSpec.upto fnSetLinesSpec)

/-- 'laws.FnBounds', WHERE WHAT IT READS IS OF BULK AT MOST 1048576: true; the input reads as it did. -/
def fnBoundsUptoRow : OpenClaim := { program := "ytckjanekjmfanaa", sum := "99f208d8ace56f758d1b7fe811834477d524bf476b690c976816f3b1f813c529", func := "pub-orthodrome/laws.FnBounds", spec := "fnBounds", inPlace := ["math.Float64frombits"], unfollowed := true, recurses := true, loops := true, apart := false, narrowed := true }
def FnBoundsUptoSaid : Prop := fnBoundsUptoRow.holds Try.pinned (OpenSpec.upto fnBoundsSpec)

/-- 'laws.FnAreaTurned', WHERE WHAT IT READS IS OF BULK AT MOST 1048576: true; the input reads as it did. -/
def fnAreaTurnedUptoRow : OpenClaim := { program := "ytckjanekjmfanaa", sum := "99f208d8ace56f758d1b7fe811834477d524bf476b690c976816f3b1f813c529", func := "pub-orthodrome/laws.FnAreaTurned", spec := "fnAreaTurned", inPlace := ["math.archTrunc", "math.Float64bits", "math.Float64frombits"], unfollowed := true, recurses := true, loops := true, apart := false, narrowed := true }
def FnAreaTurnedUptoSaid : Prop := fnAreaTurnedUptoRow.holds Try.pinned (OpenSpec.upto fnAreaTurnedSpec)

/-- 'laws.FnUnique', WHERE WHAT IT READS IS OF BULK AT MOST 1048576: true; the input reads as it did. -/
def fnUniqueUptoRow : OpenClaim := { program := "ytckjanekjmfanaa", sum := "99f208d8ace56f758d1b7fe811834477d524bf476b690c976816f3b1f813c529", func := "pub-orthodrome/laws.FnUnique", spec := "fnUnique", inPlace := ["math.Float64bits"], unfollowed := true, recurses := true, apart := false, narrowed := true }
def FnUniqueUptoSaid : Prop := fnUniqueUptoRow.holds Try.pinned (OpenSpec.upto fnUniqueSpec)

end Rows
end Go.Proofs.Ytckjanekjmfanaa
