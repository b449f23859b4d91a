/-
  NARROWER THAN 'FOR EVERY INPUT', by the rows' own cells (each row's printed sentence says how): FnLineCoords: loops · FnCoordPoint: loops.
  DERIVED. THE GIVEN ROWS OF THIS SEAT. 2 by the template 'for every input the law returns true; each argument reads behind the call as it read before'; 0 by the template 'total and deterministic' (their statements: YtgjbnfkinckpmaaTotals.lean).
  GIVEN WITH THE SEED: the statements are not yours to turn. If you find one false, say at which input.
  Laid BY PROGRAM, IN A SANDBOX (cutbox-rows.mjs): the forced cells as the released guide's own fill.sh prints them over the translation fafd79430d11b93b… (all of the seat's roots in one cut). By AI agents, Wed Nov 11 2026. No macro, syntax, notation, axiom, sorry.
-/
import Derived.Test.YtgjbnfkinckpmaaChecked
import GoSem.Claim
import GoSem.ClaimJoined
import GoSem.ClaimMapViews
import Derived.JoinedTies
import Derived.KernelRfl
namespace Go.Proofs.Ytgjbnfkinckpmaa
/- THE CELL 'sum', in the pinned program and in every row, IS THE sha256 OF THE DUMP (.gsa) THAT YtgjbnfkinckpmaaProg.lean LOADS. Nothing in Lean hashes anything: it is a label: what it is worth is what the hold of that sum in a sandbox is worth. -/
noncomputable def Try.pinned : Pinned := { name := "ytgjbnfkinckpmaa", sum := "fafd79430d11b93bcbece8789ec7308003d362eb748832417749aa0193d46536", checked := Try.checked }
namespace Rows
def none {H : Type} : Left H := { results := [], args := [] }

/-- 'laws.FnLineCoords': WHATEVER THE INPUT: true; the input reads as it did. -/
def fnLineCoordsSpec : ChangeSpec := { name := "fnLineCoords", fn := fun _ => fun
  | [d] => { results := [.lit (.bool true)], args := [d] }
  | _ => none }
def fnLineCoordsRow : OpenClaim := { program := "ytgjbnfkinckpmaa", sum := "fafd79430d11b93bcbece8789ec7308003d362eb748832417749aa0193d46536", func := "pub-orthodrome/laws.FnLineCoords", spec := "fnLineCoords", inPlace := ["math.Float64bits"], unfollowed := true, recurses := true, loops := true, apart := false }
def FnLineCoordsSaid : Prop := fnLineCoordsRow.holds Try.pinned (OpenSpec.ofChange fnLineCoordsSpec)

/-- ITS FALSE NEIGHBOUR: 'it returns false'. Refute it at one input. -/
def fnLineCoordsWrong : ChangeSpec := { name := "fnLineCoords", fn := fun _ => fun
  | [d] => { results := [.lit (.bool false)], args := [d] }
  | _ => none }
def FnLineCoordsWrongFalsely : Prop := fnLineCoordsRow.holds Try.pinned (OpenSpec.ofChange fnLineCoordsWrong)

/-- 'laws.FnCoordPoint': WHATEVER THE INPUT: true; the input reads as it did. -/
def fnCoordPointSpec : ChangeSpec := { name := "fnCoordPoint", fn := fun _ => fun
  | [d1, d2] => { results := [.lit (.bool true)], args := [d1, d2] }
  | _ => none }
def fnCoordPointRow : OpenClaim := { program := "ytgjbnfkinckpmaa", sum := "fafd79430d11b93bcbece8789ec7308003d362eb748832417749aa0193d46536", func := "pub-orthodrome/laws.FnCoordPoint", spec := "fnCoordPoint", inPlace := ["math.Float64bits"], unfollowed := true, recurses := true, loops := true, apart := false }
def FnCoordPointSaid : Prop := fnCoordPointRow.holds Try.pinned (OpenSpec.ofChange fnCoordPointSpec)

/-- ITS FALSE NEIGHBOUR: 'it returns false'. Refute it at one input. -/
def fnCoordPointWrong : ChangeSpec := { name := "fnCoordPoint", fn := fun _ => fun
  | [d1, d2] => { results := [.lit (.bool false)], args := [d1, d2] }
  | _ => none }
def FnCoordPointWrongFalsely : Prop := fnCoordPointRow.holds Try.pinned (OpenSpec.ofChange fnCoordPointWrong)

/- THE SECOND FORM. 'bulk': how many values and letters a reading holds, each counted each time it is reached (what is shared counts as often as it is met; a slice's spare places count too). A statement '..UptoSaid' is the law's where the arguments, and the package variables that the reading takes, are together of bulk at most 1048576: NARROWER than '..Said'. Prove '..Said' where nothing that the law and all that it calls make is longer than what came in: it says more and counts as full. Else prove '..UptoSaid'. A law counts once. -/
mutual
def uptoBulk {H : Type} : DataW H → Nat
  | .lit (.string bytes) => bytes.length + 1
  | .lit _ => 1
  | .nil => 1
  | .ptr d => uptoBulk d + 1
  | .slice elems spare => uptoBulkAll elems + uptoBulkAll spare + 1
  | .agg parts => uptoBulkAll parts + 1
  | .iface _ d => uptoBulk d + 1
  | .map entries => uptoBulkEntries entries + 1
  | .held _ => 1
def uptoBulkAll {H : Type} : List (DataW H) → Nat
  | [] => 0
  | d :: r => uptoBulk d + uptoBulkAll r
def uptoBulkEntries {H : Type} : List (Lit × DataW H) → Nat
  | [] => 0
  | x :: r => uptoBulkEntry x + uptoBulkEntries r
def uptoBulkEntry {H : Type} : Lit × DataW H → Nat
  | (.string bytes, d) => bytes.length + uptoBulk d + 1
  | (_, d) => uptoBulk d + 1
 end
def uptoSmall : (H : Type) → List (DataW H) → Bool := fun _ ds => decide (uptoBulkAll ds ≤ 1048576)
def OpenSpec.upto (s : _root_.Go.ChangeSpec) : _root_.Go.OpenSpec := { _root_.Go.OpenSpec.ofChange s with cond := some uptoSmall }

/-- 'laws.FnLineCoords', WHERE WHAT IT READS IS OF BULK AT MOST 1048576: true; the input reads as it did. -/
def fnLineCoordsUptoRow : OpenClaim := { program := "ytgjbnfkinckpmaa", sum := "fafd79430d11b93bcbece8789ec7308003d362eb748832417749aa0193d46536", func := "pub-orthodrome/laws.FnLineCoords", spec := "fnLineCoords", inPlace := ["math.Float64bits"], unfollowed := true, recurses := true, loops := true, apart := false, narrowed := true }
def FnLineCoordsUptoSaid : Prop := fnLineCoordsUptoRow.holds Try.pinned (OpenSpec.upto fnLineCoordsSpec)

/-- 'laws.FnCoordPoint', WHERE WHAT IT READS IS OF BULK AT MOST 1048576: true; the input reads as it did. -/
def fnCoordPointUptoRow : OpenClaim := { program := "ytgjbnfkinckpmaa", sum := "fafd79430d11b93bcbece8789ec7308003d362eb748832417749aa0193d46536", func := "pub-orthodrome/laws.FnCoordPoint", spec := "fnCoordPoint", inPlace := ["math.Float64bits"], unfollowed := true, recurses := true, loops := true, apart := false, narrowed := true }
def FnCoordPointUptoSaid : Prop := fnCoordPointUptoRow.holds Try.pinned (OpenSpec.upto fnCoordPointSpec)

end Rows
end Go.Proofs.Ytgjbnfkinckpmaa
