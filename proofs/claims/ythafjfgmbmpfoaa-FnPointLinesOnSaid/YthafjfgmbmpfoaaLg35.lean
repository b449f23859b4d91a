/-
  A slice of pairs of floats, as an argument. No conditions.
-/
import Derived.Test.YthafjfgmbmpfoaaLg17
set_option linter.unusedVariables false
set_option linter.unusedSimpArgs false
namespace Go.Lg
open Go.ChangeShapes Go.WideShapes Go.RowKit Go.Deep
section rd
variable {H : Type} {enc : TypeId × Value → H} {P : Program} {W : World} {sp : Nat → Bool} {hd : Bool} {r : Reach} {b0 : Nat} {t : TypeId} {v : Value}
theorem trod_pair {n e fs c x} {f0 f1 : Field} (ht : P.underlying e = some (.struct fs)) (hfs : fs.toList = [f0, f1]) (he : P.cellsOf e = 2) (o0 : f0.offset = 0) (o1 : f1.offset = 1) (c0 : P.cellsOf f0.type = 1) (c1 : P.cellsOf f1.type = 1)
    (h0 : P.underlying f0.type = some (.float .f64)) (h1 : P.underlying f1.type = some (.float .f64)) (h : DataW.trod enc P W 0 sp hd n e c = some x) : ∃ a b, c = [.float .f64 a, .float .f64 b] ∧ a < 2 ^ 64 ∧ b < 2 ^ 64 := by
  cases n with
  | zero => simp [DataW.trod] at h
  | succ n =>
    obtain ⟨hl, ys, -, -, hy⟩ := trod_struct ht h
    rw [he] at hl
    match c, hl with
    | [u, w], _ =>
      obtain ⟨y0, -, e0⟩ := hy 0 f0 (by rw [hfs]; rfl)
      obtain ⟨y1, -, e1⟩ := hy 1 f1 (by rw [hfs]; rfl)
      rw [o0, c0] at e0
      rw [o1, c1] at e1
      obtain ⟨a, rfl, ha⟩ := trod_float h0 (show DataW.trod enc P W 0 sp hd n f0.type [u] = _ from e0)
      obtain ⟨b, rfl, hb⟩ := trod_float h1 (show DataW.trod enc P W 0 sp hd n f1.type [w] = _ from e1)
      exact ⟨a, b, rfl, wf_f64 ha, wf_f64 hb⟩
theorem rows_pairs {p : List Value → DataW H → Prop} (hp : ∀ row z, p row z → ∃ a b, row = [.float .f64 a, .float .f64 b] ∧ a < 2 ^ 64 ∧ b < 2 ^ 64) : ∀ {rows : List (List Value)} {zs : List (DataW H)}, All2 p rows zs →
    ∃ ps : List (Nat × Nat), rows = ps.map (fun q => [.float .f64 q.1, .float .f64 q.2]) ∧ ∀ q ∈ ps, q.1 < 2 ^ 64 ∧ q.2 < 2 ^ 64
  | [], [], _ => ⟨[], rfl, fun q h => by cases h⟩
  | r :: rows, z :: zs, ⟨h1, h2⟩ => by
    obtain ⟨a, b, rfl, ha, hb⟩ := hp r z h1
    obtain ⟨ps, rfl, hps⟩ := rows_pairs hp h2
    exact ⟨(a, b) :: ps, rfl, fun q hq => by
      rcases List.mem_cons.1 hq with rfl | hq
      · exact ⟨ha, hb⟩
      · exact hps q hq⟩
theorem open_pairs {bulk : DataW H → Nat} (hb : Blk bulk) {e fs d p} {f0 f1 : Field} (ht : P.underlying t = some (.slice e)) (hs : P.underlying e = some (.struct fs)) (hfs : fs.toList = [f0, f1]) (he : P.cellsOf e = 2) (o0 : f0.offset = 0) (o1 : f1.offset = 1) (c0 : P.cellsOf f0.type = 1) (c1 : P.cellsOf f1.type = 1)
    (h0 : P.underlying f0.type = some (.float .f64)) (h1 : P.underlying f1.type = some (.float .f64)) (hv : Value.okWide P W r b0 t v) (h : DataW.Trod enc P W 0 sp hd t v d p) :
    ∃ ps : List (Nat × Nat), SlN 2 (all W) v ps.length (ps.map (fun q => [.float .f64 q.1, .float .f64 q.2])).flatten ∧ ps.length ≤ 9223372036854775807 ∧ ∀ q ∈ ps, q.1 < 2 ^ 64 ∧ q.2 < 2 ^ 64 := by
  obtain ⟨a, len, cap, rfl⟩ := okWide_slice ht hv
  obtain ⟨n, hn⟩ := h
  cases n with
  | zero => have hn' : DataW.trod enc P W 0 sp hd 0 t [.slice a len cap] = _ := hn
            simp [DataW.trod] at hn'
  | succ n =>
    obtain ⟨rows, zs, k1, k2, -, k4, -⟩ := trod_sliceN hb (by decide) ht he (show DataW.trod enc P W 0 sp hd (n + 1) t [.slice a len cap] = _ from hn)
    obtain ⟨ps, rfl, hps⟩ := rows_pairs (fun row z ⟨pl, h⟩ => trod_pair hs hfs he o0 o1 c0 c1 h0 h1 h) k4
    rw [List.length_map] at k1 k2
    exact ⟨ps, k1, k2, hps⟩
end rd
end Go.Lg
