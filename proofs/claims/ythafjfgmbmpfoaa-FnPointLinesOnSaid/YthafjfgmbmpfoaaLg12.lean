/-
  Readings of arguments: lists of whole numbers. No conditions.
-/
import Derived.Test.YthafjfgmbmpfoaaLg5
import Derived.Test.YthafjfgmbmpfoaaLg11
set_option linter.unusedVariables false
set_option linter.unusedSimpArgs false
namespace Go.Lg
open Go.ChangeShapes Go.WideShapes Go.RowKit Go.Deep
section rd
variable {H : Type} {enc : TypeId × Value → H} {P : Program} {W : World} {sp : Nat → Bool} {hd : Bool} {r : Reach} {b0 : Nat} {t : TypeId} {v : Value}

theorem all_ints {ws : List Value} (h : ∀ y ∈ ws, ∃ b, y = .int .i64 b ∧ -9223372036854775808 ≤ b ∧ b ≤ 9223372036854775807) : ∃ xs : List Int, ws = xs.map iv ∧ ∀ y ∈ xs, -9223372036854775808 ≤ y ∧ y ≤ 9223372036854775807 := by
  induction ws with
  | nil => exact ⟨[], rfl, by simp⟩
  | cons w ws ih =>
    obtain ⟨b, rfl, hb⟩ := h w (by simp)
    obtain ⟨xs, rfl, hx⟩ := ih (fun y hy => h y (by simp [hy]))
    exact ⟨b :: xs, rfl, by
      intro y hy
      rcases List.mem_cons.1 hy with rfl | hy
      · exact hb
      · exact hx y hy⟩

theorem trod_ints {n e c x} (ht : P.underlying t = some (.slice e)) (he : P.cellsOf e = 1) (hf : P.underlying e = some (.int .i64)) (h : DataW.trod enc P W 0 sp hd n t [c] = some x) :
    ∃ xs, IS (all W) c xs ∧ xs.length ≤ 9223372036854775807 ∧ ∀ y ∈ xs, -9223372036854775808 ≤ y ∧ y ≤ 9223372036854775807 := by
  obtain ⟨ws, h1, h2, h3⟩ := trod_slice ht he h
  obtain ⟨xs, rfl, h4⟩ := all_ints (ws := ws) fun y hy => by
    obtain ⟨m, z, hz⟩ := h3 y hy
    obtain ⟨b, rfl, hw⟩ := trod_int hf hz
    exact ⟨b, rfl, wf_i64 hw⟩
  exact ⟨xs, h1, by simpa using h2, h4⟩

theorem open_ints {e d p} (ht : P.underlying t = some (.slice e)) (he : P.cellsOf e = 1) (hf : P.underlying e = some (.int .i64)) (hv : Value.okWide P W r b0 t v) (h : DataW.Trod enc P W 0 sp hd t v d p) :
    ∃ xs, IS (all W) v xs ∧ xs.length ≤ 9223372036854775807 ∧ ∀ y ∈ xs, -9223372036854775808 ≤ y ∧ y ≤ 9223372036854775807 := by
  obtain ⟨a, len, cap, rfl⟩ := okWide_slice ht hv
  obtain ⟨n, hn⟩ := h
  exact trod_ints ht he hf (show DataW.trod enc P W 0 sp hd n t [.slice a len cap] = _ from hn)
end rd

section
variable {P : Program} {W : World} {n : Nat} {ds : List Deferred} {ops : List Oper} {Q : Exit → Act → World → Prop} {E : Env} {G : Heap} {listed : List Bool} {fuel : Nat}
variable {ty : TypeId} {pos : String} {af : Array Edge} {d : Tmp}
theorem tc_anyQ {id : Nat} (hm : P.follows .mixedOrders = true) (hQ : PQ Q) (h : PQ Q → TA P W n ds ops Q ops.length (List.replicate ops.length false) E G) : TC P W n ds (.region id ops.toArray true) Q E G := tc_any hm (h hQ)
theorem ta_two10 (i j : Nat) {op op2 : Op} {ty2 pos2 af2} (hr : Region.ready .any ops.toArray ⟨listed⟩ = [i, j])
    (hi : ops[i]? = some ⟨some d, op, ty, pos, af, none⟩) (hd : d < n) (hj : ops[j]? = some ⟨none, op2, ty2, pos2, af2, none⟩)
    (h1 : OpT P W n ds ⟨some d, op, ty, pos, af, none⟩ E G (fun v G' => TA P W n ds ops Q fuel (listed.set i true) ((d, v) :: E) G'))
    (h2 : OpT P W n ds ⟨none, op2, ty2, pos2, af2, none⟩ E G (fun v G' => TA P W n ds ops Q fuel (listed.set j true) E G')) : TA P W n ds ops Q (fuel + 1) listed E G :=
  ⟨fun a w hok hsw => wpAny_all hr (by simp) fun k hk => by
    simp only [List.mem_cons, List.not_mem_nil, or_false] at hk
    rcases hk with rfl | rfl
    · exact ta_step (op := op) _ hi rfl h1 (fun v G' a w hk hs hok => hk.run _ _ (hok.put hd v) hs) a w hok hsw
    · exact ta_step (op := op2) _ hj rfl h2 (fun v G' a w hk hs hok => hk.run _ _ hok hs) a w hok hsw⟩
end
end Go.Lg
