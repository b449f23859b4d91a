/-
  Whole numbers of places that passed the test. No conditions.
-/
import Derived.Test.YtgkgfjliilemnaaWh
import Derived.Test.YtgkgfjliilemnaaFl4
set_option linter.unusedVariables false
set_option linter.unusedSimpArgs false
namespace Go.Proofs.Ytgkgfjliilemnaa.Ints
open Go.Lg Go.Proofs.Ytgkgfjliilemnaa.Gd Go.Proofs.Ytgkgfjliilemnaa.Wh

/-- Whole numbers of a vector that passed the test. -/
theorem ints_of {p : List Nat} {d : Nat} (h : gridB [p] d most = true) : ∀ x ∈ p, ∃ n : Int, Fv x (n : Rat) ∧ -1048576 ≤ n ∧ n ≤ 1048576 := by
  intro x hx
  simp only [gridB, List.all_cons, List.all_nil, Bool.and_true, Bool.and_eq_true, List.all_eq_true] at h
  have := h.2 x hx
  simp only [okNum, Bool.and_eq_true] at this
  exact whole_of fv_most fv_most.neg (by decide) this.1.1 this.1.2 this.2

end Go.Proofs.Ytgkgfjliilemnaa.Ints
