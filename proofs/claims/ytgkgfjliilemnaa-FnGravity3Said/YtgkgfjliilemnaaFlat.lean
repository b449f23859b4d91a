/-
  Rows of numbers: copies, sameness, cuts. No conditions.
-/
import Derived.Test.YtgkgfjliilemnaaTy
import Derived.Test.YtgkgfjliilemnaaLg9
set_option linter.unusedVariables false
set_option linter.unusedSimpArgs false
namespace Go.Proofs.Ytgkgfjliilemnaa.Flat
open Go.Lg

theorem bits (x : Nat) (H : Heap) : Does Try.prog 95 [.float .f64 x] H fun v H' => v = .int .u64 (x : Int) ∧ H' = H :=
  does_bits Try.func95 rfl rfl (by kernel_rfl) (by kernel_rfl)

end Go.Proofs.Ytgkgfjliilemnaa.Flat
