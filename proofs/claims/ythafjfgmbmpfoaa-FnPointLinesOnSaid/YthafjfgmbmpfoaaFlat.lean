/-
  Rows of numbers: copies, sameness, cuts. No conditions.
-/
import Derived.Test.YthafjfgmbmpfoaaTy
import Derived.Test.YthafjfgmbmpfoaaLg9
set_option linter.unusedVariables false
set_option linter.unusedSimpArgs false
namespace Go.Proofs.Ythafjfgmbmpfoaa.Flat
open Go.Lg

/-- A copy of a row. -/
theorem floats (v : Value) (xs : List Nat) (H : Heap) (hv : FS H v xs) (hb : xs.length < 2 ^ 40) : Does Try.prog 22 [v] H
    fun w H' => ∃ buf, bufOk 1 buf xs.length (xs.map fl) ∧ (xs.length = 0 → buf = none) ∧ w = bufV buf xs.length ∧ H' = bufH 36 buf (xs.map fl) H := by
  refine fn_enter 5 Try.func22 fun W => ?_
  repeat' first
    | (first | refine tc_seq ?_ | refine tc_region ?_ | refine at_seq_normal ?_ | refine tl_nil ?_ | refine tl_cons ?_ | refine op_move ?_ | refine op_assign ?_ | refine tc_ret ?_ | refine at_seq_ret ?_ | fail)
    | (refine op_appendS (H' := H) none 0 [] (xs.map fl) (m := xs.length) ⟨rfl, rfl⟩ (fun buf' hok' hbn => ?_) (FS.toN hv) (by exact rfl) (by exact rfl) (List.Sublist.refl _) (oneCell_fl xs) (by simp only [maxLen]; omega) (by omega))
  simp only [Nat.zero_add, List.nil_append] at *
  exact ret_tmp (hk := ⟨buf', hok', hbn, rfl, rfl⟩)

/-- The same, told as a row. -/
theorem floatsF (v : Value) (xs : List Nat) (H : Heap) (hv : FS H v xs) (hb : xs.length < 2 ^ 40) : Does Try.prog 22 [v] H
    fun w H' => ∃ ex a c, w = .slice a xs.length c ∧ H' = ex ++ H ∧ FS ex w xs ∧ (xs ≠ [] → a ≠ none) ∧ (xs = [] → w = .slice none 0 0) := by
  refine (floats v xs H hv hb).mono ?_
  rintro w H' ⟨buf, hok, hbn, rfl, rfl⟩
  have hf := fs_buf (e := 36) (H := []) hok
  cases buf with
  | none =>
    obtain ⟨h1, h2⟩ := hok
    refine ⟨[], none, 0, by rw [h1]; rfl, rfl, hf, fun h => ?_, fun _ => rfl⟩
    rw [List.map_eq_nil_iff] at h2
    exact absurd h2 h
  | some b =>
    obtain ⟨k, cap, sp⟩ := b
    exact ⟨[_], some ⟨k, 0, none⟩, cap, rfl, rfl, hf, (fun _ h => by cases h), fun h => by subst h; cases hbn rfl⟩

theorem bits (x : Nat) (H : Heap) : Does Try.prog 44 [.float .f64 x] H fun v H' => v = .int .u64 (x : Int) ∧ H' = H :=
  does_bits Try.func44 rfl rfl (by kernel_rfl) (by kernel_rfl)

end Go.Proofs.Ythafjfgmbmpfoaa.Flat
