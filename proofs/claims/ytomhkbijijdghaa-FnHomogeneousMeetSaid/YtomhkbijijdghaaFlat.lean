/-
  Rows of numbers: copies, sameness, cuts. No conditions.
-/
import Derived.Test.YtomhkbijijdghaaTy
import Derived.Test.YtomhkbijijdghaaLg9
set_option linter.unusedVariables false
set_option linter.unusedSimpArgs false
namespace Go.Proofs.Ytomhkbijijdghaa.Flat
open Go.Lg

/-- A copy of a row. -/
theorem floats (v : Value) (xs : List Nat) (H : Heap) (hv : FS H v xs) (hb : xs.length < 2 ^ 40) : Does Try.prog 57 [v] H
    fun w H' => ∃ buf, bufOk 1 buf xs.length (xs.map fl) ∧ (xs.length = 0 → buf = none) ∧ w = bufV buf xs.length ∧ H' = bufH 36 buf (xs.map fl) H := by
  refine fn_enter 5 Try.func57 fun W => ?_
  repeat' first
    | (first | refine tl_defer ?_ | refine tc_seq ?_ | refine tc_region ?_ | refine at_seq_normal ?_ | refine tl_nil ?_ | refine tl_cons ?_ | refine tl_cons_none ?_ | refine op_move ?_ | refine op_assign ?_ | refine op_fieldAddr ?_ | refine op_load ?_ | refine op_load_agg ?_ | refine op_indexC ?_ | refine op_indexAddr1 ?_ | refine op_indexAddr ?_ | refine op_icmp ?_ | refine op_fcmp ?_ | refine op_iarith ?_ | refine op_bcmp ?_ | refine op_unop_not ?_ | refine op_unop_neg_float ?_ | refine op_unop_neg_int ?_ | refine op_len_slice ?_ | refine op_pick_true ?_ | refine op_pick_false ?_ | refine op_pick_true' ?_ | refine op_pick_false' ?_ | refine op_build ?_ | refine op_extract ?_ | refine op_makeInterface ?_ | refine op_typeAssert ?_ | refine op_ptr_nil ?_ | refine op_nilCheck_ptr ?_ | refine op_nilCheck_meth ?_ | refine op_makeMeth ?_ | refine op_makeFunc ?_ | refine op_itof ?_ | refine op_itoi ?_ | refine op_ftoi ?_ | refine op_iquo ?_ | refine op_irem ?_ | refine op_ibits ?_ | refine op_slice_isnil ?_ | refine op_slice_notnil ?_ | refine op_imax ?_ | refine op_imin ?_ | refine op_shl ?_ | refine op_shr ?_ | (refine op_alloc ?_; intro _) | (refine op_box ?_; intro _) | (refine op_buildSlice ?_; intro _) | (refine op_farith ?_; intro _ _) | refine op_store0 ?_ | refine op_store1 ?_ | refine op_store2 ?_ | refine op_store3 ?_ | refine op_store4 ?_ | refine op_store5 ?_ | refine op_storeK rfl ?_ | refine op_loadK rfl ?_ | refine op_load_aggK rfl ?_ | refine tc_cond_t ?_ | refine tc_cond_f ?_ | refine tc_cond (fun _ => ?_) (fun _ => ?_) | refine tc_block ?_ | refine tc_skip ?_ | refine tc_ret ?_ | refine tc_exit ?_ | refine tc_label ?_ | refine at_seq_ret ?_ | refine at_seq_exit ?_ | refine at_block_normal ?_ | refine at_block_ret ?_ | refine at_block_exit_self ?_ | refine at_block_exit_ne ?_ | refine at_loop_ret ?_ | refine at_loop_exit ?_ | refine at_loop_goto ?_ | refine tl_guard_yes ?_ | refine tl_guard_no ?_ | refine tl_guard_yes' ?_ | refine tl_guard_no' ?_ | refine tl_guard_undef ?_ | refine tl_guard_split (fun _ => ?_) (fun _ => ?_))
    | (refine op_appendS (H' := H) none 0 [] (xs.map fl) (m := xs.length) ⟨rfl, rfl⟩ (fun buf' hok' hbn => ?_) (FS.toN hv) (by exact rfl) (by exact rfl) (List.Sublist.refl _) (oneCell_fl xs) (by simp only [maxLen]; omega) (by omega))
  simp only [Nat.zero_add, List.nil_append] at *
  exact ret_tmp (hk := ⟨buf', hok', hbn, rfl, rfl⟩)

/-- The same, told as a row. -/
theorem floatsF (v : Value) (xs : List Nat) (H : Heap) (hv : FS H v xs) (hb : xs.length < 2 ^ 40) : Does Try.prog 57 [v] H
    fun w H' => ∃ ex a c, w = .slice a xs.length c ∧ H' = ex ++ H ∧ FS ex w xs ∧ (xs ≠ [] → a ≠ none) ∧ (xs = [] → w = .slice none 0 0) := by
  refine (floats v xs H hv hb).mono ?_
  rintro w H' ⟨buf, hok, hbn, rfl, rfl⟩
  have hf := fs_buf (e := 36) (H := []) hok
  cases buf with
  | none =>
    obtain ⟨h1, h2⟩ := hok
    refine ⟨[], none, 0, by rw [h1]; rfl, rfl, hf, fun h => ?_, fun _ => rfl⟩
    rw [List.map_eq_nil_iff] at h2
    exact absurd h2 h
  | some b =>
    obtain ⟨k, cap, sp⟩ := b
    exact ⟨[_], some ⟨k, 0, none⟩, cap, rfl, rfl, hf, (fun _ h => by cases h), fun h => by subst h; cases hbn rfl⟩

theorem bits (x : Nat) (H : Heap) : Does Try.prog 63 [.float .f64 x] H fun v H' => v = .int .u64 (x : Int) ∧ H' = H :=
  does_bits Try.func63 rfl rfl (by kernel_rfl) (by kernel_rfl)

end Go.Proofs.Ytomhkbijijdghaa.Flat
