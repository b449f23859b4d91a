/-
  The ordinates of a point. No conditions.
-/
import Derived.Test.YtckjanekjmfanaaGm1
set_option linter.unusedVariables false
set_option linter.unusedSimpArgs false
namespace Go.Proofs.Ytckjanekjmfanaa.Gm
open Go.Lg Go.Proofs.Ytckjanekjmfanaa.Geom

instance niPoint : NotIface Try.prog 76 where
  eq := fun x v w xt => by kernel_rfl
instance niLineString : NotIface Try.prog 84 where
  eq := fun x v w xt => by kernel_rfl
instance niLinearRing : NotIface Try.prog 134 where
  eq := fun x v w xt => by kernel_rfl
/-- In this memory a pointer leads to a geometry of one row. -/
def HasRow (kp : Nat) (l s : Int) (f : List Nat) (G : Heap) : Prop := ∃ T a c, (kp, Obj.cells ⟨row4 l (strideI l) (.slice a f.length c) s⟩ T (0, 0)) ∈ G ∧ FS G (.slice a f.length c) f
theorem zIndex (n : Int) (h : 1 ≤ n) (H : Heap) : Does Try.prog 109 [.int .i64 n] H fun w H' => w = .int .i64 (if n = 1 ∨ n = 3 then -1 else 2) ∧ H' = H := by
  refine fn_enter 8 Try.func109 fun W => ?_
  have e0 : icmp .eql n 0 = false := by simp only [icmp, beq_eq_false_iff_ne]; omega
  repeat' first
    | (first | refine tl_defer ?_ | refine tc_seq ?_ | refine tc_region ?_ | refine at_seq_normal ?_ | refine tl_nil ?_ | refine tl_cons ?_ | refine tl_cons_none ?_ | refine op_move ?_ | refine op_assign ?_ | refine op_fieldAddr ?_ | refine op_load ?_ | refine op_load_agg ?_ | refine op_indexC ?_ | refine op_indexAddr1 ?_ | refine op_indexAddr ?_ | refine op_icmp ?_ | refine op_fcmp ?_ | refine op_iarith ?_ | refine op_bcmp ?_ | refine op_unop_not ?_ | refine op_unop_neg_float ?_ | refine op_unop_neg_int ?_ | refine op_len_slice ?_ | refine op_pick_true ?_ | refine op_pick_false ?_ | refine op_pick_true' ?_ | refine op_pick_false' ?_ | refine op_build ?_ | refine op_extract ?_ | refine op_makeInterface ?_ | refine op_typeAssert ?_ | refine op_ptr_nil ?_ | refine op_nilCheck_ptr ?_ | refine op_nilCheck_meth ?_ | refine op_makeMeth ?_ | refine op_makeFunc ?_ | refine op_itof ?_ | refine op_itoi ?_ | refine op_ftoi ?_ | refine op_iquo ?_ | refine op_irem ?_ | refine op_ibits ?_ | refine op_slice_isnil ?_ | refine op_slice_notnil ?_ | refine op_imax ?_ | refine op_imin ?_ | refine op_shl ?_ | refine op_shr ?_ | (refine op_alloc ?_; intro _) | (refine op_box ?_; intro _) | (refine op_buildSlice ?_; intro _) | (refine op_farith ?_; intro _ _) | refine op_store0 ?_ | refine op_store1 ?_ | refine op_store2 ?_ | refine op_store3 ?_ | refine op_store4 ?_ | refine op_store5 ?_ | refine op_storeK rfl ?_ | refine op_loadK rfl ?_ | refine op_load_aggK rfl ?_ | refine tc_cond_t ?_ | refine tc_cond_f ?_ | refine tc_cond (fun _ => ?_) (fun _ => ?_) | refine tc_block ?_ | refine tc_skip ?_ | refine tc_ret ?_ | refine tc_exit ?_ | refine tc_label ?_ | refine at_seq_ret ?_ | refine at_seq_exit ?_ | refine at_block_normal ?_ | refine at_block_ret ?_ | refine at_block_exit_self ?_ | refine at_block_exit_ne ?_ | refine at_loop_ret ?_ | refine at_loop_exit ?_ | refine at_loop_goto ?_ | refine tl_guard_yes ?_ | refine tl_guard_no ?_ | refine tl_guard_yes' ?_ | refine tl_guard_no' ?_ | refine tl_guard_undef ?_ | refine tl_guard_split (fun _ => ?_) (fun _ => ?_))
    | fail
  all_goals refine ret_tmp (hk := ⟨?_, rfl⟩)
  all_goals
    simp only [icmp, beq_iff_eq, beq_eq_false_iff_ne] at *
    first
      | (rw [if_pos (by omega)])
      | (rw [if_neg (by omega)])
theorem mIndex (n : Int) (h : 1 ≤ n) (H : Heap) : Does Try.prog 110 [.int .i64 n] H fun w H' => w = .int .i64 (if n = 1 ∨ n = 2 then -1 else if n = 3 then 2 else 3) ∧ H' = H := by
  refine fn_enter 12 Try.func110 fun W => ?_
  have e0 : icmp .eql n 0 = false := by simp only [icmp, beq_eq_false_iff_ne]; omega
  repeat' first
    | (first | refine tl_defer ?_ | refine tc_seq ?_ | refine tc_region ?_ | refine at_seq_normal ?_ | refine tl_nil ?_ | refine tl_cons ?_ | refine tl_cons_none ?_ | refine op_move ?_ | refine op_assign ?_ | refine op_fieldAddr ?_ | refine op_load ?_ | refine op_load_agg ?_ | refine op_indexC ?_ | refine op_indexAddr1 ?_ | refine op_indexAddr ?_ | refine op_icmp ?_ | refine op_fcmp ?_ | refine op_iarith ?_ | refine op_bcmp ?_ | refine op_unop_not ?_ | refine op_unop_neg_float ?_ | refine op_unop_neg_int ?_ | refine op_len_slice ?_ | refine op_pick_true ?_ | refine op_pick_false ?_ | refine op_pick_true' ?_ | refine op_pick_false' ?_ | refine op_build ?_ | refine op_extract ?_ | refine op_makeInterface ?_ | refine op_typeAssert ?_ | refine op_ptr_nil ?_ | refine op_nilCheck_ptr ?_ | refine op_nilCheck_meth ?_ | refine op_makeMeth ?_ | refine op_makeFunc ?_ | refine op_itof ?_ | refine op_itoi ?_ | refine op_ftoi ?_ | refine op_iquo ?_ | refine op_irem ?_ | refine op_ibits ?_ | refine op_slice_isnil ?_ | refine op_slice_notnil ?_ | refine op_imax ?_ | refine op_imin ?_ | refine op_shl ?_ | refine op_shr ?_ | (refine op_alloc ?_; intro _) | (refine op_box ?_; intro _) | (refine op_buildSlice ?_; intro _) | (refine op_farith ?_; intro _ _) | refine op_store0 ?_ | refine op_store1 ?_ | refine op_store2 ?_ | refine op_store3 ?_ | refine op_store4 ?_ | refine op_store5 ?_ | refine op_storeK rfl ?_ | refine op_loadK rfl ?_ | refine op_load_aggK rfl ?_ | refine tc_cond_t ?_ | refine tc_cond_f ?_ | refine tc_cond (fun _ => ?_) (fun _ => ?_) | refine tc_block ?_ | refine tc_skip ?_ | refine tc_ret ?_ | refine tc_exit ?_ | refine tc_label ?_ | refine at_seq_ret ?_ | refine at_seq_exit ?_ | refine at_block_normal ?_ | refine at_block_ret ?_ | refine at_block_exit_self ?_ | refine at_block_exit_ne ?_ | refine at_loop_ret ?_ | refine at_loop_exit ?_ | refine at_loop_goto ?_ | refine tl_guard_yes ?_ | refine tl_guard_no ?_ | refine tl_guard_yes' ?_ | refine tl_guard_no' ?_ | refine tl_guard_undef ?_ | refine tl_guard_split (fun _ => ?_) (fun _ => ?_))
    | fail
  all_goals refine ret_tmp (hk := ⟨?_, rfl⟩)
  all_goals
    simp only [icmp, beq_iff_eq, beq_eq_false_iff_ne] at *
    first
      | (rw [if_pos (by omega)])
      | (rw [if_neg (by omega), if_pos (by omega)])
      | (rw [if_neg (by omega), if_neg (by omega)])
theorem pX (kp : Nat) (l s : Int) (f : List Nat) (x : Nat) (H : Heap) (h : HasRow kp l s f H) (hx : f[0]? = some x) : Does Try.prog 52 [.pointer (some ⟨kp, 0, none⟩)] H fun w H' => w = .float .f64 x ∧ H' = H := by
  obtain ⟨T, a, c, hm, hf⟩ := h
  obtain ⟨k, off, l', T', fz, cap, he, hm2, hl', hlt'⟩ := hf.at hx
  cases he
  refine fn_enter 10 Try.func52 fun W => ?_
  repeat' first
    | (first | refine tl_defer ?_ | refine tc_seq ?_ | refine tc_region ?_ | refine at_seq_normal ?_ | refine tl_nil ?_ | refine tl_cons ?_ | refine tl_cons_none ?_ | refine op_move ?_ | refine op_assign ?_ | refine op_fieldAddr ?_ | refine op_load ?_ | refine op_load_agg ?_ | refine op_indexC ?_ | refine op_indexAddr1 ?_ | refine op_indexAddr ?_ | refine op_icmp ?_ | refine op_fcmp ?_ | refine op_iarith ?_ | refine op_bcmp ?_ | refine op_unop_not ?_ | refine op_unop_neg_float ?_ | refine op_unop_neg_int ?_ | refine op_len_slice ?_ | refine op_pick_true ?_ | refine op_pick_false ?_ | refine op_pick_true' ?_ | refine op_pick_false' ?_ | refine op_build ?_ | refine op_extract ?_ | refine op_makeInterface ?_ | refine op_typeAssert ?_ | refine op_ptr_nil ?_ | refine op_nilCheck_ptr ?_ | refine op_nilCheck_meth ?_ | refine op_makeMeth ?_ | refine op_makeFunc ?_ | refine op_itof ?_ | refine op_itoi ?_ | refine op_ftoi ?_ | refine op_iquo ?_ | refine op_irem ?_ | refine op_ibits ?_ | refine op_slice_isnil ?_ | refine op_slice_notnil ?_ | refine op_imax ?_ | refine op_imin ?_ | refine op_shl ?_ | refine op_shr ?_ | (refine op_alloc ?_; intro _) | (refine op_box ?_; intro _) | (refine op_buildSlice ?_; intro _) | (refine op_farith ?_; intro _ _) | refine op_store0 ?_ | refine op_store1 ?_ | refine op_store2 ?_ | refine op_store3 ?_ | refine op_store4 ?_ | refine op_store5 ?_ | refine op_storeK rfl ?_ | refine op_loadK rfl ?_ | refine op_load_aggK rfl ?_ | refine tc_cond_t ?_ | refine tc_cond_f ?_ | refine tc_cond (fun _ => ?_) (fun _ => ?_) | refine tc_block ?_ | refine tc_skip ?_ | refine tc_ret ?_ | refine tc_exit ?_ | refine tc_label ?_ | refine at_seq_ret ?_ | refine at_seq_exit ?_ | refine at_block_normal ?_ | refine at_block_ret ?_ | refine at_block_exit_self ?_ | refine at_block_exit_ne ?_ | refine at_loop_ret ?_ | refine at_loop_exit ?_ | refine at_loop_goto ?_ | refine tl_guard_yes ?_ | refine tl_guard_no ?_ | refine tl_guard_yes' ?_ | refine tl_guard_no' ?_ | refine tl_guard_undef ?_ | refine tl_guard_split (fun _ => ?_) (fun _ => ?_))
    | fail
  exact ret_tmp (hk := ⟨rfl, rfl⟩)
theorem pY (kp : Nat) (l s : Int) (f : List Nat) (x : Nat) (H : Heap) (h : HasRow kp l s f H) (hx : f[1]? = some x) : Does Try.prog 53 [.pointer (some ⟨kp, 0, none⟩)] H fun w H' => w = .float .f64 x ∧ H' = H := by
  obtain ⟨T, a, c, hm, hf⟩ := h
  obtain ⟨k, off, l', T', fz, cap, he, hm2, hl', hlt'⟩ := hf.at hx
  cases he
  refine fn_enter 10 Try.func53 fun W => ?_
  repeat' first
    | (first | refine tl_defer ?_ | refine tc_seq ?_ | refine tc_region ?_ | refine at_seq_normal ?_ | refine tl_nil ?_ | refine tl_cons ?_ | refine tl_cons_none ?_ | refine op_move ?_ | refine op_assign ?_ | refine op_fieldAddr ?_ | refine op_load ?_ | refine op_load_agg ?_ | refine op_indexC ?_ | refine op_indexAddr1 ?_ | refine op_indexAddr ?_ | refine op_icmp ?_ | refine op_fcmp ?_ | refine op_iarith ?_ | refine op_bcmp ?_ | refine op_unop_not ?_ | refine op_unop_neg_float ?_ | refine op_unop_neg_int ?_ | refine op_len_slice ?_ | refine op_pick_true ?_ | refine op_pick_false ?_ | refine op_pick_true' ?_ | refine op_pick_false' ?_ | refine op_build ?_ | refine op_extract ?_ | refine op_makeInterface ?_ | refine op_typeAssert ?_ | refine op_ptr_nil ?_ | refine op_nilCheck_ptr ?_ | refine op_nilCheck_meth ?_ | refine op_makeMeth ?_ | refine op_makeFunc ?_ | refine op_itof ?_ | refine op_itoi ?_ | refine op_ftoi ?_ | refine op_iquo ?_ | refine op_irem ?_ | refine op_ibits ?_ | refine op_slice_isnil ?_ | refine op_slice_notnil ?_ | refine op_imax ?_ | refine op_imin ?_ | refine op_shl ?_ | refine op_shr ?_ | (refine op_alloc ?_; intro _) | (refine op_box ?_; intro _) | (refine op_buildSlice ?_; intro _) | (refine op_farith ?_; intro _ _) | refine op_store0 ?_ | refine op_store1 ?_ | refine op_store2 ?_ | refine op_store3 ?_ | refine op_store4 ?_ | refine op_store5 ?_ | refine op_storeK rfl ?_ | refine op_loadK rfl ?_ | refine op_load_aggK rfl ?_ | refine tc_cond_t ?_ | refine tc_cond_f ?_ | refine tc_cond (fun _ => ?_) (fun _ => ?_) | refine tc_block ?_ | refine tc_skip ?_ | refine tc_ret ?_ | refine tc_exit ?_ | refine tc_label ?_ | refine at_seq_ret ?_ | refine at_seq_exit ?_ | refine at_block_normal ?_ | refine at_block_ret ?_ | refine at_block_exit_self ?_ | refine at_block_exit_ne ?_ | refine at_loop_ret ?_ | refine at_loop_exit ?_ | refine at_loop_goto ?_ | refine tl_guard_yes ?_ | refine tl_guard_no ?_ | refine tl_guard_yes' ?_ | refine tl_guard_no' ?_ | refine tl_guard_undef ?_ | refine tl_guard_split (fun _ => ?_) (fun _ => ?_))
    | fail
  exact ret_tmp (hk := ⟨rfl, rfl⟩)
theorem pZ0 (kp : Nat) (l s : Int) (f : List Nat) (H : Heap) (h : HasRow kp l s f H) (hl : 1 ≤ l) (hn : l = 1 ∨ l = 3) : Does Try.prog 54 [.pointer (some ⟨kp, 0, none⟩)] H fun w H' => w = .float .f64 0 ∧ H' = H := by
  obtain ⟨T, a, c, hm, hf⟩ := h
  refine fn_enter 20 Try.func54 fun W => ?_
  repeat' first
    | (first | refine tl_defer ?_ | refine tc_seq ?_ | refine tc_region ?_ | refine at_seq_normal ?_ | refine tl_nil ?_ | refine tl_cons ?_ | refine tl_cons_none ?_ | refine op_move ?_ | refine op_assign ?_ | refine op_fieldAddr ?_ | refine op_load ?_ | refine op_load_agg ?_ | refine op_indexC ?_ | refine op_indexAddr1 ?_ | refine op_indexAddr ?_ | refine op_icmp ?_ | refine op_fcmp ?_ | refine op_iarith ?_ | refine op_bcmp ?_ | refine op_unop_not ?_ | refine op_unop_neg_float ?_ | refine op_unop_neg_int ?_ | refine op_len_slice ?_ | refine op_pick_true ?_ | refine op_pick_false ?_ | refine op_pick_true' ?_ | refine op_pick_false' ?_ | refine op_build ?_ | refine op_extract ?_ | refine op_makeInterface ?_ | refine op_typeAssert ?_ | refine op_ptr_nil ?_ | refine op_nilCheck_ptr ?_ | refine op_nilCheck_meth ?_ | refine op_makeMeth ?_ | refine op_makeFunc ?_ | refine op_itof ?_ | refine op_itoi ?_ | refine op_ftoi ?_ | refine op_iquo ?_ | refine op_irem ?_ | refine op_ibits ?_ | refine op_slice_isnil ?_ | refine op_slice_notnil ?_ | refine op_imax ?_ | refine op_imin ?_ | refine op_shl ?_ | refine op_shr ?_ | (refine op_alloc ?_; intro _) | (refine op_box ?_; intro _) | (refine op_buildSlice ?_; intro _) | (refine op_farith ?_; intro _ _) | refine op_store0 ?_ | refine op_store1 ?_ | refine op_store2 ?_ | refine op_store3 ?_ | refine op_store4 ?_ | refine op_store5 ?_ | refine op_storeK rfl ?_ | refine op_loadK rfl ?_ | refine op_load_aggK rfl ?_ | refine tc_cond_t ?_ | refine tc_cond_f ?_ | refine tc_cond (fun _ => ?_) (fun _ => ?_) | refine tc_block ?_ | refine tc_skip ?_ | refine tc_ret ?_ | refine tc_exit ?_ | refine tc_label ?_ | refine at_seq_ret ?_ | refine at_seq_exit ?_ | refine at_block_normal ?_ | refine at_block_ret ?_ | refine at_block_exit_self ?_ | refine at_block_exit_ne ?_ | refine at_loop_ret ?_ | refine at_loop_exit ?_ | refine at_loop_goto ?_ | refine tl_guard_yes ?_ | refine tl_guard_no ?_ | refine tl_guard_yes' ?_ | refine tl_guard_no' ?_ | refine tl_guard_undef ?_ | refine tl_guard_split (fun _ => ?_) (fun _ => ?_))
    | (refine op_call ((zIndex l hl _).mono ?_); rintro _ _ ⟨rfl, rfl⟩; rw [if_pos hn])
    | fail
  exact ret_tmp (hk := ⟨rfl, rfl⟩)
theorem pZ1 (kp : Nat) (l s : Int) (f : List Nat) (j : Nat) (x : Nat) (H : Heap) (h : HasRow kp l s f H) (hl : 1 ≤ l) (hn : ¬(l = 1 ∨ l = 3)) (hj : (j : Int) = 2) (hx : f[j]? = some x) : Does Try.prog 54 [.pointer (some ⟨kp, 0, none⟩)] H fun w H' => w = .float .f64 x ∧ H' = H := by
  obtain ⟨T, a, c, hm, hf⟩ := h
  obtain ⟨k, off, l', T', fz, cap, he, hm2, hl', hlt'⟩ := hf.at hx
  cases he
  have e1 : icmp .eql (j : Int) (-1) = false := by simp only [icmp, beq_eq_false_iff_ne]; omega
  refine fn_enter 20 Try.func54 fun W => ?_
  repeat' first
    | (first | refine tl_defer ?_ | refine tc_seq ?_ | refine tc_region ?_ | refine at_seq_normal ?_ | refine tl_nil ?_ | refine tl_cons ?_ | refine tl_cons_none ?_ | refine op_move ?_ | refine op_assign ?_ | refine op_fieldAddr ?_ | refine op_load ?_ | refine op_load_agg ?_ | refine op_indexC ?_ | refine op_indexAddr1 ?_ | refine op_indexAddr ?_ | refine op_icmp ?_ | refine op_fcmp ?_ | refine op_iarith ?_ | refine op_bcmp ?_ | refine op_unop_not ?_ | refine op_unop_neg_float ?_ | refine op_unop_neg_int ?_ | refine op_len_slice ?_ | refine op_pick_true ?_ | refine op_pick_false ?_ | refine op_pick_true' ?_ | refine op_pick_false' ?_ | refine op_build ?_ | refine op_extract ?_ | refine op_makeInterface ?_ | refine op_typeAssert ?_ | refine op_ptr_nil ?_ | refine op_nilCheck_ptr ?_ | refine op_nilCheck_meth ?_ | refine op_makeMeth ?_ | refine op_makeFunc ?_ | refine op_itof ?_ | refine op_itoi ?_ | refine op_ftoi ?_ | refine op_iquo ?_ | refine op_irem ?_ | refine op_ibits ?_ | refine op_slice_isnil ?_ | refine op_slice_notnil ?_ | refine op_imax ?_ | refine op_imin ?_ | refine op_shl ?_ | refine op_shr ?_ | (refine op_alloc ?_; intro _) | (refine op_box ?_; intro _) | (refine op_buildSlice ?_; intro _) | (refine op_farith ?_; intro _ _) | refine op_store0 ?_ | refine op_store1 ?_ | refine op_store2 ?_ | refine op_store3 ?_ | refine op_store4 ?_ | refine op_store5 ?_ | refine op_storeK rfl ?_ | refine op_loadK rfl ?_ | refine op_load_aggK rfl ?_ | refine tc_cond_t ?_ | refine tc_cond_f ?_ | refine tc_cond (fun _ => ?_) (fun _ => ?_) | refine tc_block ?_ | refine tc_skip ?_ | refine tc_ret ?_ | refine tc_exit ?_ | refine tc_label ?_ | refine at_seq_ret ?_ | refine at_seq_exit ?_ | refine at_block_normal ?_ | refine at_block_ret ?_ | refine at_block_exit_self ?_ | refine at_block_exit_ne ?_ | refine at_loop_ret ?_ | refine at_loop_exit ?_ | refine at_loop_goto ?_ | refine tl_guard_yes ?_ | refine tl_guard_no ?_ | refine tl_guard_yes' ?_ | refine tl_guard_no' ?_ | refine tl_guard_undef ?_ | refine tl_guard_split (fun _ => ?_) (fun _ => ?_))
    | (refine op_call ((zIndex l hl _).mono ?_); rintro _ _ ⟨rfl, rfl⟩; rw [if_neg hn, ← hj])
    | fail
  exact ret_tmp (hk := ⟨rfl, rfl⟩)
theorem pM0 (kp : Nat) (l s : Int) (f : List Nat) (H : Heap) (h : HasRow kp l s f H) (hl : 1 ≤ l) (hn : l = 1 ∨ l = 2) : Does Try.prog 55 [.pointer (some ⟨kp, 0, none⟩)] H fun w H' => w = .float .f64 0 ∧ H' = H := by
  obtain ⟨T, a, c, hm, hf⟩ := h
  refine fn_enter 20 Try.func55 fun W => ?_
  repeat' first
    | (first | refine tl_defer ?_ | refine tc_seq ?_ | refine tc_region ?_ | refine at_seq_normal ?_ | refine tl_nil ?_ | refine tl_cons ?_ | refine tl_cons_none ?_ | refine op_move ?_ | refine op_assign ?_ | refine op_fieldAddr ?_ | refine op_load ?_ | refine op_load_agg ?_ | refine op_indexC ?_ | refine op_indexAddr1 ?_ | refine op_indexAddr ?_ | refine op_icmp ?_ | refine op_fcmp ?_ | refine op_iarith ?_ | refine op_bcmp ?_ | refine op_unop_not ?_ | refine op_unop_neg_float ?_ | refine op_unop_neg_int ?_ | refine op_len_slice ?_ | refine op_pick_true ?_ | refine op_pick_false ?_ | refine op_pick_true' ?_ | refine op_pick_false' ?_ | refine op_build ?_ | refine op_extract ?_ | refine op_makeInterface ?_ | refine op_typeAssert ?_ | refine op_ptr_nil ?_ | refine op_nilCheck_ptr ?_ | refine op_nilCheck_meth ?_ | refine op_makeMeth ?_ | refine op_makeFunc ?_ | refine op_itof ?_ | refine op_itoi ?_ | refine op_ftoi ?_ | refine op_iquo ?_ | refine op_irem ?_ | refine op_ibits ?_ | refine op_slice_isnil ?_ | refine op_slice_notnil ?_ | refine op_imax ?_ | refine op_imin ?_ | refine op_shl ?_ | refine op_shr ?_ | (refine op_alloc ?_; intro _) | (refine op_box ?_; intro _) | (refine op_buildSlice ?_; intro _) | (refine op_farith ?_; intro _ _) | refine op_store0 ?_ | refine op_store1 ?_ | refine op_store2 ?_ | refine op_store3 ?_ | refine op_store4 ?_ | refine op_store5 ?_ | refine op_storeK rfl ?_ | refine op_loadK rfl ?_ | refine op_load_aggK rfl ?_ | refine tc_cond_t ?_ | refine tc_cond_f ?_ | refine tc_cond (fun _ => ?_) (fun _ => ?_) | refine tc_block ?_ | refine tc_skip ?_ | refine tc_ret ?_ | refine tc_exit ?_ | refine tc_label ?_ | refine at_seq_ret ?_ | refine at_seq_exit ?_ | refine at_block_normal ?_ | refine at_block_ret ?_ | refine at_block_exit_self ?_ | refine at_block_exit_ne ?_ | refine at_loop_ret ?_ | refine at_loop_exit ?_ | refine at_loop_goto ?_ | refine tl_guard_yes ?_ | refine tl_guard_no ?_ | refine tl_guard_yes' ?_ | refine tl_guard_no' ?_ | refine tl_guard_undef ?_ | refine tl_guard_split (fun _ => ?_) (fun _ => ?_))
    | (refine op_call ((mIndex l hl _).mono ?_); rintro _ _ ⟨rfl, rfl⟩; rw [if_pos hn])
    | fail
  exact ret_tmp (hk := ⟨rfl, rfl⟩)
theorem pM1 (kp : Nat) (l s : Int) (f : List Nat) (j : Nat) (x : Nat) (H : Heap) (h : HasRow kp l s f H) (hl : 1 ≤ l) (hn : ¬(l = 1 ∨ l = 2)) (hj : (j : Int) = (if l = 3 then 2 else 3)) (hx : f[j]? = some x) : Does Try.prog 55 [.pointer (some ⟨kp, 0, none⟩)] H fun w H' => w = .float .f64 x ∧ H' = H := by
  obtain ⟨T, a, c, hm, hf⟩ := h
  obtain ⟨k, off, l', T', fz, cap, he, hm2, hl', hlt'⟩ := hf.at hx
  cases he
  have e1 : icmp .eql (j : Int) (-1) = false := by simp only [icmp, beq_eq_false_iff_ne]; omega
  refine fn_enter 20 Try.func55 fun W => ?_
  repeat' first
    | (first | refine tl_defer ?_ | refine tc_seq ?_ | refine tc_region ?_ | refine at_seq_normal ?_ | refine tl_nil ?_ | refine tl_cons ?_ | refine tl_cons_none ?_ | refine op_move ?_ | refine op_assign ?_ | refine op_fieldAddr ?_ | refine op_load ?_ | refine op_load_agg ?_ | refine op_indexC ?_ | refine op_indexAddr1 ?_ | refine op_indexAddr ?_ | refine op_icmp ?_ | refine op_fcmp ?_ | refine op_iarith ?_ | refine op_bcmp ?_ | refine op_unop_not ?_ | refine op_unop_neg_float ?_ | refine op_unop_neg_int ?_ | refine op_len_slice ?_ | refine op_pick_true ?_ | refine op_pick_false ?_ | refine op_pick_true' ?_ | refine op_pick_false' ?_ | refine op_build ?_ | refine op_extract ?_ | refine op_makeInterface ?_ | refine op_typeAssert ?_ | refine op_ptr_nil ?_ | refine op_nilCheck_ptr ?_ | refine op_nilCheck_meth ?_ | refine op_makeMeth ?_ | refine op_makeFunc ?_ | refine op_itof ?_ | refine op_itoi ?_ | refine op_ftoi ?_ | refine op_iquo ?_ | refine op_irem ?_ | refine op_ibits ?_ | refine op_slice_isnil ?_ | refine op_slice_notnil ?_ | refine op_imax ?_ | refine op_imin ?_ | refine op_shl ?_ | refine op_shr ?_ | (refine op_alloc ?_; intro _) | (refine op_box ?_; intro _) | (refine op_buildSlice ?_; intro _) | (refine op_farith ?_; intro _ _) | refine op_store0 ?_ | refine op_store1 ?_ | refine op_store2 ?_ | refine op_store3 ?_ | refine op_store4 ?_ | refine op_store5 ?_ | refine op_storeK rfl ?_ | refine op_loadK rfl ?_ | refine op_load_aggK rfl ?_ | refine tc_cond_t ?_ | refine tc_cond_f ?_ | refine tc_cond (fun _ => ?_) (fun _ => ?_) | refine tc_block ?_ | refine tc_skip ?_ | refine tc_ret ?_ | refine tc_exit ?_ | refine tc_label ?_ | refine at_seq_ret ?_ | refine at_seq_exit ?_ | refine at_block_normal ?_ | refine at_block_ret ?_ | refine at_block_exit_self ?_ | refine at_block_exit_ne ?_ | refine at_loop_ret ?_ | refine at_loop_exit ?_ | refine at_loop_goto ?_ | refine tl_guard_yes ?_ | refine tl_guard_no ?_ | refine tl_guard_yes' ?_ | refine tl_guard_no' ?_ | refine tl_guard_undef ?_ | refine tl_guard_split (fun _ => ?_) (fun _ => ?_))
    | (refine op_call ((mIndex l hl _).mono ?_); rintro _ _ ⟨rfl, rfl⟩; rw [if_neg hn, ← hj])
    | fail
  exact ret_tmp (hk := ⟨rfl, rfl⟩)

theorem strideI_two {l : Int} (h : 1 ≤ l) : 2 ≤ strideI l := by
  unfold strideI
  repeat' split
  all_goals omega
def zOf (l : Int) (f : List Nat) : Nat := if l = 1 ∨ l = 3 then 0 else f.getD 2 0
def mOf (l : Int) (f : List Nat) : Nat := if l = 1 ∨ l = 2 then 0 else if l = 3 then f.getD 2 0 else f.getD 3 0
theorem get_of {f : List Nat} {j : Nat} (h : j < f.length) : f[j]? = some (f.getD j 0) := by rw [List.getD_eq_getElem?_getD, List.getElem?_eq_getElem h]; rfl
theorem pZ (kp : Nat) (l s : Int) (f : List Nat) (H : Heap) (h : HasRow kp l s f H) (hl : 1 ≤ l) (hs : (f.length : Int) = strideI l) : Does Try.prog 54 [.pointer (some ⟨kp, 0, none⟩)] H fun w H' => w = .float .f64 (zOf l f) ∧ H' = H := by
  unfold zOf
  by_cases hn : l = 1 ∨ l = 3
  · rw [if_pos hn]; exact pZ0 kp l s f H h hl hn
  · rw [if_neg hn]
    refine pZ1 kp l s f 2 _ H h hl hn rfl (get_of ?_)
    unfold strideI at hs
    repeat' split at hs
    all_goals omega
theorem pM (kp : Nat) (l s : Int) (f : List Nat) (H : Heap) (h : HasRow kp l s f H) (hl : 1 ≤ l) (hs : (f.length : Int) = strideI l) : Does Try.prog 55 [.pointer (some ⟨kp, 0, none⟩)] H fun w H' => w = .float .f64 (mOf l f) ∧ H' = H := by
  unfold mOf
  by_cases hn : l = 1 ∨ l = 2
  · rw [if_pos hn]; exact pM0 kp l s f H h hl hn
  · rw [if_neg hn]
    by_cases h3 : l = 3
    · rw [if_pos h3]
      refine pM1 kp l s f 2 _ H h hl hn (by rw [if_pos h3]; rfl) (get_of ?_)
      subst h3
      unfold strideI at hs
      simp at hs
      omega
    · rw [if_neg h3]
      refine pM1 kp l s f 3 _ H h hl hn (by rw [if_neg h3]; rfl) (get_of ?_)
      unfold strideI at hs
      repeat' split at hs
      all_goals omega

set_option maxRecDepth 100000 in
instance idle50 : IdleD Try.prog 50 5 where
  idle := fun cap w hl => by
    match cap, hl with
    | [p, q, r, s, u], _ =>
    have h0 : ∀ w : World, (eqGuard .neq 20 (.tmp 5) (.const .nilIface) .nilIface .nilIface).run Try.prog w = .ok () w := fun _ => rfl
    have h1 : ∀ w : World, (binOp .neq 20 .nilIface .nilIface).run Try.prog w = .ok (.bool false) w := fun w => by
      first
        | rfl
        | simp [binOp, Op.equal, Op.equalIn, go_sem]
    refine callsD_of_wpS Try.func50 rfl fun c₀ cs hu => ?_
    apply wpS_seq
    apply wpS_region
    simp [wpOpsS, go_sem, recoverD, hu, Try.ntmps50, Exit.thenS, h1]
    refine wpS_cond (t := false) (by simp [Act.eval, Array.replicate]) ?_
    simp only [Bool.false_eq_true, if_false]
    refine wpS_of_wp (wp_skip ?_)
    cases c₀
    simp_all [bodyPostS, results, Try.results50]

theorem ex6 {a b c d e g x : Nat × Obj} {ex H : Heap} : ∃ ex', a :: b :: c :: d :: e :: g :: (ex ++ x :: H) = ex' ++ H := ⟨a :: b :: c :: d :: e :: g :: (ex ++ [x]), by simp⟩
set_option maxHeartbeats 8000000 in
theorem implOrd (l s : Int) (vf ve vee vk : Value) (f : List Nat) (H : Heap) (hl : 1 ≤ l) (hf : FS H vf f) (hb : f.length < 2 ^ 40) (hs : (f.length : Int) = strideI l) :
    Does Try.prog 14 [.agg ⟨[.int .i64 1, .int .i64 l, .int .i64 s, vf, ve, vee, vk]⟩] H fun w H' => w = .tuple #[.float .f64 (f.getD 0 0), .float .f64 (f.getD 1 0), .float .f64 (zOf l f), .float .f64 (mOf l f), .bool true] ∧ ∃ ex, H' = ex ++ H := by
  refine fn_enter_d 20 Try.func14 fun W => ?_
  repeat' first
    | (first | refine tl_defer ?_ | refine tc_seq ?_ | refine tc_region ?_ | refine at_seq_normal ?_ | refine tl_nil ?_ | refine tl_cons ?_ | refine tl_cons_none ?_ | refine op_move ?_ | refine op_assign ?_ | refine op_fieldAddr ?_ | refine op_load ?_ | refine op_load_agg ?_ | refine op_indexC ?_ | refine op_indexAddr1 ?_ | refine op_indexAddr ?_ | refine op_icmp ?_ | refine op_fcmp ?_ | refine op_iarith ?_ | refine op_bcmp ?_ | refine op_unop_not ?_ | refine op_unop_neg_float ?_ | refine op_unop_neg_int ?_ | refine op_len_slice ?_ | refine op_pick_true ?_ | refine op_pick_false ?_ | refine op_pick_true' ?_ | refine op_pick_false' ?_ | refine op_build ?_ | refine op_extract ?_ | refine op_makeInterface ?_ | refine op_typeAssert ?_ | refine op_ptr_nil ?_ | refine op_nilCheck_ptr ?_ | refine op_nilCheck_meth ?_ | refine op_makeMeth ?_ | refine op_makeFunc ?_ | refine op_itof ?_ | refine op_itoi ?_ | refine op_ftoi ?_ | refine op_iquo ?_ | refine op_irem ?_ | refine op_ibits ?_ | refine op_slice_isnil ?_ | refine op_slice_notnil ?_ | refine op_imax ?_ | refine op_imin ?_ | refine op_shl ?_ | refine op_shr ?_ | (refine op_alloc ?_; intro _) | (refine op_box ?_; intro _) | (refine op_buildSlice ?_; intro _) | (refine op_farith ?_; intro _ _) | refine op_store0 ?_ | refine op_store1 ?_ | refine op_store2 ?_ | refine op_store3 ?_ | refine op_store4 ?_ | refine op_store5 ?_ | refine op_storeK rfl ?_ | refine op_loadK rfl ?_ | refine op_load_aggK rfl ?_ | refine tc_cond_t ?_ | refine tc_cond_f ?_ | refine tc_cond (fun _ => ?_) (fun _ => ?_) | refine tc_block ?_ | refine tc_skip ?_ | refine tc_ret ?_ | refine tc_exit ?_ | refine tc_label ?_ | refine at_seq_ret ?_ | refine at_seq_exit ?_ | refine at_block_normal ?_ | refine at_block_ret ?_ | refine at_block_exit_self ?_ | refine at_block_exit_ne ?_ | refine at_loop_ret ?_ | refine at_loop_exit ?_ | refine at_loop_goto ?_ | refine tl_guard_yes ?_ | refine tl_guard_no ?_ | refine tl_guard_yes' ?_ | refine tl_guard_no' ?_ | refine tl_guard_undef ?_ | refine tl_guard_split (fun _ => ?_) (fun _ => ?_))
    | (refine op_call ((geometryPoint l s _ _ _ _ f _ hl (hf.mono fun e he => by simp [he]) hb).mono ?_); rintro _ _ ⟨kp, T, a, c, R, rfl, rfl, hR, ex, rfl⟩)
    | refine op_typeAssert ?_
    | fail
  rename_i ka k1 k2 k3 k4 k5
  have hrow : HasRow kp l s f ((kp, Obj.cells ⟨row4 l (strideI l) (.slice a f.length c) s⟩ T (0, 0)) :: (ex ++ (_ :: _ :: _ :: _ :: _ :: _ :: H))) := ⟨T, a, c, List.mem_cons_self, hR.mono fun e he => List.mem_cons_of_mem _ he⟩
  have h2 := strideI_two hl
  have g0 : f[0]? = some (f.getD 0 0) := get_of (by omega)
  have g1 : f[1]? = some (f.getD 1 0) := get_of (by omega)
  repeat' first
    | (refine op_call ((pX _ _ _ _ _ _ hrow g0).mono ?_); rintro _ _ ⟨rfl, rfl⟩)
    | (refine op_call ((pY _ _ _ _ _ _ hrow g1).mono ?_); rintro _ _ ⟨rfl, rfl⟩)
    | (refine op_call ((pZ _ _ _ _ _ hrow hl hs).mono ?_); rintro _ _ ⟨rfl, rfl⟩)
    | (refine op_call ((pM _ _ _ _ _ hrow hl hs).mono ?_); rintro _ _ ⟨rfl, rfl⟩)
    | (first | refine tl_defer ?_ | refine tc_seq ?_ | refine tc_region ?_ | refine at_seq_normal ?_ | refine tl_nil ?_ | refine tl_cons ?_ | refine tl_cons_none ?_ | refine op_move ?_ | refine op_assign ?_ | refine op_fieldAddr ?_ | refine op_load ?_ | refine op_load_agg ?_ | refine op_indexC ?_ | refine op_indexAddr1 ?_ | refine op_indexAddr ?_ | refine op_icmp ?_ | refine op_fcmp ?_ | refine op_iarith ?_ | refine op_bcmp ?_ | refine op_unop_not ?_ | refine op_unop_neg_float ?_ | refine op_unop_neg_int ?_ | refine op_len_slice ?_ | refine op_pick_true ?_ | refine op_pick_false ?_ | refine op_pick_true' ?_ | refine op_pick_false' ?_ | refine op_build ?_ | refine op_extract ?_ | refine op_makeInterface ?_ | refine op_typeAssert ?_ | refine op_ptr_nil ?_ | refine op_nilCheck_ptr ?_ | refine op_nilCheck_meth ?_ | refine op_makeMeth ?_ | refine op_makeFunc ?_ | refine op_itof ?_ | refine op_itoi ?_ | refine op_ftoi ?_ | refine op_iquo ?_ | refine op_irem ?_ | refine op_ibits ?_ | refine op_slice_isnil ?_ | refine op_slice_notnil ?_ | refine op_imax ?_ | refine op_imin ?_ | refine op_shl ?_ | refine op_shr ?_ | (refine op_alloc ?_; intro _) | (refine op_box ?_; intro _) | (refine op_buildSlice ?_; intro _) | (refine op_farith ?_; intro _ _) | refine op_store0 ?_ | refine op_store1 ?_ | refine op_store2 ?_ | refine op_store3 ?_ | refine op_store4 ?_ | refine op_store5 ?_ | refine op_storeK rfl ?_ | refine op_loadK rfl ?_ | refine op_load_aggK rfl ?_ | refine tc_cond_t ?_ | refine tc_cond_f ?_ | refine tc_cond (fun _ => ?_) (fun _ => ?_) | refine tc_block ?_ | refine tc_skip ?_ | refine tc_ret ?_ | refine tc_exit ?_ | refine tc_label ?_ | refine at_seq_ret ?_ | refine at_seq_exit ?_ | refine at_block_normal ?_ | refine at_block_ret ?_ | refine at_block_exit_self ?_ | refine at_block_exit_ne ?_ | refine at_loop_ret ?_ | refine at_loop_exit ?_ | refine at_loop_goto ?_ | refine tl_guard_yes ?_ | refine tl_guard_no ?_ | refine tl_guard_yes' ?_ | refine tl_guard_no' ?_ | refine tl_guard_undef ?_ | refine tl_guard_split (fun _ => ?_) (fun _ => ?_))
    | refine op_storeK rfl ?_
    | fail
  refine ret_door (rs := [.cell 2 30, .cell 3 30, .cell 4 30, .cell 5 30, .cell 6 4]) rfl rfl (.cons (.cell (k := k1) (off := 0) (l := [.float .f64 (f.getD 0 0)]) (S := 30) (fz := (0, 0)) rfl rfl (by simp) rfl) (.cons (.cell (k := k2) (off := 0) (l := [.float .f64 (f.getD 1 0)]) (S := 30) (fz := (0, 0)) rfl rfl (by simp) rfl) (.cons (.cell (k := k3) (off := 0) (l := [.float .f64 (zOf l f)]) (S := 30) (fz := (0, 0)) rfl rfl (by simp) rfl) (.cons (.cell (k := k4) (off := 0) (l := [.float .f64 (mOf l f)]) (S := 30) (fz := (0, 0)) rfl rfl (by simp) rfl) (.cons (.cell (k := k5) (off := 0) (l := [.bool true]) (S := 4) (fz := (0, 0)) rfl rfl (by simp) rfl) (.nil)))))) rfl (List.Sublist.refl _) ?_
  exact ⟨rfl, ex6⟩
end Go.Proofs.Ytckjanekjmfanaa.Gm
