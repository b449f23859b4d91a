/-
  The turn of three places, what lies between two numbers, what lies on a segment, exactly. No conditions.
-/
import Derived.Test.YtomhkbijijdghaaDyp
set_option linter.unusedVariables false
set_option linter.unusedSimpArgs false
namespace Go.Proofs.Ytomhkbijijdghaa.Lmb
open Go.Lg

theorem qOrient (up uq ur : Value) (px py qx qy rx ry : Rat) (H : Heap) (hp : IsP px py 0 up H) (hq : IsP qx qy 0 uq H) (hr : IsP rx ry 0 ur H) :
    Does Try.prog 108 [up, uq, ur] H fun w H' => w = .int .i64 (sgQ ((qx - px) * (ry - py) - (qy - py) * (rx - px))) ∧ ∃ ex, H' = ex ++ H := by
  have hp0 := hp
  have hq0 := hq
  have hr0 := hr
  obtain ⟨_, _, _, _, _, _, _, _, _, _, rfl, p1, p2⟩ := hp
  obtain ⟨_, _, _, _, _, _, _, _, _, _, rfl, q1, q2⟩ := hq
  obtain ⟨_, _, _, _, _, _, _, _, _, _, rfl, r1, r2⟩ := hr
  refine fn_enter 12 Try.func108 fun W => ?_
  repeat' first
    | (first | refine tl_defer ?_ | refine tc_seq ?_ | refine tc_region ?_ | refine at_seq_normal ?_ | refine tl_nil ?_ | refine tl_cons ?_ | refine tl_cons_none ?_ | refine op_move ?_ | refine op_assign ?_ | refine op_fieldAddr ?_ | refine op_load ?_ | refine op_load_agg ?_ | refine op_indexC ?_ | refine op_indexAddr1 ?_ | refine op_indexAddr ?_ | refine op_icmp ?_ | refine op_fcmp ?_ | refine op_iarith ?_ | refine op_bcmp ?_ | refine op_unop_not ?_ | refine op_unop_neg_float ?_ | refine op_unop_neg_int ?_ | refine op_len_slice ?_ | refine op_pick_true ?_ | refine op_pick_false ?_ | refine op_pick_true' ?_ | refine op_pick_false' ?_ | refine op_build ?_ | refine op_extract ?_ | refine op_makeInterface ?_ | refine op_typeAssert ?_ | refine op_ptr_nil ?_ | refine op_nilCheck_ptr ?_ | refine op_nilCheck_meth ?_ | refine op_makeMeth ?_ | refine op_makeFunc ?_ | refine op_itof ?_ | refine op_itoi ?_ | refine op_ftoi ?_ | refine op_iquo ?_ | refine op_irem ?_ | refine op_ibits ?_ | refine op_slice_isnil ?_ | refine op_slice_notnil ?_ | refine op_imax ?_ | refine op_imin ?_ | refine op_shl ?_ | refine op_shr ?_ | (refine op_alloc ?_; intro _) | (refine op_box ?_; intro _) | (refine op_buildSlice ?_; intro _) | (refine op_farith ?_; intro _ _) | refine op_store0 ?_ | refine op_store1 ?_ | refine op_store2 ?_ | refine op_store3 ?_ | refine op_store4 ?_ | refine op_store5 ?_ | refine op_storeK rfl ?_ | refine op_loadK rfl ?_ | refine op_load_aggK rfl ?_ | refine tc_cond_t ?_ | refine tc_cond_f ?_ | refine tc_cond (fun _ => ?_) (fun _ => ?_) | refine tc_block ?_ | refine tc_skip ?_ | refine tc_ret ?_ | refine tc_exit ?_ | refine tc_label ?_ | refine at_seq_ret ?_ | refine at_seq_exit ?_ | refine at_block_normal ?_ | refine at_block_ret ?_ | refine at_block_exit_self ?_ | refine at_block_exit_ne ?_ | refine at_loop_ret ?_ | refine at_loop_exit ?_ | refine at_loop_goto ?_ | refine tl_guard_yes ?_ | refine tl_guard_no ?_ | refine tl_guard_yes' ?_ | refine tl_guard_no' ?_ | refine tl_guard_undef ?_ | refine tl_guard_split (fun _ => ?_) (fun _ => ?_))
    | (refine op_call ((qCross _ _ _ px py qx qy rx ry _ (hp0.mono fun e he => by simp [he]) (hq0.mono fun e he => by simp [he]) (hr0.mono fun e he => by simp [he])).mono ?_); rintro w _ ⟨ex, rfl, hw⟩)
    | (refine op_call ((qSign _ _ _ _ hw).mono ?_); rintro _ _ ⟨rfl, rfl⟩)
    | fail
  exact ret_tmp (hG := List.Sublist.refl _) (hk := ⟨rfl, ExC.ex⟩)
noncomputable def btwB (a b c : Rat) : Bool := (decide (a - c ≤ 0) && decide (c - b ≤ 0)) || (decide (b - c ≤ 0) && decide (c - a ≤ 0))
set_option maxHeartbeats 8000000 in
theorem qBetween (ua ub uc : Value) (a b c : Rat) (H : Heap) (ha : IsQ a 0 ua H) (hb : IsQ b 0 ub H) (hc : IsQ c 0 uc H) :
    Does Try.prog 130 [ua, ub, uc] H fun w H' => w = .bool (btwB a b c) ∧ ∃ ex, H' = ex ++ H := by
  obtain ⟨_, _, _, _, _, rfl⟩ := ha.open
  obtain ⟨_, _, _, _, _, rfl⟩ := hb.open
  obtain ⟨_, _, _, _, _, rfl⟩ := hc.open
  refine fn_enter 29 Try.func130 fun W => ?_
  repeat' first
    | (first | refine tl_defer ?_ | refine tc_seq ?_ | refine tc_region ?_ | refine at_seq_normal ?_ | refine tl_nil ?_ | refine tl_cons ?_ | refine tl_cons_none ?_ | refine op_move ?_ | refine op_assign ?_ | refine op_fieldAddr ?_ | refine op_load ?_ | refine op_load_agg ?_ | refine op_indexC ?_ | refine op_indexAddr1 ?_ | refine op_indexAddr ?_ | refine op_icmp ?_ | refine op_fcmp ?_ | refine op_iarith ?_ | refine op_bcmp ?_ | refine op_unop_not ?_ | refine op_unop_neg_float ?_ | refine op_unop_neg_int ?_ | refine op_len_slice ?_ | refine op_pick_true ?_ | refine op_pick_false ?_ | refine op_pick_true' ?_ | refine op_pick_false' ?_ | refine op_build ?_ | refine op_extract ?_ | refine op_makeInterface ?_ | refine op_typeAssert ?_ | refine op_ptr_nil ?_ | refine op_nilCheck_ptr ?_ | refine op_nilCheck_meth ?_ | refine op_makeMeth ?_ | refine op_makeFunc ?_ | refine op_itof ?_ | refine op_itoi ?_ | refine op_ftoi ?_ | refine op_iquo ?_ | refine op_irem ?_ | refine op_ibits ?_ | refine op_slice_isnil ?_ | refine op_slice_notnil ?_ | refine op_imax ?_ | refine op_imin ?_ | refine op_shl ?_ | refine op_shr ?_ | (refine op_alloc ?_; intro _) | (refine op_box ?_; intro _) | (refine op_buildSlice ?_; intro _) | (refine op_farith ?_; intro _ _) | refine op_store0 ?_ | refine op_store1 ?_ | refine op_store2 ?_ | refine op_store3 ?_ | refine op_store4 ?_ | refine op_store5 ?_ | refine op_storeK rfl ?_ | refine op_loadK rfl ?_ | refine op_load_aggK rfl ?_ | refine tc_cond_t ?_ | refine tc_cond_f ?_ | refine tc_cond (fun _ => ?_) (fun _ => ?_) | refine tc_block ?_ | refine tc_skip ?_ | refine tc_ret ?_ | refine tc_exit ?_ | refine tc_label ?_ | refine at_seq_ret ?_ | refine at_seq_exit ?_ | refine at_block_normal ?_ | refine at_block_ret ?_ | refine at_block_exit_self ?_ | refine at_block_exit_ne ?_ | refine at_loop_ret ?_ | refine at_loop_exit ?_ | refine at_loop_goto ?_ | refine tl_guard_yes ?_ | refine tl_guard_no ?_ | refine tl_guard_yes' ?_ | refine tl_guard_no' ?_ | refine tl_guard_undef ?_ | refine tl_guard_split (fun _ => ?_) (fun _ => ?_))
    | refine op_load_aggK rfl ?_
    | (refine op_call ((qCmp _ _ a c 0 _ (by decide) (ha.mono fun e he => by simp [he]) (hc.mono fun e he => by simp [he])).mono ?_); rintro _ _ ⟨ex1, rfl, rfl⟩)
    | (refine op_call ((qCmp _ _ c b 0 _ (by decide) (hc.mono fun e he => by simp [he]) (hb.mono fun e he => by simp [he])).mono ?_); rintro _ _ ⟨ex2, rfl, rfl⟩)
    | (refine op_call ((qCmp _ _ b c 0 _ (by decide) (hb.mono fun e he => by simp [he]) (hc.mono fun e he => by simp [he])).mono ?_); rintro _ _ ⟨ex3, rfl, rfl⟩)
    | (refine op_call ((qCmp _ _ c a 0 _ (by decide) (hc.mono fun e he => by simp [he]) (ha.mono fun e he => by simp [he])).mono ?_); rintro _ _ ⟨ex4, rfl, rfl⟩)
    | fail
  all_goals
    refine ret_tmp (hG := List.Sublist.refl _) (hk := ⟨congrArg Value.bool ?_, ExC.ex⟩)
    simp only [sgQ_leq] at *
    unfold btwB
    simp_all
noncomputable def onB (px py ax ay bx by' : Rat) : Bool := decide ((bx - ax) * (py - ay) - (by' - ay) * (px - ax) = 0) && btwB ax bx px && btwB ay by' py
set_option maxHeartbeats 8000000 in
theorem qOn (up ua ub : Value) (px py ax ay bx by' : Rat) (H : Heap) (hp : IsP px py 0 up H) (ha : IsP ax ay 0 ua H) (hb : IsP bx by' 0 ub H) :
    Does Try.prog 107 [up, ua, ub] H fun w H' => w = .bool (onB px py ax ay bx by') ∧ ∃ ex, H' = ex ++ H := by
  have hp0 := hp
  have ha0 := ha
  have hb0 := hb
  obtain ⟨_, _, _, _, _, _, _, _, _, _, rfl, p1, p2⟩ := hp
  obtain ⟨_, _, _, _, _, _, _, _, _, _, rfl, a1, a2⟩ := ha
  obtain ⟨_, _, _, _, _, _, _, _, _, _, rfl, b1, b2⟩ := hb
  refine fn_enter 30 Try.func107 fun W => ?_
  repeat' first
    | (first | refine tl_defer ?_ | refine tc_seq ?_ | refine tc_region ?_ | refine at_seq_normal ?_ | refine tl_nil ?_ | refine tl_cons ?_ | refine tl_cons_none ?_ | refine op_move ?_ | refine op_assign ?_ | refine op_fieldAddr ?_ | refine op_load ?_ | refine op_load_agg ?_ | refine op_indexC ?_ | refine op_indexAddr1 ?_ | refine op_indexAddr ?_ | refine op_icmp ?_ | refine op_fcmp ?_ | refine op_iarith ?_ | refine op_bcmp ?_ | refine op_unop_not ?_ | refine op_unop_neg_float ?_ | refine op_unop_neg_int ?_ | refine op_len_slice ?_ | refine op_pick_true ?_ | refine op_pick_false ?_ | refine op_pick_true' ?_ | refine op_pick_false' ?_ | refine op_build ?_ | refine op_extract ?_ | refine op_makeInterface ?_ | refine op_typeAssert ?_ | refine op_ptr_nil ?_ | refine op_nilCheck_ptr ?_ | refine op_nilCheck_meth ?_ | refine op_makeMeth ?_ | refine op_makeFunc ?_ | refine op_itof ?_ | refine op_itoi ?_ | refine op_ftoi ?_ | refine op_iquo ?_ | refine op_irem ?_ | refine op_ibits ?_ | refine op_slice_isnil ?_ | refine op_slice_notnil ?_ | refine op_imax ?_ | refine op_imin ?_ | refine op_shl ?_ | refine op_shr ?_ | (refine op_alloc ?_; intro _) | (refine op_box ?_; intro _) | (refine op_buildSlice ?_; intro _) | (refine op_farith ?_; intro _ _) | refine op_store0 ?_ | refine op_store1 ?_ | refine op_store2 ?_ | refine op_store3 ?_ | refine op_store4 ?_ | refine op_store5 ?_ | refine op_storeK rfl ?_ | refine op_loadK rfl ?_ | refine op_load_aggK rfl ?_ | refine tc_cond_t ?_ | refine tc_cond_f ?_ | refine tc_cond (fun _ => ?_) (fun _ => ?_) | refine tc_block ?_ | refine tc_skip ?_ | refine tc_ret ?_ | refine tc_exit ?_ | refine tc_label ?_ | refine at_seq_ret ?_ | refine at_seq_exit ?_ | refine at_block_normal ?_ | refine at_block_ret ?_ | refine at_block_exit_self ?_ | refine at_block_exit_ne ?_ | refine at_loop_ret ?_ | refine at_loop_exit ?_ | refine at_loop_goto ?_ | refine tl_guard_yes ?_ | refine tl_guard_no ?_ | refine tl_guard_yes' ?_ | refine tl_guard_no' ?_ | refine tl_guard_undef ?_ | refine tl_guard_split (fun _ => ?_) (fun _ => ?_))
    | refine op_load_aggK rfl ?_
    | (refine op_call ((qOrient _ _ _ ax ay bx by' px py _ (ha0.mono fun e he => by simp [he]) (hb0.mono fun e he => by simp [he]) (hp0.mono fun e he => by simp [he])).mono ?_); rintro _ _ ⟨rfl, ex1, rfl⟩)
    | (refine op_call ((qBetween _ _ _ ax bx px _ (a1.mono fun e he => by simp [he]) (b1.mono fun e he => by simp [he]) (p1.mono fun e he => by simp [he])).mono ?_); rintro _ _ ⟨rfl, ex2, rfl⟩)
    | (refine op_call ((qBetween _ _ _ ay by' py _ (a2.mono fun e he => by simp [he]) (b2.mono fun e he => by simp [he]) (p2.mono fun e he => by simp [he])).mono ?_); rintro _ _ ⟨rfl, ex3, rfl⟩)
    | fail
  all_goals
    refine ret_tmp (hG := List.Sublist.refl _) (hk := ⟨congrArg Value.bool ?_, ExC.ex⟩)
    simp only [sgQ_eq] at *
    unfold onB
    simp_all
end Go.Proofs.Ytomhkbijijdghaa.Lmb
