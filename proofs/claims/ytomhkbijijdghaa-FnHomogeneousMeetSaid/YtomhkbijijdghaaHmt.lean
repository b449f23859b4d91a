/-
  Fractions of exact numbers: where two lines cross; how near a float is to a fraction. No conditions.
-/
import Derived.Test.YtomhkbijijdghaaDyq
import Derived.Test.YtomhkbijijdghaaLg24
import Derived.Test.YtomhkbijijdghaaLg20
set_option linter.unusedVariables false
set_option linter.unusedSimpArgs false
namespace Go.Proofs.Ytomhkbijijdghaa.Lmb
open Go.Lg

def rN (n d : Rat) : Rat := if d < 0 then -n else n
def rD (d : Rat) : Rat := if d < 0 then -d else d
theorem IsQ.one {q d u} {G : Heap} {k : Nat} {o R} (h : IsQ q d u G) [MidC G k o R] (hn : NoU (k, o)) (o' : Obj) : IsQ q d u ((k, o') :: R) := h.skip (mid_mem (y := (k, o')) hn)
theorem IsP.one {x y d u} {G : Heap} {k : Nat} {o R} (h : IsP x y d u G) [MidC G k o R] (hn : NoU (k, o)) (o' : Obj) : IsP x y d u ((k, o') :: R) := h.skip (mid_mem (y := (k, o')) hn)
theorem tc_fact {P : Program} {W : World} {n : Nat} {ds : List Deferred} {c : Code} {Q : Exit → Act → World → Prop} {E : Env} {G : Heap} (p : Heap → Prop) (h : p G) (k : p G → TC P W n ds c Q E G) : TC P W n ds c Q E G := k h
set_option maxHeartbeats 8000000 in
theorem qRatio (un ud : Value) (n dn : Rat) (d : Nat) (H : Heap) (hn : IsQ n d un H) (hd : IsQ dn d ud H) : Does Try.prog 92 [un, ud] H fun w H' => ∃ ex, H' = ex ++ H ∧ IsP (rN n dn) (rD dn) d w H' := by
  obtain ⟨b1, a1, k1, c1, e1, rfl⟩ := hn.open
  obtain ⟨b2, a2, k2, c2, e2, rfl⟩ := hd.open
  refine fn_enter 16 Try.func92 fun W => ?_
  unfold rN rD
  by_cases h0 : dn < 0
  · rw [if_pos h0, if_pos h0]
    have hc : icmp .lss (sgQ dn) 0 = true := by rw [sgQ_lss, decide_eq_true h0]
    repeat' first
      | (refine op_call ((qSign _ _ _ _ (hd.mono fun e he => by simp [he])).mono ?_); rintro _ _ ⟨rfl, rfl⟩)
      | (refine op_icmp ?_; rw [hc])
      | (first | refine tl_defer ?_ | refine tc_seq ?_ | refine tc_region ?_ | refine at_seq_normal ?_ | refine tl_nil ?_ | refine tl_cons ?_ | refine tl_cons_none ?_ | refine op_move ?_ | refine op_assign ?_ | refine op_fieldAddr ?_ | refine op_load ?_ | refine op_load_agg ?_ | refine op_indexC ?_ | refine op_indexAddr1 ?_ | refine op_indexAddr ?_ | refine op_icmp ?_ | refine op_fcmp ?_ | refine op_iarith ?_ | refine op_bcmp ?_ | refine op_unop_not ?_ | refine op_unop_neg_float ?_ | refine op_unop_neg_int ?_ | refine op_len_slice ?_ | refine op_pick_true ?_ | refine op_pick_false ?_ | refine op_pick_true' ?_ | refine op_pick_false' ?_ | refine op_build ?_ | refine op_extract ?_ | refine op_makeInterface ?_ | refine op_typeAssert ?_ | refine op_ptr_nil ?_ | refine op_nilCheck_ptr ?_ | refine op_nilCheck_meth ?_ | refine op_makeMeth ?_ | refine op_makeFunc ?_ | refine op_itof ?_ | refine op_itoi ?_ | refine op_ftoi ?_ | refine op_iquo ?_ | refine op_irem ?_ | refine op_ibits ?_ | refine op_slice_isnil ?_ | refine op_slice_notnil ?_ | refine op_imax ?_ | refine op_imin ?_ | refine op_shl ?_ | refine op_shr ?_ | (refine op_alloc ?_; intro _) | (refine op_box ?_; intro _) | (refine op_buildSlice ?_; intro _) | (refine op_farith ?_; intro _ _) | refine op_store0 ?_ | refine op_store1 ?_ | refine op_store2 ?_ | refine op_store3 ?_ | refine op_store4 ?_ | refine op_store5 ?_ | refine op_storeK rfl ?_ | refine op_loadK rfl ?_ | refine op_load_aggK rfl ?_ | refine tc_cond_t ?_ | refine tc_cond_f ?_ | refine tc_cond (fun _ => ?_) (fun _ => ?_) | refine tc_block ?_ | refine tc_skip ?_ | refine tc_ret ?_ | refine tc_exit ?_ | refine tc_label ?_ | refine at_seq_ret ?_ | refine at_seq_exit ?_ | refine at_block_normal ?_ | refine at_block_ret ?_ | refine at_block_exit_self ?_ | refine at_block_exit_ne ?_ | refine at_loop_ret ?_ | refine at_loop_exit ?_ | refine at_loop_goto ?_ | refine tl_guard_yes ?_ | refine tl_guard_no ?_ | refine tl_guard_yes' ?_ | refine tl_guard_no' ?_ | refine tl_guard_undef ?_ | refine tl_guard_split (fun _ => ?_) (fun _ => ?_))
      | fail
    rename_i kn kd kr
    apply fun hole0 hole1 hE hD hml hdl hpr prem fin => tc_drawnD 4 [PhiD.is hole0, PhiD.gen (fun w _ G => IsQ' (-n) d w G), PhiD.is hole1, PhiD.gen (fun w _ G => IsQ' (-dn) d w G)]
      [some 8, some 9, some 10, some 11, some 12, none] [[], [0], [], [2, 1]] mixed ⟨(fun _ _ _ _ h hs => IsQ'.mono h hs), (fun _ _ _ _ h hs => IsQ'.mono h hs), trivial⟩ prem fin hE hD rfl hml hdl hpr
    rotate_left 3
    · first | kernel_rfl | exact rfl
    · first | kernel_rfl | exact rfl
    · exact Nat.le_of_ble_eq_true rfl
    · first | kernel_rfl | exact rfl
    · first | kernel_rfl | exact rfl
    refine ⟨fun G hG => ?_, fun G hG => ?_, fun G hG => ?_, fun G hG => ?_, trivial⟩
    · simp only [withD, nthD, Step2, nthDst, putO, postD]
      ((first | refine op_load ?_ | refine op_load_agg ?_ | refine op_load ?_ (hm := Sub.mem (by assumption) (by (repeat (apply List.mem_cons_of_mem)); assumption)) | refine op_load_agg ?_ (hm := Sub.mem (by assumption) (by (repeat (apply List.mem_cons_of_mem)); assumption)) | refine op_loadH hG rfl ?_ | refine op_load_aggH hG rfl ?_); exact ⟨[], rfl, rfl, rfl⟩)
    · simp only [withD, nthD, Step2, nthDst, putO, postD]
      (refine op_call ((qMinus _ n d _ (hn.mono fun e he => hG e (by simp [he]))).mono ?_); rintro w _ ⟨ex, rfl, hw⟩; exact ⟨ex, rfl, hw.fine⟩)
    · simp only [withD, nthD, Step2, nthDst, putO, postD]
      ((first | refine op_load ?_ | refine op_load_agg ?_ | refine op_load ?_ (hm := Sub.mem (by assumption) (by (repeat (apply List.mem_cons_of_mem)); assumption)) | refine op_load_agg ?_ (hm := Sub.mem (by assumption) (by (repeat (apply List.mem_cons_of_mem)); assumption)) | refine op_loadH hG rfl ?_ | refine op_load_aggH hG rfl ?_); exact ⟨[], rfl, rfl, rfl⟩)
    · simp only [withD, nthD, Step2, nthDst, putO, postD]
      rintro _ _ ⟨bg1, ag1, kg1, cg1, eg1, rfl, g1⟩ -
      (refine op_call ((qMinus _ dn d _ (hd.mono fun e he => hG e (by simp [he]))).mono ?_); rintro w _ ⟨ex, rfl, hw⟩; exact ⟨ex, rfl, hw.fine⟩)
    simp only [FinalsD, nthDst, putO, List.drop_succ_cons, List.drop_zero]
    rintro _ _ _ _ ⟨⟨bg3, ag3, kg3, cg3, eg3, rfl, g3⟩, ⟨bg1, ag1, kg1, cg1, eg1, rfl, g1⟩, -⟩
    try simp only [List.nil_append]
    repeat' first
      | refine op_storeK rfl ?_
      | (first | refine tl_defer ?_ | refine tc_seq ?_ | refine tc_region ?_ | refine at_seq_normal ?_ | refine tl_nil ?_ | refine tl_cons ?_ | refine tl_cons_none ?_ | refine op_move ?_ | refine op_assign ?_ | refine op_fieldAddr ?_ | refine op_load ?_ | refine op_load_agg ?_ | refine op_indexC ?_ | refine op_indexAddr1 ?_ | refine op_indexAddr ?_ | refine op_icmp ?_ | refine op_fcmp ?_ | refine op_iarith ?_ | refine op_bcmp ?_ | refine op_unop_not ?_ | refine op_unop_neg_float ?_ | refine op_unop_neg_int ?_ | refine op_len_slice ?_ | refine op_pick_true ?_ | refine op_pick_false ?_ | refine op_pick_true' ?_ | refine op_pick_false' ?_ | refine op_build ?_ | refine op_extract ?_ | refine op_makeInterface ?_ | refine op_typeAssert ?_ | refine op_ptr_nil ?_ | refine op_nilCheck_ptr ?_ | refine op_nilCheck_meth ?_ | refine op_makeMeth ?_ | refine op_makeFunc ?_ | refine op_itof ?_ | refine op_itoi ?_ | refine op_ftoi ?_ | refine op_iquo ?_ | refine op_irem ?_ | refine op_ibits ?_ | refine op_slice_isnil ?_ | refine op_slice_notnil ?_ | refine op_imax ?_ | refine op_imin ?_ | refine op_shl ?_ | refine op_shr ?_ | (refine op_alloc ?_; intro _) | (refine op_box ?_; intro _) | (refine op_buildSlice ?_; intro _) | (refine op_farith ?_; intro _ _) | refine op_store0 ?_ | refine op_store1 ?_ | refine op_store2 ?_ | refine op_store3 ?_ | refine op_store4 ?_ | refine op_store5 ?_ | refine op_storeK rfl ?_ | refine op_loadK rfl ?_ | refine op_load_aggK rfl ?_ | refine tc_cond_t ?_ | refine tc_cond_f ?_ | refine tc_cond (fun _ => ?_) (fun _ => ?_) | refine tc_block ?_ | refine tc_skip ?_ | refine tc_ret ?_ | refine tc_exit ?_ | refine tc_label ?_ | refine at_seq_ret ?_ | refine at_seq_exit ?_ | refine at_block_normal ?_ | refine at_block_ret ?_ | refine at_block_exit_self ?_ | refine at_block_exit_ne ?_ | refine at_loop_ret ?_ | refine at_loop_exit ?_ | refine at_loop_goto ?_ | refine tl_guard_yes ?_ | refine tl_guard_no ?_ | refine tl_guard_yes' ?_ | refine tl_guard_no' ?_ | refine tl_guard_undef ?_ | refine tl_guard_split (fun _ => ?_) (fun _ => ?_))
      | fail
    refine ret_one (.agg (T := 82) (k := kr) (off := 0) (m := _) rfl rfl mem0 rfl rfl) (hG := List.Sublist.refl _) (hk := exq ?_)
    exact IsP.skip ⟨_, _, _, _, _, _, _, _, _, _, rfl, g1, g3⟩ (mid_mem (k := kr) noU6)
  · rw [if_neg h0, if_neg h0]
    have hc : icmp .lss (sgQ dn) 0 = false := by rw [sgQ_lss, decide_eq_false h0]
    repeat' first
      | (refine op_call ((qSign _ _ _ _ (hd.mono fun e he => by simp [he])).mono ?_); rintro _ _ ⟨rfl, rfl⟩)
      | (refine op_icmp ?_; rw [hc])
      | refine op_storeK rfl ?_
      | (first | refine tl_defer ?_ | refine tc_seq ?_ | refine tc_region ?_ | refine at_seq_normal ?_ | refine tl_nil ?_ | refine tl_cons ?_ | refine tl_cons_none ?_ | refine op_move ?_ | refine op_assign ?_ | refine op_fieldAddr ?_ | refine op_load ?_ | refine op_load_agg ?_ | refine op_indexC ?_ | refine op_indexAddr1 ?_ | refine op_indexAddr ?_ | refine op_icmp ?_ | refine op_fcmp ?_ | refine op_iarith ?_ | refine op_bcmp ?_ | refine op_unop_not ?_ | refine op_unop_neg_float ?_ | refine op_unop_neg_int ?_ | refine op_len_slice ?_ | refine op_pick_true ?_ | refine op_pick_false ?_ | refine op_pick_true' ?_ | refine op_pick_false' ?_ | refine op_build ?_ | refine op_extract ?_ | refine op_makeInterface ?_ | refine op_typeAssert ?_ | refine op_ptr_nil ?_ | refine op_nilCheck_ptr ?_ | refine op_nilCheck_meth ?_ | refine op_makeMeth ?_ | refine op_makeFunc ?_ | refine op_itof ?_ | refine op_itoi ?_ | refine op_ftoi ?_ | refine op_iquo ?_ | refine op_irem ?_ | refine op_ibits ?_ | refine op_slice_isnil ?_ | refine op_slice_notnil ?_ | refine op_imax ?_ | refine op_imin ?_ | refine op_shl ?_ | refine op_shr ?_ | (refine op_alloc ?_; intro _) | (refine op_box ?_; intro _) | (refine op_buildSlice ?_; intro _) | (refine op_farith ?_; intro _ _) | refine op_store0 ?_ | refine op_store1 ?_ | refine op_store2 ?_ | refine op_store3 ?_ | refine op_store4 ?_ | refine op_store5 ?_ | refine op_storeK rfl ?_ | refine op_loadK rfl ?_ | refine op_load_aggK rfl ?_ | refine tc_cond_t ?_ | refine tc_cond_f ?_ | refine tc_cond (fun _ => ?_) (fun _ => ?_) | refine tc_block ?_ | refine tc_skip ?_ | refine tc_ret ?_ | refine tc_exit ?_ | refine tc_label ?_ | refine at_seq_ret ?_ | refine at_seq_exit ?_ | refine at_block_normal ?_ | refine at_block_ret ?_ | refine at_block_exit_self ?_ | refine at_block_exit_ne ?_ | refine at_loop_ret ?_ | refine at_loop_exit ?_ | refine at_loop_goto ?_ | refine tl_guard_yes ?_ | refine tl_guard_no ?_ | refine tl_guard_yes' ?_ | refine tl_guard_no' ?_ | refine tl_guard_undef ?_ | refine tl_guard_split (fun _ => ?_) (fun _ => ?_))
      | fail
    rename_i kr
    refine ret_one (.agg (T := 82) (k := kr) (off := 0) (m := _) rfl rfl mem0 rfl rfl) (hG := List.Sublist.refl _) (hk := exq ?_)
    exact IsP.mono ⟨_, _, _, _, _, _, _, _, _, _, rfl, hn, hd⟩ (fun e he => by simp [he])
theorem qIntOf (n : Int) (H : Heap) (h0 : -4611686018427387904 < n) (h1 : n < 4611686018427387904) : Does Try.prog 39 [.int .i64 n] H fun w H' => ∃ ex, H' = ex ++ H ∧ IsQ (n : Rat) 0 w H' := by
  refine fn_enter 6 Try.func39 fun W => ?_
  repeat' first
    | (refine op_call ((wholeOf n _ h0 h1).mono ?_); rintro w _ ⟨ex1, rfl, hw⟩; obtain ⟨b1, xs, a1, c1, rfl, hw2⟩ := id hw)
    | refine op_storeK rfl ?_
    | (first | refine tl_defer ?_ | refine tc_seq ?_ | refine tc_region ?_ | refine at_seq_normal ?_ | refine tl_nil ?_ | refine tl_cons ?_ | refine tl_cons_none ?_ | refine op_move ?_ | refine op_assign ?_ | refine op_fieldAddr ?_ | refine op_load ?_ | refine op_load_agg ?_ | refine op_indexC ?_ | refine op_indexAddr1 ?_ | refine op_indexAddr ?_ | refine op_icmp ?_ | refine op_fcmp ?_ | refine op_iarith ?_ | refine op_bcmp ?_ | refine op_unop_not ?_ | refine op_unop_neg_float ?_ | refine op_unop_neg_int ?_ | refine op_len_slice ?_ | refine op_pick_true ?_ | refine op_pick_false ?_ | refine op_pick_true' ?_ | refine op_pick_false' ?_ | refine op_build ?_ | refine op_extract ?_ | refine op_makeInterface ?_ | refine op_typeAssert ?_ | refine op_ptr_nil ?_ | refine op_nilCheck_ptr ?_ | refine op_nilCheck_meth ?_ | refine op_makeMeth ?_ | refine op_makeFunc ?_ | refine op_itof ?_ | refine op_itoi ?_ | refine op_ftoi ?_ | refine op_iquo ?_ | refine op_irem ?_ | refine op_ibits ?_ | refine op_slice_isnil ?_ | refine op_slice_notnil ?_ | refine op_imax ?_ | refine op_imin ?_ | refine op_shl ?_ | refine op_shr ?_ | (refine op_alloc ?_; intro _) | (refine op_box ?_; intro _) | (refine op_buildSlice ?_; intro _) | (refine op_farith ?_; intro _ _) | refine op_store0 ?_ | refine op_store1 ?_ | refine op_store2 ?_ | refine op_store3 ?_ | refine op_store4 ?_ | refine op_store5 ?_ | refine op_storeK rfl ?_ | refine op_loadK rfl ?_ | refine op_load_aggK rfl ?_ | refine tc_cond_t ?_ | refine tc_cond_f ?_ | refine tc_cond (fun _ => ?_) (fun _ => ?_) | refine tc_block ?_ | refine tc_skip ?_ | refine tc_ret ?_ | refine tc_exit ?_ | refine tc_label ?_ | refine at_seq_ret ?_ | refine at_seq_exit ?_ | refine at_block_normal ?_ | refine at_block_ret ?_ | refine at_block_exit_self ?_ | refine at_block_exit_ne ?_ | refine at_loop_ret ?_ | refine at_loop_exit ?_ | refine at_loop_goto ?_ | refine tl_guard_yes ?_ | refine tl_guard_no ?_ | refine tl_guard_yes' ?_ | refine tl_guard_no' ?_ | refine tl_guard_undef ?_ | refine tl_guard_split (fun _ => ?_) (fun _ => ?_))
    | fail
  rename_i kr
  refine ret_one (.agg (T := 68) (k := kr) (off := 0) (m := _) rfl rfl mem0 rfl rfl) (hG := List.Sublist.refl _) (hk := exq ?_)
  have hq : IsQ (n : Rat) 0 (.agg ⟨[.bool b1, .slice a1 xs.length c1, .int .i64 0]⟩) _ := ⟨n, 0, 2, ⟨b1, a1, xs.length, c1, rfl, hw⟩, by rw [p2_zero, Rat.mul_one], by decide, by decide, by decide⟩
  exact hq.skip (mid_mem (k := kr) noU3)
theorem qShift (u : Value) (q : Rat) (d : Nat) (n : Int) (H : Heap) (hd : d ≤ 8) (hn : -1100 ≤ n ∧ n ≤ 1100) (hu : IsQ q d u H) : Does Try.prog 103 [u, .int .i64 n] H fun w H' => ∃ ex, H' = ex ++ H ∧ IsQ (q * p2 n) (d + 1) w H' := by
  obtain ⟨m, e, L, ⟨b1, a1, k1, c1, rfl, h1⟩, h2, h3, h4, h5⟩ := hu
  obtain ⟨p4, p5, p6⟩ := pow4 hd
  have w1 : IntKind.i64.wrap (iarith .add e n) = e + n := by
    rw [wrap_add (by omega) (by omega)]
  refine fn_enter 12 Try.func103 fun W => ?_
  repeat' first
    | (refine op_iarith ?_; rw [w1])
    | refine op_storeK rfl ?_
    | (first | refine tl_defer ?_ | refine tc_seq ?_ | refine tc_region ?_ | refine at_seq_normal ?_ | refine tl_nil ?_ | refine tl_cons ?_ | refine tl_cons_none ?_ | refine op_move ?_ | refine op_assign ?_ | refine op_fieldAddr ?_ | refine op_load ?_ | refine op_load_agg ?_ | refine op_indexC ?_ | refine op_indexAddr1 ?_ | refine op_indexAddr ?_ | refine op_icmp ?_ | refine op_fcmp ?_ | refine op_iarith ?_ | refine op_bcmp ?_ | refine op_unop_not ?_ | refine op_unop_neg_float ?_ | refine op_unop_neg_int ?_ | refine op_len_slice ?_ | refine op_pick_true ?_ | refine op_pick_false ?_ | refine op_pick_true' ?_ | refine op_pick_false' ?_ | refine op_build ?_ | refine op_extract ?_ | refine op_makeInterface ?_ | refine op_typeAssert ?_ | refine op_ptr_nil ?_ | refine op_nilCheck_ptr ?_ | refine op_nilCheck_meth ?_ | refine op_makeMeth ?_ | refine op_makeFunc ?_ | refine op_itof ?_ | refine op_itoi ?_ | refine op_ftoi ?_ | refine op_iquo ?_ | refine op_irem ?_ | refine op_ibits ?_ | refine op_slice_isnil ?_ | refine op_slice_notnil ?_ | refine op_imax ?_ | refine op_imin ?_ | refine op_shl ?_ | refine op_shr ?_ | (refine op_alloc ?_; intro _) | (refine op_box ?_; intro _) | (refine op_buildSlice ?_; intro _) | (refine op_farith ?_; intro _ _) | refine op_store0 ?_ | refine op_store1 ?_ | refine op_store2 ?_ | refine op_store3 ?_ | refine op_store4 ?_ | refine op_store5 ?_ | refine op_storeK rfl ?_ | refine op_loadK rfl ?_ | refine op_load_aggK rfl ?_ | refine tc_cond_t ?_ | refine tc_cond_f ?_ | refine tc_cond (fun _ => ?_) (fun _ => ?_) | refine tc_block ?_ | refine tc_skip ?_ | refine tc_ret ?_ | refine tc_exit ?_ | refine tc_label ?_ | refine at_seq_ret ?_ | refine at_seq_exit ?_ | refine at_block_normal ?_ | refine at_block_ret ?_ | refine at_block_exit_self ?_ | refine at_block_exit_ne ?_ | refine at_loop_ret ?_ | refine at_loop_exit ?_ | refine at_loop_goto ?_ | refine tl_guard_yes ?_ | refine tl_guard_no ?_ | refine tl_guard_yes' ?_ | refine tl_guard_no' ?_ | refine tl_guard_undef ?_ | refine tl_guard_split (fun _ => ?_) (fun _ => ?_))
    | fail
  rename_i kb kr
  refine ret_one (.agg (T := 68) (k := kr) (off := 0) (m := _) rfl rfl mem0 rfl rfl) (hG := List.Sublist.refl _) (hk := exq ?_)
  refine ⟨m, e + n, L, ⟨b1, a1, k1, c1, rfl, h1.mono fun e he => by simp [he]⟩, ?_, ?_, ?_, ?_⟩
  · rw [h2, p2_add]; grind
  · rw [p6]; omega
  · rw [p6]; omega
  · rw [p6]; omega
abbrev z6 : Value := .agg ⟨[.bool false, .slice none 0 0, .int .i64 0, .bool false, .slice none 0 0, .int .i64 0]⟩
set_option maxHeartbeats 32000000 in
theorem qCrossing (ua ub uc ud : Value) (ax ay bx b2 cx cy dx dy : Rat) (H : Heap) (ha : IsP ax ay 0 ua H) (hb : IsP bx b2 0 ub H) (hc : IsP cx cy 0 uc H) (hd : IsP dx dy 0 ud H) :
    Does Try.prog 37 [ua, ub, uc, ud] H fun w H' => ∃ ex, H' = ex ++ H ∧
      (((bx - ax) * (dy - cy) - (b2 - ay) * (dx - cx) = 0 ∧ w = .tuple #[z6, z6, .bool false]) ∨
       ((bx - ax) * (dy - cy) - (b2 - ay) * (dx - cx) ≠ 0 ∧ ∃ r1 r2, w = .tuple #[r1, r2, .bool true] ∧
         IsP (rN (ax * ((bx - ax) * (dy - cy) - (b2 - ay) * (dx - cx)) + ((cx - ax) * (dy - cy) - (cy - ay) * (dx - cx)) * (bx - ax)) ((bx - ax) * (dy - cy) - (b2 - ay) * (dx - cx))) (rD ((bx - ax) * (dy - cy) - (b2 - ay) * (dx - cx))) 5 r1 H' ∧
         IsP (rN (ay * ((bx - ax) * (dy - cy) - (b2 - ay) * (dx - cx)) + ((cx - ax) * (dy - cy) - (cy - ay) * (dx - cx)) * (b2 - ay)) ((bx - ax) * (dy - cy) - (b2 - ay) * (dx - cx))) (rD ((bx - ax) * (dy - cy) - (b2 - ay) * (dx - cx))) 5 r2 H')) := by
  obtain ⟨_, _, _, _, _, _, _, _, _, _, rfl, a1, a2⟩ := ha
  obtain ⟨_, _, _, _, _, _, _, _, _, _, rfl, b1, b2'⟩ := hb
  obtain ⟨_, _, _, _, _, _, _, _, _, _, rfl, c1, c2⟩ := hc
  obtain ⟨_, _, _, _, _, _, _, _, _, _, rfl, d1, d2⟩ := hd
  refine fn_enter 84 Try.func37 fun W => ?_
  repeat'
    first
      | refine tl_defer ?_ | refine tc_seq ?_ | refine tc_region ?_ | refine at_seq_normal ?_ | refine tl_nil ?_ | refine tl_cons ?_ | refine tl_cons_none ?_ | refine op_move ?_
      | refine op_assign ?_ | refine op_fieldAddr ?_ | refine op_load ?_ | refine op_load_agg ?_ | refine op_indexC ?_ | refine op_indexAddr1 ?_ | refine op_indexAddr ?_ | refine op_icmp ?_
      | refine op_fcmp ?_ | refine op_iarith ?_ | refine op_bcmp ?_ | refine op_unop_not ?_ | refine op_unop_neg_float ?_ | refine op_unop_neg_int ?_ | refine op_len_slice ?_ | refine op_pick_true ?_
      | refine op_pick_false ?_ | refine op_pick_true' ?_ | refine op_pick_false' ?_ | refine op_build ?_ | refine op_extract ?_ | refine op_makeInterface ?_ | refine op_typeAssert ?_ | refine op_ptr_nil ?_
      | refine op_nilCheck_ptr ?_ | refine op_nilCheck_meth ?_ | refine op_makeMeth ?_ | refine op_makeFunc ?_ | refine op_itof ?_ | refine op_itoi ?_ | refine op_ftoi ?_ | refine op_iquo ?_
      | refine op_irem ?_ | refine op_ibits ?_ | refine op_slice_isnil ?_ | refine op_slice_notnil ?_ | refine op_imax ?_ | refine op_imin ?_ | refine op_shl ?_ | refine op_shr ?_
      | (refine op_alloc ?_; intro _) | (refine op_box ?_; intro _) | (refine op_buildSlice ?_; intro _) | (refine op_farith ?_; intro _ _) | refine op_store0 ?_ | refine op_store1 ?_ | refine op_store2 ?_ | refine op_store3 ?_
      | refine op_store4 ?_ | refine op_store5 ?_ | refine tc_cond_t ?_ | refine tc_cond_f ?_ | refine tc_cond (fun _ => ?_) (fun _ => ?_) | refine tc_block ?_ | refine tc_skip ?_ | refine tc_ret ?_
      | refine tc_exit ?_ | refine tc_label ?_ | refine at_seq_ret ?_ | refine at_seq_exit ?_ | refine at_block_normal ?_ | refine at_block_ret ?_ | refine at_block_exit_self ?_ | refine at_block_exit_ne ?_
      | refine at_loop_ret ?_ | refine at_loop_exit ?_ | refine at_loop_goto ?_ | refine tl_guard_yes ?_ | refine tl_guard_no ?_ | refine tl_guard_yes' ?_ | refine tl_guard_no' ?_ | refine tl_guard_undef ?_
      | refine tl_guard_split (fun _ => ?_) (fun _ => ?_)
  rename_i ka kb kc kd kx ky
  apply fun hole0 hole1 hole2 hole3 hole4 hole5 hole6 hole7 hole8 hole9 hE hD hml hdl hpr prem fin => tc_drawnD 12 [PhiD.is hole0, PhiD.is hole1, PhiD.is hole2, PhiD.is hole3, PhiD.gen (fun w _ G => IsQ' (bx - ax) 1 w G), PhiD.is hole4, PhiD.is hole5, PhiD.is hole6, PhiD.is hole7, PhiD.gen (fun w _ G => IsQ' (b2 - ay) 1 w G), PhiD.fresh (fun k => .pointer (some ⟨k, 0, none⟩)) hole8, PhiD.fresh (fun k => .pointer (some ⟨k, 0, none⟩)) hole9]
    [some 17, some 18, some 19, some 20, some 21, some 22, some 23, some 24, some 25, some 26, some 11, some 12, none, none] [[], [0], [], [2], [1, 3], [], [5], [], [7], [6, 8, 4], [], []] mixed ⟨(fun _ _ _ _ h hs => IsQ'.mono h hs), (fun _ _ _ _ h hs => IsQ'.mono h hs), trivial⟩ prem fin hE hD rfl hml hdl hpr
  rotate_left 11
  · first | kernel_rfl | exact rfl
  · first | kernel_rfl | exact rfl
  · exact Nat.le_of_ble_eq_true rfl
  · first | kernel_rfl | exact rfl
  · first | kernel_rfl | exact rfl
  refine ⟨fun G hG => ?_, fun G hG => ?_, fun G hG => ?_, fun G hG => ?_, fun G hG => ?_, fun G hG => ?_, fun G hG => ?_, fun G hG => ?_, fun G hG => ?_, fun G hG => ?_, fun G hG => ?_, fun G hG => ?_, trivial⟩
  · simp only [withD, nthD, Step2, nthDst, putO, postD]
    (refine op_fieldAddr ?_; exact ⟨[], rfl, rfl, rfl⟩)
  · simp only [withD, nthD, Step2, nthDst, putO, postD]
    ((first | refine op_load ?_ | refine op_load_agg ?_ | refine op_load ?_ (hm := Sub.mem (by assumption) (by (repeat (apply List.mem_cons_of_mem)); assumption)) | refine op_load_agg ?_ (hm := Sub.mem (by assumption) (by (repeat (apply List.mem_cons_of_mem)); assumption)) | refine op_loadH hG rfl ?_ | refine op_load_aggH hG rfl ?_); exact ⟨[], rfl, rfl, rfl⟩)
  · simp only [withD, nthD, Step2, nthDst, putO, postD]
    (refine op_fieldAddr ?_; exact ⟨[], rfl, rfl, rfl⟩)
  · simp only [withD, nthD, Step2, nthDst, putO, postD]
    ((first | refine op_load ?_ | refine op_load_agg ?_ | refine op_load ?_ (hm := Sub.mem (by assumption) (by (repeat (apply List.mem_cons_of_mem)); assumption)) | refine op_load_agg ?_ (hm := Sub.mem (by assumption) (by (repeat (apply List.mem_cons_of_mem)); assumption)) | refine op_loadH hG rfl ?_ | refine op_load_aggH hG rfl ?_); exact ⟨[], rfl, rfl, rfl⟩)
  · simp only [withD, nthD, Step2, nthDst, putO, postD]
    (refine op_call ((qSub _ _ bx ax 0 _ (by decide) (b1.mono fun e he => hG e (by simp [he])) (a1.mono fun e he => hG e (by simp [he]))).mono ?_); rintro w _ ⟨ex, rfl, hw⟩; exact ⟨ex, rfl, hw.fine⟩)
  · simp only [withD, nthD, Step2, nthDst, putO, postD]
    (refine op_fieldAddr ?_; exact ⟨[], rfl, rfl, rfl⟩)
  · simp only [withD, nthD, Step2, nthDst, putO, postD]
    ((first | refine op_load ?_ | refine op_load_agg ?_ | refine op_load ?_ (hm := Sub.mem (by assumption) (by (repeat (apply List.mem_cons_of_mem)); assumption)) | refine op_load_agg ?_ (hm := Sub.mem (by assumption) (by (repeat (apply List.mem_cons_of_mem)); assumption)) | refine op_loadH hG rfl ?_ | refine op_load_aggH hG rfl ?_); exact ⟨[], rfl, rfl, rfl⟩)
  · simp only [withD, nthD, Step2, nthDst, putO, postD]
    (refine op_fieldAddr ?_; exact ⟨[], rfl, rfl, rfl⟩)
  · simp only [withD, nthD, Step2, nthDst, putO, postD]
    ((first | refine op_load ?_ | refine op_load_agg ?_ | refine op_load ?_ (hm := Sub.mem (by assumption) (by (repeat (apply List.mem_cons_of_mem)); assumption)) | refine op_load_agg ?_ (hm := Sub.mem (by assumption) (by (repeat (apply List.mem_cons_of_mem)); assumption)) | refine op_loadH hG rfl ?_ | refine op_load_aggH hG rfl ?_); exact ⟨[], rfl, rfl, rfl⟩)
  · simp only [withD, nthD, Step2, nthDst, putO, postD]
    rintro _ _ ⟨bg1, ag1, kg1, cg1, eg1, rfl, g1⟩ -
    (refine op_call ((qSub _ _ b2 ay 0 _ (by decide) (b2'.mono fun e he => hG e (by simp [he])) (a2.mono fun e he => hG e (by simp [he]))).mono ?_); rintro w _ ⟨ex, rfl, hw⟩; exact ⟨ex, rfl, hw.fine⟩)
  · simp only [withD, nthD, Step2, nthDst, putO, postD]
    (refine op_alloc ?_; intro _; exact ⟨[(_, _)], rfl, ⟨_, rfl, rfl⟩⟩)
  · simp only [withD, nthD, Step2, nthDst, putO, postD]
    (refine op_alloc ?_; intro _; exact ⟨[(_, _)], rfl, ⟨_, rfl, rfl⟩⟩)
  simp only [FinalsD, nthDst, putO, List.drop_succ_cons, List.drop_zero]
  rintro _ _ _ _ _ _ ⟨⟨bg2, ag2, kg2, cg2, eg2, rfl, g2⟩, ⟨bg1, ag1, kg1, cg1, eg1, rfl, g1⟩, -⟩
  try simp only [List.nil_append]
  rename_i k11 k12
  repeat' first
    | refine op_storeK rfl ?_
    | (first | refine tl_defer ?_ | refine tc_seq ?_ | refine tc_region ?_ | refine at_seq_normal ?_ | refine tl_nil ?_ | refine tl_cons ?_ | refine tl_cons_none ?_ | refine op_move ?_ | refine op_assign ?_ | refine op_fieldAddr ?_ | refine op_load ?_ | refine op_load_agg ?_ | refine op_indexC ?_ | refine op_indexAddr1 ?_ | refine op_indexAddr ?_ | refine op_icmp ?_ | refine op_fcmp ?_ | refine op_iarith ?_ | refine op_bcmp ?_ | refine op_unop_not ?_ | refine op_unop_neg_float ?_ | refine op_unop_neg_int ?_ | refine op_len_slice ?_ | refine op_pick_true ?_ | refine op_pick_false ?_ | refine op_pick_true' ?_ | refine op_pick_false' ?_ | refine op_build ?_ | refine op_extract ?_ | refine op_makeInterface ?_ | refine op_typeAssert ?_ | refine op_ptr_nil ?_ | refine op_nilCheck_ptr ?_ | refine op_nilCheck_meth ?_ | refine op_makeMeth ?_ | refine op_makeFunc ?_ | refine op_itof ?_ | refine op_itoi ?_ | refine op_ftoi ?_ | refine op_iquo ?_ | refine op_irem ?_ | refine op_ibits ?_ | refine op_slice_isnil ?_ | refine op_slice_notnil ?_ | refine op_imax ?_ | refine op_imin ?_ | refine op_shl ?_ | refine op_shr ?_ | (refine op_alloc ?_; intro _) | (refine op_box ?_; intro _) | (refine op_buildSlice ?_; intro _) | (refine op_farith ?_; intro _ _) | refine op_store0 ?_ | refine op_store1 ?_ | refine op_store2 ?_ | refine op_store3 ?_ | refine op_store4 ?_ | refine op_store5 ?_ | refine op_storeK rfl ?_ | refine op_loadK rfl ?_ | refine op_load_aggK rfl ?_ | refine tc_cond_t ?_ | refine tc_cond_f ?_ | refine tc_cond (fun _ => ?_) (fun _ => ?_) | refine tc_block ?_ | refine tc_skip ?_ | refine tc_ret ?_ | refine tc_exit ?_ | refine tc_label ?_ | refine at_seq_ret ?_ | refine at_seq_exit ?_ | refine at_block_normal ?_ | refine at_block_ret ?_ | refine at_block_exit_self ?_ | refine at_block_exit_ne ?_ | refine at_loop_ret ?_ | refine at_loop_exit ?_ | refine at_loop_goto ?_ | refine tl_guard_yes ?_ | refine tl_guard_no ?_ | refine tl_guard_yes' ?_ | refine tl_guard_no' ?_ | refine tl_guard_undef ?_ | refine tl_guard_split (fun _ => ?_) (fun _ => ?_))
    | fail
  refine tc_fact (fun G => IsQ (bx - ax) 1 (.agg ⟨[.bool bg1, .slice ag1 kg1 cg1, .int .i64 eg1]⟩) G) ((g1.one (k := k11) noU3 _).one (k := k12) noU3 _) fun f1 => ?_
  refine tc_fact (fun G => IsQ (b2 - ay) 1 (.agg ⟨[.bool bg2, .slice ag2 kg2 cg2, .int .i64 eg2]⟩) G) ((g2.one (k := k11) noU3 _).one (k := k12) noU3 _) fun f2 => ?_
  clear g1 g2
  apply fun hole0 hole1 hole2 hole3 hole4 hole5 hole6 hole7 hole8 hole9 hE hD hml hdl hpr prem fin => tc_drawnD 12 [PhiD.is hole0, PhiD.is hole1, PhiD.is hole2, PhiD.is hole3, PhiD.gen (fun w _ G => IsQ' (dx - cx) 1 w G), PhiD.is hole4, PhiD.is hole5, PhiD.is hole6, PhiD.is hole7, PhiD.gen (fun w _ G => IsQ' (dy - cy) 1 w G), PhiD.fresh (fun k => .pointer (some ⟨k, 0, none⟩)) hole8, PhiD.fresh (fun k => .pointer (some ⟨k, 0, none⟩)) hole9]
    [some 27, some 28, some 29, some 30, some 31, some 32, some 33, some 34, some 35, some 36, some 13, some 14, none, none] [[], [0], [], [2], [1, 3], [], [5], [], [7], [6, 8, 4], [], []] mixed ⟨(fun _ _ _ _ h hs => IsQ'.mono h hs), (fun _ _ _ _ h hs => IsQ'.mono h hs), trivial⟩ prem fin hE hD rfl hml hdl hpr
  rotate_left 11
  · first | kernel_rfl | exact rfl
  · first | kernel_rfl | exact rfl
  · exact Nat.le_of_ble_eq_true rfl
  · first | kernel_rfl | exact rfl
  · first | kernel_rfl | exact rfl
  refine ⟨fun G hG => ?_, fun G hG => ?_, fun G hG => ?_, fun G hG => ?_, fun G hG => ?_, fun G hG => ?_, fun G hG => ?_, fun G hG => ?_, fun G hG => ?_, fun G hG => ?_, fun G hG => ?_, fun G hG => ?_, trivial⟩
  · simp only [withD, nthD, Step2, nthDst, putO, postD]
    (refine op_fieldAddr ?_; exact ⟨[], rfl, rfl, rfl⟩)
  · simp only [withD, nthD, Step2, nthDst, putO, postD]
    ((first | refine op_load ?_ | refine op_load_agg ?_ | refine op_load ?_ (hm := Sub.mem (by assumption) (by (repeat (apply List.mem_cons_of_mem)); assumption)) | refine op_load_agg ?_ (hm := Sub.mem (by assumption) (by (repeat (apply List.mem_cons_of_mem)); assumption)) | refine op_loadH hG rfl ?_ | refine op_load_aggH hG rfl ?_); exact ⟨[], rfl, rfl, rfl⟩)
  · simp only [withD, nthD, Step2, nthDst, putO, postD]
    (refine op_fieldAddr ?_; exact ⟨[], rfl, rfl, rfl⟩)
  · simp only [withD, nthD, Step2, nthDst, putO, postD]
    ((first | refine op_load ?_ | refine op_load_agg ?_ | refine op_load ?_ (hm := Sub.mem (by assumption) (by (repeat (apply List.mem_cons_of_mem)); assumption)) | refine op_load_agg ?_ (hm := Sub.mem (by assumption) (by (repeat (apply List.mem_cons_of_mem)); assumption)) | refine op_loadH hG rfl ?_ | refine op_load_aggH hG rfl ?_); exact ⟨[], rfl, rfl, rfl⟩)
  · simp only [withD, nthD, Step2, nthDst, putO, postD]
    (refine op_call ((qSub _ _ dx cx 0 _ (by decide) (d1.mono fun e he => hG e (by simp [he])) (c1.mono fun e he => hG e (by simp [he]))).mono ?_); rintro w _ ⟨ex, rfl, hw⟩; exact ⟨ex, rfl, hw.fine⟩)
  · simp only [withD, nthD, Step2, nthDst, putO, postD]
    (refine op_fieldAddr ?_; exact ⟨[], rfl, rfl, rfl⟩)
  · simp only [withD, nthD, Step2, nthDst, putO, postD]
    ((first | refine op_load ?_ | refine op_load_agg ?_ | refine op_load ?_ (hm := Sub.mem (by assumption) (by (repeat (apply List.mem_cons_of_mem)); assumption)) | refine op_load_agg ?_ (hm := Sub.mem (by assumption) (by (repeat (apply List.mem_cons_of_mem)); assumption)) | refine op_loadH hG rfl ?_ | refine op_load_aggH hG rfl ?_); exact ⟨[], rfl, rfl, rfl⟩)
  · simp only [withD, nthD, Step2, nthDst, putO, postD]
    (refine op_fieldAddr ?_; exact ⟨[], rfl, rfl, rfl⟩)
  · simp only [withD, nthD, Step2, nthDst, putO, postD]
    ((first | refine op_load ?_ | refine op_load_agg ?_ | refine op_load ?_ (hm := Sub.mem (by assumption) (by (repeat (apply List.mem_cons_of_mem)); assumption)) | refine op_load_agg ?_ (hm := Sub.mem (by assumption) (by (repeat (apply List.mem_cons_of_mem)); assumption)) | refine op_loadH hG rfl ?_ | refine op_load_aggH hG rfl ?_); exact ⟨[], rfl, rfl, rfl⟩)
  · simp only [withD, nthD, Step2, nthDst, putO, postD]
    rintro _ _ ⟨bg3, ag3, kg3, cg3, eg3, rfl, g3⟩ -
    (refine op_call ((qSub _ _ dy cy 0 _ (by decide) (d2.mono fun e he => hG e (by simp [he])) (c2.mono fun e he => hG e (by simp [he]))).mono ?_); rintro w _ ⟨ex, rfl, hw⟩; exact ⟨ex, rfl, hw.fine⟩)
  · simp only [withD, nthD, Step2, nthDst, putO, postD]
    (refine op_alloc ?_; intro _; exact ⟨[(_, _)], rfl, ⟨_, rfl, rfl⟩⟩)
  · simp only [withD, nthD, Step2, nthDst, putO, postD]
    (refine op_alloc ?_; intro _; exact ⟨[(_, _)], rfl, ⟨_, rfl, rfl⟩⟩)
  simp only [FinalsD, nthDst, putO, List.drop_succ_cons, List.drop_zero]
  rintro _ _ _ _ _ _ ⟨⟨bg4, ag4, kg4, cg4, eg4, rfl, g4⟩, ⟨bg3, ag3, kg3, cg3, eg3, rfl, g3⟩, -⟩
  try simp only [List.nil_append]
  rename_i k13 k14
  have f1' := f1
  have f2' := f2
  repeat' first
    | refine op_storeK rfl ?_
    | (first | refine tl_defer ?_ | refine tc_seq ?_ | refine tc_region ?_ | refine at_seq_normal ?_ | refine tl_nil ?_ | refine tl_cons ?_ | refine tl_cons_none ?_ | refine op_move ?_ | refine op_assign ?_ | refine op_fieldAddr ?_ | refine op_load ?_ | refine op_load_agg ?_ | refine op_indexC ?_ | refine op_indexAddr1 ?_ | refine op_indexAddr ?_ | refine op_icmp ?_ | refine op_fcmp ?_ | refine op_iarith ?_ | refine op_bcmp ?_ | refine op_unop_not ?_ | refine op_unop_neg_float ?_ | refine op_unop_neg_int ?_ | refine op_len_slice ?_ | refine op_pick_true ?_ | refine op_pick_false ?_ | refine op_pick_true' ?_ | refine op_pick_false' ?_ | refine op_build ?_ | refine op_extract ?_ | refine op_makeInterface ?_ | refine op_typeAssert ?_ | refine op_ptr_nil ?_ | refine op_nilCheck_ptr ?_ | refine op_nilCheck_meth ?_ | refine op_makeMeth ?_ | refine op_makeFunc ?_ | refine op_itof ?_ | refine op_itoi ?_ | refine op_ftoi ?_ | refine op_iquo ?_ | refine op_irem ?_ | refine op_ibits ?_ | refine op_slice_isnil ?_ | refine op_slice_notnil ?_ | refine op_imax ?_ | refine op_imin ?_ | refine op_shl ?_ | refine op_shr ?_ | (refine op_alloc ?_; intro _) | (refine op_box ?_; intro _) | (refine op_buildSlice ?_; intro _) | (refine op_farith ?_; intro _ _) | refine op_store0 ?_ | refine op_store1 ?_ | refine op_store2 ?_ | refine op_store3 ?_ | refine op_store4 ?_ | refine op_store5 ?_ | refine op_storeK rfl ?_ | refine op_loadK rfl ?_ | refine op_load_aggK rfl ?_ | refine tc_cond_t ?_ | refine tc_cond_f ?_ | refine tc_cond (fun _ => ?_) (fun _ => ?_) | refine tc_block ?_ | refine tc_skip ?_ | refine tc_ret ?_ | refine tc_exit ?_ | refine tc_label ?_ | refine at_seq_ret ?_ | refine at_seq_exit ?_ | refine at_block_normal ?_ | refine at_block_ret ?_ | refine at_block_exit_self ?_ | refine at_block_exit_ne ?_ | refine at_loop_ret ?_ | refine at_loop_exit ?_ | refine at_loop_goto ?_ | refine tl_guard_yes ?_ | refine tl_guard_no ?_ | refine tl_guard_yes' ?_ | refine tl_guard_no' ?_ | refine tl_guard_undef ?_ | refine tl_guard_split (fun _ => ?_) (fun _ => ?_))
    | fail
  refine tc_fact (fun G => IsQ (dx - cx) 1 (.agg ⟨[.bool bg3, .slice ag3 kg3 cg3, .int .i64 eg3]⟩) G) ((g3.one (k := k13) noU3 _).one (k := k14) noU3 _) fun f3 => ?_
  refine tc_fact (fun G => IsQ (dy - cy) 1 (.agg ⟨[.bool bg4, .slice ag4 kg4 cg4, .int .i64 eg4]⟩) G) ((g4.one (k := k13) noU3 _).one (k := k14) noU3 _) fun f4 => ?_
  refine tc_fact (fun G => IsQ (bx - ax) 1 (.agg ⟨[.bool bg1, .slice ag1 kg1 cg1, .int .i64 eg1]⟩) G) (f1.mono ins) fun h1 => ?_
  refine tc_fact (fun G => IsQ (b2 - ay) 1 (.agg ⟨[.bool bg2, .slice ag2 kg2 cg2, .int .i64 eg2]⟩) G) (f2.mono ins) fun h2 => ?_
  clear g3 g4 f1 f2 f1' f2'
  obtain ⟨den, hden⟩ : ∃ den, den = (bx - ax) * (dy - cy) - (b2 - ay) * (dx - cx) := ⟨_, rfl⟩
  obtain ⟨num, hnum⟩ : ∃ num, num = (cx - ax) * (dy - cy) - (cy - ay) * (dx - cx) := ⟨_, rfl⟩
  rw [← hden, ← hnum]
  apply fun hole0 hole1 hole2 hole3 hole4 hE hD hml hdl hpr prem fin => tc_drawnD 8 [PhiD.is hole0, PhiD.is hole1, PhiD.gen (fun w _ G => IsQ ((bx - ax) * (dy - cy)) 2 w G), PhiD.is hole2, PhiD.is hole3, PhiD.gen (fun w _ G => IsQ ((b2 - ay) * (dx - cx)) 2 w G), PhiD.gen (fun w _ G => IsQ' ((bx - ax) * (dy - cy) - (b2 - ay) * (dx - cx)) 3 w G), PhiD.fresh (fun k => .pointer (some ⟨k, 0, none⟩)) hole4]
    [some 37, some 38, some 39, some 40, some 41, some 42, some 43, some 15, none] [[], [], [0, 1], [], [], [3, 4, 2], [2, 5], []] mixed ⟨(fun _ _ _ _ h hs => IsQ.mono h hs), (fun _ _ _ _ h hs => IsQ.mono h hs), (fun _ _ _ _ h hs => IsQ'.mono h hs), trivial⟩ prem fin hE hD rfl hml hdl hpr
  rotate_left 6
  · first | kernel_rfl | exact rfl
  · first | kernel_rfl | exact rfl
  · exact Nat.le_of_ble_eq_true rfl
  · first | kernel_rfl | exact rfl
  · first | kernel_rfl | exact rfl
  refine ⟨fun G hG => ?_, fun G hG => ?_, fun G hG => ?_, fun G hG => ?_, fun G hG => ?_, fun G hG => ?_, fun G hG => ?_, fun G hG => ?_, trivial⟩
  · simp only [withD, nthD, Step2, nthDst, putO, postD]
    ((first | refine op_load ?_ | refine op_load_agg ?_ | refine op_load ?_ (hm := Sub.mem (by assumption) (by (repeat (apply List.mem_cons_of_mem)); assumption)) | refine op_load_agg ?_ (hm := Sub.mem (by assumption) (by (repeat (apply List.mem_cons_of_mem)); assumption)) | refine op_loadH hG rfl ?_ | refine op_load_aggH hG rfl ?_); exact ⟨[], rfl, rfl, rfl⟩)
  · simp only [withD, nthD, Step2, nthDst, putO, postD]
    ((first | refine op_load ?_ | refine op_load_agg ?_ | refine op_load ?_ (hm := Sub.mem (by assumption) (by (repeat (apply List.mem_cons_of_mem)); assumption)) | refine op_load_agg ?_ (hm := Sub.mem (by assumption) (by (repeat (apply List.mem_cons_of_mem)); assumption)) | refine op_loadH hG rfl ?_ | refine op_load_aggH hG rfl ?_); exact ⟨[], rfl, rfl, rfl⟩)
  · simp only [withD, nthD, Step2, nthDst, putO, postD]
    (refine op_call ((qMul _ _ _ _ 1 _ (by decide) (h1.mono hG) (f4.mono hG)).mono ?_); rintro w _ ⟨ex, rfl, hw⟩; exact ⟨ex, rfl, hw⟩)
  · simp only [withD, nthD, Step2, nthDst, putO, postD]
    ((first | refine op_load ?_ | refine op_load_agg ?_ | refine op_load ?_ (hm := Sub.mem (by assumption) (by (repeat (apply List.mem_cons_of_mem)); assumption)) | refine op_load_agg ?_ (hm := Sub.mem (by assumption) (by (repeat (apply List.mem_cons_of_mem)); assumption)) | refine op_loadH hG rfl ?_ | refine op_load_aggH hG rfl ?_); exact ⟨[], rfl, rfl, rfl⟩)
  · simp only [withD, nthD, Step2, nthDst, putO, postD]
    ((first | refine op_load ?_ | refine op_load_agg ?_ | refine op_load ?_ (hm := Sub.mem (by assumption) (by (repeat (apply List.mem_cons_of_mem)); assumption)) | refine op_load_agg ?_ (hm := Sub.mem (by assumption) (by (repeat (apply List.mem_cons_of_mem)); assumption)) | refine op_loadH hG rfl ?_ | refine op_load_aggH hG rfl ?_); exact ⟨[], rfl, rfl, rfl⟩)
  · simp only [withD, nthD, Step2, nthDst, putO, postD]
    rintro _ _ q2 -
    (refine op_call ((qMul _ _ _ _ 1 _ (by decide) (h2.mono hG) (f3.mono hG)).mono ?_); rintro w _ ⟨ex, rfl, hw⟩; exact ⟨ex, rfl, hw⟩)
  · simp only [withD, nthD, Step2, nthDst, putO, postD]
    rintro _ _ q2 - _ _ q5 -
    (refine op_call ((qSub _ _ _ _ 2 _ (by decide) q2 q5).mono ?_); rintro w _ ⟨ex, rfl, hw⟩; exact ⟨ex, rfl, hw.fine⟩)
  · simp only [withD, nthD, Step2, nthDst, putO, postD]
    (refine op_alloc ?_; intro _; exact ⟨[(_, _)], rfl, ⟨_, rfl, rfl⟩⟩)
  simp only [FinalsD, nthDst, putO, List.drop_succ_cons, List.drop_zero]
  rintro _ _ _ _ _ _ _ ⟨⟨bg5, ag5, kg5, cg5, eg5, rfl, g5⟩, q5, q2, -⟩
  try simp only [List.nil_append]
  rename_i k15
  rw [← hden] at g5
  refine tl_cons_none ?_
  refine op_storeK rfl ?_
  refine tl_nil ?_
  refine at_seq_normal ?_
  refine tc_fact (fun G => IsQ den 3 (.agg ⟨[.bool bg5, .slice ag5 kg5 cg5, .int .i64 eg5]⟩) G) (g5.one (k := k15) noU3 _) fun f5 => ?_
  refine tc_fact (fun G => IsQ (bx - ax) 1 (.agg ⟨[.bool bg1, .slice ag1 kg1 cg1, .int .i64 eg1]⟩) G) (h1.mono ins) fun f1 => ?_
  refine tc_fact (fun G => IsQ (b2 - ay) 1 (.agg ⟨[.bool bg2, .slice ag2 kg2 cg2, .int .i64 eg2]⟩) G) (h2.mono ins) fun f2 => ?_
  refine tc_fact (fun G => IsQ (dx - cx) 1 (.agg ⟨[.bool bg3, .slice ag3 kg3 cg3, .int .i64 eg3]⟩) G) (f3.mono ins) fun h3 => ?_
  refine tc_fact (fun G => IsQ (dy - cy) 1 (.agg ⟨[.bool bg4, .slice ag4 kg4 cg4, .int .i64 eg4]⟩) G) (f4.mono ins) fun h4 => ?_
  clear g5 f3 f4 h1 h2 q2 q5
  by_cases h0 : den = 0
  · have hc : icmp .eql (sgQ den) 0 = true := by rw [sgQ_eq, decide_eq_true h0]
    repeat' first
      | (refine op_call ((qSign _ _ _ _ f5).mono ?_); rintro _ _ ⟨rfl, rfl⟩)
      | (refine op_icmp ?_; rw [hc])
      | refine op_storeK rfl ?_
      | (first | refine tl_defer ?_ | refine tc_seq ?_ | refine tc_region ?_ | refine at_seq_normal ?_ | refine tl_nil ?_ | refine tl_cons ?_ | refine tl_cons_none ?_ | refine op_move ?_ | refine op_assign ?_ | refine op_fieldAddr ?_ | refine op_load ?_ | refine op_load_agg ?_ | refine op_indexC ?_ | refine op_indexAddr1 ?_ | refine op_indexAddr ?_ | refine op_icmp ?_ | refine op_fcmp ?_ | refine op_iarith ?_ | refine op_bcmp ?_ | refine op_unop_not ?_ | refine op_unop_neg_float ?_ | refine op_unop_neg_int ?_ | refine op_len_slice ?_ | refine op_pick_true ?_ | refine op_pick_false ?_ | refine op_pick_true' ?_ | refine op_pick_false' ?_ | refine op_build ?_ | refine op_extract ?_ | refine op_makeInterface ?_ | refine op_typeAssert ?_ | refine op_ptr_nil ?_ | refine op_nilCheck_ptr ?_ | refine op_nilCheck_meth ?_ | refine op_makeMeth ?_ | refine op_makeFunc ?_ | refine op_itof ?_ | refine op_itoi ?_ | refine op_ftoi ?_ | refine op_iquo ?_ | refine op_irem ?_ | refine op_ibits ?_ | refine op_slice_isnil ?_ | refine op_slice_notnil ?_ | refine op_imax ?_ | refine op_imin ?_ | refine op_shl ?_ | refine op_shr ?_ | (refine op_alloc ?_; intro _) | (refine op_box ?_; intro _) | (refine op_buildSlice ?_; intro _) | (refine op_farith ?_; intro _ _) | refine op_store0 ?_ | refine op_store1 ?_ | refine op_store2 ?_ | refine op_store3 ?_ | refine op_store4 ?_ | refine op_store5 ?_ | refine op_storeK rfl ?_ | refine op_loadK rfl ?_ | refine op_load_aggK rfl ?_ | refine tc_cond_t ?_ | refine tc_cond_f ?_ | refine tc_cond (fun _ => ?_) (fun _ => ?_) | refine tc_block ?_ | refine tc_skip ?_ | refine tc_ret ?_ | refine tc_exit ?_ | refine tc_label ?_ | refine at_seq_ret ?_ | refine at_seq_exit ?_ | refine at_block_normal ?_ | refine at_block_ret ?_ | refine at_block_exit_self ?_ | refine at_block_exit_ne ?_ | refine at_loop_ret ?_ | refine at_loop_exit ?_ | refine at_loop_goto ?_ | refine tl_guard_yes ?_ | refine tl_guard_no ?_ | refine tl_guard_yes' ?_ | refine tl_guard_no' ?_ | refine tl_guard_undef ?_ | refine tl_guard_split (fun _ => ?_) (fun _ => ?_))
      | fail
    refine ret_list rfl (.cons (rv_agg rfl) (.cons (rv_agg rfl) (.cons (.tmp rfl) .nil))) rfl (List.Sublist.refl _) (exq (.inl ⟨h0, rfl⟩)) (.inl rfl)
  · have hc : icmp .eql (sgQ den) 0 = false := by rw [sgQ_eq, decide_eq_false h0]
    repeat' first
      | (refine op_call ((qSign _ _ _ _ f5).mono ?_); rintro _ _ ⟨rfl, rfl⟩)
      | (refine op_icmp ?_; rw [hc])
      | (first | refine tl_defer ?_ | refine tc_seq ?_ | refine tc_region ?_ | refine at_seq_normal ?_ | refine tl_nil ?_ | refine tl_cons ?_ | refine tl_cons_none ?_ | refine op_move ?_ | refine op_assign ?_ | refine op_fieldAddr ?_ | refine op_load ?_ | refine op_load_agg ?_ | refine op_indexC ?_ | refine op_indexAddr1 ?_ | refine op_indexAddr ?_ | refine op_icmp ?_ | refine op_fcmp ?_ | refine op_iarith ?_ | refine op_bcmp ?_ | refine op_unop_not ?_ | refine op_unop_neg_float ?_ | refine op_unop_neg_int ?_ | refine op_len_slice ?_ | refine op_pick_true ?_ | refine op_pick_false ?_ | refine op_pick_true' ?_ | refine op_pick_false' ?_ | refine op_build ?_ | refine op_extract ?_ | refine op_makeInterface ?_ | refine op_typeAssert ?_ | refine op_ptr_nil ?_ | refine op_nilCheck_ptr ?_ | refine op_nilCheck_meth ?_ | refine op_makeMeth ?_ | refine op_makeFunc ?_ | refine op_itof ?_ | refine op_itoi ?_ | refine op_ftoi ?_ | refine op_iquo ?_ | refine op_irem ?_ | refine op_ibits ?_ | refine op_slice_isnil ?_ | refine op_slice_notnil ?_ | refine op_imax ?_ | refine op_imin ?_ | refine op_shl ?_ | refine op_shr ?_ | (refine op_alloc ?_; intro _) | (refine op_box ?_; intro _) | (refine op_buildSlice ?_; intro _) | (refine op_farith ?_; intro _ _) | refine op_store0 ?_ | refine op_store1 ?_ | refine op_store2 ?_ | refine op_store3 ?_ | refine op_store4 ?_ | refine op_store5 ?_ | refine op_storeK rfl ?_ | refine op_loadK rfl ?_ | refine op_load_aggK rfl ?_ | refine tc_cond_t ?_ | refine tc_cond_f ?_ | refine tc_cond (fun _ => ?_) (fun _ => ?_) | refine tc_block ?_ | refine tc_skip ?_ | refine tc_ret ?_ | refine tc_exit ?_ | refine tc_label ?_ | refine at_seq_ret ?_ | refine at_seq_exit ?_ | refine at_block_normal ?_ | refine at_block_ret ?_ | refine at_block_exit_self ?_ | refine at_block_exit_ne ?_ | refine at_loop_ret ?_ | refine at_loop_exit ?_ | refine at_loop_goto ?_ | refine tl_guard_yes ?_ | refine tl_guard_no ?_ | refine tl_guard_yes' ?_ | refine tl_guard_no' ?_ | refine tl_guard_undef ?_ | refine tl_guard_split (fun _ => ?_) (fun _ => ?_))
      | fail
    apply fun hole0 hole1 hole2 hole3 hole4 hole5 hole6 hole7 hole8 hole9 hole10 hE hD hml hdl hpr prem fin => tc_drawnD 16 [PhiD.is hole0, PhiD.is hole1, PhiD.is hole2, PhiD.is hole3, PhiD.gen (fun w _ G => IsQ (cx - ax) 1 w G), PhiD.is hole4, PhiD.gen (fun w _ G => IsQ ((cx - ax) * (dy - cy)) 2 w G), PhiD.is hole5, PhiD.is hole6, PhiD.is hole7, PhiD.is hole8, PhiD.gen (fun w _ G => IsQ (cy - ay) 1 w G), PhiD.is hole9, PhiD.gen (fun w _ G => IsQ ((cy - ay) * (dx - cx)) 2 w G), PhiD.gen (fun w _ G => IsQ' ((cx - ax) * (dy - cy) - (cy - ay) * (dx - cx)) 3 w G), PhiD.fresh (fun k => .pointer (some ⟨k, 0, none⟩)) hole10]
      [some 49, some 50, some 51, some 52, some 53, some 54, some 55, some 56, some 57, some 58, some 59, some 60, some 61, some 62, some 63, some 16, none] [[], [0], [], [2], [1, 3], [], [4, 5], [], [7], [], [9], [8, 10, 6], [], [11, 12], [6, 13], []] mixed ⟨(fun _ _ _ _ h hs => IsQ.mono h hs), (fun _ _ _ _ h hs => IsQ.mono h hs), (fun _ _ _ _ h hs => IsQ.mono h hs), (fun _ _ _ _ h hs => IsQ.mono h hs), (fun _ _ _ _ h hs => IsQ'.mono h hs), trivial⟩ prem fin hE hD rfl hml hdl hpr
    rotate_left 12
    · first | kernel_rfl | exact rfl
    · first | kernel_rfl | exact rfl
    · exact Nat.le_of_ble_eq_true rfl
    · first | kernel_rfl | exact rfl
    · first | kernel_rfl | exact rfl
    refine ⟨fun G hG => ?_, fun G hG => ?_, fun G hG => ?_, fun G hG => ?_, fun G hG => ?_, fun G hG => ?_, fun G hG => ?_, fun G hG => ?_, fun G hG => ?_, fun G hG => ?_, fun G hG => ?_, fun G hG => ?_, fun G hG => ?_, fun G hG => ?_, fun G hG => ?_, fun G hG => ?_, trivial⟩
    · simp only [withD, nthD, Step2, nthDst, putO, postD]
      (refine op_fieldAddr ?_; exact ⟨[], rfl, rfl, rfl⟩)
    · simp only [withD, nthD, Step2, nthDst, putO, postD]
      ((first | refine op_load ?_ | refine op_load_agg ?_ | refine op_load ?_ (hm := Sub.mem (by assumption) (by (repeat (apply List.mem_cons_of_mem)); assumption)) | refine op_load_agg ?_ (hm := Sub.mem (by assumption) (by (repeat (apply List.mem_cons_of_mem)); assumption)) | refine op_loadH hG rfl ?_ | refine op_load_aggH hG rfl ?_); exact ⟨[], rfl, rfl, rfl⟩)
    · simp only [withD, nthD, Step2, nthDst, putO, postD]
      (refine op_fieldAddr ?_; exact ⟨[], rfl, rfl, rfl⟩)
    · simp only [withD, nthD, Step2, nthDst, putO, postD]
      ((first | refine op_load ?_ | refine op_load_agg ?_ | refine op_load ?_ (hm := Sub.mem (by assumption) (by (repeat (apply List.mem_cons_of_mem)); assumption)) | refine op_load_agg ?_ (hm := Sub.mem (by assumption) (by (repeat (apply List.mem_cons_of_mem)); assumption)) | refine op_loadH hG rfl ?_ | refine op_load_aggH hG rfl ?_); exact ⟨[], rfl, rfl, rfl⟩)
    · simp only [withD, nthD, Step2, nthDst, putO, postD]
      (refine op_call ((qSub _ _ cx ax 0 _ (by decide) (c1.mono fun e he => hG e (by simp [he])) (a1.mono fun e he => hG e (by simp [he]))).mono ?_); rintro w _ ⟨ex, rfl, hw⟩; exact ⟨ex, rfl, hw⟩)
    · simp only [withD, nthD, Step2, nthDst, putO, postD]
      ((first | refine op_load ?_ | refine op_load_agg ?_ | refine op_load ?_ (hm := Sub.mem (by assumption) (by (repeat (apply List.mem_cons_of_mem)); assumption)) | refine op_load_agg ?_ (hm := Sub.mem (by assumption) (by (repeat (apply List.mem_cons_of_mem)); assumption)) | refine op_loadH hG rfl ?_ | refine op_load_aggH hG rfl ?_); exact ⟨[], rfl, rfl, rfl⟩)
    · simp only [withD, nthD, Step2, nthDst, putO, postD]
      rintro _ _ q4 -
      (refine op_call ((qMul _ _ _ _ 1 _ (by decide) q4 (h4.mono hG)).mono ?_); rintro w _ ⟨ex, rfl, hw⟩; exact ⟨ex, rfl, hw⟩)
    · simp only [withD, nthD, Step2, nthDst, putO, postD]
      (refine op_fieldAddr ?_; exact ⟨[], rfl, rfl, rfl⟩)
    · simp only [withD, nthD, Step2, nthDst, putO, postD]
      ((first | refine op_load ?_ | refine op_load_agg ?_ | refine op_load ?_ (hm := Sub.mem (by assumption) (by (repeat (apply List.mem_cons_of_mem)); assumption)) | refine op_load_agg ?_ (hm := Sub.mem (by assumption) (by (repeat (apply List.mem_cons_of_mem)); assumption)) | refine op_loadH hG rfl ?_ | refine op_load_aggH hG rfl ?_); exact ⟨[], rfl, rfl, rfl⟩)
    · simp only [withD, nthD, Step2, nthDst, putO, postD]
      (refine op_fieldAddr ?_; exact ⟨[], rfl, rfl, rfl⟩)
    · simp only [withD, nthD, Step2, nthDst, putO, postD]
      ((first | refine op_load ?_ | refine op_load_agg ?_ | refine op_load ?_ (hm := Sub.mem (by assumption) (by (repeat (apply List.mem_cons_of_mem)); assumption)) | refine op_load_agg ?_ (hm := Sub.mem (by assumption) (by (repeat (apply List.mem_cons_of_mem)); assumption)) | refine op_loadH hG rfl ?_ | refine op_load_aggH hG rfl ?_); exact ⟨[], rfl, rfl, rfl⟩)
    · simp only [withD, nthD, Step2, nthDst, putO, postD]
      rintro _ _ q6 -
      (refine op_call ((qSub _ _ cy ay 0 _ (by decide) (c2.mono fun e he => hG e (by simp [he])) (a2.mono fun e he => hG e (by simp [he]))).mono ?_); rintro w _ ⟨ex, rfl, hw⟩; exact ⟨ex, rfl, hw⟩)
    · simp only [withD, nthD, Step2, nthDst, putO, postD]
      ((first | refine op_load ?_ | refine op_load_agg ?_ | refine op_load ?_ (hm := Sub.mem (by assumption) (by (repeat (apply List.mem_cons_of_mem)); assumption)) | refine op_load_agg ?_ (hm := Sub.mem (by assumption) (by (repeat (apply List.mem_cons_of_mem)); assumption)) | refine op_loadH hG rfl ?_ | refine op_load_aggH hG rfl ?_); exact ⟨[], rfl, rfl, rfl⟩)
    · simp only [withD, nthD, Step2, nthDst, putO, postD]
      rintro _ _ q11 -
      (refine op_call ((qMul _ _ _ _ 1 _ (by decide) q11 (h3.mono hG)).mono ?_); rintro w _ ⟨ex, rfl, hw⟩; exact ⟨ex, rfl, hw⟩)
    · simp only [withD, nthD, Step2, nthDst, putO, postD]
      rintro _ _ q6 - _ _ q13 -
      (refine op_call ((qSub _ _ _ _ 2 _ (by decide) q6 q13).mono ?_); rintro w _ ⟨ex, rfl, hw⟩; exact ⟨ex, rfl, hw.fine⟩)
    · simp only [withD, nthD, Step2, nthDst, putO, postD]
      (refine op_alloc ?_; intro _; exact ⟨[(_, _)], rfl, ⟨_, rfl, rfl⟩⟩)
    simp only [FinalsD, nthDst, putO, List.drop_succ_cons, List.drop_zero]
    rintro _ _ _ _ _ _ _ _ _ _ _ ⟨⟨bg6, ag6, kg6, cg6, eg6, rfl, g6⟩, q13, q11, q6, q4, -⟩
    try simp only [List.nil_append]
    rename_i k16
    rw [← hnum] at g6
    repeat' first
      | refine op_storeK rfl ?_
      | (first | refine tl_defer ?_ | refine tc_seq ?_ | refine tc_region ?_ | refine at_seq_normal ?_ | refine tl_nil ?_ | refine tl_cons ?_ | refine tl_cons_none ?_ | refine op_move ?_ | refine op_assign ?_ | refine op_fieldAddr ?_ | refine op_load ?_ | refine op_load_agg ?_ | refine op_indexC ?_ | refine op_indexAddr1 ?_ | refine op_indexAddr ?_ | refine op_icmp ?_ | refine op_fcmp ?_ | refine op_iarith ?_ | refine op_bcmp ?_ | refine op_unop_not ?_ | refine op_unop_neg_float ?_ | refine op_unop_neg_int ?_ | refine op_len_slice ?_ | refine op_pick_true ?_ | refine op_pick_false ?_ | refine op_pick_true' ?_ | refine op_pick_false' ?_ | refine op_build ?_ | refine op_extract ?_ | refine op_makeInterface ?_ | refine op_typeAssert ?_ | refine op_ptr_nil ?_ | refine op_nilCheck_ptr ?_ | refine op_nilCheck_meth ?_ | refine op_makeMeth ?_ | refine op_makeFunc ?_ | refine op_itof ?_ | refine op_itoi ?_ | refine op_ftoi ?_ | refine op_iquo ?_ | refine op_irem ?_ | refine op_ibits ?_ | refine op_slice_isnil ?_ | refine op_slice_notnil ?_ | refine op_imax ?_ | refine op_imin ?_ | refine op_shl ?_ | refine op_shr ?_ | (refine op_alloc ?_; intro _) | (refine op_box ?_; intro _) | (refine op_buildSlice ?_; intro _) | (refine op_farith ?_; intro _ _) | refine op_store0 ?_ | refine op_store1 ?_ | refine op_store2 ?_ | refine op_store3 ?_ | refine op_store4 ?_ | refine op_store5 ?_ | refine op_storeK rfl ?_ | refine op_loadK rfl ?_ | refine op_load_aggK rfl ?_ | refine tc_cond_t ?_ | refine tc_cond_f ?_ | refine tc_cond (fun _ => ?_) (fun _ => ?_) | refine tc_block ?_ | refine tc_skip ?_ | refine tc_ret ?_ | refine tc_exit ?_ | refine tc_label ?_ | refine at_seq_ret ?_ | refine at_seq_exit ?_ | refine at_block_normal ?_ | refine at_block_ret ?_ | refine at_block_exit_self ?_ | refine at_block_exit_ne ?_ | refine at_loop_ret ?_ | refine at_loop_exit ?_ | refine at_loop_goto ?_ | refine tl_guard_yes ?_ | refine tl_guard_no ?_ | refine tl_guard_yes' ?_ | refine tl_guard_no' ?_ | refine tl_guard_undef ?_ | refine tl_guard_split (fun _ => ?_) (fun _ => ?_))
      | fail
    refine tc_fact (fun G => IsQ num 3 (.agg ⟨[.bool bg6, .slice ag6 kg6 cg6, .int .i64 eg6]⟩) G) (g6.one (k := k16) noU3 _) fun f6 => ?_
    refine tc_fact (fun G => IsQ (bx - ax) 1 (.agg ⟨[.bool bg1, .slice ag1 kg1 cg1, .int .i64 eg1]⟩) G) (f1.mono ins) fun h1 => ?_
    refine tc_fact (fun G => IsQ (b2 - ay) 1 (.agg ⟨[.bool bg2, .slice ag2 kg2 cg2, .int .i64 eg2]⟩) G) (f2.mono ins) fun h2 => ?_
    refine tc_fact (fun G => IsQ den 3 (.agg ⟨[.bool bg5, .slice ag5 kg5 cg5, .int .i64 eg5]⟩) G) (f5.mono ins) fun h5 => ?_
    clear g6 f1 f2 f5 h3 h4 q4 q6 q11 q13
    apply fun hole0 hole1 hole2 hole3 hole4 hole5 hole6 hole7 hole8 hole9 hole10 hole11 hE hD hml hdl hpr prem fin => tc_drawnD 20 [PhiD.is hole0, PhiD.is hole1, PhiD.is hole2, PhiD.gen (fun w _ G => IsQ (ax * den) 4 w G), PhiD.is hole3, PhiD.is hole4, PhiD.gen (fun w _ G => IsQ (num * (bx - ax)) 4 w G), PhiD.gen (fun w _ G => IsQ (ax * den + num * (bx - ax)) 5 w G), PhiD.is hole5, PhiD.gen (fun w _ G => ∃ b a k c e b' a' k' c' e', w = .agg ⟨[.bool b, .slice a k c, .int .i64 e, .bool b', .slice a' k' c', .int .i64 e']⟩ ∧ IsP (rN (ax * den + num * (bx - ax)) den) (rD den) 5 w G), PhiD.is hole6, PhiD.is hole7, PhiD.is hole8, PhiD.gen (fun w _ G => IsQ (ay * den) 4 w G), PhiD.is hole9, PhiD.is hole10, PhiD.gen (fun w _ G => IsQ (num * (b2 - ay)) 4 w G), PhiD.gen (fun w _ G => IsQ (ay * den + num * (b2 - ay)) 5 w G), PhiD.is hole11, PhiD.gen (fun w _ G => ∃ b a k c e b' a' k' c' e', w = .agg ⟨[.bool b, .slice a k c, .int .i64 e, .bool b', .slice a' k' c', .int .i64 e']⟩ ∧ IsP (rN (ay * den + num * (b2 - ay)) den) (rD den) 5 w G)]
      [some 64, some 65, some 66, some 67, some 68, some 69, some 70, some 71, some 72, some 73, some 74, some 75, some 76, some 77, some 78, some 79, some 80, some 81, some 82, some 83, none, none, some 10] [[], [0], [], [1, 2], [], [], [4, 5, 3], [3, 6], [], [7, 8], [], [10], [], [11, 12, 9], [], [], [14, 15, 13], [13, 16], [], [17, 18]] mixed ⟨(fun _ _ _ _ h hs => IsQ.mono h hs), (fun _ _ _ _ h hs => IsQ.mono h hs), (fun _ _ _ _ h hs => IsQ.mono h hs), (fun _ _ _ _ ⟨b, a, k, c, e, b', a', k', c', e', h1, h2⟩ hs => ⟨b, a, k, c, e, b', a', k', c', e', h1, h2.mono hs⟩), (fun _ _ _ _ h hs => IsQ.mono h hs), (fun _ _ _ _ h hs => IsQ.mono h hs), (fun _ _ _ _ h hs => IsQ.mono h hs), (fun _ _ _ _ ⟨b, a, k, c, e, b', a', k', c', e', h1, h2⟩ hs => ⟨b, a, k, c, e, b', a', k', c', e', h1, h2.mono hs⟩), trivial⟩ prem fin hE hD rfl hml hdl hpr
    rotate_left 13
    · first | kernel_rfl | exact rfl
    · first | kernel_rfl | exact rfl
    · exact Nat.le_of_ble_eq_true rfl
    · first | kernel_rfl | exact rfl
    · first | kernel_rfl | exact rfl
    refine ⟨fun G hG => ?_, fun G hG => ?_, fun G hG => ?_, fun G hG => ?_, fun G hG => ?_, fun G hG => ?_, fun G hG => ?_, fun G hG => ?_, fun G hG => ?_, fun G hG => ?_, fun G hG => ?_, fun G hG => ?_, fun G hG => ?_, fun G hG => ?_, fun G hG => ?_, fun G hG => ?_, fun G hG => ?_, fun G hG => ?_, fun G hG => ?_, fun G hG => ?_, trivial⟩
    · simp only [withD, nthD, Step2, nthDst, putO, postD]
      (refine op_fieldAddr ?_; exact ⟨[], rfl, rfl, rfl⟩)
    · simp only [withD, nthD, Step2, nthDst, putO, postD]
      ((first | refine op_load ?_ | refine op_load_agg ?_ | refine op_load ?_ (hm := Sub.mem (by assumption) (by (repeat (apply List.mem_cons_of_mem)); assumption)) | refine op_load_agg ?_ (hm := Sub.mem (by assumption) (by (repeat (apply List.mem_cons_of_mem)); assumption)) | refine op_loadH hG rfl ?_ | refine op_load_aggH hG rfl ?_); exact ⟨[], rfl, rfl, rfl⟩)
    · simp only [withD, nthD, Step2, nthDst, putO, postD]
      ((first | refine op_load ?_ | refine op_load_agg ?_ | refine op_load ?_ (hm := Sub.mem (by assumption) (by (repeat (apply List.mem_cons_of_mem)); assumption)) | refine op_load_agg ?_ (hm := Sub.mem (by assumption) (by (repeat (apply List.mem_cons_of_mem)); assumption)) | refine op_loadH hG rfl ?_ | refine op_load_aggH hG rfl ?_); exact ⟨[], rfl, rfl, rfl⟩)
    · simp only [withD, nthD, Step2, nthDst, putO, postD]
      (refine op_call ((qMul _ _ _ _ 3 _ (by decide) (((a1.mono fun e he => hG e (by simp [he]))).big (by decide)) (h5.mono hG)).mono ?_); rintro w _ ⟨ex, rfl, hw⟩; exact ⟨ex, rfl, hw⟩)
    · simp only [withD, nthD, Step2, nthDst, putO, postD]
      ((first | refine op_load ?_ | refine op_load_agg ?_ | refine op_load ?_ (hm := Sub.mem (by assumption) (by (repeat (apply List.mem_cons_of_mem)); assumption)) | refine op_load_agg ?_ (hm := Sub.mem (by assumption) (by (repeat (apply List.mem_cons_of_mem)); assumption)) | refine op_loadH hG rfl ?_ | refine op_load_aggH hG rfl ?_); exact ⟨[], rfl, rfl, rfl⟩)
    · simp only [withD, nthD, Step2, nthDst, putO, postD]
      ((first | refine op_load ?_ | refine op_load_agg ?_ | refine op_load ?_ (hm := Sub.mem (by assumption) (by (repeat (apply List.mem_cons_of_mem)); assumption)) | refine op_load_agg ?_ (hm := Sub.mem (by assumption) (by (repeat (apply List.mem_cons_of_mem)); assumption)) | refine op_loadH hG rfl ?_ | refine op_load_aggH hG rfl ?_); exact ⟨[], rfl, rfl, rfl⟩)
    · simp only [withD, nthD, Step2, nthDst, putO, postD]
      rintro _ _ q3 -
      (refine op_call ((qMul _ _ _ _ 3 _ (by decide) (f6.mono hG) ((h1.mono hG).big (by decide))).mono ?_); rintro w _ ⟨ex, rfl, hw⟩; exact ⟨ex, rfl, hw⟩)
    · simp only [withD, nthD, Step2, nthDst, putO, postD]
      rintro _ _ q3 - _ _ q6 -
      (refine op_call ((qAdd _ _ _ _ 4 _ (by decide) q3 q6).mono ?_); rintro w _ ⟨ex, rfl, hw⟩; exact ⟨ex, rfl, hw⟩)
    · simp only [withD, nthD, Step2, nthDst, putO, postD]
      ((first | refine op_load ?_ | refine op_load_agg ?_ | refine op_load ?_ (hm := Sub.mem (by assumption) (by (repeat (apply List.mem_cons_of_mem)); assumption)) | refine op_load_agg ?_ (hm := Sub.mem (by assumption) (by (repeat (apply List.mem_cons_of_mem)); assumption)) | refine op_loadH hG rfl ?_ | refine op_load_aggH hG rfl ?_); exact ⟨[], rfl, rfl, rfl⟩)
    · simp only [withD, nthD, Step2, nthDst, putO, postD]
      rintro _ _ q7 -
      (refine op_call ((qRatio _ _ _ _ 5 _ q7 ((h5.mono hG).big (by decide))).mono ?_); rintro w _ ⟨ex, rfl, hw⟩; obtain ⟨b, a, k, c, e, b', a', k', c', e', rfl, _⟩ := id hw; exact ⟨ex, rfl, _, _, _, _, _, _, _, _, _, _, rfl, hw⟩)
    · simp only [withD, nthD, Step2, nthDst, putO, postD]
      (refine op_fieldAddr ?_; exact ⟨[], rfl, rfl, rfl⟩)
    · simp only [withD, nthD, Step2, nthDst, putO, postD]
      ((first | refine op_load ?_ | refine op_load_agg ?_ | refine op_load ?_ (hm := Sub.mem (by assumption) (by (repeat (apply List.mem_cons_of_mem)); assumption)) | refine op_load_agg ?_ (hm := Sub.mem (by assumption) (by (repeat (apply List.mem_cons_of_mem)); assumption)) | refine op_loadH hG rfl ?_ | refine op_load_aggH hG rfl ?_); exact ⟨[], rfl, rfl, rfl⟩)
    · simp only [withD, nthD, Step2, nthDst, putO, postD]
      ((first | refine op_load ?_ | refine op_load_agg ?_ | refine op_load ?_ (hm := Sub.mem (by assumption) (by (repeat (apply List.mem_cons_of_mem)); assumption)) | refine op_load_agg ?_ (hm := Sub.mem (by assumption) (by (repeat (apply List.mem_cons_of_mem)); assumption)) | refine op_loadH hG rfl ?_ | refine op_load_aggH hG rfl ?_); exact ⟨[], rfl, rfl, rfl⟩)
    · simp only [withD, nthD, Step2, nthDst, putO, postD]
      rintro _ _ ⟨u1, u2, u3, u4, u5, u6, u7, u8, u9, u10, rfl, r9⟩ -
      (refine op_call ((qMul _ _ _ _ 3 _ (by decide) (((a2.mono fun e he => hG e (by simp [he]))).big (by decide)) (h5.mono hG)).mono ?_); rintro w _ ⟨ex, rfl, hw⟩; exact ⟨ex, rfl, hw⟩)
    · simp only [withD, nthD, Step2, nthDst, putO, postD]
      ((first | refine op_load ?_ | refine op_load_agg ?_ | refine op_load ?_ (hm := Sub.mem (by assumption) (by (repeat (apply List.mem_cons_of_mem)); assumption)) | refine op_load_agg ?_ (hm := Sub.mem (by assumption) (by (repeat (apply List.mem_cons_of_mem)); assumption)) | refine op_loadH hG rfl ?_ | refine op_load_aggH hG rfl ?_); exact ⟨[], rfl, rfl, rfl⟩)
    · simp only [withD, nthD, Step2, nthDst, putO, postD]
      ((first | refine op_load ?_ | refine op_load_agg ?_ | refine op_load ?_ (hm := Sub.mem (by assumption) (by (repeat (apply List.mem_cons_of_mem)); assumption)) | refine op_load_agg ?_ (hm := Sub.mem (by assumption) (by (repeat (apply List.mem_cons_of_mem)); assumption)) | refine op_loadH hG rfl ?_ | refine op_load_aggH hG rfl ?_); exact ⟨[], rfl, rfl, rfl⟩)
    · simp only [withD, nthD, Step2, nthDst, putO, postD]
      rintro _ _ q13 -
      (refine op_call ((qMul _ _ _ _ 3 _ (by decide) (f6.mono hG) ((h2.mono hG).big (by decide))).mono ?_); rintro w _ ⟨ex, rfl, hw⟩; exact ⟨ex, rfl, hw⟩)
    · simp only [withD, nthD, Step2, nthDst, putO, postD]
      rintro _ _ q13 - _ _ q16 -
      (refine op_call ((qAdd _ _ _ _ 4 _ (by decide) q13 q16).mono ?_); rintro w _ ⟨ex, rfl, hw⟩; exact ⟨ex, rfl, hw⟩)
    · simp only [withD, nthD, Step2, nthDst, putO, postD]
      ((first | refine op_load ?_ | refine op_load_agg ?_ | refine op_load ?_ (hm := Sub.mem (by assumption) (by (repeat (apply List.mem_cons_of_mem)); assumption)) | refine op_load_agg ?_ (hm := Sub.mem (by assumption) (by (repeat (apply List.mem_cons_of_mem)); assumption)) | refine op_loadH hG rfl ?_ | refine op_load_aggH hG rfl ?_); exact ⟨[], rfl, rfl, rfl⟩)
    · simp only [withD, nthD, Step2, nthDst, putO, postD]
      rintro _ _ q17 -
      (refine op_call ((qRatio _ _ _ _ 5 _ q17 ((h5.mono hG).big (by decide))).mono ?_); rintro w _ ⟨ex, rfl, hw⟩; obtain ⟨b, a, k, c, e, b', a', k', c', e', rfl, _⟩ := id hw; exact ⟨ex, rfl, _, _, _, _, _, _, _, _, _, _, rfl, hw⟩)
    simp only [FinalsD, nthDst, putO, List.drop_succ_cons, List.drop_zero]
    rintro _ _ _ _ _ _ _ _ _ _ _ _ _ _ _ _ ⟨⟨v1, v2, v3, v4, v5, v6, v7, v8, v9, v10, rfl, r19⟩, q17, q16, q13, ⟨u1, u2, u3, u4, u5, u6, u7, u8, u9, u10, rfl, r9⟩, q7, q6, q3, -⟩
    try simp only [List.nil_append]
    repeat' first
      | refine op_storeK rfl ?_
      | (first | refine tl_defer ?_ | refine tc_seq ?_ | refine tc_region ?_ | refine at_seq_normal ?_ | refine tl_nil ?_ | refine tl_cons ?_ | refine tl_cons_none ?_ | refine op_move ?_ | refine op_assign ?_ | refine op_fieldAddr ?_ | refine op_load ?_ | refine op_load_agg ?_ | refine op_indexC ?_ | refine op_indexAddr1 ?_ | refine op_indexAddr ?_ | refine op_icmp ?_ | refine op_fcmp ?_ | refine op_iarith ?_ | refine op_bcmp ?_ | refine op_unop_not ?_ | refine op_unop_neg_float ?_ | refine op_unop_neg_int ?_ | refine op_len_slice ?_ | refine op_pick_true ?_ | refine op_pick_false ?_ | refine op_pick_true' ?_ | refine op_pick_false' ?_ | refine op_build ?_ | refine op_extract ?_ | refine op_makeInterface ?_ | refine op_typeAssert ?_ | refine op_ptr_nil ?_ | refine op_nilCheck_ptr ?_ | refine op_nilCheck_meth ?_ | refine op_makeMeth ?_ | refine op_makeFunc ?_ | refine op_itof ?_ | refine op_itoi ?_ | refine op_ftoi ?_ | refine op_iquo ?_ | refine op_irem ?_ | refine op_ibits ?_ | refine op_slice_isnil ?_ | refine op_slice_notnil ?_ | refine op_imax ?_ | refine op_imin ?_ | refine op_shl ?_ | refine op_shr ?_ | (refine op_alloc ?_; intro _) | (refine op_box ?_; intro _) | (refine op_buildSlice ?_; intro _) | (refine op_farith ?_; intro _ _) | refine op_store0 ?_ | refine op_store1 ?_ | refine op_store2 ?_ | refine op_store3 ?_ | refine op_store4 ?_ | refine op_store5 ?_ | refine op_storeK rfl ?_ | refine op_loadK rfl ?_ | refine op_load_aggK rfl ?_ | refine tc_cond_t ?_ | refine tc_cond_f ?_ | refine tc_cond (fun _ => ?_) (fun _ => ?_) | refine tc_block ?_ | refine tc_skip ?_ | refine tc_ret ?_ | refine tc_exit ?_ | refine tc_label ?_ | refine at_seq_ret ?_ | refine at_seq_exit ?_ | refine at_block_normal ?_ | refine at_block_ret ?_ | refine at_block_exit_self ?_ | refine at_block_exit_ne ?_ | refine at_loop_ret ?_ | refine at_loop_exit ?_ | refine at_loop_goto ?_ | refine tl_guard_yes ?_ | refine tl_guard_no ?_ | refine tl_guard_yes' ?_ | refine tl_guard_no' ?_ | refine tl_guard_undef ?_ | refine tl_guard_split (fun _ => ?_) (fun _ => ?_))
      | fail
    refine ret_list rfl (.cons (rv_agg rfl) (.cons (rv_agg rfl) (.cons (.tmp rfl) .nil))) rfl (List.Sublist.refl _) (exq (.inr ⟨h0, _, _, rfl, ?_, ?_⟩)) (.inl rfl)
    · exact (r9.one (k := kx) noU6 _).one (k := ky) noU6 _
    · exact (r19.one (k := kx) noU6 _).one (k := ky) noU6 _
end Go.Proofs.Ytomhkbijijdghaa.Lmb
