/-
  FnSpaceLength: the length of a vector of whole numbers is nearer than 2^-20 to the exact one, and the distance of its end from 0. No conditions beyond the statement's own.
-/
import Derived.Test.YtomhkbijijdghaaRows
import Derived.Test.YtomhkbijijdghaaSpc
import Derived.Test.YtomhkbijijdghaaLg5
set_option linter.unusedVariables false
set_option linter.unusedSimpArgs false
namespace Go.Proofs.Ytomhkbijijdghaa.fnSpaceLength
open Go.Lg Go.Proofs.Ytomhkbijijdghaa.Pl Go.Proofs.Ytomhkbijijdghaa.Lmb Go.Proofs.Ytomhkbijijdghaa.Spc
open Go.ChangeShapes Go.WideShapes Go.RowKit

/-- A place of three exact numbers. -/
def IsP3 (x y z : Rat) (d : Nat) (u : Value) (G : Heap) : Prop := ∃ b a k c e b' a' k' c' e' b'' a'' k'' c'' e'', u = .agg ⟨[.bool b, .slice a k c, .int .i64 e, .bool b', .slice a' k' c', .int .i64 e', .bool b'', .slice a'' k'' c'', .int .i64 e'']⟩ ∧
  IsQ x d (.agg ⟨[.bool b, .slice a k c, .int .i64 e]⟩) G ∧ IsQ y d (.agg ⟨[.bool b', .slice a' k' c', .int .i64 e']⟩) G ∧ IsQ z d (.agg ⟨[.bool b'', .slice a'' k'' c'', .int .i64 e'']⟩) G
theorem IsP3.mono {x y z d u G G'} (h : IsP3 x y z d u G) (hG : ∀ e ∈ G, e ∈ G') : IsP3 x y z d u G' := by
  obtain ⟨b, a, k, c, e, b', a', k', c', e', b'', a'', k'', c'', e'', h1, h2, h3, h4⟩ := h
  exact ⟨b, a, k, c, e, b', a', k', c', e', b'', a'', k'', c'', e'', h1, h2.mono hG, h3.mono hG, h4.mono hG⟩
theorem IsP3.skip {x y z d u} {G G' : Heap} (h : IsP3 x y z d u G) (hs : ∀ e ∈ G, e ∈ G' ∨ NoU e) : IsP3 x y z d u G' := by
  obtain ⟨b, a, k, c, e, b', a', k', c', e', b'', a'', k'', c'', e'', h1, h2, h3, h4⟩ := h
  exact ⟨b, a, k, c, e, b', a', k', c', e', b'', a'', k'', c'', e'', h1, h2.skip hs, h3.skip hs, h4.skip hs⟩
theorem noU9 {k : Nat} {T : TypeId} {fz : Nat × Nat} {b : Bool} {a : Option Addr} {n c : Nat} {e : Int} {b' : Bool} {a' : Option Addr} {n' c' : Nat} {e' : Int} {b'' : Bool} {a'' : Option Addr} {n'' c'' : Nat} {e'' : Int} :
    NoU (k, Obj.cells ⟨[.bool b, .slice a n c, .int .i64 e, .bool b', .slice a' n' c', .int .i64 e', .bool b'', .slice a'' n'' c'', .int .i64 e'']⟩ T fz) := fun l T fz h x hx n => by
  cases h
  simp only [List.mem_cons, List.not_mem_nil, or_false] at hx
  rcases hx with rfl | rfl | rfl | rfl | rfl | rfl | rfl | rfl | rfl <;> (intro h; cases h)
theorem pointOf3 (x y z : Nat) (a b c : Rat) (H : Heap) (hx : Fv x a) (hy : Fv y b) (hz : Fv z c) (hx0 : x < 18446744073709551616) (hy0 : y < 18446744073709551616) (hz0 : z < 18446744073709551616) :
    Does Try.prog 90 [.float .f64 x, .float .f64 y, .float .f64 z] H fun w H' => ∃ ex, H' = ex ++ H ∧ IsP3 a b c 0 w H' := by
  refine fn_enter 14 Try.func90 fun W => ?_
  repeat' first
    | (refine op_call ((qOf x a _ hx hx0).mono ?_); rintro w _ ⟨ex1, rfl, h1⟩; obtain ⟨b1, a1, k1, c1, e1, rfl⟩ := h1.open)
    | (refine op_call ((qOf y b _ hy hy0).mono ?_); rintro w _ ⟨ex2, rfl, h2⟩; obtain ⟨b2, a2, k2, c2, e2, rfl⟩ := h2.open)
    | (refine op_call ((qOf z c _ hz hz0).mono ?_); rintro w _ ⟨ex3, rfl, h3⟩; obtain ⟨b3, a3, k3, c3, e3, rfl⟩ := h3.open)
    | (first | refine tl_defer ?_ | refine tc_seq ?_ | refine tc_region ?_ | refine at_seq_normal ?_ | refine tl_nil ?_ | refine tl_cons ?_ | refine tl_cons_none ?_ | refine op_move ?_ | refine op_assign ?_ | refine op_fieldAddr ?_ | refine op_load ?_ | refine op_load_agg ?_ | refine op_indexC ?_ | refine op_indexAddr1 ?_ | refine op_indexAddr ?_ | refine op_icmp ?_ | refine op_fcmp ?_ | refine op_iarith ?_ | refine op_bcmp ?_ | refine op_unop_not ?_ | refine op_unop_neg_float ?_ | refine op_unop_neg_int ?_ | refine op_len_slice ?_ | refine op_pick_true ?_ | refine op_pick_false ?_ | refine op_pick_true' ?_ | refine op_pick_false' ?_ | refine op_build ?_ | refine op_extract ?_ | refine op_makeInterface ?_ | refine op_typeAssert ?_ | refine op_ptr_nil ?_ | refine op_nilCheck_ptr ?_ | refine op_nilCheck_meth ?_ | refine op_makeMeth ?_ | refine op_makeFunc ?_ | refine op_itof ?_ | refine op_itoi ?_ | refine op_ftoi ?_ | refine op_iquo ?_ | refine op_irem ?_ | refine op_ibits ?_ | refine op_slice_isnil ?_ | refine op_slice_notnil ?_ | refine op_imax ?_ | refine op_imin ?_ | refine op_shl ?_ | refine op_shr ?_ | (refine op_alloc ?_; intro _) | (refine op_box ?_; intro _) | (refine op_buildSlice ?_; intro _) | (refine op_farith ?_; intro _ _) | refine op_store0 ?_ | refine op_store1 ?_ | refine op_store2 ?_ | refine op_store3 ?_ | refine op_store4 ?_ | refine op_store5 ?_ | refine op_storeK rfl ?_ | refine op_loadK rfl ?_ | refine op_load_aggK rfl ?_ | refine tc_cond_t ?_ | refine tc_cond_f ?_ | refine tc_cond (fun _ => ?_) (fun _ => ?_) | refine tc_block ?_ | refine tc_skip ?_ | refine tc_ret ?_ | refine tc_exit ?_ | refine tc_label ?_ | refine at_seq_ret ?_ | refine at_seq_exit ?_ | refine at_block_normal ?_ | refine at_block_ret ?_ | refine at_block_exit_self ?_ | refine at_block_exit_ne ?_ | refine at_loop_ret ?_ | refine at_loop_exit ?_ | refine at_loop_goto ?_ | refine tl_guard_yes ?_ | refine tl_guard_no ?_ | refine tl_guard_yes' ?_ | refine tl_guard_no' ?_ | refine tl_guard_undef ?_ | refine tl_guard_split (fun _ => ?_) (fun _ => ?_))
    | refine op_storeK rfl ?_
    | fail
  rename_i kr
  refine ret_one (.agg (T := 78) (k := kr) (off := 0) (m := [.bool b1, .slice a1 k1 c1, .int .i64 e1, .bool b2, .slice a2 k2 c2, .int .i64 e2, .bool b3, .slice a3 k3 c3, .int .i64 e3]) rfl rfl mem0 rfl rfl) (hG := List.Sublist.refl _) (hk := exq ?_)
  exact IsP3.skip ⟨_, _, _, _, _, _, _, _, _, _, _, _, _, _, _, rfl, h1.mono fun e he => by simp [he], h2.mono fun e he => by simp [he], h3⟩ (mid_mem (k := kr) noU9)
theorem exactly3 (x y z : Nat) (a b c : Rat) (H : Heap) (hx : Fv x a) (hy : Fv y b) (hz : Fv z c) (hx0 : x < 18446744073709551616) (hy0 : y < 18446744073709551616) (hz0 : z < 18446744073709551616) :
    Does Try.prog 36 [v3 x y z] H fun w H' => ∃ ex, H' = ex ++ H ∧ IsP3 a b c 0 w H' := by
  refine fn_enter 10 Try.func36 fun W => ?_
  repeat' first
    | (first | refine tl_defer ?_ | refine tc_seq ?_ | refine tc_region ?_ | refine at_seq_normal ?_ | refine tl_nil ?_ | refine tl_cons ?_ | refine tl_cons_none ?_ | refine op_move ?_ | refine op_assign ?_ | refine op_fieldAddr ?_ | refine op_load ?_ | refine op_load_agg ?_ | refine op_indexC ?_ | refine op_indexAddr1 ?_ | refine op_indexAddr ?_ | refine op_icmp ?_ | refine op_fcmp ?_ | refine op_iarith ?_ | refine op_bcmp ?_ | refine op_unop_not ?_ | refine op_unop_neg_float ?_ | refine op_unop_neg_int ?_ | refine op_len_slice ?_ | refine op_pick_true ?_ | refine op_pick_false ?_ | refine op_pick_true' ?_ | refine op_pick_false' ?_ | refine op_build ?_ | refine op_extract ?_ | refine op_makeInterface ?_ | refine op_typeAssert ?_ | refine op_ptr_nil ?_ | refine op_nilCheck_ptr ?_ | refine op_nilCheck_meth ?_ | refine op_makeMeth ?_ | refine op_makeFunc ?_ | refine op_itof ?_ | refine op_itoi ?_ | refine op_ftoi ?_ | refine op_iquo ?_ | refine op_irem ?_ | refine op_ibits ?_ | refine op_slice_isnil ?_ | refine op_slice_notnil ?_ | refine op_imax ?_ | refine op_imin ?_ | refine op_shl ?_ | refine op_shr ?_ | (refine op_alloc ?_; intro _) | (refine op_box ?_; intro _) | (refine op_buildSlice ?_; intro _) | (refine op_farith ?_; intro _ _) | refine op_store0 ?_ | refine op_store1 ?_ | refine op_store2 ?_ | refine op_store3 ?_ | refine op_store4 ?_ | refine op_store5 ?_ | refine op_storeK rfl ?_ | refine op_loadK rfl ?_ | refine op_load_aggK rfl ?_ | refine tc_cond_t ?_ | refine tc_cond_f ?_ | refine tc_cond (fun _ => ?_) (fun _ => ?_) | refine tc_block ?_ | refine tc_skip ?_ | refine tc_ret ?_ | refine tc_exit ?_ | refine tc_label ?_ | refine at_seq_ret ?_ | refine at_seq_exit ?_ | refine at_block_normal ?_ | refine at_block_ret ?_ | refine at_block_exit_self ?_ | refine at_block_exit_ne ?_ | refine at_loop_ret ?_ | refine at_loop_exit ?_ | refine at_loop_goto ?_ | refine tl_guard_yes ?_ | refine tl_guard_no ?_ | refine tl_guard_yes' ?_ | refine tl_guard_no' ?_ | refine tl_guard_undef ?_ | refine tl_guard_split (fun _ => ?_) (fun _ => ?_))
    | (refine op_call ((pointOf3 x y z a b c _ hx hy hz hx0 hy0 hz0).mono ?_); rintro w _ ⟨ex1, rfl, b1, a1, k1, c1, e1, b2, a2, k2, c2, e2, b3, a3, k3, c3, e3, rfl, h1, h2, h3⟩)
    | refine op_storeK rfl ?_
    | fail
  rename_i kr
  refine ret_one (.agg (T := 78) (k := kr) (off := 0) (m := [.bool b1, .slice a1 k1 c1, .int .i64 e1, .bool b2, .slice a2 k2 c2, .int .i64 e2, .bool b3, .slice a3 k3 c3, .int .i64 e3]) rfl rfl mem0 rfl rfl) (hG := List.Sublist.refl _) (hk := exq ?_)
  exact IsP3.skip ⟨_, _, _, _, _, _, _, _, _, _, _, _, _, _, _, rfl, h1, h2, h3⟩ (mid_mem (k := kr) noU9)
set_option maxHeartbeats 16000000 in
theorem qSub3 (up uq : Value) (px py pz qx qy qz : Rat) (H : Heap) (hp : IsP3 px py pz 0 up H) (hq : IsP3 qx qy qz 0 uq H) :
    Does Try.prog 88 [up, uq] H fun w H' => ∃ ex, H' = ex ++ H ∧ IsP3 (px - qx) (py - qy) (pz - qz) 1 w H' := by
  obtain ⟨_, _, _, _, _, _, _, _, _, _, _, _, _, _, _, rfl, p1, p2, p3⟩ := hp
  obtain ⟨_, _, _, _, _, _, _, _, _, _, _, _, _, _, _, rfl, q1, q2, q3⟩ := hq
  refine fn_enter 21 Try.func88 fun W => ?_
  repeat'
    first
      | refine tl_defer ?_ | refine tc_seq ?_ | refine tc_region ?_ | refine at_seq_normal ?_ | refine tl_nil ?_ | refine tl_cons ?_ | refine tl_cons_none ?_ | refine op_move ?_
      | refine op_assign ?_ | refine op_fieldAddr ?_ | refine op_load ?_ | refine op_load_agg ?_ | refine op_indexC ?_ | refine op_indexAddr1 ?_ | refine op_indexAddr ?_ | refine op_icmp ?_
      | refine op_fcmp ?_ | refine op_iarith ?_ | refine op_bcmp ?_ | refine op_unop_not ?_ | refine op_unop_neg_float ?_ | refine op_unop_neg_int ?_ | refine op_len_slice ?_ | refine op_pick_true ?_
      | refine op_pick_false ?_ | refine op_pick_true' ?_ | refine op_pick_false' ?_ | refine op_build ?_ | refine op_extract ?_ | refine op_makeInterface ?_ | refine op_typeAssert ?_ | refine op_ptr_nil ?_
      | refine op_nilCheck_ptr ?_ | refine op_nilCheck_meth ?_ | refine op_makeMeth ?_ | refine op_makeFunc ?_ | refine op_itof ?_ | refine op_itoi ?_ | refine op_ftoi ?_ | refine op_iquo ?_
      | refine op_irem ?_ | refine op_ibits ?_ | refine op_slice_isnil ?_ | refine op_slice_notnil ?_ | refine op_imax ?_ | refine op_imin ?_ | refine op_shl ?_ | refine op_shr ?_
      | (refine op_alloc ?_; intro _) | (refine op_box ?_; intro _) | (refine op_buildSlice ?_; intro _) | (refine op_farith ?_; intro _ _) | refine op_store0 ?_ | refine op_store1 ?_ | refine op_store2 ?_ | refine op_store3 ?_
      | refine op_store4 ?_ | refine op_store5 ?_ | refine tc_cond_t ?_ | refine tc_cond_f ?_ | refine tc_cond (fun _ => ?_) (fun _ => ?_) | refine tc_block ?_ | refine tc_skip ?_ | refine tc_ret ?_
      | refine tc_exit ?_ | refine tc_label ?_ | refine at_seq_ret ?_ | refine at_seq_exit ?_ | refine at_block_normal ?_ | refine at_block_ret ?_ | refine at_block_exit_self ?_ | refine at_block_exit_ne ?_
      | refine at_loop_ret ?_ | refine at_loop_exit ?_ | refine at_loop_goto ?_ | refine tl_guard_yes ?_ | refine tl_guard_no ?_ | refine tl_guard_yes' ?_ | refine tl_guard_no' ?_ | refine tl_guard_undef ?_
      | refine tl_guard_split (fun _ => ?_) (fun _ => ?_)
  rename_i kp kq kr
  apply fun hole0 hole1 hole2 hole3 hole4 hole5 hole6 hole7 hole8 hole9 hole10 hole11 hE hD hml hdl hpr prem fin => tc_drawnD 15 [PhiD.is hole0, PhiD.is hole1, PhiD.is hole2, PhiD.is hole3, PhiD.gen (fun w _ G => IsQ' (px - qx) 1 w G), PhiD.is hole4, PhiD.is hole5, PhiD.is hole6, PhiD.is hole7, PhiD.gen (fun w _ G => IsQ' (py - qy) 1 w G), PhiD.is hole8, PhiD.is hole9, PhiD.is hole10, PhiD.is hole11, PhiD.gen (fun w _ G => IsQ' (pz - qz) 1 w G)]
    [some 5, some 6, some 7, some 8, some 9, some 10, some 11, some 12, some 13, some 14, some 15, some 16, some 17, some 18, some 19, some 20, none] [[], [0], [], [2], [1, 3], [], [5], [], [7], [6, 8, 4], [], [10], [], [12], [11, 13, 9]] mixed ⟨(fun _ _ _ _ h hs => IsQ'.mono h hs), (fun _ _ _ _ h hs => IsQ'.mono h hs), (fun _ _ _ _ h hs => IsQ'.mono h hs), trivial⟩ prem fin hE hD rfl hml hdl hpr
  rotate_left 13
  · first | kernel_rfl | exact rfl
  · first | kernel_rfl | exact rfl
  · exact Nat.le_of_ble_eq_true rfl
  · first | kernel_rfl | exact rfl
  · first | kernel_rfl | exact rfl
  refine ⟨fun G hG => ?_, fun G hG => ?_, fun G hG => ?_, fun G hG => ?_, fun G hG => ?_, fun G hG => ?_, fun G hG => ?_, fun G hG => ?_, fun G hG => ?_, fun G hG => ?_, fun G hG => ?_, fun G hG => ?_, fun G hG => ?_, fun G hG => ?_, fun G hG => ?_, trivial⟩
  · simp only [withD, nthD, Step2, nthDst, putO, postD]
    (refine op_fieldAddr ?_; exact ⟨[], rfl, rfl, rfl⟩)
  · simp only [withD, nthD, Step2, nthDst, putO, postD]
    ((first | refine op_load ?_ | refine op_load_agg ?_ | refine op_load ?_ (hm := Sub.mem (by assumption) (by (repeat (apply List.mem_cons_of_mem)); assumption)) | refine op_load_agg ?_ (hm := Sub.mem (by assumption) (by (repeat (apply List.mem_cons_of_mem)); assumption)) | refine op_loadH hG rfl ?_ | refine op_load_aggH hG rfl ?_); exact ⟨[], rfl, rfl, rfl⟩)
  · simp only [withD, nthD, Step2, nthDst, putO, postD]
    (refine op_fieldAddr ?_; exact ⟨[], rfl, rfl, rfl⟩)
  · simp only [withD, nthD, Step2, nthDst, putO, postD]
    ((first | refine op_load ?_ | refine op_load_agg ?_ | refine op_load ?_ (hm := Sub.mem (by assumption) (by (repeat (apply List.mem_cons_of_mem)); assumption)) | refine op_load_agg ?_ (hm := Sub.mem (by assumption) (by (repeat (apply List.mem_cons_of_mem)); assumption)) | refine op_loadH hG rfl ?_ | refine op_load_aggH hG rfl ?_); exact ⟨[], rfl, rfl, rfl⟩)
  · simp only [withD, nthD, Step2, nthDst, putO, postD]
    (refine op_call ((qSub _ _ px qx 0 _ (by decide) (p1.mono fun e he => hG e (by simp [he])) (q1.mono fun e he => hG e (by simp [he]))).mono ?_); rintro w _ ⟨ex, rfl, hw⟩; exact ⟨ex, rfl, hw.fine⟩)
  · simp only [withD, nthD, Step2, nthDst, putO, postD]
    (refine op_fieldAddr ?_; exact ⟨[], rfl, rfl, rfl⟩)
  · simp only [withD, nthD, Step2, nthDst, putO, postD]
    ((first | refine op_load ?_ | refine op_load_agg ?_ | refine op_load ?_ (hm := Sub.mem (by assumption) (by (repeat (apply List.mem_cons_of_mem)); assumption)) | refine op_load_agg ?_ (hm := Sub.mem (by assumption) (by (repeat (apply List.mem_cons_of_mem)); assumption)) | refine op_loadH hG rfl ?_ | refine op_load_aggH hG rfl ?_); exact ⟨[], rfl, rfl, rfl⟩)
  · simp only [withD, nthD, Step2, nthDst, putO, postD]
    (refine op_fieldAddr ?_; exact ⟨[], rfl, rfl, rfl⟩)
  · simp only [withD, nthD, Step2, nthDst, putO, postD]
    ((first | refine op_load ?_ | refine op_load_agg ?_ | refine op_load ?_ (hm := Sub.mem (by assumption) (by (repeat (apply List.mem_cons_of_mem)); assumption)) | refine op_load_agg ?_ (hm := Sub.mem (by assumption) (by (repeat (apply List.mem_cons_of_mem)); assumption)) | refine op_loadH hG rfl ?_ | refine op_load_aggH hG rfl ?_); exact ⟨[], rfl, rfl, rfl⟩)
  · simp only [withD, nthD, Step2, nthDst, putO, postD]
    rintro _ _ ⟨bg4, ag4, kg4, cg4, eg4, rfl, g4⟩ -
    (refine op_call ((qSub _ _ py qy 0 _ (by decide) (p2.mono fun e he => hG e (by simp [he])) (q2.mono fun e he => hG e (by simp [he]))).mono ?_); rintro w _ ⟨ex, rfl, hw⟩; exact ⟨ex, rfl, hw.fine⟩)
  · simp only [withD, nthD, Step2, nthDst, putO, postD]
    (refine op_fieldAddr ?_; exact ⟨[], rfl, rfl, rfl⟩)
  · simp only [withD, nthD, Step2, nthDst, putO, postD]
    ((first | refine op_load ?_ | refine op_load_agg ?_ | refine op_load ?_ (hm := Sub.mem (by assumption) (by (repeat (apply List.mem_cons_of_mem)); assumption)) | refine op_load_agg ?_ (hm := Sub.mem (by assumption) (by (repeat (apply List.mem_cons_of_mem)); assumption)) | refine op_loadH hG rfl ?_ | refine op_load_aggH hG rfl ?_); exact ⟨[], rfl, rfl, rfl⟩)
  · simp only [withD, nthD, Step2, nthDst, putO, postD]
    (refine op_fieldAddr ?_; exact ⟨[], rfl, rfl, rfl⟩)
  · simp only [withD, nthD, Step2, nthDst, putO, postD]
    ((first | refine op_load ?_ | refine op_load_agg ?_ | refine op_load ?_ (hm := Sub.mem (by assumption) (by (repeat (apply List.mem_cons_of_mem)); assumption)) | refine op_load_agg ?_ (hm := Sub.mem (by assumption) (by (repeat (apply List.mem_cons_of_mem)); assumption)) | refine op_loadH hG rfl ?_ | refine op_load_aggH hG rfl ?_); exact ⟨[], rfl, rfl, rfl⟩)
  · simp only [withD, nthD, Step2, nthDst, putO, postD]
    rintro _ _ ⟨bg9, ag9, kg9, cg9, eg9, rfl, g9⟩ -
    (refine op_call ((qSub _ _ pz qz 0 _ (by decide) (p3.mono fun e he => hG e (by simp [he])) (q3.mono fun e he => hG e (by simp [he]))).mono ?_); rintro w _ ⟨ex, rfl, hw⟩; exact ⟨ex, rfl, hw.fine⟩)
  simp only [FinalsD, nthDst, putO, List.drop_succ_cons, List.drop_zero]
  rintro _ _ _ _ _ _ ⟨⟨bg14, ag14, kg14, cg14, eg14, rfl, g14⟩, ⟨bg9, ag9, kg9, cg9, eg9, rfl, g9⟩, ⟨bg4, ag4, kg4, cg4, eg4, rfl, g4⟩, -⟩
  try simp only [List.nil_append]
  refine tl_cons ?_
  refine op_build ?_
  refine tl_cons_none ?_
  refine op_storeK rfl ?_
  repeat'
    first
      | refine tl_defer ?_ | refine tc_seq ?_ | refine tc_region ?_ | refine at_seq_normal ?_ | refine tl_nil ?_ | refine tl_cons ?_ | refine tl_cons_none ?_ | refine op_move ?_
      | refine op_assign ?_ | refine op_fieldAddr ?_ | refine op_load ?_ | refine op_load_agg ?_ | refine op_indexC ?_ | refine op_indexAddr1 ?_ | refine op_indexAddr ?_ | refine op_icmp ?_
      | refine op_fcmp ?_ | refine op_iarith ?_ | refine op_bcmp ?_ | refine op_unop_not ?_ | refine op_unop_neg_float ?_ | refine op_unop_neg_int ?_ | refine op_len_slice ?_ | refine op_pick_true ?_
      | refine op_pick_false ?_ | refine op_pick_true' ?_ | refine op_pick_false' ?_ | refine op_build ?_ | refine op_extract ?_ | refine op_makeInterface ?_ | refine op_typeAssert ?_ | refine op_ptr_nil ?_
      | refine op_nilCheck_ptr ?_ | refine op_nilCheck_meth ?_ | refine op_makeMeth ?_ | refine op_makeFunc ?_ | refine op_itof ?_ | refine op_itoi ?_ | refine op_ftoi ?_ | refine op_iquo ?_
      | refine op_irem ?_ | refine op_ibits ?_ | refine op_slice_isnil ?_ | refine op_slice_notnil ?_ | refine op_imax ?_ | refine op_imin ?_ | refine op_shl ?_ | refine op_shr ?_
      | (refine op_alloc ?_; intro _) | (refine op_box ?_; intro _) | (refine op_buildSlice ?_; intro _) | (refine op_farith ?_; intro _ _) | refine op_store0 ?_ | refine op_store1 ?_ | refine op_store2 ?_ | refine op_store3 ?_
      | refine op_store4 ?_ | refine op_store5 ?_ | refine tc_cond_t ?_ | refine tc_cond_f ?_ | refine tc_cond (fun _ => ?_) (fun _ => ?_) | refine tc_block ?_ | refine tc_skip ?_ | refine tc_ret ?_
      | refine tc_exit ?_ | refine tc_label ?_ | refine at_seq_ret ?_ | refine at_seq_exit ?_ | refine at_block_normal ?_ | refine at_block_ret ?_ | refine at_block_exit_self ?_ | refine at_block_exit_ne ?_
      | refine at_loop_ret ?_ | refine at_loop_exit ?_ | refine at_loop_goto ?_ | refine tl_guard_yes ?_ | refine tl_guard_no ?_ | refine tl_guard_yes' ?_ | refine tl_guard_no' ?_ | refine tl_guard_undef ?_
      | refine tl_guard_split (fun _ => ?_) (fun _ => ?_)
  refine ret_one (.agg (T := 78) (k := kr) (off := 0) (m := _) rfl rfl mem0 rfl rfl) (hG := List.Sublist.refl _) (hk := exq ?_)
  exact IsP3.skip ⟨_, _, _, _, _, _, _, _, _, _, _, _, _, _, _, rfl, g4, g9, g14⟩ (mid_mem (k := kr) noU9)
set_option maxHeartbeats 16000000 in
theorem qDot3 (up : Value) (px py pz : Rat) (H : Heap) (hp : IsP3 px py pz 1 up H) :
    Does Try.prog 89 [up, up] H fun w H' => ∃ ex, H' = ex ++ H ∧ IsQ (px * px + py * py + pz * pz) 4 w H' := by
  obtain ⟨_, _, _, _, _, _, _, _, _, _, _, _, _, _, _, rfl, p1, p2, p3⟩ := hp
  refine fn_enter 22 Try.func89 fun W => ?_
  repeat'
    first
      | refine tl_defer ?_ | refine tc_seq ?_ | refine tc_region ?_ | refine at_seq_normal ?_ | refine tl_nil ?_ | refine tl_cons ?_ | refine tl_cons_none ?_ | refine op_move ?_
      | refine op_assign ?_ | refine op_fieldAddr ?_ | refine op_load ?_ | refine op_load_agg ?_ | refine op_indexC ?_ | refine op_indexAddr1 ?_ | refine op_indexAddr ?_ | refine op_icmp ?_
      | refine op_fcmp ?_ | refine op_iarith ?_ | refine op_bcmp ?_ | refine op_unop_not ?_ | refine op_unop_neg_float ?_ | refine op_unop_neg_int ?_ | refine op_len_slice ?_ | refine op_pick_true ?_
      | refine op_pick_false ?_ | refine op_pick_true' ?_ | refine op_pick_false' ?_ | refine op_build ?_ | refine op_extract ?_ | refine op_makeInterface ?_ | refine op_typeAssert ?_ | refine op_ptr_nil ?_
      | refine op_nilCheck_ptr ?_ | refine op_nilCheck_meth ?_ | refine op_makeMeth ?_ | refine op_makeFunc ?_ | refine op_itof ?_ | refine op_itoi ?_ | refine op_ftoi ?_ | refine op_iquo ?_
      | refine op_irem ?_ | refine op_ibits ?_ | refine op_slice_isnil ?_ | refine op_slice_notnil ?_ | refine op_imax ?_ | refine op_imin ?_ | refine op_shl ?_ | refine op_shr ?_
      | (refine op_alloc ?_; intro _) | (refine op_box ?_; intro _) | (refine op_buildSlice ?_; intro _) | (refine op_farith ?_; intro _ _) | refine op_store0 ?_ | refine op_store1 ?_ | refine op_store2 ?_ | refine op_store3 ?_
      | refine op_store4 ?_ | refine op_store5 ?_ | refine tc_cond_t ?_ | refine tc_cond_f ?_ | refine tc_cond (fun _ => ?_) (fun _ => ?_) | refine tc_block ?_ | refine tc_skip ?_ | refine tc_ret ?_
      | refine tc_exit ?_ | refine tc_label ?_ | refine at_seq_ret ?_ | refine at_seq_exit ?_ | refine at_block_normal ?_ | refine at_block_ret ?_ | refine at_block_exit_self ?_ | refine at_block_exit_ne ?_
      | refine at_loop_ret ?_ | refine at_loop_exit ?_ | refine at_loop_goto ?_ | refine tl_guard_yes ?_ | refine tl_guard_no ?_ | refine tl_guard_yes' ?_ | refine tl_guard_no' ?_ | refine tl_guard_undef ?_
      | refine tl_guard_split (fun _ => ?_) (fun _ => ?_)
  rename_i kp kq kr
  apply fun hole0 hole1 hole2 hole3 hole4 hole5 hole6 hole7 hole8 hole9 hole10 hole11 hE hD hml hdl hpr prem fin => tc_drawnD 17 [PhiD.is hole0, PhiD.is hole1, PhiD.is hole2, PhiD.is hole3, PhiD.gen (fun w _ G => IsQ (px * px) 2 w G), PhiD.is hole4, PhiD.is hole5, PhiD.is hole6, PhiD.is hole7, PhiD.gen (fun w _ G => IsQ (py * py) 2 w G), PhiD.gen (fun w _ G => IsQ (px * px + py * py) 3 w G), PhiD.is hole8, PhiD.is hole9, PhiD.is hole10, PhiD.is hole11, PhiD.gen (fun w _ G => IsQ (pz * pz) 2 w G), PhiD.gen (fun w _ G => IsQ' (px * px + py * py + pz * pz) 4 w G)]
    [some 5, some 6, some 7, some 8, some 9, some 10, some 11, some 12, some 13, some 14, some 15, some 16, some 17, some 18, some 19, some 20, some 21, none] [[], [0], [], [2], [1, 3], [], [5], [], [7], [6, 8, 4], [4, 9], [], [11], [], [13], [12, 14, 10], [10, 15]] mixed ⟨(fun _ _ _ _ h hs => IsQ.mono h hs), (fun _ _ _ _ h hs => IsQ.mono h hs), (fun _ _ _ _ h hs => IsQ.mono h hs), (fun _ _ _ _ h hs => IsQ.mono h hs), (fun _ _ _ _ h hs => IsQ'.mono h hs), trivial⟩ prem fin hE hD rfl hml hdl hpr
  rotate_left 13
  · first | kernel_rfl | exact rfl
  · first | kernel_rfl | exact rfl
  · exact Nat.le_of_ble_eq_true rfl
  · first | kernel_rfl | exact rfl
  · first | kernel_rfl | exact rfl
  refine ⟨fun G hG => ?_, fun G hG => ?_, fun G hG => ?_, fun G hG => ?_, fun G hG => ?_, fun G hG => ?_, fun G hG => ?_, fun G hG => ?_, fun G hG => ?_, fun G hG => ?_, fun G hG => ?_, fun G hG => ?_, fun G hG => ?_, fun G hG => ?_, fun G hG => ?_, fun G hG => ?_, fun G hG => ?_, trivial⟩
  · simp only [withD, nthD, Step2, nthDst, putO, postD]
    (refine op_fieldAddr ?_; exact ⟨[], rfl, rfl, rfl⟩)
  · simp only [withD, nthD, Step2, nthDst, putO, postD]
    ((first | refine op_load ?_ | refine op_load_agg ?_ | refine op_load ?_ (hm := Sub.mem (by assumption) (by (repeat (apply List.mem_cons_of_mem)); assumption)) | refine op_load_agg ?_ (hm := Sub.mem (by assumption) (by (repeat (apply List.mem_cons_of_mem)); assumption)) | refine op_loadH hG rfl ?_ | refine op_load_aggH hG rfl ?_); exact ⟨[], rfl, rfl, rfl⟩)
  · simp only [withD, nthD, Step2, nthDst, putO, postD]
    (refine op_fieldAddr ?_; exact ⟨[], rfl, rfl, rfl⟩)
  · simp only [withD, nthD, Step2, nthDst, putO, postD]
    ((first | refine op_load ?_ | refine op_load_agg ?_ | refine op_load ?_ (hm := Sub.mem (by assumption) (by (repeat (apply List.mem_cons_of_mem)); assumption)) | refine op_load_agg ?_ (hm := Sub.mem (by assumption) (by (repeat (apply List.mem_cons_of_mem)); assumption)) | refine op_loadH hG rfl ?_ | refine op_load_aggH hG rfl ?_); exact ⟨[], rfl, rfl, rfl⟩)
  · simp only [withD, nthD, Step2, nthDst, putO, postD]
    (refine op_call ((qMul _ _ px px 1 _ (by decide) (p1.mono fun e he => hG e (by simp [he])) (p1.mono fun e he => hG e (by simp [he]))).mono ?_); rintro w _ ⟨ex, rfl, hw⟩; exact ⟨ex, rfl, hw⟩)
  · simp only [withD, nthD, Step2, nthDst, putO, postD]
    (refine op_fieldAddr ?_; exact ⟨[], rfl, rfl, rfl⟩)
  · simp only [withD, nthD, Step2, nthDst, putO, postD]
    ((first | refine op_load ?_ | refine op_load_agg ?_ | refine op_load ?_ (hm := Sub.mem (by assumption) (by (repeat (apply List.mem_cons_of_mem)); assumption)) | refine op_load_agg ?_ (hm := Sub.mem (by assumption) (by (repeat (apply List.mem_cons_of_mem)); assumption)) | refine op_loadH hG rfl ?_ | refine op_load_aggH hG rfl ?_); exact ⟨[], rfl, rfl, rfl⟩)
  · simp only [withD, nthD, Step2, nthDst, putO, postD]
    (refine op_fieldAddr ?_; exact ⟨[], rfl, rfl, rfl⟩)
  · simp only [withD, nthD, Step2, nthDst, putO, postD]
    ((first | refine op_load ?_ | refine op_load_agg ?_ | refine op_load ?_ (hm := Sub.mem (by assumption) (by (repeat (apply List.mem_cons_of_mem)); assumption)) | refine op_load_agg ?_ (hm := Sub.mem (by assumption) (by (repeat (apply List.mem_cons_of_mem)); assumption)) | refine op_loadH hG rfl ?_ | refine op_load_aggH hG rfl ?_); exact ⟨[], rfl, rfl, rfl⟩)
  · simp only [withD, nthD, Step2, nthDst, putO, postD]
    rintro _ _ g4 -
    (refine op_call ((qMul _ _ py py 1 _ (by decide) (p2.mono fun e he => hG e (by simp [he])) (p2.mono fun e he => hG e (by simp [he]))).mono ?_); rintro w _ ⟨ex, rfl, hw⟩; exact ⟨ex, rfl, hw⟩)
  · simp only [withD, nthD, Step2, nthDst, putO, postD]
    rintro _ _ g4 - _ _ g9 -
    (refine op_call ((qAdd _ _ _ _ 2 _ (by decide) g4 g9).mono ?_); rintro w _ ⟨ex, rfl, hw⟩; exact ⟨ex, rfl, hw⟩)
  · simp only [withD, nthD, Step2, nthDst, putO, postD]
    (refine op_fieldAddr ?_; exact ⟨[], rfl, rfl, rfl⟩)
  · simp only [withD, nthD, Step2, nthDst, putO, postD]
    ((first | refine op_load ?_ | refine op_load_agg ?_ | refine op_load ?_ (hm := Sub.mem (by assumption) (by (repeat (apply List.mem_cons_of_mem)); assumption)) | refine op_load_agg ?_ (hm := Sub.mem (by assumption) (by (repeat (apply List.mem_cons_of_mem)); assumption)) | refine op_loadH hG rfl ?_ | refine op_load_aggH hG rfl ?_); exact ⟨[], rfl, rfl, rfl⟩)
  · simp only [withD, nthD, Step2, nthDst, putO, postD]
    (refine op_fieldAddr ?_; exact ⟨[], rfl, rfl, rfl⟩)
  · simp only [withD, nthD, Step2, nthDst, putO, postD]
    ((first | refine op_load ?_ | refine op_load_agg ?_ | refine op_load ?_ (hm := Sub.mem (by assumption) (by (repeat (apply List.mem_cons_of_mem)); assumption)) | refine op_load_agg ?_ (hm := Sub.mem (by assumption) (by (repeat (apply List.mem_cons_of_mem)); assumption)) | refine op_loadH hG rfl ?_ | refine op_load_aggH hG rfl ?_); exact ⟨[], rfl, rfl, rfl⟩)
  · simp only [withD, nthD, Step2, nthDst, putO, postD]
    rintro _ _ g10 -
    (refine op_call ((qMul _ _ pz pz 1 _ (by decide) (p3.mono fun e he => hG e (by simp [he])) (p3.mono fun e he => hG e (by simp [he]))).mono ?_); rintro w _ ⟨ex, rfl, hw⟩; exact ⟨ex, rfl, hw⟩)
  · simp only [withD, nthD, Step2, nthDst, putO, postD]
    rintro _ _ g10 - _ _ g15 -
    (refine op_call ((qAdd _ _ _ _ 3 _ (by decide) g10 (g15.big (by decide))).mono ?_); rintro w _ ⟨ex, rfl, hw⟩; exact ⟨ex, rfl, hw.fine⟩)
  simp only [FinalsD, nthDst, putO, List.drop_succ_cons, List.drop_zero]
  rintro _ _ _ _ _ _ _ _ _ _ ⟨⟨bg16, ag16, kg16, cg16, eg16, rfl, g16⟩, g15, g10, g9, g4, -⟩
  try simp only [List.nil_append]
  refine tl_cons_none ?_
  refine op_storeK rfl ?_
  repeat'
    first
      | refine tl_defer ?_ | refine tc_seq ?_ | refine tc_region ?_ | refine at_seq_normal ?_ | refine tl_nil ?_ | refine tl_cons ?_ | refine tl_cons_none ?_ | refine op_move ?_
      | refine op_assign ?_ | refine op_fieldAddr ?_ | refine op_load ?_ | refine op_load_agg ?_ | refine op_indexC ?_ | refine op_indexAddr1 ?_ | refine op_indexAddr ?_ | refine op_icmp ?_
      | refine op_fcmp ?_ | refine op_iarith ?_ | refine op_bcmp ?_ | refine op_unop_not ?_ | refine op_unop_neg_float ?_ | refine op_unop_neg_int ?_ | refine op_len_slice ?_ | refine op_pick_true ?_
      | refine op_pick_false ?_ | refine op_pick_true' ?_ | refine op_pick_false' ?_ | refine op_build ?_ | refine op_extract ?_ | refine op_makeInterface ?_ | refine op_typeAssert ?_ | refine op_ptr_nil ?_
      | refine op_nilCheck_ptr ?_ | refine op_nilCheck_meth ?_ | refine op_makeMeth ?_ | refine op_makeFunc ?_ | refine op_itof ?_ | refine op_itoi ?_ | refine op_ftoi ?_ | refine op_iquo ?_
      | refine op_irem ?_ | refine op_ibits ?_ | refine op_slice_isnil ?_ | refine op_slice_notnil ?_ | refine op_imax ?_ | refine op_imin ?_ | refine op_shl ?_ | refine op_shr ?_
      | (refine op_alloc ?_; intro _) | (refine op_box ?_; intro _) | (refine op_buildSlice ?_; intro _) | (refine op_farith ?_; intro _ _) | refine op_store0 ?_ | refine op_store1 ?_ | refine op_store2 ?_ | refine op_store3 ?_
      | refine op_store4 ?_ | refine op_store5 ?_ | refine tc_cond_t ?_ | refine tc_cond_f ?_ | refine tc_cond (fun _ => ?_) (fun _ => ?_) | refine tc_block ?_ | refine tc_skip ?_ | refine tc_ret ?_
      | refine tc_exit ?_ | refine tc_label ?_ | refine at_seq_ret ?_ | refine at_seq_exit ?_ | refine at_block_normal ?_ | refine at_block_ret ?_ | refine at_block_exit_self ?_ | refine at_block_exit_ne ?_
      | refine at_loop_ret ?_ | refine at_loop_exit ?_ | refine at_loop_goto ?_ | refine tl_guard_yes ?_ | refine tl_guard_no ?_ | refine tl_guard_yes' ?_ | refine tl_guard_no' ?_ | refine tl_guard_undef ?_
      | refine tl_guard_split (fun _ => ?_) (fun _ => ?_)
  refine ret_one (.agg (T := 68) (k := kr) (off := 0) (m := _) rfl rfl mem0 rfl rfl) (hG := List.Sublist.refl _) (hk := exq ?_)
  exact g16.skip (mid_mem (k := kr) noU3)
set_option maxHeartbeats 16000000 in
theorem qSquare3 (up uq : Value) (px py pz qx qy qz : Rat) (H : Heap) (hp : IsP3 px py pz 0 up H) (hq : IsP3 qx qy qz 0 uq H) :
    Does Try.prog 35 [up, uq] H fun w H' => ∃ ex, H' = ex ++ H ∧ IsQ ((px - qx) * (px - qx) + (py - qy) * (py - qy) + (pz - qz) * (pz - qz)) 4 w H' := by
  have hp0 := hp
  have hq0 := hq
  obtain ⟨_, _, _, _, _, _, _, _, _, _, _, _, _, _, _, rfl, p1, p2, p3⟩ := hp
  obtain ⟨_, _, _, _, _, _, _, _, _, _, _, _, _, _, _, rfl, q1, q2, q3⟩ := hq
  refine fn_enter 12 Try.func35 fun W => ?_
  repeat' first
    | (first | refine tl_defer ?_ | refine tc_seq ?_ | refine tc_region ?_ | refine at_seq_normal ?_ | refine tl_nil ?_ | refine tl_cons ?_ | refine tl_cons_none ?_ | refine op_move ?_ | refine op_assign ?_ | refine op_fieldAddr ?_ | refine op_load ?_ | refine op_load_agg ?_ | refine op_indexC ?_ | refine op_indexAddr1 ?_ | refine op_indexAddr ?_ | refine op_icmp ?_ | refine op_fcmp ?_ | refine op_iarith ?_ | refine op_bcmp ?_ | refine op_unop_not ?_ | refine op_unop_neg_float ?_ | refine op_unop_neg_int ?_ | refine op_len_slice ?_ | refine op_pick_true ?_ | refine op_pick_false ?_ | refine op_pick_true' ?_ | refine op_pick_false' ?_ | refine op_build ?_ | refine op_extract ?_ | refine op_makeInterface ?_ | refine op_typeAssert ?_ | refine op_ptr_nil ?_ | refine op_nilCheck_ptr ?_ | refine op_nilCheck_meth ?_ | refine op_makeMeth ?_ | refine op_makeFunc ?_ | refine op_itof ?_ | refine op_itoi ?_ | refine op_ftoi ?_ | refine op_iquo ?_ | refine op_irem ?_ | refine op_ibits ?_ | refine op_slice_isnil ?_ | refine op_slice_notnil ?_ | refine op_imax ?_ | refine op_imin ?_ | refine op_shl ?_ | refine op_shr ?_ | (refine op_alloc ?_; intro _) | (refine op_box ?_; intro _) | (refine op_buildSlice ?_; intro _) | (refine op_farith ?_; intro _ _) | refine op_store0 ?_ | refine op_store1 ?_ | refine op_store2 ?_ | refine op_store3 ?_ | refine op_store4 ?_ | refine op_store5 ?_ | refine op_storeK rfl ?_ | refine op_loadK rfl ?_ | refine op_load_aggK rfl ?_ | refine tc_cond_t ?_ | refine tc_cond_f ?_ | refine tc_cond (fun _ => ?_) (fun _ => ?_) | refine tc_block ?_ | refine tc_skip ?_ | refine tc_ret ?_ | refine tc_exit ?_ | refine tc_label ?_ | refine at_seq_ret ?_ | refine at_seq_exit ?_ | refine at_block_normal ?_ | refine at_block_ret ?_ | refine at_block_exit_self ?_ | refine at_block_exit_ne ?_ | refine at_loop_ret ?_ | refine at_loop_exit ?_ | refine at_loop_goto ?_ | refine tl_guard_yes ?_ | refine tl_guard_no ?_ | refine tl_guard_yes' ?_ | refine tl_guard_no' ?_ | refine tl_guard_undef ?_ | refine tl_guard_split (fun _ => ?_) (fun _ => ?_))
    | refine op_load_aggK rfl ?_
    | (refine op_call ((qSub3 _ _ px py pz qx qy qz _ (hp0.mono ins) (hq0.mono ins)).mono ?_); rintro w _ ⟨ex1, rfl, hs⟩; obtain ⟨b1, a1, k1, c1, e1, b2, a2, k2, c2, e2, b3, a3, k3, c3, e3, rfl, h1, h2, h3⟩ := hs)
    | refine op_storeK rfl ?_
    | fail
  rename_i kp kq kr k5
  have hs5 : IsP3 (px - qx) (py - qy) (pz - qz) 1 (.agg ⟨[.bool b1, .slice a1 k1 c1, .int .i64 e1, .bool b2, .slice a2 k2 c2, .int .i64 e2, .bool b3, .slice a3 k3 c3, .int .i64 e3]⟩) _ := ⟨_, _, _, _, _, _, _, _, _, _, _, _, _, _, _, rfl, h1, h2, h3⟩
  repeat' first
    | (refine op_call ((qDot3 _ _ _ _ _ (hs5.mono fun e he => by simp only [List.mem_cons, List.mem_append] at he ⊢; rcases he with h | h <;> simp [h])).mono ?_); rintro w _ ⟨ex2, rfl, hd⟩; obtain ⟨b4, a4, k4, c4, e4, rfl⟩ := hd.open)
    | refine op_storeK rfl ?_
    | (first | refine tl_defer ?_ | refine tc_seq ?_ | refine tc_region ?_ | refine at_seq_normal ?_ | refine tl_nil ?_ | refine tl_cons ?_ | refine tl_cons_none ?_ | refine op_move ?_ | refine op_assign ?_ | refine op_fieldAddr ?_ | refine op_load ?_ | refine op_load_agg ?_ | refine op_indexC ?_ | refine op_indexAddr1 ?_ | refine op_indexAddr ?_ | refine op_icmp ?_ | refine op_fcmp ?_ | refine op_iarith ?_ | refine op_bcmp ?_ | refine op_unop_not ?_ | refine op_unop_neg_float ?_ | refine op_unop_neg_int ?_ | refine op_len_slice ?_ | refine op_pick_true ?_ | refine op_pick_false ?_ | refine op_pick_true' ?_ | refine op_pick_false' ?_ | refine op_build ?_ | refine op_extract ?_ | refine op_makeInterface ?_ | refine op_typeAssert ?_ | refine op_ptr_nil ?_ | refine op_nilCheck_ptr ?_ | refine op_nilCheck_meth ?_ | refine op_makeMeth ?_ | refine op_makeFunc ?_ | refine op_itof ?_ | refine op_itoi ?_ | refine op_ftoi ?_ | refine op_iquo ?_ | refine op_irem ?_ | refine op_ibits ?_ | refine op_slice_isnil ?_ | refine op_slice_notnil ?_ | refine op_imax ?_ | refine op_imin ?_ | refine op_shl ?_ | refine op_shr ?_ | (refine op_alloc ?_; intro _) | (refine op_box ?_; intro _) | (refine op_buildSlice ?_; intro _) | (refine op_farith ?_; intro _ _) | refine op_store0 ?_ | refine op_store1 ?_ | refine op_store2 ?_ | refine op_store3 ?_ | refine op_store4 ?_ | refine op_store5 ?_ | refine op_storeK rfl ?_ | refine op_loadK rfl ?_ | refine op_load_aggK rfl ?_ | refine tc_cond_t ?_ | refine tc_cond_f ?_ | refine tc_cond (fun _ => ?_) (fun _ => ?_) | refine tc_block ?_ | refine tc_skip ?_ | refine tc_ret ?_ | refine tc_exit ?_ | refine tc_label ?_ | refine at_seq_ret ?_ | refine at_seq_exit ?_ | refine at_block_normal ?_ | refine at_block_ret ?_ | refine at_block_exit_self ?_ | refine at_block_exit_ne ?_ | refine at_loop_ret ?_ | refine at_loop_exit ?_ | refine at_loop_goto ?_ | refine tl_guard_yes ?_ | refine tl_guard_no ?_ | refine tl_guard_yes' ?_ | refine tl_guard_no' ?_ | refine tl_guard_undef ?_ | refine tl_guard_split (fun _ => ?_) (fun _ => ?_))
    | fail
  refine ret_one (.agg (T := 68) (k := kr) (off := 0) (m := [.bool b4, .slice a4 k4 c4, .int .i64 e4]) rfl rfl mem0 rfl rfl) (hG := List.Sublist.refl _) (hk := exq ?_)
  exact hd.skip (mid_mem (k := kr) noU3)
theorem triple_cut (x y z : Nat) : (([Value.float .f64 x, .float .f64 y, .float .f64 z] : List Value).drop (0 + 0 * 3)).take 3 = [.float .f64 x, .float .f64 y, .float .f64 z] := rfl
set_option maxHeartbeats 8000000 in
/-- What the statement asks of one place. -/
theorem spaceTo (k x y z : Nat) (T : TypeId) (fz : Nat × Nat) (H : Heap) (hx : x < 18446744073709551616) (hy : y < 18446744073709551616) (hz : z < 18446744073709551616) (hm : (k, Obj.cells ⟨[.float .f64 x, .float .f64 y, .float .f64 z]⟩ T fz) ∈ H) :
    Does Try.prog 33 [.float .f64 4697254411347427328, .slice (some ⟨k, 0, none⟩) 1 1] H fun u H' => (∃ b, u = .bool b ∧ (b = true → Wh 1048576 x ∧ Wh 1048576 y ∧ Wh 1048576 z)) ∧ ∃ ex, H' = ex ++ H := by
  refine fn_enter 24 Try.func33 fun W => ?_
  repeat'
    first
      | refine tl_defer ?_ | refine tc_seq ?_ | refine tc_region ?_ | refine at_seq_normal ?_ | refine tl_nil ?_ | refine tl_cons ?_ | refine tl_cons_none ?_ | refine op_move ?_
      | refine op_assign ?_ | refine op_fieldAddr ?_ | refine op_load ?_ | refine op_load_agg ?_ | refine op_indexC ?_ | refine op_indexAddr1 ?_ | refine op_indexAddr ?_ | refine op_icmp ?_
      | refine op_fcmp ?_ | refine op_iarith ?_ | refine op_bcmp ?_ | refine op_unop_not ?_ | refine op_unop_neg_float ?_ | refine op_unop_neg_int ?_ | refine op_len_slice ?_ | refine op_pick_true ?_
      | refine op_pick_false ?_ | refine op_pick_true' ?_ | refine op_pick_false' ?_ | refine op_build ?_ | refine op_extract ?_ | refine op_makeInterface ?_ | refine op_typeAssert ?_ | refine op_ptr_nil ?_
      | refine op_nilCheck_ptr ?_ | refine op_nilCheck_meth ?_ | refine op_makeMeth ?_ | refine op_makeFunc ?_ | refine op_itof ?_ | refine op_itoi ?_ | refine op_ftoi ?_ | refine op_iquo ?_
      | refine op_irem ?_ | refine op_ibits ?_ | refine op_slice_isnil ?_ | refine op_slice_notnil ?_ | refine op_imax ?_ | refine op_imin ?_ | refine op_shl ?_ | refine op_shr ?_
      | (refine op_alloc ?_; intro _) | (refine op_box ?_; intro _) | (refine op_buildSlice ?_; intro _) | (refine op_farith ?_; intro _ _) | refine op_store0 ?_ | refine op_store1 ?_ | refine op_store2 ?_ | refine op_store3 ?_
      | refine op_store4 ?_ | refine op_store5 ?_ | refine tc_cond_t ?_ | refine tc_cond_f ?_ | refine tc_cond (fun _ => ?_) (fun _ => ?_) | refine tc_block ?_ | refine tc_skip ?_ | refine tc_ret ?_
      | refine tc_exit ?_ | refine tc_label ?_ | refine at_seq_ret ?_ | refine at_seq_exit ?_ | refine at_block_normal ?_ | refine at_block_ret ?_ | refine at_block_exit_self ?_ | refine at_block_exit_ne ?_
      | refine at_loop_ret ?_ | refine at_loop_exit ?_ | refine at_loop_goto ?_ | refine tl_guard_yes ?_ | refine tl_guard_no ?_ | refine tl_guard_yes' ?_ | refine tl_guard_no' ?_ | refine tl_guard_undef ?_
      | refine tl_guard_split (fun _ => ?_) (fun _ => ?_)
  refine tc_loopH [(0, _), (7, _), (8, _)] (by repeat (first | exact trivial | refine ⟨rfl, ?_⟩)) (fun j : Nat => [(9, .int .i64 (j : Int))]) (fun j => j = 0 ∨ j = 1 ∧ Wh 1048576 x ∧ Wh 1048576 y ∧ Wh 1048576 z) (fun j => 1 - j) 0 (.inl rfl) ⟨rfl, trivial⟩ ?_
  rintro j (rfl | ⟨rfl, hW⟩)
  · repeat' first
      | (refine op_indexAddr (j := 0) ?_ (hj := by decide))
      | (refine op_call ((wholeTo _ [x, y, z] _ 1048576 _ fv_most (by decide) (by simp) (by intro q hq; simp only [List.mem_cons, List.not_mem_nil, or_false] at hq; rcases hq with rfl | rfl | rfl <;> assumption) (fs_new [x, y, z] List.mem_cons_self)).mono ?_); rintro _ _ ⟨⟨b, rfl, hb'⟩, rfl⟩)
      | (first | refine tl_defer ?_ | refine tc_seq ?_ | refine tc_region ?_ | refine at_seq_normal ?_ | refine tl_nil ?_ | refine tl_cons ?_ | refine tl_cons_none ?_ | refine op_move ?_ | refine op_assign ?_ | refine op_fieldAddr ?_ | refine op_load ?_ | refine op_load_agg ?_ | refine op_indexC ?_ | refine op_indexAddr1 ?_ | refine op_indexAddr ?_ | refine op_icmp ?_ | refine op_fcmp ?_ | refine op_iarith ?_ | refine op_bcmp ?_ | refine op_unop_not ?_ | refine op_unop_neg_float ?_ | refine op_unop_neg_int ?_ | refine op_len_slice ?_ | refine op_pick_true ?_ | refine op_pick_false ?_ | refine op_pick_true' ?_ | refine op_pick_false' ?_ | refine op_build ?_ | refine op_extract ?_ | refine op_makeInterface ?_ | refine op_typeAssert ?_ | refine op_ptr_nil ?_ | refine op_nilCheck_ptr ?_ | refine op_nilCheck_meth ?_ | refine op_makeMeth ?_ | refine op_makeFunc ?_ | refine op_itof ?_ | refine op_itoi ?_ | refine op_ftoi ?_ | refine op_iquo ?_ | refine op_irem ?_ | refine op_ibits ?_ | refine op_slice_isnil ?_ | refine op_slice_notnil ?_ | refine op_imax ?_ | refine op_imin ?_ | refine op_shl ?_ | refine op_shr ?_ | (refine op_alloc ?_; intro _) | (refine op_box ?_; intro _) | (refine op_buildSlice ?_; intro _) | (refine op_farith ?_; intro _ _) | refine op_store0 ?_ | refine op_store1 ?_ | refine op_store2 ?_ | refine op_store3 ?_ | refine op_store4 ?_ | refine op_store5 ?_ | refine op_storeK rfl ?_ | refine op_loadK rfl ?_ | refine op_load_aggK rfl ?_ | refine tc_cond_t ?_ | refine tc_cond_f ?_ | refine tc_cond (fun _ => ?_) (fun _ => ?_) | refine tc_block ?_ | refine tc_skip ?_ | refine tc_ret ?_ | refine tc_exit ?_ | refine tc_label ?_ | refine at_seq_ret ?_ | refine at_seq_exit ?_ | refine at_block_normal ?_ | refine at_block_ret ?_ | refine at_block_exit_self ?_ | refine at_block_exit_ne ?_ | refine at_loop_ret ?_ | refine at_loop_exit ?_ | refine at_loop_goto ?_ | refine tl_guard_yes ?_ | refine tl_guard_no ?_ | refine tl_guard_yes' ?_ | refine tl_guard_no' ?_ | refine tl_guard_undef ?_ | refine tl_guard_split (fun _ => ?_) (fun _ => ?_))
      | fail
    · exact ret_tmp (hG := List.Sublist.refl _) (hk := ⟨⟨false, rfl, fun h => by cases h⟩, ⟨[_, _], rfl⟩⟩)
    · rename_i h1
      have := hb' (by simpa using h1)
      exact at_loopK 1 (.inr ⟨rfl, this x (by simp), this y (by simp), this z (by simp)⟩) (by decide) ⟨rfl, trivial⟩ (by repeat (first | exact trivial | refine ⟨rfl, ?_⟩)) (by (repeat (first | exact List.Sublist.refl _ | apply List.Sublist.cons_cons | apply List.Sublist.cons | refine List.Sublist.trans ?_ (List.sublist_append_right _ _))))
  · have hWW := hW
    repeat'
      first
        | refine tl_defer ?_ | refine tc_seq ?_ | refine tc_region ?_ | refine at_seq_normal ?_ | refine tl_nil ?_ | refine tl_cons ?_ | refine tl_cons_none ?_ | refine op_move ?_
        | refine op_assign ?_ | refine op_fieldAddr ?_ | refine op_load ?_ | refine op_load_agg ?_ | refine op_indexC ?_ | refine op_indexAddr1 ?_ | refine op_indexAddr ?_ | refine op_icmp ?_
        | refine op_fcmp ?_ | refine op_iarith ?_ | refine op_bcmp ?_ | refine op_unop_not ?_ | refine op_unop_neg_float ?_ | refine op_unop_neg_int ?_ | refine op_len_slice ?_ | refine op_pick_true ?_
        | refine op_pick_false ?_ | refine op_pick_true' ?_ | refine op_pick_false' ?_ | refine op_build ?_ | refine op_extract ?_ | refine op_makeInterface ?_ | refine op_typeAssert ?_ | refine op_ptr_nil ?_
        | refine op_nilCheck_ptr ?_ | refine op_nilCheck_meth ?_ | refine op_makeMeth ?_ | refine op_makeFunc ?_ | refine op_itof ?_ | refine op_itoi ?_ | refine op_ftoi ?_ | refine op_iquo ?_
        | refine op_irem ?_ | refine op_ibits ?_ | refine op_slice_isnil ?_ | refine op_slice_notnil ?_ | refine op_imax ?_ | refine op_imin ?_ | refine op_shl ?_ | refine op_shr ?_
        | (refine op_alloc ?_; intro _) | (refine op_box ?_; intro _) | (refine op_buildSlice ?_; intro _) | (refine op_farith ?_; intro _ _) | refine op_store0 ?_ | refine op_store1 ?_ | refine op_store2 ?_ | refine op_store3 ?_
        | refine op_store4 ?_ | refine op_store5 ?_ | refine tc_cond_t ?_ | refine tc_cond_f ?_ | refine tc_cond (fun _ => ?_) (fun _ => ?_) | refine tc_block ?_ | refine tc_skip ?_ | refine tc_ret ?_
        | refine tc_exit ?_ | refine tc_label ?_ | refine at_seq_ret ?_ | refine at_seq_exit ?_ | refine at_block_normal ?_ | refine at_block_ret ?_ | refine at_block_exit_self ?_ | refine at_block_exit_ne ?_
        | refine at_loop_ret ?_ | refine at_loop_exit ?_ | refine at_loop_goto ?_ | refine tl_guard_yes ?_ | refine tl_guard_no ?_ | refine tl_guard_yes' ?_ | refine tl_guard_no' ?_ | refine tl_guard_undef ?_
        | refine tl_guard_split (fun _ => ?_) (fun _ => ?_)
    exact ret_tmp (hG := List.Sublist.refl _) (hk := ⟨⟨true, rfl, fun _ => hW⟩, ⟨[], rfl⟩⟩)
theorem zero0 : FI 1048576 0 0 := ⟨⟨false, 0, -1074, rfl, by simp⟩, by decide, by decide⟩
set_option maxHeartbeats 32000000 in
theorem law (x y z : Nat) (hx : x < 18446744073709551616) (hy : y < 18446744073709551616) (hz : z < 18446744073709551616) (H : Heap) :
    Does Try.prog 7 [v3 x y z] H fun w H' => w = .bool true ∧ H' = H := by
  refine fn_enter 26 Try.func7 fun W => ?_
  repeat' first
    | (first | refine tl_defer ?_ | refine tc_seq ?_ | refine tc_region ?_ | refine at_seq_normal ?_ | refine tl_nil ?_ | refine tl_cons ?_ | refine tl_cons_none ?_ | refine op_move ?_ | refine op_assign ?_ | refine op_fieldAddr ?_ | refine op_load ?_ | refine op_load_agg ?_ | refine op_indexC ?_ | refine op_indexAddr1 ?_ | refine op_indexAddr ?_ | refine op_icmp ?_ | refine op_fcmp ?_ | refine op_iarith ?_ | refine op_bcmp ?_ | refine op_unop_not ?_ | refine op_unop_neg_float ?_ | refine op_unop_neg_int ?_ | refine op_len_slice ?_ | refine op_pick_true ?_ | refine op_pick_false ?_ | refine op_pick_true' ?_ | refine op_pick_false' ?_ | refine op_build ?_ | refine op_extract ?_ | refine op_makeInterface ?_ | refine op_typeAssert ?_ | refine op_ptr_nil ?_ | refine op_nilCheck_ptr ?_ | refine op_nilCheck_meth ?_ | refine op_makeMeth ?_ | refine op_makeFunc ?_ | refine op_itof ?_ | refine op_itoi ?_ | refine op_ftoi ?_ | refine op_iquo ?_ | refine op_irem ?_ | refine op_ibits ?_ | refine op_slice_isnil ?_ | refine op_slice_notnil ?_ | refine op_imax ?_ | refine op_imin ?_ | refine op_shl ?_ | refine op_shr ?_ | (refine op_alloc ?_; intro _) | (refine op_box ?_; intro _) | (refine op_buildSlice ?_; intro _) | (refine op_farith ?_; intro _ _) | refine op_store0 ?_ | refine op_store1 ?_ | refine op_store2 ?_ | refine op_store3 ?_ | refine op_store4 ?_ | refine op_store5 ?_ | refine op_storeK rfl ?_ | refine op_loadK rfl ?_ | refine op_load_aggK rfl ?_ | refine tc_cond_t ?_ | refine tc_cond_f ?_ | refine tc_cond (fun _ => ?_) (fun _ => ?_) | refine tc_block ?_ | refine tc_skip ?_ | refine tc_ret ?_ | refine tc_exit ?_ | refine tc_label ?_ | refine at_seq_ret ?_ | refine at_seq_exit ?_ | refine at_block_normal ?_ | refine at_block_ret ?_ | refine at_block_exit_self ?_ | refine at_block_exit_ne ?_ | refine at_loop_ret ?_ | refine at_loop_exit ?_ | refine at_loop_goto ?_ | refine tl_guard_yes ?_ | refine tl_guard_no ?_ | refine tl_guard_yes' ?_ | refine tl_guard_no' ?_ | refine tl_guard_undef ?_ | refine tl_guard_split (fun _ => ?_) (fun _ => ?_))
    | (refine op_call ((spaceTo _ x y z _ _ _ hx hy hz mem0).mono ?_); rintro _ _ ⟨⟨b, rfl, hb⟩, ex0, rfl⟩)
    | fail
  · exact ret_tmp (hG := by (repeat (first | exact List.Sublist.refl _ | apply List.Sublist.cons_cons | apply List.Sublist.cons | refine List.Sublist.trans ?_ (List.sublist_append_right _ _)))) (hk := ⟨rfl, rfl⟩)
  rename_i hnb
  obtain ⟨⟨a, fa, a1, a2⟩, ⟨b', fb, b1, b2⟩, ⟨c, fc, c1, c2⟩⟩ := hb (by simpa using hnb)
  have ga : FI 1048576 x a := ⟨fa, a1, a2⟩
  have gb : FI 1048576 y b' := ⟨fb, b1, b2⟩
  have gc : FI 1048576 z c := ⟨fc, c1, c2⟩
  have hm1 := mul_bound (a := a) (b := a) (A := 1048576) (B := 1048576) (by omega) (by omega) (by omega) (by omega)
  have hm2 := mul_bound (a := b') (b := b') (A := 1048576) (B := 1048576) (by omega) (by omega) (by omega) (by omega)
  have hm3 := mul_bound (a := c) (b := c) (A := 1048576) (B := 1048576) (by omega) (by omega) (by omega) (by omega)
  have hn0 : 0 ≤ a * a + b' * b' + c * c := Int.add_nonneg (Int.add_nonneg (sq_nn _) (sq_nn _)) (sq_nn _)
  have hlen : ∀ G : Heap, Does Try.prog 34 [v3 x y z] G fun w H' => (∃ r, w = .float .f64 r ∧ Root r (a * a + b' * b' + c * c)) ∧ ∃ ex, H' = ex ++ G := fun G => implLength x y z a b' c G ga gb gc
  have hdist : ∀ G : Heap, Does Try.prog 28 [v3 0 0 0, v3 x y z] G fun w H' => (∃ r, w = .float .f64 r ∧ Root r (a * a + b' * b' + c * c)) ∧ ∃ ex, H' = ex ++ G := fun G => by
    have h := implDistS 0 0 0 x y z 0 0 0 a b' c G zero0 zero0 zero0 ga gb gc
    have e : (0 - a) * (0 - a) + (0 - b') * (0 - b') + (0 - c) * (0 - c) = a * a + b' * b' + c * c := by simp only [Int.zero_sub, Int.neg_mul_neg]
    rw [e] at h
    exact h
  have hrt : ∀ u r : Nat, Fv u ((a * a + b' * b' + c * c : Int) : Rat) → SqrtR u r → Root r (a * a + b' * b' + c * c) := fun u r h1 h2 =>
    FI.sqrt (B := 9007199254740991) ⟨h1, by omega, by omega⟩ (by decide) hn0 h2
  have hnear : ∀ (r s : Nat) (G : Heap), Root r (a * a + b' * b' + c * c) → Root s (a * a + b' * b' + c * c) → Does Try.prog 27 [.float .f64 r, .float .f64 s] G fun w H' => w = .bool true ∧ H' = G := fun r s G h1 h2 => by
    obtain ⟨p, q, fp, fq, hpq⟩ := root_near h1 h2 hn0 (by omega)
    exact nearTo r s p q G fp fq hpq
  have hfl : ∀ (u : Value) (G : Heap), IsQ (((a : Rat) - 0) * (a - 0) + (b' - 0) * (b' - 0) + (c - 0) * (c - 0)) 4 u G → Does Try.prog 32 [u] G fun w H' => (∃ r, w = .float .f64 r ∧ Fv r ((a * a + b' * b' + c * c : Int) : Rat)) ∧ ∃ ex, H' = ex ++ G := fun u G h => by
    have e : ((a : Rat) - 0) * (a - 0) + (b' - 0) * (b' - 0) + (c - 0) * (c - 0) = ((a * a + b' * b' + c * c : Int) : Rat) := by
      simp only [Rat.intCast_add, Rat.intCast_mul]; grind
    rw [e] at h
    exact qFloat u _ 4 G (by decide) h (by omega) (by omega)
  have hz0 : Fv 0 (0 : Rat) := ⟨false, 0, -1074, rfl, by simp⟩
  generalize hN : a * a + b' * b' + c * c = N at *
  repeat' first
    | refine op_load_aggK rfl ?_
    | (refine op_call ((hlen _).mono ?_); rintro _ _ ⟨⟨r1, rfl, hr1⟩, ex1, rfl⟩)
    | (refine op_call ((exactly3 x y z _ _ _ _ fa fb fc hx hy hz).mono ?_); rintro w _ ⟨ex2, rfl, h2⟩)
    | (refine op_call ((exactly3 0 0 0 _ _ _ _ hz0 hz0 hz0 (by decide) (by decide) (by decide)).mono ?_); rintro w' _ ⟨ex3, rfl, h3⟩)
    | (refine op_call ((qSquare3 _ _ _ _ _ _ _ _ _ (h2.mono ins) h3).mono ?_); rintro w'' _ ⟨ex4, rfl, h4⟩)
    | (refine op_call ((hfl _ _ h4).mono ?_); rintro _ _ ⟨⟨r2, rfl, hr2⟩, ex5, rfl⟩)
    | (refine op_call ((Spc.sqrt _ _).mono ?_); rintro _ _ ⟨⟨r3, rfl, hr3⟩, rfl⟩)
    | (refine op_call ((hnear r1 r3 _ hr1 (hrt _ _ hr2 hr3)).mono ?_); rintro _ _ ⟨rfl, rfl⟩)
    | (refine op_call ((hdist _).mono ?_); rintro _ _ ⟨⟨r4, rfl, hr4⟩, ex6, rfl⟩)
    | (refine op_call ((hnear r1 r4 _ hr1 hr4).mono ?_); rintro _ _ ⟨rfl, rfl⟩)
    | (first | refine tl_defer ?_ | refine tc_seq ?_ | refine tc_region ?_ | refine at_seq_normal ?_ | refine tl_nil ?_ | refine tl_cons ?_ | refine tl_cons_none ?_ | refine op_move ?_ | refine op_assign ?_ | refine op_fieldAddr ?_ | refine op_load ?_ | refine op_load_agg ?_ | refine op_indexC ?_ | refine op_indexAddr1 ?_ | refine op_indexAddr ?_ | refine op_icmp ?_ | refine op_fcmp ?_ | refine op_iarith ?_ | refine op_bcmp ?_ | refine op_unop_not ?_ | refine op_unop_neg_float ?_ | refine op_unop_neg_int ?_ | refine op_len_slice ?_ | refine op_pick_true ?_ | refine op_pick_false ?_ | refine op_pick_true' ?_ | refine op_pick_false' ?_ | refine op_build ?_ | refine op_extract ?_ | refine op_makeInterface ?_ | refine op_typeAssert ?_ | refine op_ptr_nil ?_ | refine op_nilCheck_ptr ?_ | refine op_nilCheck_meth ?_ | refine op_makeMeth ?_ | refine op_makeFunc ?_ | refine op_itof ?_ | refine op_itoi ?_ | refine op_ftoi ?_ | refine op_iquo ?_ | refine op_irem ?_ | refine op_ibits ?_ | refine op_slice_isnil ?_ | refine op_slice_notnil ?_ | refine op_imax ?_ | refine op_imin ?_ | refine op_shl ?_ | refine op_shr ?_ | (refine op_alloc ?_; intro _) | (refine op_box ?_; intro _) | (refine op_buildSlice ?_; intro _) | (refine op_farith ?_; intro _ _) | refine op_store0 ?_ | refine op_store1 ?_ | refine op_store2 ?_ | refine op_store3 ?_ | refine op_store4 ?_ | refine op_store5 ?_ | refine op_storeK rfl ?_ | refine op_loadK rfl ?_ | refine op_load_aggK rfl ?_ | refine tc_cond_t ?_ | refine tc_cond_f ?_ | refine tc_cond (fun _ => ?_) (fun _ => ?_) | refine tc_block ?_ | refine tc_skip ?_ | refine tc_ret ?_ | refine tc_exit ?_ | refine tc_label ?_ | refine at_seq_ret ?_ | refine at_seq_exit ?_ | refine at_block_normal ?_ | refine at_block_ret ?_ | refine at_block_exit_self ?_ | refine at_block_exit_ne ?_ | refine at_loop_ret ?_ | refine at_loop_exit ?_ | refine at_loop_goto ?_ | refine tl_guard_yes ?_ | refine tl_guard_no ?_ | refine tl_guard_yes' ?_ | refine tl_guard_no' ?_ | refine tl_guard_undef ?_ | refine tl_guard_split (fun _ => ?_) (fun _ => ?_))
    | fail
  exact ret_tmp (hG := by (repeat (first | exact List.Sublist.refl _ | apply List.Sublist.cons_cons | apply List.Sublist.cons | refine List.Sublist.trans ?_ (List.sublist_append_right _ _)))) (hk := ⟨rfl, rfl⟩)
theorem own : ownKnob Try.prog.godebug = none := by kernel_rfl
theorem laid : laidOutB Try.prog = true := by kernel_rfl
set_option maxRecDepth 100000 in
theorem lifted (os : Os) (started : os.Started) (H : Type) (enc : TypeId × Value → H) :
    ReturnsInHanded {} Try.checked os 7 .any (Rows.fnSpaceLengthSpec.pre6 enc Try.prog Try.f7 Rows.fnSpaceLengthRow.domain false) (Rows.fnSpaceLengthSpec.post enc Try.prog Try.f7 false true false false) := by
  refine returnsInHanded_of_change (C := Try.checked) own started (by kernel_rfl) Try.func7
    (ChangeSpec.witness6 (enc := enc) (C := Try.checked) false ⟨#[], #[.agg #[.float .f64 0, .float .f64 0, .float .f64 0]], []⟩ 8 (by kernel_rfl) (by kernel_rfl) (by kernel_rfl) (by kernel_rfl)) ?_
  intro W base args ds gs before hval0 hW hcnd _
  have hval : ∀ (j : Nat) t v, Try.f7.params[j]? = some t → args[j]? = some v → Value.okWide Try.prog W .any base t v := hval0
  have hW' := hW
  obtain ⟨p, q, hA0, hV, rfl, hfz, hnd⟩ := hW
  have hA : DataW.TrodAll enc Try.prog W 0 (fun _ => true) true Try.f7.params.toList args.toList ds p := hA0
  rw [Try.params7] at hA hval
  obtain ⟨v0, vs0, d0, ds0, p0, q0, hargs, rfl, rfl, h0, r0⟩ := trodAll_cons hA
  obtain ⟨rfl, rfl, rfl⟩ := trodAll_nil r0
  obtain rfl : args = #[v0] := by cases args; simp_all
  obtain ⟨rfl, rfl⟩ := trodVars_none hV
  obtain ⟨x0, y0, z0, rfl, bx0, by0, bz0⟩ := open_p3 Try.underlying61 (by kernel_rfl) (by kernel_rfl) Try.underlying36 Try.underlying36 Try.underlying36 (hval 0 61 v0 rfl rfl) h0
  clear hA0 hval0
  refine (calls_of_does (law (H := all W) x0 y0 z0 bx0 by0 bz0) (sees_all W)).mono fun e W' ⟨v, H', he, hs, hv, hH⟩ => ?_
  subst he
  subst hv
  subst hH
  exact ⟨_, rfl, post_law laid (of_decide_eq_true (by kernel_rfl)) rfl hW' rfl rfl Try.underlying4 hs.below⟩
theorem over : Rows.fnSpaceLengthRow.holds Try.pinned (OpenSpec.ofChange Rows.fnSpaceLengthSpec) :=
  OpenClaim.holds_of_wide 7 Try.f7 rfl rfl rfl rfl rfl rfl rfl ⟨rfl, rfl, rfl, rfl, rfl⟩ rfl rfl rfl rfl rfl (by kernel_rfl) Try.func7 (by kernel_rfl)
    (of_decide_eq_true (by kernel_rfl)) (by unfold Func.isWrapper; first | (rw [if_pos (by decide +kernel)]; kernel_rfl) | (rw [if_neg (by decide +kernel)]; exact ⟨rfl, rfl⟩))
    (fun os started H enc _ => lifted os started H enc)
/-- The statement. -/
theorem proved : Rows.FnSpaceLengthSaid := over
#print axioms proved
end Go.Proofs.Ytomhkbijijdghaa.fnSpaceLength
