/-
  FnSpaceFlat: the distance of two places in space of which one has no Z that is a number is that of the two in the plane. No conditions beyond the statement's own.
-/
import Derived.Test.YtomhkbijijdghaaRows
import Derived.Test.YtomhkbijijdghaaSpc
import Derived.Test.YtomhkbijijdghaaLg5
import Derived.Test.YtomhkbijijdghaaLg27
set_option linter.unusedVariables false
set_option linter.unusedSimpArgs false
namespace Go.Proofs.Ytomhkbijijdghaa.fnSpaceFlat
open Go.Lg Go.Proofs.Ytomhkbijijdghaa.Pl Go.Proofs.Ytomhkbijijdghaa.Lmb Go.Proofs.Ytomhkbijijdghaa.Spc
open Go.ChangeShapes Go.WideShapes Go.RowKit

theorem nan (H : Heap) : Does Try.prog 26 [] H fun w H' => w = .float .f64 9221120237041090561 ∧ H' = H := by
  refine fn_enter 2 Try.func26 fun W => ?_
  repeat' first
    | (refine op_call ((frombits 9221120237041090561 _).mono ?_); rintro _ _ ⟨rfl, rfl⟩)
    | (first | refine tl_defer ?_ | refine tc_seq ?_ | refine tc_region ?_ | refine at_seq_normal ?_ | refine tl_nil ?_ | refine tl_cons ?_ | refine tl_cons_none ?_ | refine op_move ?_ | refine op_assign ?_ | refine op_fieldAddr ?_ | refine op_load ?_ | refine op_load_agg ?_ | refine op_indexC ?_ | refine op_indexAddr1 ?_ | refine op_indexAddr ?_ | refine op_icmp ?_ | refine op_fcmp ?_ | refine op_iarith ?_ | refine op_bcmp ?_ | refine op_unop_not ?_ | refine op_unop_neg_float ?_ | refine op_unop_neg_int ?_ | refine op_len_slice ?_ | refine op_pick_true ?_ | refine op_pick_false ?_ | refine op_pick_true' ?_ | refine op_pick_false' ?_ | refine op_build ?_ | refine op_extract ?_ | refine op_makeInterface ?_ | refine op_typeAssert ?_ | refine op_ptr_nil ?_ | refine op_nilCheck_ptr ?_ | refine op_nilCheck_meth ?_ | refine op_makeMeth ?_ | refine op_makeFunc ?_ | refine op_itof ?_ | refine op_itoi ?_ | refine op_ftoi ?_ | refine op_iquo ?_ | refine op_irem ?_ | refine op_ibits ?_ | refine op_slice_isnil ?_ | refine op_slice_notnil ?_ | refine op_imax ?_ | refine op_imin ?_ | refine op_shl ?_ | refine op_shr ?_ | (refine op_alloc ?_; intro _) | (refine op_box ?_; intro _) | (refine op_buildSlice ?_; intro _) | (refine op_farith ?_; intro _ _) | refine op_store0 ?_ | refine op_store1 ?_ | refine op_store2 ?_ | refine op_store3 ?_ | refine op_store4 ?_ | refine op_store5 ?_ | refine op_storeK rfl ?_ | refine op_loadK rfl ?_ | refine op_load_aggK rfl ?_ | refine tc_cond_t ?_ | refine tc_cond_f ?_ | refine tc_cond (fun _ => ?_) (fun _ => ?_) | refine tc_block ?_ | refine tc_skip ?_ | refine tc_ret ?_ | refine tc_exit ?_ | refine tc_label ?_ | refine at_seq_ret ?_ | refine at_seq_exit ?_ | refine at_block_normal ?_ | refine at_block_ret ?_ | refine at_block_exit_self ?_ | refine at_block_exit_ne ?_ | refine at_loop_ret ?_ | refine at_loop_exit ?_ | refine at_loop_goto ?_ | refine tl_guard_yes ?_ | refine tl_guard_no ?_ | refine tl_guard_yes' ?_ | refine tl_guard_no' ?_ | refine tl_guard_undef ?_ | refine tl_guard_split (fun _ => ?_) (fun _ => ?_))
    | fail
  exact ret_tmp (hk := ⟨rfl, rfl⟩)
theorem nan_neq : fcmp .neq 9221120237041090561 9221120237041090561 = true := by
  rw [fcmp_def]
  simp only [fcmp0]
  have : Ieee.double.read 9221120237041090561 = .nan false 2251799813685249 := rfl
  rw [Ieee.Format.order, this]
  rfl
set_option maxHeartbeats 16000000 in
theorem qSquare (up uq : Value) (px py qx qy : Rat) (H : Heap) (hp : IsP px py 0 up H) (hq : IsP qx qy 0 uq H) :
    Does Try.prog 30 [up, uq] H fun w H' => ∃ ex, H' = ex ++ H ∧ IsQ ((qx - px) * (qx - px) + (qy - py) * (qy - py)) 3 w H' := by
  have hp0 := hp
  have hq0 := hq
  obtain ⟨_, _, _, _, _, _, _, _, _, _, rfl, p1, p2⟩ := hp
  obtain ⟨_, _, _, _, _, _, _, _, _, _, rfl, q1, q2⟩ := hq
  refine fn_enter 10 Try.func30 fun W => ?_
  repeat' first
    | (first | refine tl_defer ?_ | refine tc_seq ?_ | refine tc_region ?_ | refine at_seq_normal ?_ | refine tl_nil ?_ | refine tl_cons ?_ | refine tl_cons_none ?_ | refine op_move ?_ | refine op_assign ?_ | refine op_fieldAddr ?_ | refine op_load ?_ | refine op_load_agg ?_ | refine op_indexC ?_ | refine op_indexAddr1 ?_ | refine op_indexAddr ?_ | refine op_icmp ?_ | refine op_fcmp ?_ | refine op_iarith ?_ | refine op_bcmp ?_ | refine op_unop_not ?_ | refine op_unop_neg_float ?_ | refine op_unop_neg_int ?_ | refine op_len_slice ?_ | refine op_pick_true ?_ | refine op_pick_false ?_ | refine op_pick_true' ?_ | refine op_pick_false' ?_ | refine op_build ?_ | refine op_extract ?_ | refine op_makeInterface ?_ | refine op_typeAssert ?_ | refine op_ptr_nil ?_ | refine op_nilCheck_ptr ?_ | refine op_nilCheck_meth ?_ | refine op_makeMeth ?_ | refine op_makeFunc ?_ | refine op_itof ?_ | refine op_itoi ?_ | refine op_ftoi ?_ | refine op_iquo ?_ | refine op_irem ?_ | refine op_ibits ?_ | refine op_slice_isnil ?_ | refine op_slice_notnil ?_ | refine op_imax ?_ | refine op_imin ?_ | refine op_shl ?_ | refine op_shr ?_ | (refine op_alloc ?_; intro _) | (refine op_box ?_; intro _) | (refine op_buildSlice ?_; intro _) | (refine op_farith ?_; intro _ _) | refine op_store0 ?_ | refine op_store1 ?_ | refine op_store2 ?_ | refine op_store3 ?_ | refine op_store4 ?_ | refine op_store5 ?_ | refine op_storeK rfl ?_ | refine op_loadK rfl ?_ | refine op_load_aggK rfl ?_ | refine tc_cond_t ?_ | refine tc_cond_f ?_ | refine tc_cond (fun _ => ?_) (fun _ => ?_) | refine tc_block ?_ | refine tc_skip ?_ | refine tc_ret ?_ | refine tc_exit ?_ | refine tc_label ?_ | refine at_seq_ret ?_ | refine at_seq_exit ?_ | refine at_block_normal ?_ | refine at_block_ret ?_ | refine at_block_exit_self ?_ | refine at_block_exit_ne ?_ | refine at_loop_ret ?_ | refine at_loop_exit ?_ | refine at_loop_goto ?_ | refine tl_guard_yes ?_ | refine tl_guard_no ?_ | refine tl_guard_yes' ?_ | refine tl_guard_no' ?_ | refine tl_guard_undef ?_ | refine tl_guard_split (fun _ => ?_) (fun _ => ?_))
    | refine op_load_aggK rfl ?_
    | (refine op_call ((qDot _ _ _ _ px py qx qy px py qx qy _ (hp0.mono ins) (hq0.mono ins) (hp0.mono ins) (hq0.mono ins)).mono ?_); rintro w _ ⟨ex1, rfl, h1⟩; obtain ⟨b1, a1, k1, c1, e1, rfl⟩ := h1.open)
    | refine op_storeK rfl ?_
    | fail
  rename_i kr
  refine ret_one (.agg (T := 68) (k := kr) (off := 0) (m := [.bool b1, .slice a1 k1 c1, .int .i64 e1]) rfl rfl mem0 rfl rfl) (hG := List.Sublist.refl _) (hk := exq ?_)
  exact h1.skip (mid_mem (k := kr) noU3)
abbrev v2 (x y : Nat) : Value := .agg ⟨[.float .f64 x, .float .f64 y]⟩
set_option maxHeartbeats 32000000 in
theorem law (ax ay : Nat) (hax : ax < 18446744073709551616) (hay : ay < 18446744073709551616) (bx by' : Nat) (hbx : bx < 18446744073709551616) (hby : by' < 18446744073709551616) (z : Nat) (first : Bool) (H : Heap) :
    Does Try.prog 6 [v2 ax ay, v2 bx by', .float .f64 z, .bool first] H fun w H' => w = .bool true ∧ H' = H := by
  refine fn_enter 45 Try.func6 fun W => ?_
  repeat' first
    | (first | refine tl_defer ?_ | refine tc_seq ?_ | refine tc_region ?_ | refine at_seq_normal ?_ | refine tl_nil ?_ | refine tl_cons ?_ | refine tl_cons_none ?_ | refine op_move ?_ | refine op_assign ?_ | refine op_fieldAddr ?_ | refine op_load ?_ | refine op_load_agg ?_ | refine op_indexC ?_ | refine op_indexAddr1 ?_ | refine op_indexAddr ?_ | refine op_icmp ?_ | refine op_fcmp ?_ | refine op_iarith ?_ | refine op_bcmp ?_ | refine op_unop_not ?_ | refine op_unop_neg_float ?_ | refine op_unop_neg_int ?_ | refine op_len_slice ?_ | refine op_pick_true ?_ | refine op_pick_false ?_ | refine op_pick_true' ?_ | refine op_pick_false' ?_ | refine op_build ?_ | refine op_extract ?_ | refine op_makeInterface ?_ | refine op_typeAssert ?_ | refine op_ptr_nil ?_ | refine op_nilCheck_ptr ?_ | refine op_nilCheck_meth ?_ | refine op_makeMeth ?_ | refine op_makeFunc ?_ | refine op_itof ?_ | refine op_itoi ?_ | refine op_ftoi ?_ | refine op_iquo ?_ | refine op_irem ?_ | refine op_ibits ?_ | refine op_slice_isnil ?_ | refine op_slice_notnil ?_ | refine op_imax ?_ | refine op_imin ?_ | refine op_shl ?_ | refine op_shr ?_ | (refine op_alloc ?_; intro _) | (refine op_box ?_; intro _) | (refine op_buildSlice ?_; intro _) | (refine op_farith ?_; intro _ _) | refine op_store0 ?_ | refine op_store1 ?_ | refine op_store2 ?_ | refine op_store3 ?_ | refine op_store4 ?_ | refine op_store5 ?_ | refine op_storeK rfl ?_ | refine op_loadK rfl ?_ | refine op_load_aggK rfl ?_ | refine tc_cond_t ?_ | refine tc_cond_f ?_ | refine tc_cond (fun _ => ?_) (fun _ => ?_) | refine tc_block ?_ | refine tc_skip ?_ | refine tc_ret ?_ | refine tc_exit ?_ | refine tc_label ?_ | refine at_seq_ret ?_ | refine at_seq_exit ?_ | refine at_block_normal ?_ | refine at_block_ret ?_ | refine at_block_exit_self ?_ | refine at_block_exit_ne ?_ | refine at_loop_ret ?_ | refine at_loop_exit ?_ | refine at_loop_goto ?_ | refine tl_guard_yes ?_ | refine tl_guard_no ?_ | refine tl_guard_yes' ?_ | refine tl_guard_no' ?_ | refine tl_guard_undef ?_ | refine tl_guard_split (fun _ => ?_) (fun _ => ?_))
    | (refine op_call ((planeTo _ [(ax, ay), (bx, by')] _ _ _ _ 1048576 _ fv_most (by decide) (by simp) (by simp [*]) mem0).mono ?_); rintro _ _ ⟨⟨b, rfl, hb⟩, ex0, rfl⟩)
    | fail
  · exact ret_tmp (hG := by (repeat (first | exact List.Sublist.refl _ | apply List.Sublist.cons_cons | apply List.Sublist.cons | refine List.Sublist.trans ?_ (List.sublist_append_right _ _)))) (hk := ⟨rfl, rfl⟩)
  rename_i ka kb ks hnb
  have hb' := hb (by simpa using hnb)
  obtain ⟨⟨nax, fax, a1, a2⟩, ⟨nay, fay, a3, a4⟩⟩ := hb' (ax, ay) (by simp)
  obtain ⟨⟨nbx, fbx, b1, b2⟩, ⟨nby, fby, b3, b4⟩⟩ := hb' (bx, by') (by simp)
  simp only at fax fay fbx fby
  have gax : FI 1048576 ax nax := ⟨fax, a1, a2⟩
  have gay : FI 1048576 ay nay := ⟨fay, a3, a4⟩
  have gbx : FI 1048576 bx nbx := ⟨fbx, b1, b2⟩
  have gby : FI 1048576 by' nby := ⟨fby, b3, b4⟩
  clear hb hb' hnb
  refine tc_sub (G' := (kb, .cells ⟨[.float .f64 bx, .float .f64 by']⟩ 57 (0, 0)) :: (ka, .cells ⟨[.float .f64 ax, .float .f64 ay]⟩ 57 (0, 0)) :: H) (by (repeat (first | exact List.Sublist.refl _ | apply List.Sublist.cons_cons | apply List.Sublist.cons | refine List.Sublist.trans ?_ (List.sublist_append_right _ _)))) ?_
  apply fun hole0 hole1 hole2 hole3 hole4 hole5 hole6 hole7 hole8 hole9 hole10 hole11 hole12 hE hD hal hml hdl hpr prem fin => tc_drawnT 15 14 12 9 (fun k => .pointer (some ⟨k, 0, none⟩)) hole11 (.cells ⟨[.float .f64 ax, .float .f64 ay, .float .f64 9221120237041090561]⟩ 61 (0, 0)) [PhiD.is hole0, PhiD.is hole1, PhiD.is hole2, PhiD.is hole3, PhiD.is (.float .f64 9221120237041090561), PhiD.is hole4, PhiD.is hole5, PhiD.is hole6, PhiD.is hole7, PhiD.is hole8, PhiD.is hole9, PhiD.is hole10, PhiD.fresh (fun k => .pointer (some ⟨k, 0, none⟩)) hole11, PhiD.fresh (fun k => .pointer (some ⟨k, 0, none⟩)) hole12, PhiD.is undef] [PhiD.is hole0, PhiD.is hole1, PhiD.is hole2, PhiD.is hole3, PhiD.is (.float .f64 9221120237041090561), PhiD.is hole4, PhiD.is hole5, PhiD.is hole6, PhiD.is hole7, PhiD.is hole8, PhiD.is hole9, PhiD.is hole10, PhiD.fresh (fun k => .pointer (some ⟨k, 0, none⟩)) (.cells ⟨[.float .f64 ax, .float .f64 ay, .float .f64 9221120237041090561]⟩ 61 (0, 0)), PhiD.fresh (fun k => .pointer (some ⟨k, 0, none⟩)) hole12, PhiD.is undef]
    [some 16, some 17, some 18, some 19, some 20, some 21, some 22, some 23, some 24, some 25, some 26, some 27, some 9, some 10, none, none] [[], [0], [], [2], [], [1, 3, 4], [], [6], [], [8], [], [7, 9, 10], [], [], [12, 5, 4, 0, 1, 2, 3, 13]] mixed trivial prem fin rfl rfl hE hD hal rfl rfl hml hdl hpr
  rotate_left 14
  · first | kernel_rfl | exact rfl
  · first | kernel_rfl | exact rfl
  · first | kernel_rfl | exact rfl
  · exact Nat.le_of_ble_eq_true rfl
  · first | kernel_rfl | exact rfl
  · first | kernel_rfl | exact rfl
  refine ⟨fun G hG => ?_, fun G hG => ?_, fun G hG => ?_, fun G hG => ?_, fun G hG => ?_, fun G hG => ?_, fun G hG => ?_, fun G hG => ?_, fun G hG => ?_, fun G hG => ?_, fun G hG => ?_, fun G hG => ?_, fun G hG => ?_, fun G hG => ?_, fun G hG => ?_, trivial⟩
  · simp only [withD, nthD, Step2, nthDst, putO, postD, Nat.reduceAdd, Nat.reduceEqDiff, Nat.zero_add, if_true, if_false, reduceIte, PhiD.phi]
    (refine op_fieldAddr ?_; exact ⟨[], rfl, rfl, rfl⟩)
  · simp only [withD, nthD, Step2, nthDst, putO, postD, Nat.reduceAdd, Nat.reduceEqDiff, Nat.zero_add, if_true, if_false, reduceIte, PhiD.phi]
    ((first | refine op_load ?_ | refine op_load_agg ?_ | refine op_load ?_ (hm := Sub.mem (by assumption) (by (repeat (apply List.mem_cons_of_mem)); assumption)) | refine op_load_agg ?_ (hm := Sub.mem (by assumption) (by (repeat (apply List.mem_cons_of_mem)); assumption)) | refine op_loadH hG rfl ?_ | refine op_load_aggH hG rfl ?_); exact ⟨[], rfl, rfl, rfl⟩)
  · simp only [withD, nthD, Step2, nthDst, putO, postD, Nat.reduceAdd, Nat.reduceEqDiff, Nat.zero_add, if_true, if_false, reduceIte, PhiD.phi]
    (refine op_fieldAddr ?_; exact ⟨[], rfl, rfl, rfl⟩)
  · simp only [withD, nthD, Step2, nthDst, putO, postD, Nat.reduceAdd, Nat.reduceEqDiff, Nat.zero_add, if_true, if_false, reduceIte, PhiD.phi]
    ((first | refine op_load ?_ | refine op_load_agg ?_ | refine op_load ?_ (hm := Sub.mem (by assumption) (by (repeat (apply List.mem_cons_of_mem)); assumption)) | refine op_load_agg ?_ (hm := Sub.mem (by assumption) (by (repeat (apply List.mem_cons_of_mem)); assumption)) | refine op_loadH hG rfl ?_ | refine op_load_aggH hG rfl ?_); exact ⟨[], rfl, rfl, rfl⟩)
  · simp only [withD, nthD, Step2, nthDst, putO, postD, Nat.reduceAdd, Nat.reduceEqDiff, Nat.zero_add, if_true, if_false, reduceIte, PhiD.phi]
    (refine op_call ((nan _).mono ?_); rintro _ _ ⟨rfl, rfl⟩; exact ⟨[], rfl, rfl, rfl⟩)
  · simp only [withD, nthD, Step2, nthDst, putO, postD, Nat.reduceAdd, Nat.reduceEqDiff, Nat.zero_add, if_true, if_false, reduceIte, PhiD.phi]
    (refine op_build ?_; exact ⟨[], rfl, rfl, rfl⟩)
  · simp only [withD, nthD, Step2, nthDst, putO, postD, Nat.reduceAdd, Nat.reduceEqDiff, Nat.zero_add, if_true, if_false, reduceIte, PhiD.phi]
    (refine op_fieldAddr ?_; exact ⟨[], rfl, rfl, rfl⟩)
  · simp only [withD, nthD, Step2, nthDst, putO, postD, Nat.reduceAdd, Nat.reduceEqDiff, Nat.zero_add, if_true, if_false, reduceIte, PhiD.phi]
    ((first | refine op_load ?_ | refine op_load_agg ?_ | refine op_load ?_ (hm := Sub.mem (by assumption) (by (repeat (apply List.mem_cons_of_mem)); assumption)) | refine op_load_agg ?_ (hm := Sub.mem (by assumption) (by (repeat (apply List.mem_cons_of_mem)); assumption)) | refine op_loadH hG rfl ?_ | refine op_load_aggH hG rfl ?_); exact ⟨[], rfl, rfl, rfl⟩)
  · simp only [withD, nthD, Step2, nthDst, putO, postD, Nat.reduceAdd, Nat.reduceEqDiff, Nat.zero_add, if_true, if_false, reduceIte, PhiD.phi]
    (refine op_fieldAddr ?_; exact ⟨[], rfl, rfl, rfl⟩)
  · simp only [withD, nthD, Step2, nthDst, putO, postD, Nat.reduceAdd, Nat.reduceEqDiff, Nat.zero_add, if_true, if_false, reduceIte, PhiD.phi]
    ((first | refine op_load ?_ | refine op_load_agg ?_ | refine op_load ?_ (hm := Sub.mem (by assumption) (by (repeat (apply List.mem_cons_of_mem)); assumption)) | refine op_load_agg ?_ (hm := Sub.mem (by assumption) (by (repeat (apply List.mem_cons_of_mem)); assumption)) | refine op_loadH hG rfl ?_ | refine op_load_aggH hG rfl ?_); exact ⟨[], rfl, rfl, rfl⟩)
  · simp only [withD, nthD, Step2, nthDst, putO, postD, Nat.reduceAdd, Nat.reduceEqDiff, Nat.zero_add, if_true, if_false, reduceIte, PhiD.phi]
    (refine op_move ?_; exact ⟨[], rfl, rfl, rfl⟩)
  · simp only [withD, nthD, Step2, nthDst, putO, postD, Nat.reduceAdd, Nat.reduceEqDiff, Nat.zero_add, if_true, if_false, reduceIte, PhiD.phi]
    (refine op_build ?_; exact ⟨[], rfl, rfl, rfl⟩)
  · simp only [withD, nthD, Step2, nthDst, putO, postD, Nat.reduceAdd, Nat.reduceEqDiff, Nat.zero_add, if_true, if_false, reduceIte, PhiD.phi]
    (refine op_alloc ?_; intro _; exact ⟨[(_, _)], rfl, ⟨_, rfl, rfl⟩⟩)
  · simp only [withD, nthD, Step2, nthDst, putO, postD, Nat.reduceAdd, Nat.reduceEqDiff, Nat.zero_add, if_true, if_false, reduceIte, PhiD.phi]
    (refine op_alloc ?_; intro _; exact ⟨[(_, _)], rfl, ⟨_, rfl, rfl⟩⟩)
  · simp only [withD, nthD, Step2, nthDst, putO, postD, Nat.reduceAdd, Nat.reduceEqDiff, Nat.zero_add, if_true, if_false, reduceIte, PhiD.phi]
    rintro _ _ _ _
    intro a k R hoa hta _
    have heq := (hoa.get 9 _ rfl).symm.trans hta
    cases heq
    exact op_store0 (And.intro rfl (And.intro rfl rfl))
  simp only [FinalsD, nthDst, putO, List.drop_succ_cons, List.drop_zero]
  rintro _ _ -
  have hKe : ((nbx : Rat) - nax) * (nbx - nax) + (nby - nay) * (nby - nay) = (((nax - nbx) * (nax - nbx) + (nay - nby) * (nay - nby) : Int) : Rat) := by
    simp only [Rat.intCast_add, Rat.intCast_mul, Rat.intCast_sub]; grind
  have hb1 := mul_bound (a := nax - nbx) (b := nax - nbx) (A := 2097152) (B := 2097152) (by omega) (by omega) (by omega) (by omega)
  have hb2 := mul_bound (a := nay - nby) (b := nay - nby) (A := 2097152) (B := 2097152) (by omega) (by omega) (by omega) (by omega)
  have hn0 : 0 ≤ (nax - nbx) * (nax - nbx) + (nay - nby) * (nay - nby) := Int.add_nonneg (sq_nn _) (sq_nn _)
  have hrt : ∀ x r : Nat, Fv x (((nax - nbx) * (nax - nbx) + (nay - nby) * (nay - nby) : Int) : Rat) → SqrtR x r → Root r ((nax - nbx) * (nax - nbx) + (nay - nby) * (nay - nby)) := fun x r h1 h2 =>
    FI.sqrt (B := 9007199254740991) ⟨h1, by omega, by omega⟩ (by decide) hn0 h2
  have hdist : ∀ (z1 z2 : Nat) (G : Heap), (fcmp .neq z1 z1 = true ∨ (fcmp .neq z1 z1 = false ∧ fcmp .neq z2 z2 = true)) → Does Try.prog 28 [v3 ax ay z1, v3 bx by' z2] G fun w H' => (∃ r, w = .float .f64 r ∧ Root r ((nax - nbx) * (nax - nbx) + (nay - nby) * (nay - nby))) ∧ ∃ ex, H' = ex ++ G :=
    fun z1 z2 G hz => implDistF ax ay z1 bx by' z2 nax nay nbx nby G gax gay gbx gby hz
  have hnear : ∀ (r s : Nat) (G : Heap), Root r ((nax - nbx) * (nax - nbx) + (nay - nby) * (nay - nby)) → Root s ((nax - nbx) * (nax - nbx) + (nay - nby) * (nay - nby)) → Does Try.prog 27 [.float .f64 r, .float .f64 s] G fun w H' => w = .bool true ∧ H' = G := fun r s G h1 h2 => by
    obtain ⟨a, b, fa, fb, hab⟩ := root_near h1 h2 hn0 (by omega)
    exact nearTo r s a b G fa fb hab
  have hfl : ∀ (u : Value) (G : Heap), IsQ (((nbx : Rat) - nax) * (nbx - nax) + (nby - nay) * (nby - nay)) 3 u G → Does Try.prog 32 [u] G fun w H' => (∃ r, w = .float .f64 r ∧ Fv r (((nax - nbx) * (nax - nbx) + (nay - nby) * (nay - nby) : Int) : Rat)) ∧ ∃ ex, H' = ex ++ G := fun u G h => by
    rw [hKe] at h
    exact qFloat u _ 3 G (by decide) h (by omega) (by omega)
  generalize (nax - nbx) * (nax - nbx) + (nay - nby) * (nay - nby) = N at *
  cases first with
  | true =>
    repeat'
      first
        | refine tl_defer ?_ | refine tc_seq ?_ | refine tc_region ?_ | refine at_seq_normal ?_ | refine tl_nil ?_ | refine tl_cons ?_ | refine tl_cons_none ?_ | refine op_move ?_
        | refine op_assign ?_ | refine op_fieldAddr ?_ | refine op_load ?_ | refine op_load_agg ?_ | refine op_indexC ?_ | refine op_indexAddr1 ?_ | refine op_indexAddr ?_ | refine op_icmp ?_
        | refine op_fcmp ?_ | refine op_iarith ?_ | refine op_bcmp ?_ | refine op_unop_not ?_ | refine op_unop_neg_float ?_ | refine op_unop_neg_int ?_ | refine op_len_slice ?_ | refine op_pick_true ?_
        | refine op_pick_false ?_ | refine op_pick_true' ?_ | refine op_pick_false' ?_ | refine op_build ?_ | refine op_extract ?_ | refine op_makeInterface ?_ | refine op_typeAssert ?_ | refine op_ptr_nil ?_
        | refine op_nilCheck_ptr ?_ | refine op_nilCheck_meth ?_ | refine op_makeMeth ?_ | refine op_makeFunc ?_ | refine op_itof ?_ | refine op_itoi ?_ | refine op_ftoi ?_ | refine op_iquo ?_
        | refine op_irem ?_ | refine op_ibits ?_ | refine op_slice_isnil ?_ | refine op_slice_notnil ?_ | refine op_imax ?_ | refine op_imin ?_ | refine op_shl ?_ | refine op_shr ?_
        | (refine op_alloc ?_; intro _) | (refine op_box ?_; intro _) | (refine op_buildSlice ?_; intro _) | (refine op_farith ?_; intro _ _) | refine op_store0 ?_ | refine op_store1 ?_ | refine op_store2 ?_ | refine op_store3 ?_
        | refine op_store4 ?_ | refine op_store5 ?_ | refine tc_cond_t ?_ | refine tc_cond_f ?_ | refine tc_cond (fun _ => ?_) (fun _ => ?_) | refine tc_block ?_ | refine tc_skip ?_ | refine tc_ret ?_
        | refine tc_exit ?_ | refine tc_label ?_ | refine at_seq_ret ?_ | refine at_seq_exit ?_ | refine at_block_normal ?_ | refine at_block_ret ?_ | refine at_block_exit_self ?_ | refine at_block_exit_ne ?_
        | refine at_loop_ret ?_ | refine at_loop_exit ?_ | refine at_loop_goto ?_ | refine tl_guard_yes ?_ | refine tl_guard_no ?_ | refine tl_guard_yes' ?_ | refine tl_guard_no' ?_ | refine tl_guard_undef ?_
        | refine tl_guard_split (fun _ => ?_) (fun _ => ?_)
    apply fun hole0 hole1 hole2 hole3 hE hD hml hdl hpr prem fin => tc_drawnD 11 [PhiD.is hole0, PhiD.is hole1, PhiD.gen (some' (fun w _ => ∃ r, w = .float .f64 r ∧ Root r N)), PhiD.is hole2, PhiD.gen (fun w _ G => IsP nax nay 0 w G), PhiD.is hole3, PhiD.gen (fun w _ G => IsP nbx nby 0 w G), PhiD.gen (fun w _ G => IsQ (((nbx : Rat) - nax) * (nbx - nax) + (nby - nay) * (nby - nay)) 3 w G), PhiD.gen (some' (fun w _ => ∃ r, w = .float .f64 r ∧ Fv r ((N : Int) : Rat))), PhiD.gen (some' (fun w _ => ∃ r, w = .float .f64 r ∧ Root r N)), PhiD.is (.bool true)]
      [some 34, some 35, some 36, some 37, some 38, some 39, some 40, some 41, some 42, some 43, some 44, some 8] [[], [], [0, 1], [], [3, 2], [], [5, 4], [4, 6], [7], [8], [2, 9]] mixed ⟨(some_mono _), (fun _ _ _ _ h hs => IsP.mono h hs), (fun _ _ _ _ h hs => IsP.mono h hs), (fun _ _ _ _ h hs => IsQ.mono h hs), (some_mono _), (some_mono _), trivial⟩ prem fin hE hD rfl hml hdl hpr
    rotate_left 5
    · first | kernel_rfl | exact rfl
    · first | kernel_rfl | exact rfl
    · exact Nat.le_of_ble_eq_true rfl
    · first | kernel_rfl | exact rfl
    · first | kernel_rfl | exact rfl
    refine ⟨fun G hG => ?_, fun G hG => ?_, fun G hG => ?_, fun G hG => ?_, fun G hG => ?_, fun G hG => ?_, fun G hG => ?_, fun G hG => ?_, fun G hG => ?_, fun G hG => ?_, fun G hG => ?_, trivial⟩
    · simp only [withD, nthD, Step2, nthDst, putO, postD]
      ((first | refine op_load ?_ | refine op_load_agg ?_ | refine op_load ?_ (hm := Sub.mem (by assumption) (by (repeat (apply List.mem_cons_of_mem)); assumption)) | refine op_load_agg ?_ (hm := Sub.mem (by assumption) (by (repeat (apply List.mem_cons_of_mem)); assumption)) | refine op_loadH hG rfl ?_ | refine op_load_aggH hG rfl ?_); exact ⟨[], rfl, rfl, rfl⟩)
    · simp only [withD, nthD, Step2, nthDst, putO, postD]
      ((first | refine op_load ?_ | refine op_load_agg ?_ | refine op_load ?_ (hm := Sub.mem (by assumption) (by (repeat (apply List.mem_cons_of_mem)); assumption)) | refine op_load_agg ?_ (hm := Sub.mem (by assumption) (by (repeat (apply List.mem_cons_of_mem)); assumption)) | refine op_loadH hG rfl ?_ | refine op_load_aggH hG rfl ?_); exact ⟨[], rfl, rfl, rfl⟩)
    · simp only [withD, nthD, Step2, nthDst, putO, postD]
      (refine op_call ((hdist _ _ _ (.inl nan_neq)).mono ?_); rintro _ _ ⟨⟨r, rfl, hr⟩, ex, rfl⟩; exact ⟨ex, rfl, r, rfl, hr⟩)
    · simp only [withD, nthD, Step2, nthDst, putO, postD]
      ((first | refine op_load ?_ | refine op_load_agg ?_ | refine op_load ?_ (hm := Sub.mem (by assumption) (by (repeat (apply List.mem_cons_of_mem)); assumption)) | refine op_load_agg ?_ (hm := Sub.mem (by assumption) (by (repeat (apply List.mem_cons_of_mem)); assumption)) | refine op_loadH hG rfl ?_ | refine op_load_aggH hG rfl ?_); exact ⟨[], rfl, rfl, rfl⟩)
    · simp only [withD, nthD, Step2, nthDst, putO, postD]
      rintro _ _ ⟨r1, rfl, hr1⟩ -
      (refine op_call ((exactly _ _ _ _ _ fax fay hax hay).mono ?_); rintro w _ ⟨ex, rfl, hw⟩; exact ⟨ex, rfl, hw⟩)
    · simp only [withD, nthD, Step2, nthDst, putO, postD]
      ((first | refine op_load ?_ | refine op_load_agg ?_ | refine op_load ?_ (hm := Sub.mem (by assumption) (by (repeat (apply List.mem_cons_of_mem)); assumption)) | refine op_load_agg ?_ (hm := Sub.mem (by assumption) (by (repeat (apply List.mem_cons_of_mem)); assumption)) | refine op_loadH hG rfl ?_ | refine op_load_aggH hG rfl ?_); exact ⟨[], rfl, rfl, rfl⟩)
    · simp only [withD, nthD, Step2, nthDst, putO, postD]
      rintro _ _ q4 -
      (refine op_call ((exactly _ _ _ _ _ fbx fby hbx hby).mono ?_); rintro w _ ⟨ex, rfl, hw⟩; exact ⟨ex, rfl, hw⟩)
    · simp only [withD, nthD, Step2, nthDst, putO, postD]
      rintro _ _ q4 - _ _ q6 -
      (refine op_call ((qSquare _ _ _ _ _ _ _ q4 q6).mono ?_); rintro w _ ⟨ex, rfl, hw⟩; exact ⟨ex, rfl, hw⟩)
    · simp only [withD, nthD, Step2, nthDst, putO, postD]
      rintro _ _ q7 -
      (refine op_call ((hfl _ _ q7).mono ?_); rintro _ _ ⟨⟨r, rfl, hr⟩, ex, rfl⟩; exact ⟨ex, rfl, r, rfl, hr⟩)
    · simp only [withD, nthD, Step2, nthDst, putO, postD]
      rintro _ _ ⟨r8, rfl, hr8⟩ -
      (refine op_call ((Spc.sqrt _ _).mono ?_); rintro _ _ ⟨⟨r, rfl, hr⟩, rfl⟩; exact ⟨[], rfl, r, rfl, hrt _ _ hr8 hr⟩)
    · simp only [withD, nthD, Step2, nthDst, putO, postD]
      rintro _ _ ⟨r1, rfl, hr1⟩ - _ _ ⟨r9, rfl, hr9⟩ -
      (refine op_call ((hnear _ _ _ hr1 hr9).mono ?_); rintro _ _ ⟨rfl, rfl⟩; exact ⟨[], rfl, rfl, rfl⟩)
    simp only [FinalsD, nthDst, putO, List.drop_succ_cons, List.drop_zero]
    rintro _ _ _ _ _ _ _ _ _ _ _ _ ⟨⟨r9, rfl, hr9⟩, ⟨r8, rfl, hr8⟩, q7, q6, q4, ⟨r1, rfl, hr1⟩, -⟩
    try simp only [List.nil_append]
    repeat'
      first
        | refine tl_defer ?_ | refine tc_seq ?_ | refine tc_region ?_ | refine at_seq_normal ?_ | refine tl_nil ?_ | refine tl_cons ?_ | refine tl_cons_none ?_ | refine op_move ?_
        | refine op_assign ?_ | refine op_fieldAddr ?_ | refine op_load ?_ | refine op_load_agg ?_ | refine op_indexC ?_ | refine op_indexAddr1 ?_ | refine op_indexAddr ?_ | refine op_icmp ?_
        | refine op_fcmp ?_ | refine op_iarith ?_ | refine op_bcmp ?_ | refine op_unop_not ?_ | refine op_unop_neg_float ?_ | refine op_unop_neg_int ?_ | refine op_len_slice ?_ | refine op_pick_true ?_
        | refine op_pick_false ?_ | refine op_pick_true' ?_ | refine op_pick_false' ?_ | refine op_build ?_ | refine op_extract ?_ | refine op_makeInterface ?_ | refine op_typeAssert ?_ | refine op_ptr_nil ?_
        | refine op_nilCheck_ptr ?_ | refine op_nilCheck_meth ?_ | refine op_makeMeth ?_ | refine op_makeFunc ?_ | refine op_itof ?_ | refine op_itoi ?_ | refine op_ftoi ?_ | refine op_iquo ?_
        | refine op_irem ?_ | refine op_ibits ?_ | refine op_slice_isnil ?_ | refine op_slice_notnil ?_ | refine op_imax ?_ | refine op_imin ?_ | refine op_shl ?_ | refine op_shr ?_
        | (refine op_alloc ?_; intro _) | (refine op_box ?_; intro _) | (refine op_buildSlice ?_; intro _) | (refine op_farith ?_; intro _ _) | refine op_store0 ?_ | refine op_store1 ?_ | refine op_store2 ?_ | refine op_store3 ?_
        | refine op_store4 ?_ | refine op_store5 ?_ | refine tc_cond_t ?_ | refine tc_cond_f ?_ | refine tc_cond (fun _ => ?_) (fun _ => ?_) | refine tc_block ?_ | refine tc_skip ?_ | refine tc_ret ?_
        | refine tc_exit ?_ | refine tc_label ?_ | refine at_seq_ret ?_ | refine at_seq_exit ?_ | refine at_block_normal ?_ | refine at_block_ret ?_ | refine at_block_exit_self ?_ | refine at_block_exit_ne ?_
        | refine at_loop_ret ?_ | refine at_loop_exit ?_ | refine at_loop_goto ?_ | refine tl_guard_yes ?_ | refine tl_guard_no ?_ | refine tl_guard_yes' ?_ | refine tl_guard_no' ?_ | refine tl_guard_undef ?_
        | refine tl_guard_split (fun _ => ?_) (fun _ => ?_)
    exact ret_tmp (hG := by (repeat (first | exact List.Sublist.refl _ | apply List.Sublist.cons_cons | apply List.Sublist.cons | refine List.Sublist.trans ?_ (List.sublist_append_right _ _)))) (hk := ⟨rfl, rfl⟩)
  | false =>
    have hz : fcmp .neq z z = true ∨ (fcmp .neq z z = false ∧ fcmp .neq 9221120237041090561 9221120237041090561 = true) := by
      cases h : fcmp .neq z z with
      | true => exact .inl rfl
      | false => exact .inr ⟨rfl, nan_neq⟩
    repeat' first
      | (refine op_call ((nan _).mono ?_); rintro _ _ ⟨rfl, rfl⟩)
      | refine op_storeK rfl ?_
      | (first | refine tl_defer ?_ | refine tc_seq ?_ | refine tc_region ?_ | refine at_seq_normal ?_ | refine tl_nil ?_ | refine tl_cons ?_ | refine tl_cons_none ?_ | refine op_move ?_ | refine op_assign ?_ | refine op_fieldAddr ?_ | refine op_load ?_ | refine op_load_agg ?_ | refine op_indexC ?_ | refine op_indexAddr1 ?_ | refine op_indexAddr ?_ | refine op_icmp ?_ | refine op_fcmp ?_ | refine op_iarith ?_ | refine op_bcmp ?_ | refine op_unop_not ?_ | refine op_unop_neg_float ?_ | refine op_unop_neg_int ?_ | refine op_len_slice ?_ | refine op_pick_true ?_ | refine op_pick_false ?_ | refine op_pick_true' ?_ | refine op_pick_false' ?_ | refine op_build ?_ | refine op_extract ?_ | refine op_makeInterface ?_ | refine op_typeAssert ?_ | refine op_ptr_nil ?_ | refine op_nilCheck_ptr ?_ | refine op_nilCheck_meth ?_ | refine op_makeMeth ?_ | refine op_makeFunc ?_ | refine op_itof ?_ | refine op_itoi ?_ | refine op_ftoi ?_ | refine op_iquo ?_ | refine op_irem ?_ | refine op_ibits ?_ | refine op_slice_isnil ?_ | refine op_slice_notnil ?_ | refine op_imax ?_ | refine op_imin ?_ | refine op_shl ?_ | refine op_shr ?_ | (refine op_alloc ?_; intro _) | (refine op_box ?_; intro _) | (refine op_buildSlice ?_; intro _) | (refine op_farith ?_; intro _ _) | refine op_store0 ?_ | refine op_store1 ?_ | refine op_store2 ?_ | refine op_store3 ?_ | refine op_store4 ?_ | refine op_store5 ?_ | refine op_storeK rfl ?_ | refine op_loadK rfl ?_ | refine op_load_aggK rfl ?_ | refine tc_cond_t ?_ | refine tc_cond_f ?_ | refine tc_cond (fun _ => ?_) (fun _ => ?_) | refine tc_block ?_ | refine tc_skip ?_ | refine tc_ret ?_ | refine tc_exit ?_ | refine tc_label ?_ | refine at_seq_ret ?_ | refine at_seq_exit ?_ | refine at_block_normal ?_ | refine at_block_ret ?_ | refine at_block_exit_self ?_ | refine at_block_exit_ne ?_ | refine at_loop_ret ?_ | refine at_loop_exit ?_ | refine at_loop_goto ?_ | refine tl_guard_yes ?_ | refine tl_guard_no ?_ | refine tl_guard_yes' ?_ | refine tl_guard_no' ?_ | refine tl_guard_undef ?_ | refine tl_guard_split (fun _ => ?_) (fun _ => ?_))
      | fail
    apply fun hole0 hole1 hole2 hole3 hE hD hml hdl hpr prem fin => tc_drawnD 11 [PhiD.is hole0, PhiD.is hole1, PhiD.gen (some' (fun w _ => ∃ r, w = .float .f64 r ∧ Root r N)), PhiD.is hole2, PhiD.gen (fun w _ G => IsP nax nay 0 w G), PhiD.is hole3, PhiD.gen (fun w _ G => IsP nbx nby 0 w G), PhiD.gen (fun w _ G => IsQ (((nbx : Rat) - nax) * (nbx - nax) + (nby - nay) * (nby - nay)) 3 w G), PhiD.gen (some' (fun w _ => ∃ r, w = .float .f64 r ∧ Fv r ((N : Int) : Rat))), PhiD.gen (some' (fun w _ => ∃ r, w = .float .f64 r ∧ Root r N)), PhiD.is (.bool true)]
      [some 34, some 35, some 36, some 37, some 38, some 39, some 40, some 41, some 42, some 43, some 44, some 8] [[], [], [0, 1], [], [3, 2], [], [5, 4], [4, 6], [7], [8], [2, 9]] mixed ⟨(some_mono _), (fun _ _ _ _ h hs => IsP.mono h hs), (fun _ _ _ _ h hs => IsP.mono h hs), (fun _ _ _ _ h hs => IsQ.mono h hs), (some_mono _), (some_mono _), trivial⟩ prem fin hE hD rfl hml hdl hpr
    rotate_left 5
    · first | kernel_rfl | exact rfl
    · first | kernel_rfl | exact rfl
    · exact Nat.le_of_ble_eq_true rfl
    · first | kernel_rfl | exact rfl
    · first | kernel_rfl | exact rfl
    refine ⟨fun G hG => ?_, fun G hG => ?_, fun G hG => ?_, fun G hG => ?_, fun G hG => ?_, fun G hG => ?_, fun G hG => ?_, fun G hG => ?_, fun G hG => ?_, fun G hG => ?_, fun G hG => ?_, trivial⟩
    · simp only [withD, nthD, Step2, nthDst, putO, postD]
      ((first | refine op_load ?_ | refine op_load_agg ?_ | refine op_load ?_ (hm := Sub.mem (by assumption) (by (repeat (apply List.mem_cons_of_mem)); assumption)) | refine op_load_agg ?_ (hm := Sub.mem (by assumption) (by (repeat (apply List.mem_cons_of_mem)); assumption)) | refine op_loadH hG rfl ?_ | refine op_load_aggH hG rfl ?_); exact ⟨[], rfl, rfl, rfl⟩)
    · simp only [withD, nthD, Step2, nthDst, putO, postD]
      ((first | refine op_load ?_ | refine op_load_agg ?_ | refine op_load ?_ (hm := Sub.mem (by assumption) (by (repeat (apply List.mem_cons_of_mem)); assumption)) | refine op_load_agg ?_ (hm := Sub.mem (by assumption) (by (repeat (apply List.mem_cons_of_mem)); assumption)) | refine op_loadH hG rfl ?_ | refine op_load_aggH hG rfl ?_); exact ⟨[], rfl, rfl, rfl⟩)
    · simp only [withD, nthD, Step2, nthDst, putO, postD]
      (refine op_call ((hdist _ _ _ hz).mono ?_); rintro _ _ ⟨⟨r, rfl, hr⟩, ex, rfl⟩; exact ⟨ex, rfl, r, rfl, hr⟩)
    · simp only [withD, nthD, Step2, nthDst, putO, postD]
      ((first | refine op_load ?_ | refine op_load_agg ?_ | refine op_load ?_ (hm := Sub.mem (by assumption) (by (repeat (apply List.mem_cons_of_mem)); assumption)) | refine op_load_agg ?_ (hm := Sub.mem (by assumption) (by (repeat (apply List.mem_cons_of_mem)); assumption)) | refine op_loadH hG rfl ?_ | refine op_load_aggH hG rfl ?_); exact ⟨[], rfl, rfl, rfl⟩)
    · simp only [withD, nthD, Step2, nthDst, putO, postD]
      rintro _ _ ⟨r1, rfl, hr1⟩ -
      (refine op_call ((exactly _ _ _ _ _ fax fay hax hay).mono ?_); rintro w _ ⟨ex, rfl, hw⟩; exact ⟨ex, rfl, hw⟩)
    · simp only [withD, nthD, Step2, nthDst, putO, postD]
      ((first | refine op_load ?_ | refine op_load_agg ?_ | refine op_load ?_ (hm := Sub.mem (by assumption) (by (repeat (apply List.mem_cons_of_mem)); assumption)) | refine op_load_agg ?_ (hm := Sub.mem (by assumption) (by (repeat (apply List.mem_cons_of_mem)); assumption)) | refine op_loadH hG rfl ?_ | refine op_load_aggH hG rfl ?_); exact ⟨[], rfl, rfl, rfl⟩)
    · simp only [withD, nthD, Step2, nthDst, putO, postD]
      rintro _ _ q4 -
      (refine op_call ((exactly _ _ _ _ _ fbx fby hbx hby).mono ?_); rintro w _ ⟨ex, rfl, hw⟩; exact ⟨ex, rfl, hw⟩)
    · simp only [withD, nthD, Step2, nthDst, putO, postD]
      rintro _ _ q4 - _ _ q6 -
      (refine op_call ((qSquare _ _ _ _ _ _ _ q4 q6).mono ?_); rintro w _ ⟨ex, rfl, hw⟩; exact ⟨ex, rfl, hw⟩)
    · simp only [withD, nthD, Step2, nthDst, putO, postD]
      rintro _ _ q7 -
      (refine op_call ((hfl _ _ q7).mono ?_); rintro _ _ ⟨⟨r, rfl, hr⟩, ex, rfl⟩; exact ⟨ex, rfl, r, rfl, hr⟩)
    · simp only [withD, nthD, Step2, nthDst, putO, postD]
      rintro _ _ ⟨r8, rfl, hr8⟩ -
      (refine op_call ((Spc.sqrt _ _).mono ?_); rintro _ _ ⟨⟨r, rfl, hr⟩, rfl⟩; exact ⟨[], rfl, r, rfl, hrt _ _ hr8 hr⟩)
    · simp only [withD, nthD, Step2, nthDst, putO, postD]
      rintro _ _ ⟨r1, rfl, hr1⟩ - _ _ ⟨r9, rfl, hr9⟩ -
      (refine op_call ((hnear _ _ _ hr1 hr9).mono ?_); rintro _ _ ⟨rfl, rfl⟩; exact ⟨[], rfl, rfl, rfl⟩)
    simp only [FinalsD, nthDst, putO, List.drop_succ_cons, List.drop_zero]
    rintro _ _ _ _ _ _ _ _ _ _ _ _ ⟨⟨r9, rfl, hr9⟩, ⟨r8, rfl, hr8⟩, q7, q6, q4, ⟨r1, rfl, hr1⟩, -⟩
    try simp only [List.nil_append]
    repeat'
      first
        | refine tl_defer ?_ | refine tc_seq ?_ | refine tc_region ?_ | refine at_seq_normal ?_ | refine tl_nil ?_ | refine tl_cons ?_ | refine tl_cons_none ?_ | refine op_move ?_
        | refine op_assign ?_ | refine op_fieldAddr ?_ | refine op_load ?_ | refine op_load_agg ?_ | refine op_indexC ?_ | refine op_indexAddr1 ?_ | refine op_indexAddr ?_ | refine op_icmp ?_
        | refine op_fcmp ?_ | refine op_iarith ?_ | refine op_bcmp ?_ | refine op_unop_not ?_ | refine op_unop_neg_float ?_ | refine op_unop_neg_int ?_ | refine op_len_slice ?_ | refine op_pick_true ?_
        | refine op_pick_false ?_ | refine op_pick_true' ?_ | refine op_pick_false' ?_ | refine op_build ?_ | refine op_extract ?_ | refine op_makeInterface ?_ | refine op_typeAssert ?_ | refine op_ptr_nil ?_
        | refine op_nilCheck_ptr ?_ | refine op_nilCheck_meth ?_ | refine op_makeMeth ?_ | refine op_makeFunc ?_ | refine op_itof ?_ | refine op_itoi ?_ | refine op_ftoi ?_ | refine op_iquo ?_
        | refine op_irem ?_ | refine op_ibits ?_ | refine op_slice_isnil ?_ | refine op_slice_notnil ?_ | refine op_imax ?_ | refine op_imin ?_ | refine op_shl ?_ | refine op_shr ?_
        | (refine op_alloc ?_; intro _) | (refine op_box ?_; intro _) | (refine op_buildSlice ?_; intro _) | (refine op_farith ?_; intro _ _) | refine op_store0 ?_ | refine op_store1 ?_ | refine op_store2 ?_ | refine op_store3 ?_
        | refine op_store4 ?_ | refine op_store5 ?_ | refine tc_cond_t ?_ | refine tc_cond_f ?_ | refine tc_cond (fun _ => ?_) (fun _ => ?_) | refine tc_block ?_ | refine tc_skip ?_ | refine tc_ret ?_
        | refine tc_exit ?_ | refine tc_label ?_ | refine at_seq_ret ?_ | refine at_seq_exit ?_ | refine at_block_normal ?_ | refine at_block_ret ?_ | refine at_block_exit_self ?_ | refine at_block_exit_ne ?_
        | refine at_loop_ret ?_ | refine at_loop_exit ?_ | refine at_loop_goto ?_ | refine tl_guard_yes ?_ | refine tl_guard_no ?_ | refine tl_guard_yes' ?_ | refine tl_guard_no' ?_ | refine tl_guard_undef ?_
        | refine tl_guard_split (fun _ => ?_) (fun _ => ?_)
    exact ret_tmp (hG := by (repeat (first | exact List.Sublist.refl _ | apply List.Sublist.cons_cons | apply List.Sublist.cons | refine List.Sublist.trans ?_ (List.sublist_append_right _ _)))) (hk := ⟨rfl, rfl⟩)
theorem own : ownKnob Try.prog.godebug = none := by kernel_rfl
theorem laid : laidOutB Try.prog = true := by kernel_rfl
set_option maxRecDepth 100000 in
theorem lifted (os : Os) (started : os.Started) (H : Type) (enc : TypeId × Value → H) :
    ReturnsInHanded {} Try.checked os 6 .any (Rows.fnSpaceFlatSpec.pre6 enc Try.prog Try.f6 Rows.fnSpaceFlatRow.domain false) (Rows.fnSpaceFlatSpec.post enc Try.prog Try.f6 false true false false) := by
  refine returnsInHanded_of_change (C := Try.checked) own started (by kernel_rfl) Try.func6
    (ChangeSpec.witness6 (enc := enc) (C := Try.checked) false ⟨#[], #[.agg #[.float .f64 0, .float .f64 0], .agg #[.float .f64 0, .float .f64 0], .float .f64 0, .bool false], []⟩ 8 (by kernel_rfl) (by kernel_rfl) (by kernel_rfl) (by kernel_rfl)) ?_
  intro W base args ds gs before hval0 hW hcnd _
  have hval : ∀ (j : Nat) t v, Try.f6.params[j]? = some t → args[j]? = some v → Value.okWide Try.prog W .any base t v := hval0
  have hW' := hW
  obtain ⟨p, q, hA0, hV, rfl, hfz, hnd⟩ := hW
  have hA : DataW.TrodAll enc Try.prog W 0 (fun _ => true) true Try.f6.params.toList args.toList ds p := hA0
  rw [Try.params6] at hA hval
  obtain ⟨v0, vs0, d0, ds0, p0, q0, hargs, rfl, rfl, h0, r0⟩ := trodAll_cons hA
  obtain ⟨v1, vs1, d1, ds1, p1, q1, rfl, rfl, rfl, h1, r1⟩ := trodAll_cons r0
  obtain ⟨v2, vs2, d2, ds2, p2, q2, rfl, rfl, rfl, h2, r2⟩ := trodAll_cons r1
  obtain ⟨v3, vs3, d3, ds3, p3, q3, rfl, rfl, rfl, h3, r3⟩ := trodAll_cons r2
  obtain ⟨rfl, rfl, rfl⟩ := trodAll_nil r3
  obtain rfl : args = #[v0, v1, v2, v3] := by cases args; simp_all
  obtain ⟨rfl, rfl⟩ := trodVars_none hV
  obtain ⟨x0, y0, rfl, bx0, by0⟩ := open_p2 Try.underlying57 (by kernel_rfl) (by kernel_rfl) Try.underlying36 Try.underlying36 (hval 0 57 v0 rfl rfl) h0
  obtain ⟨x1, y1, rfl, bx1, by1⟩ := open_p2 Try.underlying57 (by kernel_rfl) (by kernel_rfl) Try.underlying36 Try.underlying36 (hval 1 57 v1 rfl rfl) h1
  obtain ⟨x2, rfl, wx2⟩ := Go.Lg.open_float Try.underlying36 (hval 2 36 v2 rfl rfl) h2
  obtain ⟨b3, rfl, rfl, rfl⟩ := open_bool Try.underlying4 (hval 3 4 v3 rfl rfl) h3
  clear hA0 hval0
  refine (calls_of_does (law (H := all W) x0 y0 bx0 by0 x1 y1 bx1 by1 x2 b3) (sees_all W)).mono fun e W' ⟨v, H', he, hs, hv, hH⟩ => ?_
  subst he
  subst hv
  subst hH
  exact ⟨_, rfl, post_law laid (of_decide_eq_true (by kernel_rfl)) rfl hW' rfl rfl Try.underlying4 hs.below⟩
theorem over : Rows.fnSpaceFlatRow.holds Try.pinned (OpenSpec.ofChange Rows.fnSpaceFlatSpec) :=
  OpenClaim.holds_of_wide 6 Try.f6 rfl rfl rfl rfl rfl rfl rfl ⟨rfl, rfl, rfl, rfl, rfl⟩ rfl rfl rfl rfl rfl (by kernel_rfl) Try.func6 (by kernel_rfl)
    (of_decide_eq_true (by kernel_rfl)) (by unfold Func.isWrapper; first | (rw [if_pos (by decide +kernel)]; kernel_rfl) | (rw [if_neg (by decide +kernel)]; exact ⟨rfl, rfl⟩))
    (fun os started H enc _ => lifted os started H enc)
/-- The statement. -/
theorem proved : Rows.FnSpaceFlatSaid := over
#print axioms proved
end Go.Proofs.Ytomhkbijijdghaa.fnSpaceFlat
