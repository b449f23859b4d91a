/-
  FnBoxMoved3: a box of space with whole numbers from -2^20 to 2^20 that is moved by a vector with such numbers has both its limits moved by it. No conditions beyond the statement's own.
-/
import Derived.Test.YtmgbaahihaknpaaRows
import Derived.Test.YtmgbaahihaknpaaVec3
import Derived.Test.YtmgbaahihaknpaaInts
import Derived.Test.YtmgbaahihaknpaaLg5
set_option linter.unusedVariables false
set_option linter.unusedSimpArgs false
namespace Go.Proofs.Ytmgbaahihaknpaa.fnBoxMoved3
open Go.Lg Go.Proofs.Ytmgbaahihaknpaa.Gd Go.Proofs.Ytmgbaahihaknpaa.Wh Go.Proofs.Ytmgbaahihaknpaa.Ints Go.Proofs.Ytmgbaahihaknpaa.Vec3
open Go.ChangeShapes Go.WideShapes Go.RowKit

set_option maxHeartbeats 8000000 in
theorem law (x y z u v t a b c : Nat) (H : Heap) : Does Try.prog 6 [v3 x y z, v3 u v t, v3 a b c] H fun w H' => w = .bool true ∧ H' = H := by
  by_cases hw : wholeB 3 [[x, y, z], [u, v, t], [a, b, c]] = true
  · simp only [wholeB, List.all_cons, List.all_nil, Bool.and_true, Bool.and_eq_true] at hw
    obtain ⟨nx, hx, hx1, hx2⟩ := ints_of hw.1 x (by simp)
    obtain ⟨ny, hy, hy1, hy2⟩ := ints_of hw.1 y (by simp)
    obtain ⟨nz, hz, hz1, hz2⟩ := ints_of hw.1 z (by simp)
    obtain ⟨nu, hu, hu1, hu2⟩ := ints_of hw.2.1 u (by simp)
    obtain ⟨nv, hv, hv1, hv2⟩ := ints_of hw.2.1 v (by simp)
    obtain ⟨nt, ht, ht1, ht2⟩ := ints_of hw.2.1 t (by simp)
    obtain ⟨na, ha, ha1, ha2⟩ := ints_of hw.2.2 a (by simp)
    obtain ⟨nb, hb, hb1, hb2⟩ := ints_of hw.2.2 b (by simp)
    obtain ⟨nc, hc, hc1, hc2⟩ := ints_of hw.2.2 c (by simp)
    have hw' : (!wholeB 3 [[x, y, z], [u, v, t], [a, b, c]]) = false := by simp [wholeB, hw]
    refine fn_enter 83 Try.func6 fun W => ?_
    repeat' first
      | (first | refine tc_seq ?_ | refine tc_region ?_ | refine at_seq_normal ?_ | refine tl_nil ?_ | refine tl_cons ?_ | refine tl_cons_none ?_ | refine op_move ?_ | refine op_assign ?_ | refine op_fieldAddr ?_ | refine op_load ?_ | refine op_load_agg ?_ | refine op_indexAddr1 ?_ | refine op_indexAddr ?_ | refine op_icmp ?_ | refine op_fcmp ?_ | refine op_iarith ?_ | refine op_unop_not ?_ | refine op_unop_neg_float ?_ | refine op_unop_neg_int ?_ | refine op_len_slice ?_ | refine op_pick_true ?_ | refine op_pick_false ?_ | refine op_pick_true' ?_ | refine op_pick_false' ?_ | refine op_build ?_ | refine op_itof ?_ | refine op_itoi ?_ | refine op_ftoi ?_ | (refine op_alloc ?_; intro _) | (refine op_box ?_; intro _) | (refine op_buildSlice ?_; intro _) | (refine op_farith ?_; intro _ _) | refine op_store0 ?_ | refine op_store1 ?_ | refine op_store2 ?_ | refine op_store3 ?_ | refine op_store4 ?_ | refine op_store5 ?_ | refine tc_cond_t ?_ | refine tc_cond_f ?_ | refine tc_cond (fun _ => ?_) (fun _ => ?_) | refine tc_block ?_ | refine tc_skip ?_ | refine tc_ret ?_ | refine tc_exit ?_ | refine tc_label ?_ | refine at_seq_ret ?_ | refine at_seq_exit ?_ | refine at_block_normal ?_ | refine at_block_ret ?_ | refine at_block_exit_self ?_ | refine at_block_exit_ne ?_ | refine at_loop_ret ?_ | refine at_loop_exit ?_ | refine tl_guard_yes ?_ | refine tl_guard_no ?_ | refine tl_guard_yes' ?_ | refine tl_guard_no' ?_ | refine tl_guard_split (fun _ => ?_) (fun _ => ?_))
      | (refine op_call ((whole3 _ [[x, y, z], [u, v, t], [a, b, c]] _ _ _ (by simp) (by simp) (by (first | exact mem0 | exact mem1 | exact mem2 | exact mem3 | exact mem4 | exact mem5 | exact mem6 | exact mem7 | exact mem8 | exact mem9 | assumption | (refine Sub.mem (by assumption) ?_; first | exact mem0 | exact mem1 | exact mem2 | exact mem3 | exact mem4 | exact mem5 | exact mem6 | exact mem7 | exact mem8 | exact mem9 | assumption) | ((repeat (apply List.mem_cons_of_mem)); first | assumption | (refine Sub.mem (by assumption) ?_; assumption))))).mono ?_); rintro _ _ ⟨rfl, rfl⟩)
    apply fun a0 a1 a2 a3 a4 hE hD hml hdl hpr prem fin => tc_drawn 6 [is a0, is a1, is a2, is a3, (some' (fun w ex => Moved3 x y z u v t a b c w ∧ ex = [])), fresh (fun k => .pointer (some ⟨k, 0, none⟩)) a4]
      [some 14, some 15, some 16, some 17, some 18, some 7, none] [[], [], [0, 1], [], [2, 3], []] mixed ⟨(is_mono _), (is_mono _), (is_mono _), (is_mono _), (some_mono _), (fresh_mono _ _), trivial⟩ prem fin hE hD rfl hml hdl hpr
    rotate_left 6
    · exact rfl
    · exact rfl
    · exact Nat.le_of_ble_eq_true rfl
    · exact rfl
    · exact rfl
    refine ⟨fun G hG => ?_, fun G hG => ?_, fun G hG => ?_, fun G hG => ?_, fun G hG => ?_, fun G hG => ?_, trivial⟩
    · simp only [with2, Step2, nthDst, putO]
      (first | ((first | refine op_move ?_ | refine op_assign ?_ | refine op_fieldAddr ?_ | refine op_load ?_ | refine op_load_agg ?_ | refine op_indexAddr1 ?_ | refine op_indexAddr ?_ | refine op_icmp ?_ | refine op_fcmp ?_ | refine op_iarith ?_ | refine op_unop_not ?_ | refine op_unop_neg_float ?_ | refine op_unop_neg_int ?_ | refine op_len_slice ?_ | refine op_pick_true ?_ | refine op_pick_false ?_ | refine op_pick_true' ?_ | refine op_pick_false' ?_ | refine op_build ?_ | refine op_itof ?_ | refine op_itoi ?_ | refine op_ftoi ?_); exact ⟨[], rfl, rfl, rfl⟩) | (refine op_alloc ?_; intro _; exact ⟨[(_, _)], rfl, ⟨_, rfl, rfl⟩⟩) | (refine op_box ?_; intro _; exact ⟨[(_, _)], rfl, ⟨_, rfl, rfl⟩⟩) | (refine op_buildSlice ?_; intro _; exact ⟨[(_, _)], rfl, ⟨_, rfl, rfl⟩⟩) | (refine op_farith ?_; intro _ h; exact ⟨[], rfl, ⟨_, h, rfl⟩, rfl⟩))
    · simp only [with2, Step2, nthDst, putO]
      (first | ((first | refine op_move ?_ | refine op_assign ?_ | refine op_fieldAddr ?_ | refine op_load ?_ | refine op_load_agg ?_ | refine op_indexAddr1 ?_ | refine op_indexAddr ?_ | refine op_icmp ?_ | refine op_fcmp ?_ | refine op_iarith ?_ | refine op_unop_not ?_ | refine op_unop_neg_float ?_ | refine op_unop_neg_int ?_ | refine op_len_slice ?_ | refine op_pick_true ?_ | refine op_pick_false ?_ | refine op_pick_true' ?_ | refine op_pick_false' ?_ | refine op_build ?_ | refine op_itof ?_ | refine op_itoi ?_ | refine op_ftoi ?_); exact ⟨[], rfl, rfl, rfl⟩) | (refine op_alloc ?_; intro _; exact ⟨[(_, _)], rfl, ⟨_, rfl, rfl⟩⟩) | (refine op_box ?_; intro _; exact ⟨[(_, _)], rfl, ⟨_, rfl, rfl⟩⟩) | (refine op_buildSlice ?_; intro _; exact ⟨[(_, _)], rfl, ⟨_, rfl, rfl⟩⟩) | (refine op_farith ?_; intro _ h; exact ⟨[], rfl, ⟨_, h, rfl⟩, rfl⟩))
    · rintro _ _ ⟨rfl, rfl⟩ - _ _ ⟨rfl, rfl⟩ -
      simp only [with2, Step2, nthDst, putO]
      (first | (refine op_call ((box3 _ _ _ _ _ _ _).mono ?_); rintro _ _ ⟨rfl, rfl⟩; exact ⟨[], rfl, rfl, rfl⟩) | (first | ((first | refine op_move ?_ | refine op_assign ?_ | refine op_fieldAddr ?_ | refine op_load ?_ | refine op_load_agg ?_ | refine op_indexAddr1 ?_ | refine op_indexAddr ?_ | refine op_icmp ?_ | refine op_fcmp ?_ | refine op_iarith ?_ | refine op_unop_not ?_ | refine op_unop_neg_float ?_ | refine op_unop_neg_int ?_ | refine op_len_slice ?_ | refine op_pick_true ?_ | refine op_pick_false ?_ | refine op_pick_true' ?_ | refine op_pick_false' ?_ | refine op_build ?_ | refine op_itof ?_ | refine op_itoi ?_ | refine op_ftoi ?_); exact ⟨[], rfl, rfl, rfl⟩) | (refine op_alloc ?_; intro _; exact ⟨[(_, _)], rfl, ⟨_, rfl, rfl⟩⟩) | (refine op_box ?_; intro _; exact ⟨[(_, _)], rfl, ⟨_, rfl, rfl⟩⟩) | (refine op_buildSlice ?_; intro _; exact ⟨[(_, _)], rfl, ⟨_, rfl, rfl⟩⟩) | (refine op_farith ?_; intro _ h; exact ⟨[], rfl, ⟨_, h, rfl⟩, rfl⟩)))
    · simp only [with2, Step2, nthDst, putO]
      (first | ((first | refine op_move ?_ | refine op_assign ?_ | refine op_fieldAddr ?_ | refine op_load ?_ | refine op_load_agg ?_ | refine op_indexAddr1 ?_ | refine op_indexAddr ?_ | refine op_icmp ?_ | refine op_fcmp ?_ | refine op_iarith ?_ | refine op_unop_not ?_ | refine op_unop_neg_float ?_ | refine op_unop_neg_int ?_ | refine op_len_slice ?_ | refine op_pick_true ?_ | refine op_pick_false ?_ | refine op_pick_true' ?_ | refine op_pick_false' ?_ | refine op_build ?_ | refine op_itof ?_ | refine op_itoi ?_ | refine op_ftoi ?_); exact ⟨[], rfl, rfl, rfl⟩) | (refine op_alloc ?_; intro _; exact ⟨[(_, _)], rfl, ⟨_, rfl, rfl⟩⟩) | (refine op_box ?_; intro _; exact ⟨[(_, _)], rfl, ⟨_, rfl, rfl⟩⟩) | (refine op_buildSlice ?_; intro _; exact ⟨[(_, _)], rfl, ⟨_, rfl, rfl⟩⟩) | (refine op_farith ?_; intro _ h; exact ⟨[], rfl, ⟨_, h, rfl⟩, rfl⟩))
    · rintro _ _ ⟨rfl, rfl⟩ - _ _ ⟨rfl, rfl⟩ -
      simp only [with2, Step2, nthDst, putO]
      (refine op_call ((addBox3 _ _ _ _ _ _ _ _ _ _).mono ?_); rintro _ _ ⟨h, rfl⟩; exact ⟨[], rfl, h, rfl⟩)
    · simp only [with2, Step2, nthDst, putO]
      (first | ((first | refine op_move ?_ | refine op_assign ?_ | refine op_fieldAddr ?_ | refine op_load ?_ | refine op_load_agg ?_ | refine op_indexAddr1 ?_ | refine op_indexAddr ?_ | refine op_icmp ?_ | refine op_fcmp ?_ | refine op_iarith ?_ | refine op_unop_not ?_ | refine op_unop_neg_float ?_ | refine op_unop_neg_int ?_ | refine op_len_slice ?_ | refine op_pick_true ?_ | refine op_pick_false ?_ | refine op_pick_true' ?_ | refine op_pick_false' ?_ | refine op_build ?_ | refine op_itof ?_ | refine op_itoi ?_ | refine op_ftoi ?_); exact ⟨[], rfl, rfl, rfl⟩) | (refine op_alloc ?_; intro _; exact ⟨[(_, _)], rfl, ⟨_, rfl, rfl⟩⟩) | (refine op_box ?_; intro _; exact ⟨[(_, _)], rfl, ⟨_, rfl, rfl⟩⟩) | (refine op_buildSlice ?_; intro _; exact ⟨[(_, _)], rfl, ⟨_, rfl, rfl⟩⟩) | (refine op_farith ?_; intro _ h; exact ⟨[], rfl, ⟨_, h, rfl⟩, rfl⟩))
    · rintro _ _ _ _ _ _ _ _ _ _ _ _ ⟨⟨_, rfl, rfl⟩, ⟨⟨x8, y8, z8, u8, v8, t8, h1, h2, h3, h4, h5, h6, rfl⟩, rfl⟩, ⟨rfl, rfl⟩, ⟨rfl, rfl⟩, ⟨rfl, rfl⟩, ⟨rfl, rfl⟩, _⟩
      simp only [List.nil_append, List.cons_append, List.append_nil, List.drop_succ_cons, List.drop_zero, nthDst, putO]
      repeat'
        first
          | refine tc_seq ?_ | refine tc_region ?_ | refine at_seq_normal ?_ | refine tl_nil ?_ | refine tl_cons ?_ | refine tl_cons_none ?_ | refine op_move ?_ | refine op_assign ?_
          | refine op_fieldAddr ?_ | refine op_load ?_ | refine op_load_agg ?_ | refine op_indexAddr1 ?_ | refine op_indexAddr ?_ | refine op_icmp ?_ | refine op_fcmp ?_ | refine op_iarith ?_
          | refine op_unop_not ?_ | refine op_unop_neg_float ?_ | refine op_unop_neg_int ?_ | refine op_len_slice ?_ | refine op_pick_true ?_ | refine op_pick_false ?_ | refine op_pick_true' ?_ | refine op_pick_false' ?_
          | refine op_build ?_ | refine op_itof ?_ | refine op_itoi ?_ | refine op_ftoi ?_ | (refine op_alloc ?_; intro _) | (refine op_box ?_; intro _) | (refine op_buildSlice ?_; intro _) | (refine op_farith ?_; intro _ _)
          | refine op_store0 ?_ | refine op_store1 ?_ | refine op_store2 ?_ | refine op_store3 ?_ | refine op_store4 ?_ | refine op_store5 ?_ | refine tc_cond_t ?_ | refine tc_cond_f ?_
          | refine tc_cond (fun _ => ?_) (fun _ => ?_) | refine tc_block ?_ | refine tc_skip ?_ | refine tc_ret ?_ | refine tc_exit ?_ | refine tc_label ?_ | refine at_seq_ret ?_ | refine at_seq_exit ?_
          | refine at_block_normal ?_ | refine at_block_ret ?_ | refine at_block_exit_self ?_ | refine at_block_exit_ne ?_ | refine at_loop_ret ?_ | refine at_loop_exit ?_ | refine tl_guard_yes ?_ | refine tl_guard_no ?_
          | refine tl_guard_yes' ?_ | refine tl_guard_no' ?_ | refine tl_guard_split (fun _ => ?_) (fun _ => ?_)
      all_goals first
        | exact (no_add ‹fcmp .eql _ _ = false› (by assumption) (by assumption) hx ha (by omega) (by omega)).elim
        | exact (no_add ‹fcmp .eql _ _ = false› (by assumption) (by assumption) hu ha (by omega) (by omega)).elim
        | exact (no_add ‹fcmp .eql _ _ = false› (by assumption) (by assumption) hy hb (by omega) (by omega)).elim
        | exact (no_add ‹fcmp .eql _ _ = false› (by assumption) (by assumption) hv hb (by omega) (by omega)).elim
        | exact (no_add ‹fcmp .eql _ _ = false› (by assumption) (by assumption) hz hc (by omega) (by omega)).elim
        | exact (no_add ‹fcmp .eql _ _ = false› (by assumption) (by assumption) ht hc (by omega) (by omega)).elim
        | skip
      first | exact ret_tmp (hk := ⟨congrArg Value.bool (true_of_no fun h => no_add h (by assumption) (by assumption) ht hc (by omega) (by omega)), rfl⟩) | exact ret_cell (hr := rfl) (hk := ⟨congrArg Value.bool (true_of_no fun h => no_add h (by assumption) (by assumption) ht hc (by omega) (by omega)), rfl⟩) | exact ret_agg (hr := rfl) (hk := ⟨congrArg Value.bool (true_of_no fun h => no_add h (by assumption) (by assumption) ht hc (by omega) (by omega)), rfl⟩)
  · have hw' : (!wholeB 3 [[x, y, z], [u, v, t], [a, b, c]]) = true := by simpa using hw
    refine fn_enter 83 Try.func6 fun W => ?_
    repeat' first
      | (first | refine tc_seq ?_ | refine tc_region ?_ | refine at_seq_normal ?_ | refine tl_nil ?_ | refine tl_cons ?_ | refine tl_cons_none ?_ | refine op_move ?_ | refine op_assign ?_ | refine op_fieldAddr ?_ | refine op_load ?_ | refine op_load_agg ?_ | refine op_indexAddr1 ?_ | refine op_indexAddr ?_ | refine op_icmp ?_ | refine op_fcmp ?_ | refine op_iarith ?_ | refine op_unop_not ?_ | refine op_unop_neg_float ?_ | refine op_unop_neg_int ?_ | refine op_len_slice ?_ | refine op_pick_true ?_ | refine op_pick_false ?_ | refine op_pick_true' ?_ | refine op_pick_false' ?_ | refine op_build ?_ | refine op_itof ?_ | refine op_itoi ?_ | refine op_ftoi ?_ | (refine op_alloc ?_; intro _) | (refine op_box ?_; intro _) | (refine op_buildSlice ?_; intro _) | (refine op_farith ?_; intro _ _) | refine op_store0 ?_ | refine op_store1 ?_ | refine op_store2 ?_ | refine op_store3 ?_ | refine op_store4 ?_ | refine op_store5 ?_ | refine tc_cond_t ?_ | refine tc_cond_f ?_ | refine tc_cond (fun _ => ?_) (fun _ => ?_) | refine tc_block ?_ | refine tc_skip ?_ | refine tc_ret ?_ | refine tc_exit ?_ | refine tc_label ?_ | refine at_seq_ret ?_ | refine at_seq_exit ?_ | refine at_block_normal ?_ | refine at_block_ret ?_ | refine at_block_exit_self ?_ | refine at_block_exit_ne ?_ | refine at_loop_ret ?_ | refine at_loop_exit ?_ | refine tl_guard_yes ?_ | refine tl_guard_no ?_ | refine tl_guard_yes' ?_ | refine tl_guard_no' ?_ | refine tl_guard_split (fun _ => ?_) (fun _ => ?_))
      | (refine op_call ((whole3 _ [[x, y, z], [u, v, t], [a, b, c]] _ _ _ (by simp) (by simp) (by (first | exact mem0 | exact mem1 | exact mem2 | exact mem3 | exact mem4 | exact mem5 | exact mem6 | exact mem7 | exact mem8 | exact mem9 | assumption | (refine Sub.mem (by assumption) ?_; first | exact mem0 | exact mem1 | exact mem2 | exact mem3 | exact mem4 | exact mem5 | exact mem6 | exact mem7 | exact mem8 | exact mem9 | assumption) | ((repeat (apply List.mem_cons_of_mem)); first | assumption | (refine Sub.mem (by assumption) ?_; assumption))))).mono ?_); rintro _ _ ⟨rfl, rfl⟩)
    first | exact ret_tmp (hk := ⟨rfl, rfl⟩) | exact ret_cell (hr := rfl) (hk := ⟨rfl, rfl⟩) | exact ret_agg (hr := rfl) (hk := ⟨rfl, rfl⟩)
theorem own : ownKnob Try.prog.godebug = none := by kernel_rfl
theorem laid : laidOutB Try.prog = true := by kernel_rfl
set_option maxRecDepth 100000 in
theorem lifted (os : Os) (started : os.Started) (H : Type) (enc : TypeId × Value → H) :
    ReturnsInHanded {} Try.checked os 6 .any (Rows.fnBoxMoved3Spec.pre6 enc Try.prog Try.f6 Rows.fnBoxMoved3Row.domain false) (Rows.fnBoxMoved3Spec.post enc Try.prog Try.f6 false true false false) := by
  refine returnsInHanded_of_change (C := Try.checked) own started (by kernel_rfl) Try.func6
    (ChangeSpec.witness6 (enc := enc) (C := Try.checked) false ⟨#[], #[.agg #[.float .f64 0, .float .f64 0, .float .f64 0], .agg #[.float .f64 0, .float .f64 0, .float .f64 0], .agg #[.float .f64 0, .float .f64 0, .float .f64 0]], []⟩ 8 (by kernel_rfl) (by kernel_rfl) (by kernel_rfl) (by kernel_rfl)) ?_
  intro W base args ds gs before hval0 hW hcnd _
  have hval : ∀ (j : Nat) t v, Try.f6.params[j]? = some t → args[j]? = some v → Value.okWide Try.prog W .any base t v := hval0
  have hW' := hW
  obtain ⟨p, q, hA0, hV, rfl, hfz, hnd⟩ := hW
  have hA : DataW.TrodAll enc Try.prog W 0 (fun _ => true) true Try.f6.params.toList args.toList ds p := hA0
  rw [Try.params6] at hA hval
  obtain ⟨v0, vs0, d0, ds0, p0, q0, hargs, rfl, rfl, h0, r0⟩ := trodAll_cons hA
  obtain ⟨v1, vs1, d1, ds1, p1, q1, rfl, rfl, rfl, h1, r1⟩ := trodAll_cons r0
  obtain ⟨v2, vs2, d2, ds2, p2, q2, rfl, rfl, rfl, h2, r2⟩ := trodAll_cons r1
  obtain ⟨rfl, rfl, rfl⟩ := trodAll_nil r2
  obtain rfl : args = #[v0, v1, v2] := by cases args; simp_all
  obtain ⟨rfl, rfl⟩ := trodVars_none hV
  obtain ⟨x0, y0, z0, rfl, bx0, by0, bz0⟩ := open_p3 Try.underlying36 (by kernel_rfl) (by kernel_rfl) Try.underlying24 Try.underlying24 Try.underlying24 (hval 0 36 v0 rfl rfl) h0
  obtain ⟨x1, y1, z1, rfl, bx1, by1, bz1⟩ := open_p3 Try.underlying36 (by kernel_rfl) (by kernel_rfl) Try.underlying24 Try.underlying24 Try.underlying24 (hval 1 36 v1 rfl rfl) h1
  obtain ⟨x2, y2, z2, rfl, bx2, by2, bz2⟩ := open_p3 Try.underlying36 (by kernel_rfl) (by kernel_rfl) Try.underlying24 Try.underlying24 Try.underlying24 (hval 2 36 v2 rfl rfl) h2
  clear hA0 hval0
  refine (calls_of_does (law x0 y0 z0 x1 y1 z1 x2 y2 z2 (all W)) (sees_all W)).mono fun e W' ⟨v, H', he, hs, hv, hH⟩ => ?_
  subst he
  subst hv
  subst hH
  exact ⟨_, rfl, post_law laid (of_decide_eq_true (by kernel_rfl)) rfl hW' rfl rfl Try.underlying4 hs.below⟩
theorem over : Rows.fnBoxMoved3Row.holds Try.pinned (OpenSpec.ofChange Rows.fnBoxMoved3Spec) :=
  OpenClaim.holds_of_wide 6 Try.f6 rfl rfl rfl rfl rfl rfl rfl ⟨rfl, rfl, rfl, rfl, rfl⟩ rfl rfl rfl rfl rfl (by kernel_rfl) Try.func6 (by kernel_rfl)
    (of_decide_eq_true (by kernel_rfl)) (by unfold Func.isWrapper; first | (rw [if_pos (by decide +kernel)]; kernel_rfl) | (rw [if_neg (by decide +kernel)]; exact ⟨rfl, rfl⟩))
    (fun os started H enc _ => lifted os started H enc)
/-- The statement. -/
theorem proved : Rows.FnBoxMoved3Said := over
#print axioms proved
end Go.Proofs.Ytmgbaahihaknpaa.fnBoxMoved3
