/-
  FnAdd3: two vectors of space with whole numbers from -2^20 to 2^20 are added, and taken from one another, number by number. No conditions beyond the statement's own.
-/
import Derived.Test.YtmgbaahihaknpaaRows
import Derived.Test.YtmgbaahihaknpaaVec3
import Derived.Test.YtmgbaahihaknpaaInts
import Derived.Test.YtmgbaahihaknpaaLg5
set_option linter.unusedVariables false
set_option linter.unusedSimpArgs false
namespace Go.Proofs.Ytmgbaahihaknpaa.fnAdd3
open Go.Lg Go.Proofs.Ytmgbaahihaknpaa.Gd Go.Proofs.Ytmgbaahihaknpaa.Wh Go.Proofs.Ytmgbaahihaknpaa.Ints Go.Proofs.Ytmgbaahihaknpaa.Vec3
open Go.ChangeShapes Go.WideShapes Go.RowKit

set_option maxHeartbeats 8000000 in
theorem law (x y z u v t : Nat) (H : Heap) : Does Try.prog 8 [v3 x y z, v3 u v t] H fun w H' => w = .bool true ∧ H' = H := by
  by_cases hw : wholeB 3 [[x, y, z], [u, v, t]] = true
  · simp only [wholeB, List.all_cons, List.all_nil, Bool.and_true, Bool.and_eq_true] at hw
    obtain ⟨nx, hx, hx1, hx2⟩ := ints_of hw.1 x (by simp)
    obtain ⟨ny, hy, hy1, hy2⟩ := ints_of hw.1 y (by simp)
    obtain ⟨nz, hz, hz1, hz2⟩ := ints_of hw.1 z (by simp)
    obtain ⟨nu, hu, hu1, hu2⟩ := ints_of hw.2 u (by simp)
    obtain ⟨nv, hv, hv1, hv2⟩ := ints_of hw.2 v (by simp)
    obtain ⟨nt, ht, ht1, ht2⟩ := ints_of hw.2 t (by simp)
    have hw' : (!wholeB 3 [[x, y, z], [u, v, t]]) = false := by simp [wholeB, hw]
    refine fn_enter 76 Try.func8 fun W => ?_
    repeat' first
      | (first | refine tc_seq ?_ | refine tc_region ?_ | refine at_seq_normal ?_ | refine tl_nil ?_ | refine tl_cons ?_ | refine tl_cons_none ?_ | refine op_move ?_ | refine op_assign ?_ | refine op_fieldAddr ?_ | refine op_load ?_ | refine op_load_agg ?_ | refine op_indexAddr1 ?_ | refine op_indexAddr ?_ | refine op_icmp ?_ | refine op_fcmp ?_ | refine op_iarith ?_ | refine op_unop_not ?_ | refine op_unop_neg_float ?_ | refine op_unop_neg_int ?_ | refine op_len_slice ?_ | refine op_pick_true ?_ | refine op_pick_false ?_ | refine op_pick_true' ?_ | refine op_pick_false' ?_ | refine op_build ?_ | refine op_itof ?_ | refine op_itoi ?_ | refine op_ftoi ?_ | (refine op_alloc ?_; intro _) | (refine op_box ?_; intro _) | (refine op_buildSlice ?_; intro _) | (refine op_farith ?_; intro _ _) | refine op_store0 ?_ | refine op_store1 ?_ | refine op_store2 ?_ | refine op_store3 ?_ | refine op_store4 ?_ | refine op_store5 ?_ | refine tc_cond_t ?_ | refine tc_cond_f ?_ | refine tc_cond (fun _ => ?_) (fun _ => ?_) | refine tc_block ?_ | refine tc_skip ?_ | refine tc_ret ?_ | refine tc_exit ?_ | refine tc_label ?_ | refine at_seq_ret ?_ | refine at_seq_exit ?_ | refine at_block_normal ?_ | refine at_block_ret ?_ | refine at_block_exit_self ?_ | refine at_block_exit_ne ?_ | refine at_loop_ret ?_ | refine at_loop_exit ?_ | refine tl_guard_yes ?_ | refine tl_guard_no ?_ | refine tl_guard_yes' ?_ | refine tl_guard_no' ?_ | refine tl_guard_split (fun _ => ?_) (fun _ => ?_))
      | (refine op_call ((whole3 _ [[x, y, z], [u, v, t]] _ _ _ (by simp) (by simp) (by (first | exact mem0 | exact mem1 | exact mem2 | exact mem3 | exact mem4 | exact mem5 | exact mem6 | exact mem7 | exact mem8 | exact mem9 | assumption | (refine Sub.mem (by assumption) ?_; first | exact mem0 | exact mem1 | exact mem2 | exact mem3 | exact mem4 | exact mem5 | exact mem6 | exact mem7 | exact mem8 | exact mem9 | assumption) | ((repeat (apply List.mem_cons_of_mem)); first | assumption | (refine Sub.mem (by assumption) ?_; assumption))))).mono ?_); rintro _ _ ⟨rfl, rfl⟩)
    apply fun a0 a1 a2 a3 a4 a5 hE hD hml hdl hpr prem fin => tc_drawn 8 [is a0, is a1, (some' (fun w ex => IsAdd x y z u v t w ∧ ex = [])), is a2, is a3, (some' (fun w ex => IsSub x y z u v t w ∧ ex = [])), fresh (fun k => .pointer (some ⟨k, 0, none⟩)) a4, fresh (fun k => .pointer (some ⟨k, 0, none⟩)) a5]
      [some 12, some 13, some 14, some 15, some 16, some 17, some 5, some 6, none, none] [[], [], [0, 1], [], [], [3, 4, 2], [], []] mixed ⟨(is_mono _), (is_mono _), (some_mono _), (is_mono _), (is_mono _), (some_mono _), (fresh_mono _ _), (fresh_mono _ _), trivial⟩ prem fin hE hD rfl hml hdl hpr
    rotate_left 7
    · exact rfl
    · exact rfl
    · exact Nat.le_of_ble_eq_true rfl
    · exact rfl
    · exact rfl
    refine ⟨fun G hG => ?_, fun G hG => ?_, fun G hG => ?_, fun G hG => ?_, fun G hG => ?_, fun G hG => ?_, fun G hG => ?_, fun G hG => ?_, trivial⟩
    · simp only [with2, Step2, nthDst, putO]
      (first | ((first | refine op_move ?_ | refine op_assign ?_ | refine op_fieldAddr ?_ | refine op_load ?_ | refine op_load_agg ?_ | refine op_indexAddr1 ?_ | refine op_indexAddr ?_ | refine op_icmp ?_ | refine op_fcmp ?_ | refine op_iarith ?_ | refine op_unop_not ?_ | refine op_unop_neg_float ?_ | refine op_unop_neg_int ?_ | refine op_len_slice ?_ | refine op_pick_true ?_ | refine op_pick_false ?_ | refine op_pick_true' ?_ | refine op_pick_false' ?_ | refine op_build ?_ | refine op_itof ?_ | refine op_itoi ?_ | refine op_ftoi ?_); exact ⟨[], rfl, rfl, rfl⟩) | (refine op_alloc ?_; intro _; exact ⟨[(_, _)], rfl, ⟨_, rfl, rfl⟩⟩) | (refine op_box ?_; intro _; exact ⟨[(_, _)], rfl, ⟨_, rfl, rfl⟩⟩) | (refine op_buildSlice ?_; intro _; exact ⟨[(_, _)], rfl, ⟨_, rfl, rfl⟩⟩) | (refine op_farith ?_; intro _ h; exact ⟨[], rfl, ⟨_, h, rfl⟩, rfl⟩))
    · simp only [with2, Step2, nthDst, putO]
      (first | ((first | refine op_move ?_ | refine op_assign ?_ | refine op_fieldAddr ?_ | refine op_load ?_ | refine op_load_agg ?_ | refine op_indexAddr1 ?_ | refine op_indexAddr ?_ | refine op_icmp ?_ | refine op_fcmp ?_ | refine op_iarith ?_ | refine op_unop_not ?_ | refine op_unop_neg_float ?_ | refine op_unop_neg_int ?_ | refine op_len_slice ?_ | refine op_pick_true ?_ | refine op_pick_false ?_ | refine op_pick_true' ?_ | refine op_pick_false' ?_ | refine op_build ?_ | refine op_itof ?_ | refine op_itoi ?_ | refine op_ftoi ?_); exact ⟨[], rfl, rfl, rfl⟩) | (refine op_alloc ?_; intro _; exact ⟨[(_, _)], rfl, ⟨_, rfl, rfl⟩⟩) | (refine op_box ?_; intro _; exact ⟨[(_, _)], rfl, ⟨_, rfl, rfl⟩⟩) | (refine op_buildSlice ?_; intro _; exact ⟨[(_, _)], rfl, ⟨_, rfl, rfl⟩⟩) | (refine op_farith ?_; intro _ h; exact ⟨[], rfl, ⟨_, h, rfl⟩, rfl⟩))
    · rintro _ _ ⟨rfl, rfl⟩ - _ _ ⟨rfl, rfl⟩ -
      simp only [with2, Step2, nthDst, putO]
      (refine op_call ((add3 _ _ _ _ _ _ _).mono ?_); rintro _ _ ⟨h, rfl⟩; exact ⟨[], rfl, h, rfl⟩)
    · simp only [with2, Step2, nthDst, putO]
      (first | ((first | refine op_move ?_ | refine op_assign ?_ | refine op_fieldAddr ?_ | refine op_load ?_ | refine op_load_agg ?_ | refine op_indexAddr1 ?_ | refine op_indexAddr ?_ | refine op_icmp ?_ | refine op_fcmp ?_ | refine op_iarith ?_ | refine op_unop_not ?_ | refine op_unop_neg_float ?_ | refine op_unop_neg_int ?_ | refine op_len_slice ?_ | refine op_pick_true ?_ | refine op_pick_false ?_ | refine op_pick_true' ?_ | refine op_pick_false' ?_ | refine op_build ?_ | refine op_itof ?_ | refine op_itoi ?_ | refine op_ftoi ?_); exact ⟨[], rfl, rfl, rfl⟩) | (refine op_alloc ?_; intro _; exact ⟨[(_, _)], rfl, ⟨_, rfl, rfl⟩⟩) | (refine op_box ?_; intro _; exact ⟨[(_, _)], rfl, ⟨_, rfl, rfl⟩⟩) | (refine op_buildSlice ?_; intro _; exact ⟨[(_, _)], rfl, ⟨_, rfl, rfl⟩⟩) | (refine op_farith ?_; intro _ h; exact ⟨[], rfl, ⟨_, h, rfl⟩, rfl⟩))
    · simp only [with2, Step2, nthDst, putO]
      (first | ((first | refine op_move ?_ | refine op_assign ?_ | refine op_fieldAddr ?_ | refine op_load ?_ | refine op_load_agg ?_ | refine op_indexAddr1 ?_ | refine op_indexAddr ?_ | refine op_icmp ?_ | refine op_fcmp ?_ | refine op_iarith ?_ | refine op_unop_not ?_ | refine op_unop_neg_float ?_ | refine op_unop_neg_int ?_ | refine op_len_slice ?_ | refine op_pick_true ?_ | refine op_pick_false ?_ | refine op_pick_true' ?_ | refine op_pick_false' ?_ | refine op_build ?_ | refine op_itof ?_ | refine op_itoi ?_ | refine op_ftoi ?_); exact ⟨[], rfl, rfl, rfl⟩) | (refine op_alloc ?_; intro _; exact ⟨[(_, _)], rfl, ⟨_, rfl, rfl⟩⟩) | (refine op_box ?_; intro _; exact ⟨[(_, _)], rfl, ⟨_, rfl, rfl⟩⟩) | (refine op_buildSlice ?_; intro _; exact ⟨[(_, _)], rfl, ⟨_, rfl, rfl⟩⟩) | (refine op_farith ?_; intro _ h; exact ⟨[], rfl, ⟨_, h, rfl⟩, rfl⟩))
    · rintro _ _ ⟨rfl, rfl⟩ - _ _ ⟨rfl, rfl⟩ - _ _ ⟨⟨a, b, c, ha, hb, hc, rfl⟩, rfl⟩ -
      simp only [with2, Step2, nthDst, putO]
      (refine op_call ((sub3 _ _ _ _ _ _ _).mono ?_); rintro _ _ ⟨h, rfl⟩; exact ⟨[], rfl, h, rfl⟩)
    · simp only [with2, Step2, nthDst, putO]
      (first | ((first | refine op_move ?_ | refine op_assign ?_ | refine op_fieldAddr ?_ | refine op_load ?_ | refine op_load_agg ?_ | refine op_indexAddr1 ?_ | refine op_indexAddr ?_ | refine op_icmp ?_ | refine op_fcmp ?_ | refine op_iarith ?_ | refine op_unop_not ?_ | refine op_unop_neg_float ?_ | refine op_unop_neg_int ?_ | refine op_len_slice ?_ | refine op_pick_true ?_ | refine op_pick_false ?_ | refine op_pick_true' ?_ | refine op_pick_false' ?_ | refine op_build ?_ | refine op_itof ?_ | refine op_itoi ?_ | refine op_ftoi ?_); exact ⟨[], rfl, rfl, rfl⟩) | (refine op_alloc ?_; intro _; exact ⟨[(_, _)], rfl, ⟨_, rfl, rfl⟩⟩) | (refine op_box ?_; intro _; exact ⟨[(_, _)], rfl, ⟨_, rfl, rfl⟩⟩) | (refine op_buildSlice ?_; intro _; exact ⟨[(_, _)], rfl, ⟨_, rfl, rfl⟩⟩) | (refine op_farith ?_; intro _ h; exact ⟨[], rfl, ⟨_, h, rfl⟩, rfl⟩))
    · simp only [with2, Step2, nthDst, putO]
      (first | ((first | refine op_move ?_ | refine op_assign ?_ | refine op_fieldAddr ?_ | refine op_load ?_ | refine op_load_agg ?_ | refine op_indexAddr1 ?_ | refine op_indexAddr ?_ | refine op_icmp ?_ | refine op_fcmp ?_ | refine op_iarith ?_ | refine op_unop_not ?_ | refine op_unop_neg_float ?_ | refine op_unop_neg_int ?_ | refine op_len_slice ?_ | refine op_pick_true ?_ | refine op_pick_false ?_ | refine op_pick_true' ?_ | refine op_pick_false' ?_ | refine op_build ?_ | refine op_itof ?_ | refine op_itoi ?_ | refine op_ftoi ?_); exact ⟨[], rfl, rfl, rfl⟩) | (refine op_alloc ?_; intro _; exact ⟨[(_, _)], rfl, ⟨_, rfl, rfl⟩⟩) | (refine op_box ?_; intro _; exact ⟨[(_, _)], rfl, ⟨_, rfl, rfl⟩⟩) | (refine op_buildSlice ?_; intro _; exact ⟨[(_, _)], rfl, ⟨_, rfl, rfl⟩⟩) | (refine op_farith ?_; intro _ h; exact ⟨[], rfl, ⟨_, h, rfl⟩, rfl⟩))
    · rintro _ _ _ _ _ _ _ _ _ _ _ _ _ _ _ _ ⟨⟨_, rfl, rfl⟩, ⟨_, rfl, rfl⟩, ⟨⟨a', b', c', ha', hb', hc', rfl⟩, rfl⟩, ⟨rfl, rfl⟩, ⟨rfl, rfl⟩, ⟨⟨a, b, c, ha, hb, hc, rfl⟩, rfl⟩, ⟨rfl, rfl⟩, ⟨rfl, rfl⟩, _⟩
      simp only [List.nil_append, List.cons_append, List.append_nil, List.drop_succ_cons, List.drop_zero, nthDst, putO]
      repeat'
        first
          | refine tc_seq ?_ | refine tc_region ?_ | refine at_seq_normal ?_ | refine tl_nil ?_ | refine tl_cons ?_ | refine tl_cons_none ?_ | refine op_move ?_ | refine op_assign ?_
          | refine op_fieldAddr ?_ | refine op_load ?_ | refine op_load_agg ?_ | refine op_indexAddr1 ?_ | refine op_indexAddr ?_ | refine op_icmp ?_ | refine op_fcmp ?_ | refine op_iarith ?_
          | refine op_unop_not ?_ | refine op_unop_neg_float ?_ | refine op_unop_neg_int ?_ | refine op_len_slice ?_ | refine op_pick_true ?_ | refine op_pick_false ?_ | refine op_pick_true' ?_ | refine op_pick_false' ?_
          | refine op_build ?_ | refine op_itof ?_ | refine op_itoi ?_ | refine op_ftoi ?_ | (refine op_alloc ?_; intro _) | (refine op_box ?_; intro _) | (refine op_buildSlice ?_; intro _) | (refine op_farith ?_; intro _ _)
          | refine op_store0 ?_ | refine op_store1 ?_ | refine op_store2 ?_ | refine op_store3 ?_ | refine op_store4 ?_ | refine op_store5 ?_ | refine tc_cond_t ?_ | refine tc_cond_f ?_
          | refine tc_cond (fun _ => ?_) (fun _ => ?_) | refine tc_block ?_ | refine tc_skip ?_ | refine tc_ret ?_ | refine tc_exit ?_ | refine tc_label ?_ | refine at_seq_ret ?_ | refine at_seq_exit ?_
          | refine at_block_normal ?_ | refine at_block_ret ?_ | refine at_block_exit_self ?_ | refine at_block_exit_ne ?_ | refine at_loop_ret ?_ | refine at_loop_exit ?_ | refine tl_guard_yes ?_ | refine tl_guard_no ?_
          | refine tl_guard_yes' ?_ | refine tl_guard_no' ?_ | refine tl_guard_split (fun _ => ?_) (fun _ => ?_)
      all_goals first
        | exact (no_add ‹fcmp .eql _ _ = false› (by assumption) (by assumption) hx hu (by omega) (by omega)).elim
        | exact (no_sub ‹fcmp .eql _ _ = false› (by assumption) (by assumption) hx hu (by omega) (by omega)).elim
        | exact (no_add ‹fcmp .eql _ _ = false› (by assumption) (by assumption) hy hv (by omega) (by omega)).elim
        | exact (no_sub ‹fcmp .eql _ _ = false› (by assumption) (by assumption) hy hv (by omega) (by omega)).elim
        | exact (no_add ‹fcmp .eql _ _ = false› (by assumption) (by assumption) hz ht (by omega) (by omega)).elim
        | exact (no_sub ‹fcmp .eql _ _ = false› (by assumption) (by assumption) hz ht (by omega) (by omega)).elim
        | skip
      first | exact ret_tmp (hk := ⟨congrArg Value.bool (true_of_no fun h => no_sub h (by assumption) (by assumption) hz ht (by omega) (by omega)), rfl⟩) | exact ret_cell (hr := rfl) (hk := ⟨congrArg Value.bool (true_of_no fun h => no_sub h (by assumption) (by assumption) hz ht (by omega) (by omega)), rfl⟩) | exact ret_agg (hr := rfl) (hk := ⟨congrArg Value.bool (true_of_no fun h => no_sub h (by assumption) (by assumption) hz ht (by omega) (by omega)), rfl⟩)
  · have hw' : (!wholeB 3 [[x, y, z], [u, v, t]]) = true := by simpa using hw
    refine fn_enter 76 Try.func8 fun W => ?_
    repeat' first
      | (first | refine tc_seq ?_ | refine tc_region ?_ | refine at_seq_normal ?_ | refine tl_nil ?_ | refine tl_cons ?_ | refine tl_cons_none ?_ | refine op_move ?_ | refine op_assign ?_ | refine op_fieldAddr ?_ | refine op_load ?_ | refine op_load_agg ?_ | refine op_indexAddr1 ?_ | refine op_indexAddr ?_ | refine op_icmp ?_ | refine op_fcmp ?_ | refine op_iarith ?_ | refine op_unop_not ?_ | refine op_unop_neg_float ?_ | refine op_unop_neg_int ?_ | refine op_len_slice ?_ | refine op_pick_true ?_ | refine op_pick_false ?_ | refine op_pick_true' ?_ | refine op_pick_false' ?_ | refine op_build ?_ | refine op_itof ?_ | refine op_itoi ?_ | refine op_ftoi ?_ | (refine op_alloc ?_; intro _) | (refine op_box ?_; intro _) | (refine op_buildSlice ?_; intro _) | (refine op_farith ?_; intro _ _) | refine op_store0 ?_ | refine op_store1 ?_ | refine op_store2 ?_ | refine op_store3 ?_ | refine op_store4 ?_ | refine op_store5 ?_ | refine tc_cond_t ?_ | refine tc_cond_f ?_ | refine tc_cond (fun _ => ?_) (fun _ => ?_) | refine tc_block ?_ | refine tc_skip ?_ | refine tc_ret ?_ | refine tc_exit ?_ | refine tc_label ?_ | refine at_seq_ret ?_ | refine at_seq_exit ?_ | refine at_block_normal ?_ | refine at_block_ret ?_ | refine at_block_exit_self ?_ | refine at_block_exit_ne ?_ | refine at_loop_ret ?_ | refine at_loop_exit ?_ | refine tl_guard_yes ?_ | refine tl_guard_no ?_ | refine tl_guard_yes' ?_ | refine tl_guard_no' ?_ | refine tl_guard_split (fun _ => ?_) (fun _ => ?_))
      | (refine op_call ((whole3 _ [[x, y, z], [u, v, t]] _ _ _ (by simp) (by simp) (by (first | exact mem0 | exact mem1 | exact mem2 | exact mem3 | exact mem4 | exact mem5 | exact mem6 | exact mem7 | exact mem8 | exact mem9 | assumption | (refine Sub.mem (by assumption) ?_; first | exact mem0 | exact mem1 | exact mem2 | exact mem3 | exact mem4 | exact mem5 | exact mem6 | exact mem7 | exact mem8 | exact mem9 | assumption) | ((repeat (apply List.mem_cons_of_mem)); first | assumption | (refine Sub.mem (by assumption) ?_; assumption))))).mono ?_); rintro _ _ ⟨rfl, rfl⟩)
    first | exact ret_tmp (hk := ⟨rfl, rfl⟩) | exact ret_cell (hr := rfl) (hk := ⟨rfl, rfl⟩) | exact ret_agg (hr := rfl) (hk := ⟨rfl, rfl⟩)
theorem own : ownKnob Try.prog.godebug = none := by kernel_rfl
theorem laid : laidOutB Try.prog = true := by kernel_rfl
set_option maxRecDepth 100000 in
theorem lifted (os : Os) (started : os.Started) (H : Type) (enc : TypeId × Value → H) :
    ReturnsInHanded {} Try.checked os 8 .any (Rows.fnAdd3Spec.pre6 enc Try.prog Try.f8 Rows.fnAdd3Row.domain false) (Rows.fnAdd3Spec.post enc Try.prog Try.f8 false true false false) := by
  refine returnsInHanded_of_change (C := Try.checked) own started (by kernel_rfl) Try.func8
    (ChangeSpec.witness6 (enc := enc) (C := Try.checked) false ⟨#[], #[.agg #[.float .f64 0, .float .f64 0, .float .f64 0], .agg #[.float .f64 0, .float .f64 0, .float .f64 0]], []⟩ 8 (by kernel_rfl) (by kernel_rfl) (by kernel_rfl) (by kernel_rfl)) ?_
  intro W base args ds gs before hval0 hW hcnd _
  have hval : ∀ (j : Nat) t v, Try.f8.params[j]? = some t → args[j]? = some v → Value.okWide Try.prog W .any base t v := hval0
  have hW' := hW
  obtain ⟨p, q, hA0, hV, rfl, hfz, hnd⟩ := hW
  have hA : DataW.TrodAll enc Try.prog W 0 (fun _ => true) true Try.f8.params.toList args.toList ds p := hA0
  rw [Try.params8] at hA hval
  obtain ⟨v0, vs0, d0, ds0, p0, q0, hargs, rfl, rfl, h0, r0⟩ := trodAll_cons hA
  obtain ⟨v1, vs1, d1, ds1, p1, q1, rfl, rfl, rfl, h1, r1⟩ := trodAll_cons r0
  obtain ⟨rfl, rfl, rfl⟩ := trodAll_nil r1
  obtain rfl : args = #[v0, v1] := by cases args; simp_all
  obtain ⟨rfl, rfl⟩ := trodVars_none hV
  obtain ⟨x0, y0, z0, rfl, bx0, by0, bz0⟩ := open_p3 Try.underlying36 (by kernel_rfl) (by kernel_rfl) Try.underlying24 Try.underlying24 Try.underlying24 (hval 0 36 v0 rfl rfl) h0
  obtain ⟨x1, y1, z1, rfl, bx1, by1, bz1⟩ := open_p3 Try.underlying36 (by kernel_rfl) (by kernel_rfl) Try.underlying24 Try.underlying24 Try.underlying24 (hval 1 36 v1 rfl rfl) h1
  clear hA0 hval0
  refine (calls_of_does (law x0 y0 z0 x1 y1 z1 (all W)) (sees_all W)).mono fun e W' ⟨v, H', he, hs, hv, hH⟩ => ?_
  subst he
  subst hv
  subst hH
  exact ⟨_, rfl, post_law laid (of_decide_eq_true (by kernel_rfl)) rfl hW' rfl rfl Try.underlying4 hs.below⟩
theorem over : Rows.fnAdd3Row.holds Try.pinned (OpenSpec.ofChange Rows.fnAdd3Spec) :=
  OpenClaim.holds_of_wide 8 Try.f8 rfl rfl rfl rfl rfl rfl rfl ⟨rfl, rfl, rfl, rfl, rfl⟩ rfl rfl rfl rfl rfl (by kernel_rfl) Try.func8 (by kernel_rfl)
    (of_decide_eq_true (by kernel_rfl)) (by unfold Func.isWrapper; first | (rw [if_pos (by decide +kernel)]; kernel_rfl) | (rw [if_neg (by decide +kernel)]; exact ⟨rfl, rfl⟩))
    (fun os started H enc _ => lifted os started H enc)
/-- The statement. -/
theorem proved : Rows.FnAdd3Said := over
#print axioms proved
end Go.Proofs.Ytmgbaahihaknpaa.fnAdd3
