/-
  Simplification of a line: the code's distances, the code's search. No conditions.
-/
import Derived.Test.YtomhkbijijdghaaTy
import Derived.Test.YtomhkbijijdghaaPl
import Derived.Test.YtomhkbijijdghaaSmp
import Derived.Test.YtomhkbijijdghaaLg26
set_option linter.unusedVariables false
set_option linter.unusedSimpArgs false
namespace Go.Proofs.Ytomhkbijijdghaa.Smpl
open Go.Lg Go.Lg.Smp Go.Proofs.Ytomhkbijijdghaa.Pl

theorem neq_or {a b : Bool} (h : ¬ (a = true ∨ b = true)) : a = false ∧ b = false := by cases a <;> cases b <;> simp_all
set_option maxHeartbeats 8000000 in
theorem dist (k : Nat) (L : List Value) (T : TypeId) (fz : Nat × Nat) (oa ob op la lb lp ca cb cp : Nat) (ax ay bx b2 px py : Nat) (nax nay nbx nby npx npy : Int) (H : Heap) (hm : (k, Obj.cells ⟨L⟩ T fz) ∈ H)
    (h1 : 2 ≤ la) (h2 : 2 ≤ lb) (h3 : 2 ≤ lp) (e1 : L[oa]? = some (.float .f64 ax)) (e2 : L[oa + 1]? = some (.float .f64 ay)) (e3 : L[ob]? = some (.float .f64 bx)) (e4 : L[ob + 1]? = some (.float .f64 b2)) (e5 : L[op]? = some (.float .f64 px)) (e6 : L[op + 1]? = some (.float .f64 py))
    (gax : FI 8192 ax nax) (gay : FI 8192 ay nay) (gbx : FI 8192 bx nbx) (gby : FI 8192 b2 nby) (gpx : FI 8192 px npx) (gpy : FI 8192 py npy) :
    Does Try.prog 135 [.slice (some ⟨k, oa, none⟩) la ca, .slice (some ⟨k, ob, none⟩) lb cb, .slice (some ⟨k, op, none⟩) lp cp] H fun w H' => w = .float .f64 (dsq ax ay bx b2 px py) ∧ H' = H := by
  obtain ⟨f1, f2, f3, f4, f5, f6, f7, f8, f9, f10, ft⟩ := dsq_fb gax gay gbx gby gpx gpy
  have bax := (gax.bd (A := 13) (by decide)).le (B := 60) (by decide)
  have bay := (gay.bd (A := 13) (by decide)).le (B := 60) (by decide)
  have bbx := (gbx.bd (A := 13) (by decide)).le (B := 60) (by decide)
  have bby := (gby.bd (A := 13) (by decide)).le (B := 60) (by decide)
  have bpx := (gpx.bd (A := 13) (by decide)).le (B := 60) (by decide)
  have bpy := (gpy.bd (A := 13) (by decide)).le (B := 60) (by decide)
  have i0a : 0 < la := by omega
  have i1a : 1 < la := by omega
  have i0b : 0 < lb := by omega
  have i1b : 1 < lb := by omega
  have i0p : 0 < lp := by omega
  have i1p : 1 < lp := by omega
  unfold dsq
  generalize hdx : fop .sub bx ax = dx at *
  generalize hdy : fop .sub b2 ay = dy at *
  refine fn_enter 94 Try.func135 fun W => ?_
  by_cases c1 : fcmp .neq dx 0 = true
  ·
    obtain ⟨t, ht, f11, f12, f13, f14, f15, b1, b2'⟩ := ft (.inl c1)
    rw [← ht]
    obtain ⟨g1, g2, g3, g4, g5⟩ := sqd_fb bbx bby bpx bpy
    obtain ⟨g6, g7, g8, g9, g10⟩ := sqd_fb b1 b2' bpx bpy
    obtain ⟨g11, g12, g13, g14, g15⟩ := sqd_fb bax bay bpx bpy
    repeat' first
      | refine op_indexAddr1 (j := 0) ?_
      | refine op_indexAddr1 (j := 1) ?_
      | (refine op_farithF ?_; first | rw [hdx] | rw [hdy] | skip)
      | (first | refine tl_defer ?_ | refine tc_seq ?_ | refine tc_region ?_ | refine at_seq_normal ?_ | refine tl_nil ?_ | refine tl_cons ?_ | refine tl_cons_none ?_ | refine op_move ?_ | refine op_assign ?_ | refine op_fieldAddr ?_ | refine op_load ?_ | refine op_load_agg ?_ | refine op_indexC ?_ | refine op_indexAddr1 ?_ | refine op_indexAddr ?_ | refine op_icmp ?_ | refine op_fcmp ?_ | refine op_iarith ?_ | refine op_bcmp ?_ | refine op_unop_not ?_ | refine op_unop_neg_float ?_ | refine op_unop_neg_int ?_ | refine op_len_slice ?_ | refine op_pick_true ?_ | refine op_pick_false ?_ | refine op_pick_true' ?_ | refine op_pick_false' ?_ | refine op_build ?_ | refine op_extract ?_ | refine op_makeInterface ?_ | refine op_typeAssert ?_ | refine op_ptr_nil ?_ | refine op_nilCheck_ptr ?_ | refine op_nilCheck_meth ?_ | refine op_makeMeth ?_ | refine op_makeFunc ?_ | refine op_itof ?_ | refine op_itoi ?_ | refine op_ftoi ?_ | refine op_iquo ?_ | refine op_irem ?_ | refine op_ibits ?_ | refine op_slice_isnil ?_ | refine op_slice_notnil ?_ | refine op_imax ?_ | refine op_imin ?_ | refine op_shl ?_ | refine op_shr ?_ | (refine op_alloc ?_; intro _) | (refine op_box ?_; intro _) | (refine op_buildSlice ?_; intro _) | (refine op_farith ?_; intro _ _) | refine op_store0 ?_ | refine op_store1 ?_ | refine op_store2 ?_ | refine op_store3 ?_ | refine op_store4 ?_ | refine op_store5 ?_ | refine op_storeK rfl ?_ | refine op_loadK rfl ?_ | refine op_load_aggK rfl ?_ | refine tc_cond_t ?_ | refine tc_cond_f ?_ | refine tc_cond (fun _ => ?_) (fun _ => ?_) | refine tc_block ?_ | refine tc_skip ?_ | refine tc_ret ?_ | refine tc_exit ?_ | refine tc_label ?_ | refine at_seq_ret ?_ | refine at_seq_exit ?_ | refine at_block_normal ?_ | refine at_block_ret ?_ | refine at_block_exit_self ?_ | refine at_block_exit_ne ?_ | refine at_loop_ret ?_ | refine at_loop_exit ?_ | refine at_loop_goto ?_ | refine tl_guard_yes ?_ | refine tl_guard_no ?_ | refine tl_guard_yes' ?_ | refine tl_guard_no' ?_ | refine tl_guard_undef ?_ | refine tl_guard_split (fun _ => ?_) (fun _ => ?_))
      | fail
    apply fun hole0 hole1 hole2 hole3 hole4 hole5 hole6 hole7 hole8 hole9 hole10 hole11 hole12 hole13 hE hD hml hdl hpr prem fin => tc_drawnD 23 [PhiD.is hole0, PhiD.is hole1, PhiD.is hole2, PhiD.is hole3, PhiD.is (.float .f64 (fop .sub px ax)), PhiD.is hole4, PhiD.is (.float .f64 (fop .mul (fop .sub px ax) dx)), PhiD.is hole5, PhiD.is hole6, PhiD.is hole7, PhiD.is hole8, PhiD.is (.float .f64 (fop .sub py ay)), PhiD.is hole9, PhiD.is (.float .f64 (fop .mul (fop .sub py ay) dy)), PhiD.is (.float .f64 (fop .add (fop .mul (fop .sub px ax) dx) (fop .mul (fop .sub py ay) dy))), PhiD.is hole10, PhiD.is hole11, PhiD.is (.float .f64 (fop .mul dx dx)), PhiD.is hole12, PhiD.is hole13, PhiD.is (.float .f64 (fop .mul dy dy)), PhiD.is (.float .f64 (fop .add (fop .mul dx dx) (fop .mul dy dy))), PhiD.is (.float .f64 t)]
      [some 34, some 35, some 36, some 37, some 38, some 39, some 40, some 41, some 42, some 43, some 44, some 45, some 46, some 47, some 48, some 49, some 50, some 51, some 52, some 53, some 54, some 55, some 56, some 11] [[], [0], [1], [], [2, 3], [], [4, 5], [], [7], [8], [], [9, 10], [], [11, 12], [6, 13], [], [], [15, 16], [], [], [18, 19], [17, 20], [14, 21]] mixed trivial prem fin hE hD rfl hml hdl hpr
    rotate_left 15
    · first | kernel_rfl | exact rfl
    · first | kernel_rfl | exact rfl
    · exact Nat.le_of_ble_eq_true rfl
    · first | kernel_rfl | exact rfl
    · first | kernel_rfl | exact rfl
    refine ⟨fun G hG => ?_, fun G hG => ?_, fun G hG => ?_, fun G hG => ?_, fun G hG => ?_, fun G hG => ?_, fun G hG => ?_, fun G hG => ?_, fun G hG => ?_, fun G hG => ?_, fun G hG => ?_, fun G hG => ?_, fun G hG => ?_, fun G hG => ?_, fun G hG => ?_, fun G hG => ?_, fun G hG => ?_, fun G hG => ?_, fun G hG => ?_, fun G hG => ?_, fun G hG => ?_, fun G hG => ?_, fun G hG => ?_, trivial⟩
    · simp only [withD, nthD, Step2, nthDst, putO, postD]
      (refine op_move ?_; exact ⟨[], rfl, rfl, rfl⟩)
    · simp only [withD, nthD, Step2, nthDst, putO, postD]
      (refine op_indexAddr1 (j := 0) ?_; exact ⟨[], rfl, rfl, rfl⟩)
    · simp only [withD, nthD, Step2, nthDst, putO, postD]
      (refine op_load ?_ (hm := hG _ hm) (hv := e5); exact ⟨[], rfl, rfl, rfl⟩)
    · simp only [withD, nthD, Step2, nthDst, putO, postD]
      (refine op_move ?_; exact ⟨[], rfl, rfl, rfl⟩)
    · simp only [withD, nthD, Step2, nthDst, putO, postD]
      (refine op_farithF ?_; exact ⟨[], rfl, rfl, rfl⟩)
    · simp only [withD, nthD, Step2, nthDst, putO, postD]
      (refine op_move ?_; exact ⟨[], rfl, rfl, rfl⟩)
    · simp only [withD, nthD, Step2, nthDst, putO, postD]
      (refine op_farithF ?_; exact ⟨[], rfl, rfl, rfl⟩)
    · simp only [withD, nthD, Step2, nthDst, putO, postD]
      (refine op_move ?_; exact ⟨[], rfl, rfl, rfl⟩)
    · simp only [withD, nthD, Step2, nthDst, putO, postD]
      (refine op_indexAddr1 (j := 1) ?_; exact ⟨[], rfl, rfl, rfl⟩)
    · simp only [withD, nthD, Step2, nthDst, putO, postD]
      (refine op_load ?_ (hm := hG _ hm) (hv := e6); exact ⟨[], rfl, rfl, rfl⟩)
    · simp only [withD, nthD, Step2, nthDst, putO, postD]
      (refine op_move ?_; exact ⟨[], rfl, rfl, rfl⟩)
    · simp only [withD, nthD, Step2, nthDst, putO, postD]
      (refine op_farithF ?_; exact ⟨[], rfl, rfl, rfl⟩)
    · simp only [withD, nthD, Step2, nthDst, putO, postD]
      (refine op_move ?_; exact ⟨[], rfl, rfl, rfl⟩)
    · simp only [withD, nthD, Step2, nthDst, putO, postD]
      (refine op_farithF ?_; exact ⟨[], rfl, rfl, rfl⟩)
    · simp only [withD, nthD, Step2, nthDst, putO, postD]
      (refine op_farithF ?_; exact ⟨[], rfl, rfl, rfl⟩)
    · simp only [withD, nthD, Step2, nthDst, putO, postD]
      (refine op_move ?_; exact ⟨[], rfl, rfl, rfl⟩)
    · simp only [withD, nthD, Step2, nthDst, putO, postD]
      (refine op_move ?_; exact ⟨[], rfl, rfl, rfl⟩)
    · simp only [withD, nthD, Step2, nthDst, putO, postD]
      (refine op_farithF ?_; exact ⟨[], rfl, rfl, rfl⟩)
    · simp only [withD, nthD, Step2, nthDst, putO, postD]
      (refine op_move ?_; exact ⟨[], rfl, rfl, rfl⟩)
    · simp only [withD, nthD, Step2, nthDst, putO, postD]
      (refine op_move ?_; exact ⟨[], rfl, rfl, rfl⟩)
    · simp only [withD, nthD, Step2, nthDst, putO, postD]
      (refine op_farithF ?_; exact ⟨[], rfl, rfl, rfl⟩)
    · simp only [withD, nthD, Step2, nthDst, putO, postD]
      (refine op_farithF ?_; exact ⟨[], rfl, rfl, rfl⟩)
    · simp only [withD, nthD, Step2, nthDst, putO, postD]
      (refine op_farithF ?_; exact ⟨[], rfl, by rw [ht]; rfl, rfl⟩)
    simp only [FinalsD, nthDst, putO, List.drop_succ_cons, List.drop_zero]
    rintro -
    clear ht
    repeat' first
      | refine op_indexAddr1 (j := 0) ?_
      | refine op_indexAddr1 (j := 1) ?_
      | (refine op_farithF ?_; first | rw [hdx] | rw [hdy] | skip)
      | (first | refine tl_defer ?_ | refine tc_seq ?_ | refine tc_region ?_ | refine at_seq_normal ?_ | refine tl_nil ?_ | refine tl_cons ?_ | refine tl_cons_none ?_ | refine op_move ?_ | refine op_assign ?_ | refine op_fieldAddr ?_ | refine op_load ?_ | refine op_load_agg ?_ | refine op_indexC ?_ | refine op_indexAddr1 ?_ | refine op_indexAddr ?_ | refine op_icmp ?_ | refine op_fcmp ?_ | refine op_iarith ?_ | refine op_bcmp ?_ | refine op_unop_not ?_ | refine op_unop_neg_float ?_ | refine op_unop_neg_int ?_ | refine op_len_slice ?_ | refine op_pick_true ?_ | refine op_pick_false ?_ | refine op_pick_true' ?_ | refine op_pick_false' ?_ | refine op_build ?_ | refine op_extract ?_ | refine op_makeInterface ?_ | refine op_typeAssert ?_ | refine op_ptr_nil ?_ | refine op_nilCheck_ptr ?_ | refine op_nilCheck_meth ?_ | refine op_makeMeth ?_ | refine op_makeFunc ?_ | refine op_itof ?_ | refine op_itoi ?_ | refine op_ftoi ?_ | refine op_iquo ?_ | refine op_irem ?_ | refine op_ibits ?_ | refine op_slice_isnil ?_ | refine op_slice_notnil ?_ | refine op_imax ?_ | refine op_imin ?_ | refine op_shl ?_ | refine op_shr ?_ | (refine op_alloc ?_; intro _) | (refine op_box ?_; intro _) | (refine op_buildSlice ?_; intro _) | (refine op_farith ?_; intro _ _) | refine op_store0 ?_ | refine op_store1 ?_ | refine op_store2 ?_ | refine op_store3 ?_ | refine op_store4 ?_ | refine op_store5 ?_ | refine op_storeK rfl ?_ | refine op_loadK rfl ?_ | refine op_load_aggK rfl ?_ | refine tc_cond_t ?_ | refine tc_cond_f ?_ | refine tc_cond (fun _ => ?_) (fun _ => ?_) | refine tc_block ?_ | refine tc_skip ?_ | refine tc_ret ?_ | refine tc_exit ?_ | refine tc_label ?_ | refine at_seq_ret ?_ | refine at_seq_exit ?_ | refine at_block_normal ?_ | refine at_block_ret ?_ | refine at_block_exit_self ?_ | refine at_block_exit_ne ?_ | refine at_loop_ret ?_ | refine at_loop_exit ?_ | refine at_loop_goto ?_ | refine tl_guard_yes ?_ | refine tl_guard_no ?_ | refine tl_guard_yes' ?_ | refine tl_guard_no' ?_ | refine tl_guard_undef ?_ | refine tl_guard_split (fun _ => ?_) (fun _ => ?_))
      | fail
    all_goals exact ret_tmp (hk := ⟨congrArg (Value.float .f64) (by simp only [foot, sqd]; simp [*]), rfl⟩)
  have c1 : fcmp .neq dx 0 = false := by simpa using c1
  by_cases c2 : fcmp .neq dy 0 = true
  ·
    obtain ⟨t, ht, f11, f12, f13, f14, f15, b1, b2'⟩ := ft (.inr c2)
    rw [← ht]
    obtain ⟨g1, g2, g3, g4, g5⟩ := sqd_fb bbx bby bpx bpy
    obtain ⟨g6, g7, g8, g9, g10⟩ := sqd_fb b1 b2' bpx bpy
    obtain ⟨g11, g12, g13, g14, g15⟩ := sqd_fb bax bay bpx bpy
    repeat' first
      | refine op_indexAddr1 (j := 0) ?_
      | refine op_indexAddr1 (j := 1) ?_
      | (refine op_farithF ?_; first | rw [hdx] | rw [hdy] | skip)
      | (first | refine tl_defer ?_ | refine tc_seq ?_ | refine tc_region ?_ | refine at_seq_normal ?_ | refine tl_nil ?_ | refine tl_cons ?_ | refine tl_cons_none ?_ | refine op_move ?_ | refine op_assign ?_ | refine op_fieldAddr ?_ | refine op_load ?_ | refine op_load_agg ?_ | refine op_indexC ?_ | refine op_indexAddr1 ?_ | refine op_indexAddr ?_ | refine op_icmp ?_ | refine op_fcmp ?_ | refine op_iarith ?_ | refine op_bcmp ?_ | refine op_unop_not ?_ | refine op_unop_neg_float ?_ | refine op_unop_neg_int ?_ | refine op_len_slice ?_ | refine op_pick_true ?_ | refine op_pick_false ?_ | refine op_pick_true' ?_ | refine op_pick_false' ?_ | refine op_build ?_ | refine op_extract ?_ | refine op_makeInterface ?_ | refine op_typeAssert ?_ | refine op_ptr_nil ?_ | refine op_nilCheck_ptr ?_ | refine op_nilCheck_meth ?_ | refine op_makeMeth ?_ | refine op_makeFunc ?_ | refine op_itof ?_ | refine op_itoi ?_ | refine op_ftoi ?_ | refine op_iquo ?_ | refine op_irem ?_ | refine op_ibits ?_ | refine op_slice_isnil ?_ | refine op_slice_notnil ?_ | refine op_imax ?_ | refine op_imin ?_ | refine op_shl ?_ | refine op_shr ?_ | (refine op_alloc ?_; intro _) | (refine op_box ?_; intro _) | (refine op_buildSlice ?_; intro _) | (refine op_farith ?_; intro _ _) | refine op_store0 ?_ | refine op_store1 ?_ | refine op_store2 ?_ | refine op_store3 ?_ | refine op_store4 ?_ | refine op_store5 ?_ | refine op_storeK rfl ?_ | refine op_loadK rfl ?_ | refine op_load_aggK rfl ?_ | refine tc_cond_t ?_ | refine tc_cond_f ?_ | refine tc_cond (fun _ => ?_) (fun _ => ?_) | refine tc_block ?_ | refine tc_skip ?_ | refine tc_ret ?_ | refine tc_exit ?_ | refine tc_label ?_ | refine at_seq_ret ?_ | refine at_seq_exit ?_ | refine at_block_normal ?_ | refine at_block_ret ?_ | refine at_block_exit_self ?_ | refine at_block_exit_ne ?_ | refine at_loop_ret ?_ | refine at_loop_exit ?_ | refine at_loop_goto ?_ | refine tl_guard_yes ?_ | refine tl_guard_no ?_ | refine tl_guard_yes' ?_ | refine tl_guard_no' ?_ | refine tl_guard_undef ?_ | refine tl_guard_split (fun _ => ?_) (fun _ => ?_))
      | fail
    apply fun hole0 hole1 hole2 hole3 hole4 hole5 hole6 hole7 hole8 hole9 hole10 hole11 hole12 hole13 hE hD hml hdl hpr prem fin => tc_drawnD 23 [PhiD.is hole0, PhiD.is hole1, PhiD.is hole2, PhiD.is hole3, PhiD.is (.float .f64 (fop .sub px ax)), PhiD.is hole4, PhiD.is (.float .f64 (fop .mul (fop .sub px ax) dx)), PhiD.is hole5, PhiD.is hole6, PhiD.is hole7, PhiD.is hole8, PhiD.is (.float .f64 (fop .sub py ay)), PhiD.is hole9, PhiD.is (.float .f64 (fop .mul (fop .sub py ay) dy)), PhiD.is (.float .f64 (fop .add (fop .mul (fop .sub px ax) dx) (fop .mul (fop .sub py ay) dy))), PhiD.is hole10, PhiD.is hole11, PhiD.is (.float .f64 (fop .mul dx dx)), PhiD.is hole12, PhiD.is hole13, PhiD.is (.float .f64 (fop .mul dy dy)), PhiD.is (.float .f64 (fop .add (fop .mul dx dx) (fop .mul dy dy))), PhiD.is (.float .f64 t)]
      [some 34, some 35, some 36, some 37, some 38, some 39, some 40, some 41, some 42, some 43, some 44, some 45, some 46, some 47, some 48, some 49, some 50, some 51, some 52, some 53, some 54, some 55, some 56, some 11] [[], [0], [1], [], [2, 3], [], [4, 5], [], [7], [8], [], [9, 10], [], [11, 12], [6, 13], [], [], [15, 16], [], [], [18, 19], [17, 20], [14, 21]] mixed trivial prem fin hE hD rfl hml hdl hpr
    rotate_left 15
    · first | kernel_rfl | exact rfl
    · first | kernel_rfl | exact rfl
    · exact Nat.le_of_ble_eq_true rfl
    · first | kernel_rfl | exact rfl
    · first | kernel_rfl | exact rfl
    refine ⟨fun G hG => ?_, fun G hG => ?_, fun G hG => ?_, fun G hG => ?_, fun G hG => ?_, fun G hG => ?_, fun G hG => ?_, fun G hG => ?_, fun G hG => ?_, fun G hG => ?_, fun G hG => ?_, fun G hG => ?_, fun G hG => ?_, fun G hG => ?_, fun G hG => ?_, fun G hG => ?_, fun G hG => ?_, fun G hG => ?_, fun G hG => ?_, fun G hG => ?_, fun G hG => ?_, fun G hG => ?_, fun G hG => ?_, trivial⟩
    · simp only [withD, nthD, Step2, nthDst, putO, postD]
      (refine op_move ?_; exact ⟨[], rfl, rfl, rfl⟩)
    · simp only [withD, nthD, Step2, nthDst, putO, postD]
      (refine op_indexAddr1 (j := 0) ?_; exact ⟨[], rfl, rfl, rfl⟩)
    · simp only [withD, nthD, Step2, nthDst, putO, postD]
      (refine op_load ?_ (hm := hG _ hm) (hv := e5); exact ⟨[], rfl, rfl, rfl⟩)
    · simp only [withD, nthD, Step2, nthDst, putO, postD]
      (refine op_move ?_; exact ⟨[], rfl, rfl, rfl⟩)
    · simp only [withD, nthD, Step2, nthDst, putO, postD]
      (refine op_farithF ?_; exact ⟨[], rfl, rfl, rfl⟩)
    · simp only [withD, nthD, Step2, nthDst, putO, postD]
      (refine op_move ?_; exact ⟨[], rfl, rfl, rfl⟩)
    · simp only [withD, nthD, Step2, nthDst, putO, postD]
      (refine op_farithF ?_; exact ⟨[], rfl, rfl, rfl⟩)
    · simp only [withD, nthD, Step2, nthDst, putO, postD]
      (refine op_move ?_; exact ⟨[], rfl, rfl, rfl⟩)
    · simp only [withD, nthD, Step2, nthDst, putO, postD]
      (refine op_indexAddr1 (j := 1) ?_; exact ⟨[], rfl, rfl, rfl⟩)
    · simp only [withD, nthD, Step2, nthDst, putO, postD]
      (refine op_load ?_ (hm := hG _ hm) (hv := e6); exact ⟨[], rfl, rfl, rfl⟩)
    · simp only [withD, nthD, Step2, nthDst, putO, postD]
      (refine op_move ?_; exact ⟨[], rfl, rfl, rfl⟩)
    · simp only [withD, nthD, Step2, nthDst, putO, postD]
      (refine op_farithF ?_; exact ⟨[], rfl, rfl, rfl⟩)
    · simp only [withD, nthD, Step2, nthDst, putO, postD]
      (refine op_move ?_; exact ⟨[], rfl, rfl, rfl⟩)
    · simp only [withD, nthD, Step2, nthDst, putO, postD]
      (refine op_farithF ?_; exact ⟨[], rfl, rfl, rfl⟩)
    · simp only [withD, nthD, Step2, nthDst, putO, postD]
      (refine op_farithF ?_; exact ⟨[], rfl, rfl, rfl⟩)
    · simp only [withD, nthD, Step2, nthDst, putO, postD]
      (refine op_move ?_; exact ⟨[], rfl, rfl, rfl⟩)
    · simp only [withD, nthD, Step2, nthDst, putO, postD]
      (refine op_move ?_; exact ⟨[], rfl, rfl, rfl⟩)
    · simp only [withD, nthD, Step2, nthDst, putO, postD]
      (refine op_farithF ?_; exact ⟨[], rfl, rfl, rfl⟩)
    · simp only [withD, nthD, Step2, nthDst, putO, postD]
      (refine op_move ?_; exact ⟨[], rfl, rfl, rfl⟩)
    · simp only [withD, nthD, Step2, nthDst, putO, postD]
      (refine op_move ?_; exact ⟨[], rfl, rfl, rfl⟩)
    · simp only [withD, nthD, Step2, nthDst, putO, postD]
      (refine op_farithF ?_; exact ⟨[], rfl, rfl, rfl⟩)
    · simp only [withD, nthD, Step2, nthDst, putO, postD]
      (refine op_farithF ?_; exact ⟨[], rfl, rfl, rfl⟩)
    · simp only [withD, nthD, Step2, nthDst, putO, postD]
      (refine op_farithF ?_; exact ⟨[], rfl, by rw [ht]; rfl, rfl⟩)
    simp only [FinalsD, nthDst, putO, List.drop_succ_cons, List.drop_zero]
    rintro -
    clear ht
    repeat' first
      | refine op_indexAddr1 (j := 0) ?_
      | refine op_indexAddr1 (j := 1) ?_
      | (refine op_farithF ?_; first | rw [hdx] | rw [hdy] | skip)
      | (first | refine tl_defer ?_ | refine tc_seq ?_ | refine tc_region ?_ | refine at_seq_normal ?_ | refine tl_nil ?_ | refine tl_cons ?_ | refine tl_cons_none ?_ | refine op_move ?_ | refine op_assign ?_ | refine op_fieldAddr ?_ | refine op_load ?_ | refine op_load_agg ?_ | refine op_indexC ?_ | refine op_indexAddr1 ?_ | refine op_indexAddr ?_ | refine op_icmp ?_ | refine op_fcmp ?_ | refine op_iarith ?_ | refine op_bcmp ?_ | refine op_unop_not ?_ | refine op_unop_neg_float ?_ | refine op_unop_neg_int ?_ | refine op_len_slice ?_ | refine op_pick_true ?_ | refine op_pick_false ?_ | refine op_pick_true' ?_ | refine op_pick_false' ?_ | refine op_build ?_ | refine op_extract ?_ | refine op_makeInterface ?_ | refine op_typeAssert ?_ | refine op_ptr_nil ?_ | refine op_nilCheck_ptr ?_ | refine op_nilCheck_meth ?_ | refine op_makeMeth ?_ | refine op_makeFunc ?_ | refine op_itof ?_ | refine op_itoi ?_ | refine op_ftoi ?_ | refine op_iquo ?_ | refine op_irem ?_ | refine op_ibits ?_ | refine op_slice_isnil ?_ | refine op_slice_notnil ?_ | refine op_imax ?_ | refine op_imin ?_ | refine op_shl ?_ | refine op_shr ?_ | (refine op_alloc ?_; intro _) | (refine op_box ?_; intro _) | (refine op_buildSlice ?_; intro _) | (refine op_farith ?_; intro _ _) | refine op_store0 ?_ | refine op_store1 ?_ | refine op_store2 ?_ | refine op_store3 ?_ | refine op_store4 ?_ | refine op_store5 ?_ | refine op_storeK rfl ?_ | refine op_loadK rfl ?_ | refine op_load_aggK rfl ?_ | refine tc_cond_t ?_ | refine tc_cond_f ?_ | refine tc_cond (fun _ => ?_) (fun _ => ?_) | refine tc_block ?_ | refine tc_skip ?_ | refine tc_ret ?_ | refine tc_exit ?_ | refine tc_label ?_ | refine at_seq_ret ?_ | refine at_seq_exit ?_ | refine at_block_normal ?_ | refine at_block_ret ?_ | refine at_block_exit_self ?_ | refine at_block_exit_ne ?_ | refine at_loop_ret ?_ | refine at_loop_exit ?_ | refine at_loop_goto ?_ | refine tl_guard_yes ?_ | refine tl_guard_no ?_ | refine tl_guard_yes' ?_ | refine tl_guard_no' ?_ | refine tl_guard_undef ?_ | refine tl_guard_split (fun _ => ?_) (fun _ => ?_))
      | fail
    all_goals exact ret_tmp (hk := ⟨congrArg (Value.float .f64) (by simp only [foot, sqd]; simp [*]), rfl⟩)
  have c2 : fcmp .neq dy 0 = false := by simpa using c2
  obtain ⟨g11, g12, g13, g14, g15⟩ := sqd_fb bax bay bpx bpy
  repeat' first
    | refine op_indexAddr1 (j := 0) ?_
    | refine op_indexAddr1 (j := 1) ?_
    | (refine op_farithF ?_; first | rw [hdx] | rw [hdy] | skip)
    | (first | refine tl_defer ?_ | refine tc_seq ?_ | refine tc_region ?_ | refine at_seq_normal ?_ | refine tl_nil ?_ | refine tl_cons ?_ | refine tl_cons_none ?_ | refine op_move ?_ | refine op_assign ?_ | refine op_fieldAddr ?_ | refine op_load ?_ | refine op_load_agg ?_ | refine op_indexC ?_ | refine op_indexAddr1 ?_ | refine op_indexAddr ?_ | refine op_icmp ?_ | refine op_fcmp ?_ | refine op_iarith ?_ | refine op_bcmp ?_ | refine op_unop_not ?_ | refine op_unop_neg_float ?_ | refine op_unop_neg_int ?_ | refine op_len_slice ?_ | refine op_pick_true ?_ | refine op_pick_false ?_ | refine op_pick_true' ?_ | refine op_pick_false' ?_ | refine op_build ?_ | refine op_extract ?_ | refine op_makeInterface ?_ | refine op_typeAssert ?_ | refine op_ptr_nil ?_ | refine op_nilCheck_ptr ?_ | refine op_nilCheck_meth ?_ | refine op_makeMeth ?_ | refine op_makeFunc ?_ | refine op_itof ?_ | refine op_itoi ?_ | refine op_ftoi ?_ | refine op_iquo ?_ | refine op_irem ?_ | refine op_ibits ?_ | refine op_slice_isnil ?_ | refine op_slice_notnil ?_ | refine op_imax ?_ | refine op_imin ?_ | refine op_shl ?_ | refine op_shr ?_ | (refine op_alloc ?_; intro _) | (refine op_box ?_; intro _) | (refine op_buildSlice ?_; intro _) | (refine op_farith ?_; intro _ _) | refine op_store0 ?_ | refine op_store1 ?_ | refine op_store2 ?_ | refine op_store3 ?_ | refine op_store4 ?_ | refine op_store5 ?_ | refine op_storeK rfl ?_ | refine op_loadK rfl ?_ | refine op_load_aggK rfl ?_ | refine tc_cond_t ?_ | refine tc_cond_f ?_ | refine tc_cond (fun _ => ?_) (fun _ => ?_) | refine tc_block ?_ | refine tc_skip ?_ | refine tc_ret ?_ | refine tc_exit ?_ | refine tc_label ?_ | refine at_seq_ret ?_ | refine at_seq_exit ?_ | refine at_block_normal ?_ | refine at_block_ret ?_ | refine at_block_exit_self ?_ | refine at_block_exit_ne ?_ | refine at_loop_ret ?_ | refine at_loop_exit ?_ | refine at_loop_goto ?_ | refine tl_guard_yes ?_ | refine tl_guard_no ?_ | refine tl_guard_yes' ?_ | refine tl_guard_no' ?_ | refine tl_guard_undef ?_ | refine tl_guard_split (fun _ => ?_) (fun _ => ?_))
    | fail
  exact ret_tmp (hk := ⟨congrArg (Value.float .f64) (by simp only [foot, sqd]; simp [*]), rfl⟩)
end Go.Proofs.Ytomhkbijijdghaa.Smpl
