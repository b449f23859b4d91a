/-
  What lies on a line of segments, and how far a place is from it, of whole numbers. No conditions beyond the bounds.
-/
import Derived.Test.YthafjfgmbmpfoaaOri5
import Derived.Test.YthafjfgmbmpfoaaPldg
import Derived.Test.YthafjfgmbmpfoaaLg20
import Derived.Test.YthafjfgmbmpfoaaLg23
import Derived.Test.YthafjfgmbmpfoaaLg25
set_option linter.unusedVariables false
set_option linter.unusedSimpArgs false
namespace Go.Proofs.Ythafjfgmbmpfoaa.Ori5
open Go.Lg Ieee

theorem mathMin {x y : Nat} {a b : Rat} (ha : Fv x a) (hb : Fv y b) (H : Heap) : Does Try.prog 75 [.float .f64 x, .float .f64 y] H fun v H' => (∃ r, v = .float .f64 r ∧ Fv r (rmin a b)) ∧ H' = H := by
  refine fn_enter 11 Try.func75 fun W => ?_
  repeat' first
    | (first | refine tc_seq ?_ | refine tc_region ?_ | refine at_seq_normal ?_ | refine tl_nil ?_ | refine tl_cons ?_ | refine op_move ?_ | refine op_assign ?_ | refine tc_cond_t ?_ | refine tc_cond_f ?_ | refine tc_cond (fun _ => ?_) (fun _ => ?_) | refine tc_skip ?_ | refine tc_ret ?_ | refine at_seq_ret ?_ | fail)
    | (refine op_call ((does_archMin ha hb Try.func79 rfl rfl (by kernel_rfl) (by kernel_rfl)).mono ?_); rintro _ _ ⟨⟨r, rfl, hr⟩, rfl⟩)
  first | exact ret_tmp (hk := ⟨⟨r, rfl, hr⟩, rfl⟩) | exact ret_cell (hr := rfl) (hk := ⟨⟨r, rfl, hr⟩, rfl⟩) | exact ret_agg (hr := rfl) (hk := ⟨⟨r, rfl, hr⟩, rfl⟩)
theorem mathMax {x y : Nat} {a b : Rat} (ha : Fv x a) (hb : Fv y b) (H : Heap) : Does Try.prog 76 [.float .f64 x, .float .f64 y] H fun v H' => (∃ r, v = .float .f64 r ∧ Fv r (rmax a b)) ∧ H' = H := by
  refine fn_enter 11 Try.func76 fun W => ?_
  repeat' first
    | (first | refine tc_seq ?_ | refine tc_region ?_ | refine at_seq_normal ?_ | refine tl_nil ?_ | refine tl_cons ?_ | refine op_move ?_ | refine op_assign ?_ | refine tc_cond_t ?_ | refine tc_cond_f ?_ | refine tc_cond (fun _ => ?_) (fun _ => ?_) | refine tc_skip ?_ | refine tc_ret ?_ | refine at_seq_ret ?_ | fail)
    | (refine op_call ((does_archMax ha hb Try.func81 rfl rfl (by kernel_rfl) (by kernel_rfl)).mono ?_); rintro _ _ ⟨⟨r, rfl, hr⟩, rfl⟩)
  first | exact ret_tmp (hk := ⟨⟨r, rfl, hr⟩, rfl⟩) | exact ret_cell (hr := rfl) (hk := ⟨⟨r, rfl, hr⟩, rfl⟩) | exact ret_agg (hr := rfl) (hk := ⟨⟨r, rfl, hr⟩, rfl⟩)
theorem rmin_int (a b : Int) : rmin (a : Rat) (b : Rat) = ((min a b : Int) : Rat) := by
  have e : ((a : Rat) < (b : Rat)) ↔ a < b := by exact_mod_cast Iff.rfl
  unfold rmin; simp only [e]
  by_cases h : a < b
  · rw [if_pos h, Int.min_eq_left (by omega)]
  · rw [if_neg h, Int.min_eq_right (by omega)]
theorem rmax_int (a b : Int) : rmax (a : Rat) (b : Rat) = ((max a b : Int) : Rat) := by
  have e : ((a : Rat) < (b : Rat)) ↔ a < b := by exact_mod_cast Iff.rfl
  unfold rmax; simp only [e]
  by_cases h : a < b
  · rw [if_pos h, Int.max_eq_right (by omega)]
  · rw [if_neg h, Int.max_eq_left (by omega)]
theorem leq_int {x y : Nat} {a b : Int} (ha : Fv x (a : Rat)) (hb : Fv y (b : Rat)) : fcmp .leq x y = decide (a ≤ b) := by
  rw [fcmp_leq ha hb]; exact decide_eq_decide.2 (by exact_mod_cast Iff.rfl)
theorem geq_int {x y : Nat} {a b : Int} (ha : Fv x (a : Rat)) (hb : Fv y (b : Rat)) : fcmp .geq x y = decide (b ≤ a) := by
  rw [fcmp_geq ha hb]; exact decide_eq_decide.2 (by exact_mod_cast Iff.rfl)
/-- In the box of a segment. -/
def inBox (aX aY bX bY pX pY : Int) : Bool := decide (min aX bX ≤ pX) && decide (pX ≤ max aX bX) && decide (min aY bY ≤ pY) && decide (pY ≤ max aY bY)
set_option maxHeartbeats 8000000 in
theorem within (k1 o1 c1 k2 o2 c2 k3 o3 c3 : Nat) (l1 l2 l3 : List Value) (T1 T2 T3 : TypeId) (z1 z2 z3 : Nat × Nat) (px py ax ay bx by' : Nat) (pX pY aX aY bX bY : Int) (H : Heap)
    (m1 : (k1, Obj.cells ⟨l1⟩ T1 z1) ∈ H) (m2 : (k2, Obj.cells ⟨l2⟩ T2 z2) ∈ H) (m3 : (k3, Obj.cells ⟨l3⟩ T3 z3) ∈ H)
    (g1 : l1[o1 + 0]? = some (.float .f64 px)) (g2 : l1[o1 + 1]? = some (.float .f64 py)) (g3 : l2[o2 + 0]? = some (.float .f64 ax)) (g4 : l2[o2 + 1]? = some (.float .f64 ay)) (g5 : l3[o3 + 0]? = some (.float .f64 bx)) (g6 : l3[o3 + 1]? = some (.float .f64 by'))
    (fpx : FI 33554432 px pX) (fpy : FI 33554432 py pY) (fax : FI 33554432 ax aX) (fay : FI 33554432 ay aY) (fbx : FI 33554432 bx bX) (fby : FI 33554432 by' bY) :
    Does Try.prog 72 [.slice (some ⟨k1, o1, none⟩) 2 c1, .slice (some ⟨k2, o2, none⟩) 2 c2, .slice (some ⟨k3, o3, none⟩) 2 c3] H fun w H' => w = .bool (inBox aX aY bX bY pX pY) ∧ H' = H := by
  refine fn_enter 65 Try.func72 fun W => ?_
  repeat' first
    | refine tc_seq ?_ | refine tc_region ?_ | refine at_seq_normal ?_ | refine tl_nil ?_ | refine tl_cons ?_ | refine op_move ?_ | refine op_assign ?_ | refine op_load ?_ | refine op_load_agg ?_ | refine op_indexC ?_
    | refine op_indexAddr1 ?_ | refine op_indexAddr ?_ | refine op_fcmp ?_ | refine op_pick_true ?_ | refine op_pick_false ?_ | refine op_pick_true' ?_ | refine op_pick_false' ?_ | refine op_loadK rfl ?_ | refine op_load_aggK rfl ?_ | refine tc_ret ?_
    | refine at_seq_ret ?_ | refine tl_guard_yes ?_ | refine tl_guard_no ?_ | refine tl_guard_yes' ?_ | refine tl_guard_no' ?_ | refine tl_guard_undef ?_ | refine tl_guard_split (fun _ => ?_) (fun _ => ?_)
  apply fun hole0 hole1 hole2 hole3 hole4 hole5 hE hD hml hdl hpr prem fin => tc_drawnD 7 [PhiD.is hole0, PhiD.is hole1, PhiD.is hole2, PhiD.is hole3, PhiD.is hole4, PhiD.is hole5, PhiD.gen (some' (fun w ex => (∃ r, w = .float .f64 r ∧ Fv r ((min aX bX : Int) : Rat)) ∧ ex = []))]
    [some 11, some 12, some 13, some 14, some 15, some 16, some 17, some 7] [[], [0], [1], [], [3], [4], [2, 5]] mixed ⟨(some_mono _), trivial⟩ prem fin hE hD rfl hml hdl hpr
  rotate_left 7
  · first | kernel_rfl | exact rfl
  · first | kernel_rfl | exact rfl
  · exact Nat.le_of_ble_eq_true rfl
  · first | kernel_rfl | exact rfl
  · first | kernel_rfl | exact rfl
  refine ⟨fun G hG => ?_, fun G hG => ?_, fun G hG => ?_, fun G hG => ?_, fun G hG => ?_, fun G hG => ?_, fun G hG => ?_, trivial⟩
  · simp only [withD, nthD, Step2, nthDst, putO, postD]
    (refine op_move ?_; exact ⟨[], rfl, rfl, rfl⟩)
  · simp only [withD, nthD, Step2, nthDst, putO, postD]
    ((first | refine op_indexC ?_ | refine op_indexAddr1 ?_ | refine op_indexAddr ?_); exact ⟨[], rfl, rfl, rfl⟩)
  · simp only [withD, nthD, Step2, nthDst, putO, postD]
    ((first | refine op_load ?_ | refine op_load_agg ?_ | refine op_load ?_ (hm := Sub.mem (by assumption) (by (repeat (apply List.mem_cons_of_mem)); assumption)) | refine op_load_agg ?_ (hm := Sub.mem (by assumption) (by (repeat (apply List.mem_cons_of_mem)); assumption)) | refine op_loadH hG rfl ?_ | refine op_load_aggH hG rfl ?_); exact ⟨[], rfl, rfl, rfl⟩)
  · simp only [withD, nthD, Step2, nthDst, putO, postD]
    (refine op_move ?_; exact ⟨[], rfl, rfl, rfl⟩)
  · simp only [withD, nthD, Step2, nthDst, putO, postD]
    ((first | refine op_indexC ?_ | refine op_indexAddr1 ?_ | refine op_indexAddr ?_); exact ⟨[], rfl, rfl, rfl⟩)
  · simp only [withD, nthD, Step2, nthDst, putO, postD]
    ((first | refine op_load ?_ | refine op_load_agg ?_ | refine op_load ?_ (hm := Sub.mem (by assumption) (by (repeat (apply List.mem_cons_of_mem)); assumption)) | refine op_load_agg ?_ (hm := Sub.mem (by assumption) (by (repeat (apply List.mem_cons_of_mem)); assumption)) | refine op_loadH hG rfl ?_ | refine op_load_aggH hG rfl ?_); exact ⟨[], rfl, rfl, rfl⟩)
  · simp only [withD, nthD, Step2, nthDst, putO, postD]
    (refine op_call ((mathMin fax.fv fbx.fv _).mono ?_); rw [rmin_int]; rintro _ _ ⟨h, rfl⟩; exact ⟨[], rfl, h, rfl⟩)
  simp only [FinalsD, nthDst, putO, List.drop_succ_cons, List.drop_zero]
  rintro _ _ ⟨⟨⟨r1, rfl, h1⟩, rfl⟩, -⟩
  try simp only [List.nil_append]
  repeat' first
    | refine tc_seq ?_ | refine tc_region ?_ | refine at_seq_normal ?_ | refine tl_nil ?_ | refine tl_cons ?_ | refine op_move ?_ | refine op_assign ?_ | refine op_load ?_ | refine op_load_agg ?_ | refine op_indexC ?_
    | refine op_indexAddr1 ?_ | refine op_indexAddr ?_ | refine op_fcmp ?_ | refine op_pick_true ?_ | refine op_pick_false ?_ | refine op_pick_true' ?_ | refine op_pick_false' ?_ | refine op_loadK rfl ?_ | refine op_load_aggK rfl ?_ | refine tc_ret ?_
    | refine at_seq_ret ?_ | refine tl_guard_yes ?_ | refine tl_guard_no ?_ | refine tl_guard_yes' ?_ | refine tl_guard_no' ?_ | refine tl_guard_undef ?_ | refine tl_guard_split (fun _ => ?_) (fun _ => ?_)
  apply fun hole0 hole1 hole2 hole3 hole4 hole5 hE hD hml hdl hpr prem fin => tc_drawnD 7 [PhiD.is hole0, PhiD.is hole1, PhiD.is hole2, PhiD.is hole3, PhiD.is hole4, PhiD.is hole5, PhiD.gen (some' (fun w ex => (∃ r, w = .float .f64 r ∧ Fv r ((max aX bX : Int) : Rat)) ∧ ex = []))]
    [some 18, some 19, some 20, some 21, some 22, some 23, some 24, some 8] [[], [0], [1], [], [3], [4], [2, 5]] mixed ⟨(some_mono _), trivial⟩ prem fin hE hD rfl hml hdl hpr
  rotate_left 7
  · first | kernel_rfl | exact rfl
  · first | kernel_rfl | exact rfl
  · exact Nat.le_of_ble_eq_true rfl
  · first | kernel_rfl | exact rfl
  · first | kernel_rfl | exact rfl
  refine ⟨fun G hG => ?_, fun G hG => ?_, fun G hG => ?_, fun G hG => ?_, fun G hG => ?_, fun G hG => ?_, fun G hG => ?_, trivial⟩
  · simp only [withD, nthD, Step2, nthDst, putO, postD]
    (refine op_move ?_; exact ⟨[], rfl, rfl, rfl⟩)
  · simp only [withD, nthD, Step2, nthDst, putO, postD]
    ((first | refine op_indexC ?_ | refine op_indexAddr1 ?_ | refine op_indexAddr ?_); exact ⟨[], rfl, rfl, rfl⟩)
  · simp only [withD, nthD, Step2, nthDst, putO, postD]
    ((first | refine op_load ?_ | refine op_load_agg ?_ | refine op_load ?_ (hm := Sub.mem (by assumption) (by (repeat (apply List.mem_cons_of_mem)); assumption)) | refine op_load_agg ?_ (hm := Sub.mem (by assumption) (by (repeat (apply List.mem_cons_of_mem)); assumption)) | refine op_loadH hG rfl ?_ | refine op_load_aggH hG rfl ?_); exact ⟨[], rfl, rfl, rfl⟩)
  · simp only [withD, nthD, Step2, nthDst, putO, postD]
    (refine op_move ?_; exact ⟨[], rfl, rfl, rfl⟩)
  · simp only [withD, nthD, Step2, nthDst, putO, postD]
    ((first | refine op_indexC ?_ | refine op_indexAddr1 ?_ | refine op_indexAddr ?_); exact ⟨[], rfl, rfl, rfl⟩)
  · simp only [withD, nthD, Step2, nthDst, putO, postD]
    ((first | refine op_load ?_ | refine op_load_agg ?_ | refine op_load ?_ (hm := Sub.mem (by assumption) (by (repeat (apply List.mem_cons_of_mem)); assumption)) | refine op_load_agg ?_ (hm := Sub.mem (by assumption) (by (repeat (apply List.mem_cons_of_mem)); assumption)) | refine op_loadH hG rfl ?_ | refine op_load_aggH hG rfl ?_); exact ⟨[], rfl, rfl, rfl⟩)
  · simp only [withD, nthD, Step2, nthDst, putO, postD]
    (refine op_call ((mathMax fax.fv fbx.fv _).mono ?_); rw [rmax_int]; rintro _ _ ⟨h, rfl⟩; exact ⟨[], rfl, h, rfl⟩)
  simp only [FinalsD, nthDst, putO, List.drop_succ_cons, List.drop_zero]
  rintro _ _ ⟨⟨⟨r2, rfl, h2⟩, rfl⟩, -⟩
  try simp only [List.nil_append]
  repeat' first
    | refine tc_seq ?_ | refine tc_region ?_ | refine at_seq_normal ?_ | refine tl_nil ?_ | refine tl_cons ?_ | refine op_move ?_ | refine op_assign ?_ | refine op_load ?_ | refine op_load_agg ?_ | refine op_indexC ?_
    | refine op_indexAddr1 ?_ | refine op_indexAddr ?_ | refine op_fcmp ?_ | refine op_pick_true ?_ | refine op_pick_false ?_ | refine op_pick_true' ?_ | refine op_pick_false' ?_ | refine op_loadK rfl ?_ | refine op_load_aggK rfl ?_ | refine tc_ret ?_
    | refine at_seq_ret ?_ | refine tl_guard_yes ?_ | refine tl_guard_no ?_ | refine tl_guard_yes' ?_ | refine tl_guard_no' ?_ | refine tl_guard_undef ?_ | refine tl_guard_split (fun _ => ?_) (fun _ => ?_)
  apply fun hole0 hole1 hole2 hole3 hole4 hole5 hE hD hml hdl hpr prem fin => tc_drawnD 7 [PhiD.is hole0, PhiD.is hole1, PhiD.is hole2, PhiD.is hole3, PhiD.is hole4, PhiD.is hole5, PhiD.gen (some' (fun w ex => (∃ r, w = .float .f64 r ∧ Fv r ((min aY bY : Int) : Rat)) ∧ ex = []))]
    [some 25, some 26, some 27, some 28, some 29, some 30, some 31, some 9] [[], [0], [1], [], [3], [4], [2, 5]] mixed ⟨(some_mono _), trivial⟩ prem fin hE hD rfl hml hdl hpr
  rotate_left 7
  · first | kernel_rfl | exact rfl
  · first | kernel_rfl | exact rfl
  · exact Nat.le_of_ble_eq_true rfl
  · first | kernel_rfl | exact rfl
  · first | kernel_rfl | exact rfl
  refine ⟨fun G hG => ?_, fun G hG => ?_, fun G hG => ?_, fun G hG => ?_, fun G hG => ?_, fun G hG => ?_, fun G hG => ?_, trivial⟩
  · simp only [withD, nthD, Step2, nthDst, putO, postD]
    (refine op_move ?_; exact ⟨[], rfl, rfl, rfl⟩)
  · simp only [withD, nthD, Step2, nthDst, putO, postD]
    ((first | refine op_indexC ?_ | refine op_indexAddr1 ?_ | refine op_indexAddr ?_); exact ⟨[], rfl, rfl, rfl⟩)
  · simp only [withD, nthD, Step2, nthDst, putO, postD]
    ((first | refine op_load ?_ | refine op_load_agg ?_ | refine op_load ?_ (hm := Sub.mem (by assumption) (by (repeat (apply List.mem_cons_of_mem)); assumption)) | refine op_load_agg ?_ (hm := Sub.mem (by assumption) (by (repeat (apply List.mem_cons_of_mem)); assumption)) | refine op_loadH hG rfl ?_ | refine op_load_aggH hG rfl ?_); exact ⟨[], rfl, rfl, rfl⟩)
  · simp only [withD, nthD, Step2, nthDst, putO, postD]
    (refine op_move ?_; exact ⟨[], rfl, rfl, rfl⟩)
  · simp only [withD, nthD, Step2, nthDst, putO, postD]
    ((first | refine op_indexC ?_ | refine op_indexAddr1 ?_ | refine op_indexAddr ?_); exact ⟨[], rfl, rfl, rfl⟩)
  · simp only [withD, nthD, Step2, nthDst, putO, postD]
    ((first | refine op_load ?_ | refine op_load_agg ?_ | refine op_load ?_ (hm := Sub.mem (by assumption) (by (repeat (apply List.mem_cons_of_mem)); assumption)) | refine op_load_agg ?_ (hm := Sub.mem (by assumption) (by (repeat (apply List.mem_cons_of_mem)); assumption)) | refine op_loadH hG rfl ?_ | refine op_load_aggH hG rfl ?_); exact ⟨[], rfl, rfl, rfl⟩)
  · simp only [withD, nthD, Step2, nthDst, putO, postD]
    (refine op_call ((mathMin fay.fv fby.fv _).mono ?_); rw [rmin_int]; rintro _ _ ⟨h, rfl⟩; exact ⟨[], rfl, h, rfl⟩)
  simp only [FinalsD, nthDst, putO, List.drop_succ_cons, List.drop_zero]
  rintro _ _ ⟨⟨⟨r3, rfl, h3⟩, rfl⟩, -⟩
  try simp only [List.nil_append]
  repeat' first
    | refine tc_seq ?_ | refine tc_region ?_ | refine at_seq_normal ?_ | refine tl_nil ?_ | refine tl_cons ?_ | refine op_move ?_ | refine op_assign ?_ | refine op_load ?_ | refine op_load_agg ?_ | refine op_indexC ?_
    | refine op_indexAddr1 ?_ | refine op_indexAddr ?_ | refine op_fcmp ?_ | refine op_pick_true ?_ | refine op_pick_false ?_ | refine op_pick_true' ?_ | refine op_pick_false' ?_ | refine op_loadK rfl ?_ | refine op_load_aggK rfl ?_ | refine tc_ret ?_
    | refine at_seq_ret ?_ | refine tl_guard_yes ?_ | refine tl_guard_no ?_ | refine tl_guard_yes' ?_ | refine tl_guard_no' ?_ | refine tl_guard_undef ?_ | refine tl_guard_split (fun _ => ?_) (fun _ => ?_)
  apply fun hole0 hole1 hole2 hole3 hole4 hole5 hE hD hml hdl hpr prem fin => tc_drawnD 7 [PhiD.is hole0, PhiD.is hole1, PhiD.is hole2, PhiD.is hole3, PhiD.is hole4, PhiD.is hole5, PhiD.gen (some' (fun w ex => (∃ r, w = .float .f64 r ∧ Fv r ((max aY bY : Int) : Rat)) ∧ ex = []))]
    [some 32, some 33, some 34, some 35, some 36, some 37, some 38, some 10] [[], [0], [1], [], [3], [4], [2, 5]] mixed ⟨(some_mono _), trivial⟩ prem fin hE hD rfl hml hdl hpr
  rotate_left 7
  · first | kernel_rfl | exact rfl
  · first | kernel_rfl | exact rfl
  · exact Nat.le_of_ble_eq_true rfl
  · first | kernel_rfl | exact rfl
  · first | kernel_rfl | exact rfl
  refine ⟨fun G hG => ?_, fun G hG => ?_, fun G hG => ?_, fun G hG => ?_, fun G hG => ?_, fun G hG => ?_, fun G hG => ?_, trivial⟩
  · simp only [withD, nthD, Step2, nthDst, putO, postD]
    (refine op_move ?_; exact ⟨[], rfl, rfl, rfl⟩)
  · simp only [withD, nthD, Step2, nthDst, putO, postD]
    ((first | refine op_indexC ?_ | refine op_indexAddr1 ?_ | refine op_indexAddr ?_); exact ⟨[], rfl, rfl, rfl⟩)
  · simp only [withD, nthD, Step2, nthDst, putO, postD]
    ((first | refine op_load ?_ | refine op_load_agg ?_ | refine op_load ?_ (hm := Sub.mem (by assumption) (by (repeat (apply List.mem_cons_of_mem)); assumption)) | refine op_load_agg ?_ (hm := Sub.mem (by assumption) (by (repeat (apply List.mem_cons_of_mem)); assumption)) | refine op_loadH hG rfl ?_ | refine op_load_aggH hG rfl ?_); exact ⟨[], rfl, rfl, rfl⟩)
  · simp only [withD, nthD, Step2, nthDst, putO, postD]
    (refine op_move ?_; exact ⟨[], rfl, rfl, rfl⟩)
  · simp only [withD, nthD, Step2, nthDst, putO, postD]
    ((first | refine op_indexC ?_ | refine op_indexAddr1 ?_ | refine op_indexAddr ?_); exact ⟨[], rfl, rfl, rfl⟩)
  · simp only [withD, nthD, Step2, nthDst, putO, postD]
    ((first | refine op_load ?_ | refine op_load_agg ?_ | refine op_load ?_ (hm := Sub.mem (by assumption) (by (repeat (apply List.mem_cons_of_mem)); assumption)) | refine op_load_agg ?_ (hm := Sub.mem (by assumption) (by (repeat (apply List.mem_cons_of_mem)); assumption)) | refine op_loadH hG rfl ?_ | refine op_load_aggH hG rfl ?_); exact ⟨[], rfl, rfl, rfl⟩)
  · simp only [withD, nthD, Step2, nthDst, putO, postD]
    (refine op_call ((mathMax fay.fv fby.fv _).mono ?_); rw [rmax_int]; rintro _ _ ⟨h, rfl⟩; exact ⟨[], rfl, h, rfl⟩)
  simp only [FinalsD, nthDst, putO, List.drop_succ_cons, List.drop_zero]
  rintro _ _ ⟨⟨⟨r4, rfl, h4⟩, rfl⟩, -⟩
  try simp only [List.nil_append]
  have d1 := leq_int h1 fpx.fv
  have d2 := geq_int h2 fpx.fv
  have d3 := leq_int h3 fpy.fv
  have d4 := geq_int h4 fpy.fv
  repeat' first
    | refine tc_seq ?_ | refine tc_region ?_ | refine at_seq_normal ?_ | refine tl_nil ?_ | refine tl_cons ?_ | refine op_move ?_ | refine op_assign ?_ | refine op_load ?_ | refine op_load_agg ?_ | refine op_indexC ?_
    | refine op_indexAddr1 ?_ | refine op_indexAddr ?_ | refine op_fcmp ?_ | refine op_pick_true ?_ | refine op_pick_false ?_ | refine op_pick_true' ?_ | refine op_pick_false' ?_ | refine op_loadK rfl ?_ | refine op_load_aggK rfl ?_ | refine tc_ret ?_
    | refine at_seq_ret ?_ | refine tl_guard_yes ?_ | refine tl_guard_no ?_ | refine tl_guard_yes' ?_ | refine tl_guard_no' ?_ | refine tl_guard_undef ?_ | refine tl_guard_split (fun _ => ?_) (fun _ => ?_)
  all_goals exact ret_tmp (hk := ⟨by unfold inBox; rw [← d1, ← d2, ← d3, ← d4]; clear d1 d2 d3 d4; simp [*], rfl⟩)
set_option maxHeartbeats 8000000 in
theorem equal (k1 o1 c1 k2 o2 c2 : Nat) (l1 l2 : List Value) (T1 T2 : TypeId) (z1 z2 : Nat × Nat) (px py ax ay : Nat) (pX pY aX aY : Int) (H : Heap)
    (m1 : (k1, Obj.cells ⟨l1⟩ T1 z1) ∈ H) (m2 : (k2, Obj.cells ⟨l2⟩ T2 z2) ∈ H)
    (g1 : l1[o1 + 0]? = some (.float .f64 px)) (g2 : l1[o1 + 1]? = some (.float .f64 py)) (g3 : l2[o2 + 0]? = some (.float .f64 ax)) (g4 : l2[o2 + 1]? = some (.float .f64 ay))
    (fpx : FI 33554432 px pX) (fpy : FI 33554432 py pY) (fax : FI 33554432 ax aX) (fay : FI 33554432 ay aY) :
    Does Try.prog 74 [.slice (some ⟨k1, o1, none⟩) 2 c1, .int .i64 0, .slice (some ⟨k2, o2, none⟩) 2 c2, .int .i64 0] H fun w H' => (∃ b, w = .bool b) ∧ H' = H := by
  refine fn_enter 29 Try.func74 fun W => ?_
  have w1 : IntKind.i64.wrap (iarith .add 0 1) = 1 := rfl
  cases e1 : fcmp .neq px ax with
  | true =>
    repeat' first
      | refine tc_seq ?_ | refine tc_region ?_ | refine at_seq_normal ?_ | refine tl_nil ?_ | refine tl_cons ?_ | refine op_move ?_ | refine op_assign ?_ | refine op_load ?_ | refine op_load_agg ?_ | refine op_indexC ?_
      | refine op_indexAddr1 ?_ | refine op_indexAddr ?_ | refine op_fcmp ?_ | refine op_iarith ?_ | refine op_loadK rfl ?_ | refine op_load_aggK rfl ?_ | refine tc_cond_t ?_ | refine tc_cond_f ?_ | refine tc_cond (fun _ => ?_) (fun _ => ?_) | refine tc_skip ?_
      | refine tc_ret ?_ | refine at_seq_ret ?_
    apply fun hole0 hole1 hole2 hole3 hole4 hole5 hole6 hole7 hE hD hml hdl hpr prem fin => tc_drawnD 9 [PhiD.is hole0, PhiD.is hole1, PhiD.is hole2, PhiD.is hole3, PhiD.is hole4, PhiD.is hole5, PhiD.is hole6, PhiD.is hole7, PhiD.is (.bool true)]
      [some 9, some 10, some 11, some 12, some 13, some 14, some 15, some 16, some 17] [[], [], [0, 1], [2], [], [], [4, 5], [6], [3, 7]] mixed trivial prem fin hE hD rfl hml hdl hpr
    rotate_left 9
    · first | kernel_rfl | exact rfl
    · first | kernel_rfl | exact rfl
    · exact Nat.le_of_ble_eq_true rfl
    · first | kernel_rfl | exact rfl
    · first | kernel_rfl | exact rfl
    refine ⟨fun G hG => ?_, fun G hG => ?_, fun G hG => ?_, fun G hG => ?_, fun G hG => ?_, fun G hG => ?_, fun G hG => ?_, fun G hG => ?_, fun G hG => ?_, trivial⟩
    · simp only [withD, nthD, Step2, nthDst, putO, postD]
      (refine op_move ?_; exact ⟨[], rfl, rfl, rfl⟩)
    · simp only [withD, nthD, Step2, nthDst, putO, postD]
      (refine op_move ?_; exact ⟨[], rfl, rfl, rfl⟩)
    · simp only [withD, nthD, Step2, nthDst, putO, postD]
      ((first | refine op_indexC ?_ | refine op_indexAddr1 ?_ | refine op_indexAddr ?_); exact ⟨[], rfl, rfl, rfl⟩)
    · simp only [withD, nthD, Step2, nthDst, putO, postD]
      ((first | refine op_load ?_ | refine op_load_agg ?_ | refine op_load ?_ (hm := Sub.mem (by assumption) (by (repeat (apply List.mem_cons_of_mem)); assumption)) | refine op_load_agg ?_ (hm := Sub.mem (by assumption) (by (repeat (apply List.mem_cons_of_mem)); assumption)) | refine op_loadH hG rfl ?_ | refine op_load_aggH hG rfl ?_); exact ⟨[], rfl, rfl, rfl⟩)
    · simp only [withD, nthD, Step2, nthDst, putO, postD]
      (refine op_move ?_; exact ⟨[], rfl, rfl, rfl⟩)
    · simp only [withD, nthD, Step2, nthDst, putO, postD]
      (refine op_move ?_; exact ⟨[], rfl, rfl, rfl⟩)
    · simp only [withD, nthD, Step2, nthDst, putO, postD]
      ((first | refine op_indexC ?_ | refine op_indexAddr1 ?_ | refine op_indexAddr ?_); exact ⟨[], rfl, rfl, rfl⟩)
    · simp only [withD, nthD, Step2, nthDst, putO, postD]
      ((first | refine op_load ?_ | refine op_load_agg ?_ | refine op_load ?_ (hm := Sub.mem (by assumption) (by (repeat (apply List.mem_cons_of_mem)); assumption)) | refine op_load_agg ?_ (hm := Sub.mem (by assumption) (by (repeat (apply List.mem_cons_of_mem)); assumption)) | refine op_loadH hG rfl ?_ | refine op_load_aggH hG rfl ?_); exact ⟨[], rfl, rfl, rfl⟩)
    · simp only [withD, nthD, Step2, nthDst, putO, postD]
      (refine op_fcmp ?_; rw [e1]; exact ⟨[], rfl, rfl, rfl⟩)
    simp only [FinalsD, nthDst, putO, List.drop_succ_cons, List.drop_zero]
    rintro -
    repeat' first
      | refine tc_seq ?_ | refine tc_region ?_ | refine at_seq_normal ?_ | refine tl_nil ?_ | refine tl_cons ?_ | refine op_move ?_ | refine op_assign ?_ | refine op_load ?_ | refine op_load_agg ?_ | refine op_indexC ?_
      | refine op_indexAddr1 ?_ | refine op_indexAddr ?_ | refine op_fcmp ?_ | refine op_iarith ?_ | refine op_loadK rfl ?_ | refine op_load_aggK rfl ?_ | refine tc_cond_t ?_ | refine tc_cond_f ?_ | refine tc_cond (fun _ => ?_) (fun _ => ?_) | refine tc_skip ?_
      | refine tc_ret ?_ | refine at_seq_ret ?_
    exact ret_tmp (hk := ⟨⟨_, rfl⟩, rfl⟩)
  | false =>
    repeat' first
      | refine tc_seq ?_ | refine tc_region ?_ | refine at_seq_normal ?_ | refine tl_nil ?_ | refine tl_cons ?_ | refine op_move ?_ | refine op_assign ?_ | refine op_load ?_ | refine op_load_agg ?_ | refine op_indexC ?_
      | refine op_indexAddr1 ?_ | refine op_indexAddr ?_ | refine op_fcmp ?_ | refine op_iarith ?_ | refine op_loadK rfl ?_ | refine op_load_aggK rfl ?_ | refine tc_cond_t ?_ | refine tc_cond_f ?_ | refine tc_cond (fun _ => ?_) (fun _ => ?_) | refine tc_skip ?_
      | refine tc_ret ?_ | refine at_seq_ret ?_
    apply fun hole0 hole1 hole2 hole3 hole4 hole5 hole6 hole7 hE hD hml hdl hpr prem fin => tc_drawnD 9 [PhiD.is hole0, PhiD.is hole1, PhiD.is hole2, PhiD.is hole3, PhiD.is hole4, PhiD.is hole5, PhiD.is hole6, PhiD.is hole7, PhiD.is (.bool false)]
      [some 9, some 10, some 11, some 12, some 13, some 14, some 15, some 16, some 17] [[], [], [0, 1], [2], [], [], [4, 5], [6], [3, 7]] mixed trivial prem fin hE hD rfl hml hdl hpr
    rotate_left 9
    · first | kernel_rfl | exact rfl
    · first | kernel_rfl | exact rfl
    · exact Nat.le_of_ble_eq_true rfl
    · first | kernel_rfl | exact rfl
    · first | kernel_rfl | exact rfl
    refine ⟨fun G hG => ?_, fun G hG => ?_, fun G hG => ?_, fun G hG => ?_, fun G hG => ?_, fun G hG => ?_, fun G hG => ?_, fun G hG => ?_, fun G hG => ?_, trivial⟩
    · simp only [withD, nthD, Step2, nthDst, putO, postD]
      (refine op_move ?_; exact ⟨[], rfl, rfl, rfl⟩)
    · simp only [withD, nthD, Step2, nthDst, putO, postD]
      (refine op_move ?_; exact ⟨[], rfl, rfl, rfl⟩)
    · simp only [withD, nthD, Step2, nthDst, putO, postD]
      ((first | refine op_indexC ?_ | refine op_indexAddr1 ?_ | refine op_indexAddr ?_); exact ⟨[], rfl, rfl, rfl⟩)
    · simp only [withD, nthD, Step2, nthDst, putO, postD]
      ((first | refine op_load ?_ | refine op_load_agg ?_ | refine op_load ?_ (hm := Sub.mem (by assumption) (by (repeat (apply List.mem_cons_of_mem)); assumption)) | refine op_load_agg ?_ (hm := Sub.mem (by assumption) (by (repeat (apply List.mem_cons_of_mem)); assumption)) | refine op_loadH hG rfl ?_ | refine op_load_aggH hG rfl ?_); exact ⟨[], rfl, rfl, rfl⟩)
    · simp only [withD, nthD, Step2, nthDst, putO, postD]
      (refine op_move ?_; exact ⟨[], rfl, rfl, rfl⟩)
    · simp only [withD, nthD, Step2, nthDst, putO, postD]
      (refine op_move ?_; exact ⟨[], rfl, rfl, rfl⟩)
    · simp only [withD, nthD, Step2, nthDst, putO, postD]
      ((first | refine op_indexC ?_ | refine op_indexAddr1 ?_ | refine op_indexAddr ?_); exact ⟨[], rfl, rfl, rfl⟩)
    · simp only [withD, nthD, Step2, nthDst, putO, postD]
      ((first | refine op_load ?_ | refine op_load_agg ?_ | refine op_load ?_ (hm := Sub.mem (by assumption) (by (repeat (apply List.mem_cons_of_mem)); assumption)) | refine op_load_agg ?_ (hm := Sub.mem (by assumption) (by (repeat (apply List.mem_cons_of_mem)); assumption)) | refine op_loadH hG rfl ?_ | refine op_load_aggH hG rfl ?_); exact ⟨[], rfl, rfl, rfl⟩)
    · simp only [withD, nthD, Step2, nthDst, putO, postD]
      (refine op_fcmp ?_; rw [e1]; exact ⟨[], rfl, rfl, rfl⟩)
    simp only [FinalsD, nthDst, putO, List.drop_succ_cons, List.drop_zero]
    rintro -
    repeat' first
      | refine tc_seq ?_ | refine tc_region ?_ | refine at_seq_normal ?_ | refine tl_nil ?_ | refine tl_cons ?_ | refine op_move ?_ | refine op_assign ?_ | refine op_load ?_ | refine op_load_agg ?_ | refine op_indexC ?_
      | refine op_indexAddr1 ?_ | refine op_indexAddr ?_ | refine op_fcmp ?_ | refine op_iarith ?_ | refine op_loadK rfl ?_ | refine op_load_aggK rfl ?_ | refine tc_cond_t ?_ | refine tc_cond_f ?_ | refine tc_cond (fun _ => ?_) (fun _ => ?_) | refine tc_skip ?_
      | refine tc_ret ?_ | refine at_seq_ret ?_
    apply fun hole0 hole1 hole2 hole3 hole4 hole5 hole6 hole7 hole8 hE hD hml hdl hpr prem fin => tc_drawnD 11 [PhiD.is hole0, PhiD.is hole1, PhiD.is (.int .i64 1), PhiD.is hole2, PhiD.is hole3, PhiD.is hole4, PhiD.is hole5, PhiD.is (.int .i64 1), PhiD.is hole6, PhiD.is hole7, PhiD.is hole8]
      [some 18, some 19, some 20, some 21, some 22, some 23, some 24, some 25, some 26, some 27, some 28] [[], [], [1], [0, 2], [3], [], [], [6], [5, 7], [8], [4, 9]] mixed trivial prem fin hE hD rfl hml hdl hpr
    rotate_left 10
    · first | kernel_rfl | exact rfl
    · first | kernel_rfl | exact rfl
    · exact Nat.le_of_ble_eq_true rfl
    · first | kernel_rfl | exact rfl
    · first | kernel_rfl | exact rfl
    refine ⟨fun G hG => ?_, fun G hG => ?_, fun G hG => ?_, fun G hG => ?_, fun G hG => ?_, fun G hG => ?_, fun G hG => ?_, fun G hG => ?_, fun G hG => ?_, fun G hG => ?_, fun G hG => ?_, trivial⟩
    · simp only [withD, nthD, Step2, nthDst, putO, postD]
      (refine op_move ?_; exact ⟨[], rfl, rfl, rfl⟩)
    · simp only [withD, nthD, Step2, nthDst, putO, postD]
      (refine op_move ?_; exact ⟨[], rfl, rfl, rfl⟩)
    · simp only [withD, nthD, Step2, nthDst, putO, postD]
      (refine op_iarith ?_; rw [w1]; exact ⟨[], rfl, rfl, rfl⟩)
    · simp only [withD, nthD, Step2, nthDst, putO, postD]
      ((first | refine op_indexC ?_ | refine op_indexAddr1 ?_ | refine op_indexAddr ?_); exact ⟨[], rfl, rfl, rfl⟩)
    · simp only [withD, nthD, Step2, nthDst, putO, postD]
      ((first | refine op_load ?_ | refine op_load_agg ?_ | refine op_load ?_ (hm := Sub.mem (by assumption) (by (repeat (apply List.mem_cons_of_mem)); assumption)) | refine op_load_agg ?_ (hm := Sub.mem (by assumption) (by (repeat (apply List.mem_cons_of_mem)); assumption)) | refine op_loadH hG rfl ?_ | refine op_load_aggH hG rfl ?_); exact ⟨[], rfl, rfl, rfl⟩)
    · simp only [withD, nthD, Step2, nthDst, putO, postD]
      (refine op_move ?_; exact ⟨[], rfl, rfl, rfl⟩)
    · simp only [withD, nthD, Step2, nthDst, putO, postD]
      (refine op_move ?_; exact ⟨[], rfl, rfl, rfl⟩)
    · simp only [withD, nthD, Step2, nthDst, putO, postD]
      (refine op_iarith ?_; rw [w1]; exact ⟨[], rfl, rfl, rfl⟩)
    · simp only [withD, nthD, Step2, nthDst, putO, postD]
      ((first | refine op_indexC ?_ | refine op_indexAddr1 ?_ | refine op_indexAddr ?_); exact ⟨[], rfl, rfl, rfl⟩)
    · simp only [withD, nthD, Step2, nthDst, putO, postD]
      ((first | refine op_load ?_ | refine op_load_agg ?_ | refine op_load ?_ (hm := Sub.mem (by assumption) (by (repeat (apply List.mem_cons_of_mem)); assumption)) | refine op_load_agg ?_ (hm := Sub.mem (by assumption) (by (repeat (apply List.mem_cons_of_mem)); assumption)) | refine op_loadH hG rfl ?_ | refine op_load_aggH hG rfl ?_); exact ⟨[], rfl, rfl, rfl⟩)
    · simp only [withD, nthD, Step2, nthDst, putO, postD]
      (refine op_fcmp ?_; exact ⟨[], rfl, rfl, rfl⟩)
    simp only [FinalsD, nthDst, putO, List.drop_succ_cons, List.drop_zero]
    rintro -
    repeat' first
      | refine tc_seq ?_ | refine tc_region ?_ | refine at_seq_normal ?_ | refine tl_nil ?_ | refine tl_cons ?_ | refine op_move ?_ | refine op_assign ?_ | refine op_load ?_ | refine op_load_agg ?_ | refine op_indexC ?_
      | refine op_indexAddr1 ?_ | refine op_indexAddr ?_ | refine op_fcmp ?_ | refine op_iarith ?_ | refine op_loadK rfl ?_ | refine op_load_aggK rfl ?_ | refine tc_cond_t ?_ | refine tc_cond_f ?_ | refine tc_cond (fun _ => ?_) (fun _ => ?_) | refine tc_skip ?_
      | refine tc_ret ?_ | refine at_seq_ret ?_
    all_goals exact ret_tmp (hk := ⟨⟨_, rfl⟩, rfl⟩)
/-- On a segment. -/
def onS (aX aY bX bY pX pY : Int) : Bool := inBox aX aY bX bY pX pY && decide ((aX - pX) * (bY - pY) - (aY - pY) * (bX - pX) = 0)
theorem turn_back (aX aY bX bY pX pY : Int) : (bX - pX) * (aY - pY) - (bY - pY) * (aX - pX) = -((aX - pX) * (bY - pY) - (aY - pY) * (bX - pX)) := by grind
abbrev datO (a1 a2 a3 a4 b1 b2 : Value) (t p x y s : Value) : Obj := .cells ⟨[a1, a2, a3, a4, b1, b2, t, p, x, y, s]⟩ 97 (0, 0)
set_option maxHeartbeats 16000000 in
theorem compute (kd : Nat) (a1 a2 a3 a4 b1 b2 : Value) (t0 : Int) (pr : Bool) (x y st : Value) (k1 o1 c1 k2 o2 c2 k3 o3 c3 : Nat) (l1 l2 l3 : List Value) (T1 T2 T3 : TypeId) (z1 z2 z3 : Nat × Nat) (px py ax ay bx by' : Nat) (pX pY aX aY bX bY : Int) (R : Heap)
    (m1 : (k1, Obj.cells ⟨l1⟩ T1 z1) ∈ R) (m2 : (k2, Obj.cells ⟨l2⟩ T2 z2) ∈ R) (m3 : (k3, Obj.cells ⟨l3⟩ T3 z3) ∈ R)
    (g1 : l1[o1 + 0]? = some (.float .f64 px)) (g2 : l1[o1 + 1]? = some (.float .f64 py)) (g3 : l2[o2 + 0]? = some (.float .f64 ax)) (g4 : l2[o2 + 1]? = some (.float .f64 ay)) (g5 : l3[o3 + 0]? = some (.float .f64 bx)) (g6 : l3[o3 + 1]? = some (.float .f64 by'))
    (fpx : FI 33554432 px pX) (fpy : FI 33554432 py pY) (fax : FI 33554432 ax aX) (fay : FI 33554432 ay aY) (fbx : FI 33554432 bx bX) (fby : FI 33554432 by' bY) (hE : Eps R) :
    Does Try.prog 71 [.agg ⟨[]⟩, .pointer (some ⟨kd, 0, none⟩), .slice (some ⟨k1, o1, none⟩) 2 c1, .slice (some ⟨k2, o2, none⟩) 2 c2, .slice (some ⟨k3, o3, none⟩) 2 c3] ((kd, datO a1 a2 a3 a4 b1 b2 (.int .i64 t0) (.bool pr) x y st) :: R)
      fun w H' => ∃ ex p', H' = ex ++ (kd, datO a1 a2 a3 a4 b1 b2 (.int .i64 (if onS aX aY bX bY pX pY then 1 else 0)) (.bool p') x y st) :: R := by
  have hz := sg_zero (n := (aX - pX) * (bY - pY) - (aY - pY) * (bX - pX))
  have hz2 := sg_zero (n := (bX - pX) * (aY - pY) - (bY - pY) * (aX - pX))
  refine fn_enter 49 Try.func71 fun W => ?_
  cases hin : inBox aX aY bX bY pX pY with
  | false =>
    have hon : onS aX aY bX bY pX pY = false := by unfold onS; rw [hin]; rfl
    repeat' first
      | (refine op_call ((within k1 o1 c1 k2 o2 c2 k3 o3 c3 l1 l2 l3 T1 T2 T3 z1 z2 z3 px py ax ay bx by' pX pY aX aY bX bY _ (by simp [m1]) (by simp [m2]) (by simp [m3]) g1 g2 g3 g4 g5 g6 fpx fpy fax fay fbx fby).mono ?_); rw [hin]; rintro _ _ ⟨rfl, rfl⟩)
      | (refine op_call ((index k2 o2 c2 k3 o3 c3 k1 o1 c1 l2 l3 l1 T2 T3 T1 z2 z3 z1 ax ay bx by' px py aX aY bX bY pX pY _ (by simp [m2]) (by simp [m3]) (by simp [m1]) g3 g4 g5 g6 g1 g2 fax fay fbx fby fpx fpy (hE.mono fun e he => by simp [he])).mono ?_); rintro _ _ ⟨rfl, rfl⟩)
      | (refine op_call ((index k3 o3 c3 k2 o2 c2 k1 o1 c1 l3 l2 l1 T3 T2 T1 z3 z2 z1 bx by' ax ay px py bX bY aX aY pX pY _ (by simp [m3]) (by simp [m2]) (by simp [m1]) g5 g6 g3 g4 g1 g2 fbx fby fax fay fpx fpy (hE.mono fun e he => by simp [he])).mono ?_); rintro _ _ ⟨rfl, rfl⟩)
      | (refine op_call ((equal k1 o1 c1 k2 o2 c2 l1 l2 T1 T2 z1 z2 px py ax ay pX pY aX aY _ (by simp [m1]) (by simp [m2]) g1 g2 g3 g4 fpx fpy fax fay).mono ?_); rintro _ _ ⟨⟨be, rfl⟩, rfl⟩)
      | (refine op_call ((equal k1 o1 c1 k3 o3 c3 l1 l3 T1 T3 z1 z3 px py bx by' pX pY bX bY _ (by simp [m1]) (by simp [m3]) g1 g2 g5 g6 fpx fpy fbx fby).mono ?_); rintro _ _ ⟨⟨be2, rfl⟩, rfl⟩)
      | (first | refine tc_seq ?_ | refine tc_region ?_ | refine at_seq_normal ?_ | refine tl_nil ?_ | refine tl_cons ?_ | refine tl_cons_none ?_ | refine op_move ?_ | refine op_fieldAddr ?_ | refine op_icmp ?_ | refine op_fcmp ?_ | refine op_iarith ?_ | refine op_bcmp ?_ | refine op_pick_true ?_ | refine op_pick_false ?_ | refine op_pick_true' ?_ | refine op_pick_false' ?_ | refine op_ptr_nil ?_ | refine op_nilCheck_ptr ?_ | refine op_nilCheck_meth ?_ | refine op_iquo ?_ | refine op_irem ?_ | refine op_ibits ?_ | refine op_slice_isnil ?_ | refine op_slice_notnil ?_ | refine op_shl ?_ | refine op_shr ?_ | (refine op_box ?_; intro _) | (refine op_farith ?_; intro _ _) | refine op_store0 ?_ | refine op_store1 ?_ | refine op_store2 ?_ | refine op_store3 ?_ | refine op_store4 ?_ | refine op_store5 ?_ | refine op_storeK rfl ?_ | refine tc_cond_t ?_ | refine tc_cond_f ?_ | refine tc_cond (fun _ => ?_) (fun _ => ?_) | refine tc_skip ?_ | refine tc_ret ?_ | refine at_seq_ret ?_ | refine tl_guard_yes ?_ | refine tl_guard_no ?_ | refine tl_guard_yes' ?_ | refine tl_guard_no' ?_ | refine tl_guard_undef ?_ | refine tl_guard_split (fun _ => ?_) (fun _ => ?_) | fail)
      | fail
    rw [hon]
    exact ret_none (hk := ⟨[(_, _)], _, rfl⟩)
  | true =>
    by_cases hC : (aX - pX) * (bY - pY) - (aY - pY) * (bX - pX) = 0
    · have hon : onS aX aY bX bY pX pY = true := by unfold onS; rw [hin, decide_eq_true hC]; rfl
      rw [decide_eq_true hC] at hz
      rw [turn_back, decide_eq_true (by omega)] at hz2
      rw [← turn_back] at hz2
      repeat' first
        | (refine op_call ((within k1 o1 c1 k2 o2 c2 k3 o3 c3 l1 l2 l3 T1 T2 T3 z1 z2 z3 px py ax ay bx by' pX pY aX aY bX bY _ (by simp [m1]) (by simp [m2]) (by simp [m3]) g1 g2 g3 g4 g5 g6 fpx fpy fax fay fbx fby).mono ?_); rw [hin]; rintro _ _ ⟨rfl, rfl⟩)
        | (refine op_call ((index k2 o2 c2 k3 o3 c3 k1 o1 c1 l2 l3 l1 T2 T3 T1 z2 z3 z1 ax ay bx by' px py aX aY bX bY pX pY _ (by simp [m2]) (by simp [m3]) (by simp [m1]) g3 g4 g5 g6 g1 g2 fax fay fbx fby fpx fpy (hE.mono fun e he => by simp [he])).mono ?_); rintro _ _ ⟨rfl, rfl⟩)
        | (refine op_call ((index k3 o3 c3 k2 o2 c2 k1 o1 c1 l3 l2 l1 T3 T2 T1 z3 z2 z1 bx by' ax ay px py bX bY aX aY pX pY _ (by simp [m3]) (by simp [m2]) (by simp [m1]) g5 g6 g3 g4 g1 g2 fbx fby fax fay fpx fpy (hE.mono fun e he => by simp [he])).mono ?_); rintro _ _ ⟨rfl, rfl⟩)
        | (refine op_call ((equal k1 o1 c1 k2 o2 c2 l1 l2 T1 T2 z1 z2 px py ax ay pX pY aX aY _ (by simp [m1]) (by simp [m2]) g1 g2 g3 g4 fpx fpy fax fay).mono ?_); rintro _ _ ⟨⟨be, rfl⟩, rfl⟩)
        | (refine op_call ((equal k1 o1 c1 k3 o3 c3 l1 l3 T1 T3 z1 z3 px py bx by' pX pY bX bY _ (by simp [m1]) (by simp [m3]) g1 g2 g5 g6 fpx fpy fbx fby).mono ?_); rintro _ _ ⟨⟨be2, rfl⟩, rfl⟩)
        | (first | refine tc_seq ?_ | refine tc_region ?_ | refine at_seq_normal ?_ | refine tl_nil ?_ | refine tl_cons ?_ | refine tl_cons_none ?_ | refine op_move ?_ | refine op_fieldAddr ?_ | refine op_icmp ?_ | refine op_fcmp ?_ | refine op_iarith ?_ | refine op_bcmp ?_ | refine op_pick_true ?_ | refine op_pick_false ?_ | refine op_pick_true' ?_ | refine op_pick_false' ?_ | refine op_ptr_nil ?_ | refine op_nilCheck_ptr ?_ | refine op_nilCheck_meth ?_ | refine op_iquo ?_ | refine op_irem ?_ | refine op_ibits ?_ | refine op_slice_isnil ?_ | refine op_slice_notnil ?_ | refine op_shl ?_ | refine op_shr ?_ | (refine op_box ?_; intro _) | (refine op_farith ?_; intro _ _) | refine op_store0 ?_ | refine op_store1 ?_ | refine op_store2 ?_ | refine op_store3 ?_ | refine op_store4 ?_ | refine op_store5 ?_ | refine op_storeK rfl ?_ | refine tc_cond_t ?_ | refine tc_cond_f ?_ | refine tc_cond (fun _ => ?_) (fun _ => ?_) | refine tc_skip ?_ | refine tc_ret ?_ | refine at_seq_ret ?_ | refine tl_guard_yes ?_ | refine tl_guard_no ?_ | refine tl_guard_yes' ?_ | refine tl_guard_no' ?_ | refine tl_guard_undef ?_ | refine tl_guard_split (fun _ => ?_) (fun _ => ?_) | fail)
        | fail
      all_goals
        rw [hon]
        exact ret_none (hk := ⟨[(_, _)], _, rfl⟩)
    · have hon : onS aX aY bX bY pX pY = false := by unfold onS; rw [hin, decide_eq_false hC]; rfl
      rw [decide_eq_false hC] at hz
      repeat' first
        | (refine op_call ((within k1 o1 c1 k2 o2 c2 k3 o3 c3 l1 l2 l3 T1 T2 T3 z1 z2 z3 px py ax ay bx by' pX pY aX aY bX bY _ (by simp [m1]) (by simp [m2]) (by simp [m3]) g1 g2 g3 g4 g5 g6 fpx fpy fax fay fbx fby).mono ?_); rw [hin]; rintro _ _ ⟨rfl, rfl⟩)
        | (refine op_call ((index k2 o2 c2 k3 o3 c3 k1 o1 c1 l2 l3 l1 T2 T3 T1 z2 z3 z1 ax ay bx by' px py aX aY bX bY pX pY _ (by simp [m2]) (by simp [m3]) (by simp [m1]) g3 g4 g5 g6 g1 g2 fax fay fbx fby fpx fpy (hE.mono fun e he => by simp [he])).mono ?_); rintro _ _ ⟨rfl, rfl⟩)
        | (refine op_call ((index k3 o3 c3 k2 o2 c2 k1 o1 c1 l3 l2 l1 T3 T2 T1 z3 z2 z1 bx by' ax ay px py bX bY aX aY pX pY _ (by simp [m3]) (by simp [m2]) (by simp [m1]) g5 g6 g3 g4 g1 g2 fbx fby fax fay fpx fpy (hE.mono fun e he => by simp [he])).mono ?_); rintro _ _ ⟨rfl, rfl⟩)
        | (refine op_call ((equal k1 o1 c1 k2 o2 c2 l1 l2 T1 T2 z1 z2 px py ax ay pX pY aX aY _ (by simp [m1]) (by simp [m2]) g1 g2 g3 g4 fpx fpy fax fay).mono ?_); rintro _ _ ⟨⟨be, rfl⟩, rfl⟩)
        | (refine op_call ((equal k1 o1 c1 k3 o3 c3 l1 l3 T1 T3 z1 z3 px py bx by' pX pY bX bY _ (by simp [m1]) (by simp [m3]) g1 g2 g5 g6 fpx fpy fbx fby).mono ?_); rintro _ _ ⟨⟨be2, rfl⟩, rfl⟩)
        | (first | refine tc_seq ?_ | refine tc_region ?_ | refine at_seq_normal ?_ | refine tl_nil ?_ | refine tl_cons ?_ | refine tl_cons_none ?_ | refine op_move ?_ | refine op_fieldAddr ?_ | refine op_icmp ?_ | refine op_fcmp ?_ | refine op_iarith ?_ | refine op_bcmp ?_ | refine op_pick_true ?_ | refine op_pick_false ?_ | refine op_pick_true' ?_ | refine op_pick_false' ?_ | refine op_ptr_nil ?_ | refine op_nilCheck_ptr ?_ | refine op_nilCheck_meth ?_ | refine op_iquo ?_ | refine op_irem ?_ | refine op_ibits ?_ | refine op_slice_isnil ?_ | refine op_slice_notnil ?_ | refine op_shl ?_ | refine op_shr ?_ | (refine op_box ?_; intro _) | (refine op_farith ?_; intro _ _) | refine op_store0 ?_ | refine op_store1 ?_ | refine op_store2 ?_ | refine op_store3 ?_ | refine op_store4 ?_ | refine op_store5 ?_ | refine op_storeK rfl ?_ | refine tc_cond_t ?_ | refine tc_cond_f ?_ | refine tc_cond (fun _ => ?_) (fun _ => ?_) | refine tc_skip ?_ | refine tc_ret ?_ | refine at_seq_ret ?_ | refine tl_guard_yes ?_ | refine tl_guard_no ?_ | refine tl_guard_yes' ?_ | refine tl_guard_no' ?_ | refine tl_guard_undef ?_ | refine tl_guard_split (fun _ => ?_) (fun _ => ?_) | fail)
        | fail
      rw [hon]
      exact ret_none (hk := ⟨[(_, _)], _, rfl⟩)
instance concRob : Conc Try.prog 81 where
  eq := by kernel_rfl
set_option maxRecDepth 20000 in
instance methPoint : MethA Try.prog 81 "pub-orthodrome/pub/gogeom/xy/lineintersector.computePointOnLineIntersection" 71 where
  eq := fun cs args w => by kernel_rfl
set_option maxHeartbeats 16000000 in
theorem pointMeets (k1 o1 c1 k2 o2 c2 k3 o3 c3 : Nat) (l1 l2 l3 : List Value) (T1 T2 T3 : TypeId) (z1 z2 z3 : Nat × Nat) (px py ax ay bx by' : Nat) (pX pY aX aY bX bY : Int) (R : Heap)
    (m1 : (k1, Obj.cells ⟨l1⟩ T1 z1) ∈ R) (m2 : (k2, Obj.cells ⟨l2⟩ T2 z2) ∈ R) (m3 : (k3, Obj.cells ⟨l3⟩ T3 z3) ∈ R)
    (g1 : l1[o1 + 0]? = some (.float .f64 px)) (g2 : l1[o1 + 1]? = some (.float .f64 py)) (g3 : l2[o2 + 0]? = some (.float .f64 ax)) (g4 : l2[o2 + 1]? = some (.float .f64 ay)) (g5 : l3[o3 + 0]? = some (.float .f64 bx)) (g6 : l3[o3 + 1]? = some (.float .f64 by'))
    (fpx : FI 33554432 px pX) (fpy : FI 33554432 py pY) (fax : FI 33554432 ax aX) (fay : FI 33554432 ay aY) (fbx : FI 33554432 bx bX) (fby : FI 33554432 by' bY) (hE : Eps R) :
    Does Try.prog 39 [.iface 81 (.agg ⟨[]⟩), .slice (some ⟨k1, o1, none⟩) 2 c1, .slice (some ⟨k2, o2, none⟩) 2 c2, .slice (some ⟨k3, o3, none⟩) 2 c3] R fun w H' => w = .bool (onS aX aY bX bY pX pY) ∧ ∃ ex, H' = ex ++ R := by
  refine fn_enter 48 Try.func39 fun W => ?_
  repeat' first
    | refine op_buildArr ?_
    | refine op_indexArr ?_
    | (refine op_invokeA (t := 81) ((compute _ _ _ _ _ _ _ _ _ _ _ _ k1 o1 c1 k2 o2 c2 k3 o3 c3 l1 l2 l3 T1 T2 T3 z1 z2 z3 px py ax ay bx by' pX pY aX aY bX bY _ (by simp [m1]) (by simp [m2]) (by simp [m3]) g1 g2 g3 g4 g5 g6 fpx fpy fax fay fbx fby (hE.mono fun e he => by simp [he])).mono ?_); rintro _ _ ⟨ex, p', rfl⟩)
    | (first | refine tc_seq ?_ | refine tc_region ?_ | refine at_seq_normal ?_ | refine tl_nil ?_ | refine tl_cons ?_ | refine tl_cons_none ?_ | refine op_move ?_ | refine op_assign ?_ | refine op_fieldAddr ?_ | refine op_load ?_ | refine op_load_agg ?_ | refine op_indexC ?_ | refine op_indexAddr1 ?_ | refine op_indexAddr ?_ | refine op_icmp ?_ | refine op_fcmp ?_ | refine op_iarith ?_ | refine op_bcmp ?_ | refine op_build ?_ | refine op_ptr_nil ?_ | refine op_nilCheck_ptr ?_ | refine op_nilCheck_meth ?_ | refine op_iquo ?_ | refine op_irem ?_ | refine op_ibits ?_ | refine op_slice_isnil ?_ | refine op_slice_notnil ?_ | refine op_shl ?_ | refine op_shr ?_ | (refine op_box ?_; intro _) | (refine op_buildSlice ?_; intro _) | (refine op_farith ?_; intro _ _) | refine op_store0 ?_ | refine op_store1 ?_ | refine op_store2 ?_ | refine op_store3 ?_ | refine op_store4 ?_ | refine op_store5 ?_ | refine op_storeK rfl ?_ | refine op_loadK rfl ?_ | refine op_load_aggK rfl ?_ | refine tc_ret ?_ | refine at_seq_ret ?_ | fail)
    | fail
  exact ret_tmp (hG := List.Sublist.refl _) (hk := ⟨by cases h : onS aX aY bX bY pX pY <;> rfl, ExC.ex⟩)
end Go.Proofs.Ythafjfgmbmpfoaa.Ori5
