/-
  bigxy.OrientationIndex of whole numbers up to 2^25: the turn, exactly, whatever the filter's package variable holds. No conditions beyond the bounds.
-/
import Derived.Test.YthafjfgmbmpfoaaTy
import Derived.Test.YthafjfgmbmpfoaaFl3
import Derived.Test.YthafjfgmbmpfoaaFl9
import Derived.Test.YthafjfgmbmpfoaaFl13
import Derived.Test.YthafjfgmbmpfoaaLg24
import Derived.Test.YthafjfgmbmpfoaaLg22
set_option linter.unusedVariables false
set_option linter.unusedSimpArgs false
namespace Go.Proofs.Ythafjfgmbmpfoaa.Ori5
open Go.Lg Ieee

theorem fi_zero : FI 33554432 0 0 := ⟨⟨false, 0, -1074, rfl, by simp⟩, by decide, by decide⟩
def sg (n : Int) : Int := if n = 0 then 0 else if n < 0 then -1 else 1
theorem sg_le (n : Int) : icmp .leq (sg n) 1 = true := by
  unfold sg
  by_cases h : n = 0
  · rw [if_pos h]; rfl
  · rw [if_neg h]
    by_cases h2 : n < 0
    · rw [if_pos h2]; rfl
    · rw [if_neg h2]; rfl
theorem sg_zero {n : Int} : icmp .eql (sg n) 0 = decide (n = 0) := by
  unfold sg
  by_cases h : n = 0
  · rw [if_pos h]; simp [h, icmp]
  · rw [if_neg h]
    by_cases h2 : n < 0
    · rw [if_pos h2]; simp [h, icmp]
    · rw [if_neg h2]; simp [h, icmp]
theorem basedOn (x B : Nat) (n : Int) (H : Heap) (hx : FI B x n) : Does Try.prog 78 [.float .f64 x] H fun w H' => w = .int .i64 (sg n) ∧ H' = H := by
  have h1 := fcmp_gtr hx.fv fi_zero.fv
  have h2 := fcmp_lss hx.fv fi_zero.fv
  have c1 : ((0 : Int) : Rat) < (n : Rat) ↔ 0 < n := by exact_mod_cast Iff.rfl
  have c2 : (n : Rat) < ((0 : Int) : Rat) ↔ n < 0 := by exact_mod_cast Iff.rfl
  refine fn_enter 7 Try.func78 fun W => ?_
  rcases Int.lt_trichotomy n 0 with h | h | h
  · rw [decide_eq_false (by rw [c1]; omega)] at h1
    rw [decide_eq_true (by rw [c2]; exact h)] at h2
    repeat' first
      | refine tc_seq ?_ | refine tc_region ?_ | refine at_seq_normal ?_ | refine tl_nil ?_ | refine tl_cons ?_ | refine op_move ?_ | refine op_assign ?_ | refine op_fcmp ?_ | refine tc_cond_t ?_ | refine tc_cond_f ?_
      | refine tc_cond (fun _ => ?_) (fun _ => ?_) | refine tc_skip ?_ | refine tc_ret ?_ | refine at_seq_ret ?_
    exact ret_tmp (hk := ⟨by unfold sg; rw [if_neg (by omega), if_pos h], rfl⟩)
  · rw [decide_eq_false (by rw [c1]; omega)] at h1
    rw [decide_eq_false (by rw [c2]; omega)] at h2
    repeat' first
      | refine tc_seq ?_ | refine tc_region ?_ | refine at_seq_normal ?_ | refine tl_nil ?_ | refine tl_cons ?_ | refine op_move ?_ | refine op_assign ?_ | refine op_fcmp ?_ | refine tc_cond_t ?_ | refine tc_cond_f ?_
      | refine tc_cond (fun _ => ?_) (fun _ => ?_) | refine tc_skip ?_ | refine tc_ret ?_ | refine at_seq_ret ?_
    exact ret_tmp (hk := ⟨by unfold sg; rw [if_pos h], rfl⟩)
  · rw [decide_eq_true (by rw [c1]; exact h)] at h1
    repeat' first
      | refine tc_seq ?_ | refine tc_region ?_ | refine at_seq_normal ?_ | refine tl_nil ?_ | refine tl_cons ?_ | refine op_move ?_ | refine op_assign ?_ | refine op_fcmp ?_ | refine tc_cond_t ?_ | refine tc_cond_f ?_
      | refine tc_cond (fun _ => ?_) (fun _ => ?_) | refine tc_skip ?_ | refine tc_ret ?_ | refine at_seq_ret ?_
    exact ret_tmp (hk := ⟨by unfold sg; rw [if_neg (by omega), if_neg (by omega)], rfl⟩)
/-- The cell of the package variable of the filter. -/
def Eps (H : Heap) : Prop := ∃ e T fz, (1, Obj.cells ⟨[.float .f64 e]⟩ T fz) ∈ H
theorem Eps.mono {G G' : Heap} (h : Eps G) (hs : ∀ e ∈ G, e ∈ G') : Eps G' := let ⟨x, T, z, h⟩ := h; ⟨x, T, z, hs _ h⟩
abbrev B1 : Nat := 67108864
abbrev B2 : Nat := 4503599627370496
abbrev B3 : Nat := 9007199254740992
set_option maxHeartbeats 16000000 in
theorem filter (k1 o1 c1 k2 o2 c2 k3 o3 c3 : Nat) (l1 l2 l3 : List Value) (T1 T2 T3 : TypeId) (z1 z2 z3 : Nat × Nat) (ax ay bx by' px py : Nat) (aX aY bX bY pX pY : Int) (H : Heap)
    (m1 : (k1, Obj.cells ⟨l1⟩ T1 z1) ∈ H) (m2 : (k2, Obj.cells ⟨l2⟩ T2 z2) ∈ H) (m3 : (k3, Obj.cells ⟨l3⟩ T3 z3) ∈ H)
    (g1 : l1[o1 + 0]? = some (.float .f64 ax)) (g2 : l1[o1 + 1]? = some (.float .f64 ay)) (g3 : l2[o2 + 0]? = some (.float .f64 bx)) (g4 : l2[o2 + 1]? = some (.float .f64 by')) (g5 : l3[o3 + 0]? = some (.float .f64 px)) (g6 : l3[o3 + 1]? = some (.float .f64 py))
    (fax : FI 33554432 ax aX) (fay : FI 33554432 ay aY) (fbx : FI 33554432 bx bX) (fby : FI 33554432 by' bY) (fpx : FI 33554432 px pX) (fpy : FI 33554432 py pY) (hE : Eps H) :
    Does Try.prog 77 [.slice (some ⟨k1, o1, none⟩) 2 c1, .slice (some ⟨k2, o2, none⟩) 2 c2, .slice (some ⟨k3, o3, none⟩) 2 c3] H fun w H' => (w = .int .i64 2 ∨ w = .int .i64 (sg ((aX - pX) * (bY - pY) - (aY - pY) * (bX - pX)))) ∧ H' = H := by
  obtain ⟨ev, TE, zE, hE⟩ := hE
  obtain ⟨q1, e1⟩ := FI.subF (C := B1) fax fpx (by decide)
  obtain ⟨q2, e2⟩ := FI.subF (C := B1) fby fpy (by decide)
  obtain ⟨q4, e4⟩ := FI.subF (C := B1) fay fpy (by decide)
  obtain ⟨q5, e5⟩ := FI.subF (C := B1) fbx fpx (by decide)
  obtain ⟨q3, e3⟩ := FI.mulF (C := B2) e1 e2 (by decide)
  obtain ⟨q6, e6⟩ := FI.mulF (C := B2) e4 e5 (by decide)
  obtain ⟨q7, e7⟩ := FI.subF (C := B3) e3 e6 (by decide)
  refine fn_enter 82 Try.func77 fun W => ?_
  repeat' first
    | refine tc_seq ?_ | refine tc_region ?_ | refine at_seq_normal ?_ | refine tl_nil ?_ | refine tl_cons ?_ | refine op_move ?_ | refine op_assign ?_ | refine op_load ?_ | refine op_load_agg ?_ | refine op_indexC ?_
    | refine op_indexAddr1 ?_ | refine op_indexAddr ?_ | refine op_fcmp ?_ | refine op_unop_neg_float ?_ | refine op_unop_neg_int ?_ | refine op_pick_true ?_ | refine op_pick_false ?_ | refine op_pick_true' ?_ | refine op_pick_false' ?_ | (refine op_farith ?_; intro _ _)
    | refine op_loadK rfl ?_ | refine op_load_aggK rfl ?_ | refine tc_cond_t ?_ | refine tc_cond_f ?_ | refine tc_cond (fun _ => ?_) (fun _ => ?_) | refine tc_block ?_ | refine tc_skip ?_ | refine tc_ret ?_ | refine at_seq_ret ?_ | refine at_block_normal ?_
    | refine at_block_ret ?_ | refine tl_guard_yes ?_ | refine tl_guard_no ?_ | refine tl_guard_yes' ?_ | refine tl_guard_no' ?_ | refine tl_guard_undef ?_ | refine tl_guard_split (fun _ => ?_) (fun _ => ?_)
  apply fun hole0 hole1 hole2 hole3 hole4 hole5 hole6 hole7 hole8 hole9 hole10 hole11 hE hD hml hdl hpr prem fin => tc_drawnD 15 [PhiD.is hole0, PhiD.is hole1, PhiD.is hole2, PhiD.is hole3, PhiD.is hole4, PhiD.is hole5, PhiD.is (.float .f64 (fop .sub ax px)), PhiD.is hole6, PhiD.is hole7, PhiD.is hole8, PhiD.is hole9, PhiD.is hole10, PhiD.is hole11, PhiD.is (.float .f64 (fop .sub by' py)), PhiD.is (.float .f64 (fop .mul (fop .sub ax px) (fop .sub by' py)))]
    [some 12, some 13, some 14, some 15, some 16, some 17, some 18, some 19, some 20, some 21, some 22, some 23, some 24, some 25, some 26, some 8] [[], [0], [1], [], [3], [4], [2, 5], [], [7], [8], [], [10], [11], [9, 12], [6, 13]] mixed trivial prem fin hE hD rfl hml hdl hpr
  rotate_left 13
  · first | kernel_rfl | exact rfl
  · first | kernel_rfl | exact rfl
  · exact Nat.le_of_ble_eq_true rfl
  · first | kernel_rfl | exact rfl
  · first | kernel_rfl | exact rfl
  refine ⟨fun G hG => ?_, fun G hG => ?_, fun G hG => ?_, fun G hG => ?_, fun G hG => ?_, fun G hG => ?_, fun G hG => ?_, fun G hG => ?_, fun G hG => ?_, fun G hG => ?_, fun G hG => ?_, fun G hG => ?_, fun G hG => ?_, fun G hG => ?_, fun G hG => ?_, trivial⟩
  · simp only [withD, nthD, Step2, nthDst, putO, postD]
    (refine op_move ?_; exact ⟨[], rfl, rfl, rfl⟩)
  · simp only [withD, nthD, Step2, nthDst, putO, postD]
    ((first | refine op_indexC ?_ | refine op_indexAddr1 ?_ | refine op_indexAddr ?_); exact ⟨[], rfl, rfl, rfl⟩)
  · simp only [withD, nthD, Step2, nthDst, putO, postD]
    ((first | refine op_load ?_ | refine op_load_agg ?_ | refine op_load ?_ (hm := Sub.mem (by assumption) (by (repeat (apply List.mem_cons_of_mem)); assumption)) | refine op_load_agg ?_ (hm := Sub.mem (by assumption) (by (repeat (apply List.mem_cons_of_mem)); assumption)) | refine op_loadH hG rfl ?_ | refine op_load_aggH hG rfl ?_); exact ⟨[], rfl, rfl, rfl⟩)
  · simp only [withD, nthD, Step2, nthDst, putO, postD]
    (refine op_move ?_; exact ⟨[], rfl, rfl, rfl⟩)
  · simp only [withD, nthD, Step2, nthDst, putO, postD]
    ((first | refine op_indexC ?_ | refine op_indexAddr1 ?_ | refine op_indexAddr ?_); exact ⟨[], rfl, rfl, rfl⟩)
  · simp only [withD, nthD, Step2, nthDst, putO, postD]
    ((first | refine op_load ?_ | refine op_load_agg ?_ | refine op_load ?_ (hm := Sub.mem (by assumption) (by (repeat (apply List.mem_cons_of_mem)); assumption)) | refine op_load_agg ?_ (hm := Sub.mem (by assumption) (by (repeat (apply List.mem_cons_of_mem)); assumption)) | refine op_loadH hG rfl ?_ | refine op_load_aggH hG rfl ?_); exact ⟨[], rfl, rfl, rfl⟩)
  · simp only [withD, nthD, Step2, nthDst, putO, postD]
    (refine op_farithF ?_; exact ⟨[], rfl, rfl, rfl⟩)
  · simp only [withD, nthD, Step2, nthDst, putO, postD]
    (refine op_move ?_; exact ⟨[], rfl, rfl, rfl⟩)
  · simp only [withD, nthD, Step2, nthDst, putO, postD]
    ((first | refine op_indexC ?_ | refine op_indexAddr1 ?_ | refine op_indexAddr ?_); exact ⟨[], rfl, rfl, rfl⟩)
  · simp only [withD, nthD, Step2, nthDst, putO, postD]
    ((first | refine op_load ?_ | refine op_load_agg ?_ | refine op_load ?_ (hm := Sub.mem (by assumption) (by (repeat (apply List.mem_cons_of_mem)); assumption)) | refine op_load_agg ?_ (hm := Sub.mem (by assumption) (by (repeat (apply List.mem_cons_of_mem)); assumption)) | refine op_loadH hG rfl ?_ | refine op_load_aggH hG rfl ?_); exact ⟨[], rfl, rfl, rfl⟩)
  · simp only [withD, nthD, Step2, nthDst, putO, postD]
    (refine op_move ?_; exact ⟨[], rfl, rfl, rfl⟩)
  · simp only [withD, nthD, Step2, nthDst, putO, postD]
    ((first | refine op_indexC ?_ | refine op_indexAddr1 ?_ | refine op_indexAddr ?_); exact ⟨[], rfl, rfl, rfl⟩)
  · simp only [withD, nthD, Step2, nthDst, putO, postD]
    ((first | refine op_load ?_ | refine op_load_agg ?_ | refine op_load ?_ (hm := Sub.mem (by assumption) (by (repeat (apply List.mem_cons_of_mem)); assumption)) | refine op_load_agg ?_ (hm := Sub.mem (by assumption) (by (repeat (apply List.mem_cons_of_mem)); assumption)) | refine op_loadH hG rfl ?_ | refine op_load_aggH hG rfl ?_); exact ⟨[], rfl, rfl, rfl⟩)
  · simp only [withD, nthD, Step2, nthDst, putO, postD]
    (refine op_farithF ?_; exact ⟨[], rfl, rfl, rfl⟩)
  · simp only [withD, nthD, Step2, nthDst, putO, postD]
    (refine op_farithF ?_; exact ⟨[], rfl, rfl, rfl⟩)
  simp only [FinalsD, nthDst, putO, List.drop_succ_cons, List.drop_zero]
  rintro -
  repeat' first
    | refine tc_seq ?_ | refine tc_region ?_ | refine at_seq_normal ?_ | refine tl_nil ?_ | refine tl_cons ?_ | refine op_move ?_ | refine op_assign ?_ | refine op_load ?_ | refine op_load_agg ?_ | refine op_indexC ?_
    | refine op_indexAddr1 ?_ | refine op_indexAddr ?_ | refine op_fcmp ?_ | refine op_unop_neg_float ?_ | refine op_unop_neg_int ?_ | refine op_pick_true ?_ | refine op_pick_false ?_ | refine op_pick_true' ?_ | refine op_pick_false' ?_ | (refine op_farith ?_; intro _ _)
    | refine op_loadK rfl ?_ | refine op_load_aggK rfl ?_ | refine tc_cond_t ?_ | refine tc_cond_f ?_ | refine tc_cond (fun _ => ?_) (fun _ => ?_) | refine tc_block ?_ | refine tc_skip ?_ | refine tc_ret ?_ | refine at_seq_ret ?_ | refine at_block_normal ?_
    | refine at_block_ret ?_ | refine tl_guard_yes ?_ | refine tl_guard_no ?_ | refine tl_guard_yes' ?_ | refine tl_guard_no' ?_ | refine tl_guard_undef ?_ | refine tl_guard_split (fun _ => ?_) (fun _ => ?_)
  apply fun hole0 hole1 hole2 hole3 hole4 hole5 hole6 hole7 hole8 hole9 hole10 hole11 hE hD hml hdl hpr prem fin => tc_drawnD 15 [PhiD.is hole0, PhiD.is hole1, PhiD.is hole2, PhiD.is hole3, PhiD.is hole4, PhiD.is hole5, PhiD.is (.float .f64 (fop .sub ay py)), PhiD.is hole6, PhiD.is hole7, PhiD.is hole8, PhiD.is hole9, PhiD.is hole10, PhiD.is hole11, PhiD.is (.float .f64 (fop .sub bx px)), PhiD.is (.float .f64 (fop .mul (fop .sub ay py) (fop .sub bx px)))]
    [some 27, some 28, some 29, some 30, some 31, some 32, some 33, some 34, some 35, some 36, some 37, some 38, some 39, some 40, some 41, some 9] [[], [0], [1], [], [3], [4], [2, 5], [], [7], [8], [], [10], [11], [9, 12], [6, 13]] mixed trivial prem fin hE hD rfl hml hdl hpr
  rotate_left 13
  · first | kernel_rfl | exact rfl
  · first | kernel_rfl | exact rfl
  · exact Nat.le_of_ble_eq_true rfl
  · first | kernel_rfl | exact rfl
  · first | kernel_rfl | exact rfl
  refine ⟨fun G hG => ?_, fun G hG => ?_, fun G hG => ?_, fun G hG => ?_, fun G hG => ?_, fun G hG => ?_, fun G hG => ?_, fun G hG => ?_, fun G hG => ?_, fun G hG => ?_, fun G hG => ?_, fun G hG => ?_, fun G hG => ?_, fun G hG => ?_, fun G hG => ?_, trivial⟩
  · simp only [withD, nthD, Step2, nthDst, putO, postD]
    (refine op_move ?_; exact ⟨[], rfl, rfl, rfl⟩)
  · simp only [withD, nthD, Step2, nthDst, putO, postD]
    ((first | refine op_indexC ?_ | refine op_indexAddr1 ?_ | refine op_indexAddr ?_); exact ⟨[], rfl, rfl, rfl⟩)
  · simp only [withD, nthD, Step2, nthDst, putO, postD]
    ((first | refine op_load ?_ | refine op_load_agg ?_ | refine op_load ?_ (hm := Sub.mem (by assumption) (by (repeat (apply List.mem_cons_of_mem)); assumption)) | refine op_load_agg ?_ (hm := Sub.mem (by assumption) (by (repeat (apply List.mem_cons_of_mem)); assumption)) | refine op_loadH hG rfl ?_ | refine op_load_aggH hG rfl ?_); exact ⟨[], rfl, rfl, rfl⟩)
  · simp only [withD, nthD, Step2, nthDst, putO, postD]
    (refine op_move ?_; exact ⟨[], rfl, rfl, rfl⟩)
  · simp only [withD, nthD, Step2, nthDst, putO, postD]
    ((first | refine op_indexC ?_ | refine op_indexAddr1 ?_ | refine op_indexAddr ?_); exact ⟨[], rfl, rfl, rfl⟩)
  · simp only [withD, nthD, Step2, nthDst, putO, postD]
    ((first | refine op_load ?_ | refine op_load_agg ?_ | refine op_load ?_ (hm := Sub.mem (by assumption) (by (repeat (apply List.mem_cons_of_mem)); assumption)) | refine op_load_agg ?_ (hm := Sub.mem (by assumption) (by (repeat (apply List.mem_cons_of_mem)); assumption)) | refine op_loadH hG rfl ?_ | refine op_load_aggH hG rfl ?_); exact ⟨[], rfl, rfl, rfl⟩)
  · simp only [withD, nthD, Step2, nthDst, putO, postD]
    (refine op_farithF ?_; exact ⟨[], rfl, rfl, rfl⟩)
  · simp only [withD, nthD, Step2, nthDst, putO, postD]
    (refine op_move ?_; exact ⟨[], rfl, rfl, rfl⟩)
  · simp only [withD, nthD, Step2, nthDst, putO, postD]
    ((first | refine op_indexC ?_ | refine op_indexAddr1 ?_ | refine op_indexAddr ?_); exact ⟨[], rfl, rfl, rfl⟩)
  · simp only [withD, nthD, Step2, nthDst, putO, postD]
    ((first | refine op_load ?_ | refine op_load_agg ?_ | refine op_load ?_ (hm := Sub.mem (by assumption) (by (repeat (apply List.mem_cons_of_mem)); assumption)) | refine op_load_agg ?_ (hm := Sub.mem (by assumption) (by (repeat (apply List.mem_cons_of_mem)); assumption)) | refine op_loadH hG rfl ?_ | refine op_load_aggH hG rfl ?_); exact ⟨[], rfl, rfl, rfl⟩)
  · simp only [withD, nthD, Step2, nthDst, putO, postD]
    (refine op_move ?_; exact ⟨[], rfl, rfl, rfl⟩)
  · simp only [withD, nthD, Step2, nthDst, putO, postD]
    ((first | refine op_indexC ?_ | refine op_indexAddr1 ?_ | refine op_indexAddr ?_); exact ⟨[], rfl, rfl, rfl⟩)
  · simp only [withD, nthD, Step2, nthDst, putO, postD]
    ((first | refine op_load ?_ | refine op_load_agg ?_ | refine op_load ?_ (hm := Sub.mem (by assumption) (by (repeat (apply List.mem_cons_of_mem)); assumption)) | refine op_load_agg ?_ (hm := Sub.mem (by assumption) (by (repeat (apply List.mem_cons_of_mem)); assumption)) | refine op_loadH hG rfl ?_ | refine op_load_aggH hG rfl ?_); exact ⟨[], rfl, rfl, rfl⟩)
  · simp only [withD, nthD, Step2, nthDst, putO, postD]
    (refine op_farithF ?_; exact ⟨[], rfl, rfl, rfl⟩)
  · simp only [withD, nthD, Step2, nthDst, putO, postD]
    (refine op_farithF ?_; exact ⟨[], rfl, rfl, rfl⟩)
  simp only [FinalsD, nthDst, putO, List.drop_succ_cons, List.drop_zero]
  rintro -
  repeat' first
    | (refine op_farithF (op := .sub) (u := fop .mul (fop .sub ax px) (fop .sub by' py)) ?_)
    | (refine op_call ((basedOn _ B3 _ _ e7).mono ?_); rintro _ _ ⟨rfl, rfl⟩)
    | (refine op_load (k := 1) ?_ (hm := hE))
    | (first | refine tc_seq ?_ | refine tc_region ?_ | refine at_seq_normal ?_ | refine tl_nil ?_ | refine tl_cons ?_ | refine op_move ?_ | refine op_assign ?_ | refine op_load ?_ | refine op_load_agg ?_ | refine op_indexC ?_ | refine op_indexAddr1 ?_ | refine op_indexAddr ?_ | refine op_fcmp ?_ | refine op_unop_neg_float ?_ | refine op_unop_neg_int ?_ | refine op_pick_true ?_ | refine op_pick_false ?_ | refine op_pick_true' ?_ | refine op_pick_false' ?_ | (refine op_farith ?_; intro _ _) | refine op_loadK rfl ?_ | refine op_load_aggK rfl ?_ | refine tc_cond_t ?_ | refine tc_cond_f ?_ | refine tc_cond (fun _ => ?_) (fun _ => ?_) | refine tc_block ?_ | refine tc_skip ?_ | refine tc_ret ?_ | refine at_seq_ret ?_ | refine at_block_normal ?_ | refine at_block_ret ?_ | refine tl_guard_yes ?_ | refine tl_guard_no ?_ | refine tl_guard_yes' ?_ | refine tl_guard_no' ?_ | refine tl_guard_undef ?_ | refine tl_guard_split (fun _ => ?_) (fun _ => ?_) | fail)
    | fail
  all_goals first
    | exact ret_tmp (hk := ⟨.inr rfl, rfl⟩)
    | exact ret_tmp (hk := ⟨.inl rfl, rfl⟩)
theorem cross_eq (aX aY bX bY pX pY : Int) : (bX - aX) * (pY - bY) - (bY - aY) * (pX - bX) = (aX - pX) * (bY - pY) - (aY - pY) * (bX - pX) := by grind
set_option maxHeartbeats 16000000 in
theorem index (k1 o1 c1 k2 o2 c2 k3 o3 c3 : Nat) (l1 l2 l3 : List Value) (T1 T2 T3 : TypeId) (z1 z2 z3 : Nat × Nat) (ax ay bx by' px py : Nat) (aX aY bX bY pX pY : Int) (H : Heap)
    (m1 : (k1, Obj.cells ⟨l1⟩ T1 z1) ∈ H) (m2 : (k2, Obj.cells ⟨l2⟩ T2 z2) ∈ H) (m3 : (k3, Obj.cells ⟨l3⟩ T3 z3) ∈ H)
    (g1 : l1[o1 + 0]? = some (.float .f64 ax)) (g2 : l1[o1 + 1]? = some (.float .f64 ay)) (g3 : l2[o2 + 0]? = some (.float .f64 bx)) (g4 : l2[o2 + 1]? = some (.float .f64 by')) (g5 : l3[o3 + 0]? = some (.float .f64 px)) (g6 : l3[o3 + 1]? = some (.float .f64 py))
    (fax : FI 33554432 ax aX) (fay : FI 33554432 ay aY) (fbx : FI 33554432 bx bX) (fby : FI 33554432 by' bY) (fpx : FI 33554432 px pX) (fpy : FI 33554432 py pY) (hE : Eps H) :
    Does Try.prog 73 [.slice (some ⟨k1, o1, none⟩) 2 c1, .slice (some ⟨k2, o2, none⟩) 2 c2, .slice (some ⟨k3, o3, none⟩) 2 c3] H fun w H' => w = .int .i64 (sg ((aX - pX) * (bY - pY) - (aY - pY) * (bX - pX))) ∧ H' = H := by
  obtain ⟨q1, e1⟩ := FI.subF (C := B1) fbx fax (by decide)
  obtain ⟨q2, e2⟩ := FI.subF (C := B1) fpy fby (by decide)
  obtain ⟨q4, e4⟩ := FI.subF (C := B1) fby fay (by decide)
  obtain ⟨q5, e5⟩ := FI.subF (C := B1) fpx fbx (by decide)
  obtain ⟨q3, e3⟩ := FI.mulF (C := B2) e1 e2 (by decide)
  obtain ⟨q6, e6⟩ := FI.mulF (C := B2) e4 e5 (by decide)
  obtain ⟨q7, e7⟩ := FI.subF (C := B3) e3 e6 (by decide)
  rw [cross_eq] at e7
  have hsl := sg_le ((aX - pX) * (bY - pY) - (aY - pY) * (bX - pX))
  refine fn_enter 59 Try.func73 fun W => ?_
  repeat' first
    | (refine op_call ((filter k1 o1 c1 k2 o2 c2 k3 o3 c3 l1 l2 l3 T1 T2 T3 z1 z2 z3 ax ay bx by' px py aX aY bX bY pX pY _ m1 m2 m3 g1 g2 g3 g4 g5 g6 fax fay fbx fby fpx fpy hE).mono ?_); rintro _ _ ⟨rfl | rfl, rfl⟩)
    | (first | refine tc_seq ?_ | refine tc_region ?_ | refine at_seq_normal ?_ | refine tl_nil ?_ | refine tl_cons ?_ | refine op_move ?_ | refine op_assign ?_ | refine op_load ?_ | refine op_load_agg ?_ | refine op_indexC ?_ | refine op_indexAddr1 ?_ | refine op_indexAddr ?_ | refine op_icmp ?_ | refine op_fcmp ?_ | refine op_iarith ?_ | refine op_bcmp ?_ | refine op_ptr_nil ?_ | refine op_iquo ?_ | refine op_irem ?_ | refine op_ibits ?_ | refine op_slice_isnil ?_ | refine op_slice_notnil ?_ | refine op_shl ?_ | refine op_shr ?_ | (refine op_farith ?_; intro _ _) | refine op_loadK rfl ?_ | refine op_load_aggK rfl ?_ | refine tc_cond_t ?_ | refine tc_cond_f ?_ | refine tc_cond (fun _ => ?_) (fun _ => ?_) | refine tc_skip ?_ | refine tc_ret ?_ | refine at_seq_ret ?_ | fail)
    | fail
  rotate_left
  · exact ret_tmp (hk := ⟨rfl, rfl⟩)
  apply fun hole0 hole1 hole2 hole3 hole4 hole5 hE hD hml hdl hpr prem fin => tc_drawnD 7 [PhiD.is hole0, PhiD.is hole1, PhiD.is hole2, PhiD.is hole3, PhiD.is hole4, PhiD.is hole5, PhiD.is (.float .f64 (fop .sub bx ax))]
    [some 21, some 22, some 23, some 24, some 25, some 26, some 27, some 8] [[], [0], [1], [], [3], [4], [2, 5]] mixed trivial prem fin hE hD rfl hml hdl hpr
  rotate_left 7
  · first | kernel_rfl | exact rfl
  · first | kernel_rfl | exact rfl
  · exact Nat.le_of_ble_eq_true rfl
  · first | kernel_rfl | exact rfl
  · first | kernel_rfl | exact rfl
  refine ⟨fun G hG => ?_, fun G hG => ?_, fun G hG => ?_, fun G hG => ?_, fun G hG => ?_, fun G hG => ?_, fun G hG => ?_, trivial⟩
  · simp only [withD, nthD, Step2, nthDst, putO, postD]
    (refine op_move ?_; exact ⟨[], rfl, rfl, rfl⟩)
  · simp only [withD, nthD, Step2, nthDst, putO, postD]
    ((first | refine op_indexC ?_ | refine op_indexAddr1 ?_ | refine op_indexAddr ?_); exact ⟨[], rfl, rfl, rfl⟩)
  · simp only [withD, nthD, Step2, nthDst, putO, postD]
    ((first | refine op_load ?_ | refine op_load_agg ?_ | refine op_load ?_ (hm := Sub.mem (by assumption) (by (repeat (apply List.mem_cons_of_mem)); assumption)) | refine op_load_agg ?_ (hm := Sub.mem (by assumption) (by (repeat (apply List.mem_cons_of_mem)); assumption)) | refine op_loadH hG rfl ?_ | refine op_load_aggH hG rfl ?_); exact ⟨[], rfl, rfl, rfl⟩)
  · simp only [withD, nthD, Step2, nthDst, putO, postD]
    (refine op_move ?_; exact ⟨[], rfl, rfl, rfl⟩)
  · simp only [withD, nthD, Step2, nthDst, putO, postD]
    ((first | refine op_indexC ?_ | refine op_indexAddr1 ?_ | refine op_indexAddr ?_); exact ⟨[], rfl, rfl, rfl⟩)
  · simp only [withD, nthD, Step2, nthDst, putO, postD]
    ((first | refine op_load ?_ | refine op_load_agg ?_ | refine op_load ?_ (hm := Sub.mem (by assumption) (by (repeat (apply List.mem_cons_of_mem)); assumption)) | refine op_load_agg ?_ (hm := Sub.mem (by assumption) (by (repeat (apply List.mem_cons_of_mem)); assumption)) | refine op_loadH hG rfl ?_ | refine op_load_aggH hG rfl ?_); exact ⟨[], rfl, rfl, rfl⟩)
  · simp only [withD, nthD, Step2, nthDst, putO, postD]
    (refine op_farithF ?_; exact ⟨[], rfl, rfl, rfl⟩)
  simp only [FinalsD, nthDst, putO, List.drop_succ_cons, List.drop_zero]
  rintro -
  repeat' first
    | refine tc_seq ?_ | refine tc_region ?_ | refine at_seq_normal ?_ | refine tl_nil ?_ | refine tl_cons ?_ | refine op_move ?_ | refine op_assign ?_ | refine op_load ?_ | refine op_load_agg ?_ | refine op_indexC ?_
    | refine op_indexAddr1 ?_ | refine op_indexAddr ?_ | refine op_icmp ?_ | refine op_fcmp ?_ | refine op_iarith ?_ | refine op_bcmp ?_ | refine op_ptr_nil ?_ | refine op_iquo ?_ | refine op_irem ?_ | refine op_ibits ?_
    | refine op_slice_isnil ?_ | refine op_slice_notnil ?_ | refine op_shl ?_ | refine op_shr ?_ | (refine op_farith ?_; intro _ _) | refine op_loadK rfl ?_ | refine op_load_aggK rfl ?_ | refine tc_cond_t ?_ | refine tc_cond_f ?_ | refine tc_cond (fun _ => ?_) (fun _ => ?_)
    | refine tc_skip ?_ | refine tc_ret ?_ | refine at_seq_ret ?_
  apply fun hole0 hole1 hole2 hole3 hole4 hole5 hE hD hml hdl hpr prem fin => tc_drawnD 7 [PhiD.is hole0, PhiD.is hole1, PhiD.is hole2, PhiD.is hole3, PhiD.is hole4, PhiD.is hole5, PhiD.is (.float .f64 (fop .sub by' ay))]
    [some 28, some 29, some 30, some 31, some 32, some 33, some 34, some 9] [[], [0], [1], [], [3], [4], [2, 5]] mixed trivial prem fin hE hD rfl hml hdl hpr
  rotate_left 7
  · first | kernel_rfl | exact rfl
  · first | kernel_rfl | exact rfl
  · exact Nat.le_of_ble_eq_true rfl
  · first | kernel_rfl | exact rfl
  · first | kernel_rfl | exact rfl
  refine ⟨fun G hG => ?_, fun G hG => ?_, fun G hG => ?_, fun G hG => ?_, fun G hG => ?_, fun G hG => ?_, fun G hG => ?_, trivial⟩
  · simp only [withD, nthD, Step2, nthDst, putO, postD]
    (refine op_move ?_; exact ⟨[], rfl, rfl, rfl⟩)
  · simp only [withD, nthD, Step2, nthDst, putO, postD]
    ((first | refine op_indexC ?_ | refine op_indexAddr1 ?_ | refine op_indexAddr ?_); exact ⟨[], rfl, rfl, rfl⟩)
  · simp only [withD, nthD, Step2, nthDst, putO, postD]
    ((first | refine op_load ?_ | refine op_load_agg ?_ | refine op_load ?_ (hm := Sub.mem (by assumption) (by (repeat (apply List.mem_cons_of_mem)); assumption)) | refine op_load_agg ?_ (hm := Sub.mem (by assumption) (by (repeat (apply List.mem_cons_of_mem)); assumption)) | refine op_loadH hG rfl ?_ | refine op_load_aggH hG rfl ?_); exact ⟨[], rfl, rfl, rfl⟩)
  · simp only [withD, nthD, Step2, nthDst, putO, postD]
    (refine op_move ?_; exact ⟨[], rfl, rfl, rfl⟩)
  · simp only [withD, nthD, Step2, nthDst, putO, postD]
    ((first | refine op_indexC ?_ | refine op_indexAddr1 ?_ | refine op_indexAddr ?_); exact ⟨[], rfl, rfl, rfl⟩)
  · simp only [withD, nthD, Step2, nthDst, putO, postD]
    ((first | refine op_load ?_ | refine op_load_agg ?_ | refine op_load ?_ (hm := Sub.mem (by assumption) (by (repeat (apply List.mem_cons_of_mem)); assumption)) | refine op_load_agg ?_ (hm := Sub.mem (by assumption) (by (repeat (apply List.mem_cons_of_mem)); assumption)) | refine op_loadH hG rfl ?_ | refine op_load_aggH hG rfl ?_); exact ⟨[], rfl, rfl, rfl⟩)
  · simp only [withD, nthD, Step2, nthDst, putO, postD]
    (refine op_farithF ?_; exact ⟨[], rfl, rfl, rfl⟩)
  simp only [FinalsD, nthDst, putO, List.drop_succ_cons, List.drop_zero]
  rintro -
  repeat' first
    | refine tc_seq ?_ | refine tc_region ?_ | refine at_seq_normal ?_ | refine tl_nil ?_ | refine tl_cons ?_ | refine op_move ?_ | refine op_assign ?_ | refine op_load ?_ | refine op_load_agg ?_ | refine op_indexC ?_
    | refine op_indexAddr1 ?_ | refine op_indexAddr ?_ | refine op_icmp ?_ | refine op_fcmp ?_ | refine op_iarith ?_ | refine op_bcmp ?_ | refine op_ptr_nil ?_ | refine op_iquo ?_ | refine op_irem ?_ | refine op_ibits ?_
    | refine op_slice_isnil ?_ | refine op_slice_notnil ?_ | refine op_shl ?_ | refine op_shr ?_ | (refine op_farith ?_; intro _ _) | refine op_loadK rfl ?_ | refine op_load_aggK rfl ?_ | refine tc_cond_t ?_ | refine tc_cond_f ?_ | refine tc_cond (fun _ => ?_) (fun _ => ?_)
    | refine tc_skip ?_ | refine tc_ret ?_ | refine at_seq_ret ?_
  apply fun hole0 hole1 hole2 hole3 hole4 hole5 hE hD hml hdl hpr prem fin => tc_drawnD 7 [PhiD.is hole0, PhiD.is hole1, PhiD.is hole2, PhiD.is hole3, PhiD.is hole4, PhiD.is hole5, PhiD.is (.float .f64 (fop .sub px bx))]
    [some 35, some 36, some 37, some 38, some 39, some 40, some 41, some 10] [[], [0], [1], [], [3], [4], [2, 5]] mixed trivial prem fin hE hD rfl hml hdl hpr
  rotate_left 7
  · first | kernel_rfl | exact rfl
  · first | kernel_rfl | exact rfl
  · exact Nat.le_of_ble_eq_true rfl
  · first | kernel_rfl | exact rfl
  · first | kernel_rfl | exact rfl
  refine ⟨fun G hG => ?_, fun G hG => ?_, fun G hG => ?_, fun G hG => ?_, fun G hG => ?_, fun G hG => ?_, fun G hG => ?_, trivial⟩
  · simp only [withD, nthD, Step2, nthDst, putO, postD]
    (refine op_move ?_; exact ⟨[], rfl, rfl, rfl⟩)
  · simp only [withD, nthD, Step2, nthDst, putO, postD]
    ((first | refine op_indexC ?_ | refine op_indexAddr1 ?_ | refine op_indexAddr ?_); exact ⟨[], rfl, rfl, rfl⟩)
  · simp only [withD, nthD, Step2, nthDst, putO, postD]
    ((first | refine op_load ?_ | refine op_load_agg ?_ | refine op_load ?_ (hm := Sub.mem (by assumption) (by (repeat (apply List.mem_cons_of_mem)); assumption)) | refine op_load_agg ?_ (hm := Sub.mem (by assumption) (by (repeat (apply List.mem_cons_of_mem)); assumption)) | refine op_loadH hG rfl ?_ | refine op_load_aggH hG rfl ?_); exact ⟨[], rfl, rfl, rfl⟩)
  · simp only [withD, nthD, Step2, nthDst, putO, postD]
    (refine op_move ?_; exact ⟨[], rfl, rfl, rfl⟩)
  · simp only [withD, nthD, Step2, nthDst, putO, postD]
    ((first | refine op_indexC ?_ | refine op_indexAddr1 ?_ | refine op_indexAddr ?_); exact ⟨[], rfl, rfl, rfl⟩)
  · simp only [withD, nthD, Step2, nthDst, putO, postD]
    ((first | refine op_load ?_ | refine op_load_agg ?_ | refine op_load ?_ (hm := Sub.mem (by assumption) (by (repeat (apply List.mem_cons_of_mem)); assumption)) | refine op_load_agg ?_ (hm := Sub.mem (by assumption) (by (repeat (apply List.mem_cons_of_mem)); assumption)) | refine op_loadH hG rfl ?_ | refine op_load_aggH hG rfl ?_); exact ⟨[], rfl, rfl, rfl⟩)
  · simp only [withD, nthD, Step2, nthDst, putO, postD]
    (refine op_farithF ?_; exact ⟨[], rfl, rfl, rfl⟩)
  simp only [FinalsD, nthDst, putO, List.drop_succ_cons, List.drop_zero]
  rintro -
  repeat' first
    | refine tc_seq ?_ | refine tc_region ?_ | refine at_seq_normal ?_ | refine tl_nil ?_ | refine tl_cons ?_ | refine op_move ?_ | refine op_assign ?_ | refine op_load ?_ | refine op_load_agg ?_ | refine op_indexC ?_
    | refine op_indexAddr1 ?_ | refine op_indexAddr ?_ | refine op_icmp ?_ | refine op_fcmp ?_ | refine op_iarith ?_ | refine op_bcmp ?_ | refine op_ptr_nil ?_ | refine op_iquo ?_ | refine op_irem ?_ | refine op_ibits ?_
    | refine op_slice_isnil ?_ | refine op_slice_notnil ?_ | refine op_shl ?_ | refine op_shr ?_ | (refine op_farith ?_; intro _ _) | refine op_loadK rfl ?_ | refine op_load_aggK rfl ?_ | refine tc_cond_t ?_ | refine tc_cond_f ?_ | refine tc_cond (fun _ => ?_) (fun _ => ?_)
    | refine tc_skip ?_ | refine tc_ret ?_ | refine at_seq_ret ?_
  apply fun hole0 hole1 hole2 hole3 hole4 hole5 hE hD hml hdl hpr prem fin => tc_drawnD 7 [PhiD.is hole0, PhiD.is hole1, PhiD.is hole2, PhiD.is hole3, PhiD.is hole4, PhiD.is hole5, PhiD.is (.float .f64 (fop .sub py by'))]
    [some 42, some 43, some 44, some 45, some 46, some 47, some 48, some 11] [[], [0], [1], [], [3], [4], [2, 5]] mixed trivial prem fin hE hD rfl hml hdl hpr
  rotate_left 7
  · first | kernel_rfl | exact rfl
  · first | kernel_rfl | exact rfl
  · exact Nat.le_of_ble_eq_true rfl
  · first | kernel_rfl | exact rfl
  · first | kernel_rfl | exact rfl
  refine ⟨fun G hG => ?_, fun G hG => ?_, fun G hG => ?_, fun G hG => ?_, fun G hG => ?_, fun G hG => ?_, fun G hG => ?_, trivial⟩
  · simp only [withD, nthD, Step2, nthDst, putO, postD]
    (refine op_move ?_; exact ⟨[], rfl, rfl, rfl⟩)
  · simp only [withD, nthD, Step2, nthDst, putO, postD]
    ((first | refine op_indexC ?_ | refine op_indexAddr1 ?_ | refine op_indexAddr ?_); exact ⟨[], rfl, rfl, rfl⟩)
  · simp only [withD, nthD, Step2, nthDst, putO, postD]
    ((first | refine op_load ?_ | refine op_load_agg ?_ | refine op_load ?_ (hm := Sub.mem (by assumption) (by (repeat (apply List.mem_cons_of_mem)); assumption)) | refine op_load_agg ?_ (hm := Sub.mem (by assumption) (by (repeat (apply List.mem_cons_of_mem)); assumption)) | refine op_loadH hG rfl ?_ | refine op_load_aggH hG rfl ?_); exact ⟨[], rfl, rfl, rfl⟩)
  · simp only [withD, nthD, Step2, nthDst, putO, postD]
    (refine op_move ?_; exact ⟨[], rfl, rfl, rfl⟩)
  · simp only [withD, nthD, Step2, nthDst, putO, postD]
    ((first | refine op_indexC ?_ | refine op_indexAddr1 ?_ | refine op_indexAddr ?_); exact ⟨[], rfl, rfl, rfl⟩)
  · simp only [withD, nthD, Step2, nthDst, putO, postD]
    ((first | refine op_load ?_ | refine op_load_agg ?_ | refine op_load ?_ (hm := Sub.mem (by assumption) (by (repeat (apply List.mem_cons_of_mem)); assumption)) | refine op_load_agg ?_ (hm := Sub.mem (by assumption) (by (repeat (apply List.mem_cons_of_mem)); assumption)) | refine op_loadH hG rfl ?_ | refine op_load_aggH hG rfl ?_); exact ⟨[], rfl, rfl, rfl⟩)
  · simp only [withD, nthD, Step2, nthDst, putO, postD]
    (refine op_farithF ?_; exact ⟨[], rfl, rfl, rfl⟩)
  simp only [FinalsD, nthDst, putO, List.drop_succ_cons, List.drop_zero]
  rintro -
  repeat' first
    | (refine op_farithF (op := .mul) ?_)
    | (refine op_farithF (op := .sub) (u := fop .mul (fop .sub bx ax) (fop .sub py by')) ?_)
    | (refine op_call ((basedOn _ B3 _ _ e7).mono ?_); rintro _ _ ⟨rfl, rfl⟩)
    | (first | refine tc_seq ?_ | refine tc_region ?_ | refine at_seq_normal ?_ | refine tl_nil ?_ | refine tl_cons ?_ | refine op_move ?_ | refine op_assign ?_ | refine op_load ?_ | refine op_load_agg ?_ | refine op_indexC ?_ | refine op_indexAddr1 ?_ | refine op_indexAddr ?_ | refine op_icmp ?_ | refine op_fcmp ?_ | refine op_iarith ?_ | refine op_bcmp ?_ | refine op_ptr_nil ?_ | refine op_iquo ?_ | refine op_irem ?_ | refine op_ibits ?_ | refine op_slice_isnil ?_ | refine op_slice_notnil ?_ | refine op_shl ?_ | refine op_shr ?_ | (refine op_farith ?_; intro _ _) | refine op_loadK rfl ?_ | refine op_load_aggK rfl ?_ | refine tc_cond_t ?_ | refine tc_cond_f ?_ | refine tc_cond (fun _ => ?_) (fun _ => ?_) | refine tc_skip ?_ | refine tc_ret ?_ | refine at_seq_ret ?_ | fail)
    | fail
  exact ret_tmp (hk := ⟨rfl, rfl⟩)
end Go.Proofs.Ythafjfgmbmpfoaa.Ori5
