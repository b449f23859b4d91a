/-
  Places in space: what the statements ask of them; distances of whole places; exact places in space. No conditions.
-/
import Derived.Test.YtomhkbijijdghaaDyf2
import Derived.Test.YtomhkbijijdghaaFl11
import Derived.Test.YtomhkbijijdghaaLg13
set_option linter.unusedVariables false
set_option linter.unusedSimpArgs false
namespace Go.Proofs.Ytomhkbijijdghaa.Spc
open Go.Lg Go.Proofs.Ytomhkbijijdghaa.Pl Go.Proofs.Ytomhkbijijdghaa.Lmb

abbrev c3 (x y z : Nat) : Obj := .cells ⟨[.float .f64 x, .float .f64 y, .float .f64 z]⟩ 36 (0, 0)
abbrev s3 (k : Nat) : Value := .slice (some ⟨k, 0, none⟩) 3 3
abbrev v3 (x y z : Nat) : Value := .agg ⟨[.float .f64 x, .float .f64 y, .float .f64 z]⟩
theorem fv_m20 : Fv 4517110426252607488 (p2 (-20)) := ⟨false, 4503599627370496, -72, rfl, by
  have e : ((4503599627370496 : Nat) : Rat) = p2 52 := (p2_toNat (e := 52) (by decide)).symm
  have := p2_mul (a := 52) (b := -72) (c := -20) (by decide)
  rw [e]; unfold sgn; grind⟩
theorem nearTo (x y : Nat) (a b : Rat) (H : Heap) (hx : Fv x a) (hy : Fv y b) (h : rabs (a - b) ≤ p2 (-22)) : Does Try.prog 27 [.float .f64 x, .float .f64 y] H fun w H' => w = .bool true ∧ H' = H := by
  refine fn_enter 10 Try.func27 fun W => ?_
  repeat' first
    | (first | refine tl_defer ?_ | refine tc_seq ?_ | refine tc_region ?_ | refine at_seq_normal ?_ | refine tl_nil ?_ | refine tl_cons ?_ | refine tl_cons_none ?_ | refine op_move ?_ | refine op_assign ?_ | refine op_fieldAddr ?_ | refine op_load ?_ | refine op_load_agg ?_ | refine op_indexC ?_ | refine op_indexAddr1 ?_ | refine op_indexAddr ?_ | refine op_icmp ?_ | refine op_fcmp ?_ | refine op_iarith ?_ | refine op_bcmp ?_ | refine op_unop_not ?_ | refine op_unop_neg_float ?_ | refine op_unop_neg_int ?_ | refine op_len_slice ?_ | refine op_pick_true ?_ | refine op_pick_false ?_ | refine op_pick_true' ?_ | refine op_pick_false' ?_ | refine op_build ?_ | refine op_extract ?_ | refine op_makeInterface ?_ | refine op_typeAssert ?_ | refine op_ptr_nil ?_ | refine op_nilCheck_ptr ?_ | refine op_nilCheck_meth ?_ | refine op_makeMeth ?_ | refine op_makeFunc ?_ | refine op_itof ?_ | refine op_itoi ?_ | refine op_ftoi ?_ | refine op_iquo ?_ | refine op_irem ?_ | refine op_ibits ?_ | refine op_slice_isnil ?_ | refine op_slice_notnil ?_ | refine op_imax ?_ | refine op_imin ?_ | refine op_shl ?_ | refine op_shr ?_ | (refine op_alloc ?_; intro _) | (refine op_box ?_; intro _) | (refine op_buildSlice ?_; intro _) | (refine op_farith ?_; intro _ _) | refine op_store0 ?_ | refine op_store1 ?_ | refine op_store2 ?_ | refine op_store3 ?_ | refine op_store4 ?_ | refine op_store5 ?_ | refine op_storeK rfl ?_ | refine op_loadK rfl ?_ | refine op_load_aggK rfl ?_ | refine tc_cond_t ?_ | refine tc_cond_f ?_ | refine tc_cond (fun _ => ?_) (fun _ => ?_) | refine tc_block ?_ | refine tc_skip ?_ | refine tc_ret ?_ | refine tc_exit ?_ | refine tc_label ?_ | refine at_seq_ret ?_ | refine at_seq_exit ?_ | refine at_block_normal ?_ | refine at_block_ret ?_ | refine at_block_exit_self ?_ | refine at_block_exit_ne ?_ | refine at_loop_ret ?_ | refine at_loop_exit ?_ | refine at_loop_goto ?_ | refine tl_guard_yes ?_ | refine tl_guard_no ?_ | refine tl_guard_yes' ?_ | refine tl_guard_no' ?_ | refine tl_guard_undef ?_ | refine tl_guard_split (fun _ => ?_) (fun _ => ?_))
    | (refine op_call ((abs _ _).mono ?_); rintro _ _ ⟨rfl, rfl⟩)
  rename_i r hr _
  have h1 := le_rabs (a - b)
  have h2 := p2_lt (show (-22 : Int) < 1023 by decide)
  obtain ⟨c, hc, hrd⟩ := far_sub hr hx hy (by clear hr hx hy; generalize p2 (-22) = z at *; generalize p2 1023 = y at *; grind) (by clear hr hx hy; generalize p2 (-22) = z at *; generalize p2 1023 = y at *; grind)
  clear h2
  have h3 := hrd.abs_le
  have h4 : p2 (-20) = p2 (-21) + p2 (-21) := p2_half (by decide)
  have h5 : p2 (-21) = p2 (-22) + p2 (-22) := p2_half (by decide)
  have h6 := p2_lt (show (-1000 : Int) < -22 by decide)
  have h7 := p2_pos (-22)
  refine ret_tmp (hk := ⟨congrArg Value.bool ?_, rfl⟩)
  rw [fcmp_lss hc.abs fv_m20]
  refine decide_eq_true ?_
  generalize p2 (-1000) = z at *
  clear hrd hc hr hx hy
  grind
theorem sqrt0 (x : Nat) (H : Heap) : Does Try.prog 79 [.float .f64 x] H fun v H' => (∃ r, v = .float .f64 r ∧ SqrtR x r) ∧ H' = H :=
  does_sqrt Try.func79 rfl rfl (by kernel_rfl) (by kernel_rfl)
theorem sqrt (x : Nat) (H : Heap) : Does Try.prog 29 [.float .f64 x] H fun v H' => (∃ r, v = .float .f64 r ∧ SqrtR x r) ∧ H' = H := by
  refine fn_enter 5 Try.func29 fun W => ?_
  repeat' first
    | (first | refine tl_defer ?_ | refine tc_seq ?_ | refine tc_region ?_ | refine at_seq_normal ?_ | refine tl_nil ?_ | refine tl_cons ?_ | refine tl_cons_none ?_ | refine op_move ?_ | refine op_assign ?_ | refine op_fieldAddr ?_ | refine op_load ?_ | refine op_load_agg ?_ | refine op_indexC ?_ | refine op_indexAddr1 ?_ | refine op_indexAddr ?_ | refine op_icmp ?_ | refine op_fcmp ?_ | refine op_iarith ?_ | refine op_bcmp ?_ | refine op_unop_not ?_ | refine op_unop_neg_float ?_ | refine op_unop_neg_int ?_ | refine op_len_slice ?_ | refine op_pick_true ?_ | refine op_pick_false ?_ | refine op_pick_true' ?_ | refine op_pick_false' ?_ | refine op_build ?_ | refine op_extract ?_ | refine op_makeInterface ?_ | refine op_typeAssert ?_ | refine op_ptr_nil ?_ | refine op_nilCheck_ptr ?_ | refine op_nilCheck_meth ?_ | refine op_makeMeth ?_ | refine op_makeFunc ?_ | refine op_itof ?_ | refine op_itoi ?_ | refine op_ftoi ?_ | refine op_iquo ?_ | refine op_irem ?_ | refine op_ibits ?_ | refine op_slice_isnil ?_ | refine op_slice_notnil ?_ | refine op_imax ?_ | refine op_imin ?_ | refine op_shl ?_ | refine op_shr ?_ | (refine op_alloc ?_; intro _) | (refine op_box ?_; intro _) | (refine op_buildSlice ?_; intro _) | (refine op_farith ?_; intro _ _) | refine op_store0 ?_ | refine op_store1 ?_ | refine op_store2 ?_ | refine op_store3 ?_ | refine op_store4 ?_ | refine op_store5 ?_ | refine op_storeK rfl ?_ | refine op_loadK rfl ?_ | refine op_load_aggK rfl ?_ | refine tc_cond_t ?_ | refine tc_cond_f ?_ | refine tc_cond (fun _ => ?_) (fun _ => ?_) | refine tc_block ?_ | refine tc_skip ?_ | refine tc_ret ?_ | refine tc_exit ?_ | refine tc_label ?_ | refine at_seq_ret ?_ | refine at_seq_exit ?_ | refine at_block_normal ?_ | refine at_block_ret ?_ | refine at_block_exit_self ?_ | refine at_block_exit_ne ?_ | refine at_loop_ret ?_ | refine at_loop_exit ?_ | refine at_loop_goto ?_ | refine tl_guard_yes ?_ | refine tl_guard_no ?_ | refine tl_guard_yes' ?_ | refine tl_guard_no' ?_ | refine tl_guard_undef ?_ | refine tl_guard_split (fun _ => ?_) (fun _ => ?_))
    | (refine op_call ((sqrt0 _ _).mono ?_); rintro _ _ ⟨⟨r, rfl, hr⟩, rfl⟩)
  exact ret_tmp (hk := ⟨⟨r, rfl, hr⟩, rfl⟩)
/-- A root of a whole number, as the machine has it. -/
def Root (r : Nat) (n : Int) : Prop := ∃ c, Fv r c ∧ 0 ≤ c ∧ Rl (p2 (-51)) (c * c) (n : Rat)
theorem root_near {r s : Nat} {n : Int} (h1 : Root r n) (h2 : Root s n) (h0 : 0 ≤ n) (hn : n ≤ 17592186044416) : ∃ a b, Fv r a ∧ Fv s b ∧ rabs (a - b) ≤ p2 (-22) := by
  obtain ⟨a, a1, a2, a3⟩ := h1
  obtain ⟨b, b1, b2, b3⟩ := h2
  refine ⟨a, b, a1, b1, ?_⟩
  have hM : (n : Rat) ≤ p2 22 * p2 22 := by
    rw [p2_mul (c := 44) (by decide), p2_toNat (e := 44) (by decide), ← Rat.intCast_natCast]
    exact Rat.intCast_le_intCast.2 hn
  have h := near_roots a2 b2 a3 b3 (by exact_mod_cast h0) (Rat.le_of_lt (p2_pos _)) (p2_le (by decide)) (p2_pos 22) hM
  have e8 : (8 : Rat) = p2 3 := by rw [p2_toNat (e := 3) (by decide)]; rfl
  rw [e8, p2_mul (c := -48) (by decide), p2_mul (c := -26) (by decide)] at h
  exact Rat.le_trans h (p2_le (by decide))
theorem isNaNb (x : Nat) (b : Bool) (H : Heap) (h : fcmp .neq x x = b) : Does Try.prog 118 [.float .f64 x] H fun w H' => w = .bool b ∧ H' = H := by
  refine fn_enter 6 Try.func118 fun W => ?_
  repeat'
    first
      | refine tl_defer ?_ | refine tc_seq ?_ | refine tc_region ?_ | refine at_seq_normal ?_ | refine tl_nil ?_ | refine tl_cons ?_ | refine tl_cons_none ?_ | refine op_move ?_
      | refine op_assign ?_ | refine op_fieldAddr ?_ | refine op_load ?_ | refine op_load_agg ?_ | refine op_indexC ?_ | refine op_indexAddr1 ?_ | refine op_indexAddr ?_ | refine op_icmp ?_
      | refine op_fcmp ?_ | refine op_iarith ?_ | refine op_bcmp ?_ | refine op_unop_not ?_ | refine op_unop_neg_float ?_ | refine op_unop_neg_int ?_ | refine op_len_slice ?_ | refine op_pick_true ?_
      | refine op_pick_false ?_ | refine op_pick_true' ?_ | refine op_pick_false' ?_ | refine op_build ?_ | refine op_extract ?_ | refine op_makeInterface ?_ | refine op_typeAssert ?_ | refine op_ptr_nil ?_
      | refine op_nilCheck_ptr ?_ | refine op_nilCheck_meth ?_ | refine op_makeMeth ?_ | refine op_makeFunc ?_ | refine op_itof ?_ | refine op_itoi ?_ | refine op_ftoi ?_ | refine op_iquo ?_
      | refine op_irem ?_ | refine op_ibits ?_ | refine op_slice_isnil ?_ | refine op_slice_notnil ?_ | refine op_imax ?_ | refine op_imin ?_ | refine op_shl ?_ | refine op_shr ?_
      | (refine op_alloc ?_; intro _) | (refine op_box ?_; intro _) | (refine op_buildSlice ?_; intro _) | (refine op_farith ?_; intro _ _) | refine op_store0 ?_ | refine op_store1 ?_ | refine op_store2 ?_ | refine op_store3 ?_
      | refine op_store4 ?_ | refine op_store5 ?_ | refine tc_cond_t ?_ | refine tc_cond_f ?_ | refine tc_cond (fun _ => ?_) (fun _ => ?_) | refine tc_block ?_ | refine tc_skip ?_ | refine tc_ret ?_
      | refine tc_exit ?_ | refine tc_label ?_ | refine at_seq_ret ?_ | refine at_seq_exit ?_ | refine at_block_normal ?_ | refine at_block_ret ?_ | refine at_block_exit_self ?_ | refine at_block_exit_ne ?_
      | refine at_loop_ret ?_ | refine at_loop_exit ?_ | refine at_loop_goto ?_ | refine tl_guard_yes ?_ | refine tl_guard_no ?_ | refine tl_guard_yes' ?_ | refine tl_guard_no' ?_ | refine tl_guard_undef ?_
      | refine tl_guard_split (fun _ => ?_) (fun _ => ?_)
  exact ret_tmp (hk := ⟨congrArg Value.bool h, rfl⟩)
theorem coord3 (x y z : Nat) (H : Heap) : Does Try.prog 78 [v3 x y z] H fun v H' => ∃ k, v = s3 k ∧ (k, c3 x y z) ∈ H' ∧ ∃ ex, H' = ex ++ H := by
  refine fn_enter 10 Try.func78 fun W => ?_
  repeat'
    first
      | refine tl_defer ?_ | refine tc_seq ?_ | refine tc_region ?_ | refine at_seq_normal ?_ | refine tl_nil ?_ | refine tl_cons ?_ | refine tl_cons_none ?_ | refine op_move ?_
      | refine op_assign ?_ | refine op_fieldAddr ?_ | refine op_load ?_ | refine op_load_agg ?_ | refine op_indexC ?_ | refine op_indexAddr1 ?_ | refine op_indexAddr ?_ | refine op_icmp ?_
      | refine op_fcmp ?_ | refine op_iarith ?_ | refine op_bcmp ?_ | refine op_unop_not ?_ | refine op_unop_neg_float ?_ | refine op_unop_neg_int ?_ | refine op_len_slice ?_ | refine op_pick_true ?_
      | refine op_pick_false ?_ | refine op_pick_true' ?_ | refine op_pick_false' ?_ | refine op_build ?_ | refine op_extract ?_ | refine op_makeInterface ?_ | refine op_typeAssert ?_ | refine op_ptr_nil ?_
      | refine op_nilCheck_ptr ?_ | refine op_nilCheck_meth ?_ | refine op_makeMeth ?_ | refine op_makeFunc ?_ | refine op_itof ?_ | refine op_itoi ?_ | refine op_ftoi ?_ | refine op_iquo ?_
      | refine op_irem ?_ | refine op_ibits ?_ | refine op_slice_isnil ?_ | refine op_slice_notnil ?_ | refine op_imax ?_ | refine op_imin ?_ | refine op_shl ?_ | refine op_shr ?_
      | (refine op_alloc ?_; intro _) | (refine op_box ?_; intro _) | (refine op_buildSlice ?_; intro _) | (refine op_farith ?_; intro _ _) | refine op_store0 ?_ | refine op_store1 ?_ | refine op_store2 ?_ | refine op_store3 ?_
      | refine op_store4 ?_ | refine op_store5 ?_ | refine tc_cond_t ?_ | refine tc_cond_f ?_ | refine tc_cond (fun _ => ?_) (fun _ => ?_) | refine tc_block ?_ | refine tc_skip ?_ | refine tc_ret ?_
      | refine tc_exit ?_ | refine tc_label ?_ | refine at_seq_ret ?_ | refine at_seq_exit ?_ | refine at_block_normal ?_ | refine at_block_ret ?_ | refine at_block_exit_self ?_ | refine at_block_exit_ne ?_
      | refine at_loop_ret ?_ | refine at_loop_exit ?_ | refine at_loop_goto ?_ | refine tl_guard_yes ?_ | refine tl_guard_no ?_ | refine tl_guard_yes' ?_ | refine tl_guard_no' ?_ | refine tl_guard_undef ?_
      | refine tl_guard_split (fun _ => ?_) (fun _ => ?_)
  exact ret_tmp (hG := List.Sublist.refl _) (hk := ⟨_, rfl, mem0, ExC.ex⟩)
theorem sq_nn (a : Int) : 0 ≤ a * a := by
  rcases Int.le_total 0 a with h | h
  · exact Int.mul_nonneg h h
  · exact Int.mul_nonneg_of_nonpos_of_nonpos h h
set_option maxHeartbeats 8000000 in
theorem dist2 (k1 k2 : Nat) (x1 y1 z1 x2 y2 z2 : Nat) (a1 b1 a2 b2 : Int) (H : Heap) (m1 : (k1, c3 x1 y1 z1) ∈ H) (m2 : (k2, c3 x2 y2 z2) ∈ H) (h1 : FI 1048576 x1 a1) (h2 : FI 1048576 y1 b1) (h3 : FI 1048576 x2 a2) (h4 : FI 1048576 y2 b2) :
    Does Try.prog 137 [s3 k1, s3 k2] H fun w H' => (∃ r, w = .float .f64 r ∧ Root r ((a1 - a2) * (a1 - a2) + (b1 - b2) * (b1 - b2))) ∧ H' = H := by
  obtain ⟨f1, g1⟩ := h1.subF h3 (C := 2097152) (by decide)
  obtain ⟨f2, g2⟩ := h2.subF h4 (C := 2097152) (by decide)
  obtain ⟨f3, g3⟩ := g1.mulF g1 (C := 4398046511104) (by decide)
  obtain ⟨f4, g4⟩ := g2.mulF g2 (C := 4398046511104) (by decide)
  obtain ⟨f5, g5⟩ := g3.addF g4 (C := 8796093022208) (by decide)
  have hn : 0 ≤ (a1 - a2) * (a1 - a2) + (b1 - b2) * (b1 - b2) := Int.add_nonneg (sq_nn _) (sq_nn _)
  generalize (a1 - a2) * (a1 - a2) + (b1 - b2) * (b1 - b2) = n at *
  refine fn_enter 29 Try.func137 fun W => ?_
  repeat'
    first
      | refine tl_defer ?_ | refine tc_seq ?_ | refine tc_region ?_ | refine at_seq_normal ?_ | refine tl_nil ?_ | refine tl_cons ?_ | refine tl_cons_none ?_ | refine op_move ?_
      | refine op_assign ?_ | refine op_fieldAddr ?_ | refine op_load ?_ | refine op_load_agg ?_ | refine op_indexC ?_ | refine op_indexAddr1 ?_ | refine op_indexAddr ?_ | refine op_icmp ?_
      | refine op_fcmp ?_ | refine op_iarith ?_ | refine op_bcmp ?_ | refine op_unop_not ?_ | refine op_unop_neg_float ?_ | refine op_unop_neg_int ?_ | refine op_len_slice ?_ | refine op_pick_true ?_
      | refine op_pick_false ?_ | refine op_pick_true' ?_ | refine op_pick_false' ?_ | refine op_build ?_ | refine op_extract ?_ | refine op_makeInterface ?_ | refine op_typeAssert ?_ | refine op_ptr_nil ?_
      | refine op_nilCheck_ptr ?_ | refine op_nilCheck_meth ?_ | refine op_makeMeth ?_ | refine op_makeFunc ?_ | refine op_itof ?_ | refine op_itoi ?_ | refine op_ftoi ?_ | refine op_iquo ?_
      | refine op_irem ?_ | refine op_ibits ?_ | refine op_slice_isnil ?_ | refine op_slice_notnil ?_ | refine op_imax ?_ | refine op_imin ?_ | refine op_shl ?_ | refine op_shr ?_
      | (refine op_alloc ?_; intro _) | (refine op_box ?_; intro _) | (refine op_buildSlice ?_; intro _) | (refine op_farith ?_; intro _ _) | refine op_store0 ?_ | refine op_store1 ?_ | refine op_store2 ?_ | refine op_store3 ?_
      | refine op_store4 ?_ | refine op_store5 ?_ | refine tc_cond_t ?_ | refine tc_cond_f ?_ | refine tc_cond (fun _ => ?_) (fun _ => ?_) | refine tc_block ?_ | refine tc_skip ?_ | refine tc_ret ?_
      | refine tc_exit ?_ | refine tc_label ?_ | refine at_seq_ret ?_ | refine at_seq_exit ?_ | refine at_block_normal ?_ | refine at_block_ret ?_ | refine at_block_exit_self ?_ | refine at_block_exit_ne ?_
      | refine at_loop_ret ?_ | refine at_loop_exit ?_ | refine at_loop_goto ?_ | refine tl_guard_yes ?_ | refine tl_guard_no ?_ | refine tl_guard_yes' ?_ | refine tl_guard_no' ?_ | refine tl_guard_undef ?_
      | refine tl_guard_split (fun _ => ?_) (fun _ => ?_)
  apply fun hole0 hole1 hole2 hole3 hole4 hole5 hE hD hml hdl hpr prem fin => tc_drawnD 7 [PhiD.is hole0, PhiD.is hole1, PhiD.is hole2, PhiD.is hole3, PhiD.is hole4, PhiD.is hole5, PhiD.is (.float .f64 (fop .sub x1 x2))]
    [some 7, some 8, some 9, some 10, some 11, some 12, some 13, some 5] [[], [0], [1], [], [3], [4], [2, 5]] mixed trivial prem fin hE hD rfl hml hdl hpr
  rotate_left 7
  · first | kernel_rfl | exact rfl
  · first | kernel_rfl | exact rfl
  · exact Nat.le_of_ble_eq_true rfl
  · first | kernel_rfl | exact rfl
  · first | kernel_rfl | exact rfl
  refine ⟨fun G hG => ?_, fun G hG => ?_, fun G hG => ?_, fun G hG => ?_, fun G hG => ?_, fun G hG => ?_, fun G hG => ?_, trivial⟩
  · simp only [withD, nthD, Step2, nthDst, putO, postD]
    (refine op_move ?_; exact ⟨[], rfl, rfl, rfl⟩)
  · simp only [withD, nthD, Step2, nthDst, putO, postD]
    ((first | refine op_indexC ?_ | refine op_indexAddr1 ?_ | refine op_indexAddr ?_); exact ⟨[], rfl, rfl, rfl⟩)
  · simp only [withD, nthD, Step2, nthDst, putO, postD]
    ((first | refine op_load ?_ | refine op_load_agg ?_ | refine op_load ?_ (hm := Sub.mem (by assumption) (by (repeat (apply List.mem_cons_of_mem)); assumption)) | refine op_load_agg ?_ (hm := Sub.mem (by assumption) (by (repeat (apply List.mem_cons_of_mem)); assumption)) | refine op_loadH hG rfl ?_ | refine op_load_aggH hG rfl ?_); exact ⟨[], rfl, rfl, rfl⟩)
  · simp only [withD, nthD, Step2, nthDst, putO, postD]
    (refine op_move ?_; exact ⟨[], rfl, rfl, rfl⟩)
  · simp only [withD, nthD, Step2, nthDst, putO, postD]
    ((first | refine op_indexC ?_ | refine op_indexAddr1 ?_ | refine op_indexAddr ?_); exact ⟨[], rfl, rfl, rfl⟩)
  · simp only [withD, nthD, Step2, nthDst, putO, postD]
    ((first | refine op_load ?_ | refine op_load_agg ?_ | refine op_load ?_ (hm := Sub.mem (by assumption) (by (repeat (apply List.mem_cons_of_mem)); assumption)) | refine op_load_agg ?_ (hm := Sub.mem (by assumption) (by (repeat (apply List.mem_cons_of_mem)); assumption)) | refine op_loadH hG rfl ?_ | refine op_load_aggH hG rfl ?_); exact ⟨[], rfl, rfl, rfl⟩)
  · simp only [withD, nthD, Step2, nthDst, putO, postD]
    (refine op_farithF ?_; exact ⟨[], rfl, rfl, rfl⟩)
  simp only [FinalsD, nthDst, putO, List.drop_succ_cons, List.drop_zero]
  rintro -
  repeat'
    first
      | refine tl_defer ?_ | refine tc_seq ?_ | refine tc_region ?_ | refine at_seq_normal ?_ | refine tl_nil ?_ | refine tl_cons ?_ | refine tl_cons_none ?_ | refine op_move ?_
      | refine op_assign ?_ | refine op_fieldAddr ?_ | refine op_load ?_ | refine op_load_agg ?_ | refine op_indexC ?_ | refine op_indexAddr1 ?_ | refine op_indexAddr ?_ | refine op_icmp ?_
      | refine op_fcmp ?_ | refine op_iarith ?_ | refine op_bcmp ?_ | refine op_unop_not ?_ | refine op_unop_neg_float ?_ | refine op_unop_neg_int ?_ | refine op_len_slice ?_ | refine op_pick_true ?_
      | refine op_pick_false ?_ | refine op_pick_true' ?_ | refine op_pick_false' ?_ | refine op_build ?_ | refine op_extract ?_ | refine op_makeInterface ?_ | refine op_typeAssert ?_ | refine op_ptr_nil ?_
      | refine op_nilCheck_ptr ?_ | refine op_nilCheck_meth ?_ | refine op_makeMeth ?_ | refine op_makeFunc ?_ | refine op_itof ?_ | refine op_itoi ?_ | refine op_ftoi ?_ | refine op_iquo ?_
      | refine op_irem ?_ | refine op_ibits ?_ | refine op_slice_isnil ?_ | refine op_slice_notnil ?_ | refine op_imax ?_ | refine op_imin ?_ | refine op_shl ?_ | refine op_shr ?_
      | (refine op_alloc ?_; intro _) | (refine op_box ?_; intro _) | (refine op_buildSlice ?_; intro _) | (refine op_farith ?_; intro _ _) | refine op_store0 ?_ | refine op_store1 ?_ | refine op_store2 ?_ | refine op_store3 ?_
      | refine op_store4 ?_ | refine op_store5 ?_ | refine tc_cond_t ?_ | refine tc_cond_f ?_ | refine tc_cond (fun _ => ?_) (fun _ => ?_) | refine tc_block ?_ | refine tc_skip ?_ | refine tc_ret ?_
      | refine tc_exit ?_ | refine tc_label ?_ | refine at_seq_ret ?_ | refine at_seq_exit ?_ | refine at_block_normal ?_ | refine at_block_ret ?_ | refine at_block_exit_self ?_ | refine at_block_exit_ne ?_
      | refine at_loop_ret ?_ | refine at_loop_exit ?_ | refine at_loop_goto ?_ | refine tl_guard_yes ?_ | refine tl_guard_no ?_ | refine tl_guard_yes' ?_ | refine tl_guard_no' ?_ | refine tl_guard_undef ?_
      | refine tl_guard_split (fun _ => ?_) (fun _ => ?_)
  apply fun hole0 hole1 hole2 hole3 hole4 hole5 hE hD hml hdl hpr prem fin => tc_drawnD 7 [PhiD.is hole0, PhiD.is hole1, PhiD.is hole2, PhiD.is hole3, PhiD.is hole4, PhiD.is hole5, PhiD.is (.float .f64 (fop .sub y1 y2))]
    [some 14, some 15, some 16, some 17, some 18, some 19, some 20, some 6] [[], [0], [1], [], [3], [4], [2, 5]] mixed trivial prem fin hE hD rfl hml hdl hpr
  rotate_left 7
  · first | kernel_rfl | exact rfl
  · first | kernel_rfl | exact rfl
  · exact Nat.le_of_ble_eq_true rfl
  · first | kernel_rfl | exact rfl
  · first | kernel_rfl | exact rfl
  refine ⟨fun G hG => ?_, fun G hG => ?_, fun G hG => ?_, fun G hG => ?_, fun G hG => ?_, fun G hG => ?_, fun G hG => ?_, trivial⟩
  · simp only [withD, nthD, Step2, nthDst, putO, postD]
    (refine op_move ?_; exact ⟨[], rfl, rfl, rfl⟩)
  · simp only [withD, nthD, Step2, nthDst, putO, postD]
    ((first | refine op_indexC ?_ | refine op_indexAddr1 ?_ | refine op_indexAddr ?_); exact ⟨[], rfl, rfl, rfl⟩)
  · simp only [withD, nthD, Step2, nthDst, putO, postD]
    ((first | refine op_load ?_ | refine op_load_agg ?_ | refine op_load ?_ (hm := Sub.mem (by assumption) (by (repeat (apply List.mem_cons_of_mem)); assumption)) | refine op_load_agg ?_ (hm := Sub.mem (by assumption) (by (repeat (apply List.mem_cons_of_mem)); assumption)) | refine op_loadH hG rfl ?_ | refine op_load_aggH hG rfl ?_); exact ⟨[], rfl, rfl, rfl⟩)
  · simp only [withD, nthD, Step2, nthDst, putO, postD]
    (refine op_move ?_; exact ⟨[], rfl, rfl, rfl⟩)
  · simp only [withD, nthD, Step2, nthDst, putO, postD]
    ((first | refine op_indexC ?_ | refine op_indexAddr1 ?_ | refine op_indexAddr ?_); exact ⟨[], rfl, rfl, rfl⟩)
  · simp only [withD, nthD, Step2, nthDst, putO, postD]
    ((first | refine op_load ?_ | refine op_load_agg ?_ | refine op_load ?_ (hm := Sub.mem (by assumption) (by (repeat (apply List.mem_cons_of_mem)); assumption)) | refine op_load_agg ?_ (hm := Sub.mem (by assumption) (by (repeat (apply List.mem_cons_of_mem)); assumption)) | refine op_loadH hG rfl ?_ | refine op_load_aggH hG rfl ?_); exact ⟨[], rfl, rfl, rfl⟩)
  · simp only [withD, nthD, Step2, nthDst, putO, postD]
    (refine op_farithF ?_; exact ⟨[], rfl, rfl, rfl⟩)
  simp only [FinalsD, nthDst, putO, List.drop_succ_cons, List.drop_zero]
  rintro -
  repeat' first
    | refine op_farithF ?_
    | (refine op_call ((sqrt _ _).mono ?_); rintro _ _ ⟨⟨r, rfl, hr⟩, rfl⟩)
    | (first | refine tl_defer ?_ | refine tc_seq ?_ | refine tc_region ?_ | refine at_seq_normal ?_ | refine tl_nil ?_ | refine tl_cons ?_ | refine tl_cons_none ?_ | refine op_move ?_ | refine op_assign ?_ | refine op_fieldAddr ?_ | refine op_load ?_ | refine op_load_agg ?_ | refine op_indexC ?_ | refine op_indexAddr1 ?_ | refine op_indexAddr ?_ | refine op_icmp ?_ | refine op_fcmp ?_ | refine op_iarith ?_ | refine op_bcmp ?_ | refine op_unop_not ?_ | refine op_unop_neg_float ?_ | refine op_unop_neg_int ?_ | refine op_len_slice ?_ | refine op_pick_true ?_ | refine op_pick_false ?_ | refine op_pick_true' ?_ | refine op_pick_false' ?_ | refine op_build ?_ | refine op_extract ?_ | refine op_makeInterface ?_ | refine op_typeAssert ?_ | refine op_ptr_nil ?_ | refine op_nilCheck_ptr ?_ | refine op_nilCheck_meth ?_ | refine op_makeMeth ?_ | refine op_makeFunc ?_ | refine op_itof ?_ | refine op_itoi ?_ | refine op_ftoi ?_ | refine op_iquo ?_ | refine op_irem ?_ | refine op_ibits ?_ | refine op_slice_isnil ?_ | refine op_slice_notnil ?_ | refine op_imax ?_ | refine op_imin ?_ | refine op_shl ?_ | refine op_shr ?_ | (refine op_alloc ?_; intro _) | (refine op_box ?_; intro _) | (refine op_buildSlice ?_; intro _) | (refine op_farith ?_; intro _ _) | refine op_store0 ?_ | refine op_store1 ?_ | refine op_store2 ?_ | refine op_store3 ?_ | refine op_store4 ?_ | refine op_store5 ?_ | refine op_storeK rfl ?_ | refine op_loadK rfl ?_ | refine op_load_aggK rfl ?_ | refine tc_cond_t ?_ | refine tc_cond_f ?_ | refine tc_cond (fun _ => ?_) (fun _ => ?_) | refine tc_block ?_ | refine tc_skip ?_ | refine tc_ret ?_ | refine tc_exit ?_ | refine tc_label ?_ | refine at_seq_ret ?_ | refine at_seq_exit ?_ | refine at_block_normal ?_ | refine at_block_ret ?_ | refine at_block_exit_self ?_ | refine at_block_exit_ne ?_ | refine at_loop_ret ?_ | refine at_loop_exit ?_ | refine at_loop_goto ?_ | refine tl_guard_yes ?_ | refine tl_guard_no ?_ | refine tl_guard_yes' ?_ | refine tl_guard_no' ?_ | refine tl_guard_undef ?_ | refine tl_guard_split (fun _ => ?_) (fun _ => ?_))
    | fail
  exact ret_tmp (hk := ⟨⟨r, rfl, g5.sqrt (by decide) hn hr⟩, rfl⟩)
theorem dist2' (k1 k2 : Nat) (x1 y1 z1 x2 y2 z2 : Nat) (a1 b1 a2 b2 : Int) (H : Heap) (m1 : (k1, c3 x1 y1 z1) ∈ H) (m2 : (k2, c3 x2 y2 z2) ∈ H) (h1 : FI 1048576 x1 a1) (h2 : FI 1048576 y1 b1) (h3 : FI 1048576 x2 a2) (h4 : FI 1048576 y2 b2) :
    Does Try.prog 119 [s3 k1, s3 k2] H fun w H' => (∃ r, w = .float .f64 r ∧ Root r ((a1 - a2) * (a1 - a2) + (b1 - b2) * (b1 - b2))) ∧ H' = H := by
  refine fn_enter 8 Try.func119 fun W => ?_
  repeat' first
    | (first | refine tl_defer ?_ | refine tc_seq ?_ | refine tc_region ?_ | refine at_seq_normal ?_ | refine tl_nil ?_ | refine tl_cons ?_ | refine tl_cons_none ?_ | refine op_move ?_ | refine op_assign ?_ | refine op_fieldAddr ?_ | refine op_load ?_ | refine op_load_agg ?_ | refine op_indexC ?_ | refine op_indexAddr1 ?_ | refine op_indexAddr ?_ | refine op_icmp ?_ | refine op_fcmp ?_ | refine op_iarith ?_ | refine op_bcmp ?_ | refine op_unop_not ?_ | refine op_unop_neg_float ?_ | refine op_unop_neg_int ?_ | refine op_len_slice ?_ | refine op_pick_true ?_ | refine op_pick_false ?_ | refine op_pick_true' ?_ | refine op_pick_false' ?_ | refine op_build ?_ | refine op_extract ?_ | refine op_makeInterface ?_ | refine op_typeAssert ?_ | refine op_ptr_nil ?_ | refine op_nilCheck_ptr ?_ | refine op_nilCheck_meth ?_ | refine op_makeMeth ?_ | refine op_makeFunc ?_ | refine op_itof ?_ | refine op_itoi ?_ | refine op_ftoi ?_ | refine op_iquo ?_ | refine op_irem ?_ | refine op_ibits ?_ | refine op_slice_isnil ?_ | refine op_slice_notnil ?_ | refine op_imax ?_ | refine op_imin ?_ | refine op_shl ?_ | refine op_shr ?_ | (refine op_alloc ?_; intro _) | (refine op_box ?_; intro _) | (refine op_buildSlice ?_; intro _) | (refine op_farith ?_; intro _ _) | refine op_store0 ?_ | refine op_store1 ?_ | refine op_store2 ?_ | refine op_store3 ?_ | refine op_store4 ?_ | refine op_store5 ?_ | refine op_storeK rfl ?_ | refine op_loadK rfl ?_ | refine op_load_aggK rfl ?_ | refine tc_cond_t ?_ | refine tc_cond_f ?_ | refine tc_cond (fun _ => ?_) (fun _ => ?_) | refine tc_block ?_ | refine tc_skip ?_ | refine tc_ret ?_ | refine tc_exit ?_ | refine tc_label ?_ | refine at_seq_ret ?_ | refine at_seq_exit ?_ | refine at_block_normal ?_ | refine at_block_ret ?_ | refine at_block_exit_self ?_ | refine at_block_exit_ne ?_ | refine at_loop_ret ?_ | refine at_loop_exit ?_ | refine at_loop_goto ?_ | refine tl_guard_yes ?_ | refine tl_guard_no ?_ | refine tl_guard_yes' ?_ | refine tl_guard_no' ?_ | refine tl_guard_undef ?_ | refine tl_guard_split (fun _ => ?_) (fun _ => ?_))
    | (refine op_call ((dist2 k1 k2 x1 y1 z1 x2 y2 z2 a1 b1 a2 b2 _ m1 m2 h1 h2 h3 h4).mono ?_); rintro _ _ ⟨⟨r, rfl, hr⟩, rfl⟩)
  exact ret_tmp (hk := ⟨⟨r, rfl, hr⟩, rfl⟩)
set_option maxHeartbeats 8000000 in
theorem flat (k1 k2 : Nat) (x1 y1 z1 x2 y2 z2 : Nat) (a1 b1 a2 b2 : Int) (H : Heap) (m1 : (k1, c3 x1 y1 z1) ∈ H) (m2 : (k2, c3 x2 y2 z2) ∈ H) (h1 : FI 1048576 x1 a1) (h2 : FI 1048576 y1 b1) (h3 : FI 1048576 x2 a2) (h4 : FI 1048576 y2 b2)
    (hz : fcmp .neq z1 z1 = true ∨ (fcmp .neq z1 z1 = false ∧ fcmp .neq z2 z2 = true)) :
    Does Try.prog 77 [s3 k1, s3 k2] H fun w H' => (∃ r, w = .float .f64 r ∧ Root r ((a1 - a2) * (a1 - a2) + (b1 - b2) * (b1 - b2))) ∧ H' = H := by
  refine fn_enter 54 Try.func77 fun W => ?_
  rcases hz with hz | ⟨hz, hz2⟩
  · repeat' first
      | (refine op_call ((isNaNb z1 true _ hz).mono ?_); rintro _ _ ⟨rfl, rfl⟩)
      | (refine op_call ((dist2' k1 k2 x1 y1 z1 x2 y2 z2 a1 b1 a2 b2 _ m1 m2 h1 h2 h3 h4).mono ?_); rintro _ _ ⟨⟨r, rfl, hr⟩, rfl⟩)
      | (first | refine tl_defer ?_ | refine tc_seq ?_ | refine tc_region ?_ | refine at_seq_normal ?_ | refine tl_nil ?_ | refine tl_cons ?_ | refine tl_cons_none ?_ | refine op_move ?_ | refine op_assign ?_ | refine op_fieldAddr ?_ | refine op_load ?_ | refine op_load_agg ?_ | refine op_indexC ?_ | refine op_indexAddr1 ?_ | refine op_indexAddr ?_ | refine op_icmp ?_ | refine op_fcmp ?_ | refine op_iarith ?_ | refine op_bcmp ?_ | refine op_unop_not ?_ | refine op_unop_neg_float ?_ | refine op_unop_neg_int ?_ | refine op_len_slice ?_ | refine op_pick_true ?_ | refine op_pick_false ?_ | refine op_pick_true' ?_ | refine op_pick_false' ?_ | refine op_build ?_ | refine op_extract ?_ | refine op_makeInterface ?_ | refine op_typeAssert ?_ | refine op_ptr_nil ?_ | refine op_nilCheck_ptr ?_ | refine op_nilCheck_meth ?_ | refine op_makeMeth ?_ | refine op_makeFunc ?_ | refine op_itof ?_ | refine op_itoi ?_ | refine op_ftoi ?_ | refine op_iquo ?_ | refine op_irem ?_ | refine op_ibits ?_ | refine op_slice_isnil ?_ | refine op_slice_notnil ?_ | refine op_imax ?_ | refine op_imin ?_ | refine op_shl ?_ | refine op_shr ?_ | (refine op_alloc ?_; intro _) | (refine op_box ?_; intro _) | (refine op_buildSlice ?_; intro _) | (refine op_farith ?_; intro _ _) | refine op_store0 ?_ | refine op_store1 ?_ | refine op_store2 ?_ | refine op_store3 ?_ | refine op_store4 ?_ | refine op_store5 ?_ | refine op_storeK rfl ?_ | refine op_loadK rfl ?_ | refine op_load_aggK rfl ?_ | refine tc_cond_t ?_ | refine tc_cond_f ?_ | refine tc_cond (fun _ => ?_) (fun _ => ?_) | refine tc_block ?_ | refine tc_skip ?_ | refine tc_ret ?_ | refine tc_exit ?_ | refine tc_label ?_ | refine at_seq_ret ?_ | refine at_seq_exit ?_ | refine at_block_normal ?_ | refine at_block_ret ?_ | refine at_block_exit_self ?_ | refine at_block_exit_ne ?_ | refine at_loop_ret ?_ | refine at_loop_exit ?_ | refine at_loop_goto ?_ | refine tl_guard_yes ?_ | refine tl_guard_no ?_ | refine tl_guard_yes' ?_ | refine tl_guard_no' ?_ | refine tl_guard_undef ?_ | refine tl_guard_split (fun _ => ?_) (fun _ => ?_))
      | fail
    exact ret_tmp (hk := ⟨⟨r, rfl, hr⟩, rfl⟩)
  · repeat' first
      | (refine op_call ((isNaNb z1 false _ hz).mono ?_); rintro _ _ ⟨rfl, rfl⟩)
      | (refine op_call ((isNaNb z2 true _ hz2).mono ?_); rintro _ _ ⟨rfl, rfl⟩)
      | (refine op_call ((dist2' k1 k2 x1 y1 z1 x2 y2 z2 a1 b1 a2 b2 _ m1 m2 h1 h2 h3 h4).mono ?_); rintro _ _ ⟨⟨r, rfl, hr⟩, rfl⟩)
      | (first | refine tl_defer ?_ | refine tc_seq ?_ | refine tc_region ?_ | refine at_seq_normal ?_ | refine tl_nil ?_ | refine tl_cons ?_ | refine tl_cons_none ?_ | refine op_move ?_ | refine op_assign ?_ | refine op_fieldAddr ?_ | refine op_load ?_ | refine op_load_agg ?_ | refine op_indexC ?_ | refine op_indexAddr1 ?_ | refine op_indexAddr ?_ | refine op_icmp ?_ | refine op_fcmp ?_ | refine op_iarith ?_ | refine op_bcmp ?_ | refine op_unop_not ?_ | refine op_unop_neg_float ?_ | refine op_unop_neg_int ?_ | refine op_len_slice ?_ | refine op_pick_true ?_ | refine op_pick_false ?_ | refine op_pick_true' ?_ | refine op_pick_false' ?_ | refine op_build ?_ | refine op_extract ?_ | refine op_makeInterface ?_ | refine op_typeAssert ?_ | refine op_ptr_nil ?_ | refine op_nilCheck_ptr ?_ | refine op_nilCheck_meth ?_ | refine op_makeMeth ?_ | refine op_makeFunc ?_ | refine op_itof ?_ | refine op_itoi ?_ | refine op_ftoi ?_ | refine op_iquo ?_ | refine op_irem ?_ | refine op_ibits ?_ | refine op_slice_isnil ?_ | refine op_slice_notnil ?_ | refine op_imax ?_ | refine op_imin ?_ | refine op_shl ?_ | refine op_shr ?_ | (refine op_alloc ?_; intro _) | (refine op_box ?_; intro _) | (refine op_buildSlice ?_; intro _) | (refine op_farith ?_; intro _ _) | refine op_store0 ?_ | refine op_store1 ?_ | refine op_store2 ?_ | refine op_store3 ?_ | refine op_store4 ?_ | refine op_store5 ?_ | refine op_storeK rfl ?_ | refine op_loadK rfl ?_ | refine op_load_aggK rfl ?_ | refine tc_cond_t ?_ | refine tc_cond_f ?_ | refine tc_cond (fun _ => ?_) (fun _ => ?_) | refine tc_block ?_ | refine tc_skip ?_ | refine tc_ret ?_ | refine tc_exit ?_ | refine tc_label ?_ | refine at_seq_ret ?_ | refine at_seq_exit ?_ | refine at_block_normal ?_ | refine at_block_ret ?_ | refine at_block_exit_self ?_ | refine at_block_exit_ne ?_ | refine at_loop_ret ?_ | refine at_loop_exit ?_ | refine at_loop_goto ?_ | refine tl_guard_yes ?_ | refine tl_guard_no ?_ | refine tl_guard_yes' ?_ | refine tl_guard_no' ?_ | refine tl_guard_undef ?_ | refine tl_guard_split (fun _ => ?_) (fun _ => ?_))
      | fail
    exact ret_tmp (hk := ⟨⟨r, rfl, hr⟩, rfl⟩)
set_option maxHeartbeats 8000000 in
theorem solid (k1 k2 : Nat) (x1 y1 z1 x2 y2 z2 : Nat) (a1 b1 e1 a2 b2 e2 : Int) (H : Heap) (m1 : (k1, c3 x1 y1 z1) ∈ H) (m2 : (k2, c3 x2 y2 z2) ∈ H) (h1 : FI 1048576 x1 a1) (h2 : FI 1048576 y1 b1) (h3 : FI 1048576 z1 e1) (h4 : FI 1048576 x2 a2) (h5 : FI 1048576 y2 b2) (h6 : FI 1048576 z2 e2) :
    Does Try.prog 77 [s3 k1, s3 k2] H fun w H' => (∃ r, w = .float .f64 r ∧ Root r ((a1 - a2) * (a1 - a2) + (b1 - b2) * (b1 - b2) + (e1 - e2) * (e1 - e2))) ∧ H' = H := by
  obtain ⟨f1, g1⟩ := h1.subF h4 (C := 2097152) (by decide)
  obtain ⟨f2, g2⟩ := h2.subF h5 (C := 2097152) (by decide)
  obtain ⟨f6, g6⟩ := h3.subF h6 (C := 2097152) (by decide)
  obtain ⟨f3, g3⟩ := g1.mulF g1 (C := 4398046511104) (by decide)
  obtain ⟨f4, g4⟩ := g2.mulF g2 (C := 4398046511104) (by decide)
  obtain ⟨f7, g7⟩ := g6.mulF g6 (C := 4398046511104) (by decide)
  obtain ⟨f5, g5⟩ := g3.addF g4 (C := 8796093022208) (by decide)
  obtain ⟨f8, g8⟩ := g5.addF g7 (C := 13194139533312) (by decide)
  have hn : 0 ≤ (a1 - a2) * (a1 - a2) + (b1 - b2) * (b1 - b2) + (e1 - e2) * (e1 - e2) := Int.add_nonneg (Int.add_nonneg (sq_nn _) (sq_nn _)) (sq_nn _)
  have n1 : fcmp .neq z1 z1 = false := by rw [fcmp_neq h3.fv h3.fv]; simp
  have n2 : fcmp .neq z2 z2 = false := by rw [fcmp_neq h6.fv h6.fv]; simp
  generalize (a1 - a2) * (a1 - a2) + (b1 - b2) * (b1 - b2) + (e1 - e2) * (e1 - e2) = n at *
  refine fn_enter 54 Try.func77 fun W => ?_
  repeat' first
    | (refine op_call ((isNaNb z1 false _ n1).mono ?_); rintro _ _ ⟨rfl, rfl⟩)
    | (refine op_call ((isNaNb z2 false _ n2).mono ?_); rintro _ _ ⟨rfl, rfl⟩)
    | (first | refine tl_defer ?_ | refine tc_seq ?_ | refine tc_region ?_ | refine at_seq_normal ?_ | refine tl_nil ?_ | refine tl_cons ?_ | refine tl_cons_none ?_ | refine op_move ?_ | refine op_assign ?_ | refine op_fieldAddr ?_ | refine op_load ?_ | refine op_load_agg ?_ | refine op_indexC ?_ | refine op_indexAddr1 ?_ | refine op_indexAddr ?_ | refine op_icmp ?_ | refine op_fcmp ?_ | refine op_iarith ?_ | refine op_bcmp ?_ | refine op_unop_not ?_ | refine op_unop_neg_float ?_ | refine op_unop_neg_int ?_ | refine op_len_slice ?_ | refine op_pick_true ?_ | refine op_pick_false ?_ | refine op_pick_true' ?_ | refine op_pick_false' ?_ | refine op_build ?_ | refine op_extract ?_ | refine op_makeInterface ?_ | refine op_typeAssert ?_ | refine op_ptr_nil ?_ | refine op_nilCheck_ptr ?_ | refine op_nilCheck_meth ?_ | refine op_makeMeth ?_ | refine op_makeFunc ?_ | refine op_itof ?_ | refine op_itoi ?_ | refine op_ftoi ?_ | refine op_iquo ?_ | refine op_irem ?_ | refine op_ibits ?_ | refine op_slice_isnil ?_ | refine op_slice_notnil ?_ | refine op_imax ?_ | refine op_imin ?_ | refine op_shl ?_ | refine op_shr ?_ | (refine op_alloc ?_; intro _) | (refine op_box ?_; intro _) | (refine op_buildSlice ?_; intro _) | (refine op_farith ?_; intro _ _) | refine op_store0 ?_ | refine op_store1 ?_ | refine op_store2 ?_ | refine op_store3 ?_ | refine op_store4 ?_ | refine op_store5 ?_ | refine op_storeK rfl ?_ | refine op_loadK rfl ?_ | refine op_load_aggK rfl ?_ | refine tc_cond_t ?_ | refine tc_cond_f ?_ | refine tc_cond (fun _ => ?_) (fun _ => ?_) | refine tc_block ?_ | refine tc_skip ?_ | refine tc_ret ?_ | refine tc_exit ?_ | refine tc_label ?_ | refine at_seq_ret ?_ | refine at_seq_exit ?_ | refine at_block_normal ?_ | refine at_block_ret ?_ | refine at_block_exit_self ?_ | refine at_block_exit_ne ?_ | refine at_loop_ret ?_ | refine at_loop_exit ?_ | refine at_loop_goto ?_ | refine tl_guard_yes ?_ | refine tl_guard_no ?_ | refine tl_guard_yes' ?_ | refine tl_guard_no' ?_ | refine tl_guard_undef ?_ | refine tl_guard_split (fun _ => ?_) (fun _ => ?_))
    | fail
  apply fun hole0 hole1 hole2 hole3 hole4 hole5 hE hD hml hdl hpr prem fin => tc_drawnD 7 [PhiD.is hole0, PhiD.is hole1, PhiD.is hole2, PhiD.is hole3, PhiD.is hole4, PhiD.is hole5, PhiD.is (.float .f64 (fop .sub x1 x2))]
    [some 21, some 22, some 23, some 24, some 25, some 26, some 27, some 5] [[], [0], [1], [], [3], [4], [2, 5]] mixed trivial prem fin hE hD rfl hml hdl hpr
  rotate_left 7
  · first | kernel_rfl | exact rfl
  · first | kernel_rfl | exact rfl
  · exact Nat.le_of_ble_eq_true rfl
  · first | kernel_rfl | exact rfl
  · first | kernel_rfl | exact rfl
  refine ⟨fun G hG => ?_, fun G hG => ?_, fun G hG => ?_, fun G hG => ?_, fun G hG => ?_, fun G hG => ?_, fun G hG => ?_, trivial⟩
  · simp only [withD, nthD, Step2, nthDst, putO, postD]
    (refine op_move ?_; exact ⟨[], rfl, rfl, rfl⟩)
  · simp only [withD, nthD, Step2, nthDst, putO, postD]
    ((first | refine op_indexC ?_ | refine op_indexAddr1 ?_ | refine op_indexAddr ?_); exact ⟨[], rfl, rfl, rfl⟩)
  · simp only [withD, nthD, Step2, nthDst, putO, postD]
    ((first | refine op_load ?_ | refine op_load_agg ?_ | refine op_load ?_ (hm := Sub.mem (by assumption) (by (repeat (apply List.mem_cons_of_mem)); assumption)) | refine op_load_agg ?_ (hm := Sub.mem (by assumption) (by (repeat (apply List.mem_cons_of_mem)); assumption)) | refine op_loadH hG rfl ?_ | refine op_load_aggH hG rfl ?_); exact ⟨[], rfl, rfl, rfl⟩)
  · simp only [withD, nthD, Step2, nthDst, putO, postD]
    (refine op_move ?_; exact ⟨[], rfl, rfl, rfl⟩)
  · simp only [withD, nthD, Step2, nthDst, putO, postD]
    ((first | refine op_indexC ?_ | refine op_indexAddr1 ?_ | refine op_indexAddr ?_); exact ⟨[], rfl, rfl, rfl⟩)
  · simp only [withD, nthD, Step2, nthDst, putO, postD]
    ((first | refine op_load ?_ | refine op_load_agg ?_ | refine op_load ?_ (hm := Sub.mem (by assumption) (by (repeat (apply List.mem_cons_of_mem)); assumption)) | refine op_load_agg ?_ (hm := Sub.mem (by assumption) (by (repeat (apply List.mem_cons_of_mem)); assumption)) | refine op_loadH hG rfl ?_ | refine op_load_aggH hG rfl ?_); exact ⟨[], rfl, rfl, rfl⟩)
  · simp only [withD, nthD, Step2, nthDst, putO, postD]
    (refine op_farithF ?_; exact ⟨[], rfl, rfl, rfl⟩)
  simp only [FinalsD, nthDst, putO, List.drop_succ_cons, List.drop_zero]
  rintro -
  repeat'
    first
      | refine tl_defer ?_ | refine tc_seq ?_ | refine tc_region ?_ | refine at_seq_normal ?_ | refine tl_nil ?_ | refine tl_cons ?_ | refine tl_cons_none ?_ | refine op_move ?_
      | refine op_assign ?_ | refine op_fieldAddr ?_ | refine op_load ?_ | refine op_load_agg ?_ | refine op_indexC ?_ | refine op_indexAddr1 ?_ | refine op_indexAddr ?_ | refine op_icmp ?_
      | refine op_fcmp ?_ | refine op_iarith ?_ | refine op_bcmp ?_ | refine op_unop_not ?_ | refine op_unop_neg_float ?_ | refine op_unop_neg_int ?_ | refine op_len_slice ?_ | refine op_pick_true ?_
      | refine op_pick_false ?_ | refine op_pick_true' ?_ | refine op_pick_false' ?_ | refine op_build ?_ | refine op_extract ?_ | refine op_makeInterface ?_ | refine op_typeAssert ?_ | refine op_ptr_nil ?_
      | refine op_nilCheck_ptr ?_ | refine op_nilCheck_meth ?_ | refine op_makeMeth ?_ | refine op_makeFunc ?_ | refine op_itof ?_ | refine op_itoi ?_ | refine op_ftoi ?_ | refine op_iquo ?_
      | refine op_irem ?_ | refine op_ibits ?_ | refine op_slice_isnil ?_ | refine op_slice_notnil ?_ | refine op_imax ?_ | refine op_imin ?_ | refine op_shl ?_ | refine op_shr ?_
      | (refine op_alloc ?_; intro _) | (refine op_box ?_; intro _) | (refine op_buildSlice ?_; intro _) | (refine op_farith ?_; intro _ _) | refine op_store0 ?_ | refine op_store1 ?_ | refine op_store2 ?_ | refine op_store3 ?_
      | refine op_store4 ?_ | refine op_store5 ?_ | refine tc_cond_t ?_ | refine tc_cond_f ?_ | refine tc_cond (fun _ => ?_) (fun _ => ?_) | refine tc_block ?_ | refine tc_skip ?_ | refine tc_ret ?_
      | refine tc_exit ?_ | refine tc_label ?_ | refine at_seq_ret ?_ | refine at_seq_exit ?_ | refine at_block_normal ?_ | refine at_block_ret ?_ | refine at_block_exit_self ?_ | refine at_block_exit_ne ?_
      | refine at_loop_ret ?_ | refine at_loop_exit ?_ | refine at_loop_goto ?_ | refine tl_guard_yes ?_ | refine tl_guard_no ?_ | refine tl_guard_yes' ?_ | refine tl_guard_no' ?_ | refine tl_guard_undef ?_
      | refine tl_guard_split (fun _ => ?_) (fun _ => ?_)
  apply fun hole0 hole1 hole2 hole3 hole4 hole5 hE hD hml hdl hpr prem fin => tc_drawnD 7 [PhiD.is hole0, PhiD.is hole1, PhiD.is hole2, PhiD.is hole3, PhiD.is hole4, PhiD.is hole5, PhiD.is (.float .f64 (fop .sub y1 y2))]
    [some 28, some 29, some 30, some 31, some 32, some 33, some 34, some 6] [[], [0], [1], [], [3], [4], [2, 5]] mixed trivial prem fin hE hD rfl hml hdl hpr
  rotate_left 7
  · first | kernel_rfl | exact rfl
  · first | kernel_rfl | exact rfl
  · exact Nat.le_of_ble_eq_true rfl
  · first | kernel_rfl | exact rfl
  · first | kernel_rfl | exact rfl
  refine ⟨fun G hG => ?_, fun G hG => ?_, fun G hG => ?_, fun G hG => ?_, fun G hG => ?_, fun G hG => ?_, fun G hG => ?_, trivial⟩
  · simp only [withD, nthD, Step2, nthDst, putO, postD]
    (refine op_move ?_; exact ⟨[], rfl, rfl, rfl⟩)
  · simp only [withD, nthD, Step2, nthDst, putO, postD]
    ((first | refine op_indexC ?_ | refine op_indexAddr1 ?_ | refine op_indexAddr ?_); exact ⟨[], rfl, rfl, rfl⟩)
  · simp only [withD, nthD, Step2, nthDst, putO, postD]
    ((first | refine op_load ?_ | refine op_load_agg ?_ | refine op_load ?_ (hm := Sub.mem (by assumption) (by (repeat (apply List.mem_cons_of_mem)); assumption)) | refine op_load_agg ?_ (hm := Sub.mem (by assumption) (by (repeat (apply List.mem_cons_of_mem)); assumption)) | refine op_loadH hG rfl ?_ | refine op_load_aggH hG rfl ?_); exact ⟨[], rfl, rfl, rfl⟩)
  · simp only [withD, nthD, Step2, nthDst, putO, postD]
    (refine op_move ?_; exact ⟨[], rfl, rfl, rfl⟩)
  · simp only [withD, nthD, Step2, nthDst, putO, postD]
    ((first | refine op_indexC ?_ | refine op_indexAddr1 ?_ | refine op_indexAddr ?_); exact ⟨[], rfl, rfl, rfl⟩)
  · simp only [withD, nthD, Step2, nthDst, putO, postD]
    ((first | refine op_load ?_ | refine op_load_agg ?_ | refine op_load ?_ (hm := Sub.mem (by assumption) (by (repeat (apply List.mem_cons_of_mem)); assumption)) | refine op_load_agg ?_ (hm := Sub.mem (by assumption) (by (repeat (apply List.mem_cons_of_mem)); assumption)) | refine op_loadH hG rfl ?_ | refine op_load_aggH hG rfl ?_); exact ⟨[], rfl, rfl, rfl⟩)
  · simp only [withD, nthD, Step2, nthDst, putO, postD]
    (refine op_farithF ?_; exact ⟨[], rfl, rfl, rfl⟩)
  simp only [FinalsD, nthDst, putO, List.drop_succ_cons, List.drop_zero]
  rintro -
  repeat'
    first
      | refine tl_defer ?_ | refine tc_seq ?_ | refine tc_region ?_ | refine at_seq_normal ?_ | refine tl_nil ?_ | refine tl_cons ?_ | refine tl_cons_none ?_ | refine op_move ?_
      | refine op_assign ?_ | refine op_fieldAddr ?_ | refine op_load ?_ | refine op_load_agg ?_ | refine op_indexC ?_ | refine op_indexAddr1 ?_ | refine op_indexAddr ?_ | refine op_icmp ?_
      | refine op_fcmp ?_ | refine op_iarith ?_ | refine op_bcmp ?_ | refine op_unop_not ?_ | refine op_unop_neg_float ?_ | refine op_unop_neg_int ?_ | refine op_len_slice ?_ | refine op_pick_true ?_
      | refine op_pick_false ?_ | refine op_pick_true' ?_ | refine op_pick_false' ?_ | refine op_build ?_ | refine op_extract ?_ | refine op_makeInterface ?_ | refine op_typeAssert ?_ | refine op_ptr_nil ?_
      | refine op_nilCheck_ptr ?_ | refine op_nilCheck_meth ?_ | refine op_makeMeth ?_ | refine op_makeFunc ?_ | refine op_itof ?_ | refine op_itoi ?_ | refine op_ftoi ?_ | refine op_iquo ?_
      | refine op_irem ?_ | refine op_ibits ?_ | refine op_slice_isnil ?_ | refine op_slice_notnil ?_ | refine op_imax ?_ | refine op_imin ?_ | refine op_shl ?_ | refine op_shr ?_
      | (refine op_alloc ?_; intro _) | (refine op_box ?_; intro _) | (refine op_buildSlice ?_; intro _) | (refine op_farith ?_; intro _ _) | refine op_store0 ?_ | refine op_store1 ?_ | refine op_store2 ?_ | refine op_store3 ?_
      | refine op_store4 ?_ | refine op_store5 ?_ | refine tc_cond_t ?_ | refine tc_cond_f ?_ | refine tc_cond (fun _ => ?_) (fun _ => ?_) | refine tc_block ?_ | refine tc_skip ?_ | refine tc_ret ?_
      | refine tc_exit ?_ | refine tc_label ?_ | refine at_seq_ret ?_ | refine at_seq_exit ?_ | refine at_block_normal ?_ | refine at_block_ret ?_ | refine at_block_exit_self ?_ | refine at_block_exit_ne ?_
      | refine at_loop_ret ?_ | refine at_loop_exit ?_ | refine at_loop_goto ?_ | refine tl_guard_yes ?_ | refine tl_guard_no ?_ | refine tl_guard_yes' ?_ | refine tl_guard_no' ?_ | refine tl_guard_undef ?_
      | refine tl_guard_split (fun _ => ?_) (fun _ => ?_)
  apply fun hole0 hole1 hole2 hole3 hole4 hole5 hE hD hml hdl hpr prem fin => tc_drawnD 7 [PhiD.is hole0, PhiD.is hole1, PhiD.is hole2, PhiD.is hole3, PhiD.is hole4, PhiD.is hole5, PhiD.is (.float .f64 (fop .sub z1 z2))]
    [some 35, some 36, some 37, some 38, some 39, some 40, some 41, some 7] [[], [0], [1], [], [3], [4], [2, 5]] mixed trivial prem fin hE hD rfl hml hdl hpr
  rotate_left 7
  · first | kernel_rfl | exact rfl
  · first | kernel_rfl | exact rfl
  · exact Nat.le_of_ble_eq_true rfl
  · first | kernel_rfl | exact rfl
  · first | kernel_rfl | exact rfl
  refine ⟨fun G hG => ?_, fun G hG => ?_, fun G hG => ?_, fun G hG => ?_, fun G hG => ?_, fun G hG => ?_, fun G hG => ?_, trivial⟩
  · simp only [withD, nthD, Step2, nthDst, putO, postD]
    (refine op_move ?_; exact ⟨[], rfl, rfl, rfl⟩)
  · simp only [withD, nthD, Step2, nthDst, putO, postD]
    ((first | refine op_indexC ?_ | refine op_indexAddr1 ?_ | refine op_indexAddr ?_); exact ⟨[], rfl, rfl, rfl⟩)
  · simp only [withD, nthD, Step2, nthDst, putO, postD]
    ((first | refine op_load ?_ | refine op_load_agg ?_ | refine op_load ?_ (hm := Sub.mem (by assumption) (by (repeat (apply List.mem_cons_of_mem)); assumption)) | refine op_load_agg ?_ (hm := Sub.mem (by assumption) (by (repeat (apply List.mem_cons_of_mem)); assumption)) | refine op_loadH hG rfl ?_ | refine op_load_aggH hG rfl ?_); exact ⟨[], rfl, rfl, rfl⟩)
  · simp only [withD, nthD, Step2, nthDst, putO, postD]
    (refine op_move ?_; exact ⟨[], rfl, rfl, rfl⟩)
  · simp only [withD, nthD, Step2, nthDst, putO, postD]
    ((first | refine op_indexC ?_ | refine op_indexAddr1 ?_ | refine op_indexAddr ?_); exact ⟨[], rfl, rfl, rfl⟩)
  · simp only [withD, nthD, Step2, nthDst, putO, postD]
    ((first | refine op_load ?_ | refine op_load_agg ?_ | refine op_load ?_ (hm := Sub.mem (by assumption) (by (repeat (apply List.mem_cons_of_mem)); assumption)) | refine op_load_agg ?_ (hm := Sub.mem (by assumption) (by (repeat (apply List.mem_cons_of_mem)); assumption)) | refine op_loadH hG rfl ?_ | refine op_load_aggH hG rfl ?_); exact ⟨[], rfl, rfl, rfl⟩)
  · simp only [withD, nthD, Step2, nthDst, putO, postD]
    (refine op_farithF ?_; exact ⟨[], rfl, rfl, rfl⟩)
  simp only [FinalsD, nthDst, putO, List.drop_succ_cons, List.drop_zero]
  rintro -
  repeat' first
    | refine op_farithF ?_
    | (refine op_call ((sqrt _ _).mono ?_); rintro _ _ ⟨⟨r, rfl, hr⟩, rfl⟩)
    | (first | refine tl_defer ?_ | refine tc_seq ?_ | refine tc_region ?_ | refine at_seq_normal ?_ | refine tl_nil ?_ | refine tl_cons ?_ | refine tl_cons_none ?_ | refine op_move ?_ | refine op_assign ?_ | refine op_fieldAddr ?_ | refine op_load ?_ | refine op_load_agg ?_ | refine op_indexC ?_ | refine op_indexAddr1 ?_ | refine op_indexAddr ?_ | refine op_icmp ?_ | refine op_fcmp ?_ | refine op_iarith ?_ | refine op_bcmp ?_ | refine op_unop_not ?_ | refine op_unop_neg_float ?_ | refine op_unop_neg_int ?_ | refine op_len_slice ?_ | refine op_pick_true ?_ | refine op_pick_false ?_ | refine op_pick_true' ?_ | refine op_pick_false' ?_ | refine op_build ?_ | refine op_extract ?_ | refine op_makeInterface ?_ | refine op_typeAssert ?_ | refine op_ptr_nil ?_ | refine op_nilCheck_ptr ?_ | refine op_nilCheck_meth ?_ | refine op_makeMeth ?_ | refine op_makeFunc ?_ | refine op_itof ?_ | refine op_itoi ?_ | refine op_ftoi ?_ | refine op_iquo ?_ | refine op_irem ?_ | refine op_ibits ?_ | refine op_slice_isnil ?_ | refine op_slice_notnil ?_ | refine op_imax ?_ | refine op_imin ?_ | refine op_shl ?_ | refine op_shr ?_ | (refine op_alloc ?_; intro _) | (refine op_box ?_; intro _) | (refine op_buildSlice ?_; intro _) | (refine op_farith ?_; intro _ _) | refine op_store0 ?_ | refine op_store1 ?_ | refine op_store2 ?_ | refine op_store3 ?_ | refine op_store4 ?_ | refine op_store5 ?_ | refine op_storeK rfl ?_ | refine op_loadK rfl ?_ | refine op_load_aggK rfl ?_ | refine tc_cond_t ?_ | refine tc_cond_f ?_ | refine tc_cond (fun _ => ?_) (fun _ => ?_) | refine tc_block ?_ | refine tc_skip ?_ | refine tc_ret ?_ | refine tc_exit ?_ | refine tc_label ?_ | refine at_seq_ret ?_ | refine at_seq_exit ?_ | refine at_block_normal ?_ | refine at_block_ret ?_ | refine at_block_exit_self ?_ | refine at_block_exit_ne ?_ | refine at_loop_ret ?_ | refine at_loop_exit ?_ | refine at_loop_goto ?_ | refine tl_guard_yes ?_ | refine tl_guard_no ?_ | refine tl_guard_yes' ?_ | refine tl_guard_no' ?_ | refine tl_guard_undef ?_ | refine tl_guard_split (fun _ => ?_) (fun _ => ?_))
    | fail
  exact ret_tmp (hk := ⟨⟨r, rfl, g8.sqrt (by decide) hn hr⟩, rfl⟩)
set_option maxHeartbeats 8000000 in
theorem implDistF (x1 y1 z1 x2 y2 z2 : Nat) (a1 b1 a2 b2 : Int) (H : Heap) (h1 : FI 1048576 x1 a1) (h2 : FI 1048576 y1 b1) (h3 : FI 1048576 x2 a2) (h4 : FI 1048576 y2 b2) (hz : fcmp .neq z1 z1 = true ∨ (fcmp .neq z1 z1 = false ∧ fcmp .neq z2 z2 = true)) :
    Does Try.prog 28 [v3 x1 y1 z1, v3 x2 y2 z2] H fun w H' => (∃ r, w = .float .f64 r ∧ Root r ((a1 - a2) * (a1 - a2) + (b1 - b2) * (b1 - b2))) ∧ ∃ ex, H' = ex ++ H := by
  refine fn_enter 10 Try.func28 fun W => ?_
  repeat'
    first
      | refine tl_defer ?_ | refine tc_seq ?_ | refine tc_region ?_ | refine at_seq_normal ?_ | refine tl_nil ?_ | refine tl_cons ?_ | refine tl_cons_none ?_ | refine op_move ?_
      | refine op_assign ?_ | refine op_fieldAddr ?_ | refine op_load ?_ | refine op_load_agg ?_ | refine op_indexC ?_ | refine op_indexAddr1 ?_ | refine op_indexAddr ?_ | refine op_icmp ?_
      | refine op_fcmp ?_ | refine op_iarith ?_ | refine op_bcmp ?_ | refine op_unop_not ?_ | refine op_unop_neg_float ?_ | refine op_unop_neg_int ?_ | refine op_len_slice ?_ | refine op_pick_true ?_
      | refine op_pick_false ?_ | refine op_pick_true' ?_ | refine op_pick_false' ?_ | refine op_build ?_ | refine op_extract ?_ | refine op_makeInterface ?_ | refine op_typeAssert ?_ | refine op_ptr_nil ?_
      | refine op_nilCheck_ptr ?_ | refine op_nilCheck_meth ?_ | refine op_makeMeth ?_ | refine op_makeFunc ?_ | refine op_itof ?_ | refine op_itoi ?_ | refine op_ftoi ?_ | refine op_iquo ?_
      | refine op_irem ?_ | refine op_ibits ?_ | refine op_slice_isnil ?_ | refine op_slice_notnil ?_ | refine op_imax ?_ | refine op_imin ?_ | refine op_shl ?_ | refine op_shr ?_
      | (refine op_alloc ?_; intro _) | (refine op_box ?_; intro _) | (refine op_buildSlice ?_; intro _) | (refine op_farith ?_; intro _ _) | refine op_store0 ?_ | refine op_store1 ?_ | refine op_store2 ?_ | refine op_store3 ?_
      | refine op_store4 ?_ | refine op_store5 ?_ | refine tc_cond_t ?_ | refine tc_cond_f ?_ | refine tc_cond (fun _ => ?_) (fun _ => ?_) | refine tc_block ?_ | refine tc_skip ?_ | refine tc_ret ?_
      | refine tc_exit ?_ | refine tc_label ?_ | refine at_seq_ret ?_ | refine at_seq_exit ?_ | refine at_block_normal ?_ | refine at_block_ret ?_ | refine at_block_exit_self ?_ | refine at_block_exit_ne ?_
      | refine at_loop_ret ?_ | refine at_loop_exit ?_ | refine at_loop_goto ?_ | refine tl_guard_yes ?_ | refine tl_guard_no ?_ | refine tl_guard_yes' ?_ | refine tl_guard_no' ?_ | refine tl_guard_undef ?_
      | refine tl_guard_split (fun _ => ?_) (fun _ => ?_)
  apply fun hole0 hole1 hE hD hml hdl hpr prem fin => tc_drawnD 5 [PhiD.is hole0, PhiD.gen (fun w _ G => ∃ k, w = s3 k ∧ (k, c3 x1 y1 z1) ∈ G), PhiD.is hole1, PhiD.gen (fun w _ G => ∃ k, w = s3 k ∧ (k, c3 x2 y2 z2) ∈ G), PhiD.gen (some' (fun w ex => ∃ r, w = .float .f64 r ∧ Root r ((a1 - a2) * (a1 - a2) + (b1 - b2) * (b1 - b2))))]
    [some 5, some 6, some 7, some 8, some 9, some 4] [[], [0], [], [2, 1], [1, 3]] mixed ⟨(fun _ _ _ _ ⟨k, h1, h2⟩ hs => ⟨k, h1, hs _ h2⟩), (fun _ _ _ _ ⟨k, h1, h2⟩ hs => ⟨k, h1, hs _ h2⟩), (some_mono _), trivial⟩ prem fin hE hD rfl hml hdl hpr
  rotate_left 3
  · first | kernel_rfl | exact rfl
  · first | kernel_rfl | exact rfl
  · exact Nat.le_of_ble_eq_true rfl
  · first | kernel_rfl | exact rfl
  · first | kernel_rfl | exact rfl
  refine ⟨fun G hG => ?_, fun G hG => ?_, fun G hG => ?_, fun G hG => ?_, fun G hG => ?_, trivial⟩
  · simp only [withD, nthD, Step2, nthDst, putO, postD]
    ((first | refine op_load ?_ | refine op_load_agg ?_ | refine op_load ?_ (hm := Sub.mem (by assumption) (by (repeat (apply List.mem_cons_of_mem)); assumption)) | refine op_load_agg ?_ (hm := Sub.mem (by assumption) (by (repeat (apply List.mem_cons_of_mem)); assumption)) | refine op_loadH hG rfl ?_ | refine op_load_aggH hG rfl ?_); exact ⟨[], rfl, rfl, rfl⟩)
  · simp only [withD, nthD, Step2, nthDst, putO, postD]
    (refine op_call ((coord3 x1 y1 z1 _).mono ?_); rintro _ _ ⟨k, rfl, hm, ex, rfl⟩; exact ⟨ex, rfl, k, rfl, hm⟩)
  · simp only [withD, nthD, Step2, nthDst, putO, postD]
    ((first | refine op_load ?_ | refine op_load_agg ?_ | refine op_load ?_ (hm := Sub.mem (by assumption) (by (repeat (apply List.mem_cons_of_mem)); assumption)) | refine op_load_agg ?_ (hm := Sub.mem (by assumption) (by (repeat (apply List.mem_cons_of_mem)); assumption)) | refine op_loadH hG rfl ?_ | refine op_load_aggH hG rfl ?_); exact ⟨[], rfl, rfl, rfl⟩)
  · simp only [withD, nthD, Step2, nthDst, putO, postD]
    rintro _ _ ⟨k1, rfl, m1⟩ -
    (refine op_call ((coord3 x2 y2 z2 _).mono ?_); rintro _ _ ⟨k, rfl, hm, ex, rfl⟩; exact ⟨ex, rfl, k, rfl, hm⟩)
  · simp only [withD, nthD, Step2, nthDst, putO, postD]
    rintro _ _ ⟨k1, rfl, m1⟩ - _ _ ⟨k2, rfl, m2⟩ -
    (refine op_call ((flat k1 k2 x1 y1 z1 x2 y2 z2 a1 b1 a2 b2 _ m1 m2 h1 h2 h3 h4 hz).mono ?_); rintro _ _ ⟨⟨r, rfl, hr⟩, rfl⟩; exact ⟨[], rfl, r, rfl, hr⟩)
  simp only [FinalsD, nthDst, putO, List.drop_succ_cons, List.drop_zero]
  rintro _ _ _ _ _ _ ⟨⟨r, rfl, hr⟩, ⟨k2, rfl, m2⟩, ⟨k1, rfl, m1⟩, -⟩
  try simp only [List.nil_append]
  repeat'
    first
      | refine tl_defer ?_ | refine tc_seq ?_ | refine tc_region ?_ | refine at_seq_normal ?_ | refine tl_nil ?_ | refine tl_cons ?_ | refine tl_cons_none ?_ | refine op_move ?_
      | refine op_assign ?_ | refine op_fieldAddr ?_ | refine op_load ?_ | refine op_load_agg ?_ | refine op_indexC ?_ | refine op_indexAddr1 ?_ | refine op_indexAddr ?_ | refine op_icmp ?_
      | refine op_fcmp ?_ | refine op_iarith ?_ | refine op_bcmp ?_ | refine op_unop_not ?_ | refine op_unop_neg_float ?_ | refine op_unop_neg_int ?_ | refine op_len_slice ?_ | refine op_pick_true ?_
      | refine op_pick_false ?_ | refine op_pick_true' ?_ | refine op_pick_false' ?_ | refine op_build ?_ | refine op_extract ?_ | refine op_makeInterface ?_ | refine op_typeAssert ?_ | refine op_ptr_nil ?_
      | refine op_nilCheck_ptr ?_ | refine op_nilCheck_meth ?_ | refine op_makeMeth ?_ | refine op_makeFunc ?_ | refine op_itof ?_ | refine op_itoi ?_ | refine op_ftoi ?_ | refine op_iquo ?_
      | refine op_irem ?_ | refine op_ibits ?_ | refine op_slice_isnil ?_ | refine op_slice_notnil ?_ | refine op_imax ?_ | refine op_imin ?_ | refine op_shl ?_ | refine op_shr ?_
      | (refine op_alloc ?_; intro _) | (refine op_box ?_; intro _) | (refine op_buildSlice ?_; intro _) | (refine op_farith ?_; intro _ _) | refine op_store0 ?_ | refine op_store1 ?_ | refine op_store2 ?_ | refine op_store3 ?_
      | refine op_store4 ?_ | refine op_store5 ?_ | refine tc_cond_t ?_ | refine tc_cond_f ?_ | refine tc_cond (fun _ => ?_) (fun _ => ?_) | refine tc_block ?_ | refine tc_skip ?_ | refine tc_ret ?_
      | refine tc_exit ?_ | refine tc_label ?_ | refine at_seq_ret ?_ | refine at_seq_exit ?_ | refine at_block_normal ?_ | refine at_block_ret ?_ | refine at_block_exit_self ?_ | refine at_block_exit_ne ?_
      | refine at_loop_ret ?_ | refine at_loop_exit ?_ | refine at_loop_goto ?_ | refine tl_guard_yes ?_ | refine tl_guard_no ?_ | refine tl_guard_yes' ?_ | refine tl_guard_no' ?_ | refine tl_guard_undef ?_
      | refine tl_guard_split (fun _ => ?_) (fun _ => ?_)
  exact ret_tmp (hG := List.Sublist.refl _) (hk := ⟨⟨r, rfl, hr⟩, ExC.ex⟩)
set_option maxHeartbeats 8000000 in
theorem implDistS (x1 y1 z1 x2 y2 z2 : Nat) (a1 b1 e1 a2 b2 e2 : Int) (H : Heap) (h1 : FI 1048576 x1 a1) (h2 : FI 1048576 y1 b1) (h3 : FI 1048576 z1 e1) (h4 : FI 1048576 x2 a2) (h5 : FI 1048576 y2 b2) (h6 : FI 1048576 z2 e2) :
    Does Try.prog 28 [v3 x1 y1 z1, v3 x2 y2 z2] H fun w H' => (∃ r, w = .float .f64 r ∧ Root r ((a1 - a2) * (a1 - a2) + (b1 - b2) * (b1 - b2) + (e1 - e2) * (e1 - e2))) ∧ ∃ ex, H' = ex ++ H := by
  refine fn_enter 10 Try.func28 fun W => ?_
  repeat'
    first
      | refine tl_defer ?_ | refine tc_seq ?_ | refine tc_region ?_ | refine at_seq_normal ?_ | refine tl_nil ?_ | refine tl_cons ?_ | refine tl_cons_none ?_ | refine op_move ?_
      | refine op_assign ?_ | refine op_fieldAddr ?_ | refine op_load ?_ | refine op_load_agg ?_ | refine op_indexC ?_ | refine op_indexAddr1 ?_ | refine op_indexAddr ?_ | refine op_icmp ?_
      | refine op_fcmp ?_ | refine op_iarith ?_ | refine op_bcmp ?_ | refine op_unop_not ?_ | refine op_unop_neg_float ?_ | refine op_unop_neg_int ?_ | refine op_len_slice ?_ | refine op_pick_true ?_
      | refine op_pick_false ?_ | refine op_pick_true' ?_ | refine op_pick_false' ?_ | refine op_build ?_ | refine op_extract ?_ | refine op_makeInterface ?_ | refine op_typeAssert ?_ | refine op_ptr_nil ?_
      | refine op_nilCheck_ptr ?_ | refine op_nilCheck_meth ?_ | refine op_makeMeth ?_ | refine op_makeFunc ?_ | refine op_itof ?_ | refine op_itoi ?_ | refine op_ftoi ?_ | refine op_iquo ?_
      | refine op_irem ?_ | refine op_ibits ?_ | refine op_slice_isnil ?_ | refine op_slice_notnil ?_ | refine op_imax ?_ | refine op_imin ?_ | refine op_shl ?_ | refine op_shr ?_
      | (refine op_alloc ?_; intro _) | (refine op_box ?_; intro _) | (refine op_buildSlice ?_; intro _) | (refine op_farith ?_; intro _ _) | refine op_store0 ?_ | refine op_store1 ?_ | refine op_store2 ?_ | refine op_store3 ?_
      | refine op_store4 ?_ | refine op_store5 ?_ | refine tc_cond_t ?_ | refine tc_cond_f ?_ | refine tc_cond (fun _ => ?_) (fun _ => ?_) | refine tc_block ?_ | refine tc_skip ?_ | refine tc_ret ?_
      | refine tc_exit ?_ | refine tc_label ?_ | refine at_seq_ret ?_ | refine at_seq_exit ?_ | refine at_block_normal ?_ | refine at_block_ret ?_ | refine at_block_exit_self ?_ | refine at_block_exit_ne ?_
      | refine at_loop_ret ?_ | refine at_loop_exit ?_ | refine at_loop_goto ?_ | refine tl_guard_yes ?_ | refine tl_guard_no ?_ | refine tl_guard_yes' ?_ | refine tl_guard_no' ?_ | refine tl_guard_undef ?_
      | refine tl_guard_split (fun _ => ?_) (fun _ => ?_)
  apply fun hole0 hole1 hE hD hml hdl hpr prem fin => tc_drawnD 5 [PhiD.is hole0, PhiD.gen (fun w _ G => ∃ k, w = s3 k ∧ (k, c3 x1 y1 z1) ∈ G), PhiD.is hole1, PhiD.gen (fun w _ G => ∃ k, w = s3 k ∧ (k, c3 x2 y2 z2) ∈ G), PhiD.gen (some' (fun w ex => ∃ r, w = .float .f64 r ∧ Root r ((a1 - a2) * (a1 - a2) + (b1 - b2) * (b1 - b2) + (e1 - e2) * (e1 - e2))))]
    [some 5, some 6, some 7, some 8, some 9, some 4] [[], [0], [], [2, 1], [1, 3]] mixed ⟨(fun _ _ _ _ ⟨k, h1, h2⟩ hs => ⟨k, h1, hs _ h2⟩), (fun _ _ _ _ ⟨k, h1, h2⟩ hs => ⟨k, h1, hs _ h2⟩), (some_mono _), trivial⟩ prem fin hE hD rfl hml hdl hpr
  rotate_left 3
  · first | kernel_rfl | exact rfl
  · first | kernel_rfl | exact rfl
  · exact Nat.le_of_ble_eq_true rfl
  · first | kernel_rfl | exact rfl
  · first | kernel_rfl | exact rfl
  refine ⟨fun G hG => ?_, fun G hG => ?_, fun G hG => ?_, fun G hG => ?_, fun G hG => ?_, trivial⟩
  · simp only [withD, nthD, Step2, nthDst, putO, postD]
    ((first | refine op_load ?_ | refine op_load_agg ?_ | refine op_load ?_ (hm := Sub.mem (by assumption) (by (repeat (apply List.mem_cons_of_mem)); assumption)) | refine op_load_agg ?_ (hm := Sub.mem (by assumption) (by (repeat (apply List.mem_cons_of_mem)); assumption)) | refine op_loadH hG rfl ?_ | refine op_load_aggH hG rfl ?_); exact ⟨[], rfl, rfl, rfl⟩)
  · simp only [withD, nthD, Step2, nthDst, putO, postD]
    (refine op_call ((coord3 x1 y1 z1 _).mono ?_); rintro _ _ ⟨k, rfl, hm, ex, rfl⟩; exact ⟨ex, rfl, k, rfl, hm⟩)
  · simp only [withD, nthD, Step2, nthDst, putO, postD]
    ((first | refine op_load ?_ | refine op_load_agg ?_ | refine op_load ?_ (hm := Sub.mem (by assumption) (by (repeat (apply List.mem_cons_of_mem)); assumption)) | refine op_load_agg ?_ (hm := Sub.mem (by assumption) (by (repeat (apply List.mem_cons_of_mem)); assumption)) | refine op_loadH hG rfl ?_ | refine op_load_aggH hG rfl ?_); exact ⟨[], rfl, rfl, rfl⟩)
  · simp only [withD, nthD, Step2, nthDst, putO, postD]
    rintro _ _ ⟨k1, rfl, m1⟩ -
    (refine op_call ((coord3 x2 y2 z2 _).mono ?_); rintro _ _ ⟨k, rfl, hm, ex, rfl⟩; exact ⟨ex, rfl, k, rfl, hm⟩)
  · simp only [withD, nthD, Step2, nthDst, putO, postD]
    rintro _ _ ⟨k1, rfl, m1⟩ - _ _ ⟨k2, rfl, m2⟩ -
    (refine op_call ((solid k1 k2 x1 y1 z1 x2 y2 z2 a1 b1 e1 a2 b2 e2 _ m1 m2 h1 h2 h3 h4 h5 h6).mono ?_); rintro _ _ ⟨⟨r, rfl, hr⟩, rfl⟩; exact ⟨[], rfl, r, rfl, hr⟩)
  simp only [FinalsD, nthDst, putO, List.drop_succ_cons, List.drop_zero]
  rintro _ _ _ _ _ _ ⟨⟨r, rfl, hr⟩, ⟨k2, rfl, m2⟩, ⟨k1, rfl, m1⟩, -⟩
  try simp only [List.nil_append]
  repeat'
    first
      | refine tl_defer ?_ | refine tc_seq ?_ | refine tc_region ?_ | refine at_seq_normal ?_ | refine tl_nil ?_ | refine tl_cons ?_ | refine tl_cons_none ?_ | refine op_move ?_
      | refine op_assign ?_ | refine op_fieldAddr ?_ | refine op_load ?_ | refine op_load_agg ?_ | refine op_indexC ?_ | refine op_indexAddr1 ?_ | refine op_indexAddr ?_ | refine op_icmp ?_
      | refine op_fcmp ?_ | refine op_iarith ?_ | refine op_bcmp ?_ | refine op_unop_not ?_ | refine op_unop_neg_float ?_ | refine op_unop_neg_int ?_ | refine op_len_slice ?_ | refine op_pick_true ?_
      | refine op_pick_false ?_ | refine op_pick_true' ?_ | refine op_pick_false' ?_ | refine op_build ?_ | refine op_extract ?_ | refine op_makeInterface ?_ | refine op_typeAssert ?_ | refine op_ptr_nil ?_
      | refine op_nilCheck_ptr ?_ | refine op_nilCheck_meth ?_ | refine op_makeMeth ?_ | refine op_makeFunc ?_ | refine op_itof ?_ | refine op_itoi ?_ | refine op_ftoi ?_ | refine op_iquo ?_
      | refine op_irem ?_ | refine op_ibits ?_ | refine op_slice_isnil ?_ | refine op_slice_notnil ?_ | refine op_imax ?_ | refine op_imin ?_ | refine op_shl ?_ | refine op_shr ?_
      | (refine op_alloc ?_; intro _) | (refine op_box ?_; intro _) | (refine op_buildSlice ?_; intro _) | (refine op_farith ?_; intro _ _) | refine op_store0 ?_ | refine op_store1 ?_ | refine op_store2 ?_ | refine op_store3 ?_
      | refine op_store4 ?_ | refine op_store5 ?_ | refine tc_cond_t ?_ | refine tc_cond_f ?_ | refine tc_cond (fun _ => ?_) (fun _ => ?_) | refine tc_block ?_ | refine tc_skip ?_ | refine tc_ret ?_
      | refine tc_exit ?_ | refine tc_label ?_ | refine at_seq_ret ?_ | refine at_seq_exit ?_ | refine at_block_normal ?_ | refine at_block_ret ?_ | refine at_block_exit_self ?_ | refine at_block_exit_ne ?_
      | refine at_loop_ret ?_ | refine at_loop_exit ?_ | refine at_loop_goto ?_ | refine tl_guard_yes ?_ | refine tl_guard_no ?_ | refine tl_guard_yes' ?_ | refine tl_guard_no' ?_ | refine tl_guard_undef ?_
      | refine tl_guard_split (fun _ => ?_) (fun _ => ?_)
  exact ret_tmp (hG := List.Sublist.refl _) (hk := ⟨⟨r, rfl, hr⟩, ExC.ex⟩)
set_option maxHeartbeats 8000000 in
theorem length (k1 : Nat) (x1 y1 z1 : Nat) (a1 b1 e1 : Int) (H : Heap) (m1 : (k1, c3 x1 y1 z1) ∈ H) (h1 : FI 1048576 x1 a1) (h2 : FI 1048576 y1 b1) (h3 : FI 1048576 z1 e1) :
    Does Try.prog 87 [s3 k1] H fun w H' => (∃ r, w = .float .f64 r ∧ Root r (a1 * a1 + b1 * b1 + e1 * e1)) ∧ H' = H := by
  obtain ⟨f3, g3⟩ := h1.mulF h1 (C := 1099511627776) (by decide)
  obtain ⟨f4, g4⟩ := h2.mulF h2 (C := 1099511627776) (by decide)
  obtain ⟨f7, g7⟩ := h3.mulF h3 (C := 1099511627776) (by decide)
  obtain ⟨f5, g5⟩ := g3.addF g4 (C := 2199023255552) (by decide)
  obtain ⟨f8, g8⟩ := g5.addF g7 (C := 3298534883328) (by decide)
  have hn : 0 ≤ a1 * a1 + b1 * b1 + e1 * e1 := Int.add_nonneg (Int.add_nonneg (sq_nn _) (sq_nn _)) (sq_nn _)
  generalize a1 * a1 + b1 * b1 + e1 * e1 = n at *
  refine fn_enter 27 Try.func87 fun W => ?_
  repeat'
    first
      | refine tl_defer ?_ | refine tc_seq ?_ | refine tc_region ?_ | refine at_seq_normal ?_ | refine tl_nil ?_ | refine tl_cons ?_ | refine tl_cons_none ?_ | refine op_move ?_
      | refine op_assign ?_ | refine op_fieldAddr ?_ | refine op_load ?_ | refine op_load_agg ?_ | refine op_indexC ?_ | refine op_indexAddr1 ?_ | refine op_indexAddr ?_ | refine op_icmp ?_
      | refine op_fcmp ?_ | refine op_iarith ?_ | refine op_bcmp ?_ | refine op_unop_not ?_ | refine op_unop_neg_float ?_ | refine op_unop_neg_int ?_ | refine op_len_slice ?_ | refine op_pick_true ?_
      | refine op_pick_false ?_ | refine op_pick_true' ?_ | refine op_pick_false' ?_ | refine op_build ?_ | refine op_extract ?_ | refine op_makeInterface ?_ | refine op_typeAssert ?_ | refine op_ptr_nil ?_
      | refine op_nilCheck_ptr ?_ | refine op_nilCheck_meth ?_ | refine op_makeMeth ?_ | refine op_makeFunc ?_ | refine op_itof ?_ | refine op_itoi ?_ | refine op_ftoi ?_ | refine op_iquo ?_
      | refine op_irem ?_ | refine op_ibits ?_ | refine op_slice_isnil ?_ | refine op_slice_notnil ?_ | refine op_imax ?_ | refine op_imin ?_ | refine op_shl ?_ | refine op_shr ?_
      | (refine op_alloc ?_; intro _) | (refine op_box ?_; intro _) | (refine op_buildSlice ?_; intro _) | (refine op_farith ?_; intro _ _) | refine op_store0 ?_ | refine op_store1 ?_ | refine op_store2 ?_ | refine op_store3 ?_
      | refine op_store4 ?_ | refine op_store5 ?_ | refine tc_cond_t ?_ | refine tc_cond_f ?_ | refine tc_cond (fun _ => ?_) (fun _ => ?_) | refine tc_block ?_ | refine tc_skip ?_ | refine tc_ret ?_
      | refine tc_exit ?_ | refine tc_label ?_ | refine at_seq_ret ?_ | refine at_seq_exit ?_ | refine at_block_normal ?_ | refine at_block_ret ?_ | refine at_block_exit_self ?_ | refine at_block_exit_ne ?_
      | refine at_loop_ret ?_ | refine at_loop_exit ?_ | refine at_loop_goto ?_ | refine tl_guard_yes ?_ | refine tl_guard_no ?_ | refine tl_guard_yes' ?_ | refine tl_guard_no' ?_ | refine tl_guard_undef ?_
      | refine tl_guard_split (fun _ => ?_) (fun _ => ?_)
  apply fun hole0 hole1 hole2 hole3 hole4 hole5 hole6 hole7 hole8 hole9 hole10 hole11 hole12 hole13 hole14 hole15 hole16 hole17 hE hD hml hdl hpr prem fin => tc_drawnD 24 [PhiD.is hole0, PhiD.is hole1, PhiD.is hole2, PhiD.is hole3, PhiD.is hole4, PhiD.is hole5, PhiD.is (.float .f64 (fop .mul x1 x1)), PhiD.is hole6, PhiD.is hole7, PhiD.is hole8, PhiD.is hole9, PhiD.is hole10, PhiD.is hole11, PhiD.is (.float .f64 (fop .mul y1 y1)), PhiD.is (.float .f64 (fop .add (fop .mul x1 x1) (fop .mul y1 y1))), PhiD.is hole12, PhiD.is hole13, PhiD.is hole14, PhiD.is hole15, PhiD.is hole16, PhiD.is hole17, PhiD.is (.float .f64 (fop .mul z1 z1)), PhiD.is (.float .f64 (fop .add (fop .add (fop .mul x1 x1) (fop .mul y1 y1)) (fop .mul z1 z1))), PhiD.gen (some' (fun w ex => (∃ r, w = .float .f64 r ∧ Root r n) ∧ ex = []))]
    [some 3, some 4, some 5, some 6, some 7, some 8, some 9, some 10, some 11, some 12, some 13, some 14, some 15, some 16, some 17, some 18, some 19, some 20, some 21, some 22, some 23, some 24, some 25, some 26, some 2] [[], [0], [1], [], [3], [4], [2, 5], [], [7], [8], [], [10], [11], [9, 12], [6, 13], [], [15], [16], [], [18], [19], [17, 20], [14, 21], [22]] mixed ⟨(some_mono _), trivial⟩ prem fin hE hD rfl hml hdl hpr
  rotate_left 19
  · first | kernel_rfl | exact rfl
  · first | kernel_rfl | exact rfl
  · exact Nat.le_of_ble_eq_true rfl
  · first | kernel_rfl | exact rfl
  · first | kernel_rfl | exact rfl
  refine ⟨fun G hG => ?_, fun G hG => ?_, fun G hG => ?_, fun G hG => ?_, fun G hG => ?_, fun G hG => ?_, fun G hG => ?_, fun G hG => ?_, fun G hG => ?_, fun G hG => ?_, fun G hG => ?_, fun G hG => ?_, fun G hG => ?_, fun G hG => ?_, fun G hG => ?_, fun G hG => ?_, fun G hG => ?_, fun G hG => ?_, fun G hG => ?_, fun G hG => ?_, fun G hG => ?_, fun G hG => ?_, fun G hG => ?_, fun G hG => ?_, trivial⟩
  · simp only [withD, nthD, Step2, nthDst, putO, postD]
    (refine op_move ?_; exact ⟨[], rfl, rfl, rfl⟩)
  · simp only [withD, nthD, Step2, nthDst, putO, postD]
    ((first | refine op_indexC ?_ | refine op_indexAddr1 ?_ | refine op_indexAddr ?_); exact ⟨[], rfl, rfl, rfl⟩)
  · simp only [withD, nthD, Step2, nthDst, putO, postD]
    ((first | refine op_load ?_ | refine op_load_agg ?_ | refine op_load ?_ (hm := Sub.mem (by assumption) (by (repeat (apply List.mem_cons_of_mem)); assumption)) | refine op_load_agg ?_ (hm := Sub.mem (by assumption) (by (repeat (apply List.mem_cons_of_mem)); assumption)) | refine op_loadH hG rfl ?_ | refine op_load_aggH hG rfl ?_); exact ⟨[], rfl, rfl, rfl⟩)
  · simp only [withD, nthD, Step2, nthDst, putO, postD]
    (refine op_move ?_; exact ⟨[], rfl, rfl, rfl⟩)
  · simp only [withD, nthD, Step2, nthDst, putO, postD]
    ((first | refine op_indexC ?_ | refine op_indexAddr1 ?_ | refine op_indexAddr ?_); exact ⟨[], rfl, rfl, rfl⟩)
  · simp only [withD, nthD, Step2, nthDst, putO, postD]
    ((first | refine op_load ?_ | refine op_load_agg ?_ | refine op_load ?_ (hm := Sub.mem (by assumption) (by (repeat (apply List.mem_cons_of_mem)); assumption)) | refine op_load_agg ?_ (hm := Sub.mem (by assumption) (by (repeat (apply List.mem_cons_of_mem)); assumption)) | refine op_loadH hG rfl ?_ | refine op_load_aggH hG rfl ?_); exact ⟨[], rfl, rfl, rfl⟩)
  · simp only [withD, nthD, Step2, nthDst, putO, postD]
    (refine op_farithF ?_; exact ⟨[], rfl, rfl, rfl⟩)
  · simp only [withD, nthD, Step2, nthDst, putO, postD]
    (refine op_move ?_; exact ⟨[], rfl, rfl, rfl⟩)
  · simp only [withD, nthD, Step2, nthDst, putO, postD]
    ((first | refine op_indexC ?_ | refine op_indexAddr1 ?_ | refine op_indexAddr ?_); exact ⟨[], rfl, rfl, rfl⟩)
  · simp only [withD, nthD, Step2, nthDst, putO, postD]
    ((first | refine op_load ?_ | refine op_load_agg ?_ | refine op_load ?_ (hm := Sub.mem (by assumption) (by (repeat (apply List.mem_cons_of_mem)); assumption)) | refine op_load_agg ?_ (hm := Sub.mem (by assumption) (by (repeat (apply List.mem_cons_of_mem)); assumption)) | refine op_loadH hG rfl ?_ | refine op_load_aggH hG rfl ?_); exact ⟨[], rfl, rfl, rfl⟩)
  · simp only [withD, nthD, Step2, nthDst, putO, postD]
    (refine op_move ?_; exact ⟨[], rfl, rfl, rfl⟩)
  · simp only [withD, nthD, Step2, nthDst, putO, postD]
    ((first | refine op_indexC ?_ | refine op_indexAddr1 ?_ | refine op_indexAddr ?_); exact ⟨[], rfl, rfl, rfl⟩)
  · simp only [withD, nthD, Step2, nthDst, putO, postD]
    ((first | refine op_load ?_ | refine op_load_agg ?_ | refine op_load ?_ (hm := Sub.mem (by assumption) (by (repeat (apply List.mem_cons_of_mem)); assumption)) | refine op_load_agg ?_ (hm := Sub.mem (by assumption) (by (repeat (apply List.mem_cons_of_mem)); assumption)) | refine op_loadH hG rfl ?_ | refine op_load_aggH hG rfl ?_); exact ⟨[], rfl, rfl, rfl⟩)
  · simp only [withD, nthD, Step2, nthDst, putO, postD]
    (refine op_farithF ?_; exact ⟨[], rfl, rfl, rfl⟩)
  · simp only [withD, nthD, Step2, nthDst, putO, postD]
    (refine op_farithF ?_; exact ⟨[], rfl, rfl, rfl⟩)
  · simp only [withD, nthD, Step2, nthDst, putO, postD]
    (refine op_move ?_; exact ⟨[], rfl, rfl, rfl⟩)
  · simp only [withD, nthD, Step2, nthDst, putO, postD]
    ((first | refine op_indexC ?_ | refine op_indexAddr1 ?_ | refine op_indexAddr ?_); exact ⟨[], rfl, rfl, rfl⟩)
  · simp only [withD, nthD, Step2, nthDst, putO, postD]
    ((first | refine op_load ?_ | refine op_load_agg ?_ | refine op_load ?_ (hm := Sub.mem (by assumption) (by (repeat (apply List.mem_cons_of_mem)); assumption)) | refine op_load_agg ?_ (hm := Sub.mem (by assumption) (by (repeat (apply List.mem_cons_of_mem)); assumption)) | refine op_loadH hG rfl ?_ | refine op_load_aggH hG rfl ?_); exact ⟨[], rfl, rfl, rfl⟩)
  · simp only [withD, nthD, Step2, nthDst, putO, postD]
    (refine op_move ?_; exact ⟨[], rfl, rfl, rfl⟩)
  · simp only [withD, nthD, Step2, nthDst, putO, postD]
    ((first | refine op_indexC ?_ | refine op_indexAddr1 ?_ | refine op_indexAddr ?_); exact ⟨[], rfl, rfl, rfl⟩)
  · simp only [withD, nthD, Step2, nthDst, putO, postD]
    ((first | refine op_load ?_ | refine op_load_agg ?_ | refine op_load ?_ (hm := Sub.mem (by assumption) (by (repeat (apply List.mem_cons_of_mem)); assumption)) | refine op_load_agg ?_ (hm := Sub.mem (by assumption) (by (repeat (apply List.mem_cons_of_mem)); assumption)) | refine op_loadH hG rfl ?_ | refine op_load_aggH hG rfl ?_); exact ⟨[], rfl, rfl, rfl⟩)
  · simp only [withD, nthD, Step2, nthDst, putO, postD]
    (refine op_farithF ?_; exact ⟨[], rfl, rfl, rfl⟩)
  · simp only [withD, nthD, Step2, nthDst, putO, postD]
    (refine op_farithF ?_; exact ⟨[], rfl, rfl, rfl⟩)
  · simp only [withD, nthD, Step2, nthDst, putO, postD]
    (refine op_call ((sqrt _ _).mono ?_); rintro _ _ ⟨⟨r, rfl, hr⟩, rfl⟩; exact ⟨[], rfl, ⟨r, rfl, g8.sqrt (by decide) hn hr⟩, rfl⟩)
  simp only [FinalsD, nthDst, putO, List.drop_succ_cons, List.drop_zero]
  rintro _ _ ⟨⟨⟨r, rfl, hr⟩, rfl⟩, -⟩
  try simp only [List.nil_append]
  repeat'
    first
      | refine tl_defer ?_ | refine tc_seq ?_ | refine tc_region ?_ | refine at_seq_normal ?_ | refine tl_nil ?_ | refine tl_cons ?_ | refine tl_cons_none ?_ | refine op_move ?_
      | refine op_assign ?_ | refine op_fieldAddr ?_ | refine op_load ?_ | refine op_load_agg ?_ | refine op_indexC ?_ | refine op_indexAddr1 ?_ | refine op_indexAddr ?_ | refine op_icmp ?_
      | refine op_fcmp ?_ | refine op_iarith ?_ | refine op_bcmp ?_ | refine op_unop_not ?_ | refine op_unop_neg_float ?_ | refine op_unop_neg_int ?_ | refine op_len_slice ?_ | refine op_pick_true ?_
      | refine op_pick_false ?_ | refine op_pick_true' ?_ | refine op_pick_false' ?_ | refine op_build ?_ | refine op_extract ?_ | refine op_makeInterface ?_ | refine op_typeAssert ?_ | refine op_ptr_nil ?_
      | refine op_nilCheck_ptr ?_ | refine op_nilCheck_meth ?_ | refine op_makeMeth ?_ | refine op_makeFunc ?_ | refine op_itof ?_ | refine op_itoi ?_ | refine op_ftoi ?_ | refine op_iquo ?_
      | refine op_irem ?_ | refine op_ibits ?_ | refine op_slice_isnil ?_ | refine op_slice_notnil ?_ | refine op_imax ?_ | refine op_imin ?_ | refine op_shl ?_ | refine op_shr ?_
      | (refine op_alloc ?_; intro _) | (refine op_box ?_; intro _) | (refine op_buildSlice ?_; intro _) | (refine op_farith ?_; intro _ _) | refine op_store0 ?_ | refine op_store1 ?_ | refine op_store2 ?_ | refine op_store3 ?_
      | refine op_store4 ?_ | refine op_store5 ?_ | refine tc_cond_t ?_ | refine tc_cond_f ?_ | refine tc_cond (fun _ => ?_) (fun _ => ?_) | refine tc_block ?_ | refine tc_skip ?_ | refine tc_ret ?_
      | refine tc_exit ?_ | refine tc_label ?_ | refine at_seq_ret ?_ | refine at_seq_exit ?_ | refine at_block_normal ?_ | refine at_block_ret ?_ | refine at_block_exit_self ?_ | refine at_block_exit_ne ?_
      | refine at_loop_ret ?_ | refine at_loop_exit ?_ | refine at_loop_goto ?_ | refine tl_guard_yes ?_ | refine tl_guard_no ?_ | refine tl_guard_yes' ?_ | refine tl_guard_no' ?_ | refine tl_guard_undef ?_
      | refine tl_guard_split (fun _ => ?_) (fun _ => ?_)
  exact ret_tmp (hk := ⟨⟨r, rfl, hr⟩, rfl⟩)
theorem implLength (x1 y1 z1 : Nat) (a1 b1 e1 : Int) (H : Heap) (h1 : FI 1048576 x1 a1) (h2 : FI 1048576 y1 b1) (h3 : FI 1048576 z1 e1) :
    Does Try.prog 34 [v3 x1 y1 z1] H fun w H' => (∃ r, w = .float .f64 r ∧ Root r (a1 * a1 + b1 * b1 + e1 * e1)) ∧ ∃ ex, H' = ex ++ H := by
  refine fn_enter 6 Try.func34 fun W => ?_
  repeat' first
    | (first | refine tl_defer ?_ | refine tc_seq ?_ | refine tc_region ?_ | refine at_seq_normal ?_ | refine tl_nil ?_ | refine tl_cons ?_ | refine tl_cons_none ?_ | refine op_move ?_ | refine op_assign ?_ | refine op_fieldAddr ?_ | refine op_load ?_ | refine op_load_agg ?_ | refine op_indexC ?_ | refine op_indexAddr1 ?_ | refine op_indexAddr ?_ | refine op_icmp ?_ | refine op_fcmp ?_ | refine op_iarith ?_ | refine op_bcmp ?_ | refine op_unop_not ?_ | refine op_unop_neg_float ?_ | refine op_unop_neg_int ?_ | refine op_len_slice ?_ | refine op_pick_true ?_ | refine op_pick_false ?_ | refine op_pick_true' ?_ | refine op_pick_false' ?_ | refine op_build ?_ | refine op_extract ?_ | refine op_makeInterface ?_ | refine op_typeAssert ?_ | refine op_ptr_nil ?_ | refine op_nilCheck_ptr ?_ | refine op_nilCheck_meth ?_ | refine op_makeMeth ?_ | refine op_makeFunc ?_ | refine op_itof ?_ | refine op_itoi ?_ | refine op_ftoi ?_ | refine op_iquo ?_ | refine op_irem ?_ | refine op_ibits ?_ | refine op_slice_isnil ?_ | refine op_slice_notnil ?_ | refine op_imax ?_ | refine op_imin ?_ | refine op_shl ?_ | refine op_shr ?_ | (refine op_alloc ?_; intro _) | (refine op_box ?_; intro _) | (refine op_buildSlice ?_; intro _) | (refine op_farith ?_; intro _ _) | refine op_store0 ?_ | refine op_store1 ?_ | refine op_store2 ?_ | refine op_store3 ?_ | refine op_store4 ?_ | refine op_store5 ?_ | refine op_storeK rfl ?_ | refine op_loadK rfl ?_ | refine op_load_aggK rfl ?_ | refine tc_cond_t ?_ | refine tc_cond_f ?_ | refine tc_cond (fun _ => ?_) (fun _ => ?_) | refine tc_block ?_ | refine tc_skip ?_ | refine tc_ret ?_ | refine tc_exit ?_ | refine tc_label ?_ | refine at_seq_ret ?_ | refine at_seq_exit ?_ | refine at_block_normal ?_ | refine at_block_ret ?_ | refine at_block_exit_self ?_ | refine at_block_exit_ne ?_ | refine at_loop_ret ?_ | refine at_loop_exit ?_ | refine at_loop_goto ?_ | refine tl_guard_yes ?_ | refine tl_guard_no ?_ | refine tl_guard_yes' ?_ | refine tl_guard_no' ?_ | refine tl_guard_undef ?_ | refine tl_guard_split (fun _ => ?_) (fun _ => ?_))
    | (refine op_call ((coord3 x1 y1 z1 _).mono ?_); rintro _ _ ⟨k, rfl, hm, ex, rfl⟩)
    | (refine op_call ((length k x1 y1 z1 a1 b1 e1 _ hm h1 h2 h3).mono ?_); rintro _ _ ⟨⟨r, rfl, hr⟩, rfl⟩)
    | fail
  exact ret_tmp (hG := List.Sublist.refl _) (hk := ⟨⟨r, rfl, hr⟩, ExC.ex⟩)
end Go.Proofs.Ytomhkbijijdghaa.Spc
