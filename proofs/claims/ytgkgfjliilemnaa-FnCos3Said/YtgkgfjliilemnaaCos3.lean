/-
  FnCos3: the cosine of the angle between two vectors of space is, nearer than 2^-40, their product over both lengths; it is the same the other way about. No conditions beyond the statement's own.
-/
import Derived.Test.YtgkgfjliilemnaaRows
import Derived.Test.YtgkgfjliilemnaaCosN
import Derived.Test.YtgkgfjliilemnaaSqN
import Derived.Test.YtgkgfjliilemnaaLg16
import Derived.Test.YtgkgfjliilemnaaInts
import Derived.Test.YtgkgfjliilemnaaPl
set_option linter.unusedVariables false
set_option linter.unusedSimpArgs false
namespace Go.Proofs.Ytgkgfjliilemnaa.fnCos3
open Go.Lg Go.Proofs.Ytgkgfjliilemnaa.CosN Go.Proofs.Ytgkgfjliilemnaa.SqN Go.Proofs.Ytgkgfjliilemnaa.Wh Go.Proofs.Ytgkgfjliilemnaa.Ints
open Go.ChangeShapes Go.WideShapes Go.RowKit

theorem msqrt (x : Nat) (H : Heap) : Does Try.prog 65 [.float .f64 x] H fun v H' => (∃ r, v = .float .f64 r ∧ SqrtR x r) ∧ H' = H :=
  does_sqrt Try.func65 rfl rfl (by kernel_rfl) (by kernel_rfl)
theorem sqrt (x : Nat) (H : Heap) : Does Try.prog 21 [.float .f64 x] H fun v H' => (∃ r, v = .float .f64 r ∧ SqrtR x r) ∧ H' = H := by
  refine fn_enter 5 Try.func21 fun W => ?_
  repeat' first
    | (first | refine tl_defer ?_ | refine tc_seq ?_ | refine tc_region ?_ | refine at_seq_normal ?_ | refine tl_nil ?_ | refine tl_cons ?_ | refine tl_cons_none ?_ | refine op_move ?_ | refine op_assign ?_ | refine op_fieldAddr ?_ | refine op_load ?_ | refine op_load_agg ?_ | refine op_indexC ?_ | refine op_indexAddr1 ?_ | refine op_indexAddr ?_ | refine op_icmp ?_ | refine op_fcmp ?_ | refine op_iarith ?_ | refine op_bcmp ?_ | refine op_unop_not ?_ | refine op_unop_neg_float ?_ | refine op_unop_neg_int ?_ | refine op_len_slice ?_ | refine op_pick_true ?_ | refine op_pick_false ?_ | refine op_pick_true' ?_ | refine op_pick_false' ?_ | refine op_build ?_ | refine op_extract ?_ | refine op_makeInterface ?_ | refine op_typeAssert ?_ | refine op_ptr_nil ?_ | refine op_nilCheck_ptr ?_ | refine op_nilCheck_meth ?_ | refine op_makeMeth ?_ | refine op_makeFunc ?_ | refine op_itof ?_ | refine op_itoi ?_ | refine op_ftoi ?_ | refine op_iquo ?_ | refine op_irem ?_ | refine op_ibits ?_ | refine op_slice_isnil ?_ | refine op_slice_notnil ?_ | refine op_imax ?_ | refine op_imin ?_ | refine op_shl ?_ | refine op_shr ?_ | (refine op_alloc ?_; intro _) | (refine op_box ?_; intro _) | (refine op_buildSlice ?_; intro _) | (refine op_farith ?_; intro _ _) | refine op_store0 ?_ | refine op_store1 ?_ | refine op_store2 ?_ | refine op_store3 ?_ | refine op_store4 ?_ | refine op_store5 ?_ | refine tc_cond_t ?_ | refine tc_cond_f ?_ | refine tc_cond (fun _ => ?_) (fun _ => ?_) | refine tc_block ?_ | refine tc_skip ?_ | refine tc_ret ?_ | refine tc_exit ?_ | refine tc_label ?_ | refine at_seq_ret ?_ | refine at_seq_exit ?_ | refine at_block_normal ?_ | refine at_block_ret ?_ | refine at_block_exit_self ?_ | refine at_block_exit_ne ?_ | refine at_loop_ret ?_ | refine at_loop_exit ?_ | refine at_loop_goto ?_ | refine tl_guard_yes ?_ | refine tl_guard_no ?_ | refine tl_guard_yes' ?_ | refine tl_guard_no' ?_ | refine tl_guard_undef ?_ | refine tl_guard_split (fun _ => ?_) (fun _ => ?_))
    | (refine op_call ((msqrt _ _).mono ?_); rintro _ _ ⟨⟨r, rfl, hr⟩, rfl⟩)
  exact ret_tmp (hk := ⟨⟨r, rfl, hr⟩, rfl⟩)
instance : FlAgg Try.prog 38 [(22, 0), (22, 1), (22, 2)] := ⟨by kernel_rfl, by kernel_rfl, by kernel_rfl, by kernel_rfl, by kernel_rfl, by kernel_rfl⟩
theorem vec (px py pz : Nat) (H : Heap) : Does Try.prog 97 [.agg ⟨[.float .f64 px, .float .f64 py, .float .f64 pz]⟩] H fun w H' => w = .agg ⟨[.float .f64 px, .float .f64 py, .float .f64 pz]⟩ ∧ H' = H := by
  refine fn_enter 10 Try.func97 fun W => ?_
  repeat'
    first
      | refine tl_defer ?_ | refine tc_seq ?_ | refine tc_region ?_ | refine at_seq_normal ?_ | refine tl_nil ?_ | refine tl_cons ?_ | refine tl_cons_none ?_ | refine op_move ?_
      | refine op_assign ?_ | refine op_fieldAddr ?_ | refine op_load ?_ | refine op_load_agg ?_ | refine op_indexC ?_ | refine op_indexAddr1 ?_ | refine op_indexAddr ?_ | refine op_icmp ?_
      | refine op_fcmp ?_ | refine op_iarith ?_ | refine op_bcmp ?_ | refine op_unop_not ?_ | refine op_unop_neg_float ?_ | refine op_unop_neg_int ?_ | refine op_len_slice ?_ | refine op_pick_true ?_
      | refine op_pick_false ?_ | refine op_pick_true' ?_ | refine op_pick_false' ?_ | refine op_build ?_ | refine op_extract ?_ | refine op_makeInterface ?_ | refine op_typeAssert ?_ | refine op_ptr_nil ?_
      | refine op_nilCheck_ptr ?_ | refine op_nilCheck_meth ?_ | refine op_makeMeth ?_ | refine op_makeFunc ?_ | refine op_itof ?_ | refine op_itoi ?_ | refine op_ftoi ?_ | refine op_iquo ?_
      | refine op_irem ?_ | refine op_ibits ?_ | refine op_slice_isnil ?_ | refine op_slice_notnil ?_ | refine op_imax ?_ | refine op_imin ?_ | refine op_shl ?_ | refine op_shr ?_
      | (refine op_alloc ?_; intro _) | (refine op_box ?_; intro _) | (refine op_buildSlice ?_; intro _) | (refine op_farith ?_; intro _ _) | refine op_store0 ?_ | refine op_store1 ?_ | refine op_store2 ?_ | refine op_store3 ?_
      | refine op_store4 ?_ | refine op_store5 ?_ | refine tc_cond_t ?_ | refine tc_cond_f ?_ | refine tc_cond (fun _ => ?_) (fun _ => ?_) | refine tc_block ?_ | refine tc_skip ?_ | refine tc_ret ?_
      | refine tc_exit ?_ | refine tc_label ?_ | refine at_seq_ret ?_ | refine at_seq_exit ?_ | refine at_block_normal ?_ | refine at_block_ret ?_ | refine at_block_exit_self ?_ | refine at_block_exit_ne ?_
      | refine at_loop_ret ?_ | refine at_loop_exit ?_ | refine at_loop_goto ?_ | refine tl_guard_yes ?_ | refine tl_guard_no ?_ | refine tl_guard_yes' ?_ | refine tl_guard_no' ?_ | refine tl_guard_undef ?_
      | refine tl_guard_split (fun _ => ?_) (fun _ => ?_)
  refine ret_agg (hr := rfl) (hG := by (repeat (first | exact List.Sublist.refl _ | apply List.Sublist.cons_cons | apply List.Sublist.cons | refine List.Sublist.trans ?_ (List.sublist_append_right _ _)))) (hk := ⟨rfl, rfl⟩)
theorem dot (px py pz qx qy qz : Nat) (nx ny nz mx my mz : Int) (H : Heap) (fx : FI 1048576 px nx) (fy : FI 1048576 py ny) (fz : FI 1048576 pz nz) (gx : FI 1048576 qx mx) (gy : FI 1048576 qy my) (gz : FI 1048576 qz mz) : Does Try.prog 98 [.agg ⟨[.float .f64 px, .float .f64 py, .float .f64 pz]⟩, .agg ⟨[.float .f64 qx, .float .f64 qy, .float .f64 qz]⟩] H fun w H' => (∃ r, w = .float .f64 r ∧ FI 3298534883328 r (nx * mx + ny * my + nz * mz)) ∧ H' = H := by
  refine fn_enter 22 Try.func98 fun W => ?_
  repeat'
    first
      | refine tl_defer ?_ | refine tc_seq ?_ | refine tc_region ?_ | refine at_seq_normal ?_ | refine tl_nil ?_ | refine tl_cons ?_ | refine tl_cons_none ?_ | refine op_move ?_
      | refine op_assign ?_ | refine op_fieldAddr ?_ | refine op_load ?_ | refine op_load_agg ?_ | refine op_indexC ?_ | refine op_indexAddr1 ?_ | refine op_indexAddr ?_ | refine op_icmp ?_
      | refine op_fcmp ?_ | refine op_iarith ?_ | refine op_bcmp ?_ | refine op_unop_not ?_ | refine op_unop_neg_float ?_ | refine op_unop_neg_int ?_ | refine op_len_slice ?_ | refine op_pick_true ?_
      | refine op_pick_false ?_ | refine op_pick_true' ?_ | refine op_pick_false' ?_ | refine op_build ?_ | refine op_extract ?_ | refine op_makeInterface ?_ | refine op_typeAssert ?_ | refine op_ptr_nil ?_
      | refine op_nilCheck_ptr ?_ | refine op_nilCheck_meth ?_ | refine op_makeMeth ?_ | refine op_makeFunc ?_ | refine op_itof ?_ | refine op_itoi ?_ | refine op_ftoi ?_ | refine op_iquo ?_
      | refine op_irem ?_ | refine op_ibits ?_ | refine op_slice_isnil ?_ | refine op_slice_notnil ?_ | refine op_imax ?_ | refine op_imin ?_ | refine op_shl ?_ | refine op_shr ?_
      | (refine op_alloc ?_; intro _) | (refine op_box ?_; intro _) | (refine op_buildSlice ?_; intro _) | (refine op_farith ?_; intro _ _) | refine op_store0 ?_ | refine op_store1 ?_ | refine op_store2 ?_ | refine op_store3 ?_
      | refine op_store4 ?_ | refine op_store5 ?_ | refine tc_cond_t ?_ | refine tc_cond_f ?_ | refine tc_cond (fun _ => ?_) (fun _ => ?_) | refine tc_block ?_ | refine tc_skip ?_ | refine tc_ret ?_
      | refine tc_exit ?_ | refine tc_label ?_ | refine at_seq_ret ?_ | refine at_seq_exit ?_ | refine at_block_normal ?_ | refine at_block_ret ?_ | refine at_block_exit_self ?_ | refine at_block_exit_ne ?_
      | refine at_loop_ret ?_ | refine at_loop_exit ?_ | refine at_loop_goto ?_ | refine tl_guard_yes ?_ | refine tl_guard_no ?_ | refine tl_guard_yes' ?_ | refine tl_guard_no' ?_ | refine tl_guard_undef ?_
      | refine tl_guard_split (fun _ => ?_) (fun _ => ?_)
  rename_i a ha b hb s hs c hc t ht
  exact ret_tmp (hG := by (repeat (first | exact List.Sublist.refl _ | apply List.Sublist.cons_cons | apply List.Sublist.cons | refine List.Sublist.trans ?_ (List.sublist_append_right _ _)))) (hk := ⟨⟨_, rfl, FI.add (FI.add (FI.mul fx gx (C := 1099511627776) (by decide) ha) (FI.mul fy gy (C := 1099511627776) (by decide) hb) (C := 2199023255552) (by decide) hs) (FI.mul fz gz (C := 1099511627776) (by decide) hc) (by decide) ht⟩, rfl⟩)
theorem Rl.plus {e a b t : Rat} (h : Rl e a b) (hb : 0 ≤ b) (ht : 0 ≤ t) (he : 0 ≤ e) : Rl e (t + a) (t + b) := by
  unfold Rl at *
  rw [rabs_of_nonneg hb] at h
  rw [rabs_of_nonneg (show 0 ≤ t + b by grind), show t + a - (t + b) = a - b by grind]
  have := mul_le_left (show b ≤ t + b by grind) he
  exact Rat.le_trans h this
theorem norm (px py pz : Nat) (nx ny nz : Int) (H : Heap) (fx : FI 1048576 px nx) (fy : FI 1048576 py ny) (fz : FI 1048576 pz nz) : Does Try.prog 118 [.agg ⟨[.float .f64 px, .float .f64 py, .float .f64 pz]⟩] H fun w H' => (∃ r c, w = .float .f64 r ∧ Fv r c ∧ 0 ≤ c ∧ Ru 37 (c * c) ((nx * nx + ny * ny + nz * nz : Int) : Rat)) ∧ H' = H := by
  have ix := int_ok fx.lo fx.hi (by decide)
  have iy := int_ok fy.lo fy.hi (by decide)
  have iz := int_ok fz.lo fz.hi (by decide)
  have b1 := (mul_bound fy.lo fy.hi fy.lo fy.hi).2
  have b2 := (mul_bound fz.lo fz.hi fz.lo fz.hi).2
  have s1 : 0 ≤ ny * ny := by rcases Int.le_total 0 ny with h | h; exact Int.mul_nonneg h h; have := Int.mul_nonneg (show 0 ≤ -ny by omega) (show 0 ≤ -ny by omega); rwa [Int.neg_mul_neg] at this
  have s2 : 0 ≤ nz * nz := by rcases Int.le_total 0 nz with h | h; exact Int.mul_nonneg h h; have := Int.mul_nonneg (show 0 ≤ -nz by omega) (show 0 ≤ -nz by omega); rwa [Int.neg_mul_neg] at this
  have s3 : 0 ≤ nx * nx := by rcases Int.le_total 0 nx with h | h; exact Int.mul_nonneg h h; have := Int.mul_nonneg (show 0 ≤ -nx by omega) (show 0 ≤ -nx by omega); rwa [Int.neg_mul_neg] at this
  have key : ∀ r c : _, Fv r c → 0 ≤ c → Ru 18 (c * c) ((ny : Rat) * ny + (nz : Rat) * nz) → (c = 0 ∨ p2 (-100) ≤ rabs c) ∧ rabs c ≤ p2 100 ∧ Ru 18 ((nx : Rat) * nx + c * c) ((nx * nx + ny * ny + nz * nz : Int) : Rat) := by
    intro r c h1 h2 h3
    have e : (ny : Rat) * ny + (nz : Rat) * nz = ((ny * ny + nz * nz : Int) : Rat) := by rw [Rat.intCast_add, Rat.intCast_mul, Rat.intCast_mul]
    have h5 := h3
    rw [e] at h3
    have hS0 : (0 : Rat) ≤ ((ny * ny + nz * nz : Int) : Rat) := by exact_mod_cast (show 0 ≤ ny * ny + nz * nz by omega)
    have r1 : Ru 18 ((nx : Rat) * nx + c * c) ((nx * nx + ny * ny + nz * nz : Int) : Rat) := by
      have hx0 : (0 : Rat) ≤ (nx : Rat) * nx := by rw [← Rat.intCast_mul]; exact_mod_cast s3
      have := Rl.plus h3 hS0 hx0 (u_pos 18)
      have e2 : ((nx * nx + ny * ny + nz * nz : Int) : Rat) = (nx : Rat) * nx + ((ny * ny + nz * nz : Int) : Rat) := by
        rw [← Rat.intCast_mul, ← Rat.intCast_add]; congr 1; omega
      rw [e2]; exact this
    by_cases hz : ny * ny + nz * nz = 0
    · rw [hz] at h3
      have hc := Ru.zero (show Ru 18 (c * c) 0 by simpa using h3)
      have hc0 : c = 0 := by rcases Rat.mul_eq_zero.1 hc with h | h <;> exact h
      subst hc0
      refine ⟨.inl rfl, by rw [rabs_zero]; exact Rat.le_of_lt (p2_pos _), r1⟩
    · obtain ⟨a1, a2, a3⟩ := len_bd (by decide) h2 h3 (by omega) (by omega)
      refine ⟨.inr ?_, ?_, r1⟩
      · rw [rabs_of_nonneg h2]; exact Rat.le_trans (p2_le (by decide)) a2
      · rw [rabs_of_nonneg h2]; exact Rat.le_trans a3 (p2_le (by decide))
  refine fn_enter 11 Try.func118 fun W => ?_
  repeat'
    first
      | refine tl_defer ?_ | refine tc_seq ?_ | refine tc_region ?_ | refine at_seq_normal ?_ | refine tl_nil ?_ | refine tl_cons ?_ | refine tl_cons_none ?_ | refine op_move ?_
      | refine op_assign ?_ | refine op_fieldAddr ?_ | refine op_load ?_ | refine op_load_agg ?_ | refine op_indexC ?_ | refine op_indexAddr1 ?_ | refine op_indexAddr ?_ | refine op_icmp ?_
      | refine op_fcmp ?_ | refine op_iarith ?_ | refine op_bcmp ?_ | refine op_unop_not ?_ | refine op_unop_neg_float ?_ | refine op_unop_neg_int ?_ | refine op_len_slice ?_ | refine op_pick_true ?_
      | refine op_pick_false ?_ | refine op_pick_true' ?_ | refine op_pick_false' ?_ | refine op_build ?_ | refine op_extract ?_ | refine op_makeInterface ?_ | refine op_typeAssert ?_ | refine op_ptr_nil ?_
      | refine op_nilCheck_ptr ?_ | refine op_nilCheck_meth ?_ | refine op_makeMeth ?_ | refine op_makeFunc ?_ | refine op_itof ?_ | refine op_itoi ?_ | refine op_ftoi ?_ | refine op_iquo ?_
      | refine op_irem ?_ | refine op_ibits ?_ | refine op_slice_isnil ?_ | refine op_slice_notnil ?_ | refine op_imax ?_ | refine op_imin ?_ | refine op_shl ?_ | refine op_shr ?_
      | (refine op_alloc ?_; intro _) | (refine op_box ?_; intro _) | (refine op_buildSlice ?_; intro _) | (refine op_farith ?_; intro _ _) | refine op_store0 ?_ | refine op_store1 ?_ | refine op_store2 ?_ | refine op_store3 ?_
      | refine op_store4 ?_ | refine op_store5 ?_ | refine tc_cond_t ?_ | refine tc_cond_f ?_ | refine tc_cond (fun _ => ?_) (fun _ => ?_) | refine tc_block ?_ | refine tc_skip ?_ | refine tc_ret ?_
      | refine tc_exit ?_ | refine tc_label ?_ | refine at_seq_ret ?_ | refine at_seq_exit ?_ | refine at_block_normal ?_ | refine at_block_ret ?_ | refine at_block_exit_self ?_ | refine at_block_exit_ne ?_
      | refine at_loop_ret ?_ | refine at_loop_exit ?_ | refine at_loop_goto ?_ | refine tl_guard_yes ?_ | refine tl_guard_no ?_ | refine tl_guard_yes' ?_ | refine tl_guard_no' ?_ | refine tl_guard_undef ?_
      | refine tl_guard_split (fun _ => ?_) (fun _ => ?_)
  apply fun hole0 hole1 hole2 hole3 hole4 hole5 hE hD hml hdl hpr prem fin => tc_drawn 8 [is hole0, is hole1, is hole2, is hole3, is hole4, is hole5, (some' (fun w ex => (∃ r c, w = .float .f64 r ∧ Fv r c ∧ 0 ≤ c ∧ Ru 18 (c * c) ((ny : Rat) * ny + (nz : Rat) * nz)) ∧ ex = [])), (some' (fun w ex => (∃ r c, w = .float .f64 r ∧ Fv r c ∧ 0 ≤ c ∧ Ru 37 (c * c) ((nx * nx + ny * ny + nz * nz : Int) : Rat)) ∧ ex = []))]
    [some 3, some 4, some 5, some 6, some 7, some 8, some 9, some 10, some 2] [[], [0], [], [2], [], [4], [3, 5], [1, 6]] mixed ⟨(is_mono _), (is_mono _), (is_mono _), (is_mono _), (is_mono _), (is_mono _), (some_mono _), (some_mono _), trivial⟩ prem fin hE hD rfl hml hdl hpr
  rotate_left 7
  · exact rfl
  · exact rfl
  · exact Nat.le_of_ble_eq_true rfl
  · exact rfl
  · exact rfl
  refine ⟨fun G hG => ?_, fun G hG => ?_, fun G hG => ?_, fun G hG => ?_, fun G hG => ?_, fun G hG => ?_, fun G hG => ?_, fun G hG => ?_, trivial⟩
  · simp only [with2, Step2, nthDst, putO]
    (refine op_fieldAddr ?_; exact ⟨[], rfl, rfl, rfl⟩)
  · rintro _ _ ⟨rfl, rfl⟩ -
    simp only [with2, Step2, nthDst, putO]
    ((first | refine op_load ?_ | refine op_load_agg ?_ | refine op_load ?_ (hm := Sub.mem (by assumption) (by (repeat (apply List.mem_cons_of_mem)); assumption)) | refine op_load_agg ?_ (hm := Sub.mem (by assumption) (by (repeat (apply List.mem_cons_of_mem)); assumption))); exact ⟨[], rfl, rfl, rfl⟩)
  · simp only [with2, Step2, nthDst, putO]
    (refine op_fieldAddr ?_; exact ⟨[], rfl, rfl, rfl⟩)
  · rintro _ _ ⟨rfl, rfl⟩ -
    simp only [with2, Step2, nthDst, putO]
    ((first | refine op_load ?_ | refine op_load_agg ?_ | refine op_load ?_ (hm := Sub.mem (by assumption) (by (repeat (apply List.mem_cons_of_mem)); assumption)) | refine op_load_agg ?_ (hm := Sub.mem (by assumption) (by (repeat (apply List.mem_cons_of_mem)); assumption))); exact ⟨[], rfl, rfl, rfl⟩)
  · simp only [with2, Step2, nthDst, putO]
    (refine op_fieldAddr ?_; exact ⟨[], rfl, rfl, rfl⟩)
  · rintro _ _ ⟨rfl, rfl⟩ -
    simp only [with2, Step2, nthDst, putO]
    ((first | refine op_load ?_ | refine op_load_agg ?_ | refine op_load ?_ (hm := Sub.mem (by assumption) (by (repeat (apply List.mem_cons_of_mem)); assumption)) | refine op_load_agg ?_ (hm := Sub.mem (by assumption) (by (repeat (apply List.mem_cons_of_mem)); assumption))); exact ⟨[], rfl, rfl, rfl⟩)
  · rintro _ _ ⟨rfl, rfl⟩ - _ _ ⟨rfl, rfl⟩ -
    simp only [with2, Step2, nthDst, putO]
    (refine op_call ((hypot _ _ _ _ _ fy.fv fz.fv iy.1 iz.1 iy.2 iz.2).mono ?_); rintro _ _ ⟨h, rfl⟩; exact ⟨[], rfl, h, rfl⟩)
  · rintro _ _ ⟨rfl, rfl⟩ - _ _ ⟨⟨r, c, rfl, h1, h2, h3⟩, rfl⟩ -
    simp only [with2, Step2, nthDst, putO]
    (obtain ⟨z1, z2, z3⟩ := key _ _ h1 h2 h3; refine op_call ((hypot _ _ _ _ _ fx.fv h1 ix.1 z1 ix.2 z2).mono ?_); rintro _ _ ⟨⟨r, c, rfl, q1, q2, q3⟩, rfl⟩; exact ⟨[], rfl, ⟨r, c, rfl, q1, q2, (q3.trans z3).le (by decide)⟩, rfl⟩)
  · rintro _ _ _ _ _ _ _ _ _ _ _ _ _ _ _ _ ⟨⟨⟨r7, c7, rfl, k1, k2, k3⟩, rfl⟩, ⟨⟨r, c, rfl, h1, h2, h3⟩, rfl⟩, ⟨rfl, rfl⟩, ⟨rfl, rfl⟩, ⟨rfl, rfl⟩, ⟨rfl, rfl⟩, ⟨rfl, rfl⟩, ⟨rfl, rfl⟩, _⟩
    simp only [List.nil_append, List.cons_append, List.append_nil, List.drop_succ_cons, List.drop_zero, nthDst, putO]
    repeat'
      first
        | refine tl_defer ?_ | refine tc_seq ?_ | refine tc_region ?_ | refine at_seq_normal ?_ | refine tl_nil ?_ | refine tl_cons ?_ | refine tl_cons_none ?_ | refine op_move ?_
        | refine op_assign ?_ | refine op_fieldAddr ?_ | refine op_load ?_ | refine op_load_agg ?_ | refine op_indexC ?_ | refine op_indexAddr1 ?_ | refine op_indexAddr ?_ | refine op_icmp ?_
        | refine op_fcmp ?_ | refine op_iarith ?_ | refine op_bcmp ?_ | refine op_unop_not ?_ | refine op_unop_neg_float ?_ | refine op_unop_neg_int ?_ | refine op_len_slice ?_ | refine op_pick_true ?_
        | refine op_pick_false ?_ | refine op_pick_true' ?_ | refine op_pick_false' ?_ | refine op_build ?_ | refine op_extract ?_ | refine op_makeInterface ?_ | refine op_typeAssert ?_ | refine op_ptr_nil ?_
        | refine op_nilCheck_ptr ?_ | refine op_nilCheck_meth ?_ | refine op_makeMeth ?_ | refine op_makeFunc ?_ | refine op_itof ?_ | refine op_itoi ?_ | refine op_ftoi ?_ | refine op_iquo ?_
        | refine op_irem ?_ | refine op_ibits ?_ | refine op_slice_isnil ?_ | refine op_slice_notnil ?_ | refine op_imax ?_ | refine op_imin ?_ | refine op_shl ?_ | refine op_shr ?_
        | (refine op_alloc ?_; intro _) | (refine op_box ?_; intro _) | (refine op_buildSlice ?_; intro _) | (refine op_farith ?_; intro _ _) | refine op_store0 ?_ | refine op_store1 ?_ | refine op_store2 ?_ | refine op_store3 ?_
        | refine op_store4 ?_ | refine op_store5 ?_ | refine tc_cond_t ?_ | refine tc_cond_f ?_ | refine tc_cond (fun _ => ?_) (fun _ => ?_) | refine tc_block ?_ | refine tc_skip ?_ | refine tc_ret ?_
        | refine tc_exit ?_ | refine tc_label ?_ | refine at_seq_ret ?_ | refine at_seq_exit ?_ | refine at_block_normal ?_ | refine at_block_ret ?_ | refine at_block_exit_self ?_ | refine at_block_exit_ne ?_
        | refine at_loop_ret ?_ | refine at_loop_exit ?_ | refine at_loop_goto ?_ | refine tl_guard_yes ?_ | refine tl_guard_no ?_ | refine tl_guard_yes' ?_ | refine tl_guard_no' ?_ | refine tl_guard_undef ?_
        | refine tl_guard_split (fun _ => ?_) (fun _ => ?_)
    exact ret_tmp (hG := by (repeat (first | exact List.Sublist.refl _ | apply List.Sublist.cons_cons | apply List.Sublist.cons | refine List.Sublist.trans ?_ (List.sublist_append_right _ _)))) (hk := ⟨⟨r7, c7, rfl, k1, k2, k3⟩, rfl⟩)
set_option maxHeartbeats 8000000 in
theorem cos (px py pz qx qy qz : Nat) (nx ny nz mx my mz : Int) (H : Heap) (fx : FI 1048576 px nx) (fy : FI 1048576 py ny) (fz : FI 1048576 pz nz) (gx : FI 1048576 qx mx) (gy : FI 1048576 qy my) (gz : FI 1048576 qz mz) (hP : 1 ≤ nx * nx + ny * ny + nz * nz) (hQ : 1 ≤ mx * mx + my * my + mz * mz) (hP2 : nx * nx + ny * ny + nz * nz ≤ 9007199254740992) (hQ2 : mx * mx + my * my + mz * mz ≤ 9007199254740992) :
    Does Try.prog 96 [.agg ⟨[.float .f64 px, .float .f64 py, .float .f64 pz]⟩, .agg ⟨[.float .f64 qx, .float .f64 qy, .float .f64 qz]⟩] H fun w H' => (∃ r, w = .float .f64 r ∧ CosR r (nx * mx + ny * my + nz * mz) (nx * nx + ny * ny + nz * nz) (mx * mx + my * my + mz * mz)) ∧ H' = H := by
  refine fn_enter 14 Try.func96 fun W => ?_
  repeat'
    first
      | refine tl_defer ?_ | refine tc_seq ?_ | refine tc_region ?_ | refine at_seq_normal ?_ | refine tl_nil ?_ | refine tl_cons ?_ | refine tl_cons_none ?_ | refine op_move ?_
      | refine op_assign ?_ | refine op_fieldAddr ?_ | refine op_load ?_ | refine op_load_agg ?_ | refine op_indexC ?_ | refine op_indexAddr1 ?_ | refine op_indexAddr ?_ | refine op_icmp ?_
      | refine op_fcmp ?_ | refine op_iarith ?_ | refine op_bcmp ?_ | refine op_unop_not ?_ | refine op_unop_neg_float ?_ | refine op_unop_neg_int ?_ | refine op_len_slice ?_ | refine op_pick_true ?_
      | refine op_pick_false ?_ | refine op_pick_true' ?_ | refine op_pick_false' ?_ | refine op_build ?_ | refine op_extract ?_ | refine op_makeInterface ?_ | refine op_typeAssert ?_ | refine op_ptr_nil ?_
      | refine op_nilCheck_ptr ?_ | refine op_nilCheck_meth ?_ | refine op_makeMeth ?_ | refine op_makeFunc ?_ | refine op_itof ?_ | refine op_itoi ?_ | refine op_ftoi ?_ | refine op_iquo ?_
      | refine op_irem ?_ | refine op_ibits ?_ | refine op_slice_isnil ?_ | refine op_slice_notnil ?_ | refine op_imax ?_ | refine op_imin ?_ | refine op_shl ?_ | refine op_shr ?_
      | (refine op_alloc ?_; intro _) | (refine op_box ?_; intro _) | (refine op_buildSlice ?_; intro _) | (refine op_farith ?_; intro _ _) | refine op_store0 ?_ | refine op_store1 ?_ | refine op_store2 ?_ | refine op_store3 ?_
      | refine op_store4 ?_ | refine op_store5 ?_ | refine tc_cond_t ?_ | refine tc_cond_f ?_ | refine tc_cond (fun _ => ?_) (fun _ => ?_) | refine tc_block ?_ | refine tc_skip ?_ | refine tc_ret ?_
      | refine tc_exit ?_ | refine tc_label ?_ | refine at_seq_ret ?_ | refine at_seq_exit ?_ | refine at_block_normal ?_ | refine at_block_ret ?_ | refine at_block_exit_self ?_ | refine at_block_exit_ne ?_
      | refine at_loop_ret ?_ | refine at_loop_exit ?_ | refine at_loop_goto ?_ | refine tl_guard_yes ?_ | refine tl_guard_no ?_ | refine tl_guard_yes' ?_ | refine tl_guard_no' ?_ | refine tl_guard_undef ?_
      | refine tl_guard_split (fun _ => ?_) (fun _ => ?_)
  apply fun hole0 hole1 hole2 hole3 hE hD hml hdl hpr prem fin => tc_drawn 9 [is hole0, is hole1, (some' (fun w ex => (∃ r, w = .float .f64 r ∧ FI 3298534883328 r (nx * mx + ny * my + nz * mz)) ∧ ex = [])), is hole2, (some' (fun w ex => (∃ r c, w = .float .f64 r ∧ Fv r c ∧ 0 ≤ c ∧ Ru 37 (c * c) ((nx * nx + ny * ny + nz * nz : Int) : Rat)) ∧ ex = [])), is hole3, (some' (fun w ex => (∃ r c, w = .float .f64 r ∧ Fv r c ∧ 0 ≤ c ∧ Ru 37 (c * c) ((mx * mx + my * my + mz * mz : Int) : Rat)) ∧ ex = [])), (some' (fun w ex => (∃ r4 c4 r6 c6 m, Fv r4 c4 ∧ 0 ≤ c4 ∧ Ru 37 (c4 * c4) ((nx * nx + ny * ny + nz * nz : Int) : Rat) ∧ Fv r6 c6 ∧ 0 ≤ c6 ∧ Ru 37 (c6 * c6) ((mx * mx + my * my + mz * mz : Int) : Rat) ∧ FAr .mul r4 r6 m ∧ w = .float .f64 m) ∧ ex = [])), (some' (fun w ex => (∃ r, w = .float .f64 r ∧ CosR r (nx * mx + ny * my + nz * mz) (nx * nx + ny * ny + nz * nz) (mx * mx + my * my + mz * mz)) ∧ ex = []))]
    [some 5, some 6, some 7, some 8, some 9, some 10, some 11, some 12, some 13, some 4] [[], [], [0, 1], [], [3, 2], [], [5, 4], [4, 6], [2, 7]] mixed ⟨(is_mono _), (is_mono _), (some_mono _), (is_mono _), (some_mono _), (is_mono _), (some_mono _), (some_mono _), (some_mono _), trivial⟩ prem fin hE hD rfl hml hdl hpr
  rotate_left 5
  · exact rfl
  · exact rfl
  · exact Nat.le_of_ble_eq_true rfl
  · exact rfl
  · exact rfl
  refine ⟨fun G hG => ?_, fun G hG => ?_, fun G hG => ?_, fun G hG => ?_, fun G hG => ?_, fun G hG => ?_, fun G hG => ?_, fun G hG => ?_, fun G hG => ?_, trivial⟩
  · simp only [with2, Step2, nthDst, putO]
    ((first | refine op_load ?_ | refine op_load_agg ?_ | refine op_load ?_ (hm := Sub.mem (by assumption) (by (repeat (apply List.mem_cons_of_mem)); assumption)) | refine op_load_agg ?_ (hm := Sub.mem (by assumption) (by (repeat (apply List.mem_cons_of_mem)); assumption))); exact ⟨[], rfl, rfl, rfl⟩)
  · simp only [with2, Step2, nthDst, putO]
    ((first | refine op_load ?_ | refine op_load_agg ?_ | refine op_load ?_ (hm := Sub.mem (by assumption) (by (repeat (apply List.mem_cons_of_mem)); assumption)) | refine op_load_agg ?_ (hm := Sub.mem (by assumption) (by (repeat (apply List.mem_cons_of_mem)); assumption))); exact ⟨[], rfl, rfl, rfl⟩)
  · rintro _ _ ⟨rfl, rfl⟩ - _ _ ⟨rfl, rfl⟩ -
    simp only [with2, Step2, nthDst, putO]
    (refine op_call ((dot _ _ _ _ _ _ _ _ _ _ _ _ _ fx fy fz gx gy gz).mono ?_); rintro _ _ ⟨h, rfl⟩; exact ⟨[], rfl, h, rfl⟩)
  · simp only [with2, Step2, nthDst, putO]
    ((first | refine op_load ?_ | refine op_load_agg ?_ | refine op_load ?_ (hm := Sub.mem (by assumption) (by (repeat (apply List.mem_cons_of_mem)); assumption)) | refine op_load_agg ?_ (hm := Sub.mem (by assumption) (by (repeat (apply List.mem_cons_of_mem)); assumption))); exact ⟨[], rfl, rfl, rfl⟩)
  · rintro _ _ ⟨rfl, rfl⟩ - _ _ ⟨⟨rd, rfl, hd⟩, rfl⟩ -
    simp only [with2, Step2, nthDst, putO]
    (refine op_call ((norm _ _ _ _ _ _ _ fx fy fz).mono ?_); rintro _ _ ⟨h, rfl⟩; exact ⟨[], rfl, h, rfl⟩)
  · simp only [with2, Step2, nthDst, putO]
    ((first | refine op_load ?_ | refine op_load_agg ?_ | refine op_load ?_ (hm := Sub.mem (by assumption) (by (repeat (apply List.mem_cons_of_mem)); assumption)) | refine op_load_agg ?_ (hm := Sub.mem (by assumption) (by (repeat (apply List.mem_cons_of_mem)); assumption))); exact ⟨[], rfl, rfl, rfl⟩)
  · rintro _ _ ⟨rfl, rfl⟩ - _ _ ⟨⟨r4, c4, rfl, a1, a2, a3⟩, rfl⟩ -
    simp only [with2, Step2, nthDst, putO]
    (refine op_call ((norm _ _ _ _ _ _ _ gx gy gz).mono ?_); rintro _ _ ⟨h, rfl⟩; exact ⟨[], rfl, h, rfl⟩)
  · rintro _ _ ⟨⟨r4, c4, rfl, a1, a2, a3⟩, rfl⟩ - _ _ ⟨⟨r6, c6, rfl, b1, b2, b3⟩, rfl⟩ -
    simp only [with2, Step2, nthDst, putO]
    (refine op_farith ?_; intro _ h; exact ⟨[], rfl, ⟨_, _, _, _, _, a1, a2, a3, b1, b2, b3, h, rfl⟩, rfl⟩)
  · rintro _ _ ⟨⟨rd, rfl, hd⟩, rfl⟩ - _ _ ⟨⟨r4, c4, r6, c6, m, a1, a2, a3, b1, b2, b3, hm, rfl⟩, rfl⟩ -
    simp only [with2, Step2, nthDst, putO]
    (refine op_farith ?_; intro _ h; exact ⟨[], rfl, ⟨_, rfl, cos_num hd (by decide) a1 b1 a2 b2 a3 b3 hP hQ hP2 hQ2 hm h⟩, rfl⟩)
  · rintro _ _ _ _ _ _ _ _ _ _ _ _ _ _ _ _ _ _ ⟨⟨⟨r8, rfl, h8⟩, rfl⟩, ⟨⟨r4, c4, r6, c6, m, a1, a2, a3, b1, b2, b3, hm, rfl⟩, rfl⟩, ⟨⟨r6, c6, rfl, b1, b2, b3⟩, rfl⟩, ⟨rfl, rfl⟩, ⟨⟨r4, c4, rfl, a1, a2, a3⟩, rfl⟩, ⟨rfl, rfl⟩, ⟨⟨rd, rfl, hd⟩, rfl⟩, ⟨rfl, rfl⟩, ⟨rfl, rfl⟩, _⟩
    simp only [List.nil_append, List.cons_append, List.append_nil, List.drop_succ_cons, List.drop_zero, nthDst, putO]
    repeat'
      first
        | refine tl_defer ?_ | refine tc_seq ?_ | refine tc_region ?_ | refine at_seq_normal ?_ | refine tl_nil ?_ | refine tl_cons ?_ | refine tl_cons_none ?_ | refine op_move ?_
        | refine op_assign ?_ | refine op_fieldAddr ?_ | refine op_load ?_ | refine op_load_agg ?_ | refine op_indexC ?_ | refine op_indexAddr1 ?_ | refine op_indexAddr ?_ | refine op_icmp ?_
        | refine op_fcmp ?_ | refine op_iarith ?_ | refine op_bcmp ?_ | refine op_unop_not ?_ | refine op_unop_neg_float ?_ | refine op_unop_neg_int ?_ | refine op_len_slice ?_ | refine op_pick_true ?_
        | refine op_pick_false ?_ | refine op_pick_true' ?_ | refine op_pick_false' ?_ | refine op_build ?_ | refine op_extract ?_ | refine op_makeInterface ?_ | refine op_typeAssert ?_ | refine op_ptr_nil ?_
        | refine op_nilCheck_ptr ?_ | refine op_nilCheck_meth ?_ | refine op_makeMeth ?_ | refine op_makeFunc ?_ | refine op_itof ?_ | refine op_itoi ?_ | refine op_ftoi ?_ | refine op_iquo ?_
        | refine op_irem ?_ | refine op_ibits ?_ | refine op_slice_isnil ?_ | refine op_slice_notnil ?_ | refine op_imax ?_ | refine op_imin ?_ | refine op_shl ?_ | refine op_shr ?_
        | (refine op_alloc ?_; intro _) | (refine op_box ?_; intro _) | (refine op_buildSlice ?_; intro _) | (refine op_farith ?_; intro _ _) | refine op_store0 ?_ | refine op_store1 ?_ | refine op_store2 ?_ | refine op_store3 ?_
        | refine op_store4 ?_ | refine op_store5 ?_ | refine tc_cond_t ?_ | refine tc_cond_f ?_ | refine tc_cond (fun _ => ?_) (fun _ => ?_) | refine tc_block ?_ | refine tc_skip ?_ | refine tc_ret ?_
        | refine tc_exit ?_ | refine tc_label ?_ | refine at_seq_ret ?_ | refine at_seq_exit ?_ | refine at_block_normal ?_ | refine at_block_ret ?_ | refine at_block_exit_self ?_ | refine at_block_exit_ne ?_
        | refine at_loop_ret ?_ | refine at_loop_exit ?_ | refine at_loop_goto ?_ | refine tl_guard_yes ?_ | refine tl_guard_no ?_ | refine tl_guard_yes' ?_ | refine tl_guard_no' ?_ | refine tl_guard_undef ?_
        | refine tl_guard_split (fun _ => ?_) (fun _ => ?_)
    exact ret_tmp (hG := by (repeat (first | exact List.Sublist.refl _ | apply List.Sublist.cons_cons | apply List.Sublist.cons | refine List.Sublist.trans ?_ (List.sublist_append_right _ _)))) (hk := ⟨⟨r8, rfl, h8⟩, rfl⟩)
theorem icos (px py pz qx qy qz : Nat) (nx ny nz mx my mz : Int) (H : Heap) (fx : FI 1048576 px nx) (fy : FI 1048576 py ny) (fz : FI 1048576 pz nz) (gx : FI 1048576 qx mx) (gy : FI 1048576 qy my) (gz : FI 1048576 qz mz) (hP : 1 ≤ nx * nx + ny * ny + nz * nz) (hQ : 1 ≤ mx * mx + my * my + mz * mz) (hP2 : nx * nx + ny * ny + nz * nz ≤ 9007199254740992) (hQ2 : mx * mx + my * my + mz * mz ≤ 9007199254740992) :
    Does Try.prog 49 [.agg ⟨[.float .f64 px, .float .f64 py, .float .f64 pz]⟩, .agg ⟨[.float .f64 qx, .float .f64 qy, .float .f64 qz]⟩] H fun w H' => (∃ r, w = .float .f64 r ∧ CosR r (nx * mx + ny * my + nz * mz) (nx * nx + ny * ny + nz * nz) (mx * mx + my * my + mz * mz)) ∧ H' = H := by
  refine fn_enter 10 Try.func49 fun W => ?_
  repeat'
    first
      | refine tl_defer ?_ | refine tc_seq ?_ | refine tc_region ?_ | refine at_seq_normal ?_ | refine tl_nil ?_ | refine tl_cons ?_ | refine tl_cons_none ?_ | refine op_move ?_
      | refine op_assign ?_ | refine op_fieldAddr ?_ | refine op_load ?_ | refine op_load_agg ?_ | refine op_indexC ?_ | refine op_indexAddr1 ?_ | refine op_indexAddr ?_ | refine op_icmp ?_
      | refine op_fcmp ?_ | refine op_iarith ?_ | refine op_bcmp ?_ | refine op_unop_not ?_ | refine op_unop_neg_float ?_ | refine op_unop_neg_int ?_ | refine op_len_slice ?_ | refine op_pick_true ?_
      | refine op_pick_false ?_ | refine op_pick_true' ?_ | refine op_pick_false' ?_ | refine op_build ?_ | refine op_extract ?_ | refine op_makeInterface ?_ | refine op_typeAssert ?_ | refine op_ptr_nil ?_
      | refine op_nilCheck_ptr ?_ | refine op_nilCheck_meth ?_ | refine op_makeMeth ?_ | refine op_makeFunc ?_ | refine op_itof ?_ | refine op_itoi ?_ | refine op_ftoi ?_ | refine op_iquo ?_
      | refine op_irem ?_ | refine op_ibits ?_ | refine op_slice_isnil ?_ | refine op_slice_notnil ?_ | refine op_imax ?_ | refine op_imin ?_ | refine op_shl ?_ | refine op_shr ?_
      | (refine op_alloc ?_; intro _) | (refine op_box ?_; intro _) | (refine op_buildSlice ?_; intro _) | (refine op_farith ?_; intro _ _) | refine op_store0 ?_ | refine op_store1 ?_ | refine op_store2 ?_ | refine op_store3 ?_
      | refine op_store4 ?_ | refine op_store5 ?_ | refine tc_cond_t ?_ | refine tc_cond_f ?_ | refine tc_cond (fun _ => ?_) (fun _ => ?_) | refine tc_block ?_ | refine tc_skip ?_ | refine tc_ret ?_
      | refine tc_exit ?_ | refine tc_label ?_ | refine at_seq_ret ?_ | refine at_seq_exit ?_ | refine at_block_normal ?_ | refine at_block_ret ?_ | refine at_block_exit_self ?_ | refine at_block_exit_ne ?_
      | refine at_loop_ret ?_ | refine at_loop_exit ?_ | refine at_loop_goto ?_ | refine tl_guard_yes ?_ | refine tl_guard_no ?_ | refine tl_guard_yes' ?_ | refine tl_guard_no' ?_ | refine tl_guard_undef ?_
      | refine tl_guard_split (fun _ => ?_) (fun _ => ?_)
  apply fun hole0 hole1 hE hD hml hdl hpr prem fin => tc_drawn 5 [is hole0, (is (.agg ⟨[.float .f64 px, .float .f64 py, .float .f64 pz]⟩)), is hole1, (is (.agg ⟨[.float .f64 qx, .float .f64 qy, .float .f64 qz]⟩)), (some' (fun w ex => (∃ r, w = .float .f64 r ∧ CosR r (nx * mx + ny * my + nz * mz) (nx * nx + ny * ny + nz * nz) (mx * mx + my * my + mz * mz)) ∧ ex = []))]
    [some 5, some 6, some 7, some 8, some 9, some 4] [[], [0], [], [2, 1], [1, 3]] mixed ⟨(is_mono _), (some_mono _), (is_mono _), (some_mono _), (some_mono _), trivial⟩ prem fin hE hD rfl hml hdl hpr
  rotate_left 3
  · exact rfl
  · exact rfl
  · exact Nat.le_of_ble_eq_true rfl
  · exact rfl
  · exact rfl
  refine ⟨fun G hG => ?_, fun G hG => ?_, fun G hG => ?_, fun G hG => ?_, fun G hG => ?_, trivial⟩
  · simp only [with2, Step2, nthDst, putO]
    ((first | refine op_load ?_ | refine op_load_agg ?_ | refine op_load ?_ (hm := Sub.mem (by assumption) (by (repeat (apply List.mem_cons_of_mem)); assumption)) | refine op_load_agg ?_ (hm := Sub.mem (by assumption) (by (repeat (apply List.mem_cons_of_mem)); assumption))); exact ⟨[], rfl, rfl, rfl⟩)
  · rintro _ _ ⟨rfl, rfl⟩ -
    simp only [with2, Step2, nthDst, putO]
    (refine op_call ((vec px py pz _).mono ?_); rintro _ _ ⟨rfl, rfl⟩; exact ⟨[], rfl, rfl, rfl⟩)
  · simp only [with2, Step2, nthDst, putO]
    ((first | refine op_load ?_ | refine op_load_agg ?_ | refine op_load ?_ (hm := Sub.mem (by assumption) (by (repeat (apply List.mem_cons_of_mem)); assumption)) | refine op_load_agg ?_ (hm := Sub.mem (by assumption) (by (repeat (apply List.mem_cons_of_mem)); assumption))); exact ⟨[], rfl, rfl, rfl⟩)
  · rintro _ _ ⟨rfl, rfl⟩ - _ _ ⟨rfl, rfl⟩ -
    simp only [with2, Step2, nthDst, putO]
    (refine op_call ((vec qx qy qz _).mono ?_); rintro _ _ ⟨rfl, rfl⟩; exact ⟨[], rfl, rfl, rfl⟩)
  · rintro _ _ ⟨rfl, rfl⟩ - _ _ ⟨rfl, rfl⟩ -
    simp only [with2, Step2, nthDst, putO]
    (refine op_call ((cos _ _ _ _ _ _ _ _ _ _ _ _ _ fx fy fz gx gy gz hP hQ hP2 hQ2).mono ?_); rintro _ _ ⟨h, rfl⟩; exact ⟨[], rfl, h, rfl⟩)
  · rintro _ _ _ _ _ _ _ _ _ _ ⟨⟨⟨r4, rfl, h4⟩, rfl⟩, ⟨rfl, rfl⟩, ⟨rfl, rfl⟩, ⟨rfl, rfl⟩, ⟨rfl, rfl⟩, _⟩
    simp only [List.nil_append, List.cons_append, List.append_nil, List.drop_succ_cons, List.drop_zero, nthDst, putO]
    repeat'
      first
        | refine tl_defer ?_ | refine tc_seq ?_ | refine tc_region ?_ | refine at_seq_normal ?_ | refine tl_nil ?_ | refine tl_cons ?_ | refine tl_cons_none ?_ | refine op_move ?_
        | refine op_assign ?_ | refine op_fieldAddr ?_ | refine op_load ?_ | refine op_load_agg ?_ | refine op_indexC ?_ | refine op_indexAddr1 ?_ | refine op_indexAddr ?_ | refine op_icmp ?_
        | refine op_fcmp ?_ | refine op_iarith ?_ | refine op_bcmp ?_ | refine op_unop_not ?_ | refine op_unop_neg_float ?_ | refine op_unop_neg_int ?_ | refine op_len_slice ?_ | refine op_pick_true ?_
        | refine op_pick_false ?_ | refine op_pick_true' ?_ | refine op_pick_false' ?_ | refine op_build ?_ | refine op_extract ?_ | refine op_makeInterface ?_ | refine op_typeAssert ?_ | refine op_ptr_nil ?_
        | refine op_nilCheck_ptr ?_ | refine op_nilCheck_meth ?_ | refine op_makeMeth ?_ | refine op_makeFunc ?_ | refine op_itof ?_ | refine op_itoi ?_ | refine op_ftoi ?_ | refine op_iquo ?_
        | refine op_irem ?_ | refine op_ibits ?_ | refine op_slice_isnil ?_ | refine op_slice_notnil ?_ | refine op_imax ?_ | refine op_imin ?_ | refine op_shl ?_ | refine op_shr ?_
        | (refine op_alloc ?_; intro _) | (refine op_box ?_; intro _) | (refine op_buildSlice ?_; intro _) | (refine op_farith ?_; intro _ _) | refine op_store0 ?_ | refine op_store1 ?_ | refine op_store2 ?_ | refine op_store3 ?_
        | refine op_store4 ?_ | refine op_store5 ?_ | refine tc_cond_t ?_ | refine tc_cond_f ?_ | refine tc_cond (fun _ => ?_) (fun _ => ?_) | refine tc_block ?_ | refine tc_skip ?_ | refine tc_ret ?_
        | refine tc_exit ?_ | refine tc_label ?_ | refine at_seq_ret ?_ | refine at_seq_exit ?_ | refine at_block_normal ?_ | refine at_block_ret ?_ | refine at_block_exit_self ?_ | refine at_block_exit_ne ?_
        | refine at_loop_ret ?_ | refine at_loop_exit ?_ | refine at_loop_goto ?_ | refine tl_guard_yes ?_ | refine tl_guard_no ?_ | refine tl_guard_yes' ?_ | refine tl_guard_no' ?_ | refine tl_guard_undef ?_
        | refine tl_guard_split (fun _ => ?_) (fun _ => ?_)
    exact ret_tmp (hG := by (repeat (first | exact List.Sublist.refl _ | apply List.Sublist.cons_cons | apply List.Sublist.cons | refine List.Sublist.trans ?_ (List.sublist_append_right _ _)))) (hk := ⟨⟨r4, rfl, h4⟩, rfl⟩)
theorem idot (px py pz qx qy qz : Nat) (nx ny nz mx my mz : Int) (H : Heap) (fx : FI 1048576 px nx) (fy : FI 1048576 py ny) (fz : FI 1048576 pz nz) (gx : FI 1048576 qx mx) (gy : FI 1048576 qy my) (gz : FI 1048576 qz mz)  :
    Does Try.prog 50 [.agg ⟨[.float .f64 px, .float .f64 py, .float .f64 pz]⟩, .agg ⟨[.float .f64 qx, .float .f64 qy, .float .f64 qz]⟩] H fun w H' => (∃ r, w = .float .f64 r ∧ FI 3298534883328 r (nx * mx + ny * my + nz * mz)) ∧ H' = H := by
  refine fn_enter 10 Try.func50 fun W => ?_
  repeat'
    first
      | refine tl_defer ?_ | refine tc_seq ?_ | refine tc_region ?_ | refine at_seq_normal ?_ | refine tl_nil ?_ | refine tl_cons ?_ | refine tl_cons_none ?_ | refine op_move ?_
      | refine op_assign ?_ | refine op_fieldAddr ?_ | refine op_load ?_ | refine op_load_agg ?_ | refine op_indexC ?_ | refine op_indexAddr1 ?_ | refine op_indexAddr ?_ | refine op_icmp ?_
      | refine op_fcmp ?_ | refine op_iarith ?_ | refine op_bcmp ?_ | refine op_unop_not ?_ | refine op_unop_neg_float ?_ | refine op_unop_neg_int ?_ | refine op_len_slice ?_ | refine op_pick_true ?_
      | refine op_pick_false ?_ | refine op_pick_true' ?_ | refine op_pick_false' ?_ | refine op_build ?_ | refine op_extract ?_ | refine op_makeInterface ?_ | refine op_typeAssert ?_ | refine op_ptr_nil ?_
      | refine op_nilCheck_ptr ?_ | refine op_nilCheck_meth ?_ | refine op_makeMeth ?_ | refine op_makeFunc ?_ | refine op_itof ?_ | refine op_itoi ?_ | refine op_ftoi ?_ | refine op_iquo ?_
      | refine op_irem ?_ | refine op_ibits ?_ | refine op_slice_isnil ?_ | refine op_slice_notnil ?_ | refine op_imax ?_ | refine op_imin ?_ | refine op_shl ?_ | refine op_shr ?_
      | (refine op_alloc ?_; intro _) | (refine op_box ?_; intro _) | (refine op_buildSlice ?_; intro _) | (refine op_farith ?_; intro _ _) | refine op_store0 ?_ | refine op_store1 ?_ | refine op_store2 ?_ | refine op_store3 ?_
      | refine op_store4 ?_ | refine op_store5 ?_ | refine tc_cond_t ?_ | refine tc_cond_f ?_ | refine tc_cond (fun _ => ?_) (fun _ => ?_) | refine tc_block ?_ | refine tc_skip ?_ | refine tc_ret ?_
      | refine tc_exit ?_ | refine tc_label ?_ | refine at_seq_ret ?_ | refine at_seq_exit ?_ | refine at_block_normal ?_ | refine at_block_ret ?_ | refine at_block_exit_self ?_ | refine at_block_exit_ne ?_
      | refine at_loop_ret ?_ | refine at_loop_exit ?_ | refine at_loop_goto ?_ | refine tl_guard_yes ?_ | refine tl_guard_no ?_ | refine tl_guard_yes' ?_ | refine tl_guard_no' ?_ | refine tl_guard_undef ?_
      | refine tl_guard_split (fun _ => ?_) (fun _ => ?_)
  apply fun hole0 hole1 hE hD hml hdl hpr prem fin => tc_drawn 5 [is hole0, (is (.agg ⟨[.float .f64 px, .float .f64 py, .float .f64 pz]⟩)), is hole1, (is (.agg ⟨[.float .f64 qx, .float .f64 qy, .float .f64 qz]⟩)), (some' (fun w ex => (∃ r, w = .float .f64 r ∧ FI 3298534883328 r (nx * mx + ny * my + nz * mz)) ∧ ex = []))]
    [some 5, some 6, some 7, some 8, some 9, some 4] [[], [0], [], [2, 1], [1, 3]] mixed ⟨(is_mono _), (some_mono _), (is_mono _), (some_mono _), (some_mono _), trivial⟩ prem fin hE hD rfl hml hdl hpr
  rotate_left 3
  · exact rfl
  · exact rfl
  · exact Nat.le_of_ble_eq_true rfl
  · exact rfl
  · exact rfl
  refine ⟨fun G hG => ?_, fun G hG => ?_, fun G hG => ?_, fun G hG => ?_, fun G hG => ?_, trivial⟩
  · simp only [with2, Step2, nthDst, putO]
    ((first | refine op_load ?_ | refine op_load_agg ?_ | refine op_load ?_ (hm := Sub.mem (by assumption) (by (repeat (apply List.mem_cons_of_mem)); assumption)) | refine op_load_agg ?_ (hm := Sub.mem (by assumption) (by (repeat (apply List.mem_cons_of_mem)); assumption))); exact ⟨[], rfl, rfl, rfl⟩)
  · rintro _ _ ⟨rfl, rfl⟩ -
    simp only [with2, Step2, nthDst, putO]
    (refine op_call ((vec px py pz _).mono ?_); rintro _ _ ⟨rfl, rfl⟩; exact ⟨[], rfl, rfl, rfl⟩)
  · simp only [with2, Step2, nthDst, putO]
    ((first | refine op_load ?_ | refine op_load_agg ?_ | refine op_load ?_ (hm := Sub.mem (by assumption) (by (repeat (apply List.mem_cons_of_mem)); assumption)) | refine op_load_agg ?_ (hm := Sub.mem (by assumption) (by (repeat (apply List.mem_cons_of_mem)); assumption))); exact ⟨[], rfl, rfl, rfl⟩)
  · rintro _ _ ⟨rfl, rfl⟩ - _ _ ⟨rfl, rfl⟩ -
    simp only [with2, Step2, nthDst, putO]
    (refine op_call ((vec qx qy qz _).mono ?_); rintro _ _ ⟨rfl, rfl⟩; exact ⟨[], rfl, rfl, rfl⟩)
  · rintro _ _ ⟨rfl, rfl⟩ - _ _ ⟨rfl, rfl⟩ -
    simp only [with2, Step2, nthDst, putO]
    (refine op_call ((dot _ _ _ _ _ _ _ _ _ _ _ _ _ fx fy fz gx gy gz).mono ?_); rintro _ _ ⟨h, rfl⟩; exact ⟨[], rfl, h, rfl⟩)
  · rintro _ _ _ _ _ _ _ _ _ _ ⟨⟨⟨r4, rfl, h4⟩, rfl⟩, ⟨rfl, rfl⟩, ⟨rfl, rfl⟩, ⟨rfl, rfl⟩, ⟨rfl, rfl⟩, _⟩
    simp only [List.nil_append, List.cons_append, List.append_nil, List.drop_succ_cons, List.drop_zero, nthDst, putO]
    repeat'
      first
        | refine tl_defer ?_ | refine tc_seq ?_ | refine tc_region ?_ | refine at_seq_normal ?_ | refine tl_nil ?_ | refine tl_cons ?_ | refine tl_cons_none ?_ | refine op_move ?_
        | refine op_assign ?_ | refine op_fieldAddr ?_ | refine op_load ?_ | refine op_load_agg ?_ | refine op_indexC ?_ | refine op_indexAddr1 ?_ | refine op_indexAddr ?_ | refine op_icmp ?_
        | refine op_fcmp ?_ | refine op_iarith ?_ | refine op_bcmp ?_ | refine op_unop_not ?_ | refine op_unop_neg_float ?_ | refine op_unop_neg_int ?_ | refine op_len_slice ?_ | refine op_pick_true ?_
        | refine op_pick_false ?_ | refine op_pick_true' ?_ | refine op_pick_false' ?_ | refine op_build ?_ | refine op_extract ?_ | refine op_makeInterface ?_ | refine op_typeAssert ?_ | refine op_ptr_nil ?_
        | refine op_nilCheck_ptr ?_ | refine op_nilCheck_meth ?_ | refine op_makeMeth ?_ | refine op_makeFunc ?_ | refine op_itof ?_ | refine op_itoi ?_ | refine op_ftoi ?_ | refine op_iquo ?_
        | refine op_irem ?_ | refine op_ibits ?_ | refine op_slice_isnil ?_ | refine op_slice_notnil ?_ | refine op_imax ?_ | refine op_imin ?_ | refine op_shl ?_ | refine op_shr ?_
        | (refine op_alloc ?_; intro _) | (refine op_box ?_; intro _) | (refine op_buildSlice ?_; intro _) | (refine op_farith ?_; intro _ _) | refine op_store0 ?_ | refine op_store1 ?_ | refine op_store2 ?_ | refine op_store3 ?_
        | refine op_store4 ?_ | refine op_store5 ?_ | refine tc_cond_t ?_ | refine tc_cond_f ?_ | refine tc_cond (fun _ => ?_) (fun _ => ?_) | refine tc_block ?_ | refine tc_skip ?_ | refine tc_ret ?_
        | refine tc_exit ?_ | refine tc_label ?_ | refine at_seq_ret ?_ | refine at_seq_exit ?_ | refine at_block_normal ?_ | refine at_block_ret ?_ | refine at_block_exit_self ?_ | refine at_block_exit_ne ?_
        | refine at_loop_ret ?_ | refine at_loop_exit ?_ | refine at_loop_goto ?_ | refine tl_guard_yes ?_ | refine tl_guard_no ?_ | refine tl_guard_yes' ?_ | refine tl_guard_no' ?_ | refine tl_guard_undef ?_
        | refine tl_guard_split (fun _ => ?_) (fun _ => ?_)
    exact ret_tmp (hG := by (repeat (first | exact List.Sublist.refl _ | apply List.Sublist.cons_cons | apply List.Sublist.cons | refine List.Sublist.trans ?_ (List.sublist_append_right _ _)))) (hk := ⟨⟨r4, rfl, h4⟩, rfl⟩)

theorem sq0 (n : Int) : 0 ≤ n * n := by
  rcases Int.le_total 0 n with h | h
  · exact Int.mul_nonneg h h
  · have := Int.mul_nonneg (show 0 ≤ -n by omega) (show 0 ≤ -n by omega)
    rwa [Int.neg_mul_neg] at this
theorem sq1 {n : Int} (h : n ≠ 0) : 1 ≤ n * n := by
  have := sq0 n
  rcases Int.lt_or_eq_of_le this with h1 | h1
  · omega
  · rcases Int.mul_eq_zero.1 h1.symm with h2 | h2 <;> exact absurd h2 h
theorem cauchy (nx ny nz mx my mz : Int) : (nx * mx + ny * my + nz * mz) * (nx * mx + ny * my + nz * mz) ≤ (nx * nx + ny * ny + nz * nz) * (mx * mx + my * my + mz * mz) := by
  have h1 := sq0 (nx * my - ny * mx)
  have h2 := sq0 (nx * mz - nz * mx)
  have h3 := sq0 (ny * mz - nz * my)
  have e : (nx * nx + ny * ny + nz * nz) * (mx * mx + my * my + mz * mz) = (nx * mx + ny * my + nz * mz) * (nx * mx + ny * my + nz * mz) + (nx * my - ny * mx) * (nx * my - ny * mx) + (nx * mz - nz * mx) * (nx * mz - nz * mx) + (ny * mz - nz * my) * (ny * mz - nz * my) := by grind
  omega
theorem eq0 {px py pz : Nat} {nx ny nz : Int} (fx : FI 1048576 px nx) (fy : FI 1048576 py ny) (fz : FI 1048576 pz nz) : eqAll [(px, 0), (py, 0), (pz, 0)] = (decide (nx = 0) && (decide (ny = 0) && decide (nz = 0))) := by
  unfold eqAll
  simp only [eqAll, FI.eql fx fi_zero, FI.eql fy fi_zero, FI.eql fz fi_zero, Bool.and_true]
theorem sqP (nx ny nz : Int) : sqN [nx, ny, nz] [0, 0, 0] = nx * nx + ny * ny + nz * nz := by simp [sqN]; try omega
set_option maxHeartbeats 16000000 in
theorem law (px py pz qx qy qz : Nat) (H : Heap) : Does Try.prog 10 [.agg ⟨[.float .f64 px, .float .f64 py, .float .f64 pz]⟩, .agg ⟨[.float .f64 qx, .float .f64 qy, .float .f64 qz]⟩] H fun w H' => w = .bool true ∧ H' = H := by
  by_cases hw : wholeB 3 [[px, py, pz], [qx, qy, qz]] = true
  rotate_left
  · have hw0 : wholeB 3 [[px, py, pz], [qx, qy, qz]] = false := by simpa using hw
    refine fn_enter 62 Try.func10 fun W => ?_
    repeat' first
      | (first | refine tl_defer ?_ | refine tc_seq ?_ | refine tc_region ?_ | refine at_seq_normal ?_ | refine tl_nil ?_ | refine tl_cons ?_ | refine tl_cons_none ?_ | refine op_move ?_ | refine op_assign ?_ | refine op_fieldAddr ?_ | refine op_load ?_ | refine op_load_agg ?_ | refine op_indexC ?_ | refine op_indexAddr1 ?_ | refine op_indexAddr ?_ | refine op_icmp ?_ | refine op_fcmp ?_ | refine op_iarith ?_ | refine op_bcmp ?_ | refine op_unop_not ?_ | refine op_unop_neg_float ?_ | refine op_unop_neg_int ?_ | refine op_len_slice ?_ | refine op_pick_true ?_ | refine op_pick_false ?_ | refine op_pick_true' ?_ | refine op_pick_false' ?_ | refine op_build ?_ | refine op_extract ?_ | refine op_makeInterface ?_ | refine op_typeAssert ?_ | refine op_ptr_nil ?_ | refine op_nilCheck_ptr ?_ | refine op_nilCheck_meth ?_ | refine op_makeMeth ?_ | refine op_makeFunc ?_ | refine op_itof ?_ | refine op_itoi ?_ | refine op_ftoi ?_ | refine op_iquo ?_ | refine op_irem ?_ | refine op_ibits ?_ | refine op_slice_isnil ?_ | refine op_slice_notnil ?_ | refine op_imax ?_ | refine op_imin ?_ | refine op_shl ?_ | refine op_shr ?_ | (refine op_alloc ?_; intro _) | (refine op_box ?_; intro _) | (refine op_buildSlice ?_; intro _) | (refine op_farith ?_; intro _ _) | refine op_store0 ?_ | refine op_store1 ?_ | refine op_store2 ?_ | refine op_store3 ?_ | refine op_store4 ?_ | refine op_store5 ?_ | refine tc_cond_t ?_ | refine tc_cond_f ?_ | refine tc_cond (fun _ => ?_) (fun _ => ?_) | refine tc_block ?_ | refine tc_skip ?_ | refine tc_ret ?_ | refine tc_exit ?_ | refine tc_label ?_ | refine at_seq_ret ?_ | refine at_seq_exit ?_ | refine at_block_normal ?_ | refine at_block_ret ?_ | refine at_block_exit_self ?_ | refine at_block_exit_ne ?_ | refine at_loop_ret ?_ | refine at_loop_exit ?_ | refine at_loop_goto ?_ | refine tl_guard_yes ?_ | refine tl_guard_no ?_ | refine tl_guard_yes' ?_ | refine tl_guard_no' ?_ | refine tl_guard_undef ?_ | refine tl_guard_split (fun _ => ?_) (fun _ => ?_))
      | (refine op_call ((whole3 _ [[px, py, pz], [qx, qy, qz]] _ _ _ (by simp) (by simp) mem0).mono ?_); rintro _ _ ⟨rfl, rfl⟩; rw [hw0])
      | fail
    exact ret_tmp (hG := by (repeat (first | exact List.Sublist.refl _ | apply List.Sublist.cons_cons | apply List.Sublist.cons | refine List.Sublist.trans ?_ (List.sublist_append_right _ _)))) (hk := ⟨rfl, rfl⟩)
  have hw0 := hw
  simp only [wholeB, List.all_cons, List.all_nil, Bool.and_true, Bool.and_eq_true] at hw0
  obtain ⟨nx, hpx, p1x, p2x⟩ := ints_of hw0.1 px (by simp)
  obtain ⟨ny, hpy, p1y, p2y⟩ := ints_of hw0.1 py (by simp)
  obtain ⟨nz, hpz, p1z, p2z⟩ := ints_of hw0.1 pz (by simp)
  obtain ⟨mx, hqx, q1x, q2x⟩ := ints_of hw0.2 qx (by simp)
  obtain ⟨my, hqy, q1y, q2y⟩ := ints_of hw0.2 qy (by simp)
  obtain ⟨mz, hqz, q1z, q2z⟩ := ints_of hw0.2 qz (by simp)
  have fx : FI 1048576 px nx := ⟨hpx, p1x, p2x⟩
  have fy : FI 1048576 py ny := ⟨hpy, p1y, p2y⟩
  have fz : FI 1048576 pz nz := ⟨hpz, p1z, p2z⟩
  have gx : FI 1048576 qx mx := ⟨hqx, q1x, q2x⟩
  have gy : FI 1048576 qy my := ⟨hqy, q1y, q2y⟩
  have gz : FI 1048576 qz mz := ⟨hqz, q1z, q2z⟩
  have bnx := (mul_bound p1x p2x p1x p2x).2
  have bmx := (mul_bound q1x q2x q1x q2x).2
  have snx := sq0 nx
  have smx := sq0 mx
  have bny := (mul_bound p1y p2y p1y p2y).2
  have bmy := (mul_bound q1y q2y q1y q2y).2
  have sny := sq0 ny
  have smy := sq0 my
  have bnz := (mul_bound p1z p2z p1z p2z).2
  have bmz := (mul_bound q1z q2z q1z q2z).2
  have snz := sq0 nz
  have smz := sq0 mz
  have hep := eq0 fx fy fz
  have heq := eq0 gx gy gz
  by_cases hpz : eqAll [(px, 0), (py, 0), (pz, 0)] = true
  · refine fn_enter 62 Try.func10 fun W => ?_
    repeat' first
      | (first | refine tl_defer ?_ | refine tc_seq ?_ | refine tc_region ?_ | refine at_seq_normal ?_ | refine tl_nil ?_ | refine tl_cons ?_ | refine tl_cons_none ?_ | refine op_move ?_ | refine op_assign ?_ | refine op_fieldAddr ?_ | refine op_load ?_ | refine op_load_agg ?_ | refine op_indexC ?_ | refine op_indexAddr1 ?_ | refine op_indexAddr ?_ | refine op_icmp ?_ | refine op_fcmp ?_ | refine op_iarith ?_ | refine op_bcmp ?_ | refine op_unop_not ?_ | refine op_unop_neg_float ?_ | refine op_unop_neg_int ?_ | refine op_len_slice ?_ | refine op_pick_true ?_ | refine op_pick_false ?_ | refine op_pick_true' ?_ | refine op_pick_false' ?_ | refine op_build ?_ | refine op_extract ?_ | refine op_makeInterface ?_ | refine op_typeAssert ?_ | refine op_ptr_nil ?_ | refine op_nilCheck_ptr ?_ | refine op_nilCheck_meth ?_ | refine op_makeMeth ?_ | refine op_makeFunc ?_ | refine op_itof ?_ | refine op_itoi ?_ | refine op_ftoi ?_ | refine op_iquo ?_ | refine op_irem ?_ | refine op_ibits ?_ | refine op_slice_isnil ?_ | refine op_slice_notnil ?_ | refine op_imax ?_ | refine op_imin ?_ | refine op_shl ?_ | refine op_shr ?_ | (refine op_alloc ?_; intro _) | (refine op_box ?_; intro _) | (refine op_buildSlice ?_; intro _) | (refine op_farith ?_; intro _ _) | refine op_store0 ?_ | refine op_store1 ?_ | refine op_store2 ?_ | refine op_store3 ?_ | refine op_store4 ?_ | refine op_store5 ?_ | refine tc_cond_t ?_ | refine tc_cond_f ?_ | refine tc_cond (fun _ => ?_) (fun _ => ?_) | refine tc_block ?_ | refine tc_skip ?_ | refine tc_ret ?_ | refine tc_exit ?_ | refine tc_label ?_ | refine at_seq_ret ?_ | refine at_seq_exit ?_ | refine at_block_normal ?_ | refine at_block_ret ?_ | refine at_block_exit_self ?_ | refine at_block_exit_ne ?_ | refine at_loop_ret ?_ | refine at_loop_exit ?_ | refine at_loop_goto ?_ | refine tl_guard_yes ?_ | refine tl_guard_no ?_ | refine tl_guard_yes' ?_ | refine tl_guard_no' ?_ | refine tl_guard_undef ?_ | refine tl_guard_split (fun _ => ?_) (fun _ => ?_))
      | (refine op_call ((whole3 _ [[px, py, pz], [qx, qy, qz]] _ _ _ (by simp) (by simp) mem0).mono ?_); rintro _ _ ⟨rfl, rfl⟩; rw [hw])
      | (refine op_aggeq [(px, 0), (py, 0), (pz, 0)] ?_; rw [hpz])
      | fail
    exact ret_tmp (hG := by (repeat (first | exact List.Sublist.refl _ | apply List.Sublist.cons_cons | apply List.Sublist.cons | refine List.Sublist.trans ?_ (List.sublist_append_right _ _)))) (hk := ⟨rfl, rfl⟩)
  have hpz0 : eqAll [(px, 0), (py, 0), (pz, 0)] = false := by simpa using hpz
  by_cases hqz : eqAll [(qx, 0), (qy, 0), (qz, 0)] = true
  · refine fn_enter 62 Try.func10 fun W => ?_
    repeat' first
      | (first | refine tl_defer ?_ | refine tc_seq ?_ | refine tc_region ?_ | refine at_seq_normal ?_ | refine tl_nil ?_ | refine tl_cons ?_ | refine tl_cons_none ?_ | refine op_move ?_ | refine op_assign ?_ | refine op_fieldAddr ?_ | refine op_load ?_ | refine op_load_agg ?_ | refine op_indexC ?_ | refine op_indexAddr1 ?_ | refine op_indexAddr ?_ | refine op_icmp ?_ | refine op_fcmp ?_ | refine op_iarith ?_ | refine op_bcmp ?_ | refine op_unop_not ?_ | refine op_unop_neg_float ?_ | refine op_unop_neg_int ?_ | refine op_len_slice ?_ | refine op_pick_true ?_ | refine op_pick_false ?_ | refine op_pick_true' ?_ | refine op_pick_false' ?_ | refine op_build ?_ | refine op_extract ?_ | refine op_makeInterface ?_ | refine op_typeAssert ?_ | refine op_ptr_nil ?_ | refine op_nilCheck_ptr ?_ | refine op_nilCheck_meth ?_ | refine op_makeMeth ?_ | refine op_makeFunc ?_ | refine op_itof ?_ | refine op_itoi ?_ | refine op_ftoi ?_ | refine op_iquo ?_ | refine op_irem ?_ | refine op_ibits ?_ | refine op_slice_isnil ?_ | refine op_slice_notnil ?_ | refine op_imax ?_ | refine op_imin ?_ | refine op_shl ?_ | refine op_shr ?_ | (refine op_alloc ?_; intro _) | (refine op_box ?_; intro _) | (refine op_buildSlice ?_; intro _) | (refine op_farith ?_; intro _ _) | refine op_store0 ?_ | refine op_store1 ?_ | refine op_store2 ?_ | refine op_store3 ?_ | refine op_store4 ?_ | refine op_store5 ?_ | refine tc_cond_t ?_ | refine tc_cond_f ?_ | refine tc_cond (fun _ => ?_) (fun _ => ?_) | refine tc_block ?_ | refine tc_skip ?_ | refine tc_ret ?_ | refine tc_exit ?_ | refine tc_label ?_ | refine at_seq_ret ?_ | refine at_seq_exit ?_ | refine at_block_normal ?_ | refine at_block_ret ?_ | refine at_block_exit_self ?_ | refine at_block_exit_ne ?_ | refine at_loop_ret ?_ | refine at_loop_exit ?_ | refine at_loop_goto ?_ | refine tl_guard_yes ?_ | refine tl_guard_no ?_ | refine tl_guard_yes' ?_ | refine tl_guard_no' ?_ | refine tl_guard_undef ?_ | refine tl_guard_split (fun _ => ?_) (fun _ => ?_))
      | (refine op_call ((whole3 _ [[px, py, pz], [qx, qy, qz]] _ _ _ (by simp) (by simp) mem0).mono ?_); rintro _ _ ⟨rfl, rfl⟩; rw [hw])
      | (refine op_aggeq [(px, 0), (py, 0), (pz, 0)] ?_; rw [hpz0])
      | (refine op_aggeq [(qx, 0), (qy, 0), (qz, 0)] ?_; rw [hqz])
      | fail
    exact ret_tmp (hG := by (repeat (first | exact List.Sublist.refl _ | apply List.Sublist.cons_cons | apply List.Sublist.cons | refine List.Sublist.trans ?_ (List.sublist_append_right _ _)))) (hk := ⟨rfl, rfl⟩)
  have hqz0 : eqAll [(qx, 0), (qy, 0), (qz, 0)] = false := by simpa using hqz
  have zero_of : ∀ n : Int, n * n ≤ 0 → n = 0 := fun n h => by
    rcases Classical.em (n = 0) with h2 | h2
    · exact h2
    · have := sq1 h2; omega
  have hP : 1 ≤ nx * nx + ny * ny + nz * nz := by
    rcases Int.lt_or_le 0 (nx * nx + ny * ny + nz * nz) with h | h
    · omega
    · exfalso
      rw [hep, zero_of nx (by omega), zero_of ny (by omega), zero_of nz (by omega)] at hpz0
      simp at hpz0
  have hQ : 1 ≤ mx * mx + my * my + mz * mz := by
    rcases Int.lt_or_le 0 (mx * mx + my * my + mz * mz) with h | h
    · omega
    · exfalso
      rw [heq, zero_of mx (by omega), zero_of my (by omega), zero_of mz (by omega)] at hqz0
      simp at hqz0
  have hP2 : nx * nx + ny * ny + nz * nz ≤ 9007199254740992 := by omega
  have hQ2 : mx * mx + my * my + mz * mz ≤ 9007199254740992 := by omega
  have hca := cauchy nx ny nz mx my mz
  refine fn_enter 62 Try.func10 fun W => ?_
  repeat' first
    | (first | refine tl_defer ?_ | refine tc_seq ?_ | refine tc_region ?_ | refine at_seq_normal ?_ | refine tl_nil ?_ | refine tl_cons ?_ | refine tl_cons_none ?_ | refine op_move ?_ | refine op_assign ?_ | refine op_fieldAddr ?_ | refine op_load ?_ | refine op_load_agg ?_ | refine op_indexC ?_ | refine op_indexAddr1 ?_ | refine op_indexAddr ?_ | refine op_icmp ?_ | refine op_fcmp ?_ | refine op_iarith ?_ | refine op_bcmp ?_ | refine op_unop_not ?_ | refine op_unop_neg_float ?_ | refine op_unop_neg_int ?_ | refine op_len_slice ?_ | refine op_pick_true ?_ | refine op_pick_false ?_ | refine op_pick_true' ?_ | refine op_pick_false' ?_ | refine op_build ?_ | refine op_extract ?_ | refine op_makeInterface ?_ | refine op_typeAssert ?_ | refine op_ptr_nil ?_ | refine op_nilCheck_ptr ?_ | refine op_nilCheck_meth ?_ | refine op_makeMeth ?_ | refine op_makeFunc ?_ | refine op_itof ?_ | refine op_itoi ?_ | refine op_ftoi ?_ | refine op_iquo ?_ | refine op_irem ?_ | refine op_ibits ?_ | refine op_slice_isnil ?_ | refine op_slice_notnil ?_ | refine op_imax ?_ | refine op_imin ?_ | refine op_shl ?_ | refine op_shr ?_ | (refine op_alloc ?_; intro _) | (refine op_box ?_; intro _) | (refine op_buildSlice ?_; intro _) | (refine op_farith ?_; intro _ _) | refine op_store0 ?_ | refine op_store1 ?_ | refine op_store2 ?_ | refine op_store3 ?_ | refine op_store4 ?_ | refine op_store5 ?_ | refine tc_cond_t ?_ | refine tc_cond_f ?_ | refine tc_cond (fun _ => ?_) (fun _ => ?_) | refine tc_block ?_ | refine tc_skip ?_ | refine tc_ret ?_ | refine tc_exit ?_ | refine tc_label ?_ | refine at_seq_ret ?_ | refine at_seq_exit ?_ | refine at_block_normal ?_ | refine at_block_ret ?_ | refine at_block_exit_self ?_ | refine at_block_exit_ne ?_ | refine at_loop_ret ?_ | refine at_loop_exit ?_ | refine at_loop_goto ?_ | refine tl_guard_yes ?_ | refine tl_guard_no ?_ | refine tl_guard_yes' ?_ | refine tl_guard_no' ?_ | refine tl_guard_undef ?_ | refine tl_guard_split (fun _ => ?_) (fun _ => ?_))
    | (refine op_call ((whole3 _ [[px, py, pz], [qx, qy, qz]] _ _ _ (by simp) (by simp) mem0).mono ?_); rintro _ _ ⟨rfl, rfl⟩; rw [hw])
    | (refine op_aggeq [(px, 0), (py, 0), (pz, 0)] ?_; rw [hpz0])
    | (refine op_aggeq [(qx, 0), (qy, 0), (qz, 0)] ?_; rw [hqz0])
    | (refine op_call ((icos _ _ _ _ _ _ _ _ _ _ _ _ _ fx fy fz gx gy gz hP hQ hP2 hQ2).mono ?_); rintro _ _ ⟨⟨rc, rfl, hrc⟩, rfl⟩)
    | fail
  rename_i kp kq ks
  refine tc_weak (G' := (kq, _) :: (kp, _) :: _) (fun _ _ h => h) (by (repeat (first | exact List.Sublist.refl _ | apply List.Sublist.cons_cons | apply List.Sublist.cons | refine List.Sublist.trans ?_ (List.sublist_append_right _ _)))) ?_
  apply fun hole0 hole1 hole2 hole3 hE hD hml hdl hpr prem fin => tc_drawn 15 [is hole0, is hole1, (some' (fun w ex => (∃ r, w = .float .f64 r ∧ FI 3298534883328 r (nx * mx + ny * my + nz * mz)) ∧ ex = [])), is hole2, (fun w ex G => ∃ k, w = .slice (some ⟨k, 0, none⟩) 3 3 ∧ (k, Obj.cells ⟨[.float .f64 px, .float .f64 py, .float .f64 pz]⟩ 22 (0, 0)) ∈ G), (fun w ex G => ∃ k, w = .slice (some ⟨k, 0, none⟩) 3 3 ∧ (k, Obj.cells ⟨[.float .f64 0, .float .f64 0, .float .f64 0]⟩ 22 (0, 0)) ∈ G), (some' (fun w ex => (∃ r, w = .float .f64 r ∧ FI 3298534883328 r (nx * nx + ny * ny + nz * nz)) ∧ ex = [])), (some' (fun w ex => (∃ r c, w = .float .f64 r ∧ Fv r c ∧ 0 ≤ c ∧ Ru 37 (c * c) ((nx * nx + ny * ny + nz * nz : Int) : Rat)) ∧ ex = [])), (some' (fun w ex => (∃ d x a t, FI 3298534883328 d (nx * mx + ny * my + nz * mz) ∧ Fv x a ∧ 0 ≤ a ∧ Ru 37 (a * a) ((nx * nx + ny * ny + nz * nz : Int) : Rat) ∧ FAr .quo d x t ∧ w = .float .f64 t) ∧ ex = [])), is hole3, (fun w ex G => ∃ k, w = .slice (some ⟨k, 0, none⟩) 3 3 ∧ (k, Obj.cells ⟨[.float .f64 qx, .float .f64 qy, .float .f64 qz]⟩ 22 (0, 0)) ∈ G), (fun w ex G => ∃ k, w = .slice (some ⟨k, 0, none⟩) 3 3 ∧ (k, Obj.cells ⟨[.float .f64 0, .float .f64 0, .float .f64 0]⟩ 22 (0, 0)) ∈ G), (some' (fun w ex => (∃ r, w = .float .f64 r ∧ FI 3298534883328 r (mx * mx + my * my + mz * mz)) ∧ ex = [])), (some' (fun w ex => (∃ r c, w = .float .f64 r ∧ Fv r c ∧ 0 ≤ c ∧ Ru 37 (c * c) ((mx * mx + my * my + mz * mz : Int) : Rat)) ∧ ex = [])), (some' (fun w ex => (∃ r, w = .float .f64 r ∧ CosR r (nx * mx + ny * my + nz * mz) (nx * nx + ny * ny + nz * nz) (mx * mx + my * my + mz * mz)) ∧ ex = []))]
    [some 25, some 26, some 27, some 28, some 29, some 30, some 31, some 32, some 33, some 34, some 35, some 36, some 37, some 38, some 39, some 6] [[], [], [0, 1], [], [3, 2], [], [4, 5], [6], [2, 7], [], [9, 7], [], [10, 11], [12], [8, 13]] mixed ⟨(is_mono _), (is_mono _), (some_mono _), (is_mono _), (fun _ _ _ _ ⟨k, h1, h2⟩ hs => ⟨k, h1, hs _ h2⟩), (fun _ _ _ _ ⟨k, h1, h2⟩ hs => ⟨k, h1, hs _ h2⟩), (some_mono _), (some_mono _), (some_mono _), (is_mono _), (fun _ _ _ _ ⟨k, h1, h2⟩ hs => ⟨k, h1, hs _ h2⟩), (fun _ _ _ _ ⟨k, h1, h2⟩ hs => ⟨k, h1, hs _ h2⟩), (some_mono _), (some_mono _), (some_mono _), trivial⟩ prem fin hE hD rfl hml hdl hpr
  rotate_left 5
  · exact rfl
  · exact rfl
  · exact Nat.le_of_ble_eq_true rfl
  · exact rfl
  · exact rfl
  refine ⟨fun G hG => ?_, fun G hG => ?_, fun G hG => ?_, fun G hG => ?_, fun G hG => ?_, fun G hG => ?_, fun G hG => ?_, fun G hG => ?_, fun G hG => ?_, fun G hG => ?_, fun G hG => ?_, fun G hG => ?_, fun G hG => ?_, fun G hG => ?_, fun G hG => ?_, trivial⟩
  · simp only [with2, Step2, nthDst, putO]
    ((first | refine op_load ?_ | refine op_load_agg ?_ | refine op_load ?_ (hm := Sub.mem (by assumption) (by (repeat (apply List.mem_cons_of_mem)); assumption)) | refine op_load_agg ?_ (hm := Sub.mem (by assumption) (by (repeat (apply List.mem_cons_of_mem)); assumption))); exact ⟨[], rfl, rfl, rfl⟩)
  · simp only [with2, Step2, nthDst, putO]
    ((first | refine op_load ?_ | refine op_load_agg ?_ | refine op_load ?_ (hm := Sub.mem (by assumption) (by (repeat (apply List.mem_cons_of_mem)); assumption)) | refine op_load_agg ?_ (hm := Sub.mem (by assumption) (by (repeat (apply List.mem_cons_of_mem)); assumption))); exact ⟨[], rfl, rfl, rfl⟩)
  · rintro _ _ ⟨rfl, rfl⟩ - _ _ ⟨rfl, rfl⟩ -
    simp only [with2, Step2, nthDst, putO]
    (refine op_call ((idot _ _ _ _ _ _ _ _ _ _ _ _ _ fx fy fz gx gy gz).mono ?_); rintro _ _ ⟨h, rfl⟩; exact ⟨[], rfl, h, rfl⟩)
  · simp only [with2, Step2, nthDst, putO]
    ((first | refine op_load ?_ | refine op_load_agg ?_ | refine op_load ?_ (hm := Sub.mem (by assumption) (by (repeat (apply List.mem_cons_of_mem)); assumption)) | refine op_load_agg ?_ (hm := Sub.mem (by assumption) (by (repeat (apply List.mem_cons_of_mem)); assumption))); exact ⟨[], rfl, rfl, rfl⟩)
  · rintro _ _ ⟨rfl, rfl⟩ - _ _ ⟨⟨rd, rfl, hd⟩, rfl⟩ -
    simp only [with2, Step2, nthDst, putO]
    (refine op_call ((off3 px py pz _).mono ?_); rintro _ _ ⟨k, rfl, rfl⟩; exact ⟨[_], rfl, k, rfl, mem0⟩)
  · simp only [with2, Step2, nthDst, putO]
    (refine op_makeSlice (l := 3) (c := 3) (fun k => ?_) (Nat.le_refl _) (by omega) (by omega); exact ⟨[_], rfl, k, rfl, mem0⟩)
  · rintro _ _ ⟨ka, rfl, ma⟩ - _ _ ⟨kb, rfl, mb⟩ -
    simp only [with2, Step2, nthDst, putO]
    (refine op_call ((squareN _ _ [px, py, pz] [0, 0, 0] [nx, ny, nz] [0, 0, 0] 1048576 0 1099511627776 _ (fs_new [px, py, pz] ma) (fs_new [0, 0, 0] mb) rfl ⟨fx, fy, fz, trivial⟩ ⟨fi_zero, fi_zero, fi_zero, trivial⟩ (by simp) (by decide) (by simp) (by decide)).mono ?_); rintro _ _ ⟨⟨r, rfl, h⟩, rfl⟩; rw [sqP] at h; exact ⟨[], rfl, ⟨r, rfl, h⟩, rfl⟩)
  · rintro _ _ ⟨⟨r6, rfl, h6⟩, rfl⟩ -
    simp only [with2, Step2, nthDst, putO]
    (refine op_call ((sqrt _ _).mono ?_); rintro _ _ ⟨⟨r, rfl, hr⟩, rfl⟩; obtain ⟨c, z1, z2, z3⟩ := h6.sqrt (by decide) (by omega) hr; exact ⟨[], rfl, ⟨r, c, rfl, z1, z2, Ru.le (k := 4) (by unfold Ru; rw [u_four]; exact z3) (by decide)⟩, rfl⟩)
  · rintro _ _ ⟨⟨rd, rfl, hd⟩, rfl⟩ - _ _ ⟨⟨r7, c7, rfl, a1, a2, a3⟩, rfl⟩ -
    simp only [with2, Step2, nthDst, putO]
    (refine op_farith ?_; intro _ h; exact ⟨[], rfl, ⟨_, _, _, _, hd, a1, a2, a3, h, rfl⟩, rfl⟩)
  · simp only [with2, Step2, nthDst, putO]
    ((first | refine op_load ?_ | refine op_load_agg ?_ | refine op_load ?_ (hm := Sub.mem (by assumption) (by (repeat (apply List.mem_cons_of_mem)); assumption)) | refine op_load_agg ?_ (hm := Sub.mem (by assumption) (by (repeat (apply List.mem_cons_of_mem)); assumption))); exact ⟨[], rfl, rfl, rfl⟩)
  · rintro _ _ ⟨rfl, rfl⟩ - _ _ ⟨⟨r7, c7, rfl, a1, a2, a3⟩, rfl⟩ -
    simp only [with2, Step2, nthDst, putO]
    (refine op_call ((off3 qx qy qz _).mono ?_); rintro _ _ ⟨k, rfl, rfl⟩; exact ⟨[_], rfl, k, rfl, mem0⟩)
  · simp only [with2, Step2, nthDst, putO]
    (refine op_makeSlice (l := 3) (c := 3) (fun k => ?_) (Nat.le_refl _) (by omega) (by omega); exact ⟨[_], rfl, k, rfl, mem0⟩)
  · rintro _ _ ⟨kc, rfl, mc⟩ - _ _ ⟨kd, rfl, md⟩ -
    simp only [with2, Step2, nthDst, putO]
    (refine op_call ((squareN _ _ [qx, qy, qz] [0, 0, 0] [mx, my, mz] [0, 0, 0] 1048576 0 1099511627776 _ (fs_new [qx, qy, qz] mc) (fs_new [0, 0, 0] md) rfl ⟨gx, gy, gz, trivial⟩ ⟨fi_zero, fi_zero, fi_zero, trivial⟩ (by simp) (by decide) (by simp) (by decide)).mono ?_); rintro _ _ ⟨⟨r, rfl, h⟩, rfl⟩; rw [sqP] at h; exact ⟨[], rfl, ⟨r, rfl, h⟩, rfl⟩)
  · rintro _ _ ⟨⟨r12, rfl, h12⟩, rfl⟩ -
    simp only [with2, Step2, nthDst, putO]
    (refine op_call ((sqrt _ _).mono ?_); rintro _ _ ⟨⟨r, rfl, hr⟩, rfl⟩; obtain ⟨c, z1, z2, z3⟩ := h12.sqrt (by decide) (by omega) hr; exact ⟨[], rfl, ⟨r, c, rfl, z1, z2, Ru.le (k := 4) (by unfold Ru; rw [u_four]; exact z3) (by decide)⟩, rfl⟩)
  · rintro _ _ ⟨⟨rd, r7, c7, t8, hd, a1, a2, a3, h8, rfl⟩, rfl⟩ - _ _ ⟨⟨r13, c13, rfl, b1, b2, b3⟩, rfl⟩ -
    simp only [with2, Step2, nthDst, putO]
    (refine op_farith ?_; intro _ h; exact ⟨[], rfl, ⟨_, rfl, want_num hd (by decide) a1 b1 a2 b2 a3 b3 hP hQ hP2 hQ2 h8 h⟩, rfl⟩)
  · rintro _ _ _ _ _ _ _ _ _ _ _ _ _ _ _ _ _ _ _ _ _ _ _ _ _ _ _ _ _ _ ⟨⟨⟨rw', rfl, hrw⟩, rfl⟩, ⟨⟨r13, c13, rfl, b1, b2, b3⟩, rfl⟩, ⟨⟨r12, rfl, h12⟩, rfl⟩, ⟨kd, rfl, md⟩, ⟨kc, rfl, mc⟩, ⟨rfl, rfl⟩, ⟨⟨rd, r7, c7, t8, hd, a1, a2, a3, h8, rfl⟩, rfl⟩, ⟨⟨r7, c7, rfl, a1, a2, a3⟩, rfl⟩, ⟨⟨r6, rfl, h6⟩, rfl⟩, ⟨kb, rfl, mb⟩, ⟨ka, rfl, ma⟩, ⟨rfl, rfl⟩, ⟨⟨rd, rfl, hd⟩, rfl⟩, ⟨rfl, rfl⟩, ⟨rfl, rfl⟩, _⟩
    simp only [List.nil_append, List.cons_append, List.append_nil, List.drop_succ_cons, List.drop_zero, nthDst, putO]
    have hsw : mx * nx + my * ny + mz * nz = nx * mx + ny * my + nz * mz := by grind
    obtain ⟨z1, z2, z3, z4, z5⟩ := cos_same hrc hrw hP hQ hca
    have near1 : ∀ s, FAr .sub rc rw' s → fcmp .lss (s % 9223372036854775808) 4427038433705197568 = true := fun s h => near40 z3 z4 z5 h
    have near2 : ∀ r1 s, CosR r1 (mx * nx + my * ny + mz * nz) (mx * mx + my * my + mz * mz) (nx * nx + ny * ny + nz * nz) → FAr .sub r1 rc s → fcmp .lss (s % 9223372036854775808) 4427038433705197568 = true := by
      intro r1 s h1 h2
      rw [hsw] at h1
      obtain ⟨y1, y2, y3, y4, y5⟩ := cos_same h1.swap hrc hP hQ hca
      exact near40 y3 y4 y5 h2
    have near3 : ∀ r1 s, CosR r1 (nx * nx + ny * ny + nz * nz) (nx * nx + ny * ny + nz * nz) (nx * nx + ny * ny + nz * nz) → FAr .sub r1 4607182418800017408 s → fcmp .lss (s % 9223372036854775808) 4427038433705197568 = true := by
      intro r1 s h1 h2
      obtain ⟨y1, y2, y3⟩ := cos_self h1 hP
      exact near40 y2 one y3 h2
    repeat' first
      | (rw [near1 _ (by assumption)])
      | (rw [near2 _ _ (by assumption) (by assumption)])
      | (rw [near3 _ _ (by assumption) (by assumption)])
      | (first | refine tl_defer ?_ | refine tc_seq ?_ | refine tc_region ?_ | refine at_seq_normal ?_ | refine tl_nil ?_ | refine tl_cons ?_ | refine tl_cons_none ?_ | refine op_move ?_ | refine op_assign ?_ | refine op_fieldAddr ?_ | refine op_load ?_ | refine op_load_agg ?_ | refine op_indexC ?_ | refine op_indexAddr1 ?_ | refine op_indexAddr ?_ | refine op_icmp ?_ | refine op_fcmp ?_ | refine op_iarith ?_ | refine op_bcmp ?_ | refine op_unop_not ?_ | refine op_unop_neg_float ?_ | refine op_unop_neg_int ?_ | refine op_len_slice ?_ | refine op_pick_true ?_ | refine op_pick_false ?_ | refine op_pick_true' ?_ | refine op_pick_false' ?_ | refine op_build ?_ | refine op_extract ?_ | refine op_makeInterface ?_ | refine op_typeAssert ?_ | refine op_ptr_nil ?_ | refine op_nilCheck_ptr ?_ | refine op_nilCheck_meth ?_ | refine op_makeMeth ?_ | refine op_makeFunc ?_ | refine op_itof ?_ | refine op_itoi ?_ | refine op_ftoi ?_ | refine op_iquo ?_ | refine op_irem ?_ | refine op_ibits ?_ | refine op_slice_isnil ?_ | refine op_slice_notnil ?_ | refine op_imax ?_ | refine op_imin ?_ | refine op_shl ?_ | refine op_shr ?_ | (refine op_alloc ?_; intro _) | (refine op_box ?_; intro _) | (refine op_buildSlice ?_; intro _) | (refine op_farith ?_; intro _ _) | refine op_store0 ?_ | refine op_store1 ?_ | refine op_store2 ?_ | refine op_store3 ?_ | refine op_store4 ?_ | refine op_store5 ?_ | refine tc_cond_t ?_ | refine tc_cond_f ?_ | refine tc_cond (fun _ => ?_) (fun _ => ?_) | refine tc_block ?_ | refine tc_skip ?_ | refine tc_ret ?_ | refine tc_exit ?_ | refine tc_label ?_ | refine at_seq_ret ?_ | refine at_seq_exit ?_ | refine at_block_normal ?_ | refine at_block_ret ?_ | refine at_block_exit_self ?_ | refine at_block_exit_ne ?_ | refine at_loop_ret ?_ | refine at_loop_exit ?_ | refine at_loop_goto ?_ | refine tl_guard_yes ?_ | refine tl_guard_no ?_ | refine tl_guard_yes' ?_ | refine tl_guard_no' ?_ | refine tl_guard_undef ?_ | refine tl_guard_split (fun _ => ?_) (fun _ => ?_))
      | refine op_load_aggK rfl ?_
      | (refine op_call ((Pl.abs _ _).mono ?_); rintro _ _ ⟨rfl, rfl⟩)
      | (refine op_call ((icos qx qy qz px py pz mx my mz nx ny nz _ gx gy gz fx fy fz hQ hP hQ2 hP2).mono ?_); rintro _ _ ⟨⟨r1, rfl, hr1⟩, rfl⟩)
      | (refine op_call ((icos px py pz px py pz nx ny nz nx ny nz _ fx fy fz fx fy fz hP hP hP2 hP2).mono ?_); rintro _ _ ⟨⟨r2, rfl, hr2⟩, rfl⟩)
      | fail
    exact ret_tmp (hG := by (repeat (first | exact List.Sublist.refl _ | apply List.Sublist.cons_cons | apply List.Sublist.cons | refine List.Sublist.trans ?_ (List.sublist_append_right _ _)))) (hk := ⟨rfl, rfl⟩)
theorem own : ownKnob Try.prog.godebug = none := by kernel_rfl
theorem laid : laidOutB Try.prog = true := by kernel_rfl
set_option maxRecDepth 100000 in
theorem lifted (os : Os) (started : os.Started) (H : Type) (enc : TypeId × Value → H) :
    ReturnsInHanded {} Try.checked os 10 .any (Rows.fnCos3Spec.pre6 enc Try.prog Try.f10 Rows.fnCos3Row.domain false) (Rows.fnCos3Spec.post enc Try.prog Try.f10 false true false false) := by
  refine returnsInHanded_of_change (C := Try.checked) own started (by kernel_rfl) Try.func10
    (ChangeSpec.witness6 (enc := enc) (C := Try.checked) false ⟨#[], #[.agg #[.float .f64 0, .float .f64 0, .float .f64 0], .agg #[.float .f64 0, .float .f64 0, .float .f64 0]], []⟩ 8 (by kernel_rfl) (by kernel_rfl) (by kernel_rfl) (by kernel_rfl)) ?_
  intro W base args ds gs before hval0 hW hcnd _
  have hval : ∀ (j : Nat) t v, Try.f10.params[j]? = some t → args[j]? = some v → Value.okWide Try.prog W .any base t v := hval0
  have hW' := hW
  obtain ⟨p, q, hA0, hV, rfl, hfz, hnd⟩ := hW
  have hA : DataW.TrodAll enc Try.prog W 0 (fun _ => true) true Try.f10.params.toList args.toList ds p := hA0
  rw [Try.params10] at hA hval
  obtain ⟨v0, vs0, d0, ds0, p0, q0, hargs, rfl, rfl, h0, r0⟩ := trodAll_cons hA
  obtain ⟨v1, vs1, d1, ds1, p1, q1, rfl, rfl, rfl, h1, r1⟩ := trodAll_cons r0
  obtain ⟨rfl, rfl, rfl⟩ := trodAll_nil r1
  obtain rfl : args = #[v0, v1] := by cases args; simp_all
  obtain ⟨rfl, rfl⟩ := trodVars_none hV
  obtain ⟨x0, y0, z0, rfl, bx0, by0, bz0⟩ := open_p3 Try.underlying38 (by kernel_rfl) (by kernel_rfl) Try.underlying22 Try.underlying22 Try.underlying22 (hval 0 38 v0 rfl rfl) h0
  obtain ⟨x1, y1, z1, rfl, bx1, by1, bz1⟩ := open_p3 Try.underlying38 (by kernel_rfl) (by kernel_rfl) Try.underlying22 Try.underlying22 Try.underlying22 (hval 1 38 v1 rfl rfl) h1
  clear hA0 hval0
  refine (calls_of_does (law (H := all W) x0 y0 z0 x1 y1 z1) (sees_all W)).mono fun e W' ⟨v, H', he, hs, hv, hH⟩ => ?_
  subst he
  subst hv
  subst hH
  exact ⟨_, rfl, post_law laid (of_decide_eq_true (by kernel_rfl)) rfl hW' rfl rfl Try.underlying4 hs.below⟩
theorem over : Rows.fnCos3Row.holds Try.pinned (OpenSpec.ofChange Rows.fnCos3Spec) :=
  OpenClaim.holds_of_wide 10 Try.f10 rfl rfl rfl rfl rfl rfl rfl ⟨rfl, rfl, rfl, rfl, rfl⟩ rfl rfl rfl rfl rfl (by kernel_rfl) Try.func10 (by kernel_rfl)
    (of_decide_eq_true (by kernel_rfl)) (by unfold Func.isWrapper; first | (rw [if_pos (by decide +kernel)]; kernel_rfl) | (rw [if_neg (by decide +kernel)]; exact ⟨rfl, rfl⟩))
    (fun os started H enc _ => lifted os started H enc)
/-- The statement. -/
theorem proved : Rows.FnCos3Said := over
#print axioms proved
end Go.Proofs.Ytgkgfjliilemnaa.fnCos3
