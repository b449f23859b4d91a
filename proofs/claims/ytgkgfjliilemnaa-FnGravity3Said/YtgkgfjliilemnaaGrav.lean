/-
  Gravity of two masses of space: barneshut.Gravity3 and what it calls, and how near the statement's number is. No conditions.
-/

import Derived.Test.YtgkgfjliilemnaaHut3
import Derived.Test.YtgkgfjliilemnaaSqN
import Derived.Test.YtgkgfjliilemnaaInts
import Derived.Test.YtgkgfjliilemnaaPl
import Derived.Test.YtgkgfjliilemnaaFl12
set_option linter.unusedVariables false
set_option linter.unusedSimpArgs false
namespace Go.Proofs.Ytgkgfjliilemnaa.fnGravity3
open Go.Lg Go.Proofs.Ytgkgfjliilemnaa.Hut Go.Proofs.Ytgkgfjliilemnaa.SqN Go.Proofs.Ytgkgfjliilemnaa.Wh Go.Proofs.Ytgkgfjliilemnaa.Gd


theorem msqrt (x : Nat) (H : Heap) : Does Try.prog 65 [.float .f64 x] H fun v H' => (∃ r, v = .float .f64 r ∧ SqrtR x r) ∧ H' = H :=
  does_sqrt Try.func65 rfl rfl (by kernel_rfl) (by kernel_rfl)
theorem sqrt (x : Nat) (H : Heap) : Does Try.prog 21 [.float .f64 x] H fun v H' => (∃ r, v = .float .f64 r ∧ SqrtR x r) ∧ H' = H := by
  refine fn_enter 5 Try.func21 fun W => ?_
  repeat' first
    | (first | refine tl_defer ?_ | refine tc_seq ?_ | refine tc_region ?_ | refine at_seq_normal ?_ | refine tl_nil ?_ | refine tl_cons ?_ | refine tl_cons_none ?_ | refine op_move ?_ | refine op_assign ?_ | refine op_fieldAddr ?_ | refine op_load ?_ | refine op_load_agg ?_ | refine op_indexC ?_ | refine op_indexAddr1 ?_ | refine op_indexAddr ?_ | refine op_icmp ?_ | refine op_fcmp ?_ | refine op_iarith ?_ | refine op_bcmp ?_ | refine op_unop_not ?_ | refine op_unop_neg_float ?_ | refine op_unop_neg_int ?_ | refine op_len_slice ?_ | refine op_pick_true ?_ | refine op_pick_false ?_ | refine op_pick_true' ?_ | refine op_pick_false' ?_ | refine op_build ?_ | refine op_extract ?_ | refine op_makeInterface ?_ | refine op_typeAssert ?_ | refine op_ptr_nil ?_ | refine op_nilCheck_ptr ?_ | refine op_nilCheck_meth ?_ | refine op_makeMeth ?_ | refine op_makeFunc ?_ | refine op_itof ?_ | refine op_itoi ?_ | refine op_ftoi ?_ | refine op_iquo ?_ | refine op_irem ?_ | refine op_ibits ?_ | refine op_slice_isnil ?_ | refine op_slice_notnil ?_ | refine op_imax ?_ | refine op_imin ?_ | refine op_shl ?_ | refine op_shr ?_ | (refine op_alloc ?_; intro _) | (refine op_box ?_; intro _) | (refine op_buildSlice ?_; intro _) | (refine op_farith ?_; intro _ _) | refine op_store0 ?_ | refine op_store1 ?_ | refine op_store2 ?_ | refine op_store3 ?_ | refine op_store4 ?_ | refine op_store5 ?_ | refine tc_cond_t ?_ | refine tc_cond_f ?_ | refine tc_cond (fun _ => ?_) (fun _ => ?_) | refine tc_block ?_ | refine tc_skip ?_ | refine tc_ret ?_ | refine tc_exit ?_ | refine tc_label ?_ | refine at_seq_ret ?_ | refine at_seq_exit ?_ | refine at_block_normal ?_ | refine at_block_ret ?_ | refine at_block_exit_self ?_ | refine at_block_exit_ne ?_ | refine at_loop_ret ?_ | refine at_loop_exit ?_ | refine at_loop_goto ?_ | refine tl_guard_yes ?_ | refine tl_guard_no ?_ | refine tl_guard_yes' ?_ | refine tl_guard_no' ?_ | refine tl_guard_undef ?_ | refine tl_guard_split (fun _ => ?_) (fun _ => ?_))
    | (refine op_call ((msqrt _ _).mono ?_); rintro _ _ ⟨⟨r, rfl, hr⟩, rfl⟩)
  exact ret_tmp (hk := ⟨⟨r, rfl, hr⟩, rfl⟩)
theorem zero : Fv 0 (0 : Rat) := ⟨false, 0, -1074, rfl, by simp⟩
theorem fv_m20 : Fv 4517110426252607488 (p2 (-20)) := ⟨false, 4503599627370496, -72, rfl, by
  have e : ((4503599627370496 : Nat) : Rat) = p2 52 := (p2_toNat (e := 52) (by decide)).symm
  have := p2_mul (a := 52) (b := -72) (c := -20) (by decide)
  rw [e]; unfold sgn; grind⟩
theorem fv_1000 : Fv 4652007308841189376 (1000 : Rat) := ⟨false, 8796093022208000, -43, rfl, by unfold sgn p2; simp; grind⟩
/-- A mass: none, or from 2^-20 to 1000. -/
def Mass (m : Nat) : Prop := ∃ q, Fv m q ∧ (q = 0 ∨ (p2 (-20) ≤ q ∧ q ≤ 1000))
theorem num_of_eq {x y : Nat} {q : Rat} (hy : Fv y q) (h : fcmp .eql x y = true) : Fv x q := by
  have hy0 := hy
  obtain ⟨s, m, e, hr, rfl⟩ := hy0
  cases hx : Ieee.double.read x with
  | nan s t => simp [fcmp_def, fcmp0, Ieee.Format.order, hx, Ieee.Datum.order] at h
  | infinity s => cases s <;> simp [fcmp_def, fcmp0, Ieee.Format.order, hx, hr, Ieee.Datum.order] at h
  | number s2 m2 e2 =>
    have hx0 : Fv x (sgn s2 * (m2 : Rat) * p2 e2) := ⟨s2, m2, e2, hx, rfl⟩
    rw [fcmp_eql hx0 hy] at h
    rw [← of_decide_eq_true h]; exact hx0
theorem num_of_le {x y z : Nat} {a b : Rat} (hy : Fv y a) (hz : Fv z b) (h1 : fcmp .geq x y = true) (h2 : fcmp .leq x z = true) : ∃ q, Fv x q ∧ a ≤ q ∧ q ≤ b := by
  have hy0 := hy
  have hz0 := hz
  obtain ⟨s, m, e, hr, _⟩ := hy0
  obtain ⟨s', m', e', hr', _⟩ := hz0
  cases hx : Ieee.double.read x with
  | nan s t => simp [fcmp_def, fcmp0, Ieee.Format.order, hx, Ieee.Datum.order] at h1
  | infinity s =>
    cases s with
    | true => simp [fcmp_def, fcmp0, Ieee.Format.order, hx, hr, Ieee.Datum.order] at h1
    | false => simp [fcmp_def, fcmp0, Ieee.Format.order, hx, hr', Ieee.Datum.order] at h2
  | number s2 m2 e2 =>
    have hx0 : Fv x (sgn s2 * (m2 : Rat) * p2 e2) := ⟨s2, m2, e2, hx, rfl⟩
    rw [fcmp_geq hx0 hy] at h1
    rw [fcmp_leq hx0 hz] at h2
    exact ⟨_, hx0, of_decide_eq_true h1, of_decide_eq_true h2⟩
theorem heavy (m : Nat) (H : Heap) : Does Try.prog 53 [.float .f64 m] H fun w H' => (∃ b, w = .bool b ∧ (b = true → Mass m)) ∧ H' = H := by
  refine fn_enter 13 Try.func53 fun W => ?_
  repeat'
    first
      | refine tl_defer ?_ | refine tc_seq ?_ | refine tc_region ?_ | refine at_seq_normal ?_ | refine tl_nil ?_ | refine tl_cons ?_ | refine tl_cons_none ?_ | refine op_move ?_
      | refine op_assign ?_ | refine op_fieldAddr ?_ | refine op_load ?_ | refine op_load_agg ?_ | refine op_indexC ?_ | refine op_indexAddr1 ?_ | refine op_indexAddr ?_ | refine op_icmp ?_
      | refine op_fcmp ?_ | refine op_iarith ?_ | refine op_bcmp ?_ | refine op_unop_not ?_ | refine op_unop_neg_float ?_ | refine op_unop_neg_int ?_ | refine op_len_slice ?_ | refine op_pick_true ?_
      | refine op_pick_false ?_ | refine op_pick_true' ?_ | refine op_pick_false' ?_ | refine op_build ?_ | refine op_extract ?_ | refine op_makeInterface ?_ | refine op_typeAssert ?_ | refine op_ptr_nil ?_
      | refine op_nilCheck_ptr ?_ | refine op_nilCheck_meth ?_ | refine op_makeMeth ?_ | refine op_makeFunc ?_ | refine op_itof ?_ | refine op_itoi ?_ | refine op_ftoi ?_ | refine op_iquo ?_
      | refine op_irem ?_ | refine op_ibits ?_ | refine op_slice_isnil ?_ | refine op_slice_notnil ?_ | refine op_imax ?_ | refine op_imin ?_ | refine op_shl ?_ | refine op_shr ?_
      | (refine op_alloc ?_; intro _) | (refine op_box ?_; intro _) | (refine op_buildSlice ?_; intro _) | (refine op_farith ?_; intro _ _) | refine op_store0 ?_ | refine op_store1 ?_ | refine op_store2 ?_ | refine op_store3 ?_
      | refine op_store4 ?_ | refine op_store5 ?_ | refine tc_cond_t ?_ | refine tc_cond_f ?_ | refine tc_cond (fun _ => ?_) (fun _ => ?_) | refine tc_block ?_ | refine tc_skip ?_ | refine tc_ret ?_
      | refine tc_exit ?_ | refine tc_label ?_ | refine at_seq_ret ?_ | refine at_seq_exit ?_ | refine at_block_normal ?_ | refine at_block_ret ?_ | refine at_block_exit_self ?_ | refine at_block_exit_ne ?_
      | refine at_loop_ret ?_ | refine at_loop_exit ?_ | refine at_loop_goto ?_ | refine tl_guard_yes ?_ | refine tl_guard_no ?_ | refine tl_guard_yes' ?_ | refine tl_guard_no' ?_ | refine tl_guard_undef ?_
      | refine tl_guard_split (fun _ => ?_) (fun _ => ?_)
  all_goals
    refine ret_tmp (hk := ⟨⟨_, rfl, fun h => ?_⟩, rfl⟩)
    first
      | (exact absurd h (by decide))
      | (exact ⟨0, num_of_eq zero (by assumption), .inl rfl⟩)
      | (obtain ⟨q, h1, h2, h3⟩ := num_of_le fv_m20 fv_1000 (by assumption) (by assumption); exact ⟨q, h1, .inr ⟨h2, h3⟩⟩)
abbrev V3 (x y z : Nat) : Value := .agg ⟨[.float .f64 x, .float .f64 y, .float .f64 z]⟩
theorem vec (x y z : Nat) (H : Heap) : Does Try.prog 97 [V3 x y z] H fun w H' => w = V3 x y z ∧ H' = H := by
  refine fn_enter 10 Try.func97 fun W => ?_
  repeat'
    first
      | refine tl_defer ?_ | refine tc_seq ?_ | refine tc_region ?_ | refine at_seq_normal ?_ | refine tl_nil ?_ | refine tl_cons ?_ | refine tl_cons_none ?_ | refine op_move ?_
      | refine op_assign ?_ | refine op_fieldAddr ?_ | refine op_load ?_ | refine op_load_agg ?_ | refine op_indexC ?_ | refine op_indexAddr1 ?_ | refine op_indexAddr ?_ | refine op_icmp ?_
      | refine op_fcmp ?_ | refine op_iarith ?_ | refine op_bcmp ?_ | refine op_unop_not ?_ | refine op_unop_neg_float ?_ | refine op_unop_neg_int ?_ | refine op_len_slice ?_ | refine op_pick_true ?_
      | refine op_pick_false ?_ | refine op_pick_true' ?_ | refine op_pick_false' ?_ | refine op_build ?_ | refine op_extract ?_ | refine op_makeInterface ?_ | refine op_typeAssert ?_ | refine op_ptr_nil ?_
      | refine op_nilCheck_ptr ?_ | refine op_nilCheck_meth ?_ | refine op_makeMeth ?_ | refine op_makeFunc ?_ | refine op_itof ?_ | refine op_itoi ?_ | refine op_ftoi ?_ | refine op_iquo ?_
      | refine op_irem ?_ | refine op_ibits ?_ | refine op_slice_isnil ?_ | refine op_slice_notnil ?_ | refine op_imax ?_ | refine op_imin ?_ | refine op_shl ?_ | refine op_shr ?_
      | (refine op_alloc ?_; intro _) | (refine op_box ?_; intro _) | (refine op_buildSlice ?_; intro _) | (refine op_farith ?_; intro _ _) | refine op_store0 ?_ | refine op_store1 ?_ | refine op_store2 ?_ | refine op_store3 ?_
      | refine op_store4 ?_ | refine op_store5 ?_ | refine tc_cond_t ?_ | refine tc_cond_f ?_ | refine tc_cond (fun _ => ?_) (fun _ => ?_) | refine tc_block ?_ | refine tc_skip ?_ | refine tc_ret ?_
      | refine tc_exit ?_ | refine tc_label ?_ | refine at_seq_ret ?_ | refine at_seq_exit ?_ | refine at_block_normal ?_ | refine at_block_ret ?_ | refine at_block_exit_self ?_ | refine at_block_exit_ne ?_
      | refine at_loop_ret ?_ | refine at_loop_exit ?_ | refine at_loop_goto ?_ | refine tl_guard_yes ?_ | refine tl_guard_no ?_ | refine tl_guard_yes' ?_ | refine tl_guard_no' ?_ | refine tl_guard_undef ?_
      | refine tl_guard_split (fun _ => ?_) (fun _ => ?_)
  refine ret_agg (hr := rfl) (hG := by (repeat (first | exact List.Sublist.refl _ | apply List.Sublist.cons_cons | apply List.Sublist.cons | refine List.Sublist.trans ?_ (List.sublist_append_right _ _)))) (hk := ⟨rfl, rfl⟩)
theorem plainP3 (x y z : Nat) (H : Heap) : Does Try.prog 101 [V3 x y z] H fun w H' => w = V3 x y z ∧ H' = H := by
  refine fn_enter 10 Try.func101 fun W => ?_
  repeat'
    first
      | refine tl_defer ?_ | refine tc_seq ?_ | refine tc_region ?_ | refine at_seq_normal ?_ | refine tl_nil ?_ | refine tl_cons ?_ | refine tl_cons_none ?_ | refine op_move ?_
      | refine op_assign ?_ | refine op_fieldAddr ?_ | refine op_load ?_ | refine op_load_agg ?_ | refine op_indexC ?_ | refine op_indexAddr1 ?_ | refine op_indexAddr ?_ | refine op_icmp ?_
      | refine op_fcmp ?_ | refine op_iarith ?_ | refine op_bcmp ?_ | refine op_unop_not ?_ | refine op_unop_neg_float ?_ | refine op_unop_neg_int ?_ | refine op_len_slice ?_ | refine op_pick_true ?_
      | refine op_pick_false ?_ | refine op_pick_true' ?_ | refine op_pick_false' ?_ | refine op_build ?_ | refine op_extract ?_ | refine op_makeInterface ?_ | refine op_typeAssert ?_ | refine op_ptr_nil ?_
      | refine op_nilCheck_ptr ?_ | refine op_nilCheck_meth ?_ | refine op_makeMeth ?_ | refine op_makeFunc ?_ | refine op_itof ?_ | refine op_itoi ?_ | refine op_ftoi ?_ | refine op_iquo ?_
      | refine op_irem ?_ | refine op_ibits ?_ | refine op_slice_isnil ?_ | refine op_slice_notnil ?_ | refine op_imax ?_ | refine op_imin ?_ | refine op_shl ?_ | refine op_shr ?_
      | (refine op_alloc ?_; intro _) | (refine op_box ?_; intro _) | (refine op_buildSlice ?_; intro _) | (refine op_farith ?_; intro _ _) | refine op_store0 ?_ | refine op_store1 ?_ | refine op_store2 ?_ | refine op_store3 ?_
      | refine op_store4 ?_ | refine op_store5 ?_ | refine tc_cond_t ?_ | refine tc_cond_f ?_ | refine tc_cond (fun _ => ?_) (fun _ => ?_) | refine tc_block ?_ | refine tc_skip ?_ | refine tc_ret ?_
      | refine tc_exit ?_ | refine tc_label ?_ | refine at_seq_ret ?_ | refine at_seq_exit ?_ | refine at_block_normal ?_ | refine at_block_ret ?_ | refine at_block_exit_self ?_ | refine at_block_exit_ne ?_
      | refine at_loop_ret ?_ | refine at_loop_exit ?_ | refine at_loop_goto ?_ | refine tl_guard_yes ?_ | refine tl_guard_no ?_ | refine tl_guard_yes' ?_ | refine tl_guard_no' ?_ | refine tl_guard_undef ?_
      | refine tl_guard_split (fun _ => ?_) (fun _ => ?_)
  refine ret_agg (hr := rfl) (hG := by (repeat (first | exact List.Sublist.refl _ | apply List.Sublist.cons_cons | apply List.Sublist.cons | refine List.Sublist.trans ?_ (List.sublist_append_right _ _)))) (hk := ⟨rfl, rfl⟩)
theorem scale (f x y z : Nat) (H : Heap) : Does Try.prog 120 [.float .f64 f, V3 x y z] H fun w H' => (∃ a b c, w = V3 a b c ∧ FAr .mul f x a ∧ FAr .mul f y b ∧ FAr .mul f z c) ∧ H' = H := by
  refine fn_enter 18 Try.func120 fun W => ?_
  repeat'
    first
      | refine tl_defer ?_ | refine tc_seq ?_ | refine tc_region ?_ | refine at_seq_normal ?_ | refine tl_nil ?_ | refine tl_cons ?_ | refine tl_cons_none ?_ | refine op_move ?_
      | refine op_assign ?_ | refine op_fieldAddr ?_ | refine op_load ?_ | refine op_load_agg ?_ | refine op_indexC ?_ | refine op_indexAddr1 ?_ | refine op_indexAddr ?_ | refine op_icmp ?_
      | refine op_fcmp ?_ | refine op_iarith ?_ | refine op_bcmp ?_ | refine op_unop_not ?_ | refine op_unop_neg_float ?_ | refine op_unop_neg_int ?_ | refine op_len_slice ?_ | refine op_pick_true ?_
      | refine op_pick_false ?_ | refine op_pick_true' ?_ | refine op_pick_false' ?_ | refine op_build ?_ | refine op_extract ?_ | refine op_makeInterface ?_ | refine op_typeAssert ?_ | refine op_ptr_nil ?_
      | refine op_nilCheck_ptr ?_ | refine op_nilCheck_meth ?_ | refine op_makeMeth ?_ | refine op_makeFunc ?_ | refine op_itof ?_ | refine op_itoi ?_ | refine op_ftoi ?_ | refine op_iquo ?_
      | refine op_irem ?_ | refine op_ibits ?_ | refine op_slice_isnil ?_ | refine op_slice_notnil ?_ | refine op_imax ?_ | refine op_imin ?_ | refine op_shl ?_ | refine op_shr ?_
      | (refine op_alloc ?_; intro _) | (refine op_box ?_; intro _) | (refine op_buildSlice ?_; intro _) | (refine op_farith ?_; intro _ _) | refine op_store0 ?_ | refine op_store1 ?_ | refine op_store2 ?_ | refine op_store3 ?_
      | refine op_store4 ?_ | refine op_store5 ?_ | refine tc_cond_t ?_ | refine tc_cond_f ?_ | refine tc_cond (fun _ => ?_) (fun _ => ?_) | refine tc_block ?_ | refine tc_skip ?_ | refine tc_ret ?_
      | refine tc_exit ?_ | refine tc_label ?_ | refine at_seq_ret ?_ | refine at_seq_exit ?_ | refine at_block_normal ?_ | refine at_block_ret ?_ | refine at_block_exit_self ?_ | refine at_block_exit_ne ?_
      | refine at_loop_ret ?_ | refine at_loop_exit ?_ | refine at_loop_goto ?_ | refine tl_guard_yes ?_ | refine tl_guard_no ?_ | refine tl_guard_yes' ?_ | refine tl_guard_no' ?_ | refine tl_guard_undef ?_
      | refine tl_guard_split (fun _ => ?_) (fun _ => ?_)
  rename_i a ha b hb c hc
  refine ret_agg (hr := rfl) (hG := by (repeat (first | exact List.Sublist.refl _ | apply List.Sublist.cons_cons | apply List.Sublist.cons | refine List.Sublist.trans ?_ (List.sublist_append_right _ _)))) (hk := ⟨⟨a, b, c, rfl, ha, hb, hc⟩, rfl⟩)
/-- What the code makes of a number of the way. -/
def GP (m1 m2 x g : Nat) (S : Int) : Prop := (S = 0 → g = 0) ∧ (S ≠ 0 → ∃ m d2 r D s, FAr .mul m1 m2 m ∧ FI 3145728 d2 S ∧ SqrtR d2 r ∧ FAr .mul d2 r D ∧ FAr .quo m D s ∧ FAr .mul s x g)
set_option maxHeartbeats 8000000 in
theorem grav (m1 m2 x y z : Nat) (nx ny nz : Int) (H : Heap) (fx : FI 1024 x nx) (fy : FI 1024 y ny) (fz : FI 1024 z nz) :
    Does Try.prog 102 [.nilIface, .nilIface, .float .f64 m1, .float .f64 m2, V3 x y z] H fun w H' => (∃ a b c, w = V3 a b c ∧ GP m1 m2 x a (nx * nx + ny * ny + nz * nz) ∧ GP m1 m2 y b (nx * nx + ny * ny + nz * nz) ∧ GP m1 m2 z c (nx * nx + ny * ny + nz * nz)) ∧ H' = H := by
  refine fn_enter 42 Try.func102 fun W => ?_
  repeat'
    first
      | refine tl_defer ?_ | refine tc_seq ?_ | refine tc_region ?_ | refine at_seq_normal ?_ | refine tl_nil ?_ | refine tl_cons ?_ | refine tl_cons_none ?_ | refine op_move ?_
      | refine op_assign ?_ | refine op_fieldAddr ?_ | refine op_load ?_ | refine op_load_agg ?_ | refine op_indexC ?_ | refine op_indexAddr1 ?_ | refine op_indexAddr ?_ | refine op_icmp ?_
      | refine op_fcmp ?_ | refine op_iarith ?_ | refine op_bcmp ?_ | refine op_unop_not ?_ | refine op_unop_neg_float ?_ | refine op_unop_neg_int ?_ | refine op_len_slice ?_ | refine op_pick_true ?_
      | refine op_pick_false ?_ | refine op_pick_true' ?_ | refine op_pick_false' ?_ | refine op_build ?_ | refine op_extract ?_ | refine op_makeInterface ?_ | refine op_typeAssert ?_ | refine op_ptr_nil ?_
      | refine op_nilCheck_ptr ?_ | refine op_nilCheck_meth ?_ | refine op_makeMeth ?_ | refine op_makeFunc ?_ | refine op_itof ?_ | refine op_itoi ?_ | refine op_ftoi ?_ | refine op_iquo ?_
      | refine op_irem ?_ | refine op_ibits ?_ | refine op_slice_isnil ?_ | refine op_slice_notnil ?_ | refine op_imax ?_ | refine op_imin ?_ | refine op_shl ?_ | refine op_shr ?_
      | (refine op_alloc ?_; intro _) | (refine op_box ?_; intro _) | (refine op_buildSlice ?_; intro _) | (refine op_farith ?_; intro _ _) | refine op_store0 ?_ | refine op_store1 ?_ | refine op_store2 ?_ | refine op_store3 ?_
      | refine op_store4 ?_ | refine op_store5 ?_ | refine tc_cond_t ?_ | refine tc_cond_f ?_ | refine tc_cond (fun _ => ?_) (fun _ => ?_) | refine tc_block ?_ | refine tc_skip ?_ | refine tc_ret ?_
      | refine tc_exit ?_ | refine tc_label ?_ | refine at_seq_ret ?_ | refine at_seq_exit ?_ | refine at_block_normal ?_ | refine at_block_ret ?_ | refine at_block_exit_self ?_ | refine at_block_exit_ne ?_
      | refine at_loop_ret ?_ | refine at_loop_exit ?_ | refine at_loop_goto ?_ | refine tl_guard_yes ?_ | refine tl_guard_no ?_ | refine tl_guard_yes' ?_ | refine tl_guard_no' ?_ | refine tl_guard_undef ?_
      | refine tl_guard_split (fun _ => ?_) (fun _ => ?_)
  · rename_i k1 k2 q1 e1 q2 e2 q3 e3 q4 e4 d2 e5 hc
    have hd : FI 3145728 d2 (nx * nx + ny * ny + nz * nz) := FI.add (FI.add (FI.mul fx fx ⟨rfl, by decide⟩ e1) (FI.mul fy fy ⟨rfl, by decide⟩ e2) ⟨rfl, by decide⟩ e3) (FI.mul fz fz ⟨rfl, by decide⟩ e4) ⟨rfl, by decide⟩ e5
    have h0 : nx * nx + ny * ny + nz * nz = 0 := by rw [hd.eql (B := 0) ⟨zero, by decide, by decide⟩] at hc; exact of_decide_eq_true hc
    have g0 : ∀ x, GP m1 m2 x 0 (nx * nx + ny * ny + nz * nz) := fun x => ⟨fun _ => rfl, fun h => absurd h0 h⟩
    refine ret_agg (hr := rfl) (hG := by (repeat (first | exact List.Sublist.refl _ | apply List.Sublist.cons_cons | apply List.Sublist.cons | refine List.Sublist.trans ?_ (List.sublist_append_right _ _)))) (hk := ⟨⟨0, 0, 0, rfl, g0 _, g0 _, g0 _⟩, rfl⟩)
  · rename_i k1 k2 q1 e1 q2 e2 q3 e3 q4 e4 d2 e5 hc
    have hd : FI 3145728 d2 (nx * nx + ny * ny + nz * nz) := FI.add (FI.add (FI.mul fx fx ⟨rfl, by decide⟩ e1) (FI.mul fy fy ⟨rfl, by decide⟩ e2) ⟨rfl, by decide⟩ e3) (FI.mul fz fz ⟨rfl, by decide⟩ e4) ⟨rfl, by decide⟩ e5
    have h0 : nx * nx + ny * ny + nz * nz ≠ 0 := by rw [hd.eql (B := 0) ⟨zero, by decide, by decide⟩] at hc; exact of_decide_eq_false hc
    apply fun hole0 hole1 hole2 hole3 hole4 hE hD hml hdl hpr prem fin => tc_drawn 10 [is hole0, is hole1, (some' (fun w ex => (∃ r, FAr .mul m1 m2 r ∧ w = .float .f64 r) ∧ ex = [])), is hole2, is hole3, (some' (fun w ex => (∃ r, w = .float .f64 r ∧ SqrtR d2 r) ∧ ex = [])), (some' (fun w ex => (∃ r D, w = .float .f64 D ∧ SqrtR d2 r ∧ FAr .mul d2 r D) ∧ ex = [])), (some' (fun w ex => (∃ m r D s, w = .float .f64 s ∧ FAr .mul m1 m2 m ∧ SqrtR d2 r ∧ FAr .mul d2 r D ∧ FAr .quo m D s) ∧ ex = [])), is hole4, (some' (fun w ex => (∃ a b c m r D s, w = V3 a b c ∧ FAr .mul m1 m2 m ∧ SqrtR d2 r ∧ FAr .mul d2 r D ∧ FAr .quo m D s ∧ FAr .mul s x a ∧ FAr .mul s y b ∧ FAr .mul s z c) ∧ ex = []))]
      [some 32, some 33, some 34, some 35, some 36, some 37, some 38, some 39, some 40, some 41, none] [[], [], [0, 1], [], [], [4], [3, 5], [2, 6], [], [7, 8, 5]] mixed ⟨(is_mono _), (is_mono _), (some_mono _), (is_mono _), (is_mono _), (some_mono _), (some_mono _), (some_mono _), (is_mono _), (some_mono _), trivial⟩ prem fin hE hD rfl hml hdl hpr
    rotate_left 6
    · exact rfl
    · exact rfl
    · exact Nat.le_of_ble_eq_true rfl
    · exact rfl
    · exact rfl
    refine ⟨fun G hG => ?_, fun G hG => ?_, fun G hG => ?_, fun G hG => ?_, fun G hG => ?_, fun G hG => ?_, fun G hG => ?_, fun G hG => ?_, fun G hG => ?_, fun G hG => ?_, trivial⟩
    · simp only [with2, Step2, nthDst, putO]
      (refine op_move ?_; exact ⟨[], rfl, rfl, rfl⟩)
    · simp only [with2, Step2, nthDst, putO]
      (refine op_move ?_; exact ⟨[], rfl, rfl, rfl⟩)
    · rintro _ _ ⟨rfl, rfl⟩ - _ _ ⟨rfl, rfl⟩ -
      simp only [with2, Step2, nthDst, putO]
      (refine op_farith ?_; intro _ h; exact ⟨[], rfl, ⟨_, h, rfl⟩, rfl⟩)
    · simp only [with2, Step2, nthDst, putO]
      (refine op_move ?_; exact ⟨[], rfl, rfl, rfl⟩)
    · simp only [with2, Step2, nthDst, putO]
      (refine op_move ?_; exact ⟨[], rfl, rfl, rfl⟩)
    · rintro _ _ ⟨rfl, rfl⟩ -
      simp only [with2, Step2, nthDst, putO]
      (refine op_call ((sqrt _ _).mono ?_); rintro _ _ ⟨h, rfl⟩; exact ⟨[], rfl, h, rfl⟩)
    · rintro _ _ ⟨rfl, rfl⟩ - _ _ ⟨⟨r5, rfl, hr5⟩, rfl⟩ -
      simp only [with2, Step2, nthDst, putO]
      (refine op_farith ?_; intro _ h; exact ⟨[], rfl, ⟨_, _, rfl, hr5, h⟩, rfl⟩)
    · rintro _ _ ⟨⟨m, hm, rfl⟩, rfl⟩ - _ _ ⟨⟨r6, D6, rfl, hr6, hD6⟩, rfl⟩ -
      simp only [with2, Step2, nthDst, putO]
      (refine op_farith ?_; intro _ h; exact ⟨[], rfl, ⟨_, _, _, _, rfl, hm, hr6, hD6, h⟩, rfl⟩)
    · simp only [with2, Step2, nthDst, putO]
      ((first | refine op_load ?_ | refine op_load_agg ?_ | refine op_load ?_ (hm := Sub.mem (by assumption) (by (repeat (apply List.mem_cons_of_mem)); assumption)) | refine op_load_agg ?_ (hm := Sub.mem (by assumption) (by (repeat (apply List.mem_cons_of_mem)); assumption))); exact ⟨[], rfl, rfl, rfl⟩)
    · rintro _ _ ⟨⟨m7, r7, D7, s7, rfl, hm7, hr7, hD7, hs7⟩, rfl⟩ - _ _ ⟨rfl, rfl⟩ - _ _ ⟨⟨r5, rfl, hr5⟩, rfl⟩ -
      simp only [with2, Step2, nthDst, putO]
      (refine op_call ((scale _ _ _ _ _).mono ?_); rintro _ _ ⟨⟨a, b, c, rfl, h1, h2, h3⟩, rfl⟩; exact ⟨[], rfl, ⟨a, b, c, _, _, _, _, rfl, hm7, hr7, hD7, hs7, h1, h2, h3⟩, rfl⟩)
    rintro _ _ _ _ _ _ _ _ _ _ _ _ _ _ _ _ _ _ _ _ ⟨⟨⟨a, b, c, m9, r9, D9, s9, rfl, hm9, hr9, hD9, hs9, ha, hb, hc'⟩, rfl⟩, ⟨rfl, rfl⟩, ⟨⟨m7, r7, D7, s7, rfl, hm7, hr7, hD7, hs7⟩, rfl⟩, ⟨⟨r6, D6, rfl, hr6, hD6⟩, rfl⟩, ⟨⟨r5, rfl, hr5⟩, rfl⟩, ⟨rfl, rfl⟩, ⟨rfl, rfl⟩, ⟨⟨m, hm, rfl⟩, rfl⟩, ⟨rfl, rfl⟩, ⟨rfl, rfl⟩, _⟩
    simp only [List.nil_append, List.cons_append, List.append_nil, List.drop_succ_cons, List.drop_zero, nthDst, putO]
    repeat'
      first
        | refine tl_defer ?_ | refine tc_seq ?_ | refine tc_region ?_ | refine at_seq_normal ?_ | refine tl_nil ?_ | refine tl_cons ?_ | refine tl_cons_none ?_ | refine op_move ?_
        | refine op_assign ?_ | refine op_fieldAddr ?_ | refine op_load ?_ | refine op_load_agg ?_ | refine op_indexC ?_ | refine op_indexAddr1 ?_ | refine op_indexAddr ?_ | refine op_icmp ?_
        | refine op_fcmp ?_ | refine op_iarith ?_ | refine op_bcmp ?_ | refine op_unop_not ?_ | refine op_unop_neg_float ?_ | refine op_unop_neg_int ?_ | refine op_len_slice ?_ | refine op_pick_true ?_
        | refine op_pick_false ?_ | refine op_pick_true' ?_ | refine op_pick_false' ?_ | refine op_build ?_ | refine op_extract ?_ | refine op_makeInterface ?_ | refine op_typeAssert ?_ | refine op_ptr_nil ?_
        | refine op_nilCheck_ptr ?_ | refine op_nilCheck_meth ?_ | refine op_makeMeth ?_ | refine op_makeFunc ?_ | refine op_itof ?_ | refine op_itoi ?_ | refine op_ftoi ?_ | refine op_iquo ?_
        | refine op_irem ?_ | refine op_ibits ?_ | refine op_slice_isnil ?_ | refine op_slice_notnil ?_ | refine op_imax ?_ | refine op_imin ?_ | refine op_shl ?_ | refine op_shr ?_
        | (refine op_alloc ?_; intro _) | (refine op_box ?_; intro _) | (refine op_buildSlice ?_; intro _) | (refine op_farith ?_; intro _ _) | refine op_store0 ?_ | refine op_store1 ?_ | refine op_store2 ?_ | refine op_store3 ?_
        | refine op_store4 ?_ | refine op_store5 ?_ | refine tc_cond_t ?_ | refine tc_cond_f ?_ | refine tc_cond (fun _ => ?_) (fun _ => ?_) | refine tc_block ?_ | refine tc_skip ?_ | refine tc_ret ?_
        | refine tc_exit ?_ | refine tc_label ?_ | refine at_seq_ret ?_ | refine at_seq_exit ?_ | refine at_block_normal ?_ | refine at_block_ret ?_ | refine at_block_exit_self ?_ | refine at_block_exit_ne ?_
        | refine at_loop_ret ?_ | refine at_loop_exit ?_ | refine at_loop_goto ?_ | refine tl_guard_yes ?_ | refine tl_guard_no ?_ | refine tl_guard_yes' ?_ | refine tl_guard_no' ?_ | refine tl_guard_undef ?_
        | refine tl_guard_split (fun _ => ?_) (fun _ => ?_)
    refine ret_agg (hr := rfl) (hG := by (repeat (first | exact List.Sublist.refl _ | apply List.Sublist.cons_cons | apply List.Sublist.cons | refine List.Sublist.trans ?_ (List.sublist_append_right _ _)))) (hk := ⟨⟨a, b, c, rfl, ⟨fun h => absurd h h0, fun _ => ⟨_, _, _, _, _, hm9, hd, hr9, hD9, hs9, ha⟩⟩, ⟨fun h => absurd h h0, fun _ => ⟨_, _, _, _, _, hm9, hd, hr9, hD9, hs9, hb⟩⟩, ⟨fun h => absurd h h0, fun _ => ⟨_, _, _, _, _, hm9, hd, hr9, hD9, hs9, hc'⟩⟩⟩, rfl⟩)
theorem igrav (m1 m2 x y z : Nat) (nx ny nz : Int) (H : Heap) (fx : FI 1024 x nx) (fy : FI 1024 y ny) (fz : FI 1024 z nz) :
    Does Try.prog 54 [.float .f64 m1, .float .f64 m2, V3 x y z] H fun w H' => (∃ a b c, w = V3 a b c ∧ GP m1 m2 x a (nx * nx + ny * ny + nz * nz) ∧ GP m1 m2 y b (nx * nx + ny * ny + nz * nz) ∧ GP m1 m2 z c (nx * nx + ny * ny + nz * nz)) ∧ H' = H := by
  refine fn_enter 13 Try.func54 fun W => ?_
  repeat' first
    | (first | refine tl_defer ?_ | refine tc_seq ?_ | refine tc_region ?_ | refine at_seq_normal ?_ | refine tl_nil ?_ | refine tl_cons ?_ | refine tl_cons_none ?_ | refine op_move ?_ | refine op_assign ?_ | refine op_fieldAddr ?_ | refine op_load ?_ | refine op_load_agg ?_ | refine op_indexC ?_ | refine op_indexAddr1 ?_ | refine op_indexAddr ?_ | refine op_icmp ?_ | refine op_fcmp ?_ | refine op_iarith ?_ | refine op_bcmp ?_ | refine op_unop_not ?_ | refine op_unop_neg_float ?_ | refine op_unop_neg_int ?_ | refine op_len_slice ?_ | refine op_pick_true ?_ | refine op_pick_false ?_ | refine op_pick_true' ?_ | refine op_pick_false' ?_ | refine op_build ?_ | refine op_extract ?_ | refine op_makeInterface ?_ | refine op_typeAssert ?_ | refine op_ptr_nil ?_ | refine op_nilCheck_ptr ?_ | refine op_nilCheck_meth ?_ | refine op_makeMeth ?_ | refine op_makeFunc ?_ | refine op_itof ?_ | refine op_itoi ?_ | refine op_ftoi ?_ | refine op_iquo ?_ | refine op_irem ?_ | refine op_ibits ?_ | refine op_slice_isnil ?_ | refine op_slice_notnil ?_ | refine op_imax ?_ | refine op_imin ?_ | refine op_shl ?_ | refine op_shr ?_ | (refine op_alloc ?_; intro _) | (refine op_box ?_; intro _) | (refine op_buildSlice ?_; intro _) | (refine op_farith ?_; intro _ _) | refine op_store0 ?_ | refine op_store1 ?_ | refine op_store2 ?_ | refine op_store3 ?_ | refine op_store4 ?_ | refine op_store5 ?_ | refine tc_cond_t ?_ | refine tc_cond_f ?_ | refine tc_cond (fun _ => ?_) (fun _ => ?_) | refine tc_block ?_ | refine tc_skip ?_ | refine tc_ret ?_ | refine tc_exit ?_ | refine tc_label ?_ | refine at_seq_ret ?_ | refine at_seq_exit ?_ | refine at_block_normal ?_ | refine at_block_ret ?_ | refine at_block_exit_self ?_ | refine at_block_exit_ne ?_ | refine at_loop_ret ?_ | refine at_loop_exit ?_ | refine at_loop_goto ?_ | refine tl_guard_yes ?_ | refine tl_guard_no ?_ | refine tl_guard_yes' ?_ | refine tl_guard_no' ?_ | refine tl_guard_undef ?_ | refine tl_guard_split (fun _ => ?_) (fun _ => ?_))
    | (refine op_call ((vec _ _ _ _).mono ?_); rintro _ _ ⟨rfl, rfl⟩)
    | (refine op_call ((grav _ _ _ _ _ _ _ _ _ fx fy fz).mono ?_); rintro _ _ ⟨⟨a, b, c, rfl, ha, hb, hc⟩, rfl⟩)
    | (refine op_call ((plainP3 _ _ _ _).mono ?_); rintro _ _ ⟨rfl, rfl⟩)
  refine ret_agg (hr := rfl) (hG := by (repeat (first | exact List.Sublist.refl _ | apply List.Sublist.cons_cons | apply List.Sublist.cons | refine List.Sublist.trans ?_ (List.sublist_append_right _ _)))) (hk := ⟨⟨a, b, c, rfl, ha, hb, hc⟩, rfl⟩)
theorem iss_one {G : Heap} {k : Nat} {T : TypeId} {fz : Nat × Nat} {v : Value} {ns : List Int} (hm : (k, Obj.cells ⟨[v]⟩ T fz) ∈ G) (hv : IS G v ns) : ISS G (.slice (some ⟨k, 0, none⟩) 1 1) [ns] :=
  ⟨[v], ⟨some ⟨k, 0, none⟩, 1, rfl, Nat.le_refl _, fun _ => ⟨k, 0, _, T, fz, rfl, hm, rfl⟩⟩, hv, trivial⟩
theorem fv_1024 : Fv 4652218415073722368 (((1024 : Nat) : Rat)) := ⟨false, 4503599627370496, -42, rfl, by unfold sgn p2; simp; grind⟩
theorem fi_of {x : Nat} (h : okNum 4652218415073722368 x = true) : ∃ n, FI 1024 x n := by
  simp only [okNum, Bool.and_eq_true] at h
  obtain ⟨n, h1, h2, h3⟩ := whole_of (M := 1024) fv_1024 fv_1024.neg (by decide) h.1.1 h.1.2 h.2
  exact ⟨n, h1, h2, h3⟩
theorem sqP (nx ny nz : Int) : sqN [nx, ny, nz] [0, 0, 0] = nx * nx + ny * ny + nz * nz := by simp [sqN]; try omega
theorem sq0 (n : Int) : 0 ≤ n * n := by
  rcases Int.le_total 0 n with h | h
  · exact Int.mul_nonneg h h
  · have := Int.mul_nonneg (show 0 ≤ -n by omega) (show 0 ≤ -n by omega)
    rwa [Int.neg_mul_neg] at this
theorem fi_rat {B x : Nat} {n : Int} (h : FI B x n) (h1 : 1 ≤ n) : (1 : Rat) ≤ (n : Rat) ∧ (n : Rat) ≤ (B : Rat) := by
  constructor
  · exact_mod_cast Rat.intCast_le_intCast.2 h1
  · rw [← Rat.intCast_natCast]; exact Rat.intCast_le_intCast.2 h.hi
/-- The third power of the length. -/
theorem cube {d2 r D : Nat} {S : Int} (h : FI 3145728 d2 S) (hS : 1 ≤ S) (hr : SqrtR d2 r) (hD : FAr .mul d2 r D) : ∃ d c, Fv D d ∧ 0 < c ∧ Ru 4 (c * c) (S : Rat) ∧ Ru 1 d ((S : Rat) * c) ∧ p2 (-3) ≤ d ∧ d ≤ p2 40 := by
  obtain ⟨s1, s2⟩ := fi_rat h hS
  have s3 : ((3145728 : Nat) : Rat) ≤ p2 22 := by rw [p2_toNat (e := 22) (by decide)]; exact_mod_cast (by decide : 3145728 ≤ 2 ^ 22)
  have s4 : p2 (-1000) ≤ 1 := by have := p2_le (show (-1000 : Int) ≤ 0 by decide); have e : p2 0 = 1 := by simp [p2]
                                 rw [e] at this; exact this
  obtain ⟨c, hc, hc0, hcc⟩ := sqrt_u hr h.fv (by grind) (Rat.le_trans s4 s1) (Rat.le_trans (Rat.le_trans s2 s3) (p2_le (by decide)))
  obtain ⟨z1, z2, z3⟩ := (hcc.sign).1 (by grind)
  have hf := h.fv
  generalize (S : Rat) = q at *
  have e1 : p2 (-1) + p2 (-1) = 1 := by have := half1; grind
  have e2 : p2 (-1) * p2 (-1) = p2 (-2) := p2_mul (by decide)
  have e0 := p2_pos (-1)
  have lc : p2 (-1) ≤ c := by
    rcases (Rat.le_total (a := p2 (-1)) (b := c)) with h | h
    · exact h
    · have a1 := mul_le h (Rat.le_of_lt hc0)
      have a2 := mul_le_left h (Rat.le_of_lt e0)
      have a3 := mul_le_left s1 (Rat.le_of_lt e0)
      have e3 : p2 (-1) = p2 (-2) + p2 (-2) := p2_half (by decide)
      have := p2_pos (-2)
      grind
  have hc12 : c ≤ p2 12 := by
    rcases (Rat.le_total (a := c) (b := p2 12)) with h | h
    · exact h
    · have a1 := mul_le h (Rat.le_of_lt hc0)
      have a2 := mul_le_left h (Rat.le_of_lt (p2_pos 12))
      rw [p2_mul (c := 24) (by decide)] at a2
      have e3 : p2 24 = p2 23 + p2 23 := p2_half (by decide)
      have e4 : p2 23 = p2 22 + p2 22 := p2_half (by decide)
      have := p2_pos 22
      grind
  have q0 : 0 < q := by grind
  have b1 : p2 (-1) ≤ q * c := by
    have a1 := mul_le s1 (Rat.le_of_lt hc0)
    grind
  have b2 : q * c ≤ p2 34 := by
    have a1 := mul_le (Rat.le_trans s2 s3) (Rat.le_of_lt hc0)
    have a2 := mul_le_left hc12 (Rat.le_of_lt (p2_pos 22))
    rw [p2_mul (c := 34) (by decide)] at a2
    grind
  have b0 : 0 < q * c := by grind
  have ba : rabs (q * c) = q * c := rabs_of_nonneg (Rat.le_of_lt b0)
  obtain ⟨d, hd, rd⟩ := far_mul_u hD hf hc (.inr (by rw [ba]; exact Rat.le_trans (p2_le (by decide)) b1)) (by rw [ba]; exact Rat.le_trans b2 (p2_le (by decide)))
  obtain ⟨w1, w2, w3⟩ := (rd.sign).1 b0
  refine ⟨d, c, hd, hc0, hcc, rd, ?_, ?_⟩
  · have a1 := mul_le_left b1 (Rat.le_of_lt e0)
    have := p2_le (show (-3 : Int) ≤ -2 by decide)
    grind
  · have e3 : p2 35 = p2 34 + p2 34 := p2_half (by decide)
    have := p2_le (show (35 : Int) ≤ 40 by decide)
    grind
theorem masses {m1 m2 m : Nat} (h1 : Mass m1) (h2 : Mass m2) (h : FAr .mul m1 m2 m) : ∃ q, Fv m q ∧ 0 ≤ q ∧ (q = 0 ∨ p2 (-41) ≤ q) ∧ q ≤ p2 21 := by
  obtain ⟨a, ha, ca⟩ := h1
  obtain ⟨b, hb, cb⟩ := h2
  have z : a * b = 0 ∨ (p2 (-40) ≤ a * b ∧ a * b ≤ p2 20) := by
    rcases ca with rfl | ⟨a1, a2⟩
    · left; grind
    rcases cb with rfl | ⟨b1, b2⟩
    · left; grind
    right
    have k : (1000 : Rat) ≤ p2 10 := by rw [p2_toNat (e := 10) (by decide)]; exact_mod_cast (by decide : 1000 ≤ 2 ^ 10)
    have p := p2_pos (-20)
    have p' := p2_pos 10
    constructor
    · have x1 := mul_le a1 (show 0 ≤ b by grind)
      have x2 := mul_le_left b1 (Rat.le_of_lt p)
      rw [p2_mul (c := -40) (by decide)] at x2
      grind
    · have x1 := mul_le (Rat.le_trans a2 k) (show 0 ≤ b by grind)
      have x2 := mul_le_left (Rat.le_trans b2 k) (Rat.le_of_lt p')
      rw [p2_mul (c := 20) (by decide)] at x2
      grind
  have p40 := p2_pos (-40)
  have nn : 0 ≤ a * b := by grind
  have na := rabs_of_nonneg nn
  have p20 := p2_pos 20
  obtain ⟨q, hq, rq⟩ := far_mul_u h ha hb (z.imp id fun h => by rw [na]; exact Rat.le_trans (p2_le (by decide)) h.1) (by rw [na]; exact Rat.le_trans (show a * b ≤ p2 20 by grind) (p2_le (by decide)))
  refine ⟨q, hq, ?_⟩
  rcases z with z | ⟨z1, z2⟩
  · rw [z] at rq
    have := rq.zero
    subst this
    exact ⟨Rat.le_refl, .inl rfl, Rat.le_of_lt (p2_pos _)⟩
  · obtain ⟨w1, w2, w3⟩ := (rq.sign).1 (by grind)
    refine ⟨Rat.le_of_lt w1, .inr ?_, ?_⟩
    · have x2 := mul_le_left z1 (Rat.le_of_lt (p2_pos (-1)))
      rw [p2_mul (c := -41) (by decide)] at x2
      grind
    · have : p2 21 = p2 20 + p2 20 := p2_half (by decide)
      grind
theorem near0 {m1 m2 x g r y : Nat} (hg : GP m1 m2 x g 0) (e1 : FAr .sub g 0 r) (e2 : FAr .mul (0 % 9223372036854775808) 4472074429978902528 y) : fcmp .leq (r % 9223372036854775808) y = true := by
  have := hg.1 rfl
  subst this
  have p := p2_pos 100
  refine grav_near zero zero (Ru.refl _ |>.le (by decide)) (.inl rfl) (by rw [rabs_zero]; exact Rat.le_of_lt p) (by rw [rabs_zero]; exact Rat.le_of_lt p) e1 e2
theorem near {m1 m2 x g r y d2 r' D' m t w : Nat} {N S : Int} (h1 : Mass m1) (h2 : Mass m2) (fx : FI 1024 x N) (hg : GP m1 m2 x g S) (hS : 1 ≤ S)
    (hd : FI 3145728 d2 S) (hm : FAr .mul m1 m2 m) (ht : FAr .mul m x t) (hr : SqrtR d2 r') (hD : FAr .mul d2 r' D') (hw : FAr .quo t D' w)
    (e1 : FAr .sub g w r) (e2 : FAr .mul (w % 9223372036854775808) 4472074429978902528 y) : fcmp .leq (r % 9223372036854775808) y = true := by
  obtain ⟨m0, d20, r0, D0, s0, a1, a2, a3, a4, a5, a6⟩ := hg.2 (by omega)
  obtain ⟨qa, ha, -⟩ := id h1
  obtain ⟨qb, hb, -⟩ := id h2
  have := far_uniq ha hb (.inr (.inr rfl)) hm a1
  subst this
  obtain ⟨q, hq, q0, q1, q2⟩ := masses h1 h2 hm
  obtain ⟨d, c, fd, c0, hcc, rd, l1, l2⟩ := cube a2 hS a3 a4
  obtain ⟨d', c', fd', c0', hcc', rd', l1', l2'⟩ := cube hd hS hr hD
  have r1 := Ru.root c0 c0' (hcc.trans hcc'.symm)
  have r2 : Ru 13 ((S : Rat) * c) ((S : Rat) * c') := by have := Rl.scale r1 (S : Rat); rw [Rat.mul_comm c, Rat.mul_comm c'] at this; exact this
  have r3 := (rd.trans r2).trans rd'.symm
  obtain ⟨u, v, b1, b2, b3, b4, b5, b6⟩ := grav_num (n := 0) hq fx fd fd' q0 q1 q2 l1 l2 l1' l2' (r3.le (by decide)) a5 a6 ht hw
  exact grav_near b1 b2 b3 b4 b5 b6 e1 e2
end Go.Proofs.Ytgkgfjliilemnaa.fnGravity3
