/-
  Whole numbers of any size: sign, the other sign, sums, products. No conditions.
-/
import Derived.Test.YtomhkbijijdghaaLmb4
set_option linter.unusedVariables false
set_option linter.unusedSimpArgs false
namespace Go.Proofs.Ytomhkbijijdghaa.Lmb
open Go.Lg

def nval (neg : Bool) (xs : List Nat) : Int := if neg then -(lv xs : Int) else (lv xs : Int)
/-- The value is this whole number, of at most L limbs. -/
def IsW (n : Int) (L : Nat) (u : Value) (G : Heap) : Prop := ∃ neg xs a c, u = .agg ⟨[.bool neg, .slice a xs.length c]⟩ ∧ US G (.slice a xs.length c) xs ∧ Lm xs ∧ Nrm xs ∧ n = nval neg xs ∧ (neg = true → lv xs ≠ 0) ∧ xs.length ≤ L
theorem IsW.mono {n L u G G'} (h : IsW n L u G) (hG : ∀ e ∈ G, e ∈ G') : IsW n L u G' := by
  obtain ⟨neg, xs, a, c, h1, h2, h3⟩ := h
  exact ⟨neg, xs, a, c, h1, h2.mono hG, h3⟩
/-- The value is a list of limbs of this number. -/
def IsL (n : Nat) (L : Nat) (u : Value) (G : Heap) : Prop := ∃ zs a c, u = .slice a zs.length c ∧ US G u zs ∧ Lm zs ∧ Nrm zs ∧ lv zs = n ∧ zs.length ≤ L
theorem IsL.mono {n L u G G'} (h : IsL n L u G) (hG : ∀ e ∈ G, e ∈ G') : IsL n L u G' := by
  obtain ⟨zs, a, c, h1, h2, h3⟩ := h
  exact ⟨zs, a, c, h1, h2.mono hG, h3⟩
def sgI (n : Int) : Int := if n = 0 then 0 else if n < 0 then -1 else 1

theorem wSign (u : Value) (n : Int) (L : Nat) (H : Heap) (hu : IsW n L u H) : Does Try.prog 120 [u] H fun w H' => w = .int .i64 (sgI n) ∧ H' = H := by
  obtain ⟨neg, xs, a, c, rfl, h1, h2, h3, rfl, h5, h6⟩ := hu
  have hz := nrm_zero h3
  refine fn_enter 11 Try.func120 fun W => ?_
  by_cases hl : xs.length = 0
  · have hc : icmp .eql (xs.length : Int) 0 = true := by simp only [icmp, beq_iff_eq]; omega
    have hl0 : lv xs = 0 := hz.2 (List.length_eq_zero_iff.1 hl)
    have hv : sgI (nval neg xs) = 0 := by unfold sgI nval; rw [hl0]; cases neg <;> rfl
    repeat'
      first
        | refine tl_defer ?_ | refine tc_seq ?_ | refine tc_region ?_ | refine at_seq_normal ?_ | refine tl_nil ?_ | refine tl_cons ?_ | refine tl_cons_none ?_ | refine op_move ?_
        | refine op_assign ?_ | refine op_fieldAddr ?_ | refine op_load ?_ | refine op_load_agg ?_ | refine op_indexC ?_ | refine op_indexAddr1 ?_ | refine op_indexAddr ?_ | refine op_icmp ?_
        | refine op_fcmp ?_ | refine op_iarith ?_ | refine op_bcmp ?_ | refine op_unop_not ?_ | refine op_unop_neg_float ?_ | refine op_unop_neg_int ?_ | refine op_len_slice ?_ | refine op_pick_true ?_
        | refine op_pick_false ?_ | refine op_pick_true' ?_ | refine op_pick_false' ?_ | refine op_build ?_ | refine op_extract ?_ | refine op_makeInterface ?_ | refine op_typeAssert ?_ | refine op_ptr_nil ?_
        | refine op_nilCheck_ptr ?_ | refine op_nilCheck_meth ?_ | refine op_makeMeth ?_ | refine op_makeFunc ?_ | refine op_itof ?_ | refine op_itoi ?_ | refine op_ftoi ?_ | refine op_iquo ?_
        | refine op_irem ?_ | refine op_ibits ?_ | refine op_slice_isnil ?_ | refine op_slice_notnil ?_ | refine op_imax ?_ | refine op_imin ?_ | refine op_shl ?_ | refine op_shr ?_
        | (refine op_alloc ?_; intro _) | (refine op_box ?_; intro _) | (refine op_buildSlice ?_; intro _) | (refine op_farith ?_; intro _ _) | refine op_store0 ?_ | refine op_store1 ?_ | refine op_store2 ?_ | refine op_store3 ?_
        | refine op_store4 ?_ | refine op_store5 ?_ | refine tc_cond_t ?_ | refine tc_cond_f ?_ | refine tc_cond (fun _ => ?_) (fun _ => ?_) | refine tc_block ?_ | refine tc_skip ?_ | refine tc_ret ?_
        | refine tc_exit ?_ | refine tc_label ?_ | refine at_seq_ret ?_ | refine at_seq_exit ?_ | refine at_block_normal ?_ | refine at_block_ret ?_ | refine at_block_exit_self ?_ | refine at_block_exit_ne ?_
        | refine at_loop_ret ?_ | refine at_loop_exit ?_ | refine at_loop_goto ?_ | refine tl_guard_yes ?_ | refine tl_guard_no ?_ | refine tl_guard_yes' ?_ | refine tl_guard_no' ?_ | refine tl_guard_undef ?_
        | refine tl_guard_split (fun _ => ?_) (fun _ => ?_)
    exact ret_tmp (hG := List.sublist_cons_self _ _) (hk := ⟨by rw [hv], rfl⟩)
  · have hc : icmp .eql (xs.length : Int) 0 = false := by simp only [icmp, beq_eq_false_iff_ne]; omega
    have hl0 : lv xs ≠ 0 := fun e => hl (by rw [hz.1 e]; rfl)
    cases neg with
    | true =>
      have hv : sgI (nval true xs) = -1 := by
        have e : nval true xs = -(lv xs : Int) := rfl
        rw [sgI, e, if_neg (by omega), if_pos (by omega)]
      repeat'
        first
          | refine tl_defer ?_ | refine tc_seq ?_ | refine tc_region ?_ | refine at_seq_normal ?_ | refine tl_nil ?_ | refine tl_cons ?_ | refine tl_cons_none ?_ | refine op_move ?_
          | refine op_assign ?_ | refine op_fieldAddr ?_ | refine op_load ?_ | refine op_load_agg ?_ | refine op_indexC ?_ | refine op_indexAddr1 ?_ | refine op_indexAddr ?_ | refine op_icmp ?_
          | refine op_fcmp ?_ | refine op_iarith ?_ | refine op_bcmp ?_ | refine op_unop_not ?_ | refine op_unop_neg_float ?_ | refine op_unop_neg_int ?_ | refine op_len_slice ?_ | refine op_pick_true ?_
          | refine op_pick_false ?_ | refine op_pick_true' ?_ | refine op_pick_false' ?_ | refine op_build ?_ | refine op_extract ?_ | refine op_makeInterface ?_ | refine op_typeAssert ?_ | refine op_ptr_nil ?_
          | refine op_nilCheck_ptr ?_ | refine op_nilCheck_meth ?_ | refine op_makeMeth ?_ | refine op_makeFunc ?_ | refine op_itof ?_ | refine op_itoi ?_ | refine op_ftoi ?_ | refine op_iquo ?_
          | refine op_irem ?_ | refine op_ibits ?_ | refine op_slice_isnil ?_ | refine op_slice_notnil ?_ | refine op_imax ?_ | refine op_imin ?_ | refine op_shl ?_ | refine op_shr ?_
          | (refine op_alloc ?_; intro _) | (refine op_box ?_; intro _) | (refine op_buildSlice ?_; intro _) | (refine op_farith ?_; intro _ _) | refine op_store0 ?_ | refine op_store1 ?_ | refine op_store2 ?_ | refine op_store3 ?_
          | refine op_store4 ?_ | refine op_store5 ?_ | refine tc_cond_t ?_ | refine tc_cond_f ?_ | refine tc_cond (fun _ => ?_) (fun _ => ?_) | refine tc_block ?_ | refine tc_skip ?_ | refine tc_ret ?_
          | refine tc_exit ?_ | refine tc_label ?_ | refine at_seq_ret ?_ | refine at_seq_exit ?_ | refine at_block_normal ?_ | refine at_block_ret ?_ | refine at_block_exit_self ?_ | refine at_block_exit_ne ?_
          | refine at_loop_ret ?_ | refine at_loop_exit ?_ | refine at_loop_goto ?_ | refine tl_guard_yes ?_ | refine tl_guard_no ?_ | refine tl_guard_yes' ?_ | refine tl_guard_no' ?_ | refine tl_guard_undef ?_
          | refine tl_guard_split (fun _ => ?_) (fun _ => ?_)
      exact ret_tmp (hG := List.sublist_cons_self _ _) (hk := ⟨by rw [hv], rfl⟩)
    | false =>
      have hv : sgI (nval false xs) = 1 := by
        have e : nval false xs = (lv xs : Int) := rfl
        rw [sgI, e, if_neg (by omega), if_neg (by omega)]
      repeat'
        first
          | refine tl_defer ?_ | refine tc_seq ?_ | refine tc_region ?_ | refine at_seq_normal ?_ | refine tl_nil ?_ | refine tl_cons ?_ | refine tl_cons_none ?_ | refine op_move ?_
          | refine op_assign ?_ | refine op_fieldAddr ?_ | refine op_load ?_ | refine op_load_agg ?_ | refine op_indexC ?_ | refine op_indexAddr1 ?_ | refine op_indexAddr ?_ | refine op_icmp ?_
          | refine op_fcmp ?_ | refine op_iarith ?_ | refine op_bcmp ?_ | refine op_unop_not ?_ | refine op_unop_neg_float ?_ | refine op_unop_neg_int ?_ | refine op_len_slice ?_ | refine op_pick_true ?_
          | refine op_pick_false ?_ | refine op_pick_true' ?_ | refine op_pick_false' ?_ | refine op_build ?_ | refine op_extract ?_ | refine op_makeInterface ?_ | refine op_typeAssert ?_ | refine op_ptr_nil ?_
          | refine op_nilCheck_ptr ?_ | refine op_nilCheck_meth ?_ | refine op_makeMeth ?_ | refine op_makeFunc ?_ | refine op_itof ?_ | refine op_itoi ?_ | refine op_ftoi ?_ | refine op_iquo ?_
          | refine op_irem ?_ | refine op_ibits ?_ | refine op_slice_isnil ?_ | refine op_slice_notnil ?_ | refine op_imax ?_ | refine op_imin ?_ | refine op_shl ?_ | refine op_shr ?_
          | (refine op_alloc ?_; intro _) | (refine op_box ?_; intro _) | (refine op_buildSlice ?_; intro _) | (refine op_farith ?_; intro _ _) | refine op_store0 ?_ | refine op_store1 ?_ | refine op_store2 ?_ | refine op_store3 ?_
          | refine op_store4 ?_ | refine op_store5 ?_ | refine tc_cond_t ?_ | refine tc_cond_f ?_ | refine tc_cond (fun _ => ?_) (fun _ => ?_) | refine tc_block ?_ | refine tc_skip ?_ | refine tc_ret ?_
          | refine tc_exit ?_ | refine tc_label ?_ | refine at_seq_ret ?_ | refine at_seq_exit ?_ | refine at_block_normal ?_ | refine at_block_ret ?_ | refine at_block_exit_self ?_ | refine at_block_exit_ne ?_
          | refine at_loop_ret ?_ | refine at_loop_exit ?_ | refine at_loop_goto ?_ | refine tl_guard_yes ?_ | refine tl_guard_no ?_ | refine tl_guard_yes' ?_ | refine tl_guard_no' ?_ | refine tl_guard_undef ?_
          | refine tl_guard_split (fun _ => ?_) (fun _ => ?_)
      exact ret_tmp (hG := List.sublist_cons_self _ _) (hk := ⟨by rw [hv], rfl⟩)

theorem wMinus (u : Value) (n : Int) (L : Nat) (H : Heap) (hu : IsW n L u H) : Does Try.prog 128 [u] H fun w H' => ∃ ex, H' = ex ++ H ∧ IsW (-n) L w H := by
  obtain ⟨neg, xs, a, c, rfl, h1, h2, h3, rfl, h5, h6⟩ := hu
  have hz := nrm_zero h3
  refine fn_enter 15 Try.func128 fun W => ?_
  by_cases hl : xs.length = 0
  · have hc : icmp .gtr (xs.length : Int) 0 = false := by simp only [icmp, decide_eq_false_iff_not]; omega
    have hl0 : lv xs = 0 := hz.2 (List.length_eq_zero_iff.1 hl)
    obtain rfl : neg = false := by cases neg <;> first | rfl | exact absurd hl0 (h5 rfl)
    have hv : -(nval false xs) = nval false xs := by unfold nval; rw [hl0]; rfl
    repeat'
      first
        | refine tl_defer ?_ | refine tc_seq ?_ | refine tc_region ?_ | refine at_seq_normal ?_ | refine tl_nil ?_ | refine tl_cons ?_ | refine tl_cons_none ?_ | refine op_move ?_
        | refine op_assign ?_ | refine op_fieldAddr ?_ | refine op_load ?_ | refine op_load_agg ?_ | refine op_indexC ?_ | refine op_indexAddr1 ?_ | refine op_indexAddr ?_ | refine op_icmp ?_
        | refine op_fcmp ?_ | refine op_iarith ?_ | refine op_bcmp ?_ | refine op_unop_not ?_ | refine op_unop_neg_float ?_ | refine op_unop_neg_int ?_ | refine op_len_slice ?_ | refine op_pick_true ?_
        | refine op_pick_false ?_ | refine op_pick_true' ?_ | refine op_pick_false' ?_ | refine op_build ?_ | refine op_extract ?_ | refine op_makeInterface ?_ | refine op_typeAssert ?_ | refine op_ptr_nil ?_
        | refine op_nilCheck_ptr ?_ | refine op_nilCheck_meth ?_ | refine op_makeMeth ?_ | refine op_makeFunc ?_ | refine op_itof ?_ | refine op_itoi ?_ | refine op_ftoi ?_ | refine op_iquo ?_
        | refine op_irem ?_ | refine op_ibits ?_ | refine op_slice_isnil ?_ | refine op_slice_notnil ?_ | refine op_imax ?_ | refine op_imin ?_ | refine op_shl ?_ | refine op_shr ?_
        | (refine op_alloc ?_; intro _) | (refine op_box ?_; intro _) | (refine op_buildSlice ?_; intro _) | (refine op_farith ?_; intro _ _) | refine op_store0 ?_ | refine op_store1 ?_ | refine op_store2 ?_ | refine op_store3 ?_
        | refine op_store4 ?_ | refine op_store5 ?_ | refine tc_cond_t ?_ | refine tc_cond_f ?_ | refine tc_cond (fun _ => ?_) (fun _ => ?_) | refine tc_block ?_ | refine tc_skip ?_ | refine tc_ret ?_
        | refine tc_exit ?_ | refine tc_label ?_ | refine at_seq_ret ?_ | refine at_seq_exit ?_ | refine at_block_normal ?_ | refine at_block_ret ?_ | refine at_block_exit_self ?_ | refine at_block_exit_ne ?_
        | refine at_loop_ret ?_ | refine at_loop_exit ?_ | refine at_loop_goto ?_ | refine tl_guard_yes ?_ | refine tl_guard_no ?_ | refine tl_guard_yes' ?_ | refine tl_guard_no' ?_ | refine tl_guard_undef ?_
        | refine tl_guard_split (fun _ => ?_) (fun _ => ?_)
    refine ret_one (.agg (T := 66) (off := 0) (m := [.bool (icmp .gtr (xs.length : Int) 0), .slice a xs.length c]) rfl rfl mem0 rfl rfl) (hG := List.Sublist.refl _) (hk := ⟨[_, _], rfl, _, xs, a, c, rfl, h1, h2, h3, (by rw [hc]; exact hv), (fun h => by rw [hc] at h; cases h), h6⟩)
  · have hc : icmp .gtr (xs.length : Int) 0 = true := by simp only [icmp, decide_eq_true_eq]; omega
    have hl0 : lv xs ≠ 0 := fun e => hl (by rw [hz.1 e]; rfl)
    cases neg with
    | true =>
      repeat'
        first
          | refine tl_defer ?_ | refine tc_seq ?_ | refine tc_region ?_ | refine at_seq_normal ?_ | refine tl_nil ?_ | refine tl_cons ?_ | refine tl_cons_none ?_ | refine op_move ?_
          | refine op_assign ?_ | refine op_fieldAddr ?_ | refine op_load ?_ | refine op_load_agg ?_ | refine op_indexC ?_ | refine op_indexAddr1 ?_ | refine op_indexAddr ?_ | refine op_icmp ?_
          | refine op_fcmp ?_ | refine op_iarith ?_ | refine op_bcmp ?_ | refine op_unop_not ?_ | refine op_unop_neg_float ?_ | refine op_unop_neg_int ?_ | refine op_len_slice ?_ | refine op_pick_true ?_
          | refine op_pick_false ?_ | refine op_pick_true' ?_ | refine op_pick_false' ?_ | refine op_build ?_ | refine op_extract ?_ | refine op_makeInterface ?_ | refine op_typeAssert ?_ | refine op_ptr_nil ?_
          | refine op_nilCheck_ptr ?_ | refine op_nilCheck_meth ?_ | refine op_makeMeth ?_ | refine op_makeFunc ?_ | refine op_itof ?_ | refine op_itoi ?_ | refine op_ftoi ?_ | refine op_iquo ?_
          | refine op_irem ?_ | refine op_ibits ?_ | refine op_slice_isnil ?_ | refine op_slice_notnil ?_ | refine op_imax ?_ | refine op_imin ?_ | refine op_shl ?_ | refine op_shr ?_
          | (refine op_alloc ?_; intro _) | (refine op_box ?_; intro _) | (refine op_buildSlice ?_; intro _) | (refine op_farith ?_; intro _ _) | refine op_store0 ?_ | refine op_store1 ?_ | refine op_store2 ?_ | refine op_store3 ?_
          | refine op_store4 ?_ | refine op_store5 ?_ | refine tc_cond_t ?_ | refine tc_cond_f ?_ | refine tc_cond (fun _ => ?_) (fun _ => ?_) | refine tc_block ?_ | refine tc_skip ?_ | refine tc_ret ?_
          | refine tc_exit ?_ | refine tc_label ?_ | refine at_seq_ret ?_ | refine at_seq_exit ?_ | refine at_block_normal ?_ | refine at_block_ret ?_ | refine at_block_exit_self ?_ | refine at_block_exit_ne ?_
          | refine at_loop_ret ?_ | refine at_loop_exit ?_ | refine at_loop_goto ?_ | refine tl_guard_yes ?_ | refine tl_guard_no ?_ | refine tl_guard_yes' ?_ | refine tl_guard_no' ?_ | refine tl_guard_undef ?_
          | refine tl_guard_split (fun _ => ?_) (fun _ => ?_)
      refine ret_one (.agg (T := 66) (off := 0) (m := [.bool false, .slice a xs.length c]) rfl rfl mem0 rfl rfl) (hG := List.Sublist.refl _) (hk := ⟨[_, _], rfl, false, xs, a, c, rfl, h1, h2, h3, by simp [nval], (fun h => by cases h), h6⟩)
    | false =>
      repeat'
        first
          | refine tl_defer ?_ | refine tc_seq ?_ | refine tc_region ?_ | refine at_seq_normal ?_ | refine tl_nil ?_ | refine tl_cons ?_ | refine tl_cons_none ?_ | refine op_move ?_
          | refine op_assign ?_ | refine op_fieldAddr ?_ | refine op_load ?_ | refine op_load_agg ?_ | refine op_indexC ?_ | refine op_indexAddr1 ?_ | refine op_indexAddr ?_ | refine op_icmp ?_
          | refine op_fcmp ?_ | refine op_iarith ?_ | refine op_bcmp ?_ | refine op_unop_not ?_ | refine op_unop_neg_float ?_ | refine op_unop_neg_int ?_ | refine op_len_slice ?_ | refine op_pick_true ?_
          | refine op_pick_false ?_ | refine op_pick_true' ?_ | refine op_pick_false' ?_ | refine op_build ?_ | refine op_extract ?_ | refine op_makeInterface ?_ | refine op_typeAssert ?_ | refine op_ptr_nil ?_
          | refine op_nilCheck_ptr ?_ | refine op_nilCheck_meth ?_ | refine op_makeMeth ?_ | refine op_makeFunc ?_ | refine op_itof ?_ | refine op_itoi ?_ | refine op_ftoi ?_ | refine op_iquo ?_
          | refine op_irem ?_ | refine op_ibits ?_ | refine op_slice_isnil ?_ | refine op_slice_notnil ?_ | refine op_imax ?_ | refine op_imin ?_ | refine op_shl ?_ | refine op_shr ?_
          | (refine op_alloc ?_; intro _) | (refine op_box ?_; intro _) | (refine op_buildSlice ?_; intro _) | (refine op_farith ?_; intro _ _) | refine op_store0 ?_ | refine op_store1 ?_ | refine op_store2 ?_ | refine op_store3 ?_
          | refine op_store4 ?_ | refine op_store5 ?_ | refine tc_cond_t ?_ | refine tc_cond_f ?_ | refine tc_cond (fun _ => ?_) (fun _ => ?_) | refine tc_block ?_ | refine tc_skip ?_ | refine tc_ret ?_
          | refine tc_exit ?_ | refine tc_label ?_ | refine at_seq_ret ?_ | refine at_seq_exit ?_ | refine at_block_normal ?_ | refine at_block_ret ?_ | refine at_block_exit_self ?_ | refine at_block_exit_ne ?_
          | refine at_loop_ret ?_ | refine at_loop_exit ?_ | refine at_loop_goto ?_ | refine tl_guard_yes ?_ | refine tl_guard_no ?_ | refine tl_guard_yes' ?_ | refine tl_guard_no' ?_ | refine tl_guard_undef ?_
          | refine tl_guard_split (fun _ => ?_) (fun _ => ?_)
      refine ret_one (.agg (T := 66) (off := 0) (m := [.bool (icmp .gtr (xs.length : Int) 0), .slice a xs.length c]) rfl rfl mem0 rfl rfl) (hG := List.Sublist.refl _) (hk := ⟨[_, _], rfl, _, xs, a, c, rfl, h1, h2, h3, (by rw [hc]; simp [nval]), (fun h => hl0), h6⟩)

theorem wMul (u v : Value) (n m : Int) (L M : Nat) (H : Heap) (hu : IsW n L u H) (hv : IsW m M v H) (hL : L < 2 ^ 30) (hM : M < 2 ^ 30) : Does Try.prog 100 [u, v] H fun w H' => ∃ ex, H' = ex ++ H ∧ IsW (n * m) (L + M) w H' := by
  obtain ⟨n1, xs, a1, c1, rfl, x1, x2, x3, rfl, x5, x6⟩ := hu
  obtain ⟨n2, ys, a2, c2, rfl, y1, y2, y3, rfl, y5, y6⟩ := hv
  refine (mul n1 n2 a1 a2 c1 c2 xs ys H x1 y1 x2 y2 (by omega) (by omega)).mono ?_
  rintro w H' ⟨zs, b, a, c, ex, rfl, rfl, h1, h2, h3, h4, h5, h6⟩
  refine ⟨ex, rfl, b, zs, a, c, rfl, h1, h2, h3, ?_, fun hb => ?_, by omega⟩
  · have e : ((lv zs : Nat) : Int) = (lv xs : Int) * (lv ys : Int) := by rw [h4, Int.natCast_mul]
    unfold nval
    by_cases h0 : lv zs = 0
    · have hb : b = false := by rw [h5, decide_eq_false (by simpa using h0)]; rfl
      rw [hb, h0]
      rw [h0] at e
      cases n1 <;> cases n2 <;> simp only [if_true, if_false, Bool.false_eq_true, Int.neg_mul, Int.mul_neg, Int.neg_neg] <;> omega
    · rw [decide_eq_true h0, Bool.true_and] at h5
      rw [h5, e]
      cases n1 <;> cases n2 <;> simp [Int.mul_neg, Int.neg_mul]
  · rw [hb] at h5
    intro h0
    rw [decide_eq_false (by simpa using h0)] at h5; cases h5
end Go.Proofs.Ytomhkbijijdghaa.Lmb
