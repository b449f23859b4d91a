/-
  The counter of crossings over a ring; LocatePointInRing. No conditions beyond the bounds.
-/
import Derived.Test.YtomhkbijijdghaaZL6
import Derived.Test.YtomhkbijijdghaaZL7
import Derived.Test.YtomhkbijijdghaaZL10
import Derived.Test.YtomhkbijijdghaaZL11
import Derived.Test.YtomhkbijijdghaaZL18
import Derived.Test.YtomhkbijijdghaaZL20
set_option linter.unusedVariables false
set_option linter.unusedSimpArgs false
namespace Go.Proofs.Ytomhkbijijdghaa.Sd
open Go.Lg Ieee

theorem getLoc (kc kp cp : Nat) (n : Int) (f : Bool) (R : Heap) (hn : 0 ≤ n) :
    Does Try.prog 145 [.pointer (some ⟨kc, 0, none⟩)] ((kc, ctr kp cp n f) :: R) fun w H' => w = .int .i64 (if f then 1 else if n % 2 = 1 then 0 else 2) ∧ H' = (kc, ctr kp cp n f) :: R := by
  refine fn_enter 13 Try.func145 fun W => ?_
  cases f with
  | true =>
    repeat' first
      | (first | refine tc_seq ?_ | refine tc_region ?_ | refine at_seq_normal ?_ | refine tl_nil ?_ | refine tl_cons ?_ | refine op_move ?_ | refine op_assign ?_ | refine op_fieldAddr ?_ | refine op_load ?_ | refine op_load_agg ?_ | refine op_icmp ?_ | refine op_nilCheck_ptr ?_ | refine op_nilCheck_meth ?_ | refine op_irem ?_ | refine op_loadK rfl ?_ | refine op_load_aggK rfl ?_ | refine tc_cond_t ?_ | refine tc_cond_f ?_ | refine tc_cond (fun _ => ?_) (fun _ => ?_) | refine tc_skip ?_ | refine tc_ret ?_ | refine at_seq_ret ?_ | fail)
      | fail
    exact ret_tmp (hk := ⟨rfl, rfl⟩)
  | false =>
    have e : Int.tmod n 2 = n % 2 := Int.tmod_eq_emod_of_nonneg hn
    by_cases h : n % 2 = 1
    · have c : icmp .eql (n % 2) 1 = true := by simp only [icmp, beq_iff_eq]; exact h
      repeat' first
        | (refine op_irem (v := 2) ?_; rw [e])
        | (first | refine tc_seq ?_ | refine tc_region ?_ | refine at_seq_normal ?_ | refine tl_nil ?_ | refine tl_cons ?_ | refine op_move ?_ | refine op_assign ?_ | refine op_fieldAddr ?_ | refine op_load ?_ | refine op_load_agg ?_ | refine op_icmp ?_ | refine op_nilCheck_ptr ?_ | refine op_nilCheck_meth ?_ | refine op_irem ?_ | refine op_loadK rfl ?_ | refine op_load_aggK rfl ?_ | refine tc_cond_t ?_ | refine tc_cond_f ?_ | refine tc_cond (fun _ => ?_) (fun _ => ?_) | refine tc_skip ?_ | refine tc_ret ?_ | refine at_seq_ret ?_ | fail)
        | fail
      exact ret_tmp (hk := ⟨by simp [h], rfl⟩)
    · have c : icmp .eql (n % 2) 1 = false := by simp only [icmp, beq_eq_false_iff_ne]; exact h
      repeat' first
        | (refine op_irem (v := 2) ?_; rw [e])
        | (first | refine tc_seq ?_ | refine tc_region ?_ | refine at_seq_normal ?_ | refine tl_nil ?_ | refine tl_cons ?_ | refine op_move ?_ | refine op_assign ?_ | refine op_fieldAddr ?_ | refine op_load ?_ | refine op_load_agg ?_ | refine op_icmp ?_ | refine op_nilCheck_ptr ?_ | refine op_nilCheck_meth ?_ | refine op_irem ?_ | refine op_loadK rfl ?_ | refine op_load_aggK rfl ?_ | refine tc_cond_t ?_ | refine tc_cond_f ?_ | refine tc_cond (fun _ => ?_) (fun _ => ?_) | refine tc_skip ?_ | refine tc_ret ?_ | refine at_seq_ret ?_ | fail)
        | fail
      exact ret_tmp (hk := ⟨by simp [h], rfl⟩)
theorem stride (n : Int) (h : 1 ≤ n) (H : Heap) : Does Try.prog 143 [.int .i64 n] H fun w H' => w = .int .i64 (strideI n) ∧ H' = H := by
  refine fn_enter 15 Try.func143 fun W => ?_
  have e0 : icmp .eql n 0 = false := by simp only [icmp, beq_eq_false_iff_ne]; omega
  repeat' first
    | (first | refine tc_seq ?_ | refine tc_region ?_ | refine at_seq_normal ?_ | refine tl_nil ?_ | refine tl_cons ?_ | refine op_move ?_ | refine op_assign ?_ | refine op_icmp ?_ | refine op_fcmp ?_ | refine op_iarith ?_ | refine op_bcmp ?_ | refine op_ptr_nil ?_ | refine op_iquo ?_ | refine op_irem ?_ | refine op_ibits ?_ | refine op_slice_isnil ?_ | refine op_slice_notnil ?_ | refine op_shl ?_ | refine op_shr ?_ | (refine op_farith ?_; intro _ _) | refine tc_cond_t ?_ | refine tc_cond_f ?_ | refine tc_cond (fun _ => ?_) (fun _ => ?_) | refine tc_block ?_ | refine tc_ret ?_ | refine at_seq_ret ?_ | refine at_block_normal ?_ | refine at_block_ret ?_ | fail)
    | fail
  all_goals refine ret_tmp (hk := ⟨?_, rfl⟩)
  all_goals
    simp only [icmp, beq_iff_eq, beq_eq_false_iff_ne] at *
    congr 1
    unfold strideI
    repeat' split
    all_goals omega
/-- The places from the i-th one on. -/
def pf (X Y : Nat → Int) : Nat → Nat → List (Int × Int)
  | _, 0 => []
  | i, m + 1 => (X i, Y i) :: pf X Y (i + 1) m
set_option maxHeartbeats 16000000 in
theorem ray (l : Int) (stp n kp kr o c cp : Nat) (L : List Value) (Tp Tr : TypeId) (fp fz : Nat × Nat) (px py : Nat) (a b : Int) (x y : Nat → Nat) (X Y : Nat → Int) (H : Heap)
    (hl : 1 ≤ l) (hst : strideI l = (stp : Int)) (hs2 : 2 ≤ stp) (hs8 : stp ≤ 8) (hn2 : 2 ≤ n) (hn200 : n ≤ 200) (hcap : n * stp ≤ c)
    (mp : (kp, Obj.cells ⟨[.float .f64 px, .float .f64 py]⟩ Tp fp) ∈ H) (mr : (kr, Obj.cells ⟨L⟩ Tr fz) ∈ H)
    (fa : FI 16777216 px a) (fb : FI 16777216 py b)
    (hg : ∀ i, i < n → L[o + i * stp]? = some (.float .f64 (x i)) ∧ L[o + i * stp + 1]? = some (.float .f64 (y i)) ∧ FI 16777216 (x i) (X i) ∧ FI 16777216 (y i) (Y i)) :
    Does Try.prog 129 [.int .i64 l, .slice (some ⟨kp, 0, none⟩) 2 cp, .slice (some ⟨kr, o, none⟩) (n * stp) c] H fun w H' => w = .int .i64 (mloop a b (X 0, Y 0) (pf X Y 1 (n - 1)) 0) ∧ ∃ ex, H' = ex ++ H := by
  have hms : ∀ i, i ≤ n → i * stp ≤ n * stp := fun i hi => Nat.mul_le_mul_right _ hi
  have hmb : n * stp ≤ 200 * 8 := Nat.mul_le_mul hn200 hs8
  obtain ⟨R, hR⟩ : ∃ R, R = mloop a b (X 0, Y 0) (pf X Y 1 (n - 1)) 0 := ⟨_, rfl⟩
  rw [← hR]
  refine fn_enter 45 Try.func129 fun W => ?_
  repeat' first
    | (refine op_call ((stride l hl _).mono ?_); rintro _ _ ⟨rfl, rfl⟩; rw [hst])
    | (first | refine tc_seq ?_ | refine tc_region ?_ | refine at_seq_normal ?_ | refine tl_nil ?_ | refine tl_cons ?_ | refine tl_cons_none ?_ | refine op_move ?_ | refine op_assign ?_ | refine op_fieldAddr ?_ | refine op_load ?_ | refine op_load_agg ?_ | refine op_indexC ?_ | refine op_indexAddr1 ?_ | refine op_indexAddr ?_ | refine op_icmp ?_ | refine op_fcmp ?_ | refine op_iarith ?_ | refine op_bcmp ?_ | refine op_unop_not ?_ | refine op_unop_neg_float ?_ | refine op_unop_neg_int ?_ | refine op_len_slice ?_ | refine op_pick_true ?_ | refine op_pick_false ?_ | refine op_pick_true' ?_ | refine op_pick_false' ?_ | refine op_build ?_ | refine op_extract ?_ | refine op_makeInterface ?_ | refine op_typeAssert ?_ | refine op_ptr_nil ?_ | refine op_nilCheck_ptr ?_ | refine op_nilCheck_meth ?_ | refine op_makeMeth ?_ | refine op_makeFunc ?_ | refine op_itof ?_ | refine op_itoi ?_ | refine op_ftoi ?_ | refine op_iquo ?_ | refine op_irem ?_ | refine op_ibits ?_ | refine op_slice_isnil ?_ | refine op_slice_notnil ?_ | refine op_imax ?_ | refine op_imin ?_ | refine op_shl ?_ | refine op_shr ?_ | (refine op_alloc ?_; intro _) | (refine op_box ?_; intro _) | (refine op_buildSlice ?_; intro _) | (refine op_farith ?_; intro _ _) | refine op_store0 ?_ | refine op_store1 ?_ | refine op_store2 ?_ | refine op_store3 ?_ | refine op_store4 ?_ | refine op_store5 ?_ | refine op_storeK rfl ?_ | refine op_loadK rfl ?_ | refine op_load_aggK rfl ?_ | refine tc_cond_t ?_ | refine tc_cond_f ?_ | refine tc_cond (fun _ => ?_) (fun _ => ?_) | refine tc_block ?_ | refine tc_skip ?_ | refine tc_ret ?_ | refine tc_exit ?_ | refine at_seq_ret ?_ | refine at_seq_exit ?_ | refine at_block_normal ?_ | refine at_block_ret ?_ | refine at_block_exit_self ?_ | refine at_block_exit_ne ?_ | refine at_loop_ret ?_ | refine at_loop_exit ?_ | fail)
    | fail
  rename_i kc
  refine tc_loopK [(2, _), (7, _), (8, _)] (by repeat (first | exact trivial | refine ⟨rfl, ?_⟩)) (fun (g : Nat × Int) => [(9, .int .i64 ((g.1 * stp : Nat) : Int))]) (fun g => (kc, ctr kp cp g.2 false) :: H) (fun g => 1 ≤ g.1 ∧ g.1 ≤ n ∧ 0 ≤ g.2 ∧ g.2 ≤ g.1 ∧ mloop a b (X (g.1 - 1), Y (g.1 - 1)) (pf X Y g.1 (n - g.1)) g.2 = R) (fun g => n - g.1) (1, 0) ⟨Nat.le_refl _, by omega, Int.le_refl _, by simp, hR.symm⟩ ⟨(by simp only [Nat.one_mul]; rfl), trivial⟩ (List.Sublist.refl _) ?_
  rintro ⟨j, cnt⟩ ⟨hj1, hjn, hc0, hcj, hinv⟩
  simp only at hj1 hjn hc0 hcj hinv ⊢
  by_cases hlt : j < n
  · have hb : icmp .lss ((j * stp : Nat) : Int) ((n * stp : Nat) : Int) = true := by
      have := hms (j + 1) hlt
      rw [Nat.add_mul, Nat.one_mul] at this
      simp only [icmp, decide_eq_true_eq]; omega
    obtain ⟨g1, g2, f1, f2⟩ := hg j hlt
    obtain ⟨g3, g4, f3, f4⟩ := hg (j - 1) (by omega)
    have ej : (j - 1) * stp + stp = j * stp := by
      have : j = j - 1 + 1 := by omega
      conv => rhs; rw [this, Nat.add_mul, Nat.one_mul]
    have hjs := hms (j + 1) hlt
    rw [Nat.add_mul, Nat.one_mul] at hjs
    have w1 : IntKind.i64.wrap (iarith .add ((j * stp : Nat) : Int) 2) = ((j * stp + 2 : Nat) : Int) := wrap_addN (s := 2) (by omega)
    have w2 : IntKind.i64.wrap (iarith .sub ((j * stp : Nat) : Int) (stp : Int)) = (((j - 1) * stp : Nat) : Int) := by rw [wrap_sub (by omega) (by omega)]; omega
    have w3 : IntKind.i64.wrap (iarith .add (((j - 1) * stp : Nat) : Int) 2) = (((j - 1) * stp + 2 : Nat) : Int) := wrap_addN (s := 2) (by omega)
    have w4 : IntKind.i64.wrap (iarith .add ((j * stp : Nat) : Int) (stp : Int)) = (((j + 1) * stp : Nat) : Int) := by rw [wrap_addN (by omega), Nat.add_mul, Nat.one_mul]
    have hpf : pf X Y j (n - j) = (X j, Y j) :: pf X Y (j + 1) (n - (j + 1)) := by
      rw [show n - j = (n - (j + 1)) + 1 by omega]; rfl
    rw [hpf] at hinv
    unfold mloop at hinv
    simp only at hinv
    have hc1 : 0 ≤ cnt + (if (seg a b (X j) (Y j) (X (j - 1)) (Y (j - 1))).2 then 1 else 0) := by split <;> omega
    have hc2 : cnt + (if (seg a b (X j) (Y j) (X (j - 1)) (Y (j - 1))).2 then 1 else 0) ≤ ((j + 1 : Nat) : Int) := by split <;> omega
    by_cases hf : (seg a b (X j) (Y j) (X (j - 1)) (Y (j - 1))).1 = true
    · rw [if_pos hf] at hinv
      repeat' first
        | (refine op_iarith ?_; first | rw [w1] | rw [w2] | rw [w3] | rw [w4])
        | (refine op_slice_lh (l := j * stp) (h := j * stp + 2) ?_; rw [slAt_le (m := 2) (by omega) (by omega)])
        | (refine op_slice_lh (l := (j - 1) * stp) (h := (j - 1) * stp + 2) ?_; rw [slAt_le (m := 2) (by omega) (by omega)])
        | (refine op_call ((countSeg kc kp kr (o + j * stp) (o + (j - 1) * stp) _ _ cp L Tp Tr fp fz px py _ _ _ _ cnt a b (X j) (Y j) (X (j - 1)) (Y (j - 1)) H (List.mem_cons_of_mem _ mp) (List.mem_cons_of_mem _ mr) g1 g2 g3 g4 fa fb f1 f2 f3 f4 ⟨hc0, by omega⟩).mono ?_); rintro _ _ rfl; rw [hf])
        | (refine op_call ((getLoc kc kp cp _ true H hc1).mono ?_); rintro _ _ ⟨rfl, rfl⟩)
        | (first | refine tc_seq ?_ | refine tc_region ?_ | refine at_seq_normal ?_ | refine tl_nil ?_ | refine tl_cons ?_ | refine tl_cons_none ?_ | refine op_move ?_ | refine op_assign ?_ | refine op_fieldAddr ?_ | refine op_load ?_ | refine op_load_agg ?_ | refine op_indexC ?_ | refine op_indexAddr1 ?_ | refine op_indexAddr ?_ | refine op_icmp ?_ | refine op_fcmp ?_ | refine op_iarith ?_ | refine op_bcmp ?_ | refine op_unop_not ?_ | refine op_unop_neg_float ?_ | refine op_unop_neg_int ?_ | refine op_len_slice ?_ | refine op_pick_true ?_ | refine op_pick_false ?_ | refine op_pick_true' ?_ | refine op_pick_false' ?_ | refine op_build ?_ | refine op_extract ?_ | refine op_makeInterface ?_ | refine op_typeAssert ?_ | refine op_ptr_nil ?_ | refine op_nilCheck_ptr ?_ | refine op_nilCheck_meth ?_ | refine op_makeMeth ?_ | refine op_makeFunc ?_ | refine op_itof ?_ | refine op_itoi ?_ | refine op_ftoi ?_ | refine op_iquo ?_ | refine op_irem ?_ | refine op_ibits ?_ | refine op_slice_isnil ?_ | refine op_slice_notnil ?_ | refine op_imax ?_ | refine op_imin ?_ | refine op_shl ?_ | refine op_shr ?_ | (refine op_alloc ?_; intro _) | (refine op_box ?_; intro _) | (refine op_buildSlice ?_; intro _) | (refine op_farith ?_; intro _ _) | refine op_store0 ?_ | refine op_store1 ?_ | refine op_store2 ?_ | refine op_store3 ?_ | refine op_store4 ?_ | refine op_store5 ?_ | refine op_storeK rfl ?_ | refine op_loadK rfl ?_ | refine op_load_aggK rfl ?_ | refine tc_cond_t ?_ | refine tc_cond_f ?_ | refine tc_block ?_ | refine tc_skip ?_ | refine tc_ret ?_ | refine tc_exit ?_ | refine at_seq_ret ?_ | refine at_seq_exit ?_ | refine at_block_normal ?_ | refine at_block_ret ?_ | refine at_block_exit_self ?_ | refine at_block_exit_ne ?_ | refine at_loop_ret ?_ | refine at_loop_exit ?_ | fail)
        | fail
      exact ret_tmp (hG := List.Sublist.refl _) (hk := ⟨by rw [← hinv]; rfl, [_], rfl⟩)
    · rw [if_neg hf] at hinv
      have hf : (seg a b (X j) (Y j) (X (j - 1)) (Y (j - 1))).1 = false := by simpa using hf
      repeat' first
        | (refine op_iarith ?_; first | rw [w1] | rw [w2] | rw [w3] | rw [w4])
        | (refine op_slice_lh (l := j * stp) (h := j * stp + 2) ?_; rw [slAt_le (m := 2) (by omega) (by omega)])
        | (refine op_slice_lh (l := (j - 1) * stp) (h := (j - 1) * stp + 2) ?_; rw [slAt_le (m := 2) (by omega) (by omega)])
        | (refine op_call ((countSeg kc kp kr (o + j * stp) (o + (j - 1) * stp) _ _ cp L Tp Tr fp fz px py _ _ _ _ cnt a b (X j) (Y j) (X (j - 1)) (Y (j - 1)) H (List.mem_cons_of_mem _ mp) (List.mem_cons_of_mem _ mr) g1 g2 g3 g4 fa fb f1 f2 f3 f4 ⟨hc0, by omega⟩).mono ?_); rintro _ _ rfl; rw [hf])
        | (first | refine tc_seq ?_ | refine tc_region ?_ | refine at_seq_normal ?_ | refine tl_nil ?_ | refine tl_cons ?_ | refine tl_cons_none ?_ | refine op_move ?_ | refine op_assign ?_ | refine op_fieldAddr ?_ | refine op_load ?_ | refine op_load_agg ?_ | refine op_indexC ?_ | refine op_indexAddr1 ?_ | refine op_indexAddr ?_ | refine op_icmp ?_ | refine op_fcmp ?_ | refine op_iarith ?_ | refine op_bcmp ?_ | refine op_unop_not ?_ | refine op_unop_neg_float ?_ | refine op_unop_neg_int ?_ | refine op_len_slice ?_ | refine op_pick_true ?_ | refine op_pick_false ?_ | refine op_pick_true' ?_ | refine op_pick_false' ?_ | refine op_build ?_ | refine op_extract ?_ | refine op_makeInterface ?_ | refine op_typeAssert ?_ | refine op_ptr_nil ?_ | refine op_nilCheck_ptr ?_ | refine op_nilCheck_meth ?_ | refine op_makeMeth ?_ | refine op_makeFunc ?_ | refine op_itof ?_ | refine op_itoi ?_ | refine op_ftoi ?_ | refine op_iquo ?_ | refine op_irem ?_ | refine op_ibits ?_ | refine op_slice_isnil ?_ | refine op_slice_notnil ?_ | refine op_imax ?_ | refine op_imin ?_ | refine op_shl ?_ | refine op_shr ?_ | (refine op_alloc ?_; intro _) | (refine op_box ?_; intro _) | (refine op_buildSlice ?_; intro _) | (refine op_farith ?_; intro _ _) | refine op_store0 ?_ | refine op_store1 ?_ | refine op_store2 ?_ | refine op_store3 ?_ | refine op_store4 ?_ | refine op_store5 ?_ | refine op_storeK rfl ?_ | refine op_loadK rfl ?_ | refine op_load_aggK rfl ?_ | refine tc_cond_t ?_ | refine tc_cond_f ?_ | refine tc_block ?_ | refine tc_skip ?_ | refine tc_ret ?_ | refine tc_exit ?_ | refine at_seq_ret ?_ | refine at_seq_exit ?_ | refine at_block_normal ?_ | refine at_block_ret ?_ | refine at_block_exit_self ?_ | refine at_block_exit_ne ?_ | refine at_loop_ret ?_ | refine at_loop_exit ?_ | fail)
        | fail
      exact at_loopK (j + 1, _) ⟨by simp only; omega, hlt, hc1, hc2, hinv⟩ (by simp only; omega) ⟨rfl, trivial⟩ (by repeat (first | exact trivial | refine ⟨rfl, ?_⟩)) (List.Sublist.refl _)
  · obtain rfl : j = n := by omega
    have hb : icmp .lss ((j * stp : Nat) : Int) ((j * stp : Nat) : Int) = false := by simp only [icmp, decide_eq_false_iff_not]; omega
    rw [Nat.sub_self] at hinv
    have hinv : (if cnt % 2 = 1 then (0 : Int) else 2) = R := hinv
    repeat' first
      | (refine op_call ((getLoc kc kp cp cnt false H hc0).mono ?_); rintro _ _ ⟨rfl, rfl⟩)
      | (first | refine tc_seq ?_ | refine tc_region ?_ | refine at_seq_normal ?_ | refine tl_nil ?_ | refine tl_cons ?_ | refine tl_cons_none ?_ | refine op_move ?_ | refine op_assign ?_ | refine op_fieldAddr ?_ | refine op_load ?_ | refine op_load_agg ?_ | refine op_indexC ?_ | refine op_indexAddr1 ?_ | refine op_indexAddr ?_ | refine op_icmp ?_ | refine op_fcmp ?_ | refine op_iarith ?_ | refine op_bcmp ?_ | refine op_unop_not ?_ | refine op_unop_neg_float ?_ | refine op_unop_neg_int ?_ | refine op_len_slice ?_ | refine op_pick_true ?_ | refine op_pick_false ?_ | refine op_pick_true' ?_ | refine op_pick_false' ?_ | refine op_build ?_ | refine op_extract ?_ | refine op_makeInterface ?_ | refine op_typeAssert ?_ | refine op_ptr_nil ?_ | refine op_nilCheck_ptr ?_ | refine op_nilCheck_meth ?_ | refine op_makeMeth ?_ | refine op_makeFunc ?_ | refine op_itof ?_ | refine op_itoi ?_ | refine op_ftoi ?_ | refine op_iquo ?_ | refine op_irem ?_ | refine op_ibits ?_ | refine op_slice_isnil ?_ | refine op_slice_notnil ?_ | refine op_imax ?_ | refine op_imin ?_ | refine op_shl ?_ | refine op_shr ?_ | (refine op_alloc ?_; intro _) | (refine op_box ?_; intro _) | (refine op_buildSlice ?_; intro _) | (refine op_farith ?_; intro _ _) | refine op_store0 ?_ | refine op_store1 ?_ | refine op_store2 ?_ | refine op_store3 ?_ | refine op_store4 ?_ | refine op_store5 ?_ | refine op_storeK rfl ?_ | refine op_loadK rfl ?_ | refine op_load_aggK rfl ?_ | refine tc_cond_t ?_ | refine tc_cond_f ?_ | refine tc_cond (fun _ => ?_) (fun _ => ?_) | refine tc_block ?_ | refine tc_skip ?_ | refine tc_ret ?_ | refine tc_exit ?_ | refine at_seq_ret ?_ | refine at_seq_exit ?_ | refine at_block_normal ?_ | refine at_block_ret ?_ | refine at_block_exit_self ?_ | refine at_block_exit_ne ?_ | refine at_loop_ret ?_ | refine at_loop_exit ?_ | fail)
      | fail
    exact ret_tmp (hG := List.Sublist.refl _) (hk := ⟨by rw [← hinv]; simp, [_], rfl⟩)
end Go.Proofs.Ytomhkbijijdghaa.Sd

set_option linter.unusedVariables false
set_option linter.unusedSimpArgs false
namespace Go.Proofs.Ytomhkbijijdghaa.Rno
open Go.Lg Go.Proofs.Ytomhkbijijdghaa.Pl Go.Proofs.Ytomhkbijijdghaa.Sd Go.Proofs.Ytomhkbijijdghaa.Lmb Ieee

set_option maxHeartbeats 16000000 in
theorem locate (v up : Value) (X Y : Nat → Int) (n : Nat) (a b : Int) (H : Heap) (hv : IsPs H v X Y n) (hp : IsP a b 0 up H) (hn2 : 2 ≤ n) (hn200 : n ≤ 200) :
    Does Try.prog 47 [v, up] H fun w H' => w = .int .i64 (sloop a b (X 0, Y 0) (pf X Y 1 (n - 1)) false) ∧ ∃ ex, H' = ex ++ H := by
  obtain ⟨kl, ol, L, Tl, zl, cap, rfl, hml, hget⟩ := hv.block (by omega)
  have hp0 := hp
  obtain ⟨pb, pa, pk, pc, pe, pb', pa', pk', pc', pe', rfl, hpx, hpy⟩ := hp
  obtain ⟨R, hR⟩ : ∃ R, R = sloop a b (X 0, Y 0) (pf X Y 1 (n - 1)) false := ⟨_, rfl⟩
  rw [← hR]
  refine fn_enter 55 Try.func47 fun W => ?_
  repeat' first
    | refine tc_seq ?_ | refine tc_region ?_ | refine at_seq_normal ?_ | refine tl_nil ?_ | refine tl_cons ?_ | refine tl_cons_none ?_ | refine op_move ?_ | refine op_assign ?_ | refine op_fieldAddr ?_ | refine op_load ?_
    | refine op_load_agg ?_ | refine op_indexC ?_ | refine op_indexAddr1 ?_ | refine op_indexAddr ?_ | refine op_icmp ?_ | refine op_iarith ?_ | refine op_bcmp ?_ | refine op_unop_not ?_ | refine op_len_slice ?_ | (refine op_alloc ?_; intro _)
    | (refine op_box ?_; intro _) | refine op_store0 ?_ | refine op_store1 ?_ | refine op_store2 ?_ | refine op_store3 ?_ | refine op_store4 ?_ | refine op_store5 ?_ | refine op_storeK rfl ?_ | refine op_loadK rfl ?_ | refine op_load_aggK rfl ?_
    | refine tc_cond_t ?_ | refine tc_cond_f ?_ | refine tc_cond (fun _ => ?_) (fun _ => ?_) | refine tc_block ?_ | refine tc_skip ?_ | refine tc_ret ?_ | refine tc_exit ?_ | refine at_seq_ret ?_ | refine at_seq_exit ?_ | refine at_block_normal ?_
    | refine at_block_ret ?_ | refine at_block_exit_self ?_ | refine at_block_exit_ne ?_ | refine at_loop_ret ?_ | refine at_loop_exit ?_
  rename_i kq
  refine tc_loopK [(0, _), (3, _)] (by repeat (first | exact trivial | refine ⟨rfl, ?_⟩)) (fun (g : Nat × Bool) => [(6, .int .i64 (g.1 : Int)), (5, .bool g.2)]) (fun g => (kq, _) :: H) (fun g => 1 ≤ g.1 ∧ g.1 ≤ n ∧ sloop a b (X (g.1 - 1), Y (g.1 - 1)) (pf X Y g.1 (n - g.1)) g.2 = R) (fun g => n - g.1) (1, false) ⟨Nat.le_refl _, by omega, hR.symm⟩ ⟨rfl, rfl, trivial⟩ (List.Sublist.refl _) ?_
  rintro ⟨j, odd⟩ ⟨hj1, hjn, hinv⟩
  simp only at hj1 hjn hinv ⊢
  by_cases hlt : j < n
  · have hb : icmp .lss (j : Int) (n : Int) = true := by rw [lss_nat]; simpa using hlt
    have w1 : IntKind.i64.wrap (iarith .sub (j : Int) 1) = ((j - 1 : Nat) : Int) := by rw [wrap_sub (by omega) (by omega)]; omega
    have w2 : IntKind.i64.wrap (iarith .add (j : Int) 1) = ((j + 1 : Nat) : Int) := wrap_addN (s := 1) (by omega)
    obtain ⟨ab, aa, ak, ac, ae, ab', aa', ak', ac', ae', ga, ha⟩ := hget (j - 1) (by omega)
    obtain ⟨bb, ba, bk, bc, be, bb', ba', bk', bc', be', gb, hbb⟩ := hget j hlt
    have ha0 := ha
    have hb0 := hbb
    obtain ⟨_, _, _, _, _, _, _, _, _, _, hea, hax, hay⟩ := ha
    cases hea
    obtain ⟨_, _, _, _, _, _, _, _, _, _, heb, hbx, hby⟩ := hbb
    cases heb
    have hpf : pf X Y j (n - j) = (X j, Y j) :: pf X Y (j + 1) (n - (j + 1)) := by
      rw [show n - j = (n - (j + 1)) + 1 by omega]; rfl
    rw [hpf] at hinv
    unfold sloop at hinv
    simp only at hinv
    have hon := onB_int a b (X (j - 1)) (Y (j - 1)) (X j) (Y j)
    repeat' first
      | refine tc_seq ?_ | refine tc_region ?_ | refine at_seq_normal ?_ | refine tl_nil ?_ | refine tl_cons ?_ | refine tl_cons_none ?_ | refine op_move ?_ | refine op_assign ?_ | refine op_fieldAddr ?_ | refine op_load ?_
      | refine op_load_agg ?_ | refine op_indexC ?_ | refine op_indexAddr1 ?_ | refine op_indexAddr ?_ | refine op_icmp ?_ | refine op_iarith ?_ | refine op_bcmp ?_ | refine op_unop_not ?_ | refine op_len_slice ?_ | (refine op_alloc ?_; intro _)
      | (refine op_box ?_; intro _) | refine op_store0 ?_ | refine op_store1 ?_ | refine op_store2 ?_ | refine op_store3 ?_ | refine op_store4 ?_ | refine op_store5 ?_ | refine op_storeK rfl ?_ | refine op_loadK rfl ?_ | refine op_load_aggK rfl ?_
      | refine tc_cond_t ?_ | refine tc_cond_f ?_ | refine tc_cond (fun _ => ?_) (fun _ => ?_) | refine tc_block ?_ | refine tc_skip ?_ | refine tc_ret ?_ | refine tc_exit ?_ | refine at_seq_ret ?_ | refine at_seq_exit ?_ | refine at_block_normal ?_
      | refine at_block_ret ?_ | refine at_block_exit_self ?_ | refine at_block_exit_ne ?_ | refine at_loop_ret ?_ | refine at_loop_exit ?_
    apply fun hole0 hole1 hole2 hole3 hole4 hole5 hole6 hole7 hole8 hole9 hE hD hal hml hdl hpr prem fin => tc_drawnT 12 11 9 7 (fun k => .pointer (some ⟨k, 0, none⟩)) hole8 (PhiD.fresh (fun k => .pointer (some ⟨k, 0, none⟩)) (.cells ⟨[.bool ab, .slice aa ak ac, .int .i64 ae, .bool ab', .slice aa' ak' ac', .int .i64 ae']⟩ 71 (0, 0))) (fresh_mono _ _) [PhiD.is hole0, PhiD.is hole1, PhiD.is (.int .i64 ((j - 1 : Nat) : Int)), PhiD.is hole2, PhiD.is hole3, PhiD.is hole4, PhiD.is hole5, PhiD.is hole6, PhiD.is hole7, PhiD.fresh (fun k => .pointer (some ⟨k, 0, none⟩)) hole8, PhiD.fresh (fun k => .pointer (some ⟨k, 0, none⟩)) hole9, PhiD.is undef] [PhiD.is hole0, PhiD.is hole1, PhiD.is (.int .i64 ((j - 1 : Nat) : Int)), PhiD.is hole2, PhiD.is hole3, PhiD.is hole4, PhiD.is hole5, PhiD.is hole6, PhiD.is hole7, PhiD.fresh (fun k => .pointer (some ⟨k, 0, none⟩)) (.cells ⟨[.bool ab, .slice aa ak ac, .int .i64 ae, .bool ab', .slice aa' ak' ac', .int .i64 ae']⟩ 71 (0, 0)), PhiD.fresh (fun k => .pointer (some ⟨k, 0, none⟩)) hole9, PhiD.is undef]
      [some 17, some 18, some 19, some 20, some 21, some 22, some 23, some 24, some 25, some 7, some 8, none, none] [[], [], [1], [0, 2], [3], [], [], [5, 6], [7], [], [], [9, 4, 0, 1, 2, 3, 10]] mixed trivial prem fin rfl rfl hE hD hal rfl rfl hml hdl hpr
    rotate_left 11
    · first | kernel_rfl | exact rfl
    · first | kernel_rfl | exact rfl
    · first | kernel_rfl | exact rfl
    · exact Nat.le_of_ble_eq_true rfl
    · first | kernel_rfl | exact rfl
    · first | kernel_rfl | exact rfl
    refine ⟨fun G hG => ?_, fun G hG => ?_, fun G hG => ?_, fun G hG => ?_, fun G hG => ?_, fun G hG => ?_, fun G hG => ?_, fun G hG => ?_, fun G hG => ?_, fun G hG => ?_, fun G hG => ?_, fun G hG => ?_, trivial⟩
    · simp only [withD, nthD, Step2, nthDst, putO, postD, Nat.reduceAdd, Nat.reduceEqDiff, Nat.zero_add, if_true, if_false, reduceIte, PhiD.phi]
      (refine op_move ?_; exact ⟨[], rfl, rfl, rfl⟩)
    · simp only [withD, nthD, Step2, nthDst, putO, postD, Nat.reduceAdd, Nat.reduceEqDiff, Nat.zero_add, if_true, if_false, reduceIte, PhiD.phi]
      (refine op_move ?_; exact ⟨[], rfl, rfl, rfl⟩)
    · simp only [withD, nthD, Step2, nthDst, putO, postD, Nat.reduceAdd, Nat.reduceEqDiff, Nat.zero_add, if_true, if_false, reduceIte, PhiD.phi]
      (refine op_iarith ?_; rw [w1]; exact ⟨[], rfl, rfl, rfl⟩)
    · simp only [withD, nthD, Step2, nthDst, putO, postD, Nat.reduceAdd, Nat.reduceEqDiff, Nat.zero_add, if_true, if_false, reduceIte, PhiD.phi]
      (refine op_indexAddr (j := j - 1) ?_ (hj := by omega); exact ⟨[], rfl, rfl, rfl⟩)
    · simp only [withD, nthD, Step2, nthDst, putO, postD, Nat.reduceAdd, Nat.reduceEqDiff, Nat.zero_add, if_true, if_false, reduceIte, PhiD.phi]
      (refine op_load_agg ?_ (hm := hG _ (List.mem_cons_of_mem _ hml)) (hv := ga); exact ⟨[], rfl, rfl, rfl⟩)
    · simp only [withD, nthD, Step2, nthDst, putO, postD, Nat.reduceAdd, Nat.reduceEqDiff, Nat.zero_add, if_true, if_false, reduceIte, PhiD.phi]
      (refine op_move ?_; exact ⟨[], rfl, rfl, rfl⟩)
    · simp only [withD, nthD, Step2, nthDst, putO, postD, Nat.reduceAdd, Nat.reduceEqDiff, Nat.zero_add, if_true, if_false, reduceIte, PhiD.phi]
      (refine op_move ?_; exact ⟨[], rfl, rfl, rfl⟩)
    · simp only [withD, nthD, Step2, nthDst, putO, postD, Nat.reduceAdd, Nat.reduceEqDiff, Nat.zero_add, if_true, if_false, reduceIte, PhiD.phi]
      (refine op_indexAddr (j := j) ?_ (hj := by omega); exact ⟨[], rfl, rfl, rfl⟩)
    · simp only [withD, nthD, Step2, nthDst, putO, postD, Nat.reduceAdd, Nat.reduceEqDiff, Nat.zero_add, if_true, if_false, reduceIte, PhiD.phi]
      (refine op_load_agg ?_ (hm := hG _ (List.mem_cons_of_mem _ hml)) (hv := gb); exact ⟨[], rfl, rfl, rfl⟩)
    · simp only [withD, nthD, Step2, nthDst, putO, postD, Nat.reduceAdd, Nat.reduceEqDiff, Nat.zero_add, if_true, if_false, reduceIte, PhiD.phi]
      (refine op_alloc ?_; intro _; exact ⟨[(_, _)], rfl, ⟨_, rfl, rfl⟩⟩)
    · simp only [withD, nthD, Step2, nthDst, putO, postD, Nat.reduceAdd, Nat.reduceEqDiff, Nat.zero_add, if_true, if_false, reduceIte, PhiD.phi]
      (refine op_alloc ?_; intro _; exact ⟨[(_, _)], rfl, ⟨_, rfl, rfl⟩⟩)
    · simp only [withD, nthD, Step2, nthDst, putO, postD, Nat.reduceAdd, Nat.reduceEqDiff, Nat.zero_add, if_true, if_false, reduceIte, PhiD.phi]
      rintro _ _ _ _
      intro a k R hoa hta _
      have heq := (hoa.get 7 _ rfl).symm.trans hta
      cases heq
      exact op_store0 (Exists.intro _ (And.intro rfl (And.intro (Exists.intro _ (And.intro rfl rfl)) (And.intro rfl rfl))))
    simp only [FinalsD, nthDst, putO, List.drop_succ_cons, List.drop_zero]
    rintro _ _ -
    by_cases hO : OnI a b (X (j - 1)) (Y (j - 1)) (X j) (Y j)
    · rw [if_pos hO] at hinv
      rw [decide_eq_true hO] at hon
      repeat' first
        | refine op_storeK rfl ?_
        | refine op_load_aggK rfl ?_
        | (refine op_call ((qOn _ _ _ _ _ _ _ _ _ _ (hp0.mono fun e he => by simp [he]) (ha0.mono fun e he => by simp [he]) (hb0.mono fun e he => by simp [he])).mono ?_); rintro _ _ ⟨rfl, ex1, rfl⟩; rw [hon])
        | (first | refine tc_seq ?_ | refine tc_region ?_ | refine at_seq_normal ?_ | refine tl_nil ?_ | refine tl_cons ?_ | refine tl_cons_none ?_ | refine op_move ?_ | refine op_assign ?_ | refine op_fieldAddr ?_ | refine op_load ?_ | refine op_load_agg ?_ | refine op_indexC ?_ | refine op_indexAddr1 ?_ | refine op_indexAddr ?_ | refine op_icmp ?_ | refine op_iarith ?_ | refine op_bcmp ?_ | refine op_unop_not ?_ | refine op_len_slice ?_ | (refine op_alloc ?_; intro _) | (refine op_box ?_; intro _) | refine op_store0 ?_ | refine op_store1 ?_ | refine op_store2 ?_ | refine op_store3 ?_ | refine op_store4 ?_ | refine op_store5 ?_ | refine op_storeK rfl ?_ | refine op_loadK rfl ?_ | refine op_load_aggK rfl ?_ | refine tc_cond_t ?_ | refine tc_cond_f ?_ | refine tc_cond (fun _ => ?_) (fun _ => ?_) | refine tc_block ?_ | refine tc_skip ?_ | refine tc_ret ?_ | refine tc_exit ?_ | refine at_seq_ret ?_ | refine at_seq_exit ?_ | refine at_block_normal ?_ | refine at_block_ret ?_ | refine at_block_exit_self ?_ | refine at_block_exit_ne ?_ | refine at_loop_ret ?_ | refine at_loop_exit ?_ | fail)
        | fail
      exact ret_tmp (hG := List.Sublist.refl _) (hk := ⟨by rw [hinv], ExC.ex⟩)
    · rw [if_neg hO] at hinv
      rw [decide_eq_false hO] at hon
      repeat' first
        | refine op_storeK rfl ?_
        | refine op_load_aggK rfl ?_
        | (refine op_call ((qOn _ _ _ _ _ _ _ _ _ _ (hp0.mono fun e he => by simp [he]) (ha0.mono fun e he => by simp [he]) (hb0.mono fun e he => by simp [he])).mono ?_); rintro _ _ ⟨rfl, ex1, rfl⟩; rw [hon])
        | (first | refine tc_seq ?_ | refine tc_region ?_ | refine at_seq_normal ?_ | refine tl_nil ?_ | refine tl_cons ?_ | refine tl_cons_none ?_ | refine op_move ?_ | refine op_assign ?_ | refine op_fieldAddr ?_ | refine op_load ?_ | refine op_load_agg ?_ | refine op_indexC ?_ | refine op_indexAddr1 ?_ | refine op_indexAddr ?_ | refine op_icmp ?_ | refine op_iarith ?_ | refine op_bcmp ?_ | refine op_unop_not ?_ | refine op_len_slice ?_ | (refine op_alloc ?_; intro _) | (refine op_box ?_; intro _) | refine op_store0 ?_ | refine op_store1 ?_ | refine op_store2 ?_ | refine op_store3 ?_ | refine op_store4 ?_ | refine op_store5 ?_ | refine op_storeK rfl ?_ | refine op_loadK rfl ?_ | refine op_load_aggK rfl ?_ | refine tc_cond_t ?_ | refine tc_cond_f ?_ | refine tc_cond (fun _ => ?_) (fun _ => ?_) | refine tc_block ?_ | refine tc_skip ?_ | refine tc_ret ?_ | refine tc_exit ?_ | refine at_seq_ret ?_ | refine at_seq_exit ?_ | refine at_block_normal ?_ | refine at_block_ret ?_ | refine at_block_exit_self ?_ | refine at_block_exit_ne ?_ | refine at_loop_ret ?_ | refine at_loop_exit ?_ | fail)
        | fail
      have hti := turn_int a b (X (j - 1)) (Y (j - 1)) (X j) (Y j)
      unfold crosses at hinv
      obtain ⟨T, hT⟩ : ∃ T, T = decide (0 < (X j - X (j - 1)) * (b - Y (j - 1)) - (Y j - Y (j - 1)) * (a - X (j - 1))) := ⟨_, rfl⟩
      obtain ⟨A, hA⟩ : ∃ A, A = decide (b < Y (j - 1)) := ⟨_, rfl⟩
      obtain ⟨N, hN⟩ : ∃ N, N = decide (b < Y j) := ⟨_, rfl⟩
      rw [← hT] at hti
      rw [← hT, ← hA, ← hN] at hinv
      apply fun hole0 hole1 hole2 hole3 hole4 hole5 hole6 hole7 hole8 hE hD hml hdl hpr prem fin => tc_drawnD 13 [PhiD.is hole0, PhiD.is hole1, PhiD.is hole2, PhiD.is hole3, PhiD.gen (some' (fun w _ => w = .int .i64 (sgQ (((Y (j - 1) : Int) : Rat) - ((b : Int) : Rat))))), PhiD.is (.bool A), PhiD.is hole4, PhiD.is hole5, PhiD.is hole6, PhiD.is hole7, PhiD.gen (some' (fun w _ => w = .int .i64 (sgQ (((Y j : Int) : Rat) - ((b : Int) : Rat))))), PhiD.is (.bool N), PhiD.is hole8]
        [some 30, some 31, some 32, some 33, some 34, some 35, some 36, some 37, some 38, some 39, some 40, some 41, some 9, some 10] [[], [0], [], [2], [1, 3], [4], [], [6], [], [8], [7, 9, 4], [10], [5, 10, 0, 1, 2, 3, 4]] mixed ⟨(some_mono _), (some_mono _), trivial⟩ prem fin hE hD rfl hml hdl hpr
      rotate_left 10
      · first | kernel_rfl | exact rfl
      · first | kernel_rfl | exact rfl
      · exact Nat.le_of_ble_eq_true rfl
      · first | kernel_rfl | exact rfl
      · first | kernel_rfl | exact rfl
      refine ⟨fun G hG => ?_, fun G hG => ?_, fun G hG => ?_, fun G hG => ?_, fun G hG => ?_, fun G hG => ?_, fun G hG => ?_, fun G hG => ?_, fun G hG => ?_, fun G hG => ?_, fun G hG => ?_, fun G hG => ?_, fun G hG => ?_, trivial⟩
      · simp only [withD, nthD, Step2, nthDst, putO, postD]
        (refine op_fieldAddr ?_; exact ⟨[], rfl, rfl, rfl⟩)
      · simp only [withD, nthD, Step2, nthDst, putO, postD]
        ((first | refine op_load ?_ | refine op_load_agg ?_ | refine op_load ?_ (hm := Sub.mem (by assumption) (by (repeat (apply List.mem_cons_of_mem)); assumption)) | refine op_load_agg ?_ (hm := Sub.mem (by assumption) (by (repeat (apply List.mem_cons_of_mem)); assumption)) | refine op_loadH hG rfl ?_ | refine op_load_aggH hG rfl ?_); exact ⟨[], rfl, rfl, rfl⟩)
      · simp only [withD, nthD, Step2, nthDst, putO, postD]
        (refine op_fieldAddr ?_; exact ⟨[], rfl, rfl, rfl⟩)
      · simp only [withD, nthD, Step2, nthDst, putO, postD]
        ((first | refine op_load ?_ | refine op_load_agg ?_ | refine op_load ?_ (hm := Sub.mem (by assumption) (by (repeat (apply List.mem_cons_of_mem)); assumption)) | refine op_load_agg ?_ (hm := Sub.mem (by assumption) (by (repeat (apply List.mem_cons_of_mem)); assumption)) | refine op_loadH hG rfl ?_ | refine op_load_aggH hG rfl ?_); exact ⟨[], rfl, rfl, rfl⟩)
      · simp only [withD, nthD, Step2, nthDst, putO, postD]
        (refine op_call ((qCmp _ _ _ _ 0 _ (by decide) (hay.mono fun e he => hG e (by simp [he])) (hpy.mono fun e he => hG e (by simp [he]))).mono ?_); rintro _ _ ⟨ex, rfl, rfl⟩; exact ⟨ex, rfl, rfl⟩)
      · simp only [withD, nthD, Step2, nthDst, putO, postD]
        rintro _ _ rfl -
        (refine op_icmp ?_; rw [gt_int, ← hA]; exact ⟨[], rfl, rfl, rfl⟩)
      · simp only [withD, nthD, Step2, nthDst, putO, postD]
        (refine op_fieldAddr ?_; exact ⟨[], rfl, rfl, rfl⟩)
      · simp only [withD, nthD, Step2, nthDst, putO, postD]
        ((first | refine op_load ?_ | refine op_load_agg ?_ | refine op_load ?_ (hm := Sub.mem (by assumption) (by (repeat (apply List.mem_cons_of_mem)); assumption)) | refine op_load_agg ?_ (hm := Sub.mem (by assumption) (by (repeat (apply List.mem_cons_of_mem)); assumption)) | refine op_loadH hG rfl ?_ | refine op_load_aggH hG rfl ?_); exact ⟨[], rfl, rfl, rfl⟩)
      · simp only [withD, nthD, Step2, nthDst, putO, postD]
        (refine op_fieldAddr ?_; exact ⟨[], rfl, rfl, rfl⟩)
      · simp only [withD, nthD, Step2, nthDst, putO, postD]
        ((first | refine op_load ?_ | refine op_load_agg ?_ | refine op_load ?_ (hm := Sub.mem (by assumption) (by (repeat (apply List.mem_cons_of_mem)); assumption)) | refine op_load_agg ?_ (hm := Sub.mem (by assumption) (by (repeat (apply List.mem_cons_of_mem)); assumption)) | refine op_loadH hG rfl ?_ | refine op_load_aggH hG rfl ?_); exact ⟨[], rfl, rfl, rfl⟩)
      · simp only [withD, nthD, Step2, nthDst, putO, postD]
        rintro _ _ rfl -
        (refine op_call ((qCmp _ _ _ _ 0 _ (by decide) (hby.mono fun e he => hG e (by simp [he])) (hpy.mono fun e he => hG e (by simp [he]))).mono ?_); rintro _ _ ⟨ex, rfl, rfl⟩; exact ⟨ex, rfl, rfl⟩)
      · simp only [withD, nthD, Step2, nthDst, putO, postD]
        rintro _ _ rfl -
        (refine op_icmp ?_; rw [gt_int, ← hN]; exact ⟨[], rfl, rfl, rfl⟩)
      · simp only [withD, nthD, Step2, nthDst, putO, postD]
        rintro _ _ rfl - _ _ rfl -
        (refine op_assign ?_; exact ⟨[], rfl, rfl, rfl⟩)
      simp only [FinalsD, nthDst, putO, List.drop_succ_cons, List.drop_zero]
      rintro _ _ _ _ ⟨rfl, rfl, -⟩
      try simp only [List.nil_append]
      clear hA hN hT
      cases A <;> cases N <;> cases T
      all_goals
        repeat' first
          | refine op_storeK rfl ?_
          | refine op_load_aggK rfl ?_
          | (refine op_call ((qOrient _ _ _ _ _ _ _ _ _ _ (ha0.mono fun e he => by simp [he]) (hb0.mono fun e he => by simp [he]) (hp0.mono fun e he => by simp [he])).mono ?_); rintro _ _ ⟨rfl, ex3, rfl⟩)
          | (refine op_icmp ?_; rw [hti])
          | (refine op_iarith ?_; rw [w2])
          | (first | refine tc_seq ?_ | refine tc_region ?_ | refine at_seq_normal ?_ | refine tl_nil ?_ | refine tl_cons ?_ | refine tl_cons_none ?_ | refine op_move ?_ | refine op_assign ?_ | refine op_fieldAddr ?_ | refine op_load ?_ | refine op_load_agg ?_ | refine op_indexC ?_ | refine op_indexAddr1 ?_ | refine op_indexAddr ?_ | refine op_icmp ?_ | refine op_iarith ?_ | refine op_bcmp ?_ | refine op_unop_not ?_ | refine op_len_slice ?_ | (refine op_alloc ?_; intro _) | (refine op_box ?_; intro _) | refine op_store0 ?_ | refine op_store1 ?_ | refine op_store2 ?_ | refine op_store3 ?_ | refine op_store4 ?_ | refine op_store5 ?_ | refine op_storeK rfl ?_ | refine op_loadK rfl ?_ | refine op_load_aggK rfl ?_ | refine tc_cond_t ?_ | refine tc_cond_f ?_ | refine tc_cond (fun _ => ?_) (fun _ => ?_) | refine tc_block ?_ | refine tc_skip ?_ | refine tc_ret ?_ | refine tc_exit ?_ | refine at_seq_ret ?_ | refine at_seq_exit ?_ | refine at_block_normal ?_ | refine at_block_ret ?_ | refine at_block_exit_self ?_ | refine at_block_exit_ne ?_ | refine at_loop_ret ?_ | refine at_loop_exit ?_ | fail)
          | fail
      all_goals exact at_loopK (j + 1, _) ⟨by simp only; omega, hlt, hinv⟩ (by simp only; omega) ⟨rfl, rfl, trivial⟩ (by repeat (first | exact trivial | refine ⟨rfl, ?_⟩)) (by (repeat (first | exact List.Sublist.refl _ | apply List.Sublist.cons_cons | apply List.Sublist.cons | refine List.Sublist.trans ?_ (List.sublist_append_right _ _))))
  · obtain rfl : j = n := by omega
    have hb : icmp .lss (j : Int) (j : Int) = false := by rw [lss_nat]; simp
    rw [Nat.sub_self] at hinv
    have hinv : (if odd then (0 : Int) else 2) = R := hinv
    cases odd with
    | true =>
      repeat' first
        | refine tc_seq ?_ | refine tc_region ?_ | refine at_seq_normal ?_ | refine tl_nil ?_ | refine tl_cons ?_ | refine tl_cons_none ?_ | refine op_move ?_ | refine op_assign ?_ | refine op_fieldAddr ?_ | refine op_load ?_
        | refine op_load_agg ?_ | refine op_indexC ?_ | refine op_indexAddr1 ?_ | refine op_indexAddr ?_ | refine op_icmp ?_ | refine op_iarith ?_ | refine op_bcmp ?_ | refine op_unop_not ?_ | refine op_len_slice ?_ | (refine op_alloc ?_; intro _)
        | (refine op_box ?_; intro _) | refine op_store0 ?_ | refine op_store1 ?_ | refine op_store2 ?_ | refine op_store3 ?_ | refine op_store4 ?_ | refine op_store5 ?_ | refine op_storeK rfl ?_ | refine op_loadK rfl ?_ | refine op_load_aggK rfl ?_
        | refine tc_cond_t ?_ | refine tc_cond_f ?_ | refine tc_cond (fun _ => ?_) (fun _ => ?_) | refine tc_block ?_ | refine tc_skip ?_ | refine tc_ret ?_ | refine tc_exit ?_ | refine at_seq_ret ?_ | refine at_seq_exit ?_ | refine at_block_normal ?_
        | refine at_block_ret ?_ | refine at_block_exit_self ?_ | refine at_block_exit_ne ?_ | refine at_loop_ret ?_ | refine at_loop_exit ?_
      exact ret_tmp (hG := List.Sublist.refl _) (hk := ⟨by rw [← hinv]; rfl, [_], rfl⟩)
    | false =>
      repeat' first
        | refine tc_seq ?_ | refine tc_region ?_ | refine at_seq_normal ?_ | refine tl_nil ?_ | refine tl_cons ?_ | refine tl_cons_none ?_ | refine op_move ?_ | refine op_assign ?_ | refine op_fieldAddr ?_ | refine op_load ?_
        | refine op_load_agg ?_ | refine op_indexC ?_ | refine op_indexAddr1 ?_ | refine op_indexAddr ?_ | refine op_icmp ?_ | refine op_iarith ?_ | refine op_bcmp ?_ | refine op_unop_not ?_ | refine op_len_slice ?_ | (refine op_alloc ?_; intro _)
        | (refine op_box ?_; intro _) | refine op_store0 ?_ | refine op_store1 ?_ | refine op_store2 ?_ | refine op_store3 ?_ | refine op_store4 ?_ | refine op_store5 ?_ | refine op_storeK rfl ?_ | refine op_loadK rfl ?_ | refine op_load_aggK rfl ?_
        | refine tc_cond_t ?_ | refine tc_cond_f ?_ | refine tc_cond (fun _ => ?_) (fun _ => ?_) | refine tc_block ?_ | refine tc_skip ?_ | refine tc_ret ?_ | refine tc_exit ?_ | refine at_seq_ret ?_ | refine at_seq_exit ?_ | refine at_block_normal ?_
        | refine at_block_ret ?_ | refine at_block_exit_self ?_ | refine at_block_exit_ne ?_ | refine at_loop_ret ?_ | refine at_loop_exit ?_
      exact ret_tmp (hG := List.Sublist.refl _) (hk := ⟨by rw [← hinv]; rfl, [_], rfl⟩)
end Go.Proofs.Ytomhkbijijdghaa.Rno

set_option linter.unusedVariables false
set_option linter.unusedSimpArgs false
namespace Go.Proofs.Ytomhkbijijdghaa.Sd
open Go.Lg Ieee

theorem xyLocate (l : Int) (stp n kp kr o c cp : Nat) (L : List Value) (Tp Tr : TypeId) (fp fz : Nat × Nat) (px py : Nat) (a b : Int) (x y : Nat → Nat) (X Y : Nat → Int) (H : Heap)
    (hl : 1 ≤ l) (hst : strideI l = (stp : Int)) (hs2 : 2 ≤ stp) (hs8 : stp ≤ 8) (hn2 : 2 ≤ n) (hn200 : n ≤ 200) (hcap : n * stp ≤ c)
    (mp : (kp, Obj.cells ⟨[.float .f64 px, .float .f64 py]⟩ Tp fp) ∈ H) (mr : (kr, Obj.cells ⟨L⟩ Tr fz) ∈ H)
    (fa : FI 16777216 px a) (fb : FI 16777216 py b)
    (hg : ∀ i, i < n → L[o + i * stp]? = some (.float .f64 (x i)) ∧ L[o + i * stp + 1]? = some (.float .f64 (y i)) ∧ FI 16777216 (x i) (X i) ∧ FI 16777216 (y i) (Y i)) :
    Does Try.prog 106 [.int .i64 l, .slice (some ⟨kp, 0, none⟩) 2 cp, .slice (some ⟨kr, o, none⟩) (n * stp) c] H fun w H' => w = .int .i64 (mloop a b (X 0, Y 0) (pf X Y 1 (n - 1)) 0) ∧ ∃ ex, H' = ex ++ H := by
  refine fn_enter 11 Try.func106 fun W => ?_
  repeat' first
    | (refine op_call ((ray l stp n kp kr o c cp L Tp Tr fp fz px py a b x y X Y _ hl hst hs2 hs8 hn2 hn200 hcap mp mr fa fb hg).mono ?_); rintro _ _ ⟨rfl, ex, rfl⟩)
    | (first | refine tc_seq ?_ | refine tc_region ?_ | refine at_seq_normal ?_ | refine tl_nil ?_ | refine tl_cons ?_ | refine op_move ?_ | refine op_assign ?_ | refine tc_ret ?_ | refine at_seq_ret ?_ | fail)
    | fail
  exact ret_tmp (hG := List.Sublist.refl _) (hk := ⟨rfl, ex, rfl⟩)
set_option maxRecDepth 100000 in
instance idle105 : IdleD Try.prog 105 2 where
  idle := fun cap w hl => by
    match cap, hl with
    | [p, q], _ =>
    have h0 : ∀ w : World, (eqGuard .neq 20 (.tmp 2) (.const .nilIface) .nilIface .nilIface).run Try.prog w = .ok () w := fun _ => rfl
    have h1 : ∀ w : World, (binOp .neq 20 .nilIface .nilIface).run Try.prog w = .ok (.bool false) w := fun w => by
      first
        | rfl
        | simp [binOp, Op.equal, Op.equalIn, go_sem]
    refine callsD_of_wpS Try.func105 rfl fun c₀ cs hu => ?_
    apply wpS_seq
    apply wpS_region
    simp [wpOpsS, go_sem, recoverD, hu, Try.ntmps105, Exit.thenS, h1]
    refine wpS_cond (t := false) (by simp [Act.eval, Array.replicate]) ?_
    simp only [Bool.false_eq_true, if_false]
    refine wpS_of_wp (wp_skip ?_)
    cases c₀
    simp_all [bodyPostS, results, Try.results105]
set_option maxHeartbeats 4000000 in
theorem implLocate (l : Int) (stp n kr o c : Nat) (L : List Value) (Tr : TypeId) (fz : Nat × Nat) (px py : Nat) (a b : Int) (x y : Nat → Nat) (X Y : Nat → Int) (H : Heap)
    (hl : 1 ≤ l) (hst : strideI l = (stp : Int)) (hs2 : 2 ≤ stp) (hs8 : stp ≤ 8) (hn2 : 2 ≤ n) (hn200 : n ≤ 200) (hcap : n * stp ≤ c)
    (mr : (kr, Obj.cells ⟨L⟩ Tr fz) ∈ H)
    (fa : FI 16777216 px a) (fb : FI 16777216 py b)
    (hg : ∀ i, i < n → L[o + i * stp]? = some (.float .f64 (x i)) ∧ L[o + i * stp + 1]? = some (.float .f64 (y i)) ∧ FI 16777216 (x i) (X i) ∧ FI 16777216 (y i) (Y i)) :
    Does Try.prog 46 [.int .i64 l, .agg ⟨[.float .f64 px, .float .f64 py]⟩, .slice (some ⟨kr, o, none⟩) (n * stp) c] H fun w H' => w = .tuple #[.int .i64 (mloop a b (X 0, Y 0) (pf X Y 1 (n - 1)) 0), .bool true] ∧ ∃ ex, H' = ex ++ H := by
  refine fn_enter_d 14 Try.func46 fun W => ?_
  repeat' first
    | (refine op_call ((Pl.coord _ _ _).mono ?_); rintro _ _ ⟨kp, rfl, rfl⟩)
    | (refine op_call ((xyLocate l stp n kp kr o c 2 L 36 Tr (0, 0) fz px py a b x y X Y _ hl hst hs2 hs8 hn2 hn200 hcap mem0 (by simp [mr]) fa fb hg).mono ?_); rintro _ _ ⟨rfl, ex, rfl⟩)
    | (first | refine tl_defer ?_ | refine tc_seq ?_ | refine tc_region ?_ | refine at_seq_normal ?_ | refine tl_nil ?_ | refine tl_cons ?_ | refine tl_cons_none ?_ | refine op_move ?_ | refine op_load ?_ | refine op_load_agg ?_ | refine op_makeMeth ?_ | refine op_makeFunc ?_ | (refine op_alloc ?_; intro _) | (refine op_box ?_; intro _) | refine op_store0 ?_ | refine op_store1 ?_ | refine op_store2 ?_ | refine op_store3 ?_ | refine op_store4 ?_ | refine op_store5 ?_ | refine op_storeK rfl ?_ | refine op_loadK rfl ?_ | refine op_load_aggK rfl ?_ | refine tc_ret ?_ | refine at_seq_ret ?_ | fail)
    | fail
  refine ret_door (m := 2) rfl rfl (.cons (rv_cell rfl) (.cons (rv_cell rfl) .nil)) rfl (List.Sublist.refl _) ⟨rfl, ?_⟩
  exact ExC.ex
end Go.Proofs.Ytomhkbijijdghaa.Sd
