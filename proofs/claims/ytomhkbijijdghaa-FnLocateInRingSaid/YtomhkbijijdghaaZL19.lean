/-
  robustdeterminate.SignOfDet2x2 on whole numbers: the sign of the determinant. No conditions beyond the bounds.
-/
import Derived.Test.YtomhkbijijdghaaZL4
import Derived.Test.YtomhkbijijdghaaZL7
import Derived.Test.YtomhkbijijdghaaZL9
set_option linter.unusedVariables false
set_option linter.unusedSimpArgs false
namespace Go.Proofs.Ytomhkbijijdghaa.Sd
open Go.Lg Ieee

theorem archFloor (x : Nat) (q : Rat) (H : Heap) (hx : Fv x q) : Does Try.prog 151 [.float .f64 x] H fun v H' => v = .float .f64 (double.write ((double.read x).integral .down)) ∧ H' = H :=
  does_floor Try.func151 rfl rfl (by kernel_rfl) (by kernel_rfl) hx
theorem floor (x : Nat) (q : Rat) (H : Heap) (hx : Fv x q) : Does Try.prog 150 [.float .f64 x] H fun v H' => v = .float .f64 (double.write ((double.read x).integral .down)) ∧ H' = H := by
  refine fn_enter 7 Try.func150 fun W => ?_
  repeat' first
    | (refine op_call ((archFloor _ q _ hx).mono ?_); rintro _ _ ⟨rfl, rfl⟩)
    | (first | refine tc_seq ?_ | refine tc_region ?_ | refine at_seq_normal ?_ | refine tl_nil ?_ | refine tl_cons ?_ | refine op_move ?_ | refine op_assign ?_ | refine tc_cond_t ?_ | refine tc_cond_f ?_ | refine tc_cond (fun _ => ?_) (fun _ => ?_) | refine tc_skip ?_ | refine tc_ret ?_ | refine at_seq_ret ?_ | fail)
    | fail
  exact ret_tmp (hk := ⟨rfl, rfl⟩)
theorem fv_zero : Fv 0 (0 : Rat) := ⟨false, 0, -1074, rfl, by simp⟩
theorem fi0 : FI 0 0 0 := ⟨by simpa using fv_zero, by decide, by decide⟩
theorem FI.lss {A B x y : Nat} {a b : Int} (h1 : FI A x a) (h2 : FI B y b) : fcmp .lss x y = decide (a < b) := by
  rw [fcmp_lss h1.fv h2.fv]; exact decide_eq_decide.2 Rat.intCast_lt_intCast
theorem FI.gtr {A B x y : Nat} {a b : Int} (h1 : FI A x a) (h2 : FI B y b) : fcmp .gtr x y = decide (b < a) := by
  rw [fcmp_gtr h1.fv h2.fv]; exact decide_eq_decide.2 Rat.intCast_lt_intCast
theorem FI.leq {A B x y : Nat} {a b : Int} (h1 : FI A x a) (h2 : FI B y b) : fcmp .leq x y = decide (a ≤ b) := by
  rw [fcmp_leq h1.fv h2.fv]; exact decide_eq_decide.2 Rat.intCast_le_intCast
theorem FI.geq {A B x y : Nat} {a b : Int} (h1 : FI A x a) (h2 : FI B y b) : fcmp .geq x y = decide (b ≤ a) := by
  rw [fcmp_geq h1.fv h2.fv]; exact decide_eq_decide.2 Rat.intCast_le_intCast
theorem _root_.Go.Lg.FI.neg {A x : Nat} {a : Int} (h1 : FI A x a) : FI A (Op.negFloat .f64 x) (-a) := ⟨by rw [Rat.intCast_neg]; exact h1.fv.neg, by have := h1.hi; omega, by have := h1.lo; omega⟩
theorem _root_.Go.Lg.FI.wide {x : Nat} {a : Int} (h : FI 33554432 x a) : FI 67108864 x a := ⟨h.fv, by have := h.lo; omega, by have := h.hi; omega⟩
theorem sg0 {n1 m2 m1 n2 : Int} (h : n1 = 0 ∨ m2 = 0) : Int.sign (n1 * m2 - m1 * n2) = -(Int.sign m1 * Int.sign n2) := by
  have : n1 * m2 = 0 := by rcases h with rfl | rfl <;> simp
  rw [this, Int.zero_sub, Int.sign_neg, Int.sign_mul]
theorem sg1 {n1 m2 m1 n2 : Int} (h : m1 = 0 ∨ n2 = 0) : Int.sign (n1 * m2 - m1 * n2) = Int.sign n1 * Int.sign m2 := by
  have : m1 * n2 = 0 := by rcases h with rfl | rfl <;> simp
  rw [this, Int.sub_zero, Int.sign_mul]
theorem xp1 {a b c d : Int} (hb : 0 < b) (hba : b < a) (hc : 0 < c) (hcd : c ≤ d) : 0 < a * d - c * b := by
  have h1 := Int.mul_pos hc (show 0 < a - b by omega)
  have h2 := Int.mul_nonneg (show 0 ≤ a by omega) (show 0 ≤ d - c by omega)
  have e : a * d - c * b = c * (a - b) + a * (d - c) := by grind
  omega
theorem xp2 {a b c d : Int} (ha : 0 < a) (hb : b < 0) (hc : 0 < c) (hd : 0 < d) : 0 < a * d - c * b := by
  have h1 := Int.mul_pos ha hd
  have h2 := Int.mul_neg_of_pos_of_neg hc hb
  omega
theorem xp3 {a b c d : Int} (ha : a < 0) (hb : 0 < b) (hc : 0 < c) (hd : 0 < d) : a * d - c * b < 0 := by
  have h1 := Int.mul_neg_of_neg_of_pos ha hd
  have h2 := Int.mul_pos hc hb
  omega
theorem xp4 {a b c d : Int} (hb : b < 0) (hba : a < b) (hc : 0 < c) (hcd : c ≤ d) : a * d - c * b < 0 := by
  have := xp1 (a := -a) (b := -b) (c := c) (d := d) (by omega) (by omega) hc hcd
  rw [Int.neg_mul, Int.mul_neg] at this
  omega
structure St where
  w1 : Nat
  w3 : Nat
  w2 : Nat
  w4 : Nat
  a : Int
  b : Int
  c : Int
  d : Int
  s : Int
  z : Int
def St.ok (T : Int) (i : St) : Prop := FI 67108864 i.w1 i.a ∧ FI 67108864 i.w2 i.b ∧ FI 67108864 i.w3 i.c ∧ FI 67108864 i.w4 i.d ∧ 0 < i.a ∧ i.a ≤ i.b ∧ 0 < i.c ∧ i.c ≤ i.d ∧ (i.s = 1 ∨ i.s = -1) ∧ T = i.s * Int.sign (i.a * i.d - i.c * i.b)
def St.okA (T : Int) (i : St) : Prop := FI 67108864 i.w1 i.a ∧ FI 67108864 i.w2 i.b ∧ FI 67108864 i.w3 i.c ∧ FI 67108864 i.w4 i.d ∧ i.a ≠ 0 ∧ i.b ≠ 0 ∧ 0 < i.c ∧ i.c ≤ i.d ∧ (i.s = 1 ∨ i.s = -1) ∧ T = i.s * Int.sign (i.a * i.d - i.c * i.b)
def St.env (i : St) : Env := [(0, .float .f64 i.w1), (1, .float .f64 i.w3), (2, .float .f64 i.w2), (3, .float .f64 i.w4), (12, .int .i64 i.s), (11, .int .i64 i.z)]
set_option maxHeartbeats 64000000 in
theorem signOf (w1 w3 w2 w4 : Nat) (n1 m1 n2 m2 : Int) (H : Heap) (f1 : FI 33554432 w1 n1) (f3 : FI 33554432 w3 m1) (f2 : FI 33554432 w2 n2) (f4 : FI 33554432 w4 m2) :
    Does Try.prog 148 [.float .f64 w1, .float .f64 w3, .float .f64 w2, .float .f64 w4] H fun w H' => w = .int .i64 (Int.sign (n1 * m2 - m1 * n2)) ∧ H' = H := by
  refine fn_enter 253 Try.func148 fun W => ?_
  obtain ⟨T, hT0⟩ : ∃ T, T = Int.sign (n1 * m2 - m1 * n2) := ⟨_, rfl⟩
  rw [← hT0]
  by_cases k1 : n1 = 0
  · have e1 : fcmp .eql w1 0 = true := by rw [FI.eql f1 fi0]; exact decide_eq_true k1
    by_cases k3 : m1 = 0
    · have e3 : fcmp .eql w3 0 = true := by rw [FI.eql f3 fi0]; exact decide_eq_true k3
      have s3 : Int.sign m1 = 0 := by rw [k3]; rfl
      repeat' first
        | (first | refine tc_seq ?_ | refine tc_region ?_ | refine at_seq_normal ?_ | refine tl_nil ?_ | refine tl_cons ?_ | refine op_move ?_ | refine op_assign ?_ | refine op_fcmp ?_ | refine op_iarith ?_ | refine op_unop_neg_float ?_ | refine op_unop_neg_int ?_ | refine op_pick_true ?_ | refine op_pick_false ?_ | refine op_pick_true' ?_ | refine op_pick_false' ?_ | (refine op_farith ?_; intro _ _) | refine tc_cond_t ?_ | refine tc_cond_f ?_ | refine tc_block ?_ | refine tc_skip ?_ | refine tc_ret ?_ | refine at_seq_ret ?_ | refine at_block_normal ?_ | refine at_block_ret ?_ | refine at_loop_ret ?_ | refine at_loop_exit ?_ | refine tl_guard_yes ?_ | refine tl_guard_no ?_ | refine tl_guard_yes' ?_ | refine tl_guard_no' ?_ | refine tl_guard_undef ?_ | fail)
        | fail
      exact ret_tmp (hk := ⟨congrArg (Value.int .i64) (by rw [hT0, sg0 (.inl k1), s3, Int.zero_mul]; rfl), rfl⟩)
    have e3 : fcmp .eql w3 0 = false := by rw [FI.eql f3 fi0]; exact decide_eq_false k3
    by_cases p3 : 0 < m1
    · have g3 : fcmp .gtr w3 0 = true := by rw [FI.gtr f3 fi0]; exact decide_eq_true p3
      have s3 : Int.sign m1 = 1 := Int.sign_eq_one_of_pos p3
      by_cases k2 : n2 = 0
      · have e2 : fcmp .eql w2 0 = true := by rw [FI.eql f2 fi0]; exact decide_eq_true k2
        have s2 : Int.sign n2 = 0 := by rw [k2]; rfl
        repeat' first
          | (first | refine tc_seq ?_ | refine tc_region ?_ | refine at_seq_normal ?_ | refine tl_nil ?_ | refine tl_cons ?_ | refine op_move ?_ | refine op_assign ?_ | refine op_fcmp ?_ | refine op_iarith ?_ | refine op_unop_neg_float ?_ | refine op_unop_neg_int ?_ | refine op_pick_true ?_ | refine op_pick_false ?_ | refine op_pick_true' ?_ | refine op_pick_false' ?_ | (refine op_farith ?_; intro _ _) | refine tc_cond_t ?_ | refine tc_cond_f ?_ | refine tc_block ?_ | refine tc_skip ?_ | refine tc_ret ?_ | refine at_seq_ret ?_ | refine at_block_normal ?_ | refine at_block_ret ?_ | refine at_loop_ret ?_ | refine at_loop_exit ?_ | refine tl_guard_yes ?_ | refine tl_guard_no ?_ | refine tl_guard_yes' ?_ | refine tl_guard_no' ?_ | refine tl_guard_undef ?_ | fail)
          | fail
        exact ret_tmp (hk := ⟨congrArg (Value.int .i64) (by rw [hT0, sg0 (.inl k1), s3, s2]; rfl), rfl⟩)
      have e2 : fcmp .eql w2 0 = false := by rw [FI.eql f2 fi0]; exact decide_eq_false k2
      by_cases p2 : 0 < n2
      · have g2 : fcmp .gtr w2 0 = true := by rw [FI.gtr f2 fi0]; exact decide_eq_true p2
        have s2 : Int.sign n2 = 1 := Int.sign_eq_one_of_pos p2
        repeat' first
          | (first | refine tc_seq ?_ | refine tc_region ?_ | refine at_seq_normal ?_ | refine tl_nil ?_ | refine tl_cons ?_ | refine op_move ?_ | refine op_assign ?_ | refine op_fcmp ?_ | refine op_iarith ?_ | refine op_unop_neg_float ?_ | refine op_unop_neg_int ?_ | refine op_pick_true ?_ | refine op_pick_false ?_ | refine op_pick_true' ?_ | refine op_pick_false' ?_ | (refine op_farith ?_; intro _ _) | refine tc_cond_t ?_ | refine tc_cond_f ?_ | refine tc_block ?_ | refine tc_skip ?_ | refine tc_ret ?_ | refine at_seq_ret ?_ | refine at_block_normal ?_ | refine at_block_ret ?_ | refine at_loop_ret ?_ | refine at_loop_exit ?_ | refine tl_guard_yes ?_ | refine tl_guard_no ?_ | refine tl_guard_yes' ?_ | refine tl_guard_no' ?_ | refine tl_guard_undef ?_ | fail)
          | fail
        exact ret_tmp (hk := ⟨congrArg (Value.int .i64) (by rw [hT0, sg0 (.inl k1), s3, s2]; rfl), rfl⟩)
      have g2 : fcmp .gtr w2 0 = false := by rw [FI.gtr f2 fi0]; exact decide_eq_false p2
      have s2 : Int.sign n2 = -1 := Int.sign_eq_neg_one_of_neg (by omega)
      repeat' first
        | (first | refine tc_seq ?_ | refine tc_region ?_ | refine at_seq_normal ?_ | refine tl_nil ?_ | refine tl_cons ?_ | refine op_move ?_ | refine op_assign ?_ | refine op_fcmp ?_ | refine op_iarith ?_ | refine op_unop_neg_float ?_ | refine op_unop_neg_int ?_ | refine op_pick_true ?_ | refine op_pick_false ?_ | refine op_pick_true' ?_ | refine op_pick_false' ?_ | (refine op_farith ?_; intro _ _) | refine tc_cond_t ?_ | refine tc_cond_f ?_ | refine tc_block ?_ | refine tc_skip ?_ | refine tc_ret ?_ | refine at_seq_ret ?_ | refine at_block_normal ?_ | refine at_block_ret ?_ | refine at_loop_ret ?_ | refine at_loop_exit ?_ | refine tl_guard_yes ?_ | refine tl_guard_no ?_ | refine tl_guard_yes' ?_ | refine tl_guard_no' ?_ | refine tl_guard_undef ?_ | fail)
        | fail
      exact ret_tmp (hk := ⟨congrArg (Value.int .i64) (by rw [hT0, sg0 (.inl k1), s3, s2]; rfl), rfl⟩)
    have g3 : fcmp .gtr w3 0 = false := by rw [FI.gtr f3 fi0]; exact decide_eq_false p3
    have s3 : Int.sign m1 = -1 := Int.sign_eq_neg_one_of_neg (by omega)
    by_cases k2 : n2 = 0
    · have e2 : fcmp .eql w2 0 = true := by rw [FI.eql f2 fi0]; exact decide_eq_true k2
      have s2 : Int.sign n2 = 0 := by rw [k2]; rfl
      repeat' first
        | (first | refine tc_seq ?_ | refine tc_region ?_ | refine at_seq_normal ?_ | refine tl_nil ?_ | refine tl_cons ?_ | refine op_move ?_ | refine op_assign ?_ | refine op_fcmp ?_ | refine op_iarith ?_ | refine op_unop_neg_float ?_ | refine op_unop_neg_int ?_ | refine op_pick_true ?_ | refine op_pick_false ?_ | refine op_pick_true' ?_ | refine op_pick_false' ?_ | (refine op_farith ?_; intro _ _) | refine tc_cond_t ?_ | refine tc_cond_f ?_ | refine tc_block ?_ | refine tc_skip ?_ | refine tc_ret ?_ | refine at_seq_ret ?_ | refine at_block_normal ?_ | refine at_block_ret ?_ | refine at_loop_ret ?_ | refine at_loop_exit ?_ | refine tl_guard_yes ?_ | refine tl_guard_no ?_ | refine tl_guard_yes' ?_ | refine tl_guard_no' ?_ | refine tl_guard_undef ?_ | fail)
        | fail
      exact ret_tmp (hk := ⟨congrArg (Value.int .i64) (by rw [hT0, sg0 (.inl k1), s3, s2]; rfl), rfl⟩)
    have e2 : fcmp .eql w2 0 = false := by rw [FI.eql f2 fi0]; exact decide_eq_false k2
    by_cases p2 : 0 < n2
    · have g2 : fcmp .gtr w2 0 = true := by rw [FI.gtr f2 fi0]; exact decide_eq_true p2
      have s2 : Int.sign n2 = 1 := Int.sign_eq_one_of_pos p2
      repeat' first
        | (first | refine tc_seq ?_ | refine tc_region ?_ | refine at_seq_normal ?_ | refine tl_nil ?_ | refine tl_cons ?_ | refine op_move ?_ | refine op_assign ?_ | refine op_fcmp ?_ | refine op_iarith ?_ | refine op_unop_neg_float ?_ | refine op_unop_neg_int ?_ | refine op_pick_true ?_ | refine op_pick_false ?_ | refine op_pick_true' ?_ | refine op_pick_false' ?_ | (refine op_farith ?_; intro _ _) | refine tc_cond_t ?_ | refine tc_cond_f ?_ | refine tc_block ?_ | refine tc_skip ?_ | refine tc_ret ?_ | refine at_seq_ret ?_ | refine at_block_normal ?_ | refine at_block_ret ?_ | refine at_loop_ret ?_ | refine at_loop_exit ?_ | refine tl_guard_yes ?_ | refine tl_guard_no ?_ | refine tl_guard_yes' ?_ | refine tl_guard_no' ?_ | refine tl_guard_undef ?_ | fail)
        | fail
      exact ret_tmp (hk := ⟨congrArg (Value.int .i64) (by rw [hT0, sg0 (.inl k1), s3, s2]; rfl), rfl⟩)
    have g2 : fcmp .gtr w2 0 = false := by rw [FI.gtr f2 fi0]; exact decide_eq_false p2
    have s2 : Int.sign n2 = -1 := Int.sign_eq_neg_one_of_neg (by omega)
    repeat' first
      | (first | refine tc_seq ?_ | refine tc_region ?_ | refine at_seq_normal ?_ | refine tl_nil ?_ | refine tl_cons ?_ | refine op_move ?_ | refine op_assign ?_ | refine op_fcmp ?_ | refine op_iarith ?_ | refine op_unop_neg_float ?_ | refine op_unop_neg_int ?_ | refine op_pick_true ?_ | refine op_pick_false ?_ | refine op_pick_true' ?_ | refine op_pick_false' ?_ | (refine op_farith ?_; intro _ _) | refine tc_cond_t ?_ | refine tc_cond_f ?_ | refine tc_block ?_ | refine tc_skip ?_ | refine tc_ret ?_ | refine at_seq_ret ?_ | refine at_block_normal ?_ | refine at_block_ret ?_ | refine at_loop_ret ?_ | refine at_loop_exit ?_ | refine tl_guard_yes ?_ | refine tl_guard_no ?_ | refine tl_guard_yes' ?_ | refine tl_guard_no' ?_ | refine tl_guard_undef ?_ | fail)
      | fail
    exact ret_tmp (hk := ⟨congrArg (Value.int .i64) (by rw [hT0, sg0 (.inl k1), s3, s2]; rfl), rfl⟩)
  have e1 : fcmp .eql w1 0 = false := by rw [FI.eql f1 fi0]; exact decide_eq_false k1
  by_cases k4 : m2 = 0
  · have e4 : fcmp .eql w4 0 = true := by rw [FI.eql f4 fi0]; exact decide_eq_true k4
    by_cases k3 : m1 = 0
    · have e3 : fcmp .eql w3 0 = true := by rw [FI.eql f3 fi0]; exact decide_eq_true k3
      have s3 : Int.sign m1 = 0 := by rw [k3]; rfl
      repeat' first
        | (first | refine tc_seq ?_ | refine tc_region ?_ | refine at_seq_normal ?_ | refine tl_nil ?_ | refine tl_cons ?_ | refine op_move ?_ | refine op_assign ?_ | refine op_fcmp ?_ | refine op_iarith ?_ | refine op_unop_neg_float ?_ | refine op_unop_neg_int ?_ | refine op_pick_true ?_ | refine op_pick_false ?_ | refine op_pick_true' ?_ | refine op_pick_false' ?_ | (refine op_farith ?_; intro _ _) | refine tc_cond_t ?_ | refine tc_cond_f ?_ | refine tc_block ?_ | refine tc_skip ?_ | refine tc_ret ?_ | refine at_seq_ret ?_ | refine at_block_normal ?_ | refine at_block_ret ?_ | refine at_loop_ret ?_ | refine at_loop_exit ?_ | refine tl_guard_yes ?_ | refine tl_guard_no ?_ | refine tl_guard_yes' ?_ | refine tl_guard_no' ?_ | refine tl_guard_undef ?_ | fail)
        | fail
      exact ret_tmp (hk := ⟨congrArg (Value.int .i64) (by rw [hT0, sg0 (.inr k4), s3, Int.zero_mul]; rfl), rfl⟩)
    have e3 : fcmp .eql w3 0 = false := by rw [FI.eql f3 fi0]; exact decide_eq_false k3
    by_cases p3 : 0 < m1
    · have g3 : fcmp .gtr w3 0 = true := by rw [FI.gtr f3 fi0]; exact decide_eq_true p3
      have s3 : Int.sign m1 = 1 := Int.sign_eq_one_of_pos p3
      by_cases k2 : n2 = 0
      · have e2 : fcmp .eql w2 0 = true := by rw [FI.eql f2 fi0]; exact decide_eq_true k2
        have s2 : Int.sign n2 = 0 := by rw [k2]; rfl
        repeat' first
          | (first | refine tc_seq ?_ | refine tc_region ?_ | refine at_seq_normal ?_ | refine tl_nil ?_ | refine tl_cons ?_ | refine op_move ?_ | refine op_assign ?_ | refine op_fcmp ?_ | refine op_iarith ?_ | refine op_unop_neg_float ?_ | refine op_unop_neg_int ?_ | refine op_pick_true ?_ | refine op_pick_false ?_ | refine op_pick_true' ?_ | refine op_pick_false' ?_ | (refine op_farith ?_; intro _ _) | refine tc_cond_t ?_ | refine tc_cond_f ?_ | refine tc_block ?_ | refine tc_skip ?_ | refine tc_ret ?_ | refine at_seq_ret ?_ | refine at_block_normal ?_ | refine at_block_ret ?_ | refine at_loop_ret ?_ | refine at_loop_exit ?_ | refine tl_guard_yes ?_ | refine tl_guard_no ?_ | refine tl_guard_yes' ?_ | refine tl_guard_no' ?_ | refine tl_guard_undef ?_ | fail)
          | fail
        exact ret_tmp (hk := ⟨congrArg (Value.int .i64) (by rw [hT0, sg0 (.inr k4), s3, s2]; rfl), rfl⟩)
      have e2 : fcmp .eql w2 0 = false := by rw [FI.eql f2 fi0]; exact decide_eq_false k2
      by_cases p2 : 0 < n2
      · have g2 : fcmp .gtr w2 0 = true := by rw [FI.gtr f2 fi0]; exact decide_eq_true p2
        have s2 : Int.sign n2 = 1 := Int.sign_eq_one_of_pos p2
        repeat' first
          | (first | refine tc_seq ?_ | refine tc_region ?_ | refine at_seq_normal ?_ | refine tl_nil ?_ | refine tl_cons ?_ | refine op_move ?_ | refine op_assign ?_ | refine op_fcmp ?_ | refine op_iarith ?_ | refine op_unop_neg_float ?_ | refine op_unop_neg_int ?_ | refine op_pick_true ?_ | refine op_pick_false ?_ | refine op_pick_true' ?_ | refine op_pick_false' ?_ | (refine op_farith ?_; intro _ _) | refine tc_cond_t ?_ | refine tc_cond_f ?_ | refine tc_block ?_ | refine tc_skip ?_ | refine tc_ret ?_ | refine at_seq_ret ?_ | refine at_block_normal ?_ | refine at_block_ret ?_ | refine at_loop_ret ?_ | refine at_loop_exit ?_ | refine tl_guard_yes ?_ | refine tl_guard_no ?_ | refine tl_guard_yes' ?_ | refine tl_guard_no' ?_ | refine tl_guard_undef ?_ | fail)
          | fail
        exact ret_tmp (hk := ⟨congrArg (Value.int .i64) (by rw [hT0, sg0 (.inr k4), s3, s2]; rfl), rfl⟩)
      have g2 : fcmp .gtr w2 0 = false := by rw [FI.gtr f2 fi0]; exact decide_eq_false p2
      have s2 : Int.sign n2 = -1 := Int.sign_eq_neg_one_of_neg (by omega)
      repeat' first
        | (first | refine tc_seq ?_ | refine tc_region ?_ | refine at_seq_normal ?_ | refine tl_nil ?_ | refine tl_cons ?_ | refine op_move ?_ | refine op_assign ?_ | refine op_fcmp ?_ | refine op_iarith ?_ | refine op_unop_neg_float ?_ | refine op_unop_neg_int ?_ | refine op_pick_true ?_ | refine op_pick_false ?_ | refine op_pick_true' ?_ | refine op_pick_false' ?_ | (refine op_farith ?_; intro _ _) | refine tc_cond_t ?_ | refine tc_cond_f ?_ | refine tc_block ?_ | refine tc_skip ?_ | refine tc_ret ?_ | refine at_seq_ret ?_ | refine at_block_normal ?_ | refine at_block_ret ?_ | refine at_loop_ret ?_ | refine at_loop_exit ?_ | refine tl_guard_yes ?_ | refine tl_guard_no ?_ | refine tl_guard_yes' ?_ | refine tl_guard_no' ?_ | refine tl_guard_undef ?_ | fail)
        | fail
      exact ret_tmp (hk := ⟨congrArg (Value.int .i64) (by rw [hT0, sg0 (.inr k4), s3, s2]; rfl), rfl⟩)
    have g3 : fcmp .gtr w3 0 = false := by rw [FI.gtr f3 fi0]; exact decide_eq_false p3
    have s3 : Int.sign m1 = -1 := Int.sign_eq_neg_one_of_neg (by omega)
    by_cases k2 : n2 = 0
    · have e2 : fcmp .eql w2 0 = true := by rw [FI.eql f2 fi0]; exact decide_eq_true k2
      have s2 : Int.sign n2 = 0 := by rw [k2]; rfl
      repeat' first
        | (first | refine tc_seq ?_ | refine tc_region ?_ | refine at_seq_normal ?_ | refine tl_nil ?_ | refine tl_cons ?_ | refine op_move ?_ | refine op_assign ?_ | refine op_fcmp ?_ | refine op_iarith ?_ | refine op_unop_neg_float ?_ | refine op_unop_neg_int ?_ | refine op_pick_true ?_ | refine op_pick_false ?_ | refine op_pick_true' ?_ | refine op_pick_false' ?_ | (refine op_farith ?_; intro _ _) | refine tc_cond_t ?_ | refine tc_cond_f ?_ | refine tc_block ?_ | refine tc_skip ?_ | refine tc_ret ?_ | refine at_seq_ret ?_ | refine at_block_normal ?_ | refine at_block_ret ?_ | refine at_loop_ret ?_ | refine at_loop_exit ?_ | refine tl_guard_yes ?_ | refine tl_guard_no ?_ | refine tl_guard_yes' ?_ | refine tl_guard_no' ?_ | refine tl_guard_undef ?_ | fail)
        | fail
      exact ret_tmp (hk := ⟨congrArg (Value.int .i64) (by rw [hT0, sg0 (.inr k4), s3, s2]; rfl), rfl⟩)
    have e2 : fcmp .eql w2 0 = false := by rw [FI.eql f2 fi0]; exact decide_eq_false k2
    by_cases p2 : 0 < n2
    · have g2 : fcmp .gtr w2 0 = true := by rw [FI.gtr f2 fi0]; exact decide_eq_true p2
      have s2 : Int.sign n2 = 1 := Int.sign_eq_one_of_pos p2
      repeat' first
        | (first | refine tc_seq ?_ | refine tc_region ?_ | refine at_seq_normal ?_ | refine tl_nil ?_ | refine tl_cons ?_ | refine op_move ?_ | refine op_assign ?_ | refine op_fcmp ?_ | refine op_iarith ?_ | refine op_unop_neg_float ?_ | refine op_unop_neg_int ?_ | refine op_pick_true ?_ | refine op_pick_false ?_ | refine op_pick_true' ?_ | refine op_pick_false' ?_ | (refine op_farith ?_; intro _ _) | refine tc_cond_t ?_ | refine tc_cond_f ?_ | refine tc_block ?_ | refine tc_skip ?_ | refine tc_ret ?_ | refine at_seq_ret ?_ | refine at_block_normal ?_ | refine at_block_ret ?_ | refine at_loop_ret ?_ | refine at_loop_exit ?_ | refine tl_guard_yes ?_ | refine tl_guard_no ?_ | refine tl_guard_yes' ?_ | refine tl_guard_no' ?_ | refine tl_guard_undef ?_ | fail)
        | fail
      exact ret_tmp (hk := ⟨congrArg (Value.int .i64) (by rw [hT0, sg0 (.inr k4), s3, s2]; rfl), rfl⟩)
    have g2 : fcmp .gtr w2 0 = false := by rw [FI.gtr f2 fi0]; exact decide_eq_false p2
    have s2 : Int.sign n2 = -1 := Int.sign_eq_neg_one_of_neg (by omega)
    repeat' first
      | (first | refine tc_seq ?_ | refine tc_region ?_ | refine at_seq_normal ?_ | refine tl_nil ?_ | refine tl_cons ?_ | refine op_move ?_ | refine op_assign ?_ | refine op_fcmp ?_ | refine op_iarith ?_ | refine op_unop_neg_float ?_ | refine op_unop_neg_int ?_ | refine op_pick_true ?_ | refine op_pick_false ?_ | refine op_pick_true' ?_ | refine op_pick_false' ?_ | (refine op_farith ?_; intro _ _) | refine tc_cond_t ?_ | refine tc_cond_f ?_ | refine tc_block ?_ | refine tc_skip ?_ | refine tc_ret ?_ | refine at_seq_ret ?_ | refine at_block_normal ?_ | refine at_block_ret ?_ | refine at_loop_ret ?_ | refine at_loop_exit ?_ | refine tl_guard_yes ?_ | refine tl_guard_no ?_ | refine tl_guard_yes' ?_ | refine tl_guard_no' ?_ | refine tl_guard_undef ?_ | fail)
      | fail
    exact ret_tmp (hk := ⟨congrArg (Value.int .i64) (by rw [hT0, sg0 (.inr k4), s3, s2]; rfl), rfl⟩)
  have e4 : fcmp .eql w4 0 = false := by rw [FI.eql f4 fi0]; exact decide_eq_false k4
  by_cases k3 : m1 = 0
  · have e3 : fcmp .eql w3 0 = true := by rw [FI.eql f3 fi0]; exact decide_eq_true k3
    by_cases p4 : 0 < m2
    · have g4 : fcmp .gtr w4 0 = true := by rw [FI.gtr f4 fi0]; exact decide_eq_true p4
      have s4 : Int.sign m2 = 1 := Int.sign_eq_one_of_pos p4
      by_cases p1 : 0 < n1
      · have g1 : fcmp .gtr w1 0 = true := by rw [FI.gtr f1 fi0]; exact decide_eq_true p1
        have s1 : Int.sign n1 = 1 := Int.sign_eq_one_of_pos p1
        repeat' first
          | (first | refine tc_seq ?_ | refine tc_region ?_ | refine at_seq_normal ?_ | refine tl_nil ?_ | refine tl_cons ?_ | refine op_move ?_ | refine op_assign ?_ | refine op_fcmp ?_ | refine op_iarith ?_ | refine op_unop_neg_float ?_ | refine op_unop_neg_int ?_ | refine op_pick_true ?_ | refine op_pick_false ?_ | refine op_pick_true' ?_ | refine op_pick_false' ?_ | (refine op_farith ?_; intro _ _) | refine tc_cond_t ?_ | refine tc_cond_f ?_ | refine tc_block ?_ | refine tc_skip ?_ | refine tc_ret ?_ | refine at_seq_ret ?_ | refine at_block_normal ?_ | refine at_block_ret ?_ | refine at_loop_ret ?_ | refine at_loop_exit ?_ | refine tl_guard_yes ?_ | refine tl_guard_no ?_ | refine tl_guard_yes' ?_ | refine tl_guard_no' ?_ | refine tl_guard_undef ?_ | fail)
          | fail
        exact ret_tmp (hk := ⟨congrArg (Value.int .i64) (by rw [hT0, sg1 (.inl k3), s1, s4]; rfl), rfl⟩)
      have g1 : fcmp .gtr w1 0 = false := by rw [FI.gtr f1 fi0]; exact decide_eq_false p1
      have s1 : Int.sign n1 = -1 := Int.sign_eq_neg_one_of_neg (by omega)
      repeat' first
        | (first | refine tc_seq ?_ | refine tc_region ?_ | refine at_seq_normal ?_ | refine tl_nil ?_ | refine tl_cons ?_ | refine op_move ?_ | refine op_assign ?_ | refine op_fcmp ?_ | refine op_iarith ?_ | refine op_unop_neg_float ?_ | refine op_unop_neg_int ?_ | refine op_pick_true ?_ | refine op_pick_false ?_ | refine op_pick_true' ?_ | refine op_pick_false' ?_ | (refine op_farith ?_; intro _ _) | refine tc_cond_t ?_ | refine tc_cond_f ?_ | refine tc_block ?_ | refine tc_skip ?_ | refine tc_ret ?_ | refine at_seq_ret ?_ | refine at_block_normal ?_ | refine at_block_ret ?_ | refine at_loop_ret ?_ | refine at_loop_exit ?_ | refine tl_guard_yes ?_ | refine tl_guard_no ?_ | refine tl_guard_yes' ?_ | refine tl_guard_no' ?_ | refine tl_guard_undef ?_ | fail)
        | fail
      exact ret_tmp (hk := ⟨congrArg (Value.int .i64) (by rw [hT0, sg1 (.inl k3), s1, s4]; rfl), rfl⟩)
    have g4 : fcmp .gtr w4 0 = false := by rw [FI.gtr f4 fi0]; exact decide_eq_false p4
    have s4 : Int.sign m2 = -1 := Int.sign_eq_neg_one_of_neg (by omega)
    by_cases p1 : 0 < n1
    · have g1 : fcmp .gtr w1 0 = true := by rw [FI.gtr f1 fi0]; exact decide_eq_true p1
      have s1 : Int.sign n1 = 1 := Int.sign_eq_one_of_pos p1
      repeat' first
        | (first | refine tc_seq ?_ | refine tc_region ?_ | refine at_seq_normal ?_ | refine tl_nil ?_ | refine tl_cons ?_ | refine op_move ?_ | refine op_assign ?_ | refine op_fcmp ?_ | refine op_iarith ?_ | refine op_unop_neg_float ?_ | refine op_unop_neg_int ?_ | refine op_pick_true ?_ | refine op_pick_false ?_ | refine op_pick_true' ?_ | refine op_pick_false' ?_ | (refine op_farith ?_; intro _ _) | refine tc_cond_t ?_ | refine tc_cond_f ?_ | refine tc_block ?_ | refine tc_skip ?_ | refine tc_ret ?_ | refine at_seq_ret ?_ | refine at_block_normal ?_ | refine at_block_ret ?_ | refine at_loop_ret ?_ | refine at_loop_exit ?_ | refine tl_guard_yes ?_ | refine tl_guard_no ?_ | refine tl_guard_yes' ?_ | refine tl_guard_no' ?_ | refine tl_guard_undef ?_ | fail)
        | fail
      exact ret_tmp (hk := ⟨congrArg (Value.int .i64) (by rw [hT0, sg1 (.inl k3), s1, s4]; rfl), rfl⟩)
    have g1 : fcmp .gtr w1 0 = false := by rw [FI.gtr f1 fi0]; exact decide_eq_false p1
    have s1 : Int.sign n1 = -1 := Int.sign_eq_neg_one_of_neg (by omega)
    repeat' first
      | (first | refine tc_seq ?_ | refine tc_region ?_ | refine at_seq_normal ?_ | refine tl_nil ?_ | refine tl_cons ?_ | refine op_move ?_ | refine op_assign ?_ | refine op_fcmp ?_ | refine op_iarith ?_ | refine op_unop_neg_float ?_ | refine op_unop_neg_int ?_ | refine op_pick_true ?_ | refine op_pick_false ?_ | refine op_pick_true' ?_ | refine op_pick_false' ?_ | (refine op_farith ?_; intro _ _) | refine tc_cond_t ?_ | refine tc_cond_f ?_ | refine tc_block ?_ | refine tc_skip ?_ | refine tc_ret ?_ | refine at_seq_ret ?_ | refine at_block_normal ?_ | refine at_block_ret ?_ | refine at_loop_ret ?_ | refine at_loop_exit ?_ | refine tl_guard_yes ?_ | refine tl_guard_no ?_ | refine tl_guard_yes' ?_ | refine tl_guard_no' ?_ | refine tl_guard_undef ?_ | fail)
      | fail
    exact ret_tmp (hk := ⟨congrArg (Value.int .i64) (by rw [hT0, sg1 (.inl k3), s1, s4]; rfl), rfl⟩)
  have e3 : fcmp .eql w3 0 = false := by rw [FI.eql f3 fi0]; exact decide_eq_false k3
  by_cases k2 : n2 = 0
  · have e2 : fcmp .eql w2 0 = true := by rw [FI.eql f2 fi0]; exact decide_eq_true k2
    by_cases p4 : 0 < m2
    · have g4 : fcmp .gtr w4 0 = true := by rw [FI.gtr f4 fi0]; exact decide_eq_true p4
      have s4 : Int.sign m2 = 1 := Int.sign_eq_one_of_pos p4
      by_cases p1 : 0 < n1
      · have g1 : fcmp .gtr w1 0 = true := by rw [FI.gtr f1 fi0]; exact decide_eq_true p1
        have s1 : Int.sign n1 = 1 := Int.sign_eq_one_of_pos p1
        repeat' first
          | (first | refine tc_seq ?_ | refine tc_region ?_ | refine at_seq_normal ?_ | refine tl_nil ?_ | refine tl_cons ?_ | refine op_move ?_ | refine op_assign ?_ | refine op_fcmp ?_ | refine op_iarith ?_ | refine op_unop_neg_float ?_ | refine op_unop_neg_int ?_ | refine op_pick_true ?_ | refine op_pick_false ?_ | refine op_pick_true' ?_ | refine op_pick_false' ?_ | (refine op_farith ?_; intro _ _) | refine tc_cond_t ?_ | refine tc_cond_f ?_ | refine tc_block ?_ | refine tc_skip ?_ | refine tc_ret ?_ | refine at_seq_ret ?_ | refine at_block_normal ?_ | refine at_block_ret ?_ | refine at_loop_ret ?_ | refine at_loop_exit ?_ | refine tl_guard_yes ?_ | refine tl_guard_no ?_ | refine tl_guard_yes' ?_ | refine tl_guard_no' ?_ | refine tl_guard_undef ?_ | fail)
          | fail
        exact ret_tmp (hk := ⟨congrArg (Value.int .i64) (by rw [hT0, sg1 (.inr k2), s1, s4]; rfl), rfl⟩)
      have g1 : fcmp .gtr w1 0 = false := by rw [FI.gtr f1 fi0]; exact decide_eq_false p1
      have s1 : Int.sign n1 = -1 := Int.sign_eq_neg_one_of_neg (by omega)
      repeat' first
        | (first | refine tc_seq ?_ | refine tc_region ?_ | refine at_seq_normal ?_ | refine tl_nil ?_ | refine tl_cons ?_ | refine op_move ?_ | refine op_assign ?_ | refine op_fcmp ?_ | refine op_iarith ?_ | refine op_unop_neg_float ?_ | refine op_unop_neg_int ?_ | refine op_pick_true ?_ | refine op_pick_false ?_ | refine op_pick_true' ?_ | refine op_pick_false' ?_ | (refine op_farith ?_; intro _ _) | refine tc_cond_t ?_ | refine tc_cond_f ?_ | refine tc_block ?_ | refine tc_skip ?_ | refine tc_ret ?_ | refine at_seq_ret ?_ | refine at_block_normal ?_ | refine at_block_ret ?_ | refine at_loop_ret ?_ | refine at_loop_exit ?_ | refine tl_guard_yes ?_ | refine tl_guard_no ?_ | refine tl_guard_yes' ?_ | refine tl_guard_no' ?_ | refine tl_guard_undef ?_ | fail)
        | fail
      exact ret_tmp (hk := ⟨congrArg (Value.int .i64) (by rw [hT0, sg1 (.inr k2), s1, s4]; rfl), rfl⟩)
    have g4 : fcmp .gtr w4 0 = false := by rw [FI.gtr f4 fi0]; exact decide_eq_false p4
    have s4 : Int.sign m2 = -1 := Int.sign_eq_neg_one_of_neg (by omega)
    by_cases p1 : 0 < n1
    · have g1 : fcmp .gtr w1 0 = true := by rw [FI.gtr f1 fi0]; exact decide_eq_true p1
      have s1 : Int.sign n1 = 1 := Int.sign_eq_one_of_pos p1
      repeat' first
        | (first | refine tc_seq ?_ | refine tc_region ?_ | refine at_seq_normal ?_ | refine tl_nil ?_ | refine tl_cons ?_ | refine op_move ?_ | refine op_assign ?_ | refine op_fcmp ?_ | refine op_iarith ?_ | refine op_unop_neg_float ?_ | refine op_unop_neg_int ?_ | refine op_pick_true ?_ | refine op_pick_false ?_ | refine op_pick_true' ?_ | refine op_pick_false' ?_ | (refine op_farith ?_; intro _ _) | refine tc_cond_t ?_ | refine tc_cond_f ?_ | refine tc_block ?_ | refine tc_skip ?_ | refine tc_ret ?_ | refine at_seq_ret ?_ | refine at_block_normal ?_ | refine at_block_ret ?_ | refine at_loop_ret ?_ | refine at_loop_exit ?_ | refine tl_guard_yes ?_ | refine tl_guard_no ?_ | refine tl_guard_yes' ?_ | refine tl_guard_no' ?_ | refine tl_guard_undef ?_ | fail)
        | fail
      exact ret_tmp (hk := ⟨congrArg (Value.int .i64) (by rw [hT0, sg1 (.inr k2), s1, s4]; rfl), rfl⟩)
    have g1 : fcmp .gtr w1 0 = false := by rw [FI.gtr f1 fi0]; exact decide_eq_false p1
    have s1 : Int.sign n1 = -1 := Int.sign_eq_neg_one_of_neg (by omega)
    repeat' first
      | (first | refine tc_seq ?_ | refine tc_region ?_ | refine at_seq_normal ?_ | refine tl_nil ?_ | refine tl_cons ?_ | refine op_move ?_ | refine op_assign ?_ | refine op_fcmp ?_ | refine op_iarith ?_ | refine op_unop_neg_float ?_ | refine op_unop_neg_int ?_ | refine op_pick_true ?_ | refine op_pick_false ?_ | refine op_pick_true' ?_ | refine op_pick_false' ?_ | (refine op_farith ?_; intro _ _) | refine tc_cond_t ?_ | refine tc_cond_f ?_ | refine tc_block ?_ | refine tc_skip ?_ | refine tc_ret ?_ | refine at_seq_ret ?_ | refine at_block_normal ?_ | refine at_block_ret ?_ | refine at_loop_ret ?_ | refine at_loop_exit ?_ | refine tl_guard_yes ?_ | refine tl_guard_no ?_ | refine tl_guard_yes' ?_ | refine tl_guard_no' ?_ | refine tl_guard_undef ?_ | fail)
      | fail
    exact ret_tmp (hk := ⟨congrArg (Value.int .i64) (by rw [hT0, sg1 (.inr k2), s1, s4]; rfl), rfl⟩)
  have e2 : fcmp .eql w2 0 = false := by rw [FI.eql f2 fi0]; exact decide_eq_false k2
  repeat' first
    | (first | refine tc_seq ?_ | refine tc_region ?_ | refine at_seq_normal ?_ | refine tl_nil ?_ | refine tl_cons ?_ | refine op_move ?_ | refine op_assign ?_ | refine op_fcmp ?_ | refine op_iarith ?_ | refine op_unop_neg_float ?_ | refine op_unop_neg_int ?_ | refine op_pick_true ?_ | refine op_pick_false ?_ | refine op_pick_true' ?_ | refine op_pick_false' ?_ | (refine op_farith ?_; intro _ _) | refine tc_cond_t ?_ | refine tc_cond_f ?_ | refine tc_block ?_ | refine tc_skip ?_ | refine tc_ret ?_ | refine at_seq_ret ?_ | refine at_block_normal ?_ | refine at_block_ret ?_ | refine at_loop_ret ?_ | refine at_loop_exit ?_ | refine tl_guard_yes ?_ | refine tl_guard_no ?_ | refine tl_guard_yes' ?_ | refine tl_guard_no' ?_ | refine tl_guard_undef ?_ | fail)
    | fail
  refine tc_mid St.env (St.okA T) ?_ ?_
  rotate_left
  · intro hcut
    by_cases q1 : 0 < m1
    · have hq1 : fcmp .lss 0 w3 = true := by rw [FI.lss fi0 f3]; exact decide_eq_true q1
      by_cases q2 : 0 < m2
      · have hq2 : fcmp .lss 0 w4 = true := by rw [FI.lss fi0 f4]; exact decide_eq_true q2
        by_cases q3 : m2 < m1
        · have hq3 : fcmp .gtr w3 w4 = true := by rw [FI.gtr f3 f4]; exact decide_eq_true q3
          repeat' first
            | refine at_cut hcut ⟨w2, w4, w1, w3, n2, n1, m2, m1, -1, 0⟩ ?_ ⟨rfl, rfl, rfl, rfl, rfl, rfl, trivial⟩ (List.Sublist.refl _)
            | (first | refine tc_seq ?_ | refine tc_region ?_ | refine at_seq_normal ?_ | refine tl_nil ?_ | refine tl_cons ?_ | refine op_move ?_ | refine op_assign ?_ | refine op_fcmp ?_ | refine op_iarith ?_ | refine op_unop_neg_float ?_ | refine op_unop_neg_int ?_ | refine op_pick_true ?_ | refine op_pick_false ?_ | refine op_pick_true' ?_ | refine op_pick_false' ?_ | (refine op_farith ?_; intro _ _) | refine tc_cond_t ?_ | refine tc_cond_f ?_ | refine tc_block ?_ | refine tc_skip ?_ | refine tc_ret ?_ | refine at_seq_ret ?_ | refine at_block_normal ?_ | refine at_block_ret ?_ | refine at_loop_ret ?_ | refine at_loop_exit ?_ | refine tl_guard_yes ?_ | refine tl_guard_no ?_ | refine tl_guard_yes' ?_ | refine tl_guard_no' ?_ | refine tl_guard_undef ?_ | fail)
            | fail
          exact ⟨f2.wide, f1.wide, f4.wide, f3.wide, (show n2 ≠ 0 by omega), (show n1 ≠ 0 by omega), (show 0 < m2 by omega), (show m2 ≤ m1 by omega), .inr rfl, (show T = -1 * Int.sign (n2 * m1 - m2 * n1) by rw [hT0, show n2 * m1 - m2 * n1 = -(n1 * m2 - m1 * n2) by grind, Int.sign_neg]; omega)⟩
        have hq3 : fcmp .gtr w3 w4 = false := by rw [FI.gtr f3 f4]; exact decide_eq_false q3
        repeat' first
          | refine at_cut hcut ⟨w1, w3, w2, w4, n1, n2, m1, m2, 1, 0⟩ ?_ ⟨rfl, rfl, rfl, rfl, rfl, rfl, trivial⟩ (List.Sublist.refl _)
          | (first | refine tc_seq ?_ | refine tc_region ?_ | refine at_seq_normal ?_ | refine tl_nil ?_ | refine tl_cons ?_ | refine op_move ?_ | refine op_assign ?_ | refine op_fcmp ?_ | refine op_iarith ?_ | refine op_unop_neg_float ?_ | refine op_unop_neg_int ?_ | refine op_pick_true ?_ | refine op_pick_false ?_ | refine op_pick_true' ?_ | refine op_pick_false' ?_ | (refine op_farith ?_; intro _ _) | refine tc_cond_t ?_ | refine tc_cond_f ?_ | refine tc_block ?_ | refine tc_skip ?_ | refine tc_ret ?_ | refine at_seq_ret ?_ | refine at_block_normal ?_ | refine at_block_ret ?_ | refine at_loop_ret ?_ | refine at_loop_exit ?_ | refine tl_guard_yes ?_ | refine tl_guard_no ?_ | refine tl_guard_yes' ?_ | refine tl_guard_no' ?_ | refine tl_guard_undef ?_ | fail)
          | fail
        exact ⟨f1.wide, f2.wide, f3.wide, f4.wide, (show n1 ≠ 0 by omega), (show n2 ≠ 0 by omega), (show 0 < m1 by omega), (show m1 ≤ m2 by omega), .inl rfl, (show T = 1 * Int.sign (n1 * m2 - m1 * n2) by rw [hT0, show n1 * m2 - m1 * n2 = n1 * m2 - m1 * n2 by grind, Int.one_mul])⟩
      have hq2 : fcmp .lss 0 w4 = false := by rw [FI.lss fi0 f4]; exact decide_eq_false q2
      by_cases q3 : m1 ≤ -m2
      · have hq3 : fcmp .leq w3 (Op.negFloat .f64 w4) = true := by rw [FI.leq f3 f4.neg]; exact decide_eq_true q3
        repeat' first
          | refine at_cut hcut ⟨w1, w3, (Op.negFloat .f64 w2), (Op.negFloat .f64 w4), n1, (-n2), m1, (-m2), -1, 0⟩ ?_ ⟨rfl, rfl, rfl, rfl, rfl, rfl, trivial⟩ (List.Sublist.refl _)
          | (first | refine tc_seq ?_ | refine tc_region ?_ | refine at_seq_normal ?_ | refine tl_nil ?_ | refine tl_cons ?_ | refine op_move ?_ | refine op_assign ?_ | refine op_fcmp ?_ | refine op_iarith ?_ | refine op_unop_neg_float ?_ | refine op_unop_neg_int ?_ | refine op_pick_true ?_ | refine op_pick_false ?_ | refine op_pick_true' ?_ | refine op_pick_false' ?_ | (refine op_farith ?_; intro _ _) | refine tc_cond_t ?_ | refine tc_cond_f ?_ | refine tc_block ?_ | refine tc_skip ?_ | refine tc_ret ?_ | refine at_seq_ret ?_ | refine at_block_normal ?_ | refine at_block_ret ?_ | refine at_loop_ret ?_ | refine at_loop_exit ?_ | refine tl_guard_yes ?_ | refine tl_guard_no ?_ | refine tl_guard_yes' ?_ | refine tl_guard_no' ?_ | refine tl_guard_undef ?_ | fail)
          | fail
        exact ⟨f1.wide, (f2.wide).neg, f3.wide, (f4.wide).neg, (show n1 ≠ 0 by omega), (show (-n2) ≠ 0 by omega), (show 0 < m1 by omega), (show m1 ≤ (-m2) by omega), .inr rfl, (show T = -1 * Int.sign (n1 * (-m2) - m1 * (-n2)) by rw [hT0, show n1 * (-m2) - m1 * (-n2) = -(n1 * m2 - m1 * n2) by grind, Int.sign_neg]; omega)⟩
      have hq3 : fcmp .leq w3 (Op.negFloat .f64 w4) = false := by rw [FI.leq f3 f4.neg]; exact decide_eq_false q3
      repeat' first
        | refine at_cut hcut ⟨(Op.negFloat .f64 w2), (Op.negFloat .f64 w4), w1, w3, (-n2), n1, (-m2), m1, 1, 0⟩ ?_ ⟨rfl, rfl, rfl, rfl, rfl, rfl, trivial⟩ (List.Sublist.refl _)
        | (first | refine tc_seq ?_ | refine tc_region ?_ | refine at_seq_normal ?_ | refine tl_nil ?_ | refine tl_cons ?_ | refine op_move ?_ | refine op_assign ?_ | refine op_fcmp ?_ | refine op_iarith ?_ | refine op_unop_neg_float ?_ | refine op_unop_neg_int ?_ | refine op_pick_true ?_ | refine op_pick_false ?_ | refine op_pick_true' ?_ | refine op_pick_false' ?_ | (refine op_farith ?_; intro _ _) | refine tc_cond_t ?_ | refine tc_cond_f ?_ | refine tc_block ?_ | refine tc_skip ?_ | refine tc_ret ?_ | refine at_seq_ret ?_ | refine at_block_normal ?_ | refine at_block_ret ?_ | refine at_loop_ret ?_ | refine at_loop_exit ?_ | refine tl_guard_yes ?_ | refine tl_guard_no ?_ | refine tl_guard_yes' ?_ | refine tl_guard_no' ?_ | refine tl_guard_undef ?_ | fail)
        | fail
      exact ⟨(f2.wide).neg, f1.wide, (f4.wide).neg, f3.wide, (show (-n2) ≠ 0 by omega), (show n1 ≠ 0 by omega), (show 0 < (-m2) by omega), (show (-m2) ≤ m1 by omega), .inl rfl, (show T = 1 * Int.sign ((-n2) * m1 - (-m2) * n1) by rw [hT0, show (-n2) * m1 - (-m2) * n1 = n1 * m2 - m1 * n2 by grind, Int.one_mul])⟩
    have hq1 : fcmp .lss 0 w3 = false := by rw [FI.lss fi0 f3]; exact decide_eq_false q1
    by_cases q2 : 0 < m2
    · have hq2 : fcmp .lss 0 w4 = true := by rw [FI.lss fi0 f4]; exact decide_eq_true q2
      by_cases q3 : -m1 ≤ m2
      · have hq3 : fcmp .leq (Op.negFloat .f64 w3) w4 = true := by rw [FI.leq f3.neg f4]; exact decide_eq_true q3
        repeat' first
          | refine at_cut hcut ⟨(Op.negFloat .f64 w1), (Op.negFloat .f64 w3), w2, w4, (-n1), n2, (-m1), m2, -1, 0⟩ ?_ ⟨rfl, rfl, rfl, rfl, rfl, rfl, trivial⟩ (List.Sublist.refl _)
          | (first | refine tc_seq ?_ | refine tc_region ?_ | refine at_seq_normal ?_ | refine tl_nil ?_ | refine tl_cons ?_ | refine op_move ?_ | refine op_assign ?_ | refine op_fcmp ?_ | refine op_iarith ?_ | refine op_unop_neg_float ?_ | refine op_unop_neg_int ?_ | refine op_pick_true ?_ | refine op_pick_false ?_ | refine op_pick_true' ?_ | refine op_pick_false' ?_ | (refine op_farith ?_; intro _ _) | refine tc_cond_t ?_ | refine tc_cond_f ?_ | refine tc_block ?_ | refine tc_skip ?_ | refine tc_ret ?_ | refine at_seq_ret ?_ | refine at_block_normal ?_ | refine at_block_ret ?_ | refine at_loop_ret ?_ | refine at_loop_exit ?_ | refine tl_guard_yes ?_ | refine tl_guard_no ?_ | refine tl_guard_yes' ?_ | refine tl_guard_no' ?_ | refine tl_guard_undef ?_ | fail)
          | fail
        exact ⟨(f1.wide).neg, f2.wide, (f3.wide).neg, f4.wide, (show (-n1) ≠ 0 by omega), (show n2 ≠ 0 by omega), (show 0 < (-m1) by omega), (show (-m1) ≤ m2 by omega), .inr rfl, (show T = -1 * Int.sign ((-n1) * m2 - (-m1) * n2) by rw [hT0, show (-n1) * m2 - (-m1) * n2 = -(n1 * m2 - m1 * n2) by grind, Int.sign_neg]; omega)⟩
      have hq3 : fcmp .leq (Op.negFloat .f64 w3) w4 = false := by rw [FI.leq f3.neg f4]; exact decide_eq_false q3
      repeat' first
        | refine at_cut hcut ⟨w2, w4, (Op.negFloat .f64 w1), (Op.negFloat .f64 w3), n2, (-n1), m2, (-m1), 1, 0⟩ ?_ ⟨rfl, rfl, rfl, rfl, rfl, rfl, trivial⟩ (List.Sublist.refl _)
        | (first | refine tc_seq ?_ | refine tc_region ?_ | refine at_seq_normal ?_ | refine tl_nil ?_ | refine tl_cons ?_ | refine op_move ?_ | refine op_assign ?_ | refine op_fcmp ?_ | refine op_iarith ?_ | refine op_unop_neg_float ?_ | refine op_unop_neg_int ?_ | refine op_pick_true ?_ | refine op_pick_false ?_ | refine op_pick_true' ?_ | refine op_pick_false' ?_ | (refine op_farith ?_; intro _ _) | refine tc_cond_t ?_ | refine tc_cond_f ?_ | refine tc_block ?_ | refine tc_skip ?_ | refine tc_ret ?_ | refine at_seq_ret ?_ | refine at_block_normal ?_ | refine at_block_ret ?_ | refine at_loop_ret ?_ | refine at_loop_exit ?_ | refine tl_guard_yes ?_ | refine tl_guard_no ?_ | refine tl_guard_yes' ?_ | refine tl_guard_no' ?_ | refine tl_guard_undef ?_ | fail)
        | fail
      exact ⟨f2.wide, (f1.wide).neg, f4.wide, (f3.wide).neg, (show n2 ≠ 0 by omega), (show (-n1) ≠ 0 by omega), (show 0 < m2 by omega), (show m2 ≤ (-m1) by omega), .inl rfl, (show T = 1 * Int.sign (n2 * (-m1) - m2 * (-n1)) by rw [hT0, show n2 * (-m1) - m2 * (-n1) = n1 * m2 - m1 * n2 by grind, Int.one_mul])⟩
    have hq2 : fcmp .lss 0 w4 = false := by rw [FI.lss fi0 f4]; exact decide_eq_false q2
    by_cases q3 : m2 ≤ m1
    · have hq3 : fcmp .geq w3 w4 = true := by rw [FI.geq f3 f4]; exact decide_eq_true q3
      repeat' first
        | refine at_cut hcut ⟨(Op.negFloat .f64 w1), (Op.negFloat .f64 w3), (Op.negFloat .f64 w2), (Op.negFloat .f64 w4), (-n1), (-n2), (-m1), (-m2), 1, 0⟩ ?_ ⟨rfl, rfl, rfl, rfl, rfl, rfl, trivial⟩ (List.Sublist.refl _)
        | (first | refine tc_seq ?_ | refine tc_region ?_ | refine at_seq_normal ?_ | refine tl_nil ?_ | refine tl_cons ?_ | refine op_move ?_ | refine op_assign ?_ | refine op_fcmp ?_ | refine op_iarith ?_ | refine op_unop_neg_float ?_ | refine op_unop_neg_int ?_ | refine op_pick_true ?_ | refine op_pick_false ?_ | refine op_pick_true' ?_ | refine op_pick_false' ?_ | (refine op_farith ?_; intro _ _) | refine tc_cond_t ?_ | refine tc_cond_f ?_ | refine tc_block ?_ | refine tc_skip ?_ | refine tc_ret ?_ | refine at_seq_ret ?_ | refine at_block_normal ?_ | refine at_block_ret ?_ | refine at_loop_ret ?_ | refine at_loop_exit ?_ | refine tl_guard_yes ?_ | refine tl_guard_no ?_ | refine tl_guard_yes' ?_ | refine tl_guard_no' ?_ | refine tl_guard_undef ?_ | fail)
        | fail
      exact ⟨(f1.wide).neg, (f2.wide).neg, (f3.wide).neg, (f4.wide).neg, (show (-n1) ≠ 0 by omega), (show (-n2) ≠ 0 by omega), (show 0 < (-m1) by omega), (show (-m1) ≤ (-m2) by omega), .inl rfl, (show T = 1 * Int.sign ((-n1) * (-m2) - (-m1) * (-n2)) by rw [hT0, show (-n1) * (-m2) - (-m1) * (-n2) = n1 * m2 - m1 * n2 by grind, Int.one_mul])⟩
    have hq3 : fcmp .geq w3 w4 = false := by rw [FI.geq f3 f4]; exact decide_eq_false q3
    repeat' first
      | refine at_cut hcut ⟨(Op.negFloat .f64 w2), (Op.negFloat .f64 w4), (Op.negFloat .f64 w1), (Op.negFloat .f64 w3), (-n2), (-n1), (-m2), (-m1), -1, 0⟩ ?_ ⟨rfl, rfl, rfl, rfl, rfl, rfl, trivial⟩ (List.Sublist.refl _)
      | (first | refine tc_seq ?_ | refine tc_region ?_ | refine at_seq_normal ?_ | refine tl_nil ?_ | refine tl_cons ?_ | refine op_move ?_ | refine op_assign ?_ | refine op_fcmp ?_ | refine op_iarith ?_ | refine op_unop_neg_float ?_ | refine op_unop_neg_int ?_ | refine op_pick_true ?_ | refine op_pick_false ?_ | refine op_pick_true' ?_ | refine op_pick_false' ?_ | (refine op_farith ?_; intro _ _) | refine tc_cond_t ?_ | refine tc_cond_f ?_ | refine tc_block ?_ | refine tc_skip ?_ | refine tc_ret ?_ | refine at_seq_ret ?_ | refine at_block_normal ?_ | refine at_block_ret ?_ | refine at_loop_ret ?_ | refine at_loop_exit ?_ | refine tl_guard_yes ?_ | refine tl_guard_no ?_ | refine tl_guard_yes' ?_ | refine tl_guard_no' ?_ | refine tl_guard_undef ?_ | fail)
      | fail
    exact ⟨(f2.wide).neg, (f1.wide).neg, (f4.wide).neg, (f3.wide).neg, (show (-n2) ≠ 0 by omega), (show (-n1) ≠ 0 by omega), (show 0 < (-m2) by omega), (show (-m2) ≤ (-m1) by omega), .inr rfl, (show T = -1 * Int.sign ((-n2) * (-m1) - (-m2) * (-n1)) by rw [hT0, show (-n2) * (-m1) - (-m2) * (-n1) = -(n1 * m2 - m1 * n2) by grind, Int.sign_neg]; omega)⟩
  clear hT0 k1 k2 k3 k4 e1 e2 e3 e4 f1 f2 f3 f4
  rintro ⟨w1, w3, w2, w4, a, b, c, d, s, z⟩ ⟨fa, fb, fc, fd, ha, hb, hc, hcd, hs, hT⟩
  dsimp only at fa fb fc fd ha hb hc hcd hs hT
  refine tc_seq ?_
  repeat' first
    | (first | refine tc_seq ?_ | refine tc_region ?_ | refine at_seq_normal ?_ | refine tl_nil ?_ | refine tl_cons ?_ | refine op_move ?_ | refine op_assign ?_ | refine op_fcmp ?_ | refine op_iarith ?_ | refine op_unop_neg_float ?_ | refine op_unop_neg_int ?_ | refine op_pick_true ?_ | refine op_pick_false ?_ | refine op_pick_true' ?_ | refine op_pick_false' ?_ | (refine op_farith ?_; intro _ _) | refine tc_cond_t ?_ | refine tc_cond_f ?_ | refine tc_block ?_ | refine tc_skip ?_ | refine tc_ret ?_ | refine at_seq_ret ?_ | refine at_block_normal ?_ | refine at_block_ret ?_ | refine at_loop_ret ?_ | refine at_loop_exit ?_ | refine tl_guard_yes ?_ | refine tl_guard_no ?_ | refine tl_guard_yes' ?_ | refine tl_guard_no' ?_ | refine tl_guard_undef ?_ | fail)
    | fail
  refine tc_mid St.env (St.ok T) ?_ ?_
  rotate_left
  · intro hcut
    by_cases q1 : 0 < a
    · have hq1 : fcmp .lss 0 w1 = true := by rw [FI.lss fi0 fa]; exact decide_eq_true q1
      by_cases q2 : 0 < b
      · have hq2 : fcmp .lss 0 w2 = true := by rw [FI.lss fi0 fb]; exact decide_eq_true q2
        by_cases q3 : b < a
        · have hq3 : fcmp .gtr w1 w2 = true := by rw [FI.gtr fa fb]; exact decide_eq_true q3
          repeat' first
            | (refine op_unop_neg_int ?_; rw [wrap_neg1 hs])
            | (first | refine tc_seq ?_ | refine tc_region ?_ | refine at_seq_normal ?_ | refine tl_nil ?_ | refine tl_cons ?_ | refine op_move ?_ | refine op_assign ?_ | refine op_fcmp ?_ | refine op_iarith ?_ | refine op_unop_neg_float ?_ | refine op_unop_neg_int ?_ | refine op_pick_true ?_ | refine op_pick_false ?_ | refine op_pick_true' ?_ | refine op_pick_false' ?_ | (refine op_farith ?_; intro _ _) | refine tc_cond_t ?_ | refine tc_cond_f ?_ | refine tc_block ?_ | refine tc_skip ?_ | refine tc_ret ?_ | refine at_seq_ret ?_ | refine at_block_normal ?_ | refine at_block_ret ?_ | refine at_loop_ret ?_ | refine at_loop_exit ?_ | refine tl_guard_yes ?_ | refine tl_guard_no ?_ | refine tl_guard_yes' ?_ | refine tl_guard_no' ?_ | refine tl_guard_undef ?_ | fail)
            | fail
          exact ret_tmp (hk := ⟨congrArg (Value.int .i64) (t_pos hT (xp1 q2 q3 hc hcd)), rfl⟩)
        have hq3 : fcmp .gtr w1 w2 = false := by rw [FI.gtr fa fb]; exact decide_eq_false q3
        repeat' first
          | refine at_cut hcut ⟨w1, w3, w2, w4, a, b, c, d, s, z⟩ ?_ ⟨rfl, rfl, rfl, rfl, rfl, rfl, trivial⟩ (List.Sublist.refl _)
          | (refine op_unop_neg_int ?_; rw [wrap_neg1 hs])
          | (first | refine tc_seq ?_ | refine tc_region ?_ | refine at_seq_normal ?_ | refine tl_nil ?_ | refine tl_cons ?_ | refine op_move ?_ | refine op_assign ?_ | refine op_fcmp ?_ | refine op_iarith ?_ | refine op_unop_neg_float ?_ | refine op_unop_neg_int ?_ | refine op_pick_true ?_ | refine op_pick_false ?_ | refine op_pick_true' ?_ | refine op_pick_false' ?_ | (refine op_farith ?_; intro _ _) | refine tc_cond_t ?_ | refine tc_cond_f ?_ | refine tc_block ?_ | refine tc_skip ?_ | refine tc_ret ?_ | refine at_seq_ret ?_ | refine at_block_normal ?_ | refine at_block_ret ?_ | refine at_loop_ret ?_ | refine at_loop_exit ?_ | refine tl_guard_yes ?_ | refine tl_guard_no ?_ | refine tl_guard_yes' ?_ | refine tl_guard_no' ?_ | refine tl_guard_undef ?_ | fail)
          | fail
        exact ⟨fa, fb, fc, fd, (show 0 < a by omega), (show a ≤ b by omega), hc, hcd, hs, hT⟩
      have hq2 : fcmp .lss 0 w2 = false := by rw [FI.lss fi0 fb]; exact decide_eq_false q2
      repeat' first
        | (refine op_unop_neg_int ?_; rw [wrap_neg1 hs])
        | (first | refine tc_seq ?_ | refine tc_region ?_ | refine at_seq_normal ?_ | refine tl_nil ?_ | refine tl_cons ?_ | refine op_move ?_ | refine op_assign ?_ | refine op_fcmp ?_ | refine op_iarith ?_ | refine op_unop_neg_float ?_ | refine op_unop_neg_int ?_ | refine op_pick_true ?_ | refine op_pick_false ?_ | refine op_pick_true' ?_ | refine op_pick_false' ?_ | (refine op_farith ?_; intro _ _) | refine tc_cond_t ?_ | refine tc_cond_f ?_ | refine tc_block ?_ | refine tc_skip ?_ | refine tc_ret ?_ | refine at_seq_ret ?_ | refine at_block_normal ?_ | refine at_block_ret ?_ | refine at_loop_ret ?_ | refine at_loop_exit ?_ | refine tl_guard_yes ?_ | refine tl_guard_no ?_ | refine tl_guard_yes' ?_ | refine tl_guard_no' ?_ | refine tl_guard_undef ?_ | fail)
        | fail
      exact ret_tmp (hk := ⟨congrArg (Value.int .i64) (t_pos hT (xp2 q1 (by omega) hc (by omega))), rfl⟩)
    have hq1 : fcmp .lss 0 w1 = false := by rw [FI.lss fi0 fa]; exact decide_eq_false q1
    by_cases q2 : 0 < b
    · have hq2 : fcmp .lss 0 w2 = true := by rw [FI.lss fi0 fb]; exact decide_eq_true q2
      repeat' first
        | (refine op_unop_neg_int ?_; rw [wrap_neg1 hs])
        | (first | refine tc_seq ?_ | refine tc_region ?_ | refine at_seq_normal ?_ | refine tl_nil ?_ | refine tl_cons ?_ | refine op_move ?_ | refine op_assign ?_ | refine op_fcmp ?_ | refine op_iarith ?_ | refine op_unop_neg_float ?_ | refine op_unop_neg_int ?_ | refine op_pick_true ?_ | refine op_pick_false ?_ | refine op_pick_true' ?_ | refine op_pick_false' ?_ | (refine op_farith ?_; intro _ _) | refine tc_cond_t ?_ | refine tc_cond_f ?_ | refine tc_block ?_ | refine tc_skip ?_ | refine tc_ret ?_ | refine at_seq_ret ?_ | refine at_block_normal ?_ | refine at_block_ret ?_ | refine at_loop_ret ?_ | refine at_loop_exit ?_ | refine tl_guard_yes ?_ | refine tl_guard_no ?_ | refine tl_guard_yes' ?_ | refine tl_guard_no' ?_ | refine tl_guard_undef ?_ | fail)
        | fail
      exact ret_tmp (hk := ⟨congrArg (Value.int .i64) (t_neg hT (xp3 (by omega) q2 hc (by omega))), rfl⟩)
    have hq2 : fcmp .lss 0 w2 = false := by rw [FI.lss fi0 fb]; exact decide_eq_false q2
    by_cases q3 : b ≤ a
    · have hq3 : fcmp .geq w1 w2 = true := by rw [FI.geq fa fb]; exact decide_eq_true q3
      repeat' first
        | refine at_cut hcut ⟨(Op.negFloat .f64 w1), w3, (Op.negFloat .f64 w2), w4, (-a), (-b), c, d, -s, z⟩ ?_ ⟨rfl, rfl, rfl, rfl, rfl, rfl, trivial⟩ (List.Sublist.refl _)
        | (refine op_unop_neg_int ?_; rw [wrap_neg1 hs])
        | (first | refine tc_seq ?_ | refine tc_region ?_ | refine at_seq_normal ?_ | refine tl_nil ?_ | refine tl_cons ?_ | refine op_move ?_ | refine op_assign ?_ | refine op_fcmp ?_ | refine op_iarith ?_ | refine op_unop_neg_float ?_ | refine op_unop_neg_int ?_ | refine op_pick_true ?_ | refine op_pick_false ?_ | refine op_pick_true' ?_ | refine op_pick_false' ?_ | (refine op_farith ?_; intro _ _) | refine tc_cond_t ?_ | refine tc_cond_f ?_ | refine tc_block ?_ | refine tc_skip ?_ | refine tc_ret ?_ | refine at_seq_ret ?_ | refine at_block_normal ?_ | refine at_block_ret ?_ | refine at_loop_ret ?_ | refine at_loop_exit ?_ | refine tl_guard_yes ?_ | refine tl_guard_no ?_ | refine tl_guard_yes' ?_ | refine tl_guard_no' ?_ | refine tl_guard_undef ?_ | fail)
        | fail
      exact ⟨fa.neg, fb.neg, fc, fd, (show 0 < (-a) by omega), (show (-a) ≤ (-b) by omega), hc, hcd, neg1 hs, t_flip hT (show -a * d - c * -b = -(a * d - c * b) by grind)⟩
    have hq3 : fcmp .geq w1 w2 = false := by rw [FI.geq fa fb]; exact decide_eq_false q3
    repeat' first
      | (refine op_unop_neg_int ?_; rw [wrap_neg1 hs])
      | (first | refine tc_seq ?_ | refine tc_region ?_ | refine at_seq_normal ?_ | refine tl_nil ?_ | refine tl_cons ?_ | refine op_move ?_ | refine op_assign ?_ | refine op_fcmp ?_ | refine op_iarith ?_ | refine op_unop_neg_float ?_ | refine op_unop_neg_int ?_ | refine op_pick_true ?_ | refine op_pick_false ?_ | refine op_pick_true' ?_ | refine op_pick_false' ?_ | (refine op_farith ?_; intro _ _) | refine tc_cond_t ?_ | refine tc_cond_f ?_ | refine tc_block ?_ | refine tc_skip ?_ | refine tc_ret ?_ | refine at_seq_ret ?_ | refine at_block_normal ?_ | refine at_block_ret ?_ | refine at_loop_ret ?_ | refine at_loop_exit ?_ | refine tl_guard_yes ?_ | refine tl_guard_no ?_ | refine tl_guard_yes' ?_ | refine tl_guard_no' ?_ | refine tl_guard_undef ?_ | fail)
      | fail
    exact ret_tmp (hk := ⟨congrArg (Value.int .i64) (t_neg hT (xp4 (by omega) (by omega) hc hcd)), rfl⟩)
  clear ha hb hc hcd hs hT fa fb fc fd
  intro i0 hi0
  refine tc_block ?_
  refine tc_loopH [] trivial St.env (St.ok T) (fun i => i.b.toNat) i0 hi0 ⟨rfl, rfl, rfl, rfl, rfl, rfl, trivial⟩ ?_
  clear hi0 i0
  clear w1 w2 w3 w4 a b c d s z
  rintro ⟨w1, w3, w2, w4, a, b, c, d, s, z⟩ ⟨fa, fb, fc, fd, ha, hab, hc, hcd, hs, hT⟩
  dsimp only at fa fb fc fd ha hab hc hcd hs hT
  have hb : 0 < b := by omega
  have hd : 0 < d := by omega
  repeat' first
    | (refine op_unop_neg_int ?_; rw [wrap_neg1 hs])
    | (first | refine tc_seq ?_ | refine tc_region ?_ | refine at_seq_normal ?_ | refine tl_nil ?_ | refine tl_cons ?_ | refine op_move ?_ | refine op_assign ?_ | refine op_fcmp ?_ | refine op_iarith ?_ | refine op_unop_neg_float ?_ | refine op_unop_neg_int ?_ | refine op_pick_true ?_ | refine op_pick_false ?_ | refine op_pick_true' ?_ | refine op_pick_false' ?_ | (refine op_farith ?_; intro _ _) | refine tc_cond_t ?_ | refine tc_cond_f ?_ | refine tc_block ?_ | refine tc_skip ?_ | refine tc_ret ?_ | refine at_seq_ret ?_ | refine at_block_normal ?_ | refine at_block_ret ?_ | refine at_loop_ret ?_ | refine at_loop_exit ?_ | refine tl_guard_yes ?_ | refine tl_guard_no ?_ | refine tl_guard_yes' ?_ | refine tl_guard_no' ?_ | refine tl_guard_undef ?_ | fail)
    | fail
  rename_i r11 h11
  obtain ⟨⟨c1, hc1⟩, hk1⟩ := FI.floor_quo fb fa h11 hb ha (by decide) (by decide)
  refine op_call ((floor _ c1 _ hc1).mono ?_)
  rintro _ _ ⟨rfl, rfl⟩
  generalize double.write ((double.read r11).integral .down) = wk1 at hk1 ⊢
  repeat' first
    | (refine op_unop_neg_int ?_; rw [wrap_neg1 hs])
    | (first | refine tc_seq ?_ | refine tc_region ?_ | refine at_seq_normal ?_ | refine tl_nil ?_ | refine tl_cons ?_ | refine op_move ?_ | refine op_assign ?_ | refine op_fcmp ?_ | refine op_iarith ?_ | refine op_unop_neg_float ?_ | refine op_unop_neg_int ?_ | refine op_pick_true ?_ | refine op_pick_false ?_ | refine op_pick_true' ?_ | refine op_pick_false' ?_ | (refine op_farith ?_; intro _ _) | refine tc_cond_t ?_ | refine tc_cond_f ?_ | refine tc_block ?_ | refine tc_skip ?_ | refine tc_ret ?_ | refine at_seq_ret ?_ | refine at_block_normal ?_ | refine at_block_ret ?_ | refine at_loop_ret ?_ | refine at_loop_exit ?_ | refine tl_guard_yes ?_ | refine tl_guard_no ?_ | refine tl_guard_yes' ?_ | refine tl_guard_no' ?_ | refine tl_guard_undef ?_ | fail)
    | fail
  rename_i r21 h21 r31 h31 r41 h41 r51 h51
  have g21 := FI.mul hk1 fa ⟨rfl, by decide⟩ h21
  have g31 := FI.sub fb g21 ⟨rfl, by decide⟩ h31
  have g41 := FI.mul hk1 fc ⟨rfl, by decide⟩ h41
  have g51 := FI.sub fd g41 ⟨rfl, by decide⟩ h51
  have hD1 := hT
  rw [← dv_red a b c d (b / a)] at hD1
  obtain ⟨hp01, hp11⟩ := dv_mod (b := b) ha
  obtain ⟨p1, ep1⟩ : ∃ z, z = b - b / a * a := ⟨_, rfl⟩
  obtain ⟨q1, eq1⟩ : ∃ z, z = d - b / a * c := ⟨_, rfl⟩
  rw [← ep1] at g31 hp01 hp11 hD1
  rw [← eq1] at g51 hD1
  clear ep1 eq1 g21 g41 hk1 hc1
  have gp1 : FI 67108864 r31 p1 := ⟨g31.fv, by have := fa.hi; omega, by have := fa.hi; omega⟩
  by_cases x11 : q1 < 0
  · have ex11 : fcmp .lss r51 0 = true := by rw [FI.lss g51 fi0]; exact decide_eq_true x11
    repeat' first
      | (refine op_unop_neg_int ?_; rw [wrap_neg1 hs])
      | (first | refine tc_seq ?_ | refine tc_region ?_ | refine at_seq_normal ?_ | refine tl_nil ?_ | refine tl_cons ?_ | refine op_move ?_ | refine op_assign ?_ | refine op_fcmp ?_ | refine op_iarith ?_ | refine op_unop_neg_float ?_ | refine op_unop_neg_int ?_ | refine op_pick_true ?_ | refine op_pick_false ?_ | refine op_pick_true' ?_ | refine op_pick_false' ?_ | (refine op_farith ?_; intro _ _) | refine tc_cond_t ?_ | refine tc_cond_f ?_ | refine tc_block ?_ | refine tc_skip ?_ | refine tc_ret ?_ | refine at_seq_ret ?_ | refine at_block_normal ?_ | refine at_block_ret ?_ | refine at_loop_ret ?_ | refine at_loop_exit ?_ | refine tl_guard_yes ?_ | refine tl_guard_no ?_ | refine tl_guard_yes' ?_ | refine tl_guard_no' ?_ | refine tl_guard_undef ?_ | fail)
      | fail
    exact ret_tmp (hk := ⟨congrArg (Value.int .i64) (t_neg hD1 (dv_neg ha hp01 hc x11)), rfl⟩)
  have ex11 : fcmp .lss r51 0 = false := by rw [FI.lss g51 fi0]; exact decide_eq_false x11
  by_cases x21 : c < q1
  · have ex21 : fcmp .gtr r51 w3 = true := by rw [FI.gtr g51 fc]; exact decide_eq_true x21
    repeat' first
      | (refine op_unop_neg_int ?_; rw [wrap_neg1 hs])
      | (first | refine tc_seq ?_ | refine tc_region ?_ | refine at_seq_normal ?_ | refine tl_nil ?_ | refine tl_cons ?_ | refine op_move ?_ | refine op_assign ?_ | refine op_fcmp ?_ | refine op_iarith ?_ | refine op_unop_neg_float ?_ | refine op_unop_neg_int ?_ | refine op_pick_true ?_ | refine op_pick_false ?_ | refine op_pick_true' ?_ | refine op_pick_false' ?_ | (refine op_farith ?_; intro _ _) | refine tc_cond_t ?_ | refine tc_cond_f ?_ | refine tc_block ?_ | refine tc_skip ?_ | refine tc_ret ?_ | refine at_seq_ret ?_ | refine at_block_normal ?_ | refine at_block_ret ?_ | refine at_loop_ret ?_ | refine at_loop_exit ?_ | refine tl_guard_yes ?_ | refine tl_guard_no ?_ | refine tl_guard_yes' ?_ | refine tl_guard_no' ?_ | refine tl_guard_undef ?_ | fail)
      | fail
    exact ret_tmp (hk := ⟨congrArg (Value.int .i64) (t_pos hD1 (dv_big ha hp11 hc x21)), rfl⟩)
  have ex21 : fcmp .gtr r51 w3 = false := by rw [FI.gtr g51 fc]; exact decide_eq_false x21
  have gq1 : FI 67108864 r51 q1 := ⟨g51.fv, by omega, by have := fc.hi; omega⟩
  repeat' first
    | (refine op_unop_neg_int ?_; rw [wrap_neg1 hs])
    | (first | refine tc_seq ?_ | refine tc_region ?_ | refine at_seq_normal ?_ | refine tl_nil ?_ | refine tl_cons ?_ | refine op_move ?_ | refine op_assign ?_ | refine op_fcmp ?_ | refine op_iarith ?_ | refine op_unop_neg_float ?_ | refine op_unop_neg_int ?_ | refine op_pick_true ?_ | refine op_pick_false ?_ | refine op_pick_true' ?_ | refine op_pick_false' ?_ | (refine op_farith ?_; intro _ _) | refine tc_cond_t ?_ | refine tc_cond_f ?_ | refine tc_block ?_ | refine tc_skip ?_ | refine tc_ret ?_ | refine at_seq_ret ?_ | refine at_block_normal ?_ | refine at_block_ret ?_ | refine at_loop_ret ?_ | refine at_loop_exit ?_ | refine tl_guard_yes ?_ | refine tl_guard_no ?_ | refine tl_guard_yes' ?_ | refine tl_guard_no' ?_ | refine tl_guard_undef ?_ | fail)
    | fail
  rename_i r61 h61
  have g61 := FI.add gp1 gp1 ⟨rfl, by decide⟩ h61
  by_cases x31 : p1 + p1 < a
  · have ex31 : fcmp .gtr w1 r61 = true := by rw [FI.gtr fa g61]; exact decide_eq_true x31
    repeat' first
      | (refine op_unop_neg_int ?_; rw [wrap_neg1 hs])
      | (first | refine tc_seq ?_ | refine tc_region ?_ | refine at_seq_normal ?_ | refine tl_nil ?_ | refine tl_cons ?_ | refine op_move ?_ | refine op_assign ?_ | refine op_fcmp ?_ | refine op_iarith ?_ | refine op_unop_neg_float ?_ | refine op_unop_neg_int ?_ | refine op_pick_true ?_ | refine op_pick_false ?_ | refine op_pick_true' ?_ | refine op_pick_false' ?_ | (refine op_farith ?_; intro _ _) | refine tc_cond_t ?_ | refine tc_cond_f ?_ | refine tc_block ?_ | refine tc_skip ?_ | refine tc_ret ?_ | refine at_seq_ret ?_ | refine at_block_normal ?_ | refine at_block_ret ?_ | refine at_loop_ret ?_ | refine at_loop_exit ?_ | refine tl_guard_yes ?_ | refine tl_guard_no ?_ | refine tl_guard_yes' ?_ | refine tl_guard_no' ?_ | refine tl_guard_undef ?_ | fail)
      | fail
    rename_i r71 h71
    have g71 := FI.add gq1 gq1 ⟨rfl, by decide⟩ h71
    by_cases x41 : c < q1 + q1
    · have ex41 : fcmp .lss w3 r71 = true := by rw [FI.lss fc g71]; exact decide_eq_true x41
      repeat' first
        | (refine op_unop_neg_int ?_; rw [wrap_neg1 hs])
        | (first | refine tc_seq ?_ | refine tc_region ?_ | refine at_seq_normal ?_ | refine tl_nil ?_ | refine tl_cons ?_ | refine op_move ?_ | refine op_assign ?_ | refine op_fcmp ?_ | refine op_iarith ?_ | refine op_unop_neg_float ?_ | refine op_unop_neg_int ?_ | refine op_pick_true ?_ | refine op_pick_false ?_ | refine op_pick_true' ?_ | refine op_pick_false' ?_ | (refine op_farith ?_; intro _ _) | refine tc_cond_t ?_ | refine tc_cond_f ?_ | refine tc_block ?_ | refine tc_skip ?_ | refine tc_ret ?_ | refine at_seq_ret ?_ | refine at_block_normal ?_ | refine at_block_ret ?_ | refine at_loop_ret ?_ | refine at_loop_exit ?_ | refine tl_guard_yes ?_ | refine tl_guard_no ?_ | refine tl_guard_yes' ?_ | refine tl_guard_no' ?_ | refine tl_guard_undef ?_ | fail)
        | fail
      exact ret_tmp (hk := ⟨congrArg (Value.int .i64) (t_pos hD1 (dv_up ha hc x31 x41)), rfl⟩)
    have ex41 : fcmp .lss w3 r71 = false := by rw [FI.lss fc g71]; exact decide_eq_false x41
    have hb1 : 2 * p1 ≤ a ∧ 2 * q1 ≤ c ∧ 0 ≤ p1 ∧ 0 ≤ q1 := by omega
    repeat' first
      | (refine op_unop_neg_int ?_; rw [wrap_neg1 hs])
      | (first | refine tc_seq ?_ | refine tc_region ?_ | refine at_seq_normal ?_ | refine tl_nil ?_ | refine tl_cons ?_ | refine op_move ?_ | refine op_assign ?_ | refine op_fcmp ?_ | refine op_iarith ?_ | refine op_unop_neg_float ?_ | refine op_unop_neg_int ?_ | refine op_pick_true ?_ | refine op_pick_false ?_ | refine op_pick_true' ?_ | refine op_pick_false' ?_ | (refine op_farith ?_; intro _ _) | refine tc_cond_t ?_ | refine tc_cond_f ?_ | refine tc_block ?_ | refine tc_skip ?_ | refine tc_ret ?_ | refine at_seq_ret ?_ | refine at_block_normal ?_ | refine at_block_ret ?_ | refine at_loop_ret ?_ | refine at_loop_exit ?_ | refine tl_guard_yes ?_ | refine tl_guard_no ?_ | refine tl_guard_yes' ?_ | refine tl_guard_no' ?_ | refine tl_guard_undef ?_ | fail)
      | fail
    by_cases y11 : q1 = 0
    · have ey11 : fcmp .eql r51 0 = true := by rw [FI.eql gq1 fi0]; exact decide_eq_true y11
      repeat' first
        | (refine op_unop_neg_int ?_; rw [wrap_neg1 hs])
        | (first | refine tc_seq ?_ | refine tc_region ?_ | refine at_seq_normal ?_ | refine tl_nil ?_ | refine tl_cons ?_ | refine op_move ?_ | refine op_assign ?_ | refine op_fcmp ?_ | refine op_iarith ?_ | refine op_unop_neg_float ?_ | refine op_unop_neg_int ?_ | refine op_pick_true ?_ | refine op_pick_false ?_ | refine op_pick_true' ?_ | refine op_pick_false' ?_ | (refine op_farith ?_; intro _ _) | refine tc_cond_t ?_ | refine tc_cond_f ?_ | refine tc_block ?_ | refine tc_skip ?_ | refine tc_ret ?_ | refine at_seq_ret ?_ | refine at_block_normal ?_ | refine at_block_ret ?_ | refine at_loop_ret ?_ | refine at_loop_exit ?_ | refine tl_guard_yes ?_ | refine tl_guard_no ?_ | refine tl_guard_yes' ?_ | refine tl_guard_no' ?_ | refine tl_guard_undef ?_ | fail)
        | fail
      by_cases y21 : p1 = 0
      · have ey21 : fcmp .eql r31 0 = true := by rw [FI.eql gp1 fi0]; exact decide_eq_true y21
        repeat' first
          | (refine op_unop_neg_int ?_; rw [wrap_neg1 hs])
          | (first | refine tc_seq ?_ | refine tc_region ?_ | refine at_seq_normal ?_ | refine tl_nil ?_ | refine tl_cons ?_ | refine op_move ?_ | refine op_assign ?_ | refine op_fcmp ?_ | refine op_iarith ?_ | refine op_unop_neg_float ?_ | refine op_unop_neg_int ?_ | refine op_pick_true ?_ | refine op_pick_false ?_ | refine op_pick_true' ?_ | refine op_pick_false' ?_ | (refine op_farith ?_; intro _ _) | refine tc_cond_t ?_ | refine tc_cond_f ?_ | refine tc_block ?_ | refine tc_skip ?_ | refine tc_ret ?_ | refine at_seq_ret ?_ | refine at_block_normal ?_ | refine at_block_ret ?_ | refine at_loop_ret ?_ | refine at_loop_exit ?_ | refine tl_guard_yes ?_ | refine tl_guard_no ?_ | refine tl_guard_yes' ?_ | refine tl_guard_no' ?_ | refine tl_guard_undef ?_ | fail)
          | fail
        exact ret_tmp (hk := ⟨congrArg (Value.int .i64) (t_zero hD1 (by rw [y11, y21]; simp)), rfl⟩)
      have ey21 : fcmp .eql r31 0 = false := by rw [FI.eql gp1 fi0]; exact decide_eq_false y21
      repeat' first
        | (refine op_unop_neg_int ?_; rw [wrap_neg1 hs])
        | (first | refine tc_seq ?_ | refine tc_region ?_ | refine at_seq_normal ?_ | refine tl_nil ?_ | refine tl_cons ?_ | refine op_move ?_ | refine op_assign ?_ | refine op_fcmp ?_ | refine op_iarith ?_ | refine op_unop_neg_float ?_ | refine op_unop_neg_int ?_ | refine op_pick_true ?_ | refine op_pick_false ?_ | refine op_pick_true' ?_ | refine op_pick_false' ?_ | (refine op_farith ?_; intro _ _) | refine tc_cond_t ?_ | refine tc_cond_f ?_ | refine tc_block ?_ | refine tc_skip ?_ | refine tc_ret ?_ | refine at_seq_ret ?_ | refine at_block_normal ?_ | refine at_block_ret ?_ | refine at_loop_ret ?_ | refine at_loop_exit ?_ | refine tl_guard_yes ?_ | refine tl_guard_no ?_ | refine tl_guard_yes' ?_ | refine tl_guard_no' ?_ | refine tl_guard_undef ?_ | fail)
        | fail
      exact ret_tmp (hk := ⟨congrArg (Value.int .i64) (t_neg hD1 (by rw [y11]; exact dv_q0 hc (by omega))), rfl⟩)
    have ey11 : fcmp .eql r51 0 = false := by rw [FI.eql gq1 fi0]; exact decide_eq_false y11
    repeat' first
      | (refine op_unop_neg_int ?_; rw [wrap_neg1 hs])
      | (first | refine tc_seq ?_ | refine tc_region ?_ | refine at_seq_normal ?_ | refine tl_nil ?_ | refine tl_cons ?_ | refine op_move ?_ | refine op_assign ?_ | refine op_fcmp ?_ | refine op_iarith ?_ | refine op_unop_neg_float ?_ | refine op_unop_neg_int ?_ | refine op_pick_true ?_ | refine op_pick_false ?_ | refine op_pick_true' ?_ | refine op_pick_false' ?_ | (refine op_farith ?_; intro _ _) | refine tc_cond_t ?_ | refine tc_cond_f ?_ | refine tc_block ?_ | refine tc_skip ?_ | refine tc_ret ?_ | refine at_seq_ret ?_ | refine at_block_normal ?_ | refine at_block_ret ?_ | refine at_loop_ret ?_ | refine at_loop_exit ?_ | refine tl_guard_yes ?_ | refine tl_guard_no ?_ | refine tl_guard_yes' ?_ | refine tl_guard_no' ?_ | refine tl_guard_undef ?_ | fail)
      | fail
    by_cases y31 : p1 = 0
    · have ey31 : fcmp .eql r31 0 = true := by rw [FI.eql gp1 fi0]; exact decide_eq_true y31
      repeat' first
        | (refine op_unop_neg_int ?_; rw [wrap_neg1 hs])
        | (first | refine tc_seq ?_ | refine tc_region ?_ | refine at_seq_normal ?_ | refine tl_nil ?_ | refine tl_cons ?_ | refine op_move ?_ | refine op_assign ?_ | refine op_fcmp ?_ | refine op_iarith ?_ | refine op_unop_neg_float ?_ | refine op_unop_neg_int ?_ | refine op_pick_true ?_ | refine op_pick_false ?_ | refine op_pick_true' ?_ | refine op_pick_false' ?_ | (refine op_farith ?_; intro _ _) | refine tc_cond_t ?_ | refine tc_cond_f ?_ | refine tc_block ?_ | refine tc_skip ?_ | refine tc_ret ?_ | refine at_seq_ret ?_ | refine at_block_normal ?_ | refine at_block_ret ?_ | refine at_loop_ret ?_ | refine at_loop_exit ?_ | refine tl_guard_yes ?_ | refine tl_guard_no ?_ | refine tl_guard_yes' ?_ | refine tl_guard_no' ?_ | refine tl_guard_undef ?_ | fail)
        | fail
      exact ret_tmp (hk := ⟨congrArg (Value.int .i64) (t_pos hD1 (by rw [y31]; exact dv_p0 ha (by omega))), rfl⟩)
    have ey31 : fcmp .eql r31 0 = false := by rw [FI.eql gp1 fi0]; exact decide_eq_false y31
    have hp1 : 0 < p1 := by omega
    have hq1 : 0 < q1 := by omega
    have hT1 := t_flip hD1 (dv_role a p1 c q1)
    repeat' first
      | (refine op_unop_neg_int ?_; rw [wrap_neg1 hs])
      | (first | refine tc_seq ?_ | refine tc_region ?_ | refine at_seq_normal ?_ | refine tl_nil ?_ | refine tl_cons ?_ | refine op_move ?_ | refine op_assign ?_ | refine op_fcmp ?_ | refine op_iarith ?_ | refine op_unop_neg_float ?_ | refine op_unop_neg_int ?_ | refine op_pick_true ?_ | refine op_pick_false ?_ | refine op_pick_true' ?_ | refine op_pick_false' ?_ | (refine op_farith ?_; intro _ _) | refine tc_cond_t ?_ | refine tc_cond_f ?_ | refine tc_block ?_ | refine tc_skip ?_ | refine tc_ret ?_ | refine at_seq_ret ?_ | refine at_block_normal ?_ | refine at_block_ret ?_ | refine at_loop_ret ?_ | refine at_loop_exit ?_ | refine tl_guard_yes ?_ | refine tl_guard_no ?_ | refine tl_guard_yes' ?_ | refine tl_guard_no' ?_ | refine tl_guard_undef ?_ | fail)
      | fail
    rename_i r12 h12
    obtain ⟨⟨c2, hc2⟩, hk2⟩ := FI.floor_quo fa gp1 h12 ha hp1 (by decide) (by decide)
    refine op_call ((floor _ c2 _ hc2).mono ?_)
    rintro _ _ ⟨rfl, rfl⟩
    generalize double.write ((double.read r12).integral .down) = wk2 at hk2 ⊢
    repeat' first
      | (refine op_unop_neg_int ?_; rw [wrap_neg1 hs])
      | (first | refine tc_seq ?_ | refine tc_region ?_ | refine at_seq_normal ?_ | refine tl_nil ?_ | refine tl_cons ?_ | refine op_move ?_ | refine op_assign ?_ | refine op_fcmp ?_ | refine op_iarith ?_ | refine op_unop_neg_float ?_ | refine op_unop_neg_int ?_ | refine op_pick_true ?_ | refine op_pick_false ?_ | refine op_pick_true' ?_ | refine op_pick_false' ?_ | (refine op_farith ?_; intro _ _) | refine tc_cond_t ?_ | refine tc_cond_f ?_ | refine tc_block ?_ | refine tc_skip ?_ | refine tc_ret ?_ | refine at_seq_ret ?_ | refine at_block_normal ?_ | refine at_block_ret ?_ | refine at_loop_ret ?_ | refine at_loop_exit ?_ | refine tl_guard_yes ?_ | refine tl_guard_no ?_ | refine tl_guard_yes' ?_ | refine tl_guard_no' ?_ | refine tl_guard_undef ?_ | fail)
      | fail
    rename_i r22 h22 r32 h32 r42 h42 r52 h52
    have g22 := FI.mul hk2 gp1 ⟨rfl, by decide⟩ h22
    have g32 := FI.sub fa g22 ⟨rfl, by decide⟩ h32
    have g42 := FI.mul hk2 gq1 ⟨rfl, by decide⟩ h42
    have g52 := FI.sub fc g42 ⟨rfl, by decide⟩ h52
    have hD2 := hT1
    rw [← dv_red p1 a q1 c (a / p1)] at hD2
    obtain ⟨hp02, hp12⟩ := dv_mod (b := a) hp1
    obtain ⟨p2, ep2⟩ : ∃ z, z = a - a / p1 * p1 := ⟨_, rfl⟩
    obtain ⟨q2, eq2⟩ : ∃ z, z = c - a / p1 * q1 := ⟨_, rfl⟩
    rw [← ep2] at g32 hp02 hp12 hD2
    rw [← eq2] at g52 hD2
    clear ep2 eq2 g22 g42 hk2 hc2
    have gp2 : FI 67108864 r32 p2 := ⟨g32.fv, by have := gp1.hi; omega, by have := gp1.hi; omega⟩
    by_cases x12 : q2 < 0
    · have ex12 : fcmp .lss r52 0 = true := by rw [FI.lss g52 fi0]; exact decide_eq_true x12
      repeat' first
        | (refine op_unop_neg_int ?_; rw [wrap_neg1 hs])
        | (first | refine tc_seq ?_ | refine tc_region ?_ | refine at_seq_normal ?_ | refine tl_nil ?_ | refine tl_cons ?_ | refine op_move ?_ | refine op_assign ?_ | refine op_fcmp ?_ | refine op_iarith ?_ | refine op_unop_neg_float ?_ | refine op_unop_neg_int ?_ | refine op_pick_true ?_ | refine op_pick_false ?_ | refine op_pick_true' ?_ | refine op_pick_false' ?_ | (refine op_farith ?_; intro _ _) | refine tc_cond_t ?_ | refine tc_cond_f ?_ | refine tc_block ?_ | refine tc_skip ?_ | refine tc_ret ?_ | refine at_seq_ret ?_ | refine at_block_normal ?_ | refine at_block_ret ?_ | refine at_loop_ret ?_ | refine at_loop_exit ?_ | refine tl_guard_yes ?_ | refine tl_guard_no ?_ | refine tl_guard_yes' ?_ | refine tl_guard_no' ?_ | refine tl_guard_undef ?_ | fail)
        | fail
      exact ret_tmp (hk := ⟨congrArg (Value.int .i64) ((by have := t_neg hD2 (dv_neg hp1 hp02 hq1 x12); show s = T; omega)), rfl⟩)
    have ex12 : fcmp .lss r52 0 = false := by rw [FI.lss g52 fi0]; exact decide_eq_false x12
    by_cases x22 : q1 < q2
    · have ex22 : fcmp .gtr r52 r51 = true := by rw [FI.gtr g52 gq1]; exact decide_eq_true x22
      repeat' first
        | (refine op_unop_neg_int ?_; rw [wrap_neg1 hs])
        | (first | refine tc_seq ?_ | refine tc_region ?_ | refine at_seq_normal ?_ | refine tl_nil ?_ | refine tl_cons ?_ | refine op_move ?_ | refine op_assign ?_ | refine op_fcmp ?_ | refine op_iarith ?_ | refine op_unop_neg_float ?_ | refine op_unop_neg_int ?_ | refine op_pick_true ?_ | refine op_pick_false ?_ | refine op_pick_true' ?_ | refine op_pick_false' ?_ | (refine op_farith ?_; intro _ _) | refine tc_cond_t ?_ | refine tc_cond_f ?_ | refine tc_block ?_ | refine tc_skip ?_ | refine tc_ret ?_ | refine at_seq_ret ?_ | refine at_block_normal ?_ | refine at_block_ret ?_ | refine at_loop_ret ?_ | refine at_loop_exit ?_ | refine tl_guard_yes ?_ | refine tl_guard_no ?_ | refine tl_guard_yes' ?_ | refine tl_guard_no' ?_ | refine tl_guard_undef ?_ | fail)
        | fail
      exact ret_tmp (hk := ⟨congrArg (Value.int .i64) (t_pos hD2 (dv_big hp1 hp12 hq1 x22)), rfl⟩)
    have ex22 : fcmp .gtr r52 r51 = false := by rw [FI.gtr g52 gq1]; exact decide_eq_false x22
    have gq2 : FI 67108864 r52 q2 := ⟨g52.fv, by omega, by have := gq1.hi; omega⟩
    repeat' first
      | (refine op_unop_neg_int ?_; rw [wrap_neg1 hs])
      | (first | refine tc_seq ?_ | refine tc_region ?_ | refine at_seq_normal ?_ | refine tl_nil ?_ | refine tl_cons ?_ | refine op_move ?_ | refine op_assign ?_ | refine op_fcmp ?_ | refine op_iarith ?_ | refine op_unop_neg_float ?_ | refine op_unop_neg_int ?_ | refine op_pick_true ?_ | refine op_pick_false ?_ | refine op_pick_true' ?_ | refine op_pick_false' ?_ | (refine op_farith ?_; intro _ _) | refine tc_cond_t ?_ | refine tc_cond_f ?_ | refine tc_block ?_ | refine tc_skip ?_ | refine tc_ret ?_ | refine at_seq_ret ?_ | refine at_block_normal ?_ | refine at_block_ret ?_ | refine at_loop_ret ?_ | refine at_loop_exit ?_ | refine tl_guard_yes ?_ | refine tl_guard_no ?_ | refine tl_guard_yes' ?_ | refine tl_guard_no' ?_ | refine tl_guard_undef ?_ | fail)
      | fail
    rename_i r62 h62
    have g62 := FI.add gp2 gp2 ⟨rfl, by decide⟩ h62
    by_cases x32 : p2 + p2 < p1
    · have ex32 : fcmp .gtr r31 r62 = true := by rw [FI.gtr gp1 g62]; exact decide_eq_true x32
      repeat' first
        | (refine op_unop_neg_int ?_; rw [wrap_neg1 hs])
        | (first | refine tc_seq ?_ | refine tc_region ?_ | refine at_seq_normal ?_ | refine tl_nil ?_ | refine tl_cons ?_ | refine op_move ?_ | refine op_assign ?_ | refine op_fcmp ?_ | refine op_iarith ?_ | refine op_unop_neg_float ?_ | refine op_unop_neg_int ?_ | refine op_pick_true ?_ | refine op_pick_false ?_ | refine op_pick_true' ?_ | refine op_pick_false' ?_ | (refine op_farith ?_; intro _ _) | refine tc_cond_t ?_ | refine tc_cond_f ?_ | refine tc_block ?_ | refine tc_skip ?_ | refine tc_ret ?_ | refine at_seq_ret ?_ | refine at_block_normal ?_ | refine at_block_ret ?_ | refine at_loop_ret ?_ | refine at_loop_exit ?_ | refine tl_guard_yes ?_ | refine tl_guard_no ?_ | refine tl_guard_yes' ?_ | refine tl_guard_no' ?_ | refine tl_guard_undef ?_ | fail)
        | fail
      rename_i r72 h72
      have g72 := FI.add gq2 gq2 ⟨rfl, by decide⟩ h72
      by_cases x42 : q1 < q2 + q2
      · have ex42 : fcmp .lss r51 r72 = true := by rw [FI.lss gq1 g72]; exact decide_eq_true x42
        repeat' first
          | (refine op_unop_neg_int ?_; rw [wrap_neg1 hs])
          | (first | refine tc_seq ?_ | refine tc_region ?_ | refine at_seq_normal ?_ | refine tl_nil ?_ | refine tl_cons ?_ | refine op_move ?_ | refine op_assign ?_ | refine op_fcmp ?_ | refine op_iarith ?_ | refine op_unop_neg_float ?_ | refine op_unop_neg_int ?_ | refine op_pick_true ?_ | refine op_pick_false ?_ | refine op_pick_true' ?_ | refine op_pick_false' ?_ | (refine op_farith ?_; intro _ _) | refine tc_cond_t ?_ | refine tc_cond_f ?_ | refine tc_block ?_ | refine tc_skip ?_ | refine tc_ret ?_ | refine at_seq_ret ?_ | refine at_block_normal ?_ | refine at_block_ret ?_ | refine at_loop_ret ?_ | refine at_loop_exit ?_ | refine tl_guard_yes ?_ | refine tl_guard_no ?_ | refine tl_guard_yes' ?_ | refine tl_guard_no' ?_ | refine tl_guard_undef ?_ | fail)
          | fail
        exact ret_tmp (hk := ⟨congrArg (Value.int .i64) (t_pos hD2 (dv_up hp1 hq1 x32 x42)), rfl⟩)
      have ex42 : fcmp .lss r51 r72 = false := by rw [FI.lss gq1 g72]; exact decide_eq_false x42
      have hb2 : 2 * p2 ≤ p1 ∧ 2 * q2 ≤ q1 ∧ 0 ≤ p2 ∧ 0 ≤ q2 := by omega
      repeat' first
        | (refine op_unop_neg_int ?_; rw [wrap_neg1 hs])
        | (first | refine tc_seq ?_ | refine tc_region ?_ | refine at_seq_normal ?_ | refine tl_nil ?_ | refine tl_cons ?_ | refine op_move ?_ | refine op_assign ?_ | refine op_fcmp ?_ | refine op_iarith ?_ | refine op_unop_neg_float ?_ | refine op_unop_neg_int ?_ | refine op_pick_true ?_ | refine op_pick_false ?_ | refine op_pick_true' ?_ | refine op_pick_false' ?_ | (refine op_farith ?_; intro _ _) | refine tc_cond_t ?_ | refine tc_cond_f ?_ | refine tc_block ?_ | refine tc_skip ?_ | refine tc_ret ?_ | refine at_seq_ret ?_ | refine at_block_normal ?_ | refine at_block_ret ?_ | refine at_loop_ret ?_ | refine at_loop_exit ?_ | refine tl_guard_yes ?_ | refine tl_guard_no ?_ | refine tl_guard_yes' ?_ | refine tl_guard_no' ?_ | refine tl_guard_undef ?_ | fail)
        | fail
      by_cases y12 : q2 = 0
      · have ey12 : fcmp .eql r52 0 = true := by rw [FI.eql gq2 fi0]; exact decide_eq_true y12
        repeat' first
          | (refine op_unop_neg_int ?_; rw [wrap_neg1 hs])
          | (first | refine tc_seq ?_ | refine tc_region ?_ | refine at_seq_normal ?_ | refine tl_nil ?_ | refine tl_cons ?_ | refine op_move ?_ | refine op_assign ?_ | refine op_fcmp ?_ | refine op_iarith ?_ | refine op_unop_neg_float ?_ | refine op_unop_neg_int ?_ | refine op_pick_true ?_ | refine op_pick_false ?_ | refine op_pick_true' ?_ | refine op_pick_false' ?_ | (refine op_farith ?_; intro _ _) | refine tc_cond_t ?_ | refine tc_cond_f ?_ | refine tc_block ?_ | refine tc_skip ?_ | refine tc_ret ?_ | refine at_seq_ret ?_ | refine at_block_normal ?_ | refine at_block_ret ?_ | refine at_loop_ret ?_ | refine at_loop_exit ?_ | refine tl_guard_yes ?_ | refine tl_guard_no ?_ | refine tl_guard_yes' ?_ | refine tl_guard_no' ?_ | refine tl_guard_undef ?_ | fail)
          | fail
        by_cases y22 : p2 = 0
        · have ey22 : fcmp .eql r32 0 = true := by rw [FI.eql gp2 fi0]; exact decide_eq_true y22
          repeat' first
            | (refine op_unop_neg_int ?_; rw [wrap_neg1 hs])
            | (first | refine tc_seq ?_ | refine tc_region ?_ | refine at_seq_normal ?_ | refine tl_nil ?_ | refine tl_cons ?_ | refine op_move ?_ | refine op_assign ?_ | refine op_fcmp ?_ | refine op_iarith ?_ | refine op_unop_neg_float ?_ | refine op_unop_neg_int ?_ | refine op_pick_true ?_ | refine op_pick_false ?_ | refine op_pick_true' ?_ | refine op_pick_false' ?_ | (refine op_farith ?_; intro _ _) | refine tc_cond_t ?_ | refine tc_cond_f ?_ | refine tc_block ?_ | refine tc_skip ?_ | refine tc_ret ?_ | refine at_seq_ret ?_ | refine at_block_normal ?_ | refine at_block_ret ?_ | refine at_loop_ret ?_ | refine at_loop_exit ?_ | refine tl_guard_yes ?_ | refine tl_guard_no ?_ | refine tl_guard_yes' ?_ | refine tl_guard_no' ?_ | refine tl_guard_undef ?_ | fail)
            | fail
          exact ret_tmp (hk := ⟨congrArg (Value.int .i64) (t_zero hD2 (by rw [y12, y22]; simp)), rfl⟩)
        have ey22 : fcmp .eql r32 0 = false := by rw [FI.eql gp2 fi0]; exact decide_eq_false y22
        repeat' first
          | (refine op_unop_neg_int ?_; rw [wrap_neg1 hs])
          | (first | refine tc_seq ?_ | refine tc_region ?_ | refine at_seq_normal ?_ | refine tl_nil ?_ | refine tl_cons ?_ | refine op_move ?_ | refine op_assign ?_ | refine op_fcmp ?_ | refine op_iarith ?_ | refine op_unop_neg_float ?_ | refine op_unop_neg_int ?_ | refine op_pick_true ?_ | refine op_pick_false ?_ | refine op_pick_true' ?_ | refine op_pick_false' ?_ | (refine op_farith ?_; intro _ _) | refine tc_cond_t ?_ | refine tc_cond_f ?_ | refine tc_block ?_ | refine tc_skip ?_ | refine tc_ret ?_ | refine at_seq_ret ?_ | refine at_block_normal ?_ | refine at_block_ret ?_ | refine at_loop_ret ?_ | refine at_loop_exit ?_ | refine tl_guard_yes ?_ | refine tl_guard_no ?_ | refine tl_guard_yes' ?_ | refine tl_guard_no' ?_ | refine tl_guard_undef ?_ | fail)
          | fail
        exact ret_tmp (hk := ⟨congrArg (Value.int .i64) ((by have := t_neg hD2 (by rw [y12]; exact dv_q0 hq1 (by omega)); show s = T; omega)), rfl⟩)
      have ey12 : fcmp .eql r52 0 = false := by rw [FI.eql gq2 fi0]; exact decide_eq_false y12
      repeat' first
        | (refine op_unop_neg_int ?_; rw [wrap_neg1 hs])
        | (first | refine tc_seq ?_ | refine tc_region ?_ | refine at_seq_normal ?_ | refine tl_nil ?_ | refine tl_cons ?_ | refine op_move ?_ | refine op_assign ?_ | refine op_fcmp ?_ | refine op_iarith ?_ | refine op_unop_neg_float ?_ | refine op_unop_neg_int ?_ | refine op_pick_true ?_ | refine op_pick_false ?_ | refine op_pick_true' ?_ | refine op_pick_false' ?_ | (refine op_farith ?_; intro _ _) | refine tc_cond_t ?_ | refine tc_cond_f ?_ | refine tc_block ?_ | refine tc_skip ?_ | refine tc_ret ?_ | refine at_seq_ret ?_ | refine at_block_normal ?_ | refine at_block_ret ?_ | refine at_loop_ret ?_ | refine at_loop_exit ?_ | refine tl_guard_yes ?_ | refine tl_guard_no ?_ | refine tl_guard_yes' ?_ | refine tl_guard_no' ?_ | refine tl_guard_undef ?_ | fail)
        | fail
      by_cases y32 : p2 = 0
      · have ey32 : fcmp .eql r32 0 = true := by rw [FI.eql gp2 fi0]; exact decide_eq_true y32
        repeat' first
          | (refine op_unop_neg_int ?_; rw [wrap_neg1 hs])
          | (first | refine tc_seq ?_ | refine tc_region ?_ | refine at_seq_normal ?_ | refine tl_nil ?_ | refine tl_cons ?_ | refine op_move ?_ | refine op_assign ?_ | refine op_fcmp ?_ | refine op_iarith ?_ | refine op_unop_neg_float ?_ | refine op_unop_neg_int ?_ | refine op_pick_true ?_ | refine op_pick_false ?_ | refine op_pick_true' ?_ | refine op_pick_false' ?_ | (refine op_farith ?_; intro _ _) | refine tc_cond_t ?_ | refine tc_cond_f ?_ | refine tc_block ?_ | refine tc_skip ?_ | refine tc_ret ?_ | refine at_seq_ret ?_ | refine at_block_normal ?_ | refine at_block_ret ?_ | refine at_loop_ret ?_ | refine at_loop_exit ?_ | refine tl_guard_yes ?_ | refine tl_guard_no ?_ | refine tl_guard_yes' ?_ | refine tl_guard_no' ?_ | refine tl_guard_undef ?_ | fail)
          | fail
        exact ret_tmp (hk := ⟨congrArg (Value.int .i64) (t_pos hD2 (by rw [y32]; exact dv_p0 hp1 (by omega))), rfl⟩)
      have ey32 : fcmp .eql r32 0 = false := by rw [FI.eql gp2 fi0]; exact decide_eq_false y32
      have hp2 : 0 < p2 := by omega
      have hq2 : 0 < q2 := by omega
      repeat' first
        | (refine op_unop_neg_int ?_; rw [wrap_neg1 hs])
        | (first | refine tc_seq ?_ | refine tc_region ?_ | refine at_seq_normal ?_ | refine tl_nil ?_ | refine tl_cons ?_ | refine op_move ?_ | refine op_assign ?_ | refine op_fcmp ?_ | refine op_iarith ?_ | refine op_unop_neg_float ?_ | refine op_unop_neg_int ?_ | refine op_pick_true ?_ | refine op_pick_false ?_ | refine op_pick_true' ?_ | refine op_pick_false' ?_ | (refine op_farith ?_; intro _ _) | refine tc_cond_t ?_ | refine tc_cond_f ?_ | refine tc_block ?_ | refine tc_skip ?_ | refine tc_ret ?_ | refine at_seq_ret ?_ | refine at_block_normal ?_ | refine at_block_ret ?_ | refine at_loop_ret ?_ | refine at_loop_exit ?_ | refine tl_guard_yes ?_ | refine tl_guard_no ?_ | refine tl_guard_yes' ?_ | refine tl_guard_no' ?_ | refine tl_guard_undef ?_ | fail)
        | fail
      refine at_loopK ⟨r32, r52, r31, r51, p2, p1, q2, q1, s, _⟩ ⟨gp2, gp1, gq2, gq1, hp2, (show p2 ≤ p1 by omega), hq2, (show q2 ≤ q1 by omega), hs, ?_⟩ ?_ ⟨rfl, rfl, rfl, rfl, rfl, rfl, trivial⟩ trivial (List.Sublist.refl _)
      · have := t_flip hD2 (dv_role p1 p2 q1 q2); rwa [Int.neg_neg] at this
      · show Int.toNat p1 < Int.toNat b; omega
    have ex32 : fcmp .gtr r31 r62 = false := by rw [FI.gtr gp1 g62]; exact decide_eq_false x32
    repeat' first
      | (refine op_unop_neg_int ?_; rw [wrap_neg1 hs])
      | (first | refine tc_seq ?_ | refine tc_region ?_ | refine at_seq_normal ?_ | refine tl_nil ?_ | refine tl_cons ?_ | refine op_move ?_ | refine op_assign ?_ | refine op_fcmp ?_ | refine op_iarith ?_ | refine op_unop_neg_float ?_ | refine op_unop_neg_int ?_ | refine op_pick_true ?_ | refine op_pick_false ?_ | refine op_pick_true' ?_ | refine op_pick_false' ?_ | (refine op_farith ?_; intro _ _) | refine tc_cond_t ?_ | refine tc_cond_f ?_ | refine tc_block ?_ | refine tc_skip ?_ | refine tc_ret ?_ | refine at_seq_ret ?_ | refine at_block_normal ?_ | refine at_block_ret ?_ | refine at_loop_ret ?_ | refine at_loop_exit ?_ | refine tl_guard_yes ?_ | refine tl_guard_no ?_ | refine tl_guard_yes' ?_ | refine tl_guard_no' ?_ | refine tl_guard_undef ?_ | fail)
      | fail
    rename_i r82 h82
    have g82 := FI.add gq2 gq2 ⟨rfl, by decide⟩ h82
    by_cases x52 : q2 + q2 < q1
    · have ex52 : fcmp .gtr r51 r82 = true := by rw [FI.gtr gq1 g82]; exact decide_eq_true x52
      repeat' first
        | (refine op_unop_neg_int ?_; rw [wrap_neg1 hs])
        | (first | refine tc_seq ?_ | refine tc_region ?_ | refine at_seq_normal ?_ | refine tl_nil ?_ | refine tl_cons ?_ | refine op_move ?_ | refine op_assign ?_ | refine op_fcmp ?_ | refine op_iarith ?_ | refine op_unop_neg_float ?_ | refine op_unop_neg_int ?_ | refine op_pick_true ?_ | refine op_pick_false ?_ | refine op_pick_true' ?_ | refine op_pick_false' ?_ | (refine op_farith ?_; intro _ _) | refine tc_cond_t ?_ | refine tc_cond_f ?_ | refine tc_block ?_ | refine tc_skip ?_ | refine tc_ret ?_ | refine at_seq_ret ?_ | refine at_block_normal ?_ | refine at_block_ret ?_ | refine at_loop_ret ?_ | refine at_loop_exit ?_ | refine tl_guard_yes ?_ | refine tl_guard_no ?_ | refine tl_guard_yes' ?_ | refine tl_guard_no' ?_ | refine tl_guard_undef ?_ | fail)
        | fail
      exact ret_tmp (hk := ⟨congrArg (Value.int .i64) ((by have := t_neg hD2 (dv_dn hp1 hq1 (by omega) x52); show s = T; omega)), rfl⟩)
    have ex52 : fcmp .gtr r51 r82 = false := by rw [FI.gtr gq1 g82]; exact decide_eq_false x52
    repeat' first
      | (refine op_unop_neg_int ?_; rw [wrap_neg1 hs])
      | (first | refine tc_seq ?_ | refine tc_region ?_ | refine at_seq_normal ?_ | refine tl_nil ?_ | refine tl_cons ?_ | refine op_move ?_ | refine op_assign ?_ | refine op_fcmp ?_ | refine op_iarith ?_ | refine op_unop_neg_float ?_ | refine op_unop_neg_int ?_ | refine op_pick_true ?_ | refine op_pick_false ?_ | refine op_pick_true' ?_ | refine op_pick_false' ?_ | (refine op_farith ?_; intro _ _) | refine tc_cond_t ?_ | refine tc_cond_f ?_ | refine tc_block ?_ | refine tc_skip ?_ | refine tc_ret ?_ | refine at_seq_ret ?_ | refine at_block_normal ?_ | refine at_block_ret ?_ | refine at_loop_ret ?_ | refine at_loop_exit ?_ | refine tl_guard_yes ?_ | refine tl_guard_no ?_ | refine tl_guard_yes' ?_ | refine tl_guard_no' ?_ | refine tl_guard_undef ?_ | fail)
      | fail
    rename_i r92 h92 rq2 hq2
    have g92 := FI.sub gp1 gp2 ⟨rfl, by decide⟩ h92
    have gr2 := FI.sub gq1 gq2 ⟨rfl, by decide⟩ hq2
    have hE2 := t_flip hD2 (dv_swap p1 p2 q1 q2)
    obtain ⟨u2, eu2⟩ : ∃ z, z = p1 - p2 := ⟨_, rfl⟩
    obtain ⟨v2, ev2⟩ : ∃ z, z = q1 - q2 := ⟨_, rfl⟩
    rw [← eu2] at g92 hE2
    rw [← ev2] at gr2 hE2
    have hb2 : 2 * u2 ≤ p1 ∧ 2 * v2 ≤ q1 ∧ 0 ≤ u2 ∧ 0 ≤ v2 := by omega
    have gu2 : FI 67108864 r92 u2 := ⟨g92.fv, by have := gp1.hi; omega, by have := gp1.hi; omega⟩
    have gv2 : FI 67108864 rq2 v2 := ⟨gr2.fv, by have := gq1.hi; omega, by have := gq1.hi; omega⟩
    by_cases y12s : v2 = 0
    · have ey12s : fcmp .eql rq2 0 = true := by rw [FI.eql gv2 fi0]; exact decide_eq_true y12s
      repeat' first
        | (refine op_unop_neg_int ?_; rw [wrap_neg1 (neg1 hs)])
        | (first | refine tc_seq ?_ | refine tc_region ?_ | refine at_seq_normal ?_ | refine tl_nil ?_ | refine tl_cons ?_ | refine op_move ?_ | refine op_assign ?_ | refine op_fcmp ?_ | refine op_iarith ?_ | refine op_unop_neg_float ?_ | refine op_unop_neg_int ?_ | refine op_pick_true ?_ | refine op_pick_false ?_ | refine op_pick_true' ?_ | refine op_pick_false' ?_ | (refine op_farith ?_; intro _ _) | refine tc_cond_t ?_ | refine tc_cond_f ?_ | refine tc_block ?_ | refine tc_skip ?_ | refine tc_ret ?_ | refine at_seq_ret ?_ | refine at_block_normal ?_ | refine at_block_ret ?_ | refine at_loop_ret ?_ | refine at_loop_exit ?_ | refine tl_guard_yes ?_ | refine tl_guard_no ?_ | refine tl_guard_yes' ?_ | refine tl_guard_no' ?_ | refine tl_guard_undef ?_ | fail)
        | fail
      by_cases y22s : u2 = 0
      · have ey22s : fcmp .eql r92 0 = true := by rw [FI.eql gu2 fi0]; exact decide_eq_true y22s
        repeat' first
          | (refine op_unop_neg_int ?_; rw [wrap_neg1 (neg1 hs)])
          | (first | refine tc_seq ?_ | refine tc_region ?_ | refine at_seq_normal ?_ | refine tl_nil ?_ | refine tl_cons ?_ | refine op_move ?_ | refine op_assign ?_ | refine op_fcmp ?_ | refine op_iarith ?_ | refine op_unop_neg_float ?_ | refine op_unop_neg_int ?_ | refine op_pick_true ?_ | refine op_pick_false ?_ | refine op_pick_true' ?_ | refine op_pick_false' ?_ | (refine op_farith ?_; intro _ _) | refine tc_cond_t ?_ | refine tc_cond_f ?_ | refine tc_block ?_ | refine tc_skip ?_ | refine tc_ret ?_ | refine at_seq_ret ?_ | refine at_block_normal ?_ | refine at_block_ret ?_ | refine at_loop_ret ?_ | refine at_loop_exit ?_ | refine tl_guard_yes ?_ | refine tl_guard_no ?_ | refine tl_guard_yes' ?_ | refine tl_guard_no' ?_ | refine tl_guard_undef ?_ | fail)
          | fail
        exact ret_tmp (hk := ⟨congrArg (Value.int .i64) (t_zero hE2 (by rw [y12s, y22s]; simp)), rfl⟩)
      have ey22s : fcmp .eql r92 0 = false := by rw [FI.eql gu2 fi0]; exact decide_eq_false y22s
      repeat' first
        | (refine op_unop_neg_int ?_; rw [wrap_neg1 (neg1 hs)])
        | (first | refine tc_seq ?_ | refine tc_region ?_ | refine at_seq_normal ?_ | refine tl_nil ?_ | refine tl_cons ?_ | refine op_move ?_ | refine op_assign ?_ | refine op_fcmp ?_ | refine op_iarith ?_ | refine op_unop_neg_float ?_ | refine op_unop_neg_int ?_ | refine op_pick_true ?_ | refine op_pick_false ?_ | refine op_pick_true' ?_ | refine op_pick_false' ?_ | (refine op_farith ?_; intro _ _) | refine tc_cond_t ?_ | refine tc_cond_f ?_ | refine tc_block ?_ | refine tc_skip ?_ | refine tc_ret ?_ | refine at_seq_ret ?_ | refine at_block_normal ?_ | refine at_block_ret ?_ | refine at_loop_ret ?_ | refine at_loop_exit ?_ | refine tl_guard_yes ?_ | refine tl_guard_no ?_ | refine tl_guard_yes' ?_ | refine tl_guard_no' ?_ | refine tl_guard_undef ?_ | fail)
        | fail
      exact ret_tmp (hk := ⟨congrArg (Value.int .i64) ((by have := t_neg hE2 (by rw [y12s]; exact dv_q0 hq1 (by omega)); show (-s) = T; omega)), rfl⟩)
    have ey12s : fcmp .eql rq2 0 = false := by rw [FI.eql gv2 fi0]; exact decide_eq_false y12s
    repeat' first
      | (refine op_unop_neg_int ?_; rw [wrap_neg1 (neg1 hs)])
      | (first | refine tc_seq ?_ | refine tc_region ?_ | refine at_seq_normal ?_ | refine tl_nil ?_ | refine tl_cons ?_ | refine op_move ?_ | refine op_assign ?_ | refine op_fcmp ?_ | refine op_iarith ?_ | refine op_unop_neg_float ?_ | refine op_unop_neg_int ?_ | refine op_pick_true ?_ | refine op_pick_false ?_ | refine op_pick_true' ?_ | refine op_pick_false' ?_ | (refine op_farith ?_; intro _ _) | refine tc_cond_t ?_ | refine tc_cond_f ?_ | refine tc_block ?_ | refine tc_skip ?_ | refine tc_ret ?_ | refine at_seq_ret ?_ | refine at_block_normal ?_ | refine at_block_ret ?_ | refine at_loop_ret ?_ | refine at_loop_exit ?_ | refine tl_guard_yes ?_ | refine tl_guard_no ?_ | refine tl_guard_yes' ?_ | refine tl_guard_no' ?_ | refine tl_guard_undef ?_ | fail)
      | fail
    by_cases y32s : u2 = 0
    · have ey32s : fcmp .eql r92 0 = true := by rw [FI.eql gu2 fi0]; exact decide_eq_true y32s
      repeat' first
        | (refine op_unop_neg_int ?_; rw [wrap_neg1 (neg1 hs)])
        | (first | refine tc_seq ?_ | refine tc_region ?_ | refine at_seq_normal ?_ | refine tl_nil ?_ | refine tl_cons ?_ | refine op_move ?_ | refine op_assign ?_ | refine op_fcmp ?_ | refine op_iarith ?_ | refine op_unop_neg_float ?_ | refine op_unop_neg_int ?_ | refine op_pick_true ?_ | refine op_pick_false ?_ | refine op_pick_true' ?_ | refine op_pick_false' ?_ | (refine op_farith ?_; intro _ _) | refine tc_cond_t ?_ | refine tc_cond_f ?_ | refine tc_block ?_ | refine tc_skip ?_ | refine tc_ret ?_ | refine at_seq_ret ?_ | refine at_block_normal ?_ | refine at_block_ret ?_ | refine at_loop_ret ?_ | refine at_loop_exit ?_ | refine tl_guard_yes ?_ | refine tl_guard_no ?_ | refine tl_guard_yes' ?_ | refine tl_guard_no' ?_ | refine tl_guard_undef ?_ | fail)
        | fail
      exact ret_tmp (hk := ⟨congrArg (Value.int .i64) (t_pos hE2 (by rw [y32s]; exact dv_p0 hp1 (by omega))), rfl⟩)
    have ey32s : fcmp .eql r92 0 = false := by rw [FI.eql gu2 fi0]; exact decide_eq_false y32s
    have hp2s : 0 < u2 := by omega
    have hq2s : 0 < v2 := by omega
    repeat' first
      | (refine op_unop_neg_int ?_; rw [wrap_neg1 (neg1 hs)])
      | (first | refine tc_seq ?_ | refine tc_region ?_ | refine at_seq_normal ?_ | refine tl_nil ?_ | refine tl_cons ?_ | refine op_move ?_ | refine op_assign ?_ | refine op_fcmp ?_ | refine op_iarith ?_ | refine op_unop_neg_float ?_ | refine op_unop_neg_int ?_ | refine op_pick_true ?_ | refine op_pick_false ?_ | refine op_pick_true' ?_ | refine op_pick_false' ?_ | (refine op_farith ?_; intro _ _) | refine tc_cond_t ?_ | refine tc_cond_f ?_ | refine tc_block ?_ | refine tc_skip ?_ | refine tc_ret ?_ | refine at_seq_ret ?_ | refine at_block_normal ?_ | refine at_block_ret ?_ | refine at_loop_ret ?_ | refine at_loop_exit ?_ | refine tl_guard_yes ?_ | refine tl_guard_no ?_ | refine tl_guard_yes' ?_ | refine tl_guard_no' ?_ | refine tl_guard_undef ?_ | fail)
      | fail
    refine at_loopK ⟨r92, rq2, r31, r51, u2, p1, v2, q1, (-s), _⟩ ⟨gu2, gp1, gv2, gq1, hp2s, (show u2 ≤ p1 by omega), hq2s, (show v2 ≤ q1 by omega), (neg1 hs), ?_⟩ ?_ ⟨rfl, rfl, rfl, rfl, rfl, rfl, trivial⟩ trivial (List.Sublist.refl _)
    · have := t_flip hE2 (dv_role p1 u2 q1 v2); rwa [Int.neg_neg] at this
    · show Int.toNat p1 < Int.toNat b; omega
  have ex31 : fcmp .gtr w1 r61 = false := by rw [FI.gtr fa g61]; exact decide_eq_false x31
  repeat' first
    | (refine op_unop_neg_int ?_; rw [wrap_neg1 hs])
    | (first | refine tc_seq ?_ | refine tc_region ?_ | refine at_seq_normal ?_ | refine tl_nil ?_ | refine tl_cons ?_ | refine op_move ?_ | refine op_assign ?_ | refine op_fcmp ?_ | refine op_iarith ?_ | refine op_unop_neg_float ?_ | refine op_unop_neg_int ?_ | refine op_pick_true ?_ | refine op_pick_false ?_ | refine op_pick_true' ?_ | refine op_pick_false' ?_ | (refine op_farith ?_; intro _ _) | refine tc_cond_t ?_ | refine tc_cond_f ?_ | refine tc_block ?_ | refine tc_skip ?_ | refine tc_ret ?_ | refine at_seq_ret ?_ | refine at_block_normal ?_ | refine at_block_ret ?_ | refine at_loop_ret ?_ | refine at_loop_exit ?_ | refine tl_guard_yes ?_ | refine tl_guard_no ?_ | refine tl_guard_yes' ?_ | refine tl_guard_no' ?_ | refine tl_guard_undef ?_ | fail)
    | fail
  rename_i r81 h81
  have g81 := FI.add gq1 gq1 ⟨rfl, by decide⟩ h81
  by_cases x51 : q1 + q1 < c
  · have ex51 : fcmp .gtr w3 r81 = true := by rw [FI.gtr fc g81]; exact decide_eq_true x51
    repeat' first
      | (refine op_unop_neg_int ?_; rw [wrap_neg1 hs])
      | (first | refine tc_seq ?_ | refine tc_region ?_ | refine at_seq_normal ?_ | refine tl_nil ?_ | refine tl_cons ?_ | refine op_move ?_ | refine op_assign ?_ | refine op_fcmp ?_ | refine op_iarith ?_ | refine op_unop_neg_float ?_ | refine op_unop_neg_int ?_ | refine op_pick_true ?_ | refine op_pick_false ?_ | refine op_pick_true' ?_ | refine op_pick_false' ?_ | (refine op_farith ?_; intro _ _) | refine tc_cond_t ?_ | refine tc_cond_f ?_ | refine tc_block ?_ | refine tc_skip ?_ | refine tc_ret ?_ | refine at_seq_ret ?_ | refine at_block_normal ?_ | refine at_block_ret ?_ | refine at_loop_ret ?_ | refine at_loop_exit ?_ | refine tl_guard_yes ?_ | refine tl_guard_no ?_ | refine tl_guard_yes' ?_ | refine tl_guard_no' ?_ | refine tl_guard_undef ?_ | fail)
      | fail
    exact ret_tmp (hk := ⟨congrArg (Value.int .i64) (t_neg hD1 (dv_dn ha hc (by omega) x51)), rfl⟩)
  have ex51 : fcmp .gtr w3 r81 = false := by rw [FI.gtr fc g81]; exact decide_eq_false x51
  repeat' first
    | (refine op_unop_neg_int ?_; rw [wrap_neg1 hs])
    | (first | refine tc_seq ?_ | refine tc_region ?_ | refine at_seq_normal ?_ | refine tl_nil ?_ | refine tl_cons ?_ | refine op_move ?_ | refine op_assign ?_ | refine op_fcmp ?_ | refine op_iarith ?_ | refine op_unop_neg_float ?_ | refine op_unop_neg_int ?_ | refine op_pick_true ?_ | refine op_pick_false ?_ | refine op_pick_true' ?_ | refine op_pick_false' ?_ | (refine op_farith ?_; intro _ _) | refine tc_cond_t ?_ | refine tc_cond_f ?_ | refine tc_block ?_ | refine tc_skip ?_ | refine tc_ret ?_ | refine at_seq_ret ?_ | refine at_block_normal ?_ | refine at_block_ret ?_ | refine at_loop_ret ?_ | refine at_loop_exit ?_ | refine tl_guard_yes ?_ | refine tl_guard_no ?_ | refine tl_guard_yes' ?_ | refine tl_guard_no' ?_ | refine tl_guard_undef ?_ | fail)
    | fail
  rename_i r91 h91 rq1 hq1
  have g91 := FI.sub fa gp1 ⟨rfl, by decide⟩ h91
  have gr1 := FI.sub fc gq1 ⟨rfl, by decide⟩ hq1
  have hE1 := t_flip hD1 (dv_swap a p1 c q1)
  obtain ⟨u1, eu1⟩ : ∃ z, z = a - p1 := ⟨_, rfl⟩
  obtain ⟨v1, ev1⟩ : ∃ z, z = c - q1 := ⟨_, rfl⟩
  rw [← eu1] at g91 hE1
  rw [← ev1] at gr1 hE1
  have hb1 : 2 * u1 ≤ a ∧ 2 * v1 ≤ c ∧ 0 ≤ u1 ∧ 0 ≤ v1 := by omega
  have gu1 : FI 67108864 r91 u1 := ⟨g91.fv, by have := fa.hi; omega, by have := fa.hi; omega⟩
  have gv1 : FI 67108864 rq1 v1 := ⟨gr1.fv, by have := fc.hi; omega, by have := fc.hi; omega⟩
  by_cases y11s : v1 = 0
  · have ey11s : fcmp .eql rq1 0 = true := by rw [FI.eql gv1 fi0]; exact decide_eq_true y11s
    repeat' first
      | (refine op_unop_neg_int ?_; rw [wrap_neg1 (neg1 hs)])
      | (first | refine tc_seq ?_ | refine tc_region ?_ | refine at_seq_normal ?_ | refine tl_nil ?_ | refine tl_cons ?_ | refine op_move ?_ | refine op_assign ?_ | refine op_fcmp ?_ | refine op_iarith ?_ | refine op_unop_neg_float ?_ | refine op_unop_neg_int ?_ | refine op_pick_true ?_ | refine op_pick_false ?_ | refine op_pick_true' ?_ | refine op_pick_false' ?_ | (refine op_farith ?_; intro _ _) | refine tc_cond_t ?_ | refine tc_cond_f ?_ | refine tc_block ?_ | refine tc_skip ?_ | refine tc_ret ?_ | refine at_seq_ret ?_ | refine at_block_normal ?_ | refine at_block_ret ?_ | refine at_loop_ret ?_ | refine at_loop_exit ?_ | refine tl_guard_yes ?_ | refine tl_guard_no ?_ | refine tl_guard_yes' ?_ | refine tl_guard_no' ?_ | refine tl_guard_undef ?_ | fail)
      | fail
    by_cases y21s : u1 = 0
    · have ey21s : fcmp .eql r91 0 = true := by rw [FI.eql gu1 fi0]; exact decide_eq_true y21s
      repeat' first
        | (refine op_unop_neg_int ?_; rw [wrap_neg1 (neg1 hs)])
        | (first | refine tc_seq ?_ | refine tc_region ?_ | refine at_seq_normal ?_ | refine tl_nil ?_ | refine tl_cons ?_ | refine op_move ?_ | refine op_assign ?_ | refine op_fcmp ?_ | refine op_iarith ?_ | refine op_unop_neg_float ?_ | refine op_unop_neg_int ?_ | refine op_pick_true ?_ | refine op_pick_false ?_ | refine op_pick_true' ?_ | refine op_pick_false' ?_ | (refine op_farith ?_; intro _ _) | refine tc_cond_t ?_ | refine tc_cond_f ?_ | refine tc_block ?_ | refine tc_skip ?_ | refine tc_ret ?_ | refine at_seq_ret ?_ | refine at_block_normal ?_ | refine at_block_ret ?_ | refine at_loop_ret ?_ | refine at_loop_exit ?_ | refine tl_guard_yes ?_ | refine tl_guard_no ?_ | refine tl_guard_yes' ?_ | refine tl_guard_no' ?_ | refine tl_guard_undef ?_ | fail)
        | fail
      exact ret_tmp (hk := ⟨congrArg (Value.int .i64) (t_zero hE1 (by rw [y11s, y21s]; simp)), rfl⟩)
    have ey21s : fcmp .eql r91 0 = false := by rw [FI.eql gu1 fi0]; exact decide_eq_false y21s
    repeat' first
      | (refine op_unop_neg_int ?_; rw [wrap_neg1 (neg1 hs)])
      | (first | refine tc_seq ?_ | refine tc_region ?_ | refine at_seq_normal ?_ | refine tl_nil ?_ | refine tl_cons ?_ | refine op_move ?_ | refine op_assign ?_ | refine op_fcmp ?_ | refine op_iarith ?_ | refine op_unop_neg_float ?_ | refine op_unop_neg_int ?_ | refine op_pick_true ?_ | refine op_pick_false ?_ | refine op_pick_true' ?_ | refine op_pick_false' ?_ | (refine op_farith ?_; intro _ _) | refine tc_cond_t ?_ | refine tc_cond_f ?_ | refine tc_block ?_ | refine tc_skip ?_ | refine tc_ret ?_ | refine at_seq_ret ?_ | refine at_block_normal ?_ | refine at_block_ret ?_ | refine at_loop_ret ?_ | refine at_loop_exit ?_ | refine tl_guard_yes ?_ | refine tl_guard_no ?_ | refine tl_guard_yes' ?_ | refine tl_guard_no' ?_ | refine tl_guard_undef ?_ | fail)
      | fail
    exact ret_tmp (hk := ⟨congrArg (Value.int .i64) (t_neg hE1 (by rw [y11s]; exact dv_q0 hc (by omega))), rfl⟩)
  have ey11s : fcmp .eql rq1 0 = false := by rw [FI.eql gv1 fi0]; exact decide_eq_false y11s
  repeat' first
    | (refine op_unop_neg_int ?_; rw [wrap_neg1 (neg1 hs)])
    | (first | refine tc_seq ?_ | refine tc_region ?_ | refine at_seq_normal ?_ | refine tl_nil ?_ | refine tl_cons ?_ | refine op_move ?_ | refine op_assign ?_ | refine op_fcmp ?_ | refine op_iarith ?_ | refine op_unop_neg_float ?_ | refine op_unop_neg_int ?_ | refine op_pick_true ?_ | refine op_pick_false ?_ | refine op_pick_true' ?_ | refine op_pick_false' ?_ | (refine op_farith ?_; intro _ _) | refine tc_cond_t ?_ | refine tc_cond_f ?_ | refine tc_block ?_ | refine tc_skip ?_ | refine tc_ret ?_ | refine at_seq_ret ?_ | refine at_block_normal ?_ | refine at_block_ret ?_ | refine at_loop_ret ?_ | refine at_loop_exit ?_ | refine tl_guard_yes ?_ | refine tl_guard_no ?_ | refine tl_guard_yes' ?_ | refine tl_guard_no' ?_ | refine tl_guard_undef ?_ | fail)
    | fail
  by_cases y31s : u1 = 0
  · have ey31s : fcmp .eql r91 0 = true := by rw [FI.eql gu1 fi0]; exact decide_eq_true y31s
    repeat' first
      | (refine op_unop_neg_int ?_; rw [wrap_neg1 (neg1 hs)])
      | (first | refine tc_seq ?_ | refine tc_region ?_ | refine at_seq_normal ?_ | refine tl_nil ?_ | refine tl_cons ?_ | refine op_move ?_ | refine op_assign ?_ | refine op_fcmp ?_ | refine op_iarith ?_ | refine op_unop_neg_float ?_ | refine op_unop_neg_int ?_ | refine op_pick_true ?_ | refine op_pick_false ?_ | refine op_pick_true' ?_ | refine op_pick_false' ?_ | (refine op_farith ?_; intro _ _) | refine tc_cond_t ?_ | refine tc_cond_f ?_ | refine tc_block ?_ | refine tc_skip ?_ | refine tc_ret ?_ | refine at_seq_ret ?_ | refine at_block_normal ?_ | refine at_block_ret ?_ | refine at_loop_ret ?_ | refine at_loop_exit ?_ | refine tl_guard_yes ?_ | refine tl_guard_no ?_ | refine tl_guard_yes' ?_ | refine tl_guard_no' ?_ | refine tl_guard_undef ?_ | fail)
      | fail
    exact ret_tmp (hk := ⟨congrArg (Value.int .i64) (t_pos hE1 (by rw [y31s]; exact dv_p0 ha (by omega))), rfl⟩)
  have ey31s : fcmp .eql r91 0 = false := by rw [FI.eql gu1 fi0]; exact decide_eq_false y31s
  have hp1s : 0 < u1 := by omega
  have hq1s : 0 < v1 := by omega
  have hT1s := t_flip hE1 (dv_role a u1 c v1)
  repeat' first
    | (refine op_unop_neg_int ?_; rw [wrap_neg1 (neg1 hs)])
    | (first | refine tc_seq ?_ | refine tc_region ?_ | refine at_seq_normal ?_ | refine tl_nil ?_ | refine tl_cons ?_ | refine op_move ?_ | refine op_assign ?_ | refine op_fcmp ?_ | refine op_iarith ?_ | refine op_unop_neg_float ?_ | refine op_unop_neg_int ?_ | refine op_pick_true ?_ | refine op_pick_false ?_ | refine op_pick_true' ?_ | refine op_pick_false' ?_ | (refine op_farith ?_; intro _ _) | refine tc_cond_t ?_ | refine tc_cond_f ?_ | refine tc_block ?_ | refine tc_skip ?_ | refine tc_ret ?_ | refine at_seq_ret ?_ | refine at_block_normal ?_ | refine at_block_ret ?_ | refine at_loop_ret ?_ | refine at_loop_exit ?_ | refine tl_guard_yes ?_ | refine tl_guard_no ?_ | refine tl_guard_yes' ?_ | refine tl_guard_no' ?_ | refine tl_guard_undef ?_ | fail)
    | fail
  rename_i r13 h13
  obtain ⟨⟨c3, hc3⟩, hk3⟩ := FI.floor_quo fa gu1 h13 ha hp1s (by decide) (by decide)
  refine op_call ((floor _ c3 _ hc3).mono ?_)
  rintro _ _ ⟨rfl, rfl⟩
  generalize double.write ((double.read r13).integral .down) = wk3 at hk3 ⊢
  repeat' first
    | (refine op_unop_neg_int ?_; rw [wrap_neg1 (neg1 hs)])
    | (first | refine tc_seq ?_ | refine tc_region ?_ | refine at_seq_normal ?_ | refine tl_nil ?_ | refine tl_cons ?_ | refine op_move ?_ | refine op_assign ?_ | refine op_fcmp ?_ | refine op_iarith ?_ | refine op_unop_neg_float ?_ | refine op_unop_neg_int ?_ | refine op_pick_true ?_ | refine op_pick_false ?_ | refine op_pick_true' ?_ | refine op_pick_false' ?_ | (refine op_farith ?_; intro _ _) | refine tc_cond_t ?_ | refine tc_cond_f ?_ | refine tc_block ?_ | refine tc_skip ?_ | refine tc_ret ?_ | refine at_seq_ret ?_ | refine at_block_normal ?_ | refine at_block_ret ?_ | refine at_loop_ret ?_ | refine at_loop_exit ?_ | refine tl_guard_yes ?_ | refine tl_guard_no ?_ | refine tl_guard_yes' ?_ | refine tl_guard_no' ?_ | refine tl_guard_undef ?_ | fail)
    | fail
  rename_i r23 h23 r33 h33 r43 h43 r53 h53
  have g23 := FI.mul hk3 gu1 ⟨rfl, by decide⟩ h23
  have g33 := FI.sub fa g23 ⟨rfl, by decide⟩ h33
  have g43 := FI.mul hk3 gv1 ⟨rfl, by decide⟩ h43
  have g53 := FI.sub fc g43 ⟨rfl, by decide⟩ h53
  have hD3 := hT1s
  rw [← dv_red u1 a v1 c (a / u1)] at hD3
  obtain ⟨hp03, hp13⟩ := dv_mod (b := a) hp1s
  obtain ⟨p3, ep3⟩ : ∃ z, z = a - a / u1 * u1 := ⟨_, rfl⟩
  obtain ⟨q3, eq3⟩ : ∃ z, z = c - a / u1 * v1 := ⟨_, rfl⟩
  rw [← ep3] at g33 hp03 hp13 hD3
  rw [← eq3] at g53 hD3
  clear ep3 eq3 g23 g43 hk3 hc3
  have gp3 : FI 67108864 r33 p3 := ⟨g33.fv, by have := gu1.hi; omega, by have := gu1.hi; omega⟩
  by_cases x13 : q3 < 0
  · have ex13 : fcmp .lss r53 0 = true := by rw [FI.lss g53 fi0]; exact decide_eq_true x13
    repeat' first
      | (refine op_unop_neg_int ?_; rw [wrap_neg1 (neg1 hs)])
      | (first | refine tc_seq ?_ | refine tc_region ?_ | refine at_seq_normal ?_ | refine tl_nil ?_ | refine tl_cons ?_ | refine op_move ?_ | refine op_assign ?_ | refine op_fcmp ?_ | refine op_iarith ?_ | refine op_unop_neg_float ?_ | refine op_unop_neg_int ?_ | refine op_pick_true ?_ | refine op_pick_false ?_ | refine op_pick_true' ?_ | refine op_pick_false' ?_ | (refine op_farith ?_; intro _ _) | refine tc_cond_t ?_ | refine tc_cond_f ?_ | refine tc_block ?_ | refine tc_skip ?_ | refine tc_ret ?_ | refine at_seq_ret ?_ | refine at_block_normal ?_ | refine at_block_ret ?_ | refine at_loop_ret ?_ | refine at_loop_exit ?_ | refine tl_guard_yes ?_ | refine tl_guard_no ?_ | refine tl_guard_yes' ?_ | refine tl_guard_no' ?_ | refine tl_guard_undef ?_ | fail)
      | fail
    exact ret_tmp (hk := ⟨congrArg (Value.int .i64) ((by have := t_neg hD3 (dv_neg hp1s hp03 hq1s x13); show (-s) = T; omega)), rfl⟩)
  have ex13 : fcmp .lss r53 0 = false := by rw [FI.lss g53 fi0]; exact decide_eq_false x13
  by_cases x23 : v1 < q3
  · have ex23 : fcmp .gtr r53 rq1 = true := by rw [FI.gtr g53 gv1]; exact decide_eq_true x23
    repeat' first
      | (refine op_unop_neg_int ?_; rw [wrap_neg1 (neg1 hs)])
      | (first | refine tc_seq ?_ | refine tc_region ?_ | refine at_seq_normal ?_ | refine tl_nil ?_ | refine tl_cons ?_ | refine op_move ?_ | refine op_assign ?_ | refine op_fcmp ?_ | refine op_iarith ?_ | refine op_unop_neg_float ?_ | refine op_unop_neg_int ?_ | refine op_pick_true ?_ | refine op_pick_false ?_ | refine op_pick_true' ?_ | refine op_pick_false' ?_ | (refine op_farith ?_; intro _ _) | refine tc_cond_t ?_ | refine tc_cond_f ?_ | refine tc_block ?_ | refine tc_skip ?_ | refine tc_ret ?_ | refine at_seq_ret ?_ | refine at_block_normal ?_ | refine at_block_ret ?_ | refine at_loop_ret ?_ | refine at_loop_exit ?_ | refine tl_guard_yes ?_ | refine tl_guard_no ?_ | refine tl_guard_yes' ?_ | refine tl_guard_no' ?_ | refine tl_guard_undef ?_ | fail)
      | fail
    exact ret_tmp (hk := ⟨congrArg (Value.int .i64) (t_pos hD3 (dv_big hp1s hp13 hq1s x23)), rfl⟩)
  have ex23 : fcmp .gtr r53 rq1 = false := by rw [FI.gtr g53 gv1]; exact decide_eq_false x23
  have gq3 : FI 67108864 r53 q3 := ⟨g53.fv, by omega, by have := gv1.hi; omega⟩
  repeat' first
    | (refine op_unop_neg_int ?_; rw [wrap_neg1 (neg1 hs)])
    | (first | refine tc_seq ?_ | refine tc_region ?_ | refine at_seq_normal ?_ | refine tl_nil ?_ | refine tl_cons ?_ | refine op_move ?_ | refine op_assign ?_ | refine op_fcmp ?_ | refine op_iarith ?_ | refine op_unop_neg_float ?_ | refine op_unop_neg_int ?_ | refine op_pick_true ?_ | refine op_pick_false ?_ | refine op_pick_true' ?_ | refine op_pick_false' ?_ | (refine op_farith ?_; intro _ _) | refine tc_cond_t ?_ | refine tc_cond_f ?_ | refine tc_block ?_ | refine tc_skip ?_ | refine tc_ret ?_ | refine at_seq_ret ?_ | refine at_block_normal ?_ | refine at_block_ret ?_ | refine at_loop_ret ?_ | refine at_loop_exit ?_ | refine tl_guard_yes ?_ | refine tl_guard_no ?_ | refine tl_guard_yes' ?_ | refine tl_guard_no' ?_ | refine tl_guard_undef ?_ | fail)
    | fail
  rename_i r63 h63
  have g63 := FI.add gp3 gp3 ⟨rfl, by decide⟩ h63
  by_cases x33 : p3 + p3 < u1
  · have ex33 : fcmp .gtr r91 r63 = true := by rw [FI.gtr gu1 g63]; exact decide_eq_true x33
    repeat' first
      | (refine op_unop_neg_int ?_; rw [wrap_neg1 (neg1 hs)])
      | (first | refine tc_seq ?_ | refine tc_region ?_ | refine at_seq_normal ?_ | refine tl_nil ?_ | refine tl_cons ?_ | refine op_move ?_ | refine op_assign ?_ | refine op_fcmp ?_ | refine op_iarith ?_ | refine op_unop_neg_float ?_ | refine op_unop_neg_int ?_ | refine op_pick_true ?_ | refine op_pick_false ?_ | refine op_pick_true' ?_ | refine op_pick_false' ?_ | (refine op_farith ?_; intro _ _) | refine tc_cond_t ?_ | refine tc_cond_f ?_ | refine tc_block ?_ | refine tc_skip ?_ | refine tc_ret ?_ | refine at_seq_ret ?_ | refine at_block_normal ?_ | refine at_block_ret ?_ | refine at_loop_ret ?_ | refine at_loop_exit ?_ | refine tl_guard_yes ?_ | refine tl_guard_no ?_ | refine tl_guard_yes' ?_ | refine tl_guard_no' ?_ | refine tl_guard_undef ?_ | fail)
      | fail
    rename_i r73 h73
    have g73 := FI.add gq3 gq3 ⟨rfl, by decide⟩ h73
    by_cases x43 : v1 < q3 + q3
    · have ex43 : fcmp .lss rq1 r73 = true := by rw [FI.lss gv1 g73]; exact decide_eq_true x43
      repeat' first
        | (refine op_unop_neg_int ?_; rw [wrap_neg1 (neg1 hs)])
        | (first | refine tc_seq ?_ | refine tc_region ?_ | refine at_seq_normal ?_ | refine tl_nil ?_ | refine tl_cons ?_ | refine op_move ?_ | refine op_assign ?_ | refine op_fcmp ?_ | refine op_iarith ?_ | refine op_unop_neg_float ?_ | refine op_unop_neg_int ?_ | refine op_pick_true ?_ | refine op_pick_false ?_ | refine op_pick_true' ?_ | refine op_pick_false' ?_ | (refine op_farith ?_; intro _ _) | refine tc_cond_t ?_ | refine tc_cond_f ?_ | refine tc_block ?_ | refine tc_skip ?_ | refine tc_ret ?_ | refine at_seq_ret ?_ | refine at_block_normal ?_ | refine at_block_ret ?_ | refine at_loop_ret ?_ | refine at_loop_exit ?_ | refine tl_guard_yes ?_ | refine tl_guard_no ?_ | refine tl_guard_yes' ?_ | refine tl_guard_no' ?_ | refine tl_guard_undef ?_ | fail)
        | fail
      exact ret_tmp (hk := ⟨congrArg (Value.int .i64) (t_pos hD3 (dv_up hp1s hq1s x33 x43)), rfl⟩)
    have ex43 : fcmp .lss rq1 r73 = false := by rw [FI.lss gv1 g73]; exact decide_eq_false x43
    have hb3 : 2 * p3 ≤ u1 ∧ 2 * q3 ≤ v1 ∧ 0 ≤ p3 ∧ 0 ≤ q3 := by omega
    repeat' first
      | (refine op_unop_neg_int ?_; rw [wrap_neg1 (neg1 hs)])
      | (first | refine tc_seq ?_ | refine tc_region ?_ | refine at_seq_normal ?_ | refine tl_nil ?_ | refine tl_cons ?_ | refine op_move ?_ | refine op_assign ?_ | refine op_fcmp ?_ | refine op_iarith ?_ | refine op_unop_neg_float ?_ | refine op_unop_neg_int ?_ | refine op_pick_true ?_ | refine op_pick_false ?_ | refine op_pick_true' ?_ | refine op_pick_false' ?_ | (refine op_farith ?_; intro _ _) | refine tc_cond_t ?_ | refine tc_cond_f ?_ | refine tc_block ?_ | refine tc_skip ?_ | refine tc_ret ?_ | refine at_seq_ret ?_ | refine at_block_normal ?_ | refine at_block_ret ?_ | refine at_loop_ret ?_ | refine at_loop_exit ?_ | refine tl_guard_yes ?_ | refine tl_guard_no ?_ | refine tl_guard_yes' ?_ | refine tl_guard_no' ?_ | refine tl_guard_undef ?_ | fail)
      | fail
    by_cases y13 : q3 = 0
    · have ey13 : fcmp .eql r53 0 = true := by rw [FI.eql gq3 fi0]; exact decide_eq_true y13
      repeat' first
        | (refine op_unop_neg_int ?_; rw [wrap_neg1 (neg1 hs)])
        | (first | refine tc_seq ?_ | refine tc_region ?_ | refine at_seq_normal ?_ | refine tl_nil ?_ | refine tl_cons ?_ | refine op_move ?_ | refine op_assign ?_ | refine op_fcmp ?_ | refine op_iarith ?_ | refine op_unop_neg_float ?_ | refine op_unop_neg_int ?_ | refine op_pick_true ?_ | refine op_pick_false ?_ | refine op_pick_true' ?_ | refine op_pick_false' ?_ | (refine op_farith ?_; intro _ _) | refine tc_cond_t ?_ | refine tc_cond_f ?_ | refine tc_block ?_ | refine tc_skip ?_ | refine tc_ret ?_ | refine at_seq_ret ?_ | refine at_block_normal ?_ | refine at_block_ret ?_ | refine at_loop_ret ?_ | refine at_loop_exit ?_ | refine tl_guard_yes ?_ | refine tl_guard_no ?_ | refine tl_guard_yes' ?_ | refine tl_guard_no' ?_ | refine tl_guard_undef ?_ | fail)
        | fail
      by_cases y23 : p3 = 0
      · have ey23 : fcmp .eql r33 0 = true := by rw [FI.eql gp3 fi0]; exact decide_eq_true y23
        repeat' first
          | (refine op_unop_neg_int ?_; rw [wrap_neg1 (neg1 hs)])
          | (first | refine tc_seq ?_ | refine tc_region ?_ | refine at_seq_normal ?_ | refine tl_nil ?_ | refine tl_cons ?_ | refine op_move ?_ | refine op_assign ?_ | refine op_fcmp ?_ | refine op_iarith ?_ | refine op_unop_neg_float ?_ | refine op_unop_neg_int ?_ | refine op_pick_true ?_ | refine op_pick_false ?_ | refine op_pick_true' ?_ | refine op_pick_false' ?_ | (refine op_farith ?_; intro _ _) | refine tc_cond_t ?_ | refine tc_cond_f ?_ | refine tc_block ?_ | refine tc_skip ?_ | refine tc_ret ?_ | refine at_seq_ret ?_ | refine at_block_normal ?_ | refine at_block_ret ?_ | refine at_loop_ret ?_ | refine at_loop_exit ?_ | refine tl_guard_yes ?_ | refine tl_guard_no ?_ | refine tl_guard_yes' ?_ | refine tl_guard_no' ?_ | refine tl_guard_undef ?_ | fail)
          | fail
        exact ret_tmp (hk := ⟨congrArg (Value.int .i64) (t_zero hD3 (by rw [y13, y23]; simp)), rfl⟩)
      have ey23 : fcmp .eql r33 0 = false := by rw [FI.eql gp3 fi0]; exact decide_eq_false y23
      repeat' first
        | (refine op_unop_neg_int ?_; rw [wrap_neg1 (neg1 hs)])
        | (first | refine tc_seq ?_ | refine tc_region ?_ | refine at_seq_normal ?_ | refine tl_nil ?_ | refine tl_cons ?_ | refine op_move ?_ | refine op_assign ?_ | refine op_fcmp ?_ | refine op_iarith ?_ | refine op_unop_neg_float ?_ | refine op_unop_neg_int ?_ | refine op_pick_true ?_ | refine op_pick_false ?_ | refine op_pick_true' ?_ | refine op_pick_false' ?_ | (refine op_farith ?_; intro _ _) | refine tc_cond_t ?_ | refine tc_cond_f ?_ | refine tc_block ?_ | refine tc_skip ?_ | refine tc_ret ?_ | refine at_seq_ret ?_ | refine at_block_normal ?_ | refine at_block_ret ?_ | refine at_loop_ret ?_ | refine at_loop_exit ?_ | refine tl_guard_yes ?_ | refine tl_guard_no ?_ | refine tl_guard_yes' ?_ | refine tl_guard_no' ?_ | refine tl_guard_undef ?_ | fail)
        | fail
      exact ret_tmp (hk := ⟨congrArg (Value.int .i64) ((by have := t_neg hD3 (by rw [y13]; exact dv_q0 hq1s (by omega)); show (-s) = T; omega)), rfl⟩)
    have ey13 : fcmp .eql r53 0 = false := by rw [FI.eql gq3 fi0]; exact decide_eq_false y13
    repeat' first
      | (refine op_unop_neg_int ?_; rw [wrap_neg1 (neg1 hs)])
      | (first | refine tc_seq ?_ | refine tc_region ?_ | refine at_seq_normal ?_ | refine tl_nil ?_ | refine tl_cons ?_ | refine op_move ?_ | refine op_assign ?_ | refine op_fcmp ?_ | refine op_iarith ?_ | refine op_unop_neg_float ?_ | refine op_unop_neg_int ?_ | refine op_pick_true ?_ | refine op_pick_false ?_ | refine op_pick_true' ?_ | refine op_pick_false' ?_ | (refine op_farith ?_; intro _ _) | refine tc_cond_t ?_ | refine tc_cond_f ?_ | refine tc_block ?_ | refine tc_skip ?_ | refine tc_ret ?_ | refine at_seq_ret ?_ | refine at_block_normal ?_ | refine at_block_ret ?_ | refine at_loop_ret ?_ | refine at_loop_exit ?_ | refine tl_guard_yes ?_ | refine tl_guard_no ?_ | refine tl_guard_yes' ?_ | refine tl_guard_no' ?_ | refine tl_guard_undef ?_ | fail)
      | fail
    by_cases y33 : p3 = 0
    · have ey33 : fcmp .eql r33 0 = true := by rw [FI.eql gp3 fi0]; exact decide_eq_true y33
      repeat' first
        | (refine op_unop_neg_int ?_; rw [wrap_neg1 (neg1 hs)])
        | (first | refine tc_seq ?_ | refine tc_region ?_ | refine at_seq_normal ?_ | refine tl_nil ?_ | refine tl_cons ?_ | refine op_move ?_ | refine op_assign ?_ | refine op_fcmp ?_ | refine op_iarith ?_ | refine op_unop_neg_float ?_ | refine op_unop_neg_int ?_ | refine op_pick_true ?_ | refine op_pick_false ?_ | refine op_pick_true' ?_ | refine op_pick_false' ?_ | (refine op_farith ?_; intro _ _) | refine tc_cond_t ?_ | refine tc_cond_f ?_ | refine tc_block ?_ | refine tc_skip ?_ | refine tc_ret ?_ | refine at_seq_ret ?_ | refine at_block_normal ?_ | refine at_block_ret ?_ | refine at_loop_ret ?_ | refine at_loop_exit ?_ | refine tl_guard_yes ?_ | refine tl_guard_no ?_ | refine tl_guard_yes' ?_ | refine tl_guard_no' ?_ | refine tl_guard_undef ?_ | fail)
        | fail
      exact ret_tmp (hk := ⟨congrArg (Value.int .i64) (t_pos hD3 (by rw [y33]; exact dv_p0 hp1s (by omega))), rfl⟩)
    have ey33 : fcmp .eql r33 0 = false := by rw [FI.eql gp3 fi0]; exact decide_eq_false y33
    have hp3 : 0 < p3 := by omega
    have hq3 : 0 < q3 := by omega
    repeat' first
      | (refine op_unop_neg_int ?_; rw [wrap_neg1 (neg1 hs)])
      | (first | refine tc_seq ?_ | refine tc_region ?_ | refine at_seq_normal ?_ | refine tl_nil ?_ | refine tl_cons ?_ | refine op_move ?_ | refine op_assign ?_ | refine op_fcmp ?_ | refine op_iarith ?_ | refine op_unop_neg_float ?_ | refine op_unop_neg_int ?_ | refine op_pick_true ?_ | refine op_pick_false ?_ | refine op_pick_true' ?_ | refine op_pick_false' ?_ | (refine op_farith ?_; intro _ _) | refine tc_cond_t ?_ | refine tc_cond_f ?_ | refine tc_block ?_ | refine tc_skip ?_ | refine tc_ret ?_ | refine at_seq_ret ?_ | refine at_block_normal ?_ | refine at_block_ret ?_ | refine at_loop_ret ?_ | refine at_loop_exit ?_ | refine tl_guard_yes ?_ | refine tl_guard_no ?_ | refine tl_guard_yes' ?_ | refine tl_guard_no' ?_ | refine tl_guard_undef ?_ | fail)
      | fail
    refine at_loopK ⟨r33, r53, r91, rq1, p3, u1, q3, v1, (-s), _⟩ ⟨gp3, gu1, gq3, gv1, hp3, (show p3 ≤ u1 by omega), hq3, (show q3 ≤ v1 by omega), (neg1 hs), ?_⟩ ?_ ⟨rfl, rfl, rfl, rfl, rfl, rfl, trivial⟩ trivial (List.Sublist.refl _)
    · have := t_flip hD3 (dv_role u1 p3 v1 q3); rwa [Int.neg_neg] at this
    · show Int.toNat u1 < Int.toNat b; omega
  have ex33 : fcmp .gtr r91 r63 = false := by rw [FI.gtr gu1 g63]; exact decide_eq_false x33
  repeat' first
    | (refine op_unop_neg_int ?_; rw [wrap_neg1 (neg1 hs)])
    | (first | refine tc_seq ?_ | refine tc_region ?_ | refine at_seq_normal ?_ | refine tl_nil ?_ | refine tl_cons ?_ | refine op_move ?_ | refine op_assign ?_ | refine op_fcmp ?_ | refine op_iarith ?_ | refine op_unop_neg_float ?_ | refine op_unop_neg_int ?_ | refine op_pick_true ?_ | refine op_pick_false ?_ | refine op_pick_true' ?_ | refine op_pick_false' ?_ | (refine op_farith ?_; intro _ _) | refine tc_cond_t ?_ | refine tc_cond_f ?_ | refine tc_block ?_ | refine tc_skip ?_ | refine tc_ret ?_ | refine at_seq_ret ?_ | refine at_block_normal ?_ | refine at_block_ret ?_ | refine at_loop_ret ?_ | refine at_loop_exit ?_ | refine tl_guard_yes ?_ | refine tl_guard_no ?_ | refine tl_guard_yes' ?_ | refine tl_guard_no' ?_ | refine tl_guard_undef ?_ | fail)
    | fail
  rename_i r83 h83
  have g83 := FI.add gq3 gq3 ⟨rfl, by decide⟩ h83
  by_cases x53 : q3 + q3 < v1
  · have ex53 : fcmp .gtr rq1 r83 = true := by rw [FI.gtr gv1 g83]; exact decide_eq_true x53
    repeat' first
      | (refine op_unop_neg_int ?_; rw [wrap_neg1 (neg1 hs)])
      | (first | refine tc_seq ?_ | refine tc_region ?_ | refine at_seq_normal ?_ | refine tl_nil ?_ | refine tl_cons ?_ | refine op_move ?_ | refine op_assign ?_ | refine op_fcmp ?_ | refine op_iarith ?_ | refine op_unop_neg_float ?_ | refine op_unop_neg_int ?_ | refine op_pick_true ?_ | refine op_pick_false ?_ | refine op_pick_true' ?_ | refine op_pick_false' ?_ | (refine op_farith ?_; intro _ _) | refine tc_cond_t ?_ | refine tc_cond_f ?_ | refine tc_block ?_ | refine tc_skip ?_ | refine tc_ret ?_ | refine at_seq_ret ?_ | refine at_block_normal ?_ | refine at_block_ret ?_ | refine at_loop_ret ?_ | refine at_loop_exit ?_ | refine tl_guard_yes ?_ | refine tl_guard_no ?_ | refine tl_guard_yes' ?_ | refine tl_guard_no' ?_ | refine tl_guard_undef ?_ | fail)
      | fail
    exact ret_tmp (hk := ⟨congrArg (Value.int .i64) ((by have := t_neg hD3 (dv_dn hp1s hq1s (by omega) x53); show (-s) = T; omega)), rfl⟩)
  have ex53 : fcmp .gtr rq1 r83 = false := by rw [FI.gtr gv1 g83]; exact decide_eq_false x53
  repeat' first
    | (refine op_unop_neg_int ?_; rw [wrap_neg1 (neg1 hs)])
    | (first | refine tc_seq ?_ | refine tc_region ?_ | refine at_seq_normal ?_ | refine tl_nil ?_ | refine tl_cons ?_ | refine op_move ?_ | refine op_assign ?_ | refine op_fcmp ?_ | refine op_iarith ?_ | refine op_unop_neg_float ?_ | refine op_unop_neg_int ?_ | refine op_pick_true ?_ | refine op_pick_false ?_ | refine op_pick_true' ?_ | refine op_pick_false' ?_ | (refine op_farith ?_; intro _ _) | refine tc_cond_t ?_ | refine tc_cond_f ?_ | refine tc_block ?_ | refine tc_skip ?_ | refine tc_ret ?_ | refine at_seq_ret ?_ | refine at_block_normal ?_ | refine at_block_ret ?_ | refine at_loop_ret ?_ | refine at_loop_exit ?_ | refine tl_guard_yes ?_ | refine tl_guard_no ?_ | refine tl_guard_yes' ?_ | refine tl_guard_no' ?_ | refine tl_guard_undef ?_ | fail)
    | fail
  rename_i r93 h93 rq3 hq3
  have g93 := FI.sub gu1 gp3 ⟨rfl, by decide⟩ h93
  have gr3 := FI.sub gv1 gq3 ⟨rfl, by decide⟩ hq3
  have hE3 := t_flip hD3 (dv_swap u1 p3 v1 q3)
  obtain ⟨u3, eu3⟩ : ∃ z, z = u1 - p3 := ⟨_, rfl⟩
  obtain ⟨v3, ev3⟩ : ∃ z, z = v1 - q3 := ⟨_, rfl⟩
  rw [← eu3] at g93 hE3
  rw [← ev3] at gr3 hE3
  have hb3 : 2 * u3 ≤ u1 ∧ 2 * v3 ≤ v1 ∧ 0 ≤ u3 ∧ 0 ≤ v3 := by omega
  have gu3 : FI 67108864 r93 u3 := ⟨g93.fv, by have := gu1.hi; omega, by have := gu1.hi; omega⟩
  have gv3 : FI 67108864 rq3 v3 := ⟨gr3.fv, by have := gv1.hi; omega, by have := gv1.hi; omega⟩
  by_cases y13s : v3 = 0
  · have ey13s : fcmp .eql rq3 0 = true := by rw [FI.eql gv3 fi0]; exact decide_eq_true y13s
    repeat' first
      | (refine op_unop_neg_int ?_; rw [wrap_neg1 (neg1 (neg1 hs))])
      | (first | refine tc_seq ?_ | refine tc_region ?_ | refine at_seq_normal ?_ | refine tl_nil ?_ | refine tl_cons ?_ | refine op_move ?_ | refine op_assign ?_ | refine op_fcmp ?_ | refine op_iarith ?_ | refine op_unop_neg_float ?_ | refine op_unop_neg_int ?_ | refine op_pick_true ?_ | refine op_pick_false ?_ | refine op_pick_true' ?_ | refine op_pick_false' ?_ | (refine op_farith ?_; intro _ _) | refine tc_cond_t ?_ | refine tc_cond_f ?_ | refine tc_block ?_ | refine tc_skip ?_ | refine tc_ret ?_ | refine at_seq_ret ?_ | refine at_block_normal ?_ | refine at_block_ret ?_ | refine at_loop_ret ?_ | refine at_loop_exit ?_ | refine tl_guard_yes ?_ | refine tl_guard_no ?_ | refine tl_guard_yes' ?_ | refine tl_guard_no' ?_ | refine tl_guard_undef ?_ | fail)
      | fail
    by_cases y23s : u3 = 0
    · have ey23s : fcmp .eql r93 0 = true := by rw [FI.eql gu3 fi0]; exact decide_eq_true y23s
      repeat' first
        | (refine op_unop_neg_int ?_; rw [wrap_neg1 (neg1 (neg1 hs))])
        | (first | refine tc_seq ?_ | refine tc_region ?_ | refine at_seq_normal ?_ | refine tl_nil ?_ | refine tl_cons ?_ | refine op_move ?_ | refine op_assign ?_ | refine op_fcmp ?_ | refine op_iarith ?_ | refine op_unop_neg_float ?_ | refine op_unop_neg_int ?_ | refine op_pick_true ?_ | refine op_pick_false ?_ | refine op_pick_true' ?_ | refine op_pick_false' ?_ | (refine op_farith ?_; intro _ _) | refine tc_cond_t ?_ | refine tc_cond_f ?_ | refine tc_block ?_ | refine tc_skip ?_ | refine tc_ret ?_ | refine at_seq_ret ?_ | refine at_block_normal ?_ | refine at_block_ret ?_ | refine at_loop_ret ?_ | refine at_loop_exit ?_ | refine tl_guard_yes ?_ | refine tl_guard_no ?_ | refine tl_guard_yes' ?_ | refine tl_guard_no' ?_ | refine tl_guard_undef ?_ | fail)
        | fail
      exact ret_tmp (hk := ⟨congrArg (Value.int .i64) (t_zero hE3 (by rw [y13s, y23s]; simp)), rfl⟩)
    have ey23s : fcmp .eql r93 0 = false := by rw [FI.eql gu3 fi0]; exact decide_eq_false y23s
    repeat' first
      | (refine op_unop_neg_int ?_; rw [wrap_neg1 (neg1 (neg1 hs))])
      | (first | refine tc_seq ?_ | refine tc_region ?_ | refine at_seq_normal ?_ | refine tl_nil ?_ | refine tl_cons ?_ | refine op_move ?_ | refine op_assign ?_ | refine op_fcmp ?_ | refine op_iarith ?_ | refine op_unop_neg_float ?_ | refine op_unop_neg_int ?_ | refine op_pick_true ?_ | refine op_pick_false ?_ | refine op_pick_true' ?_ | refine op_pick_false' ?_ | (refine op_farith ?_; intro _ _) | refine tc_cond_t ?_ | refine tc_cond_f ?_ | refine tc_block ?_ | refine tc_skip ?_ | refine tc_ret ?_ | refine at_seq_ret ?_ | refine at_block_normal ?_ | refine at_block_ret ?_ | refine at_loop_ret ?_ | refine at_loop_exit ?_ | refine tl_guard_yes ?_ | refine tl_guard_no ?_ | refine tl_guard_yes' ?_ | refine tl_guard_no' ?_ | refine tl_guard_undef ?_ | fail)
      | fail
    exact ret_tmp (hk := ⟨congrArg (Value.int .i64) ((by have := t_neg hE3 (by rw [y13s]; exact dv_q0 hq1s (by omega)); show (-(-s)) = T; omega)), rfl⟩)
  have ey13s : fcmp .eql rq3 0 = false := by rw [FI.eql gv3 fi0]; exact decide_eq_false y13s
  repeat' first
    | (refine op_unop_neg_int ?_; rw [wrap_neg1 (neg1 (neg1 hs))])
    | (first | refine tc_seq ?_ | refine tc_region ?_ | refine at_seq_normal ?_ | refine tl_nil ?_ | refine tl_cons ?_ | refine op_move ?_ | refine op_assign ?_ | refine op_fcmp ?_ | refine op_iarith ?_ | refine op_unop_neg_float ?_ | refine op_unop_neg_int ?_ | refine op_pick_true ?_ | refine op_pick_false ?_ | refine op_pick_true' ?_ | refine op_pick_false' ?_ | (refine op_farith ?_; intro _ _) | refine tc_cond_t ?_ | refine tc_cond_f ?_ | refine tc_block ?_ | refine tc_skip ?_ | refine tc_ret ?_ | refine at_seq_ret ?_ | refine at_block_normal ?_ | refine at_block_ret ?_ | refine at_loop_ret ?_ | refine at_loop_exit ?_ | refine tl_guard_yes ?_ | refine tl_guard_no ?_ | refine tl_guard_yes' ?_ | refine tl_guard_no' ?_ | refine tl_guard_undef ?_ | fail)
    | fail
  by_cases y33s : u3 = 0
  · have ey33s : fcmp .eql r93 0 = true := by rw [FI.eql gu3 fi0]; exact decide_eq_true y33s
    repeat' first
      | (refine op_unop_neg_int ?_; rw [wrap_neg1 (neg1 (neg1 hs))])
      | (first | refine tc_seq ?_ | refine tc_region ?_ | refine at_seq_normal ?_ | refine tl_nil ?_ | refine tl_cons ?_ | refine op_move ?_ | refine op_assign ?_ | refine op_fcmp ?_ | refine op_iarith ?_ | refine op_unop_neg_float ?_ | refine op_unop_neg_int ?_ | refine op_pick_true ?_ | refine op_pick_false ?_ | refine op_pick_true' ?_ | refine op_pick_false' ?_ | (refine op_farith ?_; intro _ _) | refine tc_cond_t ?_ | refine tc_cond_f ?_ | refine tc_block ?_ | refine tc_skip ?_ | refine tc_ret ?_ | refine at_seq_ret ?_ | refine at_block_normal ?_ | refine at_block_ret ?_ | refine at_loop_ret ?_ | refine at_loop_exit ?_ | refine tl_guard_yes ?_ | refine tl_guard_no ?_ | refine tl_guard_yes' ?_ | refine tl_guard_no' ?_ | refine tl_guard_undef ?_ | fail)
      | fail
    exact ret_tmp (hk := ⟨congrArg (Value.int .i64) (t_pos hE3 (by rw [y33s]; exact dv_p0 hp1s (by omega))), rfl⟩)
  have ey33s : fcmp .eql r93 0 = false := by rw [FI.eql gu3 fi0]; exact decide_eq_false y33s
  have hp3s : 0 < u3 := by omega
  have hq3s : 0 < v3 := by omega
  repeat' first
    | (refine op_unop_neg_int ?_; rw [wrap_neg1 (neg1 (neg1 hs))])
    | (first | refine tc_seq ?_ | refine tc_region ?_ | refine at_seq_normal ?_ | refine tl_nil ?_ | refine tl_cons ?_ | refine op_move ?_ | refine op_assign ?_ | refine op_fcmp ?_ | refine op_iarith ?_ | refine op_unop_neg_float ?_ | refine op_unop_neg_int ?_ | refine op_pick_true ?_ | refine op_pick_false ?_ | refine op_pick_true' ?_ | refine op_pick_false' ?_ | (refine op_farith ?_; intro _ _) | refine tc_cond_t ?_ | refine tc_cond_f ?_ | refine tc_block ?_ | refine tc_skip ?_ | refine tc_ret ?_ | refine at_seq_ret ?_ | refine at_block_normal ?_ | refine at_block_ret ?_ | refine at_loop_ret ?_ | refine at_loop_exit ?_ | refine tl_guard_yes ?_ | refine tl_guard_no ?_ | refine tl_guard_yes' ?_ | refine tl_guard_no' ?_ | refine tl_guard_undef ?_ | fail)
    | fail
  refine at_loopK ⟨r93, rq3, r91, rq1, u3, u1, v3, v1, (-(-s)), _⟩ ⟨gu3, gu1, gv3, gv1, hp3s, (show u3 ≤ u1 by omega), hq3s, (show v3 ≤ v1 by omega), (neg1 (neg1 hs)), ?_⟩ ?_ ⟨rfl, rfl, rfl, rfl, rfl, rfl, trivial⟩ trivial (List.Sublist.refl _)
  · have := t_flip hE3 (dv_role u1 u3 v1 v3); rwa [Int.neg_neg] at this
  · show Int.toNat u1 < Int.toNat b; omega
end Go.Proofs.Ytomhkbijijdghaa.Sd
