/-
  Cosines out of whole numbers: what the code's numbers are, and how near they are to one another. No conditions.
-/
import Derived.Test.YtgkgfjliilemnaaTy
import Derived.Test.YtgkgfjliilemnaaFl11
set_option linter.unusedVariables false
set_option linter.unusedSimpArgs false
namespace Go.Proofs.Ytgkgfjliilemnaa.CosN
open Go.Lg

theorem one : Fv 4607182418800017408 (1 : Rat) := ⟨false, 4503599627370496, -52, rfl, by unfold sgn p2; simp; grind⟩
theorem zero : Fv 0 (0 : Rat) := ⟨false, 0, -1074, rfl, by simp⟩
theorem hypot (x y : Nat) (a b : Rat) (H : Heap) (hx : Fv x a) (hy : Fv y b) (ha : a = 0 ∨ p2 (-100) ≤ rabs a) (hb : b = 0 ∨ p2 (-100) ≤ rabs b) (ha2 : rabs a ≤ p2 100) (hb2 : rabs b ≤ p2 100) :
    Does Try.prog 132 [.float .f64 x, .float .f64 y] H fun v H' => (∃ r c, v = .float .f64 r ∧ Fv r c ∧ 0 ≤ c ∧ Ru 18 (c * c) (a * a + b * b)) ∧ H' = H := by
  refine fn_enter 11 Try.func132 fun W => ?_
  repeat' first
    | (first | refine tl_defer ?_ | refine tc_seq ?_ | refine tc_region ?_ | refine at_seq_normal ?_ | refine tl_nil ?_ | refine tl_cons ?_ | refine tl_cons_none ?_ | refine op_move ?_ | refine op_assign ?_ | refine op_fieldAddr ?_ | refine op_load ?_ | refine op_load_agg ?_ | refine op_indexC ?_ | refine op_indexAddr1 ?_ | refine op_indexAddr ?_ | refine op_icmp ?_ | refine op_fcmp ?_ | refine op_iarith ?_ | refine op_bcmp ?_ | refine op_unop_not ?_ | refine op_unop_neg_float ?_ | refine op_unop_neg_int ?_ | refine op_len_slice ?_ | refine op_pick_true ?_ | refine op_pick_false ?_ | refine op_pick_true' ?_ | refine op_pick_false' ?_ | refine op_build ?_ | refine op_extract ?_ | refine op_makeInterface ?_ | refine op_typeAssert ?_ | refine op_ptr_nil ?_ | refine op_nilCheck_ptr ?_ | refine op_nilCheck_meth ?_ | refine op_makeMeth ?_ | refine op_makeFunc ?_ | refine op_itof ?_ | refine op_itoi ?_ | refine op_ftoi ?_ | refine op_iquo ?_ | refine op_irem ?_ | refine op_ibits ?_ | refine op_slice_isnil ?_ | refine op_slice_notnil ?_ | refine op_imax ?_ | refine op_imin ?_ | refine op_shl ?_ | refine op_shr ?_ | (refine op_alloc ?_; intro _) | (refine op_box ?_; intro _) | (refine op_buildSlice ?_; intro _) | (refine op_farith ?_; intro _ _) | refine op_store0 ?_ | refine op_store1 ?_ | refine op_store2 ?_ | refine op_store3 ?_ | refine op_store4 ?_ | refine op_store5 ?_ | refine tc_cond_t ?_ | refine tc_cond_f ?_ | refine tc_cond (fun _ => ?_) (fun _ => ?_) | refine tc_block ?_ | refine tc_skip ?_ | refine tc_ret ?_ | refine tc_exit ?_ | refine tc_label ?_ | refine at_seq_ret ?_ | refine at_seq_exit ?_ | refine at_block_normal ?_ | refine at_block_ret ?_ | refine at_block_exit_self ?_ | refine at_block_exit_ne ?_ | refine at_loop_ret ?_ | refine at_loop_exit ?_ | refine at_loop_goto ?_ | refine tl_guard_yes ?_ | refine tl_guard_no ?_ | refine tl_guard_yes' ?_ | refine tl_guard_no' ?_ | refine tl_guard_undef ?_ | refine tl_guard_split (fun _ => ?_) (fun _ => ?_))
    | (refine op_call ((does_hypot Try.func134 rfl rfl (by kernel_rfl) (by kernel_rfl) hx hy ha hb ha2 hb2 one).mono ?_); rintro _ _ ⟨⟨r, c, rfl, h1, h2, h3⟩, rfl⟩)
    | fail
  exact ret_tmp (hk := ⟨⟨r, c, rfl, h1, h2, h3⟩, rfl⟩)
theorem int_ok {n B : Int} (h1 : -B ≤ n) (h2 : n ≤ B) (hB : B ≤ 9007199254740992) : ((n : Rat) = 0 ∨ p2 (-100) ≤ rabs (n : Rat)) ∧ rabs (n : Rat) ≤ p2 100 := by
  constructor
  · by_cases h : n = 0
    · left; rw [h]; rfl
    · right
      have := int_pos h
      exact Rat.le_trans (Rat.le_trans (p2_le (show (-100 : Int) ≤ 0 by decide)) (by rw [p2_zero]; exact Rat.le_refl)) this
  · have a1 := int_le_p2 (n := n) (by omega)
    have a2 := int_le_p2 (n := -n) (by omega)
    rw [Rat.intCast_neg] at a2
    have a3 := p2_le (show (53 : Int) ≤ 100 by decide)
    exact rabs_le.2 ⟨by grind, by grind⟩
theorem half_le {q : Rat} (h : 0 ≤ q) : p2 (-1) * q + p2 (-1) * q = q := by rw [← Rat.add_mul, half1]; grind
/-- Bounds of a number from 0 on by those of its square. -/
theorem root_hi {c m : Rat} (hc : 0 ≤ c) (hm : 0 < m) (h : c * c ≤ m * m) : c ≤ m := by
  rcases (Rat.le_total : c ≤ m ∨ m ≤ c) with h1 | h1
  · exact h1
  · have a1 := mul_le h1 hc
    have a2 := mul_le_left h1 (Rat.le_of_lt hm)
    rcases Rat.le_iff_lt_or_eq.1 h1 with h2 | h2
    · have := Rat.mul_pos (show 0 < c - m by grind) (show 0 < c + m by grind)
      exfalso; grind
    · grind
theorem root_lo {c m : Rat} (hc : 0 ≤ c) (hm : 0 < m) (h : m * m ≤ c * c) : m ≤ c := by
  rcases (Rat.le_total : m ≤ c ∨ c ≤ m) with h1 | h1
  · exact h1
  · rcases Rat.le_iff_lt_or_eq.1 h1 with h2 | h2
    · have := Rat.mul_pos (show 0 < m - c by grind) (show 0 < m + c by grind)
      exfalso; grind
    · grind
/-- Of a length: it is from 1/2 to 2^42. -/
theorem len_bd {k : Nat} {c : Rat} {P : Int} (hk : k ≤ 1048576) (hc : 0 ≤ c) (h : Ru k (c * c) (P : Rat)) (h1 : 1 ≤ P) (h2 : P ≤ 9007199254740992) : 0 < c ∧ p2 (-1) ≤ c ∧ c ≤ p2 42 := by
  have hP : (1 : Rat) ≤ (P : Rat) := by exact_mod_cast h1
  have hP2 := int_le_p2 h2
  obtain ⟨a1, a2, a3⟩ := (h.sign hk).1 (by grind)
  have e1 : p2 (-1) * p2 (-1) ≤ c * c := by
    have := mul_le_left hP (Rat.le_of_lt (p2_pos (-1)))
    have e2 := mul_le_left (show p2 (-1) ≤ 1 by rw [← p2_zero]; exact p2_le (by decide)) (Rat.le_of_lt (p2_pos (-1)))
    grind
  have e3 : c * c ≤ p2 42 * p2 42 := by
    rw [p2_mul (c := 84) (by decide)]
    have : p2 54 = p2 53 + p2 53 := p2_half (by decide)
    have := p2_le (show (54 : Int) ≤ 84 by decide)
    grind
  have h3 := root_lo hc (p2_pos (-1)) e1
  exact ⟨by have := p2_pos (-1); grind, h3, root_hi hc (p2_pos 42) e3⟩
theorem rat_div_sq {D x : Rat} (hx : x ≠ 0) : D / x * (D / x) = D * D / (x * x) := by
  have h := rat_div_mul D x hx
  refine (rat_div_eq (by intro h0; rcases Rat.mul_eq_zero.1 h0 with h | h <;> exact hx h) ?_).symm
  generalize D / x = y at *
  rw [← h]; grind
/-- What is known of a cosine: its square, and its sign. -/
def CosR (c : Nat) (D P Q : Int) : Prop := ∃ q, Fv c q ∧ Ru 256 (q * q) ((D : Rat) * D / ((P : Rat) * Q)) ∧ (0 ≤ D → 0 ≤ q) ∧ (D ≤ 0 → q ≤ 0)
theorem sign_of {k : Nat} {q D x : Rat} (hk : k ≤ 1048576) (h : Ru k q (D / x)) (hx : 0 < x) : (0 ≤ D → 0 ≤ q) ∧ (D ≤ 0 → q ≤ 0) := by
  have hd := rat_div_mul D x (by grind)
  generalize D / x = y at *
  have hs := h.sign hk
  constructor
  · intro hD
    have hy : 0 ≤ y := of_mul_le (c := x) (by grind) hx
    rcases Rat.le_iff_lt_or_eq.1 hy with h1 | h1
    · exact Rat.le_of_lt (hs.1 h1).1
    · rw [← h1] at h; rw [h.zero]; exact Rat.le_refl
  · intro hD
    have hy : y ≤ 0 := of_mul_le (c := x) (by grind) hx
    rcases Rat.le_iff_lt_or_eq.1 hy with h1 | h1
    · exact Rat.le_of_lt (hs.2 h1)
    · rw [h1] at h; rw [h.zero]; exact Rat.le_refl
theorem quo_bd {D : Int} {x : Rat} (h1 : -9007199254740992 ≤ D) (h2 : D ≤ 9007199254740992) (hx1 : p2 (-3) ≤ x) (hx2 : x ≤ p2 85) : ((D : Rat) = 0 ∨ p2 (-1000) ≤ rabs ((D : Rat) / x)) ∧ rabs ((D : Rat) / x) ≤ p2 1000 := by
  have hx0 : 0 < x := by have := p2_pos (-3); grind
  have hd := rat_div_mul (D : Rat) x (by grind)
  have ha : rabs ((D : Rat) / x) * x = rabs (D : Rat) := by
    have : rabs ((D : Rat) / x) * rabs x = rabs (D : Rat) := by rw [← rabs_mul, hd]
    rwa [rabs_of_nonneg (Rat.le_of_lt hx0)] at this
  constructor
  · by_cases h : D = 0
    · left; rw [h]; rfl
    · right
      have := int_pos h
      refine of_mul_le (c := x) ?_ hx0
      rw [ha]
      have e1 := mul_le_left hx2 (Rat.le_of_lt (p2_pos (-1000)))
      rw [p2_mul (c := -915) (by decide)] at e1
      have e2 : p2 (-915) ≤ 1 := by rw [← p2_zero]; exact p2_le (by decide)
      grind
  · refine of_mul_le (c := x) ?_ hx0
    rw [ha]
    have a1 := int_le_p2 (n := D) h2
    have a2 := int_le_p2 (n := -D) (by omega)
    rw [Rat.intCast_neg] at a2
    have a4 : rabs (D : Rat) ≤ p2 53 := rabs_le.2 ⟨by grind, by grind⟩
    have e1 := mul_le_left hx1 (Rat.le_of_lt (p2_pos 1000))
    rw [p2_mul (c := 997) (by decide)] at e1
    have e2 := p2_le (show (53 : Int) ≤ 997 by decide)
    grind
/-- The code's cosine. -/
theorem cos_num {A d n1 n2 m c : Nat} {D P Q : Int} {a b : Rat} (hd : FI A d D) (hA : A ≤ 9007199254740992) (ha : Fv n1 a) (hb : Fv n2 b) (a0 : 0 ≤ a) (b0 : 0 ≤ b) (ra : Ru 37 (a * a) (P : Rat)) (rb : Ru 37 (b * b) (Q : Rat))
    (hP : 1 ≤ P) (hQ : 1 ≤ Q) (hP2 : P ≤ 9007199254740992) (hQ2 : Q ≤ 9007199254740992) (e1 : FAr .mul n1 n2 m) (e2 : FAr .quo d m c) : CosR c D P Q := by
  obtain ⟨a1, a2, a3⟩ := len_bd (by decide) a0 ra hP hP2
  obtain ⟨b1, b2, b3⟩ := len_bd (by decide) b0 rb hQ hQ2
  have hab := Rat.mul_pos a1 b1
  have lab : p2 (-2) ≤ a * b ∧ a * b ≤ p2 84 := by
    constructor
    · have := mul_le a2 b0
      have := mul_le_left b2 (Rat.le_of_lt (p2_pos (-1)))
      rw [p2_mul (c := -2) (by decide)] at this
      grind
    · have := mul_le a3 b0
      have := mul_le_left b3 (Rat.le_of_lt (p2_pos 42))
      rw [p2_mul (c := 84) (by decide)] at this
      grind
  obtain ⟨x, hx, rx⟩ := far_mul_u e1 ha hb (.inr (by rw [rabs_of_nonneg (Rat.le_of_lt hab)]; exact Rat.le_trans (p2_le (by decide)) lab.1)) (by rw [rabs_of_nonneg (Rat.le_of_lt hab)]; exact Rat.le_trans lab.2 (p2_le (by decide)))
  -- x is nearly the product of the lengths, up to half of it
  have rx0 := rx
  obtain ⟨x1, _, _⟩ := rx.sign.1 hab
  have rxb := rx.pos (Rat.le_of_lt hab)
  have u1 : ((1 : Nat) : Rat) * p2 (-53) ≤ p2 (-3) := by
    have : ((1 : Nat) : Rat) = 1 := rfl
    rw [this, Rat.one_mul]; exact p2_le (by decide)
  have xl : p2 (-3) ≤ x := by
    have h1 := mul_le u1 (Rat.le_of_lt hab)
    have h2 : p2 (-3) * (a * b) ≤ p2 (-1) * (a * b) := mul_le (p2_le (by decide)) (Rat.le_of_lt hab)
    have h3 := half_le (Rat.le_of_lt hab)
    have h4 := mul_le_left lab.1 (Rat.le_of_lt (p2_pos (-1)))
    rw [p2_mul (c := -3) (by decide)] at h4
    grind
  have rxx : Ru 79 (x * x) ((P : Rat) * Q) := by
    have r1 := rx.mul rx
    have e : a * b * (a * b) = a * a * (b * b) := by grind
    rw [e] at r1
    exact (r1.trans (ra.mul rb)).le (by decide)
  have xh : x ≤ p2 85 := by
    have h1 := mul_le (show ((1 : Nat) : Rat) * p2 (-53) ≤ 1 by
      have : ((1 : Nat) : Rat) = 1 := rfl
      rw [this, Rat.one_mul, ← p2_zero]; exact p2_le (by decide)) (Rat.le_of_lt hab)
    have : p2 85 = p2 84 + p2 84 := p2_half (by decide)
    grind
  obtain ⟨q1, q2⟩ := quo_bd (D := D) (by have := hd.lo; omega) (by have := hd.hi; omega) xl xh
  obtain ⟨y, hy, ry⟩ := far_quo_u e2 hd.fv hx (by grind) q1 q2
  have hPQ : (0 : Rat) < (P : Rat) * Q := Rat.mul_pos (by exact_mod_cast (show 0 < P by omega)) (by exact_mod_cast (show 0 < Q by omega))
  refine ⟨y, hy, ?_, ?_⟩
  · have r1 := ry.mul ry
    rw [rat_div_sq (by grind)] at r1
    exact (r1.trans (rxx.inv (D := (D : Rat) * D) hPQ)).le (by decide)
  · have := sign_of (by decide) ry x1
    exact ⟨fun h => this.1 (by exact_mod_cast h), fun h => this.2 (by exact_mod_cast h)⟩
theorem Ru.abs {k : Nat} {c q : Rat} (h : Ru k c q) (hk : k ≤ 1048576 := by decide) : p2 (-1) * rabs q ≤ rabs c ∧ rabs c ≤ 2 * rabs q := by
  unfold Ru Rl at h
  have h1 := mul_le (u_small hk) (rabs_nonneg q)
  have h2 := half_le (rabs_nonneg q)
  have h3 := rabs_add (c - q) q
  have h4 := rabs_add (q - c) c
  rw [show c - q + q = c by grind] at h3
  rw [show q - c + c = q by grind] at h4
  have h5 : rabs (q - c) = rabs (c - q) := by rw [← rabs_neg]; congr 1; grind
  have := Rat.mul_nonneg (Rat.le_of_lt (p2_pos (-1))) (rabs_nonneg q)
  constructor <;> grind
/-- The statement's cosine: divided by one length after the other. -/
theorem want_num {A d n1 n2 t c : Nat} {D P Q : Int} {a b : Rat} (hd : FI A d D) (hA : A ≤ 9007199254740992) (ha : Fv n1 a) (hb : Fv n2 b) (a0 : 0 ≤ a) (b0 : 0 ≤ b) (ra : Ru 37 (a * a) (P : Rat)) (rb : Ru 37 (b * b) (Q : Rat))
    (hP : 1 ≤ P) (hQ : 1 ≤ Q) (hP2 : P ≤ 9007199254740992) (hQ2 : Q ≤ 9007199254740992) (e1 : FAr .quo d n1 t) (e2 : FAr .quo t n2 c) : CosR c D P Q := by
  obtain ⟨a1, a2, a3⟩ := len_bd (by decide) a0 ra hP hP2
  obtain ⟨b1, b2, b3⟩ := len_bd (by decide) b0 rb hQ hQ2
  have hab := Rat.mul_pos a1 b1
  obtain ⟨q1, q2⟩ := quo_bd (D := D) (x := a) (by have := hd.lo; omega) (by have := hd.hi; omega) (Rat.le_trans (p2_le (by decide)) a2) (Rat.le_trans a3 (p2_le (by decide)))
  obtain ⟨y, hy, ry⟩ := far_quo_u e1 hd.fv ha (by grind) q1 q2
  have hda := rat_div_mul (D : Rat) a (by grind)
  have hyb := rat_div_mul y b (by grind)
  have hyab : rabs (y / b) * b = rabs y := by
    have : rabs (y / b) * rabs b = rabs y := by rw [← rabs_mul, hyb]
    rwa [rabs_of_nonneg b0] at this
  have hdaa : rabs ((D : Rat) / a) * a = rabs (D : Rat) := by
    have : rabs ((D : Rat) / a) * rabs a = rabs (D : Rat) := by rw [← rabs_mul, hda]
    rwa [rabs_of_nonneg a0] at this
  have hya := Ru.abs ry
  have hD53 : rabs (D : Rat) ≤ p2 53 := by
    have a1 := int_le_p2 (n := D) (by have := hd.hi; omega)
    have a2 := int_le_p2 (n := -D) (by have := hd.lo; omega)
    rw [Rat.intCast_neg] at a2
    exact rabs_le.2 ⟨by grind, by grind⟩
  have hup : rabs ((D : Rat) / a) ≤ p2 54 := by
    have h1 := mul_le_left a2 (rabs_nonneg ((D : Rat) / a))
    rw [hdaa] at h1
    have h2 := half_le (rabs_nonneg ((D : Rat) / a))
    have : p2 54 = p2 53 + p2 53 := p2_half (by decide)
    grind
  have k1 : y = 0 ∨ p2 (-1000) ≤ rabs (y / b) := by
    by_cases h : D = 0
    · left
      have : (D : Rat) / a = 0 := by rw [h, Rat.div_def]; simp
      rw [this] at ry; exact ry.zero
    · right
      have h1 := int_pos h
      have h2 : p2 (-42) ≤ rabs ((D : Rat) / a) := by
        refine of_mul_le (c := a) ?_ a1
        rw [hdaa]
        have e1 := mul_le_left a3 (Rat.le_of_lt (p2_pos (-42)))
        rw [p2_mul (c := 0) (by decide), p2_zero] at e1
        grind
      have h3 := mul_le_left h2 (Rat.le_of_lt (p2_pos (-1)))
      rw [p2_mul (c := -43) (by decide)] at h3
      refine of_mul_le (c := b) ?_ b1
      rw [hyab]
      have e1 := mul_le_left b3 (Rat.le_of_lt (p2_pos (-1000)))
      rw [p2_mul (c := -958) (by decide)] at e1
      have e2 := p2_le (show (-958 : Int) ≤ -43 by decide)
      grind
  have k2 : rabs (y / b) ≤ p2 1000 := by
    refine of_mul_le (c := b) ?_ b1
    rw [hyab]
    have e1 := mul_le_left b2 (Rat.le_of_lt (p2_pos 1000))
    rw [p2_mul (c := 999) (by decide)] at e1
    have : p2 55 = p2 54 + p2 54 := p2_half (by decide)
    have e2 := p2_le (show (55 : Int) ≤ 999 by decide)
    grind
  obtain ⟨z, hz, rz⟩ := far_quo_u e2 hy hb (by grind) k1 k2
  have hdiv : (D : Rat) / a / b = (D : Rat) / (a * b) := by
    refine (rat_div_eq (by intro h0; rcases Rat.mul_eq_zero.1 h0 with h | h <;> grind) ?_).symm
    have := rat_div_mul ((D : Rat) / a) b (by grind)
    generalize (D : Rat) / a / b = w at *
    generalize (D : Rat) / a = v at *
    rw [← hda, ← this]; grind
  have rs : Ru 2 (y / b) ((D : Rat) / (a * b)) := by
    rw [← hdiv, Rat.div_def, Rat.div_def ((D : Rat) / a)]
    exact Rl.scale ry _
  have rw' : Ru 5 z ((D : Rat) / (a * b)) := (rz.trans rs).le (by decide)
  have hPQ : (0 : Rat) < (P : Rat) * Q := Rat.mul_pos (by exact_mod_cast (show 0 < P by omega)) (by exact_mod_cast (show 0 < Q by omega))
  have rxx : Ru 75 (a * b * (a * b)) ((P : Rat) * Q) := by
    have e : a * b * (a * b) = a * a * (b * b) := by grind
    rw [e]
    exact (ra.mul rb).le (by decide)
  refine ⟨z, hz, ?_, ?_⟩
  · have r1 := rw'.mul rw'
    rw [rat_div_sq (by grind)] at r1
    exact (r1.trans (rxx.inv (D := (D : Rat) * D) hPQ)).le (by decide)
  · have := sign_of (by decide) rw' hab
    exact ⟨fun h => this.1 (by exact_mod_cast h), fun h => this.2 (by exact_mod_cast h)⟩
theorem CosR.swap {c : Nat} {D P Q : Int} (h : CosR c D P Q) : CosR c D Q P := by
  obtain ⟨q, h1, h2, h3⟩ := h
  rw [Rat.mul_comm (P : Rat)] at h2
  exact ⟨q, h1, h2, h3⟩
theorem cos_same {c c' : Nat} {D P Q : Int} (h : CosR c D P Q) (h' : CosR c' D P Q) (hP : 1 ≤ P) (hQ : 1 ≤ Q) (hD : D * D ≤ P * Q) : ∃ q q', Fv c q ∧ Fv c' q' ∧ rabs (q - q') ≤ p2 (-42) := by
  obtain ⟨q, h1, h2, h3, h4⟩ := h
  obtain ⟨q', k1, k2, k3, k4⟩ := h'
  refine ⟨q, q', h1, k1, ?_⟩
  have hPQ : (0 : Rat) < (P : Rat) * Q := Rat.mul_pos (by exact_mod_cast (show 0 < P by omega)) (by exact_mod_cast (show 0 < Q by omega))
  have hdv := rat_div_mul ((D : Rat) * D) ((P : Rat) * Q) (by grind)
  have hDD : (D : Rat) * D ≤ (P : Rat) * Q := by rw [← Rat.intCast_mul, ← Rat.intCast_mul]; exact_mod_cast hD
  have hD0 : (0 : Rat) ≤ (D : Rat) * D := by
    rcases (Rat.le_total : (0 : Rat) ≤ (D : Rat) ∨ (D : Rat) ≤ 0) with h | h
    · exact Rat.mul_nonneg h h
    · have := Rat.mul_nonneg (show 0 ≤ -(D : Rat) by grind) (show 0 ≤ -(D : Rat) by grind); grind
  generalize (D : Rat) * D / ((P : Rat) * Q) = X at *
  have X0 : 0 ≤ X := of_mul_le (c := (P : Rat) * Q) (by grind) hPQ
  have X1 : X ≤ 1 := of_mul_le (c := (P : Rat) * Q) (by grind) hPQ
  rcases Int.le_total 0 D with hD | hD
  · exact near_units (h3 hD) (k3 hD) h2 k2 X0 X1 (by decide)
  · have e1 := h4 hD
    have e2 := k4 hD
    have r1 : Ru 256 (-q * -q) X := by have : -q * -q = q * q := by grind
                                       rw [this]; exact h2
    have r2 : Ru 256 (-q' * -q') X := by have : -q' * -q' = q' * q' := by grind
                                         rw [this]; exact k2
    have := near_units (show 0 ≤ -q by grind) (show 0 ≤ -q' by grind) r1 r2 X0 X1 (by decide)
    rw [← rabs_neg] at this
    have e : -(-q - -q') = q - q' := by grind
    rwa [e] at this
theorem cos_self {c : Nat} {P : Int} (h : CosR c P P P) (hP : 1 ≤ P) : ∃ q, Fv c q ∧ rabs (q - 1) ≤ p2 (-42) := by
  obtain ⟨q, h1, h2, h3, h4⟩ := h
  have hP0 : (0 : Rat) < (P : Rat) := by exact_mod_cast (show 0 < P by omega)
  have hPP := Rat.mul_pos hP0 hP0
  have e : (P : Rat) * P / ((P : Rat) * P) = 1 := rat_div_eq (by grind) (by grind)
  rw [e] at h2
  refine ⟨q, h1, near_units (h3 (by omega)) (by decide) h2 ?_ (by decide) Rat.le_refl (Nat.le_refl 256)⟩
  have : (1 : Rat) * 1 = 1 := by grind
  rw [this]
  exact (Ru.refl 1).le (by decide)
/-- Nearer than 2^-40. -/
theorem near40 {x y r : Nat} {a b : Rat} (hx : Fv x a) (hy : Fv y b) (h : rabs (a - b) ≤ p2 (-42)) (hr : FAr .sub x y r) : fcmp .lss (r % 9223372036854775808) 4427038433705197568 = true := by
  have h2 := lt1023 (q := a - b) (Rat.le_trans h (p2_le (by decide)))
  obtain ⟨c, hc, hrd⟩ := far_sub hr hx hy h2.1 h2.2
  have h3 := hrd.abs_le
  have h4 : p2 (-40) = p2 (-41) + p2 (-41) := p2_half (by decide)
  have h5 : p2 (-41) = p2 (-42) + p2 (-42) := p2_half (by decide)
  have h6 := p2_lt (show (-1000 : Int) < -42 by decide)
  have h7 := p2_pos (-42)
  have fv40 : Fv 4427038433705197568 (p2 (-40)) := ⟨false, 4503599627370496, -92, rfl, by
    have e : ((4503599627370496 : Nat) : Rat) = p2 52 := (p2_toNat (e := 52) (by decide)).symm
    have := p2_mul (a := 52) (b := -92) (c := -40) (by decide)
    rw [e]; unfold sgn; grind⟩
  rw [fcmp_lss hc.abs fv40]
  refine decide_eq_true ?_
  generalize p2 (-1000) = z at *
  clear hrd hc hr hx hy h2 fv40
  grind
end Go.Proofs.Ytgkgfjliilemnaa.CosN
