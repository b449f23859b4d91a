/-
  Relative errors counted in units of 2^-53; math.Hypot of the machine. No conditions.
-/
import Derived.Test.YthafjfgmbmpfoaaFl9
import Derived.Test.YthafjfgmbmpfoaaLg13
set_option linter.unusedVariables false
set_option linter.unusedSimpArgs false
namespace Go.Lg
open Ieee

/-- c is q but for k units of 2^-53. -/
def Ru (k : Nat) (c q : Rat) : Prop := Rl ((k : Rat) * p2 (-53)) c q
theorem u_pos (k : Nat) : 0 ≤ (k : Rat) * p2 (-53) := Rat.mul_nonneg (by exact_mod_cast Nat.zero_le k) (Rat.le_of_lt (p2_pos _))
theorem u_mono {k l : Nat} (h : k ≤ l) : (k : Rat) * p2 (-53) ≤ (l : Rat) * p2 (-53) := mul_le (by exact_mod_cast h) (Rat.le_of_lt (p2_pos _))
theorem Ru.le {k l : Nat} {c q : Rat} (h : Ru k c q) (hl : k ≤ l) : Ru l c q := Rl.le h (u_mono hl)
theorem nat_cast_le {k : Nat} (h : k ≤ 1048576) : (k : Rat) ≤ p2 20 := by
  rw [p2_toNat (e := 20) (by decide)]; exact_mod_cast h
theorem u_sum {k l : Nat} (hk : k ≤ 1048576) (hl : l ≤ 1048576) :
    (k : Rat) * p2 (-53) + (l : Rat) * p2 (-53) + (k : Rat) * p2 (-53) * ((l : Rat) * p2 (-53)) ≤ ((k + l + 1 : Nat) : Rat) * p2 (-53) := by
  have h1 := nat_cast_le hk
  have h2 := nat_cast_le hl
  have hl0 : (0 : Rat) ≤ (l : Rat) := by exact_mod_cast Nat.zero_le l
  have e1 := mul_le h1 hl0
  have e2 := mul_le_left h2 (Rat.le_of_lt (p2_pos 20))
  rw [p2_mul (c := 40) (by decide)] at e2
  have e3 := mul_le (show (k : Rat) * (l : Rat) ≤ p2 40 by grind) (Rat.le_of_lt (p2_pos (-53)))
  rw [p2_mul (c := -13) (by decide)] at e3
  have e4 : p2 (-13) ≤ 1 := by rw [← p2_zero]; exact p2_le (by decide)
  have e5 := mul_le (show (k : Rat) * (l : Rat) * p2 (-53) ≤ 1 by grind) (Rat.le_of_lt (p2_pos (-53)))
  simp only [Rat.natCast_add]
  grind
theorem Ru.trans {k l : Nat} {c z q : Rat} (h1 : Ru k c z) (h2 : Ru l z q) (hk : k ≤ 1048576 := by decide) (hl : l ≤ 1048576 := by decide) : Ru (k + l + 1) c q :=
  (Rl.trans h1 h2 (u_pos k)).le (u_sum hk hl)
theorem Ru.mul {k l : Nat} {a b p q : Rat} (h1 : Ru k a p) (h2 : Ru l b q) (hk : k ≤ 1048576 := by decide) (hl : l ≤ 1048576 := by decide) : Ru (k + l + 1) (a * b) (p * q) :=
  (Rl.mul h1 h2 (u_pos k)).le (u_sum hk hl)
theorem Ru.refl (q : Rat) : Ru 0 q q := (Rl.refl q).le (u_pos 0)
theorem Ru.to {k l : Nat} {c q q' : Rat} (h : Ru k c q) (hl : k ≤ l) (e : q = q') : Ru l c q' := e ▸ h.le hl
theorem u_small {k : Nat} (hk : k ≤ 1048576) : (k : Rat) * p2 (-53) ≤ p2 (-1) := by
  have := mul_le (nat_cast_le hk) (Rat.le_of_lt (p2_pos (-53)))
  rw [p2_mul (c := -33) (by decide)] at this
  exact Rat.le_trans this (p2_le (by decide))
theorem Ru.zero {k : Nat} {c : Rat} (h : Ru k c 0) : c = 0 := by
  unfold Ru Rl at h
  rw [rabs_zero] at h
  have := rabs_le.1 (show rabs (c - 0) ≤ 0 by grind)
  grind
theorem half1 : p2 (-1) + p2 (-1) = 1 := by rw [← p2_half (e := -1) (e' := 0) (by decide)]; exact p2_zero
theorem Ru.sign {k : Nat} {c q : Rat} (h : Ru k c q) (hk : k ≤ 1048576 := by decide) : (0 < q → 0 < c ∧ p2 (-1) * q ≤ c ∧ c ≤ 2 * q) ∧ (q < 0 → c < 0) := by
  unfold Ru Rl at h
  have he := u_small hk
  constructor
  · intro hq
    rw [rabs_of_nonneg (Rat.le_of_lt hq)] at h
    have := rabs_le.1 h
    have := mul_le he (Rat.le_of_lt hq)
    have e2 : p2 (-1) * q + p2 (-1) * q = q := by rw [← Rat.add_mul, half1]; grind
    have := Rat.mul_pos (p2_pos (-1)) hq
    refine ⟨?_, ?_, ?_⟩ <;> grind
  · intro hq
    have hq' : 0 < -q := by grind
    rw [← rabs_neg q, rabs_of_nonneg (Rat.le_of_lt hq')] at h
    have := rabs_le.1 h
    have := mul_le he (Rat.le_of_lt hq')
    have e2 : p2 (-1) * -q + p2 (-1) * -q = -q := by rw [← Rat.add_mul, half1]; grind
    have := Rat.mul_pos (p2_pos (-1)) hq'
    grind
/-- The other way about, of a divisor. -/
theorem Ru.inv {k : Nat} {a b D : Rat} (h : Ru k a b) (hb : 0 < b) (hk : k ≤ 524288 := by decide) : Ru (2 * k) (D / a) (D / b) := by
  obtain ⟨ha, ha2, _⟩ := (h.sign (by omega)).1 hb
  have hka := h
  unfold Ru Rl at h ⊢
  rw [rabs_of_nonneg (Rat.le_of_lt hb)] at h
  have e1 := rat_div_mul D a (by grind)
  have e2 := rat_div_mul D b (by grind)
  generalize D / a = x at *
  generalize D / b = y at *
  -- (x - y) a = y (b - a)
  have e3 : (x - y) * a = y * (b - a) := by grind
  have e4 : rabs (x - y) * a = rabs y * rabs (a - b) := by
    have : rabs (x - y) * rabs a = rabs y * rabs (b - a) := by rw [← rabs_mul, e3, rabs_mul]
    rw [rabs_of_nonneg (Rat.le_of_lt ha)] at this
    rw [this]; congr 1; rw [← rabs_neg]; congr 1; grind
  have e5 := mul_le_left h (rabs_nonneg y)
  have e6 : rabs y * ((k : Rat) * p2 (-53) * b) ≤ ((2 * k : Nat) : Rat) * p2 (-53) * rabs y * a := by
    have h1 := mul_le_left ha2 (Rat.mul_nonneg (u_pos k) (rabs_nonneg y))
    have e7 : p2 (-1) * b + p2 (-1) * b = b := by rw [← Rat.add_mul, half1]; grind
    rw [Rat.natCast_mul]
    have : ((2 : Nat) : Rat) = 2 := rfl
    rw [this]
    have e8 : (k : Rat) * p2 (-53) * rabs y * b = (k : Rat) * p2 (-53) * rabs y * (p2 (-1) * b) + (k : Rat) * p2 (-53) * rabs y * (p2 (-1) * b) := by rw [← Rat.mul_add, e7]
    have f1 : rabs y * ((k : Rat) * p2 (-53) * b) = (k : Rat) * p2 (-53) * rabs y * b := by grind
    have f2 : 2 * (k : Rat) * p2 (-53) * rabs y * a = (k : Rat) * p2 (-53) * rabs y * a + (k : Rat) * p2 (-53) * rabs y * a := by grind
    rw [f1, f2, e8]
    clear e3 e4 e5 e1 e2 h e7 e8 f1 f2
    generalize (k : Rat) * p2 (-53) * rabs y * (p2 (-1) * b) = A at *
    generalize (k : Rat) * p2 (-53) * rabs y * a = B at *
    grind
  refine of_mul_le (c := a) ?_ ha
  grind

theorem Rnd.ru {q c : Rat} (h : Rnd q c) (hq : q = 0 ∨ p2 (-1000) ≤ rabs q) : Ru 1 c q := by
  rcases hq with rfl | hq
  · rw [h.exact rep_zero]; exact (Ru.refl 0).le (by decide)
  · have := h.rel (Rat.le_trans (p2_le (by decide)) hq)
    unfold Ru
    have e : ((1 : Nat) : Rat) * p2 (-53) = p2 (-53) := by
      have : ((1 : Nat) : Rat) = 1 := rfl
      rw [this, Rat.one_mul]
    rw [e]; exact this
theorem lt1023 {q : Rat} (h : rabs q ≤ p2 1000) : q < p2 1023 ∧ -q < p2 1023 := by
  have h1 := p2_lt (show (1000 : Int) < 1023 by decide)
  have h2 := le_rabs q
  generalize p2 1000 = a at *
  generalize p2 1023 = b at *
  constructor <;> grind
theorem far_mul_u {x y r : Nat} {a b : Rat} (h : FAr .mul x y r) (ha : Fv x a) (hb : Fv y b) (h1 : a * b = 0 ∨ p2 (-1000) ≤ rabs (a * b)) (h2 : rabs (a * b) ≤ p2 1000) : ∃ c, Fv r c ∧ Ru 1 c (a * b) := by
  obtain ⟨k1, k2⟩ := lt1023 h2
  obtain ⟨c, hc, hr⟩ := far_mul h ha hb k1 k2
  exact ⟨c, hc, hr.ru h1⟩
theorem far_add_u {x y r : Nat} {a b : Rat} (h : FAr .add x y r) (ha : Fv x a) (hb : Fv y b) (h1 : a + b = 0 ∨ p2 (-1000) ≤ rabs (a + b)) (h2 : rabs (a + b) ≤ p2 1000) : ∃ c, Fv r c ∧ Ru 1 c (a + b) := by
  obtain ⟨k1, k2⟩ := lt1023 h2
  obtain ⟨c, hc, hr⟩ := far_add h ha hb k1 k2
  exact ⟨c, hc, hr.ru h1⟩
theorem u_two : ((2 : Nat) : Rat) * p2 (-53) = p2 (-52) := by
  have e : p2 (-52) = p2 (-53) + p2 (-53) := p2_half (by decide)
  have : ((2 : Nat) : Rat) = 2 := rfl
  rw [e, this]; grind
theorem u_four : ((4 : Nat) : Rat) * p2 (-53) = p2 (-51) := by
  have e : p2 (-52) = p2 (-53) + p2 (-53) := p2_half (by decide)
  have e2 : p2 (-51) = p2 (-52) + p2 (-52) := p2_half (by decide)
  have : ((4 : Nat) : Rat) = 4 := rfl
  rw [e2, e, this]; grind
theorem far_quo_u {x y r : Nat} {a b : Rat} (h : FAr .quo x y r) (ha : Fv x a) (hb : Fv y b) (hb0 : b ≠ 0) (h1 : a = 0 ∨ p2 (-1000) ≤ rabs (a / b)) (h2 : rabs (a / b) ≤ p2 1000) : ∃ c, Fv r c ∧ Ru 2 c (a / b) := by
  rcases h1 with rfl | h1
  · refine ⟨0, far_quo_zero h ha hb hb0, ?_⟩
    have : (0 : Rat) / b = 0 := by rw [Rat.div_def]; simp
    rw [this]; exact (Ru.refl 0).le (by decide)
  · by_cases ha0 : a = 0
    · subst ha0
      refine ⟨0, far_quo_zero h ha hb hb0, ?_⟩
      have : (0 : Rat) / b = 0 := by rw [Rat.div_def]; simp
      rw [this]; exact (Ru.refl 0).le (by decide)
    · obtain ⟨c, hc, hr⟩ := far_quo h ha hb ha0 hb0 h1 h2
      refine ⟨c, hc, ?_⟩
      unfold Ru; rw [u_two]; exact hr
theorem sqrt_u {x r : Nat} {q : Rat} (hr : SqrtR x r) (hx : Fv x q) (hq : 0 < q) (hlo : p2 (-1000) ≤ q) (hhi : q ≤ p2 1000) : ∃ c, Fv r c ∧ 0 < c ∧ Ru 4 (c * c) q := by
  obtain ⟨c, h1, h2, h3⟩ := sqrt_rel hr hx hq hlo hhi
  refine ⟨c, h1, h2, ?_⟩
  unfold Ru; rw [u_four]; exact h3
/-- Two numbers from 0 on with nearly the same square, up to 1. -/
theorem near_units {k : Nat} {X a b : Rat} (ha : 0 ≤ a) (hb : 0 ≤ b) (h1 : Ru k (a * a) X) (h2 : Ru k (b * b) X) (hX : 0 ≤ X) (hX1 : X ≤ 1) (hk : k ≤ 256) : rabs (a - b) ≤ p2 (-42) := by
  have he : (k : Rat) * p2 (-53) ≤ p2 (-45) := by
    have : (k : Rat) ≤ p2 8 := by rw [p2_toNat (e := 8) (by decide)]; exact_mod_cast hk
    have := mul_le this (Rat.le_of_lt (p2_pos (-53)))
    rw [p2_mul (c := -45) (by decide)] at this
    exact this
  have := near_roots ha hb h1 h2 hX (u_pos k) (Rat.le_trans he (p2_le (by decide))) (show (0 : Rat) < 1 by decide) (by grind)
  have e8 : (8 : Rat) * p2 (-45) = p2 (-42) := by
    have : (8 : Rat) = p2 3 := by rw [p2_toNat (e := 3) (by decide)]; rfl
    rw [this, p2_mul (c := -42) (by decide)]
  grind
end Go.Lg
