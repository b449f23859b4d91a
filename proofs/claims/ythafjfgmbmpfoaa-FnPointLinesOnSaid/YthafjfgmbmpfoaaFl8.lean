/-
  Relative errors: of rounding, quotients, square roots. No conditions.
-/
import Derived.Test.YthafjfgmbmpfoaaFl6
import Derived.Test.YthafjfgmbmpfoaaFl7
set_option linter.unusedVariables false
set_option linter.unusedSimpArgs false
namespace Go.Lg
open Ieee

/-- c is q but for a share e of it. -/
def Rl (e c q : Rat) : Prop := rabs (c - q) ≤ e * rabs q
theorem rabs_zero : rabs 0 = 0 := by unfold rabs; rw [if_neg (by decide)]
theorem rabs_of_nonneg {q : Rat} (h : 0 ≤ q) : rabs q = q := by unfold rabs; rw [if_neg (by grind)]
theorem rabs_neg (q : Rat) : rabs (-q) = rabs q := by unfold rabs; split <;> split <;> grind
theorem rabs_add (a b : Rat) : rabs (a + b) ≤ rabs a + rabs b := by unfold rabs; split <;> split <;> split <;> grind
theorem rabs_mul (a b : Rat) : rabs (a * b) = rabs a * rabs b := by
  rcases (Rat.le_total : 0 ≤ a ∨ a ≤ 0) with ha | ha <;> rcases (Rat.le_total : 0 ≤ b ∨ b ≤ 0) with hb | hb
  · rw [rabs_of_nonneg ha, rabs_of_nonneg hb, rabs_of_nonneg (Rat.mul_nonneg ha hb)]
  · have := Rat.mul_nonneg ha (show 0 ≤ -b by grind)
    rw [rabs_of_nonneg ha, ← rabs_neg b, rabs_of_nonneg (show 0 ≤ -b by grind), ← rabs_neg (a * b), rabs_of_nonneg (by grind)]; grind
  · have := Rat.mul_nonneg (show 0 ≤ -a by grind) hb
    rw [rabs_of_nonneg hb, ← rabs_neg a, rabs_of_nonneg (show 0 ≤ -a by grind), ← rabs_neg (a * b), rabs_of_nonneg (by grind)]; grind
  · have := Rat.mul_nonneg (show 0 ≤ -a by grind) (show 0 ≤ -b by grind)
    rw [← rabs_neg a, ← rabs_neg b, rabs_of_nonneg (show 0 ≤ -a by grind), rabs_of_nonneg (show 0 ≤ -b by grind), rabs_of_nonneg (by grind)]; grind
theorem rabs_pos {q : Rat} (h : q ≠ 0) : 0 < rabs q := by unfold rabs; split <;> grind
theorem mul_le_left {a b c : Rat} (h : a ≤ b) (hc : 0 ≤ c) : c * a ≤ c * b := by have := mul_le h hc; grind
theorem Rl.trans {e f c z q : Rat} (h1 : Rl e c z) (h2 : Rl f z q) (he : 0 ≤ e) : Rl (e + f + e * f) c q := by
  unfold Rl at *
  have a1 := rabs_add (c - z) (z - q)
  have a2 := rabs_add (z - q) q
  have e1 : c - z + (z - q) = c - q := by grind
  have e2 : z - q + q = z := by grind
  rw [e1] at a1
  rw [e2] at a2
  have a3 := mul_le_left (show rabs z ≤ f * rabs q + rabs q by grind) he
  grind
theorem Rl.le {e f c q : Rat} (h : Rl e c q) (hf : e ≤ f) : Rl f c q := by
  unfold Rl at *
  have := mul_le hf (rabs_nonneg q)
  grind
theorem Rl.refl (q : Rat) : Rl 0 q q := by unfold Rl; rw [Rat.sub_self, rabs_zero]; grind
theorem Rl.scale {e c q : Rat} (h : Rl e c q) (k : Rat) : Rl e (c * k) (q * k) := by
  unfold Rl at *
  have e1 : c * k - q * k = (c - q) * k := by grind
  rw [e1, rabs_mul, rabs_mul]
  have := mul_le h (rabs_nonneg k)
  grind
theorem Rl.mul {e f a b p q : Rat} (h1 : Rl e a p) (h2 : Rl f b q) (he : 0 ≤ e) : Rl (e + f + e * f) (a * b) (p * q) := by
  have s1 := h1.scale b
  have s2 := h2.scale p
  rw [Rat.mul_comm b p, Rat.mul_comm q p] at s2
  exact s1.trans s2 he
theorem Rl.pos {e c q : Rat} (h : Rl e c q) (hq : 0 ≤ q) : (1 - e) * q ≤ c ∧ c ≤ (1 + e) * q := by
  unfold Rl at h
  rw [rabs_of_nonneg hq] at h
  have := rabs_le.1 h
  constructor <;> grind
theorem Rl.of {e c q : Rat} (hq : 0 ≤ q) (h1 : (1 - e) * q ≤ c) (h2 : c ≤ (1 + e) * q) : Rl e c q := by
  unfold Rl
  rw [rabs_of_nonneg hq]
  exact rabs_le.2 ⟨by grind, by grind⟩

theorem p2_half {e e' : Int} (h : e' = e + 1) : p2 e' = p2 e + p2 e := by rw [h, p2_succ]; grind
theorem p2_mul {a b c : Int} (h : a + b = c) : p2 a * p2 b = p2 c := by rw [← p2_add, h]
theorem Rnd.rel {q c : Rat} (h : Rnd q c) (hq : p2 (-1022) ≤ rabs q) : Rl (p2 (-53)) c q := by
  obtain ⟨last, k, h1, h2, h3, h4, h5, h6, h7⟩ := h
  have hl : p2 last ≤ rabs q * p2 (-52) := by
    rcases h5 with h | h | h
    · subst h
      have := mul_le hq (Rat.le_of_lt (p2_pos (-52)))
      rw [← p2_add] at this
      exact this
    · have a := (le_rabs q).1
      have := mul_le (show p2 (last + 52) ≤ rabs q by grind) (Rat.le_of_lt (p2_pos (-52)))
      rw [← p2_add, show last + 52 + -52 = last by omega] at this
      exact this
    · have a := (le_rabs q).2
      have := mul_le (show p2 (last + 52) ≤ rabs q by grind) (Rat.le_of_lt (p2_pos (-52)))
      rw [← p2_add, show last + 52 + -52 = last by omega] at this
      exact this
  have e52 : p2 (-52) = p2 (-53) + p2 (-53) := p2_half (by decide)
  rw [e52] at hl
  unfold Rl
  exact rabs_le.2 ⟨by grind, by grind⟩
theorem rep_zero : Rep (0 : Rat) := ⟨0, 0, by simp, by decide, by decide, by decide⟩

theorem quo_core (D n : Nat) (hn : 0 < n) : rabs (((2 * (D / n) + (D % n != 0).toNat : Nat) : Rat) - 2 * ((D : Rat) / (n : Rat))) ≤ 1 := by
  have hnp : (0 : Rat) < (n : Rat) := by exact_mod_cast hn
  have e1 : (D : Rat) = (n : Rat) * ((D / n : Nat) : Rat) + ((D % n : Nat) : Rat) := by
    rw [← Rat.natCast_mul, ← Rat.natCast_add, Nat.div_add_mod]
  have hr := Nat.mod_lt D hn
  have hdiv : (D : Rat) / (n : Rat) * (n : Rat) = (D : Rat) := by rw [Rat.div_def, Rat.mul_assoc, Rat.inv_mul_cancel _ (by grind)]; grind
  generalize hz : (D : Rat) / (n : Rat) = z at *
  generalize D / n = Q at *
  generalize D % n = R at *
  have hR : ((R : Nat) : Rat) < (n : Rat) := by exact_mod_cast hr
  have hR0 : (0 : Rat) ≤ ((R : Nat) : Rat) := by exact_mod_cast Nat.zero_le R
  have hzn : (z - (Q : Rat)) * (n : Rat) = ((R : Nat) : Rat) := by grind
  have b1 : z - (Q : Rat) < 1 := of_mul_lt (c := (n : Rat)) (by grind) hnp
  by_cases hR1 : R = 0
  · subst hR1
    have b2 : z - (Q : Rat) = 0 := of_mul_eq (c := (n : Rat)) (by grind) hnp
    refine rabs_le.2 ?_
    simp only [bne_self_eq_false, Bool.toNat_false, Nat.add_zero, Rat.natCast_mul]
    constructor <;> grind
  · have b2 : 0 < z - (Q : Rat) := of_mul_lt (c := (n : Rat)) (by
      have : (0 : Rat) < ((R : Nat) : Rat) := by exact_mod_cast Nat.pos_of_ne_zero hR1
      grind) hnp
    have e2 : (R != 0).toNat = 1 := by simp [hR1]
    rw [e2]
    refine rabs_le.2 ?_
    rw [Rat.natCast_add, Rat.natCast_mul]
    constructor <;> grind

theorem rat_div_mul (a b : Rat) (hb : b ≠ 0) : a / b * b = a := by rw [Rat.div_def, Rat.mul_assoc, Rat.inv_mul_cancel _ hb]; grind
theorem rat_div_eq {a b q : Rat} (hb : b ≠ 0) (h : q * b = a) : a / b = q := by
  rw [← h, Rat.div_def, Rat.mul_assoc, Rat.mul_inv_cancel _ hb]; grind
theorem sgn_ne (s : Bool) : sgn s ≠ 0 := by cases s <;> (unfold sgn; grind)
theorem rabs_sgn (s : Bool) : rabs (sgn s) = 1 := by cases s <;> (unfold sgn rabs; simp <;> grind)
theorem rabs_signed {s : Bool} {m : Nat} {e : Int} : rabs (sgn s * (m : Rat) * p2 e) = (m : Rat) * p2 e := by
  rw [rabs_mul, rabs_mul, rabs_sgn, rabs_of_nonneg (show (0 : Rat) ≤ (m : Rat) by exact_mod_cast Nat.zero_le m), rabs_of_nonneg (Rat.le_of_lt (p2_pos e))]; grind

theorem e53 : p2 (-53) + p2 (-54) + p2 (-53) * p2 (-54) ≤ p2 (-52) := by
  rw [p2_mul (a := -53) (b := -54) (c := -107) (by decide)]
  have := p2_le (show (-107 : Int) ≤ -54 by decide)
  have e1 : p2 (-52) = p2 (-53) + p2 (-53) := p2_half (by decide)
  have e2 : p2 (-53) = p2 (-54) + p2 (-54) := p2_half (by decide)
  grind
theorem e53b : 0 ≤ p2 (-53) + p2 (-53) + p2 (-53) * p2 (-53) := by
  rw [p2_mul (a := -53) (b := -53) (c := -106) (by decide)]
  have := p2_pos (-53); have := p2_pos (-106); grind
theorem e51 : p2 (-53) + p2 (-53) + p2 (-53) * p2 (-53) + p2 (-53) + (p2 (-53) + p2 (-53) + p2 (-53) * p2 (-53)) * p2 (-53) ≤ p2 (-51) := by
  have a1 : p2 (-53) * p2 (-53) = p2 (-106) := p2_mul (by decide)
  have a2 : p2 (-106) * p2 (-53) = p2 (-159) := p2_mul (by decide)
  have b1 := p2_le (show (-106 : Int) ≤ -55 by decide)
  have b2 := p2_le (show (-159 : Int) ≤ -55 by decide)
  have e1 : p2 (-51) = p2 (-52) + p2 (-52) := p2_half (by decide)
  have e2 : p2 (-52) = p2 (-53) + p2 (-53) := p2_half (by decide)
  have e3 : p2 (-53) = p2 (-54) + p2 (-54) := p2_half (by decide)
  have e4 : p2 (-54) = p2 (-55) + p2 (-55) := p2_half (by decide)
  rw [a1]
  have e5 : (p2 (-53) + p2 (-53) + p2 (-106)) * p2 (-53) = p2 (-106) + p2 (-106) + p2 (-159) := by rw [Rat.add_mul, Rat.add_mul, a1, a2]
  rw [e5]
  grind
/-- A quotient, rounded. -/
theorem far_quo {x y r : Nat} {a b : Rat} (h : FAr .quo x y r) (ha : Fv x a) (hb : Fv y b) (ha0 : a ≠ 0) (hb0 : b ≠ 0) (hlo : p2 (-1000) ≤ rabs (a / b)) (hhi : rabs (a / b) ≤ p2 1000) :
    ∃ c, Fv r c ∧ Rl (p2 (-52)) c (a / b) := by
  obtain ⟨s, m, i, hx, rfl⟩ := ha
  obtain ⟨t, n, j, hy, rfl⟩ := hb
  have hn0 : n ≠ 0 := by rintro rfl; exact hb0 (by simp)
  have hm0 : m ≠ 0 := by rintro rfl; exact ha0 (by simp)
  have hnp : (0 : Rat) < (n : Rat) := by exact_mod_cast Nat.pos_of_ne_zero hn0
  obtain ⟨more, hmore⟩ : ∃ more, more = double.fractionBits + 2 + n.log2 - m.log2 := ⟨_, rfl⟩
  have hf : floatBits .quo .f64 x y = some (double.write (.number (s ^^ t) (2 * ((m <<< more) / n) + ((m <<< more) % n != 0).toNat) (i - j - more - 1))) := by
    show ((double.read x).quotient (double.fractionBits + 2) (double.read y)).map double.write = _
    rw [hx, hy]
    simp only [Datum.quotient, if_neg hn0, ← hmore]
    rfl
  have h := h.ok; rw [hf] at h; subst h
  -- the quotient's value
  have hcore := quo_core (m <<< more) n (Nat.pos_of_ne_zero hn0)
  have hD : 2 ^ 53 * n ≤ m <<< more := by
    rw [Nat.shiftLeft_eq]
    have h1 : 2 ^ m.log2 ≤ m := Nat.log2_self_le hm0
    have h2 : n < 2 ^ (n.log2 + 1) := Nat.lt_log2_self
    have h3 : 53 + (n.log2 + 1) ≤ m.log2 + more := by
      have : double.fractionBits = 52 := rfl
      rw [this] at hmore; omega
    calc 2 ^ 53 * n ≤ 2 ^ 53 * 2 ^ (n.log2 + 1) := Nat.mul_le_mul_left _ (Nat.le_of_lt h2)
      _ = 2 ^ (53 + (n.log2 + 1)) := by rw [← Nat.pow_add]
      _ ≤ 2 ^ (m.log2 + more) := Nat.pow_le_pow_right (by decide) h3
      _ = 2 ^ m.log2 * 2 ^ more := Nat.pow_add ..
      _ ≤ m * 2 ^ more := Nat.mul_le_mul_right _ h1
  have hDv : ((m <<< more : Nat) : Rat) = (m : Rat) * p2 (more : Int) := by rw [Nat.shiftLeft_eq, Rat.natCast_mul, p2_nat]
  generalize hz : (2 * ((m <<< more) / n) + ((m <<< more) % n != 0).toNat) = z at *
  generalize hDD : m <<< more = D at *
  have hz2 : (p2 53) ≤ (D : Rat) / (n : Rat) := by
    refine of_mul_le (c := (n : Rat)) ?_ hnp
    rw [rat_div_mul _ _ (by grind), p2_toNat (by decide), ← Rat.natCast_mul]
    exact_mod_cast hD
  have hq : sgn s * (m : Rat) * p2 i / (sgn t * (n : Rat) * p2 j) = sgn (s ^^ t) * ((D : Rat) / (n : Rat)) * p2 (i - j - more) := by
    refine rat_div_eq hb0 ?_
    have e1 : (D : Rat) / (n : Rat) * (n : Rat) = (D : Rat) := rat_div_mul _ _ (by grind)
    have e2 : p2 (i - j - more) * p2 j * p2 more = p2 i := by rw [p2_mul (c := i - more) (by omega), p2_mul (c := i) (by omega)]
    have e3 : sgn (s ^^ t) * sgn t = sgn s := by cases s <;> cases t <;> (simp only [sgn, Bool.xor_true, Bool.xor_false, Bool.not_true, Bool.not_false]; grind)
    rw [← e2, ← e3]
    have : sgn (s ^^ t) * ((D : Rat) / (n : Rat)) * p2 (i - j - more) * (sgn t * (n : Rat) * p2 j) = sgn (s ^^ t) * sgn t * ((D : Rat) / (n : Rat) * (n : Rat)) * (p2 (i - j - more) * p2 j) := by grind
    rw [this, e1, hDv]; grind
  rw [hq] at hlo hhi ⊢
  generalize (D : Rat) / (n : Rat) = u at *
  have hu0 : 0 ≤ u := by have := p2_pos 53; grind
  have hpe : p2 (i - j - more) = p2 (i - j - more - 1) + p2 (i - j - more - 1) := by
    exact p2_half (by omega)
  have hpp := p2_pos (i - j - more - 1)
  rw [hpe] at hlo hhi ⊢
  generalize hw : p2 (i - j - more - 1) = w at hpp hlo hhi ⊢
  generalize (s ^^ t) = st at *
  have hrel : Rl (p2 (-54)) (sgn st * (z : Rat) * w) (sgn st * u * (w + w)) := by
    unfold Rl
    have e1 : sgn st * (z : Rat) * w - sgn st * u * (w + w) = sgn st * ((z : Rat) - 2 * u) * w := by grind
    rw [e1, rabs_mul, rabs_mul, rabs_mul, rabs_mul, rabs_sgn, rabs_of_nonneg (Rat.le_of_lt hpp), rabs_of_nonneg hu0, rabs_of_nonneg (show 0 ≤ w + w by grind)]
    have a1 := mul_le hcore (Rat.le_of_lt hpp)
    have a2 : p2 53 * p2 (-54) = p2 (-1) := p2_mul (by decide)
    have a3 : p2 (-1) + p2 (-1) = 1 := by rw [← p2_half (e' := 0) (by decide)]; exact p2_zero
    have a4 := mul_le hz2 (Rat.le_of_lt (p2_pos (-54)))
    have a5 := mul_le a4 (show 0 ≤ w + w by grind)
    rw [a2] at a5
    have a6 : (p2 (-1) + p2 (-1)) * w = 1 * w := by rw [a3]
    clear a4 hz2 hcore
    grind
  have hz' : rabs (sgn st * u * (w + w)) = u * (w + w) := by
    rw [rabs_mul, rabs_mul, rabs_sgn, rabs_of_nonneg hu0, rabs_of_nonneg (show 0 ≤ w + w by grind)]; grind
  rw [hz'] at hlo hhi
  have hzv : rabs (sgn st * (z : Rat) * w) = (z : Rat) * w := by
    rw [rabs_mul, rabs_mul, rabs_sgn, rabs_of_nonneg (show (0 : Rat) ≤ (z : Rat) by exact_mod_cast Nat.zero_le z), rabs_of_nonneg (Rat.le_of_lt hpp)]; grind
  have hz3 := rabs_le.1 hcore
  have huw : 0 ≤ (u - 1) * w := by
    refine Rat.mul_nonneg ?_ (Rat.le_of_lt hpp)
    have : (1 : Rat) ≤ p2 53 := by rw [← p2_zero]; exact p2_le (by decide)
    grind
  have hb1 := mul_le hz3.1 (Rat.le_of_lt hpp)
  have hb2 := mul_le hz3.2 (Rat.le_of_lt hpp)
  have l1 : p2 (-1000) = p2 (-1001) + p2 (-1001) := p2_half (by decide)
  have l2 : p2 1001 = p2 1000 + p2 1000 := p2_half (by decide)
  have l3 := p2_lt (show (1001 : Int) < 1023 by decide)
  have l4 := p2_le (show (-1022 : Int) ≤ -1001 by decide)
  have hbnd : u * w ≤ (z : Rat) * w ∧ (z : Rat) * w ≤ u * (w + w) + w := by constructor <;> grind
  have hw2 : w ≤ u * w := by grind
  have l5 := p2_pos (-1001)
  have l6 := p2_pos 1000
  clear hb1 hb2 hz2 hcore hz3 huw
  have hzw : rabs (sgn st * (z : Rat) * w) < p2 1023 := by rw [hzv]; grind
  have hzl := le_rabs (sgn st * (z : Rat) * w)
  obtain ⟨c, hc, hr⟩ := write_rnd (s := st) (m := z) (e := i - j - more - 1) (by rw [hw]; grind) (by rw [hw]; grind)
  rw [hw] at hr
  refine ⟨c, hc, ((hr.rel (by rw [hzv]; grind)).trans hrel (Rat.le_of_lt (p2_pos _))).le ?_⟩
  exact e53
theorem write_zero (s : Bool) (e : Int) : Fv (double.write (.number s 0 e)) 0 := by
  obtain ⟨c, hc, hr⟩ := write_rnd (s := s) (m := 0) (e := e) (by have := p2_pos 1023; simp; grind) (by have := p2_pos 1023; simp; grind)
  have := hr.exact ⟨0, 0, by simp, by decide, by decide, by decide⟩
  rw [this] at hc
  simpa using hc
theorem far_quo_zero {x y r : Nat} {b : Rat} (h : FAr .quo x y r) (ha : Fv x 0) (hb : Fv y b) (hb0 : b ≠ 0) : Fv r 0 := by
  obtain ⟨s, m, i, hx, hm⟩ := ha
  obtain ⟨t, n, j, hy, rfl⟩ := hb
  have hn0 : n ≠ 0 := by rintro rfl; exact hb0 (by simp)
  have hm0 : m = 0 := by
    rcases Nat.eq_zero_or_pos m with h | h
    · exact h
    · exfalso
      have h1 : (0 : Rat) < (m : Rat) := by exact_mod_cast h
      have h2 := Rat.mul_pos h1 (p2_pos i)
      cases s <;> (unfold sgn at hm; grind)
  subst hm0
  have hf : floatBits .quo .f64 x y = some (double.write (.number (s ^^ t) 0 (i - j - (double.fractionBits + 2 + n.log2 - Nat.log2 0 : Nat) - 1))) := by
    show ((double.read x).quotient (double.fractionBits + 2) (double.read y)).map double.write = _
    rw [hx, hy]
    simp [Datum.quotient, hn0]
  have h := h.ok; rw [hf] at h; subst h
  exact write_zero _ _

theorem root_core (n W st : Nat) (h1 : W * W ≤ n) (h2 : n < (W + 1) * (W + 1)) (hst : st = (W * W != n).toNat) (hW : 2 ^ 53 ≤ W) :
    Rl (p2 (-53)) (((2 * W + st : Nat) : Rat) * ((2 * W + st : Nat) : Rat)) (4 * (n : Rat)) := by
  have hWn : W * 2 ^ 53 ≤ n := Nat.le_trans (Nat.mul_le_mul_left _ hW) h1
  have hWr : (W : Rat) * p2 53 ≤ (n : Rat) := by rw [p2_toNat (by decide), ← Rat.natCast_mul]; exact_mod_cast hWn
  have hn0 : (0 : Rat) ≤ (n : Rat) := by exact_mod_cast Nat.zero_le n
  have e1 : p2 53 * p2 (-53) = 1 := by rw [p2_mul (c := 0) (by decide)]; exact p2_zero
  have h4 := mul_le hWr (Rat.le_of_lt (p2_pos (-53)))
  have h5 : (W : Rat) ≤ (n : Rat) * p2 (-53) := by rw [Rat.mul_assoc, e1] at h4; grind
  unfold Rl
  rw [rabs_of_nonneg (show 0 ≤ 4 * (n : Rat) by grind)]
  by_cases he : W * W = n
  · have h0 : st = 0 := by rw [hst, he]; simp
    subst h0
    have : ((2 * W + 0 : Nat) : Rat) * ((2 * W + 0 : Nat) : Rat) = 4 * (n : Rat) := by
      rw [← he, Nat.add_zero, Rat.natCast_mul, Rat.natCast_mul]; simp; grind
    rw [this, Rat.sub_self, rabs_zero]
    have := Rat.mul_nonneg (Rat.le_of_lt (p2_pos (-53))) (show 0 ≤ 4 * (n : Rat) by grind)
    exact this
  · have h0 : st = 1 := by rw [hst]; simp [he]
    subst h0
    have hz : ((2 * W + 1 : Nat) : Rat) * ((2 * W + 1 : Nat) : Rat) = ((4 * (W * W) + 4 * W + 1 : Nat) : Rat) := by
      rw [← Rat.natCast_mul]; have : (2 * W + 1) * (2 * W + 1) = 4 * (W * W) + 4 * W + 1 := by grind
      rw [this]
    rw [hz]
    have hn1 : n ≤ W * W + 2 * W := by simp only [Nat.mul_add, Nat.add_mul] at h2; omega
    have hn2 : W * W + 1 ≤ n := by omega
    have r1 : (n : Rat) ≤ ((W * W + 2 * W : Nat) : Rat) := by exact_mod_cast hn1
    have r2 : ((W * W + 1 : Nat) : Rat) ≤ (n : Rat) := by exact_mod_cast hn2
    have r3 : (0 : Rat) ≤ (W : Rat) := by exact_mod_cast Nat.zero_le W
    have e2 : ((4 * (W * W) + 4 * W + 1 : Nat) : Rat) = 4 * ((W * W : Nat) : Rat) + 4 * (W : Rat) + 1 := by simp [Rat.natCast_add, Rat.natCast_mul]
    rw [e2]
    rw [Rat.natCast_add] at r1 r2
    rw [show ((2 * W : Nat) : Rat) = 2 * (W : Rat) by simp [Rat.natCast_mul]] at r1
    have r4 : (1 : Rat) ≤ (W : Rat) := by exact_mod_cast (Nat.le_trans (by decide) hW)
    refine rabs_le.2 ⟨?_, ?_⟩ <;> grind

/-- A root, rounded: its square is the number but for a small share. -/
theorem sqrt_rel {x r : Nat} {q : Rat} (hr : SqrtR x r) (hx : Fv x q) (hq : 0 < q) (hlo : p2 (-1000) ≤ q) (hhi : q ≤ p2 1000) : ∃ c, Fv r c ∧ 0 < c ∧ Rl (p2 (-51)) (c * c) q := by
  obtain ⟨s, m, i, hx, rfl⟩ := hx
  have hm0 : m ≠ 0 := by rintro rfl; simp at hq
  have hmp : (0 : Rat) < (m : Rat) := by exact_mod_cast Nat.pos_of_ne_zero hm0
  have hs : s = false := by
    cases s with
    | false => rfl
    | true => exfalso; have := Rat.mul_pos hmp (p2_pos i); unfold sgn at hq; grind
  subst hs
  obtain ⟨more, hmore⟩ : ∃ more, more = 2 * (double.fractionBits + 2) - m.log2 + ((i - ((2 * (double.fractionBits + 2) - m.log2 : Nat) : Int)) % 2).toNat := ⟨_, rfl⟩
  obtain ⟨h, hh⟩ : ∃ h : Int, i - more = 2 * h := ⟨(i - more) / 2, by omega⟩
  have hn108 : 2 ^ 108 ≤ m <<< more := by
    rw [Nat.shiftLeft_eq]
    have h1 : 2 ^ m.log2 ≤ m := Nat.log2_self_le hm0
    have h3 : 108 ≤ m.log2 + more := by
      have : double.fractionBits = 52 := rfl
      rw [this] at hmore; omega
    calc 2 ^ 108 ≤ 2 ^ (m.log2 + more) := Nat.pow_le_pow_right (by decide) h3
      _ = 2 ^ m.log2 * 2 ^ more := Nat.pow_add ..
      _ ≤ m * 2 ^ more := Nat.mul_le_mul_right _ h1
  have hnv : ((m <<< more : Nat) : Rat) = (m : Rat) * p2 (more : Int) := by rw [Nat.shiftLeft_eq, Rat.natCast_mul, p2_nat]
  have hlog : m <<< more < 2 ^ ((m <<< more).log2 + 1) := Nat.lt_log2_self
  have hsp := rootFrom_spec (m <<< more) ((m <<< more).log2 / 2 + 1) 0 (by omega) (by
    rw [Nat.zero_add, ← Nat.pow_add]
    exact Nat.lt_of_lt_of_le hlog (Nat.pow_le_pow_right (by decide) (by omega)))
  have hroot : double.sqrt x = some (double.write (.number false (2 * Datum.rootFrom (m <<< more) ((m <<< more).log2 / 2 + 1) 0 + (Datum.rootFrom (m <<< more) ((m <<< more).log2 / 2 + 1) 0 * Datum.rootFrom (m <<< more) ((m <<< more).log2 / 2 + 1) 0 != m <<< more).toNat) (h - 1))) := by
    show ((double.read x).root _).map double.write = _
    rw [hx]
    have : (Datum.number false m i).root (double.fractionBits + 2) = some (.number false (2 * Datum.rootFrom (m <<< more) ((m <<< more).log2 / 2 + 1) 0 + (Datum.rootFrom (m <<< more) ((m <<< more).log2 / 2 + 1) 0 * Datum.rootFrom (m <<< more) ((m <<< more).log2 / 2 + 1) 0 != m <<< more).toNat) (h - 1)) := by
      simp only [Datum.root, if_neg hm0, Bool.false_eq_true, if_false, ← hmore]
      rw [show (i - (more : Int)) / 2 - 1 = h - 1 by clear hlo hhi; omega]
    rw [this]; rfl
  have hrr := hr _ hroot
  clear hroot hlog
  generalize Datum.rootFrom (m <<< more) ((m <<< more).log2 / 2 + 1) 0 = W at *
  generalize hst : (W * W != m <<< more).toNat = st at *
  generalize m <<< more = n at *
  have hW : 2 ^ 53 ≤ W := by
    have : 2 ^ 54 * 2 ^ 54 < (W + 1) * (W + 1) := Nat.lt_of_le_of_lt (by rw [← Nat.pow_add]; exact hn108) hsp.2
    have := sq_lt this
    omega
  have hcore := root_core n W st hsp.1 hsp.2 hst.symm hW
  have hval : sgn false * (m : Rat) * p2 i = 4 * (n : Rat) * (p2 (h - 1) * p2 (h - 1)) := by
    rw [hnv]
    have e1 : (4 : Rat) = p2 2 := by rw [p2_toNat (by decide)]; rfl
    have e2 : p2 2 * p2 (more : Int) * (p2 (h - 1) * p2 (h - 1)) = p2 i := by
      rw [p2_mul (a := h - 1) (b := h - 1) (c := 2 * h - 2) (by omega), p2_mul (c := 2 + more) rfl, p2_mul (c := i) (by omega)]
    rw [e1, ← e2]; unfold sgn; grind
  rw [hval] at hlo hhi hq ⊢
  have hpp := p2_pos (h - 1)
  generalize hwd : p2 (h - 1) = w at *
  generalize hZ : ((2 * W + st : Nat) : Rat) = Z at *
  have hZ0 : 0 ≤ Z := by rw [← hZ]; exact_mod_cast Nat.zero_le _
  have hzw : 0 ≤ Z * w := Rat.mul_nonneg hZ0 (Rat.le_of_lt hpp)
  have hrel : Rl (p2 (-53)) ((Z * w) * (Z * w)) (4 * (n : Rat) * (w * w)) := by
    have := hcore.scale (w * w)
    have e : Z * Z * (w * w) = (Z * w) * (Z * w) := by grind
    rw [e] at this
    exact this
  generalize 4 * (n : Rat) * (w * w) = q at *
  have hb := hrel.pos (Rat.le_of_lt hq)
  have hsmall : p2 (-53) ≤ p2 (-1) := p2_le (by decide)
  have hhalf : p2 (-1) + p2 (-1) = 1 := by rw [← p2_half (e' := 0) (by decide)]; exact p2_zero
  have hqs := mul_le hsmall (Rat.le_of_lt hq)
  have hqs2 : p2 (-1) * q + p2 (-1) * q = q := by rw [← Rat.add_mul, hhalf]; grind
  generalize hzv : Z * w = z at *
  have z1 : z < p2 600 := by
    rcases (Rat.le_total : p2 600 ≤ z ∨ z ≤ p2 600) with h1 | h1
    · exfalso
      have a1 := mul_le h1 hzw
      have a2 := mul_le h1 (Rat.le_of_lt (p2_pos 600))
      have a3 : p2 600 * p2 600 = p2 1200 := p2_mul (by decide)
      have a4 : p2 1000 + p2 1000 = p2 1001 := (p2_half (by decide)).symm
      have a5 := p2_lt (show (1001 : Int) < 1200 by decide)
      grind
    · rcases (Rat.le_iff_lt_or_eq.1 h1) with h | h
      · exact h
      · exfalso
        have a3 : p2 600 * p2 600 = p2 1200 := p2_mul (by decide)
        have a4 : p2 1000 + p2 1000 = p2 1001 := (p2_half (by decide)).symm
        have a5 := p2_lt (show (1001 : Int) < 1200 by decide)
        rw [h] at hb
        grind
  have z2 : p2 (-600) ≤ z := by
    rcases (Rat.le_total : p2 (-600) ≤ z ∨ z ≤ p2 (-600)) with h1 | h1
    · exact h1
    · exfalso
      have a1 := mul_le h1 hzw
      have a2 := mul_le h1 (Rat.le_of_lt (p2_pos (-600)))
      have a3 : p2 (-600) * p2 (-600) = p2 (-1200) := p2_mul (by decide)
      have a4 : p2 (-1001) + p2 (-1001) = p2 (-1000) := (p2_half (by decide)).symm
      have a5 := p2_lt (show (-1200 : Int) < -1001 by decide)
      grind
  have hsz : sgn false * ((2 * W + st : Nat) : Rat) * p2 (h - 1) = z := by rw [hZ, hwd, ← hzv]; unfold sgn; grind
  obtain ⟨c, hc, hrd⟩ := write_rnd (s := false) (m := 2 * W + st) (e := h - 1) (by rw [hsz]; have := p2_lt (show (600 : Int) < 1023 by decide); grind) (by rw [hsz]; have := p2_pos 1023; grind)
  rw [hsz] at hrd
  have hz0 : 0 < z := by have := p2_pos (-600); grind
  have hcr := hrd.rel (by rw [rabs_of_nonneg hzw]; have := p2_le (show (-1022 : Int) ≤ -600 by decide); grind)
  have hcb := hcr.pos hzw
  refine ⟨c, by rw [hrr]; exact hc, ?_, ?_⟩
  · have := mul_le hsmall hzw
    have e : p2 (-1) * z + p2 (-1) * z = z := by rw [← Rat.add_mul, hhalf]; grind
    have hp1 := Rat.mul_pos (p2_pos (-1)) hz0
    grind
  · have hcc := hcr.mul hcr (Rat.le_of_lt (p2_pos _))
    exact (hcc.trans hrel e53b).le e51
end Go.Lg
