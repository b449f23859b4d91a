/-
  Relative errors: of rounding, quotients, square roots. No conditions.
-/
import Derived.Test.YtomhkbijijdghaaZL4
import Derived.Test.YtomhkbijijdghaaZL6
import Derived.Test.YtomhkbijijdghaaZL7
set_option linter.unusedVariables false
set_option linter.unusedSimpArgs false
namespace Go.Lg
open Ieee

/-- c is q but for a share e of it. -/
def Rl (e c q : Rat) : Prop := rabs (c - q) ≤ e * rabs q
theorem rabs_zero : rabs 0 = 0 := by unfold rabs; rw [if_neg (by decide)]
theorem rabs_of_nonneg {q : Rat} (h : 0 ≤ q) : rabs q = q := by unfold rabs; rw [if_neg (by grind)]
theorem rabs_neg (q : Rat) : rabs (-q) = rabs q := by unfold rabs; split <;> split <;> grind
theorem rabs_add (a b : Rat) : rabs (a + b) ≤ rabs a + rabs b := by unfold rabs; split <;> split <;> split <;> grind
theorem rabs_mul (a b : Rat) : rabs (a * b) = rabs a * rabs b := by
  rcases (Rat.le_total : 0 ≤ a ∨ a ≤ 0) with ha | ha <;> rcases (Rat.le_total : 0 ≤ b ∨ b ≤ 0) with hb | hb
  · rw [rabs_of_nonneg ha, rabs_of_nonneg hb, rabs_of_nonneg (Rat.mul_nonneg ha hb)]
  · have := Rat.mul_nonneg ha (show 0 ≤ -b by grind)
    rw [rabs_of_nonneg ha, ← rabs_neg b, rabs_of_nonneg (show 0 ≤ -b by grind), ← rabs_neg (a * b), rabs_of_nonneg (by grind)]; grind
  · have := Rat.mul_nonneg (show 0 ≤ -a by grind) hb
    rw [rabs_of_nonneg hb, ← rabs_neg a, rabs_of_nonneg (show 0 ≤ -a by grind), ← rabs_neg (a * b), rabs_of_nonneg (by grind)]; grind
  · have := Rat.mul_nonneg (show 0 ≤ -a by grind) (show 0 ≤ -b by grind)
    rw [← rabs_neg a, ← rabs_neg b, rabs_of_nonneg (show 0 ≤ -a by grind), rabs_of_nonneg (show 0 ≤ -b by grind), rabs_of_nonneg (by grind)]; grind
theorem rabs_pos {q : Rat} (h : q ≠ 0) : 0 < rabs q := by unfold rabs; split <;> grind
theorem mul_le_left {a b c : Rat} (h : a ≤ b) (hc : 0 ≤ c) : c * a ≤ c * b := by have := mul_le h hc; grind
theorem Rl.trans {e f c z q : Rat} (h1 : Rl e c z) (h2 : Rl f z q) (he : 0 ≤ e) : Rl (e + f + e * f) c q := by
  unfold Rl at *
  have a1 := rabs_add (c - z) (z - q)
  have a2 := rabs_add (z - q) q
  have e1 : c - z + (z - q) = c - q := by grind
  have e2 : z - q + q = z := by grind
  rw [e1] at a1
  rw [e2] at a2
  have a3 := mul_le_left (show rabs z ≤ f * rabs q + rabs q by grind) he
  grind
theorem Rl.le {e f c q : Rat} (h : Rl e c q) (hf : e ≤ f) : Rl f c q := by
  unfold Rl at *
  have := mul_le hf (rabs_nonneg q)
  grind
theorem Rl.refl (q : Rat) : Rl 0 q q := by unfold Rl; rw [Rat.sub_self, rabs_zero]; grind
theorem Rl.scale {e c q : Rat} (h : Rl e c q) (k : Rat) : Rl e (c * k) (q * k) := by
  unfold Rl at *
  have e1 : c * k - q * k = (c - q) * k := by grind
  rw [e1, rabs_mul, rabs_mul]
  have := mul_le h (rabs_nonneg k)
  grind
theorem Rl.mul {e f a b p q : Rat} (h1 : Rl e a p) (h2 : Rl f b q) (he : 0 ≤ e) : Rl (e + f + e * f) (a * b) (p * q) := by
  have s1 := h1.scale b
  have s2 := h2.scale p
  rw [Rat.mul_comm b p, Rat.mul_comm q p] at s2
  exact s1.trans s2 he
theorem Rl.pos {e c q : Rat} (h : Rl e c q) (hq : 0 ≤ q) : (1 - e) * q ≤ c ∧ c ≤ (1 + e) * q := by
  unfold Rl at h
  rw [rabs_of_nonneg hq] at h
  have := rabs_le.1 h
  constructor <;> grind
theorem Rl.of {e c q : Rat} (hq : 0 ≤ q) (h1 : (1 - e) * q ≤ c) (h2 : c ≤ (1 + e) * q) : Rl e c q := by
  unfold Rl
  rw [rabs_of_nonneg hq]
  exact rabs_le.2 ⟨by grind, by grind⟩

theorem p2_half {e e' : Int} (h : e' = e + 1) : p2 e' = p2 e + p2 e := by rw [h, p2_succ]; grind
theorem p2_mul {a b c : Int} (h : a + b = c) : p2 a * p2 b = p2 c := by rw [← p2_add, h]
theorem Rnd.rel {q c : Rat} (h : Rnd q c) (hq : p2 (-1022) ≤ rabs q) : Rl (p2 (-53)) c q := by
  obtain ⟨last, k, h1, h2, h3, h4, h5, h6, h7⟩ := h
  have hl : p2 last ≤ rabs q * p2 (-52) := by
    rcases h5 with h | h | h
    · subst h
      have := mul_le hq (Rat.le_of_lt (p2_pos (-52)))
      rw [← p2_add] at this
      exact this
    · have a := (le_rabs q).1
      have := mul_le (show p2 (last + 52) ≤ rabs q by grind) (Rat.le_of_lt (p2_pos (-52)))
      rw [← p2_add, show last + 52 + -52 = last by omega] at this
      exact this
    · have a := (le_rabs q).2
      have := mul_le (show p2 (last + 52) ≤ rabs q by grind) (Rat.le_of_lt (p2_pos (-52)))
      rw [← p2_add, show last + 52 + -52 = last by omega] at this
      exact this
  have e52 : p2 (-52) = p2 (-53) + p2 (-53) := p2_half (by decide)
  rw [e52] at hl
  unfold Rl
  exact rabs_le.2 ⟨by grind, by grind⟩
theorem rep_zero : Rep (0 : Rat) := ⟨0, 0, by simp, by decide, by decide, by decide⟩

theorem quo_core (D n : Nat) (hn : 0 < n) : rabs (((2 * (D / n) + (D % n != 0).toNat : Nat) : Rat) - 2 * ((D : Rat) / (n : Rat))) ≤ 1 := by
  have hnp : (0 : Rat) < (n : Rat) := by exact_mod_cast hn
  have e1 : (D : Rat) = (n : Rat) * ((D / n : Nat) : Rat) + ((D % n : Nat) : Rat) := by
    rw [← Rat.natCast_mul, ← Rat.natCast_add, Nat.div_add_mod]
  have hr := Nat.mod_lt D hn
  have hdiv : (D : Rat) / (n : Rat) * (n : Rat) = (D : Rat) := by rw [Rat.div_def, Rat.mul_assoc, Rat.inv_mul_cancel _ (by grind)]; grind
  generalize hz : (D : Rat) / (n : Rat) = z at *
  generalize D / n = Q at *
  generalize D % n = R at *
  have hR : ((R : Nat) : Rat) < (n : Rat) := by exact_mod_cast hr
  have hR0 : (0 : Rat) ≤ ((R : Nat) : Rat) := by exact_mod_cast Nat.zero_le R
  have hzn : (z - (Q : Rat)) * (n : Rat) = ((R : Nat) : Rat) := by grind
  have b1 : z - (Q : Rat) < 1 := of_mul_lt (c := (n : Rat)) (by grind) hnp
  by_cases hR1 : R = 0
  · subst hR1
    have b2 : z - (Q : Rat) = 0 := of_mul_eq (c := (n : Rat)) (by grind) hnp
    refine rabs_le.2 ?_
    simp only [bne_self_eq_false, Bool.toNat_false, Nat.add_zero, Rat.natCast_mul]
    constructor <;> grind
  · have b2 : 0 < z - (Q : Rat) := of_mul_lt (c := (n : Rat)) (by
      have : (0 : Rat) < ((R : Nat) : Rat) := by exact_mod_cast Nat.pos_of_ne_zero hR1
      grind) hnp
    have e2 : (R != 0).toNat = 1 := by simp [hR1]
    rw [e2]
    refine rabs_le.2 ?_
    rw [Rat.natCast_add, Rat.natCast_mul]
    constructor <;> grind

theorem rat_div_mul (a b : Rat) (hb : b ≠ 0) : a / b * b = a := by rw [Rat.div_def, Rat.mul_assoc, Rat.inv_mul_cancel _ hb]; grind
theorem rat_div_eq {a b q : Rat} (hb : b ≠ 0) (h : q * b = a) : a / b = q := by
  rw [← h, Rat.div_def, Rat.mul_assoc, Rat.mul_inv_cancel _ hb]; grind
theorem sgn_ne (s : Bool) : sgn s ≠ 0 := by cases s <;> (unfold sgn; grind)
theorem rabs_sgn (s : Bool) : rabs (sgn s) = 1 := by cases s <;> (unfold sgn rabs; simp <;> grind)
theorem rabs_signed {s : Bool} {m : Nat} {e : Int} : rabs (sgn s * (m : Rat) * p2 e) = (m : Rat) * p2 e := by
  rw [rabs_mul, rabs_mul, rabs_sgn, rabs_of_nonneg (show (0 : Rat) ≤ (m : Rat) by exact_mod_cast Nat.zero_le m), rabs_of_nonneg (Rat.le_of_lt (p2_pos e))]; grind

theorem e53 : p2 (-53) + p2 (-54) + p2 (-53) * p2 (-54) ≤ p2 (-52) := by
  rw [p2_mul (a := -53) (b := -54) (c := -107) (by decide)]
  have := p2_le (show (-107 : Int) ≤ -54 by decide)
  have e1 : p2 (-52) = p2 (-53) + p2 (-53) := p2_half (by decide)
  have e2 : p2 (-53) = p2 (-54) + p2 (-54) := p2_half (by decide)
  grind
theorem e53b : 0 ≤ p2 (-53) + p2 (-53) + p2 (-53) * p2 (-53) := by
  rw [p2_mul (a := -53) (b := -53) (c := -106) (by decide)]
  have := p2_pos (-53); have := p2_pos (-106); grind
theorem e51 : p2 (-53) + p2 (-53) + p2 (-53) * p2 (-53) + p2 (-53) + (p2 (-53) + p2 (-53) + p2 (-53) * p2 (-53)) * p2 (-53) ≤ p2 (-51) := by
  have a1 : p2 (-53) * p2 (-53) = p2 (-106) := p2_mul (by decide)
  have a2 : p2 (-106) * p2 (-53) = p2 (-159) := p2_mul (by decide)
  have b1 := p2_le (show (-106 : Int) ≤ -55 by decide)
  have b2 := p2_le (show (-159 : Int) ≤ -55 by decide)
  have e1 : p2 (-51) = p2 (-52) + p2 (-52) := p2_half (by decide)
  have e2 : p2 (-52) = p2 (-53) + p2 (-53) := p2_half (by decide)
  have e3 : p2 (-53) = p2 (-54) + p2 (-54) := p2_half (by decide)
  have e4 : p2 (-54) = p2 (-55) + p2 (-55) := p2_half (by decide)
  rw [a1]
  have e5 : (p2 (-53) + p2 (-53) + p2 (-106)) * p2 (-53) = p2 (-106) + p2 (-106) + p2 (-159) := by rw [Rat.add_mul, Rat.add_mul, a1, a2]
  rw [e5]
  grind
/-- A quotient, rounded. -/
theorem far_quo {x y r : Nat} {a b : Rat} (h : FAr .quo x y r) (ha : Fv x a) (hb : Fv y b) (ha0 : a ≠ 0) (hb0 : b ≠ 0) (hlo : p2 (-1000) ≤ rabs (a / b)) (hhi : rabs (a / b) ≤ p2 1000) :
    ∃ c, Fv r c ∧ Rl (p2 (-52)) c (a / b) := by
  obtain ⟨s, m, i, hx, rfl⟩ := ha
  obtain ⟨t, n, j, hy, rfl⟩ := hb
  have hn0 : n ≠ 0 := by rintro rfl; exact hb0 (by simp)
  have hm0 : m ≠ 0 := by rintro rfl; exact ha0 (by simp)
  have hnp : (0 : Rat) < (n : Rat) := by exact_mod_cast Nat.pos_of_ne_zero hn0
  obtain ⟨more, hmore⟩ : ∃ more, more = double.fractionBits + 2 + n.log2 - m.log2 := ⟨_, rfl⟩
  have hf : floatBits .quo .f64 x y = some (double.write (.number (s ^^ t) (2 * ((m <<< more) / n) + ((m <<< more) % n != 0).toNat) (i - j - more - 1))) := by
    show ((double.read x).quotient (double.fractionBits + 2) (double.read y)).map double.write = _
    rw [hx, hy]
    simp only [Datum.quotient, if_neg hn0, ← hmore]
    rfl
  have h := h.ok; rw [hf] at h; subst h
  -- the quotient's value
  have hcore := quo_core (m <<< more) n (Nat.pos_of_ne_zero hn0)
  have hD : 2 ^ 53 * n ≤ m <<< more := by
    rw [Nat.shiftLeft_eq]
    have h1 : 2 ^ m.log2 ≤ m := Nat.log2_self_le hm0
    have h2 : n < 2 ^ (n.log2 + 1) := Nat.lt_log2_self
    have h3 : 53 + (n.log2 + 1) ≤ m.log2 + more := by
      have : double.fractionBits = 52 := rfl
      rw [this] at hmore; omega
    calc 2 ^ 53 * n ≤ 2 ^ 53 * 2 ^ (n.log2 + 1) := Nat.mul_le_mul_left _ (Nat.le_of_lt h2)
      _ = 2 ^ (53 + (n.log2 + 1)) := by rw [← Nat.pow_add]
      _ ≤ 2 ^ (m.log2 + more) := Nat.pow_le_pow_right (by decide) h3
      _ = 2 ^ m.log2 * 2 ^ more := Nat.pow_add ..
      _ ≤ m * 2 ^ more := Nat.mul_le_mul_right _ h1
  have hDv : ((m <<< more : Nat) : Rat) = (m : Rat) * p2 (more : Int) := by rw [Nat.shiftLeft_eq, Rat.natCast_mul, p2_nat]
  generalize hz : (2 * ((m <<< more) / n) + ((m <<< more) % n != 0).toNat) = z at *
  generalize hDD : m <<< more = D at *
  have hz2 : (p2 53) ≤ (D : Rat) / (n : Rat) := by
    refine of_mul_le (c := (n : Rat)) ?_ hnp
    rw [rat_div_mul _ _ (by grind), p2_toNat (by decide), ← Rat.natCast_mul]
    exact_mod_cast hD
  have hq : sgn s * (m : Rat) * p2 i / (sgn t * (n : Rat) * p2 j) = sgn (s ^^ t) * ((D : Rat) / (n : Rat)) * p2 (i - j - more) := by
    refine rat_div_eq hb0 ?_
    have e1 : (D : Rat) / (n : Rat) * (n : Rat) = (D : Rat) := rat_div_mul _ _ (by grind)
    have e2 : p2 (i - j - more) * p2 j * p2 more = p2 i := by rw [p2_mul (c := i - more) (by omega), p2_mul (c := i) (by omega)]
    have e3 : sgn (s ^^ t) * sgn t = sgn s := by cases s <;> cases t <;> (simp only [sgn, Bool.xor_true, Bool.xor_false, Bool.not_true, Bool.not_false]; grind)
    rw [← e2, ← e3]
    have : sgn (s ^^ t) * ((D : Rat) / (n : Rat)) * p2 (i - j - more) * (sgn t * (n : Rat) * p2 j) = sgn (s ^^ t) * sgn t * ((D : Rat) / (n : Rat) * (n : Rat)) * (p2 (i - j - more) * p2 j) := by grind
    rw [this, e1, hDv]; grind
  rw [hq] at hlo hhi ⊢
  generalize (D : Rat) / (n : Rat) = u at *
  have hu0 : 0 ≤ u := by have := p2_pos 53; grind
  have hpe : p2 (i - j - more) = p2 (i - j - more - 1) + p2 (i - j - more - 1) := by
    exact p2_half (by omega)
  have hpp := p2_pos (i - j - more - 1)
  rw [hpe] at hlo hhi ⊢
  generalize hw : p2 (i - j - more - 1) = w at hpp hlo hhi ⊢
  generalize (s ^^ t) = st at *
  have hrel : Rl (p2 (-54)) (sgn st * (z : Rat) * w) (sgn st * u * (w + w)) := by
    unfold Rl
    have e1 : sgn st * (z : Rat) * w - sgn st * u * (w + w) = sgn st * ((z : Rat) - 2 * u) * w := by grind
    rw [e1, rabs_mul, rabs_mul, rabs_mul, rabs_mul, rabs_sgn, rabs_of_nonneg (Rat.le_of_lt hpp), rabs_of_nonneg hu0, rabs_of_nonneg (show 0 ≤ w + w by grind)]
    have a1 := mul_le hcore (Rat.le_of_lt hpp)
    have a2 : p2 53 * p2 (-54) = p2 (-1) := p2_mul (by decide)
    have a3 : p2 (-1) + p2 (-1) = 1 := by rw [← p2_half (e' := 0) (by decide)]; exact p2_zero
    have a4 := mul_le hz2 (Rat.le_of_lt (p2_pos (-54)))
    have a5 := mul_le a4 (show 0 ≤ w + w by grind)
    rw [a2] at a5
    have a6 : (p2 (-1) + p2 (-1)) * w = 1 * w := by rw [a3]
    clear a4 hz2 hcore
    grind
  have hz' : rabs (sgn st * u * (w + w)) = u * (w + w) := by
    rw [rabs_mul, rabs_mul, rabs_sgn, rabs_of_nonneg hu0, rabs_of_nonneg (show 0 ≤ w + w by grind)]; grind
  rw [hz'] at hlo hhi
  have hzv : rabs (sgn st * (z : Rat) * w) = (z : Rat) * w := by
    rw [rabs_mul, rabs_mul, rabs_sgn, rabs_of_nonneg (show (0 : Rat) ≤ (z : Rat) by exact_mod_cast Nat.zero_le z), rabs_of_nonneg (Rat.le_of_lt hpp)]; grind
  have hz3 := rabs_le.1 hcore
  have huw : 0 ≤ (u - 1) * w := by
    refine Rat.mul_nonneg ?_ (Rat.le_of_lt hpp)
    have : (1 : Rat) ≤ p2 53 := by rw [← p2_zero]; exact p2_le (by decide)
    grind
  have hb1 := mul_le hz3.1 (Rat.le_of_lt hpp)
  have hb2 := mul_le hz3.2 (Rat.le_of_lt hpp)
  have l1 : p2 (-1000) = p2 (-1001) + p2 (-1001) := p2_half (by decide)
  have l2 : p2 1001 = p2 1000 + p2 1000 := p2_half (by decide)
  have l3 := p2_lt (show (1001 : Int) < 1023 by decide)
  have l4 := p2_le (show (-1022 : Int) ≤ -1001 by decide)
  have hbnd : u * w ≤ (z : Rat) * w ∧ (z : Rat) * w ≤ u * (w + w) + w := by constructor <;> grind
  have hw2 : w ≤ u * w := by grind
  have l5 := p2_pos (-1001)
  have l6 := p2_pos 1000
  clear hb1 hb2 hz2 hcore hz3 huw
  have hzw : rabs (sgn st * (z : Rat) * w) < p2 1023 := by rw [hzv]; grind
  have hzl := le_rabs (sgn st * (z : Rat) * w)
  obtain ⟨c, hc, hr⟩ := write_rnd (s := st) (m := z) (e := i - j - more - 1) (by rw [hw]; grind) (by rw [hw]; grind)
  rw [hw] at hr
  refine ⟨c, hc, ((hr.rel (by rw [hzv]; grind)).trans hrel (Rat.le_of_lt (p2_pos _))).le ?_⟩
  exact e53
theorem write_zero (s : Bool) (e : Int) : Fv (double.write (.number s 0 e)) 0 := by
  obtain ⟨c, hc, hr⟩ := write_rnd (s := s) (m := 0) (e := e) (by have := p2_pos 1023; simp; grind) (by have := p2_pos 1023; simp; grind)
  have := hr.exact ⟨0, 0, by simp, by decide, by decide, by decide⟩
  rw [this] at hc
  simpa using hc
theorem far_quo_zero {x y r : Nat} {b : Rat} (h : FAr .quo x y r) (ha : Fv x 0) (hb : Fv y b) (hb0 : b ≠ 0) : Fv r 0 := by
  obtain ⟨s, m, i, hx, hm⟩ := ha
  obtain ⟨t, n, j, hy, rfl⟩ := hb
  have hn0 : n ≠ 0 := by rintro rfl; exact hb0 (by simp)
  have hm0 : m = 0 := by
    rcases Nat.eq_zero_or_pos m with h | h
    · exact h
    · exfalso
      have h1 : (0 : Rat) < (m : Rat) := by exact_mod_cast h
      have h2 := Rat.mul_pos h1 (p2_pos i)
      cases s <;> (unfold sgn at hm; grind)
  subst hm0
  have hf : floatBits .quo .f64 x y = some (double.write (.number (s ^^ t) 0 (i - j - (double.fractionBits + 2 + n.log2 - Nat.log2 0 : Nat) - 1))) := by
    show ((double.read x).quotient (double.fractionBits + 2) (double.read y)).map double.write = _
    rw [hx, hy]
    simp [Datum.quotient, hn0]
  have h := h.ok; rw [hf] at h; subst h
  exact write_zero _ _

theorem root_core (n W st : Nat) (h1 : W * W ≤ n) (h2 : n < (W + 1) * (W + 1)) (hst : st = (W * W != n).toNat) (hW : 2 ^ 53 ≤ W) :
    Rl (p2 (-53)) (((2 * W + st : Nat) : Rat) * ((2 * W + st : Nat) : Rat)) (4 * (n : Rat)) := by
  have hWn : W * 2 ^ 53 ≤ n := Nat.le_trans (Nat.mul_le_mul_left _ hW) h1
  have hWr : (W : Rat) * p2 53 ≤ (n : Rat) := by rw [p2_toNat (by decide), ← Rat.natCast_mul]; exact_mod_cast hWn
  have hn0 : (0 : Rat) ≤ (n : Rat) := by exact_mod_cast Nat.zero_le n
  have e1 : p2 53 * p2 (-53) = 1 := by rw [p2_mul (c := 0) (by decide)]; exact p2_zero
  have h4 := mul_le hWr (Rat.le_of_lt (p2_pos (-53)))
  have h5 : (W : Rat) ≤ (n : Rat) * p2 (-53) := by rw [Rat.mul_assoc, e1] at h4; grind
  unfold Rl
  rw [rabs_of_nonneg (show 0 ≤ 4 * (n : Rat) by grind)]
  by_cases he : W * W = n
  · have h0 : st = 0 := by rw [hst, he]; simp
    subst h0
    have : ((2 * W + 0 : Nat) : Rat) * ((2 * W + 0 : Nat) : Rat) = 4 * (n : Rat) := by
      rw [← he, Nat.add_zero, Rat.natCast_mul, Rat.natCast_mul]; simp; grind
    rw [this, Rat.sub_self, rabs_zero]
    have := Rat.mul_nonneg (Rat.le_of_lt (p2_pos (-53))) (show 0 ≤ 4 * (n : Rat) by grind)
    exact this
  · have h0 : st = 1 := by rw [hst]; simp [he]
    subst h0
    have hz : ((2 * W + 1 : Nat) : Rat) * ((2 * W + 1 : Nat) : Rat) = ((4 * (W * W) + 4 * W + 1 : Nat) : Rat) := by
      rw [← Rat.natCast_mul]; have : (2 * W + 1) * (2 * W + 1) = 4 * (W * W) + 4 * W + 1 := by grind
      rw [this]
    rw [hz]
    have hn1 : n ≤ W * W + 2 * W := by simp only [Nat.mul_add, Nat.add_mul] at h2; omega
    have hn2 : W * W + 1 ≤ n := by omega
    have r1 : (n : Rat) ≤ ((W * W + 2 * W : Nat) : Rat) := by exact_mod_cast hn1
    have r2 : ((W * W + 1 : Nat) : Rat) ≤ (n : Rat) := by exact_mod_cast hn2
    have r3 : (0 : Rat) ≤ (W : Rat) := by exact_mod_cast Nat.zero_le W
    have e2 : ((4 * (W * W) + 4 * W + 1 : Nat) : Rat) = 4 * ((W * W : Nat) : Rat) + 4 * (W : Rat) + 1 := by simp [Rat.natCast_add, Rat.natCast_mul]
    rw [e2]
    rw [Rat.natCast_add] at r1 r2
    rw [show ((2 * W : Nat) : Rat) = 2 * (W : Rat) by simp [Rat.natCast_mul]] at r1
    have r4 : (1 : Rat) ≤ (W : Rat) := by exact_mod_cast (Nat.le_trans (by decide) hW)
    refine rabs_le.2 ⟨?_, ?_⟩ <;> grind

/-- A root, rounded: its square is the number but for a small share. -/
theorem sqrt_rel {x r : Nat} {q : Rat} (hr : SqrtR x r) (hx : Fv x q) (hq : 0 < q) (hlo : p2 (-1000) ≤ q) (hhi : q ≤ p2 1000) : ∃ c, Fv r c ∧ 0 < c ∧ Rl (p2 (-51)) (c * c) q := by
  obtain ⟨s, m, i, hx, rfl⟩ := hx
  have hm0 : m ≠ 0 := by rintro rfl; simp at hq
  have hmp : (0 : Rat) < (m : Rat) := by exact_mod_cast Nat.pos_of_ne_zero hm0
  have hs : s = false := by
    cases s with
    | false => rfl
    | true => exfalso; have := Rat.mul_pos hmp (p2_pos i); unfold sgn at hq; grind
  subst hs
  obtain ⟨more, hmore⟩ : ∃ more, more = 2 * (double.fractionBits + 2) - m.log2 + ((i - ((2 * (double.fractionBits + 2) - m.log2 : Nat) : Int)) % 2).toNat := ⟨_, rfl⟩
  obtain ⟨h, hh⟩ : ∃ h : Int, i - more = 2 * h := ⟨(i - more) / 2, by omega⟩
  have hn108 : 2 ^ 108 ≤ m <<< more := by
    rw [Nat.shiftLeft_eq]
    have h1 : 2 ^ m.log2 ≤ m := Nat.log2_self_le hm0
    have h3 : 108 ≤ m.log2 + more := by
      have : double.fractionBits = 52 := rfl
      rw [this] at hmore; omega
    calc 2 ^ 108 ≤ 2 ^ (m.log2 + more) := Nat.pow_le_pow_right (by decide) h3
      _ = 2 ^ m.log2 * 2 ^ more := Nat.pow_add ..
      _ ≤ m * 2 ^ more := Nat.mul_le_mul_right _ h1
  have hnv : ((m <<< more : Nat) : Rat) = (m : Rat) * p2 (more : Int) := by rw [Nat.shiftLeft_eq, Rat.natCast_mul, p2_nat]
  have hlog : m <<< more < 2 ^ ((m <<< more).log2 + 1) := Nat.lt_log2_self
  have hsp := rootFrom_spec (m <<< more) ((m <<< more).log2 / 2 + 1) 0 (by omega) (by
    rw [Nat.zero_add, ← Nat.pow_add]
    exact Nat.lt_of_lt_of_le hlog (Nat.pow_le_pow_right (by decide) (by omega)))
  have hroot : double.sqrt x = some (double.write (.number false (2 * Datum.rootFrom (m <<< more) ((m <<< more).log2 / 2 + 1) 0 + (Datum.rootFrom (m <<< more) ((m <<< more).log2 / 2 + 1) 0 * Datum.rootFrom (m <<< more) ((m <<< more).log2 / 2 + 1) 0 != m <<< more).toNat) (h - 1))) := by
    show ((double.read x).root _).map double.write = _
    rw [hx]
    have : (Datum.number false m i).root (double.fractionBits + 2) = some (.number false (2 * Datum.rootFrom (m <<< more) ((m <<< more).log2 / 2 + 1) 0 + (Datum.rootFrom (m <<< more) ((m <<< more).log2 / 2 + 1) 0 * Datum.rootFrom (m <<< more) ((m <<< more).log2 / 2 + 1) 0 != m <<< more).toNat) (h - 1)) := by
      simp only [Datum.root, if_neg hm0, Bool.false_eq_true, if_false, ← hmore]
      rw [show (i - (more : Int)) / 2 - 1 = h - 1 by clear hlo hhi; omega]
    rw [this]; rfl
  have hrr := hr _ hroot
  clear hroot hlog
  generalize Datum.rootFrom (m <<< more) ((m <<< more).log2 / 2 + 1) 0 = W at *
  generalize hst : (W * W != m <<< more).toNat = st at *
  generalize m <<< more = n at *
  have hW : 2 ^ 53 ≤ W := by
    have : 2 ^ 54 * 2 ^ 54 < (W + 1) * (W + 1) := Nat.lt_of_le_of_lt (by rw [← Nat.pow_add]; exact hn108) hsp.2
    have := sq_lt this
    omega
  have hcore := root_core n W st hsp.1 hsp.2 hst.symm hW
  have hval : sgn false * (m : Rat) * p2 i = 4 * (n : Rat) * (p2 (h - 1) * p2 (h - 1)) := by
    rw [hnv]
    have e1 : (4 : Rat) = p2 2 := by rw [p2_toNat (by decide)]; rfl
    have e2 : p2 2 * p2 (more : Int) * (p2 (h - 1) * p2 (h - 1)) = p2 i := by
      rw [p2_mul (a := h - 1) (b := h - 1) (c := 2 * h - 2) (by omega), p2_mul (c := 2 + more) rfl, p2_mul (c := i) (by omega)]
    rw [e1, ← e2]; unfold sgn; grind
  rw [hval] at hlo hhi hq ⊢
  have hpp := p2_pos (h - 1)
  generalize hwd : p2 (h - 1) = w at *
  generalize hZ : ((2 * W + st : Nat) : Rat) = Z at *
  have hZ0 : 0 ≤ Z := by rw [← hZ]; exact_mod_cast Nat.zero_le _
  have hzw : 0 ≤ Z * w := Rat.mul_nonneg hZ0 (Rat.le_of_lt hpp)
  have hrel : Rl (p2 (-53)) ((Z * w) * (Z * w)) (4 * (n : Rat) * (w * w)) := by
    have := hcore.scale (w * w)
    have e : Z * Z * (w * w) = (Z * w) * (Z * w) := by grind
    rw [e] at this
    exact this
  generalize 4 * (n : Rat) * (w * w) = q at *
  have hb := hrel.pos (Rat.le_of_lt hq)
  have hsmall : p2 (-53) ≤ p2 (-1) := p2_le (by decide)
  have hhalf : p2 (-1) + p2 (-1) = 1 := by rw [← p2_half (e' := 0) (by decide)]; exact p2_zero
  have hqs := mul_le hsmall (Rat.le_of_lt hq)
  have hqs2 : p2 (-1) * q + p2 (-1) * q = q := by rw [← Rat.add_mul, hhalf]; grind
  generalize hzv : Z * w = z at *
  have z1 : z < p2 600 := by
    rcases (Rat.le_total : p2 600 ≤ z ∨ z ≤ p2 600) with h1 | h1
    · exfalso
      have a1 := mul_le h1 hzw
      have a2 := mul_le h1 (Rat.le_of_lt (p2_pos 600))
      have a3 : p2 600 * p2 600 = p2 1200 := p2_mul (by decide)
      have a4 : p2 1000 + p2 1000 = p2 1001 := (p2_half (by decide)).symm
      have a5 := p2_lt (show (1001 : Int) < 1200 by decide)
      grind
    · rcases (Rat.le_iff_lt_or_eq.1 h1) with h | h
      · exact h
      · exfalso
        have a3 : p2 600 * p2 600 = p2 1200 := p2_mul (by decide)
        have a4 : p2 1000 + p2 1000 = p2 1001 := (p2_half (by decide)).symm
        have a5 := p2_lt (show (1001 : Int) < 1200 by decide)
        rw [h] at hb
        grind
  have z2 : p2 (-600) ≤ z := by
    rcases (Rat.le_total : p2 (-600) ≤ z ∨ z ≤ p2 (-600)) with h1 | h1
    · exact h1
    · exfalso
      have a1 := mul_le h1 hzw
      have a2 := mul_le h1 (Rat.le_of_lt (p2_pos (-600)))
      have a3 : p2 (-600) * p2 (-600) = p2 (-1200) := p2_mul (by decide)
      have a4 : p2 (-1001) + p2 (-1001) = p2 (-1000) := (p2_half (by decide)).symm
      have a5 := p2_lt (show (-1200 : Int) < -1001 by decide)
      grind
  have hsz : sgn false * ((2 * W + st : Nat) : Rat) * p2 (h - 1) = z := by rw [hZ, hwd, ← hzv]; unfold sgn; grind
  obtain ⟨c, hc, hrd⟩ := write_rnd (s := false) (m := 2 * W + st) (e := h - 1) (by rw [hsz]; have := p2_lt (show (600 : Int) < 1023 by decide); grind) (by rw [hsz]; have := p2_pos 1023; grind)
  rw [hsz] at hrd
  have hz0 : 0 < z := by have := p2_pos (-600); grind
  have hcr := hrd.rel (by rw [rabs_of_nonneg hzw]; have := p2_le (show (-1022 : Int) ≤ -600 by decide); grind)
  have hcb := hcr.pos hzw
  refine ⟨c, by rw [hrr]; exact hc, ?_, ?_⟩
  · have := mul_le hsmall hzw
    have e : p2 (-1) * z + p2 (-1) * z = z := by rw [← Rat.add_mul, hhalf]; grind
    have hp1 := Rat.mul_pos (p2_pos (-1)) hz0
    grind
  · have hcc := hcr.mul hcr (Rat.le_of_lt (p2_pos _))
    exact (hcc.trans hrel e53b).le e51
end Go.Lg

set_option linter.unusedVariables false
set_option linter.unusedSimpArgs false
namespace Go.Lg
open Ieee

/-- The float is this whole number, from -B to B. -/
structure FI (B : Nat) (x : Nat) (n : Int) : Prop where
  fv : Fv x (n : Rat)
  lo : -(B : Int) ≤ n
  hi : n ≤ B
theorem FI.sub {A B C x y r : Nat} {a b : Int} (h1 : FI A x a) (h2 : FI B y b) (hC : A + B = C ∧ C ≤ 9007199254740992) (h : FAr .sub x y r) : FI C r (a - b) :=
  ⟨int_sub h1.fv h2.fv (by have := h1.lo; have := h2.hi; omega) (by have := h1.hi; have := h2.lo; omega) h, by have := h1.lo; have := h2.hi; omega, by have := h1.hi; have := h2.lo; omega⟩
theorem FI.add {A B C x y r : Nat} {a b : Int} (h1 : FI A x a) (h2 : FI B y b) (hC : A + B = C ∧ C ≤ 9007199254740992) (h : FAr .add x y r) : FI C r (a + b) :=
  ⟨int_add h1.fv h2.fv (by have := h1.lo; have := h2.lo; omega) (by have := h1.hi; have := h2.hi; omega) h, by have := h1.lo; have := h2.lo; omega, by have := h1.hi; have := h2.hi; omega⟩
theorem FI.mul {A B C x y r : Nat} {a b : Int} (h1 : FI A x a) (h2 : FI B y b) (hC : A * B = C ∧ C ≤ 9007199254740992) (h : FAr .mul x y r) : FI C r (a * b) := by
  have hb := mul_bound h1.lo h1.hi h2.lo h2.hi
  have e : (A : Int) * (B : Int) = (C : Int) := by rw [← Int.natCast_mul, hC.1]
  rw [e] at hb
  exact ⟨int_mul h1.fv h2.fv (by omega) (by omega) h, hb.1, hb.2⟩
theorem FI.eql {A B x y : Nat} {a b : Int} (h1 : FI A x a) (h2 : FI B y b) : fcmp .eql x y = decide (a = b) := by
  rw [fcmp_eql h1.fv h2.fv]
  by_cases h : a = b
  · rw [decide_eq_true h, decide_eq_true (by rw [h])]
  · rw [decide_eq_false h, decide_eq_false (by exact_mod_cast h)]
theorem int_pos {n : Int} (h : n ≠ 0) : (1 : Rat) ≤ rabs (n : Rat) := by
  unfold rabs
  by_cases h1 : n < 0
  · rw [if_pos (by exact_mod_cast h1)]
    have : (1 : Rat) ≤ ((-n : Int) : Rat) := by exact_mod_cast (show 1 ≤ -n by omega)
    rw [Rat.intCast_neg] at this; exact this
  · rw [if_neg (by intro h2; exact h1 (by exact_mod_cast h2))]
    exact_mod_cast (show 1 ≤ n by omega)
theorem p2_ge1 : p2 (-1000) ≤ 1 := by rw [← p2_zero]; exact p2_le (by decide)
theorem int_le_p2 {n : Int} (h : n ≤ 9007199254740992) : (n : Rat) ≤ p2 53 := by
  have e : p2 53 = ((9007199254740992 : Nat) : Rat) := p2_toNat (by decide)
  rw [e, ← Rat.intCast_natCast]
  exact Rat.intCast_le_intCast.2 h
/-- The root of a whole number. -/
theorem FI.sqrt {B x r : Nat} {n : Int} (h : FI B x n) (hB : B ≤ 9007199254740992) (h0 : 0 ≤ n) (hr : SqrtR x r) : ∃ c, Fv r c ∧ 0 ≤ c ∧ Rl (p2 (-51)) (c * c) (n : Rat) := by
  by_cases hn : n = 0
  · subst hn
    have : Fv x ((0 * 0 : Nat) : Rat) := by simpa using h.fv
    have := sqrt_sq this (by decide) hr
    refine ⟨0, by simpa using this, Rat.le_refl, ?_⟩
    have e : (0 : Rat) * 0 = ((0 : Int) : Rat) := by simp
    rw [e]
    exact (Rl.refl _).le (Rat.le_of_lt (p2_pos _))
  · have h1 : (1 : Rat) ≤ (n : Rat) := by exact_mod_cast (show 1 ≤ n by omega)
    obtain ⟨c, hc, hc0, hrel⟩ := sqrt_rel hr h.fv (by grind) (by have := p2_ge1; grind) (by
      have := int_le_p2 (n := n) (by have := h.hi; omega)
      have := p2_le (show (53 : Int) ≤ 1000 by decide)
      grind)
    exact ⟨c, hc, Rat.le_of_lt hc0, hrel⟩
theorem Rnd.abs_le {q c : Rat} (h : Rnd q c) : rabs c ≤ 2 * rabs q + p2 (-1000) := by
  obtain ⟨last, k, h1, h2, h3, h4, h5, h6, h7⟩ := h
  have e1 : p2 (-1074) ≤ p2 (-1000) := p2_le (by decide)
  have e2 : p2 last ≤ p2 (last + 52) := p2_le (by omega)
  have a := le_rabs q
  have := rabs_nonneg q
  have := p2_pos (-1000)
  clear h2 h6 h7
  refine rabs_le.2 ⟨?_, ?_⟩ <;> (rcases h5 with h | h | h <;> (try subst h) <;> grind)
/-- Two numbers from 0 on whose squares are nearly the same. -/
theorem near_roots {e X a b M : Rat} (ha : 0 ≤ a) (hb : 0 ≤ b) (h1 : Rl e (a * a) X) (h2 : Rl e (b * b) X) (hX : 0 ≤ X) (he : 0 ≤ e) (he2 : e ≤ p2 (-2)) (hM0 : 0 < M) (hM : X ≤ M * M) : rabs (a - b) ≤ 8 * e * M := by
  have p1 := h1.pos hX
  have p2' := h2.pos hX
  have q1 := mul_le he2 hX
  have e4 : p2 (-2) * X + p2 (-2) * X = p2 (-1) * X := by rw [← Rat.add_mul, ← p2_half (e := -2) (e' := -1) (by decide)]
  have e2 : p2 (-1) * X + p2 (-1) * X = X := by rw [← Rat.add_mul, ← p2_half (e' := 0) (by decide), p2_zero]; grind
  have e0 : e * X + e * X ≤ X := by grind
  -- a and b are at most 2 M
  have hM2 : 0 ≤ M := Rat.le_of_lt hM0
  have up : ∀ c, 0 ≤ c → c * c ≤ 2 * X → c ≤ 2 * M := by
    intro c hc hcc
    rcases (Rat.le_total : c ≤ 2 * M ∨ 2 * M ≤ c) with h | h
    · exact h
    · have b1 := mul_le h hc
      have b2 := mul_le_left h (show (0 : Rat) ≤ 2 * M by grind)
      rcases Rat.le_iff_lt_or_eq.1 h with h3 | h3
      · exfalso
        have b3 := Rat.mul_pos (show 0 < c - 2 * M by grind) (show 0 < c by grind)
        have b4 := Rat.mul_pos hM0 hM0
        grind
      · grind
  have ua := up a ha (by grind)
  have ub := up b hb (by grind)
  by_cases hab : a + b = 0
  · have e1 : a = 0 := by grind
    have e3 : b = 0 := by grind
    rw [e1, e3, Rat.sub_self, rabs_zero]
    have := Rat.mul_nonneg he hM2
    grind
  · have hs : 0 < a + b := by grind
    -- |a - b| (a + b) = |aa - bb| ≤ 2 e X and X ≤ 2 (a+b)^2
    have hab2 : rabs (a + b) = a + b := rabs_of_nonneg (Rat.le_of_lt hs)
    have k1 : rabs (a - b) * (a + b) = rabs (a * a - b * b) := by
      have : rabs (a - b) * rabs (a + b) = rabs (a * a - b * b) := by rw [← rabs_mul]; congr 1; grind
      rw [hab2] at this; exact this
    have k2 : rabs (a * a - b * b) ≤ 2 * e * X := rabs_le.2 ⟨by grind, by grind⟩
    have ab0 := Rat.mul_nonneg ha hb
    have k3 : X ≤ (a + b) * (a + b) := by grind
    have k4 := mul_le_left k3 (show 0 ≤ 2 * e by grind)
    have k5 : rabs (a - b) * (a + b) ≤ 2 * e * (a + b) * (a + b) := by grind
    have k6 := of_mul_le k5 hs
    have k7 := mul_le_left (show a + b ≤ 4 * M by grind) (show 0 ≤ 2 * e by grind)
    grind
end Go.Lg

set_option linter.unusedVariables false
set_option linter.unusedSimpArgs false
namespace Go.Lg
open Go.ChangeShapes Go.WideShapes Go.RowKit Go.Deep
section rd
variable {H : Type} {enc : TypeId × Value → H} {P : Program} {W : World} {sp : Nat → Bool} {hd : Bool} {r : Reach} {b0 : Nat} {t : TypeId} {v : Value}

theorem all_ints {ws : List Value} (h : ∀ y ∈ ws, ∃ b, y = .int .i64 b ∧ -9223372036854775808 ≤ b ∧ b ≤ 9223372036854775807) : ∃ xs : List Int, ws = xs.map iv ∧ ∀ y ∈ xs, -9223372036854775808 ≤ y ∧ y ≤ 9223372036854775807 := by
  induction ws with
  | nil => exact ⟨[], rfl, by simp⟩
  | cons w ws ih =>
    obtain ⟨b, rfl, hb⟩ := h w (by simp)
    obtain ⟨xs, rfl, hx⟩ := ih (fun y hy => h y (by simp [hy]))
    exact ⟨b :: xs, rfl, by
      intro y hy
      rcases List.mem_cons.1 hy with rfl | hy
      · exact hb
      · exact hx y hy⟩

theorem trod_ints {n e c x} (ht : P.underlying t = some (.slice e)) (he : P.cellsOf e = 1) (hf : P.underlying e = some (.int .i64)) (h : DataW.trod enc P W 0 sp hd n t [c] = some x) :
    ∃ xs, IS (all W) c xs ∧ xs.length ≤ 9223372036854775807 ∧ ∀ y ∈ xs, -9223372036854775808 ≤ y ∧ y ≤ 9223372036854775807 := by
  obtain ⟨ws, h1, h2, h3⟩ := trod_slice ht he h
  obtain ⟨xs, rfl, h4⟩ := all_ints (ws := ws) fun y hy => by
    obtain ⟨m, z, hz⟩ := h3 y hy
    obtain ⟨b, rfl, hw⟩ := trod_int hf hz
    exact ⟨b, rfl, wf_i64 hw⟩
  exact ⟨xs, h1, by simpa using h2, h4⟩

theorem open_ints {e d p} (ht : P.underlying t = some (.slice e)) (he : P.cellsOf e = 1) (hf : P.underlying e = some (.int .i64)) (hv : Value.okWide P W r b0 t v) (h : DataW.Trod enc P W 0 sp hd t v d p) :
    ∃ xs, IS (all W) v xs ∧ xs.length ≤ 9223372036854775807 ∧ ∀ y ∈ xs, -9223372036854775808 ≤ y ∧ y ≤ 9223372036854775807 := by
  obtain ⟨a, len, cap, rfl⟩ := okWide_slice ht hv
  obtain ⟨n, hn⟩ := h
  exact trod_ints ht he hf (show DataW.trod enc P W 0 sp hd n t [.slice a len cap] = _ from hn)
end rd

section
variable {P : Program} {W : World} {n : Nat} {ds : List Deferred} {ops : List Oper} {Q : Exit → Act → World → Prop} {E : Env} {G : Heap} {listed : List Bool} {fuel : Nat}
variable {ty : TypeId} {pos : String} {af : Array Edge} {d : Tmp}
theorem tc_anyQ {id : Nat} (hm : P.follows .mixedOrders = true) (hQ : PQ Q) (h : PQ Q → TA P W n ds ops Q ops.length (List.replicate ops.length false) E G) : TC P W n ds (.region id ops.toArray true) Q E G := tc_any hm (h hQ)
theorem ta_two10 (i j : Nat) {op op2 : Op} {ty2 pos2 af2} (hr : Region.ready .any ops.toArray ⟨listed⟩ = [i, j])
    (hi : ops[i]? = some ⟨some d, op, ty, pos, af, none⟩) (hd : d < n) (hj : ops[j]? = some ⟨none, op2, ty2, pos2, af2, none⟩)
    (h1 : OpT P W n ds ⟨some d, op, ty, pos, af, none⟩ E G (fun v G' => TA P W n ds ops Q fuel (listed.set i true) ((d, v) :: E) G'))
    (h2 : OpT P W n ds ⟨none, op2, ty2, pos2, af2, none⟩ E G (fun v G' => TA P W n ds ops Q fuel (listed.set j true) E G')) : TA P W n ds ops Q (fuel + 1) listed E G :=
  ⟨fun a w hok hsw => wpAny_all hr (by simp) fun k hk => by
    simp only [List.mem_cons, List.not_mem_nil, or_false] at hk
    rcases hk with rfl | rfl
    · exact ta_step (op := op) _ hi rfl h1 (fun v G' a w hk hs hok => hk.run _ _ (hok.put hd v) hs) a w hok hsw
    · exact ta_step (op := op2) _ hj rfl h2 (fun v G' a w hk hs hok => hk.run _ _ hok hs) a w hok hsw⟩
end
end Go.Lg

set_option linter.unusedVariables false
set_option linter.unusedSimpArgs false
namespace Go.Lg
open Ieee

theorem does_sqrt {P : Program} {f : FuncId} {fn : Func} {H : Heap} {x : Nat}
    (hf : P.funcs[f]? = some fn) (hn : (fn.name == "runtime.NumGoroutine") = false) (hb : fn.body.isNone = true) (h1 : (Extern.findNext fn).isNone = true)
    (h2 : Extern.find fn = some Extern.MathSqrt.sqrt) : Does P f [.float .f64 x] H fun v H' => (∃ r, v = .float .f64 r ∧ SqrtR x r) ∧ H' = H := by
  refine does_extern hf hn hb h1 h2 fun W w hs => ?_
  have e : Extern.MathSqrt.sqrt ⟨[.float .f64 x]⟩ = (match FloatKind.f64.format.sqrt x with
    | some r => pure (.float .f64 r)
    | none => do pure (.float .f64 (← choose (.nanBits .f64 x x)))) := rfl
  rw [e]
  unfold SqrtR
  cases hd : double.sqrt x with
  | some r =>
    have : FloatKind.f64.format.sqrt x = some r := hd
    rw [this]
    exact ⟨_, w, rfl, hs, ⟨r, rfl, fun w' hw => by injection hw⟩, rfl⟩
  | none =>
    have : FloatKind.f64.format.sqrt x = none := hd
    rw [this]
    exact ⟨_, { w with drawn := w.drawn + 1 }, rfl, hs.drew _, ⟨_, rfl, fun w' hw => by cases hw⟩, rfl⟩

/-- What a conversion to a whole number gives. -/
def Cv (x : Nat) (n : Int) : Prop := (∀ m, floatToIntVal .f64 x .i64 = some m → n = m) ∧ -9223372036854775808 ≤ n ∧ n ≤ 9223372036854775807
theorem wrap_range (n : Int) : -9223372036854775808 ≤ IntKind.i64.wrap n ∧ IntKind.i64.wrap n ≤ 9223372036854775807 := by
  simp only [IntKind.wrap, IntKind.bits, IntKind.signed]
  simp
  split <;> omega

section ops
variable {P : Program} {W : World} {n : Nat} {ds : List Deferred} {E : Env} {G : Heap} {K : Value → Heap → Prop}
variable {dst : Option Tmp} {ty : TypeId} {pos : String} {af : Array Edge} {g : Option (Nat × Bool)}

theorem op_ftoiAny {src dt x b} [hs : Und P src (.float .f64)] [hd : Und P dt (.int .i64)] (hk : ∀ m, Cv b m → K (.int .i64 m) G) (hx : evalE E x = some (.float .f64 b) := by exact rfl) :
    OpT P W n ds ⟨dst, .convert src dt x, ty, pos, af, g⟩ E G K := by
  refine ⟨fun a w next Q ho hsw hn => ?_⟩
  cases hv : floatToIntVal .f64 b .i64 with
  | some m =>
    have hr : (execOp a.eval ⟨dst, .convert src dt x, ty, pos, af, g⟩).run P w = .ok (.value (.int .i64 m)) w := by
      simp only [execOp, ho.eval hx]
      exact run_v (run_convert_float_int w src dt .f64 .i64 b m (by rw [hs.eq]; rfl) hd.eq hv)
    rw [hr]
    refine hn _ _ _ hsw (hk m ⟨fun m' h => by rw [hv] at h; injection h, ?_⟩)
    have := floatToIntVal_wf hv
    simpa [Lit.wf, IntKind.min, IntKind.max, IntKind.signed, IntKind.bits] using this
  | none =>
    obtain ⟨v, w', hr, hs', h1⟩ : ∃ v w', (execOp a.eval ⟨dst, .convert src dt x, ty, pos, af, g⟩).run P w = .ok (.value (.int .i64 (IntKind.i64.wrap v))) w' ∧ Sees W G w' ∧ True := by
      have hc : Conv.floatToInt .f64 b .i64 = (do pure (.int .i64 (IntKind.i64.wrap (← choose (.floatToInt .f64 b .i64)))) : Sem Value) := by
        unfold floatToIntVal at hv
        unfold Conv.floatToInt
        cases hd2 : (FloatKind.decode .f64 b).toInt .zero with
        | none => rfl
        | some k =>
          rw [hd2] at hv
          simp only at hv ⊢
          by_cases hc : IntKind.i64.min ≤ k ∧ k ≤ IntKind.i64.max
          · rw [if_pos hc] at hv; cases hv
          · rw [if_neg hc]
      have hu1 : P.underlying src = some (.float .f64) := hs.eq
      refine ⟨(Question.floatToInt .f64 b .i64).cut (w.tape w.drawn (Question.floatToInt .f64 b .i64)), { w with drawn := w.drawn + 1 }, ?_, hsw.drew _, trivial⟩
      have hq : (Question.floatToInt .f64 b .i64).forced = false := rfl
      simp only [execOp, ho.eval hx]
      refine run_v ?_
      refine (sem_run_bind P _ _ w _ w (run_underlying (t := src) w)).trans ?_
      refine (sem_run_bind P _ _ w _ w (run_underlying (t := dt) w)).trans ?_
      show Sem.run P (Conv.floatToInt .f64 b .i64) w = _
      rw [hc]
      rfl
    rw [hr]
    exact hn _ _ _ hs' (hk _ ⟨fun m h => (by rw [hv] at h; cases h), wrap_range _⟩)

theorem op_callv {x f args vs at'} (h : Does P f vs G K) (hf : evalE E x = some (.func (.func f) #[] #[]) := by exact rfl) (hx : evalAll E args = some vs := by exact rfl) :
    OpT P W n ds ⟨dst, .call { callee := .value x, args := ⟨args⟩, argTypes := at' }, ty, pos, af, g⟩ E G K := by
  refine ⟨fun a w next Q ho hs hn => ?_⟩
  have he : args.map a.eval = vs := by
    clear h hn hf
    induction args generalizing vs with
    | nil => simp [evalAll] at hx; simp [← hx]
    | cons x xs ih =>
      simp only [evalAll] at hx
      cases h1 : evalE E x with
      | none => simp [h1] at hx
      | some v =>
        cases h2 : evalAll E xs with
        | none => simp [h1, h2] at hx
        | some us =>
          simp only [h1, h2, Option.some.injEq] at hx
          subst hx
          simp [ho.eval h1, ih h2]
  have hr : (execOp a.eval ⟨dst, .call { callee := .value x, args := ⟨args⟩, argTypes := at' }, ty, pos, af, g⟩).run P w = (callFunc f ⟨vs⟩).run P w := by
    simp only [execOp, resolve, ho.eval hf]
    refine (sem_run_bind P _ _ w _ w rfl).trans ?_
    simp [invoke, he]
  rw [hr]
  exact h.run W w hs _ a next Q hn
end ops
end Go.Lg

set_option linter.unusedVariables false
set_option linter.unusedSimpArgs false
namespace Go.Lg
open Ieee

/-- c is q but for k units of 2^-53. -/
def Ru (k : Nat) (c q : Rat) : Prop := Rl ((k : Rat) * p2 (-53)) c q
theorem u_pos (k : Nat) : 0 ≤ (k : Rat) * p2 (-53) := Rat.mul_nonneg (by exact_mod_cast Nat.zero_le k) (Rat.le_of_lt (p2_pos _))
theorem u_mono {k l : Nat} (h : k ≤ l) : (k : Rat) * p2 (-53) ≤ (l : Rat) * p2 (-53) := mul_le (by exact_mod_cast h) (Rat.le_of_lt (p2_pos _))
theorem Ru.le {k l : Nat} {c q : Rat} (h : Ru k c q) (hl : k ≤ l) : Ru l c q := Rl.le h (u_mono hl)
theorem nat_cast_le {k : Nat} (h : k ≤ 1048576) : (k : Rat) ≤ p2 20 := by
  rw [p2_toNat (e := 20) (by decide)]; exact_mod_cast h
theorem u_sum {k l : Nat} (hk : k ≤ 1048576) (hl : l ≤ 1048576) :
    (k : Rat) * p2 (-53) + (l : Rat) * p2 (-53) + (k : Rat) * p2 (-53) * ((l : Rat) * p2 (-53)) ≤ ((k + l + 1 : Nat) : Rat) * p2 (-53) := by
  have h1 := nat_cast_le hk
  have h2 := nat_cast_le hl
  have hl0 : (0 : Rat) ≤ (l : Rat) := by exact_mod_cast Nat.zero_le l
  have e1 := mul_le h1 hl0
  have e2 := mul_le_left h2 (Rat.le_of_lt (p2_pos 20))
  rw [p2_mul (c := 40) (by decide)] at e2
  have e3 := mul_le (show (k : Rat) * (l : Rat) ≤ p2 40 by grind) (Rat.le_of_lt (p2_pos (-53)))
  rw [p2_mul (c := -13) (by decide)] at e3
  have e4 : p2 (-13) ≤ 1 := by rw [← p2_zero]; exact p2_le (by decide)
  have e5 := mul_le (show (k : Rat) * (l : Rat) * p2 (-53) ≤ 1 by grind) (Rat.le_of_lt (p2_pos (-53)))
  simp only [Rat.natCast_add]
  grind
theorem Ru.trans {k l : Nat} {c z q : Rat} (h1 : Ru k c z) (h2 : Ru l z q) (hk : k ≤ 1048576 := by decide) (hl : l ≤ 1048576 := by decide) : Ru (k + l + 1) c q :=
  (Rl.trans h1 h2 (u_pos k)).le (u_sum hk hl)
theorem Ru.mul {k l : Nat} {a b p q : Rat} (h1 : Ru k a p) (h2 : Ru l b q) (hk : k ≤ 1048576 := by decide) (hl : l ≤ 1048576 := by decide) : Ru (k + l + 1) (a * b) (p * q) :=
  (Rl.mul h1 h2 (u_pos k)).le (u_sum hk hl)
theorem Ru.refl (q : Rat) : Ru 0 q q := (Rl.refl q).le (u_pos 0)
theorem Ru.to {k l : Nat} {c q q' : Rat} (h : Ru k c q) (hl : k ≤ l) (e : q = q') : Ru l c q' := e ▸ h.le hl
theorem u_small {k : Nat} (hk : k ≤ 1048576) : (k : Rat) * p2 (-53) ≤ p2 (-1) := by
  have := mul_le (nat_cast_le hk) (Rat.le_of_lt (p2_pos (-53)))
  rw [p2_mul (c := -33) (by decide)] at this
  exact Rat.le_trans this (p2_le (by decide))
theorem Ru.zero {k : Nat} {c : Rat} (h : Ru k c 0) : c = 0 := by
  unfold Ru Rl at h
  rw [rabs_zero] at h
  have := rabs_le.1 (show rabs (c - 0) ≤ 0 by grind)
  grind
theorem half1 : p2 (-1) + p2 (-1) = 1 := by rw [← p2_half (e := -1) (e' := 0) (by decide)]; exact p2_zero
theorem Ru.sign {k : Nat} {c q : Rat} (h : Ru k c q) (hk : k ≤ 1048576 := by decide) : (0 < q → 0 < c ∧ p2 (-1) * q ≤ c ∧ c ≤ 2 * q) ∧ (q < 0 → c < 0) := by
  unfold Ru Rl at h
  have he := u_small hk
  constructor
  · intro hq
    rw [rabs_of_nonneg (Rat.le_of_lt hq)] at h
    have := rabs_le.1 h
    have := mul_le he (Rat.le_of_lt hq)
    have e2 : p2 (-1) * q + p2 (-1) * q = q := by rw [← Rat.add_mul, half1]; grind
    have := Rat.mul_pos (p2_pos (-1)) hq
    refine ⟨?_, ?_, ?_⟩ <;> grind
  · intro hq
    have hq' : 0 < -q := by grind
    rw [← rabs_neg q, rabs_of_nonneg (Rat.le_of_lt hq')] at h
    have := rabs_le.1 h
    have := mul_le he (Rat.le_of_lt hq')
    have e2 : p2 (-1) * -q + p2 (-1) * -q = -q := by rw [← Rat.add_mul, half1]; grind
    have := Rat.mul_pos (p2_pos (-1)) hq'
    grind
/-- The other way about, of a divisor. -/
theorem Ru.inv {k : Nat} {a b D : Rat} (h : Ru k a b) (hb : 0 < b) (hk : k ≤ 524288 := by decide) : Ru (2 * k) (D / a) (D / b) := by
  obtain ⟨ha, ha2, _⟩ := (h.sign (by omega)).1 hb
  have hka := h
  unfold Ru Rl at h ⊢
  rw [rabs_of_nonneg (Rat.le_of_lt hb)] at h
  have e1 := rat_div_mul D a (by grind)
  have e2 := rat_div_mul D b (by grind)
  generalize D / a = x at *
  generalize D / b = y at *
  -- (x - y) a = y (b - a)
  have e3 : (x - y) * a = y * (b - a) := by grind
  have e4 : rabs (x - y) * a = rabs y * rabs (a - b) := by
    have : rabs (x - y) * rabs a = rabs y * rabs (b - a) := by rw [← rabs_mul, e3, rabs_mul]
    rw [rabs_of_nonneg (Rat.le_of_lt ha)] at this
    rw [this]; congr 1; rw [← rabs_neg]; congr 1; grind
  have e5 := mul_le_left h (rabs_nonneg y)
  have e6 : rabs y * ((k : Rat) * p2 (-53) * b) ≤ ((2 * k : Nat) : Rat) * p2 (-53) * rabs y * a := by
    have h1 := mul_le_left ha2 (Rat.mul_nonneg (u_pos k) (rabs_nonneg y))
    have e7 : p2 (-1) * b + p2 (-1) * b = b := by rw [← Rat.add_mul, half1]; grind
    rw [Rat.natCast_mul]
    have : ((2 : Nat) : Rat) = 2 := rfl
    rw [this]
    have e8 : (k : Rat) * p2 (-53) * rabs y * b = (k : Rat) * p2 (-53) * rabs y * (p2 (-1) * b) + (k : Rat) * p2 (-53) * rabs y * (p2 (-1) * b) := by rw [← Rat.mul_add, e7]
    have f1 : rabs y * ((k : Rat) * p2 (-53) * b) = (k : Rat) * p2 (-53) * rabs y * b := by grind
    have f2 : 2 * (k : Rat) * p2 (-53) * rabs y * a = (k : Rat) * p2 (-53) * rabs y * a + (k : Rat) * p2 (-53) * rabs y * a := by grind
    rw [f1, f2, e8]
    clear e3 e4 e5 e1 e2 h e7 e8 f1 f2
    generalize (k : Rat) * p2 (-53) * rabs y * (p2 (-1) * b) = A at *
    generalize (k : Rat) * p2 (-53) * rabs y * a = B at *
    grind
  refine of_mul_le (c := a) ?_ ha
  grind

theorem Rnd.ru {q c : Rat} (h : Rnd q c) (hq : q = 0 ∨ p2 (-1000) ≤ rabs q) : Ru 1 c q := by
  rcases hq with rfl | hq
  · rw [h.exact rep_zero]; exact (Ru.refl 0).le (by decide)
  · have := h.rel (Rat.le_trans (p2_le (by decide)) hq)
    unfold Ru
    have e : ((1 : Nat) : Rat) * p2 (-53) = p2 (-53) := by
      have : ((1 : Nat) : Rat) = 1 := rfl
      rw [this, Rat.one_mul]
    rw [e]; exact this
theorem lt1023 {q : Rat} (h : rabs q ≤ p2 1000) : q < p2 1023 ∧ -q < p2 1023 := by
  have h1 := p2_lt (show (1000 : Int) < 1023 by decide)
  have h2 := le_rabs q
  generalize p2 1000 = a at *
  generalize p2 1023 = b at *
  constructor <;> grind
theorem far_mul_u {x y r : Nat} {a b : Rat} (h : FAr .mul x y r) (ha : Fv x a) (hb : Fv y b) (h1 : a * b = 0 ∨ p2 (-1000) ≤ rabs (a * b)) (h2 : rabs (a * b) ≤ p2 1000) : ∃ c, Fv r c ∧ Ru 1 c (a * b) := by
  obtain ⟨k1, k2⟩ := lt1023 h2
  obtain ⟨c, hc, hr⟩ := far_mul h ha hb k1 k2
  exact ⟨c, hc, hr.ru h1⟩
theorem far_add_u {x y r : Nat} {a b : Rat} (h : FAr .add x y r) (ha : Fv x a) (hb : Fv y b) (h1 : a + b = 0 ∨ p2 (-1000) ≤ rabs (a + b)) (h2 : rabs (a + b) ≤ p2 1000) : ∃ c, Fv r c ∧ Ru 1 c (a + b) := by
  obtain ⟨k1, k2⟩ := lt1023 h2
  obtain ⟨c, hc, hr⟩ := far_add h ha hb k1 k2
  exact ⟨c, hc, hr.ru h1⟩
theorem u_two : ((2 : Nat) : Rat) * p2 (-53) = p2 (-52) := by
  have e : p2 (-52) = p2 (-53) + p2 (-53) := p2_half (by decide)
  have : ((2 : Nat) : Rat) = 2 := rfl
  rw [e, this]; grind
theorem u_four : ((4 : Nat) : Rat) * p2 (-53) = p2 (-51) := by
  have e : p2 (-52) = p2 (-53) + p2 (-53) := p2_half (by decide)
  have e2 : p2 (-51) = p2 (-52) + p2 (-52) := p2_half (by decide)
  have : ((4 : Nat) : Rat) = 4 := rfl
  rw [e2, e, this]; grind
theorem far_quo_u {x y r : Nat} {a b : Rat} (h : FAr .quo x y r) (ha : Fv x a) (hb : Fv y b) (hb0 : b ≠ 0) (h1 : a = 0 ∨ p2 (-1000) ≤ rabs (a / b)) (h2 : rabs (a / b) ≤ p2 1000) : ∃ c, Fv r c ∧ Ru 2 c (a / b) := by
  rcases h1 with rfl | h1
  · refine ⟨0, far_quo_zero h ha hb hb0, ?_⟩
    have : (0 : Rat) / b = 0 := by rw [Rat.div_def]; simp
    rw [this]; exact (Ru.refl 0).le (by decide)
  · by_cases ha0 : a = 0
    · subst ha0
      refine ⟨0, far_quo_zero h ha hb hb0, ?_⟩
      have : (0 : Rat) / b = 0 := by rw [Rat.div_def]; simp
      rw [this]; exact (Ru.refl 0).le (by decide)
    · obtain ⟨c, hc, hr⟩ := far_quo h ha hb ha0 hb0 h1 h2
      refine ⟨c, hc, ?_⟩
      unfold Ru; rw [u_two]; exact hr
theorem sqrt_u {x r : Nat} {q : Rat} (hr : SqrtR x r) (hx : Fv x q) (hq : 0 < q) (hlo : p2 (-1000) ≤ q) (hhi : q ≤ p2 1000) : ∃ c, Fv r c ∧ 0 < c ∧ Ru 4 (c * c) q := by
  obtain ⟨c, h1, h2, h3⟩ := sqrt_rel hr hx hq hlo hhi
  refine ⟨c, h1, h2, ?_⟩
  unfold Ru; rw [u_four]; exact h3
/-- Two numbers from 0 on with nearly the same square, up to 1. -/
theorem near_units {k : Nat} {X a b : Rat} (ha : 0 ≤ a) (hb : 0 ≤ b) (h1 : Ru k (a * a) X) (h2 : Ru k (b * b) X) (hX : 0 ≤ X) (hX1 : X ≤ 1) (hk : k ≤ 256) : rabs (a - b) ≤ p2 (-42) := by
  have he : (k : Rat) * p2 (-53) ≤ p2 (-45) := by
    have : (k : Rat) ≤ p2 8 := by rw [p2_toNat (e := 8) (by decide)]; exact_mod_cast hk
    have := mul_le this (Rat.le_of_lt (p2_pos (-53)))
    rw [p2_mul (c := -45) (by decide)] at this
    exact this
  have := near_roots ha hb h1 h2 hX (u_pos k) (Rat.le_trans he (p2_le (by decide))) (show (0 : Rat) < 1 by decide) (by grind)
  have e8 : (8 : Rat) * p2 (-45) = p2 (-42) := by
    have : (8 : Rat) = p2 3 := by rw [p2_toNat (e := 3) (by decide)]; rfl
    rw [this, p2_mul (c := -42) (by decide)]
  grind
end Go.Lg
