/-
  Forces of gravity: the code's and the statement's way to count are near. No conditions.
-/
import Derived.Test.YthafjfgmbmpfoaaFl10
set_option linter.unusedVariables false
set_option linter.unusedSimpArgs false
namespace Go.Lg
open Ieee

theorem Ru.abs {k : Nat} {c q : Rat} (h : Ru k c q) (hk : k ≤ 1048576 := by decide) : p2 (-1) * rabs q ≤ rabs c ∧ rabs c ≤ 2 * rabs q := by
  unfold Ru Rl at h
  have h1 := mul_le (u_small hk) (rabs_nonneg q)
  have h2 : p2 (-1) * rabs q + p2 (-1) * rabs q = rabs q := by rw [← Rat.add_mul, half1]; grind
  have h3 := rabs_add (c - q) q
  have h4 := rabs_add (q - c) c
  rw [show c - q + q = c by grind] at h3
  rw [show q - c + c = q by grind] at h4
  have h5 : rabs (q - c) = rabs (c - q) := by rw [← rabs_neg]; congr 1; grind
  have := Rat.mul_nonneg (Rat.le_of_lt (p2_pos (-1))) (rabs_nonneg q)
  constructor <;> grind
theorem Ru.symm {k : Nat} {c q : Rat} (h : Ru k c q) (hk : k ≤ 524288 := by decide) : Ru (2 * k) q c := by
  have ha := Ru.abs h (by omega)
  have h0 := h
  unfold Ru Rl at h ⊢
  have h5 : rabs (q - c) = rabs (c - q) := by rw [← rabs_neg]; congr 1; grind
  rw [h5, Rat.natCast_mul]
  have h2 : p2 (-1) * rabs q + p2 (-1) * rabs q = rabs q := by rw [← Rat.add_mul, half1]; grind
  have h3 := mul_le_left (show rabs q ≤ 2 * rabs c by grind) (u_pos k)
  have : ((2 : Nat) : Rat) = 2 := rfl
  rw [this]
  have e2 : (k : Rat) * p2 (-53) * (2 * rabs c) = 2 * (k : Rat) * p2 (-53) * rabs c := by grind
  rw [← e2]
  exact Rat.le_trans h h3
/-- Of two numbers above 0, by their squares. -/
theorem Ru.root {k : Nat} {a b : Rat} (ha : 0 < a) (hb : 0 < b) (h : Ru k (a * a) (b * b)) : Ru k a b := by
  unfold Ru Rl at h ⊢
  have hb2 := Rat.mul_pos hb hb
  rw [rabs_of_nonneg (Rat.le_of_lt hb2)] at h
  rw [rabs_of_nonneg (Rat.le_of_lt hb)]
  have e1 : rabs (a - b) * (a + b) = rabs (a * a - b * b) := by
    have e : rabs (a - b) * rabs (a + b) = rabs (a * a - b * b) := by rw [← rabs_mul]; congr 1; grind
    rw [rabs_of_nonneg (show 0 ≤ a + b by grind)] at e; exact e
  have e2 := mul_le_left (show b ≤ a + b by grind) (rabs_nonneg (a - b))
  refine of_mul_le (c := b) ?_ hb
  have e3 : (k : Rat) * p2 (-53) * b * b = (k : Rat) * p2 (-53) * (b * b) := by grind
  rw [e3]
  grind
theorem rabs_div {a b : Rat} (hb : 0 < b) : rabs (a / b) * b = rabs a := by
  have : rabs (a / b) * rabs b = rabs a := by rw [← rabs_mul, rat_div_mul _ _ (by grind)]
  rwa [rabs_of_nonneg (Rat.le_of_lt hb)] at this
theorem grav_num {m x D D' s v t w n : Nat} {N : Int} {q d d' : Rat} (hm : Fv m q) (hx : FI 1024 x N) (hD : Fv D d) (hD' : Fv D' d') (hq0 : 0 ≤ q) (hq : q = 0 ∨ p2 (-41) ≤ q) (hq2 : q ≤ p2 21)
    (d0 : p2 (-3) ≤ d) (d1 : d ≤ p2 40) (d0' : p2 (-3) ≤ d') (d1' : d' ≤ p2 40) (hdd : Ru 20 d d') (e1 : FAr .quo m D s) (e2 : FAr .mul s x v) (e3 : FAr .mul m x t) (e4 : FAr .quo t D' w) :
    ∃ g u, Fv v g ∧ Fv w u ∧ Ru 120 g u ∧ (u = 0 ∨ p2 (-90) ≤ rabs u) ∧ rabs u ≤ p2 100 ∧ rabs g ≤ p2 100 := by
  have p3 := p2_pos (-3)
  have dp : 0 < d := by grind
  have dp' : 0 < d' := by grind
  have hqa := rabs_of_nonneg hq0
  have eq1 := rabs_div (a := q) dp
  rw [hqa] at eq1
  have e3p : p2 (-3) * p2 24 = p2 21 := p2_mul (by decide)
  have hqd : rabs (q / d) ≤ p2 24 := by
    refine of_mul_le (c := d) ?_ dp
    rw [eq1]
    have := mul_le_left d0 (Rat.le_of_lt (p2_pos 24))
    rw [Rat.mul_comm, e3p] at this
    grind
  have hqdl : q = 0 ∨ p2 (-81) ≤ rabs (q / d) := by
    rcases hq with h | h
    · exact .inl h
    · right
      refine of_mul_le (c := d) ?_ dp
      rw [eq1]
      have := mul_le_left d1 (Rat.le_of_lt (p2_pos (-81)))
      rw [p2_mul (c := -41) (by decide)] at this
      grind
  obtain ⟨s1, hs1, rs⟩ := far_quo_u e1 hm hD (by grind) (hqdl.imp id fun h => Rat.le_trans (p2_le (by decide)) h) (Rat.le_trans hqd (p2_le (by decide)))
  have sa := Ru.abs rs
  have hN : rabs (N : Rat) ≤ p2 10 := by
    have e : p2 10 = ((1024 : Nat) : Rat) := p2_toNat (e := 10) (by decide)
    have a1 : (N : Rat) ≤ p2 10 := by rw [e, ← Rat.intCast_natCast]; exact Rat.intCast_le_intCast.2 hx.hi
    have a2 : ((-N : Int) : Rat) ≤ p2 10 := by rw [e, ← Rat.intCast_natCast]; exact Rat.intCast_le_intCast.2 (by have := hx.lo; omega)
    rw [Rat.intCast_neg] at a2
    exact rabs_le.2 ⟨by grind, by grind⟩
  have hN1 : N = 0 ∨ (1 : Rat) ≤ rabs (N : Rat) := by
    by_cases h : N = 0
    · exact .inl h
    · exact .inr (int_pos h)
  have s1z : q = 0 → s1 = 0 := by
    rintro rfl
    have : (0 : Rat) / d = 0 := by rw [Rat.div_def]; simp
    rw [this] at rs
    exact rs.zero
  have hsN2 : rabs (s1 * (N : Rat)) ≤ p2 36 := by
    rw [rabs_mul]
    have h1 := mul_le (show rabs s1 ≤ p2 25 by have : p2 25 = p2 24 + p2 24 := p2_half (by decide); grind) (rabs_nonneg (N : Rat))
    have h2 := mul_le_left hN (Rat.le_of_lt (p2_pos 25))
    rw [p2_mul (c := 35) (by decide)] at h2
    have := p2_le (show (35 : Int) ≤ 36 by decide)
    grind
  have hsN : s1 * (N : Rat) = 0 ∨ p2 (-82) ≤ rabs (s1 * (N : Rat)) := by
    rcases hqdl with h | h
    · left; rw [s1z h]; grind
    · rcases hN1 with h2 | h2
      · left; rw [h2]; simp
      · right
        rw [rabs_mul]
        have h3 := mul_le_left h (Rat.le_of_lt (p2_pos (-1)))
        rw [p2_mul (c := -82) (by decide)] at h3
        have h4 := mul_le (show p2 (-82) ≤ rabs s1 by grind) (rabs_nonneg (N : Rat))
        have h5 := mul_le_left h2 (Rat.le_of_lt (p2_pos (-82)))
        grind
  obtain ⟨g, hg, rg⟩ := far_mul_u e2 hs1 hx.fv (hsN.imp id fun h => Rat.le_trans (p2_le (by decide)) h) (Rat.le_trans hsN2 (p2_le (by decide)))
  have rg2 : Ru 4 g (q / d * (N : Rat)) := (rg.trans (Rl.scale rs _)).le (by decide)
  -- the statement's
  have hqN2 : rabs (q * (N : Rat)) ≤ p2 31 := by
    rw [rabs_mul, hqa]
    have h1 := mul_le hq2 (rabs_nonneg (N : Rat))
    have h2 := mul_le_left hN (Rat.le_of_lt (p2_pos 21))
    rw [p2_mul (c := 31) (by decide)] at h2
    grind
  have hqN : q * (N : Rat) = 0 ∨ p2 (-41) ≤ rabs (q * (N : Rat)) := by
    rcases hq with h | h
    · left; rw [h]; grind
    · rcases hN1 with h2 | h2
      · left; rw [h2]; simp
      · right
        rw [rabs_mul, hqa]
        have h4 := mul_le h (rabs_nonneg (N : Rat))
        have h5 := mul_le_left h2 (Rat.le_of_lt (p2_pos (-41)))
        grind
  obtain ⟨t1, ht1, rt⟩ := far_mul_u e3 hm hx.fv (hqN.imp id fun h => Rat.le_trans (p2_le (by decide)) h) (Rat.le_trans hqN2 (p2_le (by decide)))
  have ta := Ru.abs rt
  have t1z : q * (N : Rat) = 0 → t1 = 0 := fun h => by rw [h] at rt; exact rt.zero
  have eqt := rabs_div (a := t1) dp'
  have htd2 : rabs (t1 / d') ≤ p2 35 := by
    refine of_mul_le (c := d') ?_ dp'
    rw [eqt]
    have h1 := mul_le_left d0' (Rat.le_of_lt (p2_pos 35))
    rw [p2_mul (c := 32) (by decide)] at h1
    have : p2 32 = p2 31 + p2 31 := p2_half (by decide)
    grind
  have htd : t1 = 0 ∨ p2 (-82) ≤ rabs (t1 / d') := by
    rcases hqN with h | h
    · exact .inl (t1z h)
    · right
      refine of_mul_le (c := d') ?_ dp'
      rw [eqt]
      have h1 := mul_le_left d1' (Rat.le_of_lt (p2_pos (-82)))
      rw [p2_mul (c := -42) (by decide)] at h1
      have h3 := mul_le_left h (Rat.le_of_lt (p2_pos (-1)))
      rw [p2_mul (c := -42) (by decide)] at h3
      grind
  obtain ⟨u, hu, ru⟩ := far_quo_u e4 ht1 hD' (by grind) (htd.imp id fun h => Rat.le_trans (p2_le (by decide)) h) (Rat.le_trans htd2 (p2_le (by decide)))
  have ru2 : Ru 4 u (q * (N : Rat) / d') := by
    have : Ru 1 (t1 / d') (q * (N : Rat) / d') := by rw [Rat.div_def, Rat.div_def (q * (N : Rat))]; exact Rl.scale rt _
    exact (ru.trans this).le (by decide)
  have e5 : q / d * (N : Rat) = q * (N : Rat) / d := by rw [Rat.div_def, Rat.div_def]; grind
  rw [e5] at rg2
  have r6 := hdd.inv (D := q * (N : Rat)) dp'
  have r7 := (rg2.trans r6).trans ru2.symm
  have ua := Ru.abs ru
  have ga := Ru.abs r7
  have hu2 : rabs u ≤ p2 36 := by have : p2 36 = p2 35 + p2 35 := p2_half (by decide); grind
  refine ⟨g, u, hg, hu, r7.le (by decide), ?_, Rat.le_trans hu2 (p2_le (by decide)), ?_⟩
  · rcases htd with h | h
    · left
      have : t1 / d' = 0 := by rw [h, Rat.div_def]; simp
      rw [this] at ru; exact ru.zero
    · right
      have h3 := mul_le_left h (Rat.le_of_lt (p2_pos (-1)))
      rw [p2_mul (c := -83) (by decide)] at h3
      have := p2_le (show (-90 : Int) ≤ -83 by decide)
      grind
  · have : p2 37 = p2 36 + p2 36 := p2_half (by decide)
    have := p2_le (show (37 : Int) ≤ 100 by decide)
    grind
/-- Nearer than a share of 2^-30. -/
theorem grav_near {v w r y : Nat} {g u : Rat} (hv : Fv v g) (hw : Fv w u) (h : Ru 120 g u) (hu : u = 0 ∨ p2 (-90) ≤ rabs u) (hu2 : rabs u ≤ p2 100) (hg2 : rabs g ≤ p2 100) (e1 : FAr .sub v w r) (e2 : FAr .mul (w % 9223372036854775808) 4472074429978902528 y) :
    fcmp .leq (r % 9223372036854775808) y = true := by
  have f30 : Fv 4472074429978902528 (p2 (-30)) := ⟨false, 4503599627370496, -82, rfl, by
    have e : ((4503599627370496 : Nat) : Rat) = p2 52 := (p2_toNat (e := 52) (by decide)).symm
    have := p2_mul (a := 52) (b := -82) (c := -30) (by decide)
    rw [e]; unfold sgn; grind⟩
  have hsub : rabs (g - u) ≤ p2 101 := by
    have h1 := rabs_add g (-u)
    rw [rabs_neg, show g + -u = g - u by grind] at h1
    have : p2 101 = p2 100 + p2 100 := p2_half (by decide)
    grind
  have l1 := lt1023 (Rat.le_trans hsub (p2_le (by decide)))
  obtain ⟨c, hc, hrd⟩ := far_sub e1 hv hw l1.1 l1.2
  have hp : rabs (rabs u * p2 (-30)) = rabs u * p2 (-30) := rabs_of_nonneg (Rat.mul_nonneg (rabs_nonneg u) (Rat.le_of_lt (p2_pos _)))
  obtain ⟨z, hz, rz⟩ := far_mul_u e2 hw.abs f30 (by
    rcases hu with h | h
    · left; rw [h, rabs_zero]; grind
    · right
      rw [hp]
      have := mul_le h (Rat.le_of_lt (p2_pos (-30)))
      rw [p2_mul (c := -120) (by decide)] at this
      exact Rat.le_trans (p2_le (by decide)) this) (by
    rw [hp]
    have := mul_le hu2 (Rat.le_of_lt (p2_pos (-30)))
    rw [p2_mul (c := 70) (by decide)] at this
    exact Rat.le_trans this (p2_le (by decide)))
  rw [fcmp_leq hc.abs hz]
  refine decide_eq_true ?_
  rcases hu with h0 | h0
  · subst h0
    have hg := h.zero
    subst hg
    rw [show (0 : Rat) - 0 = 0 by grind] at hrd
    have := hrd.exact rep_zero
    subst this
    rw [rabs_zero] at rz ⊢
    rw [show (0 : Rat) * p2 (-30) = 0 by grind] at rz
    rw [rz.zero]; exact Rat.le_refl
  · have h3 := hrd.abs_le
    have hup : 0 < rabs u := by have := p2_pos (-90); grind
    have h4 := ((rz.sign).1 (Rat.mul_pos hup (p2_pos (-30)))).2.1
    -- z is half of it at least
    have e3 : p2 (-1) * (rabs u * p2 (-30)) = rabs u * p2 (-31) := by
      have : p2 (-1) * p2 (-30) = p2 (-31) := p2_mul (by decide)
      rw [← this]; grind
    unfold Ru Rl at h
    have e120 : ((120 : Nat) : Rat) * p2 (-53) ≤ p2 (-46) := by
      have : ((120 : Nat) : Rat) ≤ p2 7 := by rw [p2_toNat (e := 7) (by decide)]; exact_mod_cast (by decide : 120 ≤ 2 ^ 7)
      have := mul_le this (Rat.le_of_lt (p2_pos (-53)))
      rw [p2_mul (c := -46) (by decide)] at this
      exact this
    have h5 := mul_le e120 (rabs_nonneg u)
    have h6 : p2 (-1000) ≤ p2 (-46) * rabs u := by
      have h7 := mul_le_left h0 (Rat.le_of_lt (p2_pos (-46)))
      rw [p2_mul (c := -136) (by decide)] at h7
      exact Rat.le_trans (p2_le (by decide)) h7
    have h8 := mul_le (p2_le (show (-46 : Int) ≤ -35 by decide)) (rabs_nonneg u)
    have h9 : p2 (-31) = p2 (-32) + p2 (-32) := p2_half (by decide)
    have h10 : p2 (-32) = p2 (-33) + p2 (-33) := p2_half (by decide)
    have h11 : p2 (-33) = p2 (-34) + p2 (-34) := p2_half (by decide)
    have h12 : p2 (-34) = p2 (-35) + p2 (-35) := p2_half (by decide)
    generalize p2 (-1000) = zz at *
    rw [e3, h9, h10, h11, h12] at h4
    have A0 : 0 ≤ p2 (-35) * rabs u := Rat.mul_nonneg (Rat.le_of_lt (p2_pos _)) (rabs_nonneg u)
    have h13 : 16 * (p2 (-35) * rabs u) ≤ z := by
      clear hrd hc hz rz hp l1 hsub e3 h9 h10 h11 h12 h0 e120 f30 hu2 hg2 h3 h5 h6 h8 h
      grind
    have h14 := Rat.le_trans h h5
    clear hrd hc hz rz hp l1 hsub e3 h9 h10 h11 h12 h0 e120 f30 hu2 hg2 h4 h h5
    generalize p2 (-46) * rabs u = B at *
    generalize p2 (-35) * rabs u = A at *
    grind
end Go.Lg
