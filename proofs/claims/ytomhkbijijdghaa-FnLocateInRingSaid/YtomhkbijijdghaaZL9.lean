/-
  Forces of gravity: the code's and the statement's way to count are near. No conditions.
-/
import Derived.Test.YtomhkbijijdghaaZL3
import Derived.Test.YtomhkbijijdghaaZL6
import Derived.Test.YtomhkbijijdghaaZL8
set_option linter.unusedVariables false
set_option linter.unusedSimpArgs false
namespace Go.Lg
open Ieee

theorem Ru.abs {k : Nat} {c q : Rat} (h : Ru k c q) (hk : k ≤ 1048576 := by decide) : p2 (-1) * rabs q ≤ rabs c ∧ rabs c ≤ 2 * rabs q := by
  unfold Ru Rl at h
  have h1 := mul_le (u_small hk) (rabs_nonneg q)
  have h2 : p2 (-1) * rabs q + p2 (-1) * rabs q = rabs q := by rw [← Rat.add_mul, half1]; grind
  have h3 := rabs_add (c - q) q
  have h4 := rabs_add (q - c) c
  rw [show c - q + q = c by grind] at h3
  rw [show q - c + c = q by grind] at h4
  have h5 : rabs (q - c) = rabs (c - q) := by rw [← rabs_neg]; congr 1; grind
  have := Rat.mul_nonneg (Rat.le_of_lt (p2_pos (-1))) (rabs_nonneg q)
  constructor <;> grind
theorem Ru.symm {k : Nat} {c q : Rat} (h : Ru k c q) (hk : k ≤ 524288 := by decide) : Ru (2 * k) q c := by
  have ha := Ru.abs h (by omega)
  have h0 := h
  unfold Ru Rl at h ⊢
  have h5 : rabs (q - c) = rabs (c - q) := by rw [← rabs_neg]; congr 1; grind
  rw [h5, Rat.natCast_mul]
  have h2 : p2 (-1) * rabs q + p2 (-1) * rabs q = rabs q := by rw [← Rat.add_mul, half1]; grind
  have h3 := mul_le_left (show rabs q ≤ 2 * rabs c by grind) (u_pos k)
  have : ((2 : Nat) : Rat) = 2 := rfl
  rw [this]
  have e2 : (k : Rat) * p2 (-53) * (2 * rabs c) = 2 * (k : Rat) * p2 (-53) * rabs c := by grind
  rw [← e2]
  exact Rat.le_trans h h3
/-- Of two numbers above 0, by their squares. -/
theorem Ru.root {k : Nat} {a b : Rat} (ha : 0 < a) (hb : 0 < b) (h : Ru k (a * a) (b * b)) : Ru k a b := by
  unfold Ru Rl at h ⊢
  have hb2 := Rat.mul_pos hb hb
  rw [rabs_of_nonneg (Rat.le_of_lt hb2)] at h
  rw [rabs_of_nonneg (Rat.le_of_lt hb)]
  have e1 : rabs (a - b) * (a + b) = rabs (a * a - b * b) := by
    have e : rabs (a - b) * rabs (a + b) = rabs (a * a - b * b) := by rw [← rabs_mul]; congr 1; grind
    rw [rabs_of_nonneg (show 0 ≤ a + b by grind)] at e; exact e
  have e2 := mul_le_left (show b ≤ a + b by grind) (rabs_nonneg (a - b))
  refine of_mul_le (c := b) ?_ hb
  have e3 : (k : Rat) * p2 (-53) * b * b = (k : Rat) * p2 (-53) * (b * b) := by grind
  rw [e3]
  grind
theorem rabs_div {a b : Rat} (hb : 0 < b) : rabs (a / b) * b = rabs a := by
  have : rabs (a / b) * rabs b = rabs a := by rw [← rabs_mul, rat_div_mul _ _ (by grind)]
  rwa [rabs_of_nonneg (Rat.le_of_lt hb)] at this
theorem grav_num {m x D D' s v t w n : Nat} {N : Int} {q d d' : Rat} (hm : Fv m q) (hx : FI 1024 x N) (hD : Fv D d) (hD' : Fv D' d') (hq0 : 0 ≤ q) (hq : q = 0 ∨ p2 (-41) ≤ q) (hq2 : q ≤ p2 21)
    (d0 : p2 (-3) ≤ d) (d1 : d ≤ p2 40) (d0' : p2 (-3) ≤ d') (d1' : d' ≤ p2 40) (hdd : Ru 20 d d') (e1 : FAr .quo m D s) (e2 : FAr .mul s x v) (e3 : FAr .mul m x t) (e4 : FAr .quo t D' w) :
    ∃ g u, Fv v g ∧ Fv w u ∧ Ru 120 g u ∧ (u = 0 ∨ p2 (-90) ≤ rabs u) ∧ rabs u ≤ p2 100 ∧ rabs g ≤ p2 100 := by
  have p3 := p2_pos (-3)
  have dp : 0 < d := by grind
  have dp' : 0 < d' := by grind
  have hqa := rabs_of_nonneg hq0
  have eq1 := rabs_div (a := q) dp
  rw [hqa] at eq1
  have e3p : p2 (-3) * p2 24 = p2 21 := p2_mul (by decide)
  have hqd : rabs (q / d) ≤ p2 24 := by
    refine of_mul_le (c := d) ?_ dp
    rw [eq1]
    have := mul_le_left d0 (Rat.le_of_lt (p2_pos 24))
    rw [Rat.mul_comm, e3p] at this
    grind
  have hqdl : q = 0 ∨ p2 (-81) ≤ rabs (q / d) := by
    rcases hq with h | h
    · exact .inl h
    · right
      refine of_mul_le (c := d) ?_ dp
      rw [eq1]
      have := mul_le_left d1 (Rat.le_of_lt (p2_pos (-81)))
      rw [p2_mul (c := -41) (by decide)] at this
      grind
  obtain ⟨s1, hs1, rs⟩ := far_quo_u e1 hm hD (by grind) (hqdl.imp id fun h => Rat.le_trans (p2_le (by decide)) h) (Rat.le_trans hqd (p2_le (by decide)))
  have sa := Ru.abs rs
  have hN : rabs (N : Rat) ≤ p2 10 := by
    have e : p2 10 = ((1024 : Nat) : Rat) := p2_toNat (e := 10) (by decide)
    have a1 : (N : Rat) ≤ p2 10 := by rw [e, ← Rat.intCast_natCast]; exact Rat.intCast_le_intCast.2 hx.hi
    have a2 : ((-N : Int) : Rat) ≤ p2 10 := by rw [e, ← Rat.intCast_natCast]; exact Rat.intCast_le_intCast.2 (by have := hx.lo; omega)
    rw [Rat.intCast_neg] at a2
    exact rabs_le.2 ⟨by grind, by grind⟩
  have hN1 : N = 0 ∨ (1 : Rat) ≤ rabs (N : Rat) := by
    by_cases h : N = 0
    · exact .inl h
    · exact .inr (int_pos h)
  have s1z : q = 0 → s1 = 0 := by
    rintro rfl
    have : (0 : Rat) / d = 0 := by rw [Rat.div_def]; simp
    rw [this] at rs
    exact rs.zero
  have hsN2 : rabs (s1 * (N : Rat)) ≤ p2 36 := by
    rw [rabs_mul]
    have h1 := mul_le (show rabs s1 ≤ p2 25 by have : p2 25 = p2 24 + p2 24 := p2_half (by decide); grind) (rabs_nonneg (N : Rat))
    have h2 := mul_le_left hN (Rat.le_of_lt (p2_pos 25))
    rw [p2_mul (c := 35) (by decide)] at h2
    have := p2_le (show (35 : Int) ≤ 36 by decide)
    grind
  have hsN : s1 * (N : Rat) = 0 ∨ p2 (-82) ≤ rabs (s1 * (N : Rat)) := by
    rcases hqdl with h | h
    · left; rw [s1z h]; grind
    · rcases hN1 with h2 | h2
      · left; rw [h2]; simp
      · right
        rw [rabs_mul]
        have h3 := mul_le_left h (Rat.le_of_lt (p2_pos (-1)))
        rw [p2_mul (c := -82) (by decide)] at h3
        have h4 := mul_le (show p2 (-82) ≤ rabs s1 by grind) (rabs_nonneg (N : Rat))
        have h5 := mul_le_left h2 (Rat.le_of_lt (p2_pos (-82)))
        grind
  obtain ⟨g, hg, rg⟩ := far_mul_u e2 hs1 hx.fv (hsN.imp id fun h => Rat.le_trans (p2_le (by decide)) h) (Rat.le_trans hsN2 (p2_le (by decide)))
  have rg2 : Ru 4 g (q / d * (N : Rat)) := (rg.trans (Rl.scale rs _)).le (by decide)
  -- the statement's
  have hqN2 : rabs (q * (N : Rat)) ≤ p2 31 := by
    rw [rabs_mul, hqa]
    have h1 := mul_le hq2 (rabs_nonneg (N : Rat))
    have h2 := mul_le_left hN (Rat.le_of_lt (p2_pos 21))
    rw [p2_mul (c := 31) (by decide)] at h2
    grind
  have hqN : q * (N : Rat) = 0 ∨ p2 (-41) ≤ rabs (q * (N : Rat)) := by
    rcases hq with h | h
    · left; rw [h]; grind
    · rcases hN1 with h2 | h2
      · left; rw [h2]; simp
      · right
        rw [rabs_mul, hqa]
        have h4 := mul_le h (rabs_nonneg (N : Rat))
        have h5 := mul_le_left h2 (Rat.le_of_lt (p2_pos (-41)))
        grind
  obtain ⟨t1, ht1, rt⟩ := far_mul_u e3 hm hx.fv (hqN.imp id fun h => Rat.le_trans (p2_le (by decide)) h) (Rat.le_trans hqN2 (p2_le (by decide)))
  have ta := Ru.abs rt
  have t1z : q * (N : Rat) = 0 → t1 = 0 := fun h => by rw [h] at rt; exact rt.zero
  have eqt := rabs_div (a := t1) dp'
  have htd2 : rabs (t1 / d') ≤ p2 35 := by
    refine of_mul_le (c := d') ?_ dp'
    rw [eqt]
    have h1 := mul_le_left d0' (Rat.le_of_lt (p2_pos 35))
    rw [p2_mul (c := 32) (by decide)] at h1
    have : p2 32 = p2 31 + p2 31 := p2_half (by decide)
    grind
  have htd : t1 = 0 ∨ p2 (-82) ≤ rabs (t1 / d') := by
    rcases hqN with h | h
    · exact .inl (t1z h)
    · right
      refine of_mul_le (c := d') ?_ dp'
      rw [eqt]
      have h1 := mul_le_left d1' (Rat.le_of_lt (p2_pos (-82)))
      rw [p2_mul (c := -42) (by decide)] at h1
      have h3 := mul_le_left h (Rat.le_of_lt (p2_pos (-1)))
      rw [p2_mul (c := -42) (by decide)] at h3
      grind
  obtain ⟨u, hu, ru⟩ := far_quo_u e4 ht1 hD' (by grind) (htd.imp id fun h => Rat.le_trans (p2_le (by decide)) h) (Rat.le_trans htd2 (p2_le (by decide)))
  have ru2 : Ru 4 u (q * (N : Rat) / d') := by
    have : Ru 1 (t1 / d') (q * (N : Rat) / d') := by rw [Rat.div_def, Rat.div_def (q * (N : Rat))]; exact Rl.scale rt _
    exact (ru.trans this).le (by decide)
  have e5 : q / d * (N : Rat) = q * (N : Rat) / d := by rw [Rat.div_def, Rat.div_def]; grind
  rw [e5] at rg2
  have r6 := hdd.inv (D := q * (N : Rat)) dp'
  have r7 := (rg2.trans r6).trans ru2.symm
  have ua := Ru.abs ru
  have ga := Ru.abs r7
  have hu2 : rabs u ≤ p2 36 := by have : p2 36 = p2 35 + p2 35 := p2_half (by decide); grind
  refine ⟨g, u, hg, hu, r7.le (by decide), ?_, Rat.le_trans hu2 (p2_le (by decide)), ?_⟩
  · rcases htd with h | h
    · left
      have : t1 / d' = 0 := by rw [h, Rat.div_def]; simp
      rw [this] at ru; exact ru.zero
    · right
      have h3 := mul_le_left h (Rat.le_of_lt (p2_pos (-1)))
      rw [p2_mul (c := -83) (by decide)] at h3
      have := p2_le (show (-90 : Int) ≤ -83 by decide)
      grind
  · have : p2 37 = p2 36 + p2 36 := p2_half (by decide)
    have := p2_le (show (37 : Int) ≤ 100 by decide)
    grind
/-- Nearer than a share of 2^-30. -/
theorem grav_near {v w r y : Nat} {g u : Rat} (hv : Fv v g) (hw : Fv w u) (h : Ru 120 g u) (hu : u = 0 ∨ p2 (-90) ≤ rabs u) (hu2 : rabs u ≤ p2 100) (hg2 : rabs g ≤ p2 100) (e1 : FAr .sub v w r) (e2 : FAr .mul (w % 9223372036854775808) 4472074429978902528 y) :
    fcmp .leq (r % 9223372036854775808) y = true := by
  have f30 : Fv 4472074429978902528 (p2 (-30)) := ⟨false, 4503599627370496, -82, rfl, by
    have e : ((4503599627370496 : Nat) : Rat) = p2 52 := (p2_toNat (e := 52) (by decide)).symm
    have := p2_mul (a := 52) (b := -82) (c := -30) (by decide)
    rw [e]; unfold sgn; grind⟩
  have hsub : rabs (g - u) ≤ p2 101 := by
    have h1 := rabs_add g (-u)
    rw [rabs_neg, show g + -u = g - u by grind] at h1
    have : p2 101 = p2 100 + p2 100 := p2_half (by decide)
    grind
  have l1 := lt1023 (Rat.le_trans hsub (p2_le (by decide)))
  obtain ⟨c, hc, hrd⟩ := far_sub e1 hv hw l1.1 l1.2
  have hp : rabs (rabs u * p2 (-30)) = rabs u * p2 (-30) := rabs_of_nonneg (Rat.mul_nonneg (rabs_nonneg u) (Rat.le_of_lt (p2_pos _)))
  obtain ⟨z, hz, rz⟩ := far_mul_u e2 hw.abs f30 (by
    rcases hu with h | h
    · left; rw [h, rabs_zero]; grind
    · right
      rw [hp]
      have := mul_le h (Rat.le_of_lt (p2_pos (-30)))
      rw [p2_mul (c := -120) (by decide)] at this
      exact Rat.le_trans (p2_le (by decide)) this) (by
    rw [hp]
    have := mul_le hu2 (Rat.le_of_lt (p2_pos (-30)))
    rw [p2_mul (c := 70) (by decide)] at this
    exact Rat.le_trans this (p2_le (by decide)))
  rw [fcmp_leq hc.abs hz]
  refine decide_eq_true ?_
  rcases hu with h0 | h0
  · subst h0
    have hg := h.zero
    subst hg
    rw [show (0 : Rat) - 0 = 0 by grind] at hrd
    have := hrd.exact rep_zero
    subst this
    rw [rabs_zero] at rz ⊢
    rw [show (0 : Rat) * p2 (-30) = 0 by grind] at rz
    rw [rz.zero]; exact Rat.le_refl
  · have h3 := hrd.abs_le
    have hup : 0 < rabs u := by have := p2_pos (-90); grind
    have h4 := ((rz.sign).1 (Rat.mul_pos hup (p2_pos (-30)))).2.1
    -- z is half of it at least
    have e3 : p2 (-1) * (rabs u * p2 (-30)) = rabs u * p2 (-31) := by
      have : p2 (-1) * p2 (-30) = p2 (-31) := p2_mul (by decide)
      rw [← this]; grind
    unfold Ru Rl at h
    have e120 : ((120 : Nat) : Rat) * p2 (-53) ≤ p2 (-46) := by
      have : ((120 : Nat) : Rat) ≤ p2 7 := by rw [p2_toNat (e := 7) (by decide)]; exact_mod_cast (by decide : 120 ≤ 2 ^ 7)
      have := mul_le this (Rat.le_of_lt (p2_pos (-53)))
      rw [p2_mul (c := -46) (by decide)] at this
      exact this
    have h5 := mul_le e120 (rabs_nonneg u)
    have h6 : p2 (-1000) ≤ p2 (-46) * rabs u := by
      have h7 := mul_le_left h0 (Rat.le_of_lt (p2_pos (-46)))
      rw [p2_mul (c := -136) (by decide)] at h7
      exact Rat.le_trans (p2_le (by decide)) h7
    have h8 := mul_le (p2_le (show (-46 : Int) ≤ -35 by decide)) (rabs_nonneg u)
    have h9 : p2 (-31) = p2 (-32) + p2 (-32) := p2_half (by decide)
    have h10 : p2 (-32) = p2 (-33) + p2 (-33) := p2_half (by decide)
    have h11 : p2 (-33) = p2 (-34) + p2 (-34) := p2_half (by decide)
    have h12 : p2 (-34) = p2 (-35) + p2 (-35) := p2_half (by decide)
    generalize p2 (-1000) = zz at *
    rw [e3, h9, h10, h11, h12] at h4
    have A0 : 0 ≤ p2 (-35) * rabs u := Rat.mul_nonneg (Rat.le_of_lt (p2_pos _)) (rabs_nonneg u)
    have h13 : 16 * (p2 (-35) * rabs u) ≤ z := by
      clear hrd hc hz rz hp l1 hsub e3 h9 h10 h11 h12 h0 e120 f30 hu2 hg2 h3 h5 h6 h8 h
      grind
    have h14 := Rat.le_trans h h5
    clear hrd hc hz rz hp l1 hsub e3 h9 h10 h11 h12 h0 e120 f30 hu2 hg2 h4 h h5
    generalize p2 (-46) * rabs u = B at *
    generalize p2 (-35) * rabs u = A at *
    grind
end Go.Lg

set_option linter.unusedVariables false
set_option linter.unusedSimpArgs false
namespace Go.Lg
open Ieee

theorem fb_add {x y : Nat} {a b : Rat} (ha : Fv x a) (hb : Fv y b) : ∃ r, floatBits .add .f64 x y = some r := by
  obtain ⟨s, m, i, hx, rfl⟩ := ha
  obtain ⟨t, n, j, hy, rfl⟩ := hb
  obtain ⟨u, k, hs, hv⟩ := sum_val (s := s) (t := t) (m := m) (n := n) (i := i) (j := j)
  refine ⟨_, show ((double.read x).sum (double.read y)).map double.write = some (double.write (.number u k (min i j))) from ?_⟩
  rw [hx, hy, hs]; rfl
theorem fb_mul {x y : Nat} {a b : Rat} (ha : Fv x a) (hb : Fv y b) : ∃ r, floatBits .mul .f64 x y = some r := by
  obtain ⟨s, m, i, hx, rfl⟩ := ha
  obtain ⟨t, n, j, hy, rfl⟩ := hb
  refine ⟨_, show ((double.read x).product (double.read y)).map double.write = some (double.write (.number (s ^^ t) (m * n) (i + j))) from ?_⟩
  rw [hx, hy]; rfl
theorem fb_quo {x y : Nat} {a b : Rat} (ha : Fv x a) (hb : Fv y b) (hb0 : b ≠ 0) : ∃ r, floatBits .quo .f64 x y = some r := by
  obtain ⟨s, m, i, hx, rfl⟩ := ha
  obtain ⟨t, n, j, hy, rfl⟩ := hb
  have hn0 : n ≠ 0 := by rintro rfl; exact hb0 (by simp)
  have : ∃ r, ((double.read x).quotient (double.fractionBits + 2) (double.read y)).map double.write = some r := by
    rw [hx, hy]
    simp [Datum.quotient, hn0]
  obtain ⟨r, h⟩ := this
  exact ⟨r, h⟩
theorem sqrt_some {x : Nat} {q : Rat} (hx : Fv x q) (hq : 0 < q) : ∃ r, double.sqrt x = some r := by
  obtain ⟨s, m, i, hx, rfl⟩ := hx
  have hm0 : m ≠ 0 := by rintro rfl; simp at hq
  have hmp : (0 : Rat) < (m : Rat) := by exact_mod_cast Nat.pos_of_ne_zero hm0
  have hs : s = false := by
    cases s with
    | false => rfl
    | true => exfalso; have := Rat.mul_pos hmp (p2_pos i); unfold sgn at hq; grind
  subst hs
  have : ∃ r, ((double.read x).root (double.fractionBits + 2)).map double.write = some r := by
    rw [hx]
    simp [Datum.root, hm0]
  obtain ⟨r, h⟩ := this
  exact ⟨r, h⟩
theorem run_arith {P : Program} {w : World} {op : BinOp} {x y r : Nat} (hop : BinOp.isArith op = true) (h : floatBits op .f64 x y = some r) : (Extern.MathAsm.arith op x y).run P w = .ok r w := by
  have h1 : (Op.floatArith op .f64 x y).run P w = .ok (.float .f64 r) w := by
    unfold floatBits at h
    cases op <;> simp only at h <;> first | (cases hop; done) | skip
    all_goals
      unfold Op.floatArith
      refine (sem_run_bind P _ _ w _ w rfl).trans ?_
      rw [h]; rfl
  unfold Extern.MathAsm.arith
  exact (sem_run_bind P _ _ w _ w h1).trans rfl

theorem run_sqrt {P : Program} {w : World} {t q : Nat} (h : double.sqrt t = some q) : (Extern.MathSqrt.sqrt #[.float .f64 t]).run P w = .ok (.float .f64 q) w := by
  have h' : FloatKind.f64.format.sqrt t = some q := h
  show Sem.run P (match FloatKind.f64.format.sqrt t with
    | some r => _
    | none => _) w = _
  rw [h']; rfl
theorem fv_word {x : Nat} {q : Rat} (h : Fv x q) (hx : x < 9223372036854775808) : x < 9218868437227405312 := by
  obtain ⟨s, m, e, hr, _⟩ := h
  rw [read_eq] at hr
  rw [Nat.mod_eq_of_lt hx] at hr
  by_cases c1 : x < 4503599627370496
  · omega
  · rw [if_neg c1] at hr
    by_cases c2 : x < 9218868437227405312
    · exact c2
    · rw [if_neg c2] at hr
      by_cases c3 : x = 9218868437227405312
      · rw [if_pos c3] at hr; cases hr
      · rw [if_neg c3] at hr; cases hr
theorem fv_zero_word {x : Nat} (h : Fv x 0) (hx : x < 9223372036854775808) : x = 0 := by
  obtain ⟨s, m, e, hr, hq⟩ := h
  have hm : m = 0 := by
    rcases Nat.eq_zero_or_pos m with h | h
    · exact h
    · exfalso
      have h1 : (0 : Rat) < (m : Rat) := by exact_mod_cast h
      have h2 := Rat.mul_pos h1 (p2_pos e)
      cases s <;> (unfold sgn at hq; grind)
  rw [read_eq] at hr
  rw [Nat.mod_eq_of_lt hx] at hr
  by_cases c1 : x < 4503599627370496
  · rw [if_pos c1] at hr; cases hr; exact hm
  · rw [if_neg c1] at hr
    by_cases c2 : x < 9218868437227405312
    · rw [if_pos c2] at hr; cases hr; omega
    · rw [if_neg c2] at hr
      by_cases c3 : x = 9218868437227405312
      · rw [if_pos c3] at hr; cases hr
      · rw [if_neg c3] at hr; cases hr

/-- The machine's way: the greater one times the root of one and the square of the quotient. -/
theorem hyp_num {s b : Nat} {small big : Rat} (hs : Fv s small) (hb : Fv b big) (h0 : 0 ≤ small) (h1 : small ≤ big) (h2 : small = 0 ∨ p2 (-100) ≤ small) (h3 : p2 (-100) ≤ big) (h4 : big ≤ p2 100)
    (one : Fv 4607182418800017408 1) :
    ∃ r r2 t w v c, floatBits .quo .f64 s b = some r ∧ floatBits .mul .f64 r r = some r2 ∧ floatBits .add .f64 r2 4607182418800017408 = some t ∧ double.sqrt t = some w ∧ floatBits .mul .f64 w b = some v ∧
      Fv v c ∧ 0 < c ∧ Ru 18 (c * c) (small * small + big * big) := by
  have hb0 : 0 < big := by have := p2_pos (-100); grind
  obtain ⟨r, f1⟩ := fb_quo hs hb (by grind)
  have e1 : FAr .quo s b r := ⟨by rw [f1]⟩
  have hd := rat_div_mul small big (by grind)
  have hq0 : 0 ≤ small / big := of_mul_le (c := big) (by rw [hd]; grind) hb0
  have hq1 : small / big ≤ 1 := of_mul_le (c := big) (by rw [hd]; grind) hb0
  have hql : small = 0 ∨ p2 (-200) ≤ small / big := by
    rcases h2 with h | h
    · exact .inl h
    · right
      refine of_mul_le (c := big) ?_ hb0
      rw [hd]
      have := mul_le_left h4 (Rat.le_of_lt (p2_pos (-200)))
      rw [p2_mul (c := -100) (by decide)] at this
      grind
  have l1000 : (1 : Rat) ≤ p2 1000 := by rw [← p2_zero]; exact p2_le (by decide)
  obtain ⟨c1, hc1, g1⟩ := far_quo_u e1 hs hb (by grind) (by
    rcases hql with h | h
    · exact .inl h
    · right; rw [rabs_of_nonneg hq0]; exact Rat.le_trans (p2_le (by decide)) h) (by rw [rabs_of_nonneg hq0]; exact Rat.le_trans hq1 l1000)
  have hqz : small = 0 → small / big = 0 := by rintro rfl; rw [Rat.div_def]; simp
  have hsum : small * small + big * big = (small / big * (small / big) + 1) * (big * big) := by
    have : small * small = small / big * (small / big) * (big * big) := by
      have : small / big * (small / big) * (big * big) = small / big * big * (small / big * big) := by grind
      rw [this, hd]
    rw [this]; grind
  rw [hsum]
  generalize small / big = q at *
  -- the quotient's float
  have c1b : 0 ≤ c1 ∧ c1 ≤ 2 ∧ (c1 = 0 ∨ p2 (-201) ≤ c1) := by
    rcases hql with h | h
    · have hq := hqz h
      subst hq
      have := g1.zero
      subst this
      exact ⟨Rat.le_refl, by decide, .inl rfl⟩
    · have hqp : 0 < q := by have := p2_pos (-200); grind
      obtain ⟨a1, a2, a3⟩ := g1.sign.1 hqp
      have e : p2 (-1) * p2 (-200) = p2 (-201) := p2_mul (by decide)
      have := mul_le_left h (Rat.le_of_lt (p2_pos (-1)))
      exact ⟨Rat.le_of_lt a1, by grind, .inr (by grind)⟩
  obtain ⟨b1, b2, b3⟩ := c1b
  obtain ⟨r2, f2⟩ := fb_mul hc1 hc1
  have e2 : FAr .mul r r r2 := ⟨by rw [f2]⟩
  have hcc0 := Rat.mul_nonneg b1 b1
  have hcc2 : c1 * c1 ≤ 4 := by have := mul_le b2 b1; grind
  have l4 : (4 : Rat) ≤ p2 1000 := by
    have : (4 : Rat) = p2 2 := by rw [p2_toNat (e := 2) (by decide)]; rfl
    rw [this]; exact p2_le (by decide)
  obtain ⟨c2, hc2, g2⟩ := far_mul_u e2 hc1 hc1 (by
    rcases b3 with h | h
    · left; rw [h]; simp
    · right
      rw [rabs_of_nonneg hcc0]
      have := mul_le h b1
      have := mul_le_left h (Rat.le_of_lt (p2_pos (-201)))
      rw [p2_mul (c := -402) (by decide)] at this
      have := p2_le (show (-1000 : Int) ≤ -402 by decide)
      grind) (by rw [rabs_of_nonneg hcc0]; exact Rat.le_trans hcc2 l4)
  have g3 : Ru 7 c2 (q * q) := (g2.trans (g1.mul g1)).le (by decide)
  have hqq0 := Rat.mul_nonneg hq0 hq0
  have hqq1 : q * q ≤ 1 := by have := mul_le hq1 hq0; grind
  have c2b : 0 ≤ c2 ∧ c2 ≤ 2 := by
    rcases Rat.le_iff_lt_or_eq.1 hqq0 with h | h
    · obtain ⟨a1, a2, a3⟩ := g3.sign.1 h
      exact ⟨Rat.le_of_lt a1, by grind⟩
    · rw [← h] at g3
      have := g3.zero
      subst this
      exact ⟨Rat.le_refl, by decide⟩
  -- one more
  obtain ⟨t, f3⟩ := fb_add hc2 one
  have e3 : FAr .add r2 4607182418800017408 t := ⟨by rw [f3]⟩
  have g4 : Ru 7 (c2 + 1) (q * q + 1) := by
    unfold Ru Rl at g3 ⊢
    rw [rabs_of_nonneg hqq0] at g3
    rw [rabs_of_nonneg (show 0 ≤ q * q + 1 by grind), show c2 + 1 - (q * q + 1) = c2 - q * q by grind]
    have := mul_le_left (show q * q ≤ q * q + 1 by grind) (u_pos 7)
    exact Rat.le_trans g3 this
  have l3 : (3 : Rat) ≤ p2 1000 := by grind
  have lm : p2 (-1000) ≤ 1 := by rw [← p2_zero]; exact p2_le (by decide)
  obtain ⟨c3, hc3, g5⟩ := far_add_u e3 hc2 one (.inr (by rw [rabs_of_nonneg (by grind)]; grind)) (by rw [rabs_of_nonneg (by grind)]; grind)
  have g6 : Ru 9 c3 (q * q + 1) := (g5.trans g4).le (by decide)
  obtain ⟨a1, a2, a3⟩ := g6.sign.1 (show 0 < q * q + 1 by grind)
  have lm2 : p2 (-1000) ≤ c3 := by
    have h1 := mul_le_left (show (1 : Rat) ≤ q * q + 1 by grind) (Rat.le_of_lt (p2_pos (-1)))
    have h2 := p2_le (show (-1000 : Int) ≤ -1 by decide)
    grind
  obtain ⟨w, f4⟩ := sqrt_some hc3 a1
  have e4 : SqrtR t w := fun w' h => by rw [f4] at h; injection h
  obtain ⟨c4, hc4, p4, g7⟩ := sqrt_u e4 hc3 a1 lm2 (by grind)
  have g8 : Ru 14 (c4 * c4) (q * q + 1) := (g7.trans g6).le (by decide)
  obtain ⟨k1, k2, k3⟩ := g8.sign.1 (show 0 < q * q + 1 by grind)
  have c4u : c4 ≤ 4 := by
    rcases (Rat.le_total : c4 ≤ 4 ∨ 4 ≤ c4) with h | h
    · exact h
    · have := mul_le h (Rat.le_of_lt p4); grind
  have c4l : p2 (-1) ≤ c4 := by
    rcases (Rat.le_total : p2 (-1) ≤ c4 ∨ c4 ≤ p2 (-1)) with h | h
    · exact h
    · have h1 := mul_le h (Rat.le_of_lt p4)
      have h2 := mul_le_left h (Rat.le_of_lt (p2_pos (-1)))
      have h3 := mul_le_left (show (1 : Rat) ≤ q * q + 1 by grind) (Rat.le_of_lt (p2_pos (-1)))
      have h4 : p2 (-1) * p2 (-1) = p2 (-2) := p2_mul (by decide)
      have h5 : p2 (-1) = p2 (-2) + p2 (-2) := p2_half (by decide)
      have := p2_pos (-2)
      exfalso; grind
  have hpb := Rat.mul_pos p4 hb0
  obtain ⟨v, f5⟩ := fb_mul hc4 hb
  have e5 : FAr .mul w b v := ⟨by rw [f5]⟩
  obtain ⟨c5, hc5, g9⟩ := far_mul_u e5 hc4 hb (.inr (by
    rw [rabs_of_nonneg (Rat.le_of_lt hpb)]
    have h1 := mul_le c4l (Rat.le_of_lt hb0)
    have h2 := mul_le_left h3 (Rat.le_of_lt (p2_pos (-1)))
    rw [p2_mul (c := -101) (by decide)] at h2
    have h3 := p2_le (show (-1000 : Int) ≤ -101 by decide)
    grind)) (by
    rw [rabs_of_nonneg (Rat.le_of_lt hpb)]
    have h1 := mul_le c4u (Rat.le_of_lt hb0)
    have h2 : (4 : Rat) * p2 100 = p2 102 := by
      have : (4 : Rat) = p2 2 := by rw [p2_toNat (e := 2) (by decide)]; rfl
      rw [this]; exact p2_mul (by decide)
    have h3 := p2_le (show (102 : Int) ≤ 1000 by decide)
    grind)
  have p5 := (g9.sign.1 hpb).1
  refine ⟨r, r2, t, w, v, c5, f1, f2, f3, f4, f5, hc5, p5, ?_⟩
  have g10 := g9.mul g9
  have e : c4 * big * (c4 * big) = c4 * c4 * (big * big) := by grind
  rw [e] at g10
  have g11 : Ru 14 (c4 * c4 * (big * big)) ((q * q + 1) * (big * big)) := Rl.scale g8 _
  exact (g10.trans g11).le (by decide)

theorem does_hypot {P : Program} {f : FuncId} {fn : Func} {H : Heap} {x y : Nat} {a b : Rat}
    (hf : P.funcs[f]? = some fn) (hn : (fn.name == "runtime.NumGoroutine") = false) (hbd : fn.body.isNone = true) (h1 : (Extern.findNext fn).isNone = true)
    (h2 : Extern.find fn = some Extern.MathHypot.archHypot) (hx : Fv x a) (hy : Fv y b) (ha : a = 0 ∨ p2 (-100) ≤ rabs a) (hb : b = 0 ∨ p2 (-100) ≤ rabs b) (ha2 : rabs a ≤ p2 100) (hb2 : rabs b ≤ p2 100) (one : Fv 4607182418800017408 1) :
    Does P f [.float .f64 x, .float .f64 y] H fun v H' => (∃ r c, v = .float .f64 r ∧ Fv r c ∧ 0 ≤ c ∧ Ru 18 (c * c) (a * a + b * b)) ∧ H' = H := by
  refine does_extern hf hn hbd h1 h2 fun W w hs => ?_
  have hxa := hx.abs
  have hyb := hy.abs
  have hxl : x % 2 ^ 63 < 9223372036854775808 := Nat.mod_lt _ (by decide)
  have hyl : y % 2 ^ 63 < 9223372036854775808 := Nat.mod_lt _ (by decide)
  have hxw := fv_word hxa hxl
  have hyw := fv_word hyb hyl
  have sq : ∀ q : Rat, q * q = rabs q * rabs q := fun q => by rcases rabs_cases q with h | h <;> rw [h] <;> grind
  rw [sq a, sq b]
  have na := rabs_nonneg a
  have nb := rabs_nonneg b
  have ha' : rabs a = 0 ∨ p2 (-100) ≤ rabs a := by rcases ha with h | h; (left; rw [h]; exact rabs_zero); exact .inr h
  have hb' : rabs b = 0 ∨ p2 (-100) ≤ rabs b := by rcases hb with h | h; (left; rw [h]; exact rabs_zero); exact .inr h
  have hinf : Extern.MathAsm.posInf = 9218868437227405312 := rfl
  have c1 : (x % 2 ^ 63 == Extern.MathAsm.posInf || y % 2 ^ 63 == Extern.MathAsm.posInf) = false := by
    rw [hinf, Bool.or_eq_false_iff, beq_eq_false_iff_ne, beq_eq_false_iff_ne]; exact ⟨by omega, by omega⟩
  have c2 : (decide (x % 2 ^ 63 > Extern.MathAsm.posInf) || decide (y % 2 ^ 63 > Extern.MathAsm.posInf)) = false := by
    rw [hinf, Bool.or_eq_false_iff, decide_eq_false_iff_not, decide_eq_false_iff_not]; exact ⟨by omega, by omega⟩
  show ∃ v w', Sem.run P (ite _ _ _) w = .ok v w' ∧ _
  rw [if_neg (by rw [c1]; decide)]
  show ∃ v w', Sem.run P (ite _ _ _) w = .ok v w' ∧ _
  rw [if_neg (by rw [c2]; decide)]
  show ∃ v w', Sem.run P (ite _ _ _) w = .ok v w' ∧ _
  by_cases hz : (x % 2 ^ 63 == 0 && y % 2 ^ 63 == 0) = true
  · rw [if_pos hz]
    simp only [Bool.and_eq_true, beq_iff_eq] at hz
    rw [show x % 9223372036854775808 = 0 from hz.1] at hxa
    rw [show y % 9223372036854775808 = 0 from hz.2] at hyb
    have z0 : Fv 0 (0 : Rat) := ⟨false, 0, -1074, rfl, by simp⟩
    have ea := hxa.uniq z0
    have eb := hyb.uniq z0
    refine ⟨_, w, rfl, hs, ⟨0, 0, rfl, z0, Rat.le_refl, ?_⟩, rfl⟩
    rw [ea, eb]
    have : (0 : Rat) * 0 = 0 * 0 + 0 * 0 := by grind
    rw [← this]
    exact (Ru.refl _).le (by decide)
  · rw [if_neg hz]
    have hord := order_val hxa hyb
    have hne : ¬ (rabs a = 0 ∧ rabs b = 0) := by
      rintro ⟨h1, h2⟩
      rw [h1] at hxa
      rw [h2] at hyb
      apply hz
      rw [Bool.and_eq_true, beq_iff_eq, beq_iff_eq]
      exact ⟨fv_zero_word hxa hxl, fv_zero_word hyb hyl⟩
    have hp := p2_pos (-100)
    by_cases hlt : rabs a < rabs b
    · have hl : Extern.MathAsm.lt (x % 2 ^ 63) (y % 2 ^ 63) = true := by
        show (double.order (x % 9223372036854775808) (y % 9223372036854775808) == some .lt) = true
        rw [hord, if_pos hlt]; rfl
      rw [hl]
      obtain ⟨r, r2, t, q, v, c, f1, f2, f3, f4, f5, g1, g2, g3⟩ := hyp_num hxa hyb na (Rat.le_of_lt hlt) ha' (by rcases hb' with h | h; (exfalso; grind); exact h) hb2 one
      refine ⟨.float .f64 v, w, ?_, hs, ⟨v, c, rfl, g1, Rat.le_of_lt g2, g3⟩, rfl⟩
      have hsq : (Extern.MathSqrt.sqrt #[.float .f64 t]).run P w = .ok (.float .f64 q) w := run_sqrt f4
      refine (sem_run_bind P _ _ w _ w (run_arith rfl f1)).trans ?_
      refine (sem_run_bind P _ _ w _ w (run_arith rfl f2)).trans ?_
      refine (sem_run_bind P _ _ w _ w (run_arith rfl f3)).trans ?_
      refine (sem_run_bind P _ _ w _ w hsq).trans ?_
      exact (sem_run_bind P _ _ w _ w (run_arith rfl f5)).trans rfl
    · have hl : Extern.MathAsm.lt (x % 2 ^ 63) (y % 2 ^ 63) = false := by
        show (double.order (x % 9223372036854775808) (y % 9223372036854775808) == some .lt) = false
        rw [hord, if_neg hlt]; split <;> rfl
      rw [hl]
      have hge : rabs b ≤ rabs a := by grind
      obtain ⟨r, r2, t, q, v, c, f1, f2, f3, f4, f5, g1, g2, g3⟩ := hyp_num hyb hxa nb hge hb' (by rcases ha' with h | h; (exfalso; apply hne; grind); exact h) ha2 one
      refine ⟨.float .f64 v, w, ?_, hs, ⟨v, c, rfl, g1, Rat.le_of_lt g2, by rw [Rat.add_comm]; exact g3⟩, rfl⟩
      have hsq : (Extern.MathSqrt.sqrt #[.float .f64 t]).run P w = .ok (.float .f64 q) w := run_sqrt f4
      refine (sem_run_bind P _ _ w _ w (run_arith rfl f1)).trans ?_
      refine (sem_run_bind P _ _ w _ w (run_arith rfl f2)).trans ?_
      refine (sem_run_bind P _ _ w _ w (run_arith rfl f3)).trans ?_
      refine (sem_run_bind P _ _ w _ w hsq).trans ?_
      exact (sem_run_bind P _ _ w _ w (run_arith rfl f5)).trans rfl
end Go.Lg

set_option linter.unusedVariables false
set_option linter.unusedSimpArgs false
namespace Go.Lg
open Ieee

theorem fop_ex : ∃ f : BinOp → Nat → Nat → Nat, ∀ op x y, f op x y = (floatBits op .f64 x y).getD 0 := ⟨fun op x y => (floatBits op .f64 x y).getD 0, fun _ _ _ => rfl⟩
/-- The result of a float operation, its make kept shut. -/
noncomputable def fop : BinOp → Nat → Nat → Nat := Classical.choose fop_ex
theorem fop_def (op : BinOp) (x y : Nat) : fop op x y = (floatBits op .f64 x y).getD 0 := Classical.choose_spec fop_ex op x y
theorem FAr.fop_of {op : BinOp} {x y r : Nat} (h : FAr op x y r) (hs : ∃ r0, floatBits op .f64 x y = some r0) : r = fop op x y := by
  obtain ⟨r0, h0⟩ := hs
  have := h.ok
  rw [h0] at this
  rw [fop_def, h0]; exact this
theorem fb_sub {x y : Nat} {a b : Rat} (ha : Fv x a) (hb : Fv y b) : ∃ r, floatBits .sub .f64 x y = some r := by
  obtain ⟨s, m, i, hx, rfl⟩ := ha
  obtain ⟨t, n, j, hy, rfl⟩ := hb
  obtain ⟨u, k, hs, hv⟩ := sum_val (s := s) (t := !t) (m := m) (n := n) (i := i) (j := j)
  refine ⟨_, show ((double.read x).sum (double.read y).opposite).map double.write = some (double.write (.number u k (min i j))) from ?_⟩
  rw [hx, hy]
  show (Datum.sum (.number s m i) (.number (!t) n j)).map double.write = _
  rw [hs]; rfl
/-- A finite float of size at most 2 ^ B. -/
def Bd (B : Int) (x : Nat) : Prop := ∃ q, Fv x q ∧ rabs q ≤ p2 B
theorem Bd.le {A B : Int} {x : Nat} (h : Bd A x) (hAB : A ≤ B) : Bd B x := let ⟨q, h1, h2⟩ := h; ⟨q, h1, Rat.le_trans h2 (p2_le hAB)⟩
theorem Bd.add {A : Int} {x y r : Nat} (hx : Bd A x) (hy : Bd A y) (h : FAr .add x y r) (h1 : -900 ≤ A) (h2 : A ≤ 900) : Bd (A + 3) r ∧ r = fop .add x y := by
  obtain ⟨a, fa, ba⟩ := hx
  obtain ⟨b, fb, bb⟩ := hy
  refine ⟨?_, h.fop_of (fb_add fa fb)⟩
  have e1 := rabs_add a b
  have e2 : p2 (A + 1) = p2 A + p2 A := p2_half rfl
  have e3 : p2 (A + 2) = p2 (A + 1) + p2 (A + 1) := p2_half (by omega)
  have e4 : p2 (A + 3) = p2 (A + 2) + p2 (A + 2) := p2_half (by omega)
  have e5 := p2_lt (show A + 1 < 1023 by omega)
  have e6 := p2_le (show -1000 ≤ A by omega)
  have e7 := p2_pos A
  have l := le_rabs (a + b)
  obtain ⟨c, hc, hr⟩ := far_add h fa fb (by generalize p2 1023 = z at *; clear h fa fb; grind) (by generalize p2 1023 = z at *; clear h fa fb; grind)
  have e8 := hr.abs_le
  refine ⟨c, hc, ?_⟩
  generalize p2 (-1000) = y at *
  clear hr hc h fa fb e5
  grind
theorem Bd.sub {A : Int} {x y r : Nat} (hx : Bd A x) (hy : Bd A y) (h : FAr .sub x y r) (h1 : -900 ≤ A) (h2 : A ≤ 900) : Bd (A + 3) r ∧ r = fop .sub x y := by
  obtain ⟨a, fa, ba⟩ := hx
  obtain ⟨b, fb, bb⟩ := hy
  refine ⟨?_, h.fop_of (fb_sub fa fb)⟩
  have e1 := rabs_add a (-b)
  rw [rabs_neg, ← Rat.sub_eq_add_neg] at e1
  have e2 : p2 (A + 1) = p2 A + p2 A := p2_half rfl
  have e3 : p2 (A + 2) = p2 (A + 1) + p2 (A + 1) := p2_half (by omega)
  have e4 : p2 (A + 3) = p2 (A + 2) + p2 (A + 2) := p2_half (by omega)
  have e5 := p2_lt (show A + 1 < 1023 by omega)
  have e6 := p2_le (show -1000 ≤ A by omega)
  have e7 := p2_pos A
  have l := le_rabs (a - b)
  obtain ⟨c, hc, hr⟩ := far_sub h fa fb (by generalize p2 1023 = z at *; clear h fa fb; grind) (by generalize p2 1023 = z at *; clear h fa fb; grind)
  have e8 := hr.abs_le
  refine ⟨c, hc, ?_⟩
  generalize p2 (-1000) = y at *
  clear hr hc h fa fb e5
  grind
theorem Bd.mul {A B : Int} {x y r : Nat} (hx : Bd A x) (hy : Bd B y) (h : FAr .mul x y r) (h1 : -900 ≤ A + B) (h2 : A + B ≤ 900) : Bd (A + B + 2) r ∧ r = fop .mul x y := by
  obtain ⟨a, fa, ba⟩ := hx
  obtain ⟨b, fb, bb⟩ := hy
  refine ⟨?_, h.fop_of (fb_mul fa fb)⟩
  have e0 : rabs (a * b) ≤ p2 (A + B) := by
    rw [rabs_mul, p2_add]
    exact Rat.le_trans (mul_le ba (rabs_nonneg b)) (mul_le_left bb (Rat.le_of_lt (p2_pos A)))
  have e2 : p2 (A + B + 1) = p2 (A + B) + p2 (A + B) := p2_half rfl
  have e3 : p2 (A + B + 2) = p2 (A + B + 1) + p2 (A + B + 1) := p2_half (by omega)
  have e5 := p2_lt (show A + B < 1023 by omega)
  have e6 := p2_le (show -1000 ≤ A + B by omega)
  have e7 := p2_pos (A + B)
  have l := le_rabs (a * b)
  obtain ⟨c, hc, hr⟩ := far_mul h fa fb (by generalize p2 1023 = z at *; clear h fa fb; grind) (by generalize p2 1023 = z at *; clear h fa fb; grind)
  have e8 := hr.abs_le
  refine ⟨c, hc, ?_⟩
  generalize p2 (-1000) = y at *
  clear hr hc h fa fb e5
  grind
theorem FI.bd {B : Nat} {x : Nat} {n : Int} (h : FI B x n) {A : Nat} (hA : B ≤ 2 ^ A) : Bd (A : Int) x := by
  refine ⟨(n : Rat), h.fv, ?_⟩
  rw [p2_nat]
  have h1 := h.lo
  have h2 := h.hi
  rw [rabs_le, ← Rat.intCast_natCast]
  constructor
  · rw [← Rat.intCast_neg]; exact Rat.intCast_le_intCast.2 (by omega)
  · exact Rat.intCast_le_intCast.2 (by omega)
/-- A quotient of whole numbers. -/
theorem FI.quo_bd {A B : Nat} {x y r : Nat} {n m : Int} (hx : FI A x n) (hy : FI B y m) (h : FAr .quo x y r) (hm : m ≠ 0) (hB : B ≤ 9007199254740992) {C : Nat} (hC : A ≤ 2 ^ C) (hC2 : C ≤ 53) : Bd ((C : Int) + 1) r ∧ r = fop .quo x y := by
  have hm0 : ((m : Int) : Rat) ≠ 0 := by exact_mod_cast hm
  refine ⟨?_, h.fop_of (fb_quo hx.fv hy.fv hm0)⟩
  by_cases hn : n = 0
  · subst hn
    exact ⟨0, far_quo_zero h (by simpa using hx.fv) hy.fv hm0, by rw [rabs_zero]; exact Rat.le_of_lt (p2_pos _)⟩
  have hn0 : ((n : Int) : Rat) ≠ 0 := by exact_mod_cast hn
  obtain ⟨q, fq, bq⟩ := hx.bd hC
  have hqn := fq.uniq hx.fv
  subst hqn
  have i1 := int_pos hm
  have i2 := int_pos hn
  have d := rat_div_mul (n : Rat) (m : Rat) hm0
  have d2 : rabs ((n : Rat) / m) * rabs (m : Rat) = rabs (n : Rat) := by rw [← rabs_mul, d]
  have z := rabs_nonneg ((n : Rat) / m)
  have le1 : rabs ((n : Rat) / m) ≤ rabs (n : Rat) := by
    have := mul_le_left i1 z
    rw [d2] at this; grind
  have hmb : rabs (m : Rat) ≤ p2 53 := by
    have h1 := hy.lo
    have h2 := hy.hi
    rw [rabs_le]
    have h3 := int_le_p2 (n := m) (by omega)
    have h4 := int_le_p2 (n := -m) (by omega)
    rw [Rat.intCast_neg] at h4
    grind
  have ge1 : p2 (-1000) ≤ rabs ((n : Rat) / m) := by
    have := mul_le_left hmb z
    rw [d2] at this
    have h5 : 1 ≤ rabs ((n : Rat) / m) * p2 53 := Rat.le_trans i2 this
    have h6 := mul_le h5 (Rat.le_of_lt (p2_pos (-53)))
    rw [Rat.mul_assoc, p2_mul (c := 0) (by decide), p2_zero] at h6
    have h7 := p2_le (show (-1000 : Int) ≤ -53 by decide)
    grind
  have hp := p2_le (show (C : Int) ≤ 1000 by omega)
  obtain ⟨c, hc, hr⟩ := far_quo h hx.fv hy.fv hn0 hm0 ge1 (by grind)
  refine ⟨c, hc, ?_⟩
  have hr' := hr
  unfold Rl at hr'
  have e1 := rabs_add (c - (n : Rat) / m) ((n : Rat) / m)
  rw [show c - (n : Rat) / m + (n : Rat) / m = c by grind] at e1
  have e2 := mul_le (show p2 (-52) ≤ 1 by rw [← p2_zero]; exact p2_le (by decide)) z
  have e3 : p2 ((C : Int) + 1) = p2 C + p2 C := p2_half rfl
  generalize p2 (-52) * rabs ((n : Rat) / m) = w at *
  generalize rabs ((n : Rat) / m) = v at *
  grind
/-- The operation has a result. -/
def FB (op : BinOp) (x y : Nat) : Prop := ∃ r0, floatBits op .f64 x y = some r0
theorem far_fop {op : BinOp} {x y : Nat} (h : FB op x y) : FAr op x y (fop op x y) := by
  obtain ⟨r0, h0⟩ := h
  refine ⟨?_⟩
  rw [h0, fop_def, h0]; rfl
theorem Bd.fv {A : Int} {x : Nat} (h : Bd A x) : ∃ q, Fv x q := let ⟨q, h, _⟩ := h; ⟨q, h⟩
theorem Bd.addF {A : Int} {x y : Nat} (hx : Bd A x) (hy : Bd A y) (h1 : -900 ≤ A) (h2 : A ≤ 900) : FB .add x y ∧ Bd (A + 3) (fop .add x y) :=
  have h : FB .add x y := fb_add hx.fv.choose_spec hy.fv.choose_spec
  ⟨h, (hx.add hy (far_fop h) h1 h2).1⟩
theorem Bd.subF {A : Int} {x y : Nat} (hx : Bd A x) (hy : Bd A y) (h1 : -900 ≤ A) (h2 : A ≤ 900) : FB .sub x y ∧ Bd (A + 3) (fop .sub x y) :=
  have h : FB .sub x y := fb_sub hx.fv.choose_spec hy.fv.choose_spec
  ⟨h, (hx.sub hy (far_fop h) h1 h2).1⟩
theorem Bd.mulF {A B : Int} {x y : Nat} (hx : Bd A x) (hy : Bd B y) (h1 : -900 ≤ A + B) (h2 : A + B ≤ 900) : FB .mul x y ∧ Bd (A + B + 2) (fop .mul x y) :=
  have h : FB .mul x y := fb_mul hx.fv.choose_spec hy.fv.choose_spec
  ⟨h, (hx.mul hy (far_fop h) h1 h2).1⟩
theorem FI.subF {A B C x y : Nat} {a b : Int} (h1 : FI A x a) (h2 : FI B y b) (hC : A + B = C ∧ C ≤ 9007199254740992) : FB .sub x y ∧ FI C (fop .sub x y) (a - b) :=
  have h : FB .sub x y := fb_sub h1.fv h2.fv
  ⟨h, h1.sub h2 hC (far_fop h)⟩
theorem FI.addF {A B C x y : Nat} {a b : Int} (h1 : FI A x a) (h2 : FI B y b) (hC : A + B = C ∧ C ≤ 9007199254740992) : FB .add x y ∧ FI C (fop .add x y) (a + b) :=
  have h : FB .add x y := fb_add h1.fv h2.fv
  ⟨h, h1.add h2 hC (far_fop h)⟩
theorem FI.mulF {A B C x y : Nat} {a b : Int} (h1 : FI A x a) (h2 : FI B y b) (hC : A * B = C ∧ C ≤ 9007199254740992) : FB .mul x y ∧ FI C (fop .mul x y) (a * b) :=
  have h : FB .mul x y := fb_mul h1.fv h2.fv
  ⟨h, h1.mul h2 hC (far_fop h)⟩
section
variable {P : Program} {W : World} {n : Nat} {ds : List Deferred} {E : Env} {G : Heap} {K : Value → Heap → Prop}
variable {dst : Option Tmp} {ty : TypeId} {pos : String} {af : Array Edge} {g : Option (Nat × Bool)}
/-- A float operation that has a result. -/
theorem op_farithF {op t t2 x y u v} (hk : K (.float .f64 (fop op u v)) G) (hc : BinOp.isArith op = true := by exact rfl) (hx : evalE E x = some (.float .f64 u) := by exact rfl) (hy : evalE E y = some (.float .f64 v) := by exact rfl) (hfb : FB op u v := by assumption) : OpT P W n ds ⟨dst, .binOp op t x y t2, ty, pos, af, g⟩ E G K :=
  op_farith (fun r h => by rw [h.fop_of hfb]; exact hk) hc hx hy
end
/-- The square of a number with the other sign. -/
theorem fop_neg_sq {x : Nat} {q : Rat} (h : Fv x q) : fop .mul (Op.negFloat .f64 x) (Op.negFloat .f64 x) = fop .mul x x := by
  obtain ⟨s, m, e, hr, _⟩ := h
  have hn := neg_read hr
  rw [fop_def, fop_def]
  have e1 : ∀ y t, double.read y = .number t m e → floatBits .mul .f64 y y = some (double.write (.number (t ^^ t) (m * m) (e + e))) := by
    intro y t hy
    show ((double.read y).product (double.read y)).map double.write = _
    rw [hy]; rfl
  rw [e1 _ _ hr, e1 _ _ hn]
  cases s <;> rfl
end Go.Lg

set_option linter.unusedVariables false
set_option linter.unusedSimpArgs false
namespace Go.Lg
open Ieee

theorem rabs_int (k : Int) : rabs (k : Rat) = ((k.natAbs : Nat) : Rat) := by
  unfold rabs
  split
  · rename_i h
    have : k < 0 := by exact_mod_cast h
    rw [← Rat.intCast_neg, ← Rat.intCast_natCast]; congr 1; omega
  · rename_i h
    have : ¬ k < 0 := by intro h'; exact h (by exact_mod_cast h')
    rw [← Rat.intCast_natCast]; congr 1; omega
/-- A whole quotient is exact. -/
theorem far_quo_exact {x y r : Nat} {a b : Rat} {k : Int} (h : FAr .quo x y r) (ha : Fv x a) (hb : Fv y b) (ha0 : a ≠ 0) (hb0 : b ≠ 0) (hk : a / b = (k : Rat)) (h1 : -9007199254740992 < k) (h2 : k < 9007199254740992) : Fv r (k : Rat) := by
  obtain ⟨s, m, i, hx, rfl⟩ := ha
  obtain ⟨t, n, j, hy, rfl⟩ := hb
  have hn0 : n ≠ 0 := by rintro rfl; exact hb0 (by simp)
  have hm0 : m ≠ 0 := by rintro rfl; exact ha0 (by simp)
  have hnp : (0 : Rat) < (n : Rat) := by exact_mod_cast Nat.pos_of_ne_zero hn0
  obtain ⟨more, hmore⟩ : ∃ more, more = double.fractionBits + 2 + n.log2 - m.log2 := ⟨_, rfl⟩
  have hf : floatBits .quo .f64 x y = some (double.write (.number (s ^^ t) (2 * ((m <<< more) / n) + ((m <<< more) % n != 0).toNat) (i - j - more - 1))) := by
    show ((double.read x).quotient (double.fractionBits + 2) (double.read y)).map double.write = _
    rw [hx, hy]
    simp only [Datum.quotient, if_neg hn0, ← hmore]
    rfl
  have h := h.ok; rw [hf] at h; subst h
  have hD : 2 ^ 53 * n ≤ m <<< more := by
    rw [Nat.shiftLeft_eq]
    have h1 : 2 ^ m.log2 ≤ m := Nat.log2_self_le hm0
    have h2 : n < 2 ^ (n.log2 + 1) := Nat.lt_log2_self
    have h3 : 53 + (n.log2 + 1) ≤ m.log2 + more := by
      have : double.fractionBits = 52 := rfl
      rw [this] at hmore; omega
    calc 2 ^ 53 * n ≤ 2 ^ 53 * 2 ^ (n.log2 + 1) := Nat.mul_le_mul_left _ (Nat.le_of_lt h2)
      _ = 2 ^ (53 + (n.log2 + 1)) := by rw [← Nat.pow_add]
      _ ≤ 2 ^ (m.log2 + more) := Nat.pow_le_pow_right (by decide) h3
      _ = 2 ^ m.log2 * 2 ^ more := Nat.pow_add ..
      _ ≤ m * 2 ^ more := Nat.mul_le_mul_right _ h1
  have hDv : ((m <<< more : Nat) : Rat) = (m : Rat) * p2 (more : Int) := by rw [Nat.shiftLeft_eq, Rat.natCast_mul, p2_nat]
  generalize hDD : m <<< more = D at *
  have hz2 : (p2 53) ≤ (D : Rat) / (n : Rat) := by
    refine of_mul_le (c := (n : Rat)) ?_ hnp
    rw [rat_div_mul _ _ (by grind), p2_toNat (by decide), ← Rat.natCast_mul]
    exact_mod_cast hD
  have hq : sgn s * (m : Rat) * p2 i / (sgn t * (n : Rat) * p2 j) = sgn (s ^^ t) * ((D : Rat) / (n : Rat)) * p2 (i - j - more) := by
    refine rat_div_eq hb0 ?_
    have e1 : (D : Rat) / (n : Rat) * (n : Rat) = (D : Rat) := rat_div_mul _ _ (by grind)
    have e2 : p2 (i - j - more) * p2 j * p2 more = p2 i := by rw [p2_mul (c := i - more) (by omega), p2_mul (c := i) (by omega)]
    have e3 : sgn (s ^^ t) * sgn t = sgn s := by cases s <;> cases t <;> (simp only [sgn, Bool.xor_true, Bool.xor_false, Bool.not_true, Bool.not_false]; grind)
    rw [← e2, ← e3]
    have : sgn (s ^^ t) * ((D : Rat) / (n : Rat)) * p2 (i - j - more) * (sgn t * (n : Rat) * p2 j) = sgn (s ^^ t) * sgn t * ((D : Rat) / (n : Rat) * (n : Rat)) * (p2 (i - j - more) * p2 j) := by grind
    rw [this, e1, hDv]; grind
  rw [hk] at hq
  have hun : (D : Rat) / (n : Rat) * (n : Rat) = (D : Rat) := rat_div_mul _ _ (by grind)
  clear hk hmore hDv hf hDD
  generalize hu : (D : Rat) / (n : Rat) = u at *
  have hu0 : 0 ≤ u := by have := p2_pos 53; grind
  generalize (s ^^ t) = st at *
  obtain ⟨e, he⟩ : ∃ e, e = i - j - more := ⟨_, rfl⟩
  rw [← he] at hq ⊢
  have hep := p2_pos e
  have hK : u * p2 e = ((k.natAbs : Nat) : Rat) := by
    have := congrArg rabs hq
    rw [rabs_int, rabs_mul, rabs_mul, rabs_sgn, rabs_of_nonneg hu0, rabs_of_nonneg (Rat.le_of_lt hep)] at this
    rw [this]; grind
  obtain ⟨K, hKe⟩ : ∃ K, K = k.natAbs := ⟨_, rfl⟩
  rw [← hKe] at hK
  have hKb : K < 2 ^ 53 := by omega
  have e0 : e < 0 := by
    rcases Int.lt_or_le e 0 with h | h
    · exact h
    · exfalso
      have a1 : (1 : Rat) ≤ p2 e := by rw [← p2_zero]; exact p2_le h
      have a2 := mul_le_left a1 hu0
      rw [hK, p2_toNat (e := 53) (by decide)] at *
      have a3 : ((2 ^ (53 : Int).toNat : Nat) : Rat) ≤ (K : Rat) := by grind
      have : 2 ^ (53 : Int).toNat ≤ K := by exact_mod_cast a3
      have e : (53 : Int).toNat = 53 := rfl
      rw [e] at this; omega
  obtain ⟨w, hw⟩ : ∃ w : Nat, (w : Int) = -e := ⟨(-e).toNat, by omega⟩
  have hpw : p2 e * p2 (w : Int) = 1 := by rw [p2_mul (c := 0) (by omega), p2_zero]
  have hu2 : u = ((K * 2 ^ w : Nat) : Rat) := by
    rw [Rat.natCast_mul, ← p2_nat, ← hK, Rat.mul_assoc, hpw, Rat.mul_one]
  have hDn : D = K * 2 ^ w * n := by
    rw [hu2, ← Rat.natCast_mul] at hun
    exact_mod_cast hun.symm
  have hnpos := Nat.pos_of_ne_zero hn0
  have hz : 2 * (D / n) + (D % n != 0).toNat = 2 * (K * 2 ^ w) := by
    rw [hDn, Nat.mul_div_cancel _ hnpos, Nat.mul_mod_left]; simp
  rw [hz]
  have hv : sgn st * ((2 * (K * 2 ^ w) : Nat) : Rat) * p2 (e - 1) = (k : Rat) := by
    have h3 : p2 e = p2 (e - 1) + p2 (e - 1) := p2_half (by omega)
    rw [hq, Rat.natCast_mul, ← hu2, h3]
    have : ((2 : Nat) : Rat) = 2 := rfl
    rw [this]; grind
  have hb1 : (k : Rat) < p2 1023 := by
    have := int_le_p2 (n := k) (by omega)
    have := p2_lt (show (53 : Int) < 1023 by decide)
    grind
  have hb2 : -(k : Rat) < p2 1023 := by
    have := int_le_p2 (n := -k) (by omega)
    have := p2_lt (show (53 : Int) < 1023 by decide)
    rw [Rat.intCast_neg] at *
    grind
  obtain ⟨c, hc, hr⟩ := write_rnd (s := st) (m := 2 * (K * 2 ^ w)) (e := e - 1) (by rw [hv]; exact hb1) (by rw [hv]; exact hb2)
  rw [hv] at hr
  rw [hr.exact (rep_int (by omega) (by omega))] at hc
  exact hc

theorem down_cut (n d K : Nat) (h1 : K * 2 ^ d ≤ n) (h2 : n < (K + 1) * 2 ^ d) : Toward.cut .down false n d = K := by
  unfold Toward.cut
  simp only [Bool.false_and, Bool.toNat_false, Nat.add_zero]
  by_cases hc : d ≤ n.log2 + 2
  · rw [Nat.min_eq_left hc, Nat.one_shiftLeft]
    exact (Nat.div_eq_iff (Nat.two_pow_pos _)).2 (by rw [Nat.add_mul] at h2; omega)
  · rw [Nat.min_eq_right (by omega), Nat.one_shiftLeft]
    have hn := Nat.lt_log2_self (n := n)
    have e : 2 ^ (n.log2 + 2) = 2 * 2 ^ (n.log2 + 1) := by rw [Nat.pow_succ, Nat.mul_comm]
    have hle : 2 ^ (n.log2 + 2) ≤ 2 ^ d := Nat.pow_le_pow_right (by decide) (by omega)
    have hK : K = 0 := by
      rcases Nat.eq_zero_or_pos K with h | h
      · exact h
      · have := Nat.mul_le_mul_right (2 ^ d) h
        omega
    rw [hK]
    exact Nat.div_eq_of_lt (by omega)
theorem integral_down {m : Nat} {i : Int} {K : Nat} (h1 : (K : Rat) ≤ (m : Rat) * p2 i) (h2 : (m : Rat) * p2 i < (K : Rat) + 1) : (Datum.number false m i).integral .down = .number false K 0 := by
  have e1 : p2 i * p2 ((-i).toNat : Int) = p2 (i.toNat : Int) := p2_mul (by omega)
  have hp := p2_pos ((-i).toNat : Int)
  have a1 := mul_le h1 (Rat.le_of_lt hp)
  have a2 := mul_lt h2 hp
  rw [Rat.mul_assoc, e1, p2_nat, p2_nat] at a1 a2
  have e2 : ((K : Rat) + 1) = ((K + 1 : Nat) : Rat) := by rw [Rat.natCast_add]; rfl
  rw [e2] at a2
  rw [← Rat.natCast_mul, ← Rat.natCast_mul] at a1 a2
  show Datum.number false (Toward.cut .down false (m <<< i.toNat) (-i).toNat) 0 = _
  rw [down_cut _ _ K (by rw [Nat.shiftLeft_eq]; exact_mod_cast a1) (by rw [Nat.shiftLeft_eq]; exact_mod_cast a2)]
/-- math.Floor of a number at least 0. -/
theorem floor_val {x : Nat} {q : Rat} {K : Int} (hx : Fv x q) (h0 : 0 ≤ q) (hK : 0 ≤ K) (h1 : (K : Rat) ≤ q) (h2 : q < (K : Rat) + 1) (hb : K ≤ 9007199254740992) : Fv (double.write ((double.read x).integral .down)) (K : Rat) := by
  obtain ⟨s, m, i, hr, rfl⟩ := hx
  rw [hr]
  have hmp : 0 ≤ (m : Rat) * p2 i := Rat.mul_nonneg (by exact_mod_cast Nat.zero_le m) (Rat.le_of_lt (p2_pos _))
  cases s with
  | false =>
    have e : sgn false * (m : Rat) * p2 i = (m : Rat) * p2 i := by unfold sgn; grind
    rw [e] at h1 h2
    have eK : (K : Rat) = ((K.toNat : Nat) : Rat) := by rw [← Rat.intCast_natCast]; congr 1; omega
    rw [eK] at h1 h2
    rw [integral_down h1 h2]
    have := write_int (n := K) (by omega) hb
    rw [decide_eq_false (by omega), show K.natAbs = K.toNat by omega] at this
    exact this
  | true =>
    have e : sgn true * (m : Rat) * p2 i = -((m : Rat) * p2 i) := by unfold sgn; grind
    rw [e] at h0 h1 h2
    have hz : (m : Rat) * p2 i = 0 := by grind
    have hm : m = 0 := by
      rcases Nat.eq_zero_or_pos m with h | h
      · exact h
      · exfalso
        have : (0 : Rat) < (m : Rat) := by exact_mod_cast h
        have := Rat.mul_pos this (p2_pos i)
        grind
    rw [hz] at h1
    have hK0 : K = 0 := by
      have : (K : Rat) ≤ ((0 : Int) : Rat) := by simpa using h1
      have : K ≤ 0 := by exact_mod_cast this
      omega
    subst hm; subst hK0
    have : (Datum.number true 0 i).integral .down = .number true 0 0 := by
      show Datum.number true (Toward.cut .down true (0 <<< i.toNat) (-i).toNat) 0 = _
      unfold Toward.cut
      simp
    rw [this]
    exact write_zero true 0
theorem does_floor {P : Program} {f : FuncId} {fn : Func} {H : Heap} {x : Nat} {q : Rat}
    (hf : P.funcs[f]? = some fn) (hn : (fn.name == "runtime.NumGoroutine") = false) (hb : fn.body.isNone = true) (h1 : (Extern.findNext fn).isNone = true)
    (h2 : Extern.find fn = some (Extern.MathFloor.toIntegral "math.archFloor" .down)) (hx : Fv x q) : Does P f [.float .f64 x] H fun v H' => v = .float .f64 (double.write ((double.read x).integral .down)) ∧ H' = H := by
  refine does_extern hf hn hb h1 h2 fun W w hs => ?_
  have e : Extern.MathFloor.toIntegral "math.archFloor" .down ⟨[.float .f64 x]⟩ = (match Ieee.double.read x with
    | .nan s t =>
      if Ieee.double.quiet t = t then pure (.float .f64 x) else do
      let kept ← choose (.extern "math.Floor,Ceil,Trunc,RoundToEven.signallingNaN kept" 2)
      pure (.float .f64 (if kept == 1 then x else Ieee.double.write (.nan s (Ieee.double.quiet t))))
    | d => pure (.float .f64 (Ieee.double.write (d.integral .down)))) := rfl
  rw [e]
  obtain ⟨s, m, i, hr, _⟩ := hx
  rw [hr]
  exact ⟨_, w, rfl, hs, rfl, rfl⟩
/-- The whole part of a quotient. -/
theorem FI.floor_quo {A B x y r : Nat} {n m : Int} (hx : FI A x n) (hy : FI B y m) (h : FAr .quo x y r) (hn : 0 < n) (hm : 0 < m) (hA : A ≤ 67108864) (hB : B ≤ 67108864) :
    (∃ c, Fv r c) ∧ FI A (double.write ((double.read r).integral .down)) (n / m) := by
  have hm0 : ((m : Int) : Rat) ≠ 0 := by exact_mod_cast (show m ≠ 0 by omega)
  have hn0 : ((n : Int) : Rat) ≠ 0 := by exact_mod_cast (show n ≠ 0 by omega)
  have hmp : (0 : Rat) < ((m : Int) : Rat) := by exact_mod_cast hm
  have hnp : (0 : Rat) < ((n : Int) : Rat) := by exact_mod_cast hn
  have d := rat_div_mul (n : Rat) (m : Rat) hm0
  have hnA := hx.hi
  have hmB := hy.hi
  have hk0 : 0 ≤ n / m := Int.ediv_nonneg (by omega) (by omega)
  have hkn : n / m ≤ n := Int.ediv_le_self _ (by omega)
  have hdm := Int.emod_add_mul_ediv n m
  have ht0 := Int.emod_nonneg n (show m ≠ 0 by omega)
  have ht1 := Int.emod_lt_of_pos n hm
  have fin : ∀ c, Fv r c → ((n / m : Int) : Rat) ≤ c → c < ((n / m : Int) : Rat) + 1 → (∃ c, Fv r c) ∧ FI A (double.write ((double.read r).integral .down)) (n / m) := by
    intro c hc h1 h2
    have h0 : (0 : Rat) ≤ ((n / m : Int) : Rat) := by exact_mod_cast hk0
    exact ⟨⟨c, hc⟩, floor_val hc (by grind) hk0 h1 h2 (by omega), by omega, by omega⟩
  generalize n / m = k at *
  generalize n % m = t at *
  have hnk : (n : Rat) = (t : Rat) + (m : Rat) * (k : Rat) := by rw [← Rat.intCast_mul, ← Rat.intCast_add, hdm]
  by_cases hz : t = 0
  · subst hz
    have hq : (n : Rat) / m = (k : Rat) := rat_div_eq hm0 (by rw [hnk]; simp; grind)
    have hc := far_quo_exact h hx.fv hy.fv hn0 hm0 hq (by omega) (by omega)
    exact fin _ hc (by grind) (by grind)
  · generalize hq : (n : Rat) / m = q at *
    have hq0 : 0 < q := of_mul_lt (c := (m : Rat)) (by rw [d]; grind) hmp
    have hqr : rabs q = q := rabs_of_nonneg (Rat.le_of_lt hq0)
    have hm26 : (m : Rat) ≤ p2 26 := by
      rw [p2_toNat (by decide), ← Rat.intCast_natCast]
      have : (m : Int) ≤ ((2 ^ (26 : Int).toNat : Nat) : Int) := by
        have : ((2 ^ (26 : Int).toNat : Nat) : Int) = 67108864 := rfl
        omega
      exact_mod_cast this
    have hn26 : (n : Rat) ≤ p2 26 := by
      rw [p2_toNat (by decide), ← Rat.intCast_natCast]
      have : (n : Int) ≤ ((2 ^ (26 : Int).toNat : Nat) : Int) := by
        have : ((2 ^ (26 : Int).toNat : Nat) : Int) = 67108864 := rfl
        omega
      exact_mod_cast this
    have hn1 : (1 : Rat) ≤ (n : Rat) := by exact_mod_cast (show (1 : Int) ≤ n by omega)
    have hm1 : (1 : Rat) ≤ (m : Rat) := by exact_mod_cast (show (1 : Int) ≤ m by omega)
    have ht1' : (1 : Rat) ≤ (t : Rat) := by exact_mod_cast (show (1 : Int) ≤ t by omega)
    have ht2' : (t : Rat) + 1 ≤ (m : Rat) := by exact_mod_cast (show t + 1 ≤ m by omega)
    have hqle : q ≤ p2 26 := by
      have := mul_le_left hm1 (Rat.le_of_lt hq0)
      rw [d] at this; grind
    have hqge : p2 (-26) ≤ q := by
      have a1 := mul_le_left hm26 (Rat.le_of_lt hq0)
      rw [d] at a1
      have a2 := mul_le (Rat.le_trans hn1 a1) (Rat.le_of_lt (p2_pos (-26)))
      rw [Rat.mul_assoc, p2_mul (c := 0) (by decide), p2_zero] at a2
      grind
    have l1 := p2_le (show (-1000 : Int) ≤ -26 by decide)
    have l2 := p2_le (show (26 : Int) ≤ 1000 by decide)
    obtain ⟨c, hc, hr⟩ := far_quo h hx.fv hy.fv hn0 hm0 (by rw [hq, hqr]; grind) (by rw [hq, hqr]; grind)
    rw [hq] at hr
    unfold Rl at hr
    rw [hqr] at hr
    have hrr := rabs_le.1 hr
    -- the error, times m
    have e1 : p2 (-52) * q * (m : Rat) ≤ p2 (-26) := by
      rw [Rat.mul_assoc, d]
      have := mul_le_left hn26 (Rat.le_of_lt (p2_pos (-52)))
      rw [p2_mul (c := -26) (by decide)] at this
      exact this
    have e2 : p2 (-26) < 1 := by rw [← p2_zero]; exact p2_lt (by decide)
    have hkm : (k : Rat) * m = n - t := by rw [hnk]; grind
    refine fin c hc ?_ ?_
    · refine of_mul_le (c := (m : Rat)) ?_ hmp
      have a1 := mul_le hrr.1 (Rat.le_of_lt hmp)
      rw [hkm]
      grind
    · refine of_mul_lt (c := (m : Rat)) ?_ hmp
      have a1 := mul_le hrr.2 (Rat.le_of_lt hmp)
      have : ((k : Rat) + 1) * m = n - t + m := by rw [Rat.add_mul, hkm]; grind
      rw [this]
      grind
end Go.Lg

set_option linter.unusedVariables false
set_option linter.unusedSimpArgs false
namespace Go.Lg
section
variable {P : Program} {W : World} {n : Nat} {ds : List Deferred} {Q : Exit → Act → World → Prop} {E0 E' : Env} {G G' : Heap} {ι : Type} {x y : Code}
/-- What follows is shown once, from a few registers alone. -/
theorem tc_mid (V : ι → Env) (ok : ι → Prop) (h2 : ∀ i, ok i → TC P W n ds y Q (V i) G) (h1 : (∀ i, ok i → TC P W n ds y Q (V i) G) → TC P W n ds x (QSeq P y Q) E0 G) : TC P W n ds x (QSeq P y Q) E0 G := h1 h2
theorem at_cut {V : ι → Env} {ok : ι → Prop} (h2 : ∀ i, ok i → TC P W n ds y Q (V i) G) (i : ι) (hi : ok i) (hV : Incl E' (V i)) (hG : List.Sublist G G') : At W n ds (QSeq P y Q) .normal E' G' :=
  at_seq_normal (tc_weak hV.get hG (h2 i hi))
end
theorem wrap_neg1 {s : Int} (hs : s = 1 ∨ s = -1) : IntKind.i64.wrap (0 - s) = -s := by rcases hs with rfl | rfl <;> rfl
theorem neg1 {s : Int} (hs : s = 1 ∨ s = -1) : -s = 1 ∨ -s = -1 := by omega
theorem t_pos {s T D : Int} (h : T = s * Int.sign D) (hD : 0 < D) : s = T := by rw [h, Int.sign_eq_one_of_pos hD, Int.mul_one]
theorem t_neg {s T D : Int} (h : T = s * Int.sign D) (hD : D < 0) : -s = T := by rw [h, Int.sign_eq_neg_one_of_neg hD]; omega
theorem t_zero {s T D : Int} (h : T = s * Int.sign D) (hD : D = 0) : (0 : Int) = T := by rw [h, hD]; simp
theorem t_flip {s T D D' : Int} (h : T = s * Int.sign D) (hD : D' = -D) : T = -s * Int.sign D' := by rw [hD, Int.sign_neg, h, Int.neg_mul_neg]
/-- One step down: what the reduction keeps. -/
theorem dv_red (a b c d : Int) (k : Int) : a * (d - k * c) - c * (b - k * a) = a * d - c * b := by grind
theorem dv_neg {a p c q : Int} (ha : 0 < a) (hp : 0 ≤ p) (hc : 0 < c) (h : q < 0) : a * q - c * p < 0 := by
  have h1 := Int.mul_neg_of_pos_of_neg ha h
  have h2 := Int.mul_nonneg (Int.le_of_lt hc) hp
  omega
theorem dv_big {a p c q : Int} (ha : 0 < a) (hp : p < a) (hc : 0 < c) (h : c < q) : 0 < a * q - c * p := by
  have h1 := Int.mul_pos ha (show 0 < q - c by omega)
  have h2 := Int.mul_pos hc (show 0 < a - p by omega)
  have e : a * q - c * p = a * (q - c) + c * (a - p) := by grind
  omega
theorem dv_up {a p c q : Int} (ha : 0 < a) (hc : 0 < c) (h1 : p + p < a) (h2 : c < q + q) : 0 < a * q - c * p := by
  have a1 := Int.mul_pos ha (show 0 < q + q - c by omega)
  have a2 := Int.mul_pos hc (show 0 < a - (p + p) by omega)
  have e : 2 * (a * q - c * p) = a * (q + q - c) + c * (a - (p + p)) := by grind
  omega
theorem dv_dn {a p c q : Int} (ha : 0 < a) (hc : 0 < c) (h1 : a ≤ p + p) (h2 : q + q < c) : a * q - c * p < 0 := by
  have a1 := Int.mul_neg_of_pos_of_neg ha (show q + q - c < 0 by omega)
  have a2 := Int.mul_nonneg (Int.le_of_lt hc) (show 0 ≤ p + p - a by omega)
  have e : 2 * (a * q - c * p) = a * (q + q - c) - c * (p + p - a) := by grind
  omega
theorem dv_swap (a p c q : Int) : a * (c - q) - c * (a - p) = -(a * q - c * p) := by grind
theorem dv_q0 {a p c : Int} (hc : 0 < c) (hp : 0 < p) : a * 0 - c * p < 0 := by
  have := Int.mul_pos hc hp; omega
theorem dv_p0 {a c q : Int} (ha : 0 < a) (hq : 0 < q) : 0 < a * q - c * 0 := by
  have := Int.mul_pos ha hq; omega
/-- The other role: rows exchanged. -/
theorem dv_role (a p c q : Int) : p * c - q * a = -(a * q - c * p) := by grind
theorem dv_mod {a b : Int} (ha : 0 < a) : 0 ≤ b - b / a * a ∧ b - b / a * a < a := by
  have h := Int.emod_add_mul_ediv b a
  have h1 := Int.emod_nonneg b (show a ≠ 0 by omega)
  have h2 := Int.emod_lt_of_pos b ha
  rw [Int.mul_comm] at h
  omega
end Go.Lg

set_option linter.unusedVariables false
namespace Go.Proofs.Ytomhkbijijdghaa.Sd
/-- The numbers of a place of a layout. -/
def strideI (n : Int) : Int := if n < 1 then 0 else if n = 1 then 2 else if n = 2 then 3 else if n = 3 then 3 else n
/-- What one segment does: the flag, and whether it counts. -/
def seg (a b p1 q1 p2 q2 : Int) : Bool × Bool :=
  if p1 < a ∧ p2 < a then (false, false)
  else if a = p2 ∧ b = q2 then (true, false)
  else if q1 = b ∧ q2 = b then (decide (min p1 p2 ≤ a ∧ a ≤ max p1 p2), false)
  else if (b < q1 ∧ q2 ≤ b) ∨ (b < q2 ∧ q1 ≤ b) then
    (if (p1 - a) * (q2 - b) - (q1 - b) * (p2 - a) = 0 then (true, false)
     else (false, decide (0 < if q2 - b < q1 - b then -Int.sign ((p1 - a) * (q2 - b) - (q1 - b) * (p2 - a)) else Int.sign ((p1 - a) * (q2 - b) - (q1 - b) * (p2 - a)))))
  else (false, false)
end Go.Proofs.Ytomhkbijijdghaa.Sd
