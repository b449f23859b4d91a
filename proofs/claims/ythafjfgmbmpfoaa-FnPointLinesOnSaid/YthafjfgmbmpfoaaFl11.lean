/-
  math.Hypot of the machine: its square is the sum of the squares but for a small share. No conditions.
-/
import Derived.Test.YthafjfgmbmpfoaaFl10
set_option linter.unusedVariables false
set_option linter.unusedSimpArgs false
namespace Go.Lg
open Ieee

theorem fb_add {x y : Nat} {a b : Rat} (ha : Fv x a) (hb : Fv y b) : ∃ r, floatBits .add .f64 x y = some r := by
  obtain ⟨s, m, i, hx, rfl⟩ := ha
  obtain ⟨t, n, j, hy, rfl⟩ := hb
  obtain ⟨u, k, hs, hv⟩ := sum_val (s := s) (t := t) (m := m) (n := n) (i := i) (j := j)
  refine ⟨_, show ((double.read x).sum (double.read y)).map double.write = some (double.write (.number u k (min i j))) from ?_⟩
  rw [hx, hy, hs]; rfl
theorem fb_mul {x y : Nat} {a b : Rat} (ha : Fv x a) (hb : Fv y b) : ∃ r, floatBits .mul .f64 x y = some r := by
  obtain ⟨s, m, i, hx, rfl⟩ := ha
  obtain ⟨t, n, j, hy, rfl⟩ := hb
  refine ⟨_, show ((double.read x).product (double.read y)).map double.write = some (double.write (.number (s ^^ t) (m * n) (i + j))) from ?_⟩
  rw [hx, hy]; rfl
theorem fb_quo {x y : Nat} {a b : Rat} (ha : Fv x a) (hb : Fv y b) (hb0 : b ≠ 0) : ∃ r, floatBits .quo .f64 x y = some r := by
  obtain ⟨s, m, i, hx, rfl⟩ := ha
  obtain ⟨t, n, j, hy, rfl⟩ := hb
  have hn0 : n ≠ 0 := by rintro rfl; exact hb0 (by simp)
  have : ∃ r, ((double.read x).quotient (double.fractionBits + 2) (double.read y)).map double.write = some r := by
    rw [hx, hy]
    simp [Datum.quotient, hn0]
  obtain ⟨r, h⟩ := this
  exact ⟨r, h⟩
theorem sqrt_some {x : Nat} {q : Rat} (hx : Fv x q) (hq : 0 < q) : ∃ r, double.sqrt x = some r := by
  obtain ⟨s, m, i, hx, rfl⟩ := hx
  have hm0 : m ≠ 0 := by rintro rfl; simp at hq
  have hmp : (0 : Rat) < (m : Rat) := by exact_mod_cast Nat.pos_of_ne_zero hm0
  have hs : s = false := by
    cases s with
    | false => rfl
    | true => exfalso; have := Rat.mul_pos hmp (p2_pos i); unfold sgn at hq; grind
  subst hs
  have : ∃ r, ((double.read x).root (double.fractionBits + 2)).map double.write = some r := by
    rw [hx]
    simp [Datum.root, hm0]
  obtain ⟨r, h⟩ := this
  exact ⟨r, h⟩
theorem run_arith {P : Program} {w : World} {op : BinOp} {x y r : Nat} (hop : BinOp.isArith op = true) (h : floatBits op .f64 x y = some r) : (Extern.MathAsm.arith op x y).run P w = .ok r w := by
  have h1 : (Op.floatArith op .f64 x y).run P w = .ok (.float .f64 r) w := by
    unfold floatBits at h
    cases op <;> simp only at h <;> first | (cases hop; done) | skip
    all_goals
      unfold Op.floatArith
      refine (sem_run_bind P _ _ w _ w rfl).trans ?_
      rw [h]; rfl
  unfold Extern.MathAsm.arith
  exact (sem_run_bind P _ _ w _ w h1).trans rfl

theorem run_sqrt {P : Program} {w : World} {t q : Nat} (h : double.sqrt t = some q) : (Extern.MathSqrt.sqrt #[.float .f64 t]).run P w = .ok (.float .f64 q) w := by
  have h' : FloatKind.f64.format.sqrt t = some q := h
  show Sem.run P (match FloatKind.f64.format.sqrt t with
    | some r => _
    | none => _) w = _
  rw [h']; rfl
theorem fv_word {x : Nat} {q : Rat} (h : Fv x q) (hx : x < 9223372036854775808) : x < 9218868437227405312 := by
  obtain ⟨s, m, e, hr, _⟩ := h
  rw [read_eq] at hr
  rw [Nat.mod_eq_of_lt hx] at hr
  by_cases c1 : x < 4503599627370496
  · omega
  · rw [if_neg c1] at hr
    by_cases c2 : x < 9218868437227405312
    · exact c2
    · rw [if_neg c2] at hr
      by_cases c3 : x = 9218868437227405312
      · rw [if_pos c3] at hr; cases hr
      · rw [if_neg c3] at hr; cases hr
theorem fv_zero_word {x : Nat} (h : Fv x 0) (hx : x < 9223372036854775808) : x = 0 := by
  obtain ⟨s, m, e, hr, hq⟩ := h
  have hm : m = 0 := by
    rcases Nat.eq_zero_or_pos m with h | h
    · exact h
    · exfalso
      have h1 : (0 : Rat) < (m : Rat) := by exact_mod_cast h
      have h2 := Rat.mul_pos h1 (p2_pos e)
      cases s <;> (unfold sgn at hq; grind)
  rw [read_eq] at hr
  rw [Nat.mod_eq_of_lt hx] at hr
  by_cases c1 : x < 4503599627370496
  · rw [if_pos c1] at hr; cases hr; exact hm
  · rw [if_neg c1] at hr
    by_cases c2 : x < 9218868437227405312
    · rw [if_pos c2] at hr; cases hr; omega
    · rw [if_neg c2] at hr
      by_cases c3 : x = 9218868437227405312
      · rw [if_pos c3] at hr; cases hr
      · rw [if_neg c3] at hr; cases hr

/-- The machine's way: the greater one times the root of one and the square of the quotient. -/
theorem hyp_num {s b : Nat} {small big : Rat} (hs : Fv s small) (hb : Fv b big) (h0 : 0 ≤ small) (h1 : small ≤ big) (h2 : small = 0 ∨ p2 (-100) ≤ small) (h3 : p2 (-100) ≤ big) (h4 : big ≤ p2 100)
    (one : Fv 4607182418800017408 1) :
    ∃ r r2 t w v c, floatBits .quo .f64 s b = some r ∧ floatBits .mul .f64 r r = some r2 ∧ floatBits .add .f64 r2 4607182418800017408 = some t ∧ double.sqrt t = some w ∧ floatBits .mul .f64 w b = some v ∧
      Fv v c ∧ 0 < c ∧ Ru 18 (c * c) (small * small + big * big) := by
  have hb0 : 0 < big := by have := p2_pos (-100); grind
  obtain ⟨r, f1⟩ := fb_quo hs hb (by grind)
  have e1 : FAr .quo s b r := ⟨by rw [f1]⟩
  have hd := rat_div_mul small big (by grind)
  have hq0 : 0 ≤ small / big := of_mul_le (c := big) (by rw [hd]; grind) hb0
  have hq1 : small / big ≤ 1 := of_mul_le (c := big) (by rw [hd]; grind) hb0
  have hql : small = 0 ∨ p2 (-200) ≤ small / big := by
    rcases h2 with h | h
    · exact .inl h
    · right
      refine of_mul_le (c := big) ?_ hb0
      rw [hd]
      have := mul_le_left h4 (Rat.le_of_lt (p2_pos (-200)))
      rw [p2_mul (c := -100) (by decide)] at this
      grind
  have l1000 : (1 : Rat) ≤ p2 1000 := by rw [← p2_zero]; exact p2_le (by decide)
  obtain ⟨c1, hc1, g1⟩ := far_quo_u e1 hs hb (by grind) (by
    rcases hql with h | h
    · exact .inl h
    · right; rw [rabs_of_nonneg hq0]; exact Rat.le_trans (p2_le (by decide)) h) (by rw [rabs_of_nonneg hq0]; exact Rat.le_trans hq1 l1000)
  have hqz : small = 0 → small / big = 0 := by rintro rfl; rw [Rat.div_def]; simp
  have hsum : small * small + big * big = (small / big * (small / big) + 1) * (big * big) := by
    have : small * small = small / big * (small / big) * (big * big) := by
      have : small / big * (small / big) * (big * big) = small / big * big * (small / big * big) := by grind
      rw [this, hd]
    rw [this]; grind
  rw [hsum]
  generalize small / big = q at *
  -- the quotient's float
  have c1b : 0 ≤ c1 ∧ c1 ≤ 2 ∧ (c1 = 0 ∨ p2 (-201) ≤ c1) := by
    rcases hql with h | h
    · have hq := hqz h
      subst hq
      have := g1.zero
      subst this
      exact ⟨Rat.le_refl, by decide, .inl rfl⟩
    · have hqp : 0 < q := by have := p2_pos (-200); grind
      obtain ⟨a1, a2, a3⟩ := g1.sign.1 hqp
      have e : p2 (-1) * p2 (-200) = p2 (-201) := p2_mul (by decide)
      have := mul_le_left h (Rat.le_of_lt (p2_pos (-1)))
      exact ⟨Rat.le_of_lt a1, by grind, .inr (by grind)⟩
  obtain ⟨b1, b2, b3⟩ := c1b
  obtain ⟨r2, f2⟩ := fb_mul hc1 hc1
  have e2 : FAr .mul r r r2 := ⟨by rw [f2]⟩
  have hcc0 := Rat.mul_nonneg b1 b1
  have hcc2 : c1 * c1 ≤ 4 := by have := mul_le b2 b1; grind
  have l4 : (4 : Rat) ≤ p2 1000 := by
    have : (4 : Rat) = p2 2 := by rw [p2_toNat (e := 2) (by decide)]; rfl
    rw [this]; exact p2_le (by decide)
  obtain ⟨c2, hc2, g2⟩ := far_mul_u e2 hc1 hc1 (by
    rcases b3 with h | h
    · left; rw [h]; simp
    · right
      rw [rabs_of_nonneg hcc0]
      have := mul_le h b1
      have := mul_le_left h (Rat.le_of_lt (p2_pos (-201)))
      rw [p2_mul (c := -402) (by decide)] at this
      have := p2_le (show (-1000 : Int) ≤ -402 by decide)
      grind) (by rw [rabs_of_nonneg hcc0]; exact Rat.le_trans hcc2 l4)
  have g3 : Ru 7 c2 (q * q) := (g2.trans (g1.mul g1)).le (by decide)
  have hqq0 := Rat.mul_nonneg hq0 hq0
  have hqq1 : q * q ≤ 1 := by have := mul_le hq1 hq0; grind
  have c2b : 0 ≤ c2 ∧ c2 ≤ 2 := by
    rcases Rat.le_iff_lt_or_eq.1 hqq0 with h | h
    · obtain ⟨a1, a2, a3⟩ := g3.sign.1 h
      exact ⟨Rat.le_of_lt a1, by grind⟩
    · rw [← h] at g3
      have := g3.zero
      subst this
      exact ⟨Rat.le_refl, by decide⟩
  -- one more
  obtain ⟨t, f3⟩ := fb_add hc2 one
  have e3 : FAr .add r2 4607182418800017408 t := ⟨by rw [f3]⟩
  have g4 : Ru 7 (c2 + 1) (q * q + 1) := by
    unfold Ru Rl at g3 ⊢
    rw [rabs_of_nonneg hqq0] at g3
    rw [rabs_of_nonneg (show 0 ≤ q * q + 1 by grind), show c2 + 1 - (q * q + 1) = c2 - q * q by grind]
    have := mul_le_left (show q * q ≤ q * q + 1 by grind) (u_pos 7)
    exact Rat.le_trans g3 this
  have l3 : (3 : Rat) ≤ p2 1000 := by grind
  have lm : p2 (-1000) ≤ 1 := by rw [← p2_zero]; exact p2_le (by decide)
  obtain ⟨c3, hc3, g5⟩ := far_add_u e3 hc2 one (.inr (by rw [rabs_of_nonneg (by grind)]; grind)) (by rw [rabs_of_nonneg (by grind)]; grind)
  have g6 : Ru 9 c3 (q * q + 1) := (g5.trans g4).le (by decide)
  obtain ⟨a1, a2, a3⟩ := g6.sign.1 (show 0 < q * q + 1 by grind)
  have lm2 : p2 (-1000) ≤ c3 := by
    have h1 := mul_le_left (show (1 : Rat) ≤ q * q + 1 by grind) (Rat.le_of_lt (p2_pos (-1)))
    have h2 := p2_le (show (-1000 : Int) ≤ -1 by decide)
    grind
  obtain ⟨w, f4⟩ := sqrt_some hc3 a1
  have e4 : SqrtR t w := fun w' h => by rw [f4] at h; injection h
  obtain ⟨c4, hc4, p4, g7⟩ := sqrt_u e4 hc3 a1 lm2 (by grind)
  have g8 : Ru 14 (c4 * c4) (q * q + 1) := (g7.trans g6).le (by decide)
  obtain ⟨k1, k2, k3⟩ := g8.sign.1 (show 0 < q * q + 1 by grind)
  have c4u : c4 ≤ 4 := by
    rcases (Rat.le_total : c4 ≤ 4 ∨ 4 ≤ c4) with h | h
    · exact h
    · have := mul_le h (Rat.le_of_lt p4); grind
  have c4l : p2 (-1) ≤ c4 := by
    rcases (Rat.le_total : p2 (-1) ≤ c4 ∨ c4 ≤ p2 (-1)) with h | h
    · exact h
    · have h1 := mul_le h (Rat.le_of_lt p4)
      have h2 := mul_le_left h (Rat.le_of_lt (p2_pos (-1)))
      have h3 := mul_le_left (show (1 : Rat) ≤ q * q + 1 by grind) (Rat.le_of_lt (p2_pos (-1)))
      have h4 : p2 (-1) * p2 (-1) = p2 (-2) := p2_mul (by decide)
      have h5 : p2 (-1) = p2 (-2) + p2 (-2) := p2_half (by decide)
      have := p2_pos (-2)
      exfalso; grind
  have hpb := Rat.mul_pos p4 hb0
  obtain ⟨v, f5⟩ := fb_mul hc4 hb
  have e5 : FAr .mul w b v := ⟨by rw [f5]⟩
  obtain ⟨c5, hc5, g9⟩ := far_mul_u e5 hc4 hb (.inr (by
    rw [rabs_of_nonneg (Rat.le_of_lt hpb)]
    have h1 := mul_le c4l (Rat.le_of_lt hb0)
    have h2 := mul_le_left h3 (Rat.le_of_lt (p2_pos (-1)))
    rw [p2_mul (c := -101) (by decide)] at h2
    have h3 := p2_le (show (-1000 : Int) ≤ -101 by decide)
    grind)) (by
    rw [rabs_of_nonneg (Rat.le_of_lt hpb)]
    have h1 := mul_le c4u (Rat.le_of_lt hb0)
    have h2 : (4 : Rat) * p2 100 = p2 102 := by
      have : (4 : Rat) = p2 2 := by rw [p2_toNat (e := 2) (by decide)]; rfl
      rw [this]; exact p2_mul (by decide)
    have h3 := p2_le (show (102 : Int) ≤ 1000 by decide)
    grind)
  have p5 := (g9.sign.1 hpb).1
  refine ⟨r, r2, t, w, v, c5, f1, f2, f3, f4, f5, hc5, p5, ?_⟩
  have g10 := g9.mul g9
  have e : c4 * big * (c4 * big) = c4 * c4 * (big * big) := by grind
  rw [e] at g10
  have g11 : Ru 14 (c4 * c4 * (big * big)) ((q * q + 1) * (big * big)) := Rl.scale g8 _
  exact (g10.trans g11).le (by decide)

theorem does_hypot {P : Program} {f : FuncId} {fn : Func} {H : Heap} {x y : Nat} {a b : Rat}
    (hf : P.funcs[f]? = some fn) (hn : (fn.name == "runtime.NumGoroutine") = false) (hbd : fn.body.isNone = true) (h1 : (Extern.findNext fn).isNone = true)
    (h2 : Extern.find fn = some Extern.MathHypot.archHypot) (hx : Fv x a) (hy : Fv y b) (ha : a = 0 ∨ p2 (-100) ≤ rabs a) (hb : b = 0 ∨ p2 (-100) ≤ rabs b) (ha2 : rabs a ≤ p2 100) (hb2 : rabs b ≤ p2 100) (one : Fv 4607182418800017408 1) :
    Does P f [.float .f64 x, .float .f64 y] H fun v H' => (∃ r c, v = .float .f64 r ∧ Fv r c ∧ 0 ≤ c ∧ Ru 18 (c * c) (a * a + b * b)) ∧ H' = H := by
  refine does_extern hf hn hbd h1 h2 fun W w hs => ?_
  have hxa := hx.abs
  have hyb := hy.abs
  have hxl : x % 2 ^ 63 < 9223372036854775808 := Nat.mod_lt _ (by decide)
  have hyl : y % 2 ^ 63 < 9223372036854775808 := Nat.mod_lt _ (by decide)
  have hxw := fv_word hxa hxl
  have hyw := fv_word hyb hyl
  have sq : ∀ q : Rat, q * q = rabs q * rabs q := fun q => by rcases rabs_cases q with h | h <;> rw [h] <;> grind
  rw [sq a, sq b]
  have na := rabs_nonneg a
  have nb := rabs_nonneg b
  have ha' : rabs a = 0 ∨ p2 (-100) ≤ rabs a := by rcases ha with h | h; (left; rw [h]; exact rabs_zero); exact .inr h
  have hb' : rabs b = 0 ∨ p2 (-100) ≤ rabs b := by rcases hb with h | h; (left; rw [h]; exact rabs_zero); exact .inr h
  have hinf : Extern.MathAsm.posInf = 9218868437227405312 := rfl
  have c1 : (x % 2 ^ 63 == Extern.MathAsm.posInf || y % 2 ^ 63 == Extern.MathAsm.posInf) = false := by
    rw [hinf, Bool.or_eq_false_iff, beq_eq_false_iff_ne, beq_eq_false_iff_ne]; exact ⟨by omega, by omega⟩
  have c2 : (decide (x % 2 ^ 63 > Extern.MathAsm.posInf) || decide (y % 2 ^ 63 > Extern.MathAsm.posInf)) = false := by
    rw [hinf, Bool.or_eq_false_iff, decide_eq_false_iff_not, decide_eq_false_iff_not]; exact ⟨by omega, by omega⟩
  show ∃ v w', Sem.run P (ite _ _ _) w = .ok v w' ∧ _
  rw [if_neg (by rw [c1]; decide)]
  show ∃ v w', Sem.run P (ite _ _ _) w = .ok v w' ∧ _
  rw [if_neg (by rw [c2]; decide)]
  show ∃ v w', Sem.run P (ite _ _ _) w = .ok v w' ∧ _
  by_cases hz : (x % 2 ^ 63 == 0 && y % 2 ^ 63 == 0) = true
  · rw [if_pos hz]
    simp only [Bool.and_eq_true, beq_iff_eq] at hz
    rw [show x % 9223372036854775808 = 0 from hz.1] at hxa
    rw [show y % 9223372036854775808 = 0 from hz.2] at hyb
    have z0 : Fv 0 (0 : Rat) := ⟨false, 0, -1074, rfl, by simp⟩
    have ea := hxa.uniq z0
    have eb := hyb.uniq z0
    refine ⟨_, w, rfl, hs, ⟨0, 0, rfl, z0, Rat.le_refl, ?_⟩, rfl⟩
    rw [ea, eb]
    have : (0 : Rat) * 0 = 0 * 0 + 0 * 0 := by grind
    rw [← this]
    exact (Ru.refl _).le (by decide)
  · rw [if_neg hz]
    have hord := order_val hxa hyb
    have hne : ¬ (rabs a = 0 ∧ rabs b = 0) := by
      rintro ⟨h1, h2⟩
      rw [h1] at hxa
      rw [h2] at hyb
      apply hz
      rw [Bool.and_eq_true, beq_iff_eq, beq_iff_eq]
      exact ⟨fv_zero_word hxa hxl, fv_zero_word hyb hyl⟩
    have hp := p2_pos (-100)
    by_cases hlt : rabs a < rabs b
    · have hl : Extern.MathAsm.lt (x % 2 ^ 63) (y % 2 ^ 63) = true := by
        show (double.order (x % 9223372036854775808) (y % 9223372036854775808) == some .lt) = true
        rw [hord, if_pos hlt]; rfl
      rw [hl]
      obtain ⟨r, r2, t, q, v, c, f1, f2, f3, f4, f5, g1, g2, g3⟩ := hyp_num hxa hyb na (Rat.le_of_lt hlt) ha' (by rcases hb' with h | h; (exfalso; grind); exact h) hb2 one
      refine ⟨.float .f64 v, w, ?_, hs, ⟨v, c, rfl, g1, Rat.le_of_lt g2, g3⟩, rfl⟩
      have hsq : (Extern.MathSqrt.sqrt #[.float .f64 t]).run P w = .ok (.float .f64 q) w := run_sqrt f4
      refine (sem_run_bind P _ _ w _ w (run_arith rfl f1)).trans ?_
      refine (sem_run_bind P _ _ w _ w (run_arith rfl f2)).trans ?_
      refine (sem_run_bind P _ _ w _ w (run_arith rfl f3)).trans ?_
      refine (sem_run_bind P _ _ w _ w hsq).trans ?_
      exact (sem_run_bind P _ _ w _ w (run_arith rfl f5)).trans rfl
    · have hl : Extern.MathAsm.lt (x % 2 ^ 63) (y % 2 ^ 63) = false := by
        show (double.order (x % 9223372036854775808) (y % 9223372036854775808) == some .lt) = false
        rw [hord, if_neg hlt]; split <;> rfl
      rw [hl]
      have hge : rabs b ≤ rabs a := by grind
      obtain ⟨r, r2, t, q, v, c, f1, f2, f3, f4, f5, g1, g2, g3⟩ := hyp_num hyb hxa nb hge hb' (by rcases ha' with h | h; (exfalso; apply hne; grind); exact h) ha2 one
      refine ⟨.float .f64 v, w, ?_, hs, ⟨v, c, rfl, g1, Rat.le_of_lt g2, by rw [Rat.add_comm]; exact g3⟩, rfl⟩
      have hsq : (Extern.MathSqrt.sqrt #[.float .f64 t]).run P w = .ok (.float .f64 q) w := run_sqrt f4
      refine (sem_run_bind P _ _ w _ w (run_arith rfl f1)).trans ?_
      refine (sem_run_bind P _ _ w _ w (run_arith rfl f2)).trans ?_
      refine (sem_run_bind P _ _ w _ w (run_arith rfl f3)).trans ?_
      refine (sem_run_bind P _ _ w _ w hsq).trans ?_
      exact (sem_run_bind P _ _ w _ w (run_arith rfl f5)).trans rfl
end Go.Lg
