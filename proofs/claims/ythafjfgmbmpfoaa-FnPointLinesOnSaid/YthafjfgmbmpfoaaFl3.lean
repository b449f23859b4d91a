/-
  Whole numbers as floats: what the reference's test of whole numbers says; conversions; equality of equal operations. No conditions.
-/
import Derived.Test.YthafjfgmbmpfoaaFl2
import Derived.Test.YthafjfgmbmpfoaaLg3
set_option linter.unusedVariables false
set_option linter.unusedSimpArgs false
namespace Go.Lg
open Ieee

theorem fv_of {x s m e} {q : Rat} (h : double.read x = .number s m e) (hq : q = sgn s * (m : Rat) * p2 e) : Fv x q := ⟨s, m, e, h, hq⟩

/-- A whole number, written. -/
theorem write_int {n : Int} (h1 : -9007199254740992 ≤ n) (h2 : n ≤ 9007199254740992) : Fv (double.write (.number (n < 0) n.natAbs 0)) (n : Rat) := by
  have hv : sgn (decide (n < 0)) * (n.natAbs : Rat) * p2 0 = (n : Rat) := by
    rw [p2_zero]
    by_cases h : n < 0
    · have e : (n.natAbs : Rat) = ((-n : Int) : Rat) := by rw [← Rat.intCast_natCast]; congr 1; omega
      rw [e, Rat.intCast_neg]; simp [h, sgn]; grind
    · have e : (n.natAbs : Rat) = (n : Rat) := by rw [← Rat.intCast_natCast]; congr 1; omega
      rw [e]; simp [h, sgn]
  have hb1 : (n : Rat) ≤ p2 53 := by
    rw [p2_toNat (by decide), ← Rat.intCast_natCast]; exact Rat.intCast_le_intCast.2 h2
  have hb2 : ((-n : Int) : Rat) ≤ p2 53 := by
    rw [p2_toNat (by decide), ← Rat.intCast_natCast]; exact Rat.intCast_le_intCast.2 (show -n ≤ 9007199254740992 by omega)
  rw [Rat.intCast_neg] at hb2
  have h53 := p2_lt (show (53 : Int) < 1023 by decide)
  obtain ⟨c, hc, hr⟩ := write_rnd (s := decide (n < 0)) (m := n.natAbs) (e := 0) (by rw [hv]; grind) (by rw [hv]; grind)
  rw [hv] at hr
  rw [hr.exact (rep_int h1 h2)] at hc
  exact hc

/-- Cutting towards zero. -/
theorem integral_zero (s : Bool) (m : Nat) (i : Int) : ∃ k : Nat, (Datum.number s m i).integral .zero = .number s k 0 ∧ (k : Rat) ≤ (m : Rat) * p2 i := by
  refine ⟨_, rfl, ?_⟩
  unfold Toward.cut
  simp only [Bool.false_and, Bool.toNat_false, Nat.add_zero]
  generalize hg : 1 <<< min (-i).toNat ((m <<< i.toNat).log2 + 2) = g
  rw [Nat.one_shiftLeft] at hg
  have hd : m <<< i.toNat / g * g ≤ m <<< i.toNat := Nat.div_mul_le_self _ _
  have hgp : 0 < g := by rw [← hg]; exact Nat.two_pow_pos _
  have key : ((m <<< i.toNat / g : Nat) : Rat) * p2 ((-i).toNat : Int) ≤ (m : Rat) * p2 (i.toNat : Int) := by
    by_cases hc : (-i).toNat ≤ (m <<< i.toNat).log2 + 2
    · rw [Nat.min_eq_left hc] at hg
      rw [p2_nat, p2_nat, hg]
      rw [Nat.shiftLeft_eq] at hd ⊢
      exact_mod_cast hd
    · rw [Nat.min_eq_right (by omega)] at hg
      have : m <<< i.toNat / g = 0 := by
        rw [← hg]; refine Nat.div_eq_of_lt ?_
        have := Nat.lt_log2_self (n := m <<< i.toNat)
        have e : 2 ^ ((m <<< i.toNat).log2 + 2) = 2 * 2 ^ ((m <<< i.toNat).log2 + 1) := by rw [Nat.pow_succ, Nat.mul_comm]
        omega
      rw [this]
      have h1 := Rat.mul_nonneg (a := (m : Rat)) (b := p2 (i.toNat : Int)) (by exact_mod_cast Nat.zero_le m) (Rat.le_of_lt (p2_pos _))
      grind
  have hp := p2_pos (-((-i).toNat : Int))
  have h2 := mul_le key (Rat.le_of_lt hp)
  have e1 : p2 ((-i).toNat : Int) * p2 (-((-i).toNat : Int)) = 1 := by rw [← p2_add, Int.add_right_neg, p2_zero]
  have e2 : p2 (i.toNat : Int) * p2 (-((-i).toNat : Int)) = p2 i := by rw [← p2_add]; congr 1; omega
  have r1 : ((m <<< i.toNat / g : Nat) : Rat) * p2 ((-i).toNat : Int) * p2 (-((-i).toNat : Int)) = ((m <<< i.toNat / g : Nat) : Rat) := by
    rw [Rat.mul_assoc, e1]; grind
  have r2 : (m : Rat) * p2 (i.toNat : Int) * p2 (-((-i).toNat : Int)) = (m : Rat) * p2 i := by rw [Rat.mul_assoc, e2]
  rw [r1, r2] at h2
  exact h2

theorem sgn_mul_nat (s : Bool) (k : Nat) : ∃ n : Int, sgn s * (k : Rat) = (n : Rat) ∧ n.natAbs = k := by
  cases s with
  | true => exact ⟨-(k : Int), by rw [Rat.intCast_neg, Rat.intCast_natCast]; unfold sgn; grind, by omega⟩
  | false => exact ⟨(k : Int), by rw [Rat.intCast_natCast]; unfold sgn; grind, by omega⟩

/-- What the reference's test of a whole number says. -/
theorem whole_of {x most : Nat} {M : Nat} (hM : Fv most (M : Rat)) (hMn : Fv (Op.negFloat .f64 most) (-(M : Rat))) (hMb : M ≤ 9007199254740992)
    (h1 : fcmp .geq x (Op.negFloat .f64 most) = true) (h2 : fcmp .leq x most = true) (h3 : fcmp .eql x (double.write ((double.read x).integral .zero)) = true) :
    ∃ n : Int, Fv x (n : Rat) ∧ -(M : Int) ≤ n ∧ n ≤ M := by
  have hM0 := hM
  obtain ⟨sM, mM, eM, hrM, _⟩ := hM0
  cases hd : double.read x with
  | nan s t => simp [fcmp_def, fcmp0, Format.order, hd, Datum.order] at h2
  | infinity s =>
    obtain ⟨s2, m2, e2, hr2, _⟩ := hMn
    cases s with
    | true => simp [fcmp_def, fcmp0, Format.order, hd, hr2, Datum.order] at h1
    | false => simp [fcmp_def, fcmp0, Format.order, hd, hrM, Datum.order] at h2
  | number s m i =>
    have hx : Fv x (sgn s * (m : Rat) * p2 i) := ⟨s, m, i, hd, rfl⟩
    rw [fcmp_leq hx hM] at h2
    rw [fcmp_geq hx hMn] at h1
    have h1 := of_decide_eq_true h1
    have h2 := of_decide_eq_true h2
    obtain ⟨k, hk, hkb⟩ := integral_zero s m i
    rw [hd, hk] at h3
    obtain ⟨n, hn, hna⟩ := sgn_mul_nat s k
    have hmabs : (m : Rat) * p2 i ≤ (M : Rat) := by cases s <;> (unfold sgn at h1 h2; grind)
    have hkM : k ≤ M := by
      have : (k : Rat) ≤ (M : Rat) := by grind
      exact_mod_cast this
    have hw : Fv (double.write (.number s k 0)) (n : Rat) := by
      have h53 := p2_lt (show (53 : Int) < 1023 by decide)
      have hk53 : (k : Rat) ≤ p2 53 := by
        rw [p2_toNat (by decide)]; exact_mod_cast (show k ≤ 2 ^ 53 by omega)
      have hk0 : (0 : Rat) ≤ (k : Rat) := by exact_mod_cast Nat.zero_le k
      have hv : sgn s * (k : Rat) * p2 0 = (n : Rat) := by rw [p2_zero, hn]; grind
      obtain ⟨c, hc, hr⟩ := write_rnd (s := s) (m := k) (e := 0) (by rw [p2_zero]; cases s <;> (unfold sgn; grind)) (by rw [p2_zero]; cases s <;> (unfold sgn; grind))
      rw [hv] at hr
      rw [hr.exact (rep_int (by omega) (by omega))] at hc
      exact hc
    rw [fcmp_eql hx hw] at h3
    have h3 := of_decide_eq_true h3
    exact ⟨n, by rw [← h3]; exact hx, by omega, by omega⟩

theorem neg_read {x : Nat} {s m e} (h : double.read x = .number s m e) : double.read (Op.negFloat .f64 x) = .number (!s) m e := by
  have hx : Op.negFloat .f64 x = x ^^^ 2 ^ 63 := rfl
  have h1 : (x ^^^ 2 ^ 63) % 9223372036854775808 = x % 9223372036854775808 := by
    have := Nat.xor_mod_two_pow (a := x) (b := 2 ^ 63) (n := 63)
    rw [Nat.mod_self, Nat.xor_zero] at this
    exact this
  have h2 : (x ^^^ 2 ^ 63) / 9223372036854775808 % 2 = 1 - x / 9223372036854775808 % 2 := by
    have e1 : (x ^^^ 2 ^ 63) / 2 ^ 63 = (x / 2 ^ 63) ^^^ 1 := by
      have := Nat.xor_div_two_pow (a := x) (b := 2 ^ 63) (n := 63)
      rw [Nat.div_self (Nat.two_pow_pos 63)] at this
      exact this
    have e2 : ((x / 2 ^ 63) ^^^ 1) % 2 = 1 - x / 2 ^ 63 % 2 := by
      have h3 := Nat.xor_mod_two_pow (a := x / 2 ^ 63) (b := 1) (n := 1)
      have h4 : x / 2 ^ 63 % 2 ^ 1 = 0 ∨ x / 2 ^ 63 % 2 ^ 1 = 1 := by omega
      rw [show (2 : Nat) = 2 ^ 1 from rfl, h3]
      rcases h4 with h4 | h4 <;> rw [h4] <;> rfl
    have e3 : (9223372036854775808 : Nat) = 2 ^ 63 := rfl
    rw [e3, e1, e2]
  have hread : ∀ y, double.read y = (if y % 9223372036854775808 < 4503599627370496 then
      Datum.number (y / 9223372036854775808 % 2 == 1) (y % 9223372036854775808) (-1074)
    else if y % 9223372036854775808 < 9218868437227405312 then
      Datum.number (y / 9223372036854775808 % 2 == 1) (4503599627370496 + y % 9223372036854775808 % 4503599627370496) (-1074 + ((y % 9223372036854775808 / 4503599627370496 - 1 : Nat) : Int))
    else if y % 9223372036854775808 = 9218868437227405312 then Datum.infinity (y / 9223372036854775808 % 2 == 1)
    else Datum.nan (y / 9223372036854775808 % 2 == 1) (y % 9223372036854775808 - 9218868437227405312)) := fun y => rfl
  have hs : (1 - x / 9223372036854775808 % 2 == 1) = !(x / 9223372036854775808 % 2 == 1) := by
    have h4 : x / 9223372036854775808 % 2 = 0 ∨ x / 9223372036854775808 % 2 = 1 := by omega
    rcases h4 with h4 | h4 <;> rw [h4] <;> rfl
  rw [hread] at h
  rw [hread, hx, h1, h2, hs]
  by_cases c1 : x % 9223372036854775808 < 4503599627370496
  · rw [if_pos c1] at h ⊢; cases h; rfl
  · rw [if_neg c1] at h ⊢
    by_cases c2 : x % 9223372036854775808 < 9218868437227405312
    · rw [if_pos c2] at h ⊢; cases h; rfl
    · rw [if_neg c2] at h
      by_cases c3 : x % 9223372036854775808 = 9218868437227405312
      · rw [if_pos c3] at h; cases h
      · rw [if_neg c3] at h; cases h

theorem Fv.neg {x : Nat} {q : Rat} (h : Fv x q) : Fv (Op.negFloat .f64 x) (-q) := by
  obtain ⟨s, m, e, hr, rfl⟩ := h
  exact ⟨!s, m, e, neg_read hr, by cases s <;> (simp only [sgn, Bool.not_true, Bool.not_false]; grind)⟩

/-- 2^20 as a float. -/
theorem fv_most : Fv 4697254411347427328 ((1048576 : Nat) : Rat) := by
  refine fv_of (s := false) (m := 4503599627370496) (e := -32) rfl ?_
  have h1 : ((4503599627370496 : Nat) : Rat) = p2 52 := by rw [p2_toNat (by decide)]; norm_cast
  have h2 : ((1048576 : Nat) : Rat) = p2 20 := by rw [p2_toNat (by decide)]; norm_cast
  rw [h1, h2, show sgn false * p2 52 * p2 (-32) = p2 52 * p2 (-32) by unfold sgn; grind, ← p2_add]; rfl

/-- A valid operation has one result, and that equals itself. -/
theorem far_uniq {op : BinOp} {x y r r' : Nat} {a b : Rat} (hx : Fv x a) (hy : Fv y b) (hop : op = .add ∨ op = .sub ∨ op = .mul) (h : FAr op x y r) (h' : FAr op x y r') : r = r' := by
  obtain ⟨s, m, i, hx, rfl⟩ := hx
  obtain ⟨t, n, j, hy, rfl⟩ := hy
  have : ∃ w, floatBits op .f64 x y = some w := by
    rcases hop with rfl | rfl | rfl
    · exact ⟨_, show ((double.read x).sum (double.read y)).map double.write = _ by rw [hx, hy]; rfl⟩
    · exact ⟨_, show ((double.read x).sum (double.read y).opposite).map double.write = _ by rw [hx, hy]; rfl⟩
    · exact ⟨_, show ((double.read x).product (double.read y)).map double.write = _ by rw [hx, hy]; rfl⟩
  obtain ⟨w, hw⟩ := this
  have h := h.ok
  have h' := h'.ok
  rw [hw] at h h'
  rw [h, h']

theorem eql_self {r : Nat} {c : Rat} (h : Fv r c) : fcmp .eql r r = true := by rw [fcmp_eql h h]; simp

/-- Sums, differences and products of whole numbers. -/
theorem int_bound {n : Int} (h1 : -9007199254740992 ≤ n) (h2 : n ≤ 9007199254740992) : (n : Rat) < p2 1023 ∧ -(n : Rat) < p2 1023 := by
  have hb1 : (n : Rat) ≤ p2 53 := by
    rw [p2_toNat (by decide), ← Rat.intCast_natCast]; exact Rat.intCast_le_intCast.2 h2
  have hb2 : ((-n : Int) : Rat) ≤ p2 53 := by
    rw [p2_toNat (by decide), ← Rat.intCast_natCast]; exact Rat.intCast_le_intCast.2 (show -n ≤ 9007199254740992 by omega)
  rw [Rat.intCast_neg] at hb2
  have h53 := p2_lt (show (53 : Int) < 1023 by decide)
  constructor <;> grind

theorem int_add {x y r : Nat} {a b : Int} (ha : Fv x (a : Rat)) (hb : Fv y (b : Rat)) (h1 : -9007199254740992 ≤ a + b) (h2 : a + b ≤ 9007199254740992) (h : FAr .add x y r) : Fv r ((a + b : Int) : Rat) := by
  have hbd := int_bound h1 h2
  have e : ((a + b : Int) : Rat) = (a : Rat) + (b : Rat) := Rat.intCast_add a b
  obtain ⟨c, hc, hr⟩ := far_add h ha hb (by rw [← e]; exact hbd.1) (by rw [← e]; exact hbd.2)
  rw [← e] at hr
  rw [hr.exact (rep_int h1 h2)] at hc
  exact hc
theorem int_sub {x y r : Nat} {a b : Int} (ha : Fv x (a : Rat)) (hb : Fv y (b : Rat)) (h1 : -9007199254740992 ≤ a - b) (h2 : a - b ≤ 9007199254740992) (h : FAr .sub x y r) : Fv r ((a - b : Int) : Rat) := by
  have hbd := int_bound h1 h2
  have e : ((a - b : Int) : Rat) = (a : Rat) - (b : Rat) := Rat.intCast_sub a b
  obtain ⟨c, hc, hr⟩ := far_sub h ha hb (by rw [← e]; exact hbd.1) (by rw [← e]; exact hbd.2)
  rw [← e] at hr
  rw [hr.exact (rep_int h1 h2)] at hc
  exact hc
theorem int_mul {x y r : Nat} {a b : Int} (ha : Fv x (a : Rat)) (hb : Fv y (b : Rat)) (h1 : -9007199254740992 ≤ a * b) (h2 : a * b ≤ 9007199254740992) (h : FAr .mul x y r) : Fv r ((a * b : Int) : Rat) := by
  have hbd := int_bound h1 h2
  have e : ((a * b : Int) : Rat) = (a : Rat) * (b : Rat) := Rat.intCast_mul a b
  obtain ⟨c, hc, hr⟩ := far_mul h ha hb (by rw [← e]; exact hbd.1) (by rw [← e]; exact hbd.2)
  rw [← e] at hr
  rw [hr.exact (rep_int h1 h2)] at hc
  exact hc

/-- What is not equal can't both be the sum of two whole numbers. -/
theorem no_add {x y r r' : Nat} {a b : Int} (hf : fcmp .eql r r' = false) (h : FAr .add x y r) (h' : FAr .add x y r') (ha : Fv x (a : Rat)) (hb : Fv y (b : Rat)) (h1 : -9007199254740992 ≤ a + b) (h2 : a + b ≤ 9007199254740992) : False := by
  have := far_uniq ha hb (.inl rfl) h h'
  subst this
  rw [eql_self (int_add ha hb h1 h2 h)] at hf; cases hf
theorem no_sub {x y r r' : Nat} {a b : Int} (hf : fcmp .eql r r' = false) (h : FAr .sub x y r) (h' : FAr .sub x y r') (ha : Fv x (a : Rat)) (hb : Fv y (b : Rat)) (h1 : -9007199254740992 ≤ a - b) (h2 : a - b ≤ 9007199254740992) : False := by
  have := far_uniq ha hb (.inr (.inl rfl)) h h'
  subst this
  rw [eql_self (int_sub ha hb h1 h2 h)] at hf; cases hf
theorem true_of_no {b : Bool} (h : b = false → False) : b = true := by cases b with
  | true => rfl
  | false => exact (h rfl).elim

theorem mul_bound {a b : Int} {A B : Int} (h1 : -A ≤ a) (h2 : a ≤ A) (h3 : -B ≤ b) (h4 : b ≤ B) : -(A * B) ≤ a * b ∧ a * b ≤ A * B := by
  have hA : 0 ≤ A := by omega
  have hB : 0 ≤ B := by omega
  have k1 := Int.mul_nonneg (show 0 ≤ A - a by omega) (show 0 ≤ B - b by omega)
  have k2 := Int.mul_nonneg (show 0 ≤ A + a by omega) (show 0 ≤ B + b by omega)
  have k3 := Int.mul_nonneg (show 0 ≤ A - a by omega) (show 0 ≤ B + b by omega)
  have k4 := Int.mul_nonneg (show 0 ≤ A + a by omega) (show 0 ≤ B - b by omega)
  constructor <;> grind
end Go.Lg
