/-
  Whole numbers as floats, with bounds; roots of whole numbers. No conditions.
-/
import Derived.Test.YthafjfgmbmpfoaaFl8
set_option linter.unusedVariables false
set_option linter.unusedSimpArgs false
namespace Go.Lg
open Ieee

/-- The float is this whole number, from -B to B. -/
structure FI (B : Nat) (x : Nat) (n : Int) : Prop where
  fv : Fv x (n : Rat)
  lo : -(B : Int) ≤ n
  hi : n ≤ B
theorem FI.sub {A B C x y r : Nat} {a b : Int} (h1 : FI A x a) (h2 : FI B y b) (hC : A + B = C ∧ C ≤ 9007199254740992) (h : FAr .sub x y r) : FI C r (a - b) :=
  ⟨int_sub h1.fv h2.fv (by have := h1.lo; have := h2.hi; omega) (by have := h1.hi; have := h2.lo; omega) h, by have := h1.lo; have := h2.hi; omega, by have := h1.hi; have := h2.lo; omega⟩
theorem FI.add {A B C x y r : Nat} {a b : Int} (h1 : FI A x a) (h2 : FI B y b) (hC : A + B = C ∧ C ≤ 9007199254740992) (h : FAr .add x y r) : FI C r (a + b) :=
  ⟨int_add h1.fv h2.fv (by have := h1.lo; have := h2.lo; omega) (by have := h1.hi; have := h2.hi; omega) h, by have := h1.lo; have := h2.lo; omega, by have := h1.hi; have := h2.hi; omega⟩
theorem FI.mul {A B C x y r : Nat} {a b : Int} (h1 : FI A x a) (h2 : FI B y b) (hC : A * B = C ∧ C ≤ 9007199254740992) (h : FAr .mul x y r) : FI C r (a * b) := by
  have hb := mul_bound h1.lo h1.hi h2.lo h2.hi
  have e : (A : Int) * (B : Int) = (C : Int) := by rw [← Int.natCast_mul, hC.1]
  rw [e] at hb
  exact ⟨int_mul h1.fv h2.fv (by omega) (by omega) h, hb.1, hb.2⟩
theorem FI.eql {A B x y : Nat} {a b : Int} (h1 : FI A x a) (h2 : FI B y b) : fcmp .eql x y = decide (a = b) := by
  rw [fcmp_eql h1.fv h2.fv]
  by_cases h : a = b
  · rw [decide_eq_true h, decide_eq_true (by rw [h])]
  · rw [decide_eq_false h, decide_eq_false (by exact_mod_cast h)]
theorem int_pos {n : Int} (h : n ≠ 0) : (1 : Rat) ≤ rabs (n : Rat) := by
  unfold rabs
  by_cases h1 : n < 0
  · rw [if_pos (by exact_mod_cast h1)]
    have : (1 : Rat) ≤ ((-n : Int) : Rat) := by exact_mod_cast (show 1 ≤ -n by omega)
    rw [Rat.intCast_neg] at this; exact this
  · rw [if_neg (by intro h2; exact h1 (by exact_mod_cast h2))]
    exact_mod_cast (show 1 ≤ n by omega)
theorem p2_ge1 : p2 (-1000) ≤ 1 := by rw [← p2_zero]; exact p2_le (by decide)
theorem int_le_p2 {n : Int} (h : n ≤ 9007199254740992) : (n : Rat) ≤ p2 53 := by
  have e : p2 53 = ((9007199254740992 : Nat) : Rat) := p2_toNat (by decide)
  rw [e, ← Rat.intCast_natCast]
  exact Rat.intCast_le_intCast.2 h
/-- The root of a whole number. -/
theorem FI.sqrt {B x r : Nat} {n : Int} (h : FI B x n) (hB : B ≤ 9007199254740992) (h0 : 0 ≤ n) (hr : SqrtR x r) : ∃ c, Fv r c ∧ 0 ≤ c ∧ Rl (p2 (-51)) (c * c) (n : Rat) := by
  by_cases hn : n = 0
  · subst hn
    have : Fv x ((0 * 0 : Nat) : Rat) := by simpa using h.fv
    have := sqrt_sq this (by decide) hr
    refine ⟨0, by simpa using this, Rat.le_refl, ?_⟩
    have e : (0 : Rat) * 0 = ((0 : Int) : Rat) := by simp
    rw [e]
    exact (Rl.refl _).le (Rat.le_of_lt (p2_pos _))
  · have h1 : (1 : Rat) ≤ (n : Rat) := by exact_mod_cast (show 1 ≤ n by omega)
    obtain ⟨c, hc, hc0, hrel⟩ := sqrt_rel hr h.fv (by grind) (by have := p2_ge1; grind) (by
      have := int_le_p2 (n := n) (by have := h.hi; omega)
      have := p2_le (show (53 : Int) ≤ 1000 by decide)
      grind)
    exact ⟨c, hc, Rat.le_of_lt hc0, hrel⟩
theorem Rnd.abs_le {q c : Rat} (h : Rnd q c) : rabs c ≤ 2 * rabs q + p2 (-1000) := by
  obtain ⟨last, k, h1, h2, h3, h4, h5, h6, h7⟩ := h
  have e1 : p2 (-1074) ≤ p2 (-1000) := p2_le (by decide)
  have e2 : p2 last ≤ p2 (last + 52) := p2_le (by omega)
  have a := le_rabs q
  have := rabs_nonneg q
  have := p2_pos (-1000)
  clear h2 h6 h7
  refine rabs_le.2 ⟨?_, ?_⟩ <;> (rcases h5 with h | h | h <;> (try subst h) <;> grind)
/-- Two numbers from 0 on whose squares are nearly the same. -/
theorem near_roots {e X a b M : Rat} (ha : 0 ≤ a) (hb : 0 ≤ b) (h1 : Rl e (a * a) X) (h2 : Rl e (b * b) X) (hX : 0 ≤ X) (he : 0 ≤ e) (he2 : e ≤ p2 (-2)) (hM0 : 0 < M) (hM : X ≤ M * M) : rabs (a - b) ≤ 8 * e * M := by
  have p1 := h1.pos hX
  have p2' := h2.pos hX
  have q1 := mul_le he2 hX
  have e4 : p2 (-2) * X + p2 (-2) * X = p2 (-1) * X := by rw [← Rat.add_mul, ← p2_half (e := -2) (e' := -1) (by decide)]
  have e2 : p2 (-1) * X + p2 (-1) * X = X := by rw [← Rat.add_mul, ← p2_half (e' := 0) (by decide), p2_zero]; grind
  have e0 : e * X + e * X ≤ X := by grind
  -- a and b are at most 2 M
  have hM2 : 0 ≤ M := Rat.le_of_lt hM0
  have up : ∀ c, 0 ≤ c → c * c ≤ 2 * X → c ≤ 2 * M := by
    intro c hc hcc
    rcases (Rat.le_total : c ≤ 2 * M ∨ 2 * M ≤ c) with h | h
    · exact h
    · have b1 := mul_le h hc
      have b2 := mul_le_left h (show (0 : Rat) ≤ 2 * M by grind)
      rcases Rat.le_iff_lt_or_eq.1 h with h3 | h3
      · exfalso
        have b3 := Rat.mul_pos (show 0 < c - 2 * M by grind) (show 0 < c by grind)
        have b4 := Rat.mul_pos hM0 hM0
        grind
      · grind
  have ua := up a ha (by grind)
  have ub := up b hb (by grind)
  by_cases hab : a + b = 0
  · have e1 : a = 0 := by grind
    have e3 : b = 0 := by grind
    rw [e1, e3, Rat.sub_self, rabs_zero]
    have := Rat.mul_nonneg he hM2
    grind
  · have hs : 0 < a + b := by grind
    -- |a - b| (a + b) = |aa - bb| ≤ 2 e X and X ≤ 2 (a+b)^2
    have hab2 : rabs (a + b) = a + b := rabs_of_nonneg (Rat.le_of_lt hs)
    have k1 : rabs (a - b) * (a + b) = rabs (a * a - b * b) := by
      have : rabs (a - b) * rabs (a + b) = rabs (a * a - b * b) := by rw [← rabs_mul]; congr 1; grind
      rw [hab2] at this; exact this
    have k2 : rabs (a * a - b * b) ≤ 2 * e * X := rabs_le.2 ⟨by grind, by grind⟩
    have ab0 := Rat.mul_nonneg ha hb
    have k3 : X ≤ (a + b) * (a + b) := by grind
    have k4 := mul_le_left k3 (show 0 ≤ 2 * e by grind)
    have k5 : rabs (a - b) * (a + b) ≤ 2 * e * (a + b) * (a + b) := by grind
    have k6 := of_mul_le k5 hs
    have k7 := mul_le_left (show a + b ≤ 4 * M by grind) (show 0 ≤ 2 * e by grind)
    grind
end Go.Lg
