/-
  The square root of a square. No conditions.
-/
import Derived.Test.YthafjfgmbmpfoaaFl4
set_option linter.unusedVariables false
set_option linter.unusedSimpArgs false
namespace Go.Lg
open Ieee

theorem rootFrom_spec (n : Nat) : ∀ (todo root : Nat), root * root ≤ n → n < (root + 2 ^ todo) * (root + 2 ^ todo) →
    Datum.rootFrom n todo root * Datum.rootFrom n todo root ≤ n ∧ n < (Datum.rootFrom n todo root + 1) * (Datum.rootFrom n todo root + 1)
  | 0, root, h1, h2 => ⟨h1, by show n < (root + 1) * (root + 1); simpa using h2⟩
  | todo + 1, root, h1, h2 => by
    unfold Datum.rootFrom
    simp only [Nat.one_shiftLeft]
    have e : (2 : Nat) ^ (todo + 1) = 2 ^ todo + 2 ^ todo := by rw [Nat.pow_succ]; omega
    by_cases hc : (root + 2 ^ todo) * (root + 2 ^ todo) ≤ n
    · rw [if_pos hc]
      exact rootFrom_spec n todo _ hc (by rw [Nat.add_assoc, ← e]; exact h2)
    · rw [if_neg hc]
      exact rootFrom_spec n todo _ h1 (by omega)
theorem sq_lt {a b : Nat} (h : a * a < b * b) : a < b := by
  rcases Nat.lt_or_ge a b with h1 | h1
  · exact h1
  · exact absurd (Nat.mul_le_mul h1 h1) (by omega)
theorem root_sq {w : Nat} : Datum.rootFrom (w * w) ((w * w).log2 / 2 + 1) 0 = w := by
  have hlog : w * w < 2 ^ ((w * w).log2 + 1) := Nat.lt_log2_self
  have h := rootFrom_spec (w * w) ((w * w).log2 / 2 + 1) 0 (by omega) (by
    rw [Nat.zero_add, ← Nat.pow_add]
    exact Nat.lt_of_lt_of_le hlog (Nat.pow_le_pow_right (by decide) (by omega)))
  generalize Datum.rootFrom (w * w) ((w * w).log2 / 2 + 1) 0 = r at h
  have h2 := sq_lt h.2
  rcases Nat.lt_or_ge w r with h1 | h1
  · have := Nat.mul_lt_mul'' h1 h1; omega
  · omega

theorem read_big {x : Nat} {s : Bool} {m : Nat} {e : Int} (hr : double.read x = .number s m e) : e = -1074 ∨ 4503599627370496 ≤ m := by
  have hread : double.read x = (if x % 9223372036854775808 < 4503599627370496 then
      Datum.number (x / 9223372036854775808 % 2 == 1) (x % 9223372036854775808) (-1074)
    else if x % 9223372036854775808 < 9218868437227405312 then
      Datum.number (x / 9223372036854775808 % 2 == 1) (4503599627370496 + x % 9223372036854775808 % 4503599627370496) (-1074 + ((x % 9223372036854775808 / 4503599627370496 - 1 : Nat) : Int))
    else if x % 9223372036854775808 = 9218868437227405312 then Datum.infinity (x / 9223372036854775808 % 2 == 1)
    else Datum.nan (x / 9223372036854775808 % 2 == 1) (x % 9223372036854775808 - 9218868437227405312)) := rfl
  rw [hread] at hr
  by_cases c1 : x % 9223372036854775808 < 4503599627370496
  · rw [if_pos c1] at hr; cases hr; exact .inl rfl
  · rw [if_neg c1] at hr
    by_cases c2 : x % 9223372036854775808 < 9218868437227405312
    · rw [if_pos c2] at hr; cases hr; right; omega
    · rw [if_neg c2] at hr
      by_cases c3 : x % 9223372036854775808 = 9218868437227405312
      · rw [if_pos c3] at hr; cases hr
      · rw [if_neg c3] at hr; cases hr

/-- What the root of a number is: one word, or no number. -/
def SqrtR (x r : Nat) : Prop := ∀ w, double.sqrt x = some w → r = w

theorem sqrt_sq {x r k : Nat} (h : Fv x ((k * k : Nat) : Rat)) (hk : k * k < 9007199254740992) (hr : SqrtR x r) : Fv r (k : Rat) := by
  obtain ⟨s, m, e, hx, hq⟩ := h
  have hbig := read_big hx
  have hkb : k < 9007199254740992 := by
    rcases Nat.lt_or_ge k 9007199254740992 with h | h
    · exact h
    · have := Nat.mul_le_mul h h; omega
  have hp := p2_pos e
  by_cases hm : m = 0
  · subst hm
    have hk0 : k = 0 := by
      have h0 : ((k * k : Nat) : Rat) = 0 := by rw [hq]; grind
      have h1 : k * k = 0 := by exact_mod_cast h0
      rcases Nat.mul_eq_zero.1 h1 with h | h <;> exact h
    subst hk0
    have hw : double.sqrt x = some (double.write (.number s 0 e)) := by
      show ((double.read x).root _).map double.write = _
      rw [hx]; rfl
    obtain ⟨c, hc, hrd⟩ := write_rnd (s := s) (m := 0) (e := e) (by have := p2_pos 1023; grind) (by have := p2_pos 1023; grind)
    have hz : sgn s * ((0 : Nat) : Rat) * p2 e = ((0 : Int) : Rat) := by grind
    rw [hz] at hrd
    have := hrd.exact (rep_int (n := 0) (by decide) (by decide))
    subst this
    rw [hr _ hw]
    simpa using hc
  · have hmp : (0 : Rat) < (m : Rat) := by exact_mod_cast Nat.pos_of_ne_zero hm
    have hmul : 0 < (m : Rat) * p2 e := Rat.mul_pos hmp hp
    have hkk : (0 : Rat) ≤ ((k * k : Nat) : Rat) := by exact_mod_cast Nat.zero_le _
    have hs : s = false := by
      cases s with
      | false => rfl
      | true => exfalso; unfold sgn at hq; grind
    subst hs
    have hq2 : ((k * k : Nat) : Rat) = (m : Rat) * p2 e := by rw [hq]; unfold sgn; grind
    have he : e ≤ 0 := by
      rcases Int.lt_or_le 0 e with h | h
      · exfalso
        have hm2 : 4503599627370496 ≤ m := by rcases hbig with h1 | h1 <;> omega
        have e1 : p2 e = ((2 ^ e.toNat : Nat) : Rat) := p2_toNat (by omega)
        rw [e1, ← Rat.natCast_mul] at hq2
        have h3 : k * k = m * 2 ^ e.toNat := by exact_mod_cast hq2
        have h4 : 2 ^ 1 ≤ 2 ^ e.toNat := Nat.pow_le_pow_right (by decide) (by omega)
        have h5 := Nat.mul_le_mul hm2 h4
        omega
      · exact h
    obtain ⟨d, rfl⟩ : ∃ d : Nat, e = -(d : Int) := ⟨(-e).toNat, by omega⟩
    have hmk : m = k * k * 2 ^ d := by
      have e1 : p2 (-(d : Int)) * p2 (d : Int) = 1 := by rw [← p2_add, Int.add_left_neg]; exact p2_zero
      have e2 : p2 (d : Int) = ((2 ^ d : Nat) : Rat) := p2_nat d
      have : (m : Rat) = ((k * k * 2 ^ d : Nat) : Rat) := by
        rw [Rat.natCast_mul, ← e2, hq2]; grind
      exact_mod_cast this
    generalize hmore : (2 * (double.fractionBits + 2) - m.log2) + ((-(d : Int) - ((2 * (double.fractionBits + 2) - m.log2 : Nat) : Int)) % 2).toNat = more
    obtain ⟨hh, hhe⟩ : ∃ hh : Nat, d + more = 2 * hh := ⟨(d + more) / 2, by omega⟩
    have hn : m <<< more = (k * 2 ^ hh) * (k * 2 ^ hh) := by
      rw [Nat.shiftLeft_eq, hmk, Nat.mul_assoc, ← Nat.pow_add, hhe, Nat.two_mul, Nat.pow_add]
      simp only [Nat.mul_assoc, Nat.mul_left_comm, Nat.mul_comm]
    have hroot : (Datum.number false m (-(d : Int))).root (double.fractionBits + 2) = some (.number false (2 * (k * 2 ^ hh)) (-(hh : Int) - 1)) := by
      simp only [Datum.root, if_neg hm, Bool.false_eq_true, if_false]
      rw [hmore, hn, root_sq]
      congr 2
      · simp
      · omega
    have hw : double.sqrt x = some (double.write (.number false (2 * (k * 2 ^ hh)) (-(hh : Int) - 1))) := by
      show ((double.read x).root _).map double.write = _
      rw [hx, hroot]; rfl
    have hval : sgn false * ((2 * (k * 2 ^ hh) : Nat) : Rat) * p2 (-(hh : Int) - 1) = ((k : Int) : Rat) := by
      have e1 : p2 (-(hh : Int) - 1) * p2 ((hh + 1 : Nat) : Int) = 1 := by rw [← p2_add, show -(hh : Int) - 1 + ((hh + 1 : Nat) : Int) = 0 by omega]; exact p2_zero
      have e2 : ((2 * (k * 2 ^ hh) : Nat) : Rat) = (k : Rat) * p2 ((hh + 1 : Nat) : Int) := by
        rw [p2_nat, ← Rat.natCast_mul]; congr 1
        rw [Nat.pow_succ]; simp only [Nat.mul_assoc, Nat.mul_left_comm, Nat.mul_comm]
      rw [e2, Rat.intCast_natCast]; unfold sgn; grind
    obtain ⟨c, hc, hrd⟩ := write_rnd (s := false) (m := 2 * (k * 2 ^ hh)) (e := -(hh : Int) - 1)
      (by
        rw [hval]
        have : ((k : Int) : Rat) < p2 53 := by rw [p2_toNat (by decide), Rat.intCast_natCast]; exact_mod_cast hkb
        have := p2_le (show (53 : Int) ≤ 1023 by decide)
        grind)
      (by
        rw [hval]
        have : (0 : Rat) ≤ ((k : Int) : Rat) := by rw [Rat.intCast_natCast]; exact_mod_cast Nat.zero_le k
        have := p2_pos 1023
        grind)
    rw [hval] at hrd
    have := hrd.exact (rep_int (n := (k : Int)) (by omega) (by omega))
    subst this
    rw [hr _ hw]
    simpa [Rat.intCast_natCast] using hc
end Go.Lg
