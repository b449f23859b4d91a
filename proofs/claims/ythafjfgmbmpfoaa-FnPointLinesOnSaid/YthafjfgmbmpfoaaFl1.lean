/-
  The numbers that the words of a 64-bit float stand for, and how an exact result is rounded. No conditions.
-/
import Ieee.Arith
set_option linter.unusedVariables false
set_option linter.unusedSimpArgs false
namespace Go.Lg
open Ieee

/-- Two to a power. -/
def p2 (e : Int) : Rat := (2 : Rat) ^ e
theorem p2_add (a b : Int) : p2 (a + b) = p2 a * p2 b := Rat.zpow_add (by decide) a b
theorem p2_pos (e : Int) : 0 < p2 e := Rat.zpow_pos (by decide)
theorem p2_zero : p2 0 = 1 := Rat.zpow_zero _
theorem p2_nat (n : Nat) : p2 (n : Int) = ((2 ^ n : Nat) : Rat) := by unfold p2; rw [Rat.zpow_natCast, Rat.natCast_pow]; rfl
theorem p2_one : p2 1 = 2 := Rat.zpow_one _
theorem p2_succ (e : Int) : p2 (e + 1) = 2 * p2 e := by rw [p2_add, p2_one]; grind
theorem p2_inv (e : Int) : p2 (-e) * p2 e = 1 := by rw [← p2_add, Int.add_left_neg, p2_zero]
theorem p2_le {a b : Int} (h : a ≤ b) : p2 a ≤ p2 b := by
  have e : p2 b = p2 (b - a) * p2 a := by rw [← p2_add]; congr 1; omega
  have e2 : p2 (b - a) = ((2 ^ (b - a).toNat : Nat) : Rat) := by rw [← p2_nat]; congr 1; omega
  have h1 : (1 : Rat) ≤ ((2 ^ (b - a).toNat : Nat) : Rat) := by
    have : 1 ≤ 2 ^ (b - a).toNat := Nat.one_le_two_pow
    exact_mod_cast this
  have h2 := p2_pos a
  rw [e, e2]
  have := Rat.mul_nonneg (a := ((2 ^ (b - a).toNat : Nat) : Rat) - 1) (b := p2 a) (by grind) (by grind)
  grind
theorem p2_lt {a b : Int} (h : a < b) : p2 a < p2 b := by
  have h1 := p2_le (show a + 1 ≤ b by omega)
  rw [p2_succ] at h1
  have := p2_pos a
  grind
theorem p2_lt_iff {a b : Int} : p2 a < p2 b ↔ a < b := by
  constructor
  · intro h
    rcases Classical.em (a < b) with h' | h'
    · exact h'
    · have := p2_le (show b ≤ a by omega); grind
  · exact p2_lt

/-- Multiplying both sides by something positive. -/
theorem mul_lt {a b c : Rat} (h : a < b) (hc : 0 < c) : a * c < b * c := by
  have := Rat.mul_pos (a := b - a) (b := c) (by grind) hc
  grind
theorem mul_le {a b c : Rat} (h : a ≤ b) (hc : 0 ≤ c) : a * c ≤ b * c := by
  have := Rat.mul_nonneg (a := b - a) (b := c) (by grind) hc
  grind
theorem of_mul_lt {a b c : Rat} (h : a * c < b * c) (hc : 0 < c) : a < b := by
  rcases Classical.em (a < b) with h' | h'
  · exact h'
  · have := mul_le (a := b) (b := a) (c := c) (by grind) (by grind)
    grind
theorem of_mul_le {a b c : Rat} (h : a * c ≤ b * c) (hc : 0 < c) : a ≤ b := by
  rcases Classical.em (a ≤ b) with h' | h'
  · exact h'
  · have := mul_lt (a := b) (b := a) (c := c) (by grind) hc
    grind
theorem of_mul_eq {a b c : Rat} (h : a * c = b * c) (hc : 0 < c) : a = b := by
  have h1 := of_mul_le (a := a) (b := b) (c := c) (by grind) hc
  have h2 := of_mul_le (a := b) (b := a) (c := c) (by grind) hc
  grind

/-! ### Rounding to a whole number -/

theorem cut_spec (neg : Bool) (n drop : Nat) : 2 * (Toward.even.cut neg n drop) * 2 ^ drop ≤ 2 * n + 2 ^ drop ∧ 2 * n ≤ 2 * (Toward.even.cut neg n drop) * 2 ^ drop + 2 ^ drop := by
  unfold Toward.cut
  dsimp only
  by_cases h : drop ≤ n.log2 + 2
  · rw [Nat.min_eq_left h, Nat.one_shiftLeft]
    have hg : 0 < 2 ^ drop := Nat.two_pow_pos _
    generalize 2 ^ drop = g at *
    have hn := Nat.div_add_mod n g
    have hr := Nat.mod_lt n hg
    generalize n / g = q at *
    generalize n % g = r at *
    subst hn
    have e : ∀ b : Bool, 2 * (q + b.toNat) * g = 2 * (g * q) + 2 * (b.toNat * g) := fun b => by
      rw [Nat.mul_add, Nat.add_mul, Nat.mul_assoc, Nat.mul_assoc, Nat.mul_comm q g]
    rw [e]
    by_cases h1 : g < 2 * r
    · simp [h1]; omega
    · by_cases h2 : g = 2 * r ∧ q % 2 = 1
      · simp [h2]; omega
      · have : (decide (g < 2 * r) || g == 2 * r && q % 2 == 1) = false := by simp; exact ⟨by omega, fun a => by omega⟩
        rw [this]; simp; omega
  · rw [Nat.min_eq_right (by omega), Nat.one_shiftLeft]
    have hlt : n < 2 ^ (n.log2 + 1) := Nat.lt_log2_self
    have e : 2 ^ (n.log2 + 2) = 2 * 2 ^ (n.log2 + 1) := by rw [Nat.pow_succ, Nat.mul_comm]
    have hd : 2 ^ (n.log2 + 2) ≤ 2 ^ drop := Nat.pow_le_pow_right (by decide) (by omega)
    have h1 : n / 2 ^ (n.log2 + 2) = 0 := Nat.div_eq_of_lt (by omega)
    have h2 : n % 2 ^ (n.log2 + 2) = n := Nat.mod_eq_of_lt (by omega)
    rw [h1, h2]
    have : (decide (2 ^ (n.log2 + 2) < 2 * n) || 2 ^ (n.log2 + 2) == 2 * n && 0 % 2 == 1) = false := by simp; omega
    rw [this]; simp; omega

/-! ### Words and numbers -/

def sgn (neg : Bool) : Rat := if neg then -1 else 1
theorem sgn_sq (s : Bool) : sgn s * sgn s = 1 := by cases s <;> (unfold sgn; grind)

/-- The word x stands for the number q. -/
structure Fv (x : Nat) (q : Rat) : Prop where
  ex : ∃ s m e, double.read x = .number s m e ∧ q = sgn s * (m : Rat) * p2 e

theorem Fv.uniq {x : Nat} {a b : Rat} (h : Fv x a) (h' : Fv x b) : a = b := by
  obtain ⟨s, m, e, h1, h2⟩ := h
  obtain ⟨s', m', e', h1', h2'⟩ := h'
  rw [h1] at h1'; cases h1'
  rw [h2, h2']

theorem dbl_binade : double.binade = 4503599627370496 := rfl
theorem dbl_inf : double.infRung = 9218868437227405312 := rfl
theorem dbl_sign : double.signWeight = 9223372036854775808 := rfl
theorem dbl_least : double.leastPlace = -1074 := rfl

/-- A rung below infinity, read. -/
theorem read_word (neg : Bool) (E k : Nat) (hk : k ≤ 9007199254740992) (hE : E ≤ 2044) (hn : 1 ≤ E → 4503599627370496 ≤ k) :
    ∃ m e, double.read (double.word neg (E * 4503599627370496 + k)) = .number neg m e ∧ (m : Rat) * p2 e = (k : Rat) * p2 (E - 1074) := by
  have hr : E * 4503599627370496 + k < 9218868437227405312 := by omega
  have h1 : (double.word neg (E * 4503599627370496 + k)) / 9223372036854775808 % 2 = (if neg then 1 else 0) := by
    unfold Format.word; rw [dbl_sign]; cases neg <;> simp <;> omega
  have h2 : (double.word neg (E * 4503599627370496 + k)) % 9223372036854775808 = E * 4503599627370496 + k := by
    unfold Format.word; rw [dbl_sign]; cases neg <;> simp <;> omega
  simp only [Format.read, dbl_sign, dbl_binade, dbl_inf, dbl_least, h1, h2]
  have hneg : ((if neg = true then 1 else 0 : Nat) == 1) = neg := by cases neg <;> rfl
  rw [hneg]
  by_cases c1 : E * 4503599627370496 + k < 4503599627370496
  · rw [if_pos c1]
    obtain rfl : E = 0 := by omega
    exact ⟨_, _, rfl, by simp⟩
  · rw [if_neg c1, if_pos hr]
    refine ⟨_, _, rfl, ?_⟩
    by_cases c2 : k < 9007199254740992
    · by_cases c3 : 4503599627370496 ≤ k
      · have e1 : (E * 4503599627370496 + k) % 4503599627370496 = k - 4503599627370496 := by omega
        have e2 : (E * 4503599627370496 + k) / 4503599627370496 = E + 1 := by omega
        rw [e1, e2]
        have e3 : 4503599627370496 + (k - 4503599627370496) = k := by omega
        rw [e3]
        congr 2
      · omega
    · obtain rfl : k = 9007199254740992 := by omega
      have e1 : (E * 4503599627370496 + 9007199254740992) % 4503599627370496 = 0 := by omega
      have e2 : (E * 4503599627370496 + 9007199254740992) / 4503599627370496 = E + 2 := by omega
      rw [e1, e2]
      have e3 : (-1074 + ((E + 2 - 1 : Nat) : Int)) = ((E : Int) - 1074) + 1 := by omega
      rw [e3, p2_succ]
      have : (((4503599627370496 + 0 : Nat) : Rat)) * 2 = ((9007199254740992 : Nat) : Rat) := by norm_cast
      grind

/-- The place of the last digit that is kept. -/
def lastOf (mag : Nat) (place : Int) : Int := max (place + mag.log2 - 52) (-1074)

theorem log2_bounds {mag : Nat} (h : mag ≠ 0) : p2 (mag.log2 : Int) ≤ (mag : Rat) ∧ (mag : Rat) < p2 ((mag.log2 : Int) + 1) := by
  have h1 : 2 ^ mag.log2 ≤ mag := Nat.log2_self_le h
  have h2 : mag < 2 ^ (mag.log2 + 1) := Nat.lt_log2_self
  refine ⟨by rw [p2_nat]; exact_mod_cast h1, ?_⟩
  have : ((mag.log2 : Int) + 1) = ((mag.log2 + 1 : Nat) : Int) := by omega
  rw [this, p2_nat]; exact_mod_cast h2

/-- What rounding does: the result is a number within half a unit of the last place kept; its digits are a whole number of such units. -/
theorem nearest_spec (neg : Bool) (mag : Nat) (place : Int) (h0 : mag ≠ 0) (hov : (mag : Rat) * p2 place < p2 1023) :
    ∃ (k m : Nat) (e : Int), double.read (double.nearest neg mag place) = .number neg m e ∧ (m : Rat) * p2 e = (k : Rat) * p2 (lastOf mag place) ∧
      2 * ((k : Rat) * p2 (lastOf mag place)) ≤ 2 * ((mag : Rat) * p2 place) + p2 (lastOf mag place) ∧ 2 * ((mag : Rat) * p2 place) ≤ 2 * ((k : Rat) * p2 (lastOf mag place)) + p2 (lastOf mag place) := by
  have hlog := log2_bounds h0
  have key : double.nearest neg mag place = if mag = 0 then double.word neg 0 else double.word neg (min ((lastOf mag place - -1074).toNat * 4503599627370496 +
      Toward.even.cut neg (mag <<< (place - lastOf mag place).toNat) (lastOf mag place - place).toNat) 9218868437227405312) := rfl
  rw [key, if_neg h0]
  clear key
  generalize hL : lastOf mag place = last
  have hlast : last = max (place + mag.log2 - 52) (-1074) := hL.symm
  have hcut := cut_spec neg (mag <<< (place - last).toNat) (last - place).toNat
  generalize Toward.even.cut neg (mag <<< (place - last).toNat) (last - place).toNat = k at *
  rw [Nat.shiftLeft_eq] at hcut
  -- both sides times 2^last / 2^drop
  have hq1 : 2 * ((k : Rat) * p2 last) ≤ 2 * ((mag : Rat) * p2 place) + p2 last ∧ 2 * ((mag : Rat) * p2 place) ≤ 2 * ((k : Rat) * p2 last) + p2 last := by
    have c1 : 2 * (k : Rat) * p2 ((last - place).toNat : Int) ≤ 2 * ((mag : Rat) * p2 ((place - last).toNat : Int)) + p2 ((last - place).toNat : Int) := by
      rw [p2_nat, p2_nat]; exact_mod_cast hcut.1
    have c2 : 2 * ((mag : Rat) * p2 ((place - last).toNat : Int)) ≤ 2 * (k : Rat) * p2 ((last - place).toNat : Int) + p2 ((last - place).toNat : Int) := by
      rw [p2_nat, p2_nat]; exact_mod_cast hcut.2
    have hp := p2_pos (last - ((last - place).toNat : Int))
    have e1 : p2 ((last - place).toNat : Int) * p2 (last - ((last - place).toNat : Int)) = p2 last := by rw [← p2_add]; congr 1; omega
    have e2 : p2 ((place - last).toNat : Int) * p2 (last - ((last - place).toNat : Int)) = p2 place := by rw [← p2_add]; congr 1; omega
    have d1 := mul_le c1 (Rat.le_of_lt hp)
    have d2 := mul_le c2 (Rat.le_of_lt hp)
    generalize p2 ((last - place).toNat : Int) = A at *
    generalize p2 ((place - last).toNat : Int) = B at *
    generalize p2 (last - ((last - place).toNat : Int)) = C at *
    have r1 : 2 * (k : Rat) * A * C = 2 * ((k : Rat) * p2 last) := by rw [← e1]; grind
    have r2 : (2 * ((mag : Rat) * B) + A) * C = 2 * ((mag : Rat) * p2 place) + p2 last := by rw [← e1, ← e2]; grind
    have r3 : 2 * ((mag : Rat) * B) * C = 2 * ((mag : Rat) * p2 place) := by rw [← e2]; grind
    have r4 : (2 * (k : Rat) * A + A) * C = 2 * ((k : Rat) * p2 last) + p2 last := by rw [← e1]; grind
    rw [r1, r2] at d1
    rw [r3, r4] at d2
    exact ⟨d1, d2⟩
  have hp := p2_pos last
  have hpp := p2_pos place
  -- k is at most 2^53
  have hvlt : (mag : Rat) * p2 place < p2 (last + 53) := by
    have h1 := mul_lt hlog.2 hpp
    rw [← p2_add] at h1
    have := p2_le (show (mag.log2 : Int) + 1 + place ≤ last + 53 by omega)
    grind
  have hk : k ≤ 9007199254740992 := by
    have h53 : p2 (last + 53) = 9007199254740992 * p2 last := by
      rw [p2_add]; have : p2 53 = 9007199254740992 := by rw [show (53 : Int) = ((53 : Nat) : Int) from rfl, p2_nat]; norm_cast
      rw [this]; grind
    have : (k : Rat) * p2 last < (9007199254740993 : Rat) * p2 last := by grind
    have := of_mul_lt this hp
    have : k < 9007199254740993 := by exact_mod_cast this
    omega
  have hlow : -1074 < last → 4503599627370496 ≤ k := by
    intro hlt
    have hle : p2 (last + 52) ≤ (mag : Rat) * p2 place := by
      have h1 := mul_le hlog.1 (Rat.le_of_lt hpp)
      rw [← p2_add] at h1
      have := p2_le (show last + 52 ≤ (mag.log2 : Int) + place by omega)
      grind
    have h52 : p2 (last + 52) = 4503599627370496 * p2 last := by
      rw [p2_add]; have : p2 52 = 4503599627370496 := by rw [show (52 : Int) = ((52 : Nat) : Int) from rfl, p2_nat]; norm_cast
      rw [this]; grind
    have : (4503599627370495 : Rat) * p2 last < (k : Rat) * p2 last := by grind
    have := of_mul_lt this hp
    have : 4503599627370495 < k := by exact_mod_cast this
    omega
  have hlast2 : last ≤ 970 := by
    have h1 := mul_le hlog.1 (Rat.le_of_lt hpp)
    rw [← p2_add] at h1
    have : p2 ((mag.log2 : Int) + place) < p2 1023 := by grind
    have := p2_lt_iff.1 this
    omega
  have hE : ((last - -1074).toNat : Int) = last + 1074 := by omega
  have hmin : min ((last - -1074).toNat * 4503599627370496 + k) 9218868437227405312 = (last - -1074).toNat * 4503599627370496 + k := by omega
  rw [hmin]
  obtain ⟨m, e, hr, hv⟩ := read_word neg (last - -1074).toNat k hk (by omega) (fun h => hlow (by omega))
  refine ⟨k, m, e, hr, ?_, hq1⟩
  rw [hv]; congr 2; omega
end Go.Lg
