/-
  Conversions between floats and whole numbers. No conditions.
-/
import Derived.Test.YthafjfgmbmpfoaaFl3
set_option linter.unusedVariables false
set_option linter.unusedSimpArgs false
namespace Go.Lg
open Ieee

theorem fv_ofInt {n : Int} (h1 : -9007199254740992 ≤ n) (h2 : n ≤ 9007199254740992) : Fv (floatOfInt .f64 n) (n : Rat) := write_int h1 h2

/-- A whole number cut towards zero is itself. -/
theorem integral_int {s : Bool} {m : Nat} {i : Int} {n : Nat} (h : (m : Rat) * p2 i = (n : Rat)) : (Datum.number s m i).integral .zero = .number s n 0 := by
  have key : m * 2 ^ i.toNat = n * 2 ^ (-i).toNat := by
    have e1 : p2 ((-i).toNat : Int) * p2 i = p2 (i.toNat : Int) := by rw [← p2_add]; congr 1; omega
    have : (m : Rat) * p2 (i.toNat : Int) = (n : Rat) * p2 ((-i).toNat : Int) := by
      rw [← e1, ← h]; grind
    rw [p2_nat, p2_nat] at this
    exact_mod_cast this
  show Datum.number s (Toward.cut .zero s (m <<< i.toNat) (-i).toNat) 0 = _
  congr 1
  unfold Toward.cut
  simp only [Bool.toNat_false, Nat.add_zero]
  rw [Nat.shiftLeft_eq, key]
  by_cases h0 : n = 0
  · subst h0; simp
  · have hpos : 0 < 2 ^ (-i).toNat := Nat.two_pow_pos _
    have hle : (-i).toNat ≤ (n * 2 ^ (-i).toNat).log2 := by
      rw [Nat.le_log2 (by have := Nat.mul_pos (Nat.pos_of_ne_zero h0) hpos; omega)]
      exact Nat.le_mul_of_pos_left _ (Nat.pos_of_ne_zero h0)
    rw [Nat.min_eq_left (by omega), Nat.one_shiftLeft, Nat.mul_div_cancel _ hpos]

theorem ftoi {x : Nat} {n : Int} (h : Fv x (n : Rat)) (h1 : -9223372036854775808 ≤ n) (h2 : n ≤ 9223372036854775807) : floatToIntVal .f64 x .i64 = some n := by
  obtain ⟨s, m, i, hr, hq⟩ := h
  have hm : (m : Rat) * p2 i = ((n.natAbs : Nat) : Rat) ∧ signed s n.natAbs 0 = n := by
    have hp : 0 ≤ (m : Rat) * p2 i := Rat.mul_nonneg (by exact_mod_cast Nat.zero_le m) (Rat.le_of_lt (p2_pos _))
    cases s with
    | true =>
      have e : (m : Rat) * p2 i = ((-n : Int) : Rat) := by rw [Rat.intCast_neg]; unfold sgn at hq; grind
      have hn : n ≤ 0 := by
        have : (0 : Rat) ≤ ((-n : Int) : Rat) := by rw [← e]; exact hp
        have : (0 : Int) ≤ -n := by exact_mod_cast this
        omega
      refine ⟨by rw [e, ← Rat.intCast_natCast]; congr 1; omega, ?_⟩
      simp [signed]; omega
    | false =>
      have e : (m : Rat) * p2 i = ((n : Int) : Rat) := by unfold sgn at hq; grind
      have hn : 0 ≤ n := by
        have : (0 : Rat) ≤ ((n : Int) : Rat) := by rw [← e]; exact hp
        exact_mod_cast this
      refine ⟨by rw [e, ← Rat.intCast_natCast]; congr 1; omega, ?_⟩
      simp [signed]; omega
  have hi := integral_int (s := s) hm.1
  have ht : (FloatKind.f64.decode x).toInt .zero = some n := by
    show (match (double.read x).integral .zero with | .number s m _ => some (signed s m 0) | _ => none) = _
    rw [hr, hi]
    simp only [hm.2]
  unfold floatToIntVal
  rw [ht]
  simp only
  rw [if_pos]
  exact ⟨h1, h2⟩
end Go.Lg
