/-
  A number without its sign, of the machine; whole numbers told by their truncation and their size. No conditions.
-/
import Derived.Test.YthafjfgmbmpfoaaLg9
import Derived.Test.YthafjfgmbmpfoaaFl4
set_option linter.unusedVariables false
set_option linter.unusedSimpArgs false
namespace Go.Lg
open Ieee

def rabs (q : Rat) : Rat := if q < 0 then -q else q
theorem rabs_nonneg (q : Rat) : 0 ≤ rabs q := by unfold rabs; split <;> grind
theorem rabs_cases (q : Rat) : rabs q = q ∨ rabs q = -q := by unfold rabs; split <;> simp
theorem le_rabs (q : Rat) : q ≤ rabs q ∧ -q ≤ rabs q := by unfold rabs; split <;> constructor <;> grind
theorem rabs_le {q m : Rat} : rabs q ≤ m ↔ -m ≤ q ∧ q ≤ m := by unfold rabs; split <;> constructor <;> grind
theorem rabs_lt {q m : Rat} : rabs q < m ↔ -m < q ∧ q < m := by unfold rabs; split <;> constructor <;> grind

theorem read_eq (x : Nat) : double.read x = (if x % 9223372036854775808 < 4503599627370496 then
      Datum.number (x / 9223372036854775808 % 2 == 1) (x % 9223372036854775808) (-1074)
    else if x % 9223372036854775808 < 9218868437227405312 then
      Datum.number (x / 9223372036854775808 % 2 == 1) (4503599627370496 + x % 9223372036854775808 % 4503599627370496) (-1074 + ((x % 9223372036854775808 / 4503599627370496 - 1 : Nat) : Int))
    else if x % 9223372036854775808 = 9218868437227405312 then Datum.infinity (x / 9223372036854775808 % 2 == 1)
    else Datum.nan (x / 9223372036854775808 % 2 == 1) (x % 9223372036854775808 - 9218868437227405312)) := rfl
def Datum.noSign : Datum → Datum
  | .number _ m e => .number false m e
  | .infinity _ => .infinity false
  | .nan _ t => .nan false t
theorem read_abs (x : Nat) : double.read (x % 9223372036854775808) = Datum.noSign (double.read x) := by
  rw [read_eq, read_eq x, Nat.mod_mod]
  have h0 : x % 9223372036854775808 / 9223372036854775808 % 2 = 0 := by omega
  rw [h0]
  split
  · rfl
  split
  · rfl
  split
  · rfl
  · rfl
theorem Fv.abs {x : Nat} {q : Rat} (h : Fv x q) : Fv (x % 9223372036854775808) (rabs q) := by
  obtain ⟨s, m, e, hr, rfl⟩ := h
  refine ⟨false, m, e, by rw [read_abs, hr]; rfl, ?_⟩
  have hm : (0 : Rat) ≤ (m : Rat) * p2 e := by
    have := mul_le (a := 0) (b := (m : Rat)) (by exact_mod_cast Nat.zero_le m) (by have := p2_pos e; grind : (0 : Rat) ≤ p2 e)
    grind
  have h1 : sgn false * (m : Rat) * p2 e = (m : Rat) * p2 e := by unfold sgn; grind
  rw [h1]
  cases s with
  | false =>
    rw [h1]; unfold rabs; rw [if_neg (by grind)]
  | true =>
    have h2 : sgn true * (m : Rat) * p2 e = -((m : Rat) * p2 e) := by unfold sgn; grind
    rw [h2]; unfold rabs
    split <;> grind
theorem ibits_abs (x : Nat) : ibits .andNot .u64 ((x : Nat) : Int) 9223372036854775808 = ((x % 9223372036854775808 : Nat) : Int) := by
  show IntKind.u64.wrap (((BitVec.ofInt 64 ((x : Nat) : Int) &&& ~~~ BitVec.ofInt 64 9223372036854775808 : BitVec 64).toNat : Nat) : Int) = _
  have e : (~~~ BitVec.ofInt 64 9223372036854775808 : BitVec 64) = BitVec.ofNat 64 (2 ^ 63 - 1) := by decide
  rw [e, BitVec.ofInt_natCast, BitVec.toNat_and, BitVec.toNat_ofNat, BitVec.toNat_ofNat, Nat.mod_eq_of_lt (a := 2 ^ 63 - 1) (by decide), Nat.and_two_pow_sub_one_eq_mod, show x % 2 ^ 64 % 2 ^ 63 = x % 2 ^ 63 by omega]
  have h64 : IntKind.u64.wrap ((x % 2 ^ 63 : Nat) : Int) = ((x % 2 ^ 63 : Nat) : Int) := by simp only [IntKind.wrap, IntKind.bits, IntKind.signed]; simp; omega
  exact h64
/-- What 'x is its truncation and no greater than most' says. -/
theorem whole_abs {x most r : Nat} {M : Nat} (hM : Fv most (M : Rat)) (hMb : M ≤ 9007199254740992) (hr : TruncR x r)
    (h1 : fcmp .neq x r = false) (h2 : fcmp .gtr (x % 9223372036854775808) most = false) : ∃ n : Int, Fv x (n : Rat) ∧ -(M : Int) ≤ n ∧ n ≤ M := by
  have hM0 := hM
  obtain ⟨sM, mM, eM, hrM, _⟩ := hM0
  have ha := read_abs x
  have e1 : fcmp .eql x r = true := by simp [fcmp_def, fcmp0] at h1 ⊢; exact h1
  rcases hr with ⟨hn, _⟩ | ⟨hn, rfl⟩
  · cases hd : double.read x with
    | nan s t => simp [fcmp_def, fcmp0, Format.order, hd, Datum.order] at e1
    | number => rw [hd] at hn; cases hn
    | infinity => rw [hd] at hn; cases hn
  cases hd : double.read x with
  | nan s t => rw [hd] at hn; cases hn
  | infinity s =>
    rw [hd] at ha
    simp [fcmp_def, fcmp0, Format.order, ha, Datum.noSign, hrM, Datum.order] at h2
  | number s m i =>
    have hx : Fv x (sgn s * (m : Rat) * p2 i) := ⟨s, m, i, hd, rfl⟩
    generalize sgn s * (m : Rat) * p2 i = q at hx
    rw [fcmp_gtr hx.abs hM] at h2
    have h2' : rabs q ≤ (M : Rat) := by
      have := of_decide_eq_false h2
      grind
    have h3 := rabs_le.1 h2'
    exact whole_of hM hM.neg hMb (by rw [fcmp_geq hx hM.neg]; exact decide_eq_true h3.1) (by rw [fcmp_leq hx hM]; exact decide_eq_true h3.2) e1
end Go.Lg
