/-
  Sums, differences, products and comparisons of 64-bit floats: exact results rounded; exact where they are representable. No conditions.
-/
import Derived.Laws.AppendOwn
import Derived.Recover
import Derived.Laws.Build
import Derived.Laws.Pointers
import Derived.Test.YtomhkbijijdghaaZL2
import Derived.Test.YtomhkbijijdghaaZL3
import Derived.Test.YtomhkbijijdghaaZL4
set_option linter.unusedVariables false
set_option linter.unusedSimpArgs false
namespace Go.Lg
open Ieee

/-- c is q, rounded. -/
def Rnd (q c : Rat) : Prop := ∃ (last k : Int), -1074 ≤ last ∧ c = (k : Rat) * p2 last ∧ 2 * (c - q) ≤ p2 last ∧ 2 * (q - c) ≤ p2 last ∧
  (last = -1074 ∨ p2 (last + 52) ≤ q ∨ p2 (last + 52) ≤ -q) ∧ q < p2 (last + 53) ∧ -q < p2 (last + 53)

/-- A number with at most 53 digits. -/
def Rep (q : Rat) : Prop := ∃ (j t : Int), q = (j : Rat) * p2 t ∧ -1074 ≤ t ∧ -9007199254740992 ≤ j ∧ j ≤ 9007199254740992

theorem p2_toNat {e : Int} (h : 0 ≤ e) : p2 e = ((2 ^ e.toNat : Nat) : Rat) := by
  rw [← p2_nat]; congr 1; omega

/-- Two whole multiples of a unit that are nearer than the unit are one. -/
theorem near_eq {a b : Int} {u : Rat} (hu : 0 < u) (h1 : 2 * ((a : Rat) * u - (b : Rat) * u) ≤ u) (h2 : 2 * ((b : Rat) * u - (a : Rat) * u) ≤ u) : (a : Rat) * u = (b : Rat) * u := by
  have e1 : 2 * ((a : Rat) - b) * u ≤ 1 * u := by grind
  have e2 : 2 * ((b : Rat) - a) * u ≤ 1 * u := by grind
  have f1 := of_mul_le e1 hu
  have f2 := of_mul_le e2 hu
  have g1 : 2 * (a - b) ≤ 1 := by exact_mod_cast f1
  have g2 : 2 * (b - a) ≤ 1 := by exact_mod_cast f2
  have : a = b := by omega
  rw [this]

/-- A representable number is a whole multiple of the unit that rounding keeps. -/
theorem rep_unit {q : Rat} {j t last : Int} (hq : q = (j : Rat) * p2 t) (hlo : -9007199254740992 ≤ j) (hhi : j ≤ 9007199254740992) (ht : -1074 ≤ t)
    (hlast : last = -1074 ∨ p2 (last + 52) ≤ q ∨ p2 (last + 52) ≤ -q) : ∃ b : Int, q = (b : Rat) * p2 last := by
  by_cases h : last ≤ t
  · refine ⟨j * 2 ^ (t - last).toNat, ?_⟩
    have e : p2 t = p2 (t - last) * p2 last := by rw [← p2_add]; congr 1; omega
    rw [hq, e, p2_toNat (by omega), Rat.intCast_mul, Rat.intCast_pow, Rat.natCast_pow]
    have : ((2 : Int) : Rat) = ((2 : Nat) : Rat) := by norm_cast
    rw [this]; grind
  · have hl : -1074 < last := by omega
    have hp := p2_pos t
    have hj : p2 (last + 52) ≤ p2 53 * p2 t → last = t + 1 := by
      intro hle
      rw [← p2_add] at hle
      have : ¬ p2 (53 + t) < p2 (last + 52) := by grind
      rw [p2_lt_iff] at this
      omega
    have hjr1 : (j : Rat) ≤ p2 53 := by
      rw [p2_toNat (by decide), ← Rat.intCast_natCast]; exact Rat.intCast_le_intCast.2 hhi
    have hjr2 : -p2 53 ≤ (j : Rat) := by
      have : ((-j : Int) : Rat) ≤ p2 53 := by
        rw [p2_toNat (by decide), ← Rat.intCast_natCast]; exact Rat.intCast_le_intCast.2 (show -j ≤ 9007199254740992 by omega)
      rw [Rat.intCast_neg] at this; grind
    have hb1 := mul_le hjr1 (Rat.le_of_lt hp)
    have hb2 := mul_le hjr2 (Rat.le_of_lt hp)
    have hlt : last = t + 1 := by
      rcases hlast with h1 | h1 | h1
      · omega
      · exact hj (by grind)
      · exact hj (by grind)
    have e52 : p2 (last + 52) = p2 53 * p2 t := by rw [hlt, ← p2_add]; congr 1; omega
    have eb : (((2 ^ 52 : Nat) : Int) : Rat) * p2 last = p2 (last + 52) := by
      rw [Rat.intCast_natCast, p2_add, p2_toNat (e := 52) (by decide)]; exact Rat.mul_comm _ _
    rcases hlast with h1 | h1 | h1
    · omega
    · exact ⟨((2 ^ 52 : Nat) : Int), by rw [eb]; grind⟩
    · exact ⟨-((2 ^ 52 : Nat) : Int), by rw [Rat.intCast_neg, show ∀ u v : Rat, -u * v = -(u * v) by intro u v; grind, eb]; grind⟩

theorem Rnd.exact {q c : Rat} (h : Rnd q c) (hr : Rep q) : c = q := by
  obtain ⟨last, k, _, hc, h1, h2, h3, _⟩ := h
  obtain ⟨j, t, hq, ht, hlo, hhi⟩ := hr
  obtain ⟨b, hb⟩ := rep_unit hq hlo hhi ht h3
  rw [hb, hc]
  rw [hb, hc] at h1 h2
  exact near_eq (p2_pos _) h1 h2

theorem rep_int {n : Int} (h1 : -9007199254740992 ≤ n) (h2 : n ≤ 9007199254740992) : Rep (n : Rat) :=
  ⟨n, 0, by rw [p2_zero]; grind, by decide, h1, h2⟩

theorem Fv.rep {x : Nat} {q : Rat} (h : Fv x q) : Rep q := by
  obtain ⟨s, m, e, hr, hq⟩ := h
  have key : m < 9007199254740992 ∧ -1074 ≤ e := by
    have hread : double.read x = (if x % 9223372036854775808 < 4503599627370496 then
        Datum.number (x / 9223372036854775808 % 2 == 1) (x % 9223372036854775808) (-1074)
      else if x % 9223372036854775808 < 9218868437227405312 then
        Datum.number (x / 9223372036854775808 % 2 == 1) (4503599627370496 + x % 9223372036854775808 % 4503599627370496) (-1074 + ((x % 9223372036854775808 / 4503599627370496 - 1 : Nat) : Int))
      else if x % 9223372036854775808 = 9218868437227405312 then Datum.infinity (x / 9223372036854775808 % 2 == 1)
      else Datum.nan (x / 9223372036854775808 % 2 == 1) (x % 9223372036854775808 - 9218868437227405312)) := rfl
    rw [hread] at hr
    by_cases c1 : x % 9223372036854775808 < 4503599627370496
    · rw [if_pos c1] at hr; cases hr; omega
    · rw [if_neg c1] at hr
      by_cases c2 : x % 9223372036854775808 < 9218868437227405312
      · rw [if_pos c2] at hr; cases hr; omega
      · rw [if_neg c2] at hr
        by_cases c3 : x % 9223372036854775808 = 9218868437227405312
        · rw [if_pos c3] at hr; cases hr
        · rw [if_neg c3] at hr; cases hr
  cases s with
  | true => exact ⟨-(m : Int), e, by rw [hq, Rat.intCast_neg, Rat.intCast_natCast]; unfold sgn; grind, key.2, by omega, by omega⟩
  | false => exact ⟨(m : Int), e, by rw [hq, Rat.intCast_natCast]; unfold sgn; grind, key.2, by omega, by omega⟩

/-- An exact result, written. -/
theorem write_rnd {s : Bool} {m : Nat} {e : Int} (h1 : sgn s * (m : Rat) * p2 e < p2 1023) (h2 : -(sgn s * (m : Rat) * p2 e) < p2 1023) :
    ∃ c, Fv (double.write (.number s m e)) c ∧ Rnd (sgn s * (m : Rat) * p2 e) c := by
  by_cases h0 : m = 0
  · subst h0
    have : double.write (.number s 0 e) = double.word s (0 * 4503599627370496 + 0) := by
      show double.nearest s 0 e = _
      unfold Format.nearest; rw [if_pos rfl]
    obtain ⟨m', e', hr, hv⟩ := read_word s 0 0 (by decide) (by decide) (by intro h; omega)
    have hz : sgn s * ((0 : Nat) : Rat) * p2 e = 0 := by grind
    refine ⟨0, ⟨s, m', e', by rw [this]; exact hr, ?_⟩, -1074, 0, by decide, ?_⟩
    · have : (m' : Rat) * p2 e' = 0 := by rw [hv]; grind
      grind
    · rw [hz]
      have := p2_pos (-1074)
      have := p2_pos (-1074 + 53)
      refine ⟨by grind, by grind, by grind, .inl rfl, by grind, by grind⟩
  · have habs : (m : Rat) * p2 e < p2 1023 := by
      cases s <;> (unfold sgn at h1 h2; grind)
    obtain ⟨k, m', e', hr, hv, hb1, hb2⟩ := nearest_spec s m e h0 habs
    refine ⟨sgn s * (m' : Rat) * p2 e', ⟨s, m', e', hr, rfl⟩, lastOf m e, (if s then -(k : Int) else k), ?_, ?_, ?_, ?_, ?_, ?_⟩
    · unfold lastOf; omega
    · rw [show sgn s * (m' : Rat) * p2 e' = sgn s * ((m' : Rat) * p2 e') by grind, hv]
      cases s <;> simp [sgn, Rat.intCast_neg, Rat.intCast_natCast] <;> grind
    · rw [show sgn s * (m' : Rat) * p2 e' = sgn s * ((m' : Rat) * p2 e') by grind, hv]
      cases s <;> (unfold sgn; grind)
    · rw [show sgn s * (m' : Rat) * p2 e' = sgn s * ((m' : Rat) * p2 e') by grind, hv]
      cases s <;> (unfold sgn; grind)
    · have hlog := log2_bounds h0
      have hpp := p2_pos e
      by_cases hl : lastOf m e = -1074
      · exact .inl hl
      · right
        have h1 := mul_le hlog.1 (Rat.le_of_lt hpp)
        rw [← p2_add] at h1
        have : lastOf m e + 52 = (m.log2 : Int) + e := by unfold lastOf at *; omega
        rw [this]
        cases s <;> (unfold sgn; grind)
    · have hlog := log2_bounds h0
      have hpp := p2_pos e
      have h1 := mul_lt hlog.2 hpp
      rw [← p2_add] at h1
      have := p2_le (show (m.log2 : Int) + 1 + e ≤ lastOf m e + 53 by unfold lastOf; omega)
      have hm : 0 ≤ (m : Rat) * p2 e := Rat.mul_nonneg (by exact_mod_cast Nat.zero_le m) (Rat.le_of_lt hpp)
      have := p2_pos (lastOf m e + 53)
      cases s <;> (unfold sgn; constructor <;> grind)

/-! ### The operations -/

theorem signed_val (s : Bool) (m : Nat) (up : Nat) : ((signed s m up : Int) : Rat) = sgn s * (m : Rat) * p2 (up : Int) := by
  rw [p2_nat]
  unfold signed sgn
  rw [Nat.shiftLeft_eq]
  cases s <;> simp [Rat.intCast_neg, Rat.intCast_natCast, Rat.natCast_mul] <;> grind

theorem sum_val {s t : Bool} {m n : Nat} {i j : Int} : ∃ u k, Datum.sum (.number s m i) (.number t n j) = some (.number u k (min i j)) ∧
    sgn u * (k : Rat) * p2 (min i j) = sgn s * (m : Rat) * p2 i + sgn t * (n : Rat) * p2 j := by
  refine ⟨_, _, rfl, ?_⟩
  have e1 : p2 i = p2 ((i - min i j).toNat : Int) * p2 (min i j) := by rw [← p2_add]; congr 1; omega
  have e2 : p2 j = p2 ((j - min i j).toNat : Int) * p2 (min i j) := by rw [← p2_add]; congr 1; omega
  have v1 := signed_val s m (i - min i j).toNat
  have v2 := signed_val t n (j - min i j).toNat
  generalize signed s m (i - min i j).toNat = A at *
  generalize signed t n (j - min i j).toNat = B at *
  rw [e1, e2]
  have key : sgn (if A + B = 0 then s && t else decide (A + B < 0)) * ((A + B).natAbs : Rat) = ((A + B : Int) : Rat) := by
    by_cases h0 : A + B = 0
    · rw [h0]; simp
    · rw [if_neg h0]
      by_cases hneg : A + B < 0
      · have : (((A + B).natAbs : Int)) = -(A + B) := by omega
        have h2 : ((A + B).natAbs : Rat) = ((-(A + B) : Int) : Rat) := by rw [← this, Rat.intCast_natCast]
        rw [h2, Rat.intCast_neg]; simp [hneg, sgn]; grind
      · have : (((A + B).natAbs : Int)) = (A + B) := by omega
        have h2 : ((A + B).natAbs : Rat) = (((A + B) : Int) : Rat) := by rw [← Rat.intCast_natCast, this]
        rw [h2]; simp [hneg, sgn]
  rw [key, Rat.intCast_add, v1, v2]
  grind

theorem far_add {x y r : Nat} {a b : Rat} (h : FAr .add x y r) (ha : Fv x a) (hb : Fv y b) (h1 : a + b < p2 1023) (h2 : -(a + b) < p2 1023) : ∃ c, Fv r c ∧ Rnd (a + b) c := by
  obtain ⟨s, m, i, hx, rfl⟩ := ha
  obtain ⟨t, n, j, hy, rfl⟩ := hb
  obtain ⟨u, k, hs, hv⟩ := sum_val (s := s) (t := t) (m := m) (n := n) (i := i) (j := j)
  have hf : floatBits .add .f64 x y = some (double.write (.number u k (min i j))) := by
    show ((double.read x).sum (double.read y)).map double.write = _
    rw [hx, hy, hs]; rfl
  have h := h.ok; rw [hf] at h; subst h
  rw [← hv] at h1 h2 ⊢
  exact write_rnd h1 h2

theorem far_sub {x y r : Nat} {a b : Rat} (h : FAr .sub x y r) (ha : Fv x a) (hb : Fv y b) (h1 : a - b < p2 1023) (h2 : -(a - b) < p2 1023) : ∃ c, Fv r c ∧ Rnd (a - b) c := by
  obtain ⟨s, m, i, hx, rfl⟩ := ha
  obtain ⟨t, n, j, hy, rfl⟩ := hb
  obtain ⟨u, k, hs, hv⟩ := sum_val (s := s) (t := !t) (m := m) (n := n) (i := i) (j := j)
  have hf : floatBits .sub .f64 x y = some (double.write (.number u k (min i j))) := by
    show ((double.read x).sum (double.read y).opposite).map double.write = _
    rw [hx, hy]
    show (Datum.sum (.number s m i) (.number (!t) n j)).map double.write = _
    rw [hs]; rfl
  have h := h.ok; rw [hf] at h; subst h
  have : sgn s * (m : Rat) * p2 i - sgn t * (n : Rat) * p2 j = sgn u * (k : Rat) * p2 (min i j) := by
    rw [hv]; cases t <;> (simp only [sgn, Bool.not_true, Bool.not_false]; grind)
  rw [this] at h1 h2 ⊢
  exact write_rnd h1 h2

theorem far_mul {x y r : Nat} {a b : Rat} (h : FAr .mul x y r) (ha : Fv x a) (hb : Fv y b) (h1 : a * b < p2 1023) (h2 : -(a * b) < p2 1023) : ∃ c, Fv r c ∧ Rnd (a * b) c := by
  obtain ⟨s, m, i, hx, rfl⟩ := ha
  obtain ⟨t, n, j, hy, rfl⟩ := hb
  have hf : floatBits .mul .f64 x y = some (double.write (.number (s ^^ t) (m * n) (i + j))) := by
    show ((double.read x).product (double.read y)).map double.write = _
    rw [hx, hy]; rfl
  have h := h.ok; rw [hf] at h; subst h
  have : sgn s * (m : Rat) * p2 i * (sgn t * (n : Rat) * p2 j) = sgn (s ^^ t) * ((m * n : Nat) : Rat) * p2 (i + j) := by
    rw [p2_add, Rat.natCast_mul]
    cases s <;> cases t <;> (simp only [sgn, Bool.xor_true, Bool.xor_false, Bool.not_true, Bool.not_false]; grind)
  rw [this] at h1 h2 ⊢
  exact write_rnd h1 h2

/-! ### Comparisons -/

theorem order_val {x y : Nat} {a b : Rat} (ha : Fv x a) (hb : Fv y b) : double.order x y = some (if a < b then .lt else if a = b then .eq else .gt) := by
  obtain ⟨s, m, i, hx, rfl⟩ := ha
  obtain ⟨t, n, j, hy, rfl⟩ := hb
  have e1 : p2 i = p2 ((i - min i j).toNat : Int) * p2 (min i j) := by rw [← p2_add]; congr 1; omega
  have e2 : p2 j = p2 ((j - min i j).toNat : Int) * p2 (min i j) := by rw [← p2_add]; congr 1; omega
  have v1 := signed_val s m (i - min i j).toNat
  have v2 := signed_val t n (j - min i j).toNat
  have hp := p2_pos (min i j)
  have f1 : sgn s * (m : Rat) * p2 i = ((signed s m (i - min i j).toNat : Int) : Rat) * p2 (min i j) := by rw [v1, e1]; grind
  have f2 : sgn t * (n : Rat) * p2 j = ((signed t n (j - min i j).toNat : Int) : Rat) * p2 (min i j) := by rw [v2, e2]; grind
  have ho : double.order x y = some (compare (signed s m (i - min i j).toNat) (signed t n (j - min i j).toNat)) := by
    show (double.read x).order (double.read y) = _
    rw [hx, hy]; rfl
  rw [ho, f1, f2]
  generalize signed s m (i - min i j).toNat = A at *
  generalize signed t n (j - min i j).toNat = B at *
  congr 1
  rw [show compare A B = compareOfLessAndEq A B from rfl]
  unfold compareOfLessAndEq
  by_cases h : A < B
  · have : (A : Rat) < B := by exact_mod_cast h
    have := mul_lt this hp
    rw [if_pos h, if_pos this]
  · have h' : (B : Rat) ≤ A := by exact_mod_cast (show B ≤ A by omega)
    have := mul_le h' (Rat.le_of_lt hp)
    rw [if_neg h]
    by_cases he : A = B
    · rw [if_pos he, if_neg (by grind), if_pos (by rw [he])]
    · rw [if_neg he, if_neg (by grind), if_neg]
      intro hh
      have := of_mul_eq hh hp
      exact he (by exact_mod_cast this)

section cmp
variable {x y : Nat} {a b : Rat} (ha : Fv x a) (hb : Fv y b)
include ha hb
theorem fcmp_lss : fcmp .lss x y = decide (a < b) := by
  simp only [fcmp_def, fcmp0, order_val ha hb]
  by_cases h : a < b
  · simp [h]
  · by_cases h' : a = b <;> simp [h, h']
theorem fcmp_leq : fcmp .leq x y = decide (a ≤ b) := by
  simp only [fcmp_def, fcmp0, order_val ha hb]
  by_cases h : a < b
  · have : a ≤ b := by grind
    simp [h, this]
  · by_cases h' : a = b
    · have : a ≤ b := by grind
      simp [h']
    · have : ¬ a ≤ b := by grind
      simp [h, h', this]
theorem fcmp_gtr : fcmp .gtr x y = decide (b < a) := by
  simp only [fcmp_def, fcmp0, order_val ha hb]
  by_cases h : a < b
  · have : ¬ b < a := by grind
    simp [h, this]
  · by_cases h' : a = b
    · have : ¬ b < a := by grind
      simp [h']
    · have : b < a := by grind
      simp [h, h', this]
theorem fcmp_geq : fcmp .geq x y = decide (b ≤ a) := by
  simp only [fcmp_def, fcmp0, order_val ha hb]
  by_cases h : a < b
  · have : ¬ b ≤ a := by grind
    simp [h, this]
  · by_cases h' : a = b
    · have : b ≤ a := by grind
      simp [h']
    · have : b ≤ a := by grind
      simp [h, h', this]
theorem fcmp_eql : fcmp .eql x y = decide (a = b) := by
  simp only [fcmp_def, fcmp0, order_val ha hb]
  by_cases h : a < b
  · have : ¬ a = b := by grind
    simp [h, this]
  · by_cases h' : a = b <;> simp [h, h']
theorem fcmp_neq : fcmp .neq x y = decide (a ≠ b) := by
  have := fcmp_eql ha hb
  simp only [fcmp_def, fcmp0] at this ⊢
  simp only [bne, this]
  by_cases h' : a = b <;> simp [h']
end cmp
end Go.Lg

set_option linter.unusedVariables false
set_option linter.unusedSimpArgs false
namespace Go.Lg
open Ieee

theorem fv_of {x s m e} {q : Rat} (h : double.read x = .number s m e) (hq : q = sgn s * (m : Rat) * p2 e) : Fv x q := ⟨s, m, e, h, hq⟩

/-- A whole number, written. -/
theorem write_int {n : Int} (h1 : -9007199254740992 ≤ n) (h2 : n ≤ 9007199254740992) : Fv (double.write (.number (n < 0) n.natAbs 0)) (n : Rat) := by
  have hv : sgn (decide (n < 0)) * (n.natAbs : Rat) * p2 0 = (n : Rat) := by
    rw [p2_zero]
    by_cases h : n < 0
    · have e : (n.natAbs : Rat) = ((-n : Int) : Rat) := by rw [← Rat.intCast_natCast]; congr 1; omega
      rw [e, Rat.intCast_neg]; simp [h, sgn]; grind
    · have e : (n.natAbs : Rat) = (n : Rat) := by rw [← Rat.intCast_natCast]; congr 1; omega
      rw [e]; simp [h, sgn]
  have hb1 : (n : Rat) ≤ p2 53 := by
    rw [p2_toNat (by decide), ← Rat.intCast_natCast]; exact Rat.intCast_le_intCast.2 h2
  have hb2 : ((-n : Int) : Rat) ≤ p2 53 := by
    rw [p2_toNat (by decide), ← Rat.intCast_natCast]; exact Rat.intCast_le_intCast.2 (show -n ≤ 9007199254740992 by omega)
  rw [Rat.intCast_neg] at hb2
  have h53 := p2_lt (show (53 : Int) < 1023 by decide)
  obtain ⟨c, hc, hr⟩ := write_rnd (s := decide (n < 0)) (m := n.natAbs) (e := 0) (by rw [hv]; grind) (by rw [hv]; grind)
  rw [hv] at hr
  rw [hr.exact (rep_int h1 h2)] at hc
  exact hc

/-- Cutting towards zero. -/
theorem integral_zero (s : Bool) (m : Nat) (i : Int) : ∃ k : Nat, (Datum.number s m i).integral .zero = .number s k 0 ∧ (k : Rat) ≤ (m : Rat) * p2 i := by
  refine ⟨_, rfl, ?_⟩
  unfold Toward.cut
  simp only [Bool.false_and, Bool.toNat_false, Nat.add_zero]
  generalize hg : 1 <<< min (-i).toNat ((m <<< i.toNat).log2 + 2) = g
  rw [Nat.one_shiftLeft] at hg
  have hd : m <<< i.toNat / g * g ≤ m <<< i.toNat := Nat.div_mul_le_self _ _
  have hgp : 0 < g := by rw [← hg]; exact Nat.two_pow_pos _
  have key : ((m <<< i.toNat / g : Nat) : Rat) * p2 ((-i).toNat : Int) ≤ (m : Rat) * p2 (i.toNat : Int) := by
    by_cases hc : (-i).toNat ≤ (m <<< i.toNat).log2 + 2
    · rw [Nat.min_eq_left hc] at hg
      rw [p2_nat, p2_nat, hg]
      rw [Nat.shiftLeft_eq] at hd ⊢
      exact_mod_cast hd
    · rw [Nat.min_eq_right (by omega)] at hg
      have : m <<< i.toNat / g = 0 := by
        rw [← hg]; refine Nat.div_eq_of_lt ?_
        have := Nat.lt_log2_self (n := m <<< i.toNat)
        have e : 2 ^ ((m <<< i.toNat).log2 + 2) = 2 * 2 ^ ((m <<< i.toNat).log2 + 1) := by rw [Nat.pow_succ, Nat.mul_comm]
        omega
      rw [this]
      have h1 := Rat.mul_nonneg (a := (m : Rat)) (b := p2 (i.toNat : Int)) (by exact_mod_cast Nat.zero_le m) (Rat.le_of_lt (p2_pos _))
      grind
  have hp := p2_pos (-((-i).toNat : Int))
  have h2 := mul_le key (Rat.le_of_lt hp)
  have e1 : p2 ((-i).toNat : Int) * p2 (-((-i).toNat : Int)) = 1 := by rw [← p2_add, Int.add_right_neg, p2_zero]
  have e2 : p2 (i.toNat : Int) * p2 (-((-i).toNat : Int)) = p2 i := by rw [← p2_add]; congr 1; omega
  have r1 : ((m <<< i.toNat / g : Nat) : Rat) * p2 ((-i).toNat : Int) * p2 (-((-i).toNat : Int)) = ((m <<< i.toNat / g : Nat) : Rat) := by
    rw [Rat.mul_assoc, e1]; grind
  have r2 : (m : Rat) * p2 (i.toNat : Int) * p2 (-((-i).toNat : Int)) = (m : Rat) * p2 i := by rw [Rat.mul_assoc, e2]
  rw [r1, r2] at h2
  exact h2

theorem sgn_mul_nat (s : Bool) (k : Nat) : ∃ n : Int, sgn s * (k : Rat) = (n : Rat) ∧ n.natAbs = k := by
  cases s with
  | true => exact ⟨-(k : Int), by rw [Rat.intCast_neg, Rat.intCast_natCast]; unfold sgn; grind, by omega⟩
  | false => exact ⟨(k : Int), by rw [Rat.intCast_natCast]; unfold sgn; grind, by omega⟩

/-- What the reference's test of a whole number says. -/
theorem whole_of {x most : Nat} {M : Nat} (hM : Fv most (M : Rat)) (hMn : Fv (Op.negFloat .f64 most) (-(M : Rat))) (hMb : M ≤ 9007199254740992)
    (h1 : fcmp .geq x (Op.negFloat .f64 most) = true) (h2 : fcmp .leq x most = true) (h3 : fcmp .eql x (double.write ((double.read x).integral .zero)) = true) :
    ∃ n : Int, Fv x (n : Rat) ∧ -(M : Int) ≤ n ∧ n ≤ M := by
  have hM0 := hM
  obtain ⟨sM, mM, eM, hrM, _⟩ := hM0
  cases hd : double.read x with
  | nan s t => simp [fcmp_def, fcmp0, Format.order, hd, Datum.order] at h2
  | infinity s =>
    obtain ⟨s2, m2, e2, hr2, _⟩ := hMn
    cases s with
    | true => simp [fcmp_def, fcmp0, Format.order, hd, hr2, Datum.order] at h1
    | false => simp [fcmp_def, fcmp0, Format.order, hd, hrM, Datum.order] at h2
  | number s m i =>
    have hx : Fv x (sgn s * (m : Rat) * p2 i) := ⟨s, m, i, hd, rfl⟩
    rw [fcmp_leq hx hM] at h2
    rw [fcmp_geq hx hMn] at h1
    have h1 := of_decide_eq_true h1
    have h2 := of_decide_eq_true h2
    obtain ⟨k, hk, hkb⟩ := integral_zero s m i
    rw [hd, hk] at h3
    obtain ⟨n, hn, hna⟩ := sgn_mul_nat s k
    have hmabs : (m : Rat) * p2 i ≤ (M : Rat) := by cases s <;> (unfold sgn at h1 h2; grind)
    have hkM : k ≤ M := by
      have : (k : Rat) ≤ (M : Rat) := by grind
      exact_mod_cast this
    have hw : Fv (double.write (.number s k 0)) (n : Rat) := by
      have h53 := p2_lt (show (53 : Int) < 1023 by decide)
      have hk53 : (k : Rat) ≤ p2 53 := by
        rw [p2_toNat (by decide)]; exact_mod_cast (show k ≤ 2 ^ 53 by omega)
      have hk0 : (0 : Rat) ≤ (k : Rat) := by exact_mod_cast Nat.zero_le k
      have hv : sgn s * (k : Rat) * p2 0 = (n : Rat) := by rw [p2_zero, hn]; grind
      obtain ⟨c, hc, hr⟩ := write_rnd (s := s) (m := k) (e := 0) (by rw [p2_zero]; cases s <;> (unfold sgn; grind)) (by rw [p2_zero]; cases s <;> (unfold sgn; grind))
      rw [hv] at hr
      rw [hr.exact (rep_int (by omega) (by omega))] at hc
      exact hc
    rw [fcmp_eql hx hw] at h3
    have h3 := of_decide_eq_true h3
    exact ⟨n, by rw [← h3]; exact hx, by omega, by omega⟩

theorem neg_read {x : Nat} {s m e} (h : double.read x = .number s m e) : double.read (Op.negFloat .f64 x) = .number (!s) m e := by
  have hx : Op.negFloat .f64 x = x ^^^ 2 ^ 63 := rfl
  have h1 : (x ^^^ 2 ^ 63) % 9223372036854775808 = x % 9223372036854775808 := by
    have := Nat.xor_mod_two_pow (a := x) (b := 2 ^ 63) (n := 63)
    rw [Nat.mod_self, Nat.xor_zero] at this
    exact this
  have h2 : (x ^^^ 2 ^ 63) / 9223372036854775808 % 2 = 1 - x / 9223372036854775808 % 2 := by
    have e1 : (x ^^^ 2 ^ 63) / 2 ^ 63 = (x / 2 ^ 63) ^^^ 1 := by
      have := Nat.xor_div_two_pow (a := x) (b := 2 ^ 63) (n := 63)
      rw [Nat.div_self (Nat.two_pow_pos 63)] at this
      exact this
    have e2 : ((x / 2 ^ 63) ^^^ 1) % 2 = 1 - x / 2 ^ 63 % 2 := by
      have h3 := Nat.xor_mod_two_pow (a := x / 2 ^ 63) (b := 1) (n := 1)
      have h4 : x / 2 ^ 63 % 2 ^ 1 = 0 ∨ x / 2 ^ 63 % 2 ^ 1 = 1 := by omega
      rw [show (2 : Nat) = 2 ^ 1 from rfl, h3]
      rcases h4 with h4 | h4 <;> rw [h4] <;> rfl
    have e3 : (9223372036854775808 : Nat) = 2 ^ 63 := rfl
    rw [e3, e1, e2]
  have hread : ∀ y, double.read y = (if y % 9223372036854775808 < 4503599627370496 then
      Datum.number (y / 9223372036854775808 % 2 == 1) (y % 9223372036854775808) (-1074)
    else if y % 9223372036854775808 < 9218868437227405312 then
      Datum.number (y / 9223372036854775808 % 2 == 1) (4503599627370496 + y % 9223372036854775808 % 4503599627370496) (-1074 + ((y % 9223372036854775808 / 4503599627370496 - 1 : Nat) : Int))
    else if y % 9223372036854775808 = 9218868437227405312 then Datum.infinity (y / 9223372036854775808 % 2 == 1)
    else Datum.nan (y / 9223372036854775808 % 2 == 1) (y % 9223372036854775808 - 9218868437227405312)) := fun y => rfl
  have hs : (1 - x / 9223372036854775808 % 2 == 1) = !(x / 9223372036854775808 % 2 == 1) := by
    have h4 : x / 9223372036854775808 % 2 = 0 ∨ x / 9223372036854775808 % 2 = 1 := by omega
    rcases h4 with h4 | h4 <;> rw [h4] <;> rfl
  rw [hread] at h
  rw [hread, hx, h1, h2, hs]
  by_cases c1 : x % 9223372036854775808 < 4503599627370496
  · rw [if_pos c1] at h ⊢; cases h; rfl
  · rw [if_neg c1] at h ⊢
    by_cases c2 : x % 9223372036854775808 < 9218868437227405312
    · rw [if_pos c2] at h ⊢; cases h; rfl
    · rw [if_neg c2] at h
      by_cases c3 : x % 9223372036854775808 = 9218868437227405312
      · rw [if_pos c3] at h; cases h
      · rw [if_neg c3] at h; cases h

theorem Fv.neg {x : Nat} {q : Rat} (h : Fv x q) : Fv (Op.negFloat .f64 x) (-q) := by
  obtain ⟨s, m, e, hr, rfl⟩ := h
  exact ⟨!s, m, e, neg_read hr, by cases s <;> (simp only [sgn, Bool.not_true, Bool.not_false]; grind)⟩

/-- 2^20 as0 a float. -/
theorem fv_most : Fv 4697254411347427328 ((1048576 : Nat) : Rat) := by
  refine fv_of (s := false) (m := 4503599627370496) (e := -32) rfl ?_
  have h1 : ((4503599627370496 : Nat) : Rat) = p2 52 := by rw [p2_toNat (by decide)]; norm_cast
  have h2 : ((1048576 : Nat) : Rat) = p2 20 := by rw [p2_toNat (by decide)]; norm_cast
  rw [h1, h2, show sgn false * p2 52 * p2 (-32) = p2 52 * p2 (-32) by unfold sgn; grind, ← p2_add]; rfl

/-- A valid operation has one result, and that equals itself. -/
theorem far_uniq {op : BinOp} {x y r r' : Nat} {a b : Rat} (hx : Fv x a) (hy : Fv y b) (hop : op = .add ∨ op = .sub ∨ op = .mul) (h : FAr op x y r) (h' : FAr op x y r') : r = r' := by
  obtain ⟨s, m, i, hx, rfl⟩ := hx
  obtain ⟨t, n, j, hy, rfl⟩ := hy
  have : ∃ w, floatBits op .f64 x y = some w := by
    rcases hop with rfl | rfl | rfl
    · exact ⟨_, show ((double.read x).sum (double.read y)).map double.write = _ by rw [hx, hy]; rfl⟩
    · exact ⟨_, show ((double.read x).sum (double.read y).opposite).map double.write = _ by rw [hx, hy]; rfl⟩
    · exact ⟨_, show ((double.read x).product (double.read y)).map double.write = _ by rw [hx, hy]; rfl⟩
  obtain ⟨w, hw⟩ := this
  have h := h.ok
  have h' := h'.ok
  rw [hw] at h h'
  rw [h, h']

theorem eql_self {r : Nat} {c : Rat} (h : Fv r c) : fcmp .eql r r = true := by rw [fcmp_eql h h]; simp

/-- Sums, differences and products of whole numbers. -/
theorem int_bound {n : Int} (h1 : -9007199254740992 ≤ n) (h2 : n ≤ 9007199254740992) : (n : Rat) < p2 1023 ∧ -(n : Rat) < p2 1023 := by
  have hb1 : (n : Rat) ≤ p2 53 := by
    rw [p2_toNat (by decide), ← Rat.intCast_natCast]; exact Rat.intCast_le_intCast.2 h2
  have hb2 : ((-n : Int) : Rat) ≤ p2 53 := by
    rw [p2_toNat (by decide), ← Rat.intCast_natCast]; exact Rat.intCast_le_intCast.2 (show -n ≤ 9007199254740992 by omega)
  rw [Rat.intCast_neg] at hb2
  have h53 := p2_lt (show (53 : Int) < 1023 by decide)
  constructor <;> grind

theorem int_add {x y r : Nat} {a b : Int} (ha : Fv x (a : Rat)) (hb : Fv y (b : Rat)) (h1 : -9007199254740992 ≤ a + b) (h2 : a + b ≤ 9007199254740992) (h : FAr .add x y r) : Fv r ((a + b : Int) : Rat) := by
  have hbd := int_bound h1 h2
  have e : ((a + b : Int) : Rat) = (a : Rat) + (b : Rat) := Rat.intCast_add a b
  obtain ⟨c, hc, hr⟩ := far_add h ha hb (by rw [← e]; exact hbd.1) (by rw [← e]; exact hbd.2)
  rw [← e] at hr
  rw [hr.exact (rep_int h1 h2)] at hc
  exact hc
theorem int_sub {x y r : Nat} {a b : Int} (ha : Fv x (a : Rat)) (hb : Fv y (b : Rat)) (h1 : -9007199254740992 ≤ a - b) (h2 : a - b ≤ 9007199254740992) (h : FAr .sub x y r) : Fv r ((a - b : Int) : Rat) := by
  have hbd := int_bound h1 h2
  have e : ((a - b : Int) : Rat) = (a : Rat) - (b : Rat) := Rat.intCast_sub a b
  obtain ⟨c, hc, hr⟩ := far_sub h ha hb (by rw [← e]; exact hbd.1) (by rw [← e]; exact hbd.2)
  rw [← e] at hr
  rw [hr.exact (rep_int h1 h2)] at hc
  exact hc
theorem int_mul {x y r : Nat} {a b : Int} (ha : Fv x (a : Rat)) (hb : Fv y (b : Rat)) (h1 : -9007199254740992 ≤ a * b) (h2 : a * b ≤ 9007199254740992) (h : FAr .mul x y r) : Fv r ((a * b : Int) : Rat) := by
  have hbd := int_bound h1 h2
  have e : ((a * b : Int) : Rat) = (a : Rat) * (b : Rat) := Rat.intCast_mul a b
  obtain ⟨c, hc, hr⟩ := far_mul h ha hb (by rw [← e]; exact hbd.1) (by rw [← e]; exact hbd.2)
  rw [← e] at hr
  rw [hr.exact (rep_int h1 h2)] at hc
  exact hc

/-- What is not equal can't both be the sum of two whole numbers. -/
theorem no_add {x y r r' : Nat} {a b : Int} (hf : fcmp .eql r r' = false) (h : FAr .add x y r) (h' : FAr .add x y r') (ha : Fv x (a : Rat)) (hb : Fv y (b : Rat)) (h1 : -9007199254740992 ≤ a + b) (h2 : a + b ≤ 9007199254740992) : False := by
  have := far_uniq ha hb (.inl rfl) h h'
  subst this
  rw [eql_self (int_add ha hb h1 h2 h)] at hf; cases hf
theorem no_sub {x y r r' : Nat} {a b : Int} (hf : fcmp .eql r r' = false) (h : FAr .sub x y r) (h' : FAr .sub x y r') (ha : Fv x (a : Rat)) (hb : Fv y (b : Rat)) (h1 : -9007199254740992 ≤ a - b) (h2 : a - b ≤ 9007199254740992) : False := by
  have := far_uniq ha hb (.inr (.inl rfl)) h h'
  subst this
  rw [eql_self (int_sub ha hb h1 h2 h)] at hf; cases hf
theorem true_of_no {b : Bool} (h : b = false → False) : b = true := by cases b with
  | true => rfl
  | false => exact (h rfl).elim

theorem mul_bound {a b : Int} {A B : Int} (h1 : -A ≤ a) (h2 : a ≤ A) (h3 : -B ≤ b) (h4 : b ≤ B) : -(A * B) ≤ a * b ∧ a * b ≤ A * B := by
  have hA : 0 ≤ A := by omega
  have hB : 0 ≤ B := by omega
  have k1 := Int.mul_nonneg (show 0 ≤ A - a by omega) (show 0 ≤ B - b by omega)
  have k2 := Int.mul_nonneg (show 0 ≤ A + a by omega) (show 0 ≤ B + b by omega)
  have k3 := Int.mul_nonneg (show 0 ≤ A - a by omega) (show 0 ≤ B + b by omega)
  have k4 := Int.mul_nonneg (show 0 ≤ A + a by omega) (show 0 ≤ B - b by omega)
  constructor <;> grind
end Go.Lg

set_option linter.unusedVariables false
set_option linter.unusedSimpArgs false
namespace Go.Lg
open Ieee

def rmin (a b : Rat) : Rat := if a < b then a else b
def rmax (a b : Rat) : Rat := if a < b then b else a

/-- Not a number, nor infinite: what 'x - x == 0' asks. -/
theorem finite_of {x r : Nat} (h : FAr .sub x x r) (he : fcmp .eql r 0 = true) : ∃ a, Fv x a := by
  cases hx : double.read x with
  | number s m e => exact ⟨_, s, m, e, hx, rfl⟩
  | infinity s =>
    exfalso
    have hn : (double.read r).isNaN = true := by
      have := h.ok
      have e : floatBits .sub .f64 x x = none := by
        cases s <;> simp [floatBits, FloatKind.format, Format.sub, hx, Datum.sum, Datum.opposite]
      rw [e] at this; exact this.1
    cases hr : double.read r with
    | nan s t => simp [fcmp_def, fcmp0, Format.order, hr, Datum.order] at he
    | number => rw [hr] at hn; cases hn
    | infinity => rw [hr] at hn; cases hn
  | nan s t =>
    exfalso
    have hn : (double.read r).isNaN = true := by
      have := h.ok
      cases hb : floatBits .sub .f64 x x with
      | none => rw [hb] at this; exact this.1
      | some q =>
        rw [hb] at this
        exfalso
        simp [floatBits, FloatKind.format, Format.sub, hx, Datum.sum, Datum.opposite] at hb
    cases hr : double.read r with
    | nan s t => simp [fcmp_def, fcmp0, Format.order, hr, Datum.order] at he
    | number => rw [hr] at hn; cases hn
    | infinity => rw [hr] at hn; cases hn

section
variable {P : Program} {W : World} {n : Nat} {ds : List Deferred} {dst : Option Tmp} {ty : TypeId} {pos : String} {af : Array Edge} {g : Option (Nat × Bool)} {E : Env} {G : Heap} {K : Value → Heap → Prop}

theorem op_fmax {x y tx t2 u v} {a b : Rat} (hk : ∀ r, Fv r (rmax a b) → K (.float .f64 r) G) (hx : evalE E x = some (.float .f64 u) := by exact rfl) (hy : evalE E y = some (.float .f64 v) := by exact rfl) (ha : Fv u a := by assumption) (hb : Fv v b := by assumption) :
    OpT P W n ds ⟨dst, .call { callee := .builtin .max, args := #[x, y], argTypes := #[tx, t2] }, ty, pos, af, g⟩ E G K := by
  have ho := order_val ha hb
  have key : ∃ r, Fv r (rmax a b) ∧ ∀ w : World, (Builtin.max_ #[tx, t2] ty #[.float .f64 u, .float .f64 v]).run P w = .ok (.float .f64 r) w := by
    have ho' : FloatKind.f64.format.order u v = double.order u v := rfl
    unfold rmax
    by_cases h1 : a < b
    · rw [if_pos h1] at ho ⊢
      exact ⟨v, hb, fun w => by simp [Builtin.max_, Builtin.max2, ho', ho]⟩
    · rw [if_neg h1] at ho ⊢
      by_cases h2 : a = b
      · subst h2
        rw [if_pos rfl] at ho
        refine ⟨if (FloatKind.f64.decode u).neg then v else u, ?_, fun w => by simp [Builtin.max_, Builtin.max2, ho', ho]⟩
        split
        · exact hb
        · exact ha
      · rw [if_neg h2] at ho
        exact ⟨u, ha, fun w => by simp [Builtin.max_, Builtin.max2, ho', ho]⟩
  obtain ⟨r, hr, hrun⟩ := key
  exact op_of_run (fun a' w ho _ => by
    simp only [execOp, resolve, invoke]
    refine (sem_run_bind P _ _ w _ w rfl).trans ?_
    refine run_v ?_
    simp only [List.map_toArray, List.map_cons, List.map_nil, ho.eval hx, ho.eval hy]
    exact hrun w) (hk r hr)

theorem op_fmin {x y tx t2 u v} {a b : Rat} (hk : ∀ r, Fv r (rmin a b) → K (.float .f64 r) G) (hx : evalE E x = some (.float .f64 u) := by exact rfl) (hy : evalE E y = some (.float .f64 v) := by exact rfl) (ha : Fv u a := by assumption) (hb : Fv v b := by assumption) :
    OpT P W n ds ⟨dst, .call { callee := .builtin .min, args := #[x, y], argTypes := #[tx, t2] }, ty, pos, af, g⟩ E G K := by
  have ho := order_val ha hb
  have key : ∃ r, Fv r (rmin a b) ∧ ∀ w : World, (Builtin.min_ #[tx, t2] ty #[.float .f64 u, .float .f64 v]).run P w = .ok (.float .f64 r) w := by
    have ho' : FloatKind.f64.format.order u v = double.order u v := rfl
    unfold rmin
    by_cases h1 : a < b
    · rw [if_pos h1] at ho ⊢
      exact ⟨u, ha, fun w => by simp [Builtin.min_, Builtin.min2, ho', ho]⟩
    · rw [if_neg h1] at ho ⊢
      by_cases h2 : a = b
      · subst h2
        rw [if_pos rfl] at ho
        refine ⟨if (FloatKind.f64.decode u).neg then u else v, ?_, fun w => by simp [Builtin.min_, Builtin.min2, ho', ho]⟩
        split
        · exact ha
        · exact hb
      · rw [if_neg h2] at ho
        exact ⟨v, hb, fun w => by simp [Builtin.min_, Builtin.min2, ho', ho]⟩
  obtain ⟨r, hr, hrun⟩ := key
  exact op_of_run (fun a' w ho _ => by
    simp only [execOp, resolve, invoke]
    refine (sem_run_bind P _ _ w _ w rfl).trans ?_
    refine run_v ?_
    simp only [List.map_toArray, List.map_cons, List.map_nil, ho.eval hx, ho.eval hy]
    exact hrun w) (hk r hr)
end

/-- math.Max and math.Min of the machine, of two numbers. -/
theorem pick_run {P : Program} {nm : String} {neg : Bool} {win : Ordering} {x y : Nat} {a b : Rat} (ha : Fv x a) (hb : Fv y b) :
    ∃ r, (∀ w : World, (Extern.MathDim.pick nm neg win ⟨[.float .f64 x, .float .f64 y]⟩).run P w = .ok (.float .f64 r) w) ∧ (r = x ∨ r = y) ∧ (a < b → win = .gt → r = y) ∧ (a < b → win = .lt → r = x) ∧ (b < a → win = .gt → r = x) ∧ (b < a → win = .lt → r = y) := by
  have ho := order_val ha hb
  have ho' : (FloatKind.f64.decode x).order (FloatKind.f64.decode y) = double.order x y := rfl
  obtain ⟨s, m, i, hx, rfl⟩ := ha
  obtain ⟨t, l, j, hy, rfl⟩ := hb
  have dx : FloatKind.f64.decode x = .number s m i := hx
  have dy : FloatKind.f64.decode y = .number t l j := hy
  have hz : (FloatKind.f64.decode x).isZero = true → (FloatKind.f64.decode y).isZero = true → sgn s * (m : Rat) * p2 i = 0 ∧ sgn t * (l : Rat) * p2 j = 0 := by
    rw [dx, dy]
    intro h1 h2
    have h1' : m = 0 := by cases m with
      | zero => rfl
      | succ m => simp [Datum.isZero] at h1
    have h2' : l = 0 := by cases l with
      | zero => rfl
      | succ l => simp [Datum.isZero] at h2
    subst h1'; subst h2'
    constructor <;> simp
  refine ⟨_, fun w => rfl, ?_⟩
  have hni : (FloatKind.f64.decode x == Datum.infinity neg || FloatKind.f64.decode y == Datum.infinity neg) = false := by rw [dx, dy]; rfl
  have hnn : ((FloatKind.f64.decode x).isNaN || (FloatKind.f64.decode y).isNaN) = false := by rw [dx, dy]; rfl
  simp only [hni, hnn, Bool.false_eq_true, if_false, ho', ho]
  generalize sgn s * (m : Rat) * p2 i = a at *
  generalize sgn t * (l : Rat) * p2 j = b at *
  by_cases hzz : ((FloatKind.f64.decode x).isZero && (FloatKind.f64.decode y).isZero) = true
  · rw [if_pos hzz]
    simp only [Bool.and_eq_true] at hzz
    obtain ⟨rfl, rfl⟩ := hz hzz.1 hzz.2
    exact ⟨by split <;> simp, fun h => absurd h (by grind), fun h => absurd h (by grind), fun h => absurd h (by grind), fun h => absurd h (by grind)⟩
  · rw [if_neg hzz]
    refine ⟨?_, ?_, ?_, ?_, ?_⟩
    · generalize (if a < b then Ordering.lt else if a = b then Ordering.eq else Ordering.gt) = o
      by_cases h : (some o == some win) = true
      · rw [if_pos h]; exact .inl rfl
      · rw [if_neg h]; exact .inr rfl
    · rintro h rfl; simp [h]
    · rintro h rfl; simp [h]
    · rintro h rfl
      have h1 : ¬ a < b := by grind
      have h2 : ¬ a = b := by grind
      simp [h1, h2]
    · rintro h rfl
      have h1 : ¬ a < b := by grind
      have h2 : ¬ a = b := by grind
      simp [h1, h2]

theorem does_archMax {P : Program} {f : FuncId} {fn : Func} {H : Heap} {x y : Nat} {a b : Rat} (ha : Fv x a) (hb : Fv y b)
    (hf : P.funcs[f]? = some fn) (hn : (fn.name == "runtime.NumGoroutine") = false) (hbd : fn.body.isNone = true) (h1 : (Extern.findNext fn).isNone = true)
    (h2 : Extern.find fn = some (Extern.MathDim.pick "math.archMax" false .gt)) : Does P f [.float .f64 x, .float .f64 y] H fun v H' => (∃ r, v = .float .f64 r ∧ Fv r (rmax a b)) ∧ H' = H := by
  refine does_extern hf hn hbd h1 h2 fun W w hs => ?_
  obtain ⟨r, hr, h0, h3, _, h4, _⟩ := pick_run (P := P) (nm := "math.archMax") (neg := false) (win := .gt) ha hb
  refine ⟨_, w, hr w, hs, ⟨r, rfl, ?_⟩, rfl⟩
  unfold rmax
  by_cases h : a < b
  · rw [if_pos h, h3 h rfl]; exact hb
  · rw [if_neg h]
    by_cases h' : b < a
    · rw [h4 h' rfl]; exact ha
    · have : a = b := by grind
      subst this
      rcases h0 with rfl | rfl
      · exact ha
      · exact hb

theorem does_archMin {P : Program} {f : FuncId} {fn : Func} {H : Heap} {x y : Nat} {a b : Rat} (ha : Fv x a) (hb : Fv y b)
    (hf : P.funcs[f]? = some fn) (hn : (fn.name == "runtime.NumGoroutine") = false) (hbd : fn.body.isNone = true) (h1 : (Extern.findNext fn).isNone = true)
    (h2 : Extern.find fn = some (Extern.MathDim.pick "math.archMin" true .lt)) : Does P f [.float .f64 x, .float .f64 y] H fun v H' => (∃ r, v = .float .f64 r ∧ Fv r (rmin a b)) ∧ H' = H := by
  refine does_extern hf hn hbd h1 h2 fun W w hs => ?_
  obtain ⟨r, hr, h0, _, h3, _, h4⟩ := pick_run (P := P) (nm := "math.archMin") (neg := true) (win := .lt) ha hb
  refine ⟨_, w, hr w, hs, ⟨r, rfl, ?_⟩, rfl⟩
  unfold rmin
  by_cases h : a < b
  · rw [if_pos h, h3 h rfl]; exact ha
  · rw [if_neg h]
    by_cases h' : b < a
    · rw [h4 h' rfl]; exact hb
    · have : a = b := by grind
      subst this
      rcases h0 with rfl | rfl
      · exact ha
      · exact hb

/-! ### Rows that grow -/

/-- A row of one's own: nil, or a block with its capacity and the cells behind the row. -/
abbrev Buf := Option (Nat × Nat × List Value)
def bufV : Buf → Nat → Value
  | none, _ => .slice none 0 0
  | some (k, cap, _), n => .slice (some ⟨k, 0, none⟩) n cap
def bufH (e : TypeId) : Buf → List Value → Heap → Heap
  | none, _, H => H
  | some (k, _, sp), ws, H => (k, .cells ⟨ws ++ sp⟩ e (0, 0)) :: H
def bufOk (s : Nat) : Buf → Nat → List Value → Prop
  | none, n, ws => n = 0 ∧ ws = []
  | some (_, cap, sp), n, ws => n ≤ cap ∧ cap ≤ maxLen ∧ ws.length = n * s ∧ (ws ++ sp).length = cap * s

theorem bufH_sub (e : TypeId) (buf : Buf) (ws : List Value) (H : Heap) : List.Sublist H (bufH e buf ws H) := by
  cases buf with
  | none => exact List.Sublist.refl _
  | some b => exact List.sublist_cons_self _ _

theorem Sees.setRow {W w : World} {k : Nat} {l l' : List Value} {T : TypeId} {fz : Nat × Nat} {H : Heap} (h : Sees W ((k, Obj.cells ⟨l⟩ T fz) :: H) w) :
    Sees W ((k, Obj.cells ⟨l'⟩ T fz) :: H) (w.setRow k ⟨l'⟩) := by
  have hk := h.mem k _ List.mem_cons_self
  refine ⟨h.os, h.tape, h.output, by simpa using h.nodup, ?_⟩
  intro k' o ho
  have hn := h.nodup
  simp only [List.map_cons, List.nodup_cons] at hn
  cases ho with
  | head => exact setRow_heap w k _ _ T fz hk
  | tail _ ho =>
    have : k' ≠ k := fun e => hn.1 (List.mem_map.2 ⟨_, ho, e⟩)
    rw [setRow_other w k k' _ this]
    exact h.mem _ _ (List.mem_cons_of_mem _ ho)

section
variable {P : Program} {W : World} {n : Nat} {ds : List Deferred} {dst : Option Tmp} {ty : TypeId} {pos : String} {af : Array Edge} {g : Option (Nat × Bool)} {E : Env} {G : Heap} {K : Value → Heap → Prop}

theorem tl_sub {ops l Q G'} (hG : List.Sublist G' G) (h : TL P W n ds ops Q l E G') : TL P W n ds ops Q l E G := ⟨fun a w ho hs => h.run a w ho (hs.sub hG)⟩

theorem op_append {t e s b z x y kn offn m c ln Tn fzn H'} (buf : Buf) (l : Nat) (ws news : List Value) [Und P t (.slice e)] [hI : Inf P e s b z] (hok : bufOk s buf l ws)
    (hk : ∀ buf', bufOk s buf' (l + m) (ws ++ news) → K (bufV buf' (l + m)) (bufH e buf' (ws ++ news) H'))
    (hx : evalE E x = some (bufV buf l)) (hy : evalE E y = some (.slice (some ⟨kn, offn, none⟩) m c)) (hsub : List.Sublist (bufH e buf ws H') G) (hn : (kn, Obj.cells ⟨ln⟩ Tn fzn) ∈ G)
    (hnews : (ln.drop offn).take (m * s) = news) (hlen : news.length = m * s) (h1 : ∀ u ∈ news, u.oneCell' = true) (hm : 0 < m) (hbig : l + m ≤ maxLen) (hbytes : (l + m) * b ≤ 140737488355328) (hz0 : z.length = s := by exact rfl) :
    OpT P W n ds ⟨dst, .call { callee := .builtin .append, args := #[x, y], argTypes := #[t, t] }, ty, pos, af, g⟩ E G K := by
  have ht : P.underlying t = some (.slice e) := Und.eq
  obtain ⟨i, zv, hi, rfl, hb, hz, hzc⟩ := hI.get
  subst hb
  have hsmall : l + m ≤ 9223372036854775807 := by simp only [maxLen] at hbig; omega
  have zlen : zv.cells.size = i.size := by rw [hzc]; exact hz0
  refine ⟨fun a w next Q ho hs hnx => ?_⟩
  have hcell : ∀ j u, news[j]? = some u → w.cell? ((⟨kn, offn, none⟩ : Addr).add j) = some u := fun j u hj => by
    rw [addr_add]; exact hs.cell hn (cut_get hnews hj)
  have run : ∃ v' w' buf', (Builtin.append_ #[t, t] ty #[bufV buf l, .slice (some ⟨kn, offn, none⟩) m c]).run P w = .ok v' w' ∧ v' = bufV buf' (l + m) ∧ bufOk i.size buf' (l + m) (ws ++ news) ∧ Sees W (bufH e buf' (ws ++ news) H') w' := by
    have hs2 := hs.sub hsub
    have grown : ∀ old, old < l + m → ws.length = l * i.size → Sees W H' w →
        bufOk i.size (some (w.heap.size, grownCap w (l + m) old e, (Builtin.zeroCells zv.cells (grownCap w (l + m) old e - (l + m))).toList)) (l + m) (ws ++ news) ∧
        Sees W (bufH e (some (w.heap.size, grownCap w (l + m) old e, (Builtin.zeroCells zv.cells (grownCap w (l + m) old e - (l + m))).toList)) (ws ++ news) H') (w.drew.alloc (.cells (ws.toArray ++ news.toArray ++ Builtin.zeroCells zv.cells (grownCap w (l + m) old e - (l + m))) e)) := by
      intro old hold hwl hsH
      have hge := grownCap_ge w (l + m) old e
      refine ⟨⟨hge, grownCap_le_maxLen w (l + m) old e hbig, by rw [List.length_append, hwl, hlen, Nat.add_mul], ?_⟩, ?_⟩
      · rw [List.length_append, List.length_append, hwl, hlen, Array.length_toList, size_zeroCells, zlen, ← Nat.add_mul, ← Nat.add_mul]
        congr 1; omega
      · have := (hsH.drew (w.drawn + 1)).push (.cells (ws.toArray ++ news.toArray ++ Builtin.zeroCells zv.cells (grownCap w (l + m) old e - (l + m))) e)
        have e1 : (ws.toArray ++ news.toArray ++ Builtin.zeroCells zv.cells (grownCap w (l + m) old e - (l + m))) = ⟨(ws ++ news) ++ (Builtin.zeroCells zv.cells (grownCap w (l + m) old e - (l + m))).toList⟩ := by
          apply Array.ext'; simp
        rw [e1] at this ⊢
        exact this
    match buf, hok with
    | none, hok =>
      obtain ⟨rfl, rfl⟩ := hok
      have hr := run_append_nil (P := P) w t ty e i zv ht hi hz ⟨kn, offn, none⟩ m c news hlen hcell hm (by omega) (by have := hbytes; simp only [Nat.zero_add] at this; omega)
      have hg := grown 0 (by omega) (by simp) hs2
      simp only [Nat.zero_add] at hg ⊢
      refine ⟨_, _, some (w.heap.size, _, _), hr, rfl, hg.1, ?_⟩
      have := hg.2
      simpa using this
    | some (k, cap, sp), hok =>
      obtain ⟨h2, h3, h4, h5⟩ := hok
      have hkm := hs2.mem k _ List.mem_cons_self
      by_cases hroom : l + m ≤ cap
      · have hfit : l * i.size + news.length ≤ (⟨ws ++ sp⟩ : Array Value).size := by
          rw [hlen, ← Nat.add_mul]; show _ ≤ (ws ++ sp).length; rw [h5]; exact Nat.mul_le_mul_right _ hroom
        have hr := run_append_room (P := P) w t ty e i ht hi k l cap ⟨ws ++ sp⟩ hkm ⟨kn, offn, none⟩ m c news hlen hcell h1 hroom hfit
        have e1 : (((⟨ws ++ sp⟩ : Array Value).toList.take (l * i.size) ++ news ++ (⟨ws ++ sp⟩ : Array Value).toList.drop (l * i.size + news.length)).toArray) = ⟨(ws ++ news) ++ sp.drop news.length⟩ := by
          apply Array.ext'
          show (ws ++ sp).take (l * i.size) ++ news ++ (ws ++ sp).drop (l * i.size + news.length) = _
          rw [← h4, List.take_left, List.drop_append]
          simp
        rw [e1] at hr
        refine ⟨_, _, some (k, cap, sp.drop news.length), hr, rfl, ⟨hroom, h3, by rw [List.length_append, h4, hlen, Nat.add_mul], ?_⟩, hs2.setRow⟩
        have : (ws ++ sp).length = cap * i.size := h5
        have h6 : (l + m) * i.size ≤ cap * i.size := Nat.mul_le_mul_right _ hroom
        rw [Nat.add_mul] at h6
        simp only [List.length_append, List.length_drop] at this ⊢
        omega
      · have holds : ∀ j u, ws[j]? = some u → w.cell? ((⟨k, 0, none⟩ : Addr).add j) = some u := fun j u hj => by
          rw [addr_add]
          refine hs2.cell List.mem_cons_self ?_
          have hlt := (List.getElem?_eq_some_iff.1 hj).1
          rw [Nat.zero_add, List.getElem?_append_left hlt]; exact hj
        have hr := run_append_grow (P := P) w t ty e i zv ht hi hz ⟨k, 0, none⟩ l cap ws h4 holds ⟨kn, offn, none⟩ m c news hlen hcell (by omega) (by omega) (growslice_fits (by omega) hbytes)
        have hg := grown cap (by omega) h4 (hs2.sub (List.sublist_cons_self _ _))
        exact ⟨_, _, some (w.heap.size, _, _), hr, rfl, hg.1, hg.2⟩
  obtain ⟨v', w', buf', hrun, rfl, hok', hs'⟩ := run
  have he : (execOp a.eval ⟨dst, .call { callee := .builtin .append, args := #[x, y], argTypes := #[t, t] }, ty, pos, af, g⟩).run P w = .ok (.value (bufV buf' (l + m))) w' := by
    simp only [execOp, resolve, invoke]
    refine (sem_run_bind P _ _ w _ w rfl).trans ?_
    refine run_v ?_
    simp only [List.map_toArray, List.map_cons, List.map_nil, ho.eval hx, ho.eval hy]
    exact hrun
  rw [he]
  exact hnx _ _ _ hs' (hk buf' hok')
end
theorem fs_buf {e : TypeId} {buf : Buf} {xs : List Nat} {n : Nat} {H : Heap} (h : bufOk 1 buf n (xs.map fl)) : FS (bufH e buf (xs.map fl) H) (bufV buf n) xs := by
  cases buf with
  | none =>
    obtain ⟨rfl, h2⟩ := h
    exact ⟨none, 0, by rw [h2]; rfl, by rw [h2]; simp, fun hn => (hn h2).elim⟩
  | some b =>
    obtain ⟨k, cap, sp⟩ := b
    obtain ⟨h1, h2, h3, h4⟩ := h
    refine ⟨some ⟨k, 0, none⟩, cap, by simp only [bufV]; congr 1; omega, by omega, fun _ => ⟨k, 0, _, e, (0, 0), rfl, List.mem_cons_self, ?_⟩⟩
    rw [List.drop_zero, List.take_left]

end Go.Lg

set_option linter.unusedVariables false
set_option linter.unusedSimpArgs false
namespace Go.Lg

/-- Entered by a frame that returns, the deferred closure f does nothing. -/
class IdleD (P : Program) (f : FuncId) (m : outParam Nat) : Prop where
  idle : ∀ (cap : List Value) (w : World), cap.length = m → CallsD P f ⟨cap⟩ .returning w fun e u' w' => e = .returned (.tuple #[]) ∧ u' = .returning ∧ w' = w

section
variable {P : Program} {W : World} {n : Nat} {ds : List Deferred} {E : Env} {G G' : Heap} {K : Value → Heap → Prop} {fn : Func} {e : Exit} {ops : List Oper} {Q : Exit → Act → World → Prop}

theorem op_makeFunc {dst ty pos af g} {fv : Fn} {cs : List Operand} {vs : List Value} {Kv : Value → Heap → Prop} (hk : Kv (.func fv #[] ⟨vs⟩) G) (hx : evalAll E cs = some vs := by exact rfl) :
    OpT P W n ds ⟨dst, .makeFunc fv #[] ⟨cs⟩, ty, pos, af, g⟩ E G Kv :=
  op_of_run (fun a w ho _ => by
    have he : cs.map a.eval = vs := by
      clear hk
      induction cs generalizing vs with
      | nil => simp [evalAll] at hx; simp [← hx]
      | cons x xs ih =>
        simp only [evalAll] at hx
        cases h1 : evalE E x with
        | none => simp [h1] at hx
        | some v =>
          cases h2 : evalAll E xs with
          | none => simp [h1, h2] at hx
          | some us =>
            simp [h1, h2] at hx
            subst hx
            simp [ho.eval h1, ih h2]
    simp only [execOp, List.map_toArray, he]
    rfl) hk

theorem tl_defer {x ty pos af at'} {f : FuncId} {cs : List Value} {rest : List Oper} (h : TL P W n (⟨.fn (.func f) ⟨cs⟩, #[]⟩ :: ds) ops Q rest E G) (hx : evalE E x = some (.func (.func f) #[] ⟨cs⟩) := by exact rfl) :
    TL P W n ds ops Q (⟨none, .defer { callee := .value x, args := #[], argTypes := at' }, ty, pos, af, none⟩ :: rest) E G := by
  refine ⟨fun a w ho hs => ?_⟩
  refine wpList_plain rfl fun K hK => ?_
  have hr : (execOp a.eval ⟨none, .defer { callee := .value x, args := #[], argTypes := at' }, ty, pos, af, none⟩).run P w = .ok (.defer ⟨.fn (.func f) ⟨cs⟩, #[]⟩) w := by
    simp only [execOp, resolve, ho.eval hx]
    refine (sem_run_bind P _ _ w ⟨.fn (.func f) ⟨cs⟩, #[]⟩ w ?_).trans rfl
    simp [Deferred.ofValue]
  unfold Oper.wp
  rw [hr]
  exact hK _ _ (h.run _ _ ⟨ho.size, by show _ :: a.defers = _; rw [ho.defers], ho.get⟩ hs)

theorem fn_enter_d {f : FuncId} {c : Code} {args : List Value} {H : Heap} [Enters P f] (n : Nat)
    (hf : P.funcs[f]? = some fn) (h : ∀ W, TC P W n [] c (bodyPostD P fn (RetK W K)) (argEnv 0 args) H) (hb : fn.body = some c := by exact rfl)
    (hn : fn.ntmps = n := by exact rfl) (hsz : args.length ≤ n := by exact Nat.le_of_ble_eq_true rfl) : Does P f args H K := by
  subst hn
  refine ⟨fun W w hs o a next Q hnx => ?_⟩
  rw [run_callFunc, Oper.upon_enter]
  have hc : Calls P f ⟨args⟩ w (RetK W K) := by
    refine calls_of_wp_defers hf hb ((h W).run _ _ ⟨?_, rfl, fun t v hv => ?_⟩ hs)
    · simp; omega
    · obtain ⟨_, h2⟩ := argEnv_get _ _ _ _ hv
      have h3 : args[t]? = some v := by simpa using h2
      have hlt : t < args.length := by
        rcases Nat.lt_or_ge t args.length with h | h
        · exact h
        · rw [List.getElem?_eq_none h] at h3; cases h3
      simp [Array.getElem?_append, hlt]
      simpa [hlt] using h3
  refine hc.mono fun e w' ⟨v, H', he, hs', hk⟩ => ?_
  subst he
  exact hnx v H' w' hs' hk

theorem results_run {rs : List ResultVar} {vs : List Value} {v : Value} (hr : fn.results = ⟨rs⟩) (h : RVs P E G rs vs)
    (hv : v = (if h : (⟨vs⟩ : Array Value).size = 1 then (⟨vs⟩ : Array Value)[0] else .tuple ⟨vs⟩)) {a : Act} {w : World} (ho : Ok n ds E a) (hs : Sees W G w) : (results fn a.tmps).run P w = .ok v w := by
  rw [results_eq, hr]
  have : ∀ (rs : List ResultVar) (vs : List Value), RVs P E G rs vs → (rs.mapM (resSem a.tmps)).run P w = .ok vs w := by
    intro rs
    induction rs with
    | nil => intro vs h; cases h; rfl
    | cons r rs ih =>
      intro vs h
      cases h with
      | cons h1 h2 =>
        simp only [List.mapM_cons]
        refine (sem_run_bind P _ _ w _ w (run_res h1 ho hs)).trans ?_
        refine (sem_run_bind P _ _ w _ w (ih _ h2)).trans rfl
  refine (sem_run_bind P _ _ w ⟨vs⟩ w ?_).trans (by rw [hv]; rfl)
  rw [List.mapM_toArray]
  exact (sem_run_bind P _ _ w vs w (this rs vs h)).trans rfl

theorem ret_door {f : FuncId} {m : Nat} {cs : List Value} {rs : List ResultVar} {vs : List Value} {v : Value} [hI : IdleD P f m] [hE : Enters P f] (hm : cs.length = m) (hr : fn.results = ⟨rs⟩) (h : RVs P E G rs vs)
    (hv : v = (if h : (⟨vs⟩ : Array Value).size = 1 then (⟨vs⟩ : Array Value)[0] else .tuple ⟨vs⟩)) (hG : List.Sublist G' G) (hk : K v G') :
    At W n [⟨.fn (.func f) ⟨cs⟩, #[]⟩] (bodyPostD P fn (RetK W K)) .ret E G := by
  refine ⟨fun a w ho hs => ?_⟩
  show Leaves P fn a.tmps (RetK W K) a.defers .returning w
  rw [ho.defers]
  refine leaves_cons (f := f) (args := ⟨cs⟩) (by simp) ?_ ?_
  · have := run_callFunc (P := P) (f := f) ⟨cs⟩ w
    simpa [invoke] using this
  · refine (hI.idle cs w hm).mono ?_
    rintro e u' w' ⟨rfl, rfl, rfl⟩
    show Leaves P fn a.tmps (RetK W K) [] (settle .returning) w'
    exact ⟨v, results_run hr h hv ho hs, v, G', rfl, hs.sub hG, hk⟩

/-- Two results in variables of one cell each. -/
theorem ret_door2 {f : FuncId} {m : Nat} {cs : List Value} {t T d k off l S fz v t' T' d' k' off' l' S' fz' v'} [Und P T d] [Und P T' d'] [hI : IdleD P f m] [hE : Enters P f] (hr : fn.results = ⟨[.cell t T, .cell t' T']⟩ := by exact rfl) (hcs : cs.length = m := by exact rfl)
    (hd : TypeDesc.isAgg d = false := by exact rfl) (hd' : TypeDesc.isAgg d' = false := by exact rfl) (hx : Env.get E t = some (.pointer (some ⟨k, off, none⟩)) := by exact rfl) (hx' : Env.get E t' = some (.pointer (some ⟨k', off', none⟩)) := by exact rfl)
    (hm : (k, Obj.cells ⟨l⟩ S fz) ∈ G := by first | exact mem0 | exact mem1 | exact mem2 | exact mem3 | exact mem4 | exact mem5 | exact mem6 | exact mem7 | exact mem8 | exact mem9 | assumption | (refine Sub.mem (by assumption) ?_; first | exact mem0 | exact mem1 | exact mem2 | exact mem3 | exact mem4 | exact mem5 | exact mem6 | exact mem7 | exact mem8 | exact mem9 | assumption) | ((repeat (apply List.mem_cons_of_mem)); first | assumption | (refine Sub.mem (by assumption) ?_; assumption))) (hv : l[off]? = some v := by first | exact rfl | assumption) (hm' : (k', Obj.cells ⟨l'⟩ S' fz') ∈ G := by first | exact mem0 | exact mem1 | exact mem2 | exact mem3 | exact mem4 | exact mem5 | exact mem6 | exact mem7 | exact mem8 | exact mem9 | assumption | (refine Sub.mem (by assumption) ?_; first | exact mem0 | exact mem1 | exact mem2 | exact mem3 | exact mem4 | exact mem5 | exact mem6 | exact mem7 | exact mem8 | exact mem9 | assumption) | ((repeat (apply List.mem_cons_of_mem)); first | assumption | (refine Sub.mem (by assumption) ?_; assumption))) (hv' : l'[off']? = some v' := by first | exact rfl | assumption) (hk : K (.tuple #[v, v']) G')
    (hG : List.Sublist G' G := by repeat (first | exact List.Sublist.refl _ | apply List.Sublist.cons_cons | apply List.Sublist.cons)) :
    At W n [⟨.fn (.func f) ⟨cs⟩, #[]⟩] (bodyPostD P fn (RetK W K)) .ret E G :=
  ret_door hcs hr (.cons (.cell hd hx hm hv) (.cons (.cell hd' hx' hm' hv') .nil)) rfl hG hk
end
end Go.Lg

set_option linter.unusedVariables false
set_option linter.unusedSimpArgs false
namespace Go.Lg

/-- The method of a value's dynamic type t, a slice type: function f with the value as0 receiver. -/
class MethSl (P : Program) (t : TypeId) (name : String) (f : outParam FuncId) : Prop where
  eq : ∀ (a : Option Addr) (l c : Nat) (args : Array Value) (w : World), (callMethod (.iface t (.slice a l c)) name args).run P w = .ok (.enter f (#[.slice a l c] ++ args)) w
  no : ∀ (a : Option Addr) (l c : Nat) (w : World), (nilAhead (P.types.size + Made.depth) t (.slice a l c) name).run P w = .ok (some false) w
class Conc (P : Program) (t : TypeId) : Prop where
  eq : P.concrete t = true
class NotIface (P : Program) (t : TypeId) : Prop where
  eq : ∀ (x : Value) (v : Value) (w : World) (xt : TypeId), (Instr.typeAssert (.iface t v) xt t false).run P w = .ok v w

section
variable {P : Program} {W : World} {n : Nat} {ds : List Deferred} {dst : Option Tmp} {ty : TypeId} {pos : String} {af : Array Edge} {g : Option (Nat × Bool)} {E : Env} {G : Heap} {K : Value → Heap → Prop}

theorem op_makeInterface {t x v} [h : Conc P t] (hk : K (.iface t v) G) (hx : evalE E x = some v := by exact rfl) :
    OpT P W n ds ⟨dst, .makeInterface t x, ty, pos, af, g⟩ E G K :=
  op_of_run (fun a w ho _ => by
    simp only [execOp, ho.eval hx]
    exact run_v (run_makeInterface w t v h.eq)) hk

theorem op_typeAssert {t xt x v} [h : NotIface P t] (hk : K v G) (hx : evalE E x = some (.iface t v) := by exact rfl) :
    OpT P W n ds ⟨dst, .typeAssert x xt t false, ty, pos, af, g⟩ E G K :=
  op_of_run (fun a w ho _ => by
    simp only [execOp, ho.eval hx]
    exact run_v (h.eq v v w xt)) hk

theorem op_ptr_nil {t t2 x p e} [h : Und P t (.pointer e)] (hk : K (.bool p.isNone) G) (hx : evalE E x = some (.pointer p) := by exact rfl) :
    OpT P W n ds ⟨dst, .binOp .eql t x (.const (.pointer none)) t2, ty, pos, af, g⟩ E G K :=
  op_of_run (fun a w ho _ => by
    simp only [execOp, ho.eval hx]
    refine run_v ?_
    refine (sem_run_bind P _ _ w () w rfl).trans ?_
    have : P.pointee t = e := by
      have := h.eq
      unfold Program.underlying at this
      simp [Program.pointee, Program.underlying, h.eq, this]
    exact run_eql_pointer_nil w t p (by rw [this]; exact h.eq)) hk

theorem op_nilCheck_ptr {x a} (hk : K (.pointer (some a)) G) (hx : evalE E x = some (.pointer (some a)) := by exact rfl) :
    OpT P W n ds ⟨dst, .nilCheck x, ty, pos, af, g⟩ E G K :=
  op_of_run (fun a w ho _ => by
    simp only [execOp, ho.eval hx]
    rfl) hk

theorem op_makeMeth {nm : String} {x v} (hk : K (.func (.method nm) #[v] #[]) G) (hx : evalE E x = some v := by exact rfl) :
    OpT P W n ds ⟨dst, .makeFunc (.method nm) #[x] #[], ty, pos, af, g⟩ E G K :=
  op_of_run (fun a w ho _ => by
    simp only [execOp, List.map_toArray, List.map_cons, List.map_nil, ho.eval hx]
    rfl) hk

theorem op_nilCheck_meth {x nm t f a l c} [h : MethSl P t nm f] (hk : K (.func (.method nm) #[.iface t (.slice a l c)] #[]) G) (hx : evalE E x = some (.func (.method nm) #[.iface t (.slice a l c)] #[]) := by exact rfl) :
    OpT P W n ds ⟨dst, .nilCheck x, ty, pos, af, g⟩ E G K :=
  op_of_run (fun a' w ho _ => by
    simp only [execOp, ho.eval hx]
    refine (sem_run_bind P _ _ w P w rfl).trans ?_
    refine (sem_run_bind P _ _ w (some false) w (h.no a l c w)).trans ?_
    rfl) hk

theorem op_invoke {x nm t f a l c args vs at'} [h : MethSl P t nm f] [Enters P f] (hd : Does P f (.slice a l c :: vs) G K) (hx : evalE E x = some (.iface t (.slice a l c)) := by exact rfl) (hv : evalAll E args = some vs := by exact rfl) :
    OpT P W n ds ⟨dst, .call { callee := .invoke x nm, args := ⟨args⟩, argTypes := at' }, ty, pos, af, g⟩ E G K := by
  refine ⟨fun a' w next Q ho hs hn => ?_⟩
  have he : args.map a'.eval = vs := by
    clear hd hn
    induction args generalizing vs with
    | nil => simp [evalAll] at hv; simp [← hv]
    | cons x xs ih =>
      simp only [evalAll] at hv
      cases h1 : evalE E x with
      | none => simp [h1] at hv
      | some v =>
        cases h2 : evalAll E xs with
        | none => simp [h1, h2] at hv
        | some us =>
          simp [h1, h2] at hv
          subst hv
          simp [ho.eval h1, ih h2]
  have hr : (execOp a'.eval ⟨dst, .call { callee := .invoke x nm, args := ⟨args⟩, argTypes := at' }, ty, pos, af, g⟩).run P w = (callFunc f ⟨.slice a l c :: vs⟩).run P w := by
    rw [run_callFunc]
    simp only [execOp, resolve, ho.eval hx, List.map_toArray, he]
    refine (sem_run_bind P _ _ w _ w rfl).trans ?_
    have e1 : invoke (.fn (.method nm) #[]) (#[.iface t (.slice a l c)] ++ vs.toArray) = callMethod (.iface t (.slice a l c)) nm ⟨vs⟩ := by
      simp [invoke]
    show (invoke (.fn (.method nm) #[]) (#[.iface t (.slice a l c)] ++ vs.toArray)).run P w = _
    rw [e1, h.eq a l c ⟨vs⟩ w]
    simp
  rw [hr]
  exact hd.run W w hs _ a' next Q hn
end
end Go.Lg
