/-
  Sums, differences, products and comparisons of 64-bit floats: exact results rounded; exact where they are representable. No conditions.
-/
import Derived.Test.YthafjfgmbmpfoaaFl1
import Derived.Test.YthafjfgmbmpfoaaLg2
set_option linter.unusedVariables false
set_option linter.unusedSimpArgs false
namespace Go.Lg
open Ieee

/-- c is q, rounded. -/
def Rnd (q c : Rat) : Prop := ∃ (last k : Int), -1074 ≤ last ∧ c = (k : Rat) * p2 last ∧ 2 * (c - q) ≤ p2 last ∧ 2 * (q - c) ≤ p2 last ∧
  (last = -1074 ∨ p2 (last + 52) ≤ q ∨ p2 (last + 52) ≤ -q) ∧ q < p2 (last + 53) ∧ -q < p2 (last + 53)

/-- A number with at most 53 digits. -/
def Rep (q : Rat) : Prop := ∃ (j t : Int), q = (j : Rat) * p2 t ∧ -1074 ≤ t ∧ -9007199254740992 ≤ j ∧ j ≤ 9007199254740992

theorem p2_toNat {e : Int} (h : 0 ≤ e) : p2 e = ((2 ^ e.toNat : Nat) : Rat) := by
  rw [← p2_nat]; congr 1; omega

/-- Two whole multiples of a unit that are nearer than the unit are one. -/
theorem near_eq {a b : Int} {u : Rat} (hu : 0 < u) (h1 : 2 * ((a : Rat) * u - (b : Rat) * u) ≤ u) (h2 : 2 * ((b : Rat) * u - (a : Rat) * u) ≤ u) : (a : Rat) * u = (b : Rat) * u := by
  have e1 : 2 * ((a : Rat) - b) * u ≤ 1 * u := by grind
  have e2 : 2 * ((b : Rat) - a) * u ≤ 1 * u := by grind
  have f1 := of_mul_le e1 hu
  have f2 := of_mul_le e2 hu
  have g1 : 2 * (a - b) ≤ 1 := by exact_mod_cast f1
  have g2 : 2 * (b - a) ≤ 1 := by exact_mod_cast f2
  have : a = b := by omega
  rw [this]

/-- A representable number is a whole multiple of the unit that rounding keeps. -/
theorem rep_unit {q : Rat} {j t last : Int} (hq : q = (j : Rat) * p2 t) (hlo : -9007199254740992 ≤ j) (hhi : j ≤ 9007199254740992) (ht : -1074 ≤ t)
    (hlast : last = -1074 ∨ p2 (last + 52) ≤ q ∨ p2 (last + 52) ≤ -q) : ∃ b : Int, q = (b : Rat) * p2 last := by
  by_cases h : last ≤ t
  · refine ⟨j * 2 ^ (t - last).toNat, ?_⟩
    have e : p2 t = p2 (t - last) * p2 last := by rw [← p2_add]; congr 1; omega
    rw [hq, e, p2_toNat (by omega), Rat.intCast_mul, Rat.intCast_pow, Rat.natCast_pow]
    have : ((2 : Int) : Rat) = ((2 : Nat) : Rat) := by norm_cast
    rw [this]; grind
  · have hl : -1074 < last := by omega
    have hp := p2_pos t
    have hj : p2 (last + 52) ≤ p2 53 * p2 t → last = t + 1 := by
      intro hle
      rw [← p2_add] at hle
      have : ¬ p2 (53 + t) < p2 (last + 52) := by grind
      rw [p2_lt_iff] at this
      omega
    have hjr1 : (j : Rat) ≤ p2 53 := by
      rw [p2_toNat (by decide), ← Rat.intCast_natCast]; exact Rat.intCast_le_intCast.2 hhi
    have hjr2 : -p2 53 ≤ (j : Rat) := by
      have : ((-j : Int) : Rat) ≤ p2 53 := by
        rw [p2_toNat (by decide), ← Rat.intCast_natCast]; exact Rat.intCast_le_intCast.2 (show -j ≤ 9007199254740992 by omega)
      rw [Rat.intCast_neg] at this; grind
    have hb1 := mul_le hjr1 (Rat.le_of_lt hp)
    have hb2 := mul_le hjr2 (Rat.le_of_lt hp)
    have hlt : last = t + 1 := by
      rcases hlast with h1 | h1 | h1
      · omega
      · exact hj (by grind)
      · exact hj (by grind)
    have e52 : p2 (last + 52) = p2 53 * p2 t := by rw [hlt, ← p2_add]; congr 1; omega
    have eb : (((2 ^ 52 : Nat) : Int) : Rat) * p2 last = p2 (last + 52) := by
      rw [Rat.intCast_natCast, p2_add, p2_toNat (e := 52) (by decide)]; exact Rat.mul_comm _ _
    rcases hlast with h1 | h1 | h1
    · omega
    · exact ⟨((2 ^ 52 : Nat) : Int), by rw [eb]; grind⟩
    · exact ⟨-((2 ^ 52 : Nat) : Int), by rw [Rat.intCast_neg, show ∀ u v : Rat, -u * v = -(u * v) by intro u v; grind, eb]; grind⟩

theorem Rnd.exact {q c : Rat} (h : Rnd q c) (hr : Rep q) : c = q := by
  obtain ⟨last, k, _, hc, h1, h2, h3, _⟩ := h
  obtain ⟨j, t, hq, ht, hlo, hhi⟩ := hr
  obtain ⟨b, hb⟩ := rep_unit hq hlo hhi ht h3
  rw [hb, hc]
  rw [hb, hc] at h1 h2
  exact near_eq (p2_pos _) h1 h2

theorem rep_int {n : Int} (h1 : -9007199254740992 ≤ n) (h2 : n ≤ 9007199254740992) : Rep (n : Rat) :=
  ⟨n, 0, by rw [p2_zero]; grind, by decide, h1, h2⟩

theorem Fv.rep {x : Nat} {q : Rat} (h : Fv x q) : Rep q := by
  obtain ⟨s, m, e, hr, hq⟩ := h
  have key : m < 9007199254740992 ∧ -1074 ≤ e := by
    have hread : double.read x = (if x % 9223372036854775808 < 4503599627370496 then
        Datum.number (x / 9223372036854775808 % 2 == 1) (x % 9223372036854775808) (-1074)
      else if x % 9223372036854775808 < 9218868437227405312 then
        Datum.number (x / 9223372036854775808 % 2 == 1) (4503599627370496 + x % 9223372036854775808 % 4503599627370496) (-1074 + ((x % 9223372036854775808 / 4503599627370496 - 1 : Nat) : Int))
      else if x % 9223372036854775808 = 9218868437227405312 then Datum.infinity (x / 9223372036854775808 % 2 == 1)
      else Datum.nan (x / 9223372036854775808 % 2 == 1) (x % 9223372036854775808 - 9218868437227405312)) := rfl
    rw [hread] at hr
    by_cases c1 : x % 9223372036854775808 < 4503599627370496
    · rw [if_pos c1] at hr; cases hr; omega
    · rw [if_neg c1] at hr
      by_cases c2 : x % 9223372036854775808 < 9218868437227405312
      · rw [if_pos c2] at hr; cases hr; omega
      · rw [if_neg c2] at hr
        by_cases c3 : x % 9223372036854775808 = 9218868437227405312
        · rw [if_pos c3] at hr; cases hr
        · rw [if_neg c3] at hr; cases hr
  cases s with
  | true => exact ⟨-(m : Int), e, by rw [hq, Rat.intCast_neg, Rat.intCast_natCast]; unfold sgn; grind, key.2, by omega, by omega⟩
  | false => exact ⟨(m : Int), e, by rw [hq, Rat.intCast_natCast]; unfold sgn; grind, key.2, by omega, by omega⟩

/-- An exact result, written. -/
theorem write_rnd {s : Bool} {m : Nat} {e : Int} (h1 : sgn s * (m : Rat) * p2 e < p2 1023) (h2 : -(sgn s * (m : Rat) * p2 e) < p2 1023) :
    ∃ c, Fv (double.write (.number s m e)) c ∧ Rnd (sgn s * (m : Rat) * p2 e) c := by
  by_cases h0 : m = 0
  · subst h0
    have : double.write (.number s 0 e) = double.word s (0 * 4503599627370496 + 0) := by
      show double.nearest s 0 e = _
      unfold Format.nearest; rw [if_pos rfl]
    obtain ⟨m', e', hr, hv⟩ := read_word s 0 0 (by decide) (by decide) (by intro h; omega)
    have hz : sgn s * ((0 : Nat) : Rat) * p2 e = 0 := by grind
    refine ⟨0, ⟨s, m', e', by rw [this]; exact hr, ?_⟩, -1074, 0, by decide, ?_⟩
    · have : (m' : Rat) * p2 e' = 0 := by rw [hv]; grind
      grind
    · rw [hz]
      have := p2_pos (-1074)
      have := p2_pos (-1074 + 53)
      refine ⟨by grind, by grind, by grind, .inl rfl, by grind, by grind⟩
  · have habs : (m : Rat) * p2 e < p2 1023 := by
      cases s <;> (unfold sgn at h1 h2; grind)
    obtain ⟨k, m', e', hr, hv, hb1, hb2⟩ := nearest_spec s m e h0 habs
    refine ⟨sgn s * (m' : Rat) * p2 e', ⟨s, m', e', hr, rfl⟩, lastOf m e, (if s then -(k : Int) else k), ?_, ?_, ?_, ?_, ?_, ?_⟩
    · unfold lastOf; omega
    · rw [show sgn s * (m' : Rat) * p2 e' = sgn s * ((m' : Rat) * p2 e') by grind, hv]
      cases s <;> simp [sgn, Rat.intCast_neg, Rat.intCast_natCast] <;> grind
    · rw [show sgn s * (m' : Rat) * p2 e' = sgn s * ((m' : Rat) * p2 e') by grind, hv]
      cases s <;> (unfold sgn; grind)
    · rw [show sgn s * (m' : Rat) * p2 e' = sgn s * ((m' : Rat) * p2 e') by grind, hv]
      cases s <;> (unfold sgn; grind)
    · have hlog := log2_bounds h0
      have hpp := p2_pos e
      by_cases hl : lastOf m e = -1074
      · exact .inl hl
      · right
        have h1 := mul_le hlog.1 (Rat.le_of_lt hpp)
        rw [← p2_add] at h1
        have : lastOf m e + 52 = (m.log2 : Int) + e := by unfold lastOf at *; omega
        rw [this]
        cases s <;> (unfold sgn; grind)
    · have hlog := log2_bounds h0
      have hpp := p2_pos e
      have h1 := mul_lt hlog.2 hpp
      rw [← p2_add] at h1
      have := p2_le (show (m.log2 : Int) + 1 + e ≤ lastOf m e + 53 by unfold lastOf; omega)
      have hm : 0 ≤ (m : Rat) * p2 e := Rat.mul_nonneg (by exact_mod_cast Nat.zero_le m) (Rat.le_of_lt hpp)
      have := p2_pos (lastOf m e + 53)
      cases s <;> (unfold sgn; constructor <;> grind)

/-! ### The operations -/

theorem signed_val (s : Bool) (m : Nat) (up : Nat) : ((signed s m up : Int) : Rat) = sgn s * (m : Rat) * p2 (up : Int) := by
  rw [p2_nat]
  unfold signed sgn
  rw [Nat.shiftLeft_eq]
  cases s <;> simp [Rat.intCast_neg, Rat.intCast_natCast, Rat.natCast_mul] <;> grind

theorem sum_val {s t : Bool} {m n : Nat} {i j : Int} : ∃ u k, Datum.sum (.number s m i) (.number t n j) = some (.number u k (min i j)) ∧
    sgn u * (k : Rat) * p2 (min i j) = sgn s * (m : Rat) * p2 i + sgn t * (n : Rat) * p2 j := by
  refine ⟨_, _, rfl, ?_⟩
  have e1 : p2 i = p2 ((i - min i j).toNat : Int) * p2 (min i j) := by rw [← p2_add]; congr 1; omega
  have e2 : p2 j = p2 ((j - min i j).toNat : Int) * p2 (min i j) := by rw [← p2_add]; congr 1; omega
  have v1 := signed_val s m (i - min i j).toNat
  have v2 := signed_val t n (j - min i j).toNat
  generalize signed s m (i - min i j).toNat = A at *
  generalize signed t n (j - min i j).toNat = B at *
  rw [e1, e2]
  have key : sgn (if A + B = 0 then s && t else decide (A + B < 0)) * ((A + B).natAbs : Rat) = ((A + B : Int) : Rat) := by
    by_cases h0 : A + B = 0
    · rw [h0]; simp
    · rw [if_neg h0]
      by_cases hneg : A + B < 0
      · have : (((A + B).natAbs : Int)) = -(A + B) := by omega
        have h2 : ((A + B).natAbs : Rat) = ((-(A + B) : Int) : Rat) := by rw [← this, Rat.intCast_natCast]
        rw [h2, Rat.intCast_neg]; simp [hneg, sgn]; grind
      · have : (((A + B).natAbs : Int)) = (A + B) := by omega
        have h2 : ((A + B).natAbs : Rat) = (((A + B) : Int) : Rat) := by rw [← Rat.intCast_natCast, this]
        rw [h2]; simp [hneg, sgn]
  rw [key, Rat.intCast_add, v1, v2]
  grind

theorem far_add {x y r : Nat} {a b : Rat} (h : FAr .add x y r) (ha : Fv x a) (hb : Fv y b) (h1 : a + b < p2 1023) (h2 : -(a + b) < p2 1023) : ∃ c, Fv r c ∧ Rnd (a + b) c := by
  obtain ⟨s, m, i, hx, rfl⟩ := ha
  obtain ⟨t, n, j, hy, rfl⟩ := hb
  obtain ⟨u, k, hs, hv⟩ := sum_val (s := s) (t := t) (m := m) (n := n) (i := i) (j := j)
  have hf : floatBits .add .f64 x y = some (double.write (.number u k (min i j))) := by
    show ((double.read x).sum (double.read y)).map double.write = _
    rw [hx, hy, hs]; rfl
  have h := h.ok; rw [hf] at h; subst h
  rw [← hv] at h1 h2 ⊢
  exact write_rnd h1 h2

theorem far_sub {x y r : Nat} {a b : Rat} (h : FAr .sub x y r) (ha : Fv x a) (hb : Fv y b) (h1 : a - b < p2 1023) (h2 : -(a - b) < p2 1023) : ∃ c, Fv r c ∧ Rnd (a - b) c := by
  obtain ⟨s, m, i, hx, rfl⟩ := ha
  obtain ⟨t, n, j, hy, rfl⟩ := hb
  obtain ⟨u, k, hs, hv⟩ := sum_val (s := s) (t := !t) (m := m) (n := n) (i := i) (j := j)
  have hf : floatBits .sub .f64 x y = some (double.write (.number u k (min i j))) := by
    show ((double.read x).sum (double.read y).opposite).map double.write = _
    rw [hx, hy]
    show (Datum.sum (.number s m i) (.number (!t) n j)).map double.write = _
    rw [hs]; rfl
  have h := h.ok; rw [hf] at h; subst h
  have : sgn s * (m : Rat) * p2 i - sgn t * (n : Rat) * p2 j = sgn u * (k : Rat) * p2 (min i j) := by
    rw [hv]; cases t <;> (simp only [sgn, Bool.not_true, Bool.not_false]; grind)
  rw [this] at h1 h2 ⊢
  exact write_rnd h1 h2

theorem far_mul {x y r : Nat} {a b : Rat} (h : FAr .mul x y r) (ha : Fv x a) (hb : Fv y b) (h1 : a * b < p2 1023) (h2 : -(a * b) < p2 1023) : ∃ c, Fv r c ∧ Rnd (a * b) c := by
  obtain ⟨s, m, i, hx, rfl⟩ := ha
  obtain ⟨t, n, j, hy, rfl⟩ := hb
  have hf : floatBits .mul .f64 x y = some (double.write (.number (s ^^ t) (m * n) (i + j))) := by
    show ((double.read x).product (double.read y)).map double.write = _
    rw [hx, hy]; rfl
  have h := h.ok; rw [hf] at h; subst h
  have : sgn s * (m : Rat) * p2 i * (sgn t * (n : Rat) * p2 j) = sgn (s ^^ t) * ((m * n : Nat) : Rat) * p2 (i + j) := by
    rw [p2_add, Rat.natCast_mul]
    cases s <;> cases t <;> (simp only [sgn, Bool.xor_true, Bool.xor_false, Bool.not_true, Bool.not_false]; grind)
  rw [this] at h1 h2 ⊢
  exact write_rnd h1 h2

/-! ### Comparisons -/

theorem order_val {x y : Nat} {a b : Rat} (ha : Fv x a) (hb : Fv y b) : double.order x y = some (if a < b then .lt else if a = b then .eq else .gt) := by
  obtain ⟨s, m, i, hx, rfl⟩ := ha
  obtain ⟨t, n, j, hy, rfl⟩ := hb
  have e1 : p2 i = p2 ((i - min i j).toNat : Int) * p2 (min i j) := by rw [← p2_add]; congr 1; omega
  have e2 : p2 j = p2 ((j - min i j).toNat : Int) * p2 (min i j) := by rw [← p2_add]; congr 1; omega
  have v1 := signed_val s m (i - min i j).toNat
  have v2 := signed_val t n (j - min i j).toNat
  have hp := p2_pos (min i j)
  have f1 : sgn s * (m : Rat) * p2 i = ((signed s m (i - min i j).toNat : Int) : Rat) * p2 (min i j) := by rw [v1, e1]; grind
  have f2 : sgn t * (n : Rat) * p2 j = ((signed t n (j - min i j).toNat : Int) : Rat) * p2 (min i j) := by rw [v2, e2]; grind
  have ho : double.order x y = some (compare (signed s m (i - min i j).toNat) (signed t n (j - min i j).toNat)) := by
    show (double.read x).order (double.read y) = _
    rw [hx, hy]; rfl
  rw [ho, f1, f2]
  generalize signed s m (i - min i j).toNat = A at *
  generalize signed t n (j - min i j).toNat = B at *
  congr 1
  rw [show compare A B = compareOfLessAndEq A B from rfl]
  unfold compareOfLessAndEq
  by_cases h : A < B
  · have : (A : Rat) < B := by exact_mod_cast h
    have := mul_lt this hp
    rw [if_pos h, if_pos this]
  · have h' : (B : Rat) ≤ A := by exact_mod_cast (show B ≤ A by omega)
    have := mul_le h' (Rat.le_of_lt hp)
    rw [if_neg h]
    by_cases he : A = B
    · rw [if_pos he, if_neg (by grind), if_pos (by rw [he])]
    · rw [if_neg he, if_neg (by grind), if_neg]
      intro hh
      have := of_mul_eq hh hp
      exact he (by exact_mod_cast this)

section cmp
variable {x y : Nat} {a b : Rat} (ha : Fv x a) (hb : Fv y b)
include ha hb
theorem fcmp_lss : fcmp .lss x y = decide (a < b) := by
  simp only [fcmp_def, fcmp0, order_val ha hb]
  by_cases h : a < b
  · simp [h]
  · by_cases h' : a = b <;> simp [h, h']
theorem fcmp_leq : fcmp .leq x y = decide (a ≤ b) := by
  simp only [fcmp_def, fcmp0, order_val ha hb]
  by_cases h : a < b
  · have : a ≤ b := by grind
    simp [h, this]
  · by_cases h' : a = b
    · have : a ≤ b := by grind
      simp [h']
    · have : ¬ a ≤ b := by grind
      simp [h, h', this]
theorem fcmp_gtr : fcmp .gtr x y = decide (b < a) := by
  simp only [fcmp_def, fcmp0, order_val ha hb]
  by_cases h : a < b
  · have : ¬ b < a := by grind
    simp [h, this]
  · by_cases h' : a = b
    · have : ¬ b < a := by grind
      simp [h']
    · have : b < a := by grind
      simp [h, h', this]
theorem fcmp_geq : fcmp .geq x y = decide (b ≤ a) := by
  simp only [fcmp_def, fcmp0, order_val ha hb]
  by_cases h : a < b
  · have : ¬ b ≤ a := by grind
    simp [h, this]
  · by_cases h' : a = b
    · have : b ≤ a := by grind
      simp [h']
    · have : b ≤ a := by grind
      simp [h, h', this]
theorem fcmp_eql : fcmp .eql x y = decide (a = b) := by
  simp only [fcmp_def, fcmp0, order_val ha hb]
  by_cases h : a < b
  · have : ¬ a = b := by grind
    simp [h, this]
  · by_cases h' : a = b <;> simp [h, h']
theorem fcmp_neq : fcmp .neq x y = decide (a ≠ b) := by
  have := fcmp_eql ha hb
  simp only [fcmp_def, fcmp0] at this ⊢
  simp only [bne, this]
  by_cases h' : a = b <;> simp [h']
end cmp
end Go.Lg
