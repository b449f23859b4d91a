/-
  Float operations as functions of the words; floats with a bound. No conditions.
-/
import Derived.Test.YthafjfgmbmpfoaaFl12
import Derived.Test.YthafjfgmbmpfoaaFl11
set_option linter.unusedVariables false
set_option linter.unusedSimpArgs false
namespace Go.Lg
open Ieee

theorem fop_ex : ∃ f : BinOp → Nat → Nat → Nat, ∀ op x y, f op x y = (floatBits op .f64 x y).getD 0 := ⟨fun op x y => (floatBits op .f64 x y).getD 0, fun _ _ _ => rfl⟩
/-- The result of a float operation, its make kept shut. -/
noncomputable def fop : BinOp → Nat → Nat → Nat := Classical.choose fop_ex
theorem fop_def (op : BinOp) (x y : Nat) : fop op x y = (floatBits op .f64 x y).getD 0 := Classical.choose_spec fop_ex op x y
theorem FAr.fop_of {op : BinOp} {x y r : Nat} (h : FAr op x y r) (hs : ∃ r0, floatBits op .f64 x y = some r0) : r = fop op x y := by
  obtain ⟨r0, h0⟩ := hs
  have := h.ok
  rw [h0] at this
  rw [fop_def, h0]; exact this
theorem fb_sub {x y : Nat} {a b : Rat} (ha : Fv x a) (hb : Fv y b) : ∃ r, floatBits .sub .f64 x y = some r := by
  obtain ⟨s, m, i, hx, rfl⟩ := ha
  obtain ⟨t, n, j, hy, rfl⟩ := hb
  obtain ⟨u, k, hs, hv⟩ := sum_val (s := s) (t := !t) (m := m) (n := n) (i := i) (j := j)
  refine ⟨_, show ((double.read x).sum (double.read y).opposite).map double.write = some (double.write (.number u k (min i j))) from ?_⟩
  rw [hx, hy]
  show (Datum.sum (.number s m i) (.number (!t) n j)).map double.write = _
  rw [hs]; rfl
/-- A finite float of size at most 2 ^ B. -/
def Bd (B : Int) (x : Nat) : Prop := ∃ q, Fv x q ∧ rabs q ≤ p2 B
theorem Bd.le {A B : Int} {x : Nat} (h : Bd A x) (hAB : A ≤ B) : Bd B x := let ⟨q, h1, h2⟩ := h; ⟨q, h1, Rat.le_trans h2 (p2_le hAB)⟩
theorem Bd.add {A : Int} {x y r : Nat} (hx : Bd A x) (hy : Bd A y) (h : FAr .add x y r) (h1 : -900 ≤ A) (h2 : A ≤ 900) : Bd (A + 3) r ∧ r = fop .add x y := by
  obtain ⟨a, fa, ba⟩ := hx
  obtain ⟨b, fb, bb⟩ := hy
  refine ⟨?_, h.fop_of (fb_add fa fb)⟩
  have e1 := rabs_add a b
  have e2 : p2 (A + 1) = p2 A + p2 A := p2_half rfl
  have e3 : p2 (A + 2) = p2 (A + 1) + p2 (A + 1) := p2_half (by omega)
  have e4 : p2 (A + 3) = p2 (A + 2) + p2 (A + 2) := p2_half (by omega)
  have e5 := p2_lt (show A + 1 < 1023 by omega)
  have e6 := p2_le (show -1000 ≤ A by omega)
  have e7 := p2_pos A
  have l := le_rabs (a + b)
  obtain ⟨c, hc, hr⟩ := far_add h fa fb (by generalize p2 1023 = z at *; clear h fa fb; grind) (by generalize p2 1023 = z at *; clear h fa fb; grind)
  have e8 := hr.abs_le
  refine ⟨c, hc, ?_⟩
  generalize p2 (-1000) = y at *
  clear hr hc h fa fb e5
  grind
theorem Bd.sub {A : Int} {x y r : Nat} (hx : Bd A x) (hy : Bd A y) (h : FAr .sub x y r) (h1 : -900 ≤ A) (h2 : A ≤ 900) : Bd (A + 3) r ∧ r = fop .sub x y := by
  obtain ⟨a, fa, ba⟩ := hx
  obtain ⟨b, fb, bb⟩ := hy
  refine ⟨?_, h.fop_of (fb_sub fa fb)⟩
  have e1 := rabs_add a (-b)
  rw [rabs_neg, ← Rat.sub_eq_add_neg] at e1
  have e2 : p2 (A + 1) = p2 A + p2 A := p2_half rfl
  have e3 : p2 (A + 2) = p2 (A + 1) + p2 (A + 1) := p2_half (by omega)
  have e4 : p2 (A + 3) = p2 (A + 2) + p2 (A + 2) := p2_half (by omega)
  have e5 := p2_lt (show A + 1 < 1023 by omega)
  have e6 := p2_le (show -1000 ≤ A by omega)
  have e7 := p2_pos A
  have l := le_rabs (a - b)
  obtain ⟨c, hc, hr⟩ := far_sub h fa fb (by generalize p2 1023 = z at *; clear h fa fb; grind) (by generalize p2 1023 = z at *; clear h fa fb; grind)
  have e8 := hr.abs_le
  refine ⟨c, hc, ?_⟩
  generalize p2 (-1000) = y at *
  clear hr hc h fa fb e5
  grind
theorem Bd.mul {A B : Int} {x y r : Nat} (hx : Bd A x) (hy : Bd B y) (h : FAr .mul x y r) (h1 : -900 ≤ A + B) (h2 : A + B ≤ 900) : Bd (A + B + 2) r ∧ r = fop .mul x y := by
  obtain ⟨a, fa, ba⟩ := hx
  obtain ⟨b, fb, bb⟩ := hy
  refine ⟨?_, h.fop_of (fb_mul fa fb)⟩
  have e0 : rabs (a * b) ≤ p2 (A + B) := by
    rw [rabs_mul, p2_add]
    exact Rat.le_trans (mul_le ba (rabs_nonneg b)) (mul_le_left bb (Rat.le_of_lt (p2_pos A)))
  have e2 : p2 (A + B + 1) = p2 (A + B) + p2 (A + B) := p2_half rfl
  have e3 : p2 (A + B + 2) = p2 (A + B + 1) + p2 (A + B + 1) := p2_half (by omega)
  have e5 := p2_lt (show A + B < 1023 by omega)
  have e6 := p2_le (show -1000 ≤ A + B by omega)
  have e7 := p2_pos (A + B)
  have l := le_rabs (a * b)
  obtain ⟨c, hc, hr⟩ := far_mul h fa fb (by generalize p2 1023 = z at *; clear h fa fb; grind) (by generalize p2 1023 = z at *; clear h fa fb; grind)
  have e8 := hr.abs_le
  refine ⟨c, hc, ?_⟩
  generalize p2 (-1000) = y at *
  clear hr hc h fa fb e5
  grind
theorem FI.bd {B : Nat} {x : Nat} {n : Int} (h : FI B x n) {A : Nat} (hA : B ≤ 2 ^ A) : Bd (A : Int) x := by
  refine ⟨(n : Rat), h.fv, ?_⟩
  rw [p2_nat]
  have h1 := h.lo
  have h2 := h.hi
  rw [rabs_le, ← Rat.intCast_natCast]
  constructor
  · rw [← Rat.intCast_neg]; exact Rat.intCast_le_intCast.2 (by omega)
  · exact Rat.intCast_le_intCast.2 (by omega)
/-- A quotient of whole numbers. -/
theorem FI.quo_bd {A B : Nat} {x y r : Nat} {n m : Int} (hx : FI A x n) (hy : FI B y m) (h : FAr .quo x y r) (hm : m ≠ 0) (hB : B ≤ 9007199254740992) {C : Nat} (hC : A ≤ 2 ^ C) (hC2 : C ≤ 53) : Bd ((C : Int) + 1) r ∧ r = fop .quo x y := by
  have hm0 : ((m : Int) : Rat) ≠ 0 := by exact_mod_cast hm
  refine ⟨?_, h.fop_of (fb_quo hx.fv hy.fv hm0)⟩
  by_cases hn : n = 0
  · subst hn
    exact ⟨0, far_quo_zero h (by simpa using hx.fv) hy.fv hm0, by rw [rabs_zero]; exact Rat.le_of_lt (p2_pos _)⟩
  have hn0 : ((n : Int) : Rat) ≠ 0 := by exact_mod_cast hn
  obtain ⟨q, fq, bq⟩ := hx.bd hC
  have hqn := fq.uniq hx.fv
  subst hqn
  have i1 := int_pos hm
  have i2 := int_pos hn
  have d := rat_div_mul (n : Rat) (m : Rat) hm0
  have d2 : rabs ((n : Rat) / m) * rabs (m : Rat) = rabs (n : Rat) := by rw [← rabs_mul, d]
  have z := rabs_nonneg ((n : Rat) / m)
  have le1 : rabs ((n : Rat) / m) ≤ rabs (n : Rat) := by
    have := mul_le_left i1 z
    rw [d2] at this; grind
  have hmb : rabs (m : Rat) ≤ p2 53 := by
    have h1 := hy.lo
    have h2 := hy.hi
    rw [rabs_le]
    have h3 := int_le_p2 (n := m) (by omega)
    have h4 := int_le_p2 (n := -m) (by omega)
    rw [Rat.intCast_neg] at h4
    grind
  have ge1 : p2 (-1000) ≤ rabs ((n : Rat) / m) := by
    have := mul_le_left hmb z
    rw [d2] at this
    have h5 : 1 ≤ rabs ((n : Rat) / m) * p2 53 := Rat.le_trans i2 this
    have h6 := mul_le h5 (Rat.le_of_lt (p2_pos (-53)))
    rw [Rat.mul_assoc, p2_mul (c := 0) (by decide), p2_zero] at h6
    have h7 := p2_le (show (-1000 : Int) ≤ -53 by decide)
    grind
  have hp := p2_le (show (C : Int) ≤ 1000 by omega)
  obtain ⟨c, hc, hr⟩ := far_quo h hx.fv hy.fv hn0 hm0 ge1 (by grind)
  refine ⟨c, hc, ?_⟩
  have hr' := hr
  unfold Rl at hr'
  have e1 := rabs_add (c - (n : Rat) / m) ((n : Rat) / m)
  rw [show c - (n : Rat) / m + (n : Rat) / m = c by grind] at e1
  have e2 := mul_le (show p2 (-52) ≤ 1 by rw [← p2_zero]; exact p2_le (by decide)) z
  have e3 : p2 ((C : Int) + 1) = p2 C + p2 C := p2_half rfl
  generalize p2 (-52) * rabs ((n : Rat) / m) = w at *
  generalize rabs ((n : Rat) / m) = v at *
  grind
/-- The operation has a result. -/
def FB (op : BinOp) (x y : Nat) : Prop := ∃ r0, floatBits op .f64 x y = some r0
theorem far_fop {op : BinOp} {x y : Nat} (h : FB op x y) : FAr op x y (fop op x y) := by
  obtain ⟨r0, h0⟩ := h
  refine ⟨?_⟩
  rw [h0, fop_def, h0]; rfl
theorem Bd.fv {A : Int} {x : Nat} (h : Bd A x) : ∃ q, Fv x q := let ⟨q, h, _⟩ := h; ⟨q, h⟩
theorem Bd.addF {A : Int} {x y : Nat} (hx : Bd A x) (hy : Bd A y) (h1 : -900 ≤ A) (h2 : A ≤ 900) : FB .add x y ∧ Bd (A + 3) (fop .add x y) :=
  have h : FB .add x y := fb_add hx.fv.choose_spec hy.fv.choose_spec
  ⟨h, (hx.add hy (far_fop h) h1 h2).1⟩
theorem Bd.subF {A : Int} {x y : Nat} (hx : Bd A x) (hy : Bd A y) (h1 : -900 ≤ A) (h2 : A ≤ 900) : FB .sub x y ∧ Bd (A + 3) (fop .sub x y) :=
  have h : FB .sub x y := fb_sub hx.fv.choose_spec hy.fv.choose_spec
  ⟨h, (hx.sub hy (far_fop h) h1 h2).1⟩
theorem Bd.mulF {A B : Int} {x y : Nat} (hx : Bd A x) (hy : Bd B y) (h1 : -900 ≤ A + B) (h2 : A + B ≤ 900) : FB .mul x y ∧ Bd (A + B + 2) (fop .mul x y) :=
  have h : FB .mul x y := fb_mul hx.fv.choose_spec hy.fv.choose_spec
  ⟨h, (hx.mul hy (far_fop h) h1 h2).1⟩
theorem FI.subF {A B C x y : Nat} {a b : Int} (h1 : FI A x a) (h2 : FI B y b) (hC : A + B = C ∧ C ≤ 9007199254740992) : FB .sub x y ∧ FI C (fop .sub x y) (a - b) :=
  have h : FB .sub x y := fb_sub h1.fv h2.fv
  ⟨h, h1.sub h2 hC (far_fop h)⟩
theorem FI.addF {A B C x y : Nat} {a b : Int} (h1 : FI A x a) (h2 : FI B y b) (hC : A + B = C ∧ C ≤ 9007199254740992) : FB .add x y ∧ FI C (fop .add x y) (a + b) :=
  have h : FB .add x y := fb_add h1.fv h2.fv
  ⟨h, h1.add h2 hC (far_fop h)⟩
theorem FI.mulF {A B C x y : Nat} {a b : Int} (h1 : FI A x a) (h2 : FI B y b) (hC : A * B = C ∧ C ≤ 9007199254740992) : FB .mul x y ∧ FI C (fop .mul x y) (a * b) :=
  have h : FB .mul x y := fb_mul h1.fv h2.fv
  ⟨h, h1.mul h2 hC (far_fop h)⟩
section
variable {P : Program} {W : World} {n : Nat} {ds : List Deferred} {E : Env} {G : Heap} {K : Value → Heap → Prop}
variable {dst : Option Tmp} {ty : TypeId} {pos : String} {af : Array Edge} {g : Option (Nat × Bool)}
/-- A float operation that has a result. -/
theorem op_farithF {op t t2 x y u v} (hk : K (.float .f64 (fop op u v)) G) (hc : BinOp.isArith op = true := by exact rfl) (hx : evalE E x = some (.float .f64 u) := by exact rfl) (hy : evalE E y = some (.float .f64 v) := by exact rfl) (hfb : FB op u v := by assumption) : OpT P W n ds ⟨dst, .binOp op t x y t2, ty, pos, af, g⟩ E G K :=
  op_farith (fun r h => by rw [h.fop_of hfb]; exact hk) hc hx hy
end
/-- The square of a number with the other sign. -/
theorem fop_neg_sq {x : Nat} {q : Rat} (h : Fv x q) : fop .mul (Op.negFloat .f64 x) (Op.negFloat .f64 x) = fop .mul x x := by
  obtain ⟨s, m, e, hr, _⟩ := h
  have hn := neg_read hr
  rw [fop_def, fop_def]
  have e1 : ∀ y t, double.read y = .number t m e → floatBits .mul .f64 y y = some (double.write (.number (t ^^ t) (m * m) (e + e))) := by
    intro y t hy
    show ((double.read y).product (double.read y)).map double.write = _
    rw [hy]; rfl
  rw [e1 _ _ hr, e1 _ _ hn]
  cases s <;> rfl
end Go.Lg
