/-
  Float operations as functions of the words; floats with a bound. No conditions.
-/
import Derived.Test.YtelhfcjchpdkiaaDoorRows
import Derived.Test.YtelhfcjchpdkiaaDoorCards
import Derived.Test.YtelhfcjchpdkiaaDoorTie
import Derived.Deep.DeepHandedRow
import Derived.LaidMore
import Derived.Test.YtelhfcjchpdkiaaDoorZ1
import Derived.Test.YtelhfcjchpdkiaaDoorZ3
set_option linter.unusedVariables false
set_option linter.unusedSimpArgs false
namespace Go.Lg
open Ieee

theorem fop_ex : ∃ f : BinOp → Nat → Nat → Nat, ∀ op x y, f op x y = (floatBits op .f64 x y).getD 0 := ⟨fun op x y => (floatBits op .f64 x y).getD 0, fun _ _ _ => rfl⟩
/-- The result of a float operation, its make kept shut. -/
noncomputable def fop : BinOp → Nat → Nat → Nat := Classical.choose fop_ex
theorem fop_def (op : BinOp) (x y : Nat) : fop op x y = (floatBits op .f64 x y).getD 0 := Classical.choose_spec fop_ex op x y
theorem FAr.fop_of {op : BinOp} {x y r : Nat} (h : FAr op x y r) (hs : ∃ r0, floatBits op .f64 x y = some r0) : r = fop op x y := by
  obtain ⟨r0, h0⟩ := hs
  have := h.ok
  rw [h0] at this
  rw [fop_def, h0]; exact this
theorem fb_sub {x y : Nat} {a b : Rat} (ha : Fv x a) (hb : Fv y b) : ∃ r, floatBits .sub .f64 x y = some r := by
  obtain ⟨s, m, i, hx, rfl⟩ := ha
  obtain ⟨t, n, j, hy, rfl⟩ := hb
  obtain ⟨u, k, hs, hv⟩ := sum_val (s := s) (t := !t) (m := m) (n := n) (i := i) (j := j)
  refine ⟨_, show ((double.read x).sum (double.read y).opposite).map double.write = some (double.write (.number u k (min i j))) from ?_⟩
  rw [hx, hy]
  show (Datum.sum (.number s m i) (.number (!t) n j)).map double.write = _
  rw [hs]; rfl
/-- A finite float of size at most 2 ^ B. -/
def Bd (B : Int) (x : Nat) : Prop := ∃ q, Fv x q ∧ rabs q ≤ p2 B
theorem Bd.le {A B : Int} {x : Nat} (h : Bd A x) (hAB : A ≤ B) : Bd B x := let ⟨q, h1, h2⟩ := h; ⟨q, h1, Rat.le_trans h2 (p2_le hAB)⟩
theorem Bd.add {A : Int} {x y r : Nat} (hx : Bd A x) (hy : Bd A y) (h : FAr .add x y r) (h1 : -900 ≤ A) (h2 : A ≤ 900) : Bd (A + 3) r ∧ r = fop .add x y := by
  obtain ⟨a, fa, ba⟩ := hx
  obtain ⟨b, fb, bb⟩ := hy
  refine ⟨?_, h.fop_of (fb_add fa fb)⟩
  have e1 := rabs_add a b
  have e2 : p2 (A + 1) = p2 A + p2 A := p2_half rfl
  have e3 : p2 (A + 2) = p2 (A + 1) + p2 (A + 1) := p2_half (by omega)
  have e4 : p2 (A + 3) = p2 (A + 2) + p2 (A + 2) := p2_half (by omega)
  have e5 := p2_lt (show A + 1 < 1023 by omega)
  have e6 := p2_le (show -1000 ≤ A by omega)
  have e7 := p2_pos A
  have l := le_rabs (a + b)
  obtain ⟨c, hc, hr⟩ := far_add h fa fb (by generalize p2 1023 = z at *; clear h fa fb; grind) (by generalize p2 1023 = z at *; clear h fa fb; grind)
  have e8 := hr.abs_le
  refine ⟨c, hc, ?_⟩
  generalize p2 (-1000) = y at *
  clear hr hc h fa fb e5
  grind
theorem Bd.sub {A : Int} {x y r : Nat} (hx : Bd A x) (hy : Bd A y) (h : FAr .sub x y r) (h1 : -900 ≤ A) (h2 : A ≤ 900) : Bd (A + 3) r ∧ r = fop .sub x y := by
  obtain ⟨a, fa, ba⟩ := hx
  obtain ⟨b, fb, bb⟩ := hy
  refine ⟨?_, h.fop_of (fb_sub fa fb)⟩
  have e1 := rabs_add a (-b)
  rw [rabs_neg, ← Rat.sub_eq_add_neg] at e1
  have e2 : p2 (A + 1) = p2 A + p2 A := p2_half rfl
  have e3 : p2 (A + 2) = p2 (A + 1) + p2 (A + 1) := p2_half (by omega)
  have e4 : p2 (A + 3) = p2 (A + 2) + p2 (A + 2) := p2_half (by omega)
  have e5 := p2_lt (show A + 1 < 1023 by omega)
  have e6 := p2_le (show -1000 ≤ A by omega)
  have e7 := p2_pos A
  have l := le_rabs (a - b)
  obtain ⟨c, hc, hr⟩ := far_sub h fa fb (by generalize p2 1023 = z at *; clear h fa fb; grind) (by generalize p2 1023 = z at *; clear h fa fb; grind)
  have e8 := hr.abs_le
  refine ⟨c, hc, ?_⟩
  generalize p2 (-1000) = y at *
  clear hr hc h fa fb e5
  grind
theorem Bd.mul {A B : Int} {x y r : Nat} (hx : Bd A x) (hy : Bd B y) (h : FAr .mul x y r) (h1 : -900 ≤ A + B) (h2 : A + B ≤ 900) : Bd (A + B + 2) r ∧ r = fop .mul x y := by
  obtain ⟨a, fa, ba⟩ := hx
  obtain ⟨b, fb, bb⟩ := hy
  refine ⟨?_, h.fop_of (fb_mul fa fb)⟩
  have e0 : rabs (a * b) ≤ p2 (A + B) := by
    rw [rabs_mul, p2_add]
    exact Rat.le_trans (mul_le ba (rabs_nonneg b)) (mul_le_left bb (Rat.le_of_lt (p2_pos A)))
  have e2 : p2 (A + B + 1) = p2 (A + B) + p2 (A + B) := p2_half rfl
  have e3 : p2 (A + B + 2) = p2 (A + B + 1) + p2 (A + B + 1) := p2_half (by omega)
  have e5 := p2_lt (show A + B < 1023 by omega)
  have e6 := p2_le (show -1000 ≤ A + B by omega)
  have e7 := p2_pos (A + B)
  have l := le_rabs (a * b)
  obtain ⟨c, hc, hr⟩ := far_mul h fa fb (by generalize p2 1023 = z at *; clear h fa fb; grind) (by generalize p2 1023 = z at *; clear h fa fb; grind)
  have e8 := hr.abs_le
  refine ⟨c, hc, ?_⟩
  generalize p2 (-1000) = y at *
  clear hr hc h fa fb e5
  grind
theorem FI.bd {B : Nat} {x : Nat} {n : Int} (h : FI B x n) {A : Nat} (hA : B ≤ 2 ^ A) : Bd (A : Int) x := by
  refine ⟨(n : Rat), h.fv, ?_⟩
  rw [p2_nat]
  have h1 := h.lo
  have h2 := h.hi
  rw [rabs_le, ← Rat.intCast_natCast]
  constructor
  · rw [← Rat.intCast_neg]; exact Rat.intCast_le_intCast.2 (by omega)
  · exact Rat.intCast_le_intCast.2 (by omega)
/-- A quotient of whole numbers. -/
theorem FI.quo_bd {A B : Nat} {x y r : Nat} {n m : Int} (hx : FI A x n) (hy : FI B y m) (h : FAr .quo x y r) (hm : m ≠ 0) (hB : B ≤ 9007199254740992) {C : Nat} (hC : A ≤ 2 ^ C) (hC2 : C ≤ 53) : Bd ((C : Int) + 1) r ∧ r = fop .quo x y := by
  have hm0 : ((m : Int) : Rat) ≠ 0 := by exact_mod_cast hm
  refine ⟨?_, h.fop_of (fb_quo hx.fv hy.fv hm0)⟩
  by_cases hn : n = 0
  · subst hn
    exact ⟨0, far_quo_zero h (by simpa using hx.fv) hy.fv hm0, by rw [rabs_zero]; exact Rat.le_of_lt (p2_pos _)⟩
  have hn0 : ((n : Int) : Rat) ≠ 0 := by exact_mod_cast hn
  obtain ⟨q, fq, bq⟩ := hx.bd hC
  have hqn := fq.uniq hx.fv
  subst hqn
  have i1 := int_pos hm
  have i2 := int_pos hn
  have d := rat_div_mul (n : Rat) (m : Rat) hm0
  have d2 : rabs ((n : Rat) / m) * rabs (m : Rat) = rabs (n : Rat) := by rw [← rabs_mul, d]
  have z := rabs_nonneg ((n : Rat) / m)
  have le1 : rabs ((n : Rat) / m) ≤ rabs (n : Rat) := by
    have := mul_le_left i1 z
    rw [d2] at this; grind
  have hmb : rabs (m : Rat) ≤ p2 53 := by
    have h1 := hy.lo
    have h2 := hy.hi
    rw [rabs_le]
    have h3 := int_le_p2 (n := m) (by omega)
    have h4 := int_le_p2 (n := -m) (by omega)
    rw [Rat.intCast_neg] at h4
    grind
  have ge1 : p2 (-1000) ≤ rabs ((n : Rat) / m) := by
    have := mul_le_left hmb z
    rw [d2] at this
    have h5 : 1 ≤ rabs ((n : Rat) / m) * p2 53 := Rat.le_trans i2 this
    have h6 := mul_le h5 (Rat.le_of_lt (p2_pos (-53)))
    rw [Rat.mul_assoc, p2_mul (c := 0) (by decide), p2_zero] at h6
    have h7 := p2_le (show (-1000 : Int) ≤ -53 by decide)
    grind
  have hp := p2_le (show (C : Int) ≤ 1000 by omega)
  obtain ⟨c, hc, hr⟩ := far_quo h hx.fv hy.fv hn0 hm0 ge1 (by grind)
  refine ⟨c, hc, ?_⟩
  have hr' := hr
  unfold Rl at hr'
  have e1 := rabs_add (c - (n : Rat) / m) ((n : Rat) / m)
  rw [show c - (n : Rat) / m + (n : Rat) / m = c by grind] at e1
  have e2 := mul_le (show p2 (-52) ≤ 1 by rw [← p2_zero]; exact p2_le (by decide)) z
  have e3 : p2 ((C : Int) + 1) = p2 C + p2 C := p2_half rfl
  generalize p2 (-52) * rabs ((n : Rat) / m) = w at *
  generalize rabs ((n : Rat) / m) = v at *
  grind
/-- The operation has a result. -/
def FB (op : BinOp) (x y : Nat) : Prop := ∃ r0, floatBits op .f64 x y = some r0
theorem far_fop {op : BinOp} {x y : Nat} (h : FB op x y) : FAr op x y (fop op x y) := by
  obtain ⟨r0, h0⟩ := h
  refine ⟨?_⟩
  rw [h0, fop_def, h0]; rfl
theorem Bd.fv {A : Int} {x : Nat} (h : Bd A x) : ∃ q, Fv x q := let ⟨q, h, _⟩ := h; ⟨q, h⟩
theorem Bd.addF {A : Int} {x y : Nat} (hx : Bd A x) (hy : Bd A y) (h1 : -900 ≤ A) (h2 : A ≤ 900) : FB .add x y ∧ Bd (A + 3) (fop .add x y) :=
  have h : FB .add x y := fb_add hx.fv.choose_spec hy.fv.choose_spec
  ⟨h, (hx.add hy (far_fop h) h1 h2).1⟩
theorem Bd.subF {A : Int} {x y : Nat} (hx : Bd A x) (hy : Bd A y) (h1 : -900 ≤ A) (h2 : A ≤ 900) : FB .sub x y ∧ Bd (A + 3) (fop .sub x y) :=
  have h : FB .sub x y := fb_sub hx.fv.choose_spec hy.fv.choose_spec
  ⟨h, (hx.sub hy (far_fop h) h1 h2).1⟩
theorem Bd.mulF {A B : Int} {x y : Nat} (hx : Bd A x) (hy : Bd B y) (h1 : -900 ≤ A + B) (h2 : A + B ≤ 900) : FB .mul x y ∧ Bd (A + B + 2) (fop .mul x y) :=
  have h : FB .mul x y := fb_mul hx.fv.choose_spec hy.fv.choose_spec
  ⟨h, (hx.mul hy (far_fop h) h1 h2).1⟩
theorem FI.subF {A B C x y : Nat} {a b : Int} (h1 : FI A x a) (h2 : FI B y b) (hC : A + B = C ∧ C ≤ 9007199254740992) : FB .sub x y ∧ FI C (fop .sub x y) (a - b) :=
  have h : FB .sub x y := fb_sub h1.fv h2.fv
  ⟨h, h1.sub h2 hC (far_fop h)⟩
theorem FI.addF {A B C x y : Nat} {a b : Int} (h1 : FI A x a) (h2 : FI B y b) (hC : A + B = C ∧ C ≤ 9007199254740992) : FB .add x y ∧ FI C (fop .add x y) (a + b) :=
  have h : FB .add x y := fb_add h1.fv h2.fv
  ⟨h, h1.add h2 hC (far_fop h)⟩
theorem FI.mulF {A B C x y : Nat} {a b : Int} (h1 : FI A x a) (h2 : FI B y b) (hC : A * B = C ∧ C ≤ 9007199254740992) : FB .mul x y ∧ FI C (fop .mul x y) (a * b) :=
  have h : FB .mul x y := fb_mul h1.fv h2.fv
  ⟨h, h1.mul h2 hC (far_fop h)⟩
section
variable {P : Program} {W : World} {n : Nat} {ds : List Deferred} {E : Env} {G : Heap} {K : Value → Heap → Prop}
variable {dst : Option Tmp} {ty : TypeId} {pos : String} {af : Array Edge} {g : Option (Nat × Bool)}
/-- A float operation that has a result. -/
theorem op_farithF {op t t2 x y u v} (hk : K (.float .f64 (fop op u v)) G) (hc : BinOp.isArith op = true := by exact rfl) (hx : evalE E x = some (.float .f64 u) := by exact rfl) (hy : evalE E y = some (.float .f64 v) := by exact rfl) (hfb : FB op u v := by assumption) : OpT P W n ds ⟨dst, .binOp op t x y t2, ty, pos, af, g⟩ E G K :=
  op_farith (fun r h => by rw [h.fop_of hfb]; exact hk) hc hx hy
end
/-- The square of a number with the other sign. -/
theorem fop_neg_sq {x : Nat} {q : Rat} (h : Fv x q) : fop .mul (Op.negFloat .f64 x) (Op.negFloat .f64 x) = fop .mul x x := by
  obtain ⟨s, m, e, hr, _⟩ := h
  have hn := neg_read hr
  rw [fop_def, fop_def]
  have e1 : ∀ y t, double.read y = .number t m e → floatBits .mul .f64 y y = some (double.write (.number (t ^^ t) (m * m) (e + e))) := by
    intro y t hy
    show ((double.read y).product (double.read y)).map double.write = _
    rw [hy]; rfl
  rw [e1 _ _ hr, e1 _ _ hn]
  cases s <;> rfl
end Go.Lg

set_option linter.unusedVariables false
set_option linter.unusedSimpArgs false
namespace Go.Proofs.YtelhfcjchpdkiaaDoor.Ori
open Go.Lg Go.Proofs.YtelhfcjchpdkiaaDoor.Lmb Go.Proofs.YtelhfcjchpdkiaaDoor.Orp Ieee

theorem fv_zero : Fv 0 (0 : Rat) := ⟨false, 0, -1074, rfl, by simp⟩
/-- What is told of two products. -/
def Tell (L R t : Int) : Prop := (t = 2 ∨ t = 0 ∨ t = sgQ ((L - R : Int) : Rat)) ∧ ((rabs (L : Rat) + rabs (R : Rat)) * p2 (-30) ≤ rabs ((L - R : Int) : Rat) → t = sgQ ((L - R : Int) : Rat)) ∧
  (-4503599627370496 ≤ L → L ≤ 4503599627370496 → -4503599627370496 ≤ R → R ≤ 4503599627370496 → t = 2 ∨ t = sgQ ((L - R : Int) : Rat))
theorem tell_det {L R : Int} {c1 c2 d : Rat} (h : Det L R c1 c2 d) : Tell L R (sgQ d) :=
  ⟨.inr h.never, fun ht => (h.told ht).1, fun a b c e => .inr (by rw [(h.exact a b c e).2.2])⟩
theorem tell_two {L R : Int} {c1 c2 d s eb : Rat} (h : Det L R c1 c2 d) (hc : (0 < c1 ∧ 0 < c2 ∧ Rnd (c1 + c2) s) ∨ (c1 < 0 ∧ c2 < 0 ∧ Rnd (-c1 - c2) s)) (hb : Rnd (eps * s) eb) (h1 : d < eb) (h2 : -d < eb) : Tell L R 2 :=
  ⟨.inl rfl, fun ht => absurd ht (silent h hc hb h1 h2), fun _ _ _ _ => .inl rfl⟩

theorem far_prod {x y z w r1 r2 r : Nat} {a b c d : Int} (fx : Fv x (a : Rat)) (fy : Fv y (b : Rat)) (fz : Fv z (c : Rat)) (fw : Fv w (d : Rat)) (ha : -2251799813685248 ≤ a ∧ a ≤ 2251799813685248) (hb : -2251799813685248 ≤ b ∧ b ≤ 2251799813685248)
    (hc : -2251799813685248 ≤ c ∧ c ≤ 2251799813685248) (hd : -2251799813685248 ≤ d ∧ d ≤ 2251799813685248) (h1 : FAr .sub x y r1) (h2 : FAr .sub z w r2) (h3 : FAr .mul r1 r2 r) :
    Fv r1 ((a - b : Int) : Rat) ∧ Fv r2 ((c - d : Int) : Rat) ∧ ∃ cc, Fv r cc ∧ Rnd (((a - b) * (c - d) : Int) : Rat) cc := by
  have g1 := int_sub fx fy (by omega) (by omega) h1
  have g2 := int_sub fz fw (by omega) (by omega) h2
  refine ⟨g1, g2, ?_⟩
  have hb := mul_bound (a := a - b) (b := c - d) (A := 4503599627370496) (B := 4503599627370496) (by omega) (by omega) (by omega) (by omega)
  rw [Rat.intCast_mul]
  have e : ((4503599627370496 * 4503599627370496 : Int) : Rat) = p2 104 := by
    have e0 : p2 104 = ((20282409603651670423947251286016 : Nat) : Rat) := p2_toNat (by decide)
    rw [e0, ← Rat.intCast_natCast]; rfl
  have l1 : ((a - b : Int) : Rat) * ((c - d : Int) : Rat) ≤ p2 104 := by rw [← e, ← Rat.intCast_mul]; exact Rat.intCast_le_intCast.2 hb.2
  have l2 : -(((a - b : Int) : Rat) * ((c - d : Int) : Rat)) ≤ p2 104 := by
    have : ((-((a - b) * (c - d)) : Int) : Rat) ≤ p2 104 := by rw [← e]; exact Rat.intCast_le_intCast.2 (by omega)
    rwa [Rat.intCast_neg, Rat.intCast_mul] at this
  have l3 : p2 104 < p2 1023 := p2_lt (by decide)
  exact far_mul h3 g1 g2 (by grind) (by grind)
theorem rnd_small {n : Int} {c : Rat} (h : Rnd (n : Rat) c) (h1 : -20282409603651670423947251286016 ≤ n) (h2 : n ≤ 20282409603651670423947251286016) : rabs c ≤ p2 106 := by
  have e : ((20282409603651670423947251286016 : Int) : Rat) = p2 104 := by
    have e0 : p2 104 = ((20282409603651670423947251286016 : Nat) : Rat) := p2_toNat (by decide)
    rw [e0, ← Rat.intCast_natCast]; rfl
  have l1 : (n : Rat) ≤ p2 104 := by rw [← e]; exact Rat.intCast_le_intCast.2 h2
  have l2 : -(n : Rat) ≤ p2 104 := by
    rw [← e, ← Rat.intCast_neg]; exact Rat.intCast_le_intCast.2 (by omega)
  have l0 : rabs (n : Rat) ≤ p2 104 := by unfold rabs; split <;> grind
  have := ru1 (rnd_ru h)
  have h3 := rabs_add (c - (n : Rat)) (n : Rat)
  rw [show c - (n : Rat) + (n : Rat) = c by grind] at h3
  have h4 : EE ≤ 1 := by have := e_one; have := p2_pos (-53); grind
  have h5 := mul_le h4 (rabs3 (n : Rat)).2.2
  have h6 : p2 106 = 4 * p2 104 := by rw [show (106 : Int) = 104 + 1 + 1 from rfl, p2_succ, p2_succ]; grind
  grind
/-- The two products and their difference. -/
theorem det_of {p q d : Nat} {x1 y1 z1 w1 x2 y2 z2 w2 : Nat} {a b c e a' b' c' e' : Int} {r1 r2 r3 r4 : Nat} (f1 : Fv r1 ((a - b : Int) : Rat)) (f2 : Fv r2 ((c - e : Int) : Rat)) (f3 : Fv r3 ((a' - b' : Int) : Rat)) (f4 : Fv r4 ((c' - e' : Int) : Rat))
    {c1 c2 : Rat} (g1 : Fv p c1) (g2 : Fv q c2) (k1 : Rnd (((a - b) * (c - e) : Int) : Rat) c1) (k2 : Rnd (((a' - b') * (c' - e') : Int) : Rat) c2) (m1 : FAr .mul r1 r2 p) (m2 : FAr .mul r3 r4 q) (hd : FAr .sub p q d)
    (l1 : rabs c1 ≤ p2 106) (l2 : rabs c2 ≤ p2 106) : ∃ dd, Fv d dd ∧ Det ((a - b) * (c - e)) ((a' - b') * (c' - e')) c1 c2 dd := by
  have l3 : p2 106 + p2 106 < p2 1023 := by rw [← p2_half (e := 106) (e' := 107) rfl]; exact p2_lt (by decide)
  have a1 := rabs3 c1
  have a2 := rabs3 c2
  obtain ⟨dd, h1, h2⟩ := far_sub hd g1 g2 (by grind) (by grind)
  refine ⟨dd, h1, k1, k2, fun he => ?_, h2⟩
  by_cases hz : (a - b) * (c - e) = 0
  · rw [hz] at he k1
    rw [← he] at k2
    have e0 : ((0 : Int) : Rat) = 0 := rfl
    rw [e0] at k1 k2
    rw [k1.exact rep_zero, k2.exact rep_zero]
  · have := far_mul_same m1 m2 f1 f2 f3 f4 (by rw [← Rat.intCast_mul, ← Rat.intCast_mul, he]) (by rw [← Rat.intCast_mul]; exact_mod_cast hz)
    subst this
    exact g1.uniq g2

theorem fb_mul {x y : Nat} {a b : Rat} (ha : Fv x a) (hb : Fv y b) : FB .mul x y := by
  obtain ⟨s, m, i, hx, rfl⟩ := ha
  obtain ⟨t, n, j, hy, rfl⟩ := hb
  exact ⟨double.write (.number (s ^^ t) (m * n) (i + j)), by
    show ((double.read x).product (double.read y)).map double.write = _
    rw [hx, hy]; rfl⟩
theorem basedOn (x : Nat) (q : Rat) (H : Heap) (hx : Fv x q) : Does Tryd.prog 56 [.float .f64 x] H fun w H' => w = .int .i64 (sgQ q) ∧ H' = H := by
  have h1 := fcmp_gtr hx fv_zero
  have h2 := fcmp_lss hx fv_zero
  refine fn_enter 7 Tryd.func56 fun W => ?_
  rcases tri q 0 with h | h | h
  · rw [decide_eq_false (by grind)] at h1
    rw [decide_eq_true h] at h2
    repeat' first
      | refine tc_seq ?_ | refine tc_region ?_ | refine at_seq_normal ?_ | refine tl_nil ?_ | refine tl_cons ?_ | refine op_move ?_ | refine op_assign ?_ | refine op_fcmp ?_ | refine tc_cond_t ?_ | refine tc_cond_f ?_
      | refine tc_cond (fun _ => ?_) (fun _ => ?_) | refine tc_skip ?_ | refine tc_ret ?_ | refine at_seq_ret ?_
    exact ret_tmp (hk := ⟨by rw [sgQ_neg h], rfl⟩)
  · rw [decide_eq_false (by grind)] at h1
    rw [decide_eq_false (by grind)] at h2
    repeat' first
      | refine tc_seq ?_ | refine tc_region ?_ | refine at_seq_normal ?_ | refine tl_nil ?_ | refine tl_cons ?_ | refine op_move ?_ | refine op_assign ?_ | refine op_fcmp ?_ | refine tc_cond_t ?_ | refine tc_cond_f ?_
      | refine tc_cond (fun _ => ?_) (fun _ => ?_) | refine tc_skip ?_ | refine tc_ret ?_ | refine at_seq_ret ?_
    exact ret_tmp (hk := ⟨by rw [sgQ_zero h], rfl⟩)
  · rw [decide_eq_true h] at h1
    repeat' first
      | refine tc_seq ?_ | refine tc_region ?_ | refine at_seq_normal ?_ | refine tl_nil ?_ | refine tl_cons ?_ | refine op_move ?_ | refine op_assign ?_ | refine op_fcmp ?_ | refine tc_cond_t ?_ | refine tc_cond_f ?_
      | refine tc_cond (fun _ => ?_) (fun _ => ?_) | refine tc_skip ?_ | refine tc_ret ?_ | refine at_seq_ret ?_
    exact ret_tmp (hk := ⟨by rw [sgQ_pos h], rfl⟩)
theorem eb_of {s eb : Nat} {ss t : Rat} (he : FAr .mul 4382569440205035030 s eb) (fs : Fv s ss) (rs : Rnd t ss) (ht : rabs t ≤ p2 107) : ∃ ee, Fv eb ee ∧ Rnd (eps * ss) ee := by
  have h1 := rs.abs_le
  obtain ⟨e0, e1, e2⟩ := eps_le
  have h2 : p2 108 = 2 * p2 107 := p2_succ 107
  have h3 : p2 109 = 2 * p2 108 := p2_succ 108
  have h4 : p2 (-1000) ≤ p2 108 := p2_le (by decide)
  have h5 : rabs ss ≤ p2 109 := by grind
  have h6 : eps ≤ 1 := by have := e_one; have := p2_pos (-53); grind
  have h7 : rabs (eps * ss) ≤ p2 109 := by
    rw [rabs_mul, rabs_of_nonneg (Rat.le_of_lt e0)]
    have := mul_le h6 (rabs3 ss).2.2
    grind
  have h8 : p2 109 < p2 1023 := p2_lt (by decide)
  have h9 := rabs3 (eps * ss)
  exact far_mul he fv_eps fs (by grind) (by grind)
theorem two_pos {L R : Int} {p q d s eb : Nat} {c1 c2 dd : Rat} (h : Det L R c1 c2 dd) (g1 : Fv p c1) (g2 : Fv q c2) (fd : Fv d dd) (b1 : rabs c1 ≤ p2 106) (b2 : rabs c2 ≤ p2 106) (x1 : fcmp .gtr p 0 = true) (x2 : fcmp .leq q 0 = false)
    (hs : FAr .add p q s) (he : FAr .mul 4382569440205035030 s eb) (x3 : fcmp .geq d eb = false) (x4 : fcmp .geq (Op.negFloat .f64 d) eb = false) : Tell L R 2 := by
  rw [fcmp_gtr g1 fv_zero] at x1
  rw [fcmp_leq g2 fv_zero] at x2
  simp only [decide_eq_true_eq, decide_eq_false_iff_not] at x1 x2
  have l3 : p2 106 + p2 106 < p2 1000 := by rw [← p2_half (e := 106) (e' := 107) rfl]; exact p2_lt (by decide)
  have l4 : p2 1000 < p2 1023 := p2_lt (by decide)
  have a1 := rabs3 c1
  have a2 := rabs3 c2
  obtain ⟨ss, fs, rs⟩ := far_add hs g1 g2 (by grind) (by grind)
  obtain ⟨ee, fe, re⟩ := eb_of he fs rs (by rw [rabs_of_nonneg (by grind)]; have := p2_half (e := 106) (e' := 107) rfl; grind)
  rw [fcmp_geq fd fe] at x3
  rw [fcmp_geq fd.neg fe] at x4
  simp only [decide_eq_false_iff_not] at x3 x4
  exact tell_two h (.inl ⟨x1, by grind, rs⟩) re (by grind) (by grind)
theorem two_neg {L R : Int} {p q d s eb : Nat} {c1 c2 dd : Rat} (h : Det L R c1 c2 dd) (g1 : Fv p c1) (g2 : Fv q c2) (fd : Fv d dd) (b1 : rabs c1 ≤ p2 106) (b2 : rabs c2 ≤ p2 106) (x1 : fcmp .lss p 0 = true) (x2 : fcmp .geq q 0 = false)
    (hs : FAr .sub (Op.negFloat .f64 p) q s) (he : FAr .mul 4382569440205035030 s eb) (x3 : fcmp .geq d eb = false) (x4 : fcmp .geq (Op.negFloat .f64 d) eb = false) : Tell L R 2 := by
  rw [fcmp_lss g1 fv_zero] at x1
  rw [fcmp_geq g2 fv_zero] at x2
  simp only [decide_eq_true_eq, decide_eq_false_iff_not] at x1 x2
  have l3 : p2 106 + p2 106 < p2 1000 := by rw [← p2_half (e := 106) (e' := 107) rfl]; exact p2_lt (by decide)
  have l4 : p2 1000 < p2 1023 := p2_lt (by decide)
  have a1 := rabs3 c1
  have a2 := rabs3 c2
  obtain ⟨ss, fs, rs⟩ := far_sub hs g1.neg g2 (by grind) (by grind)
  obtain ⟨ee, fe, re⟩ := eb_of he fs rs (by rw [rabs_of_nonneg (by grind)]; have := p2_half (e := 106) (e' := 107) rfl; grind)
  rw [fcmp_geq fd fe] at x3
  rw [fcmp_geq fd.neg fe] at x4
  simp only [decide_eq_false_iff_not] at x3 x4
  exact tell_two h (.inr ⟨x1, by grind, rs⟩) re (by grind) (by grind)
abbrev W51 (n : Int) : Prop := -2251799813685248 ≤ n ∧ n ≤ 2251799813685248
/-- The cell of the package variable of the filter. -/
def Eps (H : Heap) : Prop := ∃ T fz, (1, Obj.cells ⟨[.float .f64 4382569440205035030]⟩ T fz) ∈ H
theorem bnd {a b c d : Int} (ha : W51 a) (hb : W51 b) (hc : W51 c) (hd : W51 d) : -20282409603651670423947251286016 ≤ (a - b) * (c - d) ∧ (a - b) * (c - d) ≤ 20282409603651670423947251286016 :=
  mul_bound (a := a - b) (b := c - d) (A := 4503599627370496) (B := 4503599627370496) (by omega) (by omega) (by omega) (by omega)
set_option maxHeartbeats 16000000 in
theorem filter (k1 o1 c1 k2 o2 c2 k3 o3 c3 : Nat) (l1 l2 l3 : List Value) (T1 T2 T3 : TypeId) (z1 z2 z3 : Nat × Nat) (ax ay bx by' px py : Nat) (aX aY bX bY pX pY : Int) (H : Heap)
    (m1 : (k1, Obj.cells ⟨l1⟩ T1 z1) ∈ H) (m2 : (k2, Obj.cells ⟨l2⟩ T2 z2) ∈ H) (m3 : (k3, Obj.cells ⟨l3⟩ T3 z3) ∈ H)
    (g1 : l1[o1 + 0]? = some (.float .f64 ax)) (g2 : l1[o1 + 1]? = some (.float .f64 ay)) (g3 : l2[o2 + 0]? = some (.float .f64 bx)) (g4 : l2[o2 + 1]? = some (.float .f64 by')) (g5 : l3[o3 + 0]? = some (.float .f64 px)) (g6 : l3[o3 + 1]? = some (.float .f64 py))
    (fax : Fv ax (aX : Rat)) (fay : Fv ay (aY : Rat)) (fbx : Fv bx (bX : Rat)) (fby : Fv by' (bY : Rat)) (fpx : Fv px (pX : Rat)) (fpy : Fv py (pY : Rat)) (wax : W51 aX) (way : W51 aY) (wbx : W51 bX) (wby : W51 bY) (wpx : W51 pX) (wpy : W51 pY) (hE : Eps H) :
    Does Tryd.prog 55 [.slice (some ⟨k1, o1, none⟩) 2 c1, .slice (some ⟨k2, o2, none⟩) 2 c2, .slice (some ⟨k3, o3, none⟩) 2 c3] H fun w H' => (∃ t : Int, w = .int .i64 t ∧ Tell ((aX - pX) * (bY - pY)) ((aY - pY) * (bX - pX)) t) ∧ H' = H := by
  obtain ⟨TE, zE, hE⟩ := hE
  have q1 : FB .sub ax px := fb_sub fax fpx
  have q2 : FB .sub by' py := fb_sub fby fpy
  have q4 : FB .sub ay py := fb_sub fay fpy
  have q5 : FB .sub bx px := fb_sub fbx fpx
  have h1 := far_fop q1
  have h2 := far_fop q2
  have h4 := far_fop q4
  have h5 := far_fop q5
  have q3 : FB .mul (fop .sub ax px) (fop .sub by' py) := fb_mul (int_sub fax fpx (by omega) (by omega) h1) (int_sub fby fpy (by omega) (by omega) h2)
  have q6 : FB .mul (fop .sub ay py) (fop .sub bx px) := fb_mul (int_sub fay fpy (by omega) (by omega) h4) (int_sub fbx fpx (by omega) (by omega) h5)
  have h3 := far_fop q3
  have h6 := far_fop q6
  obtain ⟨f1, f2, v1, i1, j1⟩ := far_prod fax fpx fby fpy wax wpx wby wpy h1 h2 h3
  obtain ⟨f3, f4, v2, i2, j2⟩ := far_prod fay fpy fbx fpx way wpy wbx wpx h4 h5 h6
  refine fn_enter 82 Tryd.func55 fun W => ?_
  repeat' first
    | refine tc_seq ?_ | refine tc_region ?_ | refine at_seq_normal ?_ | refine tl_nil ?_ | refine tl_cons ?_ | refine op_move ?_ | refine op_assign ?_ | refine op_load ?_ | refine op_load_agg ?_ | refine op_indexC ?_
    | refine op_indexAddr1 ?_ | refine op_indexAddr ?_ | refine op_fcmp ?_ | refine op_unop_neg_float ?_ | refine op_unop_neg_int ?_ | refine op_pick_true ?_ | refine op_pick_false ?_ | refine op_pick_true' ?_ | refine op_pick_false' ?_ | (refine op_farith ?_; intro _ _)
    | refine op_loadK rfl ?_ | refine op_load_aggK rfl ?_ | refine tc_cond_t ?_ | refine tc_cond_f ?_ | refine tc_cond (fun _ => ?_) (fun _ => ?_) | refine tc_block ?_ | refine tc_skip ?_ | refine tc_ret ?_ | refine at_seq_ret ?_ | refine at_block_normal ?_
    | refine at_block_ret ?_ | refine tl_guard_yes ?_ | refine tl_guard_no ?_ | refine tl_guard_yes' ?_ | refine tl_guard_no' ?_ | refine tl_guard_undef ?_ | refine tl_guard_split (fun _ => ?_) (fun _ => ?_)
  apply fun hole0 hole1 hole2 hole3 hole4 hole5 hole6 hole7 hole8 hole9 hole10 hole11 hE hD hml hdl hpr prem fin => tc_drawnD 15 [PhiD.is hole0, PhiD.is hole1, PhiD.is hole2, PhiD.is hole3, PhiD.is hole4, PhiD.is hole5, PhiD.is (.float .f64 (fop .sub ax px)), PhiD.is hole6, PhiD.is hole7, PhiD.is hole8, PhiD.is hole9, PhiD.is hole10, PhiD.is hole11, PhiD.is (.float .f64 (fop .sub by' py)), PhiD.is (.float .f64 (fop .mul (fop .sub ax px) (fop .sub by' py)))]
    [some 12, some 13, some 14, some 15, some 16, some 17, some 18, some 19, some 20, some 21, some 22, some 23, some 24, some 25, some 26, some 8] [[], [0], [1], [], [3], [4], [2, 5], [], [7], [8], [], [10], [11], [9, 12], [6, 13]] mixed trivial prem fin hE hD rfl hml hdl hpr
  rotate_left 13
  · first | kernel_rfl | exact rfl
  · first | kernel_rfl | exact rfl
  · exact Nat.le_of_ble_eq_true rfl
  · first | kernel_rfl | exact rfl
  · first | kernel_rfl | exact rfl
  refine ⟨fun G hG => ?_, fun G hG => ?_, fun G hG => ?_, fun G hG => ?_, fun G hG => ?_, fun G hG => ?_, fun G hG => ?_, fun G hG => ?_, fun G hG => ?_, fun G hG => ?_, fun G hG => ?_, fun G hG => ?_, fun G hG => ?_, fun G hG => ?_, fun G hG => ?_, trivial⟩
  · simp only [withD, nthD, Step2, nthDst, putO, postD]
    (refine op_move ?_; exact ⟨[], rfl, rfl, rfl⟩)
  · simp only [withD, nthD, Step2, nthDst, putO, postD]
    ((first | refine op_indexC ?_ | refine op_indexAddr1 ?_ | refine op_indexAddr ?_); exact ⟨[], rfl, rfl, rfl⟩)
  · simp only [withD, nthD, Step2, nthDst, putO, postD]
    ((first | refine op_load ?_ | refine op_load_agg ?_ | refine op_load ?_ (hm := Sub.mem (by assumption) (by (repeat (apply List.mem_cons_of_mem)); assumption)) | refine op_load_agg ?_ (hm := Sub.mem (by assumption) (by (repeat (apply List.mem_cons_of_mem)); assumption)) | refine op_loadH hG rfl ?_ | refine op_load_aggH hG rfl ?_); exact ⟨[], rfl, rfl, rfl⟩)
  · simp only [withD, nthD, Step2, nthDst, putO, postD]
    (refine op_move ?_; exact ⟨[], rfl, rfl, rfl⟩)
  · simp only [withD, nthD, Step2, nthDst, putO, postD]
    ((first | refine op_indexC ?_ | refine op_indexAddr1 ?_ | refine op_indexAddr ?_); exact ⟨[], rfl, rfl, rfl⟩)
  · simp only [withD, nthD, Step2, nthDst, putO, postD]
    ((first | refine op_load ?_ | refine op_load_agg ?_ | refine op_load ?_ (hm := Sub.mem (by assumption) (by (repeat (apply List.mem_cons_of_mem)); assumption)) | refine op_load_agg ?_ (hm := Sub.mem (by assumption) (by (repeat (apply List.mem_cons_of_mem)); assumption)) | refine op_loadH hG rfl ?_ | refine op_load_aggH hG rfl ?_); exact ⟨[], rfl, rfl, rfl⟩)
  · simp only [withD, nthD, Step2, nthDst, putO, postD]
    (refine op_farithF ?_; exact ⟨[], rfl, rfl, rfl⟩)
  · simp only [withD, nthD, Step2, nthDst, putO, postD]
    (refine op_move ?_; exact ⟨[], rfl, rfl, rfl⟩)
  · simp only [withD, nthD, Step2, nthDst, putO, postD]
    ((first | refine op_indexC ?_ | refine op_indexAddr1 ?_ | refine op_indexAddr ?_); exact ⟨[], rfl, rfl, rfl⟩)
  · simp only [withD, nthD, Step2, nthDst, putO, postD]
    ((first | refine op_load ?_ | refine op_load_agg ?_ | refine op_load ?_ (hm := Sub.mem (by assumption) (by (repeat (apply List.mem_cons_of_mem)); assumption)) | refine op_load_agg ?_ (hm := Sub.mem (by assumption) (by (repeat (apply List.mem_cons_of_mem)); assumption)) | refine op_loadH hG rfl ?_ | refine op_load_aggH hG rfl ?_); exact ⟨[], rfl, rfl, rfl⟩)
  · simp only [withD, nthD, Step2, nthDst, putO, postD]
    (refine op_move ?_; exact ⟨[], rfl, rfl, rfl⟩)
  · simp only [withD, nthD, Step2, nthDst, putO, postD]
    ((first | refine op_indexC ?_ | refine op_indexAddr1 ?_ | refine op_indexAddr ?_); exact ⟨[], rfl, rfl, rfl⟩)
  · simp only [withD, nthD, Step2, nthDst, putO, postD]
    ((first | refine op_load ?_ | refine op_load_agg ?_ | refine op_load ?_ (hm := Sub.mem (by assumption) (by (repeat (apply List.mem_cons_of_mem)); assumption)) | refine op_load_agg ?_ (hm := Sub.mem (by assumption) (by (repeat (apply List.mem_cons_of_mem)); assumption)) | refine op_loadH hG rfl ?_ | refine op_load_aggH hG rfl ?_); exact ⟨[], rfl, rfl, rfl⟩)
  · simp only [withD, nthD, Step2, nthDst, putO, postD]
    (refine op_farithF ?_; exact ⟨[], rfl, rfl, rfl⟩)
  · simp only [withD, nthD, Step2, nthDst, putO, postD]
    (refine op_farithF ?_; exact ⟨[], rfl, rfl, rfl⟩)
  simp only [FinalsD, nthDst, putO, List.drop_succ_cons, List.drop_zero]
  rintro -
  repeat' first
    | refine tc_seq ?_ | refine tc_region ?_ | refine at_seq_normal ?_ | refine tl_nil ?_ | refine tl_cons ?_ | refine op_move ?_ | refine op_assign ?_ | refine op_load ?_ | refine op_load_agg ?_ | refine op_indexC ?_
    | refine op_indexAddr1 ?_ | refine op_indexAddr ?_ | refine op_fcmp ?_ | refine op_unop_neg_float ?_ | refine op_unop_neg_int ?_ | refine op_pick_true ?_ | refine op_pick_false ?_ | refine op_pick_true' ?_ | refine op_pick_false' ?_ | (refine op_farith ?_; intro _ _)
    | refine op_loadK rfl ?_ | refine op_load_aggK rfl ?_ | refine tc_cond_t ?_ | refine tc_cond_f ?_ | refine tc_cond (fun _ => ?_) (fun _ => ?_) | refine tc_block ?_ | refine tc_skip ?_ | refine tc_ret ?_ | refine at_seq_ret ?_ | refine at_block_normal ?_
    | refine at_block_ret ?_ | refine tl_guard_yes ?_ | refine tl_guard_no ?_ | refine tl_guard_yes' ?_ | refine tl_guard_no' ?_ | refine tl_guard_undef ?_ | refine tl_guard_split (fun _ => ?_) (fun _ => ?_)
  apply fun hole0 hole1 hole2 hole3 hole4 hole5 hole6 hole7 hole8 hole9 hole10 hole11 hE hD hml hdl hpr prem fin => tc_drawnD 15 [PhiD.is hole0, PhiD.is hole1, PhiD.is hole2, PhiD.is hole3, PhiD.is hole4, PhiD.is hole5, PhiD.is (.float .f64 (fop .sub ay py)), PhiD.is hole6, PhiD.is hole7, PhiD.is hole8, PhiD.is hole9, PhiD.is hole10, PhiD.is hole11, PhiD.is (.float .f64 (fop .sub bx px)), PhiD.is (.float .f64 (fop .mul (fop .sub ay py) (fop .sub bx px)))]
    [some 27, some 28, some 29, some 30, some 31, some 32, some 33, some 34, some 35, some 36, some 37, some 38, some 39, some 40, some 41, some 9] [[], [0], [1], [], [3], [4], [2, 5], [], [7], [8], [], [10], [11], [9, 12], [6, 13]] mixed trivial prem fin hE hD rfl hml hdl hpr
  rotate_left 13
  · first | kernel_rfl | exact rfl
  · first | kernel_rfl | exact rfl
  · exact Nat.le_of_ble_eq_true rfl
  · first | kernel_rfl | exact rfl
  · first | kernel_rfl | exact rfl
  refine ⟨fun G hG => ?_, fun G hG => ?_, fun G hG => ?_, fun G hG => ?_, fun G hG => ?_, fun G hG => ?_, fun G hG => ?_, fun G hG => ?_, fun G hG => ?_, fun G hG => ?_, fun G hG => ?_, fun G hG => ?_, fun G hG => ?_, fun G hG => ?_, fun G hG => ?_, trivial⟩
  · simp only [withD, nthD, Step2, nthDst, putO, postD]
    (refine op_move ?_; exact ⟨[], rfl, rfl, rfl⟩)
  · simp only [withD, nthD, Step2, nthDst, putO, postD]
    ((first | refine op_indexC ?_ | refine op_indexAddr1 ?_ | refine op_indexAddr ?_); exact ⟨[], rfl, rfl, rfl⟩)
  · simp only [withD, nthD, Step2, nthDst, putO, postD]
    ((first | refine op_load ?_ | refine op_load_agg ?_ | refine op_load ?_ (hm := Sub.mem (by assumption) (by (repeat (apply List.mem_cons_of_mem)); assumption)) | refine op_load_agg ?_ (hm := Sub.mem (by assumption) (by (repeat (apply List.mem_cons_of_mem)); assumption)) | refine op_loadH hG rfl ?_ | refine op_load_aggH hG rfl ?_); exact ⟨[], rfl, rfl, rfl⟩)
  · simp only [withD, nthD, Step2, nthDst, putO, postD]
    (refine op_move ?_; exact ⟨[], rfl, rfl, rfl⟩)
  · simp only [withD, nthD, Step2, nthDst, putO, postD]
    ((first | refine op_indexC ?_ | refine op_indexAddr1 ?_ | refine op_indexAddr ?_); exact ⟨[], rfl, rfl, rfl⟩)
  · simp only [withD, nthD, Step2, nthDst, putO, postD]
    ((first | refine op_load ?_ | refine op_load_agg ?_ | refine op_load ?_ (hm := Sub.mem (by assumption) (by (repeat (apply List.mem_cons_of_mem)); assumption)) | refine op_load_agg ?_ (hm := Sub.mem (by assumption) (by (repeat (apply List.mem_cons_of_mem)); assumption)) | refine op_loadH hG rfl ?_ | refine op_load_aggH hG rfl ?_); exact ⟨[], rfl, rfl, rfl⟩)
  · simp only [withD, nthD, Step2, nthDst, putO, postD]
    (refine op_farithF ?_; exact ⟨[], rfl, rfl, rfl⟩)
  · simp only [withD, nthD, Step2, nthDst, putO, postD]
    (refine op_move ?_; exact ⟨[], rfl, rfl, rfl⟩)
  · simp only [withD, nthD, Step2, nthDst, putO, postD]
    ((first | refine op_indexC ?_ | refine op_indexAddr1 ?_ | refine op_indexAddr ?_); exact ⟨[], rfl, rfl, rfl⟩)
  · simp only [withD, nthD, Step2, nthDst, putO, postD]
    ((first | refine op_load ?_ | refine op_load_agg ?_ | refine op_load ?_ (hm := Sub.mem (by assumption) (by (repeat (apply List.mem_cons_of_mem)); assumption)) | refine op_load_agg ?_ (hm := Sub.mem (by assumption) (by (repeat (apply List.mem_cons_of_mem)); assumption)) | refine op_loadH hG rfl ?_ | refine op_load_aggH hG rfl ?_); exact ⟨[], rfl, rfl, rfl⟩)
  · simp only [withD, nthD, Step2, nthDst, putO, postD]
    (refine op_move ?_; exact ⟨[], rfl, rfl, rfl⟩)
  · simp only [withD, nthD, Step2, nthDst, putO, postD]
    ((first | refine op_indexC ?_ | refine op_indexAddr1 ?_ | refine op_indexAddr ?_); exact ⟨[], rfl, rfl, rfl⟩)
  · simp only [withD, nthD, Step2, nthDst, putO, postD]
    ((first | refine op_load ?_ | refine op_load_agg ?_ | refine op_load ?_ (hm := Sub.mem (by assumption) (by (repeat (apply List.mem_cons_of_mem)); assumption)) | refine op_load_agg ?_ (hm := Sub.mem (by assumption) (by (repeat (apply List.mem_cons_of_mem)); assumption)) | refine op_loadH hG rfl ?_ | refine op_load_aggH hG rfl ?_); exact ⟨[], rfl, rfl, rfl⟩)
  · simp only [withD, nthD, Step2, nthDst, putO, postD]
    (refine op_farithF ?_; exact ⟨[], rfl, rfl, rfl⟩)
  · simp only [withD, nthD, Step2, nthDst, putO, postD]
    (refine op_farithF ?_; exact ⟨[], rfl, rfl, rfl⟩)
  simp only [FinalsD, nthDst, putO, List.drop_succ_cons, List.drop_zero]
  rintro -
  have b1 := rnd_small j1 (bnd wax wpx wby wpy).1 (bnd wax wpx wby wpy).2
  have b2 := rnd_small j2 (bnd way wpy wbx wpx).1 (bnd way wpy wbx wpx).2
  repeat' first
    | (refine op_farith (op := .sub) (u := fop .mul (fop .sub ax px) (fop .sub by' py)) ?_; intro d hd; obtain ⟨dd, fd, hdet⟩ := det_of (x1 := 0) (y1 := 0) (z1 := 0) (w1 := 0) (x2 := 0) (y2 := 0) (z2 := 0) (w2 := 0) f1 f2 f3 f4 i1 i2 j1 j2 h3 h6 hd b1 b2)
    | (refine op_call ((basedOn _ _ _ fd).mono ?_); rintro _ _ ⟨rfl, rfl⟩)
    | (refine op_load (k := 1) ?_ (hm := hE))
    | (first | refine tc_seq ?_ | refine tc_region ?_ | refine at_seq_normal ?_ | refine tl_nil ?_ | refine tl_cons ?_ | refine op_move ?_ | refine op_assign ?_ | refine op_load ?_ | refine op_load_agg ?_ | refine op_indexC ?_ | refine op_indexAddr1 ?_ | refine op_indexAddr ?_ | refine op_fcmp ?_ | refine op_unop_neg_float ?_ | refine op_unop_neg_int ?_ | refine op_pick_true ?_ | refine op_pick_false ?_ | refine op_pick_true' ?_ | refine op_pick_false' ?_ | (refine op_farith ?_; intro _ _) | refine op_loadK rfl ?_ | refine op_load_aggK rfl ?_ | refine tc_cond_t ?_ | refine tc_cond_f ?_ | refine tc_cond (fun _ => ?_) (fun _ => ?_) | refine tc_block ?_ | refine tc_skip ?_ | refine tc_ret ?_ | refine at_seq_ret ?_ | refine at_block_normal ?_ | refine at_block_ret ?_ | refine tl_guard_yes ?_ | refine tl_guard_no ?_ | refine tl_guard_yes' ?_ | refine tl_guard_no' ?_ | refine tl_guard_undef ?_ | refine tl_guard_split (fun _ => ?_) (fun _ => ?_) | fail)
    | fail
  all_goals first
    | exact ret_tmp (hk := ⟨⟨_, rfl, tell_det hdet⟩, rfl⟩)
    | skip
  · rename_i y1 y2 s hs eb he y3 y4
    exact ret_tmp (hk := ⟨⟨2, rfl, two_pos hdet i1 i2 fd b1 b2 y1 y2 hs he y3 y4⟩, rfl⟩)
  · rename_i y0 y1 y2 s hs eb he y3 y4
    exact ret_tmp (hk := ⟨⟨2, rfl, two_neg hdet i1 i2 fd b1 b2 y1 y2 hs he y3 y4⟩, rfl⟩)
/-- What is told of the turn, in the end. -/
def Turn (L R t : Int) : Prop := (t = 0 ∨ t = sgQ ((L - R : Int) : Rat)) ∧ ((rabs (L : Rat) + rabs (R : Rat)) * p2 (-30) ≤ rabs ((L - R : Int) : Rat) → t = sgQ ((L - R : Int) : Rat))
abbrev W25 (n : Int) : Prop := -33554432 ≤ n ∧ n ≤ 33554432
theorem small {a b c d : Int} (ha : W25 a) (hb : W25 b) (hc : W25 c) (hd : W25 d) : -4503599627370496 ≤ (a - b) * (c - d) ∧ (a - b) * (c - d) ≤ 4503599627370496 :=
  mul_bound (a := a - b) (b := c - d) (A := 67108864) (B := 67108864) (by omega) (by omega) (by omega) (by omega)
theorem sgQ_lt2 (q : Rat) : sgQ q ≤ 1 ∧ sgQ q ≠ 2   := by
  unfold sgQ
  by_cases h : q = 0
  · rw [if_pos h]; exact ⟨by decide, by decide⟩
  · rw [if_neg h]
    by_cases h2 : q < 0
    · rw [if_pos h2]; exact ⟨by decide, by decide⟩
    · rw [if_neg h2]; exact ⟨by decide, by decide⟩
theorem cross_eq (aX aY bX bY pX pY : Int) : (bX - aX) * (pY - bY) - (bY - aY) * (pX - bX) = (aX - pX) * (bY - pY) - (aY - pY) * (bX - pX) := by grind
set_option maxHeartbeats 16000000 in
theorem index (k1 o1 c1 k2 o2 c2 k3 o3 c3 : Nat) (l1 l2 l3 : List Value) (T1 T2 T3 : TypeId) (z1 z2 z3 : Nat × Nat) (ax ay bx by' px py : Nat) (aX aY bX bY pX pY : Int) (H : Heap)
    (m1 : (k1, Obj.cells ⟨l1⟩ T1 z1) ∈ H) (m2 : (k2, Obj.cells ⟨l2⟩ T2 z2) ∈ H) (m3 : (k3, Obj.cells ⟨l3⟩ T3 z3) ∈ H)
    (g1 : l1[o1 + 0]? = some (.float .f64 ax)) (g2 : l1[o1 + 1]? = some (.float .f64 ay)) (g3 : l2[o2 + 0]? = some (.float .f64 bx)) (g4 : l2[o2 + 1]? = some (.float .f64 by')) (g5 : l3[o3 + 0]? = some (.float .f64 px)) (g6 : l3[o3 + 1]? = some (.float .f64 py))
    (fax : Fv ax (aX : Rat)) (fay : Fv ay (aY : Rat)) (fbx : Fv bx (bX : Rat)) (fby : Fv by' (bY : Rat)) (fpx : Fv px (pX : Rat)) (fpy : Fv py (pY : Rat)) (wax : W51 aX) (way : W51 aY) (wbx : W51 bX) (wby : W51 bY) (wpx : W51 pX) (wpy : W51 pY) (hE : Eps H) :
    Does Tryd.prog 40 [.slice (some ⟨k1, o1, none⟩) 2 c1, .slice (some ⟨k2, o2, none⟩) 2 c2, .slice (some ⟨k3, o3, none⟩) 2 c3] H fun w H' => (∃ t : Int, w = .int .i64 t ∧ Turn ((aX - pX) * (bY - pY)) ((aY - pY) * (bX - pX)) t ∧
      (W25 aX → W25 aY → W25 bX → W25 bY → W25 pX → W25 pY → t = sgQ (((aX - pX) * (bY - pY) - (aY - pY) * (bX - pX) : Int) : Rat))) ∧ H' = H := by
  have q1 : FB .sub bx ax := fb_sub fbx fax
  have q2 : FB .sub py by' := fb_sub fpy fby
  have q4 : FB .sub by' ay := fb_sub fby fay
  have q5 : FB .sub px bx := fb_sub fpx fbx
  have h1 := far_fop q1
  have h2 := far_fop q2
  have h4 := far_fop q4
  have h5 := far_fop q5
  have q3 : FB .mul (fop .sub bx ax) (fop .sub py by') := fb_mul (int_sub fbx fax (by omega) (by omega) h1) (int_sub fpy fby (by omega) (by omega) h2)
  have q6 : FB .mul (fop .sub by' ay) (fop .sub px bx) := fb_mul (int_sub fby fay (by omega) (by omega) h4) (int_sub fpx fbx (by omega) (by omega) h5)
  have h3 := far_fop q3
  have h6 := far_fop q6
  obtain ⟨f1, f2, v1, i1, j1⟩ := far_prod fbx fax fpy fby wbx wax wpy wby h1 h2 h3
  obtain ⟨f3, f4, v2, i2, j2⟩ := far_prod fby fay fpx fbx wby way wpx wbx h4 h5 h6
  have b1 := rnd_small j1 (bnd wbx wax wpy wby).1 (bnd wbx wax wpy wby).2
  have b2 := rnd_small j2 (bnd wby way wpx wbx).1 (bnd wby way wpx wbx).2
  refine fn_enter 59 Tryd.func40 fun W => ?_
  repeat' first
    | (refine op_call ((filter k1 o1 c1 k2 o2 c2 k3 o3 c3 l1 l2 l3 T1 T2 T3 z1 z2 z3 ax ay bx by' px py aX aY bX bY pX pY _ m1 m2 m3 g1 g2 g3 g4 g5 g6 fax fay fbx fby fpx fpy wax way wbx wby wpx wpy hE).mono ?_); rintro _ _ ⟨⟨t, rfl, ht⟩, rfl⟩)
    | (first | refine tc_seq ?_ | refine tc_region ?_ | refine at_seq_normal ?_ | refine tl_nil ?_ | refine tl_cons ?_ | refine op_move ?_ | refine op_assign ?_ | refine op_load ?_ | refine op_load_agg ?_ | refine op_indexC ?_ | refine op_indexAddr1 ?_ | refine op_indexAddr ?_ | refine op_icmp ?_ | refine op_fcmp ?_ | refine op_iarith ?_ | refine op_bcmp ?_ | refine op_ptr_nil ?_ | refine op_iquo ?_ | refine op_irem ?_ | refine op_ibits ?_ | refine op_slice_isnil ?_ | refine op_slice_notnil ?_ | refine op_shl ?_ | refine op_shr ?_ | (refine op_farith ?_; intro _ _) | refine op_loadK rfl ?_ | refine op_load_aggK rfl ?_ | refine tc_cond_t ?_ | refine tc_cond_f ?_ | refine tc_cond (fun _ => ?_) (fun _ => ?_) | refine tc_skip ?_ | refine tc_ret ?_ | refine at_seq_ret ?_ | fail)
    | fail
  · rename_i hle
    have hle' : t ≤ 1 := by simpa [icmp] using hle
    refine ret_tmp (hk := ⟨⟨t, rfl, ⟨ht.1.resolve_left (by omega), ht.2.1⟩, fun a b c d e f => ?_⟩, rfl⟩)
    have s1 := small a e d f
    have s2 := small b f c e
    exact (ht.2.2 s1.1 s1.2 s2.1 s2.2).resolve_left (by omega)
  · rename_i hle
    have hle' : 1 < t := by simpa [icmp] using hle
    have ht2 : t = 2 := by
      rcases ht.1 with h | h | h
      · exact h
      · omega
      · have := (sgQ_lt2 (((aX - pX) * (bY - pY) - (aY - pY) * (bX - pX) : Int) : Rat)).1; omega
    have hno := ht.2.1
    rw [ht2] at hno
    have hno' : ¬ (rabs (((aX - pX) * (bY - pY) : Int) : Rat) + rabs (((aY - pY) * (bX - pX) : Int) : Rat)) * p2 (-30) ≤ rabs (((aX - pX) * (bY - pY) - (aY - pY) * (bX - pX) : Int) : Rat) := fun h =>
      (sgQ_lt2 (((aX - pX) * (bY - pY) - (aY - pY) * (bX - pX) : Int) : Rat)).2 (hno h).symm
    apply fun hole0 hole1 hole2 hole3 hole4 hole5 hE hD hml hdl hpr prem fin => tc_drawnD 7 [PhiD.is hole0, PhiD.is hole1, PhiD.is hole2, PhiD.is hole3, PhiD.is hole4, PhiD.is hole5, PhiD.is (.float .f64 (fop .sub bx ax))]
      [some 21, some 22, some 23, some 24, some 25, some 26, some 27, some 8] [[], [0], [1], [], [3], [4], [2, 5]] mixed trivial prem fin hE hD rfl hml hdl hpr
    rotate_left 7
    · first | kernel_rfl | exact rfl
    · first | kernel_rfl | exact rfl
    · exact Nat.le_of_ble_eq_true rfl
    · first | kernel_rfl | exact rfl
    · first | kernel_rfl | exact rfl
    refine ⟨fun G hG => ?_, fun G hG => ?_, fun G hG => ?_, fun G hG => ?_, fun G hG => ?_, fun G hG => ?_, fun G hG => ?_, trivial⟩
    · simp only [withD, nthD, Step2, nthDst, putO, postD]
      (refine op_move ?_; exact ⟨[], rfl, rfl, rfl⟩)
    · simp only [withD, nthD, Step2, nthDst, putO, postD]
      ((first | refine op_indexC ?_ | refine op_indexAddr1 ?_ | refine op_indexAddr ?_); exact ⟨[], rfl, rfl, rfl⟩)
    · simp only [withD, nthD, Step2, nthDst, putO, postD]
      ((first | refine op_load ?_ | refine op_load_agg ?_ | refine op_load ?_ (hm := Sub.mem (by assumption) (by (repeat (apply List.mem_cons_of_mem)); assumption)) | refine op_load_agg ?_ (hm := Sub.mem (by assumption) (by (repeat (apply List.mem_cons_of_mem)); assumption)) | refine op_loadH hG rfl ?_ | refine op_load_aggH hG rfl ?_); exact ⟨[], rfl, rfl, rfl⟩)
    · simp only [withD, nthD, Step2, nthDst, putO, postD]
      (refine op_move ?_; exact ⟨[], rfl, rfl, rfl⟩)
    · simp only [withD, nthD, Step2, nthDst, putO, postD]
      ((first | refine op_indexC ?_ | refine op_indexAddr1 ?_ | refine op_indexAddr ?_); exact ⟨[], rfl, rfl, rfl⟩)
    · simp only [withD, nthD, Step2, nthDst, putO, postD]
      ((first | refine op_load ?_ | refine op_load_agg ?_ | refine op_load ?_ (hm := Sub.mem (by assumption) (by (repeat (apply List.mem_cons_of_mem)); assumption)) | refine op_load_agg ?_ (hm := Sub.mem (by assumption) (by (repeat (apply List.mem_cons_of_mem)); assumption)) | refine op_loadH hG rfl ?_ | refine op_load_aggH hG rfl ?_); exact ⟨[], rfl, rfl, rfl⟩)
    · simp only [withD, nthD, Step2, nthDst, putO, postD]
      (refine op_farithF ?_; exact ⟨[], rfl, rfl, rfl⟩)
    simp only [FinalsD, nthDst, putO, List.drop_succ_cons, List.drop_zero]
    rintro -
    repeat' first
      | refine tc_seq ?_ | refine tc_region ?_ | refine at_seq_normal ?_ | refine tl_nil ?_ | refine tl_cons ?_ | refine op_move ?_ | refine op_assign ?_ | refine op_load ?_ | refine op_load_agg ?_ | refine op_indexC ?_
      | refine op_indexAddr1 ?_ | refine op_indexAddr ?_ | refine op_icmp ?_ | refine op_fcmp ?_ | refine op_iarith ?_ | refine op_bcmp ?_ | refine op_ptr_nil ?_ | refine op_iquo ?_ | refine op_irem ?_ | refine op_ibits ?_
      | refine op_slice_isnil ?_ | refine op_slice_notnil ?_ | refine op_shl ?_ | refine op_shr ?_ | (refine op_farith ?_; intro _ _) | refine op_loadK rfl ?_ | refine op_load_aggK rfl ?_ | refine tc_cond_t ?_ | refine tc_cond_f ?_ | refine tc_cond (fun _ => ?_) (fun _ => ?_)
      | refine tc_skip ?_ | refine tc_ret ?_ | refine at_seq_ret ?_
    apply fun hole0 hole1 hole2 hole3 hole4 hole5 hE hD hml hdl hpr prem fin => tc_drawnD 7 [PhiD.is hole0, PhiD.is hole1, PhiD.is hole2, PhiD.is hole3, PhiD.is hole4, PhiD.is hole5, PhiD.is (.float .f64 (fop .sub by' ay))]
      [some 28, some 29, some 30, some 31, some 32, some 33, some 34, some 9] [[], [0], [1], [], [3], [4], [2, 5]] mixed trivial prem fin hE hD rfl hml hdl hpr
    rotate_left 7
    · first | kernel_rfl | exact rfl
    · first | kernel_rfl | exact rfl
    · exact Nat.le_of_ble_eq_true rfl
    · first | kernel_rfl | exact rfl
    · first | kernel_rfl | exact rfl
    refine ⟨fun G hG => ?_, fun G hG => ?_, fun G hG => ?_, fun G hG => ?_, fun G hG => ?_, fun G hG => ?_, fun G hG => ?_, trivial⟩
    · simp only [withD, nthD, Step2, nthDst, putO, postD]
      (refine op_move ?_; exact ⟨[], rfl, rfl, rfl⟩)
    · simp only [withD, nthD, Step2, nthDst, putO, postD]
      ((first | refine op_indexC ?_ | refine op_indexAddr1 ?_ | refine op_indexAddr ?_); exact ⟨[], rfl, rfl, rfl⟩)
    · simp only [withD, nthD, Step2, nthDst, putO, postD]
      ((first | refine op_load ?_ | refine op_load_agg ?_ | refine op_load ?_ (hm := Sub.mem (by assumption) (by (repeat (apply List.mem_cons_of_mem)); assumption)) | refine op_load_agg ?_ (hm := Sub.mem (by assumption) (by (repeat (apply List.mem_cons_of_mem)); assumption)) | refine op_loadH hG rfl ?_ | refine op_load_aggH hG rfl ?_); exact ⟨[], rfl, rfl, rfl⟩)
    · simp only [withD, nthD, Step2, nthDst, putO, postD]
      (refine op_move ?_; exact ⟨[], rfl, rfl, rfl⟩)
    · simp only [withD, nthD, Step2, nthDst, putO, postD]
      ((first | refine op_indexC ?_ | refine op_indexAddr1 ?_ | refine op_indexAddr ?_); exact ⟨[], rfl, rfl, rfl⟩)
    · simp only [withD, nthD, Step2, nthDst, putO, postD]
      ((first | refine op_load ?_ | refine op_load_agg ?_ | refine op_load ?_ (hm := Sub.mem (by assumption) (by (repeat (apply List.mem_cons_of_mem)); assumption)) | refine op_load_agg ?_ (hm := Sub.mem (by assumption) (by (repeat (apply List.mem_cons_of_mem)); assumption)) | refine op_loadH hG rfl ?_ | refine op_load_aggH hG rfl ?_); exact ⟨[], rfl, rfl, rfl⟩)
    · simp only [withD, nthD, Step2, nthDst, putO, postD]
      (refine op_farithF ?_; exact ⟨[], rfl, rfl, rfl⟩)
    simp only [FinalsD, nthDst, putO, List.drop_succ_cons, List.drop_zero]
    rintro -
    repeat' first
      | refine tc_seq ?_ | refine tc_region ?_ | refine at_seq_normal ?_ | refine tl_nil ?_ | refine tl_cons ?_ | refine op_move ?_ | refine op_assign ?_ | refine op_load ?_ | refine op_load_agg ?_ | refine op_indexC ?_
      | refine op_indexAddr1 ?_ | refine op_indexAddr ?_ | refine op_icmp ?_ | refine op_fcmp ?_ | refine op_iarith ?_ | refine op_bcmp ?_ | refine op_ptr_nil ?_ | refine op_iquo ?_ | refine op_irem ?_ | refine op_ibits ?_
      | refine op_slice_isnil ?_ | refine op_slice_notnil ?_ | refine op_shl ?_ | refine op_shr ?_ | (refine op_farith ?_; intro _ _) | refine op_loadK rfl ?_ | refine op_load_aggK rfl ?_ | refine tc_cond_t ?_ | refine tc_cond_f ?_ | refine tc_cond (fun _ => ?_) (fun _ => ?_)
      | refine tc_skip ?_ | refine tc_ret ?_ | refine at_seq_ret ?_
    apply fun hole0 hole1 hole2 hole3 hole4 hole5 hE hD hml hdl hpr prem fin => tc_drawnD 7 [PhiD.is hole0, PhiD.is hole1, PhiD.is hole2, PhiD.is hole3, PhiD.is hole4, PhiD.is hole5, PhiD.is (.float .f64 (fop .sub px bx))]
      [some 35, some 36, some 37, some 38, some 39, some 40, some 41, some 10] [[], [0], [1], [], [3], [4], [2, 5]] mixed trivial prem fin hE hD rfl hml hdl hpr
    rotate_left 7
    · first | kernel_rfl | exact rfl
    · first | kernel_rfl | exact rfl
    · exact Nat.le_of_ble_eq_true rfl
    · first | kernel_rfl | exact rfl
    · first | kernel_rfl | exact rfl
    refine ⟨fun G hG => ?_, fun G hG => ?_, fun G hG => ?_, fun G hG => ?_, fun G hG => ?_, fun G hG => ?_, fun G hG => ?_, trivial⟩
    · simp only [withD, nthD, Step2, nthDst, putO, postD]
      (refine op_move ?_; exact ⟨[], rfl, rfl, rfl⟩)
    · simp only [withD, nthD, Step2, nthDst, putO, postD]
      ((first | refine op_indexC ?_ | refine op_indexAddr1 ?_ | refine op_indexAddr ?_); exact ⟨[], rfl, rfl, rfl⟩)
    · simp only [withD, nthD, Step2, nthDst, putO, postD]
      ((first | refine op_load ?_ | refine op_load_agg ?_ | refine op_load ?_ (hm := Sub.mem (by assumption) (by (repeat (apply List.mem_cons_of_mem)); assumption)) | refine op_load_agg ?_ (hm := Sub.mem (by assumption) (by (repeat (apply List.mem_cons_of_mem)); assumption)) | refine op_loadH hG rfl ?_ | refine op_load_aggH hG rfl ?_); exact ⟨[], rfl, rfl, rfl⟩)
    · simp only [withD, nthD, Step2, nthDst, putO, postD]
      (refine op_move ?_; exact ⟨[], rfl, rfl, rfl⟩)
    · simp only [withD, nthD, Step2, nthDst, putO, postD]
      ((first | refine op_indexC ?_ | refine op_indexAddr1 ?_ | refine op_indexAddr ?_); exact ⟨[], rfl, rfl, rfl⟩)
    · simp only [withD, nthD, Step2, nthDst, putO, postD]
      ((first | refine op_load ?_ | refine op_load_agg ?_ | refine op_load ?_ (hm := Sub.mem (by assumption) (by (repeat (apply List.mem_cons_of_mem)); assumption)) | refine op_load_agg ?_ (hm := Sub.mem (by assumption) (by (repeat (apply List.mem_cons_of_mem)); assumption)) | refine op_loadH hG rfl ?_ | refine op_load_aggH hG rfl ?_); exact ⟨[], rfl, rfl, rfl⟩)
    · simp only [withD, nthD, Step2, nthDst, putO, postD]
      (refine op_farithF ?_; exact ⟨[], rfl, rfl, rfl⟩)
    simp only [FinalsD, nthDst, putO, List.drop_succ_cons, List.drop_zero]
    rintro -
    repeat' first
      | refine tc_seq ?_ | refine tc_region ?_ | refine at_seq_normal ?_ | refine tl_nil ?_ | refine tl_cons ?_ | refine op_move ?_ | refine op_assign ?_ | refine op_load ?_ | refine op_load_agg ?_ | refine op_indexC ?_
      | refine op_indexAddr1 ?_ | refine op_indexAddr ?_ | refine op_icmp ?_ | refine op_fcmp ?_ | refine op_iarith ?_ | refine op_bcmp ?_ | refine op_ptr_nil ?_ | refine op_iquo ?_ | refine op_irem ?_ | refine op_ibits ?_
      | refine op_slice_isnil ?_ | refine op_slice_notnil ?_ | refine op_shl ?_ | refine op_shr ?_ | (refine op_farith ?_; intro _ _) | refine op_loadK rfl ?_ | refine op_load_aggK rfl ?_ | refine tc_cond_t ?_ | refine tc_cond_f ?_ | refine tc_cond (fun _ => ?_) (fun _ => ?_)
      | refine tc_skip ?_ | refine tc_ret ?_ | refine at_seq_ret ?_
    apply fun hole0 hole1 hole2 hole3 hole4 hole5 hE hD hml hdl hpr prem fin => tc_drawnD 7 [PhiD.is hole0, PhiD.is hole1, PhiD.is hole2, PhiD.is hole3, PhiD.is hole4, PhiD.is hole5, PhiD.is (.float .f64 (fop .sub py by'))]
      [some 42, some 43, some 44, some 45, some 46, some 47, some 48, some 11] [[], [0], [1], [], [3], [4], [2, 5]] mixed trivial prem fin hE hD rfl hml hdl hpr
    rotate_left 7
    · first | kernel_rfl | exact rfl
    · first | kernel_rfl | exact rfl
    · exact Nat.le_of_ble_eq_true rfl
    · first | kernel_rfl | exact rfl
    · first | kernel_rfl | exact rfl
    refine ⟨fun G hG => ?_, fun G hG => ?_, fun G hG => ?_, fun G hG => ?_, fun G hG => ?_, fun G hG => ?_, fun G hG => ?_, trivial⟩
    · simp only [withD, nthD, Step2, nthDst, putO, postD]
      (refine op_move ?_; exact ⟨[], rfl, rfl, rfl⟩)
    · simp only [withD, nthD, Step2, nthDst, putO, postD]
      ((first | refine op_indexC ?_ | refine op_indexAddr1 ?_ | refine op_indexAddr ?_); exact ⟨[], rfl, rfl, rfl⟩)
    · simp only [withD, nthD, Step2, nthDst, putO, postD]
      ((first | refine op_load ?_ | refine op_load_agg ?_ | refine op_load ?_ (hm := Sub.mem (by assumption) (by (repeat (apply List.mem_cons_of_mem)); assumption)) | refine op_load_agg ?_ (hm := Sub.mem (by assumption) (by (repeat (apply List.mem_cons_of_mem)); assumption)) | refine op_loadH hG rfl ?_ | refine op_load_aggH hG rfl ?_); exact ⟨[], rfl, rfl, rfl⟩)
    · simp only [withD, nthD, Step2, nthDst, putO, postD]
      (refine op_move ?_; exact ⟨[], rfl, rfl, rfl⟩)
    · simp only [withD, nthD, Step2, nthDst, putO, postD]
      ((first | refine op_indexC ?_ | refine op_indexAddr1 ?_ | refine op_indexAddr ?_); exact ⟨[], rfl, rfl, rfl⟩)
    · simp only [withD, nthD, Step2, nthDst, putO, postD]
      ((first | refine op_load ?_ | refine op_load_agg ?_ | refine op_load ?_ (hm := Sub.mem (by assumption) (by (repeat (apply List.mem_cons_of_mem)); assumption)) | refine op_load_agg ?_ (hm := Sub.mem (by assumption) (by (repeat (apply List.mem_cons_of_mem)); assumption)) | refine op_loadH hG rfl ?_ | refine op_load_aggH hG rfl ?_); exact ⟨[], rfl, rfl, rfl⟩)
    · simp only [withD, nthD, Step2, nthDst, putO, postD]
      (refine op_farithF ?_; exact ⟨[], rfl, rfl, rfl⟩)
    simp only [FinalsD, nthDst, putO, List.drop_succ_cons, List.drop_zero]
    rintro -
    repeat' first
      | (refine op_farithF (op := .mul) ?_)
      | (refine op_farith (op := .sub) (u := fop .mul (fop .sub bx ax) (fop .sub py by')) ?_; intro d hd; obtain ⟨dd, fd, hdet⟩ := det_of (x1 := 0) (y1 := 0) (z1 := 0) (w1 := 0) (x2 := 0) (y2 := 0) (z2 := 0) (w2 := 0) f1 f2 f3 f4 i1 i2 j1 j2 h3 h6 hd b1 b2)
      | (refine op_call ((basedOn _ _ _ fd).mono ?_); rintro _ _ ⟨rfl, rfl⟩)
      | (first | refine tc_seq ?_ | refine tc_region ?_ | refine at_seq_normal ?_ | refine tl_nil ?_ | refine tl_cons ?_ | refine op_move ?_ | refine op_assign ?_ | refine op_load ?_ | refine op_load_agg ?_ | refine op_indexC ?_ | refine op_indexAddr1 ?_ | refine op_indexAddr ?_ | refine op_icmp ?_ | refine op_fcmp ?_ | refine op_iarith ?_ | refine op_bcmp ?_ | refine op_ptr_nil ?_ | refine op_iquo ?_ | refine op_irem ?_ | refine op_ibits ?_ | refine op_slice_isnil ?_ | refine op_slice_notnil ?_ | refine op_shl ?_ | refine op_shr ?_ | (refine op_farith ?_; intro _ _) | refine op_loadK rfl ?_ | refine op_load_aggK rfl ?_ | refine tc_cond_t ?_ | refine tc_cond_f ?_ | refine tc_cond (fun _ => ?_) (fun _ => ?_) | refine tc_skip ?_ | refine tc_ret ?_ | refine at_seq_ret ?_ | fail)
      | fail
    have hc := cross_eq aX aY bX bY pX pY
    refine ret_tmp (hk := ⟨⟨_, rfl, ⟨?_, fun h => absurd h hno'⟩, fun a b c d e f => ?_⟩, rfl⟩)
    · have := hdet.never; rwa [hc] at this
    · have s1 := small c a f d
      have s2 := small d b e c
      rw [(hdet.exact s1.1 s1.2 s2.1 s2.2).2.2, hc]
end Go.Proofs.YtelhfcjchpdkiaaDoor.Ori

set_option linter.unusedVariables false
set_option linter.unusedSimpArgs false
namespace Go.Proofs.YtelhfcjchpdkiaaDoor.Lmb
open Go.Lg

/-- A place of two exact numbers. -/
def IsP (x y : Rat) (d : Nat) (u : Value) (G : Heap) : Prop := ∃ b a k c e b' a' k' c' e', u = .agg ⟨[.bool b, .slice a k c, .int .i64 e, .bool b', .slice a' k' c', .int .i64 e']⟩ ∧
  IsQ x d (.agg ⟨[.bool b, .slice a k c, .int .i64 e]⟩) G ∧ IsQ y d (.agg ⟨[.bool b', .slice a' k' c', .int .i64 e']⟩) G
theorem IsP.mono {x y d u G G'} (h : IsP x y d u G) (hG : ∀ z ∈ G, z ∈ G') : IsP x y d u G' := by
  obtain ⟨b, a, k, c, e, b', a', k', c', e', h1, h2, h3⟩ := h
  exact ⟨b, a, k, c, e, b', a', k', c', e', h1, h2.mono hG, h3.mono hG⟩
theorem IsP.skip {x y d u} {G G' : Heap} (h : IsP x y d u G) (hs : ∀ z ∈ G, z ∈ G' ∨ NoU z) : IsP x y d u G' := by
  obtain ⟨b, a, k, c, e, b', a', k', c', e', h1, h2, h3⟩ := h
  exact ⟨b, a, k, c, e, b', a', k', c', e', h1, h2.skip hs, h3.skip hs⟩
theorem noU6 {k : Nat} {T : TypeId} {fz : Nat × Nat} {b : Bool} {a : Option Addr} {n c : Nat} {e : Int} {b' : Bool} {a' : Option Addr} {n' c' : Nat} {e' : Int} : NoU (k, Obj.cells ⟨[.bool b, .slice a n c, .int .i64 e, .bool b', .slice a' n' c', .int .i64 e']⟩ T fz) := fun l T fz h x hx n => by
  cases h
  simp only [List.mem_cons, List.not_mem_nil, or_false] at hx
  rcases hx with rfl | rfl | rfl | rfl | rfl | rfl <;> (intro h; cases h)

theorem qCmp (u v : Value) (a b : Rat) (d : Nat) (H : Heap) (hd : d ≤ 8) (hu : IsQ a d u H) (hv : IsQ b d v H) : Does Tryd.prog 13 [u, v] H fun w H' => ∃ ex, H' = ex ++ H ∧ w = .int .i64 (sgQ (a - b)) := by
  obtain ⟨b1, a1, k1, c1, e1, rfl⟩ := hu.open
  obtain ⟨b2, a2, k2, c2, e2, rfl⟩ := hv.open
  refine fn_enter 9 Tryd.func13 fun W => ?_
  repeat' first
    | (first | refine tc_seq ?_ | refine tc_region ?_ | refine at_seq_normal ?_ | refine tl_nil ?_ | refine tl_cons ?_ | refine op_assign ?_ | refine op_load ?_ | refine op_load_agg ?_ | (refine op_box ?_; intro _) | refine op_loadK rfl ?_ | refine op_load_aggK rfl ?_ | refine tc_ret ?_ | refine at_seq_ret ?_ | fail)
    | (refine op_call ((qSub _ _ a b d _ hd (hu.mono fun e he => by simp [he]) (hv.mono fun e he => by simp [he])).mono ?_); rintro w _ ⟨ex, rfl, hw⟩)
    | (refine op_call ((qSign _ _ _ _ (hw.mono fun e he => by simp [he])).mono ?_); rintro _ _ ⟨rfl, rfl⟩)
    | fail
  exact ret_tmp (hG := List.Sublist.refl _) (hk := exq rfl)
theorem qAbs (u : Value) (q : Rat) (d : Nat) (H : Heap) (hu : IsQ q d u H) : Does Tryd.prog 11 [u] H fun w H' => ∃ ex, H' = ex ++ H ∧ IsQ (if q < 0 then -q else q) d w H' := by
  obtain ⟨b1, a1, k1, c1, e1, rfl⟩ := hu.open
  refine fn_enter 9 Tryd.func11 fun W => ?_
  by_cases h0 : q < 0
  · rw [if_pos h0]
    have hc : icmp .lss (sgQ q) 0 = true := by rw [sgQ_lss, decide_eq_true h0]
    repeat' first
      | (first | refine tc_seq ?_ | refine tc_region ?_ | refine at_seq_normal ?_ | refine tl_nil ?_ | refine tl_cons ?_ | refine tl_cons_none ?_ | refine op_load ?_ | refine op_load_agg ?_ | refine op_icmp ?_ | (refine op_alloc ?_; intro _) | (refine op_box ?_; intro _) | refine op_store0 ?_ | refine op_store1 ?_ | refine op_store2 ?_ | refine op_store3 ?_ | refine op_store4 ?_ | refine op_store5 ?_ | refine op_storeK rfl ?_ | refine op_loadK rfl ?_ | refine op_load_aggK rfl ?_ | refine tc_cond_t ?_ | refine tc_cond_f ?_ | refine tc_cond (fun _ => ?_) (fun _ => ?_) | refine tc_skip ?_ | refine tc_ret ?_ | refine at_seq_ret ?_ | fail)
      | (refine op_call ((qSign _ _ _ _ (hu.mono fun e he => by simp [he])).mono ?_); rintro _ _ ⟨rfl, rfl⟩)
      | (refine op_call ((qMinus _ q d _ (hu.mono fun e he => by simp [he])).mono ?_); rintro w _ ⟨ex, rfl, hw⟩; obtain ⟨b3, a3, k3, c3, e3, rfl⟩ := hw.open)
      | refine op_storeK rfl ?_
      | fail
    rename_i kr
    refine ret_one (.agg (T := 30) (k := kr) (off := 0) (m := [.bool b3, .slice a3 k3 c3, .int .i64 e3]) rfl rfl mem0 rfl rfl) (hG := List.Sublist.refl _) (hk := exq ?_)
    exact hw.skip (mid_mem (k := kr) noU3)
  · rw [if_neg h0]
    have hc : icmp .lss (sgQ q) 0 = false := by rw [sgQ_lss, decide_eq_false h0]
    repeat' first
      | (first | refine tc_seq ?_ | refine tc_region ?_ | refine at_seq_normal ?_ | refine tl_nil ?_ | refine tl_cons ?_ | refine tl_cons_none ?_ | refine op_load ?_ | refine op_load_agg ?_ | refine op_icmp ?_ | (refine op_alloc ?_; intro _) | (refine op_box ?_; intro _) | refine op_store0 ?_ | refine op_store1 ?_ | refine op_store2 ?_ | refine op_store3 ?_ | refine op_store4 ?_ | refine op_store5 ?_ | refine op_storeK rfl ?_ | refine op_loadK rfl ?_ | refine op_load_aggK rfl ?_ | refine tc_cond_t ?_ | refine tc_cond_f ?_ | refine tc_cond (fun _ => ?_) (fun _ => ?_) | refine tc_skip ?_ | refine tc_ret ?_ | refine at_seq_ret ?_ | fail)
      | (refine op_call ((qSign _ _ _ _ (hu.mono fun e he => by simp [he])).mono ?_); rintro _ _ ⟨rfl, rfl⟩)
      | fail
    rename_i kr
    refine ret_one (.agg (T := 30) (k := kr) (off := 0) (m := [.bool b1, .slice a1 k1 c1, .int .i64 e1]) rfl rfl mem0 rfl rfl) (hG := List.Sublist.refl _) (hk := exq ?_)
    exact hu.mono fun e he => by simp [he]
theorem pointOf (x y : Nat) (a b : Rat) (H : Heap) (hx : Fv x a) (hy : Fv y b) (hx0 : x < 18446744073709551616) (hy0 : y < 18446744073709551616) : Does Tryd.prog 23 [.float .f64 x, .float .f64 y] H fun w H' => ∃ ex, H' = ex ++ H ∧ IsP a b 0 w H' := by
  refine fn_enter 10 Tryd.func23 fun W => ?_
  repeat' first
    | (refine op_call ((qOf x a _ hx hx0).mono ?_); rintro w _ ⟨ex1, rfl, h1⟩; obtain ⟨b1, a1, k1, c1, e1, rfl⟩ := h1.open)
    | (refine op_call ((qOf y b _ hy hy0).mono ?_); rintro w _ ⟨ex2, rfl, h2⟩; obtain ⟨b2, a2, k2, c2, e2, rfl⟩ := h2.open)
    | (first | refine tc_seq ?_ | refine tc_region ?_ | refine at_seq_normal ?_ | refine tl_nil ?_ | refine tl_cons ?_ | refine tl_cons_none ?_ | refine op_move ?_ | refine op_build ?_ | (refine op_alloc ?_; intro _) | refine op_store0 ?_ | refine op_store1 ?_ | refine op_store2 ?_ | refine op_store3 ?_ | refine op_store4 ?_ | refine op_store5 ?_ | refine op_storeK rfl ?_ | refine tc_ret ?_ | refine at_seq_ret ?_ | fail)
    | refine op_storeK rfl ?_
    | fail
  rename_i kr
  refine ret_one (.agg (T := 32) (k := kr) (off := 0) (m := [.bool b1, .slice a1 k1 c1, .int .i64 e1, .bool b2, .slice a2 k2 c2, .int .i64 e2]) rfl rfl mem0 rfl rfl) (hG := List.Sublist.refl _) (hk := exq ?_)
  exact IsP.skip ⟨_, _, _, _, _, _, _, _, _, _, rfl, h1.mono fun e he => by simp [he], h2⟩ (mid_mem (k := kr) noU6)
theorem exactly (x y : Nat) (a b : Rat) (H : Heap) (hx : Fv x a) (hy : Fv y b) (hx0 : x < 18446744073709551616) (hy0 : y < 18446744073709551616) : Does Tryd.prog 6 [.agg ⟨[.float .f64 x, .float .f64 y]⟩] H fun w H' => ∃ ex, H' = ex ++ H ∧ IsP a b 0 w H' := by
  refine fn_enter 8 Tryd.func6 fun W => ?_
  repeat' first
    | (first | refine tc_seq ?_ | refine tc_region ?_ | refine at_seq_normal ?_ | refine tl_nil ?_ | refine tl_cons ?_ | refine tl_cons_none ?_ | refine op_fieldAddr ?_ | refine op_load ?_ | refine op_load_agg ?_ | (refine op_alloc ?_; intro _) | (refine op_box ?_; intro _) | refine op_store0 ?_ | refine op_store1 ?_ | refine op_store2 ?_ | refine op_store3 ?_ | refine op_store4 ?_ | refine op_store5 ?_ | refine op_storeK rfl ?_ | refine op_loadK rfl ?_ | refine op_load_aggK rfl ?_ | refine tc_ret ?_ | refine at_seq_ret ?_ | fail)
    | (refine op_call ((pointOf x y a b _ hx hy hx0 hy0).mono ?_); rintro w _ ⟨ex1, rfl, b1, a1, k1, c1, e1, b2, a2, k2, c2, e2, rfl, h1, h2⟩)
    | refine op_storeK rfl ?_
    | fail
  rename_i kr
  refine ret_one (.agg (T := 32) (k := kr) (off := 0) (m := [.bool b1, .slice a1 k1 c1, .int .i64 e1, .bool b2, .slice a2 k2 c2, .int .i64 e2]) rfl rfl mem0 rfl rfl) (hG := List.Sublist.refl _) (hk := exq ?_)
  exact IsP.skip ⟨_, _, _, _, _, _, _, _, _, _, rfl, h1, h2⟩ (mid_mem (k := kr) noU6)
set_option maxHeartbeats 8000000 in
theorem qCross (up uq ur : Value) (px py qx qy rx ry : Rat) (H : Heap) (hp : IsP px py 0 up H) (hq : IsP qx qy 0 uq H) (hr : IsP rx ry 0 ur H) :
    Does Tryd.prog 12 [up, uq, ur] H fun w H' => ∃ ex, H' = ex ++ H ∧ IsQ ((qx - px) * (ry - py) - (qy - py) * (rx - px)) 3 w H' := by
  obtain ⟨_, _, _, _, _, _, _, _, _, _, rfl, p1, p2⟩ := hp
  obtain ⟨_, _, _, _, _, _, _, _, _, _, rfl, q1, q2⟩ := hq
  obtain ⟨_, _, _, _, _, _, _, _, _, _, rfl, r1, r2⟩ := hr
  refine fn_enter 30 Tryd.func12 fun W => ?_
  repeat' first
    | refine tc_seq ?_ | refine tc_region ?_ | refine at_seq_normal ?_ | refine tl_nil ?_ | refine tl_cons ?_ | refine tl_cons_none ?_ | refine op_fieldAddr ?_ | refine op_load ?_ | refine op_load_agg ?_ | (refine op_alloc ?_; intro _)
    | (refine op_box ?_; intro _) | refine op_store0 ?_ | refine op_store1 ?_ | refine op_store2 ?_ | refine op_store3 ?_ | refine op_store4 ?_ | refine op_store5 ?_ | refine op_storeK rfl ?_ | refine op_loadK rfl ?_ | refine op_load_aggK rfl ?_
    | refine tc_ret ?_ | refine at_seq_ret ?_
  rename_i kp kq kr kk
  apply fun hole0 hole1 hole2 hole3 hole4 hole5 hole6 hole7 hole8 hole9 hole10 hole11 hole12 hole13 hole14 hole15 hE hD hml hdl hpr prem fin => tc_drawn 23 [is hole0, is hole1, is hole2, is hole3, (fun w _ G => IsQ (qx - px) 1 w G), is hole4, is hole5, is hole6, is hole7, (fun w _ G => IsQ (ry - py) 1 w G), (fun w _ G => IsQ ((qx - px) * (ry - py)) 2 w G), is hole8, is hole9, is hole10, is hole11, (fun w _ G => IsQ (qy - py) 1 w G), is hole12, is hole13, is hole14, is hole15, (fun w _ G => IsQ (rx - px) 1 w G), (fun w _ G => IsQ ((qy - py) * (rx - px)) 2 w G), (fun w _ G => IsQ' ((qx - px) * (ry - py) - (qy - py) * (rx - px)) 3 w G)]
    [some 7, some 8, some 9, some 10, some 11, some 12, some 13, some 14, some 15, some 16, some 17, some 18, some 19, some 20, some 21, some 22, some 23, some 24, some 25, some 26, some 27, some 28, some 29, none] [[], [0], [], [2], [1, 3], [], [5], [], [7], [6, 8, 4], [4, 9], [], [11], [], [13], [12, 14, 10], [], [16], [], [18], [17, 19, 15], [15, 20], [10, 21]] mixed ⟨(is_mono _), (is_mono _), (is_mono _), (is_mono _), (fun _ _ _ _ h hs => IsQ.mono h hs), (is_mono _), (is_mono _), (is_mono _), (is_mono _), (fun _ _ _ _ h hs => IsQ.mono h hs), (fun _ _ _ _ h hs => IsQ.mono h hs), (is_mono _), (is_mono _), (is_mono _), (is_mono _), (fun _ _ _ _ h hs => IsQ.mono h hs), (is_mono _), (is_mono _), (is_mono _), (is_mono _), (fun _ _ _ _ h hs => IsQ.mono h hs), (fun _ _ _ _ h hs => IsQ.mono h hs), (fun _ _ _ _ h hs => IsQ'.mono h hs), trivial⟩ prem fin hE hD rfl hml hdl hpr
  rotate_left 17
  · first | kernel_rfl | exact rfl
  · first | kernel_rfl | exact rfl
  · exact Nat.le_of_ble_eq_true rfl
  · first | kernel_rfl | exact rfl
  · first | kernel_rfl | exact rfl
  refine ⟨fun G hG => ?_, fun G hG => ?_, fun G hG => ?_, fun G hG => ?_, fun G hG => ?_, fun G hG => ?_, fun G hG => ?_, fun G hG => ?_, fun G hG => ?_, fun G hG => ?_, fun G hG => ?_, fun G hG => ?_, fun G hG => ?_, fun G hG => ?_, fun G hG => ?_, fun G hG => ?_, fun G hG => ?_, fun G hG => ?_, fun G hG => ?_, fun G hG => ?_, fun G hG => ?_, fun G hG => ?_, fun G hG => ?_, trivial⟩
  · simp only [with2, Step2, nthDst, putO]
    (refine op_fieldAddr ?_; exact ⟨[], rfl, rfl, rfl⟩)
  · rintro _ _ ⟨rfl, rfl⟩ -
    simp only [with2, Step2, nthDst, putO]
    ((first | refine op_load ?_ | refine op_load_agg ?_ | refine op_load ?_ (hm := Sub.mem (by assumption) (by (repeat (apply List.mem_cons_of_mem)); assumption)) | refine op_load_agg ?_ (hm := Sub.mem (by assumption) (by (repeat (apply List.mem_cons_of_mem)); assumption)) | refine op_loadH hG rfl ?_ | refine op_load_aggH hG rfl ?_); exact ⟨[], rfl, rfl, rfl⟩)
  · simp only [with2, Step2, nthDst, putO]
    (refine op_fieldAddr ?_; exact ⟨[], rfl, rfl, rfl⟩)
  · rintro _ _ ⟨rfl, rfl⟩ -
    simp only [with2, Step2, nthDst, putO]
    ((first | refine op_load ?_ | refine op_load_agg ?_ | refine op_load ?_ (hm := Sub.mem (by assumption) (by (repeat (apply List.mem_cons_of_mem)); assumption)) | refine op_load_agg ?_ (hm := Sub.mem (by assumption) (by (repeat (apply List.mem_cons_of_mem)); assumption)) | refine op_loadH hG rfl ?_ | refine op_load_aggH hG rfl ?_); exact ⟨[], rfl, rfl, rfl⟩)
  · rintro _ _ ⟨rfl, rfl⟩ - _ _ ⟨rfl, rfl⟩ -
    simp only [with2, Step2, nthDst, putO]
    (refine op_call ((qSub _ _ qx px 0 _ (by decide) (q1.mono fun e he => hG e (by simp [he])) (p1.mono fun e he => hG e (by simp [he]))).mono ?_); rintro w _ ⟨ex, rfl, hw⟩; exact ⟨ex, rfl, hw⟩)
  · simp only [with2, Step2, nthDst, putO]
    (refine op_fieldAddr ?_; exact ⟨[], rfl, rfl, rfl⟩)
  · rintro _ _ ⟨rfl, rfl⟩ -
    simp only [with2, Step2, nthDst, putO]
    ((first | refine op_load ?_ | refine op_load_agg ?_ | refine op_load ?_ (hm := Sub.mem (by assumption) (by (repeat (apply List.mem_cons_of_mem)); assumption)) | refine op_load_agg ?_ (hm := Sub.mem (by assumption) (by (repeat (apply List.mem_cons_of_mem)); assumption)) | refine op_loadH hG rfl ?_ | refine op_load_aggH hG rfl ?_); exact ⟨[], rfl, rfl, rfl⟩)
  · simp only [with2, Step2, nthDst, putO]
    (refine op_fieldAddr ?_; exact ⟨[], rfl, rfl, rfl⟩)
  · rintro _ _ ⟨rfl, rfl⟩ -
    simp only [with2, Step2, nthDst, putO]
    ((first | refine op_load ?_ | refine op_load_agg ?_ | refine op_load ?_ (hm := Sub.mem (by assumption) (by (repeat (apply List.mem_cons_of_mem)); assumption)) | refine op_load_agg ?_ (hm := Sub.mem (by assumption) (by (repeat (apply List.mem_cons_of_mem)); assumption)) | refine op_loadH hG rfl ?_ | refine op_load_aggH hG rfl ?_); exact ⟨[], rfl, rfl, rfl⟩)
  · rintro _ _ ⟨rfl, rfl⟩ - _ _ ⟨rfl, rfl⟩ - _ _ g4 -
    simp only [with2, Step2, nthDst, putO]
    (refine op_call ((qSub _ _ ry py 0 _ (by decide) (r2.mono fun e he => hG e (by simp [he])) (p2.mono fun e he => hG e (by simp [he]))).mono ?_); rintro w _ ⟨ex, rfl, hw⟩; exact ⟨ex, rfl, hw⟩)
  · rintro _ _ g4 - _ _ g9 -
    simp only [with2, Step2, nthDst, putO]
    (refine op_call ((qMul _ _ _ _ 1 _ (by decide) g4 g9).mono ?_); rintro w _ ⟨ex, rfl, hw⟩; exact ⟨ex, rfl, hw⟩)
  · simp only [with2, Step2, nthDst, putO]
    (refine op_fieldAddr ?_; exact ⟨[], rfl, rfl, rfl⟩)
  · rintro _ _ ⟨rfl, rfl⟩ -
    simp only [with2, Step2, nthDst, putO]
    ((first | refine op_load ?_ | refine op_load_agg ?_ | refine op_load ?_ (hm := Sub.mem (by assumption) (by (repeat (apply List.mem_cons_of_mem)); assumption)) | refine op_load_agg ?_ (hm := Sub.mem (by assumption) (by (repeat (apply List.mem_cons_of_mem)); assumption)) | refine op_loadH hG rfl ?_ | refine op_load_aggH hG rfl ?_); exact ⟨[], rfl, rfl, rfl⟩)
  · simp only [with2, Step2, nthDst, putO]
    (refine op_fieldAddr ?_; exact ⟨[], rfl, rfl, rfl⟩)
  · rintro _ _ ⟨rfl, rfl⟩ -
    simp only [with2, Step2, nthDst, putO]
    ((first | refine op_load ?_ | refine op_load_agg ?_ | refine op_load ?_ (hm := Sub.mem (by assumption) (by (repeat (apply List.mem_cons_of_mem)); assumption)) | refine op_load_agg ?_ (hm := Sub.mem (by assumption) (by (repeat (apply List.mem_cons_of_mem)); assumption)) | refine op_loadH hG rfl ?_ | refine op_load_aggH hG rfl ?_); exact ⟨[], rfl, rfl, rfl⟩)
  · rintro _ _ ⟨rfl, rfl⟩ - _ _ ⟨rfl, rfl⟩ - _ _ g10 -
    simp only [with2, Step2, nthDst, putO]
    (refine op_call ((qSub _ _ qy py 0 _ (by decide) (q2.mono fun e he => hG e (by simp [he])) (p2.mono fun e he => hG e (by simp [he]))).mono ?_); rintro w _ ⟨ex, rfl, hw⟩; exact ⟨ex, rfl, hw⟩)
  · simp only [with2, Step2, nthDst, putO]
    (refine op_fieldAddr ?_; exact ⟨[], rfl, rfl, rfl⟩)
  · rintro _ _ ⟨rfl, rfl⟩ -
    simp only [with2, Step2, nthDst, putO]
    ((first | refine op_load ?_ | refine op_load_agg ?_ | refine op_load ?_ (hm := Sub.mem (by assumption) (by (repeat (apply List.mem_cons_of_mem)); assumption)) | refine op_load_agg ?_ (hm := Sub.mem (by assumption) (by (repeat (apply List.mem_cons_of_mem)); assumption)) | refine op_loadH hG rfl ?_ | refine op_load_aggH hG rfl ?_); exact ⟨[], rfl, rfl, rfl⟩)
  · simp only [with2, Step2, nthDst, putO]
    (refine op_fieldAddr ?_; exact ⟨[], rfl, rfl, rfl⟩)
  · rintro _ _ ⟨rfl, rfl⟩ -
    simp only [with2, Step2, nthDst, putO]
    ((first | refine op_load ?_ | refine op_load_agg ?_ | refine op_load ?_ (hm := Sub.mem (by assumption) (by (repeat (apply List.mem_cons_of_mem)); assumption)) | refine op_load_agg ?_ (hm := Sub.mem (by assumption) (by (repeat (apply List.mem_cons_of_mem)); assumption)) | refine op_loadH hG rfl ?_ | refine op_load_aggH hG rfl ?_); exact ⟨[], rfl, rfl, rfl⟩)
  · rintro _ _ ⟨rfl, rfl⟩ - _ _ ⟨rfl, rfl⟩ - _ _ g15 -
    simp only [with2, Step2, nthDst, putO]
    (refine op_call ((qSub _ _ rx px 0 _ (by decide) (r1.mono fun e he => hG e (by simp [he])) (p1.mono fun e he => hG e (by simp [he]))).mono ?_); rintro w _ ⟨ex, rfl, hw⟩; exact ⟨ex, rfl, hw⟩)
  · rintro _ _ g15 - _ _ g20 -
    simp only [with2, Step2, nthDst, putO]
    (refine op_call ((qMul _ _ _ _ 1 _ (by decide) g15 g20).mono ?_); rintro w _ ⟨ex, rfl, hw⟩; exact ⟨ex, rfl, hw⟩)
  · rintro _ _ g10 - _ _ g21 -
    simp only [with2, Step2, nthDst, putO]
    (refine op_call ((qSub _ _ _ _ 2 _ (by decide) g10 g21).mono ?_); rintro w _ ⟨ex, rfl, hw⟩; exact ⟨ex, rfl, hw.fine⟩)
  · rintro _ _ _ _ _ _ _ _ _ _ _ _ _ _ _ _ _ _ _ _ _ _ _ _ _ _ _ _ _ _ _ _ _ _ _ _ _ _ _ _ _ _ _ _ _ _ ⟨⟨bz, az, kz, cz, ez, rfl, z⟩, g21, g20, ⟨rfl, rfl⟩, ⟨rfl, rfl⟩, ⟨rfl, rfl⟩, ⟨rfl, rfl⟩, g15, ⟨rfl, rfl⟩, ⟨rfl, rfl⟩, ⟨rfl, rfl⟩, ⟨rfl, rfl⟩, g10, g9, ⟨rfl, rfl⟩, ⟨rfl, rfl⟩, ⟨rfl, rfl⟩, ⟨rfl, rfl⟩, g4, ⟨rfl, rfl⟩, ⟨rfl, rfl⟩, ⟨rfl, rfl⟩, ⟨rfl, rfl⟩, _⟩
    simp only [List.nil_append, List.cons_append, List.append_nil, List.drop_succ_cons, List.drop_zero, nthDst, putO]
    simp only [List.nil_append] at z
    refine tl_cons_none ?_
    refine op_storeK (k := kk) rfl ?_
    repeat' first | refine tl_nil ?_ | refine at_seq_normal ?_ | refine tc_ret ?_
    refine ret_one (.agg (T := 30) (k := kk) (off := 0) (m := [.bool bz, .slice az kz cz, .int .i64 ez]) rfl rfl mem0 rfl rfl) (hG := List.Sublist.refl _) (hk := exq ?_)
    exact z.skip (mid_mem (k := kk) noU3)
end Go.Proofs.YtelhfcjchpdkiaaDoor.Lmb

set_option linter.unusedVariables false
set_option linter.unusedSimpArgs false
namespace Go.Proofs.YtelhfcjchpdkiaaDoor.Lmb
open Go.Lg

theorem qOrient (up uq ur : Value) (px py qx qy rx ry : Rat) (H : Heap) (hp : IsP px py 0 up H) (hq : IsP qx qy 0 uq H) (hr : IsP rx ry 0 ur H) :
    Does Tryd.prog 8 [up, uq, ur] H fun w H' => w = .int .i64 (sgQ ((qx - px) * (ry - py) - (qy - py) * (rx - px))) ∧ ∃ ex, H' = ex ++ H := by
  have hp0 := hp
  have hq0 := hq
  have hr0 := hr
  obtain ⟨_, _, _, _, _, _, _, _, _, _, rfl, p1, p2⟩ := hp
  obtain ⟨_, _, _, _, _, _, _, _, _, _, rfl, q1, q2⟩ := hq
  obtain ⟨_, _, _, _, _, _, _, _, _, _, rfl, r1, r2⟩ := hr
  refine fn_enter 12 Tryd.func8 fun W => ?_
  repeat' first
    | (first | refine tc_seq ?_ | refine tc_region ?_ | refine at_seq_normal ?_ | refine tl_nil ?_ | refine tl_cons ?_ | refine op_assign ?_ | refine op_load ?_ | refine op_load_agg ?_ | (refine op_box ?_; intro _) | refine op_loadK rfl ?_ | refine op_load_aggK rfl ?_ | refine tc_ret ?_ | refine at_seq_ret ?_ | fail)
    | (refine op_call ((qCross _ _ _ px py qx qy rx ry _ (hp0.mono fun e he => by simp [he]) (hq0.mono fun e he => by simp [he]) (hr0.mono fun e he => by simp [he])).mono ?_); rintro w _ ⟨ex, rfl, hw⟩)
    | (refine op_call ((qSign _ _ _ _ hw).mono ?_); rintro _ _ ⟨rfl, rfl⟩)
    | fail
  exact ret_tmp (hG := List.Sublist.refl _) (hk := ⟨rfl, ExC.ex⟩)
noncomputable def btwB (a b c : Rat) : Bool := (decide (a - c ≤ 0) && decide (c - b ≤ 0)) || (decide (b - c ≤ 0) && decide (c - a ≤ 0))
set_option maxHeartbeats 8000000 in
theorem qBetween (ua ub uc : Value) (a b c : Rat) (H : Heap) (ha : IsQ a 0 ua H) (hb : IsQ b 0 ub H) (hc : IsQ c 0 uc H) :
    Does Tryd.prog 57 [ua, ub, uc] H fun w H' => w = .bool (btwB a b c) ∧ ∃ ex, H' = ex ++ H := by
  obtain ⟨_, _, _, _, _, rfl⟩ := ha.open
  obtain ⟨_, _, _, _, _, rfl⟩ := hb.open
  obtain ⟨_, _, _, _, _, rfl⟩ := hc.open
  refine fn_enter 29 Tryd.func57 fun W => ?_
  repeat' first
    | (first | refine tc_seq ?_ | refine tc_region ?_ | refine at_seq_normal ?_ | refine tl_nil ?_ | refine tl_cons ?_ | refine op_move ?_ | refine op_assign ?_ | refine op_load ?_ | refine op_load_agg ?_ | refine op_icmp ?_ | refine op_pick_true ?_ | refine op_pick_false ?_ | refine op_pick_true' ?_ | refine op_pick_false' ?_ | (refine op_box ?_; intro _) | refine op_loadK rfl ?_ | refine op_load_aggK rfl ?_ | refine tc_ret ?_ | refine at_seq_ret ?_ | refine tl_guard_yes ?_ | refine tl_guard_no ?_ | refine tl_guard_yes' ?_ | refine tl_guard_no' ?_ | refine tl_guard_undef ?_ | refine tl_guard_split (fun _ => ?_) (fun _ => ?_) | fail)
    | refine op_load_aggK rfl ?_
    | (refine op_call ((qCmp _ _ a c 0 _ (by decide) (ha.mono fun e he => by simp [he]) (hc.mono fun e he => by simp [he])).mono ?_); rintro _ _ ⟨ex1, rfl, rfl⟩)
    | (refine op_call ((qCmp _ _ c b 0 _ (by decide) (hc.mono fun e he => by simp [he]) (hb.mono fun e he => by simp [he])).mono ?_); rintro _ _ ⟨ex2, rfl, rfl⟩)
    | (refine op_call ((qCmp _ _ b c 0 _ (by decide) (hb.mono fun e he => by simp [he]) (hc.mono fun e he => by simp [he])).mono ?_); rintro _ _ ⟨ex3, rfl, rfl⟩)
    | (refine op_call ((qCmp _ _ c a 0 _ (by decide) (hc.mono fun e he => by simp [he]) (ha.mono fun e he => by simp [he])).mono ?_); rintro _ _ ⟨ex4, rfl, rfl⟩)
    | fail
  all_goals
    refine ret_tmp (hG := List.Sublist.refl _) (hk := ⟨congrArg Value.bool ?_, ExC.ex⟩)
    simp only [sgQ_leq] at *
    unfold btwB
    simp_all
noncomputable def onB (px py ax ay bx by' : Rat) : Bool := decide ((bx - ax) * (py - ay) - (by' - ay) * (px - ax) = 0) && btwB ax bx px && btwB ay by' py
set_option maxHeartbeats 8000000 in
theorem qOn (up ua ub : Value) (px py ax ay bx by' : Rat) (H : Heap) (hp : IsP px py 0 up H) (ha : IsP ax ay 0 ua H) (hb : IsP bx by' 0 ub H) :
    Does Tryd.prog 46 [up, ua, ub] H fun w H' => w = .bool (onB px py ax ay bx by') ∧ ∃ ex, H' = ex ++ H := by
  have hp0 := hp
  have ha0 := ha
  have hb0 := hb
  obtain ⟨_, _, _, _, _, _, _, _, _, _, rfl, p1, p2⟩ := hp
  obtain ⟨_, _, _, _, _, _, _, _, _, _, rfl, a1, a2⟩ := ha
  obtain ⟨_, _, _, _, _, _, _, _, _, _, rfl, b1, b2⟩ := hb
  refine fn_enter 30 Tryd.func46 fun W => ?_
  repeat' first
    | (first | refine tc_seq ?_ | refine tc_region ?_ | refine at_seq_normal ?_ | refine tl_nil ?_ | refine tl_cons ?_ | refine op_move ?_ | refine op_assign ?_ | refine op_fieldAddr ?_ | refine op_load ?_ | refine op_load_agg ?_ | refine op_icmp ?_ | refine op_pick_true ?_ | refine op_pick_false ?_ | refine op_pick_true' ?_ | refine op_pick_false' ?_ | (refine op_box ?_; intro _) | refine op_loadK rfl ?_ | refine op_load_aggK rfl ?_ | refine tc_ret ?_ | refine at_seq_ret ?_ | refine tl_guard_yes ?_ | refine tl_guard_no ?_ | refine tl_guard_yes' ?_ | refine tl_guard_no' ?_ | refine tl_guard_undef ?_ | refine tl_guard_split (fun _ => ?_) (fun _ => ?_) | fail)
    | refine op_load_aggK rfl ?_
    | (refine op_call ((qOrient _ _ _ ax ay bx by' px py _ (ha0.mono fun e he => by simp [he]) (hb0.mono fun e he => by simp [he]) (hp0.mono fun e he => by simp [he])).mono ?_); rintro _ _ ⟨rfl, ex1, rfl⟩)
    | (refine op_call ((qBetween _ _ _ ax bx px _ (a1.mono fun e he => by simp [he]) (b1.mono fun e he => by simp [he]) (p1.mono fun e he => by simp [he])).mono ?_); rintro _ _ ⟨rfl, ex2, rfl⟩)
    | (refine op_call ((qBetween _ _ _ ay by' py _ (a2.mono fun e he => by simp [he]) (b2.mono fun e he => by simp [he]) (p2.mono fun e he => by simp [he])).mono ?_); rintro _ _ ⟨rfl, ex3, rfl⟩)
    | fail
  all_goals
    refine ret_tmp (hG := List.Sublist.refl _) (hk := ⟨congrArg Value.bool ?_, ExC.ex⟩)
    simp only [sgQ_eq] at *
    unfold onB
    simp_all
end Go.Proofs.YtelhfcjchpdkiaaDoor.Lmb

set_option linter.unusedVariables false
set_option linter.unusedSimpArgs false
namespace Go.Proofs.YtelhfcjchpdkiaaDoor.Ori
open Go.Lg Go.Proofs.YtelhfcjchpdkiaaDoor.Lmb Go.Proofs.YtelhfcjchpdkiaaDoor.Orp Ieee

abbrev c2 (x y : Nat) : Obj := .cells ⟨[.float .f64 x, .float .f64 y]⟩ 22 (0, 0)
abbrev sl (k : Nat) : Value := .slice (some ⟨k, 0, none⟩) 2 2
/-- What is told of the turn of three places. -/
def TurnOf (aX aY bX bY pX pY t : Int) : Prop := Turn ((aX - pX) * (bY - pY)) ((aY - pY) * (bX - pX)) t ∧
  (W25 aX → W25 aY → W25 bX → W25 bY → W25 pX → W25 pY → t = sgQ (((aX - pX) * (bY - pY) - (aY - pY) * (bX - pX) : Int) : Rat))
theorem tc_fact {P : Program} {W : World} {n : Nat} {ds : List Deferred} {c : Code} {Q : Exit → Act → World → Prop} {E : Env} {G : Heap} (p : Heap → Prop) (h : p G) (k : p G → TC P W n ds c Q E G) : TC P W n ds c Q E G := k h
theorem Eps.mono {G G' : Heap} (h : Eps G) (hs : ∀ e ∈ G, e ∈ G') : Eps G' := let ⟨T, z, h⟩ := h; ⟨T, z, hs _ h⟩
theorem xindex (k1 o1 c1 k2 o2 c2 k3 o3 c3 : Nat) (l1 l2 l3 : List Value) (T1 T2 T3 : TypeId) (z1 z2 z3 : Nat × Nat) (ax ay bx by' px py : Nat) (aX aY bX bY pX pY : Int) (H : Heap)
    (m1 : (k1, Obj.cells ⟨l1⟩ T1 z1) ∈ H) (m2 : (k2, Obj.cells ⟨l2⟩ T2 z2) ∈ H) (m3 : (k3, Obj.cells ⟨l3⟩ T3 z3) ∈ H)
    (g1 : l1[o1 + 0]? = some (.float .f64 ax)) (g2 : l1[o1 + 1]? = some (.float .f64 ay)) (g3 : l2[o2 + 0]? = some (.float .f64 bx)) (g4 : l2[o2 + 1]? = some (.float .f64 by')) (g5 : l3[o3 + 0]? = some (.float .f64 px)) (g6 : l3[o3 + 1]? = some (.float .f64 py))
    (fax : Fv ax (aX : Rat)) (fay : Fv ay (aY : Rat)) (fbx : Fv bx (bX : Rat)) (fby : Fv by' (bY : Rat)) (fpx : Fv px (pX : Rat)) (fpy : Fv py (pY : Rat)) (wax : W51 aX) (way : W51 aY) (wbx : W51 bX) (wby : W51 bY) (wpx : W51 pX) (wpy : W51 pY) (hE : Eps H) :
    Does Tryd.prog 24 [.slice (some ⟨k1, o1, none⟩) 2 c1, .slice (some ⟨k2, o2, none⟩) 2 c2, .slice (some ⟨k3, o3, none⟩) 2 c3] H fun w H' => (∃ t : Int, w = .int .i64 t ∧ TurnOf aX aY bX bY pX pY t) ∧ H' = H := by
  refine fn_enter 11 Tryd.func24 fun W => ?_
  repeat' first
    | (refine op_call ((index k1 o1 c1 k2 o2 c2 k3 o3 c3 l1 l2 l3 T1 T2 T3 z1 z2 z3 ax ay bx by' px py aX aY bX bY pX pY _ m1 m2 m3 g1 g2 g3 g4 g5 g6 fax fay fbx fby fpx fpy wax way wbx wby wpx wpy hE).mono ?_); rintro _ _ ⟨⟨t, rfl, ht1, ht2⟩, rfl⟩)
    | (first | refine tc_seq ?_ | refine tc_region ?_ | refine at_seq_normal ?_ | refine tl_nil ?_ | refine tl_cons ?_ | refine op_move ?_ | refine op_assign ?_ | refine tc_ret ?_ | refine at_seq_ret ?_ | fail)
    | fail
  exact ret_tmp (hk := ⟨⟨t, rfl, ht1, ht2⟩, rfl⟩)
set_option maxHeartbeats 8000000 in
theorem orientation (ax ay bx by' px py : Nat) (aX aY bX bY pX pY : Int) (H : Heap)
    (fax : Fv ax (aX : Rat)) (fay : Fv ay (aY : Rat)) (fbx : Fv bx (bX : Rat)) (fby : Fv by' (bY : Rat)) (fpx : Fv px (pX : Rat)) (fpy : Fv py (pY : Rat)) (wax : W51 aX) (way : W51 aY) (wbx : W51 bX) (wby : W51 bY) (wpx : W51 pX) (wpy : W51 pY) (hE : Eps H) :
    Does Tryd.prog 7 [.agg ⟨[.float .f64 ax, .float .f64 ay]⟩, .agg ⟨[.float .f64 bx, .float .f64 by']⟩, .agg ⟨[.float .f64 px, .float .f64 py]⟩] H fun w H' => (∃ t : Int, w = .int .i64 t ∧ TurnOf aX aY bX bY pX pY t) ∧ ∃ ex, H' = ex ++ H := by
  refine fn_enter 14 Tryd.func7 fun W => ?_
  repeat' first
    | refine tc_seq ?_ | refine tc_region ?_ | refine at_seq_normal ?_ | refine tl_nil ?_ | refine tl_cons ?_ | refine op_assign ?_ | refine op_load ?_ | refine op_load_agg ?_ | (refine op_box ?_; intro _) | refine op_loadK rfl ?_
    | refine op_load_aggK rfl ?_ | refine tc_ret ?_ | refine at_seq_ret ?_
  apply fun hole0 hole1 hole2 hE hD hml hdl hpr prem fin => tc_drawnD 7 [PhiD.is hole0, PhiD.gen (fun w ex G => ∃ k, w = sl k ∧ (k, c2 ax ay) ∈ G), PhiD.is hole1, PhiD.gen (fun w ex G => ∃ k, w = sl k ∧ (k, c2 bx by') ∈ G), PhiD.is hole2, PhiD.gen (fun w ex G => ∃ k, w = sl k ∧ (k, c2 px py) ∈ G), PhiD.gen (some' (fun w ex => ∃ t : Int, w = .int .i64 t ∧ TurnOf aX aY bX bY pX pY t))]
    [some 7, some 8, some 9, some 10, some 11, some 12, some 13, some 6] [[], [0], [], [2, 1], [], [4, 3], [1, 3, 5]] mixed ⟨(fun _ _ _ _ ⟨k, h1, h2⟩ hs => ⟨k, h1, hs _ h2⟩), (fun _ _ _ _ ⟨k, h1, h2⟩ hs => ⟨k, h1, hs _ h2⟩), (fun _ _ _ _ ⟨k, h1, h2⟩ hs => ⟨k, h1, hs _ h2⟩), (some_mono _), trivial⟩ prem fin hE hD rfl hml hdl hpr
  rotate_left 4
  · first | kernel_rfl | exact rfl
  · first | kernel_rfl | exact rfl
  · exact Nat.le_of_ble_eq_true rfl
  · first | kernel_rfl | exact rfl
  · first | kernel_rfl | exact rfl
  refine ⟨fun G hG => ?_, fun G hG => ?_, fun G hG => ?_, fun G hG => ?_, fun G hG => ?_, fun G hG => ?_, fun G hG => ?_, trivial⟩
  · simp only [withD, nthD, Step2, nthDst, putO, postD]
    ((first | refine op_load ?_ | refine op_load_agg ?_ | refine op_load ?_ (hm := Sub.mem (by assumption) (by (repeat (apply List.mem_cons_of_mem)); assumption)) | refine op_load_agg ?_ (hm := Sub.mem (by assumption) (by (repeat (apply List.mem_cons_of_mem)); assumption)) | refine op_loadH hG rfl ?_ | refine op_load_aggH hG rfl ?_); exact ⟨[], rfl, rfl, rfl⟩)
  · simp only [withD, nthD, Step2, nthDst, putO, postD]
    (refine op_call ((Pl.coord _ _ _).mono ?_); rintro _ _ ⟨k, rfl, rfl⟩; exact ⟨[_], rfl, k, rfl, mem0⟩)
  · simp only [withD, nthD, Step2, nthDst, putO, postD]
    ((first | refine op_load ?_ | refine op_load_agg ?_ | refine op_load ?_ (hm := Sub.mem (by assumption) (by (repeat (apply List.mem_cons_of_mem)); assumption)) | refine op_load_agg ?_ (hm := Sub.mem (by assumption) (by (repeat (apply List.mem_cons_of_mem)); assumption)) | refine op_loadH hG rfl ?_ | refine op_load_aggH hG rfl ?_); exact ⟨[], rfl, rfl, rfl⟩)
  · simp only [withD, nthD, Step2, nthDst, putO, postD]
    rintro _ _ ⟨ka, rfl, ma⟩ -
    (refine op_call ((Pl.coord _ _ _).mono ?_); rintro _ _ ⟨k, rfl, rfl⟩; exact ⟨[_], rfl, k, rfl, mem0⟩)
  · simp only [withD, nthD, Step2, nthDst, putO, postD]
    ((first | refine op_load ?_ | refine op_load_agg ?_ | refine op_load ?_ (hm := Sub.mem (by assumption) (by (repeat (apply List.mem_cons_of_mem)); assumption)) | refine op_load_agg ?_ (hm := Sub.mem (by assumption) (by (repeat (apply List.mem_cons_of_mem)); assumption)) | refine op_loadH hG rfl ?_ | refine op_load_aggH hG rfl ?_); exact ⟨[], rfl, rfl, rfl⟩)
  · simp only [withD, nthD, Step2, nthDst, putO, postD]
    rintro _ _ ⟨kb, rfl, mb⟩ -
    (refine op_call ((Pl.coord _ _ _).mono ?_); rintro _ _ ⟨k, rfl, rfl⟩; exact ⟨[_], rfl, k, rfl, mem0⟩)
  · simp only [withD, nthD, Step2, nthDst, putO, postD]
    rintro _ _ ⟨ka, rfl, ma⟩ - _ _ ⟨kb, rfl, mb⟩ - _ _ ⟨kc, rfl, mc⟩ -
    (refine op_call ((xindex ka 0 2 kb 0 2 kc 0 2 _ _ _ _ _ _ _ _ _ ax ay bx by' px py aX aY bX bY pX pY _ ma mb mc rfl rfl rfl rfl rfl rfl fax fay fbx fby fpx fpy wax way wbx wby wpx wpy (hE.mono fun e he => hG e (by simp [he]))).mono ?_); rintro _ _ ⟨h, rfl⟩; exact ⟨[], rfl, h⟩)
  simp only [FinalsD, nthDst, putO, List.drop_succ_cons, List.drop_zero]
  rintro _ _ _ _ _ _ _ _ ⟨⟨t, rfl, ht⟩, ⟨kc, rfl, mc⟩, ⟨kb, rfl, mb⟩, ⟨ka, rfl, ma⟩, -⟩
  try simp only [List.nil_append]
  repeat' first
    | refine tc_seq ?_ | refine tc_region ?_ | refine at_seq_normal ?_ | refine tl_nil ?_ | refine tl_cons ?_ | refine op_assign ?_ | refine op_load ?_ | refine op_load_agg ?_ | (refine op_box ?_; intro _) | refine op_loadK rfl ?_
    | refine op_load_aggK rfl ?_ | refine tc_ret ?_ | refine at_seq_ret ?_
  exact ret_tmp (hG := List.Sublist.refl _) (hk := ⟨⟨t, rfl, ht⟩, ExC.ex⟩)
theorem qShift (u : Value) (q : Rat) (d : Nat) (n : Int) (H : Heap) (hd : d ≤ 8) (hn : -1100 ≤ n ∧ n ≤ 1100) (hu : IsQ q d u H) : Does Tryd.prog 15 [u, .int .i64 n] H fun w H' => ∃ ex, H' = ex ++ H ∧ IsQ (q * p2 n) (d + 1) w H' := by
  obtain ⟨m, e, L, ⟨b1, a1, k1, c1, rfl, h1⟩, h2, h3, h4, h5⟩ := hu
  obtain ⟨p4, p5, p6⟩ := pow4 hd
  have w1 : IntKind.i64.wrap (iarith .add e n) = e + n := by
    rw [wrap_add (by omega) (by omega)]
  refine fn_enter 12 Tryd.func15 fun W => ?_
  repeat' first
    | (refine op_iarith ?_; rw [w1])
    | refine op_storeK rfl ?_
    | (first | refine tc_seq ?_ | refine tc_region ?_ | refine at_seq_normal ?_ | refine tl_nil ?_ | refine tl_cons ?_ | refine tl_cons_none ?_ | refine op_move ?_ | refine op_fieldAddr ?_ | refine op_load ?_ | refine op_load_agg ?_ | refine op_iarith ?_ | refine op_build ?_ | (refine op_alloc ?_; intro _) | (refine op_box ?_; intro _) | refine op_store0 ?_ | refine op_store1 ?_ | refine op_store2 ?_ | refine op_store3 ?_ | refine op_store4 ?_ | refine op_store5 ?_ | refine op_storeK rfl ?_ | refine op_loadK rfl ?_ | refine op_load_aggK rfl ?_ | refine tc_ret ?_ | refine at_seq_ret ?_ | fail)
    | fail
  rename_i kb kr
  refine ret_one (.agg (T := 30) (k := kr) (off := 0) (m := _) rfl rfl mem0 rfl rfl) (hG := List.Sublist.refl _) (hk := exq ?_)
  refine ⟨m, e + n, L, ⟨b1, a1, k1, c1, rfl, h1.mono fun e he => by simp [he]⟩, ?_, ?_, ?_, ?_⟩
  · rw [h2, p2_add]; grind
  · rw [p6]; omega
  · rw [p6]; omega
  · rw [p6]; omega
end Go.Proofs.YtelhfcjchpdkiaaDoor.Ori

set_option linter.unusedVariables false
set_option linter.unusedSimpArgs false
namespace Go.Lg
theorem trod_iface {H : Type} {enc : TypeId × Value → H} {P : Program} {W : World} {b : Nat} {sp : Nat → Bool} {hd : Bool} {n t : Nat} {cs : List Value} {nm : String} {d : DataW H} {p : List MemPlace} {ms} (ht : P.underlying t = some (.interface ms)) (h : DataW.trod enc P W b sp hd n t cs = some (.iface nm d, p)) : ∃ u v, cs = [.iface u v] := by
  cases n with
  | zero => simp [DataW.trod] at h
  | succ n =>
    simp only [DataW.trod, ht] at h
    split at h <;> simp_all
theorem laid_iface {P : Program} {W : World} : ∀ {laid : List (String × DataW Unit)} {ps : List MemPlace}, DataW.LaidVars P W laid ps → ∀ {n nm : String} {d : DataW Unit}, (n, DataW.iface nm d) ∈ laid → ∀ {g t : Nat} {ms}, P.globalNamed n = some g → (P.globals[g]?).map (·.type) = some t → P.underlying t = some (.interface ms) →
    ∃ u v T fz, (g, Obj.cells ⟨[.iface u v]⟩ T fz) ∈ all W
  | [], _, _, n, nm, d, hm, _, _, _, _, _, _ => by cases hm
  | (n0, d0) :: r, ps, h, n, nm, d, hm, g, t, ms, hg, ht, hu => by
    obtain ⟨g0, t0, cs, fuel, p, q, h1, h2, h3, h4, h5, h6⟩ := h
    rcases List.mem_cons.1 hm with h | h
    · cases h
      rw [h1] at hg
      cases hg
      rw [h2] at ht
      cases ht
      obtain ⟨u, v, he⟩ := trod_iface hu h4
      unfold World.var? at h3
      rw [h1] at h3
      simp only [Option.bind_some] at h3
      split at h3
      · rename_i cs' T fz heq
        cases h3
        refine ⟨u, v, T, fz, mem_all.2 ?_⟩
        rw [heq, ← he]
      · cases h3
    · exact laid_iface h5 h hg ht hu
end Go.Lg

set_option linter.unusedVariables false
set_option linter.unusedSimpArgs false
namespace Go.Lg
theorem trod_flt {H : Type} {enc : TypeId × Value → H} {P : Program} {W : World} {b : Nat} {sp : Nat → Bool} {hd : Bool} {n t x : Nat} {cs : List Value} {p : List MemPlace} (ht : P.underlying t = some (.float .f64)) (h : DataW.trod enc P W b sp hd n t cs = some (.lit (.float .f64 x), p)) : cs = [.float .f64 x] := by
  cases n with
  | zero => simp [DataW.trod] at h
  | succ n =>
    simp only [DataW.trod, ht] at h
    split at h <;> simp_all
theorem laid_flt {P : Program} {W : World} : ∀ {laid : List (String × DataW Unit)} {ps : List MemPlace}, DataW.LaidVars P W laid ps → ∀ {n : String} {x : Nat}, (n, DataW.lit (.float .f64 x)) ∈ laid → ∀ {g t : Nat}, P.globalNamed n = some g → (P.globals[g]?).map (·.type) = some t → P.underlying t = some (.float .f64) →
    ∃ T fz, (g, Obj.cells ⟨[.float .f64 x]⟩ T fz) ∈ all W
  | [], _, _, n, x, hm, _, _, _, _, _ => by cases hm
  | (n0, d0) :: r, ps, h, n, x, hm, g, t, hg, ht, hu => by
    obtain ⟨g0, t0, cs, fuel, p, q, h1, h2, h3, h4, h5, h6⟩ := h
    rcases List.mem_cons.1 hm with h | h
    · cases h
      rw [h1] at hg
      cases hg
      rw [h2] at ht
      cases ht
      have he := trod_flt hu h4
      unfold World.var? at h3
      rw [h1] at h3
      simp only [Option.bind_some] at h3
      split at h3
      · rename_i cs' T fz heq
        cases h3
        refine ⟨T, fz, mem_all.2 ?_⟩
        rw [heq, ← he]
      · cases h3
    · exact laid_flt h5 h hg ht hu
end Go.Lg

set_option linter.unusedVariables false
set_option linter.unusedSimpArgs false
namespace Go.Proofs.YtelhfcjchpdkiaaDoor.fnOrientationGreat
open Go.Lg Go.Proofs.YtelhfcjchpdkiaaDoor.Pl Go.Proofs.YtelhfcjchpdkiaaDoor.Lmb Go.Proofs.YtelhfcjchpdkiaaDoor.Ori Go.Proofs.YtelhfcjchpdkiaaDoor.Orp
open Go.ChangeShapes Go.WideShapes Go.RowKit Go.ChangeAt

theorem fv51 : Fv 4836865999795912704 ((2251799813685248 : Nat) : Rat) := ⟨false, 4503599627370496, -1, rfl, by
  unfold sgn p2; simp; grind⟩
abbrev v2 (x y : Nat) : Value := .agg ⟨[.float .f64 x, .float .f64 y]⟩
set_option maxHeartbeats 16000000 in
theorem law (ax ay : Nat) (hax : ax < 18446744073709551616) (hay : ay < 18446744073709551616) (bx by' : Nat) (hbx : bx < 18446744073709551616) (hby : by' < 18446744073709551616) (px py : Nat) (hpx : px < 18446744073709551616) (hpy : py < 18446744073709551616) (H : Heap) (hE : Eps H) :
    Does Tryd.prog 3 [v2 ax ay, v2 bx by', v2 px py] H fun w H' => w = .bool true ∧ H' = H := by
  refine fn_enter 81 Tryd.func3 fun W => ?_
  repeat' first
    | (first | refine tc_seq ?_ | refine tc_region ?_ | refine at_seq_normal ?_ | refine tl_nil ?_ | refine tl_cons ?_ | refine tl_cons_none ?_ | refine op_move ?_ | refine op_assign ?_ | refine op_fieldAddr ?_ | refine op_load ?_ | refine op_load_agg ?_ | refine op_icmp ?_ | refine op_unop_not ?_ | refine op_pick_true ?_ | refine op_pick_false ?_ | refine op_pick_true' ?_ | refine op_pick_false' ?_ | (refine op_alloc ?_; intro _) | (refine op_box ?_; intro _) | (refine op_buildSlice ?_; intro _) | refine op_store0 ?_ | refine op_store1 ?_ | refine op_store2 ?_ | refine op_store3 ?_ | refine op_store4 ?_ | refine op_store5 ?_ | refine op_storeK rfl ?_ | refine op_loadK rfl ?_ | refine op_load_aggK rfl ?_ | refine tc_cond_t ?_ | refine tc_cond_f ?_ | refine tc_cond (fun _ => ?_) (fun _ => ?_) | refine tc_skip ?_ | refine tc_ret ?_ | refine at_seq_ret ?_ | refine tl_guard_yes ?_ | refine tl_guard_no ?_ | refine tl_guard_yes' ?_ | refine tl_guard_no' ?_ | refine tl_guard_undef ?_ | refine tl_guard_split (fun _ => ?_) (fun _ => ?_) | fail)
    | (refine op_call ((planeTo _ [(ax, ay), (bx, by'), (px, py)] _ _ _ _ 2251799813685248 _ fv51 (by decide) (by simp) (by simp [*]) mem0).mono ?_); rintro _ _ ⟨⟨b, rfl, hb⟩, ex0, rfl⟩)
    | fail
  · exact ret_tmp (hG := by (repeat (first | exact List.Sublist.refl _ | apply List.Sublist.cons_cons | apply List.Sublist.cons | refine List.Sublist.trans ?_ (List.sublist_append_right _ _)))) (hk := ⟨rfl, rfl⟩)
  rename_i kp kb ka ks hnb
  have hb' := hb (by simpa using hnb)
  obtain ⟨⟨aX, fax, a1, a2⟩, ⟨aY, fay, a3, a4⟩⟩ := hb' (ax, ay) (by simp)
  obtain ⟨⟨bX, fbx, b1, b2⟩, ⟨bY, fby, b3, b4⟩⟩ := hb' (bx, by') (by simp)
  obtain ⟨⟨pX, fpx, p1, p2'⟩, ⟨pY, fpy, p3, p4⟩⟩ := hb' (px, py) (by simp)
  simp only at fax fay fbx fby fpx fpy
  refine tc_weak (fun _ _ h => h) (List.sublist_append_right _ _) ?_
  apply fun hole0 hole1 hole2 hole3 hole4 hole5 hE hD hml hdl hpr prem fin => tc_drawnD 9 [PhiD.is hole0, PhiD.gen (fun w _ G => IsP aX aY 0 w G), PhiD.is hole1, PhiD.gen (fun w _ G => IsP bX bY 0 w G), PhiD.is hole2, PhiD.gen (fun w _ G => IsP pX pY 0 w G), PhiD.fresh (fun k => .pointer (some ⟨k, 0, none⟩)) hole3, PhiD.fresh (fun k => .pointer (some ⟨k, 0, none⟩)) hole4, PhiD.fresh (fun k => .pointer (some ⟨k, 0, none⟩)) hole5]
    [some 20, some 21, some 22, some 23, some 24, some 25, some 7, some 8, some 9, none, none, none] [[], [0], [], [2, 1], [], [4, 3], [], [], []] mixed ⟨(fun _ _ _ _ h hs => IsP.mono h hs), (fun _ _ _ _ h hs => IsP.mono h hs), (fun _ _ _ _ h hs => IsP.mono h hs), trivial⟩ prem fin hE hD rfl hml hdl hpr
  rotate_left 7
  · first | kernel_rfl | exact rfl
  · first | kernel_rfl | exact rfl
  · exact Nat.le_of_ble_eq_true rfl
  · first | kernel_rfl | exact rfl
  · first | kernel_rfl | exact rfl
  refine ⟨fun G hG => ?_, fun G hG => ?_, fun G hG => ?_, fun G hG => ?_, fun G hG => ?_, fun G hG => ?_, fun G hG => ?_, fun G hG => ?_, fun G hG => ?_, trivial⟩
  · simp only [withD, nthD, Step2, nthDst, putO, postD]
    ((first | refine op_load ?_ | refine op_load_agg ?_ | refine op_load ?_ (hm := Sub.mem (by assumption) (by (repeat (apply List.mem_cons_of_mem)); assumption)) | refine op_load_agg ?_ (hm := Sub.mem (by assumption) (by (repeat (apply List.mem_cons_of_mem)); assumption)) | refine op_loadH hG rfl ?_ | refine op_load_aggH hG rfl ?_); exact ⟨[], rfl, rfl, rfl⟩)
  · simp only [withD, nthD, Step2, nthDst, putO, postD]
    (refine op_call ((exactly _ _ _ _ _ fax fay hax hay).mono ?_); rintro w _ ⟨ex, rfl, hw⟩; exact ⟨ex, rfl, hw⟩)
  · simp only [withD, nthD, Step2, nthDst, putO, postD]
    ((first | refine op_load ?_ | refine op_load_agg ?_ | refine op_load ?_ (hm := Sub.mem (by assumption) (by (repeat (apply List.mem_cons_of_mem)); assumption)) | refine op_load_agg ?_ (hm := Sub.mem (by assumption) (by (repeat (apply List.mem_cons_of_mem)); assumption)) | refine op_loadH hG rfl ?_ | refine op_load_aggH hG rfl ?_); exact ⟨[], rfl, rfl, rfl⟩)
  · simp only [withD, nthD, Step2, nthDst, putO, postD]
    rintro _ _ qa -
    (refine op_call ((exactly _ _ _ _ _ fbx fby hbx hby).mono ?_); rintro w _ ⟨ex, rfl, hw⟩; exact ⟨ex, rfl, hw⟩)
  · simp only [withD, nthD, Step2, nthDst, putO, postD]
    ((first | refine op_load ?_ | refine op_load_agg ?_ | refine op_load ?_ (hm := Sub.mem (by assumption) (by (repeat (apply List.mem_cons_of_mem)); assumption)) | refine op_load_agg ?_ (hm := Sub.mem (by assumption) (by (repeat (apply List.mem_cons_of_mem)); assumption)) | refine op_loadH hG rfl ?_ | refine op_load_aggH hG rfl ?_); exact ⟨[], rfl, rfl, rfl⟩)
  · simp only [withD, nthD, Step2, nthDst, putO, postD]
    rintro _ _ qb -
    (refine op_call ((exactly _ _ _ _ _ fpx fpy hpx hpy).mono ?_); rintro w _ ⟨ex, rfl, hw⟩; exact ⟨ex, rfl, hw⟩)
  · simp only [withD, nthD, Step2, nthDst, putO, postD]
    (refine op_alloc ?_; intro _; exact ⟨[(_, _)], rfl, ⟨_, rfl, rfl⟩⟩)
  · simp only [withD, nthD, Step2, nthDst, putO, postD]
    (refine op_alloc ?_; intro _; exact ⟨[(_, _)], rfl, ⟨_, rfl, rfl⟩⟩)
  · simp only [withD, nthD, Step2, nthDst, putO, postD]
    (refine op_alloc ?_; intro _; exact ⟨[(_, _)], rfl, ⟨_, rfl, rfl⟩⟩)
  simp only [FinalsD, nthDst, putO, List.drop_succ_cons, List.drop_zero]
  rintro _ _ _ _ _ _ _ _ _ ⟨qp, qb, qa, -⟩
  try simp only [List.nil_append]
  obtain ⟨ab, aa, ak, ac, ae, ab', aa', ak', ac', ae', rfl, -, -⟩ := id qa
  obtain ⟨bb, ba, bk, bc, be, bb', ba', bk', bc', be', rfl, -, -⟩ := id qb
  obtain ⟨pb, pa, pk, pc, pe, pb', pa', pk', pc', pe', rfl, -, -⟩ := id qp
  repeat' first
    | refine op_storeK rfl ?_
    | (first | refine tc_seq ?_ | refine tc_region ?_ | refine at_seq_normal ?_ | refine tl_nil ?_ | refine tl_cons ?_ | refine tl_cons_none ?_ | refine op_move ?_ | refine op_assign ?_ | refine op_fieldAddr ?_ | refine op_load ?_ | refine op_load_agg ?_ | refine op_icmp ?_ | refine op_unop_not ?_ | refine op_pick_true ?_ | refine op_pick_false ?_ | refine op_pick_true' ?_ | refine op_pick_false' ?_ | (refine op_alloc ?_; intro _) | (refine op_box ?_; intro _) | (refine op_buildSlice ?_; intro _) | refine op_store0 ?_ | refine op_store1 ?_ | refine op_store2 ?_ | refine op_store3 ?_ | refine op_store4 ?_ | refine op_store5 ?_ | refine op_storeK rfl ?_ | refine op_loadK rfl ?_ | refine op_load_aggK rfl ?_ | refine tc_cond_t ?_ | refine tc_cond_f ?_ | refine tc_cond (fun _ => ?_) (fun _ => ?_) | refine tc_skip ?_ | refine tc_ret ?_ | refine at_seq_ret ?_ | refine tl_guard_yes ?_ | refine tl_guard_no ?_ | refine tl_guard_yes' ?_ | refine tl_guard_no' ?_ | refine tl_guard_undef ?_ | refine tl_guard_split (fun _ => ?_) (fun _ => ?_) | fail)
    | fail
  have hCc : ((bX : Rat) - aX) * (pY - aY) - (bY - aY) * (pX - aX) = (((aX - pX) * (bY - pY) - (aY - pY) * (bX - pX) : Int) : Rat) := by
    rw [← cross_eq]; simp only [Rat.intCast_sub, Rat.intCast_mul]; grind
  refine tc_fact (fun G => IsP aX aY 0 _ G ∧ IsP bX bY 0 _ G ∧ IsP pX pY 0 _ G) (have hsk := ?_; ⟨qa.skip hsk, qb.skip hsk, qp.skip hsk⟩) ?_
  · intro e he
    rcases List.mem_cons.1 he with h | he
    · exact .inr (by rw [h]; exact noU6)
    rcases List.mem_cons.1 he with h | he
    · exact .inr (by rw [h]; exact noU6)
    rcases List.mem_cons.1 he with h | he
    · exact .inr (by rw [h]; exact noU6)
    exact .inl (List.mem_cons_of_mem _ (List.mem_cons_of_mem _ (List.mem_cons_of_mem _ he)))
  clear qa qb qp
  rintro ⟨qa, qb, qp⟩
  apply fun hole0 hole1 hole2 hole3 hole4 hole5 hE hD hml hdl hpr prem fin => tc_drawnD 8 [PhiD.is hole0, PhiD.is hole1, PhiD.is hole2, PhiD.gen (some' (fun w _ => ∃ t : Int, w = .int .i64 t ∧ TurnOf aX aY bX bY pX pY t)), PhiD.is hole3, PhiD.is hole4, PhiD.is hole5, PhiD.gen (some' (fun w _ => w = .int .i64 (sgQ (((aX - pX) * (bY - pY) - (aY - pY) * (bX - pX) : Int) : Rat))))]
    [some 26, some 27, some 28, some 29, some 30, some 31, some 32, some 33, some 10, some 11] [[], [], [], [0, 1, 2], [], [], [], [4, 5, 6, 3]] mixed ⟨(some_mono _), (some_mono _), trivial⟩ prem fin hE hD rfl hml hdl hpr
  rotate_left 7
  · first | kernel_rfl | exact rfl
  · first | kernel_rfl | exact rfl
  · exact Nat.le_of_ble_eq_true rfl
  · first | kernel_rfl | exact rfl
  · first | kernel_rfl | exact rfl
  refine ⟨fun G hG => ?_, fun G hG => ?_, fun G hG => ?_, fun G hG => ?_, fun G hG => ?_, fun G hG => ?_, fun G hG => ?_, fun G hG => ?_, trivial⟩
  · simp only [withD, nthD, Step2, nthDst, putO, postD]
    ((first | refine op_load ?_ | refine op_load_agg ?_ | refine op_load ?_ (hm := Sub.mem (by assumption) (by (repeat (apply List.mem_cons_of_mem)); assumption)) | refine op_load_agg ?_ (hm := Sub.mem (by assumption) (by (repeat (apply List.mem_cons_of_mem)); assumption)) | refine op_loadH hG rfl ?_ | refine op_load_aggH hG rfl ?_); exact ⟨[], rfl, rfl, rfl⟩)
  · simp only [withD, nthD, Step2, nthDst, putO, postD]
    ((first | refine op_load ?_ | refine op_load_agg ?_ | refine op_load ?_ (hm := Sub.mem (by assumption) (by (repeat (apply List.mem_cons_of_mem)); assumption)) | refine op_load_agg ?_ (hm := Sub.mem (by assumption) (by (repeat (apply List.mem_cons_of_mem)); assumption)) | refine op_loadH hG rfl ?_ | refine op_load_aggH hG rfl ?_); exact ⟨[], rfl, rfl, rfl⟩)
  · simp only [withD, nthD, Step2, nthDst, putO, postD]
    ((first | refine op_load ?_ | refine op_load_agg ?_ | refine op_load ?_ (hm := Sub.mem (by assumption) (by (repeat (apply List.mem_cons_of_mem)); assumption)) | refine op_load_agg ?_ (hm := Sub.mem (by assumption) (by (repeat (apply List.mem_cons_of_mem)); assumption)) | refine op_loadH hG rfl ?_ | refine op_load_aggH hG rfl ?_); exact ⟨[], rfl, rfl, rfl⟩)
  · simp only [withD, nthD, Step2, nthDst, putO, postD]
    (refine op_call ((orientation ax ay bx by' px py aX aY bX bY pX pY _ fax fay fbx fby fpx fpy ⟨a1, a2⟩ ⟨a3, a4⟩ ⟨b1, b2⟩ ⟨b3, b4⟩ ⟨p1, p2'⟩ ⟨p3, p4⟩ (hE.mono fun e he => hG e (by simp [he]))).mono ?_); rintro _ _ ⟨h, ex, rfl⟩; exact ⟨ex, rfl, h⟩)
  · simp only [withD, nthD, Step2, nthDst, putO, postD]
    ((first | refine op_load ?_ | refine op_load_agg ?_ | refine op_load ?_ (hm := Sub.mem (by assumption) (by (repeat (apply List.mem_cons_of_mem)); assumption)) | refine op_load_agg ?_ (hm := Sub.mem (by assumption) (by (repeat (apply List.mem_cons_of_mem)); assumption)) | refine op_loadH hG rfl ?_ | refine op_load_aggH hG rfl ?_); exact ⟨[], rfl, rfl, rfl⟩)
  · simp only [withD, nthD, Step2, nthDst, putO, postD]
    ((first | refine op_load ?_ | refine op_load_agg ?_ | refine op_load ?_ (hm := Sub.mem (by assumption) (by (repeat (apply List.mem_cons_of_mem)); assumption)) | refine op_load_agg ?_ (hm := Sub.mem (by assumption) (by (repeat (apply List.mem_cons_of_mem)); assumption)) | refine op_loadH hG rfl ?_ | refine op_load_aggH hG rfl ?_); exact ⟨[], rfl, rfl, rfl⟩)
  · simp only [withD, nthD, Step2, nthDst, putO, postD]
    ((first | refine op_load ?_ | refine op_load_agg ?_ | refine op_load ?_ (hm := Sub.mem (by assumption) (by (repeat (apply List.mem_cons_of_mem)); assumption)) | refine op_load_agg ?_ (hm := Sub.mem (by assumption) (by (repeat (apply List.mem_cons_of_mem)); assumption)) | refine op_loadH hG rfl ?_ | refine op_load_aggH hG rfl ?_); exact ⟨[], rfl, rfl, rfl⟩)
  · simp only [withD, nthD, Step2, nthDst, putO, postD]
    rintro _ _ ⟨t, rfl, ht, -⟩ -
    (refine op_call ((qOrient _ _ _ _ _ _ _ _ _ _ (qa.mono fun e he => hG e (by simp [he])) (qb.mono fun e he => hG e (by simp [he])) (qp.mono fun e he => hG e (by simp [he]))).mono ?_); rw [hCc]; rintro _ _ ⟨rfl, ex, rfl⟩; exact ⟨ex, rfl, rfl⟩)
  simp only [FinalsD, nthDst, putO, List.drop_succ_cons, List.drop_zero]
  rintro _ _ _ _ ⟨rfl, ⟨t, rfl, ht, -⟩, -⟩
  try simp only [List.nil_append]
  repeat' first
    | refine tc_seq ?_ | refine tc_region ?_ | refine at_seq_normal ?_ | refine tl_nil ?_ | refine tl_cons ?_ | refine tl_cons_none ?_ | refine op_move ?_ | refine op_assign ?_ | refine op_fieldAddr ?_ | refine op_load ?_
    | refine op_load_agg ?_ | refine op_icmp ?_ | refine op_unop_not ?_ | refine op_pick_true ?_ | refine op_pick_false ?_ | refine op_pick_true' ?_ | refine op_pick_false' ?_ | (refine op_alloc ?_; intro _) | (refine op_box ?_; intro _) | (refine op_buildSlice ?_; intro _)
    | refine op_store0 ?_ | refine op_store1 ?_ | refine op_store2 ?_ | refine op_store3 ?_ | refine op_store4 ?_ | refine op_store5 ?_ | refine op_storeK rfl ?_ | refine op_loadK rfl ?_ | refine op_load_aggK rfl ?_ | refine tc_cond_t ?_
    | refine tc_cond_f ?_ | refine tc_cond (fun _ => ?_) (fun _ => ?_) | refine tc_skip ?_ | refine tc_ret ?_ | refine at_seq_ret ?_ | refine tl_guard_yes ?_ | refine tl_guard_no ?_ | refine tl_guard_yes' ?_ | refine tl_guard_no' ?_ | refine tl_guard_undef ?_
    | refine tl_guard_split (fun _ => ?_) (fun _ => ?_)
  refine tc_weak (fun _ _ h => h) (List.Sublist.trans (List.sublist_append_right _ _) (List.sublist_append_right _ _)) ?_
  obtain ⟨_, _, _, _, _, _, _, _, _, _, he, qa1, qa2⟩ := id qa
  cases he
  obtain ⟨_, _, _, _, _, _, _, _, _, _, he, qb1, qb2⟩ := id qb
  cases he
  obtain ⟨_, _, _, _, _, _, _, _, _, _, he, qp1, qp2⟩ := id qp
  cases he
  have hle : (if ((aX : Rat) - pX) * ((bY : Rat) - pY) < 0 then -(((aX : Rat) - pX) * ((bY : Rat) - pY)) else ((aX : Rat) - pX) * ((bY : Rat) - pY)) = rabs (((aX - pX) * (bY - pY) : Int) : Rat) := by
    simp only [Rat.intCast_sub, Rat.intCast_mul]; rfl
  have hre : (if ((aY : Rat) - pY) * ((bX : Rat) - pX) < 0 then -(((aY : Rat) - pY) * ((bX : Rat) - pX)) else ((aY : Rat) - pY) * ((bX : Rat) - pX)) = rabs (((aY - pY) * (bX - pX) : Int) : Rat) := by
    simp only [Rat.intCast_sub, Rat.intCast_mul]; rfl

  apply fun hole0 hole1 hole2 hole3 hole4 hole5 hole6 hole7 hole8 hE hD hml hdl hpr prem fin => tc_drawnD 13 [PhiD.is hole0, PhiD.is hole1, PhiD.is hole2, PhiD.is hole3, PhiD.gen (fun w _ G => IsQ ((aX : Rat) - pX) 1 w G), PhiD.is hole4, PhiD.is hole5, PhiD.is hole6, PhiD.is hole7, PhiD.gen (fun w _ G => IsQ ((bY : Rat) - pY) 1 w G), PhiD.gen (fun w _ G => IsQ (((aX : Rat) - pX) * ((bY : Rat) - pY)) 2 w G), PhiD.gen (fun w _ G => IsQ' (rabs (((aX - pX) * (bY - pY) : Int) : Rat)) 2 w G), PhiD.fresh (fun k => .pointer (some ⟨k, 0, none⟩)) hole8]
    [some 34, some 35, some 36, some 37, some 38, some 39, some 40, some 41, some 42, some 43, some 44, some 45, some 12, none] [[], [0], [], [2], [1, 3], [], [5], [], [7], [6, 8, 4], [4, 9], [10], []] mixed ⟨(fun _ _ _ _ h hs => IsQ.mono h hs), (fun _ _ _ _ h hs => IsQ.mono h hs), (fun _ _ _ _ h hs => IsQ.mono h hs), (fun _ _ _ _ h hs => IsQ'.mono h hs), trivial⟩ prem fin hE hD rfl hml hdl hpr
  rotate_left 10
  · first | kernel_rfl | exact rfl
  · first | kernel_rfl | exact rfl
  · exact Nat.le_of_ble_eq_true rfl
  · first | kernel_rfl | exact rfl
  · first | kernel_rfl | exact rfl
  refine ⟨fun G hG => ?_, fun G hG => ?_, fun G hG => ?_, fun G hG => ?_, fun G hG => ?_, fun G hG => ?_, fun G hG => ?_, fun G hG => ?_, fun G hG => ?_, fun G hG => ?_, fun G hG => ?_, fun G hG => ?_, fun G hG => ?_, trivial⟩
  · simp only [withD, nthD, Step2, nthDst, putO, postD]
    (refine op_fieldAddr ?_; exact ⟨[], rfl, rfl, rfl⟩)
  · simp only [withD, nthD, Step2, nthDst, putO, postD]
    ((first | refine op_load ?_ | refine op_load_agg ?_ | refine op_load ?_ (hm := Sub.mem (by assumption) (by (repeat (apply List.mem_cons_of_mem)); assumption)) | refine op_load_agg ?_ (hm := Sub.mem (by assumption) (by (repeat (apply List.mem_cons_of_mem)); assumption)) | refine op_loadH hG rfl ?_ | refine op_load_aggH hG rfl ?_); exact ⟨[], rfl, rfl, rfl⟩)
  · simp only [withD, nthD, Step2, nthDst, putO, postD]
    (refine op_fieldAddr ?_; exact ⟨[], rfl, rfl, rfl⟩)
  · simp only [withD, nthD, Step2, nthDst, putO, postD]
    ((first | refine op_load ?_ | refine op_load_agg ?_ | refine op_load ?_ (hm := Sub.mem (by assumption) (by (repeat (apply List.mem_cons_of_mem)); assumption)) | refine op_load_agg ?_ (hm := Sub.mem (by assumption) (by (repeat (apply List.mem_cons_of_mem)); assumption)) | refine op_loadH hG rfl ?_ | refine op_load_aggH hG rfl ?_); exact ⟨[], rfl, rfl, rfl⟩)
  · simp only [withD, nthD, Step2, nthDst, putO, postD]
    (refine op_call ((qSub _ _ _ _ 0 _ (by decide) (qa1.mono fun e he => hG e (by simp [he])) (qp1.mono fun e he => hG e (by simp [he]))).mono ?_); rintro w _ ⟨ex, rfl, hw⟩; exact ⟨ex, rfl, hw⟩)
  · simp only [withD, nthD, Step2, nthDst, putO, postD]
    (refine op_fieldAddr ?_; exact ⟨[], rfl, rfl, rfl⟩)
  · simp only [withD, nthD, Step2, nthDst, putO, postD]
    ((first | refine op_load ?_ | refine op_load_agg ?_ | refine op_load ?_ (hm := Sub.mem (by assumption) (by (repeat (apply List.mem_cons_of_mem)); assumption)) | refine op_load_agg ?_ (hm := Sub.mem (by assumption) (by (repeat (apply List.mem_cons_of_mem)); assumption)) | refine op_loadH hG rfl ?_ | refine op_load_aggH hG rfl ?_); exact ⟨[], rfl, rfl, rfl⟩)
  · simp only [withD, nthD, Step2, nthDst, putO, postD]
    (refine op_fieldAddr ?_; exact ⟨[], rfl, rfl, rfl⟩)
  · simp only [withD, nthD, Step2, nthDst, putO, postD]
    ((first | refine op_load ?_ | refine op_load_agg ?_ | refine op_load ?_ (hm := Sub.mem (by assumption) (by (repeat (apply List.mem_cons_of_mem)); assumption)) | refine op_load_agg ?_ (hm := Sub.mem (by assumption) (by (repeat (apply List.mem_cons_of_mem)); assumption)) | refine op_loadH hG rfl ?_ | refine op_load_aggH hG rfl ?_); exact ⟨[], rfl, rfl, rfl⟩)
  · simp only [withD, nthD, Step2, nthDst, putO, postD]
    rintro _ _ g4 -
    (refine op_call ((qSub _ _ _ _ 0 _ (by decide) (qb2.mono fun e he => hG e (by simp [he])) (qp2.mono fun e he => hG e (by simp [he]))).mono ?_); rintro w _ ⟨ex, rfl, hw⟩; exact ⟨ex, rfl, hw⟩)
  · simp only [withD, nthD, Step2, nthDst, putO, postD]
    rintro _ _ g4 - _ _ g9 -
    (refine op_call ((qMul _ _ _ _ 1 _ (by decide) g4 g9).mono ?_); rintro w _ ⟨ex, rfl, hw⟩; exact ⟨ex, rfl, hw⟩)
  · simp only [withD, nthD, Step2, nthDst, putO, postD]
    rintro _ _ g10 -
    (refine op_call ((qAbs _ _ _ _ g10).mono ?_); rintro w _ ⟨ex, rfl, hw⟩; exact ⟨ex, rfl, (hw.to hle).fine⟩)
  · simp only [withD, nthD, Step2, nthDst, putO, postD]
    (refine op_alloc ?_; intro _; exact ⟨[(_, _)], rfl, ⟨_, rfl, rfl⟩⟩)
  simp only [FinalsD, nthDst, putO, List.drop_succ_cons, List.drop_zero]
  rintro _ _ _ _ _ _ _ _ _ ⟨⟨lb, la, lk, lc, le, rfl, ql⟩, g10, g9, g4, -⟩
  try simp only [List.nil_append]
  repeat' first
    | refine op_storeK rfl ?_
    | (first | refine tc_seq ?_ | refine tc_region ?_ | refine at_seq_normal ?_ | refine tl_nil ?_ | refine tl_cons ?_ | refine tl_cons_none ?_ | refine op_move ?_ | refine op_assign ?_ | refine op_fieldAddr ?_ | refine op_load ?_ | refine op_load_agg ?_ | refine op_icmp ?_ | refine op_unop_not ?_ | refine op_pick_true ?_ | refine op_pick_false ?_ | refine op_pick_true' ?_ | refine op_pick_false' ?_ | (refine op_alloc ?_; intro _) | (refine op_box ?_; intro _) | (refine op_buildSlice ?_; intro _) | refine op_store0 ?_ | refine op_store1 ?_ | refine op_store2 ?_ | refine op_store3 ?_ | refine op_store4 ?_ | refine op_store5 ?_ | refine op_storeK rfl ?_ | refine op_loadK rfl ?_ | refine op_load_aggK rfl ?_ | refine tc_cond_t ?_ | refine tc_cond_f ?_ | refine tc_cond (fun _ => ?_) (fun _ => ?_) | refine tc_skip ?_ | refine tc_ret ?_ | refine at_seq_ret ?_ | refine tl_guard_yes ?_ | refine tl_guard_no ?_ | refine tl_guard_yes' ?_ | refine tl_guard_no' ?_ | refine tl_guard_undef ?_ | refine tl_guard_split (fun _ => ?_) (fun _ => ?_) | fail)
    | fail

  refine tc_fact (fun G => (IsP aX aY 0 _ G ∧ IsP bX bY 0 _ G ∧ IsP pX pY 0 _ G) ∧ IsQ (rabs (((aX - pX) * (bY - pY) : Int) : Rat)) 2 _ G) ⟨⟨qa.mono fun e he => by simp [he], qb.mono fun e he => by simp [he], qp.mono fun e he => by simp [he]⟩, ql.skip fun e he => ?_⟩ ?_
  · rcases List.mem_cons.1 he with h | he
    · exact .inr (by rw [h]; exact noU3)
    · exact .inl (List.mem_cons_of_mem _ he)
  rintro ⟨⟨qa', qb', qp'⟩, ql'⟩
  obtain ⟨_, _, _, _, _, _, _, _, _, _, he, qa1, qa2⟩ := id qa'
  cases he
  obtain ⟨_, _, _, _, _, _, _, _, _, _, he, qb1, qb2⟩ := id qb'
  cases he
  obtain ⟨_, _, _, _, _, _, _, _, _, _, he, qp1, qp2⟩ := id qp'
  cases he

  apply fun hole0 hole1 hole2 hole3 hole4 hole5 hole6 hole7 hole8 hE hD hml hdl hpr prem fin => tc_drawnD 13 [PhiD.is hole0, PhiD.is hole1, PhiD.is hole2, PhiD.is hole3, PhiD.gen (fun w _ G => IsQ ((aY : Rat) - pY) 1 w G), PhiD.is hole4, PhiD.is hole5, PhiD.is hole6, PhiD.is hole7, PhiD.gen (fun w _ G => IsQ ((bX : Rat) - pX) 1 w G), PhiD.gen (fun w _ G => IsQ (((aY : Rat) - pY) * ((bX : Rat) - pX)) 2 w G), PhiD.gen (fun w _ G => IsQ' (rabs (((aY - pY) * (bX - pX) : Int) : Rat)) 2 w G), PhiD.fresh (fun k => .pointer (some ⟨k, 0, none⟩)) hole8]
    [some 46, some 47, some 48, some 49, some 50, some 51, some 52, some 53, some 54, some 55, some 56, some 57, some 13, none] [[], [0], [], [2], [1, 3], [], [5], [], [7], [6, 8, 4], [4, 9], [10], []] mixed ⟨(fun _ _ _ _ h hs => IsQ.mono h hs), (fun _ _ _ _ h hs => IsQ.mono h hs), (fun _ _ _ _ h hs => IsQ.mono h hs), (fun _ _ _ _ h hs => IsQ'.mono h hs), trivial⟩ prem fin hE hD rfl hml hdl hpr
  rotate_left 10
  · first | kernel_rfl | exact rfl
  · first | kernel_rfl | exact rfl
  · exact Nat.le_of_ble_eq_true rfl
  · first | kernel_rfl | exact rfl
  · first | kernel_rfl | exact rfl
  refine ⟨fun G hG => ?_, fun G hG => ?_, fun G hG => ?_, fun G hG => ?_, fun G hG => ?_, fun G hG => ?_, fun G hG => ?_, fun G hG => ?_, fun G hG => ?_, fun G hG => ?_, fun G hG => ?_, fun G hG => ?_, fun G hG => ?_, trivial⟩
  · simp only [withD, nthD, Step2, nthDst, putO, postD]
    (refine op_fieldAddr ?_; exact ⟨[], rfl, rfl, rfl⟩)
  · simp only [withD, nthD, Step2, nthDst, putO, postD]
    ((first | refine op_load ?_ | refine op_load_agg ?_ | refine op_load ?_ (hm := Sub.mem (by assumption) (by (repeat (apply List.mem_cons_of_mem)); assumption)) | refine op_load_agg ?_ (hm := Sub.mem (by assumption) (by (repeat (apply List.mem_cons_of_mem)); assumption)) | refine op_loadH hG rfl ?_ | refine op_load_aggH hG rfl ?_); exact ⟨[], rfl, rfl, rfl⟩)
  · simp only [withD, nthD, Step2, nthDst, putO, postD]
    (refine op_fieldAddr ?_; exact ⟨[], rfl, rfl, rfl⟩)
  · simp only [withD, nthD, Step2, nthDst, putO, postD]
    ((first | refine op_load ?_ | refine op_load_agg ?_ | refine op_load ?_ (hm := Sub.mem (by assumption) (by (repeat (apply List.mem_cons_of_mem)); assumption)) | refine op_load_agg ?_ (hm := Sub.mem (by assumption) (by (repeat (apply List.mem_cons_of_mem)); assumption)) | refine op_loadH hG rfl ?_ | refine op_load_aggH hG rfl ?_); exact ⟨[], rfl, rfl, rfl⟩)
  · simp only [withD, nthD, Step2, nthDst, putO, postD]
    (refine op_call ((qSub _ _ _ _ 0 _ (by decide) (qa2.mono fun e he => hG e (by simp [he])) (qp2.mono fun e he => hG e (by simp [he]))).mono ?_); rintro w _ ⟨ex, rfl, hw⟩; exact ⟨ex, rfl, hw⟩)
  · simp only [withD, nthD, Step2, nthDst, putO, postD]
    (refine op_fieldAddr ?_; exact ⟨[], rfl, rfl, rfl⟩)
  · simp only [withD, nthD, Step2, nthDst, putO, postD]
    ((first | refine op_load ?_ | refine op_load_agg ?_ | refine op_load ?_ (hm := Sub.mem (by assumption) (by (repeat (apply List.mem_cons_of_mem)); assumption)) | refine op_load_agg ?_ (hm := Sub.mem (by assumption) (by (repeat (apply List.mem_cons_of_mem)); assumption)) | refine op_loadH hG rfl ?_ | refine op_load_aggH hG rfl ?_); exact ⟨[], rfl, rfl, rfl⟩)
  · simp only [withD, nthD, Step2, nthDst, putO, postD]
    (refine op_fieldAddr ?_; exact ⟨[], rfl, rfl, rfl⟩)
  · simp only [withD, nthD, Step2, nthDst, putO, postD]
    ((first | refine op_load ?_ | refine op_load_agg ?_ | refine op_load ?_ (hm := Sub.mem (by assumption) (by (repeat (apply List.mem_cons_of_mem)); assumption)) | refine op_load_agg ?_ (hm := Sub.mem (by assumption) (by (repeat (apply List.mem_cons_of_mem)); assumption)) | refine op_loadH hG rfl ?_ | refine op_load_aggH hG rfl ?_); exact ⟨[], rfl, rfl, rfl⟩)
  · simp only [withD, nthD, Step2, nthDst, putO, postD]
    rintro _ _ g4 -
    (refine op_call ((qSub _ _ _ _ 0 _ (by decide) (qb1.mono fun e he => hG e (by simp [he])) (qp1.mono fun e he => hG e (by simp [he]))).mono ?_); rintro w _ ⟨ex, rfl, hw⟩; exact ⟨ex, rfl, hw⟩)
  · simp only [withD, nthD, Step2, nthDst, putO, postD]
    rintro _ _ g4 - _ _ g9 -
    (refine op_call ((qMul _ _ _ _ 1 _ (by decide) g4 g9).mono ?_); rintro w _ ⟨ex, rfl, hw⟩; exact ⟨ex, rfl, hw⟩)
  · simp only [withD, nthD, Step2, nthDst, putO, postD]
    rintro _ _ g10 -
    (refine op_call ((qAbs _ _ _ _ g10).mono ?_); rintro w _ ⟨ex, rfl, hw⟩; exact ⟨ex, rfl, (hw.to hre).fine⟩)
  · simp only [withD, nthD, Step2, nthDst, putO, postD]
    (refine op_alloc ?_; intro _; exact ⟨[(_, _)], rfl, ⟨_, rfl, rfl⟩⟩)
  simp only [FinalsD, nthDst, putO, List.drop_succ_cons, List.drop_zero]
  rintro _ _ _ _ _ _ _ _ _ ⟨⟨rb, ra, rk, rc, re, rfl, qr⟩, g10, g9, g4, -⟩
  try simp only [List.nil_append]
  repeat' first
    | refine op_storeK rfl ?_
    | (first | refine tc_seq ?_ | refine tc_region ?_ | refine at_seq_normal ?_ | refine tl_nil ?_ | refine tl_cons ?_ | refine tl_cons_none ?_ | refine op_move ?_ | refine op_assign ?_ | refine op_fieldAddr ?_ | refine op_load ?_ | refine op_load_agg ?_ | refine op_icmp ?_ | refine op_unop_not ?_ | refine op_pick_true ?_ | refine op_pick_false ?_ | refine op_pick_true' ?_ | refine op_pick_false' ?_ | (refine op_alloc ?_; intro _) | (refine op_box ?_; intro _) | (refine op_buildSlice ?_; intro _) | refine op_store0 ?_ | refine op_store1 ?_ | refine op_store2 ?_ | refine op_store3 ?_ | refine op_store4 ?_ | refine op_store5 ?_ | refine op_storeK rfl ?_ | refine op_loadK rfl ?_ | refine op_load_aggK rfl ?_ | refine tc_cond_t ?_ | refine tc_cond_f ?_ | refine tc_cond (fun _ => ?_) (fun _ => ?_) | refine tc_skip ?_ | refine tc_ret ?_ | refine at_seq_ret ?_ | refine tl_guard_yes ?_ | refine tl_guard_no ?_ | refine tl_guard_yes' ?_ | refine tl_guard_no' ?_ | refine tl_guard_undef ?_ | refine tl_guard_split (fun _ => ?_) (fun _ => ?_) | fail)
    | fail

  refine tc_fact (fun G => (IsP aX aY 0 _ G ∧ IsP bX bY 0 _ G ∧ IsP pX pY 0 _ G) ∧ IsQ (rabs (((aX - pX) * (bY - pY) : Int) : Rat)) 2 _ G ∧ IsQ (rabs (((aY - pY) * (bX - pX) : Int) : Rat)) 2 _ G) ⟨⟨qa'.mono fun e he => by simp [he], qb'.mono fun e he => by simp [he], qp'.mono fun e he => by simp [he]⟩, ql'.mono fun e he => by simp [he], qr.skip fun e he => ?_⟩ ?_
  · rcases List.mem_cons.1 he with h | he
    · exact .inr (by rw [h]; exact noU3)
    · exact .inl (List.mem_cons_of_mem _ he)
  clear ql qr qa qb qp qa' qb' qp' ql'
  rintro ⟨⟨qa, qb, qp⟩, ql, qr⟩
  obtain ⟨C, hC⟩ : ∃ C : Int, C = (aX - pX) * (bY - pY) - (aY - pY) * (bX - pX) := ⟨_, rfl⟩
  unfold Turn at ht
  rw [← hC] at hCc ht ⊢
  have hce : (if ((bX : Rat) - aX) * (pY - aY) - (bY - aY) * (pX - aX) < 0 then -(((bX : Rat) - aX) * (pY - aY) - (bY - aY) * (pX - aX)) else ((bX : Rat) - aX) * (pY - aY) - (bY - aY) * (pX - aX)) = rabs (C : Rat) := by
    rw [hCc]; rfl
  generalize rabs (((aX - pX) * (bY - pY) : Int) : Rat) = LL at ql ht
  generalize rabs (((aY - pY) * (bX - pX) : Int) : Rat) = RR at qr ht
  obtain ⟨ht1, ht2⟩ := ht
  by_cases hcase : (LL + RR) * p2 (-30) ≤ rabs (C : Rat)
  · have hge : icmp .geq (sgQ (rabs (C : Rat) - (LL + RR) * p2 (-30))) 0 = true := by rw [sgQ_geq]; exact decide_eq_true (by grind)
    obtain rfl := ht2 hcase
    have hne : icmp .neq (sgQ (C : Rat)) (sgQ (C : Rat)) = false := by simp [icmp]
    have heq : icmp .eql (sgQ (C : Rat)) (sgQ (C : Rat)) = true := by simp [icmp]
    apply fun hole0 hole1 hole2 hole3 hole4 hole5 hole6 hole7 hole8 hE hD hml hdl hpr prem fin => tc_drawnD 16 [PhiD.is hole0, PhiD.is hole1, PhiD.is hole2, PhiD.gen (fun w _ G => IsQ (((bX : Rat) - aX) * (pY - aY) - (bY - aY) * (pX - aX)) 3 w G), PhiD.gen (fun w _ G => IsQ (rabs (C : Rat)) 4 w G), PhiD.is hole3, PhiD.is hole4, PhiD.gen (fun w _ G => IsQ (LL + RR) 3 w G), PhiD.gen (fun w _ G => IsQ ((LL + RR) * p2 (-30)) 4 w G), PhiD.gen (some' (fun w _ => w = .int .i64 (sgQ (rabs (C : Rat) - (LL + RR) * p2 (-30))))), PhiD.is (.bool true), PhiD.is hole5, PhiD.is hole6, PhiD.is hole7, PhiD.is (.bool false), PhiD.is hole8]
      [some 58, some 59, some 60, some 61, some 62, some 63, some 64, some 65, some 66, some 67, some 68, some 69, some 70, some 71, some 72, some 73] [[], [], [], [0, 1, 2], [3], [], [], [5, 6, 4], [7], [4, 8], [9], [10, 9], [11], [11], [12, 13, 11], [11, 14]] mixed ⟨(fun _ _ _ _ h hs => IsQ.mono h hs), (fun _ _ _ _ h hs => IsQ.mono h hs), (fun _ _ _ _ h hs => IsQ.mono h hs), (fun _ _ _ _ h hs => IsQ.mono h hs), (some_mono _), trivial⟩ prem fin hE hD rfl hml hdl hpr
    rotate_left 10
    · first | kernel_rfl | exact rfl
    · first | kernel_rfl | exact rfl
    · exact Nat.le_of_ble_eq_true rfl
    · first | kernel_rfl | exact rfl
    · first | kernel_rfl | exact rfl
    refine ⟨fun G hG => ?_, fun G hG => ?_, fun G hG => ?_, fun G hG => ?_, fun G hG => ?_, fun G hG => ?_, fun G hG => ?_, fun G hG => ?_, fun G hG => ?_, fun G hG => ?_, fun G hG => ?_, fun G hG => ?_, fun G hG => ?_, fun G hG => ?_, fun G hG => ?_, fun G hG => ?_, trivial⟩
    · simp only [withD, nthD, Step2, nthDst, putO, postD]
      ((first | refine op_load ?_ | refine op_load_agg ?_ | refine op_load ?_ (hm := Sub.mem (by assumption) (by (repeat (apply List.mem_cons_of_mem)); assumption)) | refine op_load_agg ?_ (hm := Sub.mem (by assumption) (by (repeat (apply List.mem_cons_of_mem)); assumption)) | refine op_loadH hG rfl ?_ | refine op_load_aggH hG rfl ?_); exact ⟨[], rfl, rfl, rfl⟩)
    · simp only [withD, nthD, Step2, nthDst, putO, postD]
      ((first | refine op_load ?_ | refine op_load_agg ?_ | refine op_load ?_ (hm := Sub.mem (by assumption) (by (repeat (apply List.mem_cons_of_mem)); assumption)) | refine op_load_agg ?_ (hm := Sub.mem (by assumption) (by (repeat (apply List.mem_cons_of_mem)); assumption)) | refine op_loadH hG rfl ?_ | refine op_load_aggH hG rfl ?_); exact ⟨[], rfl, rfl, rfl⟩)
    · simp only [withD, nthD, Step2, nthDst, putO, postD]
      ((first | refine op_load ?_ | refine op_load_agg ?_ | refine op_load ?_ (hm := Sub.mem (by assumption) (by (repeat (apply List.mem_cons_of_mem)); assumption)) | refine op_load_agg ?_ (hm := Sub.mem (by assumption) (by (repeat (apply List.mem_cons_of_mem)); assumption)) | refine op_loadH hG rfl ?_ | refine op_load_aggH hG rfl ?_); exact ⟨[], rfl, rfl, rfl⟩)
    · simp only [withD, nthD, Step2, nthDst, putO, postD]
      (refine op_call ((qCross _ _ _ _ _ _ _ _ _ _ (qa.mono fun e he => hG e (by simp [he])) (qb.mono fun e he => hG e (by simp [he])) (qp.mono fun e he => hG e (by simp [he]))).mono ?_); rintro w _ ⟨ex, rfl, hw⟩; exact ⟨ex, rfl, hw⟩)
    · simp only [withD, nthD, Step2, nthDst, putO, postD]
      rintro _ _ g3 -
      (refine op_call ((qAbs _ _ _ _ g3).mono ?_); rintro w _ ⟨ex, rfl, hw⟩; exact ⟨ex, rfl, (hw.to hce).big (by decide)⟩)
    · simp only [withD, nthD, Step2, nthDst, putO, postD]
      ((first | refine op_load ?_ | refine op_load_agg ?_ | refine op_load ?_ (hm := Sub.mem (by assumption) (by (repeat (apply List.mem_cons_of_mem)); assumption)) | refine op_load_agg ?_ (hm := Sub.mem (by assumption) (by (repeat (apply List.mem_cons_of_mem)); assumption)) | refine op_loadH hG rfl ?_ | refine op_load_aggH hG rfl ?_); exact ⟨[], rfl, rfl, rfl⟩)
    · simp only [withD, nthD, Step2, nthDst, putO, postD]
      ((first | refine op_load ?_ | refine op_load_agg ?_ | refine op_load ?_ (hm := Sub.mem (by assumption) (by (repeat (apply List.mem_cons_of_mem)); assumption)) | refine op_load_agg ?_ (hm := Sub.mem (by assumption) (by (repeat (apply List.mem_cons_of_mem)); assumption)) | refine op_loadH hG rfl ?_ | refine op_load_aggH hG rfl ?_); exact ⟨[], rfl, rfl, rfl⟩)
    · simp only [withD, nthD, Step2, nthDst, putO, postD]
      rintro _ _ g4 -
      (refine op_call ((qAdd _ _ _ _ 2 _ (by decide) (ql.mono fun e he => hG e (by simp [he])) (qr.mono fun e he => hG e (by simp [he]))).mono ?_); rintro w _ ⟨ex, rfl, hw⟩; exact ⟨ex, rfl, hw⟩)
    · simp only [withD, nthD, Step2, nthDst, putO, postD]
      rintro _ _ g7 -
      (refine op_call ((qShift _ _ 3 (-30) _ (by decide) (by decide) g7).mono ?_); rintro w _ ⟨ex, rfl, hw⟩; exact ⟨ex, rfl, hw⟩)
    · simp only [withD, nthD, Step2, nthDst, putO, postD]
      rintro _ _ g4 - _ _ g8 -
      (refine op_call ((qCmp _ _ _ _ 4 _ (by decide) g4 g8).mono ?_); rintro _ _ ⟨ex, rfl, rfl⟩; exact ⟨ex, rfl, rfl⟩)
    · simp only [withD, nthD, Step2, nthDst, putO, postD]
      rintro _ _ rfl -
      (refine op_icmp ?_; exact ⟨[], rfl, congrArg Value.bool hge, rfl⟩)
    · simp only [withD, nthD, Step2, nthDst, putO, postD]
      rintro _ _ rfl -
      (refine op_move ?_; exact ⟨[], rfl, rfl, rfl⟩)
    · simp only [withD, nthD, Step2, nthDst, putO, postD]
      (first | refine .inr ⟨_, rfl, rfl, [], rfl, rfl, rfl⟩ | refine .inl ⟨_, _, rfl, rfl, fun _ => ?_, fun h => absurd h (by first | decide | (refine ne_not ?_; assumption))⟩ | refine .inl ⟨_, _, rfl, rfl, (fun h => absurd h (by first | decide | (refine ne_not2 ?_; assumption))), fun _ => ⟨[], rfl, rfl, rfl⟩⟩)
      (all_goals (refine op_move ?_; exact ⟨[], rfl, rfl, rfl⟩))
    · simp only [withD, nthD, Step2, nthDst, putO, postD]
      (first | refine .inr ⟨_, rfl, rfl, [], rfl, rfl, rfl⟩ | refine .inl ⟨_, _, rfl, rfl, fun _ => ?_, fun h => absurd h (by first | decide | (refine ne_not ?_; assumption))⟩ | refine .inl ⟨_, _, rfl, rfl, (fun h => absurd h (by first | decide | (refine ne_not2 ?_; assumption))), fun _ => ⟨[], rfl, rfl, rfl⟩⟩)
      (all_goals (refine op_move ?_; exact ⟨[], rfl, rfl, rfl⟩))
    · simp only [withD, nthD, Step2, nthDst, putO, postD]
      (first | refine .inr ⟨_, rfl, rfl, [], rfl, rfl, rfl⟩ | refine .inl ⟨_, _, rfl, rfl, fun _ => ?_, fun h => absurd h (by first | decide | (refine ne_not ?_; assumption))⟩ | refine .inl ⟨_, _, rfl, rfl, (fun h => absurd h (by first | decide | (refine ne_not2 ?_; assumption))), fun _ => ⟨[], rfl, rfl, rfl⟩⟩)
      (all_goals ((refine op_icmp ?_; exact ⟨[], rfl, congrArg Value.bool hne, rfl⟩)))
    · simp only [withD, nthD, Step2, nthDst, putO, postD]
      ((first | refine op_pick_true ?_ | refine op_pick_false ?_ | refine op_pick_true' ?_ | refine op_pick_false' ?_); exact ⟨[], rfl, rfl, rfl⟩)
    simp only [FinalsD, nthDst, putO, List.drop_succ_cons, List.drop_zero]
    rintro _ _ _ _ _ _ _ _ _ _ ⟨rfl, g8, g7, g4, g3, -⟩
    try simp only [List.nil_append]
    repeat' first
      | refine tc_seq ?_ | refine tc_region ?_ | refine at_seq_normal ?_ | refine tl_nil ?_ | refine tl_cons ?_ | refine tl_cons_none ?_ | refine op_move ?_ | refine op_assign ?_ | refine op_fieldAddr ?_ | refine op_load ?_
      | refine op_load_agg ?_ | refine op_icmp ?_ | refine op_unop_not ?_ | refine op_pick_true ?_ | refine op_pick_false ?_ | refine op_pick_true' ?_ | refine op_pick_false' ?_ | (refine op_alloc ?_; intro _) | (refine op_box ?_; intro _) | (refine op_buildSlice ?_; intro _)
      | refine op_store0 ?_ | refine op_store1 ?_ | refine op_store2 ?_ | refine op_store3 ?_ | refine op_store4 ?_ | refine op_store5 ?_ | refine op_storeK rfl ?_ | refine op_loadK rfl ?_ | refine op_load_aggK rfl ?_ | refine tc_cond_t ?_
      | refine tc_cond_f ?_ | refine tc_cond (fun _ => ?_) (fun _ => ?_) | refine tc_skip ?_ | refine tc_ret ?_ | refine at_seq_ret ?_ | refine tl_guard_yes ?_ | refine tl_guard_no ?_ | refine tl_guard_yes' ?_ | refine tl_guard_no' ?_ | refine tl_guard_undef ?_
      | refine tl_guard_split (fun _ => ?_) (fun _ => ?_)
    all_goals first | exact ret_tmp (hG := by (repeat (first | exact List.Sublist.refl _ | apply List.Sublist.cons_cons | apply List.Sublist.cons | refine List.Sublist.trans ?_ (List.sublist_append_right _ _)))) (hk := ⟨rfl, rfl⟩) | exact ret_tmp (hG := by (repeat (first | exact List.Sublist.refl _ | apply List.Sublist.cons_cons | apply List.Sublist.cons | refine List.Sublist.trans ?_ (List.sublist_append_right _ _)))) (hk := ⟨congrArg Value.bool heq, rfl⟩)
  · have hge : icmp .geq (sgQ (rabs (C : Rat) - (LL + RR) * p2 (-30))) 0 = false := by rw [sgQ_geq]; exact decide_eq_false (by grind)
    apply fun hole0 hole1 hole2 hole3 hole4 hole5 hole6 hole7 hole8 hole9 hE hD hml hdl hpr prem fin => tc_drawnD 16 [PhiD.is hole0, PhiD.is hole1, PhiD.is hole2, PhiD.gen (fun w _ G => IsQ (((bX : Rat) - aX) * (pY - aY) - (bY - aY) * (pX - aX)) 3 w G), PhiD.gen (fun w _ G => IsQ (rabs (C : Rat)) 4 w G), PhiD.is hole3, PhiD.is hole4, PhiD.gen (fun w _ G => IsQ (LL + RR) 3 w G), PhiD.gen (fun w _ G => IsQ ((LL + RR) * p2 (-30)) 4 w G), PhiD.gen (some' (fun w _ => w = .int .i64 (sgQ (rabs (C : Rat) - (LL + RR) * p2 (-30))))), PhiD.is (.bool false), PhiD.is hole5, PhiD.is hole6, PhiD.is hole7, PhiD.is hole8, PhiD.is hole9]
      [some 58, some 59, some 60, some 61, some 62, some 63, some 64, some 65, some 66, some 67, some 68, some 69, some 70, some 71, some 72, some 73] [[], [], [], [0, 1, 2], [3], [], [], [5, 6, 4], [7], [4, 8], [9], [10, 9], [11], [11], [12, 13, 11], [11, 14]] mixed ⟨(fun _ _ _ _ h hs => IsQ.mono h hs), (fun _ _ _ _ h hs => IsQ.mono h hs), (fun _ _ _ _ h hs => IsQ.mono h hs), (fun _ _ _ _ h hs => IsQ.mono h hs), (some_mono _), trivial⟩ prem fin hE hD rfl hml hdl hpr
    rotate_left 11
    · first | kernel_rfl | exact rfl
    · first | kernel_rfl | exact rfl
    · exact Nat.le_of_ble_eq_true rfl
    · first | kernel_rfl | exact rfl
    · first | kernel_rfl | exact rfl
    refine ⟨fun G hG => ?_, fun G hG => ?_, fun G hG => ?_, fun G hG => ?_, fun G hG => ?_, fun G hG => ?_, fun G hG => ?_, fun G hG => ?_, fun G hG => ?_, fun G hG => ?_, fun G hG => ?_, fun G hG => ?_, fun G hG => ?_, fun G hG => ?_, fun G hG => ?_, fun G hG => ?_, trivial⟩
    · simp only [withD, nthD, Step2, nthDst, putO, postD]
      ((first | refine op_load ?_ | refine op_load_agg ?_ | refine op_load ?_ (hm := Sub.mem (by assumption) (by (repeat (apply List.mem_cons_of_mem)); assumption)) | refine op_load_agg ?_ (hm := Sub.mem (by assumption) (by (repeat (apply List.mem_cons_of_mem)); assumption)) | refine op_loadH hG rfl ?_ | refine op_load_aggH hG rfl ?_); exact ⟨[], rfl, rfl, rfl⟩)
    · simp only [withD, nthD, Step2, nthDst, putO, postD]
      ((first | refine op_load ?_ | refine op_load_agg ?_ | refine op_load ?_ (hm := Sub.mem (by assumption) (by (repeat (apply List.mem_cons_of_mem)); assumption)) | refine op_load_agg ?_ (hm := Sub.mem (by assumption) (by (repeat (apply List.mem_cons_of_mem)); assumption)) | refine op_loadH hG rfl ?_ | refine op_load_aggH hG rfl ?_); exact ⟨[], rfl, rfl, rfl⟩)
    · simp only [withD, nthD, Step2, nthDst, putO, postD]
      ((first | refine op_load ?_ | refine op_load_agg ?_ | refine op_load ?_ (hm := Sub.mem (by assumption) (by (repeat (apply List.mem_cons_of_mem)); assumption)) | refine op_load_agg ?_ (hm := Sub.mem (by assumption) (by (repeat (apply List.mem_cons_of_mem)); assumption)) | refine op_loadH hG rfl ?_ | refine op_load_aggH hG rfl ?_); exact ⟨[], rfl, rfl, rfl⟩)
    · simp only [withD, nthD, Step2, nthDst, putO, postD]
      (refine op_call ((qCross _ _ _ _ _ _ _ _ _ _ (qa.mono fun e he => hG e (by simp [he])) (qb.mono fun e he => hG e (by simp [he])) (qp.mono fun e he => hG e (by simp [he]))).mono ?_); rintro w _ ⟨ex, rfl, hw⟩; exact ⟨ex, rfl, hw⟩)
    · simp only [withD, nthD, Step2, nthDst, putO, postD]
      rintro _ _ g3 -
      (refine op_call ((qAbs _ _ _ _ g3).mono ?_); rintro w _ ⟨ex, rfl, hw⟩; exact ⟨ex, rfl, (hw.to hce).big (by decide)⟩)
    · simp only [withD, nthD, Step2, nthDst, putO, postD]
      ((first | refine op_load ?_ | refine op_load_agg ?_ | refine op_load ?_ (hm := Sub.mem (by assumption) (by (repeat (apply List.mem_cons_of_mem)); assumption)) | refine op_load_agg ?_ (hm := Sub.mem (by assumption) (by (repeat (apply List.mem_cons_of_mem)); assumption)) | refine op_loadH hG rfl ?_ | refine op_load_aggH hG rfl ?_); exact ⟨[], rfl, rfl, rfl⟩)
    · simp only [withD, nthD, Step2, nthDst, putO, postD]
      ((first | refine op_load ?_ | refine op_load_agg ?_ | refine op_load ?_ (hm := Sub.mem (by assumption) (by (repeat (apply List.mem_cons_of_mem)); assumption)) | refine op_load_agg ?_ (hm := Sub.mem (by assumption) (by (repeat (apply List.mem_cons_of_mem)); assumption)) | refine op_loadH hG rfl ?_ | refine op_load_aggH hG rfl ?_); exact ⟨[], rfl, rfl, rfl⟩)
    · simp only [withD, nthD, Step2, nthDst, putO, postD]
      rintro _ _ g4 -
      (refine op_call ((qAdd _ _ _ _ 2 _ (by decide) (ql.mono fun e he => hG e (by simp [he])) (qr.mono fun e he => hG e (by simp [he]))).mono ?_); rintro w _ ⟨ex, rfl, hw⟩; exact ⟨ex, rfl, hw⟩)
    · simp only [withD, nthD, Step2, nthDst, putO, postD]
      rintro _ _ g7 -
      (refine op_call ((qShift _ _ 3 (-30) _ (by decide) (by decide) g7).mono ?_); rintro w _ ⟨ex, rfl, hw⟩; exact ⟨ex, rfl, hw⟩)
    · simp only [withD, nthD, Step2, nthDst, putO, postD]
      rintro _ _ g4 - _ _ g8 -
      (refine op_call ((qCmp _ _ _ _ 4 _ (by decide) g4 g8).mono ?_); rintro _ _ ⟨ex, rfl, rfl⟩; exact ⟨ex, rfl, rfl⟩)
    · simp only [withD, nthD, Step2, nthDst, putO, postD]
      rintro _ _ rfl -
      (refine op_icmp ?_; exact ⟨[], rfl, congrArg Value.bool hge, rfl⟩)
    · simp only [withD, nthD, Step2, nthDst, putO, postD]
      rintro _ _ rfl -
      (refine op_move ?_; exact ⟨[], rfl, rfl, rfl⟩)
    · simp only [withD, nthD, Step2, nthDst, putO, postD]
      (first | refine .inr ⟨_, rfl, rfl, [], rfl, rfl, rfl⟩ | refine .inl ⟨_, _, rfl, rfl, fun _ => ?_, fun h => absurd h (by first | decide | (refine ne_not ?_; assumption))⟩ | refine .inl ⟨_, _, rfl, rfl, (fun h => absurd h (by first | decide | (refine ne_not2 ?_; assumption))), fun _ => ⟨[], rfl, rfl, rfl⟩⟩)
      (all_goals (refine op_move ?_; exact ⟨[], rfl, rfl, rfl⟩))
    · simp only [withD, nthD, Step2, nthDst, putO, postD]
      (first | refine .inr ⟨_, rfl, rfl, [], rfl, rfl, rfl⟩ | refine .inl ⟨_, _, rfl, rfl, fun _ => ?_, fun h => absurd h (by first | decide | (refine ne_not ?_; assumption))⟩ | refine .inl ⟨_, _, rfl, rfl, (fun h => absurd h (by first | decide | (refine ne_not2 ?_; assumption))), fun _ => ⟨[], rfl, rfl, rfl⟩⟩)
      (all_goals (refine op_move ?_; exact ⟨[], rfl, rfl, rfl⟩))
    · simp only [withD, nthD, Step2, nthDst, putO, postD]
      (first | refine .inr ⟨_, rfl, rfl, [], rfl, rfl, rfl⟩ | refine .inl ⟨_, _, rfl, rfl, fun _ => ?_, fun h => absurd h (by first | decide | (refine ne_not ?_; assumption))⟩ | refine .inl ⟨_, _, rfl, rfl, (fun h => absurd h (by first | decide | (refine ne_not2 ?_; assumption))), fun _ => ⟨[], rfl, rfl, rfl⟩⟩)
      (all_goals (refine op_icmp ?_; exact ⟨[], rfl, rfl, rfl⟩))
    · simp only [withD, nthD, Step2, nthDst, putO, postD]
      ((first | refine op_pick_true ?_ | refine op_pick_false ?_ | refine op_pick_true' ?_ | refine op_pick_false' ?_); exact ⟨[], rfl, rfl, rfl⟩)
    simp only [FinalsD, nthDst, putO, List.drop_succ_cons, List.drop_zero]
    rintro _ _ _ _ _ _ _ _ _ _ ⟨rfl, g8, g7, g4, g3, -⟩
    try simp only [List.nil_append]
    rcases ht1 with rfl | rfl
    · skip
      repeat' first
        | refine tc_seq ?_ | refine tc_region ?_ | refine at_seq_normal ?_ | refine tl_nil ?_ | refine tl_cons ?_ | refine tl_cons_none ?_ | refine op_move ?_ | refine op_assign ?_ | refine op_fieldAddr ?_ | refine op_load ?_
        | refine op_load_agg ?_ | refine op_icmp ?_ | refine op_unop_not ?_ | refine op_pick_true ?_ | refine op_pick_false ?_ | refine op_pick_true' ?_ | refine op_pick_false' ?_ | (refine op_alloc ?_; intro _) | (refine op_box ?_; intro _) | (refine op_buildSlice ?_; intro _)
        | refine op_store0 ?_ | refine op_store1 ?_ | refine op_store2 ?_ | refine op_store3 ?_ | refine op_store4 ?_ | refine op_store5 ?_ | refine op_storeK rfl ?_ | refine op_loadK rfl ?_ | refine op_load_aggK rfl ?_ | refine tc_cond_t ?_
        | refine tc_cond_f ?_ | refine tc_cond (fun _ => ?_) (fun _ => ?_) | refine tc_skip ?_ | refine tc_ret ?_ | refine at_seq_ret ?_ | refine tl_guard_yes ?_ | refine tl_guard_no ?_ | refine tl_guard_yes' ?_ | refine tl_guard_no' ?_ | refine tl_guard_undef ?_
        | refine tl_guard_split (fun _ => ?_) (fun _ => ?_)
      all_goals exact ret_tmp (hG := by (repeat (first | exact List.Sublist.refl _ | apply List.Sublist.cons_cons | apply List.Sublist.cons | refine List.Sublist.trans ?_ (List.sublist_append_right _ _)))) (hk := ⟨rfl, rfl⟩)
    · have heq : icmp .eql (sgQ (C : Rat)) (sgQ (C : Rat)) = true := by simp [icmp]
      repeat' first
        | refine tc_seq ?_ | refine tc_region ?_ | refine at_seq_normal ?_ | refine tl_nil ?_ | refine tl_cons ?_ | refine tl_cons_none ?_ | refine op_move ?_ | refine op_assign ?_ | refine op_fieldAddr ?_ | refine op_load ?_
        | refine op_load_agg ?_ | refine op_icmp ?_ | refine op_unop_not ?_ | refine op_pick_true ?_ | refine op_pick_false ?_ | refine op_pick_true' ?_ | refine op_pick_false' ?_ | (refine op_alloc ?_; intro _) | (refine op_box ?_; intro _) | (refine op_buildSlice ?_; intro _)
        | refine op_store0 ?_ | refine op_store1 ?_ | refine op_store2 ?_ | refine op_store3 ?_ | refine op_store4 ?_ | refine op_store5 ?_ | refine op_storeK rfl ?_ | refine op_loadK rfl ?_ | refine op_load_aggK rfl ?_ | refine tc_cond_t ?_
        | refine tc_cond_f ?_ | refine tc_cond (fun _ => ?_) (fun _ => ?_) | refine tc_skip ?_ | refine tc_ret ?_ | refine at_seq_ret ?_ | refine tl_guard_yes ?_ | refine tl_guard_no ?_ | refine tl_guard_yes' ?_ | refine tl_guard_no' ?_ | refine tl_guard_undef ?_
        | refine tl_guard_split (fun _ => ?_) (fun _ => ?_)
      all_goals first | exact ret_tmp (hG := by (repeat (first | exact List.Sublist.refl _ | apply List.Sublist.cons_cons | apply List.Sublist.cons | refine List.Sublist.trans ?_ (List.sublist_append_right _ _)))) (hk := ⟨rfl, rfl⟩) | exact ret_tmp (hG := by (repeat (first | exact List.Sublist.refl _ | apply List.Sublist.cons_cons | apply List.Sublist.cons | refine List.Sublist.trans ?_ (List.sublist_append_right _ _)))) (hk := ⟨congrArg Value.bool heq, rfl⟩)
theorem laidE {W : World} (h : laidMetH Tryd.prog Rows.fnOrientationGreatRow.laid W) : Eps (all W) := by
  have h' : laidMet Tryd.prog Rows.fnOrientationGreatRow.laid W := h
  obtain ⟨ps, hv, _⟩ := h'
  exact laid_flt hv (n := "pub-orthodrome/pub/gogeom/bigxy.dpSafeEpsilon") (x := 4382569440205035030) (by simp [Rows.fnOrientationGreatRow, Rows.laid_pub_orthodrome_pub_gogeom_bigxy_dpSafeEpsilon]) (g := 1) (t := 22) (by kernel_rfl) (by kernel_rfl) Tryd.underlying22
theorem own : ownKnob Tryd.prog.godebug = none := by kernel_rfl
theorem laid : laidOutB Tryd.prog = true := by kernel_rfl
noncomputable def laidWorld (os : Os) : World := World.doorLaid Tryd.prog 400 os
theorem laid_met (os : Os) : laidMet Tryd.prog Rows.fnOrientationGreatRow.laid ((laidWorld os).forCall (fun _ _ => 0) ⟨#[], #[.agg #[.float .f64 0, .float .f64 0], .agg #[.float .f64 0, .float .f64 0], .agg #[.float .f64 0, .float .f64 0]], []⟩).memory :=
  laidMet_of_run' 8 (by kernel_rfl) (by kernel_rfl)
theorem reads (os : Os) {H : Type} (enc : TypeId × Value → H) : ∃ places, DataW.whole enc Tryd.prog ((laidWorld os).forCall (fun _ _ => 0) ⟨#[], #[.agg #[.float .f64 0, .float .f64 0], .agg #[.float .f64 0, .float .f64 0], .agg #[.float .f64 0, .float .f64 0]], []⟩).memory Tryd.f3.params.toList Rows.fnOrientationGreatSpec.vars false (#[.agg #[.float .f64 0, .float .f64 0], .agg #[.float .f64 0, .float .f64 0], .agg #[.float .f64 0, .float .f64 0]] : Array Value).toList 8 = some ([.agg [.lit (.float .f64 0), .lit (.float .f64 0)], .agg [.lit (.float .f64 0), .lit (.float .f64 0)], .agg [.lit (.float .f64 0), .lit (.float .f64 0)]], [], places) :=
  ⟨[], by kernel_rfl⟩
set_option maxRecDepth 100000 in
theorem lifted (os : Os) (started : os.Started) (H : Type) (enc : TypeId × Value → H) (F : Stop.Interp) :
    ReturnsInHanded {} Tryd.checked os 3 .any ((OpenSpec.ofChange Rows.fnOrientationGreatSpec).preRow enc Tryd.prog Tryd.f3 Rows.fnOrientationGreatRow.domain false Rows.fnOrientationGreatRow.laid) (((OpenSpec.ofChange Rows.fnOrientationGreatSpec).at F).post enc Tryd.prog Tryd.f3 false true false false) := by
  obtain ⟨places, hx⟩ := reads os enc
  refine returnsInHanded_of_row (C := Tryd.checked) (s := OpenSpec.ofChange Rows.fnOrientationGreatSpec) own started (by kernel_rfl) Tryd.func3
    (witness_row_at (enc := enc) (C := Tryd.checked) false (laidWorld os) #[.agg #[.float .f64 0, .float .f64 0], .agg #[.float .f64 0, .float .f64 0], .agg #[.float .f64 0, .float .f64 0]] rfl (by kernel_rfl) (by kernel_rfl) (by kernel_rfl)
      (OpenSpec.preRow_of_cond 8 hx (by kernel_rfl) (fun k hk => by cases hk) (by kernel_rfl) (laid_met os))) ?_
  intro W base args ds gs before hval0 hW _ hcond _ hL _ _
  have hval : ∀ (j : Nat) t v, Tryd.f3.params[j]? = some t → args[j]? = some v → Value.okWide Tryd.prog W .any base t v := hval0
  have hW' := hW
  obtain ⟨p, q, hA0, hV, rfl, hfz, hnd⟩ := hW'
  have hA : DataW.TrodAll enc Tryd.prog W 0 (fun _ => true) true Tryd.f3.params.toList args.toList ds p := hA0
  rw [Tryd.params3] at hA hval
  obtain ⟨v0, vs0, d0, ds0, p0, q0, hargs, rfl, rfl, h0, r0⟩ := trodAll_cons hA
  obtain ⟨v1, vs1, d1, ds1, p1, q1, rfl, rfl, rfl, h1, r1⟩ := trodAll_cons r0
  obtain ⟨v2, vs2, d2, ds2, p2, q2, rfl, rfl, rfl, h2, r2⟩ := trodAll_cons r1
  obtain ⟨rfl, rfl, rfl⟩ := trodAll_nil r2
  obtain rfl : args = #[v0, v1, v2] := by cases args; simp_all
  obtain ⟨rfl, rfl⟩ := trodVars_none hV
  obtain ⟨x0, y0, rfl, bx0, by0⟩ := open_p2 Tryd.underlying24 (by kernel_rfl) (by kernel_rfl) Tryd.underlying22 Tryd.underlying22 (hval 0 24 v0 rfl rfl) h0
  obtain ⟨x1, y1, rfl, bx1, by1⟩ := open_p2 Tryd.underlying24 (by kernel_rfl) (by kernel_rfl) Tryd.underlying22 Tryd.underlying22 (hval 1 24 v1 rfl rfl) h1
  obtain ⟨x2, y2, rfl, bx2, by2⟩ := open_p2 Tryd.underlying24 (by kernel_rfl) (by kernel_rfl) Tryd.underlying22 Tryd.underlying22 (hval 2 24 v2 rfl rfl) h2
  clear hA0 hval0
  refine (calls_of_does (law (H := all W) x0 y0 bx0 by0 x1 y1 bx1 by1 x2 y2 bx2 by2 (laidE hL)) (sees_all W)).mono fun e W' ⟨v, H', he, hs, hv, hH⟩ => ?_
  subst he
  subst hv
  subst hH
  exact ⟨_, rfl, post_law laid (of_decide_eq_true (by kernel_rfl)) rfl hW rfl rfl Tryd.underlying4 hs.below⟩
theorem said : Rows.FnOrientationGreatSaid :=
  OpenClaim.holds_of_cond 3 Tryd.f3 rfl rfl rfl rfl rfl rfl rfl ⟨rfl, rfl, rfl, rfl, rfl⟩ rfl rfl rfl rfl rfl (by kernel_rfl) Tryd.func3 (by kernel_rfl)
    (of_decide_eq_true (by kernel_rfl)) (by unfold Func.isWrapper; first | (rw [if_pos (by decide +kernel)]; kernel_rfl) | (rw [if_neg (by decide +kernel)]; exact ⟨rfl, rfl⟩))
    (fun os started H enc _ F => by rw [OpenClaim.pre_eq_preRow]; exact lifted os started H enc F)
theorem plain (f : FuncId) (fn : Func) (hf : Tryd.pinned.checked.prog.funcNamed "pub-orthodrome/laws.FnOrientationGreat" = some f) (hfn : Tryd.pinned.checked.prog.funcs[f]? = some fn) :
    false = Tryd.pinned.checked.prog.looks [] ∧ ∀ (j : Nat) t, fn.params[j]? = some t → Tryd.pinned.checked.prog.wantsStandIn t = false := by
  obtain rfl : f = 3 := Option.some.inj ((show Tryd.prog.funcNamed "pub-orthodrome/laws.FnOrientationGreat" = some 3 by kernel_rfl).symm.trans hf) |>.symm
  obtain rfl : fn = Tryd.f3 := (Option.some.inj (Tryd.func3.symm.trans hfn)).symm
  refine ⟨by kernel_rfl, fun j t ht => ?_⟩
  rw [Tryd.params3] at ht
  have hm := Array.mem_of_getElem? ht
  simp only [List.mem_toArray, List.mem_cons, List.not_mem_nil, or_false] at hm
  rcases hm with rfl | rfl | rfl
  · exact (show Tryd.prog.wantsStandIn 24 = false by kernel_rfl)
  · exact (show Tryd.prog.wantsStandIn 24 = false by kernel_rfl)
  · exact (show Tryd.prog.wantsStandIn 24 = false by kernel_rfl)
/-- The card. -/
theorem proved : Rows.FnOrientationGreatCardSaid :=
  Claim7.holds_tied_plain_at .later [] _ _ _ _ said (fun _ h => by cases h) (by kernel_rfl) (fun _ h => by cases h) fnOrientationGreat_row_tie rfl ⟨rfl, rfl⟩ (by kernel_rfl) rfl plain (by kernel_rfl)
#print axioms proved
end Go.Proofs.YtelhfcjchpdkiaaDoor.fnOrientationGreat
