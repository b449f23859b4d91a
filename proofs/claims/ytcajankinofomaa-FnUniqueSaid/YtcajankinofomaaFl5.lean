/-
  Floats that are not NaN, infinities among them, by a rational key. No conditions.
-/
import Derived.Test.YtcajankinofomaaLg6
set_option linter.unusedVariables false
set_option linter.unusedSimpArgs false
namespace Go.Lg
open Ieee

/-- The key of a word: its value; of an infinity a number beyond all values. -/
def Kx (x : Nat) (q : Rat) : Prop := Fv x q ∨ ∃ s, double.read x = .infinity s ∧ q = sgn s * p2 2000

theorem read_bound {x : Nat} {s m e} (h : double.read x = .number s m e) : (m : Rat) * p2 e < p2 2000 := by
  have hb : double.binade = 4503599627370496 := rfl
  have hi : double.infRung = 9218868437227405312 := rfl
  have hw : double.signWeight = 9223372036854775808 := rfl
  have hl : double.leastPlace = -1074 := rfl
  have key : m < 2 ^ 53 ∧ e ≤ 1000 := by
    simp only [Format.read, hb, hi, hw, hl] at h
    split at h
    · cases h; omega
    · split at h
      · cases h
        omega
      · split at h <;> cases h
  have h1 : (m : Rat) ≤ p2 53 := by
    rw [show (53 : Int) = ((53 : Nat) : Int) from rfl, p2_nat]
    exact_mod_cast (show m ≤ 2 ^ 53 by omega)
  have h2 : p2 e ≤ p2 1000 := p2_le key.2
  have h3 := mul_le h1 (Rat.le_of_lt (p2_pos e))
  have h4 : p2 53 * p2 e = p2 (53 + e) := (p2_add _ _).symm
  have h5 : p2 (53 + e) < p2 2000 := p2_lt (by omega)
  grind

theorem fv_bound {x : Nat} {q : Rat} (h : Fv x q) : q < p2 2000 ∧ -p2 2000 < q := by
  obtain ⟨s, m, e, hx, rfl⟩ := h
  have h1 := read_bound hx
  have h0 : 0 ≤ (m : Rat) * p2 e := Rat.mul_nonneg (by exact_mod_cast Nat.zero_le m) (Rat.le_of_lt (p2_pos _))
  have h2 := p2_pos 2000
  cases s <;> (unfold sgn; constructor <;> grind)

theorem order_kx {x y : Nat} {a b : Rat} (ha : Kx x a) (hb : Kx y b) : double.order x y = some (if a < b then .lt else if a = b then .eq else .gt) := by
  have hp := p2_pos 2000
  rcases ha with ha | ⟨s, hx, rfl⟩
  · rcases hb with hb | ⟨t, hy, rfl⟩
    · exact order_val ha hb
    · have hbd := fv_bound ha
      obtain ⟨s, m, e, hx, _⟩ := ha
      have ho : double.order x y = some (if t = true then .gt else .lt) := by show (double.read x).order (double.read y) = _; rw [hx, hy]; rfl
      rw [ho]
      cases t with
      | true =>
        have e1 : ¬ a < sgn true * p2 2000 := by unfold sgn; grind
        have e2 : ¬ a = sgn true * p2 2000 := by unfold sgn; grind
        simp [e1, e2]
      | false =>
        have e1 : a < sgn false * p2 2000 := by unfold sgn; grind
        simp [e1]
  · rcases hb with hb | ⟨t, hy, rfl⟩
    · have hbd := fv_bound hb
      obtain ⟨t, m, e, hy, _⟩ := hb
      have ho : double.order x y = some (if s = true then .lt else .gt) := by show (double.read x).order (double.read y) = _; rw [hx, hy]; rfl
      rw [ho]
      cases s with
      | true =>
        have e1 : sgn true * p2 2000 < b := by unfold sgn; grind
        simp [e1]
      | false =>
        have e1 : ¬ sgn false * p2 2000 < b := by unfold sgn; grind
        have e2 : ¬ sgn false * p2 2000 = b := by unfold sgn; grind
        simp [e1, e2]
    · have ho : double.order x y = some (compare t.toNat s.toNat) := by show (double.read x).order (double.read y) = _; rw [hx, hy]; rfl
      rw [ho]
      cases s <;> cases t
      · have e1 : ¬ sgn false * p2 2000 < sgn false * p2 2000 := by grind
        simp [e1]
      · have e1 : ¬ sgn false * p2 2000 < sgn true * p2 2000 := by unfold sgn; grind
        have e2 : ¬ sgn false * p2 2000 = sgn true * p2 2000 := by unfold sgn; grind
        simp only [e1, e2, if_false]; rfl
      · have e1 : sgn true * p2 2000 < sgn false * p2 2000 := by unfold sgn; grind
        simp only [e1, if_true]; rfl
      · have e1 : ¬ sgn true * p2 2000 < sgn true * p2 2000 := by grind
        simp [e1]

theorem kx_of_eql {x : Nat} (h : fcmp .eql x x = true) : ∃ q, Kx x q := by
  cases hx : double.read x with
  | number s m e => exact ⟨_, .inl ⟨s, m, e, hx, rfl⟩⟩
  | infinity s => exact ⟨_, .inr ⟨s, hx, rfl⟩⟩
  | nan s t => simp [fcmp_def, fcmp0, Format.order, hx, Datum.order] at h

section cmp
variable {x y : Nat} {a b : Rat} (ha : Kx x a) (hb : Kx y b)
include ha hb
theorem kcmp_lss : fcmp .lss x y = decide (a < b) := by
  simp only [fcmp_def, fcmp0, order_kx ha hb]
  by_cases h : a < b
  · simp [h]
  · by_cases h' : a = b <;> simp [h, h']
theorem kcmp_gtr : fcmp .gtr x y = decide (b < a) := by
  simp only [fcmp_def, fcmp0, order_kx ha hb]
  by_cases h : a < b
  · have : ¬ b < a := by grind
    simp [h, this]
  · by_cases h' : a = b
    · subst h'; simp [h]
    · have : b < a := by grind
      simp [h, h', this]
theorem kcmp_eql : fcmp .eql x y = decide (a = b) := by
  simp only [fcmp_def, fcmp0, order_kx ha hb]
  by_cases h : a < b
  · have : ¬ a = b := by grind
    simp [h, this]
  · by_cases h' : a = b <;> simp [h, h']
theorem kcmp_neq : fcmp .neq x y = !decide (a = b) := by
  simp only [fcmp_def, fcmp0, order_kx ha hb]
  by_cases h : a < b
  · have : ¬ a = b := by grind
    simp [h, this]
  · by_cases h' : a = b <;> simp [h, h']
end cmp

section
variable {P : Program} {W : World} {n : Nat} {ds : List Deferred} {dst : Option Tmp} {ty : TypeId} {pos : String} {af : Array Edge} {g : Option (Nat × Bool)} {E : Env} {G : Heap} {K : Value → Heap → Prop}

theorem op_kmax {x y tx t2 u v} {a b : Rat} (hk : ∀ r, Kx r (rmax a b) → K (.float .f64 r) G) (hx : evalE E x = some (.float .f64 u) := by exact rfl) (hy : evalE E y = some (.float .f64 v) := by exact rfl) (ha : Kx u a := by assumption) (hb : Kx v b := by assumption) :
    OpT P W n ds ⟨dst, .call { callee := .builtin .max, args := #[x, y], argTypes := #[tx, t2] }, ty, pos, af, g⟩ E G K := by
  have ho := order_kx ha hb
  have key : ∃ r, Kx r (rmax a b) ∧ ∀ w : World, (Builtin.max_ #[tx, t2] ty #[.float .f64 u, .float .f64 v]).run P w = .ok (.float .f64 r) w := by
    have ho' : FloatKind.f64.format.order u v = double.order u v := rfl
    unfold rmax
    by_cases h1 : a < b
    · rw [if_pos h1] at ho ⊢
      exact ⟨v, hb, fun w => by simp [Builtin.max_, Builtin.max2, ho', ho]⟩
    · rw [if_neg h1] at ho ⊢
      by_cases h2 : a = b
      · subst h2
        rw [if_pos rfl] at ho
        refine ⟨if (FloatKind.f64.decode u).neg then v else u, ?_, fun w => by simp [Builtin.max_, Builtin.max2, ho', ho]⟩
        split
        · exact hb
        · exact ha
      · rw [if_neg h2] at ho
        exact ⟨u, ha, fun w => by simp [Builtin.max_, Builtin.max2, ho', ho]⟩
  obtain ⟨r, hr, hrun⟩ := key
  exact op_of_run (fun a' w ho _ => by
    simp only [execOp, resolve, invoke]
    refine (sem_run_bind P _ _ w _ w rfl).trans ?_
    refine run_v ?_
    simp only [List.map_toArray, List.map_cons, List.map_nil, ho.eval hx, ho.eval hy]
    exact hrun w) (hk r hr)
end
end Go.Lg
