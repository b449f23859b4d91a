/-
  The root of a number; whole numbers of any floats; calls of functions that are values. No conditions.
-/
import Derived.Test.YthafjfgmbmpfoaaFl6
import Derived.Test.YthafjfgmbmpfoaaLg12
set_option linter.unusedVariables false
set_option linter.unusedSimpArgs false
namespace Go.Lg
open Ieee

theorem does_sqrt {P : Program} {f : FuncId} {fn : Func} {H : Heap} {x : Nat}
    (hf : P.funcs[f]? = some fn) (hn : (fn.name == "runtime.NumGoroutine") = false) (hb : fn.body.isNone = true) (h1 : (Extern.findNext fn).isNone = true)
    (h2 : Extern.find fn = some Extern.MathSqrt.sqrt) : Does P f [.float .f64 x] H fun v H' => (∃ r, v = .float .f64 r ∧ SqrtR x r) ∧ H' = H := by
  refine does_extern hf hn hb h1 h2 fun W w hs => ?_
  have e : Extern.MathSqrt.sqrt ⟨[.float .f64 x]⟩ = (match FloatKind.f64.format.sqrt x with
    | some r => pure (.float .f64 r)
    | none => do pure (.float .f64 (← choose (.nanBits .f64 x x)))) := rfl
  rw [e]
  unfold SqrtR
  cases hd : double.sqrt x with
  | some r =>
    have : FloatKind.f64.format.sqrt x = some r := hd
    rw [this]
    exact ⟨_, w, rfl, hs, ⟨r, rfl, fun w' hw => by injection hw⟩, rfl⟩
  | none =>
    have : FloatKind.f64.format.sqrt x = none := hd
    rw [this]
    exact ⟨_, { w with drawn := w.drawn + 1 }, rfl, hs.drew _, ⟨_, rfl, fun w' hw => by cases hw⟩, rfl⟩

/-- What a conversion to a whole number gives. -/
def Cv (x : Nat) (n : Int) : Prop := (∀ m, floatToIntVal .f64 x .i64 = some m → n = m) ∧ -9223372036854775808 ≤ n ∧ n ≤ 9223372036854775807
theorem wrap_range (n : Int) : -9223372036854775808 ≤ IntKind.i64.wrap n ∧ IntKind.i64.wrap n ≤ 9223372036854775807 := by
  simp only [IntKind.wrap, IntKind.bits, IntKind.signed]
  simp
  split <;> omega

section ops
variable {P : Program} {W : World} {n : Nat} {ds : List Deferred} {E : Env} {G : Heap} {K : Value → Heap → Prop}
variable {dst : Option Tmp} {ty : TypeId} {pos : String} {af : Array Edge} {g : Option (Nat × Bool)}

theorem op_ftoiAny {src dt x b} [hs : Und P src (.float .f64)] [hd : Und P dt (.int .i64)] (hk : ∀ m, Cv b m → K (.int .i64 m) G) (hx : evalE E x = some (.float .f64 b) := by exact rfl) :
    OpT P W n ds ⟨dst, .convert src dt x, ty, pos, af, g⟩ E G K := by
  refine ⟨fun a w next Q ho hsw hn => ?_⟩
  cases hv : floatToIntVal .f64 b .i64 with
  | some m =>
    have hr : (execOp a.eval ⟨dst, .convert src dt x, ty, pos, af, g⟩).run P w = .ok (.value (.int .i64 m)) w := by
      simp only [execOp, ho.eval hx]
      exact run_v (run_convert_float_int w src dt .f64 .i64 b m (by rw [hs.eq]; rfl) hd.eq hv)
    rw [hr]
    refine hn _ _ _ hsw (hk m ⟨fun m' h => by rw [hv] at h; injection h, ?_⟩)
    have := floatToIntVal_wf hv
    simpa [Lit.wf, IntKind.min, IntKind.max, IntKind.signed, IntKind.bits] using this
  | none =>
    obtain ⟨v, w', hr, hs', h1⟩ : ∃ v w', (execOp a.eval ⟨dst, .convert src dt x, ty, pos, af, g⟩).run P w = .ok (.value (.int .i64 (IntKind.i64.wrap v))) w' ∧ Sees W G w' ∧ True := by
      have hc : Conv.floatToInt .f64 b .i64 = (do pure (.int .i64 (IntKind.i64.wrap (← choose (.floatToInt .f64 b .i64)))) : Sem Value) := by
        unfold floatToIntVal at hv
        unfold Conv.floatToInt
        cases hd2 : (FloatKind.decode .f64 b).toInt .zero with
        | none => rfl
        | some k =>
          rw [hd2] at hv
          simp only at hv ⊢
          by_cases hc : IntKind.i64.min ≤ k ∧ k ≤ IntKind.i64.max
          · rw [if_pos hc] at hv; cases hv
          · rw [if_neg hc]
      have hu1 : P.underlying src = some (.float .f64) := hs.eq
      refine ⟨(Question.floatToInt .f64 b .i64).cut (w.tape w.drawn (Question.floatToInt .f64 b .i64)), { w with drawn := w.drawn + 1 }, ?_, hsw.drew _, trivial⟩
      have hq : (Question.floatToInt .f64 b .i64).forced = false := rfl
      simp only [execOp, ho.eval hx]
      refine run_v ?_
      refine (sem_run_bind P _ _ w _ w (run_underlying (t := src) w)).trans ?_
      refine (sem_run_bind P _ _ w _ w (run_underlying (t := dt) w)).trans ?_
      show Sem.run P (Conv.floatToInt .f64 b .i64) w = _
      rw [hc]
      rfl
    rw [hr]
    exact hn _ _ _ hs' (hk _ ⟨fun m h => (by rw [hv] at h; cases h), wrap_range _⟩)

theorem op_callv {x f args vs at'} (h : Does P f vs G K) (hf : evalE E x = some (.func (.func f) #[] #[]) := by exact rfl) (hx : evalAll E args = some vs := by exact rfl) :
    OpT P W n ds ⟨dst, .call { callee := .value x, args := ⟨args⟩, argTypes := at' }, ty, pos, af, g⟩ E G K := by
  refine ⟨fun a w next Q ho hs hn => ?_⟩
  have he : args.map a.eval = vs := by
    clear h hn hf
    induction args generalizing vs with
    | nil => simp [evalAll] at hx; simp [← hx]
    | cons x xs ih =>
      simp only [evalAll] at hx
      cases h1 : evalE E x with
      | none => simp [h1] at hx
      | some v =>
        cases h2 : evalAll E xs with
        | none => simp [h1, h2] at hx
        | some us =>
          simp only [h1, h2, Option.some.injEq] at hx
          subst hx
          simp [ho.eval h1, ih h2]
  have hr : (execOp a.eval ⟨dst, .call { callee := .value x, args := ⟨args⟩, argTypes := at' }, ty, pos, af, g⟩).run P w = (callFunc f ⟨vs⟩).run P w := by
    simp only [execOp, resolve, ho.eval hf]
    refine (sem_run_bind P _ _ w _ w rfl).trans ?_
    simp [invoke, he]
  rw [hr]
  exact h.run W w hs _ a next Q hn
end ops
end Go.Lg
