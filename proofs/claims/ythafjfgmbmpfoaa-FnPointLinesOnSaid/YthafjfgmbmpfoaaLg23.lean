/-
  Arrays: an element's address, the whole as a slice, a slice as an array; calls of function literals that capture. No conditions.
-/
import Derived.Test.YthafjfgmbmpfoaaLg22
import Derived.Test.YthafjfgmbmpfoaaLg13
set_option linter.unusedVariables false
set_option linter.unusedSimpArgs false
namespace Go.Lg
section
variable {P : Program} {W : World} {n : Nat} {ds : List Deferred} {dst : Option Tmp} {ty : TypeId} {pos : String} {af : Array Edge} {g : Option (Nat × Bool)} {E : Env} {G : Heap} {K : Value → Heap → Prop}
theorem op_indexArr {t e s b z m x y k off kk} {i : Int} [Und P t (.array m e)] [Inf P e s b z] (hk : K (.pointer (some ⟨k, off + i.toNat * s, none⟩)) G) (hx : evalE E x = some (.pointer (some ⟨k, off, none⟩)) := by exact rfl) (hy : evalE E y = some (.int kk i) := by exact rfl) (hi : 0 ≤ i ∧ i < (m : Int) := by first | assumption | decide | omega) :
    OpT P W n ds ⟨dst, .indexAddr t x y, ty, pos, af, g⟩ E G K :=
  op_of_run (fun a w ho hs => by
    simp only [execOp, ho.eval hx, ho.eval hy]
    refine run_v ?_
    refine (sem_run_bind P _ _ w _ w rfl).trans ?_
    refine (sem_run_bind P _ _ w _ w (run_underlying (t := t) w)).trans ?_
    refine (sem_run_bind P _ _ w _ w rfl).trans ?_
    refine (sem_run_bind P _ _ w _ w (run_underlying (t := t) w)).trans ?_
    simp only []
    rw [if_pos hi]
    refine (sem_run_bind P _ _ w s w (run_sizeOf w)).trans ?_
    rw [addr_add]; rfl) hk
theorem op_slice_arr {t e s b z m x k off} [Und P t (.array m e)] [Inf P e s b z] (hk : K (.slice (some ⟨k, off, none⟩) m m) G) (hx : evalE E x = some (.pointer (some ⟨k, off, none⟩)) := by exact rfl) :
    OpT P W n ds ⟨dst, .slice t x none none none, ty, pos, af, g⟩ E G K :=
  op_of_run (fun a w ho hs => by
    simp only [execOp, ho.eval hx, Option.map_none]
    refine run_v ?_
    refine (sem_run_bind P _ _ w _ w (run_underlying (t := t) w)).trans ?_
    refine (sem_run_bind P _ _ w _ w rfl).trans ?_
    refine (sem_run_bind P _ _ w (0, m, m) w (by simp [Instr.sliceBounds, go_sem])).trans ?_
    refine (sem_run_bind P _ _ w s w (run_sizeOf w)).trans ?_
    by_cases h : m = 0
    · subst h; rfl
    · simp [h, addr_add]) hk
theorem op_arrayAt {t e m x a c len} [Und P t (.array m e)] (hk : K (.pointer a) G) (hx : evalE E x = some (.slice a len c) := by exact rfl) (hl : ¬ len < m := by first | decide | omega) :
    OpT P W n ds ⟨dst, .sliceToArrayPointer t x, ty, pos, af, g⟩ E G K :=
  op_of_run (fun a w ho hs => by
    simp only [execOp, ho.eval hx]
    refine run_v ?_
    refine (sem_run_bind P _ _ w _ w (run_underlying (t := t) w)).trans ?_
    simp only []
    rw [if_neg hl]; rfl) hk
/-- A call of a function literal with what it captured. -/
theorem op_callcap {x f cs args vs at'} [hE : Enters P f] (h : Does P f (vs ++ cs) G K) (hf : evalE E x = some (.func (.func f) #[] ⟨cs⟩) := by exact rfl) (hx : evalAll E args = some vs := by exact rfl) :
    OpT P W n ds ⟨dst, .call { callee := .value x, args := ⟨args⟩, argTypes := at' }, ty, pos, af, g⟩ E G K := by
  refine ⟨fun a' w next Q ho hs hn => ?_⟩
  have he : args.map a'.eval = vs := by
    clear h hn
    induction args generalizing vs with
    | nil => simp [evalAll] at hx; simp [← hx]
    | cons x xs ih =>
      simp only [evalAll] at hx
      cases h1 : evalE E x with
      | none => simp [h1] at hx
      | some v =>
        cases h2 : evalAll E xs with
        | none => simp [h1, h2] at hx
        | some us =>
          simp [h1, h2] at hx
          subst hx
          simp [ho.eval h1, ih h2]
  have hr : (execOp a'.eval ⟨dst, .call { callee := .value x, args := ⟨args⟩, argTypes := at' }, ty, pos, af, g⟩).run P w = (callFunc f ⟨vs ++ cs⟩).run P w := by
    simp only [execOp, resolve, ho.eval hf, List.map_toArray, he]
    refine (sem_run_bind P _ _ w ⟨.fn (.func f) ⟨cs⟩, ⟨vs⟩⟩ w (by simp [Deferred.ofValue])).trans ?_
    simp [invoke]
  rw [hr]
  exact h.run W w hs _ a' next Q hn
end
end Go.Lg
