/-
  An empty slice of its own, and a field of a struct value. No conditions.
-/
import Derived.Test.YthafjfgmbmpfoaaLg10
set_option linter.unusedVariables false
set_option linter.unusedSimpArgs false
namespace Go.Lg
section ops
variable {P : Program} {W : World} {n : Nat} {ds : List Deferred} {E : Env} {G : Heap} {K : Value → Heap → Prop}
variable {dst : Option Tmp} {ty : TypeId} {pos : String} {af : Array Edge} {g : Option (Nat × Bool)}

theorem op_buildSlice0 {t e s b z} [Und P t (.slice e)] [hI : Inf P e s b z] (hk : ∀ k, K (.slice (some ⟨k, 0, none⟩) 0 0) ((k, .cells ⟨[]⟩ e (0, 0)) :: G)) : OpT P W n ds ⟨dst, .buildSlice t 0 #[], ty, pos, af, g⟩ E G K := by
  refine op_new (o := .cells ⟨[]⟩ e (0, 0)) (val := fun k => .slice (some ⟨k, 0, none⟩) 0 0) (fun a w ho _ => ?_) hk
  simp only [execOp]
  refine run_v ?_
  simp only [Instr.buildSlice]
  refine (sem_run_bind P _ _ w _ w (run_underlying (t := t) w)).trans ?_
  refine (sem_run_bind P _ _ w s w (run_sizeOf w)).trans ?_
  rw [if_neg (by omega), if_pos (by omega)]
  refine (sem_run_bind P _ _ w _ w rfl).trans ?_
  have : (Array.range (0 * s)).map (fun i => (#[] : Array Value)[i % (#[] : Array Value).size]!) = #[] := by simp
  rw [this]
  have h2 : Instr.fill (fun i => some (i * s, s)) #[] (Array.map (fun x : Nat × Operand => (x.1, a.eval x.2)) #[]).toList = some #[] := by
    rw [show (Array.map (fun x : Nat × Operand => (x.1, a.eval x.2)) #[]) = #[] from by simp]; rfl
  rw [h2]
  rfl
theorem op_field {t fs i x cs T d v} {f : Field} [hU : Und P t (.struct ⟨fs⟩)] [hT : Und P T d] (hk : K v G) (hx : evalE E x = some (.agg ⟨cs⟩) := by exact rfl) (hf : fs[i]? = some f := by exact rfl)
    (ht : f.type = T := by exact rfl) (hd : TypeDesc.isAgg d = false := by exact rfl) (hv : cs[f.offset]? = some v := by exact rfl) : OpT P W n ds ⟨dst, .field t x i, ty, pos, af, g⟩ E G K :=
  op_of_run (fun a w ho _ => by
    simp only [execOp, ho.eval hx]
    refine run_v ?_
    simp only [Instr.field]
    refine (sem_run_bind P _ _ w _ w (run_underlying (t := t) w)).trans ?_
    simp only [List.getElem?_toArray, hf]
    refine (sem_run_bind P _ _ w _ w rfl).trans ?_
    simp only [part, ht]
    refine (sem_run_bind P _ _ w _ w (run_isAgg (t := T) w)).trans ?_
    rw [hd]
    simp only [List.getElem?_toArray, hv]
    rfl) hk
end ops
end Go.Lg
