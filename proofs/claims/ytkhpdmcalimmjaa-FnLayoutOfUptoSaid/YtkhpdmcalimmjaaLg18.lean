/-
  The address of a field, as a pure operation of a drawn region. No conditions.
-/
import Derived.Test.YtkhpdmcalimmjaaLg12
set_option linter.unusedVariables false
set_option linter.unusedSimpArgs false
namespace Go.Lg
section
variable {P : Program} {n : Nat} {ds : List Deferred} {E : Env}
variable {dst : Option Tmp} {g : Option (Nat × Bool)} {ty pos af}
theorem y_fieldAddr {t i x k off o} [hf : FieldAt P t i o] (hx : evalE E x = some (.pointer (some ⟨k, off, none⟩)) := by exact rfl) :
    YT P n ds ⟨dst, .fieldAddr t x i, ty, pos, af, g⟩ E (.pointer (some ⟨k, off + o, none⟩)) := y_of fun a w ho => by
  obtain ⟨fs, f, j, h1, h2, h3, h4, h5⟩ := hf.eq
  simp only [execOp, ho.eval hx]
  refine run_v ?_
  haveI : Und P t (.struct fs) := ⟨h1⟩
  refine (sem_run_bind P _ _ w _ w (run_underlying (t := t) w)).trans ?_
  simp only [h2]
  refine (sem_run_bind P _ _ w ⟨k, off, none⟩ w rfl).trans ?_
  refine (sem_run_bind P _ _ w ⟨k, off + o, none⟩ w ?_).trans rfl
  refine (sem_run_bind P _ _ w j.size w ((sem_run_bind P _ _ w j w (run_typeInfo h4 w)).trans rfl)).trans ?_
  rw [if_neg h5, h3, addr_add]; rfl
end
end Go.Lg
