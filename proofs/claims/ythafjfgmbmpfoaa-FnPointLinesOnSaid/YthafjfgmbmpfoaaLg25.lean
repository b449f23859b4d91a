/-
  A value of an array type, built of its parts. No conditions.
-/
import Derived.Test.YthafjfgmbmpfoaaLg23
set_option linter.unusedVariables false
set_option linter.unusedSimpArgs false
namespace Go.Lg
section
variable {P : Program} {W : World} {n : Nat} {ds : List Deferred} {dst : Option Tmp} {ty : TypeId} {pos : String} {af : Array Edge} {g : Option (Nat × Bool)} {E : Env} {G : Heap} {K : Value → Heap → Prop}
theorem op_buildArr {t e m se be ze s b z ps vs l l'} [Und P t (.array m e)] [Inf P e se be ze] [Inf P t s b z] (hk : K (.agg ⟨l'⟩) G) (hps : partsE E ps = some vs := by exact rfl) (hf : fillL (fun i => some (i * se, se)) z vs = some l := by exact rfl) (hnew : l = l' := by exact rfl) :
    OpT P W n ds ⟨dst, .build t ⟨ps⟩, ty, pos, af, g⟩ E G K :=
  op_of_run (fun a w ho _ => by
    simp only [execOp]
    refine run_v ?_
    obtain ⟨v, hc, hr⟩ := run_zeroValue (P := P) (t := t) w
    simp only [Instr.build]
    refine (sem_run_bind P _ _ w v w hr).trans ?_
    refine (sem_run_bind P _ _ w _ w (run_underlying (t := t) w)).trans ?_
    simp only []
    refine (sem_run_bind P _ _ w se w (run_sizeOf w)).trans ?_
    have hpv := ho.parts hps
    have hfl : Instr.fill (fun i => some (i * se, se)) v.cells ((⟨ps⟩ : Array (Nat × Operand)).map (fun (x : Nat × Operand) => (x.1, a.eval x.2))).toList = some ⟨l⟩ := by
      rw [hc]
      simp only [Array.toList_map, hpv]
      rw [fill_eq, hf]; rfl
    rw [hfl]; rfl) (hnew ▸ hk)
end
end Go.Lg
