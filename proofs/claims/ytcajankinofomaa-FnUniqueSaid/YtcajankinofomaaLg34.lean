/-
  Methods of whole numbers behind an interface. No conditions.
-/
import Derived.Test.YtcajankinofomaaLg21
set_option linter.unusedVariables false
set_option linter.unusedSimpArgs false
namespace Go.Lg
class MethI (P : Program) (t : TypeId) (name : String) (f : outParam FuncId) : Prop where
  eq : ∀ (m : Int) (args : Array Value) (w : World), (callMethod (.iface t (.int .i64 m)) name args).run P w = .ok (.enter f (#[.int .i64 m] ++ args)) w
section
variable {P : Program} {W : World} {n : Nat} {ds : List Deferred} {dst : Option Tmp} {ty : TypeId} {pos : String} {af : Array Edge} {g : Option (Nat × Bool)} {E : Env} {G : Heap} {K : Value → Heap → Prop}
theorem op_invokeI {x nm t f m args vs at'} [h : MethI P t nm f] [Enters P f] (hd : Does P f (.int .i64 m :: vs) G K) (hx : evalE E x = some (.iface t (.int .i64 m)) := by exact rfl) (hv : evalAll E args = some vs := by exact rfl) :
    OpT P W n ds ⟨dst, .call { callee := .invoke x nm, args := ⟨args⟩, argTypes := at' }, ty, pos, af, g⟩ E G K := by
  refine ⟨fun a' w next Q ho hs hn => ?_⟩
  have he : args.map a'.eval = vs := by
    clear hd hn
    induction args generalizing vs with
    | nil => simp [evalAll] at hv; simp [← hv]
    | cons x xs ih =>
      simp only [evalAll] at hv
      cases h1 : evalE E x with
      | none => simp [h1] at hv
      | some v =>
        cases h2 : evalAll E xs with
        | none => simp [h1, h2] at hv
        | some us =>
          simp [h1, h2] at hv
          subst hv
          simp [ho.eval h1, ih h2]
  have hr : (execOp a'.eval ⟨dst, .call { callee := .invoke x nm, args := ⟨args⟩, argTypes := at' }, ty, pos, af, g⟩).run P w = (callFunc f ⟨.int .i64 m :: vs⟩).run P w := by
    rw [run_callFunc]
    simp only [execOp, resolve, ho.eval hx, List.map_toArray, he]
    refine (sem_run_bind P _ _ w _ w rfl).trans ?_
    have e1 : invoke (.fn (.method nm) #[]) (#[.iface t (.int .i64 m)] ++ vs.toArray) = callMethod (.iface t (.int .i64 m)) nm ⟨vs⟩ := by
      simp [invoke]
    show (invoke (.fn (.method nm) #[]) (#[.iface t (.int .i64 m)] ++ vs.toArray)).run P w = _
    rw [e1, h.eq m ⟨vs⟩ w]
    simp
  rw [hr]
  exact hd.run W w hs _ a' next Q hn

theorem op_nilCheck_iface {x tt v} (hk : K (.iface tt v) G) (hx : evalE E x = some (.iface tt v) := by exact rfl) :
    OpT P W n ds ⟨dst, .nilCheck x, ty, pos, af, g⟩ E G K :=
  op_of_run (fun a w ho _ => by
    simp only [execOp, ho.eval hx]
    rfl) hk
end
end Go.Lg
