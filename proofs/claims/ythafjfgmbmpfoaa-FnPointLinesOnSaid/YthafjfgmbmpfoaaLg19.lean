/-
  The call of a method of an interface value that holds a pointer; promoted methods shift the pointer. No conditions.
-/
import Derived.Test.YthafjfgmbmpfoaaLg8
set_option linter.unusedVariables false
set_option linter.unusedSimpArgs false
namespace Go.Lg
class MethP (P : Program) (t : TypeId) (name : String) (f : outParam FuncId) (o : outParam Nat) : Prop where
  eq : ∀ (k off : Nat) (args : Array Value) (w : World), (callMethod (.iface t (.pointer (some ⟨k, off, none⟩))) name args).run P w = .ok (.enter f (#[.pointer (some ⟨k, off + o, none⟩)] ++ args)) w
class AssertYes (P : Program) (t : TypeId) : Prop where
  eq : ∀ (v : Value) (w : World) (xt : TypeId), (Instr.typeAssert (.iface t v) xt t true).run P w = .ok (.tuple #[v, .bool true]) w
class AssertNo (P : Program) (dt t : TypeId) : Prop where
  eq : ∀ (v : Value) (w : World) (xt : TypeId), (Instr.typeAssert (.iface dt v) xt t true).run P w = .ok (.tuple #[.pointer none, .bool false]) w
section
variable {P : Program} {W : World} {n : Nat} {ds : List Deferred} {dst : Option Tmp} {ty : TypeId} {pos : String} {af : Array Edge} {g : Option (Nat × Bool)} {E : Env} {G : Heap} {K : Value → Heap → Prop}
theorem op_invokeP {x nm t f o k off args vs at'} [h : MethP P t nm f o] [Enters P f] (hd : Does P f (.pointer (some ⟨k, off + o, none⟩) :: vs) G K) (hx : evalE E x = some (.iface t (.pointer (some ⟨k, off, none⟩))) := by exact rfl) (hv : evalAll E args = some vs := by exact rfl) :
    OpT P W n ds ⟨dst, .call { callee := .invoke x nm, args := ⟨args⟩, argTypes := at' }, ty, pos, af, g⟩ E G K := by
  refine ⟨fun a' w next Q ho hs hn => ?_⟩
  have he : args.map a'.eval = vs := by
    clear hd hn
    induction args generalizing vs with
    | nil => simp [evalAll] at hv; simp [← hv]
    | cons x xs ih =>
      simp only [evalAll] at hv
      cases h1 : evalE E x with
      | none => simp [h1] at hv
      | some v =>
        cases h2 : evalAll E xs with
        | none => simp [h1, h2] at hv
        | some us =>
          simp [h1, h2] at hv
          subst hv
          simp [ho.eval h1, ih h2]
  have hr : (execOp a'.eval ⟨dst, .call { callee := .invoke x nm, args := ⟨args⟩, argTypes := at' }, ty, pos, af, g⟩).run P w = (callFunc f ⟨.pointer (some ⟨k, off + o, none⟩) :: vs⟩).run P w := by
    rw [run_callFunc]
    simp only [execOp, resolve, ho.eval hx, List.map_toArray, he]
    refine (sem_run_bind P _ _ w _ w rfl).trans ?_
    have e1 : invoke (.fn (.method nm) #[]) (#[.iface t (.pointer (some ⟨k, off, none⟩))] ++ vs.toArray) = callMethod (.iface t (.pointer (some ⟨k, off, none⟩))) nm ⟨vs⟩ := by
      simp [invoke]
    show (invoke (.fn (.method nm) #[]) (#[.iface t (.pointer (some ⟨k, off, none⟩))] ++ vs.toArray)).run P w = _
    rw [e1, h.eq k off ⟨vs⟩ w]
    simp
  rw [hr]
  exact hd.run W w hs _ a' next Q hn
theorem op_assertYes {t xt x v} [h : AssertYes P t] (hk : K (.tuple #[v, .bool true]) G) (hx : evalE E x = some (.iface t v) := by exact rfl) :
    OpT P W n ds ⟨dst, .typeAssert x xt t true, ty, pos, af, g⟩ E G K :=
  op_of_run (fun a w ho _ => by
    simp only [execOp, ho.eval hx]
    exact run_v (h.eq v w xt)) hk
theorem op_assertNo {t dt xt x v} [h : AssertNo P dt t] (hk : K (.tuple #[.pointer none, .bool false]) G) (hx : evalE E x = some (.iface dt v) := by exact rfl) :
    OpT P W n ds ⟨dst, .typeAssert x xt t true, ty, pos, af, g⟩ E G K :=
  op_of_run (fun a w ho _ => by
    simp only [execOp, ho.eval hx]
    exact run_v (h.eq v w xt)) hk
end
end Go.Lg
