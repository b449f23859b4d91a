/-
  Values of interfaces, in the small logic: made, called, asserted. No conditions.
-/
import Derived.Test.YthafjfgmbmpfoaaLg7
import Derived.Laws.Build
import Derived.Laws.Pointers
set_option linter.unusedVariables false
set_option linter.unusedSimpArgs false
namespace Go.Lg

/-- The method of a value's dynamic type t, a slice type: function f with the value as receiver. -/
class MethSl (P : Program) (t : TypeId) (name : String) (f : outParam FuncId) : Prop where
  eq : ∀ (a : Option Addr) (l c : Nat) (args : Array Value) (w : World), (callMethod (.iface t (.slice a l c)) name args).run P w = .ok (.enter f (#[.slice a l c] ++ args)) w
  no : ∀ (a : Option Addr) (l c : Nat) (w : World), (nilAhead (P.types.size + Made.depth) t (.slice a l c) name).run P w = .ok (some false) w
class Conc (P : Program) (t : TypeId) : Prop where
  eq : P.concrete t = true
class NotIface (P : Program) (t : TypeId) : Prop where
  eq : ∀ (x : Value) (v : Value) (w : World) (xt : TypeId), (Instr.typeAssert (.iface t v) xt t false).run P w = .ok v w

section
variable {P : Program} {W : World} {n : Nat} {ds : List Deferred} {dst : Option Tmp} {ty : TypeId} {pos : String} {af : Array Edge} {g : Option (Nat × Bool)} {E : Env} {G : Heap} {K : Value → Heap → Prop}

theorem op_makeInterface {t x v} [h : Conc P t] (hk : K (.iface t v) G) (hx : evalE E x = some v := by exact rfl) :
    OpT P W n ds ⟨dst, .makeInterface t x, ty, pos, af, g⟩ E G K :=
  op_of_run (fun a w ho _ => by
    simp only [execOp, ho.eval hx]
    exact run_v (run_makeInterface w t v h.eq)) hk

theorem op_typeAssert {t xt x v} [h : NotIface P t] (hk : K v G) (hx : evalE E x = some (.iface t v) := by exact rfl) :
    OpT P W n ds ⟨dst, .typeAssert x xt t false, ty, pos, af, g⟩ E G K :=
  op_of_run (fun a w ho _ => by
    simp only [execOp, ho.eval hx]
    exact run_v (h.eq v v w xt)) hk

theorem op_ptr_nil {t t2 x p e} [h : Und P t (.pointer e)] (hk : K (.bool p.isNone) G) (hx : evalE E x = some (.pointer p) := by exact rfl) :
    OpT P W n ds ⟨dst, .binOp .eql t x (.const (.pointer none)) t2, ty, pos, af, g⟩ E G K :=
  op_of_run (fun a w ho _ => by
    simp only [execOp, ho.eval hx]
    refine run_v ?_
    refine (sem_run_bind P _ _ w () w rfl).trans ?_
    have : P.pointee t = e := by
      have := h.eq
      unfold Program.underlying at this
      simp [Program.pointee, Program.underlying, h.eq, this]
    exact run_eql_pointer_nil w t p (by rw [this]; exact h.eq)) hk

theorem op_nilCheck_ptr {x a} (hk : K (.pointer (some a)) G) (hx : evalE E x = some (.pointer (some a)) := by exact rfl) :
    OpT P W n ds ⟨dst, .nilCheck x, ty, pos, af, g⟩ E G K :=
  op_of_run (fun a w ho _ => by
    simp only [execOp, ho.eval hx]
    rfl) hk

theorem op_makeMeth {nm : String} {x v} (hk : K (.func (.method nm) #[v] #[]) G) (hx : evalE E x = some v := by exact rfl) :
    OpT P W n ds ⟨dst, .makeFunc (.method nm) #[x] #[], ty, pos, af, g⟩ E G K :=
  op_of_run (fun a w ho _ => by
    simp only [execOp, List.map_toArray, List.map_cons, List.map_nil, ho.eval hx]
    rfl) hk

theorem op_nilCheck_meth {x nm t f a l c} [h : MethSl P t nm f] (hk : K (.func (.method nm) #[.iface t (.slice a l c)] #[]) G) (hx : evalE E x = some (.func (.method nm) #[.iface t (.slice a l c)] #[]) := by exact rfl) :
    OpT P W n ds ⟨dst, .nilCheck x, ty, pos, af, g⟩ E G K :=
  op_of_run (fun a' w ho _ => by
    simp only [execOp, ho.eval hx]
    refine (sem_run_bind P _ _ w P w rfl).trans ?_
    refine (sem_run_bind P _ _ w (some false) w (h.no a l c w)).trans ?_
    rfl) hk

theorem op_invoke {x nm t f a l c args vs at'} [h : MethSl P t nm f] [Enters P f] (hd : Does P f (.slice a l c :: vs) G K) (hx : evalE E x = some (.iface t (.slice a l c)) := by exact rfl) (hv : evalAll E args = some vs := by exact rfl) :
    OpT P W n ds ⟨dst, .call { callee := .invoke x nm, args := ⟨args⟩, argTypes := at' }, ty, pos, af, g⟩ E G K := by
  refine ⟨fun a' w next Q ho hs hn => ?_⟩
  have he : args.map a'.eval = vs := by
    clear hd hn
    induction args generalizing vs with
    | nil => simp [evalAll] at hv; simp [← hv]
    | cons x xs ih =>
      simp only [evalAll] at hv
      cases h1 : evalE E x with
      | none => simp [h1] at hv
      | some v =>
        cases h2 : evalAll E xs with
        | none => simp [h1, h2] at hv
        | some us =>
          simp [h1, h2] at hv
          subst hv
          simp [ho.eval h1, ih h2]
  have hr : (execOp a'.eval ⟨dst, .call { callee := .invoke x nm, args := ⟨args⟩, argTypes := at' }, ty, pos, af, g⟩).run P w = (callFunc f ⟨.slice a l c :: vs⟩).run P w := by
    rw [run_callFunc]
    simp only [execOp, resolve, ho.eval hx, List.map_toArray, he]
    refine (sem_run_bind P _ _ w _ w rfl).trans ?_
    have e1 : invoke (.fn (.method nm) #[]) (#[.iface t (.slice a l c)] ++ vs.toArray) = callMethod (.iface t (.slice a l c)) nm ⟨vs⟩ := by
      simp [invoke]
    show (invoke (.fn (.method nm) #[]) (#[.iface t (.slice a l c)] ++ vs.toArray)).run P w = _
    rw [e1, h.eq a l c ⟨vs⟩ w]
    simp
  rw [hr]
  exact hd.run W w hs _ a' next Q hn
end
end Go.Lg
