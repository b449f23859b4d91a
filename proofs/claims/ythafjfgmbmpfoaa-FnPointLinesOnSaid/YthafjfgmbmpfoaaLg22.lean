/-
  Methods of structs behind interfaces; a block brought to the front of the memory. No conditions.
-/
import Derived.Test.YthafjfgmbmpfoaaLg21
set_option linter.unusedVariables false
set_option linter.unusedSimpArgs false
namespace Go.Lg
class MethA (P : Program) (t : TypeId) (name : String) (f : outParam FuncId) : Prop where
  eq : ∀ (cs : List Value) (args : Array Value) (w : World), (callMethod (.iface t (.agg ⟨cs⟩)) name args).run P w = .ok (.enter f (#[.agg ⟨cs⟩] ++ args)) w
section
variable {P : Program} {W : World} {n : Nat} {ds : List Deferred} {dst : Option Tmp} {ty : TypeId} {pos : String} {af : Array Edge} {g : Option (Nat × Bool)} {E : Env} {G : Heap} {K : Value → Heap → Prop}
theorem op_invokeA {x nm t f cs args vs at'} [h : MethA P t nm f] [Enters P f] (hd : Does P f (.agg ⟨cs⟩ :: vs) G K) (hx : evalE E x = some (.iface t (.agg ⟨cs⟩)) := by exact rfl) (hv : evalAll E args = some vs := by exact rfl) :
    OpT P W n ds ⟨dst, .call { callee := .invoke x nm, args := ⟨args⟩, argTypes := at' }, ty, pos, af, g⟩ E G K := by
  refine ⟨fun a' w next Q ho hs hn => ?_⟩
  have he : args.map a'.eval = vs := by
    clear hd hn
    induction args generalizing vs with
    | nil => simp [evalAll] at hv; simp [← hv]
    | cons x xs ih =>
      simp only [evalAll] at hv
      cases h1 : evalE E x with
      | none => simp [h1] at hv
      | some v =>
        cases h2 : evalAll E xs with
        | none => simp [h1, h2] at hv
        | some us =>
          simp [h1, h2] at hv
          subst hv
          simp [ho.eval h1, ih h2]
  have hr : (execOp a'.eval ⟨dst, .call { callee := .invoke x nm, args := ⟨args⟩, argTypes := at' }, ty, pos, af, g⟩).run P w = (callFunc f ⟨.agg ⟨cs⟩ :: vs⟩).run P w := by
    rw [run_callFunc]
    simp only [execOp, resolve, ho.eval hx, List.map_toArray, he]
    refine (sem_run_bind P _ _ w _ w rfl).trans ?_
    have e1 : invoke (.fn (.method nm) #[]) (#[.iface t (.agg ⟨cs⟩)] ++ vs.toArray) = callMethod (.iface t (.agg ⟨cs⟩)) nm ⟨vs⟩ := by
      simp [invoke]
    show (invoke (.fn (.method nm) #[]) (#[.iface t (.agg ⟨cs⟩)] ++ vs.toArray)).run P w = _
    rw [e1, h.eq cs ⟨vs⟩ w]
    simp
  rw [hr]
  exact hd.run W w hs _ a' next Q hn
theorem run_equalIn_nil {P : Program} {t ms} [hU : Und P t (.interface ms)] (w : World) : (Op.equalIn Op.maxDepth t .nilIface .nilIface).run P w = .ok true w := by
  show (Op.equalIn (9999 + 1) t _ _).run P w = _
  rw [Op.equalIn]
  refine (sem_run_bind P _ _ w _ w (run_underlying (t := t) w)).trans ?_
  rfl
theorem run_equalIn_iface {P : Program} {t ms tx vx} [hU : Und P t (.interface ms)] (w : World) : (Op.equalIn Op.maxDepth t (.iface tx vx) .nilIface).run P w = .ok false w := by
  show (Op.equalIn (9999 + 1) t _ _).run P w = _
  rw [Op.equalIn]
  refine (sem_run_bind P _ _ w _ w (run_underlying (t := t) w)).trans ?_
  rfl
/-- No error: it is nil. -/
theorem op_iface_nil {t t2 x ms} [hU : Und P t (.interface ms)] (hk : K (.bool false) G) (hx : evalE E x = some .nilIface := by exact rfl) : OpT P W n ds ⟨dst, .binOp .neq t x (.const .nilIface) t2, ty, pos, af, g⟩ E G K :=
  op_of_run (fun a w ho _ => by
    have h0 : ∀ y, (eqGuard .neq t y (.const .nilIface) .nilIface .nilIface).run P w = .ok () w := fun y => by
      simp [eqGuard, go_sem]
    have e2 : a.eval (.const .nilIface) = .nilIface := rfl
    simp only [execOp, ho.eval hx, e2]
    refine run_v ?_
    refine (sem_run_bind P _ _ w () w (h0 _)).trans ?_
    exact (sem_run_bind P _ _ w true w (run_equalIn_nil (t := t) w)).trans rfl) hk
theorem op_iface_nilq {t t2 x ms} [hU : Und P t (.interface ms)] (hk : K (.bool true) G) (hx : evalE E x = some .nilIface := by exact rfl) : OpT P W n ds ⟨dst, .binOp .eql t x (.const .nilIface) t2, ty, pos, af, g⟩ E G K :=
  op_of_run (fun a w ho _ => by
    have h0 : ∀ y, (eqGuard .eql t y (.const .nilIface) .nilIface .nilIface).run P w = .ok () w := fun y => by
      simp [eqGuard, go_sem]
    have e2 : a.eval (.const .nilIface) = .nilIface := rfl
    simp only [execOp, ho.eval hx, e2]
    refine run_v ?_
    refine (sem_run_bind P _ _ w () w (h0 _)).trans ?_
    exact (sem_run_bind P _ _ w true w (run_equalIn_nil (t := t) w)).trans rfl) hk
/-- An error: it is not nil. -/
theorem op_iface_some {t t2 x ms tx vx} [hU : Und P t (.interface ms)] (hk : K (.bool true) G) (hx : evalE E x = some (.iface tx vx) := by exact rfl) : OpT P W n ds ⟨dst, .binOp .neq t x (.const .nilIface) t2, ty, pos, af, g⟩ E G K :=
  op_of_run (fun a w ho _ => by
    have e2 : a.eval (.const .nilIface) = .nilIface := rfl
    simp only [execOp, ho.eval hx, e2]
    refine run_v ?_
    refine (sem_run_bind P _ _ w () w rfl).trans ?_
    exact (sem_run_bind P _ _ w false w (run_equalIn_iface (t := t) w)).trans rfl) hk
theorem op_iface_someq {t t2 x ms tx vx} [hU : Und P t (.interface ms)] (hk : K (.bool false) G) (hx : evalE E x = some (.iface tx vx) := by exact rfl) : OpT P W n ds ⟨dst, .binOp .eql t x (.const .nilIface) t2, ty, pos, af, g⟩ E G K :=
  op_of_run (fun a w ho _ => by
    have e2 : a.eval (.const .nilIface) = .nilIface := rfl
    simp only [execOp, ho.eval hx, e2]
    refine run_v ?_
    refine (sem_run_bind P _ _ w () w rfl).trans ?_
    exact (sem_run_bind P _ _ w false w (run_equalIn_iface (t := t) w)).trans rfl) hk
theorem op_mid {op : Oper} (k : Nat) {o R} [h : MidC G k o R] (h' : OpT P W n ds op E ((k, o) :: R) K) : OpT P W n ds op E G K := op_perm h.perm.symm h'
end
end Go.Lg
