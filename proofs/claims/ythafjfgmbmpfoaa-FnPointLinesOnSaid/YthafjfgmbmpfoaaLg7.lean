/-
  Functions with one deferred closure that recovers, where nothing panics, in the small logic. No conditions.
-/
import Derived.Test.YthafjfgmbmpfoaaLg6
set_option linter.unusedVariables false
set_option linter.unusedSimpArgs false
namespace Go.Lg

/-- Entered by a frame that returns, the deferred closure f does nothing. -/
class IdleD (P : Program) (f : FuncId) (m : outParam Nat) : Prop where
  idle : ∀ (cap : List Value) (w : World), cap.length = m → CallsD P f ⟨cap⟩ .returning w fun e u' w' => e = .returned (.tuple #[]) ∧ u' = .returning ∧ w' = w

section
variable {P : Program} {W : World} {n : Nat} {ds : List Deferred} {E : Env} {G G' : Heap} {K : Value → Heap → Prop} {fn : Func} {e : Exit} {ops : List Oper} {Q : Exit → Act → World → Prop}

theorem op_makeFunc {dst ty pos af g} {fv : Fn} {cs : List Operand} {vs : List Value} {Kv : Value → Heap → Prop} (hk : Kv (.func fv #[] ⟨vs⟩) G) (hx : evalAll E cs = some vs := by exact rfl) :
    OpT P W n ds ⟨dst, .makeFunc fv #[] ⟨cs⟩, ty, pos, af, g⟩ E G Kv :=
  op_of_run (fun a w ho _ => by
    have he : cs.map a.eval = vs := by
      clear hk
      induction cs generalizing vs with
      | nil => simp [evalAll] at hx; simp [← hx]
      | cons x xs ih =>
        simp only [evalAll] at hx
        cases h1 : evalE E x with
        | none => simp [h1] at hx
        | some v =>
          cases h2 : evalAll E xs with
          | none => simp [h1, h2] at hx
          | some us =>
            simp [h1, h2] at hx
            subst hx
            simp [ho.eval h1, ih h2]
    simp only [execOp, List.map_toArray, he]
    rfl) hk

theorem tl_defer {x ty pos af at'} {f : FuncId} {cs : List Value} {rest : List Oper} (h : TL P W n (⟨.fn (.func f) ⟨cs⟩, #[]⟩ :: ds) ops Q rest E G) (hx : evalE E x = some (.func (.func f) #[] ⟨cs⟩) := by exact rfl) :
    TL P W n ds ops Q (⟨none, .defer { callee := .value x, args := #[], argTypes := at' }, ty, pos, af, none⟩ :: rest) E G := by
  refine ⟨fun a w ho hs => ?_⟩
  refine wpList_plain rfl fun K hK => ?_
  have hr : (execOp a.eval ⟨none, .defer { callee := .value x, args := #[], argTypes := at' }, ty, pos, af, none⟩).run P w = .ok (.defer ⟨.fn (.func f) ⟨cs⟩, #[]⟩) w := by
    simp only [execOp, resolve, ho.eval hx]
    refine (sem_run_bind P _ _ w ⟨.fn (.func f) ⟨cs⟩, #[]⟩ w ?_).trans rfl
    simp [Deferred.ofValue]
  unfold Oper.wp
  rw [hr]
  exact hK _ _ (h.run _ _ ⟨ho.size, by show _ :: a.defers = _; rw [ho.defers], ho.get⟩ hs)

theorem fn_enter_d {f : FuncId} {c : Code} {args : List Value} {H : Heap} [Enters P f] (n : Nat)
    (hf : P.funcs[f]? = some fn) (h : ∀ W, TC P W n [] c (bodyPostD P fn (RetK W K)) (argEnv 0 args) H) (hb : fn.body = some c := by exact rfl)
    (hn : fn.ntmps = n := by exact rfl) (hsz : args.length ≤ n := by exact Nat.le_of_ble_eq_true rfl) : Does P f args H K := by
  subst hn
  refine ⟨fun W w hs o a next Q hnx => ?_⟩
  rw [run_callFunc, Oper.upon_enter]
  have hc : Calls P f ⟨args⟩ w (RetK W K) := by
    refine calls_of_wp_defers hf hb ((h W).run _ _ ⟨?_, rfl, fun t v hv => ?_⟩ hs)
    · simp; omega
    · obtain ⟨_, h2⟩ := argEnv_get _ _ _ _ hv
      have h3 : args[t]? = some v := by simpa using h2
      have hlt : t < args.length := by
        rcases Nat.lt_or_ge t args.length with h | h
        · exact h
        · rw [List.getElem?_eq_none h] at h3; cases h3
      simp [Array.getElem?_append, hlt]
      simpa [hlt] using h3
  refine hc.mono fun e w' ⟨v, H', he, hs', hk⟩ => ?_
  subst he
  exact hnx v H' w' hs' hk

theorem results_run {rs : List ResultVar} {vs : List Value} {v : Value} (hr : fn.results = ⟨rs⟩) (h : RVs P E G rs vs)
    (hv : v = (if h : (⟨vs⟩ : Array Value).size = 1 then (⟨vs⟩ : Array Value)[0] else .tuple ⟨vs⟩)) {a : Act} {w : World} (ho : Ok n ds E a) (hs : Sees W G w) : (results fn a.tmps).run P w = .ok v w := by
  rw [results_eq, hr]
  have : ∀ (rs : List ResultVar) (vs : List Value), RVs P E G rs vs → (rs.mapM (resSem a.tmps)).run P w = .ok vs w := by
    intro rs
    induction rs with
    | nil => intro vs h; cases h; rfl
    | cons r rs ih =>
      intro vs h
      cases h with
      | cons h1 h2 =>
        simp only [List.mapM_cons]
        refine (sem_run_bind P _ _ w _ w (run_res h1 ho hs)).trans ?_
        refine (sem_run_bind P _ _ w _ w (ih _ h2)).trans rfl
  refine (sem_run_bind P _ _ w ⟨vs⟩ w ?_).trans (by rw [hv]; rfl)
  rw [List.mapM_toArray]
  exact (sem_run_bind P _ _ w vs w (this rs vs h)).trans rfl

theorem ret_door {f : FuncId} {m : Nat} {cs : List Value} {rs : List ResultVar} {vs : List Value} {v : Value} [hI : IdleD P f m] [hE : Enters P f] (hm : cs.length = m) (hr : fn.results = ⟨rs⟩) (h : RVs P E G rs vs)
    (hv : v = (if h : (⟨vs⟩ : Array Value).size = 1 then (⟨vs⟩ : Array Value)[0] else .tuple ⟨vs⟩)) (hG : List.Sublist G' G) (hk : K v G') :
    At W n [⟨.fn (.func f) ⟨cs⟩, #[]⟩] (bodyPostD P fn (RetK W K)) .ret E G := by
  refine ⟨fun a w ho hs => ?_⟩
  show Leaves P fn a.tmps (RetK W K) a.defers .returning w
  rw [ho.defers]
  refine leaves_cons (f := f) (args := ⟨cs⟩) (by simp) ?_ ?_
  · have := run_callFunc (P := P) (f := f) ⟨cs⟩ w
    simpa [invoke] using this
  · refine (hI.idle cs w hm).mono ?_
    rintro e u' w' ⟨rfl, rfl, rfl⟩
    show Leaves P fn a.tmps (RetK W K) [] (settle .returning) w'
    exact ⟨v, results_run hr h hv ho hs, v, G', rfl, hs.sub hG, hk⟩

/-- Two results in variables of one cell each. -/
theorem ret_door2 {f : FuncId} {m : Nat} {cs : List Value} {t T d k off l S fz v t' T' d' k' off' l' S' fz' v'} [Und P T d] [Und P T' d'] [hI : IdleD P f m] [hE : Enters P f] (hr : fn.results = ⟨[.cell t T, .cell t' T']⟩ := by exact rfl) (hcs : cs.length = m := by exact rfl)
    (hd : TypeDesc.isAgg d = false := by exact rfl) (hd' : TypeDesc.isAgg d' = false := by exact rfl) (hx : Env.get E t = some (.pointer (some ⟨k, off, none⟩)) := by exact rfl) (hx' : Env.get E t' = some (.pointer (some ⟨k', off', none⟩)) := by exact rfl)
    (hm : (k, Obj.cells ⟨l⟩ S fz) ∈ G := by first | exact mem0 | exact mem1 | exact mem2 | exact mem3 | exact mem4 | exact mem5 | exact mem6 | exact mem7 | exact mem8 | exact mem9 | assumption | (refine Sub.mem (by assumption) ?_; first | exact mem0 | exact mem1 | exact mem2 | exact mem3 | exact mem4 | exact mem5 | exact mem6 | exact mem7 | exact mem8 | exact mem9 | assumption) | ((repeat (apply List.mem_cons_of_mem)); first | assumption | (refine Sub.mem (by assumption) ?_; assumption))) (hv : l[off]? = some v := by first | exact rfl | assumption) (hm' : (k', Obj.cells ⟨l'⟩ S' fz') ∈ G := by first | exact mem0 | exact mem1 | exact mem2 | exact mem3 | exact mem4 | exact mem5 | exact mem6 | exact mem7 | exact mem8 | exact mem9 | assumption | (refine Sub.mem (by assumption) ?_; first | exact mem0 | exact mem1 | exact mem2 | exact mem3 | exact mem4 | exact mem5 | exact mem6 | exact mem7 | exact mem8 | exact mem9 | assumption) | ((repeat (apply List.mem_cons_of_mem)); first | assumption | (refine Sub.mem (by assumption) ?_; assumption))) (hv' : l'[off']? = some v' := by first | exact rfl | assumption) (hk : K (.tuple #[v, v']) G')
    (hG : List.Sublist G' G := by repeat (first | exact List.Sublist.refl _ | apply List.Sublist.cons_cons | apply List.Sublist.cons)) :
    At W n [⟨.fn (.func f) ⟨cs⟩, #[]⟩] (bodyPostD P fn (RetK W K)) .ret E G :=
  ret_door hcs hr (.cons (.cell hd hx hm hv) (.cons (.cell hd' hx' hm' hv') .nil)) rfl hG hk
end
end Go.Lg
