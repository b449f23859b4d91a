/-
  Functions, and regions whose order is drawn, in the small logic. No conditions.
-/
import Derived.Test.YthafjfgmbmpfoaaLg2
set_option linter.unusedVariables false
set_option linter.unusedSimpArgs false
namespace Go.Lg

/-! ### Functions -/

def argEnv : Nat → List Value → Env
  | _, [] => []
  | i, v :: vs => (i, v) :: argEnv (i + 1) vs

theorem argEnv_get : ∀ (vs : List Value) (i t : Nat) (v : Value), Env.get (argEnv i vs) t = some v → i ≤ t ∧ vs[t - i]? = some v := by
  intro vs
  induction vs with
  | nil => intro i t v h; cases h
  | cons u us ih =>
    intro i t v h
    by_cases e : i = t
    · subst e; simp only [argEnv] at h; rw [Env.get_cons_self] at h; cases h; exact ⟨Nat.le_refl _, by simp⟩
    · simp only [argEnv] at h; rw [Env.get_cons_ne e] at h
      obtain ⟨h1, h2⟩ := ih _ _ _ h
      refine ⟨by omega, ?_⟩
      rw [show t - i = (t - (i + 1)) + 1 by omega]
      simpa using h2

def RetK (W : World) (K : Value → Heap → Prop) (e : Ending) (w' : World) : Prop := ∃ v H', e = .returned v ∧ Sees W H' w' ∧ K v H'

theorem run_callFunc {P : Program} {f : FuncId} [h : Enters P f] (args : Array Value) (w : World) : (callFunc f args).run P w = .ok (.enter f args) w := by
  obtain ⟨fn, hf, hn, hb⟩ := h.eq
  show Sem.run P (match P.funcs[f]? with | none => _ | some fn => _) w = _
  rw [hf]
  simp only [hn, hb, Bool.false_eq_true, if_false]
  rfl

/-- What a call comes to, as the claim asks it. -/
theorem calls_of_body {P : Program} {f : FuncId} {fn : Func} {c : Code} {args : List Value} {W w : World} {H : Heap} {K : Value → Heap → Prop}
    (hf : P.funcs[f]? = some fn) (hb : fn.body = some c) (hsz : args.length ≤ fn.ntmps) (hs : Sees W H w)
    (h : TC P W fn.ntmps [] c (bodyPost P fn (RetK W K)) (argEnv 0 args) H) : Calls P f ⟨args⟩ w (RetK W K) := by
  refine calls_of_wp hf hb (h.run _ _ ⟨?_, rfl, fun t v hv => ?_⟩ hs)
  · simp; omega
  · obtain ⟨_, h2⟩ := argEnv_get _ _ _ _ hv
    have h3 : args[t]? = some v := by simpa using h2
    have hlt : t < args.length := by
      rcases Nat.lt_or_ge t args.length with h | h
      · exact h
      · rw [List.getElem?_eq_none h] at h3; cases h3
    simp [Array.getElem?_append, hlt]
    simpa [hlt] using h3

/-- The same, the frame's size written out. -/
theorem fn_enter {P : Program} {f : FuncId} {fn : Func} {c : Code} {args : List Value} {H : Heap} {K : Value → Heap → Prop} [Enters P f] (n : Nat)
    (hf : P.funcs[f]? = some fn) (h : ∀ W, TC P W n [] c (bodyPost P fn (RetK W K)) (argEnv 0 args) H) (hb : fn.body = some c := by exact rfl)
    (hn : fn.ntmps = n := by exact rfl) (hsz : args.length ≤ n := by exact Nat.le_of_ble_eq_true rfl) : Does P f args H K := by
  refine ⟨fun W w hs o a next Q hnx => ?_⟩
  rw [run_callFunc, Oper.upon_enter]
  refine (calls_of_body (K := K) hf hb (by omega) hs (by rw [hn]; exact h W)).mono fun e w' ⟨v, H', he, hs', hk⟩ => ?_
  subst he
  exact hnx v H' w' hs' hk

theorem fn_of_body {P : Program} {f : FuncId} {fn : Func} {c : Code} {args : List Value} {H : Heap} {K : Value → Heap → Prop} [Enters P f]
    (hf : P.funcs[f]? = some fn) (hb : fn.body = some c) (hsz : args.length ≤ fn.ntmps)
    (h : ∀ W, TC P W fn.ntmps [] c (bodyPost P fn (RetK W K)) (argEnv 0 args) H) : Does P f args H K := by
  refine ⟨fun W w hs o a next Q hn => ?_⟩
  rw [run_callFunc, Oper.upon_enter]
  refine (calls_of_body hf hb hsz hs (h W)).mono fun e w' ⟨v, H', he, hs', hk⟩ => ?_
  subst he
  exact hn v H' w' hs' hk

/-- A function without a body, which the model knows. -/
theorem does_extern {P : Program} {f : FuncId} {fn : Func} {x : Array Value → Sem Value} {args : List Value} {H : Heap} {K : Value → Heap → Prop}
    (hf : P.funcs[f]? = some fn) (hn : (fn.name == "runtime.NumGoroutine") = false) (hb : fn.body.isNone = true) (h1 : (Extern.findNext fn).isNone = true)
    (h2 : Extern.find fn = some x) (h : ∀ W w, Sees W H w → ∃ v w', (x ⟨args⟩).run P w = .ok v w' ∧ Sees W H w' ∧ K v H) : Does P f args H K := by
  refine ⟨fun W w hs o a next Q hnx => ?_⟩
  obtain ⟨v, w', hr, hs', hk⟩ := h W w hs
  have : (callFunc f ⟨args⟩).run P w = .ok (.value v) w' := by
    show Sem.run P (match P.funcs[f]? with | none => _ | some fn => _) w = _
    rw [hf]
    have h1' : Extern.findNext fn = none := by simpa using h1
    simp only [hn, hb, Bool.false_eq_true, if_false, if_true]
    refine (sem_run_bind P _ _ w () w rfl).trans ?_
    rw [h1']
    simp only [h2]
    refine (sem_run_bind P _ _ w v w' hr).trans rfl
  rw [this]
  exact hnx v H w' hs' hk

/-- What math.Trunc gives: of a NaN a NaN. -/
def TruncR (x r : Nat) : Prop :=
  ((Ieee.double.read x).isNaN = true ∧ (Ieee.double.read r).isNaN = true) ∨ ((Ieee.double.read x).isNaN = false ∧ r = Ieee.double.write ((Ieee.double.read x).integral .zero))

theorem nan_frac {x : Nat} {s t} (h : Ieee.double.read x = .nan s t) : t < 2 ^ 52 := by
  have hb : Ieee.double.binade = 4503599627370496 := rfl
  have hi : Ieee.double.infRung = 9218868437227405312 := rfl
  have hw : Ieee.double.signWeight = 9223372036854775808 := rfl
  simp only [Ieee.Format.read, hb, hi, hw] at h
  split at h
  · cases h
  · split at h
    · cases h
    · split at h
      · cases h
      · cases h; omega

theorem quiet_lt {t : Nat} (h : t < 2 ^ 52) : Ieee.double.quiet t < 2 ^ 52 :=
  Nat.or_lt_two_pow h (by decide)

theorem quiet_pos (t : Nat) : 0 < Ieee.double.quiet t := by
  have h : 2 ^ 51 ≤ Ieee.double.quiet t := Nat.right_le_or
  have : 0 < 2 ^ 51 := by decide
  omega

theorem nan_write (s : Bool) {t : Nat} (h : t < 2 ^ 52) (h0 : 0 < t) : (Ieee.double.read (Ieee.double.write (.nan s t))).isNaN = true := by
  have hb : Ieee.double.binade = 4503599627370496 := rfl
  have hi : Ieee.double.infRung = 9218868437227405312 := rfl
  have hw : Ieee.double.signWeight = 9223372036854775808 := rfl
  simp only [Ieee.Format.write, Ieee.Format.word, Ieee.Format.read, hb, hi, hw]
  have e : t % 4503599627370496 = t := Nat.mod_eq_of_lt (by omega)
  rw [e]
  have e2 : (if s = true then 9223372036854775808 + (9218868437227405312 + t) else 9218868437227405312 + t) % 9223372036854775808 = 9218868437227405312 + t := by
    split <;> omega
  rw [e2, if_neg (by omega), if_neg (by omega), if_neg (by omega)]
  rfl

theorem does_trunc {P : Program} {f : FuncId} {fn : Func} {H : Heap} {x : Nat}
    (hf : P.funcs[f]? = some fn) (hn : (fn.name == "runtime.NumGoroutine") = false) (hb : fn.body.isNone = true) (h1 : (Extern.findNext fn).isNone = true)
    (h2 : Extern.find fn = some (Extern.MathFloor.toIntegral "math.archTrunc" .zero)) : Does P f [.float .f64 x] H fun v H' => (∃ r, v = .float .f64 r ∧ TruncR x r) ∧ H' = H := by
  refine does_extern hf hn hb h1 h2 fun W w hs => ?_
  have e : Extern.MathFloor.toIntegral "math.archTrunc" .zero ⟨[.float .f64 x]⟩ = (match Ieee.double.read x with
    | .nan s t =>
      if Ieee.double.quiet t = t then pure (.float .f64 x) else do
      let kept ← choose (.extern "math.Floor,Ceil,Trunc,RoundToEven.signallingNaN kept" 2)
      pure (.float .f64 (if kept == 1 then x else Ieee.double.write (.nan s (Ieee.double.quiet t))))
    | d => pure (.float .f64 (Ieee.double.write (d.integral .zero)))) := rfl
  rw [e]
  unfold TruncR
  cases hd : Ieee.double.read x with
  | number s m i => exact ⟨_, w, rfl, hs, ⟨_, rfl, .inr ⟨rfl, rfl⟩⟩, rfl⟩
  | infinity s => exact ⟨_, w, rfl, hs, ⟨_, rfl, .inr ⟨rfl, rfl⟩⟩, rfl⟩
  | nan s t =>
    simp only
    have hx : (Ieee.double.read x).isNaN = true := by rw [hd]; rfl
    split
    · exact ⟨_, w, rfl, hs, ⟨_, rfl, .inl ⟨rfl, hx⟩⟩, trivial⟩
    · refine ⟨_, { w with drawn := w.drawn + 1 }, rfl, hs.drew _, ⟨_, rfl, .inl ⟨rfl, ?_⟩⟩, trivial⟩
      split
      · exact hx
      · exact nan_write s (quiet_lt (nan_frac hd)) (quiet_pos t)

/-- A result variable's value. -/
inductive RV (P : Program) (E : Env) (G : Heap) : ResultVar → Value → Prop
  | tmp {t v} : Env.get E t = some v → RV P E G (.tmp t) v
  | cell {t T d k off l S fz v} [Und P T d] : TypeDesc.isAgg d = false → Env.get E t = some (.pointer (some ⟨k, off, none⟩)) → (k, Obj.cells ⟨l⟩ S fz) ∈ G → l[off]? = some v → RV P E G (.cell t T) v
  | agg {t T d s b z k off l S fz m} [Und P T d] [Inf P T s b z] : TypeDesc.isAgg d = true → Env.get E t = some (.pointer (some ⟨k, off, none⟩)) → (k, Obj.cells ⟨l⟩ S fz) ∈ G →
      (l.drop off).take s = m → m.length = s → RV P E G (.cell t T) (.agg ⟨m⟩)

def resSem (tmps : Array Value) : ResultVar → Sem Value
  | .tmp t => pure (tmps.getD t undef)
  | .cell a t => do loadVar t (← asAddr (tmps.getD a undef))

theorem run_res {P W n ds E G r v} (h : RV P E G r v) {a : Act} {w : World} (ho : Ok n ds E a) (hs : Sees W G w) : (resSem a.tmps r).run P w = .ok v w := by
  cases h with
  | tmp h =>
    have := ho.eval (x := .tmp _) h
    simp only [Act.eval] at this
    simp only [resSem, this]; rfl
  | cell hd h hm hv =>
    have := ho.eval (x := .tmp _) h
    simp only [Act.eval] at this
    simp only [resSem, this]
    refine (sem_run_bind P _ _ w _ w rfl).trans ?_
    exact run_loadVar_scalar hd (hs.cell hm hv)
  | agg hd h hm hv hl =>
    have := ho.eval (x := .tmp _) h
    simp only [Act.eval] at this
    simp only [resSem, this]
    refine (sem_run_bind P _ _ w _ w rfl).trans ?_
    exact run_loadVar_agg hd hl (fun j v hj => hs.cell hm (cut_get hv hj))

inductive RVs (P : Program) (E : Env) (G : Heap) : List ResultVar → List Value → Prop
  | nil : RVs P E G [] []
  | cons {r v rs vs} : RV P E G r v → RVs P E G rs vs → RVs P E G (r :: rs) (v :: vs)

theorem results_eq (fn : Func) (tmps : Array Value) : results fn tmps = (do let vs ← fn.results.mapM (resSem tmps); pure (if h : vs.size = 1 then vs[0] else .tuple vs)) := by
  unfold results
  congr 1

section
variable {P : Program} {W : World} {n : Nat} {E : Env} {G G' : Heap} {K : Value → Heap → Prop} {fn : Func} {e : Exit}

theorem ret_list {rs : List ResultVar} {vs : List Value} {v : Value} (hr : fn.results = ⟨rs⟩) (h : RVs P E G rs vs)
    (hv : v = (if h : (⟨vs⟩ : Array Value).size = 1 then (⟨vs⟩ : Array Value)[0] else .tuple ⟨vs⟩)) (hG : List.Sublist G' G) (hk : K v G') (he : e = .ret ∨ e = .normal) :
    At W n [] (bodyPost P fn (RetK W K)) e E G := by
  refine ⟨fun a w ho hs => ?_⟩
  have key : (results fn a.tmps).run P w = .ok v w := by
    rw [results_eq, hr]
    have : ∀ (rs : List ResultVar) (vs : List Value), RVs P E G rs vs → (rs.mapM (resSem a.tmps)).run P w = .ok vs w := by
      intro rs
      induction rs with
      | nil => intro vs h; cases h; rfl
      | cons r rs ih =>
        intro vs h
        cases h with
        | cons h1 h2 =>
          simp only [List.mapM_cons]
          refine (sem_run_bind P _ _ w _ w (run_res h1 ho hs)).trans ?_
          refine (sem_run_bind P _ _ w _ w (ih _ h2)).trans rfl
    refine (sem_run_bind P _ _ w ⟨vs⟩ w ?_).trans (by rw [hv]; rfl)
    rw [List.mapM_toArray]
    exact (sem_run_bind P _ _ w vs w (this rs vs h)).trans rfl
  have h2 : a.defers = [] ∧ ∃ v, (results fn a.tmps).run P w = .ok v w ∧ RetK W K (.returned v) w := ⟨ho.defers, v, key, v, G', rfl, hs.sub hG, hk⟩
  rcases he with rfl | rfl
  · exact h2
  · exact h2

theorem ret_one {r v} (h : RV P E G r v) (hk : K v G') (hr : fn.results = ⟨[r]⟩ := by exact rfl) (hG : List.Sublist G' G := by repeat (first | exact List.Sublist.refl _ | apply List.Sublist.cons_cons | apply List.Sublist.cons)) : At W n [] (bodyPost P fn (RetK W K)) .ret E G :=
  ret_list hr (.cons h .nil) rfl hG hk (.inl rfl)
theorem ret_two {r s v u} (h : RV P E G r v) (h' : RV P E G s u) (hk : K (.tuple #[v, u]) G') (hr : fn.results = ⟨[r, s]⟩ := by exact rfl) (hG : List.Sublist G' G := by repeat (first | exact List.Sublist.refl _ | apply List.Sublist.cons_cons | apply List.Sublist.cons)) : At W n [] (bodyPost P fn (RetK W K)) .ret E G :=
  ret_list hr (.cons h (.cons h' .nil)) rfl hG hk (.inl rfl)
theorem ret_three {r s t v u x} (h : RV P E G r v) (h' : RV P E G s u) (h'' : RV P E G t x) (hk : K (.tuple #[v, u, x]) G') (hr : fn.results = ⟨[r, s, t]⟩ := by exact rfl) (hG : List.Sublist G' G := by repeat (first | exact List.Sublist.refl _ | apply List.Sublist.cons_cons | apply List.Sublist.cons)) :
    At W n [] (bodyPost P fn (RetK W K)) .ret E G :=
  ret_list hr (.cons h (.cons h' (.cons h'' .nil))) rfl hG hk (.inl rfl)
theorem ret_none (hk : K (.tuple #[]) G') (hr : fn.results = ⟨[]⟩ := by exact rfl) (hG : List.Sublist G' G := by repeat (first | exact List.Sublist.refl _ | apply List.Sublist.cons_cons | apply List.Sublist.cons)) (he : e = .ret ∨ e = .normal := by first | exact .inl rfl | exact .inr rfl) : At W n [] (bodyPost P fn (RetK W K)) e E G :=
  ret_list hr .nil rfl hG hk he
/-- One result: in a slot; in a variable of one cell; of several cells. -/
theorem ret_tmp {t v} (hr : fn.results = ⟨[.tmp t]⟩ := by exact rfl) (h : Env.get E t = some v := by exact rfl) (hk : K v G')
    (hG : List.Sublist G' G := by repeat (first | exact List.Sublist.refl _ | apply List.Sublist.cons_cons | apply List.Sublist.cons)) : At W n [] (bodyPost P fn (RetK W K)) .ret E G :=
  ret_one (.tmp h) hk hr hG
theorem ret_cell {t T d k off l S fz v} [Und P T d] (hr : fn.results = ⟨[.cell t T]⟩ := by exact rfl) (hd : TypeDesc.isAgg d = false := by exact rfl)
    (hx : Env.get E t = some (.pointer (some ⟨k, off, none⟩)) := by exact rfl) (hm : (k, Obj.cells ⟨l⟩ S fz) ∈ G := by first | exact mem0 | exact mem1 | exact mem2 | exact mem3 | exact mem4 | exact mem5 | exact mem6 | exact mem7 | exact mem8 | exact mem9 | assumption | (refine Sub.mem (by assumption) ?_; first | exact mem0 | exact mem1 | exact mem2 | exact mem3 | exact mem4 | exact mem5 | exact mem6 | exact mem7 | exact mem8 | exact mem9 | assumption) | ((repeat (apply List.mem_cons_of_mem)); first | assumption | (refine Sub.mem (by assumption) ?_; assumption))) (hv : l[off]? = some v := by first | exact rfl | assumption) (hk : K v G')
    (hG : List.Sublist G' G := by repeat (first | exact List.Sublist.refl _ | apply List.Sublist.cons_cons | apply List.Sublist.cons)) : At W n [] (bodyPost P fn (RetK W K)) .ret E G :=
  ret_one (.cell hd hx hm hv) hk hr hG
theorem ret_agg {t T d s b z k off l S fz m} [Und P T d] [Inf P T s b z] (hr : fn.results = ⟨[.cell t T]⟩ := by exact rfl) (hd : TypeDesc.isAgg d = true := by exact rfl)
    (hx : Env.get E t = some (.pointer (some ⟨k, off, none⟩)) := by exact rfl) (hm : (k, Obj.cells ⟨l⟩ S fz) ∈ G := by first | exact mem0 | exact mem1 | exact mem2 | exact mem3 | exact mem4 | exact mem5 | exact mem6 | exact mem7 | exact mem8 | exact mem9 | assumption | (refine Sub.mem (by assumption) ?_; first | exact mem0 | exact mem1 | exact mem2 | exact mem3 | exact mem4 | exact mem5 | exact mem6 | exact mem7 | exact mem8 | exact mem9 | assumption) | ((repeat (apply List.mem_cons_of_mem)); first | assumption | (refine Sub.mem (by assumption) ?_; assumption))) (hv : (l.drop off).take s = m := by first | (simp only [setCells, List.set_cons_zero, List.set_cons_succ, List.take_succ_cons, List.take_zero, List.drop_zero, List.drop_succ_cons, Nat.zero_add, Nat.add_zero, Nat.reduceAdd]; exact rfl) | exact rfl) (hl : m.length = s := by exact rfl) (hk : K (.agg ⟨m⟩) G')
    (hG : List.Sublist G' G := by repeat (first | exact List.Sublist.refl _ | apply List.Sublist.cons_cons | apply List.Sublist.cons)) : At W n [] (bodyPost P fn (RetK W K)) .ret E G :=
  ret_one (.agg hd hx hm hv hl) hk hr hG
end

/-! ### A region whose order is drawn -/

/-- What an operation of the head gives: a value, new blocks; a fact on memory that stays true where memory grows. -/
abbrev Phi := Value → Heap → Heap → Prop

def Phi.Mono (φ : Phi) : Prop := ∀ v ex G G', φ v ex G → (∀ e ∈ G, e ∈ G') → φ v ex G'

def is (v0 : Value) : Phi := fun v ex _ => v = v0 ∧ ex = []
theorem is_mono (v0 : Value) : Phi.Mono (is v0) := fun _ _ _ _ h _ => h
/-- One new block, k its number. -/
def fresh (f : Nat → Value) (o : Obj) : Phi := fun v ex _ => ∃ k, v = f k ∧ ex = [(k, o)]
theorem fresh_mono (f : Nat → Value) (o : Obj) : Phi.Mono (fresh f o) := fun _ _ _ _ h _ => h
/-- A fact on the value and the new blocks alone. -/
def some' (p : Value → Heap → Prop) : Phi := fun v ex _ => p v ex
theorem some_mono (p : Value → Heap → Prop) : Phi.Mono (some' p) := fun _ _ _ _ h _ => h

def putO : Option Tmp → Value → Env → Env
  | some d, v, E => (d, v) :: E
  | none, _, E => E

def dstOf (l : List Oper) (j : Nat) : Option Tmp := (l[j]?).bind (·.dst)

def preds (o : Oper) : List Nat := ((o.after.toList.filter (Region.binds .any)).map (·.on)).eraseDups

/-- One operation with its guard. -/
def StepG (P : Program) (W : World) (n : Nat) (ds : List Deferred) (l : List Oper) (o : Oper) (E : Env) (G : Heap) (K : Value → Heap → Prop) : Prop :=
  match o.guard with
  | none => OpT P W n ds o E G K
  | some (j, want) => (∃ dj b, dstOf l j = some dj ∧ Env.get E dj = some (.bool b) ∧ (b = want → OpT P W n ds o E G K) ∧ (b = !want → K undef G)) ∨ (∃ dj, dstOf l j = some dj ∧ Env.get E dj = some undef ∧ K undef G)

def withPreds (l : List Oper) (Φ : Nat → Phi) (G : Heap) : List Nat → Env → (Env → Prop) → Prop
  | [], E, k => k E
  | j :: js, E, k => ∀ v ex, Φ j v ex G → (∀ e ∈ ex, e ∈ G) → withPreds l Φ G js (putO (dstOf l j) v E) k

def PremOne (P : Program) (W : World) (n : Nat) (ds : List Deferred) (l : List Oper) (Φ : Nat → Phi) (E0 : Env) (H : Heap) (i : Nat) (o : Oper) : Prop :=
  ∀ G, (∀ e ∈ H, e ∈ G) → withPreds l Φ G (preds o) E0 fun E => StepG P W n ds l o E G fun v G' => ∃ ex, G' = ex ++ G ∧ Φ i v ex G'

def Prems (P : Program) (W : World) (n : Nat) (ds : List Deferred) (l : List Oper) (Φ : Nat → Phi) (E0 : Env) (H : Heap) : Nat → List Oper → Prop
  | _, [] => True
  | i, o :: rest => PremOne P W n ds l Φ E0 H i o ∧ Prems P W n ds l Φ E0 H (i + 1) rest

def Finals (l : List Oper) (K : Env → Heap → Prop) : Nat → List Phi → Env → Heap → (Heap → Prop) → Prop
  | _, [], E, G, h => h G → K E G
  | i, φ :: φs, E, G, h => ∀ v ex, Finals l K (i + 1) φs (putO (dstOf l i) v E) (ex ++ G) (fun G => φ v ex G ∧ h G)

def Monos : List Phi → Prop
  | [] => True
  | φ :: φs => Phi.Mono φ ∧ Monos φs
theorem Monos.all {φs : List Phi} (h : Monos φs) : ∀ φ ∈ φs, Phi.Mono φ := by
  induction φs with
  | nil => intro φ h; cases h
  | cons x xs ih =>
    intro φ hm
    cases hm with
    | head => exact h.1
    | tail _ hm => exact ih h.2 φ hm

/-- Operation j surely comes ahead of operation i. -/
def reachB (l : List Oper) : Nat → Nat → Nat → Bool
  | 0, _, _ => false
  | k + 1, i, j => match l[i]? with
    | none => false
    | some o => (preds o).contains j || (preds o).any fun p => reachB l k p j

def edgesOk (l : List Oper) (m : Nat) : Bool :=
  (List.range l.length).all fun i => match l[i]? with
    | none => false
    | some o => (preds o).all (· < i) && (o.after.toList.all fun e => !(Region.binds .any e) || e.on < i) && (i < m || (List.range i).all fun j => reachB l 9 i j)

def dstsOk (l : List Oper) (m n : Nat) (E0 : Env) : Bool :=
  (List.range m).all fun i => match l[i]? with
    | none => false
    | some o => match o.dst with
      | none => true
      | some d => d < n && (Env.get E0 d).isNone && (List.range m).all fun j => j == i || !(dstOf l j == some d)

section draw
variable {P : Program} {W : World} {n : Nat} {ds : List Deferred} {Q : Exit → Act → World → Prop} {E0 : Env} {H : Heap}

theorem binds_any_mem {l : List Oper} {m i : Nat} {o : Oper} (hE : edgesOk l m = true) (ho : l[i]? = some o) :
    (∀ j ∈ preds o, j < i) ∧ (m ≤ i → ∀ j, j < i → reachB l 9 i j = true) := by
  have hi : i < l.length := by
    rcases Nat.lt_or_ge i l.length with h | h
    · exact h
    · rw [List.getElem?_eq_none h] at ho; cases ho
  simp only [edgesOk, List.all_eq_true, List.mem_range] at hE
  have := hE i hi
  rw [ho] at this
  simp only [Bool.and_eq_true, Bool.or_eq_true, decide_eq_true_eq, List.all_eq_true, List.mem_range] at this
  refine ⟨this.1.1, fun h => ?_⟩
  rcases this.2 with h' | h'
  · omega
  · exact h'

/-- What is listed was ready once: its predecessors are listed. -/
def Closed (l : List Oper) (listed : Array Bool) : Prop := ∀ i o, l[i]? = some o → listed.getD i false = true → ∀ j ∈ preds o, listed.getD j false = true

theorem reach_listed {l : List Oper} {listed : Array Bool} (hc : Closed l listed) : ∀ (k i j : Nat) (o : Oper), l[i]? = some o → (∀ p ∈ preds o, listed.getD p false = true) → reachB l k i j = true → listed.getD j false = true := by
  intro k
  induction k with
  | zero => intro i j o _ _ h; simp [reachB] at h
  | succ k ih =>
    intro i j o ho hp h
    simp only [reachB, ho, Bool.or_eq_true, List.contains_iff_mem, List.any_eq_true] at h
    rcases h with h | ⟨p, hpm, hpr⟩
    · exact hp j h
    · cases hlp : l[p]? with
      | none => cases k <;> simp [reachB, hlp] at hpr
      | some op => exact ih p j op hlp (hc p op hlp (hp p hpm)) hpr

theorem Closed.set {l : List Oper} {listed : Array Bool} {i : Nat} (hc : Closed l listed) (hi : ∀ o, l[i]? = some o → ∀ j ∈ preds o, listed.getD j false = true) (hsz : i < listed.size) : Closed l (listed.setIfInBounds i true) := by
  have hgd : ∀ j, (listed.setIfInBounds i true).getD j false = (j == i || listed.getD j false) := fun j => by
    rw [Array.getD_eq_getD_getElem?, Array.getElem?_setIfInBounds, Array.getD_eq_getD_getElem?]
    by_cases e : i = j
    · subst e; simp [hsz]
    · rw [if_neg e]
      have : (j == i) = false := by simp; exact fun h => e h.symm
      simp [this]
  intro k o ho hk j hj
  rw [hgd] at hk ⊢
  rw [Bool.or_eq_true]
  right
  by_cases e : k = i
  · subst e; exact hi o ho j hj
  · exact hc k o ho (by simpa [e] using hk) j hj

theorem ready_iff {l : List Oper} {listed : Array Bool} {i : Nat} (hsz : listed.size = l.length) :
    i ∈ Region.ready .any l.toArray listed ↔ i < l.length ∧ listed[i]? = some false ∧ ∃ o, l[i]? = some o ∧ ∀ j ∈ preds o, listed.getD j false = true := by
  simp only [Region.ready, List.mem_filter, List.mem_range, List.size_toArray, List.getElem?_toArray, Bool.and_eq_true, Bool.not_eq_true']
  constructor
  · rintro ⟨h1, h2, h3⟩
    refine ⟨h1, ?_, l[i], List.getElem?_eq_getElem h1, ?_⟩
    · have hb : i < listed.size := by omega
      rw [Array.getElem?_eq_getElem hb]
      simpa [Array.getD, hb] using h2
    · rw [List.getElem?_eq_getElem h1] at h3
      simp only [Option.map_some, Option.getD_some] at h3
      intro j hj
      simp only [preds, List.mem_eraseDups, List.mem_map, List.mem_filter] at hj
      obtain ⟨e, ⟨he, hbnd⟩, rfl⟩ := hj
      rw [Array.all_eq_true'] at h3
      have := h3 e (by simpa using he)
      simpa [hbnd] using this
  · rintro ⟨h1, h2, o, ho, h3⟩
    refine ⟨h1, ?_, ?_⟩
    · have hb : i < listed.size := by omega
      rw [Array.getElem?_eq_getElem hb] at h2
      simpa [Array.getD, hb] using h2
    · rw [ho]
      simp only [Option.map_some, Option.getD_some]
      rw [Array.all_eq_true']
      intro e he
      by_cases hbnd : Region.binds .any e = true
      · have := h3 e.on (by simp only [preds, List.mem_eraseDups, List.mem_map, List.mem_filter]; exact ⟨e, ⟨by simpa using he, hbnd⟩, rfl⟩)
        simp [this]
      · simp [hbnd]

/-- The tail comes in order. -/
theorem any_of_tail {l : List Oper} {m : Nat} (hE : edgesOk l m = true) : ∀ (fuel t : Nat) (listed : Array Bool) (a : Act) (w : World),
    listed.size = l.length → Closed l listed → t + fuel = l.length → m ≤ t → (∀ i, i < t → listed[i]? = some true) → (∀ i, t ≤ i → i < l.length → listed[i]? = some false) →
    wpList P l.toArray Q (l.drop t) a w → wpAny P .any l.toArray Q fuel listed a w := by
  intro fuel
  induction fuel with
  | zero =>
    intro t listed a w hsz _ ht _ h1 _ hw
    obtain rfl : t = l.length := by omega
    refine ⟨?_, by simpa [wpList] using hw⟩
    refine List.eq_nil_iff_forall_not_mem.2 fun i hi => ?_
    obtain ⟨hi1, hi2, _⟩ := (ready_iff hsz).1 hi
    rw [h1 i hi1] at hi2; cases hi2
  | succ fuel ih =>
    intro t listed a w hsz hcl ht hm h1 h2 hw
    have htl : t < l.length := by omega
    have hget : l[t]? = some l[t] := List.getElem?_eq_getElem htl
    have hgd : ∀ j, j < t → listed.getD j false = true := fun j hj => by
      have := h1 j hj
      rw [Array.getD_eq_getD_getElem?, this]; rfl
    refine ⟨fun hr => ?_, fun i hi => ?_⟩
    · have : t ∈ Region.ready .any l.toArray listed := (ready_iff hsz).2 ⟨htl, h2 t (Nat.le_refl _) htl, _, hget, fun j hj => hgd j ((binds_any_mem hE hget).1 j hj)⟩
      rw [hr] at this; cases this
    · obtain ⟨hi1, hi2, o, ho, hp⟩ := (ready_iff hsz).1 hi
      have hge : t ≤ i := by
        rcases Nat.lt_or_ge i t with h | h
        · rw [h1 i h] at hi2; cases hi2
        · exact h
      have : i = t := by
        rcases Nat.lt_or_ge t i with h | h
        · have := reach_listed hcl 9 i t o ho hp ((binds_any_mem hE ho).2 (by omega) t h)
          rw [Array.getD_eq_getD_getElem?, h2 t (Nat.le_refl _) htl] at this; cases this
        · omega
      subst this
      have hd : l.drop i = l[i] :: l.drop (i + 1) := by rw [List.drop_eq_getElem_cons htl]
      rw [hd] at hw
      unfold wpOp
      simp only [List.getElem?_toArray, hget]
      simp only [wpList] at hw
      have step : ∀ a w, wpList P l.toArray Q (l.drop (i + 1)) a w → wpAny P .any l.toArray Q fuel (listed.setIfInBounds i true) a w := by
        intro a w hw
        refine ih (i + 1) _ a w (by simpa using hsz) (hcl.set (fun o' ho' j hj => by rw [ho] at ho'; cases ho'; exact hp j hj) (by omega)) (by omega) (by omega) (fun j hj => ?_) (fun j hj hj' => ?_) hw
        · rw [Array.getElem?_setIfInBounds]
          by_cases e : i = j
          · subst e; simp [hsz, htl]
          · rw [if_neg e]; exact h1 j (by omega)
        · rw [Array.getElem?_setIfInBounds, if_neg (by omega)]; exact h2 j (by omega) hj'
      split
      · rename_i hwt
        rw [if_pos hwt] at hw
        exact hw.imp (Oper.wp_mono step) id
      · rename_i hwt
        rw [if_neg hwt] at hw
        exact step _ _ hw

/-- The memory that the operations done so far have made. -/
def made (outs : Nat → Value × Heap) (listed : Nat → Bool) : Nat → Heap → Heap
  | 0, H => H
  | i + 1, H => (if listed i then (outs i).2 else []) ++ made outs listed i H

theorem made_congr {outs outs' : Nat → Value × Heap} {f f' : Nat → Bool} (m : Nat) (H : Heap) (h : ∀ i, i < m → f i = f' i ∧ (f i = true → outs i = outs' i)) : made outs f m H = made outs' f' m H := by
  induction m with
  | zero => rfl
  | succ m ih =>
    simp only [made]
    rw [ih fun i hi => h i (by omega)]
    obtain ⟨h1, h2⟩ := h m (by omega)
    rw [← h1]
    cases hf : f m with
    | false => simp
    | true => rw [h2 hf]

theorem made_add {outs : Nat → Value × Heap} {f : Nat → Bool} {i : Nat} (o : Value × Heap) (m : Nat) (H : Heap) (hi : i < m) (hf : f i = false) :
    (made (fun j => if j = i then o else outs j) (fun j => j == i || f j) m H).Perm (o.2 ++ made outs f m H) := by
  induction m with
  | zero => omega
  | succ m ih =>
    simp only [made]
    by_cases e : m = i
    · subst e
      have : made (fun j => if j = m then o else outs j) (fun j => j == m || f j) m H = made outs f m H :=
        made_congr _ _ fun j hj => ⟨by simp; omega, fun _ => by simp; omega⟩
      rw [this, hf]; simp
    · have := ih (by omega)
      rw [if_neg e]
      have hb : (m == i || f m) = f m := by simp [e]
      rw [hb]
      exact (List.Perm.append_left _ this).trans (by rw [← List.append_assoc, ← List.append_assoc]; exact List.Perm.append_right _ List.perm_append_comm)

theorem made_sub {outs : Nat → Value × Heap} {f : Nat → Bool} {j : Nat} (m : Nat) (H : Heap) (hj : j < m) (hf : f j = true) : ∀ e ∈ (outs j).2, e ∈ made outs f m H := by
  induction m with
  | zero => omega
  | succ m ih =>
    intro e he
    simp only [made]
    by_cases h : j = m
    · subst h; rw [hf]; exact List.mem_append_left _ he
    · exact List.mem_append_right _ (ih (by omega) e he)

theorem made_base {outs : Nat → Value × Heap} {f : Nat → Bool} (m : Nat) (H : Heap) : ∀ e ∈ H, e ∈ made outs f m H := by
  induction m with
  | zero => intro e he; exact he
  | succ m ih => intro e he; exact List.mem_append_right _ (ih e he)

theorem made_none (f : Nat → Bool) (m : Nat) (H : Heap) : made (fun _ => (undef, [])) f m H = H := by
  induction m with
  | zero => rfl
  | succ m ih => simp only [made, ih]; split <;> rfl

theorem ok_of_withPreds {l : List Oper} {Φ : Nat → Phi} {G : Heap} {a : Act} {outs : Nat → Value × Heap} {k : Env → Prop} : ∀ (js : List Nat) (E : Env),
    withPreds l Φ G js E k → (∀ j ∈ js, Φ j (outs j).1 (outs j).2 G ∧ (∀ e ∈ (outs j).2, e ∈ G) ∧ ∀ d, dstOf l j = some d → a.tmps[d]? = some (outs j).1) → Ok n ds E a →
    ∃ E', k E' ∧ Ok n ds E' a := by
  intro js
  induction js with
  | nil => intro E h _ ho; exact ⟨E, h, ho⟩
  | cons j js ih =>
    intro E h hj ho
    obtain ⟨h1, h2, h3⟩ := hj j List.mem_cons_self
    refine ih _ (h _ _ h1 h2) (fun j hj' => hj j (List.mem_cons_of_mem _ hj')) ?_
    cases hd : dstOf l j with
    | none => exact ho
    | some d =>
      refine ⟨ho.size, ho.defers, fun t v hv => ?_⟩
      by_cases e : d = t
      · subst e; simp only [putO] at hv; rw [Env.get_cons_self] at hv; cases hv; exact h3 d hd
      · simp only [putO] at hv; rw [Env.get_cons_ne e] at hv; exact ho.get _ _ hv

theorem prems_get {l : List Oper} {Φ : Nat → Phi} : ∀ (front : List Oper) (k : Nat), Prems P W n ds l Φ E0 H k front → ∀ i o, front[i]? = some o → PremOne P W n ds l Φ E0 H (k + i) o := by
  intro front
  induction front with
  | nil => intro k _ i o h; simp at h
  | cons x xs ih =>
    intro k h i o ho
    cases i with
    | zero => simp at ho; subst ho; exact h.1
    | succ i => have := ih (k + 1) h.2 i o (by simpa using ho); rwa [show k + 1 + i = k + (i + 1) by omega] at this

theorem finals_done {l : List Oper} {K : Env → Heap → Prop} {outs : Nat → Value × Heap} {a : Act} : ∀ (Φs : List Phi) (i : Nat) (E : Env) (hyp : Heap → Prop),
    Finals l K i Φs E (made outs (fun _ => true) i H) hyp → (∀ (j : Nat) (φ : Phi), Φs[j]? = some φ → φ (outs (i + j)).1 (outs (i + j)).2 (made outs (fun _ => true) (i + Φs.length) H)) →
    hyp (made outs (fun _ => true) (i + Φs.length) H) → Ok n ds E a → (∀ j, i ≤ j → j < i + Φs.length → ∀ d, dstOf l j = some d → a.tmps[d]? = some (outs j).1) →
    ∃ E', K E' (made outs (fun _ => true) (i + Φs.length) H) ∧ Ok n ds E' a := by
  intro Φs
  induction Φs with
  | nil => intro i E hyp h _ hh ho _; exact ⟨E, h hh, ho⟩
  | cons φ Φs ih =>
    intro i E hyp h h1 hh ho h3
    have hlen : i + 1 + Φs.length = i + (φ :: Φs).length := by simp; omega
    have := ih (i + 1) _ _ (h (outs i).1 (outs i).2) (fun j φ' hj => by
        have := h1 (j + 1) φ' (by simpa using hj)
        rw [hlen, show i + 1 + j = i + (j + 1) by omega]; exact this) ?_ ?_ ?_
    · rw [hlen] at this; exact this
    · rw [hlen]; exact ⟨h1 0 φ rfl, hh⟩
    · cases hd : dstOf l i with
      | none => exact ho
      | some d =>
        refine ⟨ho.size, ho.defers, fun t v hv => ?_⟩
        by_cases e : d = t
        · subst e; simp only [putO] at hv; rw [Env.get_cons_self] at hv; cases hv; exact h3 i (Nat.le_refl _) (by simp) d hd
        · simp only [putO] at hv; rw [Env.get_cons_ne e] at hv; exact ho.get _ _ hv
    · intro j hj hj' d hd
      exact h3 j (by omega) (by rw [← hlen]; omega) d hd

theorem least {p : Nat → Prop} [DecidablePred p] : ∀ k, (∃ i, i < k ∧ ¬ p i) → ∃ i, i < k ∧ ¬ p i ∧ ∀ j, j < i → p j := by
  intro k
  induction k with
  | zero => rintro ⟨i, hi, _⟩; omega
  | succ k ih =>
    rintro ⟨i, hi, hp⟩
    by_cases h : ∃ i, i < k ∧ ¬ p i
    · obtain ⟨j, h1, h2, h3⟩ := ih h
      exact ⟨j, by omega, h2, h3⟩
    · refine ⟨i, hi, hp, fun j hj => ?_⟩
      by_cases hpj : p j
      · exact hpj
      · exact (h ⟨j, by omega, hpj⟩).elim

theorem Ok.put_off {E : Env} {a : Act} (h : Ok n ds E a) {o : Option Tmp} (hd : ∀ d, o = some d → Env.get E d = none) (v : Value) : Ok n ds E (a.put o v) := by
  cases o with
  | none => exact h
  | some d =>
    refine ⟨by simp [Act.put, h.size], by simp [Act.put, h.defers], fun t u hu => ?_⟩
    have : d ≠ t := fun e => by subst e; rw [hd d rfl] at hu; cases hu
    simp [Act.put, this, h.get t u hu]

theorem dsts_get {l : List Oper} {m i : Nat} {o : Oper} {d : Nat} (hD : dstsOk l m n E0 = true) (him : i < m) (ho : l[i]? = some o) (hd : o.dst = some d) :
    d < n ∧ Env.get E0 d = none ∧ ∀ j, j < m → j ≠ i → dstOf l j ≠ some d := by
  simp only [dstsOk, List.all_eq_true, List.mem_range] at hD
  have := hD i him
  rw [ho] at this
  simp only [hd, Bool.and_eq_true, decide_eq_true_eq, List.all_eq_true, List.mem_range, Bool.or_eq_true, beq_iff_eq, Bool.not_eq_true', beq_eq_false_iff_ne, Option.isNone_iff_eq_none] at this
  refine ⟨this.1.1, this.1.2, fun j hj hne => ?_⟩
  rcases this.2 j hj with h | h
  · exact (hne h).elim
  · exact h

theorem count_split {l : List Bool} {m : Nat} (hm : m ≤ l.length) (h1 : ∀ i, i < m → l[i]? = some true) (h2 : ∀ i, m ≤ i → i < l.length → l[i]? = some false) : m + l.countP (fun b => !b) = l.length := by
  have : l = List.replicate m true ++ List.replicate (l.length - m) false := by
    refine List.ext_getElem? fun i => ?_
    rw [List.getElem?_append]
    simp only [List.length_replicate, List.getElem?_replicate]
    by_cases h : i < m
    · rw [if_pos h, if_pos h]; exact h1 i h
    · rw [if_neg h]
      by_cases h' : i < l.length
      · rw [if_pos (by omega)]; exact h2 i (by omega) h'
      · rw [if_neg (by omega)]; exact List.getElem?_eq_none (by omega)
  have e : l.countP (fun b => !b) = l.length - m := by
    rw [this]; simp [List.countP_append, List.countP_replicate]
  omega

theorem count_set {l : List Bool} {i : Nat} (h : l[i]? = some false) : (l.set i true).countP (fun b => !b) + 1 = l.countP (fun b => !b) := by
  induction l generalizing i with
  | nil => cases h
  | cons b l ih =>
    cases i with
    | zero => simp at h; subst h; simp
    | succ i =>
      have := ih (i := i) (by simpa using h)
      simp only [List.set_cons_succ, List.countP_cons]
      omega

theorem tc_draw {id : Nat} {l : List Oper} (m : Nat) (Φs : List Phi) (hm : P.follows .mixedOrders = true) (hE : edgesOk l m = true) (hD : dstsOk l m n E0 = true)
    (hlen : Φs.length = m) (hml : m ≤ l.length) (hmonos : Monos Φs)
    (prem : Prems P W n ds l (fun i => Φs.getD i (is undef)) E0 H 0 (l.take m))
    (fin : Finals l (fun E G => TL P W n ds l Q (l.drop m) E G) 0 Φs E0 H (fun _ => True)) :
    TC P W n ds (.region id l.toArray true) Q E0 H := by
  have hmono := hmonos.all
  refine ⟨fun a0 w0 ho0 hs0 => ?_⟩
  refine wp_region_any hm ?_
  have hΦ : ∀ i, i < m → Phi.Mono (Φs.getD i (is undef)) := fun i hi => by
    rw [List.getD_eq_getElem?_getD, List.getElem?_eq_getElem (by omega)]
    exact hmono _ (List.getElem_mem _)
  have complete : ∀ (fuel : Nat) (listed : Array Bool) (outs : Nat → Value × Heap) (a : Act) (w : World), listed.size = l.length → Closed l listed →
      fuel = listed.toList.countP (fun b => !b) → (∀ i, m ≤ i → i < l.length → listed[i]? = some false) → Ok n ds E0 a →
      Sees W (made outs (fun i => listed.getD i false) m H) w →
      (∀ i, i < m → listed.getD i false = true → (Φs.getD i (is undef)) (outs i).1 (outs i).2 (made outs (fun i => listed.getD i false) m H) ∧ ∀ d, dstOf l i = some d → a.tmps[d]? = some (outs i).1) →
      (∀ i, i < m → listed.getD i false = true) → wpAny P .any l.toArray Q fuel listed a w := by
    intro fuel listed outs a w hsz hcl hf h2 ho hs hinv hc
    have hget : ∀ i, i < m → listed[i]? = some true := fun i hi => by
      have hb : i < listed.size := by omega
      have := hc i hi
      rw [Array.getElem?_eq_getElem hb]
      simpa [Array.getD, hb] using this
    have hmade : made outs (fun i => listed.getD i false) m H = made outs (fun _ => true) m H := made_congr _ _ fun i hi => ⟨hc i hi, fun _ => rfl⟩
    rw [hmade] at hs
    obtain ⟨E', hK, ho'⟩ := finals_done (n := n) (ds := ds) (H := H) (outs := outs) (a := a) Φs 0 E0 _ fin (fun j φ hj => by
        have hjm : j < m := by
          rcases Nat.lt_or_ge j m with h | h
          · exact h
          · rw [List.getElem?_eq_none (by omega)] at hj; cases hj
        have := (hinv j hjm (hc j hjm)).1
        rw [hmade, List.getD_eq_getElem?_getD, hj] at this
        simpa [hlen] using this) trivial ho (fun j _ hj d hd => (hinv j (by omega) (hc j (by omega))).2 d hd)
    rw [Nat.zero_add, hlen] at hK
    refine any_of_tail hE fuel m listed a w hsz hcl ?_ (Nat.le_refl _) hget h2 (hK.run a w ho' hs)
    rw [hf]
    have := count_split (l := listed.toList) (m := m) (by simp; omega) (fun i hi => by simpa using hget i hi) (fun i hi hi' => by simpa using h2 i hi (by simpa [hsz] using hi'))
    simpa [hsz] using this
  -- the head's invariant
  have head : ∀ (fuel : Nat) (listed : Array Bool) (outs : Nat → Value × Heap) (a : Act) (w : World), listed.size = l.length → Closed l listed →
      fuel = listed.toList.countP (fun b => !b) → (∀ i, m ≤ i → i < l.length → listed[i]? = some false) → Ok n ds E0 a →
      Sees W (made outs (fun i => listed.getD i false) m H) w →
      (∀ i, i < m → listed.getD i false = true → (Φs.getD i (is undef)) (outs i).1 (outs i).2 (made outs (fun i => listed.getD i false) m H) ∧ ∀ d, dstOf l i = some d → a.tmps[d]? = some (outs i).1) →
      wpAny P .any l.toArray Q fuel listed a w := by
    intro fuel
    induction fuel with
    | zero =>
      intro listed outs a w hsz hcl hf h2 ho hs hinv
      refine complete 0 listed outs a w hsz hcl hf h2 ho hs hinv fun i hi => ?_
      have := List.countP_eq_zero.1 hf.symm
      have hb : i < listed.size := by omega
      have := this listed[i] (by simp [Array.getElem_mem])
      simpa [Array.getD, hb] using this
    | succ fuel ih =>
      intro listed outs a w hsz hcl hf h2 ho hs hinv
      by_cases hc : ∀ i, i < m → listed.getD i false = true
      · exact complete _ listed outs a w hsz hcl hf h2 ho hs hinv hc
      have hex : ∃ i, i < m ∧ ¬ listed.getD i false = true := by
        apply Classical.byContradiction
        intro h
        exact hc fun i hi => Classical.byContradiction fun h' => h ⟨i, hi, h'⟩
      obtain ⟨i0, hi0, hn0, hb0⟩ := least (p := fun i => listed.getD i false = true) m hex
      have hunl : ∀ i, i < l.length → ¬ listed.getD i false = true → listed[i]? = some false := fun i hi h => by
        have hb : i < listed.size := by omega
        rw [Array.getElem?_eq_getElem hb]
        simpa [Array.getD, hb] using h
      refine ⟨fun hr => ?_, fun i hi => ?_⟩
      · have hget : l[i0]? = some l[i0] := List.getElem?_eq_getElem (by omega)
        have : i0 ∈ Region.ready .any l.toArray listed := (ready_iff hsz).2 ⟨by omega, hunl i0 (by omega) hn0, _, hget, fun j hj => hb0 j ((binds_any_mem hE hget).1 j hj)⟩
        rw [hr] at this; cases this
      · obtain ⟨hi1, hi2, o, hoi, hp⟩ := (ready_iff hsz).1 hi
        have him : i < m := by
          rcases Nat.lt_or_ge i m with h | h
          · exact h
          · exact (hn0 (reach_listed hcl 9 i i0 o hoi hp ((binds_any_mem hE hoi).2 h i0 (by omega)))).elim
        have hif : listed.getD i false = false := by rw [Array.getD_eq_getD_getElem?, hi2]; rfl
        have hdst : dstOf l i = o.dst := by simp [dstOf, hoi]
        have step : ∀ v ex w', Sees W (ex ++ made outs (fun i => listed.getD i false) m H) w' → (Φs.getD i (is undef)) v ex (ex ++ made outs (fun i => listed.getD i false) m H) →
            wpAny P .any l.toArray Q fuel (listed.setIfInBounds i true) (a.put o.dst v) w' := by
          intro v ex w' hs' hφ
          have hgd : ∀ j, (listed.setIfInBounds i true).getD j false = (j == i || listed.getD j false) := fun j => by
            rw [Array.getD_eq_getD_getElem?, Array.getElem?_setIfInBounds, Array.getD_eq_getD_getElem?]
            by_cases e : i = j
            · subst e; simp [hsz, hi1]
            · rw [if_neg e]
              have : (j == i) = false := by simp; exact fun h => e h.symm
              simp [this]
          have hperm := made_add (outs := outs) (f := fun j => listed.getD j false) (v, ex) m H him hif
          have hmm : made (fun j => if j = i then (v, ex) else outs j) (fun j => (listed.setIfInBounds i true).getD j false) m H = made (fun j => if j = i then (v, ex) else outs j) (fun j => j == i || listed.getD j false) m H :=
            made_congr _ _ fun j _ => ⟨hgd j, fun _ => rfl⟩
          refine ih _ (fun j => if j = i then (v, ex) else outs j) _ _ (by simpa using hsz) (hcl.set (fun o' ho' j hj => by rw [hoi] at ho'; cases ho'; exact hp j hj) (by omega)) ?_ ?_ ?_ ?_ ?_
          · have := count_set (l := listed.toList) (i := i) (by simpa using hi2)
            simp only [Array.toList_setIfInBounds]
            omega
          · intro j hj hj'
            rw [Array.getElem?_setIfInBounds, if_neg (by omega)]; exact h2 j hj hj'
          · refine ho.put_off (fun d hd => (dsts_get hD him hoi hd).2.1) v
          · rw [hmm]; exact hs'.perm hperm
          · intro j hj hl
            rw [hmm]
            by_cases e : j = i
            · subst e
              rw [if_pos rfl]
              refine ⟨hΦ j hj _ _ _ _ hφ fun e he => (hperm.mem_iff).2 he, fun d hd => ?_⟩
              rw [hdst] at hd
              have := dsts_get hD hj hoi hd
              simp [Act.put, hd, ho.size, this.1]
            · rw [if_neg e]
              have hl' : listed.getD j false = true := by
                rw [hgd j] at hl; simpa [e] using hl
              obtain ⟨h3, h4⟩ := hinv j hj hl'
              refine ⟨hΦ j hj _ _ _ _ h3 fun e he => (hperm.mem_iff).2 (List.mem_append_right _ he), fun d hd => ?_⟩
              cases hod : o.dst with
              | none => exact h4 d hd
              | some d' =>
                have := (dsts_get hD him hoi hod).2.2 j hj e
                have hne : d' ≠ d := fun e => this (by rw [hd, e])
                simp [Act.put, hne, h4 d hd]
        have hpr := prems_get _ 0 prem i o (by simp [him, hoi])
        rw [Nat.zero_add] at hpr
        obtain ⟨E', hst, ho'⟩ := ok_of_withPreds (n := n) (ds := ds) (a := a) (outs := outs) _ _ (hpr _ (made_base m H)) (fun j hj => by
            have hjm : j < m := Nat.lt_trans ((binds_any_mem hE hoi).1 j hj) him
            obtain ⟨h3, h4⟩ := hinv j hjm (hp j hj)
            exact ⟨h3, made_sub m H hjm (hp j hj), h4⟩) ho
        unfold wpOp
        simp only [List.getElem?_toArray, hoi]
        unfold StepG at hst
        split at hst
        · rename_i hg
          rw [if_pos (by simp [Region.wanted, hg])]
          exact .inl (hst.run a w _ Q ho' hs fun v G' w' hs' ⟨ex, hG', hφ⟩ => step v ex w' (hG' ▸ hs') (hG' ▸ hφ))
        · rename_i j want hg
          rcases hst with ⟨dj, b, hdj, hbj, hy, hno⟩ | ⟨dj, hdj, hbj, hno⟩
          · have hyl : yielded l.toArray a.tmps j = some b := by
              have h5 := ho'.get _ _ hbj
              simp only [dstOf] at hdj
              simp [yielded, hdj, h5]
            by_cases hbw : b = want
            · rw [if_pos (by simp [Region.wanted, hg, hyl, hbw])]
              exact .inl ((hy hbw).run a w _ Q ho' hs fun v G' w' hs' ⟨ex, hG', hφ⟩ => step v ex w' (hG' ▸ hs') (hG' ▸ hφ))
            · rw [if_neg (by simp [Region.wanted, hg, hyl, hbw])]
              obtain ⟨ex, hG', hφ⟩ := hno (by cases b <;> cases want <;> simp_all)
              exact step undef ex w (hG' ▸ hs) (hG' ▸ hφ)
          · have hyl : yielded l.toArray a.tmps j = none := by
              have h5 := ho'.get _ _ hbj
              simp only [dstOf] at hdj
              simp [yielded, hdj, h5, undef]
            rw [if_neg (by simp [Region.wanted, hg, hyl])]
            obtain ⟨ex, hG', hφ⟩ := hno
            exact step undef ex w (hG' ▸ hs) (hG' ▸ hφ)
  refine head l.length (Array.replicate l.length false) (fun _ => (undef, [])) a0 _ (by simp) (fun i o _ h => by rw [Array.getD_eq_getD_getElem?, Array.getElem?_replicate] at h; split at h <;> cases h) (by simp [List.countP_replicate]) (fun i _ hi => by simp [hi]) ho0 ?_ ?_
  · rw [made_none]; exact hs0.drew _
  · intro i hi hl
    simp only [Array.getD_eq_getD_getElem?, Array.getElem?_replicate] at hl
    split at hl <;> cases hl
/-! The same in a form that is easy to read at a region written out. -/
def nthPhi : List Phi → Nat → Phi
  | [], _ => is undef
  | φ :: _, 0 => φ
  | _ :: φs, n + 1 => nthPhi φs n
theorem nthPhi_eq : ∀ (Φs : List Phi) (i : Nat), Φs.getD i (is undef) = nthPhi Φs i := by
  intro Φs
  induction Φs with
  | nil => intro i; rfl
  | cons φ Φs ih => intro i; cases i with
    | zero => rfl
    | succ i => simpa [nthPhi] using ih i
def nthDst : List (Option Tmp) → Nat → Option Tmp
  | [], _ => none
  | d :: _, 0 => d
  | _ :: ds, n + 1 => nthDst ds n
theorem nthDst_eq : ∀ (l : List Oper) (i : Nat), dstOf l i = nthDst (l.map (·.dst)) i := by
  intro l
  induction l with
  | nil => intro i; rfl
  | cons o l ih => intro i; cases i with
    | zero => rfl
    | succ i => simpa [nthDst, dstOf] using ih i

def Step2 (P : Program) (W : World) (n : Nat) (ds : List Deferred) (dl : List (Option Tmp)) (o : Oper) (E : Env) (G : Heap) (K : Value → Heap → Prop) : Prop :=
  match o.guard with
  | none => OpT P W n ds o E G K
  | some (j, want) => (∃ dj b, nthDst dl j = some dj ∧ Env.get E dj = some (.bool b) ∧ (b = want → OpT P W n ds o E G K) ∧ (b = !want → K undef G)) ∨ (∃ dj, nthDst dl j = some dj ∧ Env.get E dj = some undef ∧ K undef G)
def with2 (dl : List (Option Tmp)) (Φs : List Phi) (G : Heap) : List Nat → Env → (Env → Prop) → Prop
  | [], E, k => k E
  | j :: js, E, k => ∀ v ex, nthPhi Φs j v ex G → Sub ex G → with2 dl Φs G js (putO (nthDst dl j) v E) k
def Prems2 (P : Program) (W : World) (n : Nat) (ds : List Deferred) (dl : List (Option Tmp)) (Φs : List Phi) (E0 : Env) (H : Heap) : Nat → List Oper → List (List Nat) → Prop
  | i, o :: os, js :: jss => (∀ G, Sub H G → with2 dl Φs G js E0 fun E => Step2 P W n ds dl o E G fun v G' => ∃ ex, G' = ex ++ G ∧ nthPhi Φs i v ex G') ∧ Prems2 P W n ds dl Φs E0 H (i + 1) os jss
  | _, _, _ => True
def Finals2 (dl : List (Option Tmp)) (K : Env → Heap → Prop) : Nat → List Phi → Env → Heap → (Heap → Prop) → Prop
  | _, [], E, G, h => h G → K E G
  | i, φ :: φs, E, G, h => ∀ v ex, Finals2 dl K (i + 1) φs (putO (nthDst dl i) v E) (ex ++ G) (fun G => φ v ex G ∧ h G)

theorem with2_eq {l : List Oper} {Φs : List Phi} {G : Heap} {k : Env → Prop} : ∀ (js : List Nat) (E : Env), with2 (l.map (·.dst)) Φs G js E k = withPreds l (fun i => Φs.getD i (is undef)) G js E k := by
  intro js
  induction js with
  | nil => intro E; rfl
  | cons j js ih =>
    intro E
    simp only [with2, withPreds, nthPhi_eq, ih, nthDst_eq, Sub]

theorem prems2_prems {l : List Oper} {Φs : List Phi} : ∀ (os : List Oper) (i : Nat), Prems2 P W n ds (l.map (·.dst)) Φs E0 H i os (os.map preds) → Prems P W n ds l (fun i => Φs.getD i (is undef)) E0 H i os := by
  intro os
  induction os with
  | nil => intro i _; trivial
  | cons o os ih =>
    intro i h
    refine ⟨fun G hG => ?_, ih _ h.2⟩
    have := h.1 G hG
    rw [with2_eq] at this
    simp only [nthPhi_eq] at this ⊢
    have e : ∀ E K, Step2 P W n ds (l.map (·.dst)) o E G K = StepG P W n ds l o E G K := by
      intro E K; unfold Step2 StepG; simp only [nthDst_eq]
    simp only [e] at this
    exact this

theorem finals2_eq {l : List Oper} {K : Env → Heap → Prop} : ∀ (Φs : List Phi) (i : Nat) (E : Env) (G : Heap) (h : Heap → Prop), Finals2 (l.map (·.dst)) K i Φs E G h = Finals l K i Φs E G h := by
  intro Φs
  induction Φs with
  | nil => intro i E G h; rfl
  | cons φ Φs ih => intro i E G h; simp only [Finals2, Finals, ih, nthDst_eq]

theorem tc_drawn {id : Nat} {l : List Oper} (m : Nat) (Φs : List Phi) (dl : List (Option Tmp)) (prs : List (List Nat)) (hm : P.follows .mixedOrders = true) (hmonos : Monos Φs)
    (prem : Prems2 P W n ds dl Φs E0 H 0 (l.take m) prs)
    (fin : Finals2 dl (fun E G => TL P W n ds l Q (l.drop m) E G) 0 Φs E0 H (fun _ => True))
    (hE : edgesOk l m = true := by exact rfl) (hD : dstsOk l m n E0 = true := by exact rfl)
    (hlen : Φs.length = m := by exact rfl) (hml : m ≤ l.length := by exact Nat.le_of_ble_eq_true rfl) (hdl : l.map (·.dst) = dl := by exact rfl) (hpr : (l.take m).map preds = prs := by exact rfl) :
    TC P W n ds (.region id l.toArray true) Q E0 H := by
  subst hdl
  subst hpr
  exact tc_draw m Φs hm hE hD hlen hml hmonos (prems2_prems _ _ prem) (by rw [← finals2_eq]; exact fin)
end draw

theorem ne_not {b w : Bool} (h : b = w) : ¬ b = !w := by subst h; cases b <;> decide
theorem ne_not2 {b w : Bool} (h : b = !w) : ¬ b = w := by subst h; cases w <;> decide
end Go.Lg
