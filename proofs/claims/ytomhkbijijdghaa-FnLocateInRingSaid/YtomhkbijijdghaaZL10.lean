/-
  Structs of floats compared with ==. No conditions.
-/
import Derived.Laws.StructEq
import Derived.Test.YtomhkbijijdghaaZL5
import Derived.Test.YtomhkbijijdghaaZL7
import Derived.Test.YtomhkbijijdghaaZL8
set_option linter.unusedVariables false
set_option linter.unusedSimpArgs false
namespace Go.Lg

/-- A struct of these fields, all of them floats, one cell each. -/
class FlAgg (P : Program) (t : TypeId) (fs : outParam (List (TypeId × Nat))) : Prop where
  ht : P.underlying t = some (.struct (P.fieldsOf t))
  hp : P.stoodInHeld t = false
  hg : P.eqGuardType P.depth t = false
  hf : (P.fieldsOf t).toList.map (fun f => (f.type, f.offset)) = fs
  hn : (P.fieldsOf t).toList.all (fun f => f.name != "_") = true
  hu : fs.map (fun f => P.underlying f.1) = fs.map (fun _ => some (.float .f64))
theorem run_part_float {P : Program} {e : TypeId} {xs : Array Value} {off : Nat} {v : Value} {w : World} (hu : P.underlying e = some (.float .f64)) (hv : xs[off]? = some v) : (part e xs off).run P w = .ok v w := by
  haveI : Und P e (.float .f64) := ⟨hu⟩
  refine (sem_run_bind P _ _ w _ w (run_isAgg (t := e) w)).trans ?_
  show Sem.run P (match xs[off]? with | some v => pure v | none => _) w = _
  rw [hv]; rfl
theorem run_equalIn_float {P : Program} {e : TypeId} {d a b : Nat} {w : World} (hu : P.underlying e = some (.float .f64)) : (Op.equalIn (d + 1) e (.float .f64 a) (.float .f64 b)).run P w = .ok (fcmp .eql a b) w := by
  have h : fcmp .eql a b = Op.floatEq .f64 a b := by rw [fcmp_def]; rfl
  rw [h]
  haveI : Und P e (.float .f64) := ⟨hu⟩
  exact (sem_run_bind P _ _ w _ w (Go.Lg.run_underlying (t := e) w)).trans rfl
/-- All pairs are equal. -/
noncomputable def eqAll : List (Nat × Nat) → Bool
  | [] => true
  | (a, b) :: l => fcmp .eql a b && eqAll l
theorem run_eqFields_fl {P : Program} {d : Nat} {xs ys : Array Value} {w : World} : ∀ (fs : List Field) (ps : List (Nat × Nat)), fs.all (fun f => f.name != "_") = true →
    fs.map (fun f => P.underlying f.type) = fs.map (fun _ => some (.float .f64)) → fs.map (fun f => (xs[f.offset]?, ys[f.offset]?)) = ps.map (fun p => (some (.float .f64 p.1), some (.float .f64 p.2))) →
    (Op.eqFields (d + 1) xs ys fs).run P w = .ok (eqAll ps) w
  | [], ps, _, _, h => by
    have : ps = [] := by cases ps with | nil => rfl | cons => simp at h
    subst this; rfl
  | f :: fs, [], _, _, h => by simp at h
  | f :: fs, (a, b) :: ps, hn, hu, h => by
    simp only [List.map_cons, List.cons.injEq, Prod.mk.injEq] at h hu
    simp only [List.all_cons, Bool.and_eq_true, bne_iff_ne, ne_eq] at hn
    obtain ⟨⟨h1, h2⟩, h3⟩ := h
    unfold Op.eqFields
    rw [if_pos hn.1]
    refine (sem_run_bind P _ _ w _ w (run_part_float hu.1 h1)).trans ?_
    refine (sem_run_bind P _ _ w _ w (run_part_float hu.1 h2)).trans ?_
    refine (sem_run_bind P _ _ w _ w (run_equalIn_float hu.1)).trans ?_
    have ih := run_eqFields_fl fs ps (by simpa using hn.2) hu.2 h3 (d := d) (w := w)
    unfold eqAll
    cases fcmp .eql a b with
    | true => simpa using ih
    | false => simp
section
variable {P : Program} {W : World} {n : Nat} {ds : List Deferred} {dst : Option Tmp} {ty : TypeId} {pos : String} {af : Array Edge} {g : Option (Nat × Bool)} {E : Env} {G : Heap} {K : Value → Heap → Prop}
theorem op_aggeq {t t2 x y fs xs ys} [h : FlAgg P t fs] (ps : List (Nat × Nat)) (hk : K (.bool (eqAll ps)) G) (hx : evalE E x = some (.agg ⟨xs⟩) := by exact rfl) (hy : evalE E y = some (.agg ⟨ys⟩) := by exact rfl)
    (hps : fs.map (fun f => (xs[f.2]?, ys[f.2]?)) = ps.map (fun p => (some (Value.float .f64 p.1), some (Value.float .f64 p.2))) := by exact rfl) : OpT P W n ds ⟨dst, .binOp .eql t x y t2, ty, pos, af, g⟩ E G K :=
  op_of_run (fun a w ho _ => by
    simp only [execOp, ho.eval hx, ho.eval hy]
    refine run_v ?_
    refine (sem_run_bind P _ _ w () w (run_eqGuard_agg w .eql t x y ⟨xs⟩ ⟨ys⟩ h.hg)).trans ?_
    rw [run_eql_struct]
    have e : (10000 : Nat) = 9998 + 1 + 1 := rfl
    rw [e, run_equalIn_struct w (9998 + 1) t ⟨xs⟩ ⟨ys⟩ h.ht h.hp]
    have hf := h.hf
    have hu := h.hu
    rw [← hf] at hu hps
    simp only [List.map_map, Function.comp_def] at hu hps
    rw [run_eqFields_fl (P.fieldsOf t).toList ps h.hn hu (by simpa using hps)]
    rfl) hk
end
end Go.Lg

set_option linter.unusedVariables false
set_option linter.unusedSimpArgs false
namespace Go.Lg
class MethP (P : Program) (t : TypeId) (name : String) (f : outParam FuncId) (o : outParam Nat) : Prop where
  eq : ∀ (k off : Nat) (args : Array Value) (w : World), (callMethod (.iface t (.pointer (some ⟨k, off, none⟩))) name args).run P w = .ok (.enter f (#[.pointer (some ⟨k, off + o, none⟩)] ++ args)) w
class AssertYes (P : Program) (t : TypeId) : Prop where
  eq : ∀ (v : Value) (w : World) (xt : TypeId), (Instr.typeAssert (.iface t v) xt t true).run P w = .ok (.tuple #[v, .bool true]) w
class AssertNo (P : Program) (dt t : TypeId) : Prop where
  eq : ∀ (v : Value) (w : World) (xt : TypeId), (Instr.typeAssert (.iface dt v) xt t true).run P w = .ok (.tuple #[.pointer none, .bool false]) w
section
variable {P : Program} {W : World} {n : Nat} {ds : List Deferred} {dst : Option Tmp} {ty : TypeId} {pos : String} {af : Array Edge} {g : Option (Nat × Bool)} {E : Env} {G : Heap} {K : Value → Heap → Prop}
theorem op_invokeP {x nm t f o k off args vs at'} [h : MethP P t nm f o] [Enters P f] (hd : Does P f (.pointer (some ⟨k, off + o, none⟩) :: vs) G K) (hx : evalE E x = some (.iface t (.pointer (some ⟨k, off, none⟩))) := by exact rfl) (hv : evalAll E args = some vs := by exact rfl) :
    OpT P W n ds ⟨dst, .call { callee := .invoke x nm, args := ⟨args⟩, argTypes := at' }, ty, pos, af, g⟩ E G K := by
  refine ⟨fun a' w next Q ho hs hn => ?_⟩
  have he : args.map a'.eval = vs := by
    clear hd hn
    induction args generalizing vs with
    | nil => simp [evalAll] at hv; simp [← hv]
    | cons x xs ih =>
      simp only [evalAll] at hv
      cases h1 : evalE E x with
      | none => simp [h1] at hv
      | some v =>
        cases h2 : evalAll E xs with
        | none => simp [h1, h2] at hv
        | some us =>
          simp [h1, h2] at hv
          subst hv
          simp [ho.eval h1, ih h2]
  have hr : (execOp a'.eval ⟨dst, .call { callee := .invoke x nm, args := ⟨args⟩, argTypes := at' }, ty, pos, af, g⟩).run P w = (callFunc f ⟨.pointer (some ⟨k, off + o, none⟩) :: vs⟩).run P w := by
    rw [run_callFunc]
    simp only [execOp, resolve, ho.eval hx, List.map_toArray, he]
    refine (sem_run_bind P _ _ w _ w rfl).trans ?_
    have e1 : invoke (.fn (.method nm) #[]) (#[.iface t (.pointer (some ⟨k, off, none⟩))] ++ vs.toArray) = callMethod (.iface t (.pointer (some ⟨k, off, none⟩))) nm ⟨vs⟩ := by
      simp [invoke]
    show (invoke (.fn (.method nm) #[]) (#[.iface t (.pointer (some ⟨k, off, none⟩))] ++ vs.toArray)).run P w = _
    rw [e1, h.eq k off ⟨vs⟩ w]
    simp
  rw [hr]
  exact hd.run W w hs _ a' next Q hn
theorem op_assertYes {t xt x v} [h : AssertYes P t] (hk : K (.tuple #[v, .bool true]) G) (hx : evalE E x = some (.iface t v) := by exact rfl) :
    OpT P W n ds ⟨dst, .typeAssert x xt t true, ty, pos, af, g⟩ E G K :=
  op_of_run (fun a w ho _ => by
    simp only [execOp, ho.eval hx]
    exact run_v (h.eq v w xt)) hk
theorem op_assertNo {t dt xt x v} [h : AssertNo P dt t] (hk : K (.tuple #[.pointer none, .bool false]) G) (hx : evalE E x = some (.iface dt v) := by exact rfl) :
    OpT P W n ds ⟨dst, .typeAssert x xt t true, ty, pos, af, g⟩ E G K :=
  op_of_run (fun a w ho _ => by
    simp only [execOp, ho.eval hx]
    exact run_v (h.eq v w xt)) hk
end
end Go.Lg

set_option linter.unusedVariables false
set_option linter.unusedSimpArgs false
namespace Go.Lg

theorem wrap_mulN {i s : Nat} (h : i * s < 9223372036854775808) : IntKind.i64.wrap (iarith .mul (i : Int) (s : Int)) = ((i * s : Nat) : Int) := by
  have e : iarith .mul (i : Int) (s : Int) = ((i * s : Nat) : Int) := by show (i : Int) * s = _; rw [Int.natCast_mul]
  rw [e]
  exact wrap_in (by omega) (by omega)
theorem wrap_addN {i s : Nat} (h : i + s < 9223372036854775808) : IntKind.i64.wrap (iarith .add (i : Int) (s : Int)) = ((i + s : Nat) : Int) := by
  have e : iarith .add (i : Int) (s : Int) = ((i + s : Nat) : Int) := by show (i : Int) + s = _; omega
  rw [e]
  exact wrap_in (by omega) (by omega)
theorem MidC.mem {G : Heap} {k : Nat} {o : Obj} {R : Heap} (h : MidC G k o R) : (k, o) ∈ G := h.perm.mem_iff.2 List.mem_cons_self
/-- A result in a variable that is found anywhere in the memory. -/
theorem rv_cell {P : Program} {E : Env} {G : Heap} {t T d k off l S fz v R} [Und P T d] (hx : Env.get E t = some (.pointer (some ⟨k, off, none⟩))) [hm : MidC G k (Obj.cells ⟨l⟩ S fz) R] (hd : TypeDesc.isAgg d = false := by exact rfl) (hv : l[off]? = some v := by exact rfl) : RV P E G (.cell t T) v := .cell hd hx hm.mem hv
theorem rv_agg {P : Program} {E : Env} {G : Heap} {t T d s b z k off l S fz m R} [Und P T d] [Inf P T s b z] (hx : Env.get E t = some (.pointer (some ⟨k, off, none⟩))) [hm : MidC G k (Obj.cells ⟨l⟩ S fz) R] (hd : TypeDesc.isAgg d = true := by exact rfl)
    (hv : (l.drop off).take s = m := by first | (simp only [setCells, List.set_cons_zero, List.set_cons_succ, List.take_succ_cons, List.take_zero, List.drop_zero, List.drop_succ_cons, Nat.zero_add, Nat.add_zero, Nat.reduceAdd]; exact rfl) | exact rfl) (hl : m.length = s := by exact rfl) : RV P E G (.cell t T) (.agg ⟨m⟩) := .agg hd hx hm.mem hv hl
section
variable {P : Program} {W : World} {n : Nat} {ds : List Deferred} {dst : Option Tmp} {ty : TypeId} {pos : String} {af : Array Edge} {g : Option (Nat × Bool)} {E : Env} {G H : Heap} {K : Value → Heap → Prop}
/-- A load of a block that lies anywhere in a memory that this one holds. -/
theorem op_loadH {t d x k off l T fz v R} [Und P t d] (hs : Sub H G) (hx : evalE E x = some (.pointer (some ⟨k, off, none⟩))) [hm : MidC H k (Obj.cells ⟨l⟩ T fz) R] (hk : K v G) (hd : TypeDesc.isAgg d = false := by exact rfl) (hv : l[off]? = some v := by first | exact rfl | assumption) : OpT P W n ds ⟨dst, .load t x, ty, pos, af, g⟩ E G K :=
  op_load hk hx hd (hs _ hm.mem) hv
theorem op_load_aggH {t d s b z x k off l T fz m R} [Und P t d] [Inf P t s b z] (hs : Sub H G) (hx : evalE E x = some (.pointer (some ⟨k, off, none⟩))) [hm : MidC H k (Obj.cells ⟨l⟩ T fz) R] (hk : K (.agg ⟨m⟩) G) (hd : TypeDesc.isAgg d = true := by exact rfl) (hv : (l.drop off).take s = m := by first | assumption | (simp only [setCells, List.set_cons_zero, List.set_cons_succ, List.take_succ_cons, List.take_zero, List.drop_zero, List.drop_succ_cons, Nat.zero_add, Nat.add_zero, Nat.reduceAdd]; exact rfl) | exact rfl) (hlen : m.length = s := by exact rfl) : OpT P W n ds ⟨dst, .load t x, ty, pos, af, g⟩ E G K :=
  op_load_agg hk hx hd (hs _ hm.mem) hv hlen
end
/-- A part of the memory, as0 a list: found in the whole by instances. -/
class InC (e G : Heap) : Prop where
  sub : ∀ x ∈ e, x ∈ G
instance (priority := 2000) inHere {e : Heap} : InC e e := ⟨fun _ h => h⟩
instance (priority := 1900) inLeft {e M : Heap} : InC e (e ++ M) := ⟨fun _ h => List.mem_append_left _ h⟩
instance (priority := 1500) inApp {e d M : Heap} [h : InC e M] : InC e (d ++ M) := ⟨fun x hx => List.mem_append_right _ (h.sub x hx)⟩
instance (priority := 1000) inCons {e : Heap} {a : Nat × Obj} {M : Heap} [h : InC e M] : InC e (a :: M) := ⟨fun x hx => List.mem_cons_of_mem _ (h.sub x hx)⟩
/-- The memory is forgotten, but for some facts. -/
theorem tc_forget {P : Program} {W : World} {n : Nat} {ds : List Deferred} {c : Code} {Q : Exit → Act → World → Prop} {E : Env} {G : Heap} (p : Heap → Prop) (hp : p G) (h : ∀ G, p G → TC P W n ds c Q E G) : TC P W n ds c Q E G := h G hp
theorem tl_forget {P : Program} {W : World} {n : Nat} {ds : List Deferred} {ops l : List Oper} {Q : Exit → Act → World → Prop} {E : Env} {G : Heap} (p : Heap → Prop) (hp : p G) (h : ∀ G, p G → TL P W n ds ops Q l E G) : TL P W n ds ops Q l E G := h G hp
theorem ins {e G : Heap} [h : InC e G] : ∀ x ∈ e, x ∈ G := h.sub
end Go.Lg

set_option linter.unusedVariables false
set_option linter.unusedSimpArgs false
namespace Go.Lg
section draw
variable {P : Program} {W : World} {n : Nat} {ds : List Deferred} {Q : Exit → Act → World → Prop} {E0 : Env} {H : Heap}

inductive PhiD where
  | is (v : Value)
  | fresh (f : Nat → Value) (o : Obj)
  | gen (φ : Phi)
def PhiD.phi : PhiD → Phi
  | .is v => Lg.is v
  | .fresh f o => Lg.fresh f o
  | .gen φ => φ
def nthD : List PhiD → Nat → PhiD
  | [], _ => .is undef
  | p :: _, 0 => p
  | _ :: ps, k + 1 => nthD ps k
def MonosD : List PhiD → Prop
  | [] => True
  | .is _ :: r => MonosD r
  | .fresh _ _ :: r => MonosD r
  | .gen φ :: r => Phi.Mono φ ∧ MonosD r
def withD (dl : List (Option Tmp)) (Φs : List PhiD) (G : Heap) : List Nat → Env → (Env → Prop) → Prop
  | [], E, k => k E
  | j :: js, E, k => match nthD Φs j with
    | .is v => withD dl Φs G js (putO (nthDst dl j) v E) k
    | .fresh f o => ∀ b, (b, o) ∈ G → withD dl Φs G js (putO (nthDst dl j) (f b) E) k
    | .gen φ => ∀ v ex, φ v ex G → Sub ex G → withD dl Φs G js (putO (nthDst dl j) v E) k
def postD : PhiD → Value → Heap → Heap → Prop
  | .is v0, v, ex, _ => v = v0 ∧ ex = []
  | .fresh f o, v, ex, _ => ∃ k, v = f k ∧ ex = [(k, o)]
  | .gen φ, v, ex, G => φ v ex G
def PremsD (P : Program) (W : World) (n : Nat) (ds : List Deferred) (dl : List (Option Tmp)) (Φs : List PhiD) (E0 : Env) (H : Heap) : Nat → List Oper → List (List Nat) → Prop
  | i, o :: os, js :: jss => (∀ G, Sub H G → withD dl Φs G js E0 fun E => Step2 P W n ds dl o E G fun v G' => ∃ ex, G' = ex ++ G ∧ postD (nthD Φs i) v ex G') ∧ PremsD P W n ds dl Φs E0 H (i + 1) os jss
  | _, _, _ => True
def FinalsD (dl : List (Option Tmp)) (K : Env → Heap → Prop) : Nat → List PhiD → Env → Heap → (Heap → Prop) → Prop
  | _, [], E, G, h => h G → K E G
  | i, .is v :: φs, E, G, h => FinalsD dl K (i + 1) φs (putO (nthDst dl i) v E) G h
  | i, .fresh f o :: φs, E, G, h => ∀ b, FinalsD dl K (i + 1) φs (putO (nthDst dl i) (f b) E) ((b, o) :: G) h
  | i, .gen φ :: φs, E, G, h => ∀ v ex, FinalsD dl K (i + 1) φs (putO (nthDst dl i) v E) (ex ++ G) (fun G => φ v ex G ∧ h G)

theorem nthD_phi : ∀ (Φs : List PhiD) (j : Nat), nthPhi (Φs.map PhiD.phi) j = (nthD Φs j).phi
  | [], _ => rfl
  | _ :: _, 0 => rfl
  | _ :: ps, k + 1 => nthD_phi ps k
theorem postD_eq (p : PhiD) (v : Value) (ex G : Heap) : postD p v ex G = p.phi v ex G := by cases p <;> rfl
theorem monosD : ∀ {Φs : List PhiD}, MonosD Φs → Monos (Φs.map PhiD.phi)
  | [], _ => trivial
  | .is v :: r, h => ⟨is_mono v, monosD (Φs := r) h⟩
  | .fresh f o :: r, h => ⟨fresh_mono f o, monosD (Φs := r) h⟩
  | .gen φ :: r, h => ⟨h.1, monosD (Φs := r) h.2⟩
theorem withD_with2 {dl : List (Option Tmp)} {Φs : List PhiD} {G : Heap} {k : Env → Prop} : ∀ (js : List Nat) (E : Env), withD dl Φs G js E k → with2 dl (Φs.map PhiD.phi) G js E k
  | [], E, h => h
  | j :: js, E, h => by
    intro v ex hφ hs
    rw [nthD_phi] at hφ
    unfold withD at h
    cases hj : nthD Φs j with
    | is v0 =>
      rw [hj] at hφ h
      obtain ⟨rfl, rfl⟩ := hφ
      exact withD_with2 js _ h
    | fresh f o =>
      rw [hj] at hφ h
      obtain ⟨b, rfl, rfl⟩ := hφ
      exact withD_with2 js _ (h b (hs _ List.mem_cons_self))
    | gen φ =>
      rw [hj] at hφ h
      exact withD_with2 js _ (h v ex hφ hs)
theorem finals2_mono {dl : List (Option Tmp)} {K : Env → Heap → Prop} : ∀ (Φs : List Phi) (i : Nat) (E : Env) (G : Heap) (h h' : Heap → Prop), (∀ G, h' G → h G) → Finals2 dl K i Φs E G h → Finals2 dl K i Φs E G h'
  | [], _, _, _, _, _, hm, hf => fun hh => hf (hm _ hh)
  | _ :: φs, i, E, G, h, h', hm, hf => fun v ex => finals2_mono φs _ _ _ _ _ (fun G hg => ⟨hg.1, hm G hg.2⟩) (hf v ex)
theorem finals2_no {dl : List (Option Tmp)} {K : Env → Heap → Prop} : ∀ (Φs : List Phi) (i : Nat) (E : Env) (G : Heap) (h : Heap → Prop), (∀ G, ¬ h G) → Finals2 dl K i Φs E G h
  | [], _, _, G, _, hn => fun hh => (hn G hh).elim
  | _ :: φs, i, E, G, h, hn => fun v ex => finals2_no φs _ _ _ _ fun G hg => hn G hg.2
theorem finalsD_finals2 {dl : List (Option Tmp)} {K : Env → Heap → Prop} : ∀ (Φs : List PhiD) (i : Nat) (E : Env) (G : Heap) (h : Heap → Prop), FinalsD dl K i Φs E G h → Finals2 dl K i (Φs.map PhiD.phi) E G h
  | [], _, _, _, _, hf => hf
  | .is v0 :: φs, i, E, G, h, hf => by
    intro v ex
    by_cases hv : v = v0 ∧ ex = []
    · obtain ⟨rfl, rfl⟩ := hv
      exact finals2_mono _ _ _ _ _ _ (fun G hg => hg.2) (finalsD_finals2 φs _ _ _ _ hf)
    · exact finals2_no _ _ _ _ _ fun G hg => hv hg.1
  | .fresh f o :: φs, i, E, G, h, hf => by
    intro v ex
    by_cases hv : ∃ k, v = f k ∧ ex = [(k, o)]
    · obtain ⟨k, rfl, rfl⟩ := hv
      exact finals2_mono _ _ _ _ _ _ (fun G hg => hg.2) (finalsD_finals2 φs _ _ _ _ (hf k))
    · exact finals2_no _ _ _ _ _ fun G hg => hv hg.1
  | .gen φ :: φs, i, E, G, h, hf => fun v ex => finalsD_finals2 φs _ _ _ _ (hf v ex)
theorem premsD_prems2 {dl : List (Option Tmp)} {Φs : List PhiD} : ∀ (os : List Oper) (i : Nat) (jss : List (List Nat)), PremsD P W n ds dl Φs E0 H i os jss → Prems2 P W n ds dl (Φs.map PhiD.phi) E0 H i os jss
  | [], _, _, _ => by unfold Prems2; trivial
  | o :: os, i, [], _ => trivial
  | o :: os, i, js :: jss, h => by
    refine ⟨fun G hG => ?_, premsD_prems2 os _ jss h.2⟩
    have := withD_with2 js E0 (h.1 G hG)
    simp only [postD_eq, ← nthD_phi] at this
    exact this

theorem tc_drawnD {id : Nat} {l : List Oper} (m : Nat) (Φs : List PhiD) (dl : List (Option Tmp)) (prs : List (List Nat)) (hm : P.follows .mixedOrders = true) (hmonos : MonosD Φs)
    (prem : PremsD P W n ds dl Φs E0 H 0 (l.take m) prs)
    (fin : FinalsD dl (fun E G => TL P W n ds l Q (l.drop m) E G) 0 Φs E0 H (fun _ => True))
    (hE : edgesOk l m = true := by exact rfl) (hD : dstsOk l m n E0 = true := by exact rfl)
    (hlen : Φs.length = m := by exact rfl) (hml : m ≤ l.length := by exact Nat.le_of_ble_eq_true rfl) (hdl : l.map (·.dst) = dl := by exact rfl) (hpr : (l.take m).map preds = prs := by exact rfl) :
    TC P W n ds (.region id l.toArray true) Q E0 H :=
  tc_drawn m (Φs.map PhiD.phi) dl prs hm (monosD hmonos) (premsD_prems2 _ _ _ prem) (finalsD_finals2 _ _ _ _ _ fin) hE hD (by rw [List.length_map]; exact hlen) hml hdl hpr
end draw
end Go.Lg

set_option linter.unusedVariables false
set_option linter.unusedSimpArgs false
namespace Go.Lg
section draw
variable {P : Program} {W : World} {n : Nat} {ds : List Deferred} {Q : Exit → Act → World → Prop} {E0 : Env} {H H' R : Heap}

/-- A word on a value that does not look at memory. -/
def Phi.Const (φ : Phi) : Prop := ∀ v ex G G', φ v ex G → φ v ex G'
def Consts : List Phi → Prop
  | [] => True
  | φ :: φs => Phi.Const φ ∧ Consts φs
theorem Consts.all {φs : List Phi} (h : Consts φs) : ∀ φ ∈ φs, Phi.Const φ := by
  induction φs with
  | nil => intro φ h; cases h
  | cons x xs ih =>
    intro φ hφ
    cases hφ with
    | head => exact h.1
    | tail _ h' => exact ih h.2 φ h'
theorem is_const (v0 : Value) : Phi.Const (is v0) := fun _ _ _ _ h => h
theorem fresh_const (f : Nat → Value) (o : Obj) : Phi.Const (fresh f o) := fun _ _ _ _ h => h
theorem some_const (p : Value → Heap → Prop) : Phi.Const (some' p) := fun _ _ _ _ h => h

theorem made_app (outs : Nat → Value × Heap) (f : Nat → Bool) (m : Nat) (H : Heap) : made outs f m H = made outs f m [] ++ H := by
  induction m with
  | zero => rfl
  | succ m ih => simp only [made]; rw [ih, List.append_assoc]

/-- Of operation i: 1: ahead of the store (number s), 2: behind it, 3: the store, 0: it does not look at what the store writes. -/
def clsOk (l : List Oper) (m s : Nat) (cls : List Nat) : Bool :=
  decide (s < m) && (List.range m).all fun i => match cls[i]? with
    | some 3 => i == s && (match l[i]? with | some o => o.guard.isNone | none => false)
    | some 1 => i != s && reachB l 9 s i
    | some 2 => i != s && reachB l 9 i s
    | some _ => i != s
    | none => false

def PremS (P : Program) (W : World) (n : Nat) (ds : List Deferred) (l : List Oper) (Φ : Nat → Phi) (E0 : Env) (R H H' : Heap) (i : Nat) (o : Oper) (c : Nat) : Prop :=
  match c with
  | 3 => ∀ ex, withPreds l Φ (ex ++ H) (preds o) E0 fun E => OpT P W n ds o E (ex ++ H) fun v G' => G' = ex ++ H' ∧ Φ i v [] G'
  | 1 => ∀ G, (∀ e ∈ H, e ∈ G) → withPreds l Φ G (preds o) E0 fun E => StepG P W n ds l o E G fun v G' => ∃ ex, G' = ex ++ G ∧ Φ i v ex G'
  | 2 => ∀ G, (∀ e ∈ H', e ∈ G) → withPreds l Φ G (preds o) E0 fun E => StepG P W n ds l o E G fun v G' => ∃ ex, G' = ex ++ G ∧ Φ i v ex G'
  | _ => ∀ G, (∀ e ∈ R, e ∈ G) → withPreds l Φ G (preds o) E0 fun E => StepG P W n ds l o E G fun v G' => ∃ ex, G' = ex ++ G ∧ Φ i v ex G'

theorem reach_lt {l : List Oper} {m : Nat} (hE : edgesOk l m = true) : ∀ (k i j : Nat), reachB l k i j = true → j < i := by
  intro k
  induction k with
  | zero => intro i j h; cases h
  | succ k ih =>
    intro i j h
    unfold reachB at h
    cases ho : l[i]? with
    | none => rw [ho] at h; cases h
    | some o =>
      rw [ho] at h
      simp only [Bool.or_eq_true, List.any_eq_true, List.contains_iff_mem] at h
      have hb := (binds_any_mem hE ho).1
      rcases h with h | ⟨p, hp, h⟩
      · exact hb j h
      · exact Nat.lt_trans (ih p j h) (hb p hp)

/-- The listed operations are closed: what is listed has all that it reaches. -/
theorem listed_reach {l : List Oper} {listed : Array Bool} (hc : Closed l listed) (k i j : Nat) (hi : listed.getD i false = true) (hr : reachB l k i j = true) : listed.getD j false = true := by
  cases k with
  | zero => cases hr
  | succ k =>
    cases ho : l[i]? with
    | none => unfold reachB at hr; rw [ho] at hr; cases hr
    | some o => exact reach_listed hc (k + 1) i j o ho (hc i o ho hi) hr

theorem tc_drawS {id : Nat} {l : List Oper} (m s : Nat) (Φs : List Phi) (cls : List Nat) (hm : P.follows .mixedOrders = true) (hE : edgesOk l m = true) (hD : dstsOk l m n E0 = true)
    (hlen : Φs.length = m) (hml : m ≤ l.length) (hcst : Consts Φs) (hcl0 : clsOk l m s cls = true) (hRH : Sub R H) (hRH' : Sub R H')
    (prem : ∀ i o c, i < m → l[i]? = some o → cls[i]? = some c → PremS P W n ds l (fun i => Φs.getD i (is undef)) E0 R H H' i o c)
    (fin : Finals l (fun E G => TL P W n ds l Q (l.drop m) E G) 0 Φs E0 H' (fun _ => True)) :
    TC P W n ds (.region id l.toArray true) Q E0 H := by
  have hconst := hcst.all
  simp only [clsOk, Bool.and_eq_true, decide_eq_true_eq, List.all_eq_true, List.mem_range] at hcl0
  obtain ⟨hsm, hcl1⟩ := hcl0
  refine ⟨fun a0 w0 ho0 hs0 => ?_⟩
  refine wp_region_any hm ?_
  have hΦ : ∀ i, i < m → Phi.Const (Φs.getD i (is undef)) := fun i hi => by
    rw [List.getD_eq_getElem?_getD, List.getElem?_eq_getElem (by omega)]
    exact hconst _ (List.getElem_mem _)
  let B : Bool → Heap := fun b => if b then H' else H
  have complete : ∀ (fuel : Nat) (listed : Array Bool) (outs : Nat → Value × Heap) (a : Act) (w : World), listed.size = l.length → Closed l listed →
      fuel = listed.toList.countP (fun b => !b) → (∀ i, m ≤ i → i < l.length → listed[i]? = some false) → Ok n ds E0 a →
      Sees W (made outs (fun i => listed.getD i false) m (B (listed.getD s false))) w →
      (∀ i, i < m → listed.getD i false = true → (∀ G, (Φs.getD i (is undef)) (outs i).1 (outs i).2 G) ∧ ∀ d, dstOf l i = some d → a.tmps[d]? = some (outs i).1) →
      (∀ i, i < m → listed.getD i false = true) → wpAny P .any l.toArray Q fuel listed a w := by
    intro fuel listed outs a w hsz hcl hf h2 ho hs hinv hc
    have hget : ∀ i, i < m → listed[i]? = some true := fun i hi => by
      have hb : i < listed.size := by omega
      have := hc i hi
      rw [Array.getElem?_eq_getElem hb]
      simpa [Array.getD, hb] using this
    rw [hc s hsm] at hs
    have hmade : made outs (fun i => listed.getD i false) m (B true) = made outs (fun _ => true) m H' := made_congr _ _ fun i hi => ⟨hc i hi, fun _ => rfl⟩
    rw [hmade] at hs
    obtain ⟨E', hK, ho'⟩ := finals_done (n := n) (ds := ds) (H := H') (outs := outs) (a := a) Φs 0 E0 _ fin (fun j φ hj => by
        have hjm : j < m := by
          rcases Nat.lt_or_ge j m with h | h
          · exact h
          · rw [List.getElem?_eq_none (by omega)] at hj; cases hj
        have := (hinv j hjm (hc j hjm)).1 (made outs (fun _ => true) (0 + Φs.length) H')
        rw [List.getD_eq_getElem?_getD, hj] at this
        simpa using this) trivial ho (fun j _ hj d hd => (hinv j (by omega) (hc j (by omega))).2 d hd)
    rw [Nat.zero_add, hlen] at hK
    refine any_of_tail hE fuel m listed a w hsz hcl ?_ (Nat.le_refl _) hget h2 (hK.run a w ho' hs)
    rw [hf]
    have := count_split (l := listed.toList) (m := m) (by simp; omega) (fun i hi => by simpa using hget i hi) (fun i hi hi' => by simpa using h2 i hi (by simpa [hsz] using hi'))
    simpa [hsz] using this
  have head : ∀ (fuel : Nat) (listed : Array Bool) (outs : Nat → Value × Heap) (a : Act) (w : World), listed.size = l.length → Closed l listed →
      fuel = listed.toList.countP (fun b => !b) → (∀ i, m ≤ i → i < l.length → listed[i]? = some false) → Ok n ds E0 a →
      Sees W (made outs (fun i => listed.getD i false) m (B (listed.getD s false))) w →
      (∀ i, i < m → listed.getD i false = true → (∀ G, (Φs.getD i (is undef)) (outs i).1 (outs i).2 G) ∧ ∀ d, dstOf l i = some d → a.tmps[d]? = some (outs i).1) →
      wpAny P .any l.toArray Q fuel listed a w := by
    intro fuel
    induction fuel with
    | zero =>
      intro listed outs a w hsz hcl hf h2 ho hs hinv
      refine complete 0 listed outs a w hsz hcl hf h2 ho hs hinv fun i hi => ?_
      have := List.countP_eq_zero.1 hf.symm
      have hb : i < listed.size := by omega
      have := this listed[i] (by simp [Array.getElem_mem])
      simpa [Array.getD, hb] using this
    | succ fuel ih =>
      intro listed outs a w hsz hcl hf h2 ho hs hinv
      by_cases hc : ∀ i, i < m → listed.getD i false = true
      · exact complete _ listed outs a w hsz hcl hf h2 ho hs hinv hc
      have hex : ∃ i, i < m ∧ ¬ listed.getD i false = true := by
        apply Classical.byContradiction
        intro h
        exact hc fun i hi => Classical.byContradiction fun h' => h ⟨i, hi, h'⟩
      obtain ⟨i0, hi0, hn0, hb0⟩ := least (p := fun i => listed.getD i false = true) m hex
      have hunl : ∀ i, i < l.length → ¬ listed.getD i false = true → listed[i]? = some false := fun i hi h => by
        have hb : i < listed.size := by omega
        rw [Array.getElem?_eq_getElem hb]
        simpa [Array.getD, hb] using h
      refine ⟨fun hr => ?_, fun i hi => ?_⟩
      · have hget : l[i0]? = some l[i0] := List.getElem?_eq_getElem (by omega)
        have : i0 ∈ Region.ready .any l.toArray listed := (ready_iff hsz).2 ⟨by omega, hunl i0 (by omega) hn0, _, hget, fun j hj => hb0 j ((binds_any_mem hE hget).1 j hj)⟩
        rw [hr] at this; cases this
      · obtain ⟨hi1, hi2, o, hoi, hp⟩ := (ready_iff hsz).1 hi
        have him : i < m := by
          rcases Nat.lt_or_ge i m with h | h
          · exact h
          · exact (hn0 (reach_listed hcl 9 i i0 o hoi hp ((binds_any_mem hE hoi).2 h i0 (by omega)))).elim
        have hif : listed.getD i false = false := by rw [Array.getD_eq_getD_getElem?, hi2]; rfl
        have hdst : dstOf l i = o.dst := by simp [dstOf, hoi]
        have hgd : ∀ j, (listed.setIfInBounds i true).getD j false = (j == i || listed.getD j false) := fun j => by
          rw [Array.getD_eq_getD_getElem?, Array.getElem?_setIfInBounds, Array.getD_eq_getD_getElem?]
          by_cases e : i = j
          · subst e; simp [hsz, hi1]
          · rw [if_neg e]
            have : (j == i) = false := by simp; exact fun h => e h.symm
            simp [this]
        have step : ∀ v ex w', Sees W (ex ++ made outs (fun i => listed.getD i false) m (B ((listed.setIfInBounds i true).getD s false))) w' → (∀ G, (Φs.getD i (is undef)) v ex G) →
            wpAny P .any l.toArray Q fuel (listed.setIfInBounds i true) (a.put o.dst v) w' := by
          intro v ex w' hs' hφ
          have hperm := made_add (outs := outs) (f := fun j => listed.getD j false) (v, ex) m (B ((listed.setIfInBounds i true).getD s false)) him hif
          have hmm : ∀ HH, made (fun j => if j = i then (v, ex) else outs j) (fun j => (listed.setIfInBounds i true).getD j false) m HH = made (fun j => if j = i then (v, ex) else outs j) (fun j => j == i || listed.getD j false) m HH :=
            fun HH => made_congr _ _ fun j _ => ⟨hgd j, fun _ => rfl⟩
          refine ih _ (fun j => if j = i then (v, ex) else outs j) _ _ (by simpa using hsz) (hcl.set (fun o' ho' j hj => by rw [hoi] at ho'; cases ho'; exact hp j hj) (by omega)) ?_ ?_ ?_ ?_ ?_
          · have := count_set (l := listed.toList) (i := i) (by simpa using hi2)
            simp only [Array.toList_setIfInBounds]
            omega
          · intro j hj hj'
            rw [Array.getElem?_setIfInBounds, if_neg (by omega)]; exact h2 j hj hj'
          · refine ho.put_off (fun d hd => (dsts_get hD him hoi hd).2.1) v
          · rw [hmm]; exact hs'.perm hperm
          · intro j hj hl
            by_cases e : j = i
            · subst e
              rw [if_pos rfl]
              refine ⟨hφ, fun d hd => ?_⟩
              rw [hdst] at hd
              have := dsts_get hD hj hoi hd
              simp [Act.put, hd, ho.size, this.1]
            · rw [if_neg e]
              have hl' : listed.getD j false = true := by
                rw [hgd j] at hl; simpa [e] using hl
              obtain ⟨h3, h4⟩ := hinv j hj hl'
              refine ⟨h3, fun d hd => ?_⟩
              cases hod : o.dst with
              | none => exact h4 d hd
              | some d' =>
                have := (dsts_get hD him hoi hod).2.2 j hj e
                have hne : d' ≠ d := fun e => this (by rw [hd, e])
                simp [Act.put, hne, h4 d hd]
        have hcls := hcl1 i him
        cases hci : cls[i]? with
        | none => rw [hci] at hcls; cases hcls
        | some c =>
        rw [hci] at hcls
        have hpr := prem i o c him hoi hci
        have hpreds : ∀ (HH : Heap), ∀ j ∈ preds o, (Φs.getD j (is undef)) (outs j).1 (outs j).2 (made outs (fun i => listed.getD i false) m HH) ∧ (∀ e ∈ (outs j).2, e ∈ made outs (fun i => listed.getD i false) m HH) ∧ ∀ d, dstOf l j = some d → a.tmps[d]? = some (outs j).1 := fun HH j hj => by
          have hjm : j < m := Nat.lt_trans ((binds_any_mem hE hoi).1 j hj) him
          obtain ⟨h3, h4⟩ := hinv j hjm (hp j hj)
          exact ⟨h3 _, made_sub m HH hjm (hp j hj), h4⟩
        by_cases h3 : c = 3
        · -- the store
          subst h3
          simp only [Bool.and_eq_true, beq_iff_eq, hoi] at hcls
          obtain ⟨rfl, hgn⟩ := hcls
          have hg : o.guard = none := by simpa using hgn
          rw [hif] at hs
          have hs2 : Sees W (made outs (fun i => listed.getD i false) m [] ++ H) w := by rw [← made_app]; exact hs
          have hpr2 := hpr (made outs (fun i => listed.getD i false) m [])
          rw [← made_app] at hpr2
          obtain ⟨E', hst, ho'⟩ := ok_of_withPreds (n := n) (ds := ds) (a := a) (outs := outs) _ _ hpr2 (hpreds H) ho
          unfold wpOp
          simp only [List.getElem?_toArray, hoi]
          rw [if_pos (by simp [Region.wanted, hg])]
          refine .inl (hst.run a w _ Q ho' hs fun v G' w' hs' ⟨hG', hφ⟩ => step v [] w' ?_ fun G => hΦ i him _ _ _ _ hφ)
          have e1 : (listed.setIfInBounds i true).getD i false = true := by rw [hgd]; simp
          rw [e1, List.nil_append, made_app]
          subst hG'
          exact hs'
        · -- any other
          have his : i ≠ s := by
            match c, h3, hcls with
            | 0, _, h => simpa using h
            | 1, _, h => simp only [Bool.and_eq_true, bne_iff_ne] at h; exact h.1
            | 2, _, h => simp only [Bool.and_eq_true, bne_iff_ne] at h; exact h.1
            | c + 4, _, h => simpa using h
          have hsi : (listed.setIfInBounds i true).getD s false = listed.getD s false := by
            rw [hgd]; have : (s == i) = false := by simp; exact fun h => his h.symm
            simp [this]
          rw [hsi] at step
          have hG : withPreds l (fun i => Φs.getD i (is undef)) (made outs (fun i => listed.getD i false) m (B (listed.getD s false))) (preds o) E0 fun E => StepG P W n ds l o E (made outs (fun i => listed.getD i false) m (B (listed.getD s false))) fun v G' => ∃ ex, G' = ex ++ (made outs (fun i => listed.getD i false) m (B (listed.getD s false))) ∧ (Φs.getD i (is undef)) v ex G' := by
            match c, h3, hcls, hpr with
            | 0, _, _, hpr => exact hpr _ fun e he => made_base m _ e (by cases listed.getD s false <;> first | exact hRH e he | exact hRH' e he)
            | c + 4, _, _, hpr => exact hpr _ fun e he => made_base m _ e (by cases listed.getD s false <;> first | exact hRH e he | exact hRH' e he)
            | 1, _, h, hpr =>
              simp only [Bool.and_eq_true] at h
              have hsf : listed.getD s false = false := by
                cases hh : listed.getD s false with
                | false => rfl
                | true => have := listed_reach hcl 9 s i hh h.2; rw [this] at hif; cases hif
              refine hpr _ fun e he => made_base m _ e ?_
              rw [hsf]; exact he
            | 2, _, h, hpr =>
              simp only [Bool.and_eq_true] at h
              have hst : listed.getD s false = true := reach_listed hcl 9 i s o hoi hp h.2
              refine hpr _ fun e he => made_base m _ e ?_
              rw [hst]; exact he
          obtain ⟨E', hst, ho'⟩ := ok_of_withPreds (n := n) (ds := ds) (a := a) (outs := outs) _ _ hG (hpreds _) ho
          unfold wpOp
          simp only [List.getElem?_toArray, hoi]
          unfold StepG at hst
          split at hst
          · rename_i hg
            rw [if_pos (by simp [Region.wanted, hg])]
            exact .inl (hst.run a w _ Q ho' hs fun v G' w' hs' ⟨ex, hG', hφ⟩ => step v ex w' (hG' ▸ hs') fun G => hΦ i him _ _ _ _ hφ)
          · rename_i j want hg
            rcases hst with ⟨dj, b, hdj, hbj, hy, hno⟩ | ⟨dj, hdj, hbj, hno⟩
            · have hyl : yielded l.toArray a.tmps j = some b := by
                have h5 := ho'.get _ _ hbj
                simp only [dstOf] at hdj
                simp [yielded, hdj, h5]
              by_cases hbw : b = want
              · rw [if_pos (by simp [Region.wanted, hg, hyl, hbw])]
                exact .inl ((hy hbw).run a w _ Q ho' hs fun v G' w' hs' ⟨ex, hG', hφ⟩ => step v ex w' (hG' ▸ hs') fun G => hΦ i him _ _ _ _ hφ)
              · rw [if_neg (by simp [Region.wanted, hg, hyl, hbw])]
                obtain ⟨ex, hG', hφ⟩ := hno (by cases b <;> cases want <;> simp_all)
                exact step undef ex w (hG' ▸ hs) fun G => hΦ i him _ _ _ _ hφ
            · have hyl : yielded l.toArray a.tmps j = none := by
                have h5 := ho'.get _ _ hbj
                simp only [dstOf] at hdj
                simp [yielded, hdj, h5, undef]
              rw [if_neg (by simp [Region.wanted, hg, hyl])]
              obtain ⟨ex, hG', hφ⟩ := hno
              exact step undef ex w (hG' ▸ hs) fun G => hΦ i him _ _ _ _ hφ
  refine head l.length (Array.replicate l.length false) (fun _ => (undef, [])) a0 _ (by simp) (fun i o _ h => by rw [Array.getD_eq_getD_getElem?, Array.getElem?_replicate] at h; split at h <;> cases h) (by simp [List.countP_replicate]) (fun i _ hi => by simp [hi]) ho0 ?_ ?_
  · have e1 : (Array.replicate l.length false).getD s false = false := by rw [Array.getD_eq_getD_getElem?, Array.getElem?_replicate]; split <;> rfl
    rw [e1, made_none]; exact hs0.drew _
  · intro i hi hl
    simp only [Array.getD_eq_getD_getElem?, Array.getElem?_replicate] at hl
    split at hl <;> cases hl

/-! In a form that is easy to read at a region written out. -/
def Prems3 (P : Program) (W : World) (n : Nat) (ds : List Deferred) (dl : List (Option Tmp)) (Φs : List Phi) (E0 : Env) (R H H' : Heap) : Nat → List Oper → List (List Nat) → List Nat → Prop
  | i, o :: os, js :: jss, c :: cs =>
    (match c with
      | 3 => ∀ ex, with2 dl Φs (ex ++ H) js E0 fun E => OpT P W n ds o E (ex ++ H) fun v G' => G' = ex ++ H' ∧ nthPhi Φs i v [] G'
      | 1 => ∀ G, Sub H G → with2 dl Φs G js E0 fun E => Step2 P W n ds dl o E G fun v G' => ∃ ex, G' = ex ++ G ∧ nthPhi Φs i v ex G'
      | 2 => ∀ G, Sub H' G → with2 dl Φs G js E0 fun E => Step2 P W n ds dl o E G fun v G' => ∃ ex, G' = ex ++ G ∧ nthPhi Φs i v ex G'
      | _ => ∀ G, Sub R G → with2 dl Φs G js E0 fun E => Step2 P W n ds dl o E G fun v G' => ∃ ex, G' = ex ++ G ∧ nthPhi Φs i v ex G') ∧ Prems3 P W n ds dl Φs E0 R H H' (i + 1) os jss cs
  | _, _, _, _ => True

theorem step2_eq {l : List Oper} (o : Oper) (E : Env) (G : Heap) (K : Value → Heap → Prop) : Step2 P W n ds (l.map (·.dst)) o E G K = StepG P W n ds l o E G K := by
  unfold Step2 StepG; simp only [nthDst_eq]

theorem prems3_prems {l : List Oper} {Φs : List Phi} : ∀ (os : List Oper) (k : Nat) (cls : List Nat), Prems3 P W n ds (l.map (·.dst)) Φs E0 R H H' k os (os.map preds) cls →
    ∀ i o c, os[i]? = some o → cls[i]? = some c → PremS P W n ds l (fun i => Φs.getD i (is undef)) E0 R H H' (k + i) o c := by
  intro os
  induction os with
  | nil => intro k cls _ i o c h; simp at h
  | cons x xs ih =>
    intro k cls h i o c ho hc
    cases cls with
    | nil => simp at hc
    | cons c0 cs =>
      cases i with
      | succ i => have := ih (k + 1) cs h.2 i o c (by simpa using ho) (by simpa using hc); rwa [show k + 1 + i = k + (i + 1) by omega] at this
      | zero =>
        simp at ho hc
        subst ho; subst hc
        have h1 := h.1
        match c0, h1 with
        | 3, h1 => intro ex; have := h1 ex; rw [with2_eq] at this; simp only [nthPhi_eq] at this ⊢; exact this
        | 1, h1 => intro G hG; have := h1 G hG; rw [with2_eq] at this; simp only [nthPhi_eq, step2_eq] at this ⊢; exact this
        | 2, h1 => intro G hG; have := h1 G hG; rw [with2_eq] at this; simp only [nthPhi_eq, step2_eq] at this ⊢; exact this
        | 0, h1 => intro G hG; have := h1 G hG; rw [with2_eq] at this; simp only [nthPhi_eq, step2_eq] at this ⊢; exact this
        | c + 4, h1 => intro G hG; have := h1 G hG; rw [with2_eq] at this; simp only [nthPhi_eq, step2_eq] at this ⊢; exact this

theorem tc_drawnS {id : Nat} {l : List Oper} (m s : Nat) {kb : Nat} {ob ob' : Obj} (Φs : List Phi) (dl : List (Option Tmp)) (prs : List (List Nat)) (cls : List Nat) (hm : P.follows .mixedOrders = true) (hcst : Consts Φs)
    (prem : Prems3 P W n ds dl Φs E0 R ((kb, ob) :: R) ((kb, ob') :: R) 0 (l.take m) prs cls)
    (fin : Finals2 dl (fun E G => TL P W n ds l Q (l.drop m) E G) 0 Φs E0 ((kb, ob') :: R) (fun _ => True))
    (hE : edgesOk l m = true := by exact rfl) (hD : dstsOk l m n E0 = true := by exact rfl)
    (hlen : Φs.length = m := by exact rfl) (hml : m ≤ l.length := by exact Nat.le_of_ble_eq_true rfl) (hdl : l.map (·.dst) = dl := by exact rfl) (hpr : (l.take m).map preds = prs := by exact rfl) (hcl : clsOk l m s cls = true := by exact rfl) :
    TC P W n ds (.region id l.toArray true) Q E0 ((kb, ob) :: R) := by
  subst hdl
  subst hpr
  refine tc_drawS (R := R) (H' := (kb, ob') :: R) m s Φs cls hm hE hD hlen hml hcst hcl (fun e he => List.mem_cons_of_mem _ he) (fun e he => List.mem_cons_of_mem _ he) ?_ (by rw [← finals2_eq]; exact fin)
  intro i o c hi ho hc
  have := prems3_prems (l.take m) 0 cls prem i o c (by rw [List.getElem?_take]; simp [hi, ho]) hc
  rwa [Nat.zero_add] at this
end draw
end Go.Lg

set_option linter.unusedVariables false
set_option linter.unusedSimpArgs false
namespace Go.Lg
class MethA (P : Program) (t : TypeId) (name : String) (f : outParam FuncId) : Prop where
  eq : ∀ (cs : List Value) (args : Array Value) (w : World), (callMethod (.iface t (.agg ⟨cs⟩)) name args).run P w = .ok (.enter f (#[.agg ⟨cs⟩] ++ args)) w
section
variable {P : Program} {W : World} {n : Nat} {ds : List Deferred} {dst : Option Tmp} {ty : TypeId} {pos : String} {af : Array Edge} {g : Option (Nat × Bool)} {E : Env} {G : Heap} {K : Value → Heap → Prop}
theorem op_invokeA {x nm t f cs args vs at'} [h : MethA P t nm f] [Enters P f] (hd : Does P f (.agg ⟨cs⟩ :: vs) G K) (hx : evalE E x = some (.iface t (.agg ⟨cs⟩)) := by exact rfl) (hv : evalAll E args = some vs := by exact rfl) :
    OpT P W n ds ⟨dst, .call { callee := .invoke x nm, args := ⟨args⟩, argTypes := at' }, ty, pos, af, g⟩ E G K := by
  refine ⟨fun a' w next Q ho hs hn => ?_⟩
  have he : args.map a'.eval = vs := by
    clear hd hn
    induction args generalizing vs with
    | nil => simp [evalAll] at hv; simp [← hv]
    | cons x xs ih =>
      simp only [evalAll] at hv
      cases h1 : evalE E x with
      | none => simp [h1] at hv
      | some v =>
        cases h2 : evalAll E xs with
        | none => simp [h1, h2] at hv
        | some us =>
          simp [h1, h2] at hv
          subst hv
          simp [ho.eval h1, ih h2]
  have hr : (execOp a'.eval ⟨dst, .call { callee := .invoke x nm, args := ⟨args⟩, argTypes := at' }, ty, pos, af, g⟩).run P w = (callFunc f ⟨.agg ⟨cs⟩ :: vs⟩).run P w := by
    rw [run_callFunc]
    simp only [execOp, resolve, ho.eval hx, List.map_toArray, he]
    refine (sem_run_bind P _ _ w _ w rfl).trans ?_
    have e1 : invoke (.fn (.method nm) #[]) (#[.iface t (.agg ⟨cs⟩)] ++ vs.toArray) = callMethod (.iface t (.agg ⟨cs⟩)) nm ⟨vs⟩ := by
      simp [invoke]
    show (invoke (.fn (.method nm) #[]) (#[.iface t (.agg ⟨cs⟩)] ++ vs.toArray)).run P w = _
    rw [e1, h.eq cs ⟨vs⟩ w]
    simp
  rw [hr]
  exact hd.run W w hs _ a' next Q hn
theorem run_equalIn_nil {P : Program} {t ms} [hU : Und P t (.interface ms)] (w : World) : (Op.equalIn Op.maxDepth t .nilIface .nilIface).run P w = .ok true w := by
  show (Op.equalIn (9999 + 1) t _ _).run P w = _
  rw [Op.equalIn]
  refine (sem_run_bind P _ _ w _ w (run_underlying (t := t) w)).trans ?_
  rfl
theorem run_equalIn_iface {P : Program} {t ms tx vx} [hU : Und P t (.interface ms)] (w : World) : (Op.equalIn Op.maxDepth t (.iface tx vx) .nilIface).run P w = .ok false w := by
  show (Op.equalIn (9999 + 1) t _ _).run P w = _
  rw [Op.equalIn]
  refine (sem_run_bind P _ _ w _ w (run_underlying (t := t) w)).trans ?_
  rfl
/-- No error: it is nil. -/
theorem op_iface_nil {t t2 x ms} [hU : Und P t (.interface ms)] (hk : K (.bool false) G) (hx : evalE E x = some .nilIface := by exact rfl) : OpT P W n ds ⟨dst, .binOp .neq t x (.const .nilIface) t2, ty, pos, af, g⟩ E G K :=
  op_of_run (fun a w ho _ => by
    have h0 : ∀ y, (eqGuard .neq t y (.const .nilIface) .nilIface .nilIface).run P w = .ok () w := fun y => by
      simp [eqGuard, go_sem]
    have e2 : a.eval (.const .nilIface) = .nilIface := rfl
    simp only [execOp, ho.eval hx, e2]
    refine run_v ?_
    refine (sem_run_bind P _ _ w () w (h0 _)).trans ?_
    exact (sem_run_bind P _ _ w true w (run_equalIn_nil (t := t) w)).trans rfl) hk
theorem op_iface_nilq {t t2 x ms} [hU : Und P t (.interface ms)] (hk : K (.bool true) G) (hx : evalE E x = some .nilIface := by exact rfl) : OpT P W n ds ⟨dst, .binOp .eql t x (.const .nilIface) t2, ty, pos, af, g⟩ E G K :=
  op_of_run (fun a w ho _ => by
    have h0 : ∀ y, (eqGuard .eql t y (.const .nilIface) .nilIface .nilIface).run P w = .ok () w := fun y => by
      simp [eqGuard, go_sem]
    have e2 : a.eval (.const .nilIface) = .nilIface := rfl
    simp only [execOp, ho.eval hx, e2]
    refine run_v ?_
    refine (sem_run_bind P _ _ w () w (h0 _)).trans ?_
    exact (sem_run_bind P _ _ w true w (run_equalIn_nil (t := t) w)).trans rfl) hk
/-- An error: it is not nil. -/
theorem op_iface_some {t t2 x ms tx vx} [hU : Und P t (.interface ms)] (hk : K (.bool true) G) (hx : evalE E x = some (.iface tx vx) := by exact rfl) : OpT P W n ds ⟨dst, .binOp .neq t x (.const .nilIface) t2, ty, pos, af, g⟩ E G K :=
  op_of_run (fun a w ho _ => by
    have e2 : a.eval (.const .nilIface) = .nilIface := rfl
    simp only [execOp, ho.eval hx, e2]
    refine run_v ?_
    refine (sem_run_bind P _ _ w () w rfl).trans ?_
    exact (sem_run_bind P _ _ w false w (run_equalIn_iface (t := t) w)).trans rfl) hk
theorem op_iface_someq {t t2 x ms tx vx} [hU : Und P t (.interface ms)] (hk : K (.bool false) G) (hx : evalE E x = some (.iface tx vx) := by exact rfl) : OpT P W n ds ⟨dst, .binOp .eql t x (.const .nilIface) t2, ty, pos, af, g⟩ E G K :=
  op_of_run (fun a w ho _ => by
    have e2 : a.eval (.const .nilIface) = .nilIface := rfl
    simp only [execOp, ho.eval hx, e2]
    refine run_v ?_
    refine (sem_run_bind P _ _ w () w rfl).trans ?_
    exact (sem_run_bind P _ _ w false w (run_equalIn_iface (t := t) w)).trans rfl) hk
theorem op_mid {op : Oper} (k : Nat) {o R} [h : MidC G k o R] (h' : OpT P W n ds op E ((k, o) :: R) K) : OpT P W n ds op E G K := op_perm h.perm.symm h'
end
end Go.Lg

set_option linter.unusedVariables false
set_option linter.unusedSimpArgs false
namespace Go.Lg
section
variable {P : Program} {W : World} {n : Nat} {ds : List Deferred} {dst : Option Tmp} {ty : TypeId} {pos : String} {af : Array Edge} {g : Option (Nat × Bool)} {E : Env} {G : Heap} {K : Value → Heap → Prop}
theorem op_indexArr {t e s b z m x y k off kk} {i : Int} [Und P t (.array m e)] [Inf P e s b z] (hk : K (.pointer (some ⟨k, off + i.toNat * s, none⟩)) G) (hx : evalE E x = some (.pointer (some ⟨k, off, none⟩)) := by exact rfl) (hy : evalE E y = some (.int kk i) := by exact rfl) (hi : 0 ≤ i ∧ i < (m : Int) := by first | assumption | decide | omega) :
    OpT P W n ds ⟨dst, .indexAddr t x y, ty, pos, af, g⟩ E G K :=
  op_of_run (fun a w ho hs => by
    simp only [execOp, ho.eval hx, ho.eval hy]
    refine run_v ?_
    refine (sem_run_bind P _ _ w _ w rfl).trans ?_
    refine (sem_run_bind P _ _ w _ w (run_underlying (t := t) w)).trans ?_
    refine (sem_run_bind P _ _ w _ w rfl).trans ?_
    refine (sem_run_bind P _ _ w _ w (run_underlying (t := t) w)).trans ?_
    simp only []
    rw [if_pos hi]
    refine (sem_run_bind P _ _ w s w (run_sizeOf w)).trans ?_
    rw [addr_add]; rfl) hk
theorem op_slice_arr {t e s b z m x k off} [Und P t (.array m e)] [Inf P e s b z] (hk : K (.slice (some ⟨k, off, none⟩) m m) G) (hx : evalE E x = some (.pointer (some ⟨k, off, none⟩)) := by exact rfl) :
    OpT P W n ds ⟨dst, .slice t x none none none, ty, pos, af, g⟩ E G K :=
  op_of_run (fun a w ho hs => by
    simp only [execOp, ho.eval hx, Option.map_none]
    refine run_v ?_
    refine (sem_run_bind P _ _ w _ w (run_underlying (t := t) w)).trans ?_
    refine (sem_run_bind P _ _ w _ w rfl).trans ?_
    refine (sem_run_bind P _ _ w (0, m, m) w (by simp [Instr.sliceBounds, go_sem])).trans ?_
    refine (sem_run_bind P _ _ w s w (run_sizeOf w)).trans ?_
    by_cases h : m = 0
    · subst h; rfl
    · simp [h, addr_add]) hk
theorem op_arrayAt {t e m x a c len} [Und P t (.array m e)] (hk : K (.pointer a) G) (hx : evalE E x = some (.slice a len c) := by exact rfl) (hl : ¬ len < m := by first | decide | omega) :
    OpT P W n ds ⟨dst, .sliceToArrayPointer t x, ty, pos, af, g⟩ E G K :=
  op_of_run (fun a w ho hs => by
    simp only [execOp, ho.eval hx]
    refine run_v ?_
    refine (sem_run_bind P _ _ w _ w (run_underlying (t := t) w)).trans ?_
    simp only []
    rw [if_neg hl]; rfl) hk
/-- A call of a function literal with what it captured. -/
theorem op_callcap {x f cs args vs at'} [hE : Enters P f] (h : Does P f (vs ++ cs) G K) (hf : evalE E x = some (.func (.func f) #[] ⟨cs⟩) := by exact rfl) (hx : evalAll E args = some vs := by exact rfl) :
    OpT P W n ds ⟨dst, .call { callee := .value x, args := ⟨args⟩, argTypes := at' }, ty, pos, af, g⟩ E G K := by
  refine ⟨fun a' w next Q ho hs hn => ?_⟩
  have he : args.map a'.eval = vs := by
    clear h hn
    induction args generalizing vs with
    | nil => simp [evalAll] at hx; simp [← hx]
    | cons x xs ih =>
      simp only [evalAll] at hx
      cases h1 : evalE E x with
      | none => simp [h1] at hx
      | some v =>
        cases h2 : evalAll E xs with
        | none => simp [h1, h2] at hx
        | some us =>
          simp [h1, h2] at hx
          subst hx
          simp [ho.eval h1, ih h2]
  have hr : (execOp a'.eval ⟨dst, .call { callee := .value x, args := ⟨args⟩, argTypes := at' }, ty, pos, af, g⟩).run P w = (callFunc f ⟨vs ++ cs⟩).run P w := by
    simp only [execOp, resolve, ho.eval hf, List.map_toArray, he]
    refine (sem_run_bind P _ _ w ⟨.fn (.func f) ⟨cs⟩, ⟨vs⟩⟩ w (by simp [Deferred.ofValue])).trans ?_
    simp [invoke]
  rw [hr]
  exact h.run W w hs _ a' next Q hn
end
end Go.Lg

set_option linter.unusedVariables false
set_option linter.unusedSimpArgs false
namespace Go.Lg
section
variable {P : Program} {W : World} {n : Nat} {ds : List Deferred} {dst : Option Tmp} {ty : TypeId} {pos : String} {af : Array Edge} {g : Option (Nat × Bool)} {E : Env} {G : Heap} {K : Value → Heap → Prop}
theorem op_buildArr {t e m se be ze s b z ps vs l l'} [Und P t (.array m e)] [Inf P e se be ze] [Inf P t s b z] (hk : K (.agg ⟨l'⟩) G) (hps : partsE E ps = some vs := by exact rfl) (hf : fillL (fun i => some (i * se, se)) z vs = some l := by exact rfl) (hnew : l = l' := by exact rfl) :
    OpT P W n ds ⟨dst, .build t ⟨ps⟩, ty, pos, af, g⟩ E G K :=
  op_of_run (fun a w ho _ => by
    simp only [execOp]
    refine run_v ?_
    obtain ⟨v, hc, hr⟩ := run_zeroValue (P := P) (t := t) w
    simp only [Instr.build]
    refine (sem_run_bind P _ _ w v w hr).trans ?_
    refine (sem_run_bind P _ _ w _ w (run_underlying (t := t) w)).trans ?_
    simp only []
    refine (sem_run_bind P _ _ w se w (run_sizeOf w)).trans ?_
    have hpv := ho.parts hps
    have hfl : Instr.fill (fun i => some (i * se, se)) v.cells ((⟨ps⟩ : Array (Nat × Operand)).map (fun (x : Nat × Operand) => (x.1, a.eval x.2))).toList = some ⟨l⟩ := by
      rw [hc]
      simp only [Array.toList_map, hpv]
      rw [fill_eq, hf]; rfl
    rw [hfl]; rfl) (hnew ▸ hk)
end
end Go.Lg

set_option linter.unusedVariables false
set_option linter.unusedSimpArgs false
namespace Go.Lg

def bv (x : Nat) : Value := .int .u8 (x : Int)
def BS (G : Heap) (v : Value) (xs : List Nat) : Prop := Sl G v (xs.map bv)
theorem BS.mono {G G' v xs} (h : BS G v xs) (hG : ∀ e ∈ G, e ∈ G') : BS G' v xs := Sl.mono h hG
theorem BS.val {G v xs} (h : BS G v xs) : ∃ a cap, v = .slice a xs.length cap := by
  obtain ⟨a, cap, h1, _⟩ := h
  exact ⟨a, cap, by simpa using h1⟩
theorem BS.cap {G a n c xs} (h : BS G (.slice a n c) xs) : n = xs.length ∧ xs.length ≤ c := by
  obtain ⟨a', cap', h1, h2, _⟩ := h
  cases h1
  simp only [List.length_map] at h2 ⊢
  exact ⟨trivial, h2⟩
theorem BS.nil {G} : BS G (.slice none 0 0) [] := ⟨none, 0, rfl, Nat.le_refl _, fun h => (h rfl).elim⟩
theorem BS.toN {G v xs} (h : BS G v xs) : SlN 1 G v xs.length (xs.map bv) := by have := Sl.toN h; simpa using this
theorem oneCell_bv (xs : List Nat) : ∀ u ∈ xs.map bv, u.oneCell' = true := by
  intro u hu
  obtain ⟨x, _, rfl⟩ := List.mem_map.1 hu
  rfl
theorem made_one {c : Nat} {z : Value} : (List.range (c * 1)).map (fun i => [z][i % [z].length]!) = List.replicate c z := by
  rw [Nat.mul_one]
  induction c with
  | zero => rfl
  | succ c ih => rw [List.range_succ, List.map_append, ih, List.replicate_succ']; simp [Nat.mod_one]
theorem slAt_in {k o l h c : Nat} (hl : l < c) : slAt (some ⟨k, o, none⟩) l 1 h c = .slice (some ⟨k, o + l, none⟩) (h - l) (c - l) := by
  unfold slAt
  rw [if_neg (by omega)]
  simp [addr_add]
theorem slAt_le {k o l h c m : Nat} (hl : l < c) (hn : h - l = m) : slAt (some ⟨k, o, none⟩) l 1 h c = .slice (some ⟨k, o + l, none⟩) m (c - l) := by
  rw [slAt_in hl, hn]
/-- A block, where it lies in the slice. -/
theorem FS.block {G : Heap} {a : Option Addr} {n c : Nat} {xs : List Nat} (h : FS G (.slice a n c) xs) (hn : xs ≠ []) :
    ∃ k o L T fz, a = some ⟨k, o, none⟩ ∧ (k, Obj.cells ⟨L⟩ T fz) ∈ G ∧ n = xs.length ∧ xs.length ≤ c ∧ ∀ i, i < xs.length → L[o + i]? = some (.float .f64 (xs.getD i 0)) := by
  obtain ⟨a', cap', h1, h2, h3⟩ := h
  cases h1
  obtain ⟨k, o, L, T, fz, rfl, hm, hL⟩ := h3 (by simpa using hn)
  refine ⟨k, o, L, T, fz, rfl, hm, by simp, by simpa using h2, fun i hi => ?_⟩
  refine cut_get hL ?_
  rw [List.getElem?_map, List.getElem?_eq_getElem hi, getD_in hi]; rfl
theorem set_map_bv {xs : List Nat} {i x : Nat} : (xs.map bv).set i (bv x) = (xs.set i x).map bv := by rw [List.map_set]
theorem setCells_one {l : List Value} {i : Nat} {v : Value} : setCells l i [v] = l.set i v := rfl
end Go.Lg
