/-
  Structs of floats compared with ==. No conditions.
-/
import Derived.Test.YtkhpdmcalimmjaaLg15
import Derived.Laws.StructEq
set_option linter.unusedVariables false
set_option linter.unusedSimpArgs false
namespace Go.Lg

/-- A struct of these fields, all of them floats, one cell each. -/
class FlAgg (P : Program) (t : TypeId) (fs : outParam (List (TypeId × Nat))) : Prop where
  ht : P.underlying t = some (.struct (P.fieldsOf t))
  hp : P.stoodInHeld t = false
  hg : P.eqGuardType P.depth t = false
  hf : (P.fieldsOf t).toList.map (fun f => (f.type, f.offset)) = fs
  hn : (P.fieldsOf t).toList.all (fun f => f.name != "_") = true
  hu : fs.map (fun f => P.underlying f.1) = fs.map (fun _ => some (.float .f64))
theorem run_part_float {P : Program} {e : TypeId} {xs : Array Value} {off : Nat} {v : Value} {w : World} (hu : P.underlying e = some (.float .f64)) (hv : xs[off]? = some v) : (part e xs off).run P w = .ok v w := by
  haveI : Und P e (.float .f64) := ⟨hu⟩
  refine (sem_run_bind P _ _ w _ w (run_isAgg (t := e) w)).trans ?_
  show Sem.run P (match xs[off]? with | some v => pure v | none => _) w = _
  rw [hv]; rfl
theorem run_equalIn_float {P : Program} {e : TypeId} {d a b : Nat} {w : World} (hu : P.underlying e = some (.float .f64)) : (Op.equalIn (d + 1) e (.float .f64 a) (.float .f64 b)).run P w = .ok (fcmp .eql a b) w := by
  have h : fcmp .eql a b = Op.floatEq .f64 a b := by rw [fcmp_def]; rfl
  rw [h]
  haveI : Und P e (.float .f64) := ⟨hu⟩
  exact (sem_run_bind P _ _ w _ w (Go.Lg.run_underlying (t := e) w)).trans rfl
/-- All pairs are equal. -/
noncomputable def eqAll : List (Nat × Nat) → Bool
  | [] => true
  | (a, b) :: l => fcmp .eql a b && eqAll l
theorem run_eqFields_fl {P : Program} {d : Nat} {xs ys : Array Value} {w : World} : ∀ (fs : List Field) (ps : List (Nat × Nat)), fs.all (fun f => f.name != "_") = true →
    fs.map (fun f => P.underlying f.type) = fs.map (fun _ => some (.float .f64)) → fs.map (fun f => (xs[f.offset]?, ys[f.offset]?)) = ps.map (fun p => (some (.float .f64 p.1), some (.float .f64 p.2))) →
    (Op.eqFields (d + 1) xs ys fs).run P w = .ok (eqAll ps) w
  | [], ps, _, _, h => by
    have : ps = [] := by cases ps with | nil => rfl | cons => simp at h
    subst this; rfl
  | f :: fs, [], _, _, h => by simp at h
  | f :: fs, (a, b) :: ps, hn, hu, h => by
    simp only [List.map_cons, List.cons.injEq, Prod.mk.injEq] at h hu
    simp only [List.all_cons, Bool.and_eq_true, bne_iff_ne, ne_eq] at hn
    obtain ⟨⟨h1, h2⟩, h3⟩ := h
    unfold Op.eqFields
    rw [if_pos hn.1]
    refine (sem_run_bind P _ _ w _ w (run_part_float hu.1 h1)).trans ?_
    refine (sem_run_bind P _ _ w _ w (run_part_float hu.1 h2)).trans ?_
    refine (sem_run_bind P _ _ w _ w (run_equalIn_float hu.1)).trans ?_
    have ih := run_eqFields_fl fs ps (by simpa using hn.2) hu.2 h3 (d := d) (w := w)
    unfold eqAll
    cases fcmp .eql a b with
    | true => simpa using ih
    | false => simp
section
variable {P : Program} {W : World} {n : Nat} {ds : List Deferred} {dst : Option Tmp} {ty : TypeId} {pos : String} {af : Array Edge} {g : Option (Nat × Bool)} {E : Env} {G : Heap} {K : Value → Heap → Prop}
theorem op_aggeq {t t2 x y fs xs ys} [h : FlAgg P t fs] (ps : List (Nat × Nat)) (hk : K (.bool (eqAll ps)) G) (hx : evalE E x = some (.agg ⟨xs⟩) := by exact rfl) (hy : evalE E y = some (.agg ⟨ys⟩) := by exact rfl)
    (hps : fs.map (fun f => (xs[f.2]?, ys[f.2]?)) = ps.map (fun p => (some (Value.float .f64 p.1), some (Value.float .f64 p.2))) := by exact rfl) : OpT P W n ds ⟨dst, .binOp .eql t x y t2, ty, pos, af, g⟩ E G K :=
  op_of_run (fun a w ho _ => by
    simp only [execOp, ho.eval hx, ho.eval hy]
    refine run_v ?_
    refine (sem_run_bind P _ _ w () w (run_eqGuard_agg w .eql t x y ⟨xs⟩ ⟨ys⟩ h.hg)).trans ?_
    rw [run_eql_struct]
    have e : (10000 : Nat) = 9998 + 1 + 1 := rfl
    rw [e, run_equalIn_struct w (9998 + 1) t ⟨xs⟩ ⟨ys⟩ h.ht h.hp]
    have hf := h.hf
    have hu := h.hu
    rw [← hf] at hu hps
    simp only [List.map_map, Function.comp_def] at hu hps
    rw [run_eqFields_fl (P.fieldsOf t).toList ps h.hn hu (by simpa using hps)]
    rfl) hk
end
end Go.Lg
