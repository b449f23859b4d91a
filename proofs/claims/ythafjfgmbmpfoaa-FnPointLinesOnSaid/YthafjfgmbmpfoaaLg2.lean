/-
  The operations of Go code in the small logic. No conditions.
-/
import Derived.Test.YthafjfgmbmpfoaaLg1
import Derived.Laws.FloatArith
set_option linter.unusedVariables false
set_option linter.unusedSimpArgs false
namespace Go.Lg

class Und (P : Program) (t : TypeId) (d : outParam TypeDesc) : Prop where
  eq : P.underlying t = some d

class Inf (P : Program) (t : TypeId) (s b : outParam Nat) (z : outParam (List Value)) : Prop where
  eq : (P.info? t).map (fun i => (i.size, i.bytes, i.zero.map Value.cells)) = some (s, b, some ⟨z⟩)

class Enters (P : Program) (f : FuncId) : Prop where
  eq : ∃ fn, P.funcs[f]? = some fn ∧ (fn.name == "runtime.NumGoroutine") = false ∧ fn.body.isNone = false

theorem Inf.get {P t s b z} (h : Inf P t s b z) : ∃ i v, P.info? t = some i ∧ i.size = s ∧ i.bytes = b ∧ i.zero = some v ∧ v.cells = ⟨z⟩ := by
  have := h.eq
  cases hi : P.info? t with
  | none => rw [hi] at this; cases this
  | some i =>
    rw [hi] at this
    simp only [Option.map_some, Option.some.injEq, Prod.mk.injEq] at this
    cases hz : i.zero with
    | none => rw [hz] at this; simp at this
    | some v => rw [hz] at this; exact ⟨i, v, rfl, this.1, this.2.1, hz, by simpa using this.2.2⟩

@[simp] theorem run_pure {α : Type} (P : Program) (x : α) (w : World) : (pure x : Sem α).run P w = .ok x w := rfl

theorem sem_run_bind {α β : Type} (P : Program) (m : Sem α) (f : α → Sem β) (w : World) (x : α) (w' : World) (h : m.run P w = .ok x w') :
    (m >>= f).run P w = (f x).run P w' := by
  show (m.bind f).run P w = _
  induction m generalizing w with
  | pure a => simp only [Sem.run] at h; cases h; rfl
  | load m a k ih =>
    simp only [Sem.run, Sem.bind] at h ⊢
    split
    · rename_i v hv; rw [hv] at h; exact ih _ _ h
    · rename_i hv; rw [hv] at h
      simp only at h
      split
      · rename_i v hv; rw [hv] at h; exact ih _ _ h
      · rename_i hv; rw [hv] at h; cases h
  | store m a v k ih =>
    cases v
    case agg => simp only [Sem.run] at h; cases h
    case tuple => simp only [Sem.run] at h; cases h
    all_goals
      simp only [Sem.run, Sem.bind] at h ⊢
      split
      · rename_i v hv; rw [hv] at h
        simp only at h
        split
        · rename_i hf; rw [if_pos hf] at h; cases h
        · rename_i hf; rw [if_neg hf] at h; exact ih _ h
      · rename_i hv; rw [hv] at h
        simp only at h
        split
        · rename_i hv; rw [hv] at h; exact ih _ h
        · rename_i hv; rw [hv] at h; cases h
  | new o k ih => exact ih _ _ h
  | shape r k ih => exact ih _ _ h
  | freeze a n k ih => exact ih _ h
  | frozen a k ih => exact ih _ _ h
  | getObj r k ih =>
    simp only [Sem.run, Sem.bind] at h ⊢
    split <;> simp_all
  | setObj r o k ih =>
    simp only [Sem.run, Sem.bind] at h ⊢
    split <;> simp_all
  | choose q k ih =>
    simp only [Sem.run, Sem.bind] at h ⊢
    split <;> rename_i hq
    · rw [if_pos hq] at h; exact ih _ _ h
    · rw [if_neg hq] at h; exact ih _ _ h
  | sys c k ih => exact ih _ _ h
  | program k ih => exact ih _ _ h
  | mark m k ih => exact ih _ h
  | halt x => cases h

theorem run_typeInfo {P : Program} {t : TypeId} {i : TypeInfo} (hi : P.info? t = some i) (w : World) : (typeInfo t).run P w = .ok i w := by
  show Sem.run P (match P.info? t with | some i => pure i | none => stuck "no such type") w = _
  rw [hi]; rfl

theorem run_sizeOf {P t s b z} [h : Inf P t s b z] (w : World) : (sizeOf t).run P w = .ok s w := by
  obtain ⟨i, v, hi, hs, _⟩ := h.get
  refine (sem_run_bind P _ _ w i w (run_typeInfo hi w)).trans ?_
  rw [hs]; rfl

theorem run_underlying {P t d} [h : Und P t d] (w : World) : (underlying t).run P w = .ok d w := by
  show (match P.underlying t with | some i => (pure i : Sem TypeDesc) | none => stuck "no such type").run P w = _
  rw [h.eq]; rfl

def TypeDesc.isAgg : TypeDesc → Bool
  | .struct _ | .array _ _ => true
  | _ => false

theorem run_isAgg {P t d} [h : Und P t d] (w : World) : (isAgg t).run P w = .ok (TypeDesc.isAgg d) w := by
  refine (sem_run_bind P _ _ w d w (run_underlying w)).trans ?_
  cases d <;> rfl

theorem run_zeroValue {P t s b z} [h : Inf P t s b z] (w : World) : ∃ v, v.cells = ⟨z⟩ ∧ (zeroValue t).run P w = .ok v w := by
  obtain ⟨i, v, hi, _, _, hz, hc⟩ := h.get
  refine ⟨v, hc, ?_⟩
  refine (sem_run_bind P _ _ w i w (run_typeInfo hi w)).trans ?_
  rw [hz]; rfl

section ops
variable {P : Program} {W : World} {n : Nat} {ds : List Deferred} {E : Env} {G : Heap} {K : Value → Heap → Prop}
variable {dst : Option Tmp} {ty : TypeId} {pos : String} {af : Array Edge} {g : Option (Nat × Bool)}

/-- An operation that is one Sem program of a value, the world as it is. -/
theorem op_of_run {op : Op} {v : Value}
    (h : ∀ (a : Act) (w : World), Ok n ds E a → Sees W G w → (execOp a.eval ⟨dst, op, ty, pos, af, g⟩).run P w = .ok (.value v) w) (hk : K v G) :
    OpT P W n ds ⟨dst, op, ty, pos, af, g⟩ E G K := by
  refine ⟨fun a w next Q ho hs hn => ?_⟩
  rw [h a w ho hs]
  exact hn _ _ _ hs hk

theorem run_v {s : Sem Value} {w w' : World} {v : Value} (h : s.run P w = .ok v w') : (do pure (Next.value (← s)) : Sem Next).run P w = .ok (.value v) w' := by
  refine (sem_run_bind P _ _ w v w' h).trans rfl

theorem op_move {x v} (hk : K v G) (hx : evalE E x = some v := by exact rfl) : OpT P W n ds ⟨dst, .move x, ty, pos, af, g⟩ E G K :=
  op_of_run (fun a w ho _ => by simp only [execOp, ho.eval hx]; rfl) hk
theorem op_assign {x v} (hk : K v G) (hx : evalE E x = some v := by exact rfl) : OpT P W n ds ⟨dst, .assign x, ty, pos, af, g⟩ E G K :=
  op_of_run (fun a w ho _ => by simp only [execOp, ho.eval hx]; rfl) hk
theorem op_pick_true {c x y v} (hk : K v G) (hc : evalE E c = some (.bool true) := by exact rfl) (hx : evalE E x = some v := by exact rfl) :
    OpT P W n ds ⟨dst, .pick c x y, ty, pos, af, g⟩ E G K :=
  op_of_run (fun a w ho _ => by simp only [execOp, ho.eval hc, ho.eval hx]; rfl) hk
theorem op_pick_false {c x y v} (hk : K v G) (hc : evalE E c = some (.bool false) := by exact rfl) (hx : evalE E y = some v := by exact rfl) :
    OpT P W n ds ⟨dst, .pick c x y, ty, pos, af, g⟩ E G K :=
  op_of_run (fun a w ho _ => by simp only [execOp, ho.eval hc, ho.eval hx]; rfl) hk

theorem op_pick_true' {c x y v b} (hk : K v G) (hc : evalE E c = some (.bool b) := by exact rfl) (hb : b = true := by first | exact rfl | assumption) (hx : evalE E x = some v := by exact rfl) :
    OpT P W n ds ⟨dst, .pick c x y, ty, pos, af, g⟩ E G K := op_pick_true hk (hb ▸ hc) hx
theorem op_pick_false' {c x y v b} (hk : K v G) (hc : evalE E c = some (.bool b) := by exact rfl) (hb : b = false := by first | exact rfl | assumption) (hx : evalE E y = some v := by exact rfl) :
    OpT P W n ds ⟨dst, .pick c x y, ty, pos, af, g⟩ E G K := op_pick_false hk (hb ▸ hc) hx

/-- A new block. -/
theorem op_new {op : Op} {o : Obj} {val : Nat → Value}
    (h : ∀ (a : Act) (w : World), Ok n ds E a → Sees W G w → (execOp a.eval ⟨dst, op, ty, pos, af, g⟩).run P w = .ok (.value (val w.heap.size)) { w with heap := w.heap.push o })
    (hk : ∀ k, K (val k) ((k, o) :: G)) : OpT P W n ds ⟨dst, op, ty, pos, af, g⟩ E G K := by
  refine ⟨fun a w next Q ho hs hn => ?_⟩
  rw [h a w ho hs]
  exact hn _ _ _ (hs.push o) (hk _)

theorem op_alloc {e s b z} [Inf P e s b z] (hk : ∀ k, K (.pointer (some ⟨k, 0, none⟩)) ((k, .cells ⟨z⟩ e (0, 0)) :: G)) :
    OpT P W n ds ⟨dst, .alloc e, ty, pos, af, g⟩ E G K := by
  refine op_new (o := .cells ⟨z⟩ e (0, 0)) (val := fun k => .pointer (some ⟨k, 0, none⟩)) (fun a w ho _ => ?_) hk
  obtain ⟨v, hc, hr⟩ := run_zeroValue (P := P) (t := e) w
  simp only [execOp]
  refine run_v ?_
  refine (sem_run_bind P _ _ w v w hr).trans ?_
  show (Sem.run P (.new (.cells v.cells e) _) w) = _
  rw [hc]; rfl

theorem op_box {e x v l} (hk : ∀ k, K (.pointer (some ⟨k, 0, none⟩)) ((k, .cells ⟨l⟩ e (0, 0)) :: G)) (hx : evalE E x = some v := by exact rfl) (hl : v.cells = ⟨l⟩ := by exact rfl) :
    OpT P W n ds ⟨dst, .box e x, ty, pos, af, g⟩ E G K := by
  refine op_new (o := .cells ⟨l⟩ e (0, 0)) (val := fun k => .pointer (some ⟨k, 0, none⟩)) (fun a w ho _ => ?_) hk
  simp only [execOp, ho.eval hx]
  refine run_v ?_
  show (Sem.run P (.new (.cells v.cells e) _) w) = _
  rw [hl]; rfl

theorem mem0 {e : Nat × Obj} {l : Heap} : e ∈ e :: l := by simp
theorem mem1 {a0 e : Nat × Obj} {l : Heap} : e ∈ a0 :: e :: l := by simp
theorem mem2 {a0 a1 e : Nat × Obj} {l : Heap} : e ∈ a0 :: a1 :: e :: l := by simp
theorem mem3 {a0 a1 a2 e : Nat × Obj} {l : Heap} : e ∈ a0 :: a1 :: a2 :: e :: l := by simp
theorem mem4 {a0 a1 a2 a3 e : Nat × Obj} {l : Heap} : e ∈ a0 :: a1 :: a2 :: a3 :: e :: l := by simp
theorem mem5 {a0 a1 a2 a3 a4 e : Nat × Obj} {l : Heap} : e ∈ a0 :: a1 :: a2 :: a3 :: a4 :: e :: l := by simp
theorem mem6 {a0 a1 a2 a3 a4 a5 e : Nat × Obj} {l : Heap} : e ∈ a0 :: a1 :: a2 :: a3 :: a4 :: a5 :: e :: l := by simp
theorem mem7 {a0 a1 a2 a3 a4 a5 a6 e : Nat × Obj} {l : Heap} : e ∈ a0 :: a1 :: a2 :: a3 :: a4 :: a5 :: a6 :: e :: l := by simp
theorem mem8 {a0 a1 a2 a3 a4 a5 a6 a7 e : Nat × Obj} {l : Heap} : e ∈ a0 :: a1 :: a2 :: a3 :: a4 :: a5 :: a6 :: a7 :: e :: l := by simp
theorem mem9 {a0 a1 a2 a3 a4 a5 a6 a7 a8 e : Nat × Obj} {l : Heap} : e ∈ a0 :: a1 :: a2 :: a3 :: a4 :: a5 :: a6 :: a7 :: a8 :: e :: l := by simp

theorem addr_add_zero (a : Addr) : a.add 0 = a := rfl
theorem addr_add (k off i : Nat) : (⟨k, off, none⟩ : Addr).add i = ⟨k, off + i, none⟩ := by
  unfold Addr.add; split
  · subst_vars; rfl
  · rfl

theorem run_load {w : World} {a : Addr} {v : Value} (h : w.cell? a = some v) : (load a).run P w = .ok v w := by
  simp [load, Sem.run, h]

theorem run_loadCellsFrom {w : World} {k off : Nat} (s : Nat) : ∀ (i : Nat) (l : List Value) (acc : List Value), l.length = s →
    (∀ j v, l[j]? = some v → w.cell? ⟨k, off + (i + j), none⟩ = some v) → (loadCellsFrom ⟨k, off, none⟩ i s ⟨acc⟩).run P w = .ok ⟨acc ++ l⟩ w := by
  induction s with
  | zero => intro i l acc hl _; obtain rfl := List.eq_nil_of_length_eq_zero hl; simp [loadCellsFrom]
  | succ s ih =>
    intro i l acc hl h
    match l, hl with
    | v :: l, hl =>
      simp only [loadCellsFrom]
      refine (sem_run_bind P _ _ w v w (run_load (by rw [addr_add]; exact h 0 v rfl))).trans ?_
      refine Eq.trans (by rw [List.push_toArray]) ((ih (i + 1) l (acc ++ [v]) (by simpa using hl) (fun j u hu => ?_)).trans (by simp))
      have := h (j + 1) u (by simpa using hu)
      rw [show i + 1 + j = i + (j + 1) by omega]; exact this

theorem run_loadVar_scalar {t d} [Und P t d] (hd : TypeDesc.isAgg d = false) {w : World} {a : Addr} {v : Value} (h : w.cell? a = some v) : (loadVar t a).run P w = .ok v w := by
  refine (sem_run_bind P _ _ w _ w (run_isAgg w)).trans ?_
  rw [hd]; exact run_load h

theorem run_loadVar_agg {t d s b z} [Und P t d] [Inf P t s b z] (hd : TypeDesc.isAgg d = true) {w : World} {k off : Nat} {l : List Value} (hl : l.length = s)
    (h : ∀ j v, l[j]? = some v → w.cell? ⟨k, off + j, none⟩ = some v) : (loadVar t ⟨k, off, none⟩).run P w = .ok (.agg ⟨l⟩) w := by
  refine (sem_run_bind P _ _ w _ w (run_isAgg w)).trans ?_
  rw [hd]
  simp only [if_true]
  refine (sem_run_bind P _ _ w s w (run_sizeOf w)).trans ?_
  refine (sem_run_bind P _ _ w ⟨l⟩ w ?_).trans rfl
  have := run_loadCellsFrom (P := P) (w := w) (k := k) (off := off) s 0 l [] hl (fun j v hv => by rw [Nat.zero_add]; exact h j v hv)
  simpa [loadCells] using this

theorem op_load {t d x k off l T fz v} [Und P t d] (hk : K v G) (hx : evalE E x = some (.pointer (some ⟨k, off, none⟩)) := by exact rfl) (hd : TypeDesc.isAgg d = false := by exact rfl) (hm : (k, Obj.cells ⟨l⟩ T fz) ∈ G := by first | exact mem0 | exact mem1 | exact mem2 | exact mem3 | exact mem4 | exact mem5 | exact mem6 | exact mem7 | exact mem8 | exact mem9 | assumption | (refine Sub.mem (by assumption) ?_; first | exact mem0 | exact mem1 | exact mem2 | exact mem3 | exact mem4 | exact mem5 | exact mem6 | exact mem7 | exact mem8 | exact mem9 | assumption) | ((repeat (apply List.mem_cons_of_mem)); first | assumption | (refine Sub.mem (by assumption) ?_; assumption))) (hv : l[off]? = some v := by first | exact rfl | assumption) : OpT P W n ds ⟨dst, .load t x, ty, pos, af, g⟩ E G K :=
  op_of_run (fun a w ho hs => by
    simp only [execOp, ho.eval hx]
    refine run_v ?_
    exact run_loadVar_scalar hd (hs.cell hm hv)) hk

theorem cut_get {l m : List Value} {off s : Nat} (h : (l.drop off).take s = m) {j : Nat} {v : Value} (hv : m[j]? = some v) : l[off + j]? = some v := by
  subst h
  rw [List.getElem?_take] at hv
  split at hv
  · simpa using hv
  · cases hv

theorem op_load_agg {t d s b z x k off l T fz m} [Und P t d] [Inf P t s b z] (hk : K (.agg ⟨m⟩) G) (hx : evalE E x = some (.pointer (some ⟨k, off, none⟩)) := by exact rfl) (hd : TypeDesc.isAgg d = true := by exact rfl) (hm : (k, Obj.cells ⟨l⟩ T fz) ∈ G := by first | exact mem0 | exact mem1 | exact mem2 | exact mem3 | exact mem4 | exact mem5 | exact mem6 | exact mem7 | exact mem8 | exact mem9 | assumption | (refine Sub.mem (by assumption) ?_; first | exact mem0 | exact mem1 | exact mem2 | exact mem3 | exact mem4 | exact mem5 | exact mem6 | exact mem7 | exact mem8 | exact mem9 | assumption) | ((repeat (apply List.mem_cons_of_mem)); first | assumption | (refine Sub.mem (by assumption) ?_; assumption))) (hv : (l.drop off).take s = m := by first | assumption | (simp only [setCells, List.set_cons_zero, List.set_cons_succ, List.take_succ_cons, List.take_zero, List.drop_zero, List.drop_succ_cons, Nat.zero_add, Nat.add_zero, Nat.reduceAdd]; exact rfl) | exact rfl) (hlen : m.length = s := by exact rfl) : OpT P W n ds ⟨dst, .load t x, ty, pos, af, g⟩ E G K :=
  op_of_run (fun a w ho hs => by
    simp only [execOp, ho.eval hx]
    refine run_v ?_
    exact run_loadVar_agg hd hlen (fun j v hj => hs.cell hm (cut_get hv hj))) hk

/-- A value that may be stored into one cell. -/
def Value.plain : Value → Bool
  | .agg _ | .tuple _ => false
  | _ => true

theorem run_store {w : World} {a : Addr} {v u : Value} (hp : Value.plain v = true) (h : w.cell? a = some u) (hf : w.frozen? a = false) : (store a v).run P w = .ok () (w.setCell a v) := by
  cases v <;> first | (cases hp; done) | (simp [store, Sem.run, h, hf])

theorem Sees.frozen {W H w k c T off} (h : Sees W H w) (hk : (k, Obj.cells c T (0, 0)) ∈ H) : w.frozen? ⟨k, off, none⟩ = false := by
  simp [World.frozen?, h.mem _ _ hk]

/-- Cells written one behind the other. -/
def setCells : List Value → Nat → List Value → List Value
  | l, _, [] => l
  | l, off, v :: vs => setCells (l.set off v) (off + 1) vs

theorem setCells_length (vs : List Value) : ∀ (l : List Value) (off : Nat), (setCells l off vs).length = l.length := by
  induction vs with
  | nil => intro l off; rfl
  | cons v vs ih => intro l off; simp [setCells, ih]

theorem run_storeCells {A B : Heap} {k T} (vs : List Value) (hp : vs.all Value.plain = true) : ∀ (l : List Value) (w : World) (off i : Nat), off + i + vs.length ≤ l.length →
    Sees W (A ++ (k, Obj.cells ⟨l⟩ T (0, 0)) :: B) w →
    ∃ w', (storeCells ⟨k, off, none⟩ vs i).run P w = .ok () w' ∧ Sees W (A ++ (k, Obj.cells ⟨setCells l (off + i) vs⟩ T (0, 0)) :: B) w' := by
  induction vs with
  | nil => intro l w off i _ hs; exact ⟨w, rfl, hs⟩
  | cons v vs ih =>
    intro l w off i hl hs
    simp only [List.all_cons, Bool.and_eq_true] at hp
    simp only [List.length_cons] at hl
    have hm : (k, Obj.cells ⟨l⟩ T (0, 0)) ∈ A ++ (k, Obj.cells ⟨l⟩ T (0, 0)) :: B := List.mem_append_right A List.mem_cons_self
    have hc : w.cell? ⟨k, off + i, none⟩ = some l[off + i] := hs.cell hm (List.getElem?_eq_getElem (by omega))
    obtain ⟨w', hr, hs'⟩ := ih hp.2 (l.set (off + i) v) (w.setCell ⟨k, off + i, none⟩ v) off (i + 1) (by simp; omega) hs.set
    refine ⟨w', ?_, by simpa [setCells, Nat.add_assoc] using hs'⟩
    simp only [storeCells]
    refine (sem_run_bind P _ _ w () _ (by rw [addr_add]; exact run_store hp.1 hc (hs.frozen hm))).trans hr

/-- A store of a value of one or more cells into a listed block. -/
theorem op_store {t s b z x y k off l T v m l' A B} [Inf P t s b z] (hk : K undef (A ++ (k, Obj.cells ⟨l'⟩ T (0, 0)) :: B)) (hx : evalE E x = some (.pointer (some ⟨k, off, none⟩)) := by exact rfl) (hy : evalE E y = some v := by exact rfl) (hG : G = A ++ (k, Obj.cells ⟨l⟩ T (0, 0)) :: B := by exact rfl) (hm : v.cells = ⟨m⟩ := by exact rfl) (hlen : m.length = s := by exact rfl) (hp : m.all Value.plain = true := by exact rfl) (hroom : off + s ≤ l.length := by exact Nat.le_of_ble_eq_true rfl) (hnew : setCells l off m = l' := by first | (simp only [setCells, List.set_cons_zero, List.set_cons_succ, List.take_succ_cons, List.take_zero, List.drop_zero, List.drop_succ_cons, Nat.zero_add, Nat.add_zero, Nat.reduceAdd]; exact rfl) | exact rfl) : OpT P W n ds ⟨dst, .store t x y, ty, pos, af, g⟩ E G K := by
  subst hG
  subst hnew
  refine ⟨fun a w next Q ho hs hn => ?_⟩
  obtain ⟨w', hr, hs'⟩ := run_storeCells (P := P) (W := W) m hp l w off 0 (by omega) hs
  have : (execOp a.eval ⟨dst, .store t x y, ty, pos, af, g⟩).run P w = .ok .skip w' := by
    simp only [execOp, ho.eval hx, ho.eval hy]
    refine (sem_run_bind P _ _ w () w' ?_).trans rfl
    refine (sem_run_bind P _ _ w ⟨k, off, none⟩ w rfl).trans ?_
    refine (sem_run_bind P _ _ w s w (run_sizeOf w)).trans ?_
    rw [hm]
    simp only [List.size_toArray, hlen, ne_eq, not_true_eq_false, if_false]
    exact hr
  rw [this]
  exact hn _ _ _ hs' hk

theorem op_store0 {t s b z x y k off l T v m l' B} [Inf P t s b z] (hk : K undef ((k, Obj.cells ⟨l'⟩ T (0, 0)) :: B)) (hx : evalE E x = some (.pointer (some ⟨k, off, none⟩)) := by exact rfl) (hy : evalE E y = some v := by exact rfl) (hG : G = (k, Obj.cells ⟨l⟩ T (0, 0)) :: B := by exact rfl) (hm : v.cells = ⟨m⟩ := by exact rfl) (hlen : m.length = s := by exact rfl) (hp : m.all Value.plain = true := by exact rfl) (hroom : off + s ≤ l.length := by exact Nat.le_of_ble_eq_true rfl) (hnew : setCells l off m = l' := by first | (simp only [setCells, List.set_cons_zero, List.set_cons_succ, List.take_succ_cons, List.take_zero, List.drop_zero, List.drop_succ_cons, Nat.zero_add, Nat.add_zero, Nat.reduceAdd]; exact rfl) | exact rfl) : OpT P W n ds ⟨dst, .store t x y, ty, pos, af, g⟩ E G K :=
  op_store (A := []) hk hx hy hG hm hlen hp hroom hnew
theorem op_store1 {t s b z x y k off l T v m l' B e0} [Inf P t s b z] (hk : K undef (e0 :: (k, Obj.cells ⟨l'⟩ T (0, 0)) :: B)) (hx : evalE E x = some (.pointer (some ⟨k, off, none⟩)) := by exact rfl) (hy : evalE E y = some v := by exact rfl) (hG : G = e0 :: (k, Obj.cells ⟨l⟩ T (0, 0)) :: B := by exact rfl) (hm : v.cells = ⟨m⟩ := by exact rfl) (hlen : m.length = s := by exact rfl) (hp : m.all Value.plain = true := by exact rfl) (hroom : off + s ≤ l.length := by exact Nat.le_of_ble_eq_true rfl) (hnew : setCells l off m = l' := by first | (simp only [setCells, List.set_cons_zero, List.set_cons_succ, List.take_succ_cons, List.take_zero, List.drop_zero, List.drop_succ_cons, Nat.zero_add, Nat.add_zero, Nat.reduceAdd]; exact rfl) | exact rfl) : OpT P W n ds ⟨dst, .store t x y, ty, pos, af, g⟩ E G K :=
  op_store (A := [e0]) hk hx hy hG hm hlen hp hroom hnew
theorem op_store2 {t s b z x y k off l T v m l' B e0 e1} [Inf P t s b z] (hk : K undef (e0 :: e1 :: (k, Obj.cells ⟨l'⟩ T (0, 0)) :: B)) (hx : evalE E x = some (.pointer (some ⟨k, off, none⟩)) := by exact rfl) (hy : evalE E y = some v := by exact rfl) (hG : G = e0 :: e1 :: (k, Obj.cells ⟨l⟩ T (0, 0)) :: B := by exact rfl) (hm : v.cells = ⟨m⟩ := by exact rfl) (hlen : m.length = s := by exact rfl) (hp : m.all Value.plain = true := by exact rfl) (hroom : off + s ≤ l.length := by exact Nat.le_of_ble_eq_true rfl) (hnew : setCells l off m = l' := by first | (simp only [setCells, List.set_cons_zero, List.set_cons_succ, List.take_succ_cons, List.take_zero, List.drop_zero, List.drop_succ_cons, Nat.zero_add, Nat.add_zero, Nat.reduceAdd]; exact rfl) | exact rfl) : OpT P W n ds ⟨dst, .store t x y, ty, pos, af, g⟩ E G K :=
  op_store (A := [e0, e1]) hk hx hy hG hm hlen hp hroom hnew
theorem op_store3 {t s b z x y k off l T v m l' B e0 e1 e2} [Inf P t s b z] (hk : K undef (e0 :: e1 :: e2 :: (k, Obj.cells ⟨l'⟩ T (0, 0)) :: B)) (hx : evalE E x = some (.pointer (some ⟨k, off, none⟩)) := by exact rfl) (hy : evalE E y = some v := by exact rfl) (hG : G = e0 :: e1 :: e2 :: (k, Obj.cells ⟨l⟩ T (0, 0)) :: B := by exact rfl) (hm : v.cells = ⟨m⟩ := by exact rfl) (hlen : m.length = s := by exact rfl) (hp : m.all Value.plain = true := by exact rfl) (hroom : off + s ≤ l.length := by exact Nat.le_of_ble_eq_true rfl) (hnew : setCells l off m = l' := by first | (simp only [setCells, List.set_cons_zero, List.set_cons_succ, List.take_succ_cons, List.take_zero, List.drop_zero, List.drop_succ_cons, Nat.zero_add, Nat.add_zero, Nat.reduceAdd]; exact rfl) | exact rfl) : OpT P W n ds ⟨dst, .store t x y, ty, pos, af, g⟩ E G K :=
  op_store (A := [e0, e1, e2]) hk hx hy hG hm hlen hp hroom hnew

/-- Field i of the struct type t lies at this offset, and has cells. -/
class FieldAt (P : Program) (t i : Nat) (off : outParam Nat) : Prop where
  eq : ∃ fs f j, P.underlying t = some (.struct fs) ∧ fs[i]? = some f ∧ f.offset = off ∧ P.info? f.type = some j ∧ j.size ≠ 0

theorem FieldAt.mk' {P : Program} {t i off : Nat} {fs f} (h1 : P.underlying t = some (.struct fs)) (h2 : fs[i]? = some f) (h3 : f.offset = off)
    (h4 : (P.info? f.type).map (fun j => Nat.beq j.size 0) = some false) : FieldAt P t i off := by
  cases hj : P.info? f.type with
  | none => rw [hj] at h4; cases h4
  | some j =>
    rw [hj] at h4
    exact ⟨fs, f, j, h1, h2, h3, hj, fun e => by simp [e] at h4⟩

theorem op_fieldAddr {t i x k off o} [hf : FieldAt P t i o] (hk : K (.pointer (some ⟨k, off + o, none⟩)) G) (hx : evalE E x = some (.pointer (some ⟨k, off, none⟩)) := by exact rfl) :
    OpT P W n ds ⟨dst, .fieldAddr t x i, ty, pos, af, g⟩ E G K :=
  op_of_run (fun a w ho hs => by
    obtain ⟨fs, f, j, h1, h2, h3, h4, h5⟩ := hf.eq
    simp only [execOp, ho.eval hx]
    refine run_v ?_
    haveI : Und P t (.struct fs) := ⟨h1⟩
    refine (sem_run_bind P _ _ w _ w (run_underlying (t := t) w)).trans ?_
    simp only [h2]
    refine (sem_run_bind P _ _ w ⟨k, off, none⟩ w rfl).trans ?_
    refine (sem_run_bind P _ _ w ⟨k, off + o, none⟩ w ?_).trans rfl
    refine (sem_run_bind P _ _ w j.size w ((sem_run_bind P _ _ w j w (run_typeInfo h4 w)).trans rfl)).trans ?_
    rw [if_neg h5, h3, addr_add]; rfl) hk

/-! structs and slices written out -/
def fillL (place : Nat → Option (Nat × Nat)) (cells : List Value) : List (Nat × Value) → Option (List Value)
  | [] => some cells
  | (i, v) :: rest =>
    match place i with
    | none => none
    | some (off, size) =>
      if v.cells.size ≠ size || off + v.cells.size > cells.length then none
      else fillL place (setCells cells off v.cells.toList) rest

theorem setCells_fold (vs : List Value) : ∀ (cells : List Value) (off j : Nat),
    (vs.zipIdx j).foldl (fun cs (x : Value × Nat) => cs.setIfInBounds (off + x.2) x.1) (⟨cells⟩ : Array Value) = ⟨setCells cells (off + j) vs⟩ := by
  induction vs with
  | nil => intro cells off j; rfl
  | cons v vs ih =>
    intro cells off j
    simp only [List.zipIdx_cons, List.foldl_cons, setCells]
    rw [List.setIfInBounds_toArray, ih, Nat.add_assoc]

theorem fill_eq (place : Nat → Option (Nat × Nat)) : ∀ (parts : List (Nat × Value)) (cells : List Value), Instr.fill place ⟨cells⟩ parts = (fillL place cells parts).map (fun l => ⟨l⟩) := by
  intro parts
  induction parts with
  | nil => intro cells; rfl
  | cons p parts ih =>
    obtain ⟨i, v⟩ := p
    intro cells
    simp only [Instr.fill, fillL]
    cases place i with
    | none => rfl
    | some q =>
      obtain ⟨off, size⟩ := q
      simp only [List.size_toArray]
      split
      · rfl
      · have : v.cells.zipIdx.foldl (fun cs (x : Value × Nat) => cs.setIfInBounds (off + x.2) x.1) (⟨cells⟩ : Array Value) = ⟨setCells cells off v.cells.toList⟩ := by
          have h := setCells_fold v.cells.toList cells off 0
          rw [Nat.add_zero] at h
          rw [← h, ← Array.foldl_toList, Array.toList_zipIdx]
        rw [this]; exact ih _

def partsE (E : Env) : List (Nat × Operand) → Option (List (Nat × Value))
  | [] => some []
  | (i, x) :: xs => match evalE E x with
    | none => none
    | some v => match partsE E xs with
      | none => none
      | some vs => some ((i, v) :: vs)

theorem Ok.parts {E : Env} {a : Act} (ho : Ok n ds E a) : ∀ {ps : List (Nat × Operand)} {vs}, partsE E ps = some vs → ps.map (fun (x : Nat × Operand) => (x.1, a.eval x.2)) = vs := by
  intro ps
  induction ps with
  | nil => intro vs h; simp [partsE] at h; simp [← h]
  | cons p ps ih =>
    intro vs h
    obtain ⟨i, x⟩ := p
    simp only [partsE] at h
    cases h1 : evalE E x with
    | none => simp [h1] at h
    | some v =>
      cases h2 : partsE E ps with
      | none => simp [h1, h2] at h
      | some us =>
        simp only [h1, h2, Option.some.injEq] at h
        subst h
        simp [ho.eval h1, ih h2]

/-- The places of a struct's fields: of each its offset and its size. -/
class Places (P : Program) (fs : List Field) (ps : outParam (List (Nat × Nat))) : Prop where
  eq : fs.map (fun f => (P.info? f.type).map (fun i => (f.offset, i.size))) = ps.map some

theorem run_places {fs : List Field} {ps : List (Nat × Nat)} (h : fs.map (fun f => (P.info? f.type).map (fun i => (f.offset, i.size))) = ps.map some) (w : World) :
    (fs.mapM (fun f => do pure (f.offset, ← sizeOf f.type) : Field → Sem (Nat × Nat))).run P w = .ok ps w := by
  induction fs generalizing ps with
  | nil => cases ps with
    | nil => rfl
    | cons p ps => simp at h
  | cons f fs ih =>
    cases ps with
    | nil => simp at h
    | cons p ps =>
      simp only [List.map_cons, List.cons.injEq] at h
      cases hi : P.info? f.type with
      | none => rw [hi] at h; simp at h
      | some i =>
        rw [hi] at h
        simp only [Option.map_some, Option.some.injEq] at h
        simp only [List.mapM_cons]
        refine (sem_run_bind P _ _ w p w ?_).trans ((sem_run_bind P _ _ w ps w (ih h.2)).trans rfl)
        refine (sem_run_bind P _ _ w i.size w ?_).trans (by rw [← h.1]; rfl)
        exact (sem_run_bind P _ _ w i w (run_typeInfo hi w)).trans rfl

theorem op_build {t fs s b z ps vs pl l l'} [Und P t (.struct ⟨fs⟩)] [Inf P t s b z] [hp : Places P fs pl] (hk : K (.agg ⟨l'⟩) G) (hps : partsE E ps = some vs := by exact rfl) (hf : fillL (fun i => pl[i]?) z vs = some l := by exact rfl) (hnew : l = l' := by first | (simp only [setCells, rowZero, Value.cells, List.range, List.range.loop, List.map_cons, List.map_nil, List.length_cons, List.length_nil, Nat.reduceMod, List.getElem!_cons_zero, List.getElem!_cons_succ, Nat.mod_self, List.set_cons_zero, List.set_cons_succ, Nat.zero_add, Nat.zero_mul, Nat.one_mul, Nat.mul_one, Nat.add_zero, Nat.reduceAdd, Nat.reduceMul]; exact rfl) | exact rfl) : OpT P W n ds ⟨dst, .build t ⟨ps⟩, ty, pos, af, g⟩ E G K :=
  op_of_run (fun a w ho _ => by
    simp only [execOp]
    refine run_v ?_
    obtain ⟨v, hc, hr⟩ := run_zeroValue (P := P) (t := t) w
    simp only [Instr.build]
    refine (sem_run_bind P _ _ w v w hr).trans ?_
    refine (sem_run_bind P _ _ w _ w (run_underlying (t := t) w)).trans ?_
    simp only [List.mapM_toArray]
    refine (sem_run_bind P _ _ w ⟨pl⟩ w ?_).trans ?_
    · exact (sem_run_bind P _ _ w pl w (run_places hp.eq w)).trans rfl
    · have hpv := ho.parts hps
      have hfl : Instr.fill (fun x => (⟨pl⟩ : Array (Nat × Nat))[x]?) v.cells ((⟨ps⟩ : Array (Nat × Operand)).map (fun (x : Nat × Operand) => (x.1, a.eval x.2))).toList = some ⟨l⟩ := by
        rw [hc]
        simp only [Array.toList_map, hpv]
        rw [fill_eq]
        have : (fun x => (⟨pl⟩ : Array (Nat × Nat))[x]?) = (fun (i : Nat) => pl[i]?) := by funext i; simp
        rw [this, hf]; rfl
      rw [hfl]; rfl) (hnew ▸ hk)

/-- The cells of a slice before its parts are laid in. -/
def rowZero (z : List Value) (k : Nat) : List Value := (List.range k).map fun i => z[i % z.length]!

theorem op_buildSlice {t e s b z len ps vs l l'} [Und P t (.slice e)] [hI : Inf P e s b z] (hk : ∀ k, K (.slice (some ⟨k, 0, none⟩) len len) ((k, .cells ⟨l'⟩ e (0, 0)) :: G)) (hps : partsE E ps = some vs := by exact rfl) (hsz : (Nat.ble (len * s) 16777216 && !(Nat.beq (len * s) 0)) = true := by exact rfl) (hf : fillL (fun i => some (i * s, s)) (rowZero z (len * s)) vs = some l := by exact rfl) (hnew : l = l' := by first | (simp only [setCells, rowZero, Value.cells, List.range, List.range.loop, List.map_cons, List.map_nil, List.length_cons, List.length_nil, Nat.reduceMod, List.getElem!_cons_zero, List.getElem!_cons_succ, Nat.mod_self, List.set_cons_zero, List.set_cons_succ, Nat.zero_add, Nat.zero_mul, Nat.one_mul, Nat.mul_one, Nat.add_zero, Nat.reduceAdd, Nat.reduceMul]; exact rfl) | exact rfl) : OpT P W n ds ⟨dst, .buildSlice t len ⟨ps⟩, ty, pos, af, g⟩ E G K := by
  subst hnew
  refine op_new (o := .cells ⟨l⟩ e (0, 0)) (val := fun k => .slice (some ⟨k, 0, none⟩) len len) (fun a w ho _ => ?_) hk
  simp only [execOp]
  refine run_v ?_
  obtain ⟨v, hc, hr⟩ := run_zeroValue (P := P) (t := e) w
  simp only [Bool.and_eq_true, Bool.not_eq_true'] at hsz
  have h1 : len * s ≤ 16777216 := Nat.le_of_ble_eq_true hsz.1
  have h0 : len * s ≠ 0 := fun h => by rw [h] at hsz; cases hsz.2
  simp only [Instr.buildSlice]
  refine (sem_run_bind P _ _ w _ w (run_underlying (t := t) w)).trans ?_
  refine (sem_run_bind P _ _ w s w (run_sizeOf w)).trans ?_
  rw [if_neg (by omega), if_neg h0]
  refine (sem_run_bind P _ _ w v w hr).trans ?_
  refine (sem_run_bind P _ _ w (⟨z⟩ : Array Value) w (by rw [hc]; rfl)).trans ?_
  · have hpv := ho.parts hps
    have hz : (Array.range (len * s)).map (fun i => (⟨z⟩ : Array Value)[i % (⟨z⟩ : Array Value).size]!) = ⟨rowZero z (len * s)⟩ := by
      apply Array.ext'
      simp [rowZero]
    have hfl : Instr.fill (fun i => some (i * s, s)) ((Array.range (len * s)).map (fun i => (⟨z⟩ : Array Value)[i % (⟨z⟩ : Array Value).size]!)) ((⟨ps⟩ : Array (Nat × Operand)).map (fun (x : Nat × Operand) => (x.1, a.eval x.2))).toList = some ⟨l⟩ := by
      rw [hz]
      simp only [Array.toList_map, hpv]
      rw [fill_eq, hf]; rfl
    rw [hfl]; rfl

theorem op_indexAddr {t e s b z x y k off len cap kk j} [Und P t (.slice e)] [Inf P e s b z] (hk : K (.pointer (some ⟨k, off + j * s, none⟩)) G) (hx : evalE E x = some (.slice (some ⟨k, off, none⟩) len cap) := by exact rfl) (hy : evalE E y = some (.int kk ((j : Nat) : Int)) := by exact rfl) (hj : j < len := by assumption) :
    OpT P W n ds ⟨dst, .indexAddr t x y, ty, pos, af, g⟩ E G K :=
  op_of_run (fun a w ho hs => by
    simp only [execOp, ho.eval hx, ho.eval hy]
    refine run_v ?_
    refine (sem_run_bind P _ _ w _ w rfl).trans ?_
    refine (sem_run_bind P _ _ w _ w (run_underlying (t := t) w)).trans ?_
    refine (sem_run_bind P _ _ w _ w (run_underlying (t := t) w)).trans ?_
    simp only []
    rw [if_pos ⟨Int.natCast_nonneg j, by omega⟩]
    refine (sem_run_bind P _ _ w s w (run_sizeOf w)).trans ?_
    rw [addr_add, Int.toNat_natCast]; rfl) hk

theorem op_indexC {t e s b z x y k off len cap kk} {i : Int} [Und P t (.slice e)] [Inf P e s b z] (hk : K (.pointer (some ⟨k, off + i.toNat * s, none⟩)) G) (hx : evalE E x = some (.slice (some ⟨k, off, none⟩) len cap) := by exact rfl) (hy : evalE E y = some (.int kk i) := by exact rfl) (h0 : 0 ≤ i := by decide) (hj : i.toNat < len := by decide) :
    OpT P W n ds ⟨dst, .indexAddr t x y, ty, pos, af, g⟩ E G K := by
  have e : ((i.toNat : Nat) : Int) = i := Int.toNat_of_nonneg h0
  exact op_indexAddr hk hx (by rw [e]; exact hy) hj
theorem op_indexAddr1 {t e b z x y k off len cap kk j} [Und P t (.slice e)] [Inf P e 1 b z] (hk : K (.pointer (some ⟨k, off + j, none⟩)) G) (hx : evalE E x = some (.slice (some ⟨k, off, none⟩) len cap) := by exact rfl) (hy : evalE E y = some (.int kk ((j : Nat) : Int)) := by exact rfl) (hj : j < len := by assumption) :
    OpT P W n ds ⟨dst, .indexAddr t x y, ty, pos, af, g⟩ E G K :=
  op_indexAddr (t := t) (e := e) (by rw [Nat.mul_one]; exact hk) hx hy hj

theorem op_store4 {t s b z x y k off l T v m l' B e0 e1 e2 e3} [Inf P t s b z] (hk : K undef (e0 :: e1 :: e2 :: e3 :: (k, Obj.cells ⟨l'⟩ T (0, 0)) :: B)) (hx : evalE E x = some (.pointer (some ⟨k, off, none⟩)) := by exact rfl) (hy : evalE E y = some v := by exact rfl) (hG : G = e0 :: e1 :: e2 :: e3 :: (k, Obj.cells ⟨l⟩ T (0, 0)) :: B := by exact rfl) (hm : v.cells = ⟨m⟩ := by exact rfl) (hlen : m.length = s := by exact rfl) (hp : m.all Value.plain = true := by exact rfl) (hroom : off + s ≤ l.length := by exact Nat.le_of_ble_eq_true rfl) (hnew : setCells l off m = l' := by first | (simp only [setCells, List.set_cons_zero, List.set_cons_succ, List.take_succ_cons, List.take_zero, List.drop_zero, List.drop_succ_cons, Nat.zero_add, Nat.add_zero, Nat.reduceAdd]; exact rfl) | exact rfl) : OpT P W n ds ⟨dst, .store t x y, ty, pos, af, g⟩ E G K :=
  op_store (A := [e0, e1, e2, e3]) hk hx hy hG hm hlen hp hroom hnew
theorem op_store5 {t s b z x y k off l T v m l' B e0 e1 e2 e3 e4} [Inf P t s b z] (hk : K undef (e0 :: e1 :: e2 :: e3 :: e4 :: (k, Obj.cells ⟨l'⟩ T (0, 0)) :: B)) (hx : evalE E x = some (.pointer (some ⟨k, off, none⟩)) := by exact rfl) (hy : evalE E y = some v := by exact rfl) (hG : G = e0 :: e1 :: e2 :: e3 :: e4 :: (k, Obj.cells ⟨l⟩ T (0, 0)) :: B := by exact rfl) (hm : v.cells = ⟨m⟩ := by exact rfl) (hlen : m.length = s := by exact rfl) (hp : m.all Value.plain = true := by exact rfl) (hroom : off + s ≤ l.length := by exact Nat.le_of_ble_eq_true rfl) (hnew : setCells l off m = l' := by first | (simp only [setCells, List.set_cons_zero, List.set_cons_succ, List.take_succ_cons, List.take_zero, List.drop_zero, List.drop_succ_cons, Nat.zero_add, Nat.add_zero, Nat.reduceAdd]; exact rfl) | exact rfl) : OpT P W n ds ⟨dst, .store t x y, ty, pos, af, g⟩ E G K :=
  op_store (A := [e0, e1, e2, e3, e4]) hk hx hy hG hm hlen hp hroom hnew

theorem op_ftoi {src dt x b n' k} [hs : Und P src (.float .f64)] [hd : Und P dt (.int k)] (hk : K (.int k n') G) (hx : evalE E x = some (.float .f64 b) := by exact rfl) (h : floatToIntVal .f64 b k = some n' := by assumption) :
    OpT P W n ds ⟨dst, .convert src dt x, ty, pos, af, g⟩ E G K :=
  op_of_run (fun a w ho _ => by
    simp only [execOp, ho.eval hx]
    exact run_v (run_convert_float_int w src dt .f64 k b n' (by rw [hs.eq]; rfl) hd.eq h)) hk
theorem op_itof {src dt x k u} [hs : Und P src (.int k)] [hd : Und P dt (.float .f64)] (hk : K (.float .f64 (floatOfInt .f64 u)) G) (hx : evalE E x = some (.int k u) := by exact rfl) :
    OpT P W n ds ⟨dst, .convert src dt x, ty, pos, af, g⟩ E G K :=
  op_of_run (fun a w ho _ => by
    simp only [execOp, ho.eval hx]
    refine run_v ?_
    refine (sem_run_bind P _ _ w _ w (run_underlying (t := src) w)).trans ?_
    refine (sem_run_bind P _ _ w _ w (run_underlying (t := dt) w)).trans ?_
    rfl) hk
theorem op_itoi {src dt x k k2 u} [hs : Und P src (.int k)] [hd : Und P dt (.int k2)] (hk : K (.int k2 (k2.wrap u)) G) (hx : evalE E x = some (.int k u) := by exact rfl) :
    OpT P W n ds ⟨dst, .convert src dt x, ty, pos, af, g⟩ E G K :=
  op_of_run (fun a w ho _ => by
    simp only [execOp, ho.eval hx]
    refine run_v ?_
    refine (sem_run_bind P _ _ w _ w (run_underlying (t := src) w)).trans ?_
    refine (sem_run_bind P _ _ w _ w (run_underlying (t := dt) w)).trans ?_
    rfl) hk

theorem op_unop_not {t x b} (hk : K (.bool (!b)) G) (hx : evalE E x = some (.bool b) := by exact rfl) : OpT P W n ds ⟨dst, .unOp .not t x, ty, pos, af, g⟩ E G K :=
  op_of_run (fun a w ho _ => by simp only [execOp, ho.eval hx]; rfl) hk
theorem op_unop_neg_float {t x k r} (hk : K (.float k (Op.negFloat k r)) G) (hx : evalE E x = some (.float k r) := by exact rfl) : OpT P W n ds ⟨dst, .unOp .neg t x, ty, pos, af, g⟩ E G K :=
  op_of_run (fun a w ho _ => by simp only [execOp, ho.eval hx]; rfl) hk
theorem op_unop_neg_int {t x k r} (hk : K (.int k (k.wrap (0 - r))) G) (hx : evalE E x = some (.int k r) := by exact rfl) : OpT P W n ds ⟨dst, .unOp .neg t x, ty, pos, af, g⟩ E G K :=
  op_of_run (fun a w ho _ => by simp only [execOp, ho.eval hx]; rfl) hk

/-! floats: comparisons, sums -/
def fcmp0 (op : BinOp) (x y : Nat) : Bool :=
  match op with
  | .eql => Ieee.double.order x y == some .eq
  | .neq => Ieee.double.order x y != some .eq
  | .lss => Ieee.double.order x y == some .lt
  | .leq => Ieee.double.order x y == some .lt || Ieee.double.order x y == some .eq
  | .gtr => Ieee.double.order x y == some .gt
  | _ => Ieee.double.order x y == some .gt || Ieee.double.order x y == some .eq

theorem fcmp_ex : ∃ f : BinOp → Nat → Nat → Bool, ∀ op x y, f op x y = fcmp0 op x y := ⟨fcmp0, fun _ _ _ => rfl⟩
/-- A comparison, its make kept shut. -/
noncomputable def fcmp : BinOp → Nat → Nat → Bool := Classical.choose fcmp_ex
theorem fcmp_def (op : BinOp) (x y : Nat) : fcmp op x y = fcmp0 op x y := Classical.choose_spec fcmp_ex op x y

def BinOp.isCmp : BinOp → Bool
  | .eql | .neq | .lss | .leq | .gtr | .geq => true
  | _ => false

theorem op_fcmp {op t t2 x y u v} (hk : K (.bool (fcmp op u v)) G) (hc : BinOp.isCmp op = true := by exact rfl) (hx : evalE E x = some (.float .f64 u) := by exact rfl) (hy : evalE E y = some (.float .f64 v) := by exact rfl) :
    OpT P W n ds ⟨dst, .binOp op t x y t2, ty, pos, af, g⟩ E G K :=
  op_of_run (fun a w ho _ => by
    rw [fcmp_def]
    simp only [execOp, ho.eval hx, ho.eval hy]
    cases op <;> first | (cases hc; done) | rfl) hk

/-- What a float operation may give: the rounded result; a NaN of whatever bits where the operation is invalid. -/
structure FAr (op : BinOp) (x y r : Nat) : Prop where
  ok : match floatBits op .f64 x y with
  | some s => r = s
  | none => (Ieee.double.read r).isNaN = true ∧ r < 2 ^ 64

def BinOp.isArith : BinOp → Bool
  | .add | .sub | .mul | .quo => true
  | _ => false

theorem nan_bits (t : Nat) : (Ieee.double.read ((t % 2) * 2 ^ 63 + 0x7ff0000000000000 + 1 + (t / 2) % (2 ^ 52 - 1))).isNaN = true ∧ (t % 2) * 2 ^ 63 + 0x7ff0000000000000 + 1 + (t / 2) % (2 ^ 52 - 1) < 2 ^ 64 := by
  have h1 : (t / 2) % (2 ^ 52 - 1) < 2 ^ 52 - 1 := Nat.mod_lt _ (by decide)
  have h2 : t % 2 < 2 := Nat.mod_lt _ (by decide)
  generalize t % 2 = u at *
  generalize (t / 2) % (2 ^ 52 - 1) = v at *
  refine ⟨?_, by omega⟩
  have hb : Ieee.double.binade = 4503599627370496 := rfl
  have hi : Ieee.double.infRung = 9218868437227405312 := rfl
  have hw : Ieee.double.signWeight = 9223372036854775808 := rfl
  simp only [Ieee.Format.read, hb, hi, hw]
  have e : (u * 2 ^ 63 + 0x7ff0000000000000 + 1 + v) % 9223372036854775808 = 9218868437227405313 + v := by omega
  rw [e, if_neg (by omega), if_neg (by omega), if_neg (by omega)]
  rfl

theorem op_farith {op t t2 x y u v} (hk : ∀ r, FAr op u v r → K (.float .f64 r) G) (hc : BinOp.isArith op = true := by exact rfl) (hx : evalE E x = some (.float .f64 u) := by exact rfl) (hy : evalE E y = some (.float .f64 v) := by exact rfl) : OpT P W n ds ⟨dst, .binOp op t x y t2, ty, pos, af, g⟩ E G K := by
  refine ⟨fun a w next Q ho hs hn => ?_⟩
  have key : ∃ r w', FAr op u v r ∧ Sees W G w' ∧ (execOp a.eval ⟨dst, .binOp op t x y t2, ty, pos, af, g⟩).run P w = .ok (.value (.float .f64 r)) w' := by
    cases hb : floatBits op .f64 u v with
    | some r =>
      refine ⟨r, w, ⟨by rw [hb]⟩, hs, ?_⟩
      simp only [execOp, ho.eval hx, ho.eval hy]
      refine run_v ?_
      refine (sem_run_bind P _ _ w () w ?_).trans (run_float_arith w op t .f64 u v r hb)
      cases op <;> first | (cases hc; done) | rfl
    | none =>
      have hq : (Question.nanBits .f64 u v).forced = false := rfl
      refine ⟨(Question.nanBits .f64 u v).cut (w.tape w.drawn (Question.nanBits .f64 u v)), { w with drawn := w.drawn + 1 }, ?_, hs.drew _, ?_⟩
      rotate_left
      · simp only [execOp, ho.eval hx, ho.eval hy]
        refine run_v ?_
        refine (sem_run_bind P _ _ w () w ?_).trans ?_
        · cases op <;> first | (cases hc; done) | rfl
        · unfold floatBits at hb
          cases op <;> simp only at hb <;> first | (cases hc; done) | skip
          all_goals
            simp only [binOp, Op.floatArith, ne_eq, not_true_eq_false, if_false, hb]
            rfl
      · exact ⟨by rw [hb]; exact nan_bits _⟩
  obtain ⟨r, w', hr, hs', he⟩ := key
  rw [he]
  exact hn _ _ _ hs' (hk r hr)

/-! whole numbers -/
def icmp (op : BinOp) (x y : Int) : Bool :=
  match op with
  | .eql => x == y
  | .neq => x != y
  | .lss => decide (x < y)
  | .leq => decide (x ≤ y)
  | .gtr => decide (x > y)
  | _ => decide (x ≥ y)

theorem op_icmp {op t t2 x y k u v} (hk : K (.bool (icmp op u v)) G) (hc : BinOp.isCmp op = true := by exact rfl) (hx : evalE E x = some (.int k u) := by exact rfl) (hy : evalE E y = some (.int k v) := by exact rfl) :
    OpT P W n ds ⟨dst, .binOp op t x y t2, ty, pos, af, g⟩ E G K :=
  op_of_run (fun a w ho _ => by
    simp only [execOp, ho.eval hx, ho.eval hy]
    refine run_v ?_
    refine (sem_run_bind P _ _ w () w ?_).trans ?_
    · cases op <;> first | (cases hc; done) | rfl
    · cases op <;> first | (cases hc; done) | (simp only [binOp, ne_eq, not_true_eq_false, if_false]; rfl)) hk

def iarith (op : BinOp) (x y : Int) : Int :=
  match op with
  | .add => x + y
  | .sub => x - y
  | _ => x * y
def BinOp.isRing : BinOp → Bool
  | .add | .sub | .mul => true
  | _ => false
theorem op_iarith {op t t2 x y k u v} (hk : K (.int k (k.wrap (iarith op u v))) G) (hc : BinOp.isRing op = true := by exact rfl) (hx : evalE E x = some (.int k u) := by exact rfl) (hy : evalE E y = some (.int k v) := by exact rfl) :
    OpT P W n ds ⟨dst, .binOp op t x y t2, ty, pos, af, g⟩ E G K :=
  op_of_run (fun a w ho _ => by
    simp only [execOp, ho.eval hx, ho.eval hy]
    refine run_v ?_
    refine (sem_run_bind P _ _ w () w ?_).trans ?_
    · cases op <;> first | (cases hc; done) | rfl
    · cases op <;> first | (cases hc; done) | (simp only [binOp, ne_eq, not_true_eq_false, if_false]; rfl)) hk

def bcmp (op : BinOp) (x y : Bool) : Bool :=
  match op with
  | .eql => x == y
  | _ => x != y
def BinOp.isBcmp : BinOp → Bool
  | .eql | .neq => true
  | _ => false
theorem op_bcmp {op t t2 x y u v} [hT : Und P t .bool] (hk : K (.bool (bcmp op u v)) G) (hc : BinOp.isBcmp op = true := by exact rfl) (hx : evalE E x = some (.bool u) := by exact rfl) (hy : evalE E y = some (.bool v) := by exact rfl) :
    OpT P W n ds ⟨dst, .binOp op t x y t2, ty, pos, af, g⟩ E G K :=
  op_of_run (fun a w ho _ => by
    simp only [execOp, ho.eval hx, ho.eval hy]
    refine run_v ?_
    cases op <;> first | (cases hc; done) | skip
    · refine (sem_run_bind P _ _ w () w rfl).trans ?_
      exact run_eql_bool w t u v hT.eq
    · refine (sem_run_bind P _ _ w () w rfl).trans ?_
      exact run_neq_bool w t u v hT.eq) hk
theorem op_extract {x i vs v} (hk : K v G) (hx : evalE E x = some (.tuple ⟨vs⟩) := by exact rfl) (hv : vs[i]? = some v := by exact rfl) :
    OpT P W n ds ⟨dst, .extract x i, ty, pos, af, g⟩ E G K :=
  op_of_run (fun a w ho _ => by
    simp only [execOp, ho.eval hx]
    refine run_v ?_
    simp only [Instr.extract, List.getElem?_toArray, hv]
    rfl) hk
theorem op_len_slice {x tq e a} {len cap : Nat} [Und P tq (.slice e)] (hk : K (.int .i64 len) G) (hx : evalE E x = some (.slice a len cap) := by exact rfl) :
    OpT P W n ds ⟨dst, .call { callee := .builtin .len, args := #[x], argTypes := #[tq] }, ty, pos, af, g⟩ E G K :=
  op_of_run (fun a' w ho _ => by
    simp only [execOp, resolve, invoke]
    refine (sem_run_bind P _ _ w _ w rfl).trans ?_
    refine run_v ?_
    simp only [List.map_toArray, List.map_cons, List.map_nil, ho.eval hx]
    show (Builtin.len_ #[tq] ty #[.slice a len cap]).run P w = _
    simp only [Builtin.len_, List.getElem?_toArray, List.getElem?_cons_zero]
    refine (sem_run_bind P _ _ w _ w (run_underlying (t := tq) w)).trans ?_
    rfl) hk

theorem op_call {f args vs at' } (h : Does P f vs G K) (hx : evalAll E args = some vs := by exact rfl) :
    OpT P W n ds ⟨dst, .call { callee := .value (.func f), args := ⟨args⟩, argTypes := at' }, ty, pos, af, g⟩ E G K := by
  refine ⟨fun a w next Q ho hs hn => ?_⟩
  have he : args.map a.eval = vs := by
    clear h hn
    induction args generalizing vs with
    | nil => simp [evalAll] at hx; simp [← hx]
    | cons x xs ih =>
      simp only [evalAll] at hx
      cases h1 : evalE E x with
      | none => simp [h1] at hx
      | some v =>
        cases h2 : evalAll E xs with
        | none => simp [h1, h2] at hx
        | some us =>
          simp only [h1, h2, Option.some.injEq] at hx
          subst hx
          simp [ho.eval h1, ih h2]
  have hr : (execOp a.eval ⟨dst, .call { callee := .value (.func f), args := ⟨args⟩, argTypes := at' }, ty, pos, af, g⟩).run P w = (callFunc f ⟨vs⟩).run P w := by
    simp only [execOp, resolve]
    refine (sem_run_bind P _ _ w _ w rfl).trans ?_
    simp [invoke, he]
  rw [hr]
  exact h.run W w hs _ a next Q hn
end ops
end Go.Lg
