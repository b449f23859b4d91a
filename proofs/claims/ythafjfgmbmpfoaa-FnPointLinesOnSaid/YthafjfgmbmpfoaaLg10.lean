/-
  Regions whose order is drawn and in which memory is written: pure operations are taken first (Derived/Orders), the others as they are ready. No conditions.
-/
import Derived.Test.YthafjfgmbmpfoaaLg9
set_option linter.unusedVariables false
set_option linter.unusedSimpArgs false
namespace Go.Lg

/-- What is asked of a panic does not look at the slots. -/
def PQ (Q : Exit → Act → World → Prop) : Prop := ∀ c a (d : Option Tmp) v w, Q (.panic c) (a.put d v) w → Q (.panic c) a w
theorem put_defers (a : Act) (d : Option Tmp) (v : Value) : (a.put d v).defers = a.defers := by cases d <;> rfl
theorem pq_seq {P : Program} {y : Code} {Q} (h : PQ Q) : PQ (QSeq P y Q) := fun c a d v w hq => h c a d v w hq
theorem pq_block {id} {Q} (h : PQ Q) : PQ (Exit.inBlock id Q) := fun c a d v w hq => h c a d v w hq
theorem pq_loop {ι : Type} {W n ds} {I : ι → Env} {J : ι → Heap} {ok : ι → Prop} {μ : ι → Nat} {m Q} (h : PQ Q) : PQ (QLoop W n ds I J ok μ m Q) := fun c a d v w hq => h c a d v w hq
theorem pq_body {P : Program} {fn : Func} {R} : PQ (bodyPost P fn R) := fun c a d v w hq => by
  simp only [bodyPost, put_defers] at hq ⊢; exact hq

/-- An operation that gives v whatever memory holds. -/
def YT (P : Program) (n : Nat) (ds : List Deferred) (o : Oper) (E : Env) (v : Value) : Prop := ∀ a, Ok n ds E a → ∀ w, (execOp a.eval o).run P w = .ok (.value v) w

structure TA (P : Program) (W : World) (n : Nat) (ds : List Deferred) (ops : List Oper) (Q : Exit → Act → World → Prop) (fuel : Nat) (listed : List Bool) (E : Env) (G : Heap) : Prop where
  run : ∀ a w, Ok n ds E a → Sees W G w → wpAny P .any ops.toArray Q fuel ⟨listed⟩ a w

section
variable {P : Program} {W : World} {n : Nat} {ds : List Deferred} {ops : List Oper} {Q : Exit → Act → World → Prop} {E : Env} {G : Heap} {listed : List Bool} {fuel : Nat}
variable {ty : TypeId} {pos : String} {af : Array Edge} {d : Tmp}

theorem tc_any {id : Nat} (hm : P.follows .mixedOrders = true) (h : TA P W n ds ops Q ops.length (List.replicate ops.length false) E G) : TC P W n ds (.region id ops.toArray true) Q E G := by
  refine ⟨fun a w ho hs => wp_region_any hm ?_⟩
  have := h.run a { w with drawn := w.drawn + 1 } ho (hs.drew _)
  simpa using this

theorem ta_take (i : Nat) {o : Oper} {v : Value} (hi : ops[i]? = some o) (hs : Region.noSelect ops.toArray = true) (hf : Region.free .any ops.toArray ⟨listed⟩ i = true)
    (hr : (Region.ready .any ops.toArray ⟨listed⟩).contains i = true) (hQ : PQ Q) (hg : o.guard = none) (ho : o.dst = some d) (hd : d < n) (hy : YT P n ds o E v)
    (h : TA P W n ds ops Q fuel (listed.set i true) ((d, v) :: E) G) : TA P W n ds ops Q (fuel + 1) listed E G := by
  refine ⟨fun a w hok hsw => ?_⟩
  refine wpAny_take (i := i) (oi := o) (v := v) (by simpa using hi) hs hf hr (fun c a w => hQ c a _ _ w) (.inl ⟨by simp [Region.wanted, hg], hy a hok⟩) ?_
  have := h.run (a.put o.dst v) w (by rw [ho]; exact hok.put hd v) hsw
  simpa using this

theorem ta_step (i : Nat) {op : Op} {o : Oper} (hi : ops[i]? = some o) (hg : o.guard = none) {K}
    (h : OpT P W n ds o E G K) (hK : ∀ v G' a w, K v G' → Sees W G' w → Ok n ds E a → wpAny P .any ops.toArray Q fuel ⟨listed.set i true⟩ (a.put o.dst v) w) :
    ∀ a w, Ok n ds E a → Sees W G w → wpOp P ops.toArray Q i (wpAny P .any ops.toArray Q fuel ((⟨listed⟩ : Array Bool).setIfInBounds i true)) a w := by
  intro a w hok hsw
  unfold wpOp
  simp only [List.getElem?_toArray, hi]
  rw [if_pos (by simp [Region.wanted, hg])]
  refine .inl (h.run a w _ Q hok hsw fun v G' w' hs' hk => ?_)
  have := hK v G' a w' hk hs' hok
  simpa using this

/-- The only operation that is ready. -/
theorem ta_only (i : Nat) {op : Op} (hr : Region.ready .any ops.toArray ⟨listed⟩ = [i]) (hi : ops[i]? = some ⟨some d, op, ty, pos, af, none⟩) (hd : d < n)
    (h : OpT P W n ds ⟨some d, op, ty, pos, af, none⟩ E G (fun v G' => TA P W n ds ops Q fuel (listed.set i true) ((d, v) :: E) G')) : TA P W n ds ops Q (fuel + 1) listed E G :=
  ⟨fun a w hok hsw => wpAny_all hr (by simp) fun j hj => by
    simp only [List.mem_singleton] at hj; subst hj
    exact ta_step (op := op) _ hi rfl h (fun v G' a w hk hs hok => hk.run _ _ (hok.put hd v) hs) a w hok hsw⟩
theorem ta_only0 (i : Nat) {op : Op} (hr : Region.ready .any ops.toArray ⟨listed⟩ = [i]) (hi : ops[i]? = some ⟨none, op, ty, pos, af, none⟩)
    (h : OpT P W n ds ⟨none, op, ty, pos, af, none⟩ E G (fun v G' => TA P W n ds ops Q fuel (listed.set i true) E G')) : TA P W n ds ops Q (fuel + 1) listed E G :=
  ⟨fun a w hok hsw => wpAny_all hr (by simp) fun j hj => by
    simp only [List.mem_singleton] at hj; subst hj
    exact ta_step (op := op) _ hi rfl h (fun v G' a w hk hs hok => hk.run _ _ hok hs) a w hok hsw⟩
/-- Two are ready. -/
theorem ta_two (i j : Nat) {op op2 : Op} {ty2 pos2 af2} {d2 : Tmp} (hr : Region.ready .any ops.toArray ⟨listed⟩ = [i, j])
    (hi : ops[i]? = some ⟨some d, op, ty, pos, af, none⟩) (hd : d < n) (hj : ops[j]? = some ⟨some d2, op2, ty2, pos2, af2, none⟩) (hd2 : d2 < n)
    (h1 : OpT P W n ds ⟨some d, op, ty, pos, af, none⟩ E G (fun v G' => TA P W n ds ops Q fuel (listed.set i true) ((d, v) :: E) G'))
    (h2 : OpT P W n ds ⟨some d2, op2, ty2, pos2, af2, none⟩ E G (fun v G' => TA P W n ds ops Q fuel (listed.set j true) ((d2, v) :: E) G')) : TA P W n ds ops Q (fuel + 1) listed E G :=
  ⟨fun a w hok hsw => wpAny_all hr (by simp) fun k hk => by
    simp only [List.mem_cons, List.not_mem_nil, or_false] at hk
    rcases hk with rfl | rfl
    · exact ta_step (op := op) _ hi rfl h1 (fun v G' a w hk hs hok => hk.run _ _ (hok.put hd v) hs) a w hok hsw
    · exact ta_step (op := op2) _ hj rfl h2 (fun v G' a w hk hs hok => hk.run _ _ (hok.put hd2 v) hs) a w hok hsw⟩
theorem ta_done (hr : Region.ready .any ops.toArray ⟨listed⟩ = []) (h : At W n ds Q .normal E G) : TA P W n ds ops Q fuel listed E G :=
  ⟨fun a w hok hsw => wpAny_done hr (h.run a w hok hsw) fuel⟩

/-! pure operations -/
section pure
variable {dst : Option Tmp} {g : Option (Nat × Bool)}
theorem y_of {op : Op} {v : Value} (h : ∀ a w, Ok n ds E a → (execOp a.eval ⟨dst, op, ty, pos, af, g⟩).run P w = .ok (.value v) w) : YT P n ds ⟨dst, op, ty, pos, af, g⟩ E v := fun a ho w => h a w ho
theorem y_move {x v} (hx : evalE E x = some v := by exact rfl) : YT P n ds ⟨dst, .move x, ty, pos, af, g⟩ E v := y_of fun a w ho => by simp only [execOp, ho.eval hx]; rfl
theorem y_assign {x v} (hx : evalE E x = some v := by exact rfl) : YT P n ds ⟨dst, .assign x, ty, pos, af, g⟩ E v := y_of fun a w ho => by simp only [execOp, ho.eval hx]; rfl
theorem y_iarith {op t t2 x y k u v} (hc : BinOp.isRing op = true := by exact rfl) (hx : evalE E x = some (.int k u) := by exact rfl) (hy : evalE E y = some (.int k v) := by exact rfl) :
    YT P n ds ⟨dst, .binOp op t x y t2, ty, pos, af, g⟩ E (.int k (k.wrap (iarith op u v))) := y_of fun a w ho => by
  simp only [execOp, ho.eval hx, ho.eval hy]
  refine run_v ?_
  refine (sem_run_bind P _ _ w () w ?_).trans ?_
  · cases op <;> first | (cases hc; done) | rfl
  · cases op <;> first | (cases hc; done) | (simp only [binOp, ne_eq, not_true_eq_false, if_false]; rfl)
theorem y_indexAddr {t e s b z x y k off len cap kk} {j : Nat} [Und P t (.slice e)] [Inf P e s b z] (hx : evalE E x = some (.slice (some ⟨k, off, none⟩) len cap) := by exact rfl) (hy : evalE E y = some (.int kk (j : Int)) := by exact rfl)
    (hj : j < len := by first | assumption | omega) : YT P n ds ⟨dst, .indexAddr t x y, ty, pos, af, g⟩ E (.pointer (some ⟨k, off + j * s, none⟩)) := y_of fun a w ho => by
  simp only [execOp, ho.eval hx, ho.eval hy]
  refine run_v ?_
  refine (sem_run_bind P _ _ w _ w rfl).trans ?_
  refine (sem_run_bind P _ _ w _ w (run_underlying (t := t) w)).trans ?_
  refine (sem_run_bind P _ _ w _ w (run_underlying (t := t) w)).trans ?_
  simp only []
  rw [if_pos ⟨Int.natCast_nonneg j, by omega⟩]
  refine (sem_run_bind P _ _ w s w (run_sizeOf w)).trans ?_
  rw [addr_add, Int.toNat_natCast]; rfl
theorem y_indexAddr1 {t e b z x y k off len cap kk} {j : Nat} [Und P t (.slice e)] [Inf P e 1 b z] (hx : evalE E x = some (.slice (some ⟨k, off, none⟩) len cap) := by exact rfl) (hy : evalE E y = some (.int kk (j : Int)) := by exact rfl)
    (hj : j < len := by first | assumption | omega) : YT P n ds ⟨dst, .indexAddr t x y, ty, pos, af, g⟩ E (.pointer (some ⟨k, off + j, none⟩)) := by
  have := y_indexAddr (P := P) (n := n) (ds := ds) (ty := ty) (pos := pos) (af := af) (dst := dst) (g := g) (t := t) (e := e) (b := b) (z := z) hx hy hj
  rwa [Nat.mul_one] at this
theorem y_eq {o : Oper} {v u : Value} (h : YT P n ds o E v) (e : v = u) : YT P n ds o E u := e ▸ h
end pure
end
end Go.Lg
