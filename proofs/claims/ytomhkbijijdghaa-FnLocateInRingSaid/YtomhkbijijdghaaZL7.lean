/-
  Regions whose order is drawn and in which memory is written: pure operations are taken first (Derived/Orders), the others as they are ready. No conditions.
-/
import Derived.Laws.AppendOwn
import Derived.Test.YtomhkbijijdghaaZL6
set_option linter.unusedVariables false
set_option linter.unusedSimpArgs false
namespace Go.Lg

/-- What is asked of a panic does not look at the slots. -/
def PQ (Q : Exit → Act → World → Prop) : Prop := ∀ c a (d : Option Tmp) v w, Q (.panic c) (a.put d v) w → Q (.panic c) a w
theorem put_defers (a : Act) (d : Option Tmp) (v : Value) : (a.put d v).defers = a.defers := by cases d <;> rfl
theorem pq_seq {P : Program} {y : Code} {Q} (h : PQ Q) : PQ (QSeq P y Q) := fun c a d v w hq => h c a d v w hq
theorem pq_block {id} {Q} (h : PQ Q) : PQ (Exit.inBlock id Q) := fun c a d v w hq => h c a d v w hq
theorem pq_loop {ι : Type} {W n ds} {I : ι → Env} {J : ι → Heap} {ok : ι → Prop} {μ : ι → Nat} {m Q} (h : PQ Q) : PQ (QLoop W n ds I J ok μ m Q) := fun c a d v w hq => h c a d v w hq
theorem pq_body {P : Program} {fn : Func} {R} : PQ (bodyPost P fn R) := fun c a d v w hq => by
  simp only [bodyPost, put_defers] at hq ⊢; exact hq

/-- An operation that gives v whatever memory holds. -/
def YT (P : Program) (n : Nat) (ds : List Deferred) (o : Oper) (E : Env) (v : Value) : Prop := ∀ a, Ok n ds E a → ∀ w, (execOp a.eval o).run P w = .ok (.value v) w

structure TA (P : Program) (W : World) (n : Nat) (ds : List Deferred) (ops : List Oper) (Q : Exit → Act → World → Prop) (fuel : Nat) (listed : List Bool) (E : Env) (G : Heap) : Prop where
  run : ∀ a w, Ok n ds E a → Sees W G w → wpAny P .any ops.toArray Q fuel ⟨listed⟩ a w

section
variable {P : Program} {W : World} {n : Nat} {ds : List Deferred} {ops : List Oper} {Q : Exit → Act → World → Prop} {E : Env} {G : Heap} {listed : List Bool} {fuel : Nat}
variable {ty : TypeId} {pos : String} {af : Array Edge} {d : Tmp}

theorem tc_any {id : Nat} (hm : P.follows .mixedOrders = true) (h : TA P W n ds ops Q ops.length (List.replicate ops.length false) E G) : TC P W n ds (.region id ops.toArray true) Q E G := by
  refine ⟨fun a w ho hs => wp_region_any hm ?_⟩
  have := h.run a { w with drawn := w.drawn + 1 } ho (hs.drew _)
  simpa using this

theorem ta_take (i : Nat) {o : Oper} {v : Value} (hi : ops[i]? = some o) (hs : Region.noSelect ops.toArray = true) (hf : Region.free .any ops.toArray ⟨listed⟩ i = true)
    (hr : (Region.ready .any ops.toArray ⟨listed⟩).contains i = true) (hQ : PQ Q) (hg : o.guard = none) (ho : o.dst = some d) (hd : d < n) (hy : YT P n ds o E v)
    (h : TA P W n ds ops Q fuel (listed.set i true) ((d, v) :: E) G) : TA P W n ds ops Q (fuel + 1) listed E G := by
  refine ⟨fun a w hok hsw => ?_⟩
  refine wpAny_take (i := i) (oi := o) (v := v) (by simpa using hi) hs hf hr (fun c a w => hQ c a _ _ w) (.inl ⟨by simp [Region.wanted, hg], hy a hok⟩) ?_
  have := h.run (a.put o.dst v) w (by rw [ho]; exact hok.put hd v) hsw
  simpa using this

theorem ta_step (i : Nat) {op : Op} {o : Oper} (hi : ops[i]? = some o) (hg : o.guard = none) {K}
    (h : OpT P W n ds o E G K) (hK : ∀ v G' a w, K v G' → Sees W G' w → Ok n ds E a → wpAny P .any ops.toArray Q fuel ⟨listed.set i true⟩ (a.put o.dst v) w) :
    ∀ a w, Ok n ds E a → Sees W G w → wpOp P ops.toArray Q i (wpAny P .any ops.toArray Q fuel ((⟨listed⟩ : Array Bool).setIfInBounds i true)) a w := by
  intro a w hok hsw
  unfold wpOp
  simp only [List.getElem?_toArray, hi]
  rw [if_pos (by simp [Region.wanted, hg])]
  refine .inl (h.run a w _ Q hok hsw fun v G' w' hs' hk => ?_)
  have := hK v G' a w' hk hs' hok
  simpa using this

/-- The only operation that is ready. -/
theorem ta_only (i : Nat) {op : Op} (hr : Region.ready .any ops.toArray ⟨listed⟩ = [i]) (hi : ops[i]? = some ⟨some d, op, ty, pos, af, none⟩) (hd : d < n)
    (h : OpT P W n ds ⟨some d, op, ty, pos, af, none⟩ E G (fun v G' => TA P W n ds ops Q fuel (listed.set i true) ((d, v) :: E) G')) : TA P W n ds ops Q (fuel + 1) listed E G :=
  ⟨fun a w hok hsw => wpAny_all hr (by simp) fun j hj => by
    simp only [List.mem_singleton] at hj; subst hj
    exact ta_step (op := op) _ hi rfl h (fun v G' a w hk hs hok => hk.run _ _ (hok.put hd v) hs) a w hok hsw⟩
theorem ta_only0 (i : Nat) {op : Op} (hr : Region.ready .any ops.toArray ⟨listed⟩ = [i]) (hi : ops[i]? = some ⟨none, op, ty, pos, af, none⟩)
    (h : OpT P W n ds ⟨none, op, ty, pos, af, none⟩ E G (fun v G' => TA P W n ds ops Q fuel (listed.set i true) E G')) : TA P W n ds ops Q (fuel + 1) listed E G :=
  ⟨fun a w hok hsw => wpAny_all hr (by simp) fun j hj => by
    simp only [List.mem_singleton] at hj; subst hj
    exact ta_step (op := op) _ hi rfl h (fun v G' a w hk hs hok => hk.run _ _ hok hs) a w hok hsw⟩
/-- Two are ready. -/
theorem ta_two (i j : Nat) {op op2 : Op} {ty2 pos2 af2} {d2 : Tmp} (hr : Region.ready .any ops.toArray ⟨listed⟩ = [i, j])
    (hi : ops[i]? = some ⟨some d, op, ty, pos, af, none⟩) (hd : d < n) (hj : ops[j]? = some ⟨some d2, op2, ty2, pos2, af2, none⟩) (hd2 : d2 < n)
    (h1 : OpT P W n ds ⟨some d, op, ty, pos, af, none⟩ E G (fun v G' => TA P W n ds ops Q fuel (listed.set i true) ((d, v) :: E) G'))
    (h2 : OpT P W n ds ⟨some d2, op2, ty2, pos2, af2, none⟩ E G (fun v G' => TA P W n ds ops Q fuel (listed.set j true) ((d2, v) :: E) G')) : TA P W n ds ops Q (fuel + 1) listed E G :=
  ⟨fun a w hok hsw => wpAny_all hr (by simp) fun k hk => by
    simp only [List.mem_cons, List.not_mem_nil, or_false] at hk
    rcases hk with rfl | rfl
    · exact ta_step (op := op) _ hi rfl h1 (fun v G' a w hk hs hok => hk.run _ _ (hok.put hd v) hs) a w hok hsw
    · exact ta_step (op := op2) _ hj rfl h2 (fun v G' a w hk hs hok => hk.run _ _ (hok.put hd2 v) hs) a w hok hsw⟩
theorem ta_done (hr : Region.ready .any ops.toArray ⟨listed⟩ = []) (h : At W n ds Q .normal E G) : TA P W n ds ops Q fuel listed E G :=
  ⟨fun a w hok hsw => wpAny_done hr (h.run a w hok hsw) fuel⟩

/-! pure operations -/
section pure
variable {dst : Option Tmp} {g : Option (Nat × Bool)}
theorem y_of {op : Op} {v : Value} (h : ∀ a w, Ok n ds E a → (execOp a.eval ⟨dst, op, ty, pos, af, g⟩).run P w = .ok (.value v) w) : YT P n ds ⟨dst, op, ty, pos, af, g⟩ E v := fun a ho w => h a w ho
theorem y_move {x v} (hx : evalE E x = some v := by exact rfl) : YT P n ds ⟨dst, .move x, ty, pos, af, g⟩ E v := y_of fun a w ho => by simp only [execOp, ho.eval hx]; rfl
theorem y_assign {x v} (hx : evalE E x = some v := by exact rfl) : YT P n ds ⟨dst, .assign x, ty, pos, af, g⟩ E v := y_of fun a w ho => by simp only [execOp, ho.eval hx]; rfl
theorem y_iarith {op t t2 x y k u v} (hc : BinOp.isRing op = true := by exact rfl) (hx : evalE E x = some (.int k u) := by exact rfl) (hy : evalE E y = some (.int k v) := by exact rfl) :
    YT P n ds ⟨dst, .binOp op t x y t2, ty, pos, af, g⟩ E (.int k (k.wrap (iarith op u v))) := y_of fun a w ho => by
  simp only [execOp, ho.eval hx, ho.eval hy]
  refine run_v ?_
  refine (sem_run_bind P _ _ w () w ?_).trans ?_
  · cases op <;> first | (cases hc; done) | rfl
  · cases op <;> first | (cases hc; done) | (simp only [binOp, ne_eq, not_true_eq_false, if_false]; rfl)
theorem y_indexAddr {t e s b z x y k off len cap kk} {j : Nat} [Und P t (.slice e)] [Inf P e s b z] (hx : evalE E x = some (.slice (some ⟨k, off, none⟩) len cap) := by exact rfl) (hy : evalE E y = some (.int kk (j : Int)) := by exact rfl)
    (hj : j < len := by first | assumption | omega) : YT P n ds ⟨dst, .indexAddr t x y, ty, pos, af, g⟩ E (.pointer (some ⟨k, off + j * s, none⟩)) := y_of fun a w ho => by
  simp only [execOp, ho.eval hx, ho.eval hy]
  refine run_v ?_
  refine (sem_run_bind P _ _ w _ w rfl).trans ?_
  refine (sem_run_bind P _ _ w _ w (run_underlying (t := t) w)).trans ?_
  refine (sem_run_bind P _ _ w _ w (run_underlying (t := t) w)).trans ?_
  simp only []
  rw [if_pos ⟨Int.natCast_nonneg j, by omega⟩]
  refine (sem_run_bind P _ _ w s w (run_sizeOf w)).trans ?_
  rw [addr_add, Int.toNat_natCast]; rfl
theorem y_indexAddr1 {t e b z x y k off len cap kk} {j : Nat} [Und P t (.slice e)] [Inf P e 1 b z] (hx : evalE E x = some (.slice (some ⟨k, off, none⟩) len cap) := by exact rfl) (hy : evalE E y = some (.int kk (j : Int)) := by exact rfl)
    (hj : j < len := by first | assumption | omega) : YT P n ds ⟨dst, .indexAddr t x y, ty, pos, af, g⟩ E (.pointer (some ⟨k, off + j, none⟩)) := by
  have := y_indexAddr (P := P) (n := n) (ds := ds) (ty := ty) (pos := pos) (af := af) (dst := dst) (g := g) (t := t) (e := e) (b := b) (z := z) hx hy hj
  rwa [Nat.mul_one] at this
theorem y_eq {o : Oper} {v u : Value} (h : YT P n ds o E v) (e : v = u) : YT P n ds o E u := e ▸ h
end pure
end
end Go.Lg

set_option linter.unusedVariables false
set_option linter.unusedSimpArgs false
namespace Go.Lg
section ops
variable {P : Program} {W : World} {n : Nat} {ds : List Deferred} {E : Env} {G : Heap} {K : Value → Heap → Prop}
variable {dst : Option Tmp} {ty : TypeId} {pos : String} {af : Array Edge} {g : Option (Nat × Bool)}

theorem op_buildSlice0 {t e s b z} [Und P t (.slice e)] [hI : Inf P e s b z] (hk : ∀ k, K (.slice (some ⟨k, 0, none⟩) 0 0) ((k, .cells ⟨[]⟩ e (0, 0)) :: G)) : OpT P W n ds ⟨dst, .buildSlice t 0 #[], ty, pos, af, g⟩ E G K := by
  refine op_new (o := .cells ⟨[]⟩ e (0, 0)) (val := fun k => .slice (some ⟨k, 0, none⟩) 0 0) (fun a w ho _ => ?_) hk
  simp only [execOp]
  refine run_v ?_
  simp only [Instr.buildSlice]
  refine (sem_run_bind P _ _ w _ w (run_underlying (t := t) w)).trans ?_
  refine (sem_run_bind P _ _ w s w (run_sizeOf w)).trans ?_
  rw [if_neg (by omega), if_pos (by omega)]
  refine (sem_run_bind P _ _ w _ w rfl).trans ?_
  have : (Array.range (0 * s)).map (fun i => (#[] : Array Value)[i % (#[] : Array Value).size]!) = #[] := by simp
  rw [this]
  have h2 : Instr.fill (fun i => some (i * s, s)) #[] (Array.map (fun x : Nat × Operand => (x.1, a.eval x.2)) #[]).toList = some #[] := by
    rw [show (Array.map (fun x : Nat × Operand => (x.1, a.eval x.2)) #[]) = #[] from by simp]; rfl
  rw [h2]
  rfl
theorem op_field {t fs i x cs T d v} {f : Field} [hU : Und P t (.struct ⟨fs⟩)] [hT : Und P T d] (hk : K v G) (hx : evalE E x = some (.agg ⟨cs⟩) := by exact rfl) (hf : fs[i]? = some f := by exact rfl)
    (ht : f.type = T := by exact rfl) (hd : TypeDesc.isAgg d = false := by exact rfl) (hv : cs[f.offset]? = some v := by exact rfl) : OpT P W n ds ⟨dst, .field t x i, ty, pos, af, g⟩ E G K :=
  op_of_run (fun a w ho _ => by
    simp only [execOp, ho.eval hx]
    refine run_v ?_
    simp only [Instr.field]
    refine (sem_run_bind P _ _ w _ w (run_underlying (t := t) w)).trans ?_
    simp only [List.getElem?_toArray, hf]
    refine (sem_run_bind P _ _ w _ w rfl).trans ?_
    simp only [part, ht]
    refine (sem_run_bind P _ _ w _ w (run_isAgg (t := T) w)).trans ?_
    rw [hd]
    simp only [List.getElem?_toArray, hv]
    rfl) hk
end ops
end Go.Lg

set_option linter.unusedVariables false
set_option linter.unusedSimpArgs false
namespace Go.Lg

def uv (x : Nat) : Value := .int .u32 (x : Int)
def US (G : Heap) (v : Value) (xs : List Nat) : Prop := Sl G v (xs.map uv)
theorem US.mono {G G' v xs} (h : US G v xs) (hG : ∀ e ∈ G, e ∈ G') : US G' v xs := Sl.mono h hG
theorem US.val {G v xs} (h : US G v xs) : ∃ a cap, v = .slice a xs.length cap := by
  obtain ⟨a, cap, h1, _⟩ := h
  exact ⟨a, cap, by simpa using h1⟩
theorem US.cap {G a n c xs} (h : US G (.slice a n c) xs) : n = xs.length ∧ xs.length ≤ c := by
  obtain ⟨_, _, h1, h2, _⟩ := h
  injection h1 with _ h4 h3
  rw [List.length_map] at h2 h4; omega
theorem US.nil {G} : US G (.slice none 0 0) [] := ⟨none, 0, rfl, Nat.le_refl _, fun h => (h rfl).elim⟩
theorem US.toN {G v xs} (h : US G v xs) : SlN 1 G v xs.length (xs.map uv) := by have := Sl.toN h; simpa using this
theorem oneCell_uv (xs : List Nat) : ∀ u ∈ xs.map uv, u.oneCell' = true := by
  intro u hu
  obtain ⟨x, _, rfl⟩ := List.mem_map.1 hu
  rfl
theorem us_buf {e : TypeId} {buf : Buf} {xs : List Nat} {n : Nat} {H : Heap} (h : bufOk 1 buf n (xs.map uv)) : US (bufH e buf (xs.map uv) H) (bufV buf n) xs := sl_buf h
theorem getD_in {zs : List Nat} {t : Nat} (h : t < zs.length) : zs.getD t 0 = zs[t] := by rw [List.getD_eq_getElem?_getD, List.getElem?_eq_getElem h]; rfl
theorem us_block {G : Heap} {a : Option Addr} {n c : Nat} {zs : List Nat} (h : US G (.slice a n c) zs) (hn : zs ≠ []) :
    ∃ k off l T fz, a = some ⟨k, off, none⟩ ∧ (k, Obj.cells ⟨l⟩ T fz) ∈ G ∧ ∀ i, i < zs.length → l[off + i]? = some (.int .u32 ((zs.getD i 0 : Nat) : Int)) := by
  obtain ⟨a', cap, h1, h0, h2⟩ := h
  obtain ⟨k, off, l, T, fz, h3, h4, h5⟩ := h2 (by simpa using hn)
  cases h1
  refine ⟨k, off, l, T, fz, h3, h4, fun i hi => cut_get h5 ?_⟩
  rw [List.getElem?_map, List.getElem?_eq_getElem hi, getD_in hi]; rfl
theorem US.take {G : Heap} {a : Option Addr} {n c m : Nat} {zs : List Nat} (h : US G (.slice a n c) zs) (hm : m ≤ zs.length) : US G (.slice a m c) (zs.take m) := by
  obtain ⟨a', cap, h1, h0, h2⟩ := h
  cases h1
  have hlen : ((zs.take m).map uv).length = m := by simp; omega
  refine ⟨a, c, by rw [hlen], by rw [hlen]; rw [List.length_map] at h0; omega, fun hne => ?_⟩
  have hz : zs.map uv ≠ [] := fun e => by
    have : zs = [] := by simpa using e
    subst this; simp at hne
  obtain ⟨k, off, l, T, fz, h3, h4, h5⟩ := h2 hz
  refine ⟨k, off, l, T, fz, h3, h4, ?_⟩
  rw [hlen, List.map_take, ← h5, List.take_take, List.length_map, Nat.min_eq_left hm]
theorem slAt_zero {k o h c : Nat} (hc : 0 < c) : slAt (some ⟨k, o, none⟩) 0 1 h c = .slice (some ⟨k, o, none⟩) h c := by
  simp only [slAt]
  split
  · omega
  · simp [addr_add]

theorem wrap_u64 {n : Int} (h0 : 0 ≤ n) (h1 : n < 18446744073709551616) : IntKind.u64.wrap n = n := by
  simp only [IntKind.wrap, IntKind.bits, IntKind.signed]
  simp
  omega
theorem wrap_u32 {n : Int} (h0 : 0 ≤ n) : IntKind.u32.wrap n = n % 4294967296 := by
  simp only [IntKind.wrap, IntKind.bits, IntKind.signed]
  simp

end Go.Lg

set_option linter.unusedVariables false
set_option linter.unusedSimpArgs false
namespace Go.Lg

/-- Block k of the memory G is o; the others are R. -/
class MidC (G : Heap) (k : Nat) (o : outParam Obj) (R : outParam Heap) : Prop where
  perm : List.Perm G ((k, o) :: R)
instance (priority := 2000) midHere {k o R} : MidC ((k, o) :: R) k o R := ⟨List.Perm.refl _⟩
instance (priority := 1500) midApp {e M k o R} [h : MidC M k o R] : MidC (e ++ M) k o (e ++ R) := ⟨(h.perm.append_left e).trans List.perm_middle⟩
instance (priority := 1000) midCons {a M k o R} [h : MidC M k o R] : MidC (a :: M) k o (a :: R) := ⟨(List.Perm.cons a h.perm).trans (List.Perm.swap _ a R)⟩
theorem mid_mem {G : Heap} {k o R} [h : MidC G k o R] {y : Nat × Obj} {p : Nat × Obj → Prop} (hp : p (k, o)) : ∀ e ∈ G, e ∈ y :: R ∨ p e := fun e he => by
  rcases List.mem_cons.1 (h.perm.subset he) with h | h
  · right; rw [h]; exact hp
  · exact .inl (List.mem_cons_of_mem _ h)
/-- The memory G is H and new blocks. -/
class ExC (G H : Heap) : Prop where
  ex : ∃ ex, G = ex ++ H
instance (priority := 2000) exHere {H} : ExC H H := ⟨[], rfl⟩
instance (priority := 1500) exApp {e M H} [h : ExC M H] : ExC (e ++ M) H := ⟨let ⟨x, h⟩ := h.ex; ⟨e ++ x, by rw [h, List.append_assoc]⟩⟩
instance (priority := 1000) exCons {a M H} [h : ExC M H] : ExC (a :: M) H := ⟨let ⟨x, h⟩ := h.ex; ⟨a :: x, by rw [h]; rfl⟩⟩
theorem exq {G H : Heap} [h : ExC G H] {p : Prop} (hp : p) : ∃ ex, G = ex ++ H ∧ p := let ⟨ex, h⟩ := h.ex; ⟨ex, h, hp⟩
theorem exs {G H : Heap} [h : ExC G H] : ∀ e ∈ H, e ∈ G := let ⟨x, h⟩ := h.ex; by rw [h]; exact fun e he => List.mem_append_right _ he
section
variable {P : Program} {W : World} {n : Nat} {ds : List Deferred} {dst : Option Tmp} {ty : TypeId} {pos : String} {af : Array Edge} {g : Option (Nat × Bool)} {E : Env} {G : Heap} {K : Value → Heap → Prop}
/-- A store into a block that lies anywhere. -/
theorem op_storeK {t s b z x y k off l T v m l' R} [Inf P t s b z] (hx : evalE E x = some (.pointer (some ⟨k, off, none⟩))) [hperm : MidC G k (Obj.cells ⟨l⟩ T (0, 0)) R] (hk : K undef ((k, Obj.cells ⟨l'⟩ T (0, 0)) :: R)) (hy : evalE E y = some v := by exact rfl) (hm : v.cells = ⟨m⟩ := by exact rfl) (hlen : m.length = s := by exact rfl) (hp : m.all Value.plain = true := by exact rfl) (hroom : off + s ≤ l.length := by exact Nat.le_of_ble_eq_true rfl) (hnew : setCells l off m = l' := by first | (simp only [setCells, List.set_cons_zero, List.set_cons_succ, List.take_succ_cons, List.take_zero, List.drop_zero, List.drop_succ_cons, Nat.zero_add, Nat.add_zero, Nat.reduceAdd]; exact rfl) | exact rfl) : OpT P W n ds ⟨dst, .store t x y, ty, pos, af, g⟩ E G K :=
  op_perm hperm.perm.symm (op_store0 hk hx hy rfl hm hlen hp hroom hnew)
theorem op_loadK {t d x k off l T fz v R} [Und P t d] (hx : evalE E x = some (.pointer (some ⟨k, off, none⟩))) [hm : MidC G k (Obj.cells ⟨l⟩ T fz) R] (hk : K v G) (hd : TypeDesc.isAgg d = false := by exact rfl) (hv : l[off]? = some v := by first | exact rfl | assumption) : OpT P W n ds ⟨dst, .load t x, ty, pos, af, g⟩ E G K :=
  op_load hk hx hd (hm.perm.symm.subset List.mem_cons_self) hv
theorem op_load_aggK {t d s b z x k off l T fz m R} [Und P t d] [Inf P t s b z] (hx : evalE E x = some (.pointer (some ⟨k, off, none⟩))) [hm : MidC G k (Obj.cells ⟨l⟩ T fz) R] (hk : K (.agg ⟨m⟩) G) (hd : TypeDesc.isAgg d = true := by exact rfl) (hv : (l.drop off).take s = m := by first | assumption | (simp only [setCells, List.set_cons_zero, List.set_cons_succ, List.take_succ_cons, List.take_zero, List.drop_zero, List.drop_succ_cons, Nat.zero_add, Nat.add_zero, Nat.reduceAdd]; exact rfl) | exact rfl) (hlen : m.length = s := by exact rfl) : OpT P W n ds ⟨dst, .load t x, ty, pos, af, g⟩ E G K :=
  op_load_agg hk hx hd (hm.perm.symm.subset List.mem_cons_self) hv hlen
end
end Go.Lg

set_option linter.unusedVariables false
set_option linter.unusedSimpArgs false
namespace Go.Lg

/-- All cells behind the row have this. -/
def spP (p : Value → Prop) : Buf → Prop
  | none => True
  | some (_, _, sp) => ∀ u ∈ sp, p u
theorem mem_zeroCells {z : Array Value} {n : Nat} {u : Value} (h : u ∈ (Builtin.zeroCells z n).toList) : u ∈ z.toList := by
  unfold Builtin.zeroCells at h
  rw [Array.toList_map] at h
  obtain ⟨i, hi, rfl⟩ := List.mem_map.1 h
  have hi2 : i < n * z.size := by simpa using hi
  have hz : 0 < z.size := by
    rcases Nat.eq_zero_or_pos z.size with h0 | h0
    · rw [h0] at hi2; omega
    · exact h0
  have hlt : i % z.size < z.size := Nat.mod_lt _ hz
  rw [getElem!_pos z (i % z.size) hlt]
  exact Array.getElem_mem_toList hlt
section
variable {P : Program} {W : World} {n : Nat} {ds : List Deferred} {dst : Option Tmp} {ty : TypeId} {pos : String} {af : Array Edge} {g : Option (Nat × Bool)} {E : Env} {G : Heap} {K : Value → Heap → Prop}
theorem op_appendP (p : Value → Prop) {t e s b z x y kn offn m c ln Tn fzn H'} (buf : Buf) (l : Nat) (ws news : List Value) [Und P t (.slice e)] [hI : Inf P e s b z] (hok : bufOk s buf l ws) (hps : spP p buf) (hpz : ∀ u ∈ z, p u)
    (hk : ∀ buf', bufOk s buf' (l + m) (ws ++ news) → spP p buf' → K (bufV buf' (l + m)) (bufH e buf' (ws ++ news) H'))
    (hx : evalE E x = some (bufV buf l)) (hy : evalE E y = some (.slice (some ⟨kn, offn, none⟩) m c)) (hsub : List.Sublist (bufH e buf ws H') G) (hn : (kn, Obj.cells ⟨ln⟩ Tn fzn) ∈ G)
    (hnews : (ln.drop offn).take (m * s) = news) (hlen : news.length = m * s) (h1 : ∀ u ∈ news, u.oneCell' = true) (hm : 0 < m) (hbig : l + m ≤ maxLen) (hbytes : (l + m) * b ≤ 140737488355328) (hz0 : z.length = s := by exact rfl) :
    OpT P W n ds ⟨dst, .call { callee := .builtin .append, args := #[x, y], argTypes := #[t, t] }, ty, pos, af, g⟩ E G K := by
  have ht : P.underlying t = some (.slice e) := Und.eq
  obtain ⟨i, zv, hi, rfl, hb, hz, hzc⟩ := hI.get
  subst hb
  have hsmall : l + m ≤ 9223372036854775807 := by simp only [maxLen] at hbig; omega
  have zlen : zv.cells.size = i.size := by rw [hzc]; exact hz0
  refine ⟨fun a w next Q ho hs hnx => ?_⟩
  have hcell : ∀ j u, news[j]? = some u → w.cell? ((⟨kn, offn, none⟩ : Addr).add j) = some u := fun j u hj => by
    rw [addr_add]; exact hs.cell hn (cut_get hnews hj)
  have run : ∃ v' w' buf', (Builtin.append_ #[t, t] ty #[bufV buf l, .slice (some ⟨kn, offn, none⟩) m c]).run P w = .ok v' w' ∧ v' = bufV buf' (l + m) ∧ bufOk i.size buf' (l + m) (ws ++ news) ∧ Sees W (bufH e buf' (ws ++ news) H') w' ∧ spP p buf' := by
    have hs2 := hs.sub hsub
    have grown : ∀ old, old < l + m → ws.length = l * i.size → Sees W H' w →
        bufOk i.size (some (w.heap.size, grownCap w (l + m) old e, (Builtin.zeroCells zv.cells (grownCap w (l + m) old e - (l + m))).toList)) (l + m) (ws ++ news) ∧
        Sees W (bufH e (some (w.heap.size, grownCap w (l + m) old e, (Builtin.zeroCells zv.cells (grownCap w (l + m) old e - (l + m))).toList)) (ws ++ news) H') (w.drew.alloc (.cells (ws.toArray ++ news.toArray ++ Builtin.zeroCells zv.cells (grownCap w (l + m) old e - (l + m))) e)) := by
      intro old hold hwl hsH
      have hge := grownCap_ge w (l + m) old e
      refine ⟨⟨hge, grownCap_le_maxLen w (l + m) old e hbig, by rw [List.length_append, hwl, hlen, Nat.add_mul], ?_⟩, ?_⟩
      · rw [List.length_append, List.length_append, hwl, hlen, Array.length_toList, size_zeroCells, zlen, ← Nat.add_mul, ← Nat.add_mul]
        congr 1; omega
      · have := (hsH.drew (w.drawn + 1)).push (.cells (ws.toArray ++ news.toArray ++ Builtin.zeroCells zv.cells (grownCap w (l + m) old e - (l + m))) e)
        have e1 : (ws.toArray ++ news.toArray ++ Builtin.zeroCells zv.cells (grownCap w (l + m) old e - (l + m))) = ⟨(ws ++ news) ++ (Builtin.zeroCells zv.cells (grownCap w (l + m) old e - (l + m))).toList⟩ := by
          apply Array.ext'; simp
        rw [e1] at this ⊢
        exact this
    have hzp : ∀ n, ∀ u ∈ (Builtin.zeroCells zv.cells n).toList, p u := fun n u hu => hpz u (by
      have := mem_zeroCells hu
      rw [hzc] at this; exact this)
    match buf, hok, hps with
    | none, hok, hps =>
      obtain ⟨rfl, rfl⟩ := hok
      have hr := run_append_nil (P := P) w t ty e i zv ht hi hz ⟨kn, offn, none⟩ m c news hlen hcell hm (by omega) (by have := hbytes; simp only [Nat.zero_add] at this; omega)
      have hg := grown 0 (by omega) (by simp) hs2
      simp only [Nat.zero_add] at hg ⊢
      refine ⟨_, _, some (w.heap.size, _, _), hr, rfl, hg.1, ?_, hzp _⟩
      have := hg.2
      simpa using this
    | some (k, cap, sp), hok, hps =>
      obtain ⟨h2, h3, h4, h5⟩ := hok
      have hkm := hs2.mem k _ List.mem_cons_self
      by_cases hroom : l + m ≤ cap
      · have hfit : l * i.size + news.length ≤ (⟨ws ++ sp⟩ : Array Value).size := by
          rw [hlen, ← Nat.add_mul]; show _ ≤ (ws ++ sp).length; rw [h5]; exact Nat.mul_le_mul_right _ hroom
        have hr := run_append_room (P := P) w t ty e i ht hi k l cap ⟨ws ++ sp⟩ hkm ⟨kn, offn, none⟩ m c news hlen hcell h1 hroom hfit
        have e1 : (((⟨ws ++ sp⟩ : Array Value).toList.take (l * i.size) ++ news ++ (⟨ws ++ sp⟩ : Array Value).toList.drop (l * i.size + news.length)).toArray) = ⟨(ws ++ news) ++ sp.drop news.length⟩ := by
          apply Array.ext'
          show (ws ++ sp).take (l * i.size) ++ news ++ (ws ++ sp).drop (l * i.size + news.length) = _
          rw [← h4, List.take_left, List.drop_append]
          simp
        rw [e1] at hr
        refine ⟨_, _, some (k, cap, sp.drop news.length), hr, rfl, ⟨hroom, h3, by rw [List.length_append, h4, hlen, Nat.add_mul], ?_⟩, hs2.setRow, fun u hu => hps u (List.mem_of_mem_drop hu)⟩
        have : (ws ++ sp).length = cap * i.size := h5
        have h6 : (l + m) * i.size ≤ cap * i.size := Nat.mul_le_mul_right _ hroom
        rw [Nat.add_mul] at h6
        simp only [List.length_append, List.length_drop] at this ⊢
        omega
      · have holds : ∀ j u, ws[j]? = some u → w.cell? ((⟨k, 0, none⟩ : Addr).add j) = some u := fun j u hj => by
          rw [addr_add]
          refine hs2.cell List.mem_cons_self ?_
          have hlt := (List.getElem?_eq_some_iff.1 hj).1
          rw [Nat.zero_add, List.getElem?_append_left hlt]; exact hj
        have hr := run_append_grow (P := P) w t ty e i zv ht hi hz ⟨k, 0, none⟩ l cap ws h4 holds ⟨kn, offn, none⟩ m c news hlen hcell (by omega) (by omega) (growslice_fits (by omega) hbytes)
        have hg := grown cap (by omega) h4 (hs2.sub (List.sublist_cons_self _ _))
        exact ⟨_, _, some (w.heap.size, _, _), hr, rfl, hg.1, hg.2, hzp _⟩
  obtain ⟨v', w', buf', hrun, rfl, hok', hs', hsp'⟩ := run
  have he : (execOp a.eval ⟨dst, .call { callee := .builtin .append, args := #[x, y], argTypes := #[t, t] }, ty, pos, af, g⟩).run P w = .ok (.value (bufV buf' (l + m))) w' := by
    simp only [execOp, resolve, invoke]
    refine (sem_run_bind P _ _ w _ w rfl).trans ?_
    refine run_v ?_
    simp only [List.map_toArray, List.map_cons, List.map_nil, ho.eval hx, ho.eval hy]
    exact hrun
  rw [he]
  exact hnx _ _ _ hs' (hk buf' hok' hsp')
end
end Go.Lg

set_option linter.unusedVariables false
set_option linter.unusedSimpArgs false
namespace Go.Proofs.Ytomhkbijijdghaa.Pl
open Go.Lg Ieee

def tw (x : Nat) : Nat := Ieee.double.write ((Ieee.double.read x).integral .zero)
theorem neq_tw {x r : Nat} (h : TruncR x r) : fcmp .neq x r = fcmp .neq x (tw x) := by
  rcases h with ⟨h1, h2⟩ | ⟨h1, rfl⟩
  · cases hd : double.read x with
    | nan s t => simp [fcmp_def, fcmp0, Format.order, hd, Datum.order]
    | number => rw [hd] at h1; cases h1
    | infinity => rw [hd] at h1; cases h1
  · rfl
theorem neq_nan {x y : Nat} (h : (double.read x).isNaN = true) : fcmp .neq x y = true := by
  cases hd : double.read x with
  | nan s t => simp [fcmp_def, fcmp0, Format.order, hd, Datum.order]
  | number => rw [hd] at h; cases h
  | infinity => rw [hd] at h; cases h
/-- The test of one number. -/
noncomputable def wB (most x : Nat) : Bool := !(fcmp .neq x (tw x)) && !(fcmp .gtr (x % 9223372036854775808) most)
theorem wB_wh {most M x : Nat} (hM : Fv most (M : Rat)) (hMb : M ≤ 9007199254740992) (h : wB most x = true) : Wh M x := by
  unfold wB at h
  simp only [Bool.and_eq_true, Bool.not_eq_true'] at h
  by_cases hn : (double.read x).isNaN = true
  · rw [neq_nan hn] at h; exact (by simp at h)
  · exact whole_abs hM hMb (.inr ⟨by simpa using hn, rfl⟩) h.1 h.2
theorem all_no {α : Type} {p : α → Bool} {l : List α} {j : Nat} {x : α} (h : l[j]? = some x) (hp : p x = false) : l.all p = false := by
  rw [List.all_eq_false]
  exact ⟨x, List.mem_of_getElem? h, by simp [hp]⟩
theorem all_snoc {α : Type} {p : α → Bool} {l : List α} {j : Nat} {x : α} (h : l[j]? = some x) (hp : p x = true) (hl : ∀ y ∈ l.take j, p y = true) : ∀ y ∈ l.take (j + 1), p y = true := by
  intro y hy
  rw [List.take_add_one, h] at hy
  simp only [Option.toList_some, List.mem_append, List.mem_singleton] at hy
  rcases hy with hy | rfl
  · exact hl y hy
  · exact hp
theorem wholeToB (v : Value) (xs : List Nat) (most : Nat) (H : Heap) (hl : xs.length < 2 ^ 62) (hv : FS H v xs) :
    Does Try.prog 60 [.float .f64 most, v] H fun u H' => u = .bool (xs.all (wB most)) ∧ H' = H := by
  obtain ⟨a0, cap0, rfl⟩ := hv.val
  refine fn_enter 24 Try.func60 fun W => ?_
  repeat' first
    | refine tc_seq ?_ | refine tc_region ?_ | refine at_seq_normal ?_ | refine tl_nil ?_ | refine tl_cons ?_ | refine op_move ?_ | refine op_assign ?_ | refine op_load ?_ | refine op_load_agg ?_ | refine op_indexC ?_
    | refine op_indexAddr1 ?_ | refine op_indexAddr ?_ | refine op_icmp ?_ | refine op_fcmp ?_ | refine op_iarith ?_ | refine op_len_slice ?_ | refine op_pick_true ?_ | refine op_pick_false ?_ | refine op_pick_true' ?_ | refine op_pick_false' ?_
    | refine op_loadK rfl ?_ | refine op_load_aggK rfl ?_ | refine tc_cond_t ?_ | refine tc_cond_f ?_ | refine tc_cond (fun _ => ?_) (fun _ => ?_) | refine tc_block ?_ | refine tc_skip ?_ | refine tc_ret ?_ | refine tc_exit ?_ | refine at_seq_ret ?_
    | refine at_seq_exit ?_ | refine at_block_normal ?_ | refine at_block_ret ?_ | refine at_block_exit_self ?_ | refine at_block_exit_ne ?_ | refine at_loop_ret ?_ | refine at_loop_exit ?_ | refine tl_guard_yes ?_ | refine tl_guard_no ?_ | refine tl_guard_yes' ?_
    | refine tl_guard_no' ?_ | refine tl_guard_undef ?_ | refine tl_guard_split (fun _ => ?_) (fun _ => ?_)
  refine tc_loopH [(0, _), (7, _), (8, _)] (by repeat (first | exact trivial | refine ⟨rfl, ?_⟩)) (fun j : Nat => [(9, .int .i64 (j : Int))]) (fun j => j ≤ xs.length ∧ ∀ x ∈ xs.take j, wB most x = true) (fun j => xs.length - j) 0 ⟨Nat.zero_le _, by simp⟩ ⟨rfl, trivial⟩ ?_
  rintro j ⟨hj, hg⟩
  by_cases hlt : j < xs.length
  · have hb : icmp .lss (j : Int) (xs.length : Int) = true := by rw [lss_nat]; simpa using hlt
    have hget : xs[j]? = some xs[j] := List.getElem?_eq_getElem hlt
    obtain ⟨k, off, l, T, fz, cap, he, hm, hl', hlt'⟩ := hv.at hget
    cases he
    generalize xs[j] = x at *
    by_cases e1 : fcmp .neq x (tw x) = true
    · repeat' first
        | (refine op_fcmp ?_; rw [neq_tw hr, e1])
        | (first | refine tc_seq ?_ | refine tc_region ?_ | refine at_seq_normal ?_ | refine tl_nil ?_ | refine tl_cons ?_ | refine op_move ?_ | refine op_assign ?_ | refine op_load ?_ | refine op_load_agg ?_ | refine op_indexC ?_ | refine op_indexAddr1 ?_ | refine op_indexAddr ?_ | refine op_icmp ?_ | refine op_fcmp ?_ | refine op_iarith ?_ | refine op_len_slice ?_ | refine op_pick_true ?_ | refine op_pick_false ?_ | refine op_pick_true' ?_ | refine op_pick_false' ?_ | refine op_loadK rfl ?_ | refine op_load_aggK rfl ?_ | refine tc_cond_t ?_ | refine tc_cond_f ?_ | refine tc_block ?_ | refine tc_skip ?_ | refine tc_ret ?_ | refine tc_exit ?_ | refine at_seq_ret ?_ | refine at_seq_exit ?_ | refine at_block_normal ?_ | refine at_block_ret ?_ | refine at_block_exit_self ?_ | refine at_block_exit_ne ?_ | refine at_loop_ret ?_ | refine at_loop_exit ?_ | refine tl_guard_yes ?_ | refine tl_guard_no ?_ | refine tl_guard_yes' ?_ | refine tl_guard_no' ?_ | refine tl_guard_undef ?_ | fail)
        | (refine op_call ((trunc _ _).mono ?_); rintro _ _ ⟨⟨r, rfl, hr⟩, rfl⟩)
        | (refine op_call ((abs _ _).mono ?_); rintro _ _ ⟨rfl, rfl⟩)
        | fail
      exact ret_tmp (hk := ⟨congrArg Value.bool (all_no hget (by unfold wB; rw [e1]; rfl)).symm, rfl⟩)
    · have e1 : fcmp .neq x (tw x) = false := by simpa using e1
      by_cases e2 : fcmp .gtr (x % 9223372036854775808) most = true
      · repeat' first
          | (refine op_fcmp ?_; rw [neq_tw hr, e1])
          | (first | refine tc_seq ?_ | refine tc_region ?_ | refine at_seq_normal ?_ | refine tl_nil ?_ | refine tl_cons ?_ | refine op_move ?_ | refine op_assign ?_ | refine op_load ?_ | refine op_load_agg ?_ | refine op_indexC ?_ | refine op_indexAddr1 ?_ | refine op_indexAddr ?_ | refine op_icmp ?_ | refine op_fcmp ?_ | refine op_iarith ?_ | refine op_len_slice ?_ | refine op_pick_true ?_ | refine op_pick_false ?_ | refine op_pick_true' ?_ | refine op_pick_false' ?_ | refine op_loadK rfl ?_ | refine op_load_aggK rfl ?_ | refine tc_cond_t ?_ | refine tc_cond_f ?_ | refine tc_block ?_ | refine tc_skip ?_ | refine tc_ret ?_ | refine tc_exit ?_ | refine at_seq_ret ?_ | refine at_seq_exit ?_ | refine at_block_normal ?_ | refine at_block_ret ?_ | refine at_block_exit_self ?_ | refine at_block_exit_ne ?_ | refine at_loop_ret ?_ | refine at_loop_exit ?_ | refine tl_guard_yes ?_ | refine tl_guard_no ?_ | refine tl_guard_yes' ?_ | refine tl_guard_no' ?_ | refine tl_guard_undef ?_ | fail)
          | (refine op_call ((trunc _ _).mono ?_); rintro _ _ ⟨⟨r, rfl, hr⟩, rfl⟩)
          | (refine op_call ((abs _ _).mono ?_); rintro _ _ ⟨rfl, rfl⟩)
          | fail
        exact ret_tmp (hk := ⟨congrArg Value.bool (all_no hget (by unfold wB; rw [e1, e2]; rfl)).symm, rfl⟩)
      · have e2 : fcmp .gtr (x % 9223372036854775808) most = false := by simpa using e2
        repeat' first
          | (refine op_fcmp ?_; rw [neq_tw hr, e1])
          | (first | refine tc_seq ?_ | refine tc_region ?_ | refine at_seq_normal ?_ | refine tl_nil ?_ | refine tl_cons ?_ | refine op_move ?_ | refine op_assign ?_ | refine op_load ?_ | refine op_load_agg ?_ | refine op_indexC ?_ | refine op_indexAddr1 ?_ | refine op_indexAddr ?_ | refine op_icmp ?_ | refine op_fcmp ?_ | refine op_iarith ?_ | refine op_len_slice ?_ | refine op_pick_true ?_ | refine op_pick_false ?_ | refine op_pick_true' ?_ | refine op_pick_false' ?_ | refine op_loadK rfl ?_ | refine op_load_aggK rfl ?_ | refine tc_cond_t ?_ | refine tc_cond_f ?_ | refine tc_block ?_ | refine tc_skip ?_ | refine tc_ret ?_ | refine tc_exit ?_ | refine at_seq_ret ?_ | refine at_seq_exit ?_ | refine at_block_normal ?_ | refine at_block_ret ?_ | refine at_block_exit_self ?_ | refine at_block_exit_ne ?_ | refine at_loop_ret ?_ | refine at_loop_exit ?_ | refine tl_guard_yes ?_ | refine tl_guard_no ?_ | refine tl_guard_yes' ?_ | refine tl_guard_no' ?_ | refine tl_guard_undef ?_ | fail)
          | (refine op_call ((trunc _ _).mono ?_); rintro _ _ ⟨⟨r, rfl, hr⟩, rfl⟩)
          | (refine op_call ((abs _ _).mono ?_); rintro _ _ ⟨rfl, rfl⟩)
          | fail
        exact at_loopK (j + 1) ⟨hlt, all_snoc hget (by unfold wB; rw [e1, e2]; rfl) hg⟩ (by omega) ⟨next_nat (by omega), trivial⟩ (by repeat (first | exact trivial | refine ⟨rfl, ?_⟩)) (by (repeat (first | exact List.Sublist.refl _ | apply List.Sublist.cons_cons | apply List.Sublist.cons | refine List.Sublist.trans ?_ (List.sublist_append_right _ _))))
  · have hb : icmp .lss (j : Int) (xs.length : Int) = false := by rw [lss_nat]; simpa using hlt
    repeat' first
      | refine tc_seq ?_ | refine tc_region ?_ | refine at_seq_normal ?_ | refine tl_nil ?_ | refine tl_cons ?_ | refine op_move ?_ | refine op_assign ?_ | refine op_load ?_ | refine op_load_agg ?_ | refine op_indexC ?_
      | refine op_indexAddr1 ?_ | refine op_indexAddr ?_ | refine op_icmp ?_ | refine op_fcmp ?_ | refine op_iarith ?_ | refine op_len_slice ?_ | refine op_pick_true ?_ | refine op_pick_false ?_ | refine op_pick_true' ?_ | refine op_pick_false' ?_
      | refine op_loadK rfl ?_ | refine op_load_aggK rfl ?_ | refine tc_cond_t ?_ | refine tc_cond_f ?_ | refine tc_cond (fun _ => ?_) (fun _ => ?_) | refine tc_block ?_ | refine tc_skip ?_ | refine tc_ret ?_ | refine tc_exit ?_ | refine at_seq_ret ?_
      | refine at_seq_exit ?_ | refine at_block_normal ?_ | refine at_block_ret ?_ | refine at_block_exit_self ?_ | refine at_block_exit_ne ?_ | refine at_loop_ret ?_ | refine at_loop_exit ?_ | refine tl_guard_yes ?_ | refine tl_guard_no ?_ | refine tl_guard_yes' ?_
      | refine tl_guard_no' ?_ | refine tl_guard_undef ?_ | refine tl_guard_split (fun _ => ?_) (fun _ => ?_)
    rw [List.take_of_length_le (by omega)] at hg
    exact ret_tmp (hk := ⟨congrArg Value.bool (List.all_eq_true.2 hg).symm, rfl⟩)
noncomputable def pB (most : Nat) (p : Nat × Nat) : Bool := wB most p.1 && wB most p.2
theorem pB_wh {most M : Nat} {p : Nat × Nat} (hM : Fv most (M : Rat)) (hMb : M ≤ 9007199254740992) (h : pB most p = true) : Wh M p.1 ∧ Wh M p.2 := by
  unfold pB at h
  simp only [Bool.and_eq_true] at h
  exact ⟨wB_wh hM hMb h.1, wB_wh hM hMb h.2⟩
theorem SlN.cutPairs {G v n} {ps : List (Nat × Nat)} (h : SlN 2 G v n ((pairs ps).map fl)) {j : Nat} {x y : Nat} (hj : ps[j]? = some (x, y)) :
    ∃ k off l T fz cap, v = .slice (some ⟨k, off, none⟩) n cap ∧ (k, Obj.cells ⟨l⟩ T fz) ∈ G ∧ (l.drop (off + j * 2)).take 2 = [.float .f64 x, .float .f64 y] := by
  have hlen := h.1
  rw [List.length_map, pairs_len] at hlen
  have hj' := (List.getElem?_eq_some_iff.1 hj).1
  obtain ⟨k, off, l, T, fz, cap, h1, h2, h3⟩ := h.at (j := j) (by omega)
  refine ⟨k, off, l, T, fz, cap, h1, h2, h3.trans ?_⟩
  have := pairs_cut ps j x y hj
  rwa [Nat.zero_add] at this
theorem planeToB (v : Value) (ps : List (Nat × Nat)) (most : Nat) (H : Heap) (hl : ps.length < 2 ^ 62) (hv : SlN 2 H v ps.length ((pairs ps).map fl)) :
    Does Try.prog 25 [.float .f64 most, v] H fun u H' => u = .bool (ps.all (pB most)) ∧ ∃ ex, H' = ex ++ H := by
  obtain ⟨a0, cap0, rfl, _⟩ := hv.val
  refine fn_enter 22 Try.func25 fun W => ?_
  repeat' first
    | refine tc_seq ?_ | refine tc_region ?_ | refine at_seq_normal ?_ | refine tl_nil ?_ | refine tl_cons ?_ | refine tl_cons_none ?_ | refine op_move ?_ | refine op_assign ?_ | refine op_fieldAddr ?_ | refine op_load ?_
    | refine op_load_agg ?_ | refine op_indexC ?_ | refine op_indexAddr1 ?_ | refine op_indexAddr ?_ | refine op_icmp ?_ | refine op_iarith ?_ | refine op_unop_not ?_ | refine op_len_slice ?_ | (refine op_alloc ?_; intro _) | (refine op_buildSlice ?_; intro _)
    | refine op_store0 ?_ | refine op_store1 ?_ | refine op_store2 ?_ | refine op_store3 ?_ | refine op_store4 ?_ | refine op_store5 ?_ | refine op_storeK rfl ?_ | refine op_loadK rfl ?_ | refine op_load_aggK rfl ?_ | refine tc_cond_t ?_
    | refine tc_cond_f ?_ | refine tc_cond (fun _ => ?_) (fun _ => ?_) | refine tc_block ?_ | refine tc_skip ?_ | refine tc_ret ?_ | refine tc_exit ?_ | refine at_seq_ret ?_ | refine at_seq_exit ?_ | refine at_block_normal ?_ | refine at_block_ret ?_
    | refine at_block_exit_self ?_ | refine at_block_exit_ne ?_ | refine at_loop_ret ?_ | refine at_loop_exit ?_
  refine tc_loopH [(0, _), (7, _), (8, _)] (by repeat (first | exact trivial | refine ⟨rfl, ?_⟩)) (fun j : Nat => [(9, .int .i64 (j : Int))]) (fun j => j ≤ ps.length ∧ ∀ p ∈ ps.take j, pB most p = true) (fun j => ps.length - j) 0 ⟨Nat.zero_le _, by simp⟩ ⟨rfl, trivial⟩ ?_
  rintro j ⟨hj, hg⟩
  by_cases hlt : j < ps.length
  · have hb : icmp .lss (j : Int) (ps.length : Int) = true := by rw [lss_nat]; simpa using hlt
    have hget : ps[j]? = some ps[j] := List.getElem?_eq_getElem hlt
    generalize ps[j] = p at *
    obtain ⟨x, y⟩ := p
    obtain ⟨k, off, l, T, fz, cap, he, hm, hcut⟩ := SlN.cutPairs hv hget
    cases he
    by_cases e1 : pB most (x, y) = true
    · have e2 : ([x, y].all (wB most)) = true := by simpa [pB] using e1
      repeat' first
        | (first | refine tc_seq ?_ | refine tc_region ?_ | refine at_seq_normal ?_ | refine tl_nil ?_ | refine tl_cons ?_ | refine tl_cons_none ?_ | refine op_move ?_ | refine op_assign ?_ | refine op_fieldAddr ?_ | refine op_load ?_ | refine op_load_agg ?_ | refine op_indexC ?_ | refine op_indexAddr1 ?_ | refine op_indexAddr ?_ | refine op_icmp ?_ | refine op_iarith ?_ | refine op_unop_not ?_ | refine op_len_slice ?_ | (refine op_alloc ?_; intro _) | (refine op_buildSlice ?_; intro _) | refine op_store0 ?_ | refine op_store1 ?_ | refine op_store2 ?_ | refine op_store3 ?_ | refine op_store4 ?_ | refine op_store5 ?_ | refine op_storeK rfl ?_ | refine op_loadK rfl ?_ | refine op_load_aggK rfl ?_ | refine tc_cond_t ?_ | refine tc_cond_f ?_ | refine tc_block ?_ | refine tc_skip ?_ | refine tc_ret ?_ | refine tc_exit ?_ | refine at_seq_ret ?_ | refine at_seq_exit ?_ | refine at_block_normal ?_ | refine at_block_ret ?_ | refine at_block_exit_self ?_ | refine at_block_exit_ne ?_ | refine at_loop_ret ?_ | refine at_loop_exit ?_ | fail)
        | (refine op_call ((wholeToB _ [x, y] most _ (by simp) (fs_new [x, y] List.mem_cons_self)).mono ?_); rintro _ _ ⟨rfl, rfl⟩; rw [e2])
        | fail
      exact at_loopK (j + 1) ⟨hlt, all_snoc hget e1 hg⟩ (by omega) ⟨next_nat (by omega), trivial⟩ (by repeat (first | exact trivial | refine ⟨rfl, ?_⟩)) (by (repeat (first | exact List.Sublist.refl _ | apply List.Sublist.cons_cons | apply List.Sublist.cons | refine List.Sublist.trans ?_ (List.sublist_append_right _ _))))
    · have e1 : pB most (x, y) = false := by simpa using e1
      have e2 : ([x, y].all (wB most)) = false := by simpa [pB] using e1
      repeat' first
        | (first | refine tc_seq ?_ | refine tc_region ?_ | refine at_seq_normal ?_ | refine tl_nil ?_ | refine tl_cons ?_ | refine tl_cons_none ?_ | refine op_move ?_ | refine op_assign ?_ | refine op_fieldAddr ?_ | refine op_load ?_ | refine op_load_agg ?_ | refine op_indexC ?_ | refine op_indexAddr1 ?_ | refine op_indexAddr ?_ | refine op_icmp ?_ | refine op_iarith ?_ | refine op_unop_not ?_ | refine op_len_slice ?_ | (refine op_alloc ?_; intro _) | (refine op_buildSlice ?_; intro _) | refine op_store0 ?_ | refine op_store1 ?_ | refine op_store2 ?_ | refine op_store3 ?_ | refine op_store4 ?_ | refine op_store5 ?_ | refine op_storeK rfl ?_ | refine op_loadK rfl ?_ | refine op_load_aggK rfl ?_ | refine tc_cond_t ?_ | refine tc_cond_f ?_ | refine tc_block ?_ | refine tc_skip ?_ | refine tc_ret ?_ | refine tc_exit ?_ | refine at_seq_ret ?_ | refine at_seq_exit ?_ | refine at_block_normal ?_ | refine at_block_ret ?_ | refine at_block_exit_self ?_ | refine at_block_exit_ne ?_ | refine at_loop_ret ?_ | refine at_loop_exit ?_ | fail)
        | (refine op_call ((wholeToB _ [x, y] most _ (by simp) (fs_new [x, y] List.mem_cons_self)).mono ?_); rintro _ _ ⟨rfl, rfl⟩; rw [e2])
        | fail
      exact ret_tmp (hG := List.Sublist.refl _) (hk := ⟨congrArg Value.bool (all_no hget e1).symm, ⟨[_, _], rfl⟩⟩)
  · have hb : icmp .lss (j : Int) (ps.length : Int) = false := by rw [lss_nat]; simpa using hlt
    repeat' first
      | refine tc_seq ?_ | refine tc_region ?_ | refine at_seq_normal ?_ | refine tl_nil ?_ | refine tl_cons ?_ | refine tl_cons_none ?_ | refine op_move ?_ | refine op_assign ?_ | refine op_fieldAddr ?_ | refine op_load ?_
      | refine op_load_agg ?_ | refine op_indexC ?_ | refine op_indexAddr1 ?_ | refine op_indexAddr ?_ | refine op_icmp ?_ | refine op_iarith ?_ | refine op_unop_not ?_ | refine op_len_slice ?_ | (refine op_alloc ?_; intro _) | (refine op_buildSlice ?_; intro _)
      | refine op_store0 ?_ | refine op_store1 ?_ | refine op_store2 ?_ | refine op_store3 ?_ | refine op_store4 ?_ | refine op_store5 ?_ | refine op_storeK rfl ?_ | refine op_loadK rfl ?_ | refine op_load_aggK rfl ?_ | refine tc_cond_t ?_
      | refine tc_cond_f ?_ | refine tc_cond (fun _ => ?_) (fun _ => ?_) | refine tc_block ?_ | refine tc_skip ?_ | refine tc_ret ?_ | refine tc_exit ?_ | refine at_seq_ret ?_ | refine at_seq_exit ?_ | refine at_block_normal ?_ | refine at_block_ret ?_
      | refine at_block_exit_self ?_ | refine at_block_exit_ne ?_ | refine at_loop_ret ?_ | refine at_loop_exit ?_
    rw [List.take_of_length_le (by omega)] at hg
    exact ret_tmp (hk := ⟨congrArg Value.bool (List.all_eq_true.2 hg).symm, ⟨[], rfl⟩⟩)
end Go.Proofs.Ytomhkbijijdghaa.Pl

set_option linter.unusedVariables false
set_option linter.unusedSimpArgs false
namespace Go.Lg
open Ieee

theorem rootFrom_spec (n : Nat) : ∀ (todo root : Nat), root * root ≤ n → n < (root + 2 ^ todo) * (root + 2 ^ todo) →
    Datum.rootFrom n todo root * Datum.rootFrom n todo root ≤ n ∧ n < (Datum.rootFrom n todo root + 1) * (Datum.rootFrom n todo root + 1)
  | 0, root, h1, h2 => ⟨h1, by show n < (root + 1) * (root + 1); simpa using h2⟩
  | todo + 1, root, h1, h2 => by
    unfold Datum.rootFrom
    simp only [Nat.one_shiftLeft]
    have e : (2 : Nat) ^ (todo + 1) = 2 ^ todo + 2 ^ todo := by rw [Nat.pow_succ]; omega
    by_cases hc : (root + 2 ^ todo) * (root + 2 ^ todo) ≤ n
    · rw [if_pos hc]
      exact rootFrom_spec n todo _ hc (by rw [Nat.add_assoc, ← e]; exact h2)
    · rw [if_neg hc]
      exact rootFrom_spec n todo _ h1 (by omega)
theorem sq_lt {a b : Nat} (h : a * a < b * b) : a < b := by
  rcases Nat.lt_or_ge a b with h1 | h1
  · exact h1
  · exact absurd (Nat.mul_le_mul h1 h1) (by omega)
theorem root_sq {w : Nat} : Datum.rootFrom (w * w) ((w * w).log2 / 2 + 1) 0 = w := by
  have hlog : w * w < 2 ^ ((w * w).log2 + 1) := Nat.lt_log2_self
  have h := rootFrom_spec (w * w) ((w * w).log2 / 2 + 1) 0 (by omega) (by
    rw [Nat.zero_add, ← Nat.pow_add]
    exact Nat.lt_of_lt_of_le hlog (Nat.pow_le_pow_right (by decide) (by omega)))
  generalize Datum.rootFrom (w * w) ((w * w).log2 / 2 + 1) 0 = r at h
  have h2 := sq_lt h.2
  rcases Nat.lt_or_ge w r with h1 | h1
  · have := Nat.mul_lt_mul'' h1 h1; omega
  · omega

theorem read_big {x : Nat} {s : Bool} {m : Nat} {e : Int} (hr : double.read x = .number s m e) : e = -1074 ∨ 4503599627370496 ≤ m := by
  have hread : double.read x = (if x % 9223372036854775808 < 4503599627370496 then
      Datum.number (x / 9223372036854775808 % 2 == 1) (x % 9223372036854775808) (-1074)
    else if x % 9223372036854775808 < 9218868437227405312 then
      Datum.number (x / 9223372036854775808 % 2 == 1) (4503599627370496 + x % 9223372036854775808 % 4503599627370496) (-1074 + ((x % 9223372036854775808 / 4503599627370496 - 1 : Nat) : Int))
    else if x % 9223372036854775808 = 9218868437227405312 then Datum.infinity (x / 9223372036854775808 % 2 == 1)
    else Datum.nan (x / 9223372036854775808 % 2 == 1) (x % 9223372036854775808 - 9218868437227405312)) := rfl
  rw [hread] at hr
  by_cases c1 : x % 9223372036854775808 < 4503599627370496
  · rw [if_pos c1] at hr; cases hr; exact .inl rfl
  · rw [if_neg c1] at hr
    by_cases c2 : x % 9223372036854775808 < 9218868437227405312
    · rw [if_pos c2] at hr; cases hr; right; omega
    · rw [if_neg c2] at hr
      by_cases c3 : x % 9223372036854775808 = 9218868437227405312
      · rw [if_pos c3] at hr; cases hr
      · rw [if_neg c3] at hr; cases hr

/-- What the root of a number is: one word, or no number. -/
def SqrtR (x r : Nat) : Prop := ∀ w, double.sqrt x = some w → r = w

theorem sqrt_sq {x r k : Nat} (h : Fv x ((k * k : Nat) : Rat)) (hk : k * k < 9007199254740992) (hr : SqrtR x r) : Fv r (k : Rat) := by
  obtain ⟨s, m, e, hx, hq⟩ := h
  have hbig := read_big hx
  have hkb : k < 9007199254740992 := by
    rcases Nat.lt_or_ge k 9007199254740992 with h | h
    · exact h
    · have := Nat.mul_le_mul h h; omega
  have hp := p2_pos e
  by_cases hm : m = 0
  · subst hm
    have hk0 : k = 0 := by
      have h0 : ((k * k : Nat) : Rat) = 0 := by rw [hq]; grind
      have h1 : k * k = 0 := by exact_mod_cast h0
      rcases Nat.mul_eq_zero.1 h1 with h | h <;> exact h
    subst hk0
    have hw : double.sqrt x = some (double.write (.number s 0 e)) := by
      show ((double.read x).root _).map double.write = _
      rw [hx]; rfl
    obtain ⟨c, hc, hrd⟩ := write_rnd (s := s) (m := 0) (e := e) (by have := p2_pos 1023; grind) (by have := p2_pos 1023; grind)
    have hz : sgn s * ((0 : Nat) : Rat) * p2 e = ((0 : Int) : Rat) := by grind
    rw [hz] at hrd
    have := hrd.exact (rep_int (n := 0) (by decide) (by decide))
    subst this
    rw [hr _ hw]
    simpa using hc
  · have hmp : (0 : Rat) < (m : Rat) := by exact_mod_cast Nat.pos_of_ne_zero hm
    have hmul : 0 < (m : Rat) * p2 e := Rat.mul_pos hmp hp
    have hkk : (0 : Rat) ≤ ((k * k : Nat) : Rat) := by exact_mod_cast Nat.zero_le _
    have hs : s = false := by
      cases s with
      | false => rfl
      | true => exfalso; unfold sgn at hq; grind
    subst hs
    have hq2 : ((k * k : Nat) : Rat) = (m : Rat) * p2 e := by rw [hq]; unfold sgn; grind
    have he : e ≤ 0 := by
      rcases Int.lt_or_le 0 e with h | h
      · exfalso
        have hm2 : 4503599627370496 ≤ m := by rcases hbig with h1 | h1 <;> omega
        have e1 : p2 e = ((2 ^ e.toNat : Nat) : Rat) := p2_toNat (by omega)
        rw [e1, ← Rat.natCast_mul] at hq2
        have h3 : k * k = m * 2 ^ e.toNat := by exact_mod_cast hq2
        have h4 : 2 ^ 1 ≤ 2 ^ e.toNat := Nat.pow_le_pow_right (by decide) (by omega)
        have h5 := Nat.mul_le_mul hm2 h4
        omega
      · exact h
    obtain ⟨d, rfl⟩ : ∃ d : Nat, e = -(d : Int) := ⟨(-e).toNat, by omega⟩
    have hmk : m = k * k * 2 ^ d := by
      have e1 : p2 (-(d : Int)) * p2 (d : Int) = 1 := by rw [← p2_add, Int.add_left_neg]; exact p2_zero
      have e2 : p2 (d : Int) = ((2 ^ d : Nat) : Rat) := p2_nat d
      have : (m : Rat) = ((k * k * 2 ^ d : Nat) : Rat) := by
        rw [Rat.natCast_mul, ← e2, hq2]; grind
      exact_mod_cast this
    generalize hmore : (2 * (double.fractionBits + 2) - m.log2) + ((-(d : Int) - ((2 * (double.fractionBits + 2) - m.log2 : Nat) : Int)) % 2).toNat = more
    obtain ⟨hh, hhe⟩ : ∃ hh : Nat, d + more = 2 * hh := ⟨(d + more) / 2, by omega⟩
    have hn : m <<< more = (k * 2 ^ hh) * (k * 2 ^ hh) := by
      rw [Nat.shiftLeft_eq, hmk, Nat.mul_assoc, ← Nat.pow_add, hhe, Nat.two_mul, Nat.pow_add]
      simp only [Nat.mul_assoc, Nat.mul_left_comm, Nat.mul_comm]
    have hroot : (Datum.number false m (-(d : Int))).root (double.fractionBits + 2) = some (.number false (2 * (k * 2 ^ hh)) (-(hh : Int) - 1)) := by
      simp only [Datum.root, if_neg hm, Bool.false_eq_true, if_false]
      rw [hmore, hn, root_sq]
      congr 2
      · simp
      · omega
    have hw : double.sqrt x = some (double.write (.number false (2 * (k * 2 ^ hh)) (-(hh : Int) - 1))) := by
      show ((double.read x).root _).map double.write = _
      rw [hx, hroot]; rfl
    have hval : sgn false * ((2 * (k * 2 ^ hh) : Nat) : Rat) * p2 (-(hh : Int) - 1) = ((k : Int) : Rat) := by
      have e1 : p2 (-(hh : Int) - 1) * p2 ((hh + 1 : Nat) : Int) = 1 := by rw [← p2_add, show -(hh : Int) - 1 + ((hh + 1 : Nat) : Int) = 0 by omega]; exact p2_zero
      have e2 : ((2 * (k * 2 ^ hh) : Nat) : Rat) = (k : Rat) * p2 ((hh + 1 : Nat) : Int) := by
        rw [p2_nat, ← Rat.natCast_mul]; congr 1
        rw [Nat.pow_succ]; simp only [Nat.mul_assoc, Nat.mul_left_comm, Nat.mul_comm]
      rw [e2, Rat.intCast_natCast]; unfold sgn; grind
    obtain ⟨c, hc, hrd⟩ := write_rnd (s := false) (m := 2 * (k * 2 ^ hh)) (e := -(hh : Int) - 1)
      (by
        rw [hval]
        have : ((k : Int) : Rat) < p2 53 := by rw [p2_toNat (by decide), Rat.intCast_natCast]; exact_mod_cast hkb
        have := p2_le (show (53 : Int) ≤ 1023 by decide)
        grind)
      (by
        rw [hval]
        have : (0 : Rat) ≤ ((k : Int) : Rat) := by rw [Rat.intCast_natCast]; exact_mod_cast Nat.zero_le k
        have := p2_pos 1023
        grind)
    rw [hval] at hrd
    have := hrd.exact (rep_int (n := (k : Int)) (by omega) (by omega))
    subst this
    rw [hr _ hw]
    simpa [Rat.intCast_natCast] using hc
end Go.Lg
