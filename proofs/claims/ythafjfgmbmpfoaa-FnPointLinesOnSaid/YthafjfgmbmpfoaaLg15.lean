/-
  Memory listed in any order: a block found among others, a store into it, what is left of the old memory. No conditions.
-/
import Derived.Test.YthafjfgmbmpfoaaLg14
set_option linter.unusedVariables false
set_option linter.unusedSimpArgs false
namespace Go.Lg

/-- Block k of the memory G is o; the others are R. -/
class MidC (G : Heap) (k : Nat) (o : outParam Obj) (R : outParam Heap) : Prop where
  perm : List.Perm G ((k, o) :: R)
instance (priority := 2000) midHere {k o R} : MidC ((k, o) :: R) k o R := ⟨List.Perm.refl _⟩
instance (priority := 1500) midApp {e M k o R} [h : MidC M k o R] : MidC (e ++ M) k o (e ++ R) := ⟨(h.perm.append_left e).trans List.perm_middle⟩
instance (priority := 1000) midCons {a M k o R} [h : MidC M k o R] : MidC (a :: M) k o (a :: R) := ⟨(List.Perm.cons a h.perm).trans (List.Perm.swap _ a R)⟩
theorem mid_mem {G : Heap} {k o R} [h : MidC G k o R] {y : Nat × Obj} {p : Nat × Obj → Prop} (hp : p (k, o)) : ∀ e ∈ G, e ∈ y :: R ∨ p e := fun e he => by
  rcases List.mem_cons.1 (h.perm.subset he) with h | h
  · right; rw [h]; exact hp
  · exact .inl (List.mem_cons_of_mem _ h)
/-- The memory G is H and new blocks. -/
class ExC (G H : Heap) : Prop where
  ex : ∃ ex, G = ex ++ H
instance (priority := 2000) exHere {H} : ExC H H := ⟨[], rfl⟩
instance (priority := 1500) exApp {e M H} [h : ExC M H] : ExC (e ++ M) H := ⟨let ⟨x, h⟩ := h.ex; ⟨e ++ x, by rw [h, List.append_assoc]⟩⟩
instance (priority := 1000) exCons {a M H} [h : ExC M H] : ExC (a :: M) H := ⟨let ⟨x, h⟩ := h.ex; ⟨a :: x, by rw [h]; rfl⟩⟩
theorem exq {G H : Heap} [h : ExC G H] {p : Prop} (hp : p) : ∃ ex, G = ex ++ H ∧ p := let ⟨ex, h⟩ := h.ex; ⟨ex, h, hp⟩
theorem exs {G H : Heap} [h : ExC G H] : ∀ e ∈ H, e ∈ G := let ⟨x, h⟩ := h.ex; by rw [h]; exact fun e he => List.mem_append_right _ he
section
variable {P : Program} {W : World} {n : Nat} {ds : List Deferred} {dst : Option Tmp} {ty : TypeId} {pos : String} {af : Array Edge} {g : Option (Nat × Bool)} {E : Env} {G : Heap} {K : Value → Heap → Prop}
/-- A store into a block that lies anywhere. -/
theorem op_storeK {t s b z x y k off l T v m l' R} [Inf P t s b z] (hx : evalE E x = some (.pointer (some ⟨k, off, none⟩))) [hperm : MidC G k (Obj.cells ⟨l⟩ T (0, 0)) R] (hk : K undef ((k, Obj.cells ⟨l'⟩ T (0, 0)) :: R)) (hy : evalE E y = some v := by exact rfl) (hm : v.cells = ⟨m⟩ := by exact rfl) (hlen : m.length = s := by exact rfl) (hp : m.all Value.plain = true := by exact rfl) (hroom : off + s ≤ l.length := by exact Nat.le_of_ble_eq_true rfl) (hnew : setCells l off m = l' := by first | (simp only [setCells, List.set_cons_zero, List.set_cons_succ, List.take_succ_cons, List.take_zero, List.drop_zero, List.drop_succ_cons, Nat.zero_add, Nat.add_zero, Nat.reduceAdd]; exact rfl) | exact rfl) : OpT P W n ds ⟨dst, .store t x y, ty, pos, af, g⟩ E G K :=
  op_perm hperm.perm.symm (op_store0 hk hx hy rfl hm hlen hp hroom hnew)
theorem op_loadK {t d x k off l T fz v R} [Und P t d] (hx : evalE E x = some (.pointer (some ⟨k, off, none⟩))) [hm : MidC G k (Obj.cells ⟨l⟩ T fz) R] (hk : K v G) (hd : TypeDesc.isAgg d = false := by exact rfl) (hv : l[off]? = some v := by first | exact rfl | assumption) : OpT P W n ds ⟨dst, .load t x, ty, pos, af, g⟩ E G K :=
  op_load hk hx hd (hm.perm.symm.subset List.mem_cons_self) hv
theorem op_load_aggK {t d s b z x k off l T fz m R} [Und P t d] [Inf P t s b z] (hx : evalE E x = some (.pointer (some ⟨k, off, none⟩))) [hm : MidC G k (Obj.cells ⟨l⟩ T fz) R] (hk : K (.agg ⟨m⟩) G) (hd : TypeDesc.isAgg d = true := by exact rfl) (hv : (l.drop off).take s = m := by first | assumption | (simp only [setCells, List.set_cons_zero, List.set_cons_succ, List.take_succ_cons, List.take_zero, List.drop_zero, List.drop_succ_cons, Nat.zero_add, Nat.add_zero, Nat.reduceAdd]; exact rfl) | exact rfl) (hlen : m.length = s := by exact rfl) : OpT P W n ds ⟨dst, .load t x, ty, pos, af, g⟩ E G K :=
  op_load_agg hk hx hd (hm.perm.symm.subset List.mem_cons_self) hv hlen
end
end Go.Lg
