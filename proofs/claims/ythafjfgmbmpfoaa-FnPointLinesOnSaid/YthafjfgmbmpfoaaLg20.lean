/-
  More rules of the small logic: products of counts. No conditions.
-/
import Derived.Test.YthafjfgmbmpfoaaLg19
import Derived.Test.YthafjfgmbmpfoaaLg15
set_option linter.unusedVariables false
set_option linter.unusedSimpArgs false
namespace Go.Lg

theorem wrap_mulN {i s : Nat} (h : i * s < 9223372036854775808) : IntKind.i64.wrap (iarith .mul (i : Int) (s : Int)) = ((i * s : Nat) : Int) := by
  have e : iarith .mul (i : Int) (s : Int) = ((i * s : Nat) : Int) := by show (i : Int) * s = _; rw [Int.natCast_mul]
  rw [e]
  exact wrap_in (by omega) (by omega)
theorem wrap_addN {i s : Nat} (h : i + s < 9223372036854775808) : IntKind.i64.wrap (iarith .add (i : Int) (s : Int)) = ((i + s : Nat) : Int) := by
  have e : iarith .add (i : Int) (s : Int) = ((i + s : Nat) : Int) := by show (i : Int) + s = _; omega
  rw [e]
  exact wrap_in (by omega) (by omega)
theorem MidC.mem {G : Heap} {k : Nat} {o : Obj} {R : Heap} (h : MidC G k o R) : (k, o) ∈ G := h.perm.mem_iff.2 List.mem_cons_self
/-- A result in a variable that is found anywhere in the memory. -/
theorem rv_cell {P : Program} {E : Env} {G : Heap} {t T d k off l S fz v R} [Und P T d] (hx : Env.get E t = some (.pointer (some ⟨k, off, none⟩))) [hm : MidC G k (Obj.cells ⟨l⟩ S fz) R] (hd : TypeDesc.isAgg d = false := by exact rfl) (hv : l[off]? = some v := by exact rfl) : RV P E G (.cell t T) v := .cell hd hx hm.mem hv
theorem rv_agg {P : Program} {E : Env} {G : Heap} {t T d s b z k off l S fz m R} [Und P T d] [Inf P T s b z] (hx : Env.get E t = some (.pointer (some ⟨k, off, none⟩))) [hm : MidC G k (Obj.cells ⟨l⟩ S fz) R] (hd : TypeDesc.isAgg d = true := by exact rfl)
    (hv : (l.drop off).take s = m := by first | (simp only [setCells, List.set_cons_zero, List.set_cons_succ, List.take_succ_cons, List.take_zero, List.drop_zero, List.drop_succ_cons, Nat.zero_add, Nat.add_zero, Nat.reduceAdd]; exact rfl) | exact rfl) (hl : m.length = s := by exact rfl) : RV P E G (.cell t T) (.agg ⟨m⟩) := .agg hd hx hm.mem hv hl
section
variable {P : Program} {W : World} {n : Nat} {ds : List Deferred} {dst : Option Tmp} {ty : TypeId} {pos : String} {af : Array Edge} {g : Option (Nat × Bool)} {E : Env} {G H : Heap} {K : Value → Heap → Prop}
/-- A load of a block that lies anywhere in a memory that this one holds. -/
theorem op_loadH {t d x k off l T fz v R} [Und P t d] (hs : Sub H G) (hx : evalE E x = some (.pointer (some ⟨k, off, none⟩))) [hm : MidC H k (Obj.cells ⟨l⟩ T fz) R] (hk : K v G) (hd : TypeDesc.isAgg d = false := by exact rfl) (hv : l[off]? = some v := by first | exact rfl | assumption) : OpT P W n ds ⟨dst, .load t x, ty, pos, af, g⟩ E G K :=
  op_load hk hx hd (hs _ hm.mem) hv
theorem op_load_aggH {t d s b z x k off l T fz m R} [Und P t d] [Inf P t s b z] (hs : Sub H G) (hx : evalE E x = some (.pointer (some ⟨k, off, none⟩))) [hm : MidC H k (Obj.cells ⟨l⟩ T fz) R] (hk : K (.agg ⟨m⟩) G) (hd : TypeDesc.isAgg d = true := by exact rfl) (hv : (l.drop off).take s = m := by first | assumption | (simp only [setCells, List.set_cons_zero, List.set_cons_succ, List.take_succ_cons, List.take_zero, List.drop_zero, List.drop_succ_cons, Nat.zero_add, Nat.add_zero, Nat.reduceAdd]; exact rfl) | exact rfl) (hlen : m.length = s := by exact rfl) : OpT P W n ds ⟨dst, .load t x, ty, pos, af, g⟩ E G K :=
  op_load_agg hk hx hd (hs _ hm.mem) hv hlen
end
/-- A part of the memory, as a list: found in the whole by instances. -/
class InC (e G : Heap) : Prop where
  sub : ∀ x ∈ e, x ∈ G
instance (priority := 2000) inHere {e : Heap} : InC e e := ⟨fun _ h => h⟩
instance (priority := 1900) inLeft {e M : Heap} : InC e (e ++ M) := ⟨fun _ h => List.mem_append_left _ h⟩
instance (priority := 1500) inApp {e d M : Heap} [h : InC e M] : InC e (d ++ M) := ⟨fun x hx => List.mem_append_right _ (h.sub x hx)⟩
instance (priority := 1000) inCons {e : Heap} {a : Nat × Obj} {M : Heap} [h : InC e M] : InC e (a :: M) := ⟨fun x hx => List.mem_cons_of_mem _ (h.sub x hx)⟩
/-- The memory is forgotten, but for some facts. -/
theorem tc_forget {P : Program} {W : World} {n : Nat} {ds : List Deferred} {c : Code} {Q : Exit → Act → World → Prop} {E : Env} {G : Heap} (p : Heap → Prop) (hp : p G) (h : ∀ G, p G → TC P W n ds c Q E G) : TC P W n ds c Q E G := h G hp
theorem tl_forget {P : Program} {W : World} {n : Nat} {ds : List Deferred} {ops l : List Oper} {Q : Exit → Act → World → Prop} {E : Env} {G : Heap} (p : Heap → Prop) (hp : p G) (h : ∀ G, p G → TL P W n ds ops Q l E G) : TL P W n ds ops Q l E G := h G hp
theorem ins {e G : Heap} [h : InC e G] : ∀ x ∈ e, x ∈ G := h.sub
end Go.Lg
