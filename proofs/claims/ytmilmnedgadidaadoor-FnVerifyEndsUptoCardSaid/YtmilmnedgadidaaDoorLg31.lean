/-
  A value behind one interface taken as another interface. No conditions.
-/
import Derived.Test.YtmilmnedgadidaaDoorLg19
import Derived.Test.YtmilmnedgadidaaDoorLg9
import Derived.Laws.AppendOwn
set_option linter.unusedVariables false
set_option linter.unusedSimpArgs false
namespace Go.Lg
class AssertIf (P : Program) (dt t : TypeId) : Prop where
  eq : ∀ (v : Value) (w : World) (xt : TypeId), (Instr.typeAssert (.iface dt v) xt t true).run P w = .ok (.tuple #[.iface dt v, .bool true]) w
section
variable {P : Program} {W : World} {n : Nat} {ds : List Deferred} {dst : Option Tmp} {ty : TypeId} {pos : String} {af : Array Edge} {g : Option (Nat × Bool)} {E : Env} {G : Heap} {K : Value → Heap → Prop}
theorem op_assertIf {t dt xt x v} [h : AssertIf P dt t] (hk : K (.tuple #[.iface dt v, .bool true]) G) (hx : evalE E x = some (.iface dt v) := by exact rfl) :
    OpT P W n ds ⟨dst, .typeAssert x xt t true, ty, pos, af, g⟩ E G K :=
  op_of_run (fun a w ho _ => by
    simp only [execOp, ho.eval hx]
    exact run_v (h.eq v w xt)) hk
/-- append of a slice to an empty row of no room that is not nil -/
theorem op_append0 {t e s b z x y m v kb} (news : List Value) [Und P t (.slice e)] [hI : Inf P e s b z]
    (hk : ∀ ex a c, a ≠ none → SlN s (ex ++ G) (.slice a m c) m news → K (.slice a m c) (ex ++ G))
    (hs : SlN s G v m news) (hx : evalE E x = some (.slice (some ⟨kb, 0, none⟩) 0 0) := by exact rfl) (hy : evalE E y = some v := by exact rfl)
    (h1 : ∀ u ∈ news, u.oneCell' = true) (hbig : m ≤ maxLen) (hbytes : m * b ≤ 140737488355328) (hz0 : z.length = s := by exact rfl) :
    OpT P W n ds ⟨dst, .call { callee := .builtin .append, args := #[x, y], argTypes := #[t, t] }, ty, pos, af, g⟩ E G K := by
  have ht : P.underlying t = some (.slice e) := Und.eq
  obtain ⟨h0, a', cap, rfl, hc, h2⟩ := hs
  by_cases hm : m = 0
  · subst hm
    have hnl : news = [] := List.eq_nil_of_length_eq_zero (by simpa using h0)
    subst hnl
    have key : ∀ w, (Builtin.append_ #[t, t] ty #[.slice (some ⟨kb, 0, none⟩) 0 0, .slice a' 0 cap]).run P w = .ok (.slice (some ⟨kb, 0, none⟩) 0 0) w := by
      intro w
      have hsl : (loadCells ⟨0, 0, none⟩ 0).run P w = .ok #[] w := rfl
      cases a' <;> simp [Builtin.append_, run_underlying (P := P) (t := t), run_sizeOf (P := P) (t := e), Builtin.lenOf, Builtin.firstCells, Sem.run_bind, loadCells, loadCellsFrom, storeCells]
    refine ⟨fun a w next Q ho hsw hn => ?_⟩
    have he : (execOp a.eval ⟨dst, .call { callee := .builtin .append, args := #[x, y], argTypes := #[t, t] }, ty, pos, af, g⟩).run P w = .ok (.value (.slice (some ⟨kb, 0, none⟩) 0 0)) w := by
      simp only [execOp, resolve, invoke]
      refine (sem_run_bind P _ _ w _ w rfl).trans ?_
      refine run_v ?_
      simp only [List.map_toArray, List.map_cons, List.map_nil, ho.eval hx, ho.eval hy]
      exact key w
    rw [he]
    exact hn _ _ _ hsw (hk [] _ _ (by simp) ⟨by simp, some ⟨kb, 0, none⟩, 0, rfl, Nat.le_refl _, fun h => (h rfl).elim⟩)
  · obtain ⟨kn, offn, ln, Tn, fzn, rfl, hn, hnews⟩ := h2 hm
    obtain ⟨i, zv, hi, rfl, hb, hz, hzc⟩ := hI.get
    subst hb
    have zlen : zv.cells.size = i.size := by rw [hzc]; exact hz0
    refine ⟨fun a w next Q ho hs hnx => ?_⟩
    have hcell : ∀ j u, news[j]? = some u → w.cell? ((⟨kn, offn, none⟩ : Addr).add j) = some u := fun j u hj => by
      rw [addr_add]; exact hs.cell hn (cut_get hnews hj)
    have hr := run_append_grow (P := P) w t ty e i zv ht hi hz ⟨kb, 0, none⟩ 0 0 [] (by simp) (fun j u hj => by simp at hj) ⟨kn, offn, none⟩ m cap news h0 hcell (by omega) (by simp only [maxLen] at hbig; omega) (growslice_fits (by omega) (by simpa using hbytes))
    have hg := (hs.drew (w.drawn + 1)).push (.cells (([] : List Value).toArray ++ news.toArray ++ Builtin.zeroCells zv.cells (grownCap w (0 + m) 0 e - (0 + m))) e)
    have e1 : (([] : List Value).toArray ++ news.toArray ++ Builtin.zeroCells zv.cells (grownCap w (0 + m) 0 e - (0 + m))) = ⟨news ++ (Builtin.zeroCells zv.cells (grownCap w (0 + m) 0 e - (0 + m))).toList⟩ := by
      apply Array.ext'; simp
    rw [e1] at hr hg
    have hge := grownCap_ge w (0 + m) 0 e
    have he : (execOp a.eval ⟨dst, .call { callee := .builtin .append, args := #[x, y], argTypes := #[t, t] }, ty, pos, af, g⟩).run P w = .ok (.value (.slice (some ⟨w.heap.size, 0, none⟩) m (grownCap w (0 + m) 0 e))) (w.drew.alloc (.cells ⟨news ++ (Builtin.zeroCells zv.cells (grownCap w (0 + m) 0 e - (0 + m))).toList⟩ e)) := by
      simp only [execOp, resolve, invoke]
      refine (sem_run_bind P _ _ w _ w rfl).trans ?_
      refine run_v ?_
      simp only [List.map_toArray, List.map_cons, List.map_nil, ho.eval hx, ho.eval hy]
      rw [hr, Nat.zero_add]
    rw [he]
    refine hnx _ _ _ hg (hk [_] _ _ (by simp) ⟨h0, _, _, rfl, by omega, fun _ => ⟨_, 0, _, e, (0, 0), rfl, List.mem_cons_self, by rw [List.drop_zero, ← h0, List.take_left]⟩⟩)
/-- append of nothing to a row of no room -/
theorem op_append0Z {t e s b z x y v kb} [Und P t (.slice e)] [hI : Inf P e s b z]
    (hk : K (.slice (some ⟨kb, 0, none⟩) 0 0) G)
    (hs : SlN s G v 0 []) (hx : evalE E x = some (.slice (some ⟨kb, 0, none⟩) 0 0) := by exact rfl) (hy : evalE E y = some v := by exact rfl) :
    OpT P W n ds ⟨dst, .call { callee := .builtin .append, args := #[x, y], argTypes := #[t, t] }, ty, pos, af, g⟩ E G K := by
  obtain ⟨h0, a', cap, rfl, hc, h2⟩ := hs
  have key : ∀ w, (Builtin.append_ #[t, t] ty #[.slice (some ⟨kb, 0, none⟩) 0 0, .slice a' 0 cap]).run P w = .ok (.slice (some ⟨kb, 0, none⟩) 0 0) w := by
    intro w
    have hsl : (loadCells ⟨0, 0, none⟩ 0).run P w = .ok #[] w := rfl
    cases a' <;> simp [Builtin.append_, run_underlying (P := P) (t := t), run_sizeOf (P := P) (t := e), Builtin.lenOf, Builtin.firstCells, Sem.run_bind, loadCells, loadCellsFrom, storeCells]
  refine ⟨fun a w next Q ho hsw hn => ?_⟩
  have he : (execOp a.eval ⟨dst, .call { callee := .builtin .append, args := #[x, y], argTypes := #[t, t] }, ty, pos, af, g⟩).run P w = .ok (.value (.slice (some ⟨kb, 0, none⟩) 0 0)) w := by
    simp only [execOp, resolve, invoke]
    refine (sem_run_bind P _ _ w _ w rfl).trans ?_
    refine run_v ?_
    simp only [List.map_toArray, List.map_cons, List.map_nil, ho.eval hx, ho.eval hy]
    exact key w
  rw [he]
  exact hn _ _ _ hsw hk
/-- append of a slice that is not empty to a row of no room: a new block, with its room -/
theorem op_append0N {t e s b z x y m v kb} (news : List Value) [Und P t (.slice e)] [hI : Inf P e s b z] (hm : m ≠ 0)
    (hk : ∀ k cap sp, bufOk s (some (k, cap, sp)) m news → K (.slice (some ⟨k, 0, none⟩) m cap) ((k, .cells ⟨news ++ sp⟩ e (0, 0)) :: G))
    (hs : SlN s G v m news) (hx : evalE E x = some (.slice (some ⟨kb, 0, none⟩) 0 0) := by exact rfl) (hy : evalE E y = some v := by exact rfl)
    (h1 : ∀ u ∈ news, u.oneCell' = true) (hbig : m ≤ maxLen) (hbytes : m * b ≤ 140737488355328) (hz0 : z.length = s := by exact rfl) :
    OpT P W n ds ⟨dst, .call { callee := .builtin .append, args := #[x, y], argTypes := #[t, t] }, ty, pos, af, g⟩ E G K := by
  have ht : P.underlying t = some (.slice e) := Und.eq
  obtain ⟨h0, a', cap, rfl, hc, h2⟩ := hs
  obtain ⟨kn, offn, ln, Tn, fzn, rfl, hn, hnews⟩ := h2 hm
  obtain ⟨i, zv, hi, rfl, hb, hz, hzc⟩ := hI.get
  subst hb
  have zlen : zv.cells.size = i.size := by rw [hzc]; exact hz0
  refine ⟨fun a w next Q ho hs hnx => ?_⟩
  have hcell : ∀ j u, news[j]? = some u → w.cell? ((⟨kn, offn, none⟩ : Addr).add j) = some u := fun j u hj => by
    rw [addr_add]; exact hs.cell hn (cut_get hnews hj)
  have hr := run_append_grow (P := P) w t ty e i zv ht hi hz ⟨kb, 0, none⟩ 0 0 [] (by simp) (fun j u hj => by simp at hj) ⟨kn, offn, none⟩ m cap news h0 hcell (by omega) (by simp only [maxLen] at hbig; omega) (growslice_fits (by omega) (by simpa using hbytes))
  have hg := (hs.drew (w.drawn + 1)).push (.cells (([] : List Value).toArray ++ news.toArray ++ Builtin.zeroCells zv.cells (grownCap w (0 + m) 0 e - (0 + m))) e)
  have e1 : (([] : List Value).toArray ++ news.toArray ++ Builtin.zeroCells zv.cells (grownCap w (0 + m) 0 e - (0 + m))) = ⟨news ++ (Builtin.zeroCells zv.cells (grownCap w (0 + m) 0 e - (0 + m))).toList⟩ := by
    apply Array.ext'; simp
  rw [e1] at hr hg
  have hge := grownCap_ge w (0 + m) 0 e
  have he : (execOp a.eval ⟨dst, .call { callee := .builtin .append, args := #[x, y], argTypes := #[t, t] }, ty, pos, af, g⟩).run P w = .ok (.value (.slice (some ⟨w.heap.size, 0, none⟩) m (grownCap w (0 + m) 0 e))) (w.drew.alloc (.cells ⟨news ++ (Builtin.zeroCells zv.cells (grownCap w (0 + m) 0 e - (0 + m))).toList⟩ e)) := by
    simp only [execOp, resolve, invoke]
    refine (sem_run_bind P _ _ w _ w rfl).trans ?_
    refine run_v ?_
    simp only [List.map_toArray, List.map_cons, List.map_nil, ho.eval hx, ho.eval hy]
    rw [hr, Nat.zero_add]
  rw [he]
  refine hnx _ _ _ hg (hk _ _ _ ⟨by omega, grownCap_le_maxLen w (0 + m) 0 e (by rw [Nat.zero_add]; exact hbig), h0, ?_⟩)
  rw [List.length_append, h0, Array.length_toList, size_zeroCells, zlen, ← Nat.add_mul]
  congr 1; omega
end
end Go.Lg
