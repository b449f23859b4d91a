/-
  Rows that grow, with a fact of the cells behind the row. No conditions.
-/
import Derived.Test.YthafjfgmbmpfoaaLg9
import Derived.Test.YthafjfgmbmpfoaaLg15
import Derived.Laws.AppendOwn
set_option linter.unusedVariables false
set_option linter.unusedSimpArgs false
namespace Go.Lg

/-- All cells behind the row have this. -/
def spP (p : Value → Prop) : Buf → Prop
  | none => True
  | some (_, _, sp) => ∀ u ∈ sp, p u
theorem mem_zeroCells {z : Array Value} {n : Nat} {u : Value} (h : u ∈ (Builtin.zeroCells z n).toList) : u ∈ z.toList := by
  unfold Builtin.zeroCells at h
  rw [Array.toList_map] at h
  obtain ⟨i, hi, rfl⟩ := List.mem_map.1 h
  have hi2 : i < n * z.size := by simpa using hi
  have hz : 0 < z.size := by
    rcases Nat.eq_zero_or_pos z.size with h0 | h0
    · rw [h0] at hi2; omega
    · exact h0
  have hlt : i % z.size < z.size := Nat.mod_lt _ hz
  rw [getElem!_pos z (i % z.size) hlt]
  exact Array.getElem_mem_toList hlt
section
variable {P : Program} {W : World} {n : Nat} {ds : List Deferred} {dst : Option Tmp} {ty : TypeId} {pos : String} {af : Array Edge} {g : Option (Nat × Bool)} {E : Env} {G : Heap} {K : Value → Heap → Prop}
theorem op_appendP (p : Value → Prop) {t e s b z x y kn offn m c ln Tn fzn H'} (buf : Buf) (l : Nat) (ws news : List Value) [Und P t (.slice e)] [hI : Inf P e s b z] (hok : bufOk s buf l ws) (hps : spP p buf) (hpz : ∀ u ∈ z, p u)
    (hk : ∀ buf', bufOk s buf' (l + m) (ws ++ news) → spP p buf' → K (bufV buf' (l + m)) (bufH e buf' (ws ++ news) H'))
    (hx : evalE E x = some (bufV buf l)) (hy : evalE E y = some (.slice (some ⟨kn, offn, none⟩) m c)) (hsub : List.Sublist (bufH e buf ws H') G) (hn : (kn, Obj.cells ⟨ln⟩ Tn fzn) ∈ G)
    (hnews : (ln.drop offn).take (m * s) = news) (hlen : news.length = m * s) (h1 : ∀ u ∈ news, u.oneCell' = true) (hm : 0 < m) (hbig : l + m ≤ maxLen) (hbytes : (l + m) * b ≤ 140737488355328) (hz0 : z.length = s := by exact rfl) :
    OpT P W n ds ⟨dst, .call { callee := .builtin .append, args := #[x, y], argTypes := #[t, t] }, ty, pos, af, g⟩ E G K := by
  have ht : P.underlying t = some (.slice e) := Und.eq
  obtain ⟨i, zv, hi, rfl, hb, hz, hzc⟩ := hI.get
  subst hb
  have hsmall : l + m ≤ 9223372036854775807 := by simp only [maxLen] at hbig; omega
  have zlen : zv.cells.size = i.size := by rw [hzc]; exact hz0
  refine ⟨fun a w next Q ho hs hnx => ?_⟩
  have hcell : ∀ j u, news[j]? = some u → w.cell? ((⟨kn, offn, none⟩ : Addr).add j) = some u := fun j u hj => by
    rw [addr_add]; exact hs.cell hn (cut_get hnews hj)
  have run : ∃ v' w' buf', (Builtin.append_ #[t, t] ty #[bufV buf l, .slice (some ⟨kn, offn, none⟩) m c]).run P w = .ok v' w' ∧ v' = bufV buf' (l + m) ∧ bufOk i.size buf' (l + m) (ws ++ news) ∧ Sees W (bufH e buf' (ws ++ news) H') w' ∧ spP p buf' := by
    have hs2 := hs.sub hsub
    have grown : ∀ old, old < l + m → ws.length = l * i.size → Sees W H' w →
        bufOk i.size (some (w.heap.size, grownCap w (l + m) old e, (Builtin.zeroCells zv.cells (grownCap w (l + m) old e - (l + m))).toList)) (l + m) (ws ++ news) ∧
        Sees W (bufH e (some (w.heap.size, grownCap w (l + m) old e, (Builtin.zeroCells zv.cells (grownCap w (l + m) old e - (l + m))).toList)) (ws ++ news) H') (w.drew.alloc (.cells (ws.toArray ++ news.toArray ++ Builtin.zeroCells zv.cells (grownCap w (l + m) old e - (l + m))) e)) := by
      intro old hold hwl hsH
      have hge := grownCap_ge w (l + m) old e
      refine ⟨⟨hge, grownCap_le_maxLen w (l + m) old e hbig, by rw [List.length_append, hwl, hlen, Nat.add_mul], ?_⟩, ?_⟩
      · rw [List.length_append, List.length_append, hwl, hlen, Array.length_toList, size_zeroCells, zlen, ← Nat.add_mul, ← Nat.add_mul]
        congr 1; omega
      · have := (hsH.drew (w.drawn + 1)).push (.cells (ws.toArray ++ news.toArray ++ Builtin.zeroCells zv.cells (grownCap w (l + m) old e - (l + m))) e)
        have e1 : (ws.toArray ++ news.toArray ++ Builtin.zeroCells zv.cells (grownCap w (l + m) old e - (l + m))) = ⟨(ws ++ news) ++ (Builtin.zeroCells zv.cells (grownCap w (l + m) old e - (l + m))).toList⟩ := by
          apply Array.ext'; simp
        rw [e1] at this ⊢
        exact this
    have hzp : ∀ n, ∀ u ∈ (Builtin.zeroCells zv.cells n).toList, p u := fun n u hu => hpz u (by
      have := mem_zeroCells hu
      rw [hzc] at this; exact this)
    match buf, hok, hps with
    | none, hok, hps =>
      obtain ⟨rfl, rfl⟩ := hok
      have hr := run_append_nil (P := P) w t ty e i zv ht hi hz ⟨kn, offn, none⟩ m c news hlen hcell hm (by omega) (by have := hbytes; simp only [Nat.zero_add] at this; omega)
      have hg := grown 0 (by omega) (by simp) hs2
      simp only [Nat.zero_add] at hg ⊢
      refine ⟨_, _, some (w.heap.size, _, _), hr, rfl, hg.1, ?_, hzp _⟩
      have := hg.2
      simpa using this
    | some (k, cap, sp), hok, hps =>
      obtain ⟨h2, h3, h4, h5⟩ := hok
      have hkm := hs2.mem k _ List.mem_cons_self
      by_cases hroom : l + m ≤ cap
      · have hfit : l * i.size + news.length ≤ (⟨ws ++ sp⟩ : Array Value).size := by
          rw [hlen, ← Nat.add_mul]; show _ ≤ (ws ++ sp).length; rw [h5]; exact Nat.mul_le_mul_right _ hroom
        have hr := run_append_room (P := P) w t ty e i ht hi k l cap ⟨ws ++ sp⟩ hkm ⟨kn, offn, none⟩ m c news hlen hcell h1 hroom hfit
        have e1 : (((⟨ws ++ sp⟩ : Array Value).toList.take (l * i.size) ++ news ++ (⟨ws ++ sp⟩ : Array Value).toList.drop (l * i.size + news.length)).toArray) = ⟨(ws ++ news) ++ sp.drop news.length⟩ := by
          apply Array.ext'
          show (ws ++ sp).take (l * i.size) ++ news ++ (ws ++ sp).drop (l * i.size + news.length) = _
          rw [← h4, List.take_left, List.drop_append]
          simp
        rw [e1] at hr
        refine ⟨_, _, some (k, cap, sp.drop news.length), hr, rfl, ⟨hroom, h3, by rw [List.length_append, h4, hlen, Nat.add_mul], ?_⟩, hs2.setRow, fun u hu => hps u (List.mem_of_mem_drop hu)⟩
        have : (ws ++ sp).length = cap * i.size := h5
        have h6 : (l + m) * i.size ≤ cap * i.size := Nat.mul_le_mul_right _ hroom
        rw [Nat.add_mul] at h6
        simp only [List.length_append, List.length_drop] at this ⊢
        omega
      · have holds : ∀ j u, ws[j]? = some u → w.cell? ((⟨k, 0, none⟩ : Addr).add j) = some u := fun j u hj => by
          rw [addr_add]
          refine hs2.cell List.mem_cons_self ?_
          have hlt := (List.getElem?_eq_some_iff.1 hj).1
          rw [Nat.zero_add, List.getElem?_append_left hlt]; exact hj
        have hr := run_append_grow (P := P) w t ty e i zv ht hi hz ⟨k, 0, none⟩ l cap ws h4 holds ⟨kn, offn, none⟩ m c news hlen hcell (by omega) (by omega) (growslice_fits (by omega) hbytes)
        have hg := grown cap (by omega) h4 (hs2.sub (List.sublist_cons_self _ _))
        exact ⟨_, _, some (w.heap.size, _, _), hr, rfl, hg.1, hg.2, hzp _⟩
  obtain ⟨v', w', buf', hrun, rfl, hok', hs', hsp'⟩ := run
  have he : (execOp a.eval ⟨dst, .call { callee := .builtin .append, args := #[x, y], argTypes := #[t, t] }, ty, pos, af, g⟩).run P w = .ok (.value (bufV buf' (l + m))) w' := by
    simp only [execOp, resolve, invoke]
    refine (sem_run_bind P _ _ w _ w rfl).trans ?_
    refine run_v ?_
    simp only [List.map_toArray, List.map_cons, List.map_nil, ho.eval hx, ho.eval hy]
    exact hrun
  rw [he]
  exact hnx _ _ _ hs' (hk buf' hok' hsp')
end
end Go.Lg
