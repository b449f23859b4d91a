/-
  From a law's given statement to a walk in the small logic: the arguments read as lists of numbers; the end gives what the statement asks. No conditions.
-/
import Derived.Test.YthafjfgmbmpfoaaLg4
import Derived.ProofKit
import Derived.OpenShut
import Derived.Carry
import Derived.Lib.SmallJoins
set_option linter.unusedVariables false
set_option linter.unusedSimpArgs false
namespace Go.Lg
open Go.ChangeShapes Go.WideShapes Go.RowKit Go.Deep

/-- All blocks of a world. -/
def all (W : World) : Heap := W.heap.toList.zipIdx.map fun x => (x.2, x.1)

theorem mem_all {W : World} {k : Nat} {o : Obj} : (k, o) ∈ all W ↔ W.heap[k]? = some o := by
  unfold all
  simp only [List.mem_map, Prod.mk.injEq, Prod.exists, List.mem_zipIdx_iff_getElem?]
  constructor
  · rintro ⟨a, b, h, rfl, rfl⟩; simpa using h
  · intro h; exact ⟨o, k, by simpa using h, rfl, rfl⟩

theorem sees_all (W : World) : Sees W (all W) W := by
  refine ⟨rfl, rfl, rfl, ?_, fun k o h => mem_all.1 h⟩
  unfold all
  rw [List.map_map]
  have : (Prod.fst ∘ fun (x : Obj × Nat) => (x.2, x.1)) = Prod.snd := by funext x; rfl
  rw [this, List.zipIdx_map_snd]
  exact List.nodup_range' ..

theorem Sees.below {W w : World} (h : Sees W (all W) w) : Below W.heap.size W w := by
  have hb : ∀ k, k < W.heap.size → w.heap[k]? = W.heap[k]? := fun k hk => by
    rw [h.mem k W.heap[k] (mem_all.2 (Array.getElem?_eq_getElem hk)), Array.getElem?_eq_getElem hk]
  refine ⟨h.os, h.tape, h.output, ?_, hb⟩
  rcases Nat.eq_zero_or_pos W.heap.size with h0 | h0
  · omega
  · have := hb (W.heap.size - 1) (by omega)
    rw [show W.heap[W.heap.size - 1]? = some W.heap[W.heap.size - 1] from Array.getElem?_eq_getElem (by omega)] at this
    have hlt : W.heap.size - 1 < w.heap.size := by
      rcases Nat.lt_or_ge (W.heap.size - 1) w.heap.size with h | h
      · exact h
      · rw [Array.getElem?_eq_none h] at this; cases this
    omega

/-- A call's contract, as the claim asks it. -/
theorem calls_of_does {P : Program} {f : FuncId} [Enters P f] {args : List Value} {W w : World} {H : Heap} {K : Value → Heap → Prop} (h : Does P f args H K) (hs : Sees W H w) :
    Calls P f ⟨args⟩ w (RetK W K) := by
  have := h.run W w hs ⟨some 0, .ready 0, 0, "", #[], none⟩ ⟨#[undef], []⟩ (fun a w' => ∃ v H', a.tmps[0]? = some v ∧ Sees W H' w' ∧ K v H') (fun _ _ _ => False)
    (fun v H' w' hs' hk => ⟨v, H', by simp [Act.put], hs', hk⟩)
  rw [run_callFunc, Oper.upon_enter] at this
  refine this.mono fun e w' he => ?_
  cases e with
  | returned v =>
    obtain ⟨u, H', h1, h2, h3⟩ := he
    simp [Act.put] at h1
    exact ⟨u, H', by rw [h1], h2, h3⟩
  | panicked c => exact he.elim
  | outgrown => exact he.elim fun _ h => h.elim fun _ h => h.elim

section post
variable {H : Type} {enc : TypeId × Value → H} {P : Program}

theorem trodAll_stays (hl : laidOutB P = true) {W W' : World} (hb : Below W.heap.size W W') : ∀ (ts : List TypeId) (vs : List Value) (ds : List (DataW H)) (ps : List MemPlace),
    (∀ t ∈ ts, P.readableRec t = true ∧ t < P.types.size) → DataW.TrodAll enc P W 0 (fun _ => true) true ts vs ds ps → (∀ x ∈ ps, x.block < W.heap.size) →
    DataW.TrodAll enc P W' 0 (fun b => decide (b < W.heap.size)) true ts vs ds ps := by
  intro ts
  induction ts with
  | nil => intro vs ds ps _ h _; cases vs <;> cases ds <;> simp_all [DataW.TrodAll]
  | cons t ts ih =>
    intro vs ds ps ht h hp
    obtain ⟨v, vs', d, ds', p, q, rfl, rfl, rfl, h1, h2⟩ := trodAll_cons h
    obtain ⟨h3, h4⟩ := ht t List.mem_cons_self
    refine ⟨p, q, Below.trod hl h3 h4 h1 hb (fun x hx => hp x (List.mem_append_left _ hx)), ?_, rfl⟩
    exact ih vs' ds' q (fun t h => ht t (List.mem_cons_of_mem _ h)) h2 (fun x hx => hp x (List.mem_append_right _ hx))

/-- What a law's statement asks behind the call. -/
theorem post_law {f : Func} {s : ChangeSpec} {W W' : World} {args : Array Value} {ds gs : List (DataW H)} {before : List MemPlace} {tb : TypeId} (hl : laidOutB P = true)
    (hts : ∀ t ∈ f.params.toList, P.readableRec t = true ∧ t < P.types.size) (hvars : s.vars = []) (hW : DataW.Whole enc P f.params.toList s.vars false W args.toList ds gs before)
    (hs : s.fn H (ds ++ gs) = { results := [.lit (.bool true)], args := ds }) (hr : f.resultTypes = #[tb]) (htb : P.underlying tb = some .bool) (hb : Below W.heap.size W W') :
    s.post enc P f false true false false W args (.bool true) W' := by
  have hlt := hW.lt
  have hW0 := hW
  obtain ⟨p, q, hA, hV, rfl, hfz, hnd⟩ := hW
  rw [hvars] at hV
  obtain ⟨rfl, rfl⟩ := trodVars_none hV
  refine ⟨ds, [], p ++ [], [], p, [], hW0, ?_, ?_, ?_, ?_, fun h => by cases h⟩
  · rw [hs, hr]
    exact trodAll_cons_mk (p := []) (p' := []) (shut_bool htb true) trodAll_mk0
  · rw [hs]
    refine trodAll_stays hl hb _ _ _ _ hts hA fun x hx => ?_
    have := hlt x (List.mem_append_left _ hx)
    simpa using this
  · rw [hs, hvars]; exact rfl
  · exact hb.frame _
end post

/-! ### Readings -/
section rd
variable {H : Type} {enc : TypeId × Value → H} {P : Program} {W : World} {sp : Nat → Bool} {hd : Bool} {r : Reach} {b0 : Nat} {t : TypeId} {v : Value}

theorem okWide_float {k} (ht : P.underlying t = some (.float k)) (h : Value.okWide P W r b0 t v) : ∃ b, v = .float k b := by
  simp only [Value.okWide, ht, Cell.okWide] at h
  cases v <;> simp_all [Cell.ok]

theorem trod_float {n k c x} (ht : P.underlying t = some (.float k)) (h : DataW.trod enc P W 0 sp hd n t [c] = some x) : ∃ b, c = .float k b ∧ (Lit.float k b).wf = true := by
  cases n with
  | zero => simp [DataW.trod] at h
  | succ n =>
    simp only [DataW.trod, ht] at h
    cases c <;> simp at h
    rename_i k' b
    obtain ⟨⟨rfl, hw⟩, _⟩ := h
    exact ⟨b, rfl, hw⟩

theorem trod_int {n k c x} (ht : P.underlying t = some (.int k)) (h : DataW.trod enc P W 0 sp hd n t [c] = some x) : ∃ b, c = .int k b ∧ (Lit.int k b).wf = true := by
  cases n with
  | zero => simp [DataW.trod] at h
  | succ n =>
    simp only [DataW.trod, ht] at h
    cases c <;> simp at h
    rename_i k' b
    obtain ⟨⟨rfl, hw⟩, _⟩ := h
    exact ⟨b, rfl, hw⟩

theorem wf_f64 {b : Nat} (h : (Lit.float .f64 b).wf = true) : b < 2 ^ 64 := by simpa [Lit.wf] using h
theorem wf_i64 {n : Int} (h : (Lit.int .i64 n).wf = true) : -9223372036854775808 ≤ n ∧ n ≤ 9223372036854775807 := by
  simpa [Lit.wf, IntKind.min, IntKind.max, IntKind.signed, IntKind.bits] using h

/-- A slice of one-cell elements. -/
theorem trod_slice {n e c x} (ht : P.underlying t = some (.slice e)) (he : P.cellsOf e = 1) (h : DataW.trod enc P W 0 sp hd n t [c] = some x) :
    ∃ ws, Sl (all W) c ws ∧ ws.length ≤ 9223372036854775807 ∧ ∀ y ∈ ws, ∃ m z, DataW.trod enc P W 0 sp hd m e [y] = some z := by
  cases n with
  | zero => simp [DataW.trod] at h
  | succ n =>
    simp only [DataW.trod, ht] at h
    cases c with
    | slice a len cap =>
      cases a with
      | none =>
        cases len with
        | zero =>
          cases cap with
          | zero => exact ⟨[], ⟨none, 0, rfl, by simp, fun h => (h rfl).elim⟩, by simp, fun y hy => by cases hy⟩
          | succ => simp at h
        | succ => simp at h
      | some a =>
        simp only [he] at h
        split at h
        · rename_i hc
          obtain ⟨_, hlen, hcap⟩ := hc
          rw [Option.bind_eq_some_iff] at h
          obtain ⟨elems, h1, _⟩ := h
          -- each element
          have hget : ∀ i, i < len → ∃ y z, W.cell? (a.add i) = some y ∧ DataW.trod enc P W 0 sp hd n e [y] = some z := by
            intro i hi
            have h2 : ∀ (l : List Nat) (out : List (DataW H × List MemPlace)), l.mapM (fun i => (W.cells? 0 (a.add (i * 1)) 1).bind (DataW.trod enc P W 0 sp hd n e)) = some out →
                ∀ i ∈ l, ∃ z, (W.cells? 0 (a.add (i * 1)) 1).bind (DataW.trod enc P W 0 sp hd n e) = some z := by
              intro l
              induction l with
              | nil => intro out _ i hi; cases hi
              | cons j l ih =>
                intro out ho i hi
                simp only [List.mapM_cons, Option.bind_eq_bind, Option.bind_eq_some_iff] at ho
                obtain ⟨z, hz, out', ho', _⟩ := ho
                cases hi with
                | head => exact ⟨z, by rw [Option.bind_eq_some_iff]; exact hz⟩
                | tail _ hi => exact ih out' ho' i hi
            obtain ⟨z, hz⟩ := h2 _ _ h1 i (List.mem_range.2 hi)
            rw [Option.bind_eq_some_iff] at hz
            obtain ⟨ys, hy, hz⟩ := hz
            simp only [World.cells?, Nat.zero_le, if_true, Nat.mul_one] at hy
            rw [show List.range 1 = [0] from rfl] at hy
            simp only [List.mapM_cons, List.mapM_nil, Option.bind_eq_bind, Option.bind_eq_some_iff, Option.pure_def, Option.some.injEq] at hy
            obtain ⟨y, hy, _, rfl, rfl⟩ := hy
            exact ⟨y, z, by simpa [Addr.add] using hy, hz⟩
          by_cases h0 : len = 0
          · subst h0
            exact ⟨[], ⟨some a, cap, rfl, by simp, fun h => (h rfl).elim⟩, by simp, fun y hy => by cases hy⟩
          · obtain ⟨y0, _, hy0, _⟩ := hget 0 (by omega)
            have hspot : a.spot = none ∧ ∃ cc T fz, W.heap[a.block]? = some (.cells cc T fz) := by
              simp only [Addr.add, if_true, World.cell?] at hy0
              split at hy0
              · rename_i cc T fz hh
                split at hy0
                · cases hy0
                · rename_i hs; exact ⟨by simpa using hs, cc, T, fz, hh⟩
              · cases hy0
            obtain ⟨hs, cc, T, fz, hh⟩ := hspot
            obtain ⟨k, off, spot⟩ := a
            simp only at hs hh
            subst hs
            obtain ⟨l⟩ := cc
            have hl : ∀ i, i < len → ∃ y z, l[off + i]? = some y ∧ DataW.trod enc P W 0 sp hd n e [y] = some z := by
              intro i hi
              obtain ⟨y, z, hy, hz⟩ := hget i hi
              rw [addr_add] at hy
              simp only [World.cell?, hh] at hy
              exact ⟨y, z, by simpa using hy, hz⟩
            have hll : off + len ≤ l.length := by
              obtain ⟨y, _, hy, _⟩ := hl (len - 1) (by omega)
              have := (List.getElem?_eq_some_iff.1 hy).1
              omega
            have hlen2 : ((l.drop off).take len).length = len := by simp; omega
            refine ⟨(l.drop off).take len, ⟨some ⟨k, off, none⟩, cap, by rw [hlen2], by rw [hlen2]; exact hlen, fun _ => ⟨k, off, l, T, fz, rfl, mem_all.2 hh, by rw [hlen2]⟩⟩, ?_, ?_⟩
            · rw [hlen2]; unfold maxLen at hcap; omega
            · intro y hy
              obtain ⟨i, hi⟩ := List.mem_iff_getElem?.1 hy
              rw [List.getElem?_take] at hi
              split at hi
              · rename_i hlt
                obtain ⟨y', z, hy', hz⟩ := hl i hlt
                rw [List.getElem?_drop, hy'] at hi
                cases hi
                exact ⟨n, z, hz⟩
              · cases hi
        · cases h
    | _ => simp at h

theorem all_floats {ws : List Value} (h : ∀ y ∈ ws, ∃ b, y = Value.float .f64 b ∧ b < 2 ^ 64) : ∃ xs : List Nat, ws = xs.map fl ∧ ∀ x ∈ xs, x < 2 ^ 64 := by
  induction ws with
  | nil => exact ⟨[], rfl, fun x hx => by cases hx⟩
  | cons y ws ih =>
    obtain ⟨b, rfl, hb⟩ := h y List.mem_cons_self
    obtain ⟨xs, rfl, hx⟩ := ih fun y hy => h y (List.mem_cons_of_mem _ hy)
    refine ⟨b :: xs, rfl, fun x hm => ?_⟩
    cases hm with
    | head => exact hb
    | tail _ hm => exact hx x hm

theorem trod_floats {n e c x} (ht : P.underlying t = some (.slice e)) (he : P.cellsOf e = 1) (hf : P.underlying e = some (.float .f64)) (h : DataW.trod enc P W 0 sp hd n t [c] = some x) :
    ∃ xs, FS (all W) c xs ∧ xs.length ≤ 9223372036854775807 ∧ ∀ y ∈ xs, y < 2 ^ 64 := by
  obtain ⟨ws, h1, h2, h3⟩ := trod_slice ht he h
  obtain ⟨xs, rfl, h4⟩ := all_floats (ws := ws) fun y hy => by
    obtain ⟨m, z, hz⟩ := h3 y hy
    obtain ⟨b, rfl, hw⟩ := trod_float hf hz
    exact ⟨b, rfl, wf_f64 hw⟩
  exact ⟨xs, h1, by simpa using h2, h4⟩

/-- A pair of floats, by value. -/
theorem open_p2 {f0 f1 d p} (hs : P.underlying t = some (.struct #[f0, f1])) (hone : oneCellFields P #[f0, f1] = true) (hC : P.cellsOf t = 2) (h0 : P.underlying f0.type = some (.float .f64)) (h1 : P.underlying f1.type = some (.float .f64))
    (hv : Value.okWide P W r b0 t v) (h : DataW.Trod enc P W 0 sp hd t v d p) : ∃ x y, v = .agg #[.float .f64 x, .float .f64 y] ∧ x < 2 ^ 64 ∧ y < 2 ^ 64 := by
  obtain ⟨v0, v1, y0, y1, n, rfl, _, _, e0, e1⟩ := Joins.open_agg2 hs hone hC hv h
  obtain ⟨x, rfl, hx⟩ := trod_float h0 e0
  obtain ⟨y, rfl, hy⟩ := trod_float h1 e1
  exact ⟨x, y, rfl, wf_f64 hx, wf_f64 hy⟩

theorem open_p3 {f0 f1 f2 d p} (hs : P.underlying t = some (.struct #[f0, f1, f2])) (hone : oneCellFields P #[f0, f1, f2] = true) (hC : P.cellsOf t = 3) (h0 : P.underlying f0.type = some (.float .f64)) (h1 : P.underlying f1.type = some (.float .f64))
    (h2 : P.underlying f2.type = some (.float .f64)) (hv : Value.okWide P W r b0 t v) (h : DataW.Trod enc P W 0 sp hd t v d p) :
    ∃ x y z, v = .agg #[.float .f64 x, .float .f64 y, .float .f64 z] ∧ x < 2 ^ 64 ∧ y < 2 ^ 64 ∧ z < 2 ^ 64 := by
  obtain ⟨v0, v1, v2, y0, y1, y2, n, rfl, _, _, e0, e1, e2⟩ := Joins.open_agg3 hs hone hC hv h
  obtain ⟨x, rfl, hx⟩ := trod_float h0 e0
  obtain ⟨y, rfl, hy⟩ := trod_float h1 e1
  obtain ⟨z, rfl, hz⟩ := trod_float h2 e2
  exact ⟨x, y, z, rfl, wf_f64 hx, wf_f64 hy, wf_f64 hz⟩

theorem open_float {k d p} (ht : P.underlying t = some (.float k)) (hv : Value.okWide P W r b0 t v) (h : DataW.Trod enc P W 0 sp hd t v d p) : ∃ x, v = .float k x ∧ (Lit.float k x).wf = true := by
  obtain ⟨b, rfl⟩ := okWide_float ht hv
  obtain ⟨n, hn⟩ := h
  obtain ⟨b', hb, hw⟩ := trod_float ht (show DataW.trod enc P W 0 sp hd n t [.float k b] = _ from hn)
  cases hb
  exact ⟨b, rfl, hw⟩

theorem open_floats {e d p} (ht : P.underlying t = some (.slice e)) (he : P.cellsOf e = 1) (hf : P.underlying e = some (.float .f64)) (hv : Value.okWide P W r b0 t v) (h : DataW.Trod enc P W 0 sp hd t v d p) :
    ∃ xs, FS (all W) v xs ∧ xs.length ≤ 9223372036854775807 ∧ ∀ y ∈ xs, y < 2 ^ 64 := by
  obtain ⟨a, len, cap, rfl⟩ := okWide_slice ht hv
  obtain ⟨n, hn⟩ := h
  exact trod_floats ht he hf (show DataW.trod enc P W 0 sp hd n t [.slice a len cap] = _ from hn)
end rd
end Go.Lg
