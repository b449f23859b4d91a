/-
  Readings of arguments: slices of elements of any size, with what they hold counted. No conditions.
-/
import Derived.Test.YtcajankinofomaaRows
import Derived.Test.YtcajankinofomaaSz2
set_option linter.unusedVariables false
set_option linter.unusedSimpArgs false
namespace Go.Lg
open Go.ChangeShapes Go.WideShapes Go.RowKit Go.Deep
section rd
variable {H : Type} {enc : TypeId × Value → H} {P : Program} {W : World} {sp : Nat → Bool} {hd : Bool} {r : Reach} {b0 : Nat} {t : TypeId} {v : Value}

/-- A count of what a reading holds. -/
structure Blk (bulk : DataW H → Nat) : Prop where
  one : ∀ d, 1 ≤ bulk d
  slice : ∀ l m, (l.map bulk).sum + 1 ≤ bulk (.slice l m)
  agg : ∀ l, (l.map bulk).sum + 1 ≤ bulk (.agg l)
theorem mapM_some {α β : Type} {f : α → Option β} : ∀ {l : List α} {out : List β}, l.mapM f = some out → out.length = l.length ∧ ∀ (i : Nat) (a : α), l[i]? = some a → ∃ b, out[i]? = some b ∧ f a = some b
  | [], out, h => by simp at h; subst h; simp
  | x :: l, out, h => by
    simp only [List.mapM_cons, Option.bind_eq_bind, Option.bind_eq_some_iff, Option.pure_def, Option.some.injEq] at h
    obtain ⟨b, hb, out', ho, rfl⟩ := h
    obtain ⟨h1, h2⟩ := mapM_some ho
    refine ⟨by simp [h1], fun i a hi => ?_⟩
    cases i with
    | zero => simp at hi; subst hi; exact ⟨b, rfl, hb⟩
    | succ i => simpa using h2 i a (by simpa using hi)
theorem cells_get {a : Addr} {s : Nat} {ys : List Value} (h : W.cells? 0 a s = some ys) : ys.length = s ∧ ∀ j, j < s → ∃ y, ys[j]? = some y ∧ W.cell? (a.add j) = some y := by
  simp only [World.cells?, Nat.zero_le, if_true] at h
  obtain ⟨h1, h2⟩ := mapM_some h
  refine ⟨by simpa using h1, fun j hj => ?_⟩
  obtain ⟨y, h3, h4⟩ := h2 j j (by simp [hj])
  exact ⟨y, h3, h4⟩
theorem flatten_get {s : Nat} : ∀ {rows : List (List Value)}, (∀ q ∈ rows, q.length = s) → ∀ (i j : Nat) (row : List Value), rows[i]? = some row → j < s → rows.flatten[i * s + j]? = row[j]?
  | [], _, i, j, row, h, _ => by simp at h
  | q :: qs, hl, 0, j, row, h, hj => by
    simp at h; subst h
    have := hl q (by simp)
    rw [List.flatten_cons, Nat.zero_mul, Nat.zero_add, List.getElem?_append_left (by omega)]
  | q :: qs, hl, i + 1, j, row, h, hj => by
    have hq := hl q (by simp)
    have ih := flatten_get (rows := qs) (fun x hx => hl x (by simp [hx])) i j row (by simpa using h) hj
    rw [List.flatten_cons, List.getElem?_append_right (by rw [hq, Nat.add_mul]; omega), hq, show (i + 1) * s + j - s = i * s + j by rw [Nat.add_mul]; omega]
    exact ih
theorem flatten_len {s : Nat} : ∀ {rows : List (List Value)}, (∀ q ∈ rows, q.length = s) → rows.flatten.length = rows.length * s
  | [], _ => by simp
  | q :: qs, hl => by
    have := flatten_len (rows := qs) (fun x hx => hl x (by simp [hx]))
    have hq := hl q (by simp)
    rw [List.flatten_cons, List.length_append, this, hq, List.length_cons, Nat.add_mul]; omega
theorem trod_sliceN {bulk : DataW H → Nat} (hb : Blk bulk) {n s e c x} (hs : 0 < s) (ht : P.underlying t = some (.slice e)) (he : P.cellsOf e = s) (h : DataW.trod enc P W 0 sp hd (n + 1) t [c] = some x) :
    ∃ (rows : List (List Value)) (zs : List (DataW H)), SlN s (all W) c rows.length rows.flatten ∧ rows.length ≤ 9223372036854775807 ∧ (∀ q ∈ rows, q.length = s) ∧
      All2 (fun row z => ∃ pl, DataW.trod enc P W 0 sp hd n e row = some (z, pl)) rows zs ∧ (zs.map bulk).sum + 1 ≤ bulk x.1 := by
  simp only [DataW.trod, ht] at h
  cases c with
  | slice a len cap =>
    cases a with
    | none =>
      cases len with
      | zero =>
        cases cap with
        | zero => exact ⟨[], [], SlN.nil, by simp, by simp, trivial, by simpa using hb.one _⟩
        | succ => simp at h
      | succ => simp at h
    | some a =>
      simp only [he] at h
      split at h
      · rename_i hc
        obtain ⟨_, hlen, hcap⟩ := hc
        rw [Option.bind_eq_some_iff] at h
        obtain ⟨elems, h1, h2⟩ := h
        rw [Option.map_eq_some_iff] at h2
        obtain ⟨rest, _, rfl⟩ := h2
        obtain ⟨l1, l2⟩ := mapM_some h1
        have l1' : elems.length = len := by simpa using l1
        -- each element's cells
        have hget : ∀ i, i < len → ∃ ys z, elems[i]? = some z ∧ ys.length = s ∧ (∀ j, j < s → ∃ y, ys[j]? = some y ∧ W.cell? (a.add (i * s + j)) = some y) ∧ DataW.trod enc P W 0 sp hd n e ys = some z := by
          intro i hi
          obtain ⟨z, hz1, hz2⟩ := l2 i i (by simp [hi])
          rw [Option.bind_eq_some_iff] at hz2
          obtain ⟨ys, hy, hz⟩ := hz2
          obtain ⟨k1, k2⟩ := cells_get hy
          refine ⟨ys, z, hz1, k1, fun j hj => ?_, hz⟩
          obtain ⟨y, y1, y2⟩ := k2 j hj
          have : (a.add (i * s)).add j = a.add (i * s + j) := by
            unfold Addr.add
            by_cases h0 : i * s = 0
            · rw [if_pos h0, h0, Nat.zero_add]
            · rw [if_neg h0]
              by_cases h3 : j = 0
              · rw [if_pos h3, h3, Nat.add_zero, if_neg h0]
              · rw [if_neg h3, if_neg (by omega)]; simp [Nat.add_assoc]
          rw [this] at y2
          exact ⟨y, y1, y2⟩
        -- rows as0 a list
        have hrows : ∀ m, m ≤ len → ∃ rows : List (List Value), rows.length = m ∧ (∀ q ∈ rows, q.length = s) ∧ All2 (fun row z => ∃ pl, DataW.trod enc P W 0 sp hd n e row = some (z, pl)) rows ((elems.take m).map (·.1)) ∧
            ∀ i, i < m → ∀ j, j < s → ∃ y, (rows.getD i [])[j]? = some y ∧ W.cell? (a.add (i * s + j)) = some y := by
          intro m
          induction m with
          | zero => intro _; exact ⟨[], rfl, by simp, trivial, fun i hi => by omega⟩
          | succ m ih =>
            intro hm
            obtain ⟨rows, r1, r2, r3, r4⟩ := ih (by omega)
            obtain ⟨ys, z, g1, g2, g3, g4⟩ := hget m (by omega)
            refine ⟨rows ++ [ys], by simp [r1], ?_, ?_, ?_⟩
            · intro q hq
              rcases List.mem_append.1 hq with h | h
              · exact r2 q h
              · simp at h; subst h; exact g2
            · rw [List.take_add_one, g1, List.map_append]
              exact All2.snoc r3 ⟨z.2, g4⟩
            · intro i hi j hj
              by_cases hlt : i < m
              · obtain ⟨y, y1, y2⟩ := r4 i hlt j hj
                refine ⟨y, ?_, y2⟩
                rw [List.getD_eq_getElem?_getD, List.getElem?_append_left (by omega), ← List.getD_eq_getElem?_getD]; exact y1
              · obtain rfl : i = m := by omega
                obtain ⟨y, y1, y2⟩ := g3 j hj
                refine ⟨y, ?_, y2⟩
                rw [List.getD_eq_getElem?_getD, List.getElem?_append_right (by omega), r1]; simpa using y1
        obtain ⟨rows, r1, r2, r3, r4⟩ := hrows len (Nat.le_refl _)
        rw [← l1', List.take_length] at r3
        have hsum : ((elems.map (·.1)).map bulk).sum + 1 ≤ bulk (.slice (elems.map (·.1)) (rest.map (·.1))) := hb.slice _ _
        have hmax : rows.length ≤ 9223372036854775807 := by
          rw [r1]; unfold maxLen at hcap; omega
        refine ⟨rows, elems.map (·.1), ?_, hmax, r2, r3, hsum⟩
        by_cases h0 : len = 0
        · have hr0 : rows = [] := List.eq_nil_of_length_eq_zero (by omega)
          subst h0
          subst hr0
          exact ⟨by simp, some a, cap, rfl, hlen, fun hn => absurd rfl hn⟩
        · obtain ⟨y0, _, hy0⟩ := r4 0 (by omega) 0 hs
          have hspot : a.spot = none ∧ ∃ cc T fz, W.heap[a.block]? = some (.cells cc T fz) := by
            simp only [Nat.zero_mul, Nat.zero_add, Addr.add, if_true, World.cell?] at hy0
            split at hy0
            · rename_i cc T fz hh
              split at hy0
              · cases hy0
              · rename_i hs; exact ⟨by simpa using hs, cc, T, fz, hh⟩
            · cases hy0
          obtain ⟨hs', cc, T, fz, hh⟩ := hspot
          obtain ⟨k, off, spot⟩ := a
          simp only at hs' hh
          subst hs'
          obtain ⟨l⟩ := cc
          have hfl := flatten_len r2
          have hl : ∀ p, p < len * s → l[off + p]? = rows.flatten[p]? := by
            intro p hp
            have hd1 : p / s < len := Nat.div_lt_of_lt_mul (by rw [Nat.mul_comm]; exact hp)
            have hd2 : p % s < s := Nat.mod_lt _ hs
            have hdm : p / s * s + p % s = p := by rw [Nat.mul_comm]; exact Nat.div_add_mod p s
            obtain ⟨y, y1, y2⟩ := r4 (p / s) hd1 (p % s) hd2
            rw [hdm, addr_add] at y2
            simp only [World.cell?, hh] at y2
            have y3 : l[off + p]? = some y := by simpa using y2
            have hrow : rows[p / s]? = some (rows.getD (p / s) []) := by
              rw [List.getD_eq_getElem?_getD, List.getElem?_eq_getElem (by omega)]; rfl
            have := flatten_get r2 (p / s) (p % s) _ hrow hd2
            rw [hdm] at this
            rw [y3, this, y1]
          refine ⟨by rw [hfl], some ⟨k, off, none⟩, cap, by rw [r1], by omega, fun _ => ⟨k, off, l, T, fz, rfl, mem_all.2 hh, ?_⟩⟩
          have hlen2 : off + len * s ≤ l.length := by
            have hpos : 0 < len * s := Nat.mul_pos (by omega) hs
            have := hl (len * s - 1) (by omega)
            rw [List.getElem?_eq_getElem (l := rows.flatten) (by rw [hfl, r1]; omega)] at this
            have := (List.getElem?_eq_some_iff.1 this).1
            omega
          apply List.ext_getElem?
          intro p
          rw [List.getElem?_take]
          split
          · rename_i hp
            rw [List.getElem?_drop]
            exact hl p (by rw [← r1]; exact hp)
          · rename_i hp
            rw [List.getElem?_eq_none (by rw [hfl]; omega)]
      · cases h
  | _ => simp at h
theorem sum_ge {α : Type} {f : α → Nat} (hf : ∀ a, 1 ≤ f a) : ∀ l : List α, l.length ≤ (l.map f).sum
  | [] => by simp
  | a :: l => by have := sum_ge hf l; have := hf a; simp only [List.length_cons, List.map_cons, List.sum_cons]; omega
theorem trod_sl1 {bulk : DataW H → Nat} (hb : Blk bulk) {n e c x} (ht : P.underlying t = some (.slice e)) (he : P.cellsOf e = 1) (h : DataW.trod enc P W 0 sp hd n t [c] = some x) :
    ∃ (ws : List Value) (zs : List (DataW H)), Sl (all W) c ws ∧ All2 (fun y z => ∃ m pl, DataW.trod enc P W 0 sp hd m e [y] = some (z, pl)) ws zs ∧ (zs.map bulk).sum + 1 ≤ bulk x.1 := by
  cases n with
  | zero => simp [DataW.trod] at h
  | succ n =>
    obtain ⟨rows, zs, h1, h2, h3, h4, h5⟩ := trod_sliceN hb (by decide) ht he h
    have key : ∀ (rows : List (List Value)) (zs : List (DataW H)), (∀ q ∈ rows, q.length = 1) → All2 (fun row z => ∃ pl, DataW.trod enc P W 0 sp hd n e row = some (z, pl)) rows zs →
        rows.flatten.length = rows.length ∧ All2 (fun y z => ∃ m pl, DataW.trod enc P W 0 sp hd m e [y] = some (z, pl)) rows.flatten zs := by
      intro rows
      induction rows with
      | nil => intro zs _ h; cases zs with
        | nil => exact ⟨rfl, trivial⟩
        | cons => exact h.elim
      | cons q rows ih =>
        intro zs hl h
        cases zs with
        | nil => exact h.elim
        | cons z zs =>
          obtain ⟨i1, i2⟩ := ih zs (fun q hq => hl q (by simp [hq])) h.2
          match q, hl q (by simp), h.1 with
          | [y], _, ⟨pl, hy⟩ => exact ⟨by simp [i1], ⟨n, pl, hy⟩, i2⟩
    obtain ⟨k1, k2⟩ := key rows zs h3 h4
    rw [← k1] at h1
    exact ⟨rows.flatten, zs, h1.toSl.1, k2, h5⟩
theorem trod_floatsB {bulk : DataW H → Nat} (hb : Blk bulk) {n e c x} (ht : P.underlying t = some (.slice e)) (he : P.cellsOf e = 1) (hf : P.underlying e = some (.float .f64)) (h : DataW.trod enc P W 0 sp hd n t [c] = some x) :
    ∃ xs, FS (all W) c xs ∧ (∀ y ∈ xs, y < 18446744073709551616) ∧ xs.length + 1 ≤ bulk x.1 := by
  obtain ⟨ws, zs, h1, h2, h3⟩ := trod_sl1 hb ht he h
  have hlen := h2.len
  obtain ⟨xs, rfl, h4⟩ := all_floats (ws := ws) fun y hy => by
    obtain ⟨i, hi⟩ := List.mem_iff_getElem?.1 hy
    have hil : i < zs.length := by have := (List.getElem?_eq_some_iff.1 hi).1; omega
    have hz : zs[i]? = some zs[i] := List.getElem?_eq_getElem hil
    obtain ⟨y', hy', m, pl, hm⟩ := h2.get hz
    rw [hi] at hy'
    cases hy'
    obtain ⟨b, rfl, hw⟩ := trod_float hf hm
    exact ⟨b, rfl, wf_f64 hw⟩
  have := sum_ge hb.one zs
  exact ⟨xs, h1, h4, by simp at hlen; omega⟩
theorem trod_intsB {bulk : DataW H → Nat} (hb : Blk bulk) {n e c x} (ht : P.underlying t = some (.slice e)) (he : P.cellsOf e = 1) (hf : P.underlying e = some (.int .i64)) (h : DataW.trod enc P W 0 sp hd n t [c] = some x) :
    ∃ xs, IS (all W) c xs ∧ (∀ y ∈ xs, -9223372036854775808 ≤ y ∧ y ≤ 9223372036854775807) ∧ xs.length + 1 ≤ bulk x.1 := by
  obtain ⟨ws, zs, h1, h2, h3⟩ := trod_sl1 hb ht he h
  have hlen := h2.len
  obtain ⟨xs, rfl, h4⟩ := all_ints (ws := ws) fun y hy => by
    obtain ⟨i, hi⟩ := List.mem_iff_getElem?.1 hy
    have hil : i < zs.length := by have := (List.getElem?_eq_some_iff.1 hi).1; omega
    have hz : zs[i]? = some zs[i] := List.getElem?_eq_getElem hil
    obtain ⟨y', hy', m, pl, hm⟩ := h2.get hz
    rw [hi] at hy'
    cases hy'
    obtain ⟨b, rfl, hw⟩ := trod_int hf hm
    exact ⟨b, rfl, wf_i64 hw⟩
  have := sum_ge hb.one zs
  exact ⟨xs, h1, h4, by simp at hlen; omega⟩
theorem trod_intssB {bulk : DataW H → Nat} (hb : Blk bulk) {n e e2 c x} (ht : P.underlying t = some (.slice e)) (he : P.cellsOf e = 1) (ht2 : P.underlying e = some (.slice e2)) (he2 : P.cellsOf e2 = 1) (hf : P.underlying e2 = some (.int .i64)) (h : DataW.trod enc P W 0 sp hd n t [c] = some x) :
    ∃ xss, ISS (all W) c xss ∧ (∀ xs ∈ xss, ∀ y ∈ xs, -9223372036854775808 ≤ y ∧ y ≤ 9223372036854775807) ∧ (xss.map (fun l => 1 + l.length)).sum + 1 ≤ bulk x.1 := by
  obtain ⟨ws, zs, h1, h2, h3⟩ := trod_sl1 hb ht he h
  have key : ∀ (ws : List Value) (zs : List (DataW H)), All2 (fun y z => ∃ m pl, DataW.trod enc P W 0 sp hd m e [y] = some (z, pl)) ws zs →
      ∃ xss, All2 (IS (all W)) ws xss ∧ (∀ xs ∈ xss, ∀ y ∈ xs, -9223372036854775808 ≤ y ∧ y ≤ 9223372036854775807) ∧ (xss.map (fun l => 1 + l.length)).sum ≤ (zs.map bulk).sum := by
    intro ws
    induction ws with
    | nil => intro zs h; cases zs with
      | nil => exact ⟨[], trivial, by simp, by simp⟩
      | cons => exact h.elim
    | cons w ws ih =>
      intro zs h
      cases zs with
      | nil => exact h.elim
      | cons z zs =>
        obtain ⟨⟨m, pl, hm⟩, hr⟩ := h
        obtain ⟨xss, i1, i2, i3⟩ := ih zs hr
        obtain ⟨xs, k1, k2, k3⟩ := trod_intsB hb ht2 he2 hf hm
        refine ⟨xs :: xss, ⟨k1, i1⟩, ?_, ?_⟩
        · intro l hl
          rcases List.mem_cons.1 hl with rfl | hl
          · exact k2
          · exact i2 l hl
        · simp only [List.map_cons, List.sum_cons]; simp only at k3; omega
  obtain ⟨xss, i1, i2, i3⟩ := key ws zs h2
  exact ⟨xss, ⟨ws, h1, i1⟩, i2, by omega⟩
/-- The parts of a struct. -/
theorem trod_struct {n fs c x} (ht : P.underlying t = some (.struct fs)) (h : DataW.trod enc P W 0 sp hd (n + 1) t c = some x) :
    c.length = P.cellsOf t ∧ ∃ ys : List (DataW H × List MemPlace), x.1 = .agg (ys.map (·.1)) ∧ ys.length = fs.toList.length ∧
      ∀ (i : Nat) (f : Field), fs.toList[i]? = some f → ∃ y, ys[i]? = some y ∧ DataW.trod enc P W 0 sp hd n f.type ((c.drop f.offset).take (P.cellsOf f.type)) = some y := by
  simp only [DataW.trod, ht] at h
  split at h
  · rename_i hl
    rw [Option.map_eq_some_iff] at h
    obtain ⟨ys, h1, rfl⟩ := h
    obtain ⟨k1, k2⟩ := mapM_some h1
    exact ⟨hl, ys, rfl, k1, k2⟩
  · cases h
end rd
end Go.Lg

set_option linter.unusedVariables false
set_option linter.unusedSimpArgs false
namespace Go.Lg
open Go.ChangeShapes Go.WideShapes Go.RowKit Go.Deep
section rd
variable {H : Type} {enc : TypeId × Value → H} {P : Program} {W : World} {sp : Nat → Bool} {hd : Bool} {r : Reach} {b0 : Nat} {t : TypeId} {v : Value}
theorem trod_floatssB {bulk : DataW H → Nat} (hb : Blk bulk) {n e e2 c x} (ht : P.underlying t = some (.slice e)) (he : P.cellsOf e = 1) (ht2 : P.underlying e = some (.slice e2)) (he2 : P.cellsOf e2 = 1) (hf : P.underlying e2 = some (.float .f64)) (h : DataW.trod enc P W 0 sp hd n t [c] = some x) :
    ∃ xss, SS (all W) c xss ∧ (xss.map (fun l => 1 + l.length)).sum + 1 ≤ bulk x.1 := by
  obtain ⟨ws, zs, h1, h2, h3⟩ := trod_sl1 hb ht he h
  have key : ∀ (ws : List Value) (zs : List (DataW H)), All2 (fun y z => ∃ m pl, DataW.trod enc P W 0 sp hd m e [y] = some (z, pl)) ws zs →
      ∃ xss, All2 (FS (all W)) ws xss ∧ (xss.map (fun l => 1 + l.length)).sum ≤ (zs.map bulk).sum := by
    intro ws
    induction ws with
    | nil => intro zs h; cases zs with
      | nil => exact ⟨[], trivial, by simp⟩
      | cons => exact h.elim
    | cons w ws ih =>
      intro zs h
      cases zs with
      | nil => exact h.elim
      | cons z zs =>
        obtain ⟨⟨m, pl, hm⟩, hr⟩ := h
        obtain ⟨xss, i1, i3⟩ := ih zs hr
        obtain ⟨xs, k1, k2, k3⟩ := trod_floatsB hb ht2 he2 hf hm
        refine ⟨xs :: xss, ⟨k1, i1⟩, ?_⟩
        simp only [List.map_cons, List.sum_cons]; simp only at k3; omega
  obtain ⟨xss, i1, i3⟩ := key ws zs h2
  exact ⟨xss, ⟨ws, h1, i1⟩, by omega⟩
theorem trod_floatsssB {bulk : DataW H → Nat} (hb : Blk bulk) {n e e2 e3 c x} (ht : P.underlying t = some (.slice e)) (he : P.cellsOf e = 1) (ht2 : P.underlying e = some (.slice e2)) (he2 : P.cellsOf e2 = 1) (ht3 : P.underlying e2 = some (.slice e3)) (he3 : P.cellsOf e3 = 1) (hf : P.underlying e3 = some (.float .f64)) (h : DataW.trod enc P W 0 sp hd n t [c] = some x) :
    ∃ cs : List (List (List Nat)), (∃ ws, Sl (all W) c ws ∧ All2 (SS (all W)) ws cs) ∧ (cs.map (fun l => 1 + (l.map (fun l => 1 + l.length)).sum)).sum + 1 ≤ bulk x.1 := by
  obtain ⟨ws, zs, h1, h2, h3⟩ := trod_sl1 hb ht he h
  have key : ∀ (ws : List Value) (zs : List (DataW H)), All2 (fun y z => ∃ m pl, DataW.trod enc P W 0 sp hd m e [y] = some (z, pl)) ws zs →
      ∃ cs : List (List (List Nat)), All2 (SS (all W)) ws cs ∧ (cs.map (fun l => 1 + (l.map (fun l => 1 + l.length)).sum)).sum ≤ (zs.map bulk).sum := by
    intro ws
    induction ws with
    | nil => intro zs h; cases zs with
      | nil => exact ⟨[], trivial, by simp⟩
      | cons => exact h.elim
    | cons w ws ih =>
      intro zs h
      cases zs with
      | nil => exact h.elim
      | cons z zs =>
        obtain ⟨⟨m, pl, hm⟩, hr⟩ := h
        obtain ⟨cs, i1, i3⟩ := ih zs hr
        obtain ⟨xs, k1, k3⟩ := trod_floatssB hb ht2 he2 ht3 he3 hf hm
        refine ⟨xs :: cs, ⟨k1, i1⟩, ?_⟩
        rw [List.map_cons, List.sum_cons, List.map_cons, List.sum_cons]; simp only at k3; omega
  obtain ⟨cs, i1, i3⟩ := key ws zs h2
  exact ⟨cs, ⟨ws, h1, i1⟩, by omega⟩
theorem open_floatsss {bulk : DataW H → Nat} (hb : Blk bulk) {e e2 e3 d p} (ht : P.underlying t = some (.slice e)) (he : P.cellsOf e = 1) (ht2 : P.underlying e = some (.slice e2)) (he2 : P.cellsOf e2 = 1) (ht3 : P.underlying e2 = some (.slice e3)) (he3 : P.cellsOf e3 = 1) (hf : P.underlying e3 = some (.float .f64)) (hv : Value.okWide P W r b0 t v) (h : DataW.Trod enc P W 0 sp hd t v d p) :
    ∃ cs : List (List (List Nat)), (∃ ws, Sl (all W) v ws ∧ All2 (SS (all W)) ws cs) ∧ (cs.map (fun l => 1 + (l.map (fun l => 1 + l.length)).sum)).sum + 1 ≤ bulk d := by
  obtain ⟨a, len, cap, rfl⟩ := okWide_slice ht hv
  obtain ⟨n, hn⟩ := h
  exact trod_floatsssB hb ht he ht2 he2 ht3 he3 hf (show DataW.trod enc P W 0 sp hd n t [.slice a len cap] = _ from hn)
end rd
theorem sum_mem {α : Type} {f : α → Nat} : ∀ {l : List α} {a : α}, a ∈ l → f a ≤ (l.map f).sum
  | x :: l, a, h => by
    rw [List.map_cons, List.sum_cons]
    rcases List.mem_cons.1 h with rfl | h
    · omega
    · have := sum_mem (f := f) h; omega
theorem flat_sum {α : Type} : ∀ (l : List (List α)), l.flatten.length + l.length = (l.map (fun l => 1 + l.length)).sum
  | [] => by simp
  | x :: l => by have := flat_sum l; rw [List.flatten_cons, List.length_append, List.map_cons, List.sum_cons, List.length_cons]; omega
theorem flat_sum2 {α : Type} : ∀ (c : List (List (List α))), c.flatten.flatten.length + c.length ≤ (c.map (fun l => 1 + (l.map (fun l => 1 + l.length)).sum)).sum
  | [] => by simp
  | x :: c => by
    have := flat_sum2 c; have := flat_sum x
    rw [List.flatten_cons, List.flatten_append, List.length_append, List.map_cons, List.sum_cons, List.length_cons]; omega
end Go.Lg

set_option linter.unusedVariables false
set_option linter.unusedSimpArgs false
namespace Go.Proofs.Ytcajankinofomaa.Sl3
open Go.Lg Go.Proofs.Ytcajankinofomaa.Flat

theorem few_of {cs : List (List (List Nat))} (h : (cs.map (fun l => 1 + (l.map (fun l => 1 + l.length)).sum)).sum ≤ 1048576) : Few cs := by
  refine ⟨?_, fun l hl => ?_, fun l hl r hr => ?_, ?_⟩
  · have := sum_ge (f := fun l : List (List Nat) => 1 + (l.map (fun l => 1 + l.length)).sum) (fun a => Nat.le_add_right _ _) cs
    omega
  · have h1 := sum_mem (f := fun l : List (List Nat) => 1 + (l.map (fun l => 1 + l.length)).sum) hl
    have h2 := sum_ge (f := fun l : List Nat => 1 + l.length) (fun a => Nat.le_add_right _ _) l
    omega
  · have h1 := sum_mem (f := fun l : List (List Nat) => 1 + (l.map (fun l => 1 + l.length)).sum) hl
    have h2 := sum_mem (f := fun l : List Nat => 1 + l.length) hr
    omega
  · have := flat_sum2 cs
    omega
theorem sameInts (v1 v2 : Value) (xs : List Int) (H : Heap) (h1 : IS H v1 xs) (h2 : IS H v2 xs) (hb : xs.length < 2 ^ 40) : Does Try.prog 33 [v1, v2] H fun w H' => w = .bool true ∧ H' = H := by
  obtain ⟨a1, c1, rfl⟩ := h1.val
  obtain ⟨a2, c2, rfl⟩ := h2.val
  have hc : icmp .neq (xs.length : Int) (xs.length : Int) = false := by simp only [icmp, bne_eq_false_iff_eq]
  refine fn_enter 26 Try.func33 fun W => ?_
  repeat' first
    | refine tc_seq ?_ | refine tc_region ?_ | refine at_seq_normal ?_ | refine tl_nil ?_ | refine tl_cons ?_ | refine op_move ?_ | refine op_assign ?_ | refine op_load ?_ | refine op_load_agg ?_ | refine op_indexC ?_
    | refine op_indexAddr1 ?_ | refine op_indexAddr ?_ | refine op_icmp ?_ | refine op_iarith ?_ | refine op_len_slice ?_ | refine op_loadK rfl ?_ | refine op_load_aggK rfl ?_ | refine tc_cond_t ?_ | refine tc_cond_f ?_ | refine tc_cond (fun _ => ?_) (fun _ => ?_)
    | refine tc_block ?_ | refine tc_skip ?_ | refine tc_ret ?_ | refine tc_exit ?_ | refine at_seq_ret ?_ | refine at_seq_exit ?_ | refine at_block_normal ?_ | refine at_block_ret ?_ | refine at_block_exit_self ?_ | refine at_block_exit_ne ?_
    | refine at_loop_ret ?_ | refine at_loop_exit ?_
  refine tc_loopH [(1, _), (12, _), (13, _)] (by repeat (first | exact trivial | refine ⟨rfl, ?_⟩)) (fun j : Nat => [(14, .int .i64 (j : Int))]) (fun j => j ≤ xs.length) (fun j => xs.length - j) 0 (Nat.zero_le _) ⟨rfl, trivial⟩ ?_
  rintro j hj
  by_cases hlt : j < xs.length
  · have hbb : icmp .lss (j : Int) (xs.length : Int) = true := by rw [lss_nat]; simpa using hlt
    have hget : xs[j]? = some xs[j] := List.getElem?_eq_getElem hlt
    obtain ⟨k, off, l, T, fz, cap2, he, hm, hcut, _⟩ := h1.at hget
    obtain ⟨k', off', l', T', fz', cap2', he', hm', hcut', _⟩ := h2.at hget
    cases he
    cases he'
    have hq : icmp .neq xs[j] xs[j] = false := by simp only [icmp, bne_eq_false_iff_eq]
    repeat' first
      | refine tc_seq ?_ | refine tc_region ?_ | refine at_seq_normal ?_ | refine tl_nil ?_ | refine tl_cons ?_ | refine op_move ?_ | refine op_assign ?_ | refine op_load ?_ | refine op_load_agg ?_ | refine op_indexC ?_
      | refine op_indexAddr1 ?_ | refine op_indexAddr ?_ | refine op_icmp ?_ | refine op_iarith ?_ | refine op_len_slice ?_ | refine op_loadK rfl ?_ | refine op_load_aggK rfl ?_ | refine tc_cond_t ?_ | refine tc_cond_f ?_ | refine tc_cond (fun _ => ?_) (fun _ => ?_)
      | refine tc_block ?_ | refine tc_skip ?_ | refine tc_ret ?_ | refine tc_exit ?_ | refine at_seq_ret ?_ | refine at_seq_exit ?_ | refine at_block_normal ?_ | refine at_block_ret ?_ | refine at_block_exit_self ?_ | refine at_block_exit_ne ?_
      | refine at_loop_ret ?_ | refine at_loop_exit ?_
    exact at_loopK (j + 1) hlt (by omega) ⟨next_nat (by omega), trivial⟩ (by repeat (first | exact trivial | refine ⟨rfl, ?_⟩)) (by (repeat (first | exact List.Sublist.refl _ | apply List.Sublist.cons_cons | apply List.Sublist.cons | refine List.Sublist.trans ?_ (List.sublist_append_right _ _))))
  · have hbb : icmp .lss (j : Int) (xs.length : Int) = false := by rw [lss_nat]; simpa using hlt
    repeat' first
      | refine tc_seq ?_ | refine tc_region ?_ | refine at_seq_normal ?_ | refine tl_nil ?_ | refine tl_cons ?_ | refine op_move ?_ | refine op_assign ?_ | refine op_load ?_ | refine op_load_agg ?_ | refine op_indexC ?_
      | refine op_indexAddr1 ?_ | refine op_indexAddr ?_ | refine op_icmp ?_ | refine op_iarith ?_ | refine op_len_slice ?_ | refine op_loadK rfl ?_ | refine op_load_aggK rfl ?_ | refine tc_cond_t ?_ | refine tc_cond_f ?_ | refine tc_cond (fun _ => ?_) (fun _ => ?_)
      | refine tc_block ?_ | refine tc_skip ?_ | refine tc_ret ?_ | refine tc_exit ?_ | refine at_seq_ret ?_ | refine at_seq_exit ?_ | refine at_block_normal ?_ | refine at_block_ret ?_ | refine at_block_exit_self ?_ | refine at_block_exit_ne ?_
      | refine at_loop_ret ?_ | refine at_loop_exit ?_
    exact ret_tmp (hk := ⟨rfl, rfl⟩)


set_option maxHeartbeats 8000000 in
theorem sameGeom (k l : Int) (f : List Nat) (es : List Int) (a : Option Addr) (c : Nat) (a' : Option Addr) (c' : Nat) (b : Option Addr) (d : Nat) (b' : Option Addr) (d' : Nat) (H : Heap) (h1 : FS H (.slice a f.length c) f) (h2 : FS H (.slice b f.length d) f) (i1 : IS H (.slice a' es.length c') es) (i2 : IS H (.slice b' es.length d') es) (hf : f.length < 2 ^ 40) (he : es.length < 2 ^ 40) :
    Does Try.prog 16 [.agg ⟨[.int .i64 k, .int .i64 l, .int .i64 0, .slice a f.length c, .slice a' es.length c', .slice none 0 0, .slice none 0 0]⟩, .agg ⟨[.int .i64 k, .int .i64 l, .int .i64 0, .slice b f.length d, .slice b' es.length d', .slice none 0 0, .slice none 0 0]⟩] H fun w H' => w = .bool true ∧ ∃ ex, H' = ex ++ H := by
  have e1 : icmp .neq k k = false := by simp only [icmp, bne_eq_false_iff_eq]
  have e2 : icmp .neq l l = false := by simp only [icmp, bne_eq_false_iff_eq]
  refine fn_enter 96 Try.func16 fun W => ?_
  repeat' first
    | (refine op_call ((sameFloats _ _ _ _ f f _ (h1.mono ins) (h2.mono ins) (by omega)).mono ?_); rintro _ _ ⟨rfl, rfl⟩; rw [decide_eq_true rfl])
    | (refine op_call ((sameInts _ _ es _ (i1.mono ins) (i2.mono ins) he).mono ?_); rintro _ _ ⟨rfl, rfl⟩)
    | (first | refine tc_seq ?_ | refine tc_region ?_ | refine at_seq_normal ?_ | refine tl_nil ?_ | refine tl_cons ?_ | refine tl_cons_none ?_ | refine op_move ?_ | refine op_assign ?_ | refine op_fieldAddr ?_ | refine op_load ?_ | refine op_load_agg ?_ | refine op_indexC ?_ | refine op_indexAddr1 ?_ | refine op_indexAddr ?_ | refine op_icmp ?_ | refine op_iarith ?_ | refine op_unop_not ?_ | refine op_len_slice ?_ | refine op_pick_true ?_ | refine op_pick_false ?_ | refine op_pick_true' ?_ | refine op_pick_false' ?_ | (refine op_alloc ?_; intro _) | (refine op_box ?_; intro _) | refine op_store0 ?_ | refine op_store1 ?_ | refine op_store2 ?_ | refine op_store3 ?_ | refine op_store4 ?_ | refine op_store5 ?_ | refine op_storeK rfl ?_ | refine op_loadK rfl ?_ | refine op_load_aggK rfl ?_ | refine tc_cond_t ?_ | refine tc_cond_f ?_ | refine tc_cond (fun _ => ?_) (fun _ => ?_) | refine tc_block ?_ | refine tc_skip ?_ | refine tc_ret ?_ | refine tc_exit ?_ | refine at_seq_ret ?_ | refine at_seq_exit ?_ | refine at_block_normal ?_ | refine at_block_ret ?_ | refine at_block_exit_self ?_ | refine at_block_exit_ne ?_ | refine at_loop_ret ?_ | refine at_loop_exit ?_ | refine tl_guard_yes ?_ | refine tl_guard_no ?_ | refine tl_guard_yes' ?_ | refine tl_guard_no' ?_ | refine tl_guard_undef ?_ | refine tl_guard_split (fun _ => ?_) (fun _ => ?_) | fail)
    | refine op_loadK rfl ?_
    | fail
  rename_i k1 k2
  refine tc_loopK [(2, _), (3, _), (63, _), (64, _)] (by repeat (first | exact trivial | refine ⟨rfl, ?_⟩)) (fun j : Nat => [(65, .int .i64 (j : Int))]) (fun _ => _) (fun j => j = 0) (fun _ => 0) 0 rfl ⟨rfl, trivial⟩ (List.Sublist.refl _) ?_
  rintro j rfl
  have hb : icmp .lss ((0 : Nat) : Int) ((0 : Nat) : Int) = false := by decide
  repeat' first
    | refine tc_seq ?_ | refine tc_region ?_ | refine at_seq_normal ?_ | refine tl_nil ?_ | refine tl_cons ?_ | refine tl_cons_none ?_ | refine op_move ?_ | refine op_assign ?_ | refine op_fieldAddr ?_ | refine op_load ?_
    | refine op_load_agg ?_ | refine op_indexC ?_ | refine op_indexAddr1 ?_ | refine op_indexAddr ?_ | refine op_icmp ?_ | refine op_iarith ?_ | refine op_unop_not ?_ | refine op_len_slice ?_ | refine op_pick_true ?_ | refine op_pick_false ?_
    | refine op_pick_true' ?_ | refine op_pick_false' ?_ | (refine op_alloc ?_; intro _) | (refine op_box ?_; intro _) | refine op_store0 ?_ | refine op_store1 ?_ | refine op_store2 ?_ | refine op_store3 ?_ | refine op_store4 ?_ | refine op_store5 ?_
    | refine op_storeK rfl ?_ | refine op_loadK rfl ?_ | refine op_load_aggK rfl ?_ | refine tc_cond_t ?_ | refine tc_cond_f ?_ | refine tc_cond (fun _ => ?_) (fun _ => ?_) | refine tc_block ?_ | refine tc_skip ?_ | refine tc_ret ?_ | refine tc_exit ?_
    | refine at_seq_ret ?_ | refine at_seq_exit ?_ | refine at_block_normal ?_ | refine at_block_ret ?_ | refine at_block_exit_self ?_ | refine at_block_exit_ne ?_ | refine at_loop_ret ?_ | refine at_loop_exit ?_ | refine tl_guard_yes ?_ | refine tl_guard_no ?_
    | refine tl_guard_yes' ?_ | refine tl_guard_no' ?_ | refine tl_guard_undef ?_ | refine tl_guard_split (fun _ => ?_) (fun _ => ?_)
  refine tc_loopK [(3, _), (80, _), (81, _)] (by repeat (first | exact trivial | refine ⟨rfl, ?_⟩)) (fun j : Nat => [(82, .int .i64 (j : Int))]) (fun _ => _) (fun j => j = 0) (fun _ => 0) 0 rfl ⟨rfl, trivial⟩ (List.Sublist.refl _) ?_
  rintro j rfl
  repeat' first
    | refine tc_seq ?_ | refine tc_region ?_ | refine at_seq_normal ?_ | refine tl_nil ?_ | refine tl_cons ?_ | refine tl_cons_none ?_ | refine op_move ?_ | refine op_assign ?_ | refine op_fieldAddr ?_ | refine op_load ?_
    | refine op_load_agg ?_ | refine op_indexC ?_ | refine op_indexAddr1 ?_ | refine op_indexAddr ?_ | refine op_icmp ?_ | refine op_iarith ?_ | refine op_unop_not ?_ | refine op_len_slice ?_ | refine op_pick_true ?_ | refine op_pick_false ?_
    | refine op_pick_true' ?_ | refine op_pick_false' ?_ | (refine op_alloc ?_; intro _) | (refine op_box ?_; intro _) | refine op_store0 ?_ | refine op_store1 ?_ | refine op_store2 ?_ | refine op_store3 ?_ | refine op_store4 ?_ | refine op_store5 ?_
    | refine op_storeK rfl ?_ | refine op_loadK rfl ?_ | refine op_load_aggK rfl ?_ | refine tc_cond_t ?_ | refine tc_cond_f ?_ | refine tc_cond (fun _ => ?_) (fun _ => ?_) | refine tc_block ?_ | refine tc_skip ?_ | refine tc_ret ?_ | refine tc_exit ?_
    | refine at_seq_ret ?_ | refine at_seq_exit ?_ | refine at_block_normal ?_ | refine at_block_ret ?_ | refine at_block_exit_self ?_ | refine at_block_exit_ne ?_ | refine at_loop_ret ?_ | refine at_loop_exit ?_ | refine tl_guard_yes ?_ | refine tl_guard_no ?_
    | refine tl_guard_yes' ?_ | refine tl_guard_no' ?_ | refine tl_guard_undef ?_ | refine tl_guard_split (fun _ => ?_) (fun _ => ?_)
  exact ret_tmp (hG := List.Sublist.refl _) (hk := ⟨rfl, ExC.ex⟩)
end Go.Proofs.Ytcajankinofomaa.Sl3

set_option linter.unusedVariables false
set_option linter.unusedSimpArgs false
namespace Go.Proofs.Ytcajankinofomaa.fnSetLines
open Go.Lg Go.Proofs.Ytcajankinofomaa.Flat Go.Proofs.Ytcajankinofomaa.Sl3
open Go.ChangeShapes Go.WideShapes Go.RowKit

section
variable {H : Type}
theorem all_sum : ∀ (l : List (DataW H)), Rows.uptoBulkAll l = (l.map Rows.uptoBulk).sum
  | [] => by simp [Rows.uptoBulkAll]
  | d :: l => by rw [Rows.uptoBulkAll, all_sum l]; simp
theorem blk : Blk (H := H) Rows.uptoBulk where
  one d := by
    cases d with
    | lit l => cases l <;> simp [Rows.uptoBulk]
    | nil => simp [Rows.uptoBulk]
    | ptr d => simp [Rows.uptoBulk]
    | slice l m => simp [Rows.uptoBulk]
    | agg l => simp [Rows.uptoBulk]
    | iface n d => simp [Rows.uptoBulk]
    | map l => simp [Rows.uptoBulk]
    | held x => simp [Rows.uptoBulk]
  slice l m := by rw [Rows.uptoBulk, all_sum, all_sum]; omega
  agg l := by rw [Rows.uptoBulk, all_sum]; omega
end
theorem exsub {G H : Heap} [h : ExC G H] : List.Sublist H G := by
  obtain ⟨ex, rfl⟩ := h.ex
  exact List.sublist_append_right _ _
theorem stride_ge {n : Int} (h : 1 ≤ n) : 2 ≤ strideI n := by unfold strideI; (repeat' split) <;> omega
theorem s4_one {G : Heap} {k : Nat} {T : TypeId} {fz : Nat × Nat} {v : Value} {c : List (List (List Nat))} (hm : (k, Obj.cells ⟨[v]⟩ T fz) ∈ G) (hv : S3 G v c) : S4 G (.slice (some ⟨k, 0, none⟩) 1 1) [c] :=
  ⟨[v], ⟨some ⟨k, 0, none⟩, 1, rfl, Nat.le_refl _, fun _ => ⟨k, 0, [v], T, fz, rfl, hm, rfl⟩⟩, hv, trivial⟩
theorem s3_two {G : Heap} {k1 k2 k3 : Nat} {T1 T2 T3 : TypeId} {f1 f2 f3 : Nat × Nat} {x y : Nat} (m1 : (k1, Obj.cells ⟨[.float .f64 x, .float .f64 y]⟩ T1 f1) ∈ G) (m2 : (k2, Obj.cells ⟨[.slice (some ⟨k1, 0, none⟩) 2 2]⟩ T2 f2) ∈ G) (m3 : (k3, Obj.cells ⟨[.slice (some ⟨k2, 0, none⟩) 1 1]⟩ T3 f3) ∈ G) :
    S3 G (.slice (some ⟨k3, 0, none⟩) 1 1) [[[x, y]]] :=
  ⟨[.slice (some ⟨k2, 0, none⟩) 1 1], ⟨some ⟨k3, 0, none⟩, 1, rfl, Nat.le_refl _, fun _ => ⟨k3, 0, _, T3, f3, rfl, m3, rfl⟩⟩, (⟨[.slice (some ⟨k1, 0, none⟩) 2 2], ⟨some ⟨k2, 0, none⟩, 1, rfl, Nat.le_refl _, fun _ => ⟨k2, 0, _, T2, f2, rfl, m2, rfl⟩⟩, (⟨some ⟨k1, 0, none⟩, 2, rfl, Nat.le_refl _, fun _ => ⟨k1, 0, _, T1, f1, rfl, m1, rfl⟩⟩ : FS G (.slice (some ⟨k1, 0, none⟩) 2 2) [x, y]), trivial⟩ : SS G (.slice (some ⟨k2, 0, none⟩) 1 1) [[x, y]]), trivial⟩
theorem few_one (x y : Nat) : Few [[[x, y]]] := few_of (by simp)
set_option maxHeartbeats 32000000 in
theorem law3 {H : Heap} (l : Int) (h1 : 1 ≤ l) (h9 : l ≤ 9) (v : Value) (c : List (List (List Nat))) (hv : S3 H v c) (hc : Few c) :
    Does Try.prog 4 [.int .i64 3, .int .i64 l, v] H fun w H' => w = .bool true ∧ H' = H := by
  have hn3 : icmp .neq (3 : Int) 3 = false := by decide
  have hn5 : icmp .neq (3 : Int) 5 = true := by decide
  have hl1 : icmp .lss l 1 = false := by simp only [icmp]; exact decide_eq_false (by omega)
  have hl9 : icmp .gtr l 9 = false := by simp only [icmp]; exact decide_eq_false (by omega)
  obtain ⟨s, hs⟩ : ∃ s : Nat, strideI l = (s : Int) := ⟨(strideI l).toNat, by have := stride_ge h1; omega⟩
  have hn := hc.n
  have hall := hc.all
  have hel := ends_len c
  obtain ⟨a0, cap, rfl⟩ := hv.val
  refine fn_enter 98 Try.func4 fun W => ?_
  repeat' first
    | (refine op_call ((zzFits5 _ c _ (hv.mono exs) hc).mono ?_); rintro _ H0 ⟨⟨bz, rfl⟩, rfl⟩)
    | (refine op_call ((gCount _ [c] _ (s4_one mem0 (hv.mono exs)) (by simp) (by simpa using hc)).mono ?_); rintro _ _ ⟨⟨n, rfl⟩, rfl⟩)
    | (first | refine tc_seq ?_ | refine tc_region ?_ | refine at_seq_normal ?_ | refine tl_nil ?_ | refine tl_cons ?_ | refine tl_cons_none ?_ | refine op_move ?_ | refine op_assign ?_ | refine op_load ?_ | refine op_load_agg ?_ | refine op_indexC ?_ | refine op_indexAddr1 ?_ | refine op_indexAddr ?_ | refine op_icmp ?_ | refine op_iarith ?_ | refine op_bcmp ?_ | refine op_unop_not ?_ | refine op_len_slice ?_ | refine op_pick_true ?_ | refine op_pick_false ?_ | refine op_pick_true' ?_ | refine op_pick_false' ?_ | refine op_build ?_ | refine op_extract ?_ | (refine op_alloc ?_; intro _) | (refine op_buildSlice ?_; intro _) | refine op_store0 ?_ | refine op_store1 ?_ | refine op_store2 ?_ | refine op_store3 ?_ | refine op_store4 ?_ | refine op_store5 ?_ | refine op_storeK rfl ?_ | refine op_loadK rfl ?_ | refine op_load_aggK rfl ?_ | refine tc_cond_t ?_ | refine tc_cond_f ?_ | refine tc_cond (fun _ => ?_) (fun _ => ?_) | refine tc_block ?_ | refine tc_skip ?_ | refine tc_ret ?_ | refine tc_exit ?_ | refine at_seq_ret ?_ | refine at_seq_exit ?_ | refine at_block_normal ?_ | refine at_block_ret ?_ | refine at_block_exit_self ?_ | refine at_block_exit_ne ?_ | refine at_loop_ret ?_ | refine at_loop_exit ?_ | refine tl_guard_yes ?_ | refine tl_guard_no ?_ | refine tl_guard_yes' ?_ | refine tl_guard_no' ?_ | refine tl_guard_undef ?_ | refine tl_guard_split (fun _ => ?_) (fun _ => ?_) | fail)
    | fail
  all_goals first
    | exact ret_tmp (hG := exsub) (hk := ⟨rfl, rfl⟩)
    | skip
  rename_i hbz kb hgt
  refine tc_loopH [(0, _), (1, _), (2, _), (41, _), (42, _)] (by repeat (first | exact trivial | refine ⟨rfl, ?_⟩)) (fun j : Nat => [(43, .int .i64 (j : Int))]) (fun j => j ≤ c.length) (fun j => c.length - j) 0 (Nat.zero_le _) ⟨rfl, trivial⟩ ?_
  intro j hj
  by_cases hlt : j < c.length
  · have hb : icmp .lss (j : Int) (c.length : Int) = true := by rw [lss_nat]; simpa using hlt
    obtain ⟨k, off, L, T, fz, cap', u, hu, hm, hg, hf, _⟩ := hv.at (List.getElem?_eq_getElem hlt)
    cases hu
    have hlb := hc.l _ (List.getElem_mem hlt)
    generalize c[j] = r at *
    obtain ⟨a2, c2, rfl⟩ := hf.val
    repeat' first
      | refine tc_seq ?_ | refine tc_region ?_ | refine at_seq_normal ?_ | refine tl_nil ?_ | refine tl_cons ?_ | refine tl_cons_none ?_ | refine op_move ?_ | refine op_assign ?_ | refine op_load ?_ | refine op_load_agg ?_
      | refine op_indexC ?_ | refine op_indexAddr1 ?_ | refine op_indexAddr ?_ | refine op_icmp ?_ | refine op_iarith ?_ | refine op_bcmp ?_ | refine op_unop_not ?_ | refine op_len_slice ?_ | refine op_pick_true ?_ | refine op_pick_false ?_
      | refine op_pick_true' ?_ | refine op_pick_false' ?_ | refine op_build ?_ | refine op_extract ?_ | (refine op_alloc ?_; intro _) | (refine op_buildSlice ?_; intro _) | refine op_store0 ?_ | refine op_store1 ?_ | refine op_store2 ?_ | refine op_store3 ?_
      | refine op_store4 ?_ | refine op_store5 ?_ | refine op_storeK rfl ?_ | refine op_loadK rfl ?_ | refine op_load_aggK rfl ?_ | refine tc_cond_t ?_ | refine tc_cond_f ?_ | refine tc_cond (fun _ => ?_) (fun _ => ?_) | refine tc_block ?_ | refine tc_skip ?_
      | refine tc_ret ?_ | refine tc_exit ?_ | refine at_seq_ret ?_ | refine at_seq_exit ?_ | refine at_block_normal ?_ | refine at_block_ret ?_ | refine at_block_exit_self ?_ | refine at_block_exit_ne ?_ | refine at_loop_ret ?_ | refine at_loop_exit ?_
      | refine tl_guard_yes ?_ | refine tl_guard_no ?_ | refine tl_guard_yes' ?_ | refine tl_guard_no' ?_ | refine tl_guard_undef ?_ | refine tl_guard_split (fun _ => ?_) (fun _ => ?_)
    refine tc_loopH [(0, _), (1, _), (2, _), (8, _), (41, _), (42, _), (43, _), (44, _), (45, _), (46, _), (47, _), (48, _)] (by repeat (first | exact trivial | refine ⟨rfl, ?_⟩)) (fun i : Nat => [(49, .int .i64 (i : Int))]) (fun i => i ≤ r.length) (fun i => r.length - i) 0 (Nat.zero_le _) ⟨rfl, trivial⟩ ?_
    intro i hi
    by_cases hlt2 : i < r.length
    · have hb2 : icmp .lss (i : Int) (r.length : Int) = true := by rw [lss_nat]; simpa using hlt2
      obtain ⟨k3, off3, L3, T3, fz3, cap3, u3, hu3, hm3, hg3, hf3, _⟩ := hf.at (List.getElem?_eq_getElem hlt2)
      cases hu3
      obtain ⟨a4, c4, rfl⟩ := hf3.val
      repeat' first
        | refine tc_seq ?_ | refine tc_region ?_ | refine at_seq_normal ?_ | refine tl_nil ?_ | refine tl_cons ?_ | refine tl_cons_none ?_ | refine op_move ?_ | refine op_assign ?_ | refine op_load ?_ | refine op_load_agg ?_
        | refine op_indexC ?_ | refine op_indexAddr1 ?_ | refine op_indexAddr ?_ | refine op_icmp ?_ | refine op_iarith ?_ | refine op_bcmp ?_ | refine op_unop_not ?_ | refine op_len_slice ?_ | refine op_pick_true ?_ | refine op_pick_false ?_
        | refine op_pick_true' ?_ | refine op_pick_false' ?_ | refine op_build ?_ | refine op_extract ?_ | (refine op_alloc ?_; intro _) | (refine op_buildSlice ?_; intro _) | refine op_store0 ?_ | refine op_store1 ?_ | refine op_store2 ?_ | refine op_store3 ?_
        | refine op_store4 ?_ | refine op_store5 ?_ | refine op_storeK rfl ?_ | refine op_loadK rfl ?_ | refine op_load_aggK rfl ?_ | refine tc_cond_t ?_ | refine tc_cond_f ?_ | refine tc_cond (fun _ => ?_) (fun _ => ?_) | refine tc_block ?_ | refine tc_skip ?_
        | refine tc_ret ?_ | refine tc_exit ?_ | refine at_seq_ret ?_ | refine at_seq_exit ?_ | refine at_block_normal ?_ | refine at_block_ret ?_ | refine at_block_exit_self ?_ | refine at_block_exit_ne ?_ | refine at_loop_ret ?_ | refine at_loop_exit ?_
        | refine tl_guard_yes ?_ | refine tl_guard_no ?_ | refine tl_guard_yes' ?_ | refine tl_guard_no' ?_ | refine tl_guard_undef ?_ | refine tl_guard_split (fun _ => ?_) (fun _ => ?_)
      · exact ret_tmp (hG := exsub) (hk := ⟨rfl, rfl⟩)
      · exact at_loopK (i + 1) hlt2 (by omega) ⟨next_nat (by omega), trivial⟩ (by repeat (first | exact trivial | refine ⟨rfl, ?_⟩)) (List.Sublist.refl _)
    · have hb2 : icmp .lss (i : Int) (r.length : Int) = false := by rw [lss_nat]; simpa using hlt2
      repeat' first
        | refine tc_seq ?_ | refine tc_region ?_ | refine at_seq_normal ?_ | refine tl_nil ?_ | refine tl_cons ?_ | refine tl_cons_none ?_ | refine op_move ?_ | refine op_assign ?_ | refine op_load ?_ | refine op_load_agg ?_
        | refine op_indexC ?_ | refine op_indexAddr1 ?_ | refine op_indexAddr ?_ | refine op_icmp ?_ | refine op_iarith ?_ | refine op_bcmp ?_ | refine op_unop_not ?_ | refine op_len_slice ?_ | refine op_pick_true ?_ | refine op_pick_false ?_
        | refine op_pick_true' ?_ | refine op_pick_false' ?_ | refine op_build ?_ | refine op_extract ?_ | (refine op_alloc ?_; intro _) | (refine op_buildSlice ?_; intro _) | refine op_store0 ?_ | refine op_store1 ?_ | refine op_store2 ?_ | refine op_store3 ?_
        | refine op_store4 ?_ | refine op_store5 ?_ | refine op_storeK rfl ?_ | refine op_loadK rfl ?_ | refine op_load_aggK rfl ?_ | refine tc_cond_t ?_ | refine tc_cond_f ?_ | refine tc_cond (fun _ => ?_) (fun _ => ?_) | refine tc_block ?_ | refine tc_skip ?_
        | refine tc_ret ?_ | refine tc_exit ?_ | refine at_seq_ret ?_ | refine at_seq_exit ?_ | refine at_block_normal ?_ | refine at_block_ret ?_ | refine at_block_exit_self ?_ | refine at_block_exit_ne ?_ | refine at_loop_ret ?_ | refine at_loop_exit ?_
        | refine tl_guard_yes ?_ | refine tl_guard_no ?_ | refine tl_guard_yes' ?_ | refine tl_guard_no' ?_ | refine tl_guard_undef ?_ | refine tl_guard_split (fun _ => ?_) (fun _ => ?_)
      exact at_loopK (j + 1) hlt (by omega) ⟨next_nat (by omega), trivial⟩ (by repeat (first | exact trivial | refine ⟨rfl, ?_⟩)) (List.Sublist.refl _)
  have hb : icmp .lss (j : Int) (c.length : Int) = false := by rw [lss_nat]; simpa using hlt
  repeat' first
    | (refine op_call ((gFlats l s _ c _ hs (hv.mono ins) hc).mono ?_); rintro _ _ ⟨ex1, a1, b1, a2, b2, rfl, rfl, hF1, hI1⟩)
    | (refine op_call ((setLines3 l s _ c _ h1 hs (hv.mono ins) hc).mono ?_); rintro _ _ (⟨hfr, a3, b3, a4, b4, rfl, ⟨ex2, rfl⟩, hF2, hI2⟩ | ⟨hfr, rfl, ex2, rfl⟩) <;> rw [hfr])
    | (refine op_call ((setLines3 1 2 _ [[[4607182418800017408, 4611686018427387904]]] _ (Int.le_refl 1) (by decide) (s3_two mem2 mem1 mem0) (few_one _ _)).mono ?_); rintro _ _ (⟨hfq, a5, b5, a6, b6, rfl, ⟨ex3, rfl⟩, -, -⟩ | ⟨hfq, -, -⟩); rotate_left; exact absurd hfq (by decide))
    | (refine op_call ((sameGeom 3 l _ _ a3 b3 a4 b4 a1 b1 a2 b2 _ (hF2.mono ins) (hF1.mono ins) (hI2.mono ins) (hI1.mono ins) (by omega) (by omega)).mono ?_); rintro _ _ ⟨rfl, ex4, rfl⟩)
    | (first | refine tc_seq ?_ | refine tc_region ?_ | refine at_seq_normal ?_ | refine tl_nil ?_ | refine tl_cons ?_ | refine tl_cons_none ?_ | refine op_move ?_ | refine op_assign ?_ | refine op_load ?_ | refine op_load_agg ?_ | refine op_indexC ?_ | refine op_indexAddr1 ?_ | refine op_indexAddr ?_ | refine op_icmp ?_ | refine op_iarith ?_ | refine op_bcmp ?_ | refine op_unop_not ?_ | refine op_len_slice ?_ | refine op_pick_true ?_ | refine op_pick_false ?_ | refine op_pick_true' ?_ | refine op_pick_false' ?_ | refine op_build ?_ | refine op_extract ?_ | (refine op_alloc ?_; intro _) | (refine op_buildSlice ?_; intro _) | refine op_store0 ?_ | refine op_store1 ?_ | refine op_store2 ?_ | refine op_store3 ?_ | refine op_store4 ?_ | refine op_store5 ?_ | refine op_storeK rfl ?_ | refine op_loadK rfl ?_ | refine op_load_aggK rfl ?_ | refine tc_cond_t ?_ | refine tc_cond_f ?_ | refine tc_cond (fun _ => ?_) (fun _ => ?_) | refine tc_block ?_ | refine tc_skip ?_ | refine tc_ret ?_ | refine tc_exit ?_ | refine at_seq_ret ?_ | refine at_seq_exit ?_ | refine at_block_normal ?_ | refine at_block_ret ?_ | refine at_block_exit_self ?_ | refine at_block_exit_ne ?_ | refine at_loop_ret ?_ | refine at_loop_exit ?_ | refine tl_guard_yes ?_ | refine tl_guard_no ?_ | refine tl_guard_yes' ?_ | refine tl_guard_no' ?_ | refine tl_guard_undef ?_ | refine tl_guard_split (fun _ => ?_) (fun _ => ?_) | fail)
    | fail
  all_goals exact ret_tmp (hG := exsub) (hk := ⟨rfl, rfl⟩)
set_option maxHeartbeats 32000000 in
theorem law5 {H : Heap} (l : Int) (h1 : 1 ≤ l) (h9 : l ≤ 9) (v : Value) (c : List (List (List Nat))) (hv : S3 H v c) (hc : Few c) :
    Does Try.prog 4 [.int .i64 5, .int .i64 l, v] H fun w H' => w = .bool true ∧ H' = H := by
  have hn3 : icmp .neq (5 : Int) 3 = true := by decide
  have hn5 : icmp .neq (5 : Int) 5 = false := by decide
  have hl1 : icmp .lss l 1 = false := by simp only [icmp]; exact decide_eq_false (by omega)
  have hl9 : icmp .gtr l 9 = false := by simp only [icmp]; exact decide_eq_false (by omega)
  obtain ⟨s, hs⟩ : ∃ s : Nat, strideI l = (s : Int) := ⟨(strideI l).toNat, by have := stride_ge h1; omega⟩
  have hn := hc.n
  have hall := hc.all
  have hel := ends_len c
  obtain ⟨a0, cap, rfl⟩ := hv.val
  refine fn_enter 98 Try.func4 fun W => ?_
  repeat' first
    | (refine op_call ((zzFits5 _ c _ (hv.mono exs) hc).mono ?_); rintro _ H0 ⟨⟨bz, rfl⟩, rfl⟩)
    | (refine op_call ((gCount _ [c] _ (s4_one mem0 (hv.mono exs)) (by simp) (by simpa using hc)).mono ?_); rintro _ _ ⟨⟨n, rfl⟩, rfl⟩)
    | (first | refine tc_seq ?_ | refine tc_region ?_ | refine at_seq_normal ?_ | refine tl_nil ?_ | refine tl_cons ?_ | refine tl_cons_none ?_ | refine op_move ?_ | refine op_assign ?_ | refine op_load ?_ | refine op_load_agg ?_ | refine op_indexC ?_ | refine op_indexAddr1 ?_ | refine op_indexAddr ?_ | refine op_icmp ?_ | refine op_iarith ?_ | refine op_bcmp ?_ | refine op_unop_not ?_ | refine op_len_slice ?_ | refine op_pick_true ?_ | refine op_pick_false ?_ | refine op_pick_true' ?_ | refine op_pick_false' ?_ | refine op_build ?_ | refine op_extract ?_ | (refine op_alloc ?_; intro _) | (refine op_buildSlice ?_; intro _) | refine op_store0 ?_ | refine op_store1 ?_ | refine op_store2 ?_ | refine op_store3 ?_ | refine op_store4 ?_ | refine op_store5 ?_ | refine op_storeK rfl ?_ | refine op_loadK rfl ?_ | refine op_load_aggK rfl ?_ | refine tc_cond_t ?_ | refine tc_cond_f ?_ | refine tc_cond (fun _ => ?_) (fun _ => ?_) | refine tc_block ?_ | refine tc_skip ?_ | refine tc_ret ?_ | refine tc_exit ?_ | refine at_seq_ret ?_ | refine at_seq_exit ?_ | refine at_block_normal ?_ | refine at_block_ret ?_ | refine at_block_exit_self ?_ | refine at_block_exit_ne ?_ | refine at_loop_ret ?_ | refine at_loop_exit ?_ | refine tl_guard_yes ?_ | refine tl_guard_no ?_ | refine tl_guard_yes' ?_ | refine tl_guard_no' ?_ | refine tl_guard_undef ?_ | refine tl_guard_split (fun _ => ?_) (fun _ => ?_) | fail)
    | fail
  all_goals first
    | exact ret_tmp (hG := exsub) (hk := ⟨rfl, rfl⟩)
    | skip
  rename_i hbz kb hgt
  refine tc_loopH [(0, _), (1, _), (2, _), (41, _), (42, _)] (by repeat (first | exact trivial | refine ⟨rfl, ?_⟩)) (fun j : Nat => [(43, .int .i64 (j : Int))]) (fun j => j ≤ c.length) (fun j => c.length - j) 0 (Nat.zero_le _) ⟨rfl, trivial⟩ ?_
  intro j hj
  by_cases hlt : j < c.length
  · have hb : icmp .lss (j : Int) (c.length : Int) = true := by rw [lss_nat]; simpa using hlt
    obtain ⟨k, off, L, T, fz, cap', u, hu, hm, hg, hf, _⟩ := hv.at (List.getElem?_eq_getElem hlt)
    cases hu
    have hlb := hc.l _ (List.getElem_mem hlt)
    generalize c[j] = r at *
    obtain ⟨a2, c2, rfl⟩ := hf.val
    repeat' first
      | refine tc_seq ?_ | refine tc_region ?_ | refine at_seq_normal ?_ | refine tl_nil ?_ | refine tl_cons ?_ | refine tl_cons_none ?_ | refine op_move ?_ | refine op_assign ?_ | refine op_load ?_ | refine op_load_agg ?_
      | refine op_indexC ?_ | refine op_indexAddr1 ?_ | refine op_indexAddr ?_ | refine op_icmp ?_ | refine op_iarith ?_ | refine op_bcmp ?_ | refine op_unop_not ?_ | refine op_len_slice ?_ | refine op_pick_true ?_ | refine op_pick_false ?_
      | refine op_pick_true' ?_ | refine op_pick_false' ?_ | refine op_build ?_ | refine op_extract ?_ | (refine op_alloc ?_; intro _) | (refine op_buildSlice ?_; intro _) | refine op_store0 ?_ | refine op_store1 ?_ | refine op_store2 ?_ | refine op_store3 ?_
      | refine op_store4 ?_ | refine op_store5 ?_ | refine op_storeK rfl ?_ | refine op_loadK rfl ?_ | refine op_load_aggK rfl ?_ | refine tc_cond_t ?_ | refine tc_cond_f ?_ | refine tc_cond (fun _ => ?_) (fun _ => ?_) | refine tc_block ?_ | refine tc_skip ?_
      | refine tc_ret ?_ | refine tc_exit ?_ | refine at_seq_ret ?_ | refine at_seq_exit ?_ | refine at_block_normal ?_ | refine at_block_ret ?_ | refine at_block_exit_self ?_ | refine at_block_exit_ne ?_ | refine at_loop_ret ?_ | refine at_loop_exit ?_
      | refine tl_guard_yes ?_ | refine tl_guard_no ?_ | refine tl_guard_yes' ?_ | refine tl_guard_no' ?_ | refine tl_guard_undef ?_ | refine tl_guard_split (fun _ => ?_) (fun _ => ?_)
    refine tc_loopH [(0, _), (1, _), (2, _), (8, _), (41, _), (42, _), (43, _), (44, _), (45, _), (46, _), (47, _), (48, _)] (by repeat (first | exact trivial | refine ⟨rfl, ?_⟩)) (fun i : Nat => [(49, .int .i64 (i : Int))]) (fun i => i ≤ r.length) (fun i => r.length - i) 0 (Nat.zero_le _) ⟨rfl, trivial⟩ ?_
    intro i hi
    by_cases hlt2 : i < r.length
    · have hb2 : icmp .lss (i : Int) (r.length : Int) = true := by rw [lss_nat]; simpa using hlt2
      obtain ⟨k3, off3, L3, T3, fz3, cap3, u3, hu3, hm3, hg3, hf3, _⟩ := hf.at (List.getElem?_eq_getElem hlt2)
      cases hu3
      obtain ⟨a4, c4, rfl⟩ := hf3.val
      repeat' first
        | refine tc_seq ?_ | refine tc_region ?_ | refine at_seq_normal ?_ | refine tl_nil ?_ | refine tl_cons ?_ | refine tl_cons_none ?_ | refine op_move ?_ | refine op_assign ?_ | refine op_load ?_ | refine op_load_agg ?_
        | refine op_indexC ?_ | refine op_indexAddr1 ?_ | refine op_indexAddr ?_ | refine op_icmp ?_ | refine op_iarith ?_ | refine op_bcmp ?_ | refine op_unop_not ?_ | refine op_len_slice ?_ | refine op_pick_true ?_ | refine op_pick_false ?_
        | refine op_pick_true' ?_ | refine op_pick_false' ?_ | refine op_build ?_ | refine op_extract ?_ | (refine op_alloc ?_; intro _) | (refine op_buildSlice ?_; intro _) | refine op_store0 ?_ | refine op_store1 ?_ | refine op_store2 ?_ | refine op_store3 ?_
        | refine op_store4 ?_ | refine op_store5 ?_ | refine op_storeK rfl ?_ | refine op_loadK rfl ?_ | refine op_load_aggK rfl ?_ | refine tc_cond_t ?_ | refine tc_cond_f ?_ | refine tc_cond (fun _ => ?_) (fun _ => ?_) | refine tc_block ?_ | refine tc_skip ?_
        | refine tc_ret ?_ | refine tc_exit ?_ | refine at_seq_ret ?_ | refine at_seq_exit ?_ | refine at_block_normal ?_ | refine at_block_ret ?_ | refine at_block_exit_self ?_ | refine at_block_exit_ne ?_ | refine at_loop_ret ?_ | refine at_loop_exit ?_
        | refine tl_guard_yes ?_ | refine tl_guard_no ?_ | refine tl_guard_yes' ?_ | refine tl_guard_no' ?_ | refine tl_guard_undef ?_ | refine tl_guard_split (fun _ => ?_) (fun _ => ?_)
      · exact ret_tmp (hG := exsub) (hk := ⟨rfl, rfl⟩)
      · exact at_loopK (i + 1) hlt2 (by omega) ⟨next_nat (by omega), trivial⟩ (by repeat (first | exact trivial | refine ⟨rfl, ?_⟩)) (List.Sublist.refl _)
    · have hb2 : icmp .lss (i : Int) (r.length : Int) = false := by rw [lss_nat]; simpa using hlt2
      repeat' first
        | refine tc_seq ?_ | refine tc_region ?_ | refine at_seq_normal ?_ | refine tl_nil ?_ | refine tl_cons ?_ | refine tl_cons_none ?_ | refine op_move ?_ | refine op_assign ?_ | refine op_load ?_ | refine op_load_agg ?_
        | refine op_indexC ?_ | refine op_indexAddr1 ?_ | refine op_indexAddr ?_ | refine op_icmp ?_ | refine op_iarith ?_ | refine op_bcmp ?_ | refine op_unop_not ?_ | refine op_len_slice ?_ | refine op_pick_true ?_ | refine op_pick_false ?_
        | refine op_pick_true' ?_ | refine op_pick_false' ?_ | refine op_build ?_ | refine op_extract ?_ | (refine op_alloc ?_; intro _) | (refine op_buildSlice ?_; intro _) | refine op_store0 ?_ | refine op_store1 ?_ | refine op_store2 ?_ | refine op_store3 ?_
        | refine op_store4 ?_ | refine op_store5 ?_ | refine op_storeK rfl ?_ | refine op_loadK rfl ?_ | refine op_load_aggK rfl ?_ | refine tc_cond_t ?_ | refine tc_cond_f ?_ | refine tc_cond (fun _ => ?_) (fun _ => ?_) | refine tc_block ?_ | refine tc_skip ?_
        | refine tc_ret ?_ | refine tc_exit ?_ | refine at_seq_ret ?_ | refine at_seq_exit ?_ | refine at_block_normal ?_ | refine at_block_ret ?_ | refine at_block_exit_self ?_ | refine at_block_exit_ne ?_ | refine at_loop_ret ?_ | refine at_loop_exit ?_
        | refine tl_guard_yes ?_ | refine tl_guard_no ?_ | refine tl_guard_yes' ?_ | refine tl_guard_no' ?_ | refine tl_guard_undef ?_ | refine tl_guard_split (fun _ => ?_) (fun _ => ?_)
      exact at_loopK (j + 1) hlt (by omega) ⟨next_nat (by omega), trivial⟩ (by repeat (first | exact trivial | refine ⟨rfl, ?_⟩)) (List.Sublist.refl _)
  have hb : icmp .lss (j : Int) (c.length : Int) = false := by rw [lss_nat]; simpa using hlt
  repeat' first
    | (refine op_call ((gFlats l s _ c _ hs (hv.mono ins) hc).mono ?_); rintro _ _ ⟨ex1, a1, b1, a2, b2, rfl, rfl, hF1, hI1⟩)
    | (refine op_call ((setLines5 l s _ c _ h1 hs (hv.mono ins) hc).mono ?_); rintro _ _ (⟨hfr, a3, b3, a4, b4, rfl, ⟨ex2, rfl⟩, hF2, hI2⟩ | ⟨hfr, rfl, ex2, rfl⟩) <;> rw [hfr])
    | (refine op_call ((setLines3 1 2 _ [[[4607182418800017408, 4611686018427387904]]] _ (Int.le_refl 1) (by decide) (s3_two mem2 mem1 mem0) (few_one _ _)).mono ?_); rintro _ _ (⟨hfq, a5, b5, a6, b6, rfl, ⟨ex3, rfl⟩, -, -⟩ | ⟨hfq, -, -⟩); rotate_left; exact absurd hfq (by decide))
    | (refine op_call ((sameGeom 5 l _ _ a3 b3 a4 b4 a1 b1 a2 b2 _ (hF2.mono ins) (hF1.mono ins) (hI2.mono ins) (hI1.mono ins) (by omega) (by omega)).mono ?_); rintro _ _ ⟨rfl, ex4, rfl⟩)
    | (first | refine tc_seq ?_ | refine tc_region ?_ | refine at_seq_normal ?_ | refine tl_nil ?_ | refine tl_cons ?_ | refine tl_cons_none ?_ | refine op_move ?_ | refine op_assign ?_ | refine op_load ?_ | refine op_load_agg ?_ | refine op_indexC ?_ | refine op_indexAddr1 ?_ | refine op_indexAddr ?_ | refine op_icmp ?_ | refine op_iarith ?_ | refine op_bcmp ?_ | refine op_unop_not ?_ | refine op_len_slice ?_ | refine op_pick_true ?_ | refine op_pick_false ?_ | refine op_pick_true' ?_ | refine op_pick_false' ?_ | refine op_build ?_ | refine op_extract ?_ | (refine op_alloc ?_; intro _) | (refine op_buildSlice ?_; intro _) | refine op_store0 ?_ | refine op_store1 ?_ | refine op_store2 ?_ | refine op_store3 ?_ | refine op_store4 ?_ | refine op_store5 ?_ | refine op_storeK rfl ?_ | refine op_loadK rfl ?_ | refine op_load_aggK rfl ?_ | refine tc_cond_t ?_ | refine tc_cond_f ?_ | refine tc_cond (fun _ => ?_) (fun _ => ?_) | refine tc_block ?_ | refine tc_skip ?_ | refine tc_ret ?_ | refine tc_exit ?_ | refine at_seq_ret ?_ | refine at_seq_exit ?_ | refine at_block_normal ?_ | refine at_block_ret ?_ | refine at_block_exit_self ?_ | refine at_block_exit_ne ?_ | refine at_loop_ret ?_ | refine at_loop_exit ?_ | refine tl_guard_yes ?_ | refine tl_guard_no ?_ | refine tl_guard_yes' ?_ | refine tl_guard_no' ?_ | refine tl_guard_undef ?_ | refine tl_guard_split (fun _ => ?_) (fun _ => ?_) | fail)
    | fail
  all_goals exact ret_tmp (hG := exsub) (hk := ⟨rfl, rfl⟩)
set_option maxHeartbeats 32000000 in
theorem lawBad {H : Heap} (k l : Int) (v : Value) (c : List (List (List Nat))) (hv : S3 H v c) (hc : Few c) (p q r t : Bool) (e3 : icmp .neq k 3 = p) (e5 : icmp .neq k 5 = q) (e1 : icmp .lss l 1 = r) (e9 : icmp .gtr l 9 = t) (h : (p && q || r || t) = true) :
    Does Try.prog 4 [.int .i64 k, .int .i64 l, v] H fun w H' => w = .bool true ∧ H' = H := by
  obtain ⟨a0, cap, rfl⟩ := hv.val
  refine fn_enter 98 Try.func4 fun W => ?_
  cases p <;> cases q <;> cases r <;> cases t <;> try (exact absurd h (by decide))
  all_goals clear h
  all_goals
    repeat' first
      | (refine op_call ((zzFits5 _ c _ (hv.mono exs) hc).mono ?_); rintro _ H0 ⟨⟨bz, rfl⟩, rfl⟩)
      | (first | refine tc_seq ?_ | refine tc_region ?_ | refine at_seq_normal ?_ | refine tl_nil ?_ | refine tl_cons ?_ | refine tl_cons_none ?_ | refine op_move ?_ | refine op_assign ?_ | refine op_load ?_ | refine op_load_agg ?_ | refine op_indexC ?_ | refine op_indexAddr1 ?_ | refine op_indexAddr ?_ | refine op_icmp ?_ | refine op_iarith ?_ | refine op_bcmp ?_ | refine op_unop_not ?_ | refine op_len_slice ?_ | refine op_pick_true ?_ | refine op_pick_false ?_ | refine op_pick_true' ?_ | refine op_pick_false' ?_ | refine op_build ?_ | refine op_extract ?_ | (refine op_alloc ?_; intro _) | (refine op_buildSlice ?_; intro _) | refine op_store0 ?_ | refine op_store1 ?_ | refine op_store2 ?_ | refine op_store3 ?_ | refine op_store4 ?_ | refine op_store5 ?_ | refine op_storeK rfl ?_ | refine op_loadK rfl ?_ | refine op_load_aggK rfl ?_ | refine tc_cond_t ?_ | refine tc_cond_f ?_ | refine tc_cond (fun _ => ?_) (fun _ => ?_) | refine tc_block ?_ | refine tc_skip ?_ | refine tc_ret ?_ | refine tc_exit ?_ | refine at_seq_ret ?_ | refine at_seq_exit ?_ | refine at_block_normal ?_ | refine at_block_ret ?_ | refine at_block_exit_self ?_ | refine at_block_exit_ne ?_ | refine at_loop_ret ?_ | refine at_loop_exit ?_ | refine tl_guard_yes ?_ | refine tl_guard_no ?_ | refine tl_guard_yes' ?_ | refine tl_guard_no' ?_ | refine tl_guard_undef ?_ | refine tl_guard_split (fun _ => ?_) (fun _ => ?_) | fail)
      | fail
  all_goals exact ret_tmp (hG := exsub) (hk := ⟨rfl, rfl⟩)
theorem law {H : Heap} (k : Int) (hwk : -9223372036854775808 ≤ k ∧ k ≤ 9223372036854775807) (l : Int) (hwl : -9223372036854775808 ≤ l ∧ l ≤ 9223372036854775807) (v : Value) (c : List (List (List Nat))) (hv : S3 H v c) (hc : Few c) :
    Does Try.prog 4 [.int .i64 k, .int .i64 l, v] H fun w H' => w = .bool true ∧ H' = H := by
  by_cases h1 : 1 ≤ l
  · by_cases h9 : l ≤ 9
    · by_cases h3 : k = 3
      · subst h3; exact law3 l h1 h9 v c hv hc
      by_cases h5 : k = 5
      · subst h5; exact law5 l h1 h9 v c hv hc
      refine lawBad k l v c hv hc _ _ _ _ rfl rfl rfl rfl ?_
      simp [icmp, h3, h5]
    · refine lawBad k l v c hv hc _ _ _ _ rfl rfl rfl rfl ?_
      have : icmp .gtr l 9 = true := by simp only [icmp]; exact decide_eq_true (by omega)
      rw [this, Bool.or_true]
  · refine lawBad k l v c hv hc _ _ _ _ rfl rfl rfl rfl ?_
    have : icmp .lss l 1 = true := by simp only [icmp]; exact decide_eq_true (by omega)
    rw [this, Bool.or_true, Bool.true_or]

theorem own : ownKnob Try.prog.godebug = none := by kernel_rfl
theorem laid : laidOutB Try.prog = true := by kernel_rfl
set_option maxRecDepth 100000 in
theorem lifted (os : Os) (started : os.Started) (H : Type) (enc : TypeId × Value → H) (F : Stop.Interp) :
    ReturnsInHanded {} Try.checked os 4 .any ((Rows.OpenSpec.upto Rows.fnSetLinesSpec).pre6 enc Try.prog Try.f4 Rows.fnSetLinesUptoRow.domain false) (((Rows.OpenSpec.upto Rows.fnSetLinesSpec).at F).post enc Try.prog Try.f4 false true false false) := by
  refine returnsInHanded_of_cond (C := Try.checked) (s := Rows.OpenSpec.upto Rows.fnSetLinesSpec) (k := Rows.uptoSmall) rfl own started (by kernel_rfl) Try.func4
    (OpenSpec.witness (enc := enc) (C := Try.checked) (s := Rows.OpenSpec.upto Rows.fnSetLinesSpec) (k := Rows.uptoSmall) rfl false ⟨#[], #[.int .i64 0, .int .i64 0, .slice none 0 0], []⟩ 8 (by kernel_rfl) (by kernel_rfl) (by kernel_rfl)
      (x := ([.lit (.int .i64 0), .lit (.int .i64 0), .nil], [], [])) (by kernel_rfl) rfl (by kernel_rfl)) ?_
  intro W base args ds gs before hval0 hW hcnd hk _
  have hval : ∀ (j : Nat) t v, Try.f4.params[j]? = some t → args[j]? = some v → Value.okWide Try.prog W .any base t v := hval0
  have hW' := hW
  obtain ⟨p, q, hA0, hV, rfl, hfz, hnd⟩ := hW
  have hA : DataW.TrodAll enc Try.prog W 0 (fun _ => true) true Try.f4.params.toList args.toList ds p := hA0
  rw [Try.params4] at hA hval
  obtain ⟨v0, vs0, d0, ds0, p0, q0, hargs, rfl, rfl, h0, r0⟩ := trodAll_cons hA
  obtain ⟨v1, vs1, d1, ds1, p1, q1, rfl, rfl, rfl, h1, r1⟩ := trodAll_cons r0
  obtain ⟨v2, vs2, d2, ds2, p2, q2, rfl, rfl, rfl, h2, r2⟩ := trodAll_cons r1
  obtain ⟨rfl, rfl, rfl⟩ := trodAll_nil r2
  obtain rfl : args = #[v0, v1, v2] := by cases args; simp_all
  obtain ⟨rfl, rfl⟩ := trodVars_none hV
  have hb := of_decide_eq_true hk
  simp only [List.append_nil, List.cons_append, List.nil_append, Rows.uptoBulkAll] at hb
  obtain ⟨n0, rfl, rfl, rfl, wn0⟩ := open_int Try.underlying3 (hval 0 3 v0 rfl rfl) h0
  obtain ⟨n1, rfl, rfl, rfl, wn1⟩ := open_int Try.underlying3 (hval 1 3 v1 rfl rfl) h1
  obtain ⟨cs2, hs2, hw2⟩ := open_floatsss blk Try.underlying33 (by kernel_rfl) Try.underlying25 (by kernel_rfl) Try.underlying22 (by kernel_rfl) Try.underlying46 (hval 2 33 v2 rfl rfl) h2
  clear hA0 hval0
  refine (calls_of_does (law (H := all W) n0 (wf_i64 wn0) n1 (wf_i64 wn1) v2 cs2 hs2 (few_of (Nat.le_of_succ_le (Nat.le_trans hw2 (by omega))))) (sees_all W)).mono fun e W' ⟨v, H', he, hs, hv, hH⟩ => ?_
  subst he
  subst hv
  subst hH
  exact ⟨_, rfl, post_law laid (of_decide_eq_true (by kernel_rfl)) rfl hW' rfl rfl Try.underlying4 hs.below⟩
theorem over : Rows.fnSetLinesUptoRow.holds Try.pinned (Rows.OpenSpec.upto Rows.fnSetLinesSpec) :=
  OpenClaim.holds_of_cond 4 Try.f4 rfl rfl rfl rfl rfl rfl rfl ⟨rfl, rfl, rfl, rfl, rfl⟩ rfl rfl rfl rfl rfl (by kernel_rfl) Try.func4 (by kernel_rfl)
    (of_decide_eq_true (by kernel_rfl)) (by unfold Func.isWrapper; first | (rw [if_pos (by decide +kernel)]; kernel_rfl) | (rw [if_neg (by decide +kernel)]; exact ⟨rfl, rfl⟩))
    (fun os started H enc _ F => lifted os started H enc F)
/-- The statement, of the second form. -/
theorem proved : Rows.FnSetLinesUptoSaid := over
#print axioms proved
end Go.Proofs.Ytcajankinofomaa.fnSetLines
