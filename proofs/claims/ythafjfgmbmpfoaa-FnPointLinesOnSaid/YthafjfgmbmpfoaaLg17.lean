/-
  Readings of arguments: slices of elements of any size, with what they hold counted. No conditions.
-/
import Derived.Test.YthafjfgmbmpfoaaLg12
import Derived.Test.YthafjfgmbmpfoaaLg9
set_option linter.unusedVariables false
set_option linter.unusedSimpArgs false
namespace Go.Lg
open Go.ChangeShapes Go.WideShapes Go.RowKit Go.Deep
section rd
variable {H : Type} {enc : TypeId × Value → H} {P : Program} {W : World} {sp : Nat → Bool} {hd : Bool} {r : Reach} {b0 : Nat} {t : TypeId} {v : Value}

/-- A count of what a reading holds. -/
structure Blk (bulk : DataW H → Nat) : Prop where
  one : ∀ d, 1 ≤ bulk d
  slice : ∀ l m, (l.map bulk).sum + 1 ≤ bulk (.slice l m)
  agg : ∀ l, (l.map bulk).sum + 1 ≤ bulk (.agg l)
theorem mapM_some {α β : Type} {f : α → Option β} : ∀ {l : List α} {out : List β}, l.mapM f = some out → out.length = l.length ∧ ∀ (i : Nat) (a : α), l[i]? = some a → ∃ b, out[i]? = some b ∧ f a = some b
  | [], out, h => by simp at h; subst h; simp
  | x :: l, out, h => by
    simp only [List.mapM_cons, Option.bind_eq_bind, Option.bind_eq_some_iff, Option.pure_def, Option.some.injEq] at h
    obtain ⟨b, hb, out', ho, rfl⟩ := h
    obtain ⟨h1, h2⟩ := mapM_some ho
    refine ⟨by simp [h1], fun i a hi => ?_⟩
    cases i with
    | zero => simp at hi; subst hi; exact ⟨b, rfl, hb⟩
    | succ i => simpa using h2 i a (by simpa using hi)
theorem cells_get {a : Addr} {s : Nat} {ys : List Value} (h : W.cells? 0 a s = some ys) : ys.length = s ∧ ∀ j, j < s → ∃ y, ys[j]? = some y ∧ W.cell? (a.add j) = some y := by
  simp only [World.cells?, Nat.zero_le, if_true] at h
  obtain ⟨h1, h2⟩ := mapM_some h
  refine ⟨by simpa using h1, fun j hj => ?_⟩
  obtain ⟨y, h3, h4⟩ := h2 j j (by simp [hj])
  exact ⟨y, h3, h4⟩
theorem flatten_get {s : Nat} : ∀ {rows : List (List Value)}, (∀ q ∈ rows, q.length = s) → ∀ (i j : Nat) (row : List Value), rows[i]? = some row → j < s → rows.flatten[i * s + j]? = row[j]?
  | [], _, i, j, row, h, _ => by simp at h
  | q :: qs, hl, 0, j, row, h, hj => by
    simp at h; subst h
    have := hl q (by simp)
    rw [List.flatten_cons, Nat.zero_mul, Nat.zero_add, List.getElem?_append_left (by omega)]
  | q :: qs, hl, i + 1, j, row, h, hj => by
    have hq := hl q (by simp)
    have ih := flatten_get (rows := qs) (fun x hx => hl x (by simp [hx])) i j row (by simpa using h) hj
    rw [List.flatten_cons, List.getElem?_append_right (by rw [hq, Nat.add_mul]; omega), hq, show (i + 1) * s + j - s = i * s + j by rw [Nat.add_mul]; omega]
    exact ih
theorem flatten_len {s : Nat} : ∀ {rows : List (List Value)}, (∀ q ∈ rows, q.length = s) → rows.flatten.length = rows.length * s
  | [], _ => by simp
  | q :: qs, hl => by
    have := flatten_len (rows := qs) (fun x hx => hl x (by simp [hx]))
    have hq := hl q (by simp)
    rw [List.flatten_cons, List.length_append, this, hq, List.length_cons, Nat.add_mul]; omega
theorem trod_sliceN {bulk : DataW H → Nat} (hb : Blk bulk) {n s e c x} (hs : 0 < s) (ht : P.underlying t = some (.slice e)) (he : P.cellsOf e = s) (h : DataW.trod enc P W 0 sp hd (n + 1) t [c] = some x) :
    ∃ (rows : List (List Value)) (zs : List (DataW H)), SlN s (all W) c rows.length rows.flatten ∧ rows.length ≤ 9223372036854775807 ∧ (∀ q ∈ rows, q.length = s) ∧
      All2 (fun row z => ∃ pl, DataW.trod enc P W 0 sp hd n e row = some (z, pl)) rows zs ∧ (zs.map bulk).sum + 1 ≤ bulk x.1 := by
  simp only [DataW.trod, ht] at h
  cases c with
  | slice a len cap =>
    cases a with
    | none =>
      cases len with
      | zero =>
        cases cap with
        | zero => exact ⟨[], [], SlN.nil, by simp, by simp, trivial, by simpa using hb.one _⟩
        | succ => simp at h
      | succ => simp at h
    | some a =>
      simp only [he] at h
      split at h
      · rename_i hc
        obtain ⟨_, hlen, hcap⟩ := hc
        rw [Option.bind_eq_some_iff] at h
        obtain ⟨elems, h1, h2⟩ := h
        rw [Option.map_eq_some_iff] at h2
        obtain ⟨rest, _, rfl⟩ := h2
        obtain ⟨l1, l2⟩ := mapM_some h1
        have l1' : elems.length = len := by simpa using l1
        -- each element's cells
        have hget : ∀ i, i < len → ∃ ys z, elems[i]? = some z ∧ ys.length = s ∧ (∀ j, j < s → ∃ y, ys[j]? = some y ∧ W.cell? (a.add (i * s + j)) = some y) ∧ DataW.trod enc P W 0 sp hd n e ys = some z := by
          intro i hi
          obtain ⟨z, hz1, hz2⟩ := l2 i i (by simp [hi])
          rw [Option.bind_eq_some_iff] at hz2
          obtain ⟨ys, hy, hz⟩ := hz2
          obtain ⟨k1, k2⟩ := cells_get hy
          refine ⟨ys, z, hz1, k1, fun j hj => ?_, hz⟩
          obtain ⟨y, y1, y2⟩ := k2 j hj
          have : (a.add (i * s)).add j = a.add (i * s + j) := by
            unfold Addr.add
            by_cases h0 : i * s = 0
            · rw [if_pos h0, h0, Nat.zero_add]
            · rw [if_neg h0]
              by_cases h3 : j = 0
              · rw [if_pos h3, h3, Nat.add_zero, if_neg h0]
              · rw [if_neg h3, if_neg (by omega)]; simp [Nat.add_assoc]
          rw [this] at y2
          exact ⟨y, y1, y2⟩
        -- rows as a list
        have hrows : ∀ m, m ≤ len → ∃ rows : List (List Value), rows.length = m ∧ (∀ q ∈ rows, q.length = s) ∧ All2 (fun row z => ∃ pl, DataW.trod enc P W 0 sp hd n e row = some (z, pl)) rows ((elems.take m).map (·.1)) ∧
            ∀ i, i < m → ∀ j, j < s → ∃ y, (rows.getD i [])[j]? = some y ∧ W.cell? (a.add (i * s + j)) = some y := by
          intro m
          induction m with
          | zero => intro _; exact ⟨[], rfl, by simp, trivial, fun i hi => by omega⟩
          | succ m ih =>
            intro hm
            obtain ⟨rows, r1, r2, r3, r4⟩ := ih (by omega)
            obtain ⟨ys, z, g1, g2, g3, g4⟩ := hget m (by omega)
            refine ⟨rows ++ [ys], by simp [r1], ?_, ?_, ?_⟩
            · intro q hq
              rcases List.mem_append.1 hq with h | h
              · exact r2 q h
              · simp at h; subst h; exact g2
            · rw [List.take_add_one, g1, List.map_append]
              exact All2.snoc r3 ⟨z.2, g4⟩
            · intro i hi j hj
              by_cases hlt : i < m
              · obtain ⟨y, y1, y2⟩ := r4 i hlt j hj
                refine ⟨y, ?_, y2⟩
                rw [List.getD_eq_getElem?_getD, List.getElem?_append_left (by omega), ← List.getD_eq_getElem?_getD]; exact y1
              · obtain rfl : i = m := by omega
                obtain ⟨y, y1, y2⟩ := g3 j hj
                refine ⟨y, ?_, y2⟩
                rw [List.getD_eq_getElem?_getD, List.getElem?_append_right (by omega), r1]; simpa using y1
        obtain ⟨rows, r1, r2, r3, r4⟩ := hrows len (Nat.le_refl _)
        rw [← l1', List.take_length] at r3
        have hsum : ((elems.map (·.1)).map bulk).sum + 1 ≤ bulk (.slice (elems.map (·.1)) (rest.map (·.1))) := hb.slice _ _
        have hmax : rows.length ≤ 9223372036854775807 := by
          rw [r1]; unfold maxLen at hcap; omega
        refine ⟨rows, elems.map (·.1), ?_, hmax, r2, r3, hsum⟩
        by_cases h0 : len = 0
        · have hr0 : rows = [] := List.eq_nil_of_length_eq_zero (by omega)
          subst h0
          subst hr0
          exact ⟨by simp, some a, cap, rfl, hlen, fun hn => absurd rfl hn⟩
        · obtain ⟨y0, _, hy0⟩ := r4 0 (by omega) 0 hs
          have hspot : a.spot = none ∧ ∃ cc T fz, W.heap[a.block]? = some (.cells cc T fz) := by
            simp only [Nat.zero_mul, Nat.zero_add, Addr.add, if_true, World.cell?] at hy0
            split at hy0
            · rename_i cc T fz hh
              split at hy0
              · cases hy0
              · rename_i hs; exact ⟨by simpa using hs, cc, T, fz, hh⟩
            · cases hy0
          obtain ⟨hs', cc, T, fz, hh⟩ := hspot
          obtain ⟨k, off, spot⟩ := a
          simp only at hs' hh
          subst hs'
          obtain ⟨l⟩ := cc
          have hfl := flatten_len r2
          have hl : ∀ p, p < len * s → l[off + p]? = rows.flatten[p]? := by
            intro p hp
            have hd1 : p / s < len := Nat.div_lt_of_lt_mul (by rw [Nat.mul_comm]; exact hp)
            have hd2 : p % s < s := Nat.mod_lt _ hs
            have hdm : p / s * s + p % s = p := by rw [Nat.mul_comm]; exact Nat.div_add_mod p s
            obtain ⟨y, y1, y2⟩ := r4 (p / s) hd1 (p % s) hd2
            rw [hdm, addr_add] at y2
            simp only [World.cell?, hh] at y2
            have y3 : l[off + p]? = some y := by simpa using y2
            have hrow : rows[p / s]? = some (rows.getD (p / s) []) := by
              rw [List.getD_eq_getElem?_getD, List.getElem?_eq_getElem (by omega)]; rfl
            have := flatten_get r2 (p / s) (p % s) _ hrow hd2
            rw [hdm] at this
            rw [y3, this, y1]
          refine ⟨by rw [hfl], some ⟨k, off, none⟩, cap, by rw [r1], by omega, fun _ => ⟨k, off, l, T, fz, rfl, mem_all.2 hh, ?_⟩⟩
          have hlen2 : off + len * s ≤ l.length := by
            have hpos : 0 < len * s := Nat.mul_pos (by omega) hs
            have := hl (len * s - 1) (by omega)
            rw [List.getElem?_eq_getElem (l := rows.flatten) (by rw [hfl, r1]; omega)] at this
            have := (List.getElem?_eq_some_iff.1 this).1
            omega
          apply List.ext_getElem?
          intro p
          rw [List.getElem?_take]
          split
          · rename_i hp
            rw [List.getElem?_drop]
            exact hl p (by rw [← r1]; exact hp)
          · rename_i hp
            rw [List.getElem?_eq_none (by rw [hfl]; omega)]
      · cases h
  | _ => simp at h
theorem sum_ge {α : Type} {f : α → Nat} (hf : ∀ a, 1 ≤ f a) : ∀ l : List α, l.length ≤ (l.map f).sum
  | [] => by simp
  | a :: l => by have := sum_ge hf l; have := hf a; simp only [List.length_cons, List.map_cons, List.sum_cons]; omega
theorem trod_sl1 {bulk : DataW H → Nat} (hb : Blk bulk) {n e c x} (ht : P.underlying t = some (.slice e)) (he : P.cellsOf e = 1) (h : DataW.trod enc P W 0 sp hd n t [c] = some x) :
    ∃ (ws : List Value) (zs : List (DataW H)), Sl (all W) c ws ∧ All2 (fun y z => ∃ m pl, DataW.trod enc P W 0 sp hd m e [y] = some (z, pl)) ws zs ∧ (zs.map bulk).sum + 1 ≤ bulk x.1 := by
  cases n with
  | zero => simp [DataW.trod] at h
  | succ n =>
    obtain ⟨rows, zs, h1, h2, h3, h4, h5⟩ := trod_sliceN hb (by decide) ht he h
    have key : ∀ (rows : List (List Value)) (zs : List (DataW H)), (∀ q ∈ rows, q.length = 1) → All2 (fun row z => ∃ pl, DataW.trod enc P W 0 sp hd n e row = some (z, pl)) rows zs →
        rows.flatten.length = rows.length ∧ All2 (fun y z => ∃ m pl, DataW.trod enc P W 0 sp hd m e [y] = some (z, pl)) rows.flatten zs := by
      intro rows
      induction rows with
      | nil => intro zs _ h; cases zs with
        | nil => exact ⟨rfl, trivial⟩
        | cons => exact h.elim
      | cons q rows ih =>
        intro zs hl h
        cases zs with
        | nil => exact h.elim
        | cons z zs =>
          obtain ⟨i1, i2⟩ := ih zs (fun q hq => hl q (by simp [hq])) h.2
          match q, hl q (by simp), h.1 with
          | [y], _, ⟨pl, hy⟩ => exact ⟨by simp [i1], ⟨n, pl, hy⟩, i2⟩
    obtain ⟨k1, k2⟩ := key rows zs h3 h4
    rw [← k1] at h1
    exact ⟨rows.flatten, zs, h1.toSl.1, k2, h5⟩
theorem trod_floatsB {bulk : DataW H → Nat} (hb : Blk bulk) {n e c x} (ht : P.underlying t = some (.slice e)) (he : P.cellsOf e = 1) (hf : P.underlying e = some (.float .f64)) (h : DataW.trod enc P W 0 sp hd n t [c] = some x) :
    ∃ xs, FS (all W) c xs ∧ (∀ y ∈ xs, y < 18446744073709551616) ∧ xs.length + 1 ≤ bulk x.1 := by
  obtain ⟨ws, zs, h1, h2, h3⟩ := trod_sl1 hb ht he h
  have hlen := h2.len
  obtain ⟨xs, rfl, h4⟩ := all_floats (ws := ws) fun y hy => by
    obtain ⟨i, hi⟩ := List.mem_iff_getElem?.1 hy
    have hil : i < zs.length := by have := (List.getElem?_eq_some_iff.1 hi).1; omega
    have hz : zs[i]? = some zs[i] := List.getElem?_eq_getElem hil
    obtain ⟨y', hy', m, pl, hm⟩ := h2.get hz
    rw [hi] at hy'
    cases hy'
    obtain ⟨b, rfl, hw⟩ := trod_float hf hm
    exact ⟨b, rfl, wf_f64 hw⟩
  have := sum_ge hb.one zs
  exact ⟨xs, h1, h4, by simp at hlen; omega⟩
theorem trod_intsB {bulk : DataW H → Nat} (hb : Blk bulk) {n e c x} (ht : P.underlying t = some (.slice e)) (he : P.cellsOf e = 1) (hf : P.underlying e = some (.int .i64)) (h : DataW.trod enc P W 0 sp hd n t [c] = some x) :
    ∃ xs, IS (all W) c xs ∧ (∀ y ∈ xs, -9223372036854775808 ≤ y ∧ y ≤ 9223372036854775807) ∧ xs.length + 1 ≤ bulk x.1 := by
  obtain ⟨ws, zs, h1, h2, h3⟩ := trod_sl1 hb ht he h
  have hlen := h2.len
  obtain ⟨xs, rfl, h4⟩ := all_ints (ws := ws) fun y hy => by
    obtain ⟨i, hi⟩ := List.mem_iff_getElem?.1 hy
    have hil : i < zs.length := by have := (List.getElem?_eq_some_iff.1 hi).1; omega
    have hz : zs[i]? = some zs[i] := List.getElem?_eq_getElem hil
    obtain ⟨y', hy', m, pl, hm⟩ := h2.get hz
    rw [hi] at hy'
    cases hy'
    obtain ⟨b, rfl, hw⟩ := trod_int hf hm
    exact ⟨b, rfl, wf_i64 hw⟩
  have := sum_ge hb.one zs
  exact ⟨xs, h1, h4, by simp at hlen; omega⟩
theorem trod_intssB {bulk : DataW H → Nat} (hb : Blk bulk) {n e e2 c x} (ht : P.underlying t = some (.slice e)) (he : P.cellsOf e = 1) (ht2 : P.underlying e = some (.slice e2)) (he2 : P.cellsOf e2 = 1) (hf : P.underlying e2 = some (.int .i64)) (h : DataW.trod enc P W 0 sp hd n t [c] = some x) :
    ∃ xss, ISS (all W) c xss ∧ (∀ xs ∈ xss, ∀ y ∈ xs, -9223372036854775808 ≤ y ∧ y ≤ 9223372036854775807) ∧ (xss.map (fun l => 1 + l.length)).sum + 1 ≤ bulk x.1 := by
  obtain ⟨ws, zs, h1, h2, h3⟩ := trod_sl1 hb ht he h
  have key : ∀ (ws : List Value) (zs : List (DataW H)), All2 (fun y z => ∃ m pl, DataW.trod enc P W 0 sp hd m e [y] = some (z, pl)) ws zs →
      ∃ xss, All2 (IS (all W)) ws xss ∧ (∀ xs ∈ xss, ∀ y ∈ xs, -9223372036854775808 ≤ y ∧ y ≤ 9223372036854775807) ∧ (xss.map (fun l => 1 + l.length)).sum ≤ (zs.map bulk).sum := by
    intro ws
    induction ws with
    | nil => intro zs h; cases zs with
      | nil => exact ⟨[], trivial, by simp, by simp⟩
      | cons => exact h.elim
    | cons w ws ih =>
      intro zs h
      cases zs with
      | nil => exact h.elim
      | cons z zs =>
        obtain ⟨⟨m, pl, hm⟩, hr⟩ := h
        obtain ⟨xss, i1, i2, i3⟩ := ih zs hr
        obtain ⟨xs, k1, k2, k3⟩ := trod_intsB hb ht2 he2 hf hm
        refine ⟨xs :: xss, ⟨k1, i1⟩, ?_, ?_⟩
        · intro l hl
          rcases List.mem_cons.1 hl with rfl | hl
          · exact k2
          · exact i2 l hl
        · simp only [List.map_cons, List.sum_cons]; simp only at k3; omega
  obtain ⟨xss, i1, i2, i3⟩ := key ws zs h2
  exact ⟨xss, ⟨ws, h1, i1⟩, i2, by omega⟩
/-- The parts of a struct. -/
theorem trod_struct {n fs c x} (ht : P.underlying t = some (.struct fs)) (h : DataW.trod enc P W 0 sp hd (n + 1) t c = some x) :
    c.length = P.cellsOf t ∧ ∃ ys : List (DataW H × List MemPlace), x.1 = .agg (ys.map (·.1)) ∧ ys.length = fs.toList.length ∧
      ∀ (i : Nat) (f : Field), fs.toList[i]? = some f → ∃ y, ys[i]? = some y ∧ DataW.trod enc P W 0 sp hd n f.type ((c.drop f.offset).take (P.cellsOf f.type)) = some y := by
  simp only [DataW.trod, ht] at h
  split at h
  · rename_i hl
    rw [Option.map_eq_some_iff] at h
    obtain ⟨ys, h1, rfl⟩ := h
    obtain ⟨k1, k2⟩ := mapM_some h1
    exact ⟨hl, ys, rfl, k1, k2⟩
  · cases h
end rd
end Go.Lg
