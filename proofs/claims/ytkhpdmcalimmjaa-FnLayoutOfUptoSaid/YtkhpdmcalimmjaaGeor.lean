/-
  A geometry as an argument: what its reading says, and how much it holds. No conditions.
-/
import Derived.Test.YtkhpdmcalimmjaaRows
import Derived.Test.YtkhpdmcalimmjaaGeo
import Derived.Test.YtkhpdmcalimmjaaLg17
set_option linter.unusedVariables false
set_option linter.unusedSimpArgs false
namespace Go.Proofs.Ytkhpdmcalimmjaa.Geom
open Go.Lg
open Go.ChangeShapes Go.WideShapes Go.RowKit Go.Deep
section rd
variable {H : Type} {enc : TypeId × Value → H} {W : World} {sp : Nat → Bool} {hd : Bool} {r : Reach} {b0 : Nat} {v : Value}

theorem all_sum : ∀ (l : List (DataW H)), Rows.uptoBulkAll l = (l.map Rows.uptoBulk).sum
  | [] => by simp [Rows.uptoBulkAll]
  | d :: l => by rw [Rows.uptoBulkAll, all_sum l]; simp
theorem blk : Blk (H := H) Rows.uptoBulk where
  one d := by
    cases d with
    | lit l => cases l <;> simp [Rows.uptoBulk]
    | nil => simp [Rows.uptoBulk]
    | ptr d => simp [Rows.uptoBulk]
    | slice l m => simp [Rows.uptoBulk]
    | agg l => simp [Rows.uptoBulk]
    | iface n d => simp [Rows.uptoBulk]
    | map l => simp [Rows.uptoBulk]
    | held x => simp [Rows.uptoBulk]
  slice l m := by rw [Rows.uptoBulk, all_sum, all_sum]; omega
  agg l := by rw [Rows.uptoBulk, all_sum]; omega

theorem fieldsG : Try.prog.underlying 27 = some (.struct (Try.prog.fieldsOf 27)) := by kernel_rfl
theorem fieldsG2 : (Try.prog.fieldsOf 27).toList.map (fun f => (f.type, f.offset, Try.prog.cellsOf f.type)) = [(3, 0, 1), (3, 1, 1), (3, 2, 1), (22, 3, 1), (23, 4, 1), (24, 5, 1), (25, 6, 1)] := by kernel_rfl
theorem cellsG : Try.prog.cellsOf 27 = 7 := by kernel_rfl
theorem cells1 : Try.prog.cellsOf 120 = 1 ∧ Try.prog.cellsOf 3 = 1 ∧ Try.prog.cellsOf 23 = 1 := ⟨by kernel_rfl, by kernel_rfl, by kernel_rfl⟩

theorem map_get {α β : Type} {f : α → β} {l : List α} {m : List β} (h : l.map f = m) {i : Nat} {b : β} (hb : m[i]? = some b) : ∃ a, l[i]? = some a ∧ f a = b := by
  subst h
  rw [List.getElem?_map, Option.map_eq_some_iff] at hb
  exact hb
set_option maxRecDepth 8000 in
theorem trod_geom : ∀ (n : Nat) (c : List Value) (x : DataW H × List MemPlace), DataW.trod enc Try.prog W 0 sp hd n 27 c = some x → ∃ g, IsG (all W) g c ∧ g.wt ≤ Rows.uptoBulk x.1 := by
  intro n
  induction n using Nat.strongRecOn with
  | _ n ih =>
    intro c x h
    cases n with
    | zero => simp [DataW.trod] at h
    | succ n =>
      obtain ⟨hl, ys, hx, hyl, hy⟩ := trod_struct fieldsG h
      rw [cellsG] at hl
      have fld : ∀ (i : Nat) (t off : Nat), [(3, 0, 1), (3, 1, 1), (3, 2, 1), (22, 3, 1), (23, 4, 1), (24, 5, 1), (25, 6, 1)][i]? = some (t, off, 1) →
          ∃ y, ys[i]? = some y ∧ DataW.trod enc Try.prog W 0 sp hd n t ((c.drop off).take 1) = some y := by
        intro i t off hi
        obtain ⟨f, hf, he⟩ := map_get fieldsG2 hi
        simp only [Prod.mk.injEq] at he
        obtain ⟨y, k1, k2⟩ := hy i f hf
        rw [he.1, he.2.1] at k2
        have := he.2.2
        rw [he.1] at this
        rw [this] at k2
        exact ⟨y, k1, k2⟩
      obtain ⟨y0, z0, e0⟩ := fld 0 _ _ rfl
      obtain ⟨y1, z1, e1⟩ := fld 1 _ _ rfl
      obtain ⟨y2, z2, e2⟩ := fld 2 _ _ rfl
      obtain ⟨y3, z3, e3⟩ := fld 3 _ _ rfl
      obtain ⟨y4, z4, e4⟩ := fld 4 _ _ rfl
      obtain ⟨y5, z5, e5⟩ := fld 5 _ _ rfl
      obtain ⟨y6, z6, e6⟩ := fld 6 _ _ rfl
      match c, hl with
      | [c0, c1, c2, c3, c4, c5, c6], _ =>
      have e0' : DataW.trod enc Try.prog W 0 sp hd n 3 [c0] = some y0 := e0
      have e1' : DataW.trod enc Try.prog W 0 sp hd n 3 [c1] = some y1 := e1
      have e2' : DataW.trod enc Try.prog W 0 sp hd n 3 [c2] = some y2 := e2
      have e3' : DataW.trod enc Try.prog W 0 sp hd n 22 [c3] = some y3 := e3
      have e4' : DataW.trod enc Try.prog W 0 sp hd n 23 [c4] = some y4 := e4
      have e5' : DataW.trod enc Try.prog W 0 sp hd n 24 [c5] = some y5 := e5
      have e6' : DataW.trod enc Try.prog W 0 sp hd n 25 [c6] = some y6 := e6
      obtain ⟨k, rfl, hk⟩ := trod_int Try.underlying3 e0'
      obtain ⟨l, rfl, hll⟩ := trod_int Try.underlying3 e1'
      obtain ⟨s, rfl, hss⟩ := trod_int Try.underlying3 e2'
      obtain ⟨f, f1, f2, f3⟩ := trod_floatsB blk Try.underlying22 cells1.1 Try.underlying120 e3'
      obtain ⟨e, i1, i2, i3⟩ := trod_intsB blk Try.underlying23 cells1.2.1 Try.underlying3 e4'
      obtain ⟨ee, j1, j2, j3⟩ := trod_intssB blk Try.underlying24 cells1.2.2 Try.underlying23 cells1.2.1 Try.underlying3 e5'
      have hkids : ∃ ks rows, SlN 7 (all W) c6 ks.length rows.flatten ∧ IsGs (all W) ks rows ∧ Geo.wts ks + 1 ≤ Rows.uptoBulk y6.1 := by
        cases n with
        | zero => simp [DataW.trod] at e6'
        | succ n =>
          obtain ⟨rows, zs, r1, r2, r3, r4, r5⟩ := trod_sliceN blk (by decide) Try.underlying25 cellsG e6'
          have key : ∀ (rows : List (List Value)) (zs : List (DataW H)), All2 (fun row z => ∃ pl, DataW.trod enc Try.prog W 0 sp hd n 27 row = some (z, pl)) rows zs →
              ∃ ks, ks.length = rows.length ∧ IsGs (all W) ks rows ∧ Geo.wts ks ≤ (zs.map Rows.uptoBulk).sum := by
            intro rows
            induction rows with
            | nil => intro zs h; cases zs with
              | nil => exact ⟨[], rfl, trivial, by simp [Geo.wts]⟩
              | cons => exact h.elim
            | cons row rows ihr =>
              intro zs h
              cases zs with
              | nil => exact h.elim
              | cons z zs =>
                obtain ⟨⟨pl, hz⟩, hr⟩ := h
                obtain ⟨ks, q1, q2, q3⟩ := ihr zs hr
                obtain ⟨g, w1, w2⟩ := ih n (by omega) row (z, pl) hz
                refine ⟨g :: ks, by simp [q1], ⟨w1, q2⟩, ?_⟩
                simp only [Geo.wts, List.map_cons, List.sum_cons]; simp only at w2; omega
          obtain ⟨ks, q1, q2, q3⟩ := key rows zs r4
          exact ⟨ks, rows, by rw [q1]; exact r1, q2, by omega⟩
      obtain ⟨ks, rows, g1, g2, g3⟩ := hkids
      refine ⟨.mk k l s f e ee ks, ⟨c3, c4, c5, c6, rows, rfl, f1, i1, j1, g1, fun x hx => by have := i2 x hx; omega, fun x hx y hy => by have := j2 x hx y hy; omega, g2⟩, ?_⟩
      rw [hx]
      have hagg := (blk (H := H)).agg (ys.map (·.1))
      have hsum : ((ys.map (·.1)).map Rows.uptoBulk).sum = Rows.uptoBulk y0.1 + (Rows.uptoBulk y1.1 + (Rows.uptoBulk y2.1 + (Rows.uptoBulk y3.1 + (Rows.uptoBulk y4.1 + (Rows.uptoBulk y5.1 + Rows.uptoBulk y6.1))))) := by
        have hlen : ys.length = 7 := by
          have := congrArg List.length fieldsG2
          simp only [List.length_map] at this
          rw [hyl, this]; rfl
        match ys, hlen, z0, z1, z2, z3, z4, z5, z6 with
        | [a0, a1, a2, a3, a4, a5, a6], _, z0, z1, z2, z3, z4, z5, z6 =>
          simp at z0 z1 z2 z3 z4 z5 z6
          subst z0; subst z1; subst z2; subst z3; subst z4; subst z5; subst z6
          simp
      rw [hsum] at hagg
      rw [Geo.wt]
      omega
set_option maxRecDepth 20000 in
set_option linter.constructorNameAsVariable false in
theorem open_geom {d p} (hv : Value.okWide Try.prog W r b0 27 v) (h : DataW.Trod enc Try.prog W 0 sp hd 27 v d p) :
    ∃ g cs, v = .agg ⟨cs⟩ ∧ IsG (all W) g cs ∧ g.wt ≤ Rows.uptoBulk d := by
  obtain ⟨cs, rfl, _⟩ := okWide_struct fieldsG hv
  obtain ⟨n, hn⟩ := h
  obtain ⟨g, h1, h2⟩ := trod_geom n _ _ hn
  exact ⟨g, cs.toList, rfl, h1, h2⟩
end rd
end Go.Proofs.Ytkhpdmcalimmjaa.Geom
