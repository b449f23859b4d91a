/-
  A region in an order left open with some stores in it, each into a block that the region itself has made. No conditions.
-/
import Derived.Test.YtomhkbijijdghaaLg27
set_option linter.unusedVariables false
set_option linter.unusedSimpArgs false
namespace Go.Lg
section draw
variable {P : Program} {W : World} {n : Nat} {ds : List Deferred} {Q : Exit → Act → World → Prop} {E0 : Env} {H : Heap}

/-- One store: its place, the place of the block's make, the register of that, and what holds of the block after it. -/
structure Sto where
  s : Nat
  q : Nat
  dq : Nat
  φ : PhiD
def stQ (ss : List Sto) (q : Nat) : Option Sto := ss.find? fun t => t.q == q
def stS (ss : List Sto) (s : Nat) : Option Sto := ss.find? fun t => t.s == s
def prsOf (ss : List Sto) (i : Nat) (o : Oper) : List Nat := (preds o).filter fun j => match stQ ss j with | none => true | some t => t.s == i
def repP (ss : List Sto) : Nat → List Phi → List Phi
  | _, [] => []
  | i, p :: r => (match stQ ss i with | some t => t.φ.phi | none => p) :: repP ss (i + 1) r
theorem repP_get (ss : List Sto) : ∀ (Φs : List Phi) (i j : Nat), j < Φs.length → (repP ss i Φs)[j]? = some (match stQ ss (i + j) with | some t => t.φ.phi | none => Φs.getD j (is undef))
  | p :: r, i, 0, _ => by simp [repP]
  | p :: r, i, j + 1, h => by
    have := repP_get ss r (i + 1) j (by simpa using h)
    rw [show i + 1 + j = i + (j + 1) by omega] at this
    simpa [repP] using this
theorem repP_length (ss : List Sto) : ∀ (Φs : List Phi) (i : Nat), (repP ss i Φs).length = Φs.length
  | [], _ => rfl
  | p :: r, i => by simp [repP, repP_length ss r]
def AllSt (p : Sto → Prop) : List Sto → Prop
  | [] => True
  | t :: r => p t ∧ AllSt p r
theorem allSt {p : Sto → Prop} : ∀ {ss : List Sto}, AllSt p ss → ∀ t ∈ ss, p t
  | t :: r, h, u, hu => by
    rcases List.mem_cons.1 hu with rfl | hu
    · exact h.1
    · exact allSt h.2 u hu
/-- The stores are in order. -/
def manyOk (l : List Oper) (m : Nat) (ss : List Sto) : Bool :=
  ss.all fun t => t.q < m && t.s < m && (stQ ss t.s).isNone && (stS ss t.q).isNone && dstOf l t.q == some t.dq && (match l[t.s]? with | none => false | some o => o.guard.isNone && (preds o).contains t.q)
theorem many_get {l : List Oper} {m : Nat} {ss : List Sto} (h : manyOk l m ss = true) : ∀ t ∈ ss, t.q < m ∧ t.s < m ∧ stQ ss t.s = none ∧ stS ss t.q = none ∧ dstOf l t.q = some t.dq ∧ ∀ o, l[t.s]? = some o → o.guard = none ∧ t.q ∈ preds o := by
  intro t ht
  simp only [manyOk, List.all_eq_true, Bool.and_eq_true, decide_eq_true_eq, Option.isNone_iff_eq_none, beq_iff_eq] at h
  obtain ⟨⟨⟨⟨⟨h1, h2⟩, h3⟩, h4⟩, h5⟩, h6⟩ := h t ht
  refine ⟨h1, h2, h3, h4, h5, fun o ho => ?_⟩
  rw [ho] at h6
  simp only [Bool.and_eq_true, Option.isNone_iff_eq_none, List.contains_iff_mem] at h6
  exact h6
theorem stQ_mem {ss : List Sto} {q : Nat} {t : Sto} (h : stQ ss q = some t) : t ∈ ss ∧ t.q = q := by
  refine ⟨List.mem_of_find?_eq_some h, ?_⟩
  have := List.find?_some h
  simpa using this
theorem stS_mem {ss : List Sto} {q : Nat} {t : Sto} (h : stS ss q = some t) : t ∈ ss ∧ t.s = q := by
  refine ⟨List.mem_of_find?_eq_some h, ?_⟩
  have := List.find?_some h
  simpa using this

set_option maxHeartbeats 1600000 in
theorem tc_drawM {id : Nat} {l : List Oper} (m : Nat) (ss : List Sto) (f : Nat → Value) (ob : Obj) (Φs : List Phi) (hm : P.follows .mixedOrders = true) (hE : edgesOk l m = true) (hD : dstsOk l m n E0 = true)
    (hlen : Φs.length = m) (hml : m ≤ l.length) (hsk : ∀ i, i < m → PhiSkip (Φs.getD i (is undef)) ob) (hss : ∀ t ∈ ss, stQ ss t.q = some t ∧ stS ss t.s = some t ∧ PhiSkip t.φ.phi ob ∧ Φs[t.q]? = some (fresh f ob)) (hal : manyOk l m ss = true)
    (prem : ∀ i o, i < m → l[i]? = some o → stS ss i = none → ∀ G, (∀ e ∈ H, e ∈ G) → withPreds l (fun i => Φs.getD i (is undef)) G (prsOf ss i o) E0 fun E => StepG P W n ds l o E G fun v G' => ∃ ex, G' = ex ++ G ∧ Φs.getD i (is undef) v ex G')
    (prems : ∀ t ∈ ss, ∀ o, l[t.s]? = some o → ∀ G, (∀ e ∈ H, e ∈ G) → withPreds l (fun i => Φs.getD i (is undef)) G (prsOf ss t.s o) E0 (StoreOk P W n ds t.dq f ob t.φ.phi (Φs.getD t.s (is undef)) o G))
    (fin : Finals l (fun E G => TL P W n ds l Q (l.drop m) E G) 0 (repP ss 0 Φs) E0 H (fun _ => True)) :
    TC P W n ds (.region id l.toArray true) Q E0 H := by
  have hmg := many_get hal
  refine ⟨fun a0 w0 ho0 hs0 => ?_⟩
  refine wp_region_any hm ?_
  let Ψ : Nat → (Nat → Bool) → Phi := fun i L => match stQ ss i with | some t => if L t.s = true then t.φ.phi else Φs.getD i (is undef) | none => Φs.getD i (is undef)
  have hΨskip : ∀ i L, i < m → PhiSkip (Ψ i L) ob := by
    intro i L hi
    simp only [Ψ]
    split
    · rename_i t ht
      obtain ⟨h1, h2⟩ := stQ_mem ht
      split
      · exact (hss t h1).2.2.1
      · exact hsk i hi
    · exact hsk i hi
  have hΨ : ∀ i L v ex G G', i < m → (∀ e ∈ G, e ∈ G') → Ψ i L v ex G → Ψ i L v ex G' := fun i L v ex G G' hi hG h => (hΨskip i L hi).mono hG h
  have hΨn : ∀ i L, stQ ss i = none → Ψ i L = Φs.getD i (is undef) := fun i L h => by simp only [Ψ, h]
  have hΨ0 : ∀ i L t, stQ ss i = some t → L t.s = false → Ψ i L = Φs.getD i (is undef) := fun i L t h h' => by simp only [Ψ, h, h']; rfl
  have hΨ1 : ∀ i L t, stQ ss i = some t → L t.s = true → Ψ i L = t.φ.phi := fun i L t h h' => by simp only [Ψ, h, h']; rfl
  have hΨc : ∀ i L L', (∀ t, stQ ss i = some t → L t.s = L' t.s) → Ψ i L = Ψ i L' := by
    intro i L L' h
    simp only [Ψ]
    split
    · rename_i t ht; rw [h t ht]
    · rfl
  have complete : ∀ (fuel : Nat) (listed : Array Bool) (outs : Nat → Value × Heap) (a : Act) (w : World), listed.size = l.length → Closed l listed →
      fuel = listed.toList.countP (fun b => !b) → (∀ i, m ≤ i → i < l.length → listed[i]? = some false) → Ok n ds E0 a →
      Sees W (made outs (fun i => listed.getD i false) m H) w →
      (∀ i, i < m → listed.getD i false = true → Ψ i (fun i => listed.getD i false) (outs i).1 (outs i).2 (made outs (fun i => listed.getD i false) m H) ∧ ∀ d, dstOf l i = some d → a.tmps[d]? = some (outs i).1) →
      (∀ i, i < m → listed.getD i false = true) → wpAny P .any l.toArray Q fuel listed a w := by
    intro fuel listed outs a w hsz hcl hf h2 ho hs hinv hc
    have hget : ∀ i, i < m → listed[i]? = some true := fun i hi => by
      have hb : i < listed.size := by omega
      have := hc i hi
      rw [Array.getElem?_eq_getElem hb]
      simpa [Array.getD, hb] using this
    have hmade : made outs (fun i => listed.getD i false) m H = made outs (fun _ => true) m H := made_congr _ _ fun i hi => ⟨hc i hi, fun _ => rfl⟩
    rw [hmade] at hs
    have hlen2 : (repP ss 0 Φs).length = m := by rw [repP_length]; exact hlen
    obtain ⟨E', hK, ho'⟩ := finals_done (n := n) (ds := ds) (H := H) (outs := outs) (a := a) (repP ss 0 Φs) 0 E0 _ fin (fun j φ hj => by
        have hjm : j < m := by
          rcases Nat.lt_or_ge j m with h | h
          · exact h
          · rw [List.getElem?_eq_none (by omega)] at hj; cases hj
        have h1 := (hinv j hjm (hc j hjm)).1
        rw [hmade] at h1
        rw [repP_get ss Φs 0 j (by omega), Nat.zero_add] at hj
        have h3 : Ψ j (fun i => listed.getD i false) (outs (0 + j)).1 (outs (0 + j)).2 (made outs (fun _ => true) (0 + (repP ss 0 Φs).length) H) := by
          rw [Nat.zero_add, Nat.zero_add, hlen2]; exact h1
        have h4 := Option.some.inj hj
        cases hq : stQ ss j with
        | none =>
          rw [hΨn j (fun i => listed.getD i false) hq] at h3
          rw [← h4]; simp only [hq]; exact h3
        | some t =>
          rw [hΨ1 j (fun i => listed.getD i false) t hq (hc t.s (hmg t (stQ_mem hq).1).2.1)] at h3
          rw [← h4]; simp only [hq]; exact h3) trivial ho (fun j _ hj d hd => (hinv j (by omega) (hc j (by omega))).2 d hd)
    rw [Nat.zero_add, hlen2] at hK
    refine any_of_tail hE fuel m listed a w hsz hcl ?_ (Nat.le_refl _) hget h2 (hK.run a w ho' hs)
    rw [hf]
    have := count_split (l := listed.toList) (m := m) (by simp; omega) (fun i hi => by simpa using hget i hi) (fun i hi hi' => by simpa using h2 i hi (by simpa [hsz] using hi'))
    simpa [hsz] using this
  have head : ∀ (fuel : Nat) (listed : Array Bool) (outs : Nat → Value × Heap) (a : Act) (w : World), listed.size = l.length → Closed l listed →
      fuel = listed.toList.countP (fun b => !b) → (∀ i, m ≤ i → i < l.length → listed[i]? = some false) → Ok n ds E0 a →
      Sees W (made outs (fun i => listed.getD i false) m H) w →
      (∀ i, i < m → listed.getD i false = true → Ψ i (fun i => listed.getD i false) (outs i).1 (outs i).2 (made outs (fun i => listed.getD i false) m H) ∧ ∀ d, dstOf l i = some d → a.tmps[d]? = some (outs i).1) →
      wpAny P .any l.toArray Q fuel listed a w := by
    intro fuel
    induction fuel with
    | zero =>
      intro listed outs a w hsz hcl hf h2 ho hs hinv
      refine complete 0 listed outs a w hsz hcl hf h2 ho hs hinv fun i hi => ?_
      have := List.countP_eq_zero.1 hf.symm
      have hb : i < listed.size := by omega
      have := this listed[i] (by simp [Array.getElem_mem])
      simpa [Array.getD, hb] using this
    | succ fuel ih =>
      intro listed outs a w hsz hcl hf h2 ho hs hinv
      by_cases hc : ∀ i, i < m → listed.getD i false = true
      · exact complete _ listed outs a w hsz hcl hf h2 ho hs hinv hc
      have hex : ∃ i, i < m ∧ ¬ listed.getD i false = true := by
        apply Classical.byContradiction
        intro h
        exact hc fun i hi => Classical.byContradiction fun h' => h ⟨i, hi, h'⟩
      obtain ⟨i0, hi0, hn0, hb0⟩ := least (p := fun i => listed.getD i false = true) m hex
      have hunl : ∀ i, i < l.length → ¬ listed.getD i false = true → listed[i]? = some false := fun i hi h => by
        have hb : i < listed.size := by omega
        rw [Array.getElem?_eq_getElem hb]
        simpa [Array.getD, hb] using h
      refine ⟨fun hr => ?_, fun i hi => ?_⟩
      · have hget : l[i0]? = some l[i0] := List.getElem?_eq_getElem (by omega)
        have : i0 ∈ Region.ready .any l.toArray listed := (ready_iff hsz).2 ⟨by omega, hunl i0 (by omega) hn0, _, hget, fun j hj => hb0 j ((binds_any_mem hE hget).1 j hj)⟩
        rw [hr] at this; cases this
      · obtain ⟨hi1, hi2, o, hoi, hp⟩ := (ready_iff hsz).1 hi
        have him : i < m := by
          rcases Nat.lt_or_ge i m with h | h
          · exact h
          · exact (hn0 (reach_listed hcl 9 i i0 o hoi hp ((binds_any_mem hE hoi).2 h i0 (by omega)))).elim
        have hif : listed.getD i false = false := by rw [Array.getD_eq_getD_getElem?, hi2]; rfl
        have hdst : dstOf l i = o.dst := by simp [dstOf, hoi]
        have hgd : ∀ j, (listed.setIfInBounds i true).getD j false = (j == i || listed.getD j false) := fun j => by
          rw [Array.getD_eq_getD_getElem?, Array.getElem?_setIfInBounds, Array.getD_eq_getD_getElem?]
          by_cases e : i = j
          · subst e; simp [hsz, hi1]
          · rw [if_neg e]
            have : (j == i) = false := by simp; exact fun h => e h.symm
            simp [this]
        have hput : ∀ v j d, j < m → j ≠ i → dstOf l j = some d → a.tmps[d]? = some (outs j).1 → (a.put o.dst v).tmps[d]? = some (outs j).1 := by
          intro v j d hj e hd h4
          cases hod : o.dst with
          | none => exact h4
          | some d' =>
            have := (dsts_get hD him hoi hod).2.2 j hj e
            have hne : d' ≠ d := fun e => this (by rw [hd, e])
            simp [Act.put, hne, h4]
        have hputi : ∀ v d, dstOf l i = some d → (a.put o.dst v).tmps[d]? = some v := by
          intro v d hd
          rw [hdst] at hd
          have := dsts_get hD him hoi hd
          simp [Act.put, hd, ho.size, this.1]
        have hcnt : fuel = (listed.setIfInBounds i true).toList.countP (fun b => !b) := by
          have := count_set (l := listed.toList) (i := i) (by simpa using hi2)
          simp only [Array.toList_setIfInBounds]
          omega
        have htl : ∀ j, m ≤ j → j < l.length → (listed.setIfInBounds i true)[j]? = some false := by
          intro j hj hj'
          rw [Array.getElem?_setIfInBounds, if_neg (by omega)]; exact h2 j hj hj'
        have hcl' : Closed l (listed.setIfInBounds i true) := hcl.set (fun o' ho' j hj => by rw [hoi] at ho'; cases ho'; exact hp j hj) (by omega)
        have hoff : ∀ v, Ok n ds E0 (a.put o.dst v) := fun v => ho.put_off (fun d hd => (dsts_get hD him hoi hd).2.1) v
        rcases Option.eq_none_or_eq_some (stS ss i) with his | ⟨t, his⟩
        rotate_left
        · -- a store
          obtain ⟨htm, hts⟩ := stS_mem his
          subst hts
          obtain ⟨hqm, hsm, hsq, hqs, hdq, hpr⟩ := hmg t htm
          obtain ⟨hqt, _, hφq, hΦq'⟩ := hss t htm
          obtain ⟨hgn, hqp⟩ := hpr o hoi
          have hΦq : Φs.getD t.q (is undef) = fresh f ob := by rw [List.getD_eq_getElem?_getD, hΦq']; rfl
          have hne0 : t.q ≠ t.s := fun e => by rw [e, hsq] at hqt; cases hqt
          have hql := hp t.q hqp
          have hq1 := hinv t.q hqm hql
          have hq2 : fresh f ob (outs t.q).1 (outs t.q).2 (made outs (fun i => listed.getD i false) m H) := by
            have := hq1.1
            rw [hΨ0 t.q (fun i => listed.getD i false) t hqt hif, hΦq] at this
            exact this
          obtain ⟨k, hk1, hk2⟩ := hq2
          -- the memory without q's block
          have hperm : (made outs (fun j => listed.getD j false) m H).Perm ((k, ob) :: made outs (fun j => if j = t.q then false else listed.getD j false) m H) := by
            have := made_add (outs := outs) (f := fun j => if j = t.q then false else listed.getD j false) (outs t.q) m H hqm (by simp)
            rw [hk2] at this
            refine List.Perm.trans ?_ this
            rw [made_congr (outs' := fun j => if j = t.q then outs t.q else outs j) (f' := fun j => j == t.q || if j = t.q then false else listed.getD j false) m H]
            intro j hj
            by_cases e : j = t.q
            · rw [e]; simp [hql]
            · simp [e]
          have hpre := prems t htm o hoi _ (made_base (outs := outs) (f := fun j => listed.getD j false) m H)
          obtain ⟨E', hst, ho'⟩ := ok_of_withPreds (n := n) (ds := ds) (a := a) (outs := outs) _ _ hpre (fun j hj => by
            obtain ⟨hj, hjt⟩ := List.mem_filter.1 hj
            have hjm : j < m := Nat.lt_trans ((binds_any_mem hE hoi).1 j hj) him
            obtain ⟨h3, h4⟩ := hinv j hjm (hp j hj)
            have h5 : Φs.getD j (is undef) (outs j).1 (outs j).2 (made outs (fun i => listed.getD i false) m H) := by
              cases hqj : stQ ss j with
              | none => rw [hΨn j (fun i => listed.getD i false) hqj] at h3; exact h3
              | some t' =>
                rw [hqj] at hjt
                have : t'.s = t.s := by simpa using hjt
                rw [hΨ0 j (fun i => listed.getD i false) t' hqj (by rw [this]; exact hif)] at h3
                exact h3
            exact ⟨h5, made_sub m H hjm (hp j hj), h4⟩) ho
          have hop := hst a k _ ho' (by rw [← hk1]; exact hq1.2 t.dq hdq) hperm
          unfold wpOp
          simp only [List.getElem?_toArray, hoi]
          rw [if_pos (by simp [Region.wanted, hgn])]
          refine .inl (hop.run a w _ Q ho' (hs.perm hperm.symm) fun v G' w' hs' hφ => ?_)
          obtain ⟨ob', rfl, hφq', hφ⟩ := hφ
          let outs2 : Nat → Value × Heap := fun j => if j = t.s then (v, []) else if j = t.q then ((outs t.q).1, [(k, ob')]) else outs j
          have hbig : (made outs2 (fun j => (listed.setIfInBounds t.s true).getD j false) m H).Perm ((k, ob') :: made outs (fun j => if j = t.q then false else listed.getD j false) m H) := by
            have p1 := made_add (outs := fun j => if j = t.q then ((outs t.q).1, [(k, ob')]) else outs j) (f := fun j => listed.getD j false) (v, []) m H him hif
            have p2 := made_add (outs := outs) (f := fun j => if j = t.q then false else listed.getD j false) ((outs t.q).1, [(k, ob')]) m H hqm (by simp)
            have e1 : made outs2 (fun j => (listed.setIfInBounds t.s true).getD j false) m H = made (fun j => if j = t.s then (v, []) else (fun j => if j = t.q then ((outs t.q).1, [(k, ob')]) else outs j) j) (fun j => j == t.s || (fun j => listed.getD j false) j) m H :=
              made_congr _ _ fun j _ => ⟨hgd j, fun _ => rfl⟩
            have e2 : made (fun j => if j = t.q then ((outs t.q).1, [(k, ob')]) else outs j) (fun j => listed.getD j false) m H = made (fun j => if j = t.q then ((outs t.q).1, [(k, ob')]) else outs j) (fun j => j == t.q || if j = t.q then false else listed.getD j false) m H := by
              refine made_congr _ _ fun j _ => ⟨?_, fun _ => rfl⟩
              by_cases e : j = t.q
              · rw [e]; simp [hql]
              · simp [e]
            rw [e1]
            refine p1.trans ?_
            rw [List.nil_append, e2]
            exact p2
          have hmov : ∀ e ∈ made outs (fun j => listed.getD j false) m H, e ∈ made outs2 (fun j => (listed.setIfInBounds t.s true).getD j false) m H ∨ e = (k, ob) := fun e he => by
            rcases List.mem_cons.1 (hperm.mem_iff.1 he) with h | h
            · exact .inr h
            · exact .inl (hbig.mem_iff.2 (List.mem_cons_of_mem _ h))
          refine ih _ outs2 _ _ (by simpa using hsz) hcl' hcnt htl (hoff v) (hs'.perm hbig) ?_
          · intro j hj hl
            have hsl : (listed.setIfInBounds t.s true).getD t.s false = true := by rw [hgd]; simp
            by_cases e : j = t.s
            · subst e
              simp only [outs2, if_true]
              refine ⟨?_, fun d hd => hputi v d hd⟩
              rw [hΨn t.s (fun j => (listed.setIfInBounds t.s true).getD j false) hsq]
              exact (hsk t.s hj).mono (fun e he => hbig.mem_iff.2 he) hφ
            · have hl' : listed.getD j false = true := by rw [hgd j] at hl; simpa [e] using hl
              obtain ⟨h3, h4⟩ := hinv j hj hl'
              by_cases eq : j = t.q
              · subst eq
                simp only [outs2, if_neg e, if_true]
                refine ⟨?_, fun d hd => hput v t.q d hj e hd (h4 d hd)⟩
                rw [hΨ1 t.q (fun j => (listed.setIfInBounds t.s true).getD j false) t hqt hsl]
                have hq0 : t.φ.phi (outs t.q).1 [(k, ob')] ((k, ob') :: made outs (fun i => if i = t.q then false else listed.getD i false) m H) := by rw [hk1]; exact hφq'
                exact hφq.mono (fun e he => hbig.mem_iff.2 he) hq0
              · simp only [outs2, if_neg e, if_neg eq]
                refine ⟨?_, fun d hd => hput v j d hj e hd (h4 d hd)⟩
                rw [hΨc j (fun j => (listed.setIfInBounds t.s true).getD j false) (fun i => listed.getD i false) (fun t' ht' => by
                  have : t'.s ≠ t.s := fun h => by
                    obtain ⟨m1, m2⟩ := stQ_mem ht'
                    have h1 := (hss t' m1).2.1
                    rw [h, his] at h1
                    have := Option.some.inj h1
                    rw [← this] at m2
                    exact eq m2.symm
                  rw [hgd, beq_false_of_ne this, Bool.false_or])]
                exact hΨskip j (fun i => listed.getD i false) hj k _ _ _ _ hmov h3
        · -- any other operation
          have step : ∀ v ex w', Sees W (ex ++ made outs (fun i => listed.getD i false) m H) w' → (Φs.getD i (is undef)) v ex (ex ++ made outs (fun i => listed.getD i false) m H) →
              wpAny P .any l.toArray Q fuel (listed.setIfInBounds i true) (a.put o.dst v) w' := by
            intro v ex w' hs' hφ
            have hperm := made_add (outs := outs) (f := fun j => listed.getD j false) (v, ex) m H him hif
            have hmm : made (fun j => if j = i then (v, ex) else outs j) (fun j => (listed.setIfInBounds i true).getD j false) m H = made (fun j => if j = i then (v, ex) else outs j) (fun j => j == i || listed.getD j false) m H :=
              made_congr _ _ fun j _ => ⟨hgd j, fun _ => rfl⟩
            have hsl : ∀ t ∈ ss, (listed.setIfInBounds i true).getD t.s false = listed.getD t.s false := fun t ht => by
              have : t.s ≠ i := fun h => by
                have h1 := (hss t ht).2.1
                rw [h, his] at h1; cases h1
              rw [hgd, beq_false_of_ne this, Bool.false_or]
            refine ih _ (fun j => if j = i then (v, ex) else outs j) _ _ (by simpa using hsz) hcl' hcnt htl (hoff v) ?_ ?_
            · rw [hmm]; exact hs'.perm hperm
            · intro j hj hl
              rw [hΨc j (fun j => (listed.setIfInBounds i true).getD j false) (fun i => listed.getD i false) (fun t ht => hsl t (stQ_mem ht).1)]
              by_cases e : j = i
              · subst e
                rw [if_pos rfl]
                refine ⟨?_, fun d hd => hputi v d hd⟩
                have hX : Ψ j (fun i => listed.getD i false) = Φs.getD j (is undef) := by
                  cases hq : stQ ss j with
                  | none => exact hΨn j (fun i => listed.getD i false) hq
                  | some t =>
                    obtain ⟨m1, rfl⟩ := stQ_mem hq
                    obtain ⟨hqm, hsm, hsq, hqs, hdq, hpr⟩ := hmg t m1
                    refine hΨ0 t.q (fun i => listed.getD i false) t hq ?_
                    cases hb : listed.getD t.s false with
                    | false => rfl
                    | true =>
                      have hgs : l[t.s]? = some l[t.s] := List.getElem?_eq_getElem (by omega)
                      have := hcl t.s _ hgs hb t.q (hpr _ hgs).2
                      rw [hif] at this; cases this
                rw [hX, hmm]
                exact (hsk j hj).mono (fun e he => (hperm.mem_iff).2 he) hφ
              · rw [if_neg e]
                have hl' : listed.getD j false = true := by rw [hgd j] at hl; simpa [e] using hl
                obtain ⟨h3, h4⟩ := hinv j hj hl'
                refine ⟨?_, fun d hd => hput v j d hj e hd (h4 d hd)⟩
                rw [hmm]
                exact hΨ j (fun i => listed.getD i false) _ _ _ _ hj (fun e he => (hperm.mem_iff).2 (List.mem_append_right _ he)) h3
          have hpo := prem i o him hoi his
          obtain ⟨E', hst, ho'⟩ := ok_of_withPreds (n := n) (ds := ds) (a := a) (outs := outs) _ _ (hpo _ (made_base m H)) (fun j hj => by
              obtain ⟨hj, hjt⟩ := List.mem_filter.1 hj
              have hjm : j < m := Nat.lt_trans ((binds_any_mem hE hoi).1 j hj) him
              obtain ⟨h3, h4⟩ := hinv j hjm (hp j hj)
              rw [hΨn j (fun i => listed.getD i false) (by
                cases hqj : stQ ss j with
                | none => rfl
                | some t' =>
                  rw [hqj] at hjt
                  have h5 : t'.s = i := by simpa using hjt
                  have h6 := (hss t' (stQ_mem hqj).1).2.1
                  rw [h5, his] at h6; cases h6)] at h3
              exact ⟨h3, made_sub m H hjm (hp j hj), h4⟩) ho
          unfold wpOp
          simp only [List.getElem?_toArray, hoi]
          unfold StepG at hst
          split at hst
          · rename_i hg
            rw [if_pos (by simp [Region.wanted, hg])]
            exact .inl (hst.run a w _ Q ho' hs fun v G' w' hs' ⟨ex, hG', hφ⟩ => step v ex w' (hG' ▸ hs') (hG' ▸ hφ))
          · rename_i j want hg
            rcases hst with ⟨dj, b, hdj, hbj, hy, hno⟩ | ⟨dj, hdj, hbj, hno⟩
            · have hyl : yielded l.toArray a.tmps j = some b := by
                have h5 := ho'.get _ _ hbj
                simp only [dstOf] at hdj
                simp [yielded, hdj, h5]
              by_cases hbw : b = want
              · rw [if_pos (by simp [Region.wanted, hg, hyl, hbw])]
                exact .inl ((hy hbw).run a w _ Q ho' hs fun v G' w' hs' ⟨ex, hG', hφ⟩ => step v ex w' (hG' ▸ hs') (hG' ▸ hφ))
              · rw [if_neg (by simp [Region.wanted, hg, hyl, hbw])]
                obtain ⟨ex, hG', hφ⟩ := hno (by cases b <;> cases want <;> simp_all)
                exact step undef ex w (hG' ▸ hs) (hG' ▸ hφ)
            · have hyl : yielded l.toArray a.tmps j = none := by
                have h5 := ho'.get _ _ hbj
                simp only [dstOf] at hdj
                simp [yielded, hdj, h5, undef]
              rw [if_neg (by simp [Region.wanted, hg, hyl])]
              obtain ⟨ex, hG', hφ⟩ := hno
              exact step undef ex w (hG' ▸ hs) (hG' ▸ hφ)
  refine head l.length (Array.replicate l.length false) (fun _ => (undef, [])) a0 _ (by simp) (fun i o _ h => by rw [Array.getD_eq_getD_getElem?, Array.getElem?_replicate] at h; split at h <;> cases h) (by simp [List.countP_replicate]) (fun i _ hi => by simp [hi]) ho0 ?_ ?_
  · rw [made_none]; exact hs0.drew _
  · intro i hi hl
    simp only [Array.getD_eq_getD_getElem?, Array.getElem?_replicate] at hl
    split at hl <;> cases hl
/-! The same in a form that is easy to read at a region written out. -/
def PremsM (P : Program) (W : World) (n : Nat) (ds : List Deferred) (dl : List (Option Tmp)) (Φs : List PhiD) (E0 : Env) (H : Heap) (ss : List Sto) (f : Nat → Value) (ob : Obj) : Nat → List Oper → List (List Nat) → Prop
  | i, o :: os, js :: jss => (∀ G, Sub H G → withD dl Φs G js E0 (match stS ss i with | some t => StoreOk P W n ds t.dq f ob t.φ.phi (nthD Φs i).phi o G | none => fun E => Step2 P W n ds dl o E G fun v G' => ∃ ex, G' = ex ++ G ∧ postD (nthD Φs i) v ex G')) ∧ PremsM P W n ds dl Φs E0 H ss f ob (i + 1) os jss
  | _, _, _ => True
def prsAll (ss : List Sto) : Nat → List Oper → List (List Nat)
  | _, [] => []
  | i, o :: os => prsOf ss i o :: prsAll ss (i + 1) os
theorem premsM_get {l : List Oper} {Φs : List PhiD} {ss : List Sto} {f : Nat → Value} {ob : Obj} : ∀ (os : List Oper) (k : Nat), PremsM P W n ds (l.map (·.dst)) Φs E0 H ss f ob k os (prsAll ss k os) → ∀ i o, os[i]? = some o →
    ∀ G, Sub H G → with2 (l.map (·.dst)) (Φs.map PhiD.phi) G (prsOf ss (k + i) o) E0 (match stS ss (k + i) with | some t => StoreOk P W n ds t.dq f ob t.φ.phi (nthPhi (Φs.map PhiD.phi) (k + i)) o G | none => fun E => Step2 P W n ds (l.map (·.dst)) o E G fun v G' => ∃ ex, G' = ex ++ G ∧ nthPhi (Φs.map PhiD.phi) (k + i) v ex G') := by
  intro os
  induction os with
  | nil => intro k _ i o h; simp at h
  | cons x xs ih =>
    intro k h i o ho G hG
    cases i with
    | zero =>
      simp at ho
      subst ho
      have := withD_with2 _ E0 (h.1 G hG)
      rw [Nat.add_zero]
      simp only [postD_eq, ← nthD_phi] at this
      exact this
    | succ i =>
      have := ih (k + 1) h.2 i o (by simpa using ho) G hG
      rwa [show k + 1 + i = k + (i + 1) by omega] at this
def repD (ss : List Sto) : Nat → List PhiD → List PhiD
  | _, [] => []
  | i, p :: r => (match stQ ss i with | some t => t.φ | none => p) :: repD ss (i + 1) r
theorem repD_map (ss : List Sto) : ∀ (Φs : List PhiD) (i : Nat), (repD ss i Φs).map PhiD.phi = repP ss i (Φs.map PhiD.phi)
  | [], _ => rfl
  | p :: r, i => by
    simp only [repD, repP, List.map_cons, repD_map ss r]
    congr 1
    split <;> rfl
theorem tc_drawnM {id : Nat} {l : List Oper} (m : Nat) (ss : List Sto) (f : Nat → Value) (ob : Obj) (Φs Φs' : List PhiD) (dl : List (Option Tmp)) (prs : List (List Nat)) (hm : P.follows .mixedOrders = true) (hsk : SkipsD ob Φs)
    (hss : AllSt (fun t => stQ ss t.q = some t ∧ stS ss t.s = some t ∧ PhiSkip t.φ.phi ob ∧ Φs[t.q]? = some (.fresh f ob)) ss)
    (prem : PremsM P W n ds dl Φs E0 H ss f ob 0 (l.take m) prs)
    (fin : FinalsD dl (fun E G => TL P W n ds l Q (l.drop m) E G) 0 Φs' E0 H (fun _ => True))
    (hq' : repD ss 0 Φs = Φs' := by exact rfl)
    (hE : edgesOk l m = true := by exact rfl) (hD : dstsOk l m n E0 = true := by exact rfl) (hal : manyOk l m ss = true := by exact rfl)
    (hlen : Φs.length = m := by exact rfl) (hml : m ≤ l.length := by exact Nat.le_of_ble_eq_true rfl) (hdl : l.map (·.dst) = dl := by exact rfl) (hpr : prsAll ss 0 (l.take m) = prs := by exact rfl) :
    TC P W n ds (.region id l.toArray true) Q E0 H := by
  subst hdl
  subst hpr
  subst hq'
  have hget : ∀ i o, i < m → l[i]? = some o → (l.take m)[i]? = some o := fun i o hi ho => by rw [List.getElem?_take, if_pos hi]; exact ho
  refine tc_drawM m ss f ob (Φs.map PhiD.phi) hm hE hD (by rw [List.length_map]; exact hlen) hml (fun i hi => by rw [List.getD_eq_getElem?_getD, List.getElem?_eq_getElem (by rw [List.length_map]; omega)]; exact skipsD hsk _ (List.getElem_mem _)) (fun t ht => by
    obtain ⟨h1, h2, h3, h4⟩ := allSt hss t ht
    exact ⟨h1, h2, h3, by rw [List.getElem?_map, h4]; rfl⟩) hal ?_ ?_ ?_
  · intro i o hi ho his G hG
    have := premsM_get _ 0 prem i o (hget i o hi ho) G hG
    rw [Nat.zero_add, his, with2_eq] at this
    simp only [step2_eq, nthPhi_eq] at this ⊢
    exact this
  · intro t ht o ho G hG
    have := premsM_get _ 0 prem t.s o (hget t.s o (many_get hal t ht).2.1 ho) G hG
    rw [Nat.zero_add, (allSt hss t ht).2.1, with2_eq] at this
    simp only [nthPhi_eq] at this ⊢
    exact this
  · have := finalsD_finals2 _ _ _ _ _ fin
    rw [finals2_eq, repD_map] at this
    exact this
end draw
end Go.Lg
