/-
  A region in an order left open with one store in it, into a block that the region itself has made. No conditions.
-/
import Derived.Test.YtomhkbijijdghaaLg24
import Derived.Test.YtomhkbijijdghaaLg21
set_option linter.unusedVariables false
set_option linter.unusedSimpArgs false
namespace Go.Lg
section draw
variable {P : Program} {W : World} {n : Nat} {ds : List Deferred} {Q : Exit → Act → World → Prop} {E0 : Env} {H : Heap}

/-- Nobody but the operation s waits for the operation q. -/
def aloneOk (l : List Oper) (m s q : Nat) : Bool :=
  q < m && s < m && q != s && (List.range m).all fun i => match l[i]? with
    | none => false
    | some o => if i == s then o.guard.isNone && (preds o).contains q else !(preds o).contains q
theorem alone_get {l : List Oper} {m s q : Nat} (h : aloneOk l m s q = true) : q < m ∧ s < m ∧ q ≠ s ∧ ∀ i o, i < m → l[i]? = some o → (i = s → o.guard = none ∧ q ∈ preds o) ∧ (i ≠ s → q ∉ preds o) := by
  simp only [aloneOk, Bool.and_eq_true, decide_eq_true_eq, bne_iff_ne, ne_eq, List.all_eq_true, List.mem_range] at h
  obtain ⟨⟨⟨h1, h2⟩, h3⟩, h4⟩ := h
  refine ⟨h1, h2, h3, fun i o hi ho => ?_⟩
  have := h4 i hi
  rw [ho] at this
  simp only [beq_iff_eq] at this
  by_cases e : i = s
  · rw [if_pos e] at this
    simp only [Bool.and_eq_true, Option.isNone_iff_eq_none, List.contains_iff_mem] at this
    exact ⟨fun _ => this, fun h => absurd e h⟩
  · rw [if_neg e] at this
    simp only [Bool.not_eq_true', List.contains_eq_mem, decide_eq_false_iff_not] at this
    exact ⟨fun h => absurd h e, fun _ => this⟩

/-- A fact that stays when memory grows, and when the block of this make is taken away. -/
def PhiSkip (φ : Phi) (ob : Obj) : Prop := ∀ (k : Nat) v ex G G', (∀ e ∈ G, e ∈ G' ∨ e = (k, ob)) → φ v ex G → φ v ex G'
theorem PhiSkip.mono {φ : Phi} {ob : Obj} (h : PhiSkip φ ob) {v ex} {G G' : Heap} (hG : ∀ e ∈ G, e ∈ G') (hp : φ v ex G) : φ v ex G' := h 0 v ex G G' (fun e he => .inl (hG e he)) hp
theorem const_skip {φ : Phi} (ob : Obj) (h : Phi.Const φ) : PhiSkip φ ob := fun _ v ex G G' _ hp => h v ex G G' hp
/-- What the store is to do. -/
def StoreOk (P : Program) (W : World) (n : Nat) (ds : List Deferred) (dq : Nat) (f : Nat → Value) (ob : Obj) (φq φ : Phi) (o : Oper) (G : Heap) (E : Env) : Prop :=
  ∀ a k R, Ok n ds E a → a.tmps[dq]? = some (f k) → G.Perm ((k, ob) :: R) → OpT P W n ds o E ((k, ob) :: R) fun v G' => ∃ ob', G' = (k, ob') :: R ∧ φq (f k) [(k, ob')] G' ∧ φ v [] G'

theorem tc_drawT {id : Nat} {l : List Oper} (m s q dq : Nat) (f : Nat → Value) (ob : Obj) (φq : Phi) (hφq : Phi.Mono φq) (Φs : List Phi) (hm : P.follows .mixedOrders = true) (hE : edgesOk l m = true) (hD : dstsOk l m n E0 = true)
    (hlen : Φs.length = m) (hml : m ≤ l.length) (hsk : ∀ i, i < m → PhiSkip (Φs.getD i (is undef)) ob) (hal : aloneOk l m s q = true) (hq : Φs[q]? = some (fresh f ob)) (hdq : dstOf l q = some dq)
    (prem : ∀ i o, i < m → l[i]? = some o → i ≠ s → PremOne P W n ds l (fun i => Φs.getD i (is undef)) E0 H i o)
    (prems : ∀ o, l[s]? = some o → ∀ G, (∀ e ∈ H, e ∈ G) → withPreds l (fun i => Φs.getD i (is undef)) G (preds o) E0 (StoreOk P W n ds dq f ob φq (Φs.getD s (is undef)) o G))
    (fin : Finals l (fun E G => TL P W n ds l Q (l.drop m) E G) 0 (Φs.set q φq) E0 H (fun _ => True)) :
    TC P W n ds (.region id l.toArray true) Q E0 H := by
  obtain ⟨hqm, hsm, hqs, hpr⟩ := alone_get hal
  refine ⟨fun a0 w0 ho0 hs0 => ?_⟩
  refine wp_region_any hm ?_
  have hΦq : Φs.getD q (is undef) = fresh f ob := by rw [List.getD_eq_getElem?_getD, hq]; rfl
  -- the fact of an operation, told by whether the store is done
  let Ψ : Nat → Bool → Phi := fun i b => if i = q ∧ b = true then φq else Φs.getD i (is undef)
  have hΨ : ∀ i b v ex G G', i < m → (∀ e ∈ G, e ∈ G') → Ψ i b v ex G → Ψ i b v ex G' := by
    intro i b v ex G G' hi hG h
    by_cases e : i = q ∧ b = true
    · simp only [Ψ, if_pos e] at h ⊢; exact hφq _ _ _ _ h hG
    · simp only [Ψ, if_neg e] at h ⊢; exact (hsk i hi).mono hG h
  have hΨn : ∀ i b, i ≠ q → Ψ i b = Φs.getD i (is undef) := fun i b h => by simp only [Ψ]; rw [if_neg (fun e => h e.1)]
  have complete : ∀ (fuel : Nat) (listed : Array Bool) (outs : Nat → Value × Heap) (a : Act) (w : World), listed.size = l.length → Closed l listed →
      fuel = listed.toList.countP (fun b => !b) → (∀ i, m ≤ i → i < l.length → listed[i]? = some false) → Ok n ds E0 a →
      Sees W (made outs (fun i => listed.getD i false) m H) w →
      (∀ i, i < m → listed.getD i false = true → Ψ i (listed.getD s false) (outs i).1 (outs i).2 (made outs (fun i => listed.getD i false) m H) ∧ ∀ d, dstOf l i = some d → a.tmps[d]? = some (outs i).1) →
      (∀ i, i < m → listed.getD i false = true) → wpAny P .any l.toArray Q fuel listed a w := by
    intro fuel listed outs a w hsz hcl hf h2 ho hs hinv hc
    have hget : ∀ i, i < m → listed[i]? = some true := fun i hi => by
      have hb : i < listed.size := by omega
      have := hc i hi
      rw [Array.getElem?_eq_getElem hb]
      simpa [Array.getD, hb] using this
    have hmade : made outs (fun i => listed.getD i false) m H = made outs (fun _ => true) m H := made_congr _ _ fun i hi => ⟨hc i hi, fun _ => rfl⟩
    rw [hmade] at hs
    have hlen2 : (Φs.set q φq).length = m := by rw [List.length_set]; exact hlen
    obtain ⟨E', hK, ho'⟩ := finals_done (n := n) (ds := ds) (H := H) (outs := outs) (a := a) (Φs.set q φq) 0 E0 _ fin (fun j φ hj => by
        have hjm : j < m := by
          rcases Nat.lt_or_ge j m with h | h
          · exact h
          · rw [List.getElem?_eq_none (by omega)] at hj; cases hj
        have h1 := (hinv j hjm (hc j hjm)).1
        rw [hc s hsm, hmade] at h1
        have h3 : Ψ j true (outs (0 + j)).1 (outs (0 + j)).2 (made outs (fun _ => true) (0 + (Φs.set q φq).length) H) := by
          rw [Nat.zero_add, Nat.zero_add, hlen2]; exact h1
        rw [List.getElem?_set] at hj
        by_cases e : j = q
        · subst e
          rw [if_pos rfl, if_pos (by omega)] at hj
          cases hj
          simpa [Ψ] using h3
        · rw [if_neg (fun h => e h.symm)] at hj
          rw [hΨn j true e, List.getD_eq_getElem?_getD, hj] at h3
          simpa using h3) trivial ho (fun j _ hj d hd => (hinv j (by omega) (hc j (by omega))).2 d hd)
    rw [Nat.zero_add, hlen2] at hK
    refine any_of_tail hE fuel m listed a w hsz hcl ?_ (Nat.le_refl _) hget h2 (hK.run a w ho' hs)
    rw [hf]
    have := count_split (l := listed.toList) (m := m) (by simp; omega) (fun i hi => by simpa using hget i hi) (fun i hi hi' => by simpa using h2 i hi (by simpa [hsz] using hi'))
    simpa [hsz] using this
  have head : ∀ (fuel : Nat) (listed : Array Bool) (outs : Nat → Value × Heap) (a : Act) (w : World), listed.size = l.length → Closed l listed →
      fuel = listed.toList.countP (fun b => !b) → (∀ i, m ≤ i → i < l.length → listed[i]? = some false) → Ok n ds E0 a →
      Sees W (made outs (fun i => listed.getD i false) m H) w →
      (∀ i, i < m → listed.getD i false = true → Ψ i (listed.getD s false) (outs i).1 (outs i).2 (made outs (fun i => listed.getD i false) m H) ∧ ∀ d, dstOf l i = some d → a.tmps[d]? = some (outs i).1) →
      wpAny P .any l.toArray Q fuel listed a w := by
    intro fuel
    induction fuel with
    | zero =>
      intro listed outs a w hsz hcl hf h2 ho hs hinv
      refine complete 0 listed outs a w hsz hcl hf h2 ho hs hinv fun i hi => ?_
      have := List.countP_eq_zero.1 hf.symm
      have hb : i < listed.size := by omega
      have := this listed[i] (by simp [Array.getElem_mem])
      simpa [Array.getD, hb] using this
    | succ fuel ih =>
      intro listed outs a w hsz hcl hf h2 ho hs hinv
      by_cases hc : ∀ i, i < m → listed.getD i false = true
      · exact complete _ listed outs a w hsz hcl hf h2 ho hs hinv hc
      have hex : ∃ i, i < m ∧ ¬ listed.getD i false = true := by
        apply Classical.byContradiction
        intro h
        exact hc fun i hi => Classical.byContradiction fun h' => h ⟨i, hi, h'⟩
      obtain ⟨i0, hi0, hn0, hb0⟩ := least (p := fun i => listed.getD i false = true) m hex
      have hunl : ∀ i, i < l.length → ¬ listed.getD i false = true → listed[i]? = some false := fun i hi h => by
        have hb : i < listed.size := by omega
        rw [Array.getElem?_eq_getElem hb]
        simpa [Array.getD, hb] using h
      refine ⟨fun hr => ?_, fun i hi => ?_⟩
      · have hget : l[i0]? = some l[i0] := List.getElem?_eq_getElem (by omega)
        have : i0 ∈ Region.ready .any l.toArray listed := (ready_iff hsz).2 ⟨by omega, hunl i0 (by omega) hn0, _, hget, fun j hj => hb0 j ((binds_any_mem hE hget).1 j hj)⟩
        rw [hr] at this; cases this
      · obtain ⟨hi1, hi2, o, hoi, hp⟩ := (ready_iff hsz).1 hi
        have him : i < m := by
          rcases Nat.lt_or_ge i m with h | h
          · exact h
          · exact (hn0 (reach_listed hcl 9 i i0 o hoi hp ((binds_any_mem hE hoi).2 h i0 (by omega)))).elim
        have hif : listed.getD i false = false := by rw [Array.getD_eq_getD_getElem?, hi2]; rfl
        have hdst : dstOf l i = o.dst := by simp [dstOf, hoi]
        have hgd : ∀ j, (listed.setIfInBounds i true).getD j false = (j == i || listed.getD j false) := fun j => by
          rw [Array.getD_eq_getD_getElem?, Array.getElem?_setIfInBounds, Array.getD_eq_getD_getElem?]
          by_cases e : i = j
          · subst e; simp [hsz, hi1]
          · rw [if_neg e]
            have : (j == i) = false := by simp; exact fun h => e h.symm
            simp [this]
        have hput : ∀ v j d, j < m → j ≠ i → dstOf l j = some d → a.tmps[d]? = some (outs j).1 → (a.put o.dst v).tmps[d]? = some (outs j).1 := by
          intro v j d hj e hd h4
          cases hod : o.dst with
          | none => exact h4
          | some d' =>
            have := (dsts_get hD him hoi hod).2.2 j hj e
            have hne : d' ≠ d := fun e => this (by rw [hd, e])
            simp [Act.put, hne, h4]
        have hputi : ∀ v d, dstOf l i = some d → (a.put o.dst v).tmps[d]? = some v := by
          intro v d hd
          rw [hdst] at hd
          have := dsts_get hD him hoi hd
          simp [Act.put, hd, ho.size, this.1]
        have hcnt : fuel = (listed.setIfInBounds i true).toList.countP (fun b => !b) := by
          have := count_set (l := listed.toList) (i := i) (by simpa using hi2)
          simp only [Array.toList_setIfInBounds]
          omega
        have htl : ∀ j, m ≤ j → j < l.length → (listed.setIfInBounds i true)[j]? = some false := by
          intro j hj hj'
          rw [Array.getElem?_setIfInBounds, if_neg (by omega)]; exact h2 j hj hj'
        have hcl' : Closed l (listed.setIfInBounds i true) := hcl.set (fun o' ho' j hj => by rw [hoi] at ho'; cases ho'; exact hp j hj) (by omega)
        have hoff : ∀ v, Ok n ds E0 (a.put o.dst v) := fun v => ho.put_off (fun d hd => (dsts_get hD him hoi hd).2.1) v
        by_cases his : i = s
        · -- the store
          subst his
          obtain ⟨hgn, hqp⟩ := (hpr i o him hoi).1 rfl
          have hql := hp q hqp
          have hq1 := hinv q hqm hql
          rw [hif] at hq1
          have hq2 : fresh f ob (outs q).1 (outs q).2 (made outs (fun i => listed.getD i false) m H) := by
            have := hq1.1
            simp only [Ψ] at this
            rw [if_neg (fun e => by cases e.2), hΦq] at this
            exact this
          obtain ⟨k, hk1, hk2⟩ := hq2
          -- the memory without q's block
          have hperm : (made outs (fun j => listed.getD j false) m H).Perm ((k, ob) :: made outs (fun j => if j = q then false else listed.getD j false) m H) := by
            have := made_add (outs := outs) (f := fun j => if j = q then false else listed.getD j false) (outs q) m H hqm (by simp)
            rw [hk2] at this
            refine List.Perm.trans ?_ this
            rw [made_congr (outs' := fun j => if j = q then outs q else outs j) (f' := fun j => j == q || if j = q then false else listed.getD j false) m H]
            intro j hj
            by_cases e : j = q
            · subst e; simp [hql]
            · simp [e]
          have hpre := prems o hoi _ (made_base (outs := outs) (f := fun j => listed.getD j false) m H)
          obtain ⟨E', hst, ho'⟩ := ok_of_withPreds (n := n) (ds := ds) (a := a) (outs := outs) _ _ hpre (fun j hj => by
            have hjm : j < m := Nat.lt_trans ((binds_any_mem hE hoi).1 j hj) him
            obtain ⟨h3, h4⟩ := hinv j hjm (hp j hj)
            rw [hif] at h3
            have h5 : Φs.getD j (is undef) (outs j).1 (outs j).2 (made outs (fun i => listed.getD i false) m H) := by
              simp only [Ψ] at h3
              rw [if_neg (fun e => by cases e.2)] at h3
              exact h3
            exact ⟨h5, made_sub m H hjm (hp j hj), h4⟩) ho
          have hop := hst a k _ ho' (by rw [← hk1]; exact hq1.2 dq hdq) hperm
          unfold wpOp
          simp only [List.getElem?_toArray, hoi]
          rw [if_pos (by simp [Region.wanted, hgn])]
          refine .inl (hop.run a w _ Q ho' (hs.perm hperm.symm) fun v G' w' hs' hφ => ?_)
          obtain ⟨ob', rfl, hφq', hφ⟩ := hφ
          let outs2 : Nat → Value × Heap := fun j => if j = i then (v, []) else if j = q then ((outs q).1, [(k, ob')]) else outs j
          have hbig : (made outs2 (fun j => (listed.setIfInBounds i true).getD j false) m H).Perm ((k, ob') :: made outs (fun j => if j = q then false else listed.getD j false) m H) := by
            have p1 := made_add (outs := fun j => if j = q then ((outs q).1, [(k, ob')]) else outs j) (f := fun j => listed.getD j false) (v, []) m H him hif
            have p2 := made_add (outs := outs) (f := fun j => if j = q then false else listed.getD j false) ((outs q).1, [(k, ob')]) m H hqm (by simp)
            have e1 : made outs2 (fun j => (listed.setIfInBounds i true).getD j false) m H = made (fun j => if j = i then (v, []) else (fun j => if j = q then ((outs q).1, [(k, ob')]) else outs j) j) (fun j => j == i || (fun j => listed.getD j false) j) m H :=
              made_congr _ _ fun j _ => ⟨hgd j, fun _ => rfl⟩
            have e2 : made (fun j => if j = q then ((outs q).1, [(k, ob')]) else outs j) (fun j => listed.getD j false) m H = made (fun j => if j = q then ((outs q).1, [(k, ob')]) else outs j) (fun j => j == q || if j = q then false else listed.getD j false) m H := by
              refine made_congr _ _ fun j _ => ⟨?_, fun _ => rfl⟩
              by_cases e : j = q
              · subst e; simp [hql]
              · simp [e]
            rw [e1]
            refine p1.trans ?_
            rw [List.nil_append, e2]
            exact p2
          have hmov : ∀ e ∈ made outs (fun j => listed.getD j false) m H, e ∈ made outs2 (fun j => (listed.setIfInBounds i true).getD j false) m H ∨ e = (k, ob) := fun e he => by
            rcases List.mem_cons.1 (hperm.mem_iff.1 he) with h | h
            · exact .inr h
            · exact .inl (hbig.mem_iff.2 (List.mem_cons_of_mem _ h))
          refine ih _ outs2 _ _ (by simpa using hsz) hcl' hcnt htl (hoff v) (hs'.perm hbig) ?_
          · intro j hj hl
            have hsl : (listed.setIfInBounds i true).getD i false = true := by rw [hgd]; simp
            rw [hsl]
            by_cases e : j = i
            · subst e
              simp only [outs2, if_true]
              refine ⟨?_, fun d hd => hputi v d hd⟩
              rw [hΨn j true (fun h => hqs h.symm)]
              exact (hsk j hj).mono (fun e he => hbig.mem_iff.2 he) hφ
            · have hl' : listed.getD j false = true := by rw [hgd j] at hl; simpa [e] using hl
              obtain ⟨h3, h4⟩ := hinv j hj hl'
              by_cases eq : j = q
              · subst eq
                simp only [outs2, if_neg e, if_true]
                refine ⟨?_, fun d hd => hput v j d hj e hd (h4 d hd)⟩
                simp only [Ψ, and_self, if_true]
                have hq0 : φq (outs j).1 [(k, ob')] ((k, ob') :: made outs (fun i => if i = j then false else listed.getD i false) m H) := by rw [hk1]; exact hφq'
                exact hφq _ _ _ _ hq0 (fun e he => hbig.mem_iff.2 he)
              · simp only [outs2, if_neg e, if_neg eq]
                refine ⟨?_, fun d hd => hput v j d hj e hd (h4 d hd)⟩
                rw [hΨn j _ eq] at h3 ⊢
                exact hsk j hj k _ _ _ _ hmov h3
        · -- any other operation
          have step : ∀ v ex w', Sees W (ex ++ made outs (fun i => listed.getD i false) m H) w' → (Φs.getD i (is undef)) v ex (ex ++ made outs (fun i => listed.getD i false) m H) →
              wpAny P .any l.toArray Q fuel (listed.setIfInBounds i true) (a.put o.dst v) w' := by
            intro v ex w' hs' hφ
            have hperm := made_add (outs := outs) (f := fun j => listed.getD j false) (v, ex) m H him hif
            have hmm : made (fun j => if j = i then (v, ex) else outs j) (fun j => (listed.setIfInBounds i true).getD j false) m H = made (fun j => if j = i then (v, ex) else outs j) (fun j => j == i || listed.getD j false) m H :=
              made_congr _ _ fun j _ => ⟨hgd j, fun _ => rfl⟩
            have hsl : (listed.setIfInBounds i true).getD s false = listed.getD s false := by rw [hgd, beq_false_of_ne (fun h : s = i => his h.symm), Bool.false_or]
            refine ih _ (fun j => if j = i then (v, ex) else outs j) _ _ (by simpa using hsz) hcl' hcnt htl (hoff v) ?_ ?_
            · rw [hmm]; exact hs'.perm hperm
            · intro j hj hl
              rw [hsl]
              by_cases e : j = i
              · subst e
                rw [if_pos rfl]
                refine ⟨?_, fun d hd => hputi v d hd⟩
                by_cases eq : j = q ∧ listed.getD s false = true
                · exfalso
                  obtain ⟨rfl, hst⟩ := eq
                  have hgs : l[s]? = some l[s] := List.getElem?_eq_getElem (by omega)
                  have := hcl s _ hgs hst j ((hpr s _ hsm hgs).1 rfl).2
                  rw [hif] at this; cases this
                · simp only [Ψ, if_neg eq]
                  rw [hmm]
                  exact (hsk j hj).mono (fun e he => (hperm.mem_iff).2 he) hφ
              · rw [if_neg e]
                have hl' : listed.getD j false = true := by rw [hgd j] at hl; simpa [e] using hl
                obtain ⟨h3, h4⟩ := hinv j hj hl'
                refine ⟨?_, fun d hd => hput v j d hj e hd (h4 d hd)⟩
                rw [hmm]
                exact hΨ j _ _ _ _ _ hj (fun e he => (hperm.mem_iff).2 (List.mem_append_right _ he)) h3
          have hpo := prem i o him hoi his
          have hnq := (hpr i o him hoi).2 his
          obtain ⟨E', hst, ho'⟩ := ok_of_withPreds (n := n) (ds := ds) (a := a) (outs := outs) _ _ (hpo _ (made_base m H)) (fun j hj => by
              have hjm : j < m := Nat.lt_trans ((binds_any_mem hE hoi).1 j hj) him
              obtain ⟨h3, h4⟩ := hinv j hjm (hp j hj)
              rw [hΨn j _ (fun e => hnq (e ▸ hj))] at h3
              exact ⟨h3, made_sub m H hjm (hp j hj), h4⟩) ho
          unfold wpOp
          simp only [List.getElem?_toArray, hoi]
          unfold StepG at hst
          split at hst
          · rename_i hg
            rw [if_pos (by simp [Region.wanted, hg])]
            exact .inl (hst.run a w _ Q ho' hs fun v G' w' hs' ⟨ex, hG', hφ⟩ => step v ex w' (hG' ▸ hs') (hG' ▸ hφ))
          · rename_i j want hg
            rcases hst with ⟨dj, b, hdj, hbj, hy, hno⟩ | ⟨dj, hdj, hbj, hno⟩
            · have hyl : yielded l.toArray a.tmps j = some b := by
                have h5 := ho'.get _ _ hbj
                simp only [dstOf] at hdj
                simp [yielded, hdj, h5]
              by_cases hbw : b = want
              · rw [if_pos (by simp [Region.wanted, hg, hyl, hbw])]
                exact .inl ((hy hbw).run a w _ Q ho' hs fun v G' w' hs' ⟨ex, hG', hφ⟩ => step v ex w' (hG' ▸ hs') (hG' ▸ hφ))
              · rw [if_neg (by simp [Region.wanted, hg, hyl, hbw])]
                obtain ⟨ex, hG', hφ⟩ := hno (by cases b <;> cases want <;> simp_all)
                exact step undef ex w (hG' ▸ hs) (hG' ▸ hφ)
            · have hyl : yielded l.toArray a.tmps j = none := by
                have h5 := ho'.get _ _ hbj
                simp only [dstOf] at hdj
                simp [yielded, hdj, h5, undef]
              rw [if_neg (by simp [Region.wanted, hg, hyl])]
              obtain ⟨ex, hG', hφ⟩ := hno
              exact step undef ex w (hG' ▸ hs) (hG' ▸ hφ)
  refine head l.length (Array.replicate l.length false) (fun _ => (undef, [])) a0 _ (by simp) (fun i o _ h => by rw [Array.getD_eq_getD_getElem?, Array.getElem?_replicate] at h; split at h <;> cases h) (by simp [List.countP_replicate]) (fun i _ hi => by simp [hi]) ho0 ?_ ?_
  · rw [made_none]; exact hs0.drew _
  · intro i hi hl
    simp only [Array.getD_eq_getD_getElem?, Array.getElem?_replicate] at hl
    split at hl <;> cases hl
/-! The same in a form that is easy to read at a region written out. -/
def PremsT (P : Program) (W : World) (n : Nat) (ds : List Deferred) (dl : List (Option Tmp)) (Φs : List PhiD) (E0 : Env) (H : Heap) (s dq : Nat) (f : Nat → Value) (ob : Obj) (φq : Phi) : Nat → List Oper → List (List Nat) → Prop
  | i, o :: os, js :: jss => (∀ G, Sub H G → withD dl Φs G js E0 (if i = s then StoreOk P W n ds dq f ob φq (nthD Φs i).phi o G else fun E => Step2 P W n ds dl o E G fun v G' => ∃ ex, G' = ex ++ G ∧ postD (nthD Φs i) v ex G')) ∧ PremsT P W n ds dl Φs E0 H s dq f ob φq (i + 1) os jss
  | _, _, _ => True
theorem premsT_get {l : List Oper} {Φs : List PhiD} {s dq : Nat} {f : Nat → Value} {ob : Obj} {φq : Phi} : ∀ (os : List Oper) (k : Nat), PremsT P W n ds (l.map (·.dst)) Φs E0 H s dq f ob φq k os (os.map preds) → ∀ i o, os[i]? = some o →
    ∀ G, Sub H G → with2 (l.map (·.dst)) (Φs.map PhiD.phi) G (preds o) E0 (if k + i = s then StoreOk P W n ds dq f ob φq (nthPhi (Φs.map PhiD.phi) (k + i)) o G else fun E => Step2 P W n ds (l.map (·.dst)) o E G fun v G' => ∃ ex, G' = ex ++ G ∧ nthPhi (Φs.map PhiD.phi) (k + i) v ex G') := by
  intro os
  induction os with
  | nil => intro k _ i o h; simp at h
  | cons x xs ih =>
    intro k h i o ho G hG
    cases i with
    | zero =>
      simp at ho
      subst ho
      have := withD_with2 _ E0 (h.1 G hG)
      rw [Nat.add_zero]
      simp only [postD_eq, ← nthD_phi] at this
      exact this
    | succ i =>
      have := ih (k + 1) h.2 i o (by simpa using ho) G hG
      rwa [show k + 1 + i = k + (i + 1) by omega] at this
def SkipsD (ob : Obj) : List PhiD → Prop
  | [] => True
  | .is _ :: r => SkipsD ob r
  | .fresh _ _ :: r => SkipsD ob r
  | .gen φ :: r => PhiSkip φ ob ∧ SkipsD ob r
theorem skipsD {ob : Obj} : ∀ {Φs : List PhiD}, SkipsD ob Φs → ∀ φ ∈ Φs.map PhiD.phi, PhiSkip φ ob
  | [], _, φ, h => by cases h
  | .is v :: r, h, φ, hm => by
    rcases List.mem_cons.1 hm with rfl | hm
    · exact const_skip _ (is_const v)
    · exact skipsD (Φs := r) h φ hm
  | .fresh f o :: r, h, φ, hm => by
    rcases List.mem_cons.1 hm with rfl | hm
    · exact const_skip _ (fresh_const f o)
    · exact skipsD (Φs := r) h φ hm
  | .gen ψ :: r, h, φ, hm => by
    rcases List.mem_cons.1 hm with rfl | hm
    · exact h.1
    · exact skipsD (Φs := r) h.2 φ hm
theorem some_skip (p : Value → Heap → Prop) (ob : Obj) : PhiSkip (some' p) ob := const_skip _ (some_const p)
theorem tc_drawnT {id : Nat} {l : List Oper} (m s q dq : Nat) (f : Nat → Value) (ob : Obj) (dφ : PhiD) (hφq : Phi.Mono dφ.phi) (Φs Φs' : List PhiD) (dl : List (Option Tmp)) (prs : List (List Nat)) (hm : P.follows .mixedOrders = true) (hsk : SkipsD ob Φs)
    (prem : PremsT P W n ds dl Φs E0 H s dq f ob dφ.phi 0 (l.take m) prs)
    (fin : FinalsD dl (fun E G => TL P W n ds l Q (l.drop m) E G) 0 Φs' E0 H (fun _ => True))
    (hq : Φs[q]? = some (.fresh f ob) := by exact rfl) (hq' : Φs.set q dφ = Φs' := by exact rfl)
    (hE : edgesOk l m = true := by exact rfl) (hD : dstsOk l m n E0 = true := by exact rfl) (hal : aloneOk l m s q = true := by exact rfl) (hdq : dstOf l q = some dq := by exact rfl)
    (hlen : Φs.length = m := by exact rfl) (hml : m ≤ l.length := by exact Nat.le_of_ble_eq_true rfl) (hdl : l.map (·.dst) = dl := by exact rfl) (hpr : (l.take m).map preds = prs := by exact rfl) :
    TC P W n ds (.region id l.toArray true) Q E0 H := by
  subst hdl
  subst hpr
  subst hq'
  have hget : ∀ i o, i < m → l[i]? = some o → (l.take m)[i]? = some o := fun i o hi ho => by rw [List.getElem?_take, if_pos hi]; exact ho
  refine tc_drawT m s q dq f ob dφ.phi hφq (Φs.map PhiD.phi) hm hE hD (by rw [List.length_map]; exact hlen) hml (fun i hi => by rw [List.getD_eq_getElem?_getD, List.getElem?_eq_getElem (by rw [List.length_map]; omega)]; exact skipsD hsk _ (List.getElem_mem _)) hal (by rw [List.getElem?_map, hq]; rfl) hdq ?_ ?_ ?_
  · intro i o hi ho his G hG
    have := premsT_get _ 0 prem i o (hget i o hi ho) G hG
    rw [Nat.zero_add, if_neg his, with2_eq] at this
    simp only [step2_eq, nthPhi_eq] at this ⊢
    exact this
  · intro o ho G hG
    have := premsT_get _ 0 prem s o (hget s o (alone_get hal).2.1 ho) G hG
    rw [Nat.zero_add, if_pos rfl, with2_eq] at this
    simp only [nthPhi_eq] at this ⊢
    exact this
  · have := finalsD_finals2 _ _ _ _ _ fin
    rw [finals2_eq, List.map_set] at this
    exact this
end draw
end Go.Lg
