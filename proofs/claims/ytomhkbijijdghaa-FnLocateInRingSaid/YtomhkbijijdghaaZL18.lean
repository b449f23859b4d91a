/-
  A region in an order left open with one store in it, into a block that the region itself has made. No conditions.
-/
import Derived.Test.YtomhkbijijdghaaZL10
import Derived.Test.YtomhkbijijdghaaZL11
import Derived.Test.YtomhkbijijdghaaZL17
set_option linter.unusedVariables false
set_option linter.unusedSimpArgs false
namespace Go.Lg
section draw
variable {P : Program} {W : World} {n : Nat} {ds : List Deferred} {Q : Exit → Act → World → Prop} {E0 : Env} {H : Heap}

/-- Nobody but the operation s waits for the operation q. -/
def aloneOk (l : List Oper) (m s q : Nat) : Bool :=
  q < m && s < m && q != s && (List.range m).all fun i => match l[i]? with
    | none => false
    | some o => if i == s then o.guard.isNone && (preds o).contains q else !(preds o).contains q
theorem alone_get {l : List Oper} {m s q : Nat} (h : aloneOk l m s q = true) : q < m ∧ s < m ∧ q ≠ s ∧ ∀ i o, i < m → l[i]? = some o → (i = s → o.guard = none ∧ q ∈ preds o) ∧ (i ≠ s → q ∉ preds o) := by
  simp only [aloneOk, Bool.and_eq_true, decide_eq_true_eq, bne_iff_ne, ne_eq, List.all_eq_true, List.mem_range] at h
  obtain ⟨⟨⟨h1, h2⟩, h3⟩, h4⟩ := h
  refine ⟨h1, h2, h3, fun i o hi ho => ?_⟩
  have := h4 i hi
  rw [ho] at this
  simp only [beq_iff_eq] at this
  by_cases e : i = s
  · rw [if_pos e] at this
    simp only [Bool.and_eq_true, Option.isNone_iff_eq_none, List.contains_iff_mem] at this
    exact ⟨fun _ => this, fun h => absurd e h⟩
  · rw [if_neg e] at this
    simp only [Bool.not_eq_true', List.contains_eq_mem, decide_eq_false_iff_not] at this
    exact ⟨fun h => absurd h e, fun _ => this⟩

/-- A fact that stays when memory grows, and when the block of this make is taken away. -/
def PhiSkip (φ : Phi) (ob : Obj) : Prop := ∀ (k : Nat) v ex G G', (∀ e ∈ G, e ∈ G' ∨ e = (k, ob)) → φ v ex G → φ v ex G'
theorem PhiSkip.mono {φ : Phi} {ob : Obj} (h : PhiSkip φ ob) {v ex} {G G' : Heap} (hG : ∀ e ∈ G, e ∈ G') (hp : φ v ex G) : φ v ex G' := h 0 v ex G G' (fun e he => .inl (hG e he)) hp
theorem const_skip {φ : Phi} (ob : Obj) (h : Phi.Const φ) : PhiSkip φ ob := fun _ v ex G G' _ hp => h v ex G G' hp
/-- What the store is to do. -/
def StoreOk (P : Program) (W : World) (n : Nat) (ds : List Deferred) (dq : Nat) (f : Nat → Value) (ob : Obj) (φq φ : Phi) (o : Oper) (G : Heap) (E : Env) : Prop :=
  ∀ a k R, Ok n ds E a → a.tmps[dq]? = some (f k) → G.Perm ((k, ob) :: R) → OpT P W n ds o E ((k, ob) :: R) fun v G' => ∃ ob', G' = (k, ob') :: R ∧ φq (f k) [(k, ob')] G' ∧ φ v [] G'

theorem tc_drawT {id : Nat} {l : List Oper} (m s q dq : Nat) (f : Nat → Value) (ob : Obj) (φq : Phi) (hφq : Phi.Mono φq) (Φs : List Phi) (hm : P.follows .mixedOrders = true) (hE : edgesOk l m = true) (hD : dstsOk l m n E0 = true)
    (hlen : Φs.length = m) (hml : m ≤ l.length) (hsk : ∀ i, i < m → PhiSkip (Φs.getD i (is undef)) ob) (hal : aloneOk l m s q = true) (hq : Φs[q]? = some (fresh f ob)) (hdq : dstOf l q = some dq)
    (prem : ∀ i o, i < m → l[i]? = some o → i ≠ s → PremOne P W n ds l (fun i => Φs.getD i (is undef)) E0 H i o)
    (prems : ∀ o, l[s]? = some o → ∀ G, (∀ e ∈ H, e ∈ G) → withPreds l (fun i => Φs.getD i (is undef)) G (preds o) E0 (StoreOk P W n ds dq f ob φq (Φs.getD s (is undef)) o G))
    (fin : Finals l (fun E G => TL P W n ds l Q (l.drop m) E G) 0 (Φs.set q φq) E0 H (fun _ => True)) :
    TC P W n ds (.region id l.toArray true) Q E0 H := by
  obtain ⟨hqm, hsm, hqs, hpr⟩ := alone_get hal
  refine ⟨fun a0 w0 ho0 hs0 => ?_⟩
  refine wp_region_any hm ?_
  have hΦq : Φs.getD q (is undef) = fresh f ob := by rw [List.getD_eq_getElem?_getD, hq]; rfl
  -- the fact of an operation, told by whether the store is done
  let Ψ : Nat → Bool → Phi := fun i b => if i = q ∧ b = true then φq else Φs.getD i (is undef)
  have hΨ : ∀ i b v ex G G', i < m → (∀ e ∈ G, e ∈ G') → Ψ i b v ex G → Ψ i b v ex G' := by
    intro i b v ex G G' hi hG h
    by_cases e : i = q ∧ b = true
    · simp only [Ψ, if_pos e] at h ⊢; exact hφq _ _ _ _ h hG
    · simp only [Ψ, if_neg e] at h ⊢; exact (hsk i hi).mono hG h
  have hΨn : ∀ i b, i ≠ q → Ψ i b = Φs.getD i (is undef) := fun i b h => by simp only [Ψ]; rw [if_neg (fun e => h e.1)]
  have complete : ∀ (fuel : Nat) (listed : Array Bool) (outs : Nat → Value × Heap) (a : Act) (w : World), listed.size = l.length → Closed l listed →
      fuel = listed.toList.countP (fun b => !b) → (∀ i, m ≤ i → i < l.length → listed[i]? = some false) → Ok n ds E0 a →
      Sees W (made outs (fun i => listed.getD i false) m H) w →
      (∀ i, i < m → listed.getD i false = true → Ψ i (listed.getD s false) (outs i).1 (outs i).2 (made outs (fun i => listed.getD i false) m H) ∧ ∀ d, dstOf l i = some d → a.tmps[d]? = some (outs i).1) →
      (∀ i, i < m → listed.getD i false = true) → wpAny P .any l.toArray Q fuel listed a w := by
    intro fuel listed outs a w hsz hcl hf h2 ho hs hinv hc
    have hget : ∀ i, i < m → listed[i]? = some true := fun i hi => by
      have hb : i < listed.size := by omega
      have := hc i hi
      rw [Array.getElem?_eq_getElem hb]
      simpa [Array.getD, hb] using this
    have hmade : made outs (fun i => listed.getD i false) m H = made outs (fun _ => true) m H := made_congr _ _ fun i hi => ⟨hc i hi, fun _ => rfl⟩
    rw [hmade] at hs
    have hlen2 : (Φs.set q φq).length = m := by rw [List.length_set]; exact hlen
    obtain ⟨E', hK, ho'⟩ := finals_done (n := n) (ds := ds) (H := H) (outs := outs) (a := a) (Φs.set q φq) 0 E0 _ fin (fun j φ hj => by
        have hjm : j < m := by
          rcases Nat.lt_or_ge j m with h | h
          · exact h
          · rw [List.getElem?_eq_none (by omega)] at hj; cases hj
        have h1 := (hinv j hjm (hc j hjm)).1
        rw [hc s hsm, hmade] at h1
        have h3 : Ψ j true (outs (0 + j)).1 (outs (0 + j)).2 (made outs (fun _ => true) (0 + (Φs.set q φq).length) H) := by
          rw [Nat.zero_add, Nat.zero_add, hlen2]; exact h1
        rw [List.getElem?_set] at hj
        by_cases e : j = q
        · subst e
          rw [if_pos rfl, if_pos (by omega)] at hj
          cases hj
          simpa [Ψ] using h3
        · rw [if_neg (fun h => e h.symm)] at hj
          rw [hΨn j true e, List.getD_eq_getElem?_getD, hj] at h3
          simpa using h3) trivial ho (fun j _ hj d hd => (hinv j (by omega) (hc j (by omega))).2 d hd)
    rw [Nat.zero_add, hlen2] at hK
    refine any_of_tail hE fuel m listed a w hsz hcl ?_ (Nat.le_refl _) hget h2 (hK.run a w ho' hs)
    rw [hf]
    have := count_split (l := listed.toList) (m := m) (by simp; omega) (fun i hi => by simpa using hget i hi) (fun i hi hi' => by simpa using h2 i hi (by simpa [hsz] using hi'))
    simpa [hsz] using this
  have head : ∀ (fuel : Nat) (listed : Array Bool) (outs : Nat → Value × Heap) (a : Act) (w : World), listed.size = l.length → Closed l listed →
      fuel = listed.toList.countP (fun b => !b) → (∀ i, m ≤ i → i < l.length → listed[i]? = some false) → Ok n ds E0 a →
      Sees W (made outs (fun i => listed.getD i false) m H) w →
      (∀ i, i < m → listed.getD i false = true → Ψ i (listed.getD s false) (outs i).1 (outs i).2 (made outs (fun i => listed.getD i false) m H) ∧ ∀ d, dstOf l i = some d → a.tmps[d]? = some (outs i).1) →
      wpAny P .any l.toArray Q fuel listed a w := by
    intro fuel
    induction fuel with
    | zero =>
      intro listed outs a w hsz hcl hf h2 ho hs hinv
      refine complete 0 listed outs a w hsz hcl hf h2 ho hs hinv fun i hi => ?_
      have := List.countP_eq_zero.1 hf.symm
      have hb : i < listed.size := by omega
      have := this listed[i] (by simp [Array.getElem_mem])
      simpa [Array.getD, hb] using this
    | succ fuel ih =>
      intro listed outs a w hsz hcl hf h2 ho hs hinv
      by_cases hc : ∀ i, i < m → listed.getD i false = true
      · exact complete _ listed outs a w hsz hcl hf h2 ho hs hinv hc
      have hex : ∃ i, i < m ∧ ¬ listed.getD i false = true := by
        apply Classical.byContradiction
        intro h
        exact hc fun i hi => Classical.byContradiction fun h' => h ⟨i, hi, h'⟩
      obtain ⟨i0, hi0, hn0, hb0⟩ := least (p := fun i => listed.getD i false = true) m hex
      have hunl : ∀ i, i < l.length → ¬ listed.getD i false = true → listed[i]? = some false := fun i hi h => by
        have hb : i < listed.size := by omega
        rw [Array.getElem?_eq_getElem hb]
        simpa [Array.getD, hb] using h
      refine ⟨fun hr => ?_, fun i hi => ?_⟩
      · have hget : l[i0]? = some l[i0] := List.getElem?_eq_getElem (by omega)
        have : i0 ∈ Region.ready .any l.toArray listed := (ready_iff hsz).2 ⟨by omega, hunl i0 (by omega) hn0, _, hget, fun j hj => hb0 j ((binds_any_mem hE hget).1 j hj)⟩
        rw [hr] at this; cases this
      · obtain ⟨hi1, hi2, o, hoi, hp⟩ := (ready_iff hsz).1 hi
        have him : i < m := by
          rcases Nat.lt_or_ge i m with h | h
          · exact h
          · exact (hn0 (reach_listed hcl 9 i i0 o hoi hp ((binds_any_mem hE hoi).2 h i0 (by omega)))).elim
        have hif : listed.getD i false = false := by rw [Array.getD_eq_getD_getElem?, hi2]; rfl
        have hdst : dstOf l i = o.dst := by simp [dstOf, hoi]
        have hgd : ∀ j, (listed.setIfInBounds i true).getD j false = (j == i || listed.getD j false) := fun j => by
          rw [Array.getD_eq_getD_getElem?, Array.getElem?_setIfInBounds, Array.getD_eq_getD_getElem?]
          by_cases e : i = j
          · subst e; simp [hsz, hi1]
          · rw [if_neg e]
            have : (j == i) = false := by simp; exact fun h => e h.symm
            simp [this]
        have hput : ∀ v j d, j < m → j ≠ i → dstOf l j = some d → a.tmps[d]? = some (outs j).1 → (a.put o.dst v).tmps[d]? = some (outs j).1 := by
          intro v j d hj e hd h4
          cases hod : o.dst with
          | none => exact h4
          | some d' =>
            have := (dsts_get hD him hoi hod).2.2 j hj e
            have hne : d' ≠ d := fun e => this (by rw [hd, e])
            simp [Act.put, hne, h4]
        have hputi : ∀ v d, dstOf l i = some d → (a.put o.dst v).tmps[d]? = some v := by
          intro v d hd
          rw [hdst] at hd
          have := dsts_get hD him hoi hd
          simp [Act.put, hd, ho.size, this.1]
        have hcnt : fuel = (listed.setIfInBounds i true).toList.countP (fun b => !b) := by
          have := count_set (l := listed.toList) (i := i) (by simpa using hi2)
          simp only [Array.toList_setIfInBounds]
          omega
        have htl : ∀ j, m ≤ j → j < l.length → (listed.setIfInBounds i true)[j]? = some false := by
          intro j hj hj'
          rw [Array.getElem?_setIfInBounds, if_neg (by omega)]; exact h2 j hj hj'
        have hcl' : Closed l (listed.setIfInBounds i true) := hcl.set (fun o' ho' j hj => by rw [hoi] at ho'; cases ho'; exact hp j hj) (by omega)
        have hoff : ∀ v, Ok n ds E0 (a.put o.dst v) := fun v => ho.put_off (fun d hd => (dsts_get hD him hoi hd).2.1) v
        by_cases his : i = s
        · -- the store
          subst his
          obtain ⟨hgn, hqp⟩ := (hpr i o him hoi).1 rfl
          have hql := hp q hqp
          have hq1 := hinv q hqm hql
          rw [hif] at hq1
          have hq2 : fresh f ob (outs q).1 (outs q).2 (made outs (fun i => listed.getD i false) m H) := by
            have := hq1.1
            simp only [Ψ] at this
            rw [if_neg (fun e => by cases e.2), hΦq] at this
            exact this
          obtain ⟨k, hk1, hk2⟩ := hq2
          -- the memory without q's block
          have hperm : (made outs (fun j => listed.getD j false) m H).Perm ((k, ob) :: made outs (fun j => if j = q then false else listed.getD j false) m H) := by
            have := made_add (outs := outs) (f := fun j => if j = q then false else listed.getD j false) (outs q) m H hqm (by simp)
            rw [hk2] at this
            refine List.Perm.trans ?_ this
            rw [made_congr (outs' := fun j => if j = q then outs q else outs j) (f' := fun j => j == q || if j = q then false else listed.getD j false) m H]
            intro j hj
            by_cases e : j = q
            · subst e; simp [hql]
            · simp [e]
          have hpre := prems o hoi _ (made_base (outs := outs) (f := fun j => listed.getD j false) m H)
          obtain ⟨E', hst, ho'⟩ := ok_of_withPreds (n := n) (ds := ds) (a := a) (outs := outs) _ _ hpre (fun j hj => by
            have hjm : j < m := Nat.lt_trans ((binds_any_mem hE hoi).1 j hj) him
            obtain ⟨h3, h4⟩ := hinv j hjm (hp j hj)
            rw [hif] at h3
            have h5 : Φs.getD j (is undef) (outs j).1 (outs j).2 (made outs (fun i => listed.getD i false) m H) := by
              simp only [Ψ] at h3
              rw [if_neg (fun e => by cases e.2)] at h3
              exact h3
            exact ⟨h5, made_sub m H hjm (hp j hj), h4⟩) ho
          have hop := hst a k _ ho' (by rw [← hk1]; exact hq1.2 dq hdq) hperm
          unfold wpOp
          simp only [List.getElem?_toArray, hoi]
          rw [if_pos (by simp [Region.wanted, hgn])]
          refine .inl (hop.run a w _ Q ho' (hs.perm hperm.symm) fun v G' w' hs' hφ => ?_)
          obtain ⟨ob', rfl, hφq', hφ⟩ := hφ
          let outs2 : Nat → Value × Heap := fun j => if j = i then (v, []) else if j = q then ((outs q).1, [(k, ob')]) else outs j
          have hbig : (made outs2 (fun j => (listed.setIfInBounds i true).getD j false) m H).Perm ((k, ob') :: made outs (fun j => if j = q then false else listed.getD j false) m H) := by
            have p1 := made_add (outs := fun j => if j = q then ((outs q).1, [(k, ob')]) else outs j) (f := fun j => listed.getD j false) (v, []) m H him hif
            have p2 := made_add (outs := outs) (f := fun j => if j = q then false else listed.getD j false) ((outs q).1, [(k, ob')]) m H hqm (by simp)
            have e1 : made outs2 (fun j => (listed.setIfInBounds i true).getD j false) m H = made (fun j => if j = i then (v, []) else (fun j => if j = q then ((outs q).1, [(k, ob')]) else outs j) j) (fun j => j == i || (fun j => listed.getD j false) j) m H :=
              made_congr _ _ fun j _ => ⟨hgd j, fun _ => rfl⟩
            have e2 : made (fun j => if j = q then ((outs q).1, [(k, ob')]) else outs j) (fun j => listed.getD j false) m H = made (fun j => if j = q then ((outs q).1, [(k, ob')]) else outs j) (fun j => j == q || if j = q then false else listed.getD j false) m H := by
              refine made_congr _ _ fun j _ => ⟨?_, fun _ => rfl⟩
              by_cases e : j = q
              · subst e; simp [hql]
              · simp [e]
            rw [e1]
            refine p1.trans ?_
            rw [List.nil_append, e2]
            exact p2
          have hmov : ∀ e ∈ made outs (fun j => listed.getD j false) m H, e ∈ made outs2 (fun j => (listed.setIfInBounds i true).getD j false) m H ∨ e = (k, ob) := fun e he => by
            rcases List.mem_cons.1 (hperm.mem_iff.1 he) with h | h
            · exact .inr h
            · exact .inl (hbig.mem_iff.2 (List.mem_cons_of_mem _ h))
          refine ih _ outs2 _ _ (by simpa using hsz) hcl' hcnt htl (hoff v) (hs'.perm hbig) ?_
          · intro j hj hl
            have hsl : (listed.setIfInBounds i true).getD i false = true := by rw [hgd]; simp
            rw [hsl]
            by_cases e : j = i
            · subst e
              simp only [outs2, if_true]
              refine ⟨?_, fun d hd => hputi v d hd⟩
              rw [hΨn j true (fun h => hqs h.symm)]
              exact (hsk j hj).mono (fun e he => hbig.mem_iff.2 he) hφ
            · have hl' : listed.getD j false = true := by rw [hgd j] at hl; simpa [e] using hl
              obtain ⟨h3, h4⟩ := hinv j hj hl'
              by_cases eq : j = q
              · subst eq
                simp only [outs2, if_neg e, if_true]
                refine ⟨?_, fun d hd => hput v j d hj e hd (h4 d hd)⟩
                simp only [Ψ, and_self, if_true]
                have hq0 : φq (outs j).1 [(k, ob')] ((k, ob') :: made outs (fun i => if i = j then false else listed.getD i false) m H) := by rw [hk1]; exact hφq'
                exact hφq _ _ _ _ hq0 (fun e he => hbig.mem_iff.2 he)
              · simp only [outs2, if_neg e, if_neg eq]
                refine ⟨?_, fun d hd => hput v j d hj e hd (h4 d hd)⟩
                rw [hΨn j _ eq] at h3 ⊢
                exact hsk j hj k _ _ _ _ hmov h3
        · -- any other operation
          have step : ∀ v ex w', Sees W (ex ++ made outs (fun i => listed.getD i false) m H) w' → (Φs.getD i (is undef)) v ex (ex ++ made outs (fun i => listed.getD i false) m H) →
              wpAny P .any l.toArray Q fuel (listed.setIfInBounds i true) (a.put o.dst v) w' := by
            intro v ex w' hs' hφ
            have hperm := made_add (outs := outs) (f := fun j => listed.getD j false) (v, ex) m H him hif
            have hmm : made (fun j => if j = i then (v, ex) else outs j) (fun j => (listed.setIfInBounds i true).getD j false) m H = made (fun j => if j = i then (v, ex) else outs j) (fun j => j == i || listed.getD j false) m H :=
              made_congr _ _ fun j _ => ⟨hgd j, fun _ => rfl⟩
            have hsl : (listed.setIfInBounds i true).getD s false = listed.getD s false := by rw [hgd, beq_false_of_ne (fun h : s = i => his h.symm), Bool.false_or]
            refine ih _ (fun j => if j = i then (v, ex) else outs j) _ _ (by simpa using hsz) hcl' hcnt htl (hoff v) ?_ ?_
            · rw [hmm]; exact hs'.perm hperm
            · intro j hj hl
              rw [hsl]
              by_cases e : j = i
              · subst e
                rw [if_pos rfl]
                refine ⟨?_, fun d hd => hputi v d hd⟩
                by_cases eq : j = q ∧ listed.getD s false = true
                · exfalso
                  obtain ⟨rfl, hst⟩ := eq
                  have hgs : l[s]? = some l[s] := List.getElem?_eq_getElem (by omega)
                  have := hcl s _ hgs hst j ((hpr s _ hsm hgs).1 rfl).2
                  rw [hif] at this; cases this
                · simp only [Ψ, if_neg eq]
                  rw [hmm]
                  exact (hsk j hj).mono (fun e he => (hperm.mem_iff).2 he) hφ
              · rw [if_neg e]
                have hl' : listed.getD j false = true := by rw [hgd j] at hl; simpa [e] using hl
                obtain ⟨h3, h4⟩ := hinv j hj hl'
                refine ⟨?_, fun d hd => hput v j d hj e hd (h4 d hd)⟩
                rw [hmm]
                exact hΨ j _ _ _ _ _ hj (fun e he => (hperm.mem_iff).2 (List.mem_append_right _ he)) h3
          have hpo := prem i o him hoi his
          have hnq := (hpr i o him hoi).2 his
          obtain ⟨E', hst, ho'⟩ := ok_of_withPreds (n := n) (ds := ds) (a := a) (outs := outs) _ _ (hpo _ (made_base m H)) (fun j hj => by
              have hjm : j < m := Nat.lt_trans ((binds_any_mem hE hoi).1 j hj) him
              obtain ⟨h3, h4⟩ := hinv j hjm (hp j hj)
              rw [hΨn j _ (fun e => hnq (e ▸ hj))] at h3
              exact ⟨h3, made_sub m H hjm (hp j hj), h4⟩) ho
          unfold wpOp
          simp only [List.getElem?_toArray, hoi]
          unfold StepG at hst
          split at hst
          · rename_i hg
            rw [if_pos (by simp [Region.wanted, hg])]
            exact .inl (hst.run a w _ Q ho' hs fun v G' w' hs' ⟨ex, hG', hφ⟩ => step v ex w' (hG' ▸ hs') (hG' ▸ hφ))
          · rename_i j want hg
            rcases hst with ⟨dj, b, hdj, hbj, hy, hno⟩ | ⟨dj, hdj, hbj, hno⟩
            · have hyl : yielded l.toArray a.tmps j = some b := by
                have h5 := ho'.get _ _ hbj
                simp only [dstOf] at hdj
                simp [yielded, hdj, h5]
              by_cases hbw : b = want
              · rw [if_pos (by simp [Region.wanted, hg, hyl, hbw])]
                exact .inl ((hy hbw).run a w _ Q ho' hs fun v G' w' hs' ⟨ex, hG', hφ⟩ => step v ex w' (hG' ▸ hs') (hG' ▸ hφ))
              · rw [if_neg (by simp [Region.wanted, hg, hyl, hbw])]
                obtain ⟨ex, hG', hφ⟩ := hno (by cases b <;> cases want <;> simp_all)
                exact step undef ex w (hG' ▸ hs) (hG' ▸ hφ)
            · have hyl : yielded l.toArray a.tmps j = none := by
                have h5 := ho'.get _ _ hbj
                simp only [dstOf] at hdj
                simp [yielded, hdj, h5, undef]
              rw [if_neg (by simp [Region.wanted, hg, hyl])]
              obtain ⟨ex, hG', hφ⟩ := hno
              exact step undef ex w (hG' ▸ hs) (hG' ▸ hφ)
  refine head l.length (Array.replicate l.length false) (fun _ => (undef, [])) a0 _ (by simp) (fun i o _ h => by rw [Array.getD_eq_getD_getElem?, Array.getElem?_replicate] at h; split at h <;> cases h) (by simp [List.countP_replicate]) (fun i _ hi => by simp [hi]) ho0 ?_ ?_
  · rw [made_none]; exact hs0.drew _
  · intro i hi hl
    simp only [Array.getD_eq_getD_getElem?, Array.getElem?_replicate] at hl
    split at hl <;> cases hl
/-! The same in a form that is easy to read at a region written out. -/
def PremsT (P : Program) (W : World) (n : Nat) (ds : List Deferred) (dl : List (Option Tmp)) (Φs : List PhiD) (E0 : Env) (H : Heap) (s dq : Nat) (f : Nat → Value) (ob : Obj) (φq : Phi) : Nat → List Oper → List (List Nat) → Prop
  | i, o :: os, js :: jss => (∀ G, Sub H G → withD dl Φs G js E0 (if i = s then StoreOk P W n ds dq f ob φq (nthD Φs i).phi o G else fun E => Step2 P W n ds dl o E G fun v G' => ∃ ex, G' = ex ++ G ∧ postD (nthD Φs i) v ex G')) ∧ PremsT P W n ds dl Φs E0 H s dq f ob φq (i + 1) os jss
  | _, _, _ => True
theorem premsT_get {l : List Oper} {Φs : List PhiD} {s dq : Nat} {f : Nat → Value} {ob : Obj} {φq : Phi} : ∀ (os : List Oper) (k : Nat), PremsT P W n ds (l.map (·.dst)) Φs E0 H s dq f ob φq k os (os.map preds) → ∀ i o, os[i]? = some o →
    ∀ G, Sub H G → with2 (l.map (·.dst)) (Φs.map PhiD.phi) G (preds o) E0 (if k + i = s then StoreOk P W n ds dq f ob φq (nthPhi (Φs.map PhiD.phi) (k + i)) o G else fun E => Step2 P W n ds (l.map (·.dst)) o E G fun v G' => ∃ ex, G' = ex ++ G ∧ nthPhi (Φs.map PhiD.phi) (k + i) v ex G') := by
  intro os
  induction os with
  | nil => intro k _ i o h; simp at h
  | cons x xs ih =>
    intro k h i o ho G hG
    cases i with
    | zero =>
      simp at ho
      subst ho
      have := withD_with2 _ E0 (h.1 G hG)
      rw [Nat.add_zero]
      simp only [postD_eq, ← nthD_phi] at this
      exact this
    | succ i =>
      have := ih (k + 1) h.2 i o (by simpa using ho) G hG
      rwa [show k + 1 + i = k + (i + 1) by omega] at this
def SkipsD (ob : Obj) : List PhiD → Prop
  | [] => True
  | .is _ :: r => SkipsD ob r
  | .fresh _ _ :: r => SkipsD ob r
  | .gen φ :: r => PhiSkip φ ob ∧ SkipsD ob r
theorem skipsD {ob : Obj} : ∀ {Φs : List PhiD}, SkipsD ob Φs → ∀ φ ∈ Φs.map PhiD.phi, PhiSkip φ ob
  | [], _, φ, h => by cases h
  | .is v :: r, h, φ, hm => by
    rcases List.mem_cons.1 hm with rfl | hm
    · exact const_skip _ (is_const v)
    · exact skipsD (Φs := r) h φ hm
  | .fresh f o :: r, h, φ, hm => by
    rcases List.mem_cons.1 hm with rfl | hm
    · exact const_skip _ (fresh_const f o)
    · exact skipsD (Φs := r) h φ hm
  | .gen ψ :: r, h, φ, hm => by
    rcases List.mem_cons.1 hm with rfl | hm
    · exact h.1
    · exact skipsD (Φs := r) h.2 φ hm
theorem some_skip (p : Value → Heap → Prop) (ob : Obj) : PhiSkip (some' p) ob := const_skip _ (some_const p)
theorem tc_drawnT {id : Nat} {l : List Oper} (m s q dq : Nat) (f : Nat → Value) (ob : Obj) (dφ : PhiD) (hφq : Phi.Mono dφ.phi) (Φs Φs' : List PhiD) (dl : List (Option Tmp)) (prs : List (List Nat)) (hm : P.follows .mixedOrders = true) (hsk : SkipsD ob Φs)
    (prem : PremsT P W n ds dl Φs E0 H s dq f ob dφ.phi 0 (l.take m) prs)
    (fin : FinalsD dl (fun E G => TL P W n ds l Q (l.drop m) E G) 0 Φs' E0 H (fun _ => True))
    (hq : Φs[q]? = some (.fresh f ob) := by exact rfl) (hq' : Φs.set q dφ = Φs' := by exact rfl)
    (hE : edgesOk l m = true := by exact rfl) (hD : dstsOk l m n E0 = true := by exact rfl) (hal : aloneOk l m s q = true := by exact rfl) (hdq : dstOf l q = some dq := by exact rfl)
    (hlen : Φs.length = m := by exact rfl) (hml : m ≤ l.length := by exact Nat.le_of_ble_eq_true rfl) (hdl : l.map (·.dst) = dl := by exact rfl) (hpr : (l.take m).map preds = prs := by exact rfl) :
    TC P W n ds (.region id l.toArray true) Q E0 H := by
  subst hdl
  subst hpr
  subst hq'
  have hget : ∀ i o, i < m → l[i]? = some o → (l.take m)[i]? = some o := fun i o hi ho => by rw [List.getElem?_take, if_pos hi]; exact ho
  refine tc_drawT m s q dq f ob dφ.phi hφq (Φs.map PhiD.phi) hm hE hD (by rw [List.length_map]; exact hlen) hml (fun i hi => by rw [List.getD_eq_getElem?_getD, List.getElem?_eq_getElem (by rw [List.length_map]; omega)]; exact skipsD hsk _ (List.getElem_mem _)) hal (by rw [List.getElem?_map, hq]; rfl) hdq ?_ ?_ ?_
  · intro i o hi ho his G hG
    have := premsT_get _ 0 prem i o (hget i o hi ho) G hG
    rw [Nat.zero_add, if_neg his, with2_eq] at this
    simp only [step2_eq, nthPhi_eq] at this ⊢
    exact this
  · intro o ho G hG
    have := premsT_get _ 0 prem s o (hget s o (alone_get hal).2.1 ho) G hG
    rw [Nat.zero_add, if_pos rfl, with2_eq] at this
    simp only [nthPhi_eq] at this ⊢
    exact this
  · have := finalsD_finals2 _ _ _ _ _ fin
    rw [finals2_eq, List.map_set] at this
    exact this
end draw
end Go.Lg

set_option linter.unusedVariables false
set_option linter.unusedSimpArgs false
namespace Go.Proofs.Ytomhkbijijdghaa.Rno
open Go.Lg Go.Proofs.Ytomhkbijijdghaa.Pl Go.Proofs.Ytomhkbijijdghaa.Sd Go.Proofs.Ytomhkbijijdghaa.Lmb Ieee

instance : FlAgg Try.prog 57 [(36, 0), (36, 1)] := ⟨by kernel_rfl, by kernel_rfl, by kernel_rfl, by kernel_rfl, by kernel_rfl, by kernel_rfl⟩
/-- Places read from one block. -/
theorem pairs_block {G : Heap} {v : Value} {ps : List (Nat × Nat)} (h : SlN 2 G v ps.length ((pairs ps).map fl)) (hn : ps ≠ []) :
    ∃ k off l T fz cap, v = .slice (some ⟨k, off, none⟩) ps.length cap ∧ (k, Obj.cells ⟨l⟩ T fz) ∈ G ∧ ∀ j x y, ps[j]? = some (x, y) → (l.drop (off + j * 2)).take 2 = [.float .f64 x, .float .f64 y] := by
  obtain ⟨h0, a, cap, rfl, hc, h2⟩ := h
  obtain ⟨k, off, l, T, fz, rfl, h4, h5⟩ := h2 (fun e => hn (List.eq_nil_of_length_eq_zero e))
  refine ⟨k, off, l, T, fz, cap, rfl, h4, fun j x y hj => ?_⟩
  have hj' := (List.getElem?_eq_some_iff.1 hj).1
  have hcut := pairs_cut ps j x y hj
  rw [Nat.zero_add] at hcut
  rw [← hcut, ← h5, List.drop_take, List.drop_drop, List.take_take]
  congr 1
  omega
set_option maxHeartbeats 4000000 in
theorem shut (v : Value) (ps : List (Nat × Nat)) (m : Nat) (x0 y0 xn yn : Nat) (H : Heap) (hv : SlN 2 H v ps.length ((pairs ps).map fl)) (hm : ps.length = m + 2) (hb : m < 1000) (h0 : ps[0]? = some (x0, y0)) (h1 : ps[m + 1]? = some (xn, yn)) :
    Does Try.prog 45 [v] H fun w H' => w = .bool (eqAll [(x0, xn), (y0, yn)]) ∧ H' = H := by
  obtain ⟨k, off, l, T, fz, cap, rfl, hmem, hget⟩ := pairs_block hv (by intro e; rw [e] at hm; simp at hm)
  have g0 := hget 0 _ _ h0
  have g1 := hget (m + 1) _ _ h1
  have c0 : icmp .gtr (ps.length : Int) 1 = true := by simp only [icmp, decide_eq_true_eq]; omega
  have w1 : IntKind.i64.wrap (iarith .sub (ps.length : Int) 1) = ((m + 1 : Nat) : Int) := by rw [wrap_sub (by omega) (by omega)]; omega
  refine fn_enter 18 Try.func45 fun W => ?_
  repeat' first
    | refine tc_seq ?_ | refine tc_region ?_ | refine at_seq_normal ?_ | refine tl_nil ?_ | refine tl_cons ?_ | refine op_move ?_ | refine op_assign ?_ | refine op_load ?_ | refine op_load_agg ?_ | refine op_indexC ?_
    | refine op_indexAddr1 ?_ | refine op_indexAddr ?_ | refine op_icmp ?_ | refine op_fcmp ?_ | refine op_iarith ?_ | refine op_bcmp ?_ | refine op_len_slice ?_ | refine op_pick_true ?_ | refine op_pick_false ?_ | refine op_pick_true' ?_
    | refine op_pick_false' ?_ | refine op_ptr_nil ?_ | refine op_iquo ?_ | refine op_irem ?_ | refine op_ibits ?_ | refine op_slice_isnil ?_ | refine op_slice_notnil ?_ | refine op_shl ?_ | refine op_shr ?_ | (refine op_farith ?_; intro _ _)
    | refine op_loadK rfl ?_ | refine op_load_aggK rfl ?_ | refine tc_ret ?_ | refine at_seq_ret ?_ | refine tl_guard_yes ?_ | refine tl_guard_no ?_ | refine tl_guard_yes' ?_ | refine tl_guard_no' ?_ | refine tl_guard_undef ?_ | refine tl_guard_split (fun _ => ?_) (fun _ => ?_)
  apply fun hole0 hole1 hole2 hole3 hole4 hole5 hole6 hole7 hole8 hole9 hole10 hole11 hole12 hE hD hml hdl hpr prem fin => tc_drawnD 15 [PhiD.is hole0, PhiD.is hole1, PhiD.is (.bool true), PhiD.is hole2, PhiD.is hole3, PhiD.is hole4, PhiD.is hole5, PhiD.is hole6, PhiD.is hole7, PhiD.is hole8, PhiD.is (.int .i64 ((m + 1 : Nat) : Int)), PhiD.is hole9, PhiD.is hole10, PhiD.is hole11, PhiD.is hole12]
    [some 3, some 4, some 5, some 6, some 7, some 8, some 9, some 10, some 11, some 12, some 13, some 14, some 15, some 16, some 17, some 2] [[], [0], [1], [2], [3], [4, 3], [5, 3], [3], [3], [8, 3], [9, 3], [7, 10, 3], [11, 3], [6, 12, 3], [3, 13]] mixed trivial prem fin hE hD rfl hml hdl hpr
  rotate_left 14
  · first | kernel_rfl | exact rfl
  · first | kernel_rfl | exact rfl
  · exact Nat.le_of_ble_eq_true rfl
  · first | kernel_rfl | exact rfl
  · first | kernel_rfl | exact rfl
  refine ⟨fun G hG => ?_, fun G hG => ?_, fun G hG => ?_, fun G hG => ?_, fun G hG => ?_, fun G hG => ?_, fun G hG => ?_, fun G hG => ?_, fun G hG => ?_, fun G hG => ?_, fun G hG => ?_, fun G hG => ?_, fun G hG => ?_, fun G hG => ?_, fun G hG => ?_, trivial⟩
  · simp only [withD, nthD, Step2, nthDst, putO, postD]
    (refine op_move ?_; exact ⟨[], rfl, rfl, rfl⟩)
  · simp only [withD, nthD, Step2, nthDst, putO, postD]
    (refine op_len_slice ?_; exact ⟨[], rfl, rfl, rfl⟩)
  · simp only [withD, nthD, Step2, nthDst, putO, postD]
    (refine op_icmp ?_; rw [c0]; exact ⟨[], rfl, rfl, rfl⟩)
  · simp only [withD, nthD, Step2, nthDst, putO, postD]
    (refine op_move ?_; exact ⟨[], rfl, rfl, rfl⟩)
  · simp only [withD, nthD, Step2, nthDst, putO, postD]
    (first | refine .inr ⟨_, rfl, rfl, [], rfl, rfl, rfl⟩ | refine .inl ⟨_, _, rfl, rfl, fun _ => ?_, fun h => absurd h (by first | decide | (refine ne_not ?_; assumption))⟩ | refine .inl ⟨_, _, rfl, rfl, (fun h => absurd h (by first | decide | (refine ne_not2 ?_; assumption))), fun _ => ⟨[], rfl, rfl, rfl⟩⟩)
    (all_goals (refine op_move ?_; exact ⟨[], rfl, rfl, rfl⟩))
  · simp only [withD, nthD, Step2, nthDst, putO, postD]
    (first | refine .inr ⟨_, rfl, rfl, [], rfl, rfl, rfl⟩ | refine .inl ⟨_, _, rfl, rfl, fun _ => ?_, fun h => absurd h (by first | decide | (refine ne_not ?_; assumption))⟩ | refine .inl ⟨_, _, rfl, rfl, (fun h => absurd h (by first | decide | (refine ne_not2 ?_; assumption))), fun _ => ⟨[], rfl, rfl, rfl⟩⟩)
    (all_goals ((refine op_indexAddr (j := 0) ?_ (hj := by omega); exact ⟨[], rfl, rfl, rfl⟩)))
  · simp only [withD, nthD, Step2, nthDst, putO, postD]
    (first | refine .inr ⟨_, rfl, rfl, [], rfl, rfl, rfl⟩ | refine .inl ⟨_, _, rfl, rfl, fun _ => ?_, fun h => absurd h (by first | decide | (refine ne_not ?_; assumption))⟩ | refine .inl ⟨_, _, rfl, rfl, (fun h => absurd h (by first | decide | (refine ne_not2 ?_; assumption))), fun _ => ⟨[], rfl, rfl, rfl⟩⟩)
    (all_goals ((refine op_load_agg ?_ (hm := hG _ hmem) (hv := g0); exact ⟨[], rfl, rfl, rfl⟩)))
  · simp only [withD, nthD, Step2, nthDst, putO, postD]
    (first | refine .inr ⟨_, rfl, rfl, [], rfl, rfl, rfl⟩ | refine .inl ⟨_, _, rfl, rfl, fun _ => ?_, fun h => absurd h (by first | decide | (refine ne_not ?_; assumption))⟩ | refine .inl ⟨_, _, rfl, rfl, (fun h => absurd h (by first | decide | (refine ne_not2 ?_; assumption))), fun _ => ⟨[], rfl, rfl, rfl⟩⟩)
    (all_goals (refine op_move ?_; exact ⟨[], rfl, rfl, rfl⟩))
  · simp only [withD, nthD, Step2, nthDst, putO, postD]
    (first | refine .inr ⟨_, rfl, rfl, [], rfl, rfl, rfl⟩ | refine .inl ⟨_, _, rfl, rfl, fun _ => ?_, fun h => absurd h (by first | decide | (refine ne_not ?_; assumption))⟩ | refine .inl ⟨_, _, rfl, rfl, (fun h => absurd h (by first | decide | (refine ne_not2 ?_; assumption))), fun _ => ⟨[], rfl, rfl, rfl⟩⟩)
    (all_goals (refine op_move ?_; exact ⟨[], rfl, rfl, rfl⟩))
  · simp only [withD, nthD, Step2, nthDst, putO, postD]
    (first | refine .inr ⟨_, rfl, rfl, [], rfl, rfl, rfl⟩ | refine .inl ⟨_, _, rfl, rfl, fun _ => ?_, fun h => absurd h (by first | decide | (refine ne_not ?_; assumption))⟩ | refine .inl ⟨_, _, rfl, rfl, (fun h => absurd h (by first | decide | (refine ne_not2 ?_; assumption))), fun _ => ⟨[], rfl, rfl, rfl⟩⟩)
    (all_goals (refine op_len_slice ?_; exact ⟨[], rfl, rfl, rfl⟩))
  · simp only [withD, nthD, Step2, nthDst, putO, postD]
    (first | refine .inr ⟨_, rfl, rfl, [], rfl, rfl, rfl⟩ | refine .inl ⟨_, _, rfl, rfl, fun _ => ?_, fun h => absurd h (by first | decide | (refine ne_not ?_; assumption))⟩ | refine .inl ⟨_, _, rfl, rfl, (fun h => absurd h (by first | decide | (refine ne_not2 ?_; assumption))), fun _ => ⟨[], rfl, rfl, rfl⟩⟩)
    (all_goals ((refine op_iarith ?_; rw [w1]; exact ⟨[], rfl, rfl, rfl⟩)))
  · simp only [withD, nthD, Step2, nthDst, putO, postD]
    (first | refine .inr ⟨_, rfl, rfl, [], rfl, rfl, rfl⟩ | refine .inl ⟨_, _, rfl, rfl, fun _ => ?_, fun h => absurd h (by first | decide | (refine ne_not ?_; assumption))⟩ | refine .inl ⟨_, _, rfl, rfl, (fun h => absurd h (by first | decide | (refine ne_not2 ?_; assumption))), fun _ => ⟨[], rfl, rfl, rfl⟩⟩)
    (all_goals ((refine op_indexAddr (j := m + 1) ?_ (hj := by omega); exact ⟨[], rfl, rfl, rfl⟩)))
  · simp only [withD, nthD, Step2, nthDst, putO, postD]
    (first | refine .inr ⟨_, rfl, rfl, [], rfl, rfl, rfl⟩ | refine .inl ⟨_, _, rfl, rfl, fun _ => ?_, fun h => absurd h (by first | decide | (refine ne_not ?_; assumption))⟩ | refine .inl ⟨_, _, rfl, rfl, (fun h => absurd h (by first | decide | (refine ne_not2 ?_; assumption))), fun _ => ⟨[], rfl, rfl, rfl⟩⟩)
    (all_goals ((refine op_load_agg ?_ (hm := hG _ hmem) (hv := g1); exact ⟨[], rfl, rfl, rfl⟩)))
  · simp only [withD, nthD, Step2, nthDst, putO, postD]
    (first | refine .inr ⟨_, rfl, rfl, [], rfl, rfl, rfl⟩ | refine .inl ⟨_, _, rfl, rfl, fun _ => ?_, fun h => absurd h (by first | decide | (refine ne_not ?_; assumption))⟩ | refine .inl ⟨_, _, rfl, rfl, (fun h => absurd h (by first | decide | (refine ne_not2 ?_; assumption))), fun _ => ⟨[], rfl, rfl, rfl⟩⟩)
    (all_goals ((refine op_aggeq [(x0, xn), (y0, yn)] ?_; exact ⟨[], rfl, rfl, rfl⟩)))
  · simp only [withD, nthD, Step2, nthDst, putO, postD]
    ((first | refine op_pick_true ?_ | refine op_pick_false ?_ | refine op_pick_true' ?_ | refine op_pick_false' ?_); exact ⟨[], rfl, rfl, rfl⟩)
  simp only [FinalsD, nthDst, putO, List.drop_succ_cons, List.drop_zero]
  rintro -
  repeat' first
    | refine tc_seq ?_ | refine tc_region ?_ | refine at_seq_normal ?_ | refine tl_nil ?_ | refine tl_cons ?_ | refine op_move ?_ | refine op_assign ?_ | refine op_load ?_ | refine op_load_agg ?_ | refine op_indexC ?_
    | refine op_indexAddr1 ?_ | refine op_indexAddr ?_ | refine op_icmp ?_ | refine op_fcmp ?_ | refine op_iarith ?_ | refine op_bcmp ?_ | refine op_len_slice ?_ | refine op_pick_true ?_ | refine op_pick_false ?_ | refine op_pick_true' ?_
    | refine op_pick_false' ?_ | refine op_ptr_nil ?_ | refine op_iquo ?_ | refine op_irem ?_ | refine op_ibits ?_ | refine op_slice_isnil ?_ | refine op_slice_notnil ?_ | refine op_shl ?_ | refine op_shr ?_ | (refine op_farith ?_; intro _ _)
    | refine op_loadK rfl ?_ | refine op_load_aggK rfl ?_ | refine tc_ret ?_ | refine at_seq_ret ?_ | refine tl_guard_yes ?_ | refine tl_guard_no ?_ | refine tl_guard_yes' ?_ | refine tl_guard_no' ?_ | refine tl_guard_undef ?_ | refine tl_guard_split (fun _ => ?_) (fun _ => ?_)
  exact ret_tmp (hk := ⟨rfl, rfl⟩)

def NU (u : Value) : Prop := ∀ n, u ≠ .int .u32 n
theorem bufH_skip {e : TypeId} {buf : Buf} {ws : List Value} {H : Heap} (hsp : spP NU buf) (hws : ∀ u ∈ ws, NU u) : ∀ z ∈ bufH e buf ws H, z ∈ H ∨ NoU z := by
  intro z hz
  cases buf with
  | none => exact .inl hz
  | some b =>
    obtain ⟨k, cap, sp⟩ := b
    rcases List.mem_cons.1 hz with h | h
    · right
      subst h
      intro l T fz he x hx
      cases he
      rcases List.mem_append.1 hx with h | h
      · exact hws x h
      · exact hsp x h
    · exact .inl h
theorem bufH_two (e : TypeId) (buf : Buf) (ws : List Value) (x : Nat × Obj) (ex : Heap) (y : Nat × Obj) (H : Heap) : List.Perm (bufH e buf ws (x :: (ex ++ y :: H))) (x :: (ex ++ y :: bufH e buf ws H)) :=
  (bufH_app e buf ws (x :: ex) (y :: H)).trans (List.Perm.append_left (x :: ex) (bufH_swap e buf ws y H))
/-- A list of exact places. -/
def IsPs (G : Heap) (v : Value) (X Y : Nat → Int) (n : Nat) : Prop := ∃ cs, SlN 6 G v n cs ∧ ∀ i, i < n → IsP (X i) (Y i) 0 (.agg ⟨(cs.drop (i * 6)).take 6⟩) G
theorem IsPs.mono {G G' : Heap} {v : Value} {X Y : Nat → Int} {n : Nat} (h : IsPs G v X Y n) (hG : ∀ e ∈ G, e ∈ G') : IsPs G' v X Y n :=
  let ⟨cs, h1, h2⟩ := h; ⟨cs, h1.mono hG, fun i hi => (h2 i hi).mono hG⟩
theorem IsPs.block {G : Heap} {v : Value} {X Y : Nat → Int} {n : Nat} (h : IsPs G v X Y n) (hn : n ≠ 0) :
    ∃ k off l T fz cap, v = .slice (some ⟨k, off, none⟩) n cap ∧ (k, Obj.cells ⟨l⟩ T fz) ∈ G ∧ ∀ i, i < n → ∃ b a s c e b' a' s' c' e', (l.drop (off + i * 6)).take 6 = [.bool b, .slice a s c, .int .i64 e, .bool b', .slice a' s' c', .int .i64 e'] ∧
      IsP (X i) (Y i) 0 (.agg ⟨[.bool b, .slice a s c, .int .i64 e, .bool b', .slice a' s' c', .int .i64 e']⟩) G := by
  obtain ⟨cs, ⟨h0, a, cap, rfl, hc, h2⟩, h3⟩ := h
  obtain ⟨k, off, l, T, fz, rfl, h4, h5⟩ := h2 hn
  refine ⟨k, off, l, T, fz, cap, rfl, h4, fun i hi => ?_⟩
  have hp := h3 i hi
  obtain ⟨b, a, s, c, e, b', a', s', c', e', he, _⟩ := id hp
  rw [he] at hp
  refine ⟨b, a, s, c, e, b', a', s', c', e', ?_, hp⟩
  have he2 : (cs.drop (i * 6)).take 6 = [.bool b, .slice a s c, .int .i64 e, .bool b', .slice a' s' c', .int .i64 e'] := by
    injection he with he
    injection he
  rw [← he2, ← h5, List.drop_take, List.drop_drop, List.take_take]
  congr 1
  omega
set_option maxHeartbeats 8000000 in
theorem exacts (v : Value) (ps : List (Nat × Nat)) (X Y : Nat → Int) (H : Heap) (hv : SlN 2 H v ps.length ((pairs ps).map fl)) (hb : ps.length ≤ 200) (hf : ∀ i x y, ps[i]? = some (x, y) → Fv x ((X i : Int) : Rat) ∧ Fv y ((Y i : Int) : Rat) ∧ x < 18446744073709551616 ∧ y < 18446744073709551616) :
    Does Try.prog 48 [v] H fun w H' => IsPs H' w X Y ps.length ∧ ∃ ex, H' = ex ++ H := by
  obtain ⟨a0, cap0, rfl, _⟩ := hv.val
  refine fn_enter 19 Try.func48 fun W => ?_
  repeat' first
    | refine tc_seq ?_ | refine tc_region ?_ | refine at_seq_normal ?_ | refine tl_nil ?_ | refine tl_cons ?_ | refine tl_cons_none ?_ | refine op_move ?_ | refine op_assign ?_ | refine op_load ?_ | refine op_load_agg ?_
    | refine op_indexC ?_ | refine op_indexAddr1 ?_ | refine op_indexAddr ?_ | refine op_icmp ?_ | refine op_iarith ?_ | refine op_len_slice ?_ | (refine op_alloc ?_; intro _) | (refine op_buildSlice ?_; intro _) | refine op_store0 ?_ | refine op_store1 ?_
    | refine op_store2 ?_ | refine op_store3 ?_ | refine op_store4 ?_ | refine op_store5 ?_ | refine op_storeK rfl ?_ | refine op_loadK rfl ?_ | refine op_load_aggK rfl ?_ | refine tc_cond_t ?_ | refine tc_cond_f ?_ | refine tc_cond (fun _ => ?_) (fun _ => ?_)
    | refine tc_block ?_ | refine tc_skip ?_ | refine tc_ret ?_ | refine tc_exit ?_ | refine at_seq_ret ?_ | refine at_seq_exit ?_ | refine at_block_normal ?_ | refine at_block_ret ?_ | refine at_block_exit_self ?_ | refine at_block_exit_ne ?_
    | refine at_loop_ret ?_ | refine at_loop_exit ?_
  refine tc_loopK [(2, _), (6, _), (7, _)] (by repeat (first | exact trivial | refine ⟨rfl, ?_⟩)) (fun g : Nat × Buf × List Value × Heap => [(8, .int .i64 (g.1 : Int)), (3, bufV g.2.1 g.1)]) (fun g => bufH 71 g.2.1 g.2.2.1 (g.2.2.2 ++ H))
    (fun g => g.1 ≤ ps.length ∧ bufOk 6 g.2.1 g.1 g.2.2.1 ∧ spP NU g.2.1 ∧ (∀ u ∈ g.2.2.1, NU u) ∧ ∀ i, i < g.1 → IsP (X i) (Y i) 0 (.agg ⟨(g.2.2.1.drop (i * 6)).take 6⟩) (g.2.2.2 ++ H)) (fun g => ps.length - g.1) (0, none, [], []) ⟨Nat.zero_le _, ⟨rfl, rfl⟩, trivial, (fun u hu => by cases hu), fun i hi => by simp only at hi; omega⟩ ⟨rfl, rfl, trivial⟩ (List.Sublist.refl _) ?_
  rintro ⟨j, buf, ws, pre⟩ ⟨hj, hok, hsp, hnu, hpt⟩
  simp only at hj hok hsp hnu hpt ⊢
  by_cases hlt : j < ps.length
  · have hlb : icmp .lss (j : Int) (ps.length : Int) = true := by rw [lss_nat]; simpa using hlt
    have t1 : ps[j]? = some ps[j] := List.getElem?_eq_getElem hlt
    generalize ps[j] = p at *
    obtain ⟨x, y⟩ := p
    obtain ⟨k, off, l, T, fz, cap, he, hm, hcut⟩ := SlN.cutPairs hv t1
    cases he
    obtain ⟨f1, f2, b1, b2⟩ := hf _ _ _ t1
    have hm2 : (k, Obj.cells ⟨l⟩ T fz) ∈ bufH 71 buf ws (pre ++ H) := (bufH_sub _ _ _ _).subset (List.mem_append_right _ hm)
    repeat' first
      | (first | refine tc_seq ?_ | refine tc_region ?_ | refine at_seq_normal ?_ | refine tl_nil ?_ | refine tl_cons ?_ | refine tl_cons_none ?_ | refine op_move ?_ | refine op_assign ?_ | refine op_load ?_ | refine op_load_agg ?_ | refine op_indexC ?_ | refine op_indexAddr1 ?_ | refine op_indexAddr ?_ | refine op_icmp ?_ | refine op_iarith ?_ | refine op_len_slice ?_ | (refine op_alloc ?_; intro _) | (refine op_buildSlice ?_; intro _) | refine op_store0 ?_ | refine op_store1 ?_ | refine op_store2 ?_ | refine op_store3 ?_ | refine op_store4 ?_ | refine op_store5 ?_ | refine op_storeK rfl ?_ | refine op_loadK rfl ?_ | refine op_load_aggK rfl ?_ | refine tc_cond_t ?_ | refine tc_cond_f ?_ | refine tc_cond (fun _ => ?_) (fun _ => ?_) | refine tc_block ?_ | refine tc_skip ?_ | refine tc_ret ?_ | refine tc_exit ?_ | refine at_seq_ret ?_ | refine at_seq_exit ?_ | refine at_block_normal ?_ | refine at_block_ret ?_ | refine at_block_exit_self ?_ | refine at_block_exit_ne ?_ | refine at_loop_ret ?_ | refine at_loop_exit ?_ | fail)
      | (refine op_call ((exactly x y _ _ _ f1 f2 b1 b2).mono ?_); rintro w _ ⟨ex, rfl, hw⟩; obtain ⟨vb, va, vs, vc, ve, vb', va', vs', vc', ve', rfl, _⟩ := id hw)
      | fail
    rename_i k5 hxx kn
    clear hxx
    refine op_perm (bufH_two _ _ _ _ _ _ _) ?_
    refine op_appendP NU buf j ws [.bool vb, .slice va vs vc, .int .i64 ve, .bool vb', .slice va' vs' vc', .int .i64 ve'] (m := 1) (s := 6) hok hsp (by intro u hu n he; subst he; simp at hu) (fun buf' hok' hsp' => ?_) (by exact rfl) (by exact rfl) (List.Sublist.refl _) ((bufH_sub _ _ _ _).subset List.mem_cons_self) rfl rfl (by intro u hu; simp only [List.mem_cons, List.not_mem_nil, or_false] at hu; rcases hu with rfl | rfl | rfl | rfl | rfl | rfl <;> rfl) (by decide) (by simp only [maxLen]; omega) (by omega)
    repeat' first
      | (first | refine tc_seq ?_ | refine tc_region ?_ | refine at_seq_normal ?_ | refine tl_nil ?_ | refine tl_cons ?_ | refine tl_cons_none ?_ | refine op_move ?_ | refine op_assign ?_ | refine op_load ?_ | refine op_load_agg ?_ | refine op_indexC ?_ | refine op_indexAddr1 ?_ | refine op_indexAddr ?_ | refine op_icmp ?_ | refine op_iarith ?_ | refine op_len_slice ?_ | (refine op_alloc ?_; intro _) | (refine op_buildSlice ?_; intro _) | refine op_store0 ?_ | refine op_store1 ?_ | refine op_store2 ?_ | refine op_store3 ?_ | refine op_store4 ?_ | refine op_store5 ?_ | refine op_storeK rfl ?_ | refine op_loadK rfl ?_ | refine op_load_aggK rfl ?_ | refine tc_cond_t ?_ | refine tc_cond_f ?_ | refine tc_cond (fun _ => ?_) (fun _ => ?_) | refine tc_block ?_ | refine tc_skip ?_ | refine tc_ret ?_ | refine tc_exit ?_ | refine at_seq_ret ?_ | refine at_seq_exit ?_ | refine at_block_normal ?_ | refine at_block_ret ?_ | refine at_block_exit_self ?_ | refine at_block_exit_ne ?_ | refine at_loop_ret ?_ | refine at_loop_exit ?_ | fail)
      | fail
    have hwl : ws.length = j * 6 := by
      have h := hok'
      cases buf' with
      | none => exact absurd h.1 (by omega)
      | some b => have h3 := h.2.2.1; rw [List.length_append] at h3; simp only [List.length_cons, List.length_nil] at h3; omega
    refine at_loopK (j + 1, buf', ws ++ [.bool vb, .slice va vs vc, .int .i64 ve, .bool vb', .slice va' vs' vc', .int .i64 ve'], (kn, _) :: (ex ++ (k5, _) :: pre)) ⟨hlt, hok', hsp', ?_, ?_⟩ (by simp only; omega) ⟨next_nat (by omega), rfl, trivial⟩ (by repeat (first | exact trivial | refine ⟨rfl, ?_⟩)) (by simp only [List.cons_append, List.append_assoc]; exact List.Sublist.refl _)
    · intro u hu
      rcases List.mem_append.1 hu with h | h
      · exact hnu u h
      · intro n he
        subst he
        simp at h
    · intro i hi
      simp only at hi ⊢
      rcases Nat.lt_or_ge i j with h | h
      · have e : ((ws ++ ([.bool vb, .slice va vs vc, .int .i64 ve, .bool vb', .slice va' vs' vc', .int .i64 ve'] : List Value)).drop (i * 6)).take 6 = (ws.drop (i * 6)).take 6 := by
          rw [List.drop_append_of_le_length (by omega), List.take_append_of_le_length (by rw [List.length_drop]; omega)]
        rw [e]
        exact (hpt i h).mono fun z hz => by
          rcases List.mem_append.1 hz with h | h <;> simp [h]
      · obtain rfl : i = j := by omega
        have e : ((ws ++ ([.bool vb, .slice va vs vc, .int .i64 ve, .bool vb', .slice va' vs' vc', .int .i64 ve'] : List Value)).drop (i * 6)).take 6 = ([.bool vb, .slice va vs vc, .int .i64 ve, .bool vb', .slice va' vs' vc', .int .i64 ve'] : List Value) := by
          rw [← hwl, List.drop_left]; rfl
        rw [e]
        refine hw.skip fun z hz => ?_
        rcases List.mem_append.1 hz with h | h
        · exact .inl (by simp [h])
        · rcases List.mem_cons.1 h with h | h
          · exact .inl (by simp [h])
          · rcases bufH_skip hsp hnu z h with h | h
            · rcases List.mem_append.1 h with h | h <;> exact .inl (by simp [h])
            · exact .inr h
  · have hlb : icmp .lss (j : Int) (ps.length : Int) = false := by rw [lss_nat]; simpa using hlt
    obtain rfl : j = ps.length := by omega
    have hsl := sln_buf (e := 71) (H := pre ++ H) hok
    repeat' first
      | refine tc_seq ?_ | refine tc_region ?_ | refine at_seq_normal ?_ | refine tl_nil ?_ | refine tl_cons ?_ | refine tl_cons_none ?_ | refine op_move ?_ | refine op_assign ?_ | refine op_load ?_ | refine op_load_agg ?_
      | refine op_indexC ?_ | refine op_indexAddr1 ?_ | refine op_indexAddr ?_ | refine op_icmp ?_ | refine op_iarith ?_ | refine op_len_slice ?_ | (refine op_alloc ?_; intro _) | (refine op_buildSlice ?_; intro _) | refine op_store0 ?_ | refine op_store1 ?_
      | refine op_store2 ?_ | refine op_store3 ?_ | refine op_store4 ?_ | refine op_store5 ?_ | refine op_storeK rfl ?_ | refine op_loadK rfl ?_ | refine op_load_aggK rfl ?_ | refine tc_cond_t ?_ | refine tc_cond_f ?_ | refine tc_cond (fun _ => ?_) (fun _ => ?_)
      | refine tc_block ?_ | refine tc_skip ?_ | refine tc_ret ?_ | refine tc_exit ?_ | refine at_seq_ret ?_ | refine at_seq_exit ?_ | refine at_block_normal ?_ | refine at_block_ret ?_ | refine at_block_exit_self ?_ | refine at_block_exit_ne ?_
      | refine at_loop_ret ?_ | refine at_loop_exit ?_
    refine ret_tmp (hG := List.Sublist.refl _) (hk := ⟨⟨ws, hsl, fun i hi => (hpt i hi).mono fun e he => (bufH_sub _ _ _ _).subset he⟩, ?_⟩)
    cases buf with
    | none => exact ⟨pre, rfl⟩
    | some b => exact ⟨_ :: pre, rfl⟩
theorem onB_int (a b x1 y1 x2 y2 : Int) : onB (a : Rat) (b : Rat) (x1 : Rat) (y1 : Rat) (x2 : Rat) (y2 : Rat) = decide (OnI a b x1 y1 x2 y2) := by
  have e : ∀ x y : Int, ((x : Rat) - (y : Rat) ≤ 0) ↔ x ≤ y := fun x y => by
    rw [← Rat.intCast_sub]
    constructor
    · intro h
      have : x - y ≤ 0 := by exact_mod_cast h
      omega
    · intro h
      exact_mod_cast (show x - y ≤ 0 by omega)
  have e0 : ((x2 : Rat) - x1) * (b - y1) - (y2 - y1) * (a - x1) = (((x2 - x1) * (b - y1) - (y2 - y1) * (a - x1) : Int) : Rat) := by simp only [Rat.intCast_sub, Rat.intCast_mul]
  unfold onB btwB
  rw [e0, Bool.eq_iff_iff]
  simp only [Bool.or_eq_true, Bool.and_eq_true, decide_eq_true_eq, e]
  have e1 : ((((x2 - x1) * (b - y1) - (y2 - y1) * (a - x1) : Int) : Rat) = 0) ↔ ((x2 - x1) * (b - y1) - (y2 - y1) * (a - x1) = 0) := by
    constructor
    · intro h; exact_mod_cast h
    · intro h; rw [h]; rfl
  rw [e1]
  unfold OnI
  constructor
  · rintro ⟨⟨h1, h2⟩, h3⟩; exact ⟨h1, h2, h3⟩
  · rintro ⟨h1, h2, h3⟩; exact ⟨⟨h1, h2⟩, h3⟩
theorem gt_int (x y : Int) : icmp .gtr (sgQ ((x : Rat) - (y : Rat))) 0 = decide (y < x) := by
  rw [sgQ_gtr, ← Rat.intCast_sub, Bool.eq_iff_iff]
  simp only [decide_eq_true_eq]
  constructor
  · intro h
    have : 0 < x - y := by exact_mod_cast h
    omega
  · intro h
    exact_mod_cast (show 0 < x - y by omega)
theorem turn_int (a b x1 y1 x2 y2 : Int) : icmp .gtr (sgQ (((x2 : Rat) - x1) * (b - y1) - (y2 - y1) * (a - x1))) 0 = decide (0 < (x2 - x1) * (b - y1) - (y2 - y1) * (a - x1)) := by
  have e0 : ((x2 : Rat) - x1) * (b - y1) - (y2 - y1) * (a - x1) = (((x2 - x1) * (b - y1) - (y2 - y1) * (a - x1) : Int) : Rat) := by simp only [Rat.intCast_sub, Rat.intCast_mul]
  rw [e0, sgQ_gtr, Bool.eq_iff_iff]
  simp only [decide_eq_true_eq]
  constructor
  · intro h; exact_mod_cast h
  · intro h; exact_mod_cast h
end Go.Proofs.Ytomhkbijijdghaa.Rno
