/-
  A region in an order left open with one store in it: what lies in the block ahead of the store and behind it. No conditions.
-/
import Derived.Test.YthafjfgmbmpfoaaLg20
set_option linter.unusedVariables false
set_option linter.unusedSimpArgs false
namespace Go.Lg
section draw
variable {P : Program} {W : World} {n : Nat} {ds : List Deferred} {Q : Exit → Act → World → Prop} {E0 : Env} {H H' R : Heap}

/-- A word on a value that does not look at memory. -/
def Phi.Const (φ : Phi) : Prop := ∀ v ex G G', φ v ex G → φ v ex G'
def Consts : List Phi → Prop
  | [] => True
  | φ :: φs => Phi.Const φ ∧ Consts φs
theorem Consts.all {φs : List Phi} (h : Consts φs) : ∀ φ ∈ φs, Phi.Const φ := by
  induction φs with
  | nil => intro φ h; cases h
  | cons x xs ih =>
    intro φ hφ
    cases hφ with
    | head => exact h.1
    | tail _ h' => exact ih h.2 φ h'
theorem is_const (v0 : Value) : Phi.Const (is v0) := fun _ _ _ _ h => h
theorem fresh_const (f : Nat → Value) (o : Obj) : Phi.Const (fresh f o) := fun _ _ _ _ h => h
theorem some_const (p : Value → Heap → Prop) : Phi.Const (some' p) := fun _ _ _ _ h => h

theorem made_app (outs : Nat → Value × Heap) (f : Nat → Bool) (m : Nat) (H : Heap) : made outs f m H = made outs f m [] ++ H := by
  induction m with
  | zero => rfl
  | succ m ih => simp only [made]; rw [ih, List.append_assoc]

/-- Of operation i: 1: ahead of the store (number s), 2: behind it, 3: the store, 0: it does not look at what the store writes. -/
def clsOk (l : List Oper) (m s : Nat) (cls : List Nat) : Bool :=
  decide (s < m) && (List.range m).all fun i => match cls[i]? with
    | some 3 => i == s && (match l[i]? with | some o => o.guard.isNone | none => false)
    | some 1 => i != s && reachB l 9 s i
    | some 2 => i != s && reachB l 9 i s
    | some _ => i != s
    | none => false

def PremS (P : Program) (W : World) (n : Nat) (ds : List Deferred) (l : List Oper) (Φ : Nat → Phi) (E0 : Env) (R H H' : Heap) (i : Nat) (o : Oper) (c : Nat) : Prop :=
  match c with
  | 3 => ∀ ex, withPreds l Φ (ex ++ H) (preds o) E0 fun E => OpT P W n ds o E (ex ++ H) fun v G' => G' = ex ++ H' ∧ Φ i v [] G'
  | 1 => ∀ G, (∀ e ∈ H, e ∈ G) → withPreds l Φ G (preds o) E0 fun E => StepG P W n ds l o E G fun v G' => ∃ ex, G' = ex ++ G ∧ Φ i v ex G'
  | 2 => ∀ G, (∀ e ∈ H', e ∈ G) → withPreds l Φ G (preds o) E0 fun E => StepG P W n ds l o E G fun v G' => ∃ ex, G' = ex ++ G ∧ Φ i v ex G'
  | _ => ∀ G, (∀ e ∈ R, e ∈ G) → withPreds l Φ G (preds o) E0 fun E => StepG P W n ds l o E G fun v G' => ∃ ex, G' = ex ++ G ∧ Φ i v ex G'

theorem reach_lt {l : List Oper} {m : Nat} (hE : edgesOk l m = true) : ∀ (k i j : Nat), reachB l k i j = true → j < i := by
  intro k
  induction k with
  | zero => intro i j h; cases h
  | succ k ih =>
    intro i j h
    unfold reachB at h
    cases ho : l[i]? with
    | none => rw [ho] at h; cases h
    | some o =>
      rw [ho] at h
      simp only [Bool.or_eq_true, List.any_eq_true, List.contains_iff_mem] at h
      have hb := (binds_any_mem hE ho).1
      rcases h with h | ⟨p, hp, h⟩
      · exact hb j h
      · exact Nat.lt_trans (ih p j h) (hb p hp)

/-- The listed operations are closed: what is listed has all that it reaches. -/
theorem listed_reach {l : List Oper} {listed : Array Bool} (hc : Closed l listed) (k i j : Nat) (hi : listed.getD i false = true) (hr : reachB l k i j = true) : listed.getD j false = true := by
  cases k with
  | zero => cases hr
  | succ k =>
    cases ho : l[i]? with
    | none => unfold reachB at hr; rw [ho] at hr; cases hr
    | some o => exact reach_listed hc (k + 1) i j o ho (hc i o ho hi) hr

theorem tc_drawS {id : Nat} {l : List Oper} (m s : Nat) (Φs : List Phi) (cls : List Nat) (hm : P.follows .mixedOrders = true) (hE : edgesOk l m = true) (hD : dstsOk l m n E0 = true)
    (hlen : Φs.length = m) (hml : m ≤ l.length) (hcst : Consts Φs) (hcl0 : clsOk l m s cls = true) (hRH : Sub R H) (hRH' : Sub R H')
    (prem : ∀ i o c, i < m → l[i]? = some o → cls[i]? = some c → PremS P W n ds l (fun i => Φs.getD i (is undef)) E0 R H H' i o c)
    (fin : Finals l (fun E G => TL P W n ds l Q (l.drop m) E G) 0 Φs E0 H' (fun _ => True)) :
    TC P W n ds (.region id l.toArray true) Q E0 H := by
  have hconst := hcst.all
  simp only [clsOk, Bool.and_eq_true, decide_eq_true_eq, List.all_eq_true, List.mem_range] at hcl0
  obtain ⟨hsm, hcl1⟩ := hcl0
  refine ⟨fun a0 w0 ho0 hs0 => ?_⟩
  refine wp_region_any hm ?_
  have hΦ : ∀ i, i < m → Phi.Const (Φs.getD i (is undef)) := fun i hi => by
    rw [List.getD_eq_getElem?_getD, List.getElem?_eq_getElem (by omega)]
    exact hconst _ (List.getElem_mem _)
  let B : Bool → Heap := fun b => if b then H' else H
  have complete : ∀ (fuel : Nat) (listed : Array Bool) (outs : Nat → Value × Heap) (a : Act) (w : World), listed.size = l.length → Closed l listed →
      fuel = listed.toList.countP (fun b => !b) → (∀ i, m ≤ i → i < l.length → listed[i]? = some false) → Ok n ds E0 a →
      Sees W (made outs (fun i => listed.getD i false) m (B (listed.getD s false))) w →
      (∀ i, i < m → listed.getD i false = true → (∀ G, (Φs.getD i (is undef)) (outs i).1 (outs i).2 G) ∧ ∀ d, dstOf l i = some d → a.tmps[d]? = some (outs i).1) →
      (∀ i, i < m → listed.getD i false = true) → wpAny P .any l.toArray Q fuel listed a w := by
    intro fuel listed outs a w hsz hcl hf h2 ho hs hinv hc
    have hget : ∀ i, i < m → listed[i]? = some true := fun i hi => by
      have hb : i < listed.size := by omega
      have := hc i hi
      rw [Array.getElem?_eq_getElem hb]
      simpa [Array.getD, hb] using this
    rw [hc s hsm] at hs
    have hmade : made outs (fun i => listed.getD i false) m (B true) = made outs (fun _ => true) m H' := made_congr _ _ fun i hi => ⟨hc i hi, fun _ => rfl⟩
    rw [hmade] at hs
    obtain ⟨E', hK, ho'⟩ := finals_done (n := n) (ds := ds) (H := H') (outs := outs) (a := a) Φs 0 E0 _ fin (fun j φ hj => by
        have hjm : j < m := by
          rcases Nat.lt_or_ge j m with h | h
          · exact h
          · rw [List.getElem?_eq_none (by omega)] at hj; cases hj
        have := (hinv j hjm (hc j hjm)).1 (made outs (fun _ => true) (0 + Φs.length) H')
        rw [List.getD_eq_getElem?_getD, hj] at this
        simpa using this) trivial ho (fun j _ hj d hd => (hinv j (by omega) (hc j (by omega))).2 d hd)
    rw [Nat.zero_add, hlen] at hK
    refine any_of_tail hE fuel m listed a w hsz hcl ?_ (Nat.le_refl _) hget h2 (hK.run a w ho' hs)
    rw [hf]
    have := count_split (l := listed.toList) (m := m) (by simp; omega) (fun i hi => by simpa using hget i hi) (fun i hi hi' => by simpa using h2 i hi (by simpa [hsz] using hi'))
    simpa [hsz] using this
  have head : ∀ (fuel : Nat) (listed : Array Bool) (outs : Nat → Value × Heap) (a : Act) (w : World), listed.size = l.length → Closed l listed →
      fuel = listed.toList.countP (fun b => !b) → (∀ i, m ≤ i → i < l.length → listed[i]? = some false) → Ok n ds E0 a →
      Sees W (made outs (fun i => listed.getD i false) m (B (listed.getD s false))) w →
      (∀ i, i < m → listed.getD i false = true → (∀ G, (Φs.getD i (is undef)) (outs i).1 (outs i).2 G) ∧ ∀ d, dstOf l i = some d → a.tmps[d]? = some (outs i).1) →
      wpAny P .any l.toArray Q fuel listed a w := by
    intro fuel
    induction fuel with
    | zero =>
      intro listed outs a w hsz hcl hf h2 ho hs hinv
      refine complete 0 listed outs a w hsz hcl hf h2 ho hs hinv fun i hi => ?_
      have := List.countP_eq_zero.1 hf.symm
      have hb : i < listed.size := by omega
      have := this listed[i] (by simp [Array.getElem_mem])
      simpa [Array.getD, hb] using this
    | succ fuel ih =>
      intro listed outs a w hsz hcl hf h2 ho hs hinv
      by_cases hc : ∀ i, i < m → listed.getD i false = true
      · exact complete _ listed outs a w hsz hcl hf h2 ho hs hinv hc
      have hex : ∃ i, i < m ∧ ¬ listed.getD i false = true := by
        apply Classical.byContradiction
        intro h
        exact hc fun i hi => Classical.byContradiction fun h' => h ⟨i, hi, h'⟩
      obtain ⟨i0, hi0, hn0, hb0⟩ := least (p := fun i => listed.getD i false = true) m hex
      have hunl : ∀ i, i < l.length → ¬ listed.getD i false = true → listed[i]? = some false := fun i hi h => by
        have hb : i < listed.size := by omega
        rw [Array.getElem?_eq_getElem hb]
        simpa [Array.getD, hb] using h
      refine ⟨fun hr => ?_, fun i hi => ?_⟩
      · have hget : l[i0]? = some l[i0] := List.getElem?_eq_getElem (by omega)
        have : i0 ∈ Region.ready .any l.toArray listed := (ready_iff hsz).2 ⟨by omega, hunl i0 (by omega) hn0, _, hget, fun j hj => hb0 j ((binds_any_mem hE hget).1 j hj)⟩
        rw [hr] at this; cases this
      · obtain ⟨hi1, hi2, o, hoi, hp⟩ := (ready_iff hsz).1 hi
        have him : i < m := by
          rcases Nat.lt_or_ge i m with h | h
          · exact h
          · exact (hn0 (reach_listed hcl 9 i i0 o hoi hp ((binds_any_mem hE hoi).2 h i0 (by omega)))).elim
        have hif : listed.getD i false = false := by rw [Array.getD_eq_getD_getElem?, hi2]; rfl
        have hdst : dstOf l i = o.dst := by simp [dstOf, hoi]
        have hgd : ∀ j, (listed.setIfInBounds i true).getD j false = (j == i || listed.getD j false) := fun j => by
          rw [Array.getD_eq_getD_getElem?, Array.getElem?_setIfInBounds, Array.getD_eq_getD_getElem?]
          by_cases e : i = j
          · subst e; simp [hsz, hi1]
          · rw [if_neg e]
            have : (j == i) = false := by simp; exact fun h => e h.symm
            simp [this]
        have step : ∀ v ex w', Sees W (ex ++ made outs (fun i => listed.getD i false) m (B ((listed.setIfInBounds i true).getD s false))) w' → (∀ G, (Φs.getD i (is undef)) v ex G) →
            wpAny P .any l.toArray Q fuel (listed.setIfInBounds i true) (a.put o.dst v) w' := by
          intro v ex w' hs' hφ
          have hperm := made_add (outs := outs) (f := fun j => listed.getD j false) (v, ex) m (B ((listed.setIfInBounds i true).getD s false)) him hif
          have hmm : ∀ HH, made (fun j => if j = i then (v, ex) else outs j) (fun j => (listed.setIfInBounds i true).getD j false) m HH = made (fun j => if j = i then (v, ex) else outs j) (fun j => j == i || listed.getD j false) m HH :=
            fun HH => made_congr _ _ fun j _ => ⟨hgd j, fun _ => rfl⟩
          refine ih _ (fun j => if j = i then (v, ex) else outs j) _ _ (by simpa using hsz) (hcl.set (fun o' ho' j hj => by rw [hoi] at ho'; cases ho'; exact hp j hj) (by omega)) ?_ ?_ ?_ ?_ ?_
          · have := count_set (l := listed.toList) (i := i) (by simpa using hi2)
            simp only [Array.toList_setIfInBounds]
            omega
          · intro j hj hj'
            rw [Array.getElem?_setIfInBounds, if_neg (by omega)]; exact h2 j hj hj'
          · refine ho.put_off (fun d hd => (dsts_get hD him hoi hd).2.1) v
          · rw [hmm]; exact hs'.perm hperm
          · intro j hj hl
            by_cases e : j = i
            · subst e
              rw [if_pos rfl]
              refine ⟨hφ, fun d hd => ?_⟩
              rw [hdst] at hd
              have := dsts_get hD hj hoi hd
              simp [Act.put, hd, ho.size, this.1]
            · rw [if_neg e]
              have hl' : listed.getD j false = true := by
                rw [hgd j] at hl; simpa [e] using hl
              obtain ⟨h3, h4⟩ := hinv j hj hl'
              refine ⟨h3, fun d hd => ?_⟩
              cases hod : o.dst with
              | none => exact h4 d hd
              | some d' =>
                have := (dsts_get hD him hoi hod).2.2 j hj e
                have hne : d' ≠ d := fun e => this (by rw [hd, e])
                simp [Act.put, hne, h4 d hd]
        have hcls := hcl1 i him
        cases hci : cls[i]? with
        | none => rw [hci] at hcls; cases hcls
        | some c =>
        rw [hci] at hcls
        have hpr := prem i o c him hoi hci
        have hpreds : ∀ (HH : Heap), ∀ j ∈ preds o, (Φs.getD j (is undef)) (outs j).1 (outs j).2 (made outs (fun i => listed.getD i false) m HH) ∧ (∀ e ∈ (outs j).2, e ∈ made outs (fun i => listed.getD i false) m HH) ∧ ∀ d, dstOf l j = some d → a.tmps[d]? = some (outs j).1 := fun HH j hj => by
          have hjm : j < m := Nat.lt_trans ((binds_any_mem hE hoi).1 j hj) him
          obtain ⟨h3, h4⟩ := hinv j hjm (hp j hj)
          exact ⟨h3 _, made_sub m HH hjm (hp j hj), h4⟩
        by_cases h3 : c = 3
        · -- the store
          subst h3
          simp only [Bool.and_eq_true, beq_iff_eq, hoi] at hcls
          obtain ⟨rfl, hgn⟩ := hcls
          have hg : o.guard = none := by simpa using hgn
          rw [hif] at hs
          have hs2 : Sees W (made outs (fun i => listed.getD i false) m [] ++ H) w := by rw [← made_app]; exact hs
          have hpr2 := hpr (made outs (fun i => listed.getD i false) m [])
          rw [← made_app] at hpr2
          obtain ⟨E', hst, ho'⟩ := ok_of_withPreds (n := n) (ds := ds) (a := a) (outs := outs) _ _ hpr2 (hpreds H) ho
          unfold wpOp
          simp only [List.getElem?_toArray, hoi]
          rw [if_pos (by simp [Region.wanted, hg])]
          refine .inl (hst.run a w _ Q ho' hs fun v G' w' hs' ⟨hG', hφ⟩ => step v [] w' ?_ fun G => hΦ i him _ _ _ _ hφ)
          have e1 : (listed.setIfInBounds i true).getD i false = true := by rw [hgd]; simp
          rw [e1, List.nil_append, made_app]
          subst hG'
          exact hs'
        · -- any other
          have his : i ≠ s := by
            match c, h3, hcls with
            | 0, _, h => simpa using h
            | 1, _, h => simp only [Bool.and_eq_true, bne_iff_ne] at h; exact h.1
            | 2, _, h => simp only [Bool.and_eq_true, bne_iff_ne] at h; exact h.1
            | c + 4, _, h => simpa using h
          have hsi : (listed.setIfInBounds i true).getD s false = listed.getD s false := by
            rw [hgd]; have : (s == i) = false := by simp; exact fun h => his h.symm
            simp [this]
          rw [hsi] at step
          have hG : withPreds l (fun i => Φs.getD i (is undef)) (made outs (fun i => listed.getD i false) m (B (listed.getD s false))) (preds o) E0 fun E => StepG P W n ds l o E (made outs (fun i => listed.getD i false) m (B (listed.getD s false))) fun v G' => ∃ ex, G' = ex ++ (made outs (fun i => listed.getD i false) m (B (listed.getD s false))) ∧ (Φs.getD i (is undef)) v ex G' := by
            match c, h3, hcls, hpr with
            | 0, _, _, hpr => exact hpr _ fun e he => made_base m _ e (by cases listed.getD s false <;> first | exact hRH e he | exact hRH' e he)
            | c + 4, _, _, hpr => exact hpr _ fun e he => made_base m _ e (by cases listed.getD s false <;> first | exact hRH e he | exact hRH' e he)
            | 1, _, h, hpr =>
              simp only [Bool.and_eq_true] at h
              have hsf : listed.getD s false = false := by
                cases hh : listed.getD s false with
                | false => rfl
                | true => have := listed_reach hcl 9 s i hh h.2; rw [this] at hif; cases hif
              refine hpr _ fun e he => made_base m _ e ?_
              rw [hsf]; exact he
            | 2, _, h, hpr =>
              simp only [Bool.and_eq_true] at h
              have hst : listed.getD s false = true := reach_listed hcl 9 i s o hoi hp h.2
              refine hpr _ fun e he => made_base m _ e ?_
              rw [hst]; exact he
          obtain ⟨E', hst, ho'⟩ := ok_of_withPreds (n := n) (ds := ds) (a := a) (outs := outs) _ _ hG (hpreds _) ho
          unfold wpOp
          simp only [List.getElem?_toArray, hoi]
          unfold StepG at hst
          split at hst
          · rename_i hg
            rw [if_pos (by simp [Region.wanted, hg])]
            exact .inl (hst.run a w _ Q ho' hs fun v G' w' hs' ⟨ex, hG', hφ⟩ => step v ex w' (hG' ▸ hs') fun G => hΦ i him _ _ _ _ hφ)
          · rename_i j want hg
            rcases hst with ⟨dj, b, hdj, hbj, hy, hno⟩ | ⟨dj, hdj, hbj, hno⟩
            · have hyl : yielded l.toArray a.tmps j = some b := by
                have h5 := ho'.get _ _ hbj
                simp only [dstOf] at hdj
                simp [yielded, hdj, h5]
              by_cases hbw : b = want
              · rw [if_pos (by simp [Region.wanted, hg, hyl, hbw])]
                exact .inl ((hy hbw).run a w _ Q ho' hs fun v G' w' hs' ⟨ex, hG', hφ⟩ => step v ex w' (hG' ▸ hs') fun G => hΦ i him _ _ _ _ hφ)
              · rw [if_neg (by simp [Region.wanted, hg, hyl, hbw])]
                obtain ⟨ex, hG', hφ⟩ := hno (by cases b <;> cases want <;> simp_all)
                exact step undef ex w (hG' ▸ hs) fun G => hΦ i him _ _ _ _ hφ
            · have hyl : yielded l.toArray a.tmps j = none := by
                have h5 := ho'.get _ _ hbj
                simp only [dstOf] at hdj
                simp [yielded, hdj, h5, undef]
              rw [if_neg (by simp [Region.wanted, hg, hyl])]
              obtain ⟨ex, hG', hφ⟩ := hno
              exact step undef ex w (hG' ▸ hs) fun G => hΦ i him _ _ _ _ hφ
  refine head l.length (Array.replicate l.length false) (fun _ => (undef, [])) a0 _ (by simp) (fun i o _ h => by rw [Array.getD_eq_getD_getElem?, Array.getElem?_replicate] at h; split at h <;> cases h) (by simp [List.countP_replicate]) (fun i _ hi => by simp [hi]) ho0 ?_ ?_
  · have e1 : (Array.replicate l.length false).getD s false = false := by rw [Array.getD_eq_getD_getElem?, Array.getElem?_replicate]; split <;> rfl
    rw [e1, made_none]; exact hs0.drew _
  · intro i hi hl
    simp only [Array.getD_eq_getD_getElem?, Array.getElem?_replicate] at hl
    split at hl <;> cases hl

/-! In a form that is easy to read at a region written out. -/
def Prems3 (P : Program) (W : World) (n : Nat) (ds : List Deferred) (dl : List (Option Tmp)) (Φs : List Phi) (E0 : Env) (R H H' : Heap) : Nat → List Oper → List (List Nat) → List Nat → Prop
  | i, o :: os, js :: jss, c :: cs =>
    (match c with
      | 3 => ∀ ex, with2 dl Φs (ex ++ H) js E0 fun E => OpT P W n ds o E (ex ++ H) fun v G' => G' = ex ++ H' ∧ nthPhi Φs i v [] G'
      | 1 => ∀ G, Sub H G → with2 dl Φs G js E0 fun E => Step2 P W n ds dl o E G fun v G' => ∃ ex, G' = ex ++ G ∧ nthPhi Φs i v ex G'
      | 2 => ∀ G, Sub H' G → with2 dl Φs G js E0 fun E => Step2 P W n ds dl o E G fun v G' => ∃ ex, G' = ex ++ G ∧ nthPhi Φs i v ex G'
      | _ => ∀ G, Sub R G → with2 dl Φs G js E0 fun E => Step2 P W n ds dl o E G fun v G' => ∃ ex, G' = ex ++ G ∧ nthPhi Φs i v ex G') ∧ Prems3 P W n ds dl Φs E0 R H H' (i + 1) os jss cs
  | _, _, _, _ => True

theorem step2_eq {l : List Oper} (o : Oper) (E : Env) (G : Heap) (K : Value → Heap → Prop) : Step2 P W n ds (l.map (·.dst)) o E G K = StepG P W n ds l o E G K := by
  unfold Step2 StepG; simp only [nthDst_eq]

theorem prems3_prems {l : List Oper} {Φs : List Phi} : ∀ (os : List Oper) (k : Nat) (cls : List Nat), Prems3 P W n ds (l.map (·.dst)) Φs E0 R H H' k os (os.map preds) cls →
    ∀ i o c, os[i]? = some o → cls[i]? = some c → PremS P W n ds l (fun i => Φs.getD i (is undef)) E0 R H H' (k + i) o c := by
  intro os
  induction os with
  | nil => intro k cls _ i o c h; simp at h
  | cons x xs ih =>
    intro k cls h i o c ho hc
    cases cls with
    | nil => simp at hc
    | cons c0 cs =>
      cases i with
      | succ i => have := ih (k + 1) cs h.2 i o c (by simpa using ho) (by simpa using hc); rwa [show k + 1 + i = k + (i + 1) by omega] at this
      | zero =>
        simp at ho hc
        subst ho; subst hc
        have h1 := h.1
        match c0, h1 with
        | 3, h1 => intro ex; have := h1 ex; rw [with2_eq] at this; simp only [nthPhi_eq] at this ⊢; exact this
        | 1, h1 => intro G hG; have := h1 G hG; rw [with2_eq] at this; simp only [nthPhi_eq, step2_eq] at this ⊢; exact this
        | 2, h1 => intro G hG; have := h1 G hG; rw [with2_eq] at this; simp only [nthPhi_eq, step2_eq] at this ⊢; exact this
        | 0, h1 => intro G hG; have := h1 G hG; rw [with2_eq] at this; simp only [nthPhi_eq, step2_eq] at this ⊢; exact this
        | c + 4, h1 => intro G hG; have := h1 G hG; rw [with2_eq] at this; simp only [nthPhi_eq, step2_eq] at this ⊢; exact this

theorem tc_drawnS {id : Nat} {l : List Oper} (m s : Nat) {kb : Nat} {ob ob' : Obj} (Φs : List Phi) (dl : List (Option Tmp)) (prs : List (List Nat)) (cls : List Nat) (hm : P.follows .mixedOrders = true) (hcst : Consts Φs)
    (prem : Prems3 P W n ds dl Φs E0 R ((kb, ob) :: R) ((kb, ob') :: R) 0 (l.take m) prs cls)
    (fin : Finals2 dl (fun E G => TL P W n ds l Q (l.drop m) E G) 0 Φs E0 ((kb, ob') :: R) (fun _ => True))
    (hE : edgesOk l m = true := by exact rfl) (hD : dstsOk l m n E0 = true := by exact rfl)
    (hlen : Φs.length = m := by exact rfl) (hml : m ≤ l.length := by exact Nat.le_of_ble_eq_true rfl) (hdl : l.map (·.dst) = dl := by exact rfl) (hpr : (l.take m).map preds = prs := by exact rfl) (hcl : clsOk l m s cls = true := by exact rfl) :
    TC P W n ds (.region id l.toArray true) Q E0 ((kb, ob) :: R) := by
  subst hdl
  subst hpr
  refine tc_drawS (R := R) (H' := (kb, ob') :: R) m s Φs cls hm hE hD hlen hml hcst hcl (fun e he => List.mem_cons_of_mem _ he) (fun e he => List.mem_cons_of_mem _ he) ?_ (by rw [← finals2_eq]; exact fin)
  intro i o c hi ho hc
  have := prems3_prems (l.take m) 0 cls prem i o c (by rw [List.getElem?_take]; simp [hi, ho]) hc
  rwa [Nat.zero_add] at this
end draw
end Go.Lg
