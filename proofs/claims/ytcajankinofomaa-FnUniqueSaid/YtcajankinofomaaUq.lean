/-
  Places in a row, compared by keys (plain law): the order of lists of numbers, a search tree of places, the first ones.
-/
import Derived.Test.YtcajankinofomaaFl5
set_option linter.unusedVariables false
set_option linter.unusedSimpArgs false
namespace Go.Proofs.Ytcajankinofomaa.Uq
open Go.Lg

noncomputable def kk (x : Nat) : Rat := open Classical in if h : ∃ q, Kx x q then Classical.choose h else 0
theorem kk_spec {x : Nat} (h : ∃ q, Kx x q) : Kx x (kk x) := by
  unfold kk; rw [dif_pos h]; exact Classical.choose_spec h

/-- A row of s numbers, none of them NaN. -/
def Num (s : Nat) (x : List Nat) : Prop := x.length = s ∧ ∀ i, i < s → fcmp .eql (x.getD i 0) (x.getD i 0) = true
theorem Num.kx {s x} (h : Num s x) {i : Nat} (hi : i < s) : Kx (x.getD i 0) (kk (x.getD i 0)) := kk_spec (kx_of_eql (h.2 i hi))

def lexlt : List Rat → List Rat → Bool
  | a :: as, b :: bs => if a < b then true else if b < a then false else lexlt as bs
  | _, _ => false
theorem lex_irr : ∀ a, lexlt a a = false
  | [] => rfl
  | a :: as => by have : ¬ a < a := by grind
                  simp [lexlt, this, lex_irr as]
theorem lex_trans : ∀ {a b c : List Rat}, lexlt a b = true → lexlt b c = true → lexlt a c = true
  | a :: as, b :: bs, c :: cs, h1, h2 => by
    simp only [lexlt] at h1 h2 ⊢
    by_cases p1 : a < b
    · by_cases p2 : b < c
      · have : a < c := by grind
        simp [this]
      · by_cases p3 : c < b
        · simp [p2, p3] at h2
        · have : a < c := by grind
          simp [this]
    · by_cases p2 : b < a
      · simp [p1, p2] at h1
      · have e : a = b := by grind
        subst e
        by_cases p3 : a < c
        · simp [p3]
        · by_cases p4 : c < a
          · simp [p3, p4] at h2
          · simp only [p3, p4, if_false] at h2 ⊢
            simp only [p1, if_false] at h1
            exact lex_trans h1 h2
theorem lex_tri : ∀ {a b : List Rat}, a.length = b.length → lexlt a b = false → lexlt b a = false → a = b
  | [], [], _, _, _ => rfl
  | a :: as, b :: bs, hl, h1, h2 => by
    simp only [lexlt] at h1 h2
    by_cases p1 : a < b
    · simp [p1] at h1
    · by_cases p2 : b < a
      · simp [p2] at h2
      · simp only [p1, p2, if_false] at h1 h2
        have e : a = b := by grind
        rw [e, lex_tri (by simpa using hl) h1 h2]
theorem lex_asym {a b : List Rat} (h : lexlt a b = true) : lexlt b a = false := by
  cases hb : lexlt b a with
  | false => rfl
  | true => have := lex_trans h hb; rw [lex_irr] at this; cases this

noncomputable def key (n : Nat) (x : List Nat) : List Rat := (List.range n).map fun i => kk (x.getD i 0)
theorem key_len (n x) : (key n x).length = n := by simp [key]
theorem key_get {n i : Nat} (x : List Nat) (h : i < n) : (key n x)[i]? = some (kk (x.getD i 0)) := by simp [key, h]
theorem key_drop {n i : Nat} (x : List Nat) (h : i < n) : (key n x).drop i = kk (x.getD i 0) :: (key n x).drop (i + 1) := by
  have hl : i < (key n x).length := by rw [key_len]; exact h
  rw [List.drop_eq_getElem_cons hl]
  have := key_get x h
  rw [List.getElem?_eq_getElem hl] at this
  rw [Option.some.inj this]

def axes (how : Int) (s : Nat) : Nat := if how = 1 then 1 else if how = 2 then s else 2
noncomputable def lss (how : Int) (s : Nat) (a b : List Nat) : Bool := if how = 3 then lexlt (key 2 b) (key 2 a) else lexlt (key (axes how s) a) (key (axes how s) b)
noncomputable def eqk (how : Int) (s : Nat) (a b : List Nat) : Bool := decide (key (axes how s) a = key (axes how s) b)
noncomputable def alike (how : Int) (s : Nat) (a b : List Nat) : Bool := !lss how s a b && !lss how s b a

theorem alike_eq (how : Int) (s : Nat) (a b : List Nat) : alike how s a b = eqk how s a b := by
  unfold alike lss eqk
  by_cases h3 : how = 3
  · subst h3
    have ha : axes 3 s = 2 := rfl
    simp only [if_true, ha]
    by_cases e : key 2 a = key 2 b
    · simp [e, lex_irr]
    · have : ¬ (lexlt (key 2 b) (key 2 a) = false ∧ lexlt (key 2 a) (key 2 b) = false) := fun h => e (lex_tri (by simp [key_len]) h.2 h.1)
      cases h1 : lexlt (key 2 b) (key 2 a) <;> cases h2 : lexlt (key 2 a) (key 2 b) <;> simp_all
  · simp only [h3, if_false]
    by_cases e : key (axes how s) a = key (axes how s) b
    · simp [e, lex_irr]
    · have : ¬ (lexlt (key (axes how s) b) (key (axes how s) a) = false ∧ lexlt (key (axes how s) a) (key (axes how s) b) = false) := fun h => e (lex_tri (by simp [key_len]) h.2 h.1)
      cases h1 : lexlt (key (axes how s) b) (key (axes how s) a) <;> cases h2 : lexlt (key (axes how s) a) (key (axes how s) b) <;> simp_all
theorem eqk_refl (how s a) : eqk how s a a = true := by simp [eqk]
theorem eqk_symm {how s a b} (h : eqk how s a b = true) : eqk how s b a = true := by simp only [eqk, decide_eq_true_eq] at h ⊢; exact h.symm
theorem eqk_lss {how s a b c} (h : eqk how s a b = true) : lss how s a c = lss how s b c ∧ lss how s c a = lss how s c b := by
  simp only [eqk, decide_eq_true_eq] at h
  unfold lss
  by_cases h3 : how = 3
  · subst h3; have ha : axes 3 s = 2 := rfl
    rw [ha] at h; simp [h]
  · simp [h3, h]
theorem lss_trans {how s a b c} (h1 : lss how s a b = true) (h2 : lss how s b c = true) : lss how s a c = true := by
  unfold lss at *
  by_cases h3 : how = 3
  · simp only [h3, if_true] at *; exact lex_trans h2 h1
  · simp only [h3, if_false] at *; exact lex_trans h1 h2
theorem lss_irr (how s a) : lss how s a a = false := by unfold lss; split <;> exact lex_irr _
theorem lss_asym {how s a b} (h : lss how s a b = true) : lss how s b a = false := by
  cases hb : lss how s b a with
  | false => rfl
  | true => have := lss_trans h hb; rw [lss_irr] at this; cases this
theorem lss_tri {how s a b} (h1 : lss how s a b = false) (h2 : eqk how s a b = false) : lss how s b a = true := by
  cases hb : lss how s b a with
  | true => rfl
  | false => have : alike how s a b = true := by simp [alike, h1, hb]
             rw [alike_eq, h2] at this; cases this

/-- The first ones of those that are alike. -/
noncomputable def first (how : Int) (s : Nat) (out : List (List Nat)) (p : List Nat) : List (List Nat) := if out.any (fun q => alike how s p q) then out else out ++ [p]
noncomputable def firsts (how : Int) (s : Nat) (rs : List (List Nat)) : List (List Nat) := rs.foldl (first how s) []
theorem firsts_snoc (how s rs p) : firsts how s (rs ++ [p]) = first how s (firsts how s rs) p := by simp [firsts]

/-- A search tree: blocks, the cell of each place, the places. -/
inductive Tr where
  | nil : Tr
  | node (k : Nat) (c : Value) (row : List Nat) (l r : Tr) : Tr
def Tr.ptr : Tr → Value
  | .nil => .pointer none
  | .node k _ _ _ _ => .pointer (some ⟨k, 0, none⟩)
def Tr.all (p : Value → List Nat → Prop) : Tr → Prop
  | .nil => True
  | .node _ c row l r => p c row ∧ l.all p ∧ r.all p
theorem Tr.all.mono {p q : Value → List Nat → Prop} (h : ∀ c r, p c r → q c r) : ∀ {t : Tr}, t.all p → t.all q
  | .nil, _ => trivial
  | .node _ _ _ _ _, ⟨h1, h2, h3⟩ => ⟨h _ _ h1, Tr.all.mono h h2, Tr.all.mono h h3⟩
theorem Tr.all.and {p q : Value → List Nat → Prop} : ∀ {t : Tr}, t.all p → t.all q → t.all (fun c r => p c r ∧ q c r)
  | .nil, _, _ => trivial
  | .node _ _ _ _ _, ⟨h1, h2, h3⟩, ⟨g1, g2, g3⟩ => ⟨⟨h1, g1⟩, Tr.all.and h2 g2, Tr.all.and h3 g3⟩
noncomputable def Tr.found (how : Int) (s : Nat) (p : List Nat) : Tr → Bool
  | .nil => false
  | .node _ _ row l r => if eqk how s p row then true else if lss how s p row then l.found how s p else r.found how s p
noncomputable def Tr.ins (how : Int) (s : Nat) (p : List Nat) (k' : Nat) (c' : Value) : Tr → Tr
  | .nil => .node k' c' p .nil .nil
  | .node k c row l r => if eqk how s p row then .node k c row l r else if lss how s p row then .node k c row (l.ins how s p k' c') r else .node k c row l (r.ins how s p k' c')
def Tr.Bst (how : Int) (s : Nat) : Tr → Prop
  | .nil => True
  | .node _ _ row l r => l.all (fun _ x => lss how s x row = true) ∧ r.all (fun _ x => lss how s row x = true) ∧ l.Bst how s ∧ r.Bst how s
def Tr.has (q : List Nat → Prop) : Tr → Prop
  | .nil => False
  | .node _ _ row l r => q row ∨ l.has q ∨ r.has q
theorem Tr.ins_all {how s p k' c'} {P : Value → List Nat → Prop} (hp : P c' p) : ∀ {t : Tr}, t.all P → (t.ins how s p k' c').all P
  | .nil, _ => ⟨hp, trivial, trivial⟩
  | .node _ _ _ _ _, ⟨h1, h2, h3⟩ => by
    unfold Tr.ins
    split
    · exact ⟨h1, h2, h3⟩
    · split
      · exact ⟨h1, Tr.ins_all hp h2, h3⟩
      · exact ⟨h1, h2, Tr.ins_all hp h3⟩
theorem Tr.ins_bst {how s p k' c'} : ∀ {t : Tr}, t.Bst how s → (t.ins how s p k' c').Bst how s
  | .nil, _ => ⟨trivial, trivial, trivial, trivial⟩
  | .node _ _ row l r, ⟨h1, h2, h3, h4⟩ => by
    unfold Tr.ins
    by_cases e : eqk how s p row = true
    · rw [if_pos e]; exact ⟨h1, h2, h3, h4⟩
    · rw [if_neg e]
      by_cases f : lss how s p row = true
      · rw [if_pos f]; exact ⟨Tr.ins_all f h1, h2, Tr.ins_bst h3, h4⟩
      · rw [if_neg f]; exact ⟨h1, Tr.ins_all (lss_tri (by simpa using f) (by simpa using e)) h2, h3, Tr.ins_bst h4⟩
theorem Tr.has_none {q : List Nat → Prop} : ∀ {t : Tr}, t.all (fun _ x => ¬ q x) → ¬ t.has q
  | .nil, _ => fun h => h
  | .node _ _ _ _ _, ⟨h1, h2, h3⟩ => fun h => h.elim h1 (fun h => h.elim (Tr.has_none h2) (Tr.has_none h3))
theorem Tr.found_iff {how s p} : ∀ {t : Tr}, t.Bst how s → (t.found how s p = true ↔ t.has (fun x => eqk how s p x = true))
  | .nil, _ => by simp [Tr.found, Tr.has]
  | .node _ _ row l r, ⟨h1, h2, h3, h4⟩ => by
    unfold Tr.found
    simp only [Tr.has]
    by_cases e : eqk how s p row = true
    · simp [e]
    · rw [if_neg e]
      by_cases f : lss how s p row = true
      · rw [if_pos f, Tr.found_iff h3]
        have : ¬ r.has (fun x => eqk how s p x = true) := Tr.has_none (h2.mono fun c x hx he => by
          have h := (eqk_lss (c := row) he).1
          rw [f, lss_asym hx] at h; cases h)
        simp [e, this]
      · rw [if_neg f, Tr.found_iff h4]
        have : ¬ l.has (fun x => eqk how s p x = true) := Tr.has_none (h1.mono fun c x hx he => by
          have h := (eqk_lss (c := row) he).1
          rw [hx] at h; exact f h)
        simp [e, this]
theorem Tr.ins_has {how s p k' c'} {q : List Nat → Prop} : ∀ {t : Tr}, t.found how s p = false → ((t.ins how s p k' c').has q ↔ (q p ∨ t.has q))
  | .nil, _ => by simp [Tr.ins, Tr.has]
  | .node _ _ row l r, h => by
    unfold Tr.found at h
    unfold Tr.ins
    by_cases e : eqk how s p row = true
    · rw [if_pos e] at h; cases h
    · rw [if_neg e] at h ⊢
      by_cases f : lss how s p row = true
      · rw [if_pos f] at h ⊢; simp only [Tr.has, Tr.ins_has h]; grind
      · rw [if_neg f] at h ⊢; simp only [Tr.has, Tr.ins_has h]; grind
theorem Tr.ins_same {how s p k' c'} : ∀ {t : Tr}, t.found how s p = true → t.ins how s p k' c' = t
  | .nil, h => by cases h
  | .node _ _ row l r, h => by
    unfold Tr.found at h
    unfold Tr.ins
    by_cases e : eqk how s p row = true
    · rw [if_pos e]
    · rw [if_neg e] at h ⊢
      by_cases f : lss how s p row = true
      · rw [if_pos f] at h ⊢; rw [Tr.ins_same h]
      · rw [if_neg f] at h ⊢; rw [Tr.ins_same h]
/-- The tree holds just the first ones. -/
def Holds (t : Tr) (out : List (List Nat)) : Prop := ∀ q : List Nat → Prop, t.has q ↔ ∃ x ∈ out, q x
theorem step {how s p k' c'} {t : Tr} {out : List (List Nat)} (hb : t.Bst how s) (hh : Holds t out) :
    t.found how s p = out.any (fun q => alike how s p q) ∧ (t.ins how s p k' c').Bst how s ∧ Holds (t.ins how s p k' c') (first how s out p) := by
  have h1 : t.found how s p = out.any (fun q => alike how s p q) := by
    have a := Tr.found_iff (p := p) hb
    rw [hh] at a
    have b : out.any (fun q => alike how s p q) = true ↔ ∃ x ∈ out, eqk how s p x = true := by
      simp only [List.any_eq_true, alike_eq]
    exact Bool.eq_iff_iff.2 (a.trans b.symm)
  refine ⟨h1, Tr.ins_bst hb, ?_⟩
  unfold first
  rw [← h1]
  cases hf : t.found how s p with
  | true => rw [Tr.ins_same hf]; exact hh
  | false =>
    intro q
    rw [Tr.ins_has hf, hh q]
    simp only [Bool.false_eq_true, if_false, List.mem_append, List.mem_singleton]
    grind
end Go.Proofs.Ytcajankinofomaa.Uq
