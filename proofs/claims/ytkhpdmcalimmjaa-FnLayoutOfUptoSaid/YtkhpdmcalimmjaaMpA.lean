/-
  The points of a multi point, by its ends. No conditions.
-/
import Derived.Test.YtkhpdmcalimmjaaGeo
set_option linter.unusedVariables false
set_option linter.unusedSimpArgs false
namespace Go.Proofs.Ytkhpdmcalimmjaa.Gm
open Go.Lg Go.Proofs.Ytkhpdmcalimmjaa.Geom

theorem asc_le {s : Int} {sg : Bool} : ∀ {es : List Int} {a b : Int}, Asc s sg a es b → a ≤ b
  | [], a, b, h => by cases h; exact Int.le_refl _
  | e :: es, a, b, h => Int.le_trans h.1 (asc_le h.2.2.2)
theorem asc_gen {s : Int} : ∀ (es : List Int) (a b : Int), Asc s true a es b → 0 < s → ∀ (i : Nat) (x : Int), es[i]? = some x → (x = (if i = 0 then a else es.getD (i - 1) 0) ∨ x = (if i = 0 then a else es.getD (i - 1) 0) + s) ∧ a ≤ x ∧ x ≤ b
  | [], _, _, _, _, i, x, h => by simp at h
  | e :: es, a, b, ⟨h1, h2, h3, h4⟩, hs, 0, x, h => by
    have hx : e = x := by simpa using h
    subst hx
    have h3 := h3 rfl
    have hle := asc_le h4
    refine ⟨?_, h1, hle⟩
    simp only [if_true]
    rcases Int.lt_or_eq_of_le h3 with h5 | h5
    · rw [Int.tmod_eq_of_lt (by omega) h5] at h2
      left; omega
    · right; omega
  | e :: es, a, b, ⟨h1, h2, h3, h4⟩, hs, i + 1, x, h => by
    have h' : es[i]? = some x := by simpa using h
    obtain ⟨k1, k2, k3⟩ := asc_gen es e b h4 hs i x h'
    refine ⟨?_, by omega, k3⟩
    have e1 : (if i + 1 = 0 then a else (e :: es).getD (i + 1 - 1) 0) = (if i = 0 then e else es.getD (i - 1) 0) := by
      cases i with
      | zero => rfl
      | succ k => rfl
    rw [e1]; exact k1
/-- Where the i-th point begins. -/
def en (e : List Int) (i : Nat) : Nat := if i = 0 then 0 else (e.getD (i - 1) 0).toNat
structure MpOk (e : List Int) (S L : Nat) : Prop where
  get : ∀ i, i < e.length → e[i]? = some ((en e (i + 1) : Nat) : Int)
  step : ∀ i, i < e.length → en e (i + 1) = en e i ∨ en e (i + 1) = en e i + S
  le : ∀ i, i ≤ e.length → en e i ≤ L
theorem mp_ok {e : List Int} {S L : Nat} (h : Asc (S : Int) true 0 e (L : Int)) (hS : 0 < S) : MpOk e S L := by
  have hg := asc_gen e 0 L h (by omega)
  have hget : ∀ i, i < e.length → e[i]? = some ((en e (i + 1) : Nat) : Int) := fun i hi => by
    have h1 : e[i]? = some e[i] := List.getElem?_eq_getElem hi
    obtain ⟨_, k2, _⟩ := hg i _ h1
    rw [h1]
    unfold en
    rw [if_neg (by omega), Nat.add_sub_cancel, List.getD_eq_getElem?_getD, h1]
    simp only [Option.getD_some]
    congr 1
    omega
  refine ⟨hget, fun i hi => ?_, fun i hi => ?_⟩
  · obtain ⟨k1, _, _⟩ := hg i _ (hget i hi)
    have e1 : (if i = 0 then (0 : Int) else e.getD (i - 1) 0) = ((en e i : Nat) : Int) := by
      cases i with
      | zero => rfl
      | succ k =>
        have h2 := hget k (by omega)
        rw [if_neg (by omega), Nat.add_sub_cancel, List.getD_eq_getElem?_getD, h2]
        rfl
    rw [e1] at k1
    omega
  · cases i with
    | zero => exact Nat.zero_le _
    | succ k =>
      obtain ⟨_, _, k3⟩ := hg k _ (hget k (by omega))
      omega
def cutN (f : List Nat) (a b : Nat) : List Nat := (f.drop a).take (b - a)
/-- The i-th point, nil if it is empty. -/
def mpAt (f : List Nat) (e : List Int) (i : Nat) : Option (List Nat) := if en e (i + 1) = en e i then none else some (cutN f (en e i) (en e (i + 1)))
def mpAll (f : List Nat) (e : List Int) (n : Nat) : List (Option (List Nat)) := (List.range n).map (mpAt f e)
theorem mpAll_len (f : List Nat) (e : List Int) (n : Nat) : (mpAll f e n).length = n := by simp [mpAll]
theorem mpAll_succ (f : List Nat) (e : List Int) (n : Nat) : mpAll f e (n + 1) = mpAll f e n ++ [mpAt f e n] := by simp [mpAll, List.range_succ]
theorem mpAll_get {f : List Nat} {e : List Int} {n i : Nat} (h : i < n) : (mpAll f e n)[i]? = some (mpAt f e i) := by simp [mpAll, h]
theorem cutN_len {f : List Nat} {a b : Nat} (h : b ≤ f.length) : (cutN f a b).length = b - a := by simp only [cutN, List.length_take, List.length_drop]; omega
end Go.Proofs.Ytkhpdmcalimmjaa.Gm
