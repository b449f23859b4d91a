/-
  Good ends, and good ends of which the last one is moved. No conditions.
-/
import Derived.Test.YtmilmnedgadidaaDoorVfy
set_option linter.unusedVariables false
set_option linter.unusedSimpArgs false
namespace Go.Proofs.YtmilmnedgadidaaDoor.Gm
open Go.Lg Go.Proofs.YtmilmnedgadidaaDoor.Geom

theorem asc_all {s : Int} {sg : Bool} : ∀ (es : List Int) (a b : Int), Asc s sg a es b → s ∣ a → ∀ (i : Nat) (x : Int), es[i]? = some x → (if i = 0 then a else es.getD (i - 1) 0) ≤ x ∧ s ∣ x
  | [], _, _, _, _, i, x, h => by simp at h
  | e :: es, a, b, ⟨h1, h2, h3, h4⟩, hs, 0, x, h => by
    have hx : e = x := by simpa using h
    subst hx
    refine ⟨h1, ?_⟩
    have h5 := Int.dvd_add hs (Int.dvd_of_tmod_eq_zero h2)
    rwa [show a + (e - a) = e by omega] at h5
  | e :: es, a, b, ⟨h1, h2, h3, h4⟩, hs, i + 1, x, h => by
    have h' : es[i]? = some x := by simpa using h
    have he : s ∣ e := by
      have h5 := Int.dvd_add hs (Int.dvd_of_tmod_eq_zero h2)
      rwa [show a + (e - a) = e by omega] at h5
    obtain ⟨k1, k2⟩ := asc_all es e b h4 he i x h'
    refine ⟨?_, k2⟩
    have e1 : (if i + 1 = 0 then a else (e :: es).getD (i + 1 - 1) 0) = (if i = 0 then e else es.getD (i - 1) 0) := by
      cases i with
      | zero => rfl
      | succ k => rfl
    rw [e1]; exact k1
theorem asc_last {s : Int} {sg : Bool} : ∀ (es : List Int) (a b : Int), Asc s sg a es b → es ≠ [] → es.getD (es.length - 1) 0 = b
  | [], _, _, _, h => (h rfl).elim
  | [e], a, b, ⟨_, _, _, h4⟩, _ => h4
  | e :: e2 :: es, a, b, ⟨h1, h2, h3, h4⟩, _ => by
    have := asc_last (e2 :: es) e b h4 (by simp)
    simpa using this
theorem pv_last {es : List Int} (h : es.length ≠ 0) : pv es es.length = es.getD (es.length - 1) 0 := by unfold pv; rw [if_neg h]
theorem near_good {es : List Int} {S L : Nat} {sg : Bool} (h : Asc (S : Int) sg 0 es (L : Int)) (hne : es ≠ []) (hL : L % S = 0) : Near es S L ∧ Fine es L := by
  have hl : es.length ≠ 0 := fun h => hne (List.eq_nil_of_length_eq_zero h)
  have ha := asc_all es 0 L h ⟨0, by simp⟩
  have hlast := asc_last es 0 L h hne
  have hg : ∀ i, i < es.length → es[i]? = some (es.getD i 0) := fun i hi => by rw [List.getD_eq_getElem?_getD, List.getElem?_eq_getElem hi]; rfl
  refine ⟨⟨hl, fun i hi => Int.tmod_eq_zero_of_dvd (ha i _ (hg i hi)).2, fun i hi => (ha i _ (hg i (by omega))).1, hL⟩, ?_, ?_⟩
  · rw [pv_last hl]
    exact (ha (es.length - 1) _ (hg _ (by omega))).1
  · rw [pv_last hl]; exact hlast
/-- The last end moved. -/
def moved (es : List Int) (x : Int) : List Int := es.take (es.length - 1) ++ [x]
theorem moved_len {es : List Int} {x : Int} (h : es.length ≠ 0) : (moved es x).length = es.length := by
  simp only [moved, List.length_append, List.length_take, List.length_cons, List.length_nil]; omega
theorem moved_lo {es : List Int} {x : Int} {i : Nat} (h : i + 1 < es.length) : (moved es x).getD i 0 = es.getD i 0 := by
  unfold moved
  rw [List.getD_eq_getElem?_getD, List.getD_eq_getElem?_getD, List.getElem?_append_left (by rw [List.length_take]; omega), List.getElem?_take, if_pos (by omega)]
theorem moved_hi {es : List Int} {x : Int} (h : es.length ≠ 0) : (moved es x).getD (es.length - 1) 0 = x := by
  unfold moved
  rw [List.getD_eq_getElem?_getD, List.getElem?_append_right (by rw [List.length_take]; omega), List.length_take, show es.length - 1 - min (es.length - 1) es.length = 0 by omega]
  rfl
theorem near_moved {es : List Int} {S L : Nat} {x : Int} (h : Near es S L) (hx : x.tmod (S : Int) = 0) (hxL : x ≠ (L : Int)) : Near (moved es x) S L ∧ ¬ Fine (moved es x) L := by
  have hl := h.pos
  have hml := moved_len (x := x) hl
  refine ⟨⟨by omega, fun i hi => ?_, fun i hi => ?_, h.len⟩, ?_⟩
  · rcases Nat.lt_or_ge (i + 1) es.length with h1 | h1
    · rw [moved_lo h1]; exact h.mod i (by omega)
    · obtain rfl : i = es.length - 1 := by omega
      rw [moved_hi hl]; exact hx
  · rw [hml] at hi
    rw [moved_lo hi]
    have h1 := h.asc i hi
    have e1 : pv (moved es x) i = pv es i := by
      cases i with
      | zero => rfl
      | succ k =>
        unfold pv
        rw [if_neg (by omega), if_neg (by omega), Nat.add_sub_cancel, moved_lo (by omega)]
    rw [e1]; exact h1
  · rintro ⟨_, h2⟩
    rw [pv_last (by omega), hml, moved_hi hl] at h2
    exact hxL h2
theorem is_new {k cap : Nat} {T : TypeId} {fz : Nat × Nat} {zs : List Int} {sp : List Value} {G : Heap} (hc : zs.length ≤ cap) (hm : (k, Obj.cells ⟨zs.map iv ++ sp⟩ T fz) ∈ G) : IS G (.slice (some ⟨k, 0, none⟩) zs.length cap) zs :=
  ⟨_, cap, by simp, by simpa using hc, fun _ => ⟨k, 0, _, T, fz, rfl, hm, by rw [List.drop_zero, List.take_left]⟩⟩
end Go.Proofs.YtmilmnedgadidaaDoor.Gm
