/-
  Rows of bytes; a row made of zeros; a part of a row by its bounds. No conditions.
-/
import Derived.Test.YthafjfgmbmpfoaaLg24
import Derived.Test.YthafjfgmbmpfoaaLg25
set_option linter.unusedVariables false
set_option linter.unusedSimpArgs false
namespace Go.Lg

def bv (x : Nat) : Value := .int .u8 (x : Int)
def BS (G : Heap) (v : Value) (xs : List Nat) : Prop := Sl G v (xs.map bv)
theorem BS.mono {G G' v xs} (h : BS G v xs) (hG : ∀ e ∈ G, e ∈ G') : BS G' v xs := Sl.mono h hG
theorem BS.val {G v xs} (h : BS G v xs) : ∃ a cap, v = .slice a xs.length cap := by
  obtain ⟨a, cap, h1, _⟩ := h
  exact ⟨a, cap, by simpa using h1⟩
theorem BS.cap {G a n c xs} (h : BS G (.slice a n c) xs) : n = xs.length ∧ xs.length ≤ c := by
  obtain ⟨a', cap', h1, h2, _⟩ := h
  cases h1
  simp only [List.length_map] at h2 ⊢
  exact ⟨trivial, h2⟩
theorem BS.nil {G} : BS G (.slice none 0 0) [] := ⟨none, 0, rfl, Nat.le_refl _, fun h => (h rfl).elim⟩
theorem BS.toN {G v xs} (h : BS G v xs) : SlN 1 G v xs.length (xs.map bv) := by have := Sl.toN h; simpa using this
theorem oneCell_bv (xs : List Nat) : ∀ u ∈ xs.map bv, u.oneCell' = true := by
  intro u hu
  obtain ⟨x, _, rfl⟩ := List.mem_map.1 hu
  rfl
theorem made_one {c : Nat} {z : Value} : (List.range (c * 1)).map (fun i => [z][i % [z].length]!) = List.replicate c z := by
  rw [Nat.mul_one]
  induction c with
  | zero => rfl
  | succ c ih => rw [List.range_succ, List.map_append, ih, List.replicate_succ']; simp [Nat.mod_one]
theorem slAt_in {k o l h c : Nat} (hl : l < c) : slAt (some ⟨k, o, none⟩) l 1 h c = .slice (some ⟨k, o + l, none⟩) (h - l) (c - l) := by
  unfold slAt
  rw [if_neg (by omega)]
  simp [addr_add]
theorem slAt_le {k o l h c m : Nat} (hl : l < c) (hn : h - l = m) : slAt (some ⟨k, o, none⟩) l 1 h c = .slice (some ⟨k, o + l, none⟩) m (c - l) := by
  rw [slAt_in hl, hn]
/-- A block, where it lies in the slice. -/
theorem FS.block {G : Heap} {a : Option Addr} {n c : Nat} {xs : List Nat} (h : FS G (.slice a n c) xs) (hn : xs ≠ []) :
    ∃ k o L T fz, a = some ⟨k, o, none⟩ ∧ (k, Obj.cells ⟨L⟩ T fz) ∈ G ∧ n = xs.length ∧ xs.length ≤ c ∧ ∀ i, i < xs.length → L[o + i]? = some (.float .f64 (xs.getD i 0)) := by
  obtain ⟨a', cap', h1, h2, h3⟩ := h
  cases h1
  obtain ⟨k, o, L, T, fz, rfl, hm, hL⟩ := h3 (by simpa using hn)
  refine ⟨k, o, L, T, fz, rfl, hm, by simp, by simpa using h2, fun i hi => ?_⟩
  refine cut_get hL ?_
  rw [List.getElem?_map, List.getElem?_eq_getElem hi, getD_in hi]; rfl
theorem set_map_bv {xs : List Nat} {i x : Nat} : (xs.map bv).set i (bv x) = (xs.set i x).map bv := by rw [List.map_set]
theorem setCells_one {l : List Value} {i : Nat} {v : Value} : setCells l i [v] = l.set i v := rfl
end Go.Lg
