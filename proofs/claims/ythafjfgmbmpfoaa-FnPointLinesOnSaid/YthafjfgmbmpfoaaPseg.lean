/-
  The square of the distance of a place from a segment, of whole numbers: 0 just on the segment, the same whichever way it runs. No conditions.
-/
import Derived.Test.YthafjfgmbmpfoaaFl9
set_option linter.unusedVariables false
set_option linter.unusedSimpArgs false
namespace Go.Lg

def nrm (x y : Int) : Int := x * x + y * y
def dot2 (x y u v : Int) : Int := x * u + y * v
def crs (x y u v : Int) : Int := x * v - y * u
/-- The square of the distance of (0,0) + p from the segment from 0 to l. -/
def seg0 (px py lx ly : Int) : Rat :=
  if dot2 px py lx ly ≤ 0 then ((nrm px py : Int) : Rat) else if nrm lx ly ≤ dot2 px py lx ly then ((nrm (px - lx) (py - ly) : Int) : Rat)
  else ((crs px py lx ly * crs px py lx ly : Int) : Rat) / ((nrm lx ly : Int) : Rat)
theorem sq_nonneg (x : Int) : 0 ≤ x * x := by
  rcases Int.le_total 0 x with h | h
  · exact Int.mul_nonneg h h
  · have := Int.mul_nonneg (show 0 ≤ -x by omega) (show 0 ≤ -x by omega)
    rwa [Int.neg_mul_neg] at this
theorem sq_zero {x : Int} (h : x * x = 0) : x = 0 := by rcases Int.mul_eq_zero.1 h with h | h <;> exact h
theorem nrm_nonneg (x y : Int) : 0 ≤ nrm x y := by unfold nrm; have := sq_nonneg x; have := sq_nonneg y; omega
theorem nrm_zero {x y : Int} (h : nrm x y = 0) : x = 0 ∧ y = 0 := by
  unfold nrm at h
  have a := sq_nonneg x; have b := sq_nonneg y
  exact ⟨sq_zero (by omega), sq_zero (by omega)⟩
theorem lagrange (px py lx ly : Int) : crs px py lx ly * crs px py lx ly + dot2 px py lx ly * dot2 px py lx ly = nrm px py * nrm lx ly := by unfold crs dot2 nrm; grind
/-- Where the foot is the end, both ways to count give the same. -/
theorem seg_edge {px py lx ly : Int} (h : dot2 px py lx ly = nrm lx ly) (h0 : 0 < nrm lx ly) :
    ((crs px py lx ly * crs px py lx ly : Int) : Rat) / ((nrm lx ly : Int) : Rat) = ((nrm (px - lx) (py - ly) : Int) : Rat) := by
  have hl := lagrange px py lx ly
  have hn : nrm (px - lx) (py - ly) = nrm px py - nrm lx ly := by
    have : nrm (px - lx) (py - ly) = nrm px py - 2 * dot2 px py lx ly + nrm lx ly := by unfold nrm dot2; grind
    omega
  rw [hn]
  refine rat_div_eq (by have : (1 : Rat) ≤ ((nrm lx ly : Int) : Rat) := by exact_mod_cast h0
                        grind) ?_
  rw [← Rat.intCast_mul]
  congr 1
  rw [h] at hl
  grind
theorem seg_rev (px py lx ly : Int) : seg0 px py lx ly = seg0 (px - lx) (py - ly) (-lx) (-ly) := by
  have e1 : nrm (-lx) (-ly) = nrm lx ly := by unfold nrm; grind
  have e2 : dot2 (px - lx) (py - ly) (-lx) (-ly) = nrm lx ly - dot2 px py lx ly := by unfold dot2 nrm; grind
  have e3 : crs (px - lx) (py - ly) (-lx) (-ly) = -crs px py lx ly := by unfold crs; grind
  have e4 : px - lx - -lx = px := by omega
  have e5 : py - ly - -ly = py := by omega
  have e6 : -crs px py lx ly * -crs px py lx ly = crs px py lx ly * crs px py lx ly := by grind
  unfold seg0
  rw [e1, e2, e3, e4, e5, e6]
  have hL := nrm_nonneg lx ly
  by_cases h1 : dot2 px py lx ly ≤ 0
  · rw [if_pos h1]
    by_cases h2 : nrm lx ly = 0
    · obtain ⟨rfl, rfl⟩ := nrm_zero h2
      have hz : dot2 px py 0 0 = 0 := by unfold dot2; simp
      rw [if_pos (by omega)]; simp
    · rw [if_neg (by omega), if_pos (by omega)]
  · rw [if_neg h1]
    by_cases h2 : nrm lx ly ≤ dot2 px py lx ly
    · rw [if_pos h2, if_pos (by omega)]
    · rw [if_neg h2, if_neg (by omega), if_neg (by omega)]
theorem seg_nonneg (px py lx ly : Int) : 0 ≤ seg0 px py lx ly := by
  unfold seg0
  split
  · exact_mod_cast nrm_nonneg _ _
  · split
    · exact_mod_cast nrm_nonneg _ _
    · rename_i h1 h2
      have h3 : (1 : Rat) ≤ ((nrm lx ly : Int) : Rat) := by exact_mod_cast (show 1 ≤ nrm lx ly by omega)
      refine of_mul_le (c := ((nrm lx ly : Int) : Rat)) ?_ (by grind)
      rw [rat_div_mul _ _ (by grind)]
      have : (0 : Rat) ≤ ((crs px py lx ly * crs px py lx ly : Int) : Rat) := by exact_mod_cast sq_nonneg _
      grind
theorem seg_le (px py lx ly : Int) : seg0 px py lx ly ≤ ((nrm px py : Int) : Rat) := by
  unfold seg0
  have hl := lagrange px py lx ly
  split
  · exact Rat.le_refl
  · split
    · rename_i h1 h2
      have : nrm (px - lx) (py - ly) = nrm px py - 2 * dot2 px py lx ly + nrm lx ly := by unfold nrm dot2; grind
      exact_mod_cast (show nrm (px - lx) (py - ly) ≤ nrm px py by omega)
    · rename_i h1 h2
      have h3 : (1 : Rat) ≤ ((nrm lx ly : Int) : Rat) := by exact_mod_cast (show 1 ≤ nrm lx ly by omega)
      refine of_mul_le (c := ((nrm lx ly : Int) : Rat)) ?_ (by grind)
      rw [rat_div_mul _ _ (by grind), ← Rat.intCast_mul]
      have := sq_nonneg (dot2 px py lx ly)
      exact_mod_cast (show crs px py lx ly * crs px py lx ly ≤ nrm px py * nrm lx ly by omega)
/-- Either 0, or one over the square of the length at least. -/
theorem seg_least {px py lx ly : Int} (h : seg0 px py lx ly ≠ 0) : (1 : Rat) ≤ seg0 px py lx ly * ((nrm lx ly + 1 : Int) : Rat) := by
  have hL := nrm_nonneg lx ly
  have hLr : (1 : Rat) ≤ ((nrm lx ly + 1 : Int) : Rat) := by exact_mod_cast (show 1 ≤ nrm lx ly + 1 by omega)
  have whole : ∀ n : Int, 0 ≤ n → (n : Rat) ≠ 0 → (1 : Rat) ≤ (n : Rat) * ((nrm lx ly + 1 : Int) : Rat) := by
    intro n h0 hn
    have h1 : n ≠ 0 := by rintro rfl; exact hn rfl
    have h2 : (1 : Rat) ≤ (n : Rat) := by exact_mod_cast (show 1 ≤ n by omega)
    have := mul_le h2 (show (0 : Rat) ≤ ((nrm lx ly + 1 : Int) : Rat) by grind)
    grind
  unfold seg0 at h ⊢
  split
  · rename_i h1
    rw [if_pos h1] at h
    exact whole _ (nrm_nonneg _ _) h
  · rename_i h1
    rw [if_neg h1] at h
    split
    · rename_i h2
      rw [if_pos h2] at h
      exact whole _ (nrm_nonneg _ _) h
    · rename_i h2
      rw [if_neg h2] at h
      have h3 : (1 : Rat) ≤ ((nrm lx ly : Int) : Rat) := by exact_mod_cast (show 1 ≤ nrm lx ly by omega)
      have hc0 : crs px py lx ly * crs px py lx ly ≠ 0 := by intro h4; apply h; rw [h4, Rat.div_def]; simp
      have h5 : (1 : Rat) ≤ ((crs px py lx ly * crs px py lx ly : Int) : Rat) := by
        have := sq_nonneg (crs px py lx ly)
        exact_mod_cast (show 1 ≤ crs px py lx ly * crs px py lx ly by omega)
      have e := rat_div_mul ((crs px py lx ly * crs px py lx ly : Int) : Rat) ((nrm lx ly : Int) : Rat) (by grind)
      generalize ((crs px py lx ly * crs px py lx ly : Int) : Rat) / ((nrm lx ly : Int) : Rat) = z at *
      rw [Rat.intCast_add]
      have hz : 0 ≤ z := by
        refine of_mul_le (c := ((nrm lx ly : Int) : Rat)) ?_ (by grind)
        rw [e]; grind
      grind
def betw (a b c : Int) : Prop := (a ≤ c ∧ c ≤ b) ∨ (b ≤ c ∧ c ≤ a)
theorem pos_of_mul {a b : Int} (h : 0 ≤ a * b) (hb : 0 < b) : 0 ≤ a := by
  rcases Int.lt_or_le a 0 with h1 | h1
  · have := Int.mul_neg_of_neg_of_pos h1 hb; omega
  · exact h1
theorem betw_of {p l T L : Int} (h : p * L = T * l) (h0 : 0 ≤ T) (h1 : T ≤ L) (hL : 0 < L) : betw 0 l p := by
  have h2 : (l - p) * L = (L - T) * l := by rw [Int.sub_mul, Int.sub_mul, h, Int.mul_comm]
  rcases Int.le_total 0 l with hl | hl
  · left
    have a1 := Int.mul_nonneg h0 hl
    have a2 := Int.mul_nonneg (show 0 ≤ L - T by omega) hl
    have b1 := pos_of_mul (a := p) (b := L) (by rw [h]; exact a1) hL
    have b2 := pos_of_mul (a := l - p) (b := L) (by rw [h2]; exact a2) hL
    omega
  · right
    have a1 := Int.mul_nonneg h0 (show 0 ≤ -l by omega)
    have a2 := Int.mul_nonneg (show 0 ≤ L - T by omega) (show 0 ≤ -l by omega)
    have b1 := pos_of_mul (a := -p) (b := L) (by rw [Int.neg_mul, h]; rw [Int.mul_neg] at a1; exact a1) hL
    have b2 := pos_of_mul (a := -(l - p)) (b := L) (by rw [Int.neg_mul, h2]; rw [Int.mul_neg] at a2; exact a2) hL
    omega
theorem betw_mul {p l : Int} (h : betw 0 l p) : 0 ≤ p * l ∧ 0 ≤ (l - p) * l := by
  rcases h with ⟨h1, h2⟩ | ⟨h1, h2⟩
  · exact ⟨Int.mul_nonneg h1 (by omega), Int.mul_nonneg (by omega) (by omega)⟩
  · have a1 := Int.mul_nonneg (show 0 ≤ -p by omega) (show 0 ≤ -l by omega)
    have a2 := Int.mul_nonneg (show 0 ≤ -(l - p) by omega) (show 0 ≤ -l by omega)
    rw [Int.neg_mul_neg] at a1 a2
    exact ⟨a1, a2⟩
theorem seg_zero {px py lx ly : Int} : seg0 px py lx ly = 0 ↔ crs px py lx ly = 0 ∧ betw 0 lx px ∧ betw 0 ly py := by
  have hl := lagrange px py lx ly
  have hL := nrm_nonneg lx ly
  have hN := nrm_nonneg px py
  have hd : nrm (px - lx) (py - ly) = nrm px py - 2 * dot2 px py lx ly + nrm lx ly := by unfold nrm dot2; grind
  constructor
  · intro h
    unfold seg0 at h
    by_cases h1 : dot2 px py lx ly ≤ 0
    · rw [if_pos h1] at h
      have h2 : nrm px py = 0 := by exact_mod_cast h
      obtain ⟨rfl, rfl⟩ := nrm_zero h2
      refine ⟨by unfold crs; simp, ?_, ?_⟩ <;> (unfold betw; omega)
    rw [if_neg h1] at h
    by_cases h2 : nrm lx ly ≤ dot2 px py lx ly
    · rw [if_pos h2] at h
      have h3 : nrm (px - lx) (py - ly) = 0 := by exact_mod_cast h
      obtain ⟨h4, h5⟩ := nrm_zero h3
      obtain rfl : px = lx := by omega
      obtain rfl : py = ly := by omega
      refine ⟨by unfold crs; grind, ?_, ?_⟩ <;> (unfold betw; omega)
    rw [if_neg h2] at h
    have hLp : 0 < nrm lx ly := by omega
    have h3 : (1 : Rat) ≤ ((nrm lx ly : Int) : Rat) := by exact_mod_cast (show 1 ≤ nrm lx ly by omega)
    have h4 : ((crs px py lx ly * crs px py lx ly : Int) : Rat) = 0 := by
      have := rat_div_mul ((crs px py lx ly * crs px py lx ly : Int) : Rat) ((nrm lx ly : Int) : Rat) (by grind)
      rw [h] at this; grind
    have hc : crs px py lx ly = 0 := sq_zero (by exact_mod_cast h4)
    refine ⟨hc, betw_of (T := dot2 px py lx ly) (L := nrm lx ly) ?_ (by omega) (by omega) hLp, betw_of (T := dot2 px py lx ly) (L := nrm lx ly) ?_ (by omega) (by omega) hLp⟩
    · have : px * nrm lx ly = dot2 px py lx ly * lx + crs px py lx ly * ly := by unfold nrm dot2 crs; grind
      rw [this, hc]; simp
    · have : py * nrm lx ly = dot2 px py lx ly * ly - crs px py lx ly * lx := by unfold nrm dot2 crs; grind
      rw [this, hc]; simp
  · rintro ⟨hc, hx, hy⟩
    obtain ⟨x1, x2⟩ := betw_mul hx
    obtain ⟨y1, y2⟩ := betw_mul hy
    have hT0 : 0 ≤ dot2 px py lx ly := by unfold dot2; omega
    have hT1 : dot2 px py lx ly ≤ nrm lx ly := by
      have : nrm lx ly - dot2 px py lx ly = (lx - px) * lx + (ly - py) * ly := by unfold nrm dot2; grind
      omega
    rw [hc] at hl
    unfold seg0
    by_cases h1 : dot2 px py lx ly ≤ 0
    · rw [if_pos h1]
      have hT : dot2 px py lx ly = 0 := by omega
      rw [hT] at hl
      have hm : nrm px py * nrm lx ly = 0 := by omega
      rcases Int.mul_eq_zero.1 hm with h | h
      · rw [h]; rfl
      · obtain ⟨rfl, rfl⟩ := nrm_zero h
        obtain rfl : px = 0 := by unfold betw at hx; omega
        obtain rfl : py = 0 := by unfold betw at hy; omega
        rfl
    rw [if_neg h1]
    by_cases h2 : nrm lx ly ≤ dot2 px py lx ly
    · rw [if_pos h2]
      have hT : dot2 px py lx ly = nrm lx ly := by omega
      rw [hT] at hl hd
      have hm : (nrm px py - nrm lx ly) * nrm lx ly = 0 := by rw [Int.sub_mul]; omega
      have hLp : nrm lx ly ≠ 0 := by omega
      have : nrm px py - nrm lx ly = 0 := by
        rcases Int.mul_eq_zero.1 hm with h | h
        · exact h
        · exact absurd h hLp
      have : nrm (px - lx) (py - ly) = 0 := by omega
      rw [this]; rfl
    · rw [if_neg h2, hc, Rat.div_def]; simp
end Go.Lg
