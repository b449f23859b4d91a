/-
  Simplification of a line: which places are kept, as a function of their distances. No conditions.
-/
import Derived.Test.YtomhkbijijdghaaFl13
import Derived.Test.YtomhkbijijdghaaLg9
set_option linter.unusedVariables false
set_option linter.unusedSimpArgs false
namespace Go.Lg.Smp
open Go.Lg

/-- The greatest distance, and where it is first, of the k places behind s. -/
noncomputable def far (d : Nat → Nat) (s : Nat) : Nat → Nat × Nat
  | 0 => (0, 0)
  | k + 1 => if fcmp .gtr (d (s + 1 + k)) (far d s k).1 = true then (d (s + 1 + k), s + 1 + k) else far d s k
theorem far_rng (d : Nat → Nat) (s : Nat) : ∀ k, (far d s k).1 = 0 ∨ (s < (far d s k).2 ∧ (far d s k).2 < s + 1 + k)
  | 0 => .inl rfl
  | k + 1 => by
    simp only [far]
    split
    · exact .inr ⟨by simp only []; omega, by simp only []; omega⟩
    · rcases far_rng d s k with h | h
      · exact .inl h
      · exact .inr ⟨h.1, by omega⟩
theorem far_le (d : Nat → Nat) (s : Nat) : ∀ k, (far d s k).2 ≤ s + k
  | 0 => Nat.zero_le _
  | k + 1 => by
    have := far_le d s k
    simp only [far]
    split
    · simp only []; omega
    · omega
/-- The work that a list of stretches is. -/
def wt : List (Nat × Nat) → Nat
  | [] => 0
  | p :: st => (2 * (p.2 - p.1) - 1) + wt st
def Ok (n : Nat) (st : List (Nat × Nat)) : Prop := ∀ p ∈ st, p.1 < p.2 ∧ p.2 < n
/-- What is kept in the end. -/
noncomputable def fin (D : Nat → Nat → Nat → Nat) (thr : Nat) : Nat → List (Nat × Nat) → List Nat → List Nat
  | 0, _, m => m
  | _ + 1, [], m => m
  | f + 1, (s, e) :: st, m =>
    if fcmp .gtr (far (D s e) s (e - s - 1)).1 thr = true then fin D thr f (((far (D s e) s (e - s - 1)).2, e) :: (s, (far (D s e) s (e - s - 1)).2) :: st) (m.set (far (D s e) s (e - s - 1)).2 1)
    else fin D thr f st m
theorem fin_nil (D : Nat → Nat → Nat → Nat) (thr f : Nat) (m : List Nat) : fin D thr f [] m = m := by cases f <;> rfl
theorem far_in {d : Nat → Nat} {s e thr : Nat} (hse : s < e) (h0 : fcmp .gtr 0 thr = false) (h : fcmp .gtr (far d s (e - s - 1)).1 thr = true) : s < (far d s (e - s - 1)).2 ∧ (far d s (e - s - 1)).2 < e := by
  rcases far_rng d s (e - s - 1) with hz | hz
  · rw [hz, h0] at h; cases h
  · exact ⟨hz.1, by omega⟩
/-- The stretches as the code keeps them, the last one first here. -/
def stk : List (Nat × Nat) → List Int
  | [] => []
  | p :: st => stk st ++ [(p.1 : Int), (p.2 : Int)]
theorem stk_len : ∀ st, (stk st).length = 2 * st.length
  | [] => rfl
  | p :: st => by simp [stk, stk_len st]; omega
theorem fin_len (D : Nat → Nat → Nat → Nat) (thr : Nat) : ∀ (f : Nat) (st : List (Nat × Nat)) (m : List Nat), (fin D thr f st m).length = m.length
  | 0, _, m => rfl
  | f + 1, [], m => rfl
  | f + 1, (s, e) :: st, m => by
    simp only [fin]
    split
    · rw [fin_len]; simp
    · rw [fin_len]
/-- What is marked stays so. -/
theorem fin_keep (D : Nat → Nat → Nat → Nat) (thr : Nat) : ∀ (f : Nat) (st : List (Nat × Nat)) (m : List Nat) (i : Nat), m[i]? = some 1 → (fin D thr f st m)[i]? = some 1
  | 0, _, m, i, h => h
  | f + 1, [], m, i, h => h
  | f + 1, (s, e) :: st, m, i, h => by
    have hi : i < m.length := by
      rcases Nat.lt_or_ge i m.length with h' | h'
      · exact h'
      · rw [List.getElem?_eq_none h'] at h; cases h
    simp only [fin]
    split
    · refine fin_keep D thr f _ _ i ?_
      rw [List.getElem?_set]
      split
      · subst_vars; simp [hi]
      · exact h
    · exact fin_keep D thr f _ _ i h
/-- The places that are marked. -/
def idx (m : List Nat) : Nat → List Int
  | 0 => []
  | j + 1 => if m.getD j 0 = 1 then idx m j ++ [(j : Int)] else idx m j
theorem idx_len (m : List Nat) : ∀ j, (idx m j).length ≤ j
  | 0 => Nat.le_refl _
  | j + 1 => by
    have := idx_len m j
    simp only [idx]
    split
    · simp; omega
    · omega
theorem idx_first {m : List Nat} (h : m[0]? = some 1) : ∀ j, (idx m (j + 1))[0]? = some 0
  | 0 => by
    have : m.getD 0 0 = 1 := by rw [List.getD_eq_getElem?_getD, h]; rfl
    simp [idx, -List.getD_eq_getElem?_getD, this]
  | j + 1 => by
    have ih := idx_first h j
    rw [idx]
    split
    · rw [List.getElem?_append_left]
      · exact ih
      · rcases Nat.lt_or_ge 0 (idx m (j + 1)).length with h' | h'
        · exact h'
        · rw [List.getElem?_eq_none h'] at ih; cases ih
    · exact ih
noncomputable def mask0 (n : Nat) : List Nat := ((List.replicate n 0).set 0 1).set (n - 1) 1
/-- Which places are kept. -/
noncomputable def kept (n : Nat) (D : Nat → Nat → Nat → Nat) (thr : Nat) : List Int :=
  if n < 3 then (List.range n).map Int.ofNat else idx (fin D thr (wt [(0, n - 1)]) [(0, n - 1)] (mask0 n)) n
theorem kept_first {n : Nat} {D : Nat → Nat → Nat → Nat} {thr : Nat} (hn : 0 < n) : (kept n D thr)[0]? = some 0 := by
  unfold kept
  split
  · simp [List.getElem?_range hn]
  · obtain ⟨k, rfl⟩ : ∃ k, n = k + 1 := ⟨n - 1, by omega⟩
    refine idx_first (fin_keep _ _ _ _ _ 0 ?_) k
    unfold mask0
    rw [List.getElem?_set]
    split
    · simp
    · simp
theorem kept_len {n : Nat} {D : Nat → Nat → Nat → Nat} {thr : Nat} : (kept n D thr).length ≤ n := by
  unfold kept
  split
  · simp
  · exact idx_len _ _
/-- The square of a place's distance from a segment, as the machine has it. -/
noncomputable def tq (ax ay dx dy px py : Nat) : Nat :=
  fop .quo (fop .add (fop .mul (fop .sub px ax) dx) (fop .mul (fop .sub py ay) dy)) (fop .add (fop .mul dx dx) (fop .mul dy dy))
noncomputable def foot (ax ay bx b2 dx dy t : Nat) : Nat × Nat :=
  if fcmp .neq dx 0 = true ∨ fcmp .neq dy 0 = true then
    if fcmp .gtr t 4607182418800017408 = true then (bx, b2)
    else if fcmp .gtr t 0 = true then (fop .add ax (fop .mul dx t), fop .add ay (fop .mul dy t))
    else (ax, ay)
  else (ax, ay)
noncomputable def sqd (px py : Nat) (q : Nat × Nat) : Nat := fop .add (fop .mul (fop .sub px q.1) (fop .sub px q.1)) (fop .mul (fop .sub py q.2) (fop .sub py q.2))
noncomputable def dsq (ax ay bx b2 px py : Nat) : Nat :=
  sqd px py (foot ax ay bx b2 (fop .sub bx ax) (fop .sub b2 ay) (tq ax ay (fop .sub bx ax) (fop .sub b2 ay) px py))

theorem fv_one : Fv 4607182418800017408 (1 : Rat) := ⟨false, 4503599627370496, -52, rfl, by
  have e : ((4503599627370496 : Nat) : Rat) = p2 52 := (p2_toNat (e := 52) (by decide)).symm
  have := p2_mul (a := 52) (b := -52) (c := 0) (by decide)
  rw [e]; unfold sgn; rw [p2_zero] at this; grind⟩
theorem fv_zero : Fv 0 (0 : Rat) := ⟨false, 0, -1074, rfl, by simp⟩
theorem sqd_fb {px py X Y : Nat} (hX : Bd 60 X) (hY : Bd 60 Y) (hp : Bd 60 px) (hq : Bd 60 py) :
    FB .sub px X ∧ FB .sub py Y ∧ FB .mul (fop .sub px X) (fop .sub px X) ∧ FB .mul (fop .sub py Y) (fop .sub py Y) ∧ FB .add (fop .mul (fop .sub px X) (fop .sub px X)) (fop .mul (fop .sub py Y) (fop .sub py Y)) := by
  obtain ⟨a1, a2⟩ := hp.subF hX (by decide) (by decide)
  obtain ⟨b1, b2⟩ := hq.subF hY (by decide) (by decide)
  obtain ⟨c1, c2⟩ := a2.mulF a2 (by decide) (by decide)
  obtain ⟨d1, d2⟩ := b2.mulF b2 (by decide) (by decide)
  exact ⟨a1, b1, c1, d1, (c2.addF d2 (by decide) (by decide)).1⟩
/-- What the code computes has a result. -/
theorem dsq_fb {ax ay bx b2 px py : Nat} {nax nay nbx nby npx npy : Int} (gax : FI 8192 ax nax) (gay : FI 8192 ay nay) (gbx : FI 8192 bx nbx) (gby : FI 8192 b2 nby) (gpx : FI 8192 px npx) (gpy : FI 8192 py npy) :
    FB .sub bx ax ∧ FB .sub b2 ay ∧ FB .sub px ax ∧ FB .sub py ay ∧ FB .mul (fop .sub px ax) (fop .sub bx ax) ∧ FB .mul (fop .sub py ay) (fop .sub b2 ay) ∧
    FB .add (fop .mul (fop .sub px ax) (fop .sub bx ax)) (fop .mul (fop .sub py ay) (fop .sub b2 ay)) ∧ FB .mul (fop .sub bx ax) (fop .sub bx ax) ∧ FB .mul (fop .sub b2 ay) (fop .sub b2 ay) ∧
    FB .add (fop .mul (fop .sub bx ax) (fop .sub bx ax)) (fop .mul (fop .sub b2 ay) (fop .sub b2 ay)) ∧
    ((fcmp .neq (fop .sub bx ax) 0 = true ∨ fcmp .neq (fop .sub b2 ay) 0 = true) → ∃ t, t = tq ax ay (fop .sub bx ax) (fop .sub b2 ay) px py ∧
      FB .quo (fop .add (fop .mul (fop .sub px ax) (fop .sub bx ax)) (fop .mul (fop .sub py ay) (fop .sub b2 ay))) (fop .add (fop .mul (fop .sub bx ax) (fop .sub bx ax)) (fop .mul (fop .sub b2 ay) (fop .sub b2 ay))) ∧
      FB .mul (fop .sub bx ax) t ∧ FB .mul (fop .sub b2 ay) t ∧ FB .add ax (fop .mul (fop .sub bx ax) t) ∧ FB .add ay (fop .mul (fop .sub b2 ay) t) ∧ Bd 60 (fop .add ax (fop .mul (fop .sub bx ax) t)) ∧ Bd 60 (fop .add ay (fop .mul (fop .sub b2 ay) t))) := by
  obtain ⟨a1, dx⟩ := gbx.subF gax (C := 16384) (by decide)
  obtain ⟨a2, dy⟩ := gby.subF gay (C := 16384) (by decide)
  obtain ⟨a3, wx⟩ := gpx.subF gax (C := 16384) (by decide)
  obtain ⟨a4, wy⟩ := gpy.subF gay (C := 16384) (by decide)
  obtain ⟨a5, mx⟩ := wx.mulF dx (C := 268435456) (by decide)
  obtain ⟨a6, my⟩ := wy.mulF dy (C := 268435456) (by decide)
  obtain ⟨a7, num⟩ := mx.addF my (C := 536870912) (by decide)
  obtain ⟨a8, xx⟩ := dx.mulF dx (C := 268435456) (by decide)
  obtain ⟨a9, yy⟩ := dy.mulF dy (C := 268435456) (by decide)
  obtain ⟨a10, den⟩ := xx.addF yy (C := 536870912) (by decide)
  refine ⟨a1, a2, a3, a4, a5, a6, a7, a8, a9, a10, fun h => ⟨_, rfl, ?_⟩⟩
  have hne : (nbx - nax) * (nbx - nax) + (nby - nay) * (nby - nay) ≠ 0 := by
    rcases h with h | h
    · rw [fcmp_neq dx.fv fv_zero] at h
      have h0 : nbx - nax ≠ 0 := by intro e; rw [e] at h; simp at h
      have h1 : 0 < (nbx - nax) * (nbx - nax) := by
        rcases Int.lt_or_gt_of_ne h0 with h | h
        · exact Int.mul_pos_of_neg_of_neg h h
        · exact Int.mul_pos h h
      have h2 : 0 ≤ (nby - nay) * (nby - nay) := by
        rcases Int.le_total 0 (nby - nay) with h | h
        · exact Int.mul_nonneg h h
        · exact Int.mul_nonneg_of_nonpos_of_nonpos h h
      omega
    · rw [fcmp_neq dy.fv fv_zero] at h
      have h0 : nby - nay ≠ 0 := by intro e; rw [e] at h; simp at h
      have h1 : 0 < (nby - nay) * (nby - nay) := by
        rcases Int.lt_or_gt_of_ne h0 with h | h
        · exact Int.mul_pos_of_neg_of_neg h h
        · exact Int.mul_pos h h
      have h2 : 0 ≤ (nbx - nax) * (nbx - nax) := by
        rcases Int.le_total 0 (nbx - nax) with h | h
        · exact Int.mul_nonneg h h
        · exact Int.mul_nonneg_of_nonpos_of_nonpos h h
      omega
  have q1 : FB .quo _ _ := fb_quo num.fv den.fv (by exact_mod_cast hne)
  have q2 := (num.quo_bd den (far_fop q1) hne (by decide) (C := 29) (by decide) (by decide)).1
  have bdx := dx.bd (A := 14) (by decide)
  have bdy := dy.bd (A := 14) (by decide)
  have bax := gax.bd (A := 13) (by decide)
  have bay := gay.bd (A := 13) (by decide)
  obtain ⟨r1, r2⟩ := bdx.mulF q2 (by decide) (by decide)
  obtain ⟨r3, r4⟩ := bdy.mulF q2 (by decide) (by decide)
  obtain ⟨r5, r6⟩ := (bax.le (B := 56) (by decide)).addF (r2.le (B := 56) (by decide)) (by decide) (by decide)
  obtain ⟨r7, r8⟩ := (bay.le (B := 56) (by decide)).addF (r4.le (B := 56) (by decide)) (by decide) (by decide)
  exact ⟨q1, r1, r3, r5, r7, r6.le (by decide), r8.le (by decide)⟩
end Go.Lg.Smp
