/-
  What the turning about in place leaves: the places from the last one to the first. Plain Lean.
-/
import Derived.Test.YtlgbjidbjijepaaRev
set_option linter.unusedVariables false
set_option linter.unusedSimpArgs false
namespace Go.Proofs.Ytlgbjidbjijepaa.Rev
open Go.Lg

def bwd (s : Nat) (xs : List Nat) (off : Nat) : Nat → List Nat
  | 0 => []
  | m + 1 => (xs.drop (off + m * s)).take s ++ bwd s xs off m
def bwdEnds (s : Nat) (xs : List Nat) : Nat → List Nat → List Nat
  | _, [] => []
  | off, e :: es => bwd s xs off ((e - off) / s) ++ bwdEnds s xs e es

theorem getD_set (l : List Nat) (i t v : Nat) : (l.set i v).getD t 0 = if t = i ∧ i < l.length then v else l.getD t 0 := by
  simp only [List.getD_eq_getElem?_getD, List.getElem?_set]
  by_cases h : i = t
  · subst h
    by_cases h2 : i < l.length
    · simp [h2]
    · simp only [if_true, h2, if_false, and_false]
      rw [List.getElem?_eq_none (by omega)]
  · rw [if_neg h, if_neg (by omega)]

theorem swapSeg_get (zs : List Nat) (p q : Nat) : ∀ (k : Nat), p + k ≤ q → q + k ≤ zs.length → ∀ t, (swapSeg zs p q k).getD t 0 =
    if p ≤ t ∧ t < p + k then zs.getD (q + (t - p)) 0 else if q ≤ t ∧ t < q + k then zs.getD (p + (t - q)) 0 else zs.getD t 0
  | 0, _, _, t => by rw [if_neg (by omega), if_neg (by omega)]; rfl
  | k + 1, h1, h2, t => by
    have ih := swapSeg_get zs p q k (by omega) (by omega)
    have hl := swapSeg_len zs p q k
    simp only [swapSeg]
    generalize swapSeg zs p q k = z at ih hl
    have e1 : z.getD (q + k) 0 = zs.getD (q + k) 0 := by rw [ih, if_neg (by omega), if_neg (by omega)]
    have e2 : z.getD (p + k) 0 = zs.getD (p + k) 0 := by rw [ih, if_neg (by omega), if_neg (by omega)]
    rw [e1, e2, getD_set, getD_set, ih, List.length_set, hl]
    by_cases c1 : t = q + k
    · rw [if_pos ⟨c1, by omega⟩, if_neg (by omega), if_pos (by omega)]; congr 1; omega
    · rw [if_neg (fun h => c1 h.1)]
      by_cases c2 : t = p + k
      · rw [if_pos ⟨c2, by omega⟩, if_pos (by omega)]; congr 1; omega
      · rw [if_neg (fun h => c2 h.1)]
        by_cases c3 : p ≤ t ∧ t < p + k
        · rw [if_pos c3, if_pos (by omega)]
        · by_cases c4 : q ≤ t ∧ t < q + k
          · rw [if_neg c3, if_pos c4, if_neg (by omega), if_pos (by omega)]
          · rw [if_neg c3, if_neg c4, if_neg (by omega), if_neg (by omega)]
theorem swapSeg_self (zs : List Nat) (p : Nat) : ∀ (k t : Nat), (swapSeg zs p p k).getD t 0 = zs.getD t 0
  | 0, t => rfl
  | k + 1, t => by
    have ih := swapSeg_self zs p k
    simp only [swapSeg]
    rw [getD_set, getD_set, ih, ih]
    split
    · rename_i h; rw [h.1]
    · split
      · rename_i h; rw [h.1]
      · rfl

theorem revLoop_get (s : Nat) (hs : 0 < s) : ∀ (m f : Nat) (zs : List Nat) (o : Nat), m < f → o + m * s ≤ zs.length →
    (∀ t, t < o ∨ o + m * s ≤ t → (revLoop s f zs (o + s) (o + m * s)).getD t 0 = zs.getD t 0) ∧
    (∀ r c, r < m → c < s → (revLoop s f zs (o + s) (o + m * s)).getD (o + r * s + c) 0 = zs.getD (o + (m - 1 - r) * s + c) 0)
  | 0, f + 1, zs, o, hf, hz => by
    have : revLoop s (f + 1) zs (o + s) (o + 0 * s) = zs := by rw [revLoop, if_neg (by omega)]
    rw [this]; exact ⟨fun t _ => rfl, fun r c h => by omega⟩
  | 1, f + 1, zs, o, hf, hz => by
    have : revLoop s (f + 1) zs (o + s) (o + 1 * s) = swapSeg zs o o s := by
      rw [revLoop, if_pos (by omega)]
      obtain ⟨f, rfl⟩ : ∃ g, f = g + 1 := ⟨f - 1, by omega⟩
      rw [revLoop, if_neg (by omega)]
      congr 1 <;> omega
    rw [this]
    refine ⟨fun t _ => swapSeg_self _ _ _ _, fun r c hr hc => ?_⟩
    obtain rfl : r = 0 := by omega
    rw [swapSeg_self]
  | m + 2, f + 1, zs, o, hf, hz => by
    have hm : (m + 2) * s = m * s + s + s := by rw [Nat.add_mul, Nat.two_mul]; omega
    have hstep : revLoop s (f + 1) zs (o + s) (o + (m + 2) * s) = revLoop s f (swapSeg zs o (o + m * s + s) s) (o + s + s) (o + s + m * s) := by
      rw [revLoop, if_pos (by omega), hm]
      congr 1
      · congr 1 <;> omega
      · omega
    rw [hstep]
    have hsl := swapSeg_len zs o (o + m * s + s) s
    have ih := revLoop_get s hs m f (swapSeg zs o (o + m * s + s) s) (o + s) (by omega) (by omega)
    have hg := swapSeg_get zs o (o + m * s + s) s (by omega) (by omega)
    generalize swapSeg zs o (o + m * s + s) s = z at *
    refine ⟨fun t ht => ?_, fun r c hr hc => ?_⟩
    · rw [ih.1 t (by omega), hg, if_neg (by omega), if_neg (by omega)]
    · cases r with
      | zero =>
        rw [ih.1 _ (by omega), hg, if_pos (by omega)]
        congr 1
        have : (m + 2 - 1 - 0) * s = m * s + s := by rw [show m + 2 - 1 - 0 = m + 1 from rfl, Nat.succ_mul]
        omega
      | succ r =>
        by_cases hlast : r = m
        · subst hlast
          have h1 : (r + 1) * s = r * s + s := Nat.succ_mul _ _
          rw [ih.1 _ (by omega), hg, if_neg (by omega), if_pos (by omega)]
          congr 1
          have : (r + 2 - 1 - (r + 1)) * s = 0 := by rw [show r + 2 - 1 - (r + 1) = 0 by omega, Nat.zero_mul]
          omega
        · have h1 : (r + 1) * s = r * s + s := Nat.succ_mul _ _
          have h2 := ih.2 r c (by omega) hc
          rw [show o + (r + 1) * s + c = o + s + r * s + c by omega, h2]
          have h3 : (m + 2 - 1 - (r + 1)) * s = (m - 1 - r) * s + s := by rw [← Nat.succ_mul]; congr 1; omega
          have h4 : m * s = r * s + s + (m - 1 - r) * s := by rw [← Nat.succ_mul, ← Nat.add_mul]; congr 1; omega
          rw [hg, if_neg (by omega), if_neg (by omega), h3]
          congr 1; omega

theorem bwd_len (s : Nat) (xs : List Nat) (off : Nat) : ∀ m, off + m * s ≤ xs.length → (bwd s xs off m).length = m * s
  | 0, _ => by simp [bwd]
  | m + 1, h => by
    have h1 : (m + 1) * s = m * s + s := Nat.succ_mul _ _
    simp only [bwd, List.length_append, List.length_take, List.length_drop]
    rw [bwd_len s xs off m (by omega)]; omega
theorem bwd_get (s : Nat) (xs : List Nat) (off : Nat) : ∀ m, off + m * s ≤ xs.length → ∀ r c, r < m → c < s → (bwd s xs off m).getD (r * s + c) 0 = xs.getD (off + (m - 1 - r) * s + c) 0
  | 0, _, r, c, h, _ => by omega
  | m + 1, h, r, c, hr, hc => by
    have h1 : (m + 1) * s = m * s + s := Nat.succ_mul _ _
    have hl : ((xs.drop (off + m * s)).take s).length = s := by simp only [List.length_take, List.length_drop]; omega
    simp only [bwd]
    cases r with
    | zero =>
      rw [List.getD_eq_getElem?_getD, List.getElem?_append_left (by omega), List.getElem?_take, if_pos (by omega), List.getElem?_drop, ← List.getD_eq_getElem?_getD]
      simp only [Nat.zero_mul, Nat.zero_add, Nat.sub_zero, Nat.add_sub_cancel]
    | succ r =>
      have h2 : (r + 1) * s = r * s + s := Nat.succ_mul _ _
      rw [List.getD_eq_getElem?_getD, List.getElem?_append_right (by omega), hl, ← List.getD_eq_getElem?_getD, show (r + 1) * s + c - s = r * s + c by omega, bwd_get s xs off m (by omega) r c (by omega) hc]
      congr 4; omega

theorem ext_getD {l m : List Nat} (hl : l.length = m.length) (h : ∀ t, t < l.length → l.getD t 0 = m.getD t 0) : l = m := by
  refine List.ext_getElem hl fun i h1 h2 => ?_
  have := h i h1
  rwa [List.getD_eq_getElem?_getD, List.getD_eq_getElem?_getD, List.getElem?_eq_getElem h1, List.getElem?_eq_getElem h2] at this

theorem getD_left {A B : List Nat} {t : Nat} (h : t < A.length) : (A ++ B).getD t 0 = A.getD t 0 := by
  rw [List.getD_eq_getElem?_getD, List.getD_eq_getElem?_getD, List.getElem?_append_left h]
theorem getD_right {A B : List Nat} {t : Nat} (h : A.length ≤ t) : (A ++ B).getD t 0 = B.getD (t - A.length) 0 := by
  rw [List.getD_eq_getElem?_getD, List.getD_eq_getElem?_getD, List.getElem?_append_right h]
theorem revLoop_eq {s n off : Nat} {zs : List Nat} (hs : 0 < s) (hz : off + n * s ≤ zs.length) :
    revLoop s (off + n * s + 1) zs (off + s) (off + n * s) = zs.take off ++ bwd s zs off n ++ zs.drop (off + n * s) := by
  have hn : n ≤ n * s := Nat.le_mul_of_pos_right n hs
  obtain ⟨h1, h2⟩ := revLoop_get s hs n (off + n * s + 1) zs off (by omega) hz
  have hb := bwd_len s zs off n hz
  refine ext_getD ?_ fun t ht => ?_
  · rw [revLoop_len]; simp only [List.length_append, List.length_take, List.length_drop, hb]; omega
  rw [revLoop_len] at ht
  have hta : (zs.take off).length = off := by simp; omega
  have htb : (zs.take off ++ bwd s zs off n).length = off + n * s := by simp only [List.length_append, hta, hb]
  by_cases c1 : t < off
  · rw [h1 t (.inl c1), List.getD_eq_getElem?_getD, List.getD_eq_getElem?_getD, List.getElem?_append_left (by omega), List.getElem?_append_left (by omega), List.getElem?_take, if_pos c1]
  · by_cases c2 : off + n * s ≤ t
    · rw [h1 t (.inr c2), List.getD_eq_getElem?_getD, List.getD_eq_getElem?_getD, List.getElem?_append_right (by omega), htb, List.getElem?_drop]
      congr 3; omega
    · have hd := Nat.div_add_mod (t - off) s
      have hm := Nat.mod_lt (t - off) hs
      have hdl : (t - off) / s < n := Nat.div_lt_of_lt_mul (by rw [Nat.mul_comm]; omega)
      rw [Nat.mul_comm] at hd
      have := h2 _ _ hdl hm
      have ht2 : off + (t - off) / s * s + (t - off) % s = t := by omega
      rw [ht2] at this
      have hb2 := bwd_get s zs off n hz _ _ hdl hm
      rw [show (t - off) / s * s + (t - off) % s = t - off by omega] at hb2
      rw [this, getD_left (by omega), getD_right (by omega), hta, hb2]

theorem bwd_app {s : Nat} {A xs : List Nat} {off : Nat} (ha : A.length = off) : ∀ n, bwd s (A ++ xs.drop off) off n = bwd s xs off n
  | 0 => rfl
  | n + 1 => by
    rw [bwd, bwd, bwd_app ha n]
    rw [List.drop_append, List.drop_of_length_le (by omega), List.nil_append, List.drop_drop, ha]
    congr 3; omega

theorem revEnds_eq {s : Nat} (hs : 0 < s) (xs : List Nat) : ∀ (es : List Nat) (off : Nat) (A : List Nat), A.length = off → AscN s off es xs.length → revEnds s (A ++ xs.drop off) off es = A ++ bwdEnds s xs off es
  | [], off, A, ha, h => by
    simp only [AscN] at h
    rw [revEnds, bwdEnds, List.drop_of_length_le (by omega)]
  | e :: es, off, A, ha, h => by
    obtain ⟨h1, ⟨n, hn⟩, h3⟩ := h
    have hle := h3.le
    have he : e = off + n * s := by rw [Nat.mul_comm] at hn; omega
    have hq : (e - off) / s = n := by rw [hn, Nat.mul_div_cancel_left _ hs]
    rw [revEnds, bwdEnds, hq]
    subst he
    rw [revLoop_eq hs (by simp only [List.length_append, List.length_drop]; omega), bwd_app ha]
    have e1 : (A ++ xs.drop off).take off = A := by rw [List.take_append_of_le_length (by omega), List.take_of_length_le (by omega)]
    have e2 : (A ++ xs.drop off).drop (off + n * s) = xs.drop (off + n * s) := by
      rw [List.drop_append, List.drop_of_length_le (by omega), List.nil_append, List.drop_drop]; congr 1; omega
    rw [e1, e2, revEnds_eq hs xs es (off + n * s) (A ++ bwd s xs off n) (by rw [List.length_append, bwd_len _ _ _ _ hle, ha]) h3, List.append_assoc]

theorem revEnds_bwd {s : Nat} (hs : 0 < s) {xs es : List Nat} (h : AscN s 0 es xs.length) : revEnds s xs 0 es = bwdEnds s xs 0 es := by
  simpa using revEnds_eq hs xs es 0 [] rfl h
end Go.Proofs.Ytlgbjidbjijepaa.Rev
