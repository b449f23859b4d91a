/-
  Hilbert curves: the place at a place's position is that place; where a curve begins and ends. Plain Lean. No conditions.
-/
import Derived.Test.YtjalgjeibnjinaaDoorHil5
set_option linter.unusedVariables false
set_option linter.unusedSimpArgs false
set_option linter.unusedSectionVars false
namespace Go.Proofs.YtjalgjeibnjinaaDoor.Hil
open Go.Lg

/-- What a turn is to the curve. -/
class Turn2 (D : Nat) (rot : Bool → Nat → Nat → List Nat → List Nat) : Prop where
  comm : ∀ rev n ord d xs, n ≤ ord → xs.length = D → (rot rev (2 ^ ord - 1) d xs).map (· % 2 ^ n) = rot rev (2 ^ n - 1) d (xs.map (· % 2 ^ n))
  back : ∀ m d xs, d < 2 ^ D → xs.length = D → rot true m d (rot false m d xs) = xs
  gray : ∀ bs, bs.length = D → (∀ b ∈ bs, b < 2) → grayL D (ungray bs) = bs

theorem mask_mod {n ord : Nat} (h : n ≤ ord) : (2 ^ ord - 1) % 2 ^ n = 2 ^ n - 1 := by
  obtain ⟨c, rfl⟩ : ∃ c, ord = n + c := ⟨ord - n, by omega⟩
  rw [Nat.pow_add]
  have h1 := Nat.two_pow_pos n
  have h2 := Nat.two_pow_pos c
  obtain ⟨q, hq⟩ : ∃ q, 2 ^ c = q + 1 := ⟨2 ^ c - 1, by omega⟩
  rw [hq, Nat.mul_succ, show 2 ^ n * q + 2 ^ n - 1 = (2 ^ n - 1) + 2 ^ n * q by omega, Nat.add_mul_mod_self_left]
  exact Nat.mod_eq_of_lt (by omega)
theorem xor_mask_mod {x n ord : Nat} (h : n ≤ ord) : (x ^^^ (2 ^ ord - 1)) % 2 ^ n = x % 2 ^ n ^^^ (2 ^ n - 1) := by
  rw [Nat.xor_mod_two_pow, mask_mod h]
theorem xor_back (x m : Nat) : x ^^^ m ^^^ m = x := by rw [Nat.xor_assoc, Nat.xor_self, Nat.xor_zero]
instance turn2_2 : Turn2 2 rot2 where
  comm := fun rev n ord d xs h hl => by
    obtain ⟨x, y, rfl⟩ := len2 hl
    unfold rot2
    split <;> simp [swapL, flipL, invL, xor_mask_mod h]
  back := fun m d xs hd hl => by
    obtain ⟨x, y, rfl⟩ := len2 hl
    match d, hd with
    | 0, _ => simp [rot2, swapL, flipL, invL, xor_back]
    | 1, _ => simp [rot2, swapL, flipL, invL, xor_back]
    | 2, _ => simp [rot2, swapL, flipL, invL, xor_back]
    | 3, _ => simp [rot2, swapL, flipL, invL, xor_back]
  gray := fun bs hl hb => by
    obtain ⟨x, y, rfl⟩ := len2 hl
    exact (show ∀ x, x < 2 → ∀ y, y < 2 → grayL 2 (ungray [x, y]) = [x, y] by decide) x (hb x (by simp)) y (hb y (by simp))
instance turn2_3 : Turn2 3 rot3 where
  comm := fun rev n ord d xs h hl => by
    obtain ⟨x, y, z, rfl⟩ := len3 hl
    unfold rot3
    split <;> simp [swapL, flipL, invL, xor_mask_mod h]
  back := fun m d xs hd hl => by
    obtain ⟨x, y, z, rfl⟩ := len3 hl
    match d, hd with
    | 0, _ => simp [rot3, swapL, flipL, invL, xor_back]
    | 1, _ => simp [rot3, swapL, flipL, invL, xor_back]
    | 2, _ => simp [rot3, swapL, flipL, invL, xor_back]
    | 3, _ => simp [rot3, swapL, flipL, invL, xor_back]
    | 4, _ => simp [rot3, swapL, flipL, invL, xor_back]
    | 5, _ => simp [rot3, swapL, flipL, invL, xor_back]
    | 6, _ => simp [rot3, swapL, flipL, invL, xor_back]
    | 7, _ => simp [rot3, swapL, flipL, invL, xor_back]
  gray := fun bs hl hb => by
    obtain ⟨x, y, z, rfl⟩ := len3 hl
    exact (show ∀ x, x < 2 → ∀ y, y < 2 → ∀ z, z < 2 → grayL 3 (ungray [x, y, z]) = [x, y, z] by decide) x (hb x (by simp)) y (hb y (by simp)) z (hb z (by simp))
instance turn2_4 : Turn2 4 rot4 where
  comm := fun rev n ord d xs h hl => by
    obtain ⟨x, y, z, u, rfl⟩ := len4 hl
    unfold rot4
    split <;> simp [swapL, flipL, invL, xor_mask_mod h]
  back := fun m d xs hd hl => by
    obtain ⟨x, y, z, u, rfl⟩ := len4 hl
    match d, hd with
    | 0, _ => simp [rot4, swapL, flipL, invL, xor_back]
    | 1, _ => simp [rot4, swapL, flipL, invL, xor_back]
    | 2, _ => simp [rot4, swapL, flipL, invL, xor_back]
    | 3, _ => simp [rot4, swapL, flipL, invL, xor_back]
    | 4, _ => simp [rot4, swapL, flipL, invL, xor_back]
    | 5, _ => simp [rot4, swapL, flipL, invL, xor_back]
    | 6, _ => simp [rot4, swapL, flipL, invL, xor_back]
    | 7, _ => simp [rot4, swapL, flipL, invL, xor_back]
    | 8, _ => simp [rot4, swapL, flipL, invL, xor_back]
    | 9, _ => simp [rot4, swapL, flipL, invL, xor_back]
    | 10, _ => simp [rot4, swapL, flipL, invL, xor_back]
    | 11, _ => simp [rot4, swapL, flipL, invL, xor_back]
    | 12, _ => simp [rot4, swapL, flipL, invL, xor_back]
    | 13, _ => simp [rot4, swapL, flipL, invL, xor_back]
    | 14, _ => simp [rot4, swapL, flipL, invL, xor_back]
    | 15, _ => simp [rot4, swapL, flipL, invL, xor_back]
    | d + 16, h => exact absurd h (by omega)
  gray := fun bs hl hb => by
    obtain ⟨x, y, z, u, rfl⟩ := len4 hl
    exact (show ∀ x, x < 2 → ∀ y, y < 2 → ∀ z, z < 2 → ∀ u, u < 2 → grayL 4 (ungray [x, y, z, u]) = [x, y, z, u] by decide) x (hb x (by simp)) y (hb y (by simp)) z (hb z (by simp)) u (hb u (by simp))

section
variable {D : Nat} {rot : Bool → Nat → Nat → List Nat → List Nat} [ht : Turn rot] [h2 : Turn2 D rot]
def eAt (D : Nat) (rot : Bool → Nat → Nat → List Nat → List Nat) (ord : Nat) (v0 : List Nat) (j : Nat) : Nat := ungray (bitsAt (ord - 1 - j) (pst D rot ord v0 j).1)
theorem eAt_lt {ord : Nat} {v0 : List Nat} (h : v0.length = D) (j : Nat) : eAt D rot ord v0 j < 2 ^ D := by
  have := ungray_lt (bitsAt (ord - 1 - j) (pst D rot ord v0 j).1)
  simpa [eAt, bitsAt, pst_len (D := D) (rot := rot) h j] using this
theorem pst_dvd {ord : Nat} {v0 : List Nat} : ∀ j, j ≤ ord → ∃ c, (pst D rot ord v0 j).2 = c * 2 ^ (D * (ord - j))
  | 0, _ => ⟨0, by simp [pst]⟩
  | j + 1, hj => by
    obtain ⟨c, hc⟩ := pst_dvd (ord := ord) (v0 := v0) j (by omega)
    refine ⟨c * 2 ^ D + eAt D rot ord v0 j, ?_⟩
    show (pst D rot ord v0 j).2 + eAt D rot ord v0 j * 2 ^ (D * (ord - 1 - j)) = _
    rw [hc, show ord - j = ord - 1 - j + 1 by omega, show ord - (j + 1) = ord - 1 - j by omega, Nat.mul_succ, Nat.pow_add, Nat.add_mul, Nat.mul_assoc, Nat.mul_comm (2 ^ D)]
theorem pst_up {ord : Nat} {v0 : List Nat} (h : v0.length = D) (j : Nat) : ∀ i, j + i ≤ ord → (pst D rot ord v0 j).2 ≤ (pst D rot ord v0 (j + i)).2 ∧ (pst D rot ord v0 (j + i)).2 + 2 ^ (D * (ord - (j + i))) ≤ (pst D rot ord v0 j).2 + 2 ^ (D * (ord - j))
  | 0, _ => ⟨Nat.le_refl _, Nat.le_refl _⟩
  | i + 1, hi => by
    obtain ⟨i1, i2⟩ := pst_up (ord := ord) h j i (by omega)
    have he := eAt_lt (D := D) (rot := rot) (ord := ord) h (j + i)
    have hs : (pst D rot ord v0 (j + (i + 1))).2 = (pst D rot ord v0 (j + i)).2 + eAt D rot ord v0 (j + i) * 2 ^ (D * (ord - 1 - (j + i))) := rfl
    rw [hs]
    refine ⟨by omega, ?_⟩
    rw [show ord - (j + i) = ord - 1 - (j + i) + 1 by omega, Nat.mul_succ, Nat.pow_add] at i2
    rw [show ord - (j + (i + 1)) = ord - 1 - (j + i) by omega]
    have h3 : eAt D rot ord v0 (j + i) * 2 ^ (D * (ord - 1 - (j + i))) + 2 ^ (D * (ord - 1 - (j + i))) ≤ 2 ^ (D * (ord - 1 - (j + i))) * 2 ^ D := by
      rw [← Nat.succ_mul, Nat.mul_comm]; exact Nat.mul_le_mul_left _ he
    omega
/-- The digits of the position. -/
theorem digit {ord : Nat} {v0 : List Nat} (h : v0.length = D) (j : Nat) (hj : j < ord) : (pst D rot ord v0 ord).2 / 2 ^ (D * (ord - 1 - j)) % 2 ^ D = eAt D rot ord v0 j := by
  obtain ⟨c, hc⟩ := pst_dvd (D := D) (rot := rot) (v0 := v0) j (Nat.le_of_lt hj)
  have he := eAt_lt (D := D) (rot := rot) (ord := ord) h j
  obtain ⟨u1, u2⟩ := pst_up (D := D) (rot := rot) (ord := ord) h (j + 1) (ord - (j + 1)) (by omega)
  rw [show j + 1 + (ord - (j + 1)) = ord by omega, Nat.sub_self, Nat.mul_zero] at u2
  rw [show j + 1 + (ord - (j + 1)) = ord by omega] at u1
  have hs : (pst D rot ord v0 (j + 1)).2 = (pst D rot ord v0 j).2 + eAt D rot ord v0 j * 2 ^ (D * (ord - 1 - j)) := rfl
  rw [hs, hc, show ord - j = ord - 1 - j + 1 by omega, Nat.mul_succ, Nat.pow_add] at u1 u2
  rw [show ord - (j + 1) = ord - 1 - j by omega] at u2
  have hq := Nat.two_pow_pos (D * (ord - 1 - j))
  generalize 2 ^ (D * (ord - 1 - j)) = q at u1 u2 hq ⊢
  generalize eAt D rot ord v0 j = e at he u1 u2 ⊢
  have e1 : c * (q * 2 ^ D) + e * q = q * (c * 2 ^ D + e) := by
    rw [Nat.mul_add, Nat.mul_comm q e, Nat.mul_left_comm, Nat.mul_comm c]
  rw [e1] at u1 u2
  obtain ⟨r, hr⟩ : ∃ r, (pst D rot ord v0 ord).2 = q * (c * 2 ^ D + e) + r := ⟨_, (Nat.add_sub_cancel' u1).symm⟩
  have hrq : r < q := by omega
  rw [hr, Nat.mul_add_div hq, Nat.div_eq_of_lt hrq, Nat.add_zero, Nat.add_comm, Nat.mul_comm c, Nat.add_mul_mod_self_left, Nat.mod_eq_of_lt he]
theorem bit_split (x n : Nat) : x % 2 ^ n + (x >>> n &&& 1) * 2 ^ n = x % 2 ^ (n + 1) := by
  have h1 : x >>> n &&& 1 = x / 2 ^ n % 2 := by
    rw [show (1 : Nat) = 2 ^ 1 - 1 from rfl, Nat.and_two_pow_sub_one_eq_mod, Nat.shiftRight_eq_div_pow]
  rw [h1, Nat.pow_succ, Nat.mod_mul, Nat.mul_comm]
theorem zip_bits (n : Nat) : ∀ xs : List Nat, List.zipWith (fun x b => x + b * 2 ^ n) (xs.map (· % 2 ^ n)) (bitsAt n xs) = xs.map (· % 2 ^ (n + 1))
  | [] => rfl
  | x :: xs => by
    have := zip_bits n xs
    simp only [bitsAt, List.map_cons, List.zipWith_cons_cons] at this ⊢
    rw [this, bit_split]
theorem bitsAt_bits {n : Nat} {xs : List Nat} : ∀ b ∈ bitsAt n xs, b < 2 := by
  intro b hb
  obtain ⟨x, _, rfl⟩ := List.mem_map.1 hb
  exact bit1 _
theorem cst_eq {ord : Nat} {v0 : List Nat} (h : v0.length = D) : ∀ n, n ≤ ord → (cst D rot (pst D rot ord v0 ord).2 n).1 = (pst D rot ord v0 (ord - n)).1.map (· % 2 ^ n)
  | 0, _ => by
    have hl := pst_len (D := D) (rot := rot) (ord := ord) h (ord - 0)
    show List.replicate D 0 = _
    refine List.ext_getElem (by rw [List.length_replicate, List.length_map]; exact hl.symm) fun i h1 h2 => ?_
    simp [Nat.mod_one]
  | n + 1, hn => by
    have ih := cst_eq (ord := ord) h n (by omega)
    obtain ⟨j, hj⟩ : ∃ j, j = ord - (n + 1) := ⟨_, rfl⟩
    have hjn : ord - n = j + 1 := by omega
    have hnj : ord - 1 - j = n := by omega
    have hl := pst_len (D := D) (rot := rot) (ord := ord) h j
    have hp : (cst D rot (pst D rot ord v0 ord).2 n).2 % 2 ^ D = eAt D rot ord v0 j := by
      rw [cst_pos, ← digit h j (by omega), hnj]
    show List.zipWith (fun x b => x + b * 2 ^ n) (rot true (2 ^ n - 1) ((cst D rot (pst D rot ord v0 ord).2 n).2 % 2 ^ D) (cst D rot (pst D rot ord v0 ord).2 n).1) (grayL D ((cst D rot (pst D rot ord v0 ord).2 n).2 % 2 ^ D)) = _
    rw [hp, ih, hjn, ← hj]
    have e1 : (pst D rot ord v0 (j + 1)).1 = rot false (2 ^ ord - 1) (eAt D rot ord v0 j) (pst D rot ord v0 j).1 := rfl
    have e2 : grayL D (eAt D rot ord v0 j) = bitsAt n (pst D rot ord v0 j).1 := by
      unfold eAt
      rw [hnj]
      exact h2.gray _ (by simp [bitsAt, hl]) bitsAt_bits
    rw [e1, h2.comm _ _ _ _ _ (by omega) hl, h2.back _ _ _ (eAt_lt h j) (by simp [hl]), e2, zip_bits]
/-- The place at the position of a place. -/
theorem back {ord : Nat} {v0 : List Nat} (h : v0.length = D) (hb : Below ord v0) : (cst D rot (pst D rot ord v0 ord).2 ord).1 = v0 := by
  rw [cst_eq h ord (Nat.le_refl _), Nat.sub_self]
  show v0.map (· % 2 ^ ord) = v0
  refine List.ext_getElem (by simp) fun i h1 h2 => ?_
  rw [List.getElem_map]
  exact Nat.mod_eq_of_lt (hb _ (List.getElem_mem _))
theorem pos_lt {ord : Nat} {v0 : List Nat} (h : v0.length = D) : (pst D rot ord v0 ord).2 < 2 ^ (D * ord) := by
  have := pst_d (D := D) (rot := rot) h ord (Nat.le_refl _)
  rw [Nat.sub_self, Nat.mul_zero] at this
  omega
end

theorem all_ones (D ord n : Nat) (hD : 0 < D) (hn : n < ord) : (2 ^ (D * ord) - 1) / 2 ^ (D * n) % 2 ^ D = 2 ^ D - 1 := by
  obtain ⟨c, rfl⟩ : ∃ c, ord = n + (c + 1) := ⟨ord - n - 1, by omega⟩
  rw [Nat.mul_add, Nat.pow_add]
  have h1 := Nat.two_pow_pos (D * n)
  have h2 := Nat.two_pow_pos (D * (c + 1))
  obtain ⟨q, hq⟩ : ∃ q, 2 ^ (D * (c + 1)) = q + 1 := ⟨_, (Nat.sub_add_cancel h2).symm⟩
  have e : 2 ^ (D * n) * 2 ^ (D * (c + 1)) - 1 = 2 ^ (D * n) * q + (2 ^ (D * n) - 1) := by rw [hq, Nat.mul_succ]; omega
  rw [e, Nat.mul_add_div h1, Nat.div_eq_of_lt (by omega), Nat.add_zero, show q = 2 ^ (D * (c + 1)) - 1 by omega]
  exact mask_mod (by rw [Nat.mul_succ]; omega)
theorem one_more (n : Nat) : 2 ^ n - 1 + 1 * 2 ^ n = 2 ^ (n + 1) - 1 := by have := Nat.two_pow_pos n; rw [Nat.pow_succ]; omega
theorem begin2 : ∀ n, cst 2 rot2 0 n = ([0, 0], 0)
  | 0 => rfl
  | n + 1 => by simp only [cst, begin2 n, cstep]; simp [rot2, swapL, grayL, List.range, List.range.loop]
theorem begin3 : ∀ n, cst 3 rot3 0 n = ([0, 0, 0], 0)
  | 0 => rfl
  | n + 1 => by simp only [cst, begin3 n, cstep]; simp [rot3, swapL, grayL, List.range, List.range.loop]
theorem begin4 : ∀ n, cst 4 rot4 0 n = ([0, 0, 0, 0], 0)
  | 0 => rfl
  | n + 1 => by simp only [cst, begin4 n, cstep]; simp [rot4, swapL, grayL, List.range, List.range.loop]
theorem end2 (ord : Nat) : ∀ n, n ≤ ord → (cst 2 rot2 (2 ^ (2 * ord) - 1) n).1 = [0, 2 ^ n - 1]
  | 0, _ => rfl
  | n + 1, h => by
    have ih := end2 ord n (by omega)
    have hp := cst_pos (D := 2) (rot := rot2) (pos := 2 ^ (2 * ord) - 1) n
    have ho := all_ones 2 ord n (by decide) (by omega)
    simp only [cst, cstep]
    rw [hp, ho, ih, show grayL 2 (2 ^ 2 - 1) = [0, 1] by decide]
    simp only [rot2, flipL, List.getD_cons_zero, List.getD_cons_succ, List.set_cons_zero, List.set_cons_succ, Nat.xor_self, Nat.zero_xor, List.zipWith_cons_cons, List.zipWith_nil_left, Nat.zero_mul, Nat.add_zero, Nat.reducePow, Nat.reduceSub]
    rw [one_more]
theorem end3 (ord : Nat) : ∀ n, n ≤ ord → (cst 3 rot3 (2 ^ (3 * ord) - 1) n).1 = [0, 0, 2 ^ n - 1]
  | 0, _ => rfl
  | n + 1, h => by
    have ih := end3 ord n (by omega)
    have hp := cst_pos (D := 3) (rot := rot3) (pos := 2 ^ (3 * ord) - 1) n
    have ho := all_ones 3 ord n (by decide) (by omega)
    simp only [cst, cstep]
    rw [hp, ho, ih, show grayL 3 (2 ^ 3 - 1) = [0, 0, 1] by decide]
    simp only [rot3, flipL, List.getD_cons_zero, List.getD_cons_succ, List.set_cons_zero, List.set_cons_succ, Nat.xor_self, Nat.zero_xor, List.zipWith_cons_cons, List.zipWith_nil_left, Nat.zero_mul, Nat.add_zero, Nat.reducePow, Nat.reduceSub]
    rw [one_more]
theorem end4 (ord : Nat) : ∀ n, n ≤ ord → (cst 4 rot4 (2 ^ (4 * ord) - 1) n).1 = [0, 0, 0, 2 ^ n - 1]
  | 0, _ => rfl
  | n + 1, h => by
    have ih := end4 ord n (by omega)
    have hp := cst_pos (D := 4) (rot := rot4) (pos := 2 ^ (4 * ord) - 1) n
    have ho := all_ones 4 ord n (by decide) (by omega)
    simp only [cst, cstep]
    rw [hp, ho, ih, show grayL 4 (2 ^ 4 - 1) = [0, 0, 0, 1] by decide]
    simp only [rot4, flipL, List.getD_cons_zero, List.getD_cons_succ, List.set_cons_zero, List.set_cons_succ, Nat.xor_self, Nat.zero_xor, List.zipWith_cons_cons, List.zipWith_nil_left, Nat.zero_mul, Nat.add_zero, Nat.reducePow, Nat.reduceSub]
    rw [one_more]
end Go.Proofs.YtjalgjeibnjinaaDoor.Hil
