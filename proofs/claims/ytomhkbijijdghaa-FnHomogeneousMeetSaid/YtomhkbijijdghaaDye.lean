/-
  Exact numbers as rationals: what the reference's sums, differences, products, signs and comparisons of them are. No conditions.
-/
import Derived.Test.YtomhkbijijdghaaDyd
import Derived.Test.YtomhkbijijdghaaLg15
set_option linter.unusedVariables false
set_option linter.unusedSimpArgs false
namespace Go.Proofs.Ytomhkbijijdghaa.Lmb
open Go.Lg

/-- The value is this rational; d bounds its size. -/
def IsQ (q : Rat) (d : Nat) (u : Value) (G : Heap) : Prop := ∃ n e L, IsD n e L u G ∧ q = (n : Rat) * p2 e ∧ L + 70000 ≤ 70100 * 2 ^ d ∧ -((1100 * 2 ^ d : Nat) : Int) ≤ e ∧ e ≤ ((1100 * 2 ^ d : Nat) : Int)
theorem IsQ.mono {q d u G G'} (h : IsQ q d u G) (hG : ∀ x ∈ G, x ∈ G') : IsQ q d u G' := let ⟨n, e, L, h1, h2⟩ := h; ⟨n, e, L, h1.mono hG, h2⟩
theorem IsQ.skip {q d u} {G G' : Heap} (h : IsQ q d u G) (hs : ∀ x ∈ G, x ∈ G' ∨ NoU x) : IsQ q d u G' := let ⟨n, e, L, h1, h2⟩ := h; ⟨n, e, L, h1.skip hs, h2⟩
theorem IsQ.big {q d d' u G} (h : IsQ q d u G) (hd : d ≤ d') : IsQ q d' u G := by
  obtain ⟨n, e, L, h1, h2, h3, h4, h5⟩ := h
  have p2' : 2 ^ d ≤ 2 ^ d' := Nat.pow_le_pow_right (by decide) hd
  unfold IsQ
  generalize 2 ^ d = b at *
  generalize 2 ^ d' = b' at *
  exact ⟨n, e, L, h1, h2, by omega, by omega, by omega⟩
theorem IsQ.open {q d u G} (h : IsQ q d u G) : ∃ b a k c e, u = .agg ⟨[.bool b, .slice a k c, .int .i64 e]⟩ := by
  obtain ⟨n, e, L, ⟨b, a, k, c, h1, _⟩, _⟩ := h
  exact ⟨b, a, k, c, e, h1⟩
/-- The same, and what the value looks like. -/
def IsQ' (q : Rat) (d : Nat) (u : Value) (G : Heap) : Prop := ∃ b a k c e, u = .agg ⟨[.bool b, .slice a k c, .int .i64 e]⟩ ∧ IsQ q d u G
theorem IsQ'.mono {q d u G G'} (h : IsQ' q d u G) (hG : ∀ x ∈ G, x ∈ G') : IsQ' q d u G' := let ⟨b, a, k, c, e, h1, h2⟩ := h; ⟨b, a, k, c, e, h1, h2.mono hG⟩
theorem IsQ.fine {q d u G} (h : IsQ q d u G) : IsQ' q d u G := let ⟨b, a, k, c, e, h1⟩ := h.open; ⟨b, a, k, c, e, h1, h⟩
theorem IsQ.to {q q' d u G} (h : IsQ q d u G) (e : q = q') : IsQ q' d u G := e ▸ h

def sgQ (q : Rat) : Int := if q = 0 then 0 else if q < 0 then -1 else 1
theorem sgI_q {n e : Int} {q : Rat} (h : q = (n : Rat) * p2 e) : sgI n = sgQ q := by
  have hp := p2_pos e
  unfold sgI sgQ
  by_cases h0 : n = 0
  · rw [if_pos h0, if_pos (by rw [h, h0]; simp)]
  · rw [if_neg h0]
    have hn0 : q ≠ 0 := by
      rw [h]
      intro hz
      rcases Rat.mul_eq_zero.1 hz with h1 | h1
      · exact h0 (by exact_mod_cast h1)
      · rw [h1] at hp; exact absurd hp (by grind)
    rw [if_neg hn0]
    by_cases h1 : n < 0
    · rw [if_pos h1, if_pos]
      rw [h]
      have := mul_lt (a := (n : Rat)) (b := 0) (by exact_mod_cast h1) hp
      simpa using this
    · rw [if_neg h1, if_neg]
      rw [h]
      intro hlt
      have h2 : (0 : Rat) ≤ (n : Rat) := by exact_mod_cast (by omega : 0 ≤ n)
      have := mul_le (a := 0) (b := (n : Rat)) h2 (by grind : (0 : Rat) ≤ p2 e)
      grind
theorem sgQ_eq {q : Rat} : icmp .eql (sgQ q) 0 = decide (q = 0) := by
  unfold sgQ
  by_cases h : q = 0
  · simp [h, icmp]
  · by_cases h2 : q < 0
    · simp [h, h2, icmp]
    · simp [h, h2, icmp]
theorem sgQ_lss {q : Rat} : icmp .lss (sgQ q) 0 = decide (q < 0) := by
  unfold sgQ
  by_cases h : q = 0
  · subst h; simp [icmp]
  · by_cases h2 : q < 0
    · simp [h, h2, icmp]
    · simp [h, h2, icmp]
theorem sgQ_gtr {q : Rat} : icmp .gtr (sgQ q) 0 = decide (0 < q) := by
  unfold sgQ
  by_cases h : q = 0
  · subst h; simp [icmp]
  · by_cases h2 : q < 0
    · simp [h, h2, icmp]; grind
    · simp [h, h2, icmp]; grind
theorem sgQ_leq {q : Rat} : icmp .leq (sgQ q) 0 = decide (q ≤ 0) := by
  unfold sgQ
  by_cases h : q = 0
  · subst h; simp [icmp]
  · by_cases h2 : q < 0
    · simp [h, h2, icmp]; grind
    · simp [h, h2, icmp]; grind
theorem sgQ_geq {q : Rat} : icmp .geq (sgQ q) 0 = decide (0 ≤ q) := by
  unfold sgQ
  by_cases h : q = 0
  · subst h; simp [icmp]
  · by_cases h2 : q < 0
    · simp [h, h2, icmp]; grind
    · simp [h, h2, icmp]; grind

theorem up_val (m e f : Int) (h : f ≤ e) : ((m * ((2 ^ (e - f).toNat : Nat) : Int) : Int) : Rat) * p2 f = (m : Rat) * p2 e := by
  have e1 : p2 e = p2 (((e - f).toNat : Nat) : Int) * p2 f := by rw [← p2_add]; congr 1; omega
  rw [e1, p2_nat, Rat.intCast_mul, Rat.intCast_natCast]
  grind
theorem dAddN_val (n e m f : Int) : ((dAddN n e m f).1 : Rat) * p2 (dAddN n e m f).2 = (n : Rat) * p2 e + (m : Rat) * p2 f := by
  unfold dAddN
  by_cases h1 : n = 0
  · rw [if_pos h1, h1]; simp; grind
  rw [if_neg h1]
  by_cases h2 : m = 0
  · rw [if_pos h2, h2]; simp; grind
  rw [if_neg h2]
  by_cases h3 : f < e
  · rw [if_pos h3]
    have := up_val n e f (by omega)
    simp only [Rat.intCast_add, Rat.add_mul, this]
  · rw [if_neg h3]
    have := up_val m f e (by omega)
    simp only [Rat.intCast_add, Rat.add_mul, this]
    exact Rat.add_comm _ _
theorem dAddN_exp (n e m f : Int) : (dAddN n e m f).2 = e ∨ (dAddN n e m f).2 = f := by
  unfold dAddN
  split
  · exact .inr rfl
  split
  · exact .inl rfl
  split
  · exact .inr rfl
  · exact .inl rfl
theorem pow4 {d : Nat} (h : d ≤ 8) : 2 ^ d ≤ 256 ∧ 1 ≤ 2 ^ d ∧ 2 ^ (d + 1) = 2 * 2 ^ d := by
  refine ⟨?_, Nat.pow_pos (by decide), by rw [Nat.pow_succ]; omega⟩
  have : 2 ^ d ≤ 2 ^ 8 := Nat.pow_le_pow_right (by decide) h
  omega

theorem qOf (x : Nat) (q : Rat) (H : Heap) (hq : Fv x q) (hx : x < 18446744073709551616) : Does Try.prog 102 [.float .f64 x] H fun w H' => ∃ ex, H' = ex ++ H ∧ IsQ q 0 w H' :=
  (dyadicOf x q H hq hx).mono fun w H' ⟨ex, n, e, h1, h2, h3, h4, h5⟩ => ⟨ex, h1, n, e, 2, h2, h3, by omega, by omega, by omega⟩
theorem qSign (u : Value) (q : Rat) (d : Nat) (H : Heap) (hu : IsQ q d u H) : Does Try.prog 82 [u] H fun w H' => w = .int .i64 (sgQ q) ∧ H' = H := by
  obtain ⟨n, e, L, h1, h2, h3, h4, h5⟩ := hu
  rw [← sgI_q h2]
  exact dSign u n e L H h1
theorem qMinus (u : Value) (q : Rat) (d : Nat) (H : Heap) (hu : IsQ q d u H) : Does Try.prog 99 [u] H fun w H' => ∃ ex, H' = ex ++ H ∧ IsQ (-q) d w H' := by
  obtain ⟨n, e, L, h1, h2, h3, h4, h5⟩ := hu
  refine (dMinus u n e L H h1).mono ?_
  rintro w H' ⟨ex, rfl, hw⟩
  exact ⟨ex, rfl, -n, e, L, hw, by rw [h2, Rat.intCast_neg, Rat.neg_mul], h3, h4, h5⟩
theorem qMul (u v : Value) (a b : Rat) (d : Nat) (H : Heap) (hd : d ≤ 8) (hu : IsQ a d u H) (hv : IsQ b d v H) : Does Try.prog 42 [u, v] H fun w H' => ∃ ex, H' = ex ++ H ∧ IsQ (a * b) (d + 1) w H' := by
  obtain ⟨n, e, L, h1, h2, h3, h4, h5⟩ := hu
  obtain ⟨m, f, M, k1, k2, k3, k4, k5⟩ := hv
  obtain ⟨p4, p5, p6⟩ := pow4 hd
  unfold IsQ
  rw [p6]
  generalize 2 ^ d = B at *
  refine (dMul u v n e m f L M H h1 k1 (by omega) (by omega) (by omega) (by omega)).mono ?_
  rintro w H' ⟨ex, rfl, hw⟩
  refine ⟨ex, rfl, _, _, _, hw, ?_, by omega, by omega, by omega⟩
  rw [h2, k2, Rat.intCast_mul, p2_add]; grind
theorem qAdd (u v : Value) (a b : Rat) (d : Nat) (H : Heap) (hd : d ≤ 8) (hu : IsQ a d u H) (hv : IsQ b d v H) : Does Try.prog 93 [u, v] H fun w H' => ∃ ex, H' = ex ++ H ∧ IsQ (a + b) (d + 1) w H' := by
  obtain ⟨n, e, L, h1, h2, h3, h4, h5⟩ := hu
  obtain ⟨m, f, M, k1, k2, k3, k4, k5⟩ := hv
  obtain ⟨p4, p5, p6⟩ := pow4 hd
  unfold IsQ
  rw [p6]
  generalize 2 ^ d = B at *
  refine (dAdd u v n e m f L M H h1 k1 (by omega) (by omega) (by omega) (by omega)).mono ?_
  rintro w H' ⟨ex, rfl, hw⟩
  have hx := dAddN_exp n e m f
  refine ⟨ex, rfl, _, _, _, hw, ?_, by omega, by omega, by omega⟩
  rw [h2, k2, dAddN_val]
theorem qSub (u v : Value) (a b : Rat) (d : Nat) (H : Heap) (hd : d ≤ 8) (hu : IsQ a d u H) (hv : IsQ b d v H) : Does Try.prog 91 [u, v] H fun w H' => ∃ ex, H' = ex ++ H ∧ IsQ (a - b) (d + 1) w H' := by
  obtain ⟨n, e, L, h1, h2, h3, h4, h5⟩ := hu
  obtain ⟨m, f, M, k1, k2, k3, k4, k5⟩ := hv
  obtain ⟨p4, p5, p6⟩ := pow4 hd
  unfold IsQ
  rw [p6]
  generalize 2 ^ d = B at *
  refine (dSub u v n e m f L M H h1 k1 (by omega) (by omega) (by omega) (by omega)).mono ?_
  rintro w H' ⟨ex, rfl, hw⟩
  have hx := dAddN_exp n e (-m) f
  refine ⟨ex, rfl, _, _, _, hw, ?_, by omega, by omega, by omega⟩
  rw [h2, k2, dAddN_val, Rat.intCast_neg, Rat.neg_mul]; grind
end Go.Proofs.Ytomhkbijijdghaa.Lmb
