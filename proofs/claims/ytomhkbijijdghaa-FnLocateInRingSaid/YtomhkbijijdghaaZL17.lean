/-
  Exact numbers as rationals: what the reference's sums, differences, products, signs and comparisons of them are. No conditions.
-/
import Derived.Test.YtomhkbijijdghaaZL7
import Derived.Test.YtomhkbijijdghaaZL16
set_option linter.unusedVariables false
set_option linter.unusedSimpArgs false
namespace Go.Proofs.Ytomhkbijijdghaa.Lmb
open Go.Lg

/-- The value is this rational; d bounds its size. -/
def IsQ (q : Rat) (d : Nat) (u : Value) (G : Heap) : Prop := ∃ n e L, IsD n e L u G ∧ q = (n : Rat) * p2 e ∧ L + 70000 ≤ 70100 * 2 ^ d ∧ -((1100 * 2 ^ d : Nat) : Int) ≤ e ∧ e ≤ ((1100 * 2 ^ d : Nat) : Int)
theorem IsQ.mono {q d u G G'} (h : IsQ q d u G) (hG : ∀ x ∈ G, x ∈ G') : IsQ q d u G' := let ⟨n, e, L, h1, h2⟩ := h; ⟨n, e, L, h1.mono hG, h2⟩
theorem IsQ.skip {q d u} {G G' : Heap} (h : IsQ q d u G) (hs : ∀ x ∈ G, x ∈ G' ∨ NoU x) : IsQ q d u G' := let ⟨n, e, L, h1, h2⟩ := h; ⟨n, e, L, h1.skip hs, h2⟩
theorem IsQ.big {q d d' u G} (h : IsQ q d u G) (hd : d ≤ d') : IsQ q d' u G := by
  obtain ⟨n, e, L, h1, h2, h3, h4, h5⟩ := h
  have p2' : 2 ^ d ≤ 2 ^ d' := Nat.pow_le_pow_right (by decide) hd
  unfold IsQ
  generalize 2 ^ d = b at *
  generalize 2 ^ d' = b' at *
  exact ⟨n, e, L, h1, h2, by omega, by omega, by omega⟩
theorem IsQ.open {q d u G} (h : IsQ q d u G) : ∃ b a k c e, u = .agg ⟨[.bool b, .slice a k c, .int .i64 e]⟩ := by
  obtain ⟨n, e, L, ⟨b, a, k, c, h1, _⟩, _⟩ := h
  exact ⟨b, a, k, c, e, h1⟩
/-- The same, and what the value looks like. -/
def IsQ' (q : Rat) (d : Nat) (u : Value) (G : Heap) : Prop := ∃ b a k c e, u = .agg ⟨[.bool b, .slice a k c, .int .i64 e]⟩ ∧ IsQ q d u G
theorem IsQ'.mono {q d u G G'} (h : IsQ' q d u G) (hG : ∀ x ∈ G, x ∈ G') : IsQ' q d u G' := let ⟨b, a, k, c, e, h1, h2⟩ := h; ⟨b, a, k, c, e, h1, h2.mono hG⟩
theorem IsQ.fine {q d u G} (h : IsQ q d u G) : IsQ' q d u G := let ⟨b, a, k, c, e, h1⟩ := h.open; ⟨b, a, k, c, e, h1, h⟩
theorem IsQ.to {q q' d u G} (h : IsQ q d u G) (e : q = q') : IsQ q' d u G := e ▸ h

def sgQ (q : Rat) : Int := if q = 0 then 0 else if q < 0 then -1 else 1
theorem sgI_q {n e : Int} {q : Rat} (h : q = (n : Rat) * p2 e) : sgI n = sgQ q := by
  have hp := p2_pos e
  unfold sgI sgQ
  by_cases h0 : n = 0
  · rw [if_pos h0, if_pos (by rw [h, h0]; simp)]
  · rw [if_neg h0]
    have hn0 : q ≠ 0 := by
      rw [h]
      intro hz
      rcases Rat.mul_eq_zero.1 hz with h1 | h1
      · exact h0 (by exact_mod_cast h1)
      · rw [h1] at hp; exact absurd hp (by grind)
    rw [if_neg hn0]
    by_cases h1 : n < 0
    · rw [if_pos h1, if_pos]
      rw [h]
      have := mul_lt (a := (n : Rat)) (b := 0) (by exact_mod_cast h1) hp
      simpa using this
    · rw [if_neg h1, if_neg]
      rw [h]
      intro hlt
      have h2 : (0 : Rat) ≤ (n : Rat) := by exact_mod_cast (by omega : 0 ≤ n)
      have := mul_le (a := 0) (b := (n : Rat)) h2 (by grind : (0 : Rat) ≤ p2 e)
      grind
theorem sgQ_eq {q : Rat} : icmp .eql (sgQ q) 0 = decide (q = 0) := by
  unfold sgQ
  by_cases h : q = 0
  · simp [h, icmp]
  · by_cases h2 : q < 0
    · simp [h, h2, icmp]
    · simp [h, h2, icmp]
theorem sgQ_lss {q : Rat} : icmp .lss (sgQ q) 0 = decide (q < 0) := by
  unfold sgQ
  by_cases h : q = 0
  · subst h; simp [icmp]
  · by_cases h2 : q < 0
    · simp [h, h2, icmp]
    · simp [h, h2, icmp]
theorem sgQ_gtr {q : Rat} : icmp .gtr (sgQ q) 0 = decide (0 < q) := by
  unfold sgQ
  by_cases h : q = 0
  · subst h; simp [icmp]
  · by_cases h2 : q < 0
    · simp [h, h2, icmp]; grind
    · simp [h, h2, icmp]; grind
theorem sgQ_leq {q : Rat} : icmp .leq (sgQ q) 0 = decide (q ≤ 0) := by
  unfold sgQ
  by_cases h : q = 0
  · subst h; simp [icmp]
  · by_cases h2 : q < 0
    · simp [h, h2, icmp]; grind
    · simp [h, h2, icmp]; grind
theorem sgQ_geq {q : Rat} : icmp .geq (sgQ q) 0 = decide (0 ≤ q) := by
  unfold sgQ
  by_cases h : q = 0
  · subst h; simp [icmp]
  · by_cases h2 : q < 0
    · simp [h, h2, icmp]; grind
    · simp [h, h2, icmp]; grind

theorem up_val (m e f : Int) (h : f ≤ e) : ((m * ((2 ^ (e - f).toNat : Nat) : Int) : Int) : Rat) * p2 f = (m : Rat) * p2 e := by
  have e1 : p2 e = p2 (((e - f).toNat : Nat) : Int) * p2 f := by rw [← p2_add]; congr 1; omega
  rw [e1, p2_nat, Rat.intCast_mul, Rat.intCast_natCast]
  grind
theorem dAddN_val (n e m f : Int) : ((dAddN n e m f).1 : Rat) * p2 (dAddN n e m f).2 = (n : Rat) * p2 e + (m : Rat) * p2 f := by
  unfold dAddN
  by_cases h1 : n = 0
  · rw [if_pos h1, h1]; simp; grind
  rw [if_neg h1]
  by_cases h2 : m = 0
  · rw [if_pos h2, h2]; simp; grind
  rw [if_neg h2]
  by_cases h3 : f < e
  · rw [if_pos h3]
    have := up_val n e f (by omega)
    simp only [Rat.intCast_add, Rat.add_mul, this]
  · rw [if_neg h3]
    have := up_val m f e (by omega)
    simp only [Rat.intCast_add, Rat.add_mul, this]
    exact Rat.add_comm _ _
theorem dAddN_exp (n e m f : Int) : (dAddN n e m f).2 = e ∨ (dAddN n e m f).2 = f := by
  unfold dAddN
  split
  · exact .inr rfl
  split
  · exact .inl rfl
  split
  · exact .inr rfl
  · exact .inl rfl
theorem pow4 {d : Nat} (h : d ≤ 8) : 2 ^ d ≤ 256 ∧ 1 ≤ 2 ^ d ∧ 2 ^ (d + 1) = 2 * 2 ^ d := by
  refine ⟨?_, Nat.pow_pos (by decide), by rw [Nat.pow_succ]; omega⟩
  have : 2 ^ d ≤ 2 ^ 8 := Nat.pow_le_pow_right (by decide) h
  omega

theorem qOf (x : Nat) (q : Rat) (H : Heap) (hq : Fv x q) (hx : x < 18446744073709551616) : Does Try.prog 102 [.float .f64 x] H fun w H' => ∃ ex, H' = ex ++ H ∧ IsQ q 0 w H' :=
  (dyadicOf x q H hq hx).mono fun w H' ⟨ex, n, e, h1, h2, h3, h4, h5⟩ => ⟨ex, h1, n, e, 2, h2, h3, by omega, by omega, by omega⟩
theorem qSign (u : Value) (q : Rat) (d : Nat) (H : Heap) (hu : IsQ q d u H) : Does Try.prog 82 [u] H fun w H' => w = .int .i64 (sgQ q) ∧ H' = H := by
  obtain ⟨n, e, L, h1, h2, h3, h4, h5⟩ := hu
  rw [← sgI_q h2]
  exact dSign u n e L H h1
theorem qMinus (u : Value) (q : Rat) (d : Nat) (H : Heap) (hu : IsQ q d u H) : Does Try.prog 99 [u] H fun w H' => ∃ ex, H' = ex ++ H ∧ IsQ (-q) d w H' := by
  obtain ⟨n, e, L, h1, h2, h3, h4, h5⟩ := hu
  refine (dMinus u n e L H h1).mono ?_
  rintro w H' ⟨ex, rfl, hw⟩
  exact ⟨ex, rfl, -n, e, L, hw, by rw [h2, Rat.intCast_neg, Rat.neg_mul], h3, h4, h5⟩
theorem qMul (u v : Value) (a b : Rat) (d : Nat) (H : Heap) (hd : d ≤ 8) (hu : IsQ a d u H) (hv : IsQ b d v H) : Does Try.prog 42 [u, v] H fun w H' => ∃ ex, H' = ex ++ H ∧ IsQ (a * b) (d + 1) w H' := by
  obtain ⟨n, e, L, h1, h2, h3, h4, h5⟩ := hu
  obtain ⟨m, f, M, k1, k2, k3, k4, k5⟩ := hv
  obtain ⟨p4, p5, p6⟩ := pow4 hd
  unfold IsQ
  rw [p6]
  generalize 2 ^ d = B at *
  refine (dMul u v n e m f L M H h1 k1 (by omega) (by omega) (by omega) (by omega)).mono ?_
  rintro w H' ⟨ex, rfl, hw⟩
  refine ⟨ex, rfl, _, _, _, hw, ?_, by omega, by omega, by omega⟩
  rw [h2, k2, Rat.intCast_mul, p2_add]; grind
theorem qAdd (u v : Value) (a b : Rat) (d : Nat) (H : Heap) (hd : d ≤ 8) (hu : IsQ a d u H) (hv : IsQ b d v H) : Does Try.prog 93 [u, v] H fun w H' => ∃ ex, H' = ex ++ H ∧ IsQ (a + b) (d + 1) w H' := by
  obtain ⟨n, e, L, h1, h2, h3, h4, h5⟩ := hu
  obtain ⟨m, f, M, k1, k2, k3, k4, k5⟩ := hv
  obtain ⟨p4, p5, p6⟩ := pow4 hd
  unfold IsQ
  rw [p6]
  generalize 2 ^ d = B at *
  refine (dAdd u v n e m f L M H h1 k1 (by omega) (by omega) (by omega) (by omega)).mono ?_
  rintro w H' ⟨ex, rfl, hw⟩
  have hx := dAddN_exp n e m f
  refine ⟨ex, rfl, _, _, _, hw, ?_, by omega, by omega, by omega⟩
  rw [h2, k2, dAddN_val]
theorem qSub (u v : Value) (a b : Rat) (d : Nat) (H : Heap) (hd : d ≤ 8) (hu : IsQ a d u H) (hv : IsQ b d v H) : Does Try.prog 91 [u, v] H fun w H' => ∃ ex, H' = ex ++ H ∧ IsQ (a - b) (d + 1) w H' := by
  obtain ⟨n, e, L, h1, h2, h3, h4, h5⟩ := hu
  obtain ⟨m, f, M, k1, k2, k3, k4, k5⟩ := hv
  obtain ⟨p4, p5, p6⟩ := pow4 hd
  unfold IsQ
  rw [p6]
  generalize 2 ^ d = B at *
  refine (dSub u v n e m f L M H h1 k1 (by omega) (by omega) (by omega) (by omega)).mono ?_
  rintro w H' ⟨ex, rfl, hw⟩
  have hx := dAddN_exp n e (-m) f
  refine ⟨ex, rfl, _, _, _, hw, ?_, by omega, by omega, by omega⟩
  rw [h2, k2, dAddN_val, Rat.intCast_neg, Rat.neg_mul]; grind
end Go.Proofs.Ytomhkbijijdghaa.Lmb

set_option linter.unusedVariables false
set_option linter.unusedSimpArgs false
namespace Go.Proofs.Ytomhkbijijdghaa.Lmb
open Go.Lg

/-- A place of two exact numbers. -/
def IsP (x y : Rat) (d : Nat) (u : Value) (G : Heap) : Prop := ∃ b a k c e b' a' k' c' e', u = .agg ⟨[.bool b, .slice a k c, .int .i64 e, .bool b', .slice a' k' c', .int .i64 e']⟩ ∧
  IsQ x d (.agg ⟨[.bool b, .slice a k c, .int .i64 e]⟩) G ∧ IsQ y d (.agg ⟨[.bool b', .slice a' k' c', .int .i64 e']⟩) G
theorem IsP.mono {x y d u G G'} (h : IsP x y d u G) (hG : ∀ z ∈ G, z ∈ G') : IsP x y d u G' := by
  obtain ⟨b, a, k, c, e, b', a', k', c', e', h1, h2, h3⟩ := h
  exact ⟨b, a, k, c, e, b', a', k', c', e', h1, h2.mono hG, h3.mono hG⟩
theorem IsP.skip {x y d u} {G G' : Heap} (h : IsP x y d u G) (hs : ∀ z ∈ G, z ∈ G' ∨ NoU z) : IsP x y d u G' := by
  obtain ⟨b, a, k, c, e, b', a', k', c', e', h1, h2, h3⟩ := h
  exact ⟨b, a, k, c, e, b', a', k', c', e', h1, h2.skip hs, h3.skip hs⟩
theorem noU6 {k : Nat} {T : TypeId} {fz : Nat × Nat} {b : Bool} {a : Option Addr} {n c : Nat} {e : Int} {b' : Bool} {a' : Option Addr} {n' c' : Nat} {e' : Int} : NoU (k, Obj.cells ⟨[.bool b, .slice a n c, .int .i64 e, .bool b', .slice a' n' c', .int .i64 e']⟩ T fz) := fun l T fz h x hx n => by
  cases h
  simp only [List.mem_cons, List.not_mem_nil, or_false] at hx
  rcases hx with rfl | rfl | rfl | rfl | rfl | rfl <;> (intro h; cases h)

theorem qCmp (u v : Value) (a b : Rat) (d : Nat) (H : Heap) (hd : d ≤ 8) (hu : IsQ a d u H) (hv : IsQ b d v H) : Does Try.prog 41 [u, v] H fun w H' => ∃ ex, H' = ex ++ H ∧ w = .int .i64 (sgQ (a - b)) := by
  obtain ⟨b1, a1, k1, c1, e1, rfl⟩ := hu.open
  obtain ⟨b2, a2, k2, c2, e2, rfl⟩ := hv.open
  refine fn_enter 9 Try.func41 fun W => ?_
  repeat' first
    | (first | refine tc_seq ?_ | refine tc_region ?_ | refine at_seq_normal ?_ | refine tl_nil ?_ | refine tl_cons ?_ | refine op_assign ?_ | refine op_load ?_ | refine op_load_agg ?_ | (refine op_box ?_; intro _) | refine op_loadK rfl ?_ | refine op_load_aggK rfl ?_ | refine tc_ret ?_ | refine at_seq_ret ?_ | fail)
    | (refine op_call ((qSub _ _ a b d _ hd (hu.mono fun e he => by simp [he]) (hv.mono fun e he => by simp [he])).mono ?_); rintro w _ ⟨ex, rfl, hw⟩)
    | (refine op_call ((qSign _ _ _ _ (hw.mono fun e he => by simp [he])).mono ?_); rintro _ _ ⟨rfl, rfl⟩)
    | fail
  exact ret_tmp (hG := List.Sublist.refl _) (hk := exq rfl)
theorem qAbs (u : Value) (q : Rat) (d : Nat) (H : Heap) (hu : IsQ q d u H) : Does Try.prog 40 [u] H fun w H' => ∃ ex, H' = ex ++ H ∧ IsQ (if q < 0 then -q else q) d w H' := by
  obtain ⟨b1, a1, k1, c1, e1, rfl⟩ := hu.open
  refine fn_enter 9 Try.func40 fun W => ?_
  by_cases h0 : q < 0
  · rw [if_pos h0]
    have hc : icmp .lss (sgQ q) 0 = true := by rw [sgQ_lss, decide_eq_true h0]
    repeat' first
      | (first | refine tc_seq ?_ | refine tc_region ?_ | refine at_seq_normal ?_ | refine tl_nil ?_ | refine tl_cons ?_ | refine tl_cons_none ?_ | refine op_load ?_ | refine op_load_agg ?_ | refine op_icmp ?_ | (refine op_alloc ?_; intro _) | (refine op_box ?_; intro _) | refine op_store0 ?_ | refine op_store1 ?_ | refine op_store2 ?_ | refine op_store3 ?_ | refine op_store4 ?_ | refine op_store5 ?_ | refine op_storeK rfl ?_ | refine op_loadK rfl ?_ | refine op_load_aggK rfl ?_ | refine tc_cond_t ?_ | refine tc_cond_f ?_ | refine tc_cond (fun _ => ?_) (fun _ => ?_) | refine tc_skip ?_ | refine tc_ret ?_ | refine at_seq_ret ?_ | fail)
      | (refine op_call ((qSign _ _ _ _ (hu.mono fun e he => by simp [he])).mono ?_); rintro _ _ ⟨rfl, rfl⟩)
      | (refine op_call ((qMinus _ q d _ (hu.mono fun e he => by simp [he])).mono ?_); rintro w _ ⟨ex, rfl, hw⟩; obtain ⟨b3, a3, k3, c3, e3, rfl⟩ := hw.open)
      | refine op_storeK rfl ?_
      | fail
    rename_i kr
    refine ret_one (.agg (T := 68) (k := kr) (off := 0) (m := [.bool b3, .slice a3 k3 c3, .int .i64 e3]) rfl rfl mem0 rfl rfl) (hG := List.Sublist.refl _) (hk := exq ?_)
    exact hw.skip (mid_mem (k := kr) noU3)
  · rw [if_neg h0]
    have hc : icmp .lss (sgQ q) 0 = false := by rw [sgQ_lss, decide_eq_false h0]
    repeat' first
      | (first | refine tc_seq ?_ | refine tc_region ?_ | refine at_seq_normal ?_ | refine tl_nil ?_ | refine tl_cons ?_ | refine tl_cons_none ?_ | refine op_load ?_ | refine op_load_agg ?_ | refine op_icmp ?_ | (refine op_alloc ?_; intro _) | (refine op_box ?_; intro _) | refine op_store0 ?_ | refine op_store1 ?_ | refine op_store2 ?_ | refine op_store3 ?_ | refine op_store4 ?_ | refine op_store5 ?_ | refine op_storeK rfl ?_ | refine op_loadK rfl ?_ | refine op_load_aggK rfl ?_ | refine tc_cond_t ?_ | refine tc_cond_f ?_ | refine tc_cond (fun _ => ?_) (fun _ => ?_) | refine tc_skip ?_ | refine tc_ret ?_ | refine at_seq_ret ?_ | fail)
      | (refine op_call ((qSign _ _ _ _ (hu.mono fun e he => by simp [he])).mono ?_); rintro _ _ ⟨rfl, rfl⟩)
      | fail
    rename_i kr
    refine ret_one (.agg (T := 68) (k := kr) (off := 0) (m := [.bool b1, .slice a1 k1 c1, .int .i64 e1]) rfl rfl mem0 rfl rfl) (hG := List.Sublist.refl _) (hk := exq ?_)
    exact hu.mono fun e he => by simp [he]
theorem pointOf (x y : Nat) (a b : Rat) (H : Heap) (hx : Fv x a) (hy : Fv y b) (hx0 : x < 18446744073709551616) (hy0 : y < 18446744073709551616) : Does Try.prog 81 [.float .f64 x, .float .f64 y] H fun w H' => ∃ ex, H' = ex ++ H ∧ IsP a b 0 w H' := by
  refine fn_enter 10 Try.func81 fun W => ?_
  repeat' first
    | (refine op_call ((qOf x a _ hx hx0).mono ?_); rintro w _ ⟨ex1, rfl, h1⟩; obtain ⟨b1, a1, k1, c1, e1, rfl⟩ := h1.open)
    | (refine op_call ((qOf y b _ hy hy0).mono ?_); rintro w _ ⟨ex2, rfl, h2⟩; obtain ⟨b2, a2, k2, c2, e2, rfl⟩ := h2.open)
    | (first | refine tc_seq ?_ | refine tc_region ?_ | refine at_seq_normal ?_ | refine tl_nil ?_ | refine tl_cons ?_ | refine tl_cons_none ?_ | refine op_move ?_ | refine op_build ?_ | (refine op_alloc ?_; intro _) | refine op_store0 ?_ | refine op_store1 ?_ | refine op_store2 ?_ | refine op_store3 ?_ | refine op_store4 ?_ | refine op_store5 ?_ | refine op_storeK rfl ?_ | refine tc_ret ?_ | refine at_seq_ret ?_ | fail)
    | refine op_storeK rfl ?_
    | fail
  rename_i kr
  refine ret_one (.agg (T := 71) (k := kr) (off := 0) (m := [.bool b1, .slice a1 k1 c1, .int .i64 e1, .bool b2, .slice a2 k2 c2, .int .i64 e2]) rfl rfl mem0 rfl rfl) (hG := List.Sublist.refl _) (hk := exq ?_)
  exact IsP.skip ⟨_, _, _, _, _, _, _, _, _, _, rfl, h1.mono fun e he => by simp [he], h2⟩ (mid_mem (k := kr) noU6)
theorem exactly (x y : Nat) (a b : Rat) (H : Heap) (hx : Fv x a) (hy : Fv y b) (hx0 : x < 18446744073709551616) (hy0 : y < 18446744073709551616) : Does Try.prog 31 [.agg ⟨[.float .f64 x, .float .f64 y]⟩] H fun w H' => ∃ ex, H' = ex ++ H ∧ IsP a b 0 w H' := by
  refine fn_enter 8 Try.func31 fun W => ?_
  repeat' first
    | (first | refine tc_seq ?_ | refine tc_region ?_ | refine at_seq_normal ?_ | refine tl_nil ?_ | refine tl_cons ?_ | refine tl_cons_none ?_ | refine op_fieldAddr ?_ | refine op_load ?_ | refine op_load_agg ?_ | (refine op_alloc ?_; intro _) | (refine op_box ?_; intro _) | refine op_store0 ?_ | refine op_store1 ?_ | refine op_store2 ?_ | refine op_store3 ?_ | refine op_store4 ?_ | refine op_store5 ?_ | refine op_storeK rfl ?_ | refine op_loadK rfl ?_ | refine op_load_aggK rfl ?_ | refine tc_ret ?_ | refine at_seq_ret ?_ | fail)
    | (refine op_call ((pointOf x y a b _ hx hy hx0 hy0).mono ?_); rintro w _ ⟨ex1, rfl, b1, a1, k1, c1, e1, b2, a2, k2, c2, e2, rfl, h1, h2⟩)
    | refine op_storeK rfl ?_
    | fail
  rename_i kr
  refine ret_one (.agg (T := 71) (k := kr) (off := 0) (m := [.bool b1, .slice a1 k1 c1, .int .i64 e1, .bool b2, .slice a2 k2 c2, .int .i64 e2]) rfl rfl mem0 rfl rfl) (hG := List.Sublist.refl _) (hk := exq ?_)
  exact IsP.skip ⟨_, _, _, _, _, _, _, _, _, _, rfl, h1, h2⟩ (mid_mem (k := kr) noU6)
set_option maxHeartbeats 8000000 in
theorem qDot (up uq ur us : Value) (px py qx qy rx ry sx sy : Rat) (H : Heap) (hp : IsP px py 0 up H) (hq : IsP qx qy 0 uq H) (hr : IsP rx ry 0 ur H) (hs : IsP sx sy 0 us H) :
    Does Try.prog 80 [up, uq, ur, us] H fun w H' => ∃ ex, H' = ex ++ H ∧ IsQ ((qx - px) * (sx - rx) + (qy - py) * (sy - ry)) 3 w H' := by
  obtain ⟨_, _, _, _, _, _, _, _, _, _, rfl, p1, p2⟩ := hp
  obtain ⟨_, _, _, _, _, _, _, _, _, _, rfl, q1, q2⟩ := hq
  obtain ⟨_, _, _, _, _, _, _, _, _, _, rfl, r1, r2⟩ := hr
  obtain ⟨_, _, _, _, _, _, _, _, _, _, rfl, s1, s2⟩ := hs
  refine fn_enter 32 Try.func80 fun W => ?_
  repeat' first
    | refine tc_seq ?_ | refine tc_region ?_ | refine at_seq_normal ?_ | refine tl_nil ?_ | refine tl_cons ?_ | refine tl_cons_none ?_ | refine op_fieldAddr ?_ | refine op_load ?_ | refine op_load_agg ?_ | (refine op_alloc ?_; intro _)
    | (refine op_box ?_; intro _) | refine op_store0 ?_ | refine op_store1 ?_ | refine op_store2 ?_ | refine op_store3 ?_ | refine op_store4 ?_ | refine op_store5 ?_ | refine op_storeK rfl ?_ | refine op_loadK rfl ?_ | refine op_load_aggK rfl ?_
    | refine tc_ret ?_ | refine at_seq_ret ?_
  rename_i kp kq kr ks kk
  apply fun hole0 hole1 hole2 hole3 hole4 hole5 hole6 hole7 hole8 hole9 hole10 hole11 hole12 hole13 hole14 hole15 hE hD hml hdl hpr prem fin => tc_drawn 23 [is hole0, is hole1, is hole2, is hole3, (fun w _ G => IsQ (qx - px) 1 w G), is hole4, is hole5, is hole6, is hole7, (fun w _ G => IsQ (sx - rx) 1 w G), (fun w _ G => IsQ ((qx - px) * (sx - rx)) 2 w G), is hole8, is hole9, is hole10, is hole11, (fun w _ G => IsQ (qy - py) 1 w G), is hole12, is hole13, is hole14, is hole15, (fun w _ G => IsQ (sy - ry) 1 w G), (fun w _ G => IsQ ((qy - py) * (sy - ry)) 2 w G), (fun w _ G => IsQ' ((qx - px) * (sx - rx) + (qy - py) * (sy - ry)) 3 w G)]
    [some 9, some 10, some 11, some 12, some 13, some 14, some 15, some 16, some 17, some 18, some 19, some 20, some 21, some 22, some 23, some 24, some 25, some 26, some 27, some 28, some 29, some 30, some 31, none] [[], [0], [], [2], [1, 3], [], [5], [], [7], [6, 8, 4], [4, 9], [], [11], [], [13], [12, 14, 10], [], [16], [], [18], [17, 19, 15], [15, 20], [10, 21]] mixed ⟨(is_mono _), (is_mono _), (is_mono _), (is_mono _), (fun _ _ _ _ h hs => IsQ.mono h hs), (is_mono _), (is_mono _), (is_mono _), (is_mono _), (fun _ _ _ _ h hs => IsQ.mono h hs), (fun _ _ _ _ h hs => IsQ.mono h hs), (is_mono _), (is_mono _), (is_mono _), (is_mono _), (fun _ _ _ _ h hs => IsQ.mono h hs), (is_mono _), (is_mono _), (is_mono _), (is_mono _), (fun _ _ _ _ h hs => IsQ.mono h hs), (fun _ _ _ _ h hs => IsQ.mono h hs), (fun _ _ _ _ h hs => IsQ'.mono h hs), trivial⟩ prem fin hE hD rfl hml hdl hpr
  rotate_left 17
  · first | kernel_rfl | exact rfl
  · first | kernel_rfl | exact rfl
  · exact Nat.le_of_ble_eq_true rfl
  · first | kernel_rfl | exact rfl
  · first | kernel_rfl | exact rfl
  refine ⟨fun G hG => ?_, fun G hG => ?_, fun G hG => ?_, fun G hG => ?_, fun G hG => ?_, fun G hG => ?_, fun G hG => ?_, fun G hG => ?_, fun G hG => ?_, fun G hG => ?_, fun G hG => ?_, fun G hG => ?_, fun G hG => ?_, fun G hG => ?_, fun G hG => ?_, fun G hG => ?_, fun G hG => ?_, fun G hG => ?_, fun G hG => ?_, fun G hG => ?_, fun G hG => ?_, fun G hG => ?_, fun G hG => ?_, trivial⟩
  · simp only [with2, Step2, nthDst, putO]
    (refine op_fieldAddr ?_; exact ⟨[], rfl, rfl, rfl⟩)
  · rintro _ _ ⟨rfl, rfl⟩ -
    simp only [with2, Step2, nthDst, putO]
    ((first | refine op_load ?_ | refine op_load_agg ?_ | refine op_load ?_ (hm := Sub.mem (by assumption) (by (repeat (apply List.mem_cons_of_mem)); assumption)) | refine op_load_agg ?_ (hm := Sub.mem (by assumption) (by (repeat (apply List.mem_cons_of_mem)); assumption)) | refine op_loadH hG rfl ?_ | refine op_load_aggH hG rfl ?_); exact ⟨[], rfl, rfl, rfl⟩)
  · simp only [with2, Step2, nthDst, putO]
    (refine op_fieldAddr ?_; exact ⟨[], rfl, rfl, rfl⟩)
  · rintro _ _ ⟨rfl, rfl⟩ -
    simp only [with2, Step2, nthDst, putO]
    ((first | refine op_load ?_ | refine op_load_agg ?_ | refine op_load ?_ (hm := Sub.mem (by assumption) (by (repeat (apply List.mem_cons_of_mem)); assumption)) | refine op_load_agg ?_ (hm := Sub.mem (by assumption) (by (repeat (apply List.mem_cons_of_mem)); assumption)) | refine op_loadH hG rfl ?_ | refine op_load_aggH hG rfl ?_); exact ⟨[], rfl, rfl, rfl⟩)
  · rintro _ _ ⟨rfl, rfl⟩ - _ _ ⟨rfl, rfl⟩ -
    simp only [with2, Step2, nthDst, putO]
    (refine op_call ((qSub _ _ qx px 0 _ (by decide) (q1.mono fun e he => hG e (by simp [he])) (p1.mono fun e he => hG e (by simp [he]))).mono ?_); rintro w _ ⟨ex, rfl, hw⟩; exact ⟨ex, rfl, hw⟩)
  · simp only [with2, Step2, nthDst, putO]
    (refine op_fieldAddr ?_; exact ⟨[], rfl, rfl, rfl⟩)
  · rintro _ _ ⟨rfl, rfl⟩ -
    simp only [with2, Step2, nthDst, putO]
    ((first | refine op_load ?_ | refine op_load_agg ?_ | refine op_load ?_ (hm := Sub.mem (by assumption) (by (repeat (apply List.mem_cons_of_mem)); assumption)) | refine op_load_agg ?_ (hm := Sub.mem (by assumption) (by (repeat (apply List.mem_cons_of_mem)); assumption)) | refine op_loadH hG rfl ?_ | refine op_load_aggH hG rfl ?_); exact ⟨[], rfl, rfl, rfl⟩)
  · simp only [with2, Step2, nthDst, putO]
    (refine op_fieldAddr ?_; exact ⟨[], rfl, rfl, rfl⟩)
  · rintro _ _ ⟨rfl, rfl⟩ -
    simp only [with2, Step2, nthDst, putO]
    ((first | refine op_load ?_ | refine op_load_agg ?_ | refine op_load ?_ (hm := Sub.mem (by assumption) (by (repeat (apply List.mem_cons_of_mem)); assumption)) | refine op_load_agg ?_ (hm := Sub.mem (by assumption) (by (repeat (apply List.mem_cons_of_mem)); assumption)) | refine op_loadH hG rfl ?_ | refine op_load_aggH hG rfl ?_); exact ⟨[], rfl, rfl, rfl⟩)
  · rintro _ _ ⟨rfl, rfl⟩ - _ _ ⟨rfl, rfl⟩ - _ _ g4 -
    simp only [with2, Step2, nthDst, putO]
    (refine op_call ((qSub _ _ sx rx 0 _ (by decide) (s1.mono fun e he => hG e (by simp [he])) (r1.mono fun e he => hG e (by simp [he]))).mono ?_); rintro w _ ⟨ex, rfl, hw⟩; exact ⟨ex, rfl, hw⟩)
  · rintro _ _ g4 - _ _ g9 -
    simp only [with2, Step2, nthDst, putO]
    (refine op_call ((qMul _ _ _ _ 1 _ (by decide) g4 g9).mono ?_); rintro w _ ⟨ex, rfl, hw⟩; exact ⟨ex, rfl, hw⟩)
  · simp only [with2, Step2, nthDst, putO]
    (refine op_fieldAddr ?_; exact ⟨[], rfl, rfl, rfl⟩)
  · rintro _ _ ⟨rfl, rfl⟩ -
    simp only [with2, Step2, nthDst, putO]
    ((first | refine op_load ?_ | refine op_load_agg ?_ | refine op_load ?_ (hm := Sub.mem (by assumption) (by (repeat (apply List.mem_cons_of_mem)); assumption)) | refine op_load_agg ?_ (hm := Sub.mem (by assumption) (by (repeat (apply List.mem_cons_of_mem)); assumption)) | refine op_loadH hG rfl ?_ | refine op_load_aggH hG rfl ?_); exact ⟨[], rfl, rfl, rfl⟩)
  · simp only [with2, Step2, nthDst, putO]
    (refine op_fieldAddr ?_; exact ⟨[], rfl, rfl, rfl⟩)
  · rintro _ _ ⟨rfl, rfl⟩ -
    simp only [with2, Step2, nthDst, putO]
    ((first | refine op_load ?_ | refine op_load_agg ?_ | refine op_load ?_ (hm := Sub.mem (by assumption) (by (repeat (apply List.mem_cons_of_mem)); assumption)) | refine op_load_agg ?_ (hm := Sub.mem (by assumption) (by (repeat (apply List.mem_cons_of_mem)); assumption)) | refine op_loadH hG rfl ?_ | refine op_load_aggH hG rfl ?_); exact ⟨[], rfl, rfl, rfl⟩)
  · rintro _ _ ⟨rfl, rfl⟩ - _ _ ⟨rfl, rfl⟩ - _ _ g10 -
    simp only [with2, Step2, nthDst, putO]
    (refine op_call ((qSub _ _ qy py 0 _ (by decide) (q2.mono fun e he => hG e (by simp [he])) (p2.mono fun e he => hG e (by simp [he]))).mono ?_); rintro w _ ⟨ex, rfl, hw⟩; exact ⟨ex, rfl, hw⟩)
  · simp only [with2, Step2, nthDst, putO]
    (refine op_fieldAddr ?_; exact ⟨[], rfl, rfl, rfl⟩)
  · rintro _ _ ⟨rfl, rfl⟩ -
    simp only [with2, Step2, nthDst, putO]
    ((first | refine op_load ?_ | refine op_load_agg ?_ | refine op_load ?_ (hm := Sub.mem (by assumption) (by (repeat (apply List.mem_cons_of_mem)); assumption)) | refine op_load_agg ?_ (hm := Sub.mem (by assumption) (by (repeat (apply List.mem_cons_of_mem)); assumption)) | refine op_loadH hG rfl ?_ | refine op_load_aggH hG rfl ?_); exact ⟨[], rfl, rfl, rfl⟩)
  · simp only [with2, Step2, nthDst, putO]
    (refine op_fieldAddr ?_; exact ⟨[], rfl, rfl, rfl⟩)
  · rintro _ _ ⟨rfl, rfl⟩ -
    simp only [with2, Step2, nthDst, putO]
    ((first | refine op_load ?_ | refine op_load_agg ?_ | refine op_load ?_ (hm := Sub.mem (by assumption) (by (repeat (apply List.mem_cons_of_mem)); assumption)) | refine op_load_agg ?_ (hm := Sub.mem (by assumption) (by (repeat (apply List.mem_cons_of_mem)); assumption)) | refine op_loadH hG rfl ?_ | refine op_load_aggH hG rfl ?_); exact ⟨[], rfl, rfl, rfl⟩)
  · rintro _ _ ⟨rfl, rfl⟩ - _ _ ⟨rfl, rfl⟩ - _ _ g15 -
    simp only [with2, Step2, nthDst, putO]
    (refine op_call ((qSub _ _ sy ry 0 _ (by decide) (s2.mono fun e he => hG e (by simp [he])) (r2.mono fun e he => hG e (by simp [he]))).mono ?_); rintro w _ ⟨ex, rfl, hw⟩; exact ⟨ex, rfl, hw⟩)
  · rintro _ _ g15 - _ _ g20 -
    simp only [with2, Step2, nthDst, putO]
    (refine op_call ((qMul _ _ _ _ 1 _ (by decide) g15 g20).mono ?_); rintro w _ ⟨ex, rfl, hw⟩; exact ⟨ex, rfl, hw⟩)
  · rintro _ _ g10 - _ _ g21 -
    simp only [with2, Step2, nthDst, putO]
    (refine op_call ((qAdd _ _ _ _ 2 _ (by decide) g10 g21).mono ?_); rintro w _ ⟨ex, rfl, hw⟩; exact ⟨ex, rfl, hw.fine⟩)
  · rintro _ _ _ _ _ _ _ _ _ _ _ _ _ _ _ _ _ _ _ _ _ _ _ _ _ _ _ _ _ _ _ _ _ _ _ _ _ _ _ _ _ _ _ _ _ _ ⟨⟨bz, az, kz, cz, ez, rfl, z⟩, g21, g20, ⟨rfl, rfl⟩, ⟨rfl, rfl⟩, ⟨rfl, rfl⟩, ⟨rfl, rfl⟩, g15, ⟨rfl, rfl⟩, ⟨rfl, rfl⟩, ⟨rfl, rfl⟩, ⟨rfl, rfl⟩, g10, g9, ⟨rfl, rfl⟩, ⟨rfl, rfl⟩, ⟨rfl, rfl⟩, ⟨rfl, rfl⟩, g4, ⟨rfl, rfl⟩, ⟨rfl, rfl⟩, ⟨rfl, rfl⟩, ⟨rfl, rfl⟩, _⟩
    simp only [List.nil_append, List.cons_append, List.append_nil, List.drop_succ_cons, List.drop_zero, nthDst, putO]
    simp only [List.nil_append] at z
    refine tl_cons_none ?_
    refine op_storeK (k := kk) rfl ?_
    repeat' first | refine tl_nil ?_ | refine at_seq_normal ?_ | refine tc_ret ?_
    refine ret_one (.agg (T := 68) (k := kk) (off := 0) (m := [.bool bz, .slice az kz cz, .int .i64 ez]) rfl rfl mem0 rfl rfl) (hG := List.Sublist.refl _) (hk := exq ?_)
    exact z.skip (mid_mem (k := kk) noU3)
set_option maxHeartbeats 8000000 in
theorem qCross (up uq ur : Value) (px py qx qy rx ry : Rat) (H : Heap) (hp : IsP px py 0 up H) (hq : IsP qx qy 0 uq H) (hr : IsP rx ry 0 ur H) :
    Does Try.prog 131 [up, uq, ur] H fun w H' => ∃ ex, H' = ex ++ H ∧ IsQ ((qx - px) * (ry - py) - (qy - py) * (rx - px)) 3 w H' := by
  obtain ⟨_, _, _, _, _, _, _, _, _, _, rfl, p1, p2⟩ := hp
  obtain ⟨_, _, _, _, _, _, _, _, _, _, rfl, q1, q2⟩ := hq
  obtain ⟨_, _, _, _, _, _, _, _, _, _, rfl, r1, r2⟩ := hr
  refine fn_enter 30 Try.func131 fun W => ?_
  repeat' first
    | refine tc_seq ?_ | refine tc_region ?_ | refine at_seq_normal ?_ | refine tl_nil ?_ | refine tl_cons ?_ | refine tl_cons_none ?_ | refine op_fieldAddr ?_ | refine op_load ?_ | refine op_load_agg ?_ | (refine op_alloc ?_; intro _)
    | (refine op_box ?_; intro _) | refine op_store0 ?_ | refine op_store1 ?_ | refine op_store2 ?_ | refine op_store3 ?_ | refine op_store4 ?_ | refine op_store5 ?_ | refine op_storeK rfl ?_ | refine op_loadK rfl ?_ | refine op_load_aggK rfl ?_
    | refine tc_ret ?_ | refine at_seq_ret ?_
  rename_i kp kq kr kk
  apply fun hole0 hole1 hole2 hole3 hole4 hole5 hole6 hole7 hole8 hole9 hole10 hole11 hole12 hole13 hole14 hole15 hE hD hml hdl hpr prem fin => tc_drawn 23 [is hole0, is hole1, is hole2, is hole3, (fun w _ G => IsQ (qx - px) 1 w G), is hole4, is hole5, is hole6, is hole7, (fun w _ G => IsQ (ry - py) 1 w G), (fun w _ G => IsQ ((qx - px) * (ry - py)) 2 w G), is hole8, is hole9, is hole10, is hole11, (fun w _ G => IsQ (qy - py) 1 w G), is hole12, is hole13, is hole14, is hole15, (fun w _ G => IsQ (rx - px) 1 w G), (fun w _ G => IsQ ((qy - py) * (rx - px)) 2 w G), (fun w _ G => IsQ' ((qx - px) * (ry - py) - (qy - py) * (rx - px)) 3 w G)]
    [some 7, some 8, some 9, some 10, some 11, some 12, some 13, some 14, some 15, some 16, some 17, some 18, some 19, some 20, some 21, some 22, some 23, some 24, some 25, some 26, some 27, some 28, some 29, none] [[], [0], [], [2], [1, 3], [], [5], [], [7], [6, 8, 4], [4, 9], [], [11], [], [13], [12, 14, 10], [], [16], [], [18], [17, 19, 15], [15, 20], [10, 21]] mixed ⟨(is_mono _), (is_mono _), (is_mono _), (is_mono _), (fun _ _ _ _ h hs => IsQ.mono h hs), (is_mono _), (is_mono _), (is_mono _), (is_mono _), (fun _ _ _ _ h hs => IsQ.mono h hs), (fun _ _ _ _ h hs => IsQ.mono h hs), (is_mono _), (is_mono _), (is_mono _), (is_mono _), (fun _ _ _ _ h hs => IsQ.mono h hs), (is_mono _), (is_mono _), (is_mono _), (is_mono _), (fun _ _ _ _ h hs => IsQ.mono h hs), (fun _ _ _ _ h hs => IsQ.mono h hs), (fun _ _ _ _ h hs => IsQ'.mono h hs), trivial⟩ prem fin hE hD rfl hml hdl hpr
  rotate_left 17
  · first | kernel_rfl | exact rfl
  · first | kernel_rfl | exact rfl
  · exact Nat.le_of_ble_eq_true rfl
  · first | kernel_rfl | exact rfl
  · first | kernel_rfl | exact rfl
  refine ⟨fun G hG => ?_, fun G hG => ?_, fun G hG => ?_, fun G hG => ?_, fun G hG => ?_, fun G hG => ?_, fun G hG => ?_, fun G hG => ?_, fun G hG => ?_, fun G hG => ?_, fun G hG => ?_, fun G hG => ?_, fun G hG => ?_, fun G hG => ?_, fun G hG => ?_, fun G hG => ?_, fun G hG => ?_, fun G hG => ?_, fun G hG => ?_, fun G hG => ?_, fun G hG => ?_, fun G hG => ?_, fun G hG => ?_, trivial⟩
  · simp only [with2, Step2, nthDst, putO]
    (refine op_fieldAddr ?_; exact ⟨[], rfl, rfl, rfl⟩)
  · rintro _ _ ⟨rfl, rfl⟩ -
    simp only [with2, Step2, nthDst, putO]
    ((first | refine op_load ?_ | refine op_load_agg ?_ | refine op_load ?_ (hm := Sub.mem (by assumption) (by (repeat (apply List.mem_cons_of_mem)); assumption)) | refine op_load_agg ?_ (hm := Sub.mem (by assumption) (by (repeat (apply List.mem_cons_of_mem)); assumption)) | refine op_loadH hG rfl ?_ | refine op_load_aggH hG rfl ?_); exact ⟨[], rfl, rfl, rfl⟩)
  · simp only [with2, Step2, nthDst, putO]
    (refine op_fieldAddr ?_; exact ⟨[], rfl, rfl, rfl⟩)
  · rintro _ _ ⟨rfl, rfl⟩ -
    simp only [with2, Step2, nthDst, putO]
    ((first | refine op_load ?_ | refine op_load_agg ?_ | refine op_load ?_ (hm := Sub.mem (by assumption) (by (repeat (apply List.mem_cons_of_mem)); assumption)) | refine op_load_agg ?_ (hm := Sub.mem (by assumption) (by (repeat (apply List.mem_cons_of_mem)); assumption)) | refine op_loadH hG rfl ?_ | refine op_load_aggH hG rfl ?_); exact ⟨[], rfl, rfl, rfl⟩)
  · rintro _ _ ⟨rfl, rfl⟩ - _ _ ⟨rfl, rfl⟩ -
    simp only [with2, Step2, nthDst, putO]
    (refine op_call ((qSub _ _ qx px 0 _ (by decide) (q1.mono fun e he => hG e (by simp [he])) (p1.mono fun e he => hG e (by simp [he]))).mono ?_); rintro w _ ⟨ex, rfl, hw⟩; exact ⟨ex, rfl, hw⟩)
  · simp only [with2, Step2, nthDst, putO]
    (refine op_fieldAddr ?_; exact ⟨[], rfl, rfl, rfl⟩)
  · rintro _ _ ⟨rfl, rfl⟩ -
    simp only [with2, Step2, nthDst, putO]
    ((first | refine op_load ?_ | refine op_load_agg ?_ | refine op_load ?_ (hm := Sub.mem (by assumption) (by (repeat (apply List.mem_cons_of_mem)); assumption)) | refine op_load_agg ?_ (hm := Sub.mem (by assumption) (by (repeat (apply List.mem_cons_of_mem)); assumption)) | refine op_loadH hG rfl ?_ | refine op_load_aggH hG rfl ?_); exact ⟨[], rfl, rfl, rfl⟩)
  · simp only [with2, Step2, nthDst, putO]
    (refine op_fieldAddr ?_; exact ⟨[], rfl, rfl, rfl⟩)
  · rintro _ _ ⟨rfl, rfl⟩ -
    simp only [with2, Step2, nthDst, putO]
    ((first | refine op_load ?_ | refine op_load_agg ?_ | refine op_load ?_ (hm := Sub.mem (by assumption) (by (repeat (apply List.mem_cons_of_mem)); assumption)) | refine op_load_agg ?_ (hm := Sub.mem (by assumption) (by (repeat (apply List.mem_cons_of_mem)); assumption)) | refine op_loadH hG rfl ?_ | refine op_load_aggH hG rfl ?_); exact ⟨[], rfl, rfl, rfl⟩)
  · rintro _ _ ⟨rfl, rfl⟩ - _ _ ⟨rfl, rfl⟩ - _ _ g4 -
    simp only [with2, Step2, nthDst, putO]
    (refine op_call ((qSub _ _ ry py 0 _ (by decide) (r2.mono fun e he => hG e (by simp [he])) (p2.mono fun e he => hG e (by simp [he]))).mono ?_); rintro w _ ⟨ex, rfl, hw⟩; exact ⟨ex, rfl, hw⟩)
  · rintro _ _ g4 - _ _ g9 -
    simp only [with2, Step2, nthDst, putO]
    (refine op_call ((qMul _ _ _ _ 1 _ (by decide) g4 g9).mono ?_); rintro w _ ⟨ex, rfl, hw⟩; exact ⟨ex, rfl, hw⟩)
  · simp only [with2, Step2, nthDst, putO]
    (refine op_fieldAddr ?_; exact ⟨[], rfl, rfl, rfl⟩)
  · rintro _ _ ⟨rfl, rfl⟩ -
    simp only [with2, Step2, nthDst, putO]
    ((first | refine op_load ?_ | refine op_load_agg ?_ | refine op_load ?_ (hm := Sub.mem (by assumption) (by (repeat (apply List.mem_cons_of_mem)); assumption)) | refine op_load_agg ?_ (hm := Sub.mem (by assumption) (by (repeat (apply List.mem_cons_of_mem)); assumption)) | refine op_loadH hG rfl ?_ | refine op_load_aggH hG rfl ?_); exact ⟨[], rfl, rfl, rfl⟩)
  · simp only [with2, Step2, nthDst, putO]
    (refine op_fieldAddr ?_; exact ⟨[], rfl, rfl, rfl⟩)
  · rintro _ _ ⟨rfl, rfl⟩ -
    simp only [with2, Step2, nthDst, putO]
    ((first | refine op_load ?_ | refine op_load_agg ?_ | refine op_load ?_ (hm := Sub.mem (by assumption) (by (repeat (apply List.mem_cons_of_mem)); assumption)) | refine op_load_agg ?_ (hm := Sub.mem (by assumption) (by (repeat (apply List.mem_cons_of_mem)); assumption)) | refine op_loadH hG rfl ?_ | refine op_load_aggH hG rfl ?_); exact ⟨[], rfl, rfl, rfl⟩)
  · rintro _ _ ⟨rfl, rfl⟩ - _ _ ⟨rfl, rfl⟩ - _ _ g10 -
    simp only [with2, Step2, nthDst, putO]
    (refine op_call ((qSub _ _ qy py 0 _ (by decide) (q2.mono fun e he => hG e (by simp [he])) (p2.mono fun e he => hG e (by simp [he]))).mono ?_); rintro w _ ⟨ex, rfl, hw⟩; exact ⟨ex, rfl, hw⟩)
  · simp only [with2, Step2, nthDst, putO]
    (refine op_fieldAddr ?_; exact ⟨[], rfl, rfl, rfl⟩)
  · rintro _ _ ⟨rfl, rfl⟩ -
    simp only [with2, Step2, nthDst, putO]
    ((first | refine op_load ?_ | refine op_load_agg ?_ | refine op_load ?_ (hm := Sub.mem (by assumption) (by (repeat (apply List.mem_cons_of_mem)); assumption)) | refine op_load_agg ?_ (hm := Sub.mem (by assumption) (by (repeat (apply List.mem_cons_of_mem)); assumption)) | refine op_loadH hG rfl ?_ | refine op_load_aggH hG rfl ?_); exact ⟨[], rfl, rfl, rfl⟩)
  · simp only [with2, Step2, nthDst, putO]
    (refine op_fieldAddr ?_; exact ⟨[], rfl, rfl, rfl⟩)
  · rintro _ _ ⟨rfl, rfl⟩ -
    simp only [with2, Step2, nthDst, putO]
    ((first | refine op_load ?_ | refine op_load_agg ?_ | refine op_load ?_ (hm := Sub.mem (by assumption) (by (repeat (apply List.mem_cons_of_mem)); assumption)) | refine op_load_agg ?_ (hm := Sub.mem (by assumption) (by (repeat (apply List.mem_cons_of_mem)); assumption)) | refine op_loadH hG rfl ?_ | refine op_load_aggH hG rfl ?_); exact ⟨[], rfl, rfl, rfl⟩)
  · rintro _ _ ⟨rfl, rfl⟩ - _ _ ⟨rfl, rfl⟩ - _ _ g15 -
    simp only [with2, Step2, nthDst, putO]
    (refine op_call ((qSub _ _ rx px 0 _ (by decide) (r1.mono fun e he => hG e (by simp [he])) (p1.mono fun e he => hG e (by simp [he]))).mono ?_); rintro w _ ⟨ex, rfl, hw⟩; exact ⟨ex, rfl, hw⟩)
  · rintro _ _ g15 - _ _ g20 -
    simp only [with2, Step2, nthDst, putO]
    (refine op_call ((qMul _ _ _ _ 1 _ (by decide) g15 g20).mono ?_); rintro w _ ⟨ex, rfl, hw⟩; exact ⟨ex, rfl, hw⟩)
  · rintro _ _ g10 - _ _ g21 -
    simp only [with2, Step2, nthDst, putO]
    (refine op_call ((qSub _ _ _ _ 2 _ (by decide) g10 g21).mono ?_); rintro w _ ⟨ex, rfl, hw⟩; exact ⟨ex, rfl, hw.fine⟩)
  · rintro _ _ _ _ _ _ _ _ _ _ _ _ _ _ _ _ _ _ _ _ _ _ _ _ _ _ _ _ _ _ _ _ _ _ _ _ _ _ _ _ _ _ _ _ _ _ ⟨⟨bz, az, kz, cz, ez, rfl, z⟩, g21, g20, ⟨rfl, rfl⟩, ⟨rfl, rfl⟩, ⟨rfl, rfl⟩, ⟨rfl, rfl⟩, g15, ⟨rfl, rfl⟩, ⟨rfl, rfl⟩, ⟨rfl, rfl⟩, ⟨rfl, rfl⟩, g10, g9, ⟨rfl, rfl⟩, ⟨rfl, rfl⟩, ⟨rfl, rfl⟩, ⟨rfl, rfl⟩, g4, ⟨rfl, rfl⟩, ⟨rfl, rfl⟩, ⟨rfl, rfl⟩, ⟨rfl, rfl⟩, _⟩
    simp only [List.nil_append, List.cons_append, List.append_nil, List.drop_succ_cons, List.drop_zero, nthDst, putO]
    simp only [List.nil_append] at z
    refine tl_cons_none ?_
    refine op_storeK (k := kk) rfl ?_
    repeat' first | refine tl_nil ?_ | refine at_seq_normal ?_ | refine tc_ret ?_
    refine ret_one (.agg (T := 68) (k := kk) (off := 0) (m := [.bool bz, .slice az kz cz, .int .i64 ez]) rfl rfl mem0 rfl rfl) (hG := List.Sublist.refl _) (hk := exq ?_)
    exact z.skip (mid_mem (k := kk) noU3)
end Go.Proofs.Ytomhkbijijdghaa.Lmb

set_option linter.unusedVariables false
set_option linter.unusedSimpArgs false
namespace Go.Proofs.Ytomhkbijijdghaa.Lmb
open Go.Lg

theorem qOrient (up uq ur : Value) (px py qx qy rx ry : Rat) (H : Heap) (hp : IsP px py 0 up H) (hq : IsP qx qy 0 uq H) (hr : IsP rx ry 0 ur H) :
    Does Try.prog 108 [up, uq, ur] H fun w H' => w = .int .i64 (sgQ ((qx - px) * (ry - py) - (qy - py) * (rx - px))) ∧ ∃ ex, H' = ex ++ H := by
  have hp0 := hp
  have hq0 := hq
  have hr0 := hr
  obtain ⟨_, _, _, _, _, _, _, _, _, _, rfl, p1, p2⟩ := hp
  obtain ⟨_, _, _, _, _, _, _, _, _, _, rfl, q1, q2⟩ := hq
  obtain ⟨_, _, _, _, _, _, _, _, _, _, rfl, r1, r2⟩ := hr
  refine fn_enter 12 Try.func108 fun W => ?_
  repeat' first
    | (first | refine tc_seq ?_ | refine tc_region ?_ | refine at_seq_normal ?_ | refine tl_nil ?_ | refine tl_cons ?_ | refine op_assign ?_ | refine op_load ?_ | refine op_load_agg ?_ | (refine op_box ?_; intro _) | refine op_loadK rfl ?_ | refine op_load_aggK rfl ?_ | refine tc_ret ?_ | refine at_seq_ret ?_ | fail)
    | (refine op_call ((qCross _ _ _ px py qx qy rx ry _ (hp0.mono fun e he => by simp [he]) (hq0.mono fun e he => by simp [he]) (hr0.mono fun e he => by simp [he])).mono ?_); rintro w _ ⟨ex, rfl, hw⟩)
    | (refine op_call ((qSign _ _ _ _ hw).mono ?_); rintro _ _ ⟨rfl, rfl⟩)
    | fail
  exact ret_tmp (hG := List.Sublist.refl _) (hk := ⟨rfl, ExC.ex⟩)
noncomputable def btwB (a b c : Rat) : Bool := (decide (a - c ≤ 0) && decide (c - b ≤ 0)) || (decide (b - c ≤ 0) && decide (c - a ≤ 0))
set_option maxHeartbeats 8000000 in
theorem qBetween (ua ub uc : Value) (a b c : Rat) (H : Heap) (ha : IsQ a 0 ua H) (hb : IsQ b 0 ub H) (hc : IsQ c 0 uc H) :
    Does Try.prog 130 [ua, ub, uc] H fun w H' => w = .bool (btwB a b c) ∧ ∃ ex, H' = ex ++ H := by
  obtain ⟨_, _, _, _, _, rfl⟩ := ha.open
  obtain ⟨_, _, _, _, _, rfl⟩ := hb.open
  obtain ⟨_, _, _, _, _, rfl⟩ := hc.open
  refine fn_enter 29 Try.func130 fun W => ?_
  repeat' first
    | (first | refine tc_seq ?_ | refine tc_region ?_ | refine at_seq_normal ?_ | refine tl_nil ?_ | refine tl_cons ?_ | refine op_move ?_ | refine op_assign ?_ | refine op_load ?_ | refine op_load_agg ?_ | refine op_icmp ?_ | refine op_pick_true ?_ | refine op_pick_false ?_ | refine op_pick_true' ?_ | refine op_pick_false' ?_ | (refine op_box ?_; intro _) | refine op_loadK rfl ?_ | refine op_load_aggK rfl ?_ | refine tc_ret ?_ | refine at_seq_ret ?_ | refine tl_guard_yes ?_ | refine tl_guard_no ?_ | refine tl_guard_yes' ?_ | refine tl_guard_no' ?_ | refine tl_guard_undef ?_ | refine tl_guard_split (fun _ => ?_) (fun _ => ?_) | fail)
    | refine op_load_aggK rfl ?_
    | (refine op_call ((qCmp _ _ a c 0 _ (by decide) (ha.mono fun e he => by simp [he]) (hc.mono fun e he => by simp [he])).mono ?_); rintro _ _ ⟨ex1, rfl, rfl⟩)
    | (refine op_call ((qCmp _ _ c b 0 _ (by decide) (hc.mono fun e he => by simp [he]) (hb.mono fun e he => by simp [he])).mono ?_); rintro _ _ ⟨ex2, rfl, rfl⟩)
    | (refine op_call ((qCmp _ _ b c 0 _ (by decide) (hb.mono fun e he => by simp [he]) (hc.mono fun e he => by simp [he])).mono ?_); rintro _ _ ⟨ex3, rfl, rfl⟩)
    | (refine op_call ((qCmp _ _ c a 0 _ (by decide) (hc.mono fun e he => by simp [he]) (ha.mono fun e he => by simp [he])).mono ?_); rintro _ _ ⟨ex4, rfl, rfl⟩)
    | fail
  all_goals
    refine ret_tmp (hG := List.Sublist.refl _) (hk := ⟨congrArg Value.bool ?_, ExC.ex⟩)
    simp only [sgQ_leq] at *
    unfold btwB
    simp_all
noncomputable def onB (px py ax ay bx by' : Rat) : Bool := decide ((bx - ax) * (py - ay) - (by' - ay) * (px - ax) = 0) && btwB ax bx px && btwB ay by' py
set_option maxHeartbeats 8000000 in
theorem qOn (up ua ub : Value) (px py ax ay bx by' : Rat) (H : Heap) (hp : IsP px py 0 up H) (ha : IsP ax ay 0 ua H) (hb : IsP bx by' 0 ub H) :
    Does Try.prog 107 [up, ua, ub] H fun w H' => w = .bool (onB px py ax ay bx by') ∧ ∃ ex, H' = ex ++ H := by
  have hp0 := hp
  have ha0 := ha
  have hb0 := hb
  obtain ⟨_, _, _, _, _, _, _, _, _, _, rfl, p1, p2⟩ := hp
  obtain ⟨_, _, _, _, _, _, _, _, _, _, rfl, a1, a2⟩ := ha
  obtain ⟨_, _, _, _, _, _, _, _, _, _, rfl, b1, b2⟩ := hb
  refine fn_enter 30 Try.func107 fun W => ?_
  repeat' first
    | (first | refine tc_seq ?_ | refine tc_region ?_ | refine at_seq_normal ?_ | refine tl_nil ?_ | refine tl_cons ?_ | refine op_move ?_ | refine op_assign ?_ | refine op_fieldAddr ?_ | refine op_load ?_ | refine op_load_agg ?_ | refine op_icmp ?_ | refine op_pick_true ?_ | refine op_pick_false ?_ | refine op_pick_true' ?_ | refine op_pick_false' ?_ | (refine op_box ?_; intro _) | refine op_loadK rfl ?_ | refine op_load_aggK rfl ?_ | refine tc_ret ?_ | refine at_seq_ret ?_ | refine tl_guard_yes ?_ | refine tl_guard_no ?_ | refine tl_guard_yes' ?_ | refine tl_guard_no' ?_ | refine tl_guard_undef ?_ | refine tl_guard_split (fun _ => ?_) (fun _ => ?_) | fail)
    | refine op_load_aggK rfl ?_
    | (refine op_call ((qOrient _ _ _ ax ay bx by' px py _ (ha0.mono fun e he => by simp [he]) (hb0.mono fun e he => by simp [he]) (hp0.mono fun e he => by simp [he])).mono ?_); rintro _ _ ⟨rfl, ex1, rfl⟩)
    | (refine op_call ((qBetween _ _ _ ax bx px _ (a1.mono fun e he => by simp [he]) (b1.mono fun e he => by simp [he]) (p1.mono fun e he => by simp [he])).mono ?_); rintro _ _ ⟨rfl, ex2, rfl⟩)
    | (refine op_call ((qBetween _ _ _ ay by' py _ (a2.mono fun e he => by simp [he]) (b2.mono fun e he => by simp [he]) (p2.mono fun e he => by simp [he])).mono ?_); rintro _ _ ⟨rfl, ex3, rfl⟩)
    | fail
  all_goals
    refine ret_tmp (hG := List.Sublist.refl _) (hk := ⟨congrArg Value.bool ?_, ExC.ex⟩)
    simp only [sgQ_eq] at *
    unfold onB
    simp_all
end Go.Proofs.Ytomhkbijijdghaa.Lmb
