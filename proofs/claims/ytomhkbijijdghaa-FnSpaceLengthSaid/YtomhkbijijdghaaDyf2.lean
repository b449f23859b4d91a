/-
  The float of an exact number that is a whole number of 53 bits at most. No conditions.
-/
import Derived.Test.YtomhkbijijdghaaDyf
import Derived.Test.YtomhkbijijdghaaLdx
import Derived.Test.YtomhkbijijdghaaLg20
set_option linter.unusedVariables false
set_option linter.unusedSimpArgs false
namespace Go.Proofs.Ytomhkbijijdghaa.Lmb
open Go.Lg Go.Proofs.Ytomhkbijijdghaa.Pl

/-- The first i bits. -/
def Mi (N T i : Nat) : Nat := if i ≤ T then N / 2 ^ (T - i) else N * 2 ^ (i - T)
theorem mi_zero {N T : Nat} (h : N < 2 ^ T) : Mi N T 0 = 0 := by
  unfold Mi; rw [if_pos (Nat.zero_le _), Nat.sub_zero]; exact Nat.div_eq_of_lt h
theorem mi_succ (N T i : Nat) : Mi N T (i + 1) = 2 * Mi N T i + (if bitAt N ((T : Int) - 1 - i) then 1 else 0) := by
  unfold Mi bitAt
  rcases Nat.lt_or_ge i T with h | h
  · rw [if_pos (by omega), if_pos (by omega)]
    have e1 : ((T : Int) - 1 - i).toNat = T - (i + 1) := by omega
    have e2 : T - i = T - (i + 1) + 1 := by omega
    rw [e1, e2, Nat.pow_succ, ← Nat.div_div_eq_div_mul]
    have h0 : (0 : Int) ≤ (T : Int) - 1 - i := by omega
    generalize N / 2 ^ (T - (i + 1)) = q
    by_cases hq : q % 2 = 1
    · rw [if_pos (by simp only [decide_eq_true_eq]; exact ⟨h0, hq⟩)]; omega
    · rw [if_neg (by simp only [decide_eq_true_eq]; exact fun h => hq h.2)]; omega
  · have hb : decide (0 ≤ (T : Int) - 1 - i ∧ N / 2 ^ ((T : Int) - 1 - i).toNat % 2 = 1) = false := decide_eq_false (fun h => by omega)
    rw [hb, if_neg (by omega), show i + 1 - T = i - T + 1 by omega, Nat.pow_succ]
    by_cases hi : i = T
    · subst hi
      rw [if_pos (Nat.le_refl _)]
      simp; omega
    · rw [if_neg (by omega)]
      simp only [Bool.false_eq_true, if_false, Nat.add_zero]
      rw [← Nat.mul_assoc]; omega
theorem mi_lt {N T : Nat} (h : N < 2 ^ T) : ∀ i, Mi N T i < 2 ^ i
  | 0 => by rw [mi_zero h]; decide
  | i + 1 => by
    have := mi_lt h i
    rw [mi_succ, Nat.pow_succ]
    split <;> omega
theorem float_facts {N T : Nat} {e : Int} {K' : Nat} (hT : TopOf N T) (hK : (K' : Rat) = (N : Rat) * p2 e) (h1 : 1 ≤ K') (h2 : K' ≤ 9007199254740991) :
    1 ≤ (T : Int) + e ∧ (T : Int) + e ≤ 53 ∧ 4503599627370496 ≤ Mi N T 53 ∧ Mi N T 53 < 9007199254740992 ∧ (K' : Rat) = (Mi N T 53 : Rat) * p2 (e + ((T : Int) - 53)) ∧ (53 < T → bitAt N ((T : Int) - 53 - 1) = false) := by
  obtain ⟨t1, t2, t3⟩ := hT
  have hp := p2_pos e
  have hK1 : (1 : Rat) ≤ (K' : Rat) := by exact_mod_cast nat_le_rat.2 h1
  have hK2 : (K' : Rat) < p2 53 := by rw [p2_toNat (e := 53) (by decide)]; exact nat_lt_rat.2 (show K' < 9007199254740992 by omega)
  have n1 : p2 (((T - 1 : Nat) : Int)) ≤ (N : Rat) := by rw [p2_nat]; exact nat_le_rat.2 t1
  have n2 : (N : Rat) < p2 (T : Int) := by rw [p2_nat]; exact nat_lt_rat.2 t2
  have a1 : 1 ≤ (T : Int) + e := by
    rcases (Int.lt_or_le 0 ((T : Int) + e) : 0 < (T : Int) + e ∨ (T : Int) + e ≤ 0) with h | h
    · omega
    · exfalso
      have g1 := mul_lt n2 hp
      rw [← p2_add] at g1
      have g2 := p2_le h
      rw [p2_zero] at g2
      grind
  have a2 : (T : Int) + e ≤ 53 := by
    have g1 := mul_le n1 (Rat.le_of_lt hp)
    rw [← p2_add] at g1
    have g2 : p2 (((T - 1 : Nat) : Int) + e) < p2 53 := by grind
    have := p2_lt_iff.1 g2
    omega
  refine ⟨a1, a2, ?_⟩
  rcases Nat.lt_or_ge 53 T with h | h
  · obtain ⟨g, hg⟩ : ∃ g : Nat, (g : Int) = -e := ⟨(-e).toNat, by omega⟩
    obtain ⟨c, hc⟩ : ∃ c, T = c + 53 := ⟨T - 53, by omega⟩
    obtain ⟨d, hd⟩ : ∃ d, g = d + c := ⟨g - c, by omega⟩
    subst hc
    have hN : N = K' * 2 ^ g := by
      have e1 : (N : Rat) = (K' : Rat) * p2 (g : Int) := by
        rw [hK, Rat.mul_assoc, ← p2_add, show e + (g : Int) = 0 by omega, p2_zero, Rat.mul_one]
      rw [p2_nat] at e1
      exact_mod_cast e1
    have hN2 : N = K' * 2 ^ d * 2 ^ c := by rw [hN, hd, Nat.pow_add, Nat.mul_assoc]
    have hm : Mi N (c + 53) 53 = K' * 2 ^ d := by
      unfold Mi
      rw [if_pos (by omega), Nat.add_sub_cancel, hN2, Nat.mul_div_cancel _ (pow2_pos c)]
    have hcp := pow2_pos c
    refine ⟨?_, ?_, ?_, fun _ => ?_⟩
    · rw [hm]
      rw [hN2, show c + 53 - 1 = 52 + c by omega, Nat.pow_add] at t1
      exact Nat.le_of_mul_le_mul_right t1 hcp
    · rw [hm]
      rw [hN2, show c + 53 = 53 + c by omega, Nat.pow_add] at t2
      exact Nat.lt_of_mul_lt_mul_right t2
    · rw [hm]
      have e2 : ((K' * 2 ^ d : Nat) : Rat) = (K' : Rat) * p2 (d : Int) := by rw [p2_nat]; push_cast; rfl
      rw [e2, Rat.mul_assoc, ← p2_add, show (d : Int) + (e + (((c + 53 : Nat) : Int) - 53)) = 0 by omega, p2_zero, Rat.mul_one]
    · unfold bitAt
      refine decide_eq_false (fun hb => ?_)
      obtain ⟨b1, b2⟩ := hb
      obtain ⟨c', hc'⟩ : ∃ c', c = c' + 1 := ⟨c - 1, by omega⟩
      rw [show ((((c + 53 : Nat) : Int) - 53 - 1)).toNat = c' by omega, hN2, hc', Nat.pow_succ, ← Nat.mul_assoc, Nat.mul_comm _ 2, ← Nat.mul_assoc, Nat.mul_div_cancel _ (pow2_pos c')] at b2
      omega
  · obtain ⟨c, hc⟩ : ∃ c, 53 = T + c := ⟨53 - T, by omega⟩
    have hm : Mi N T 53 = N * 2 ^ c := by
      unfold Mi
      split
      · obtain rfl : c = 0 := by omega
        rw [show T - 53 = 0 by omega]; simp
      · rw [show 53 - T = c by omega]
    have hcp := pow2_pos c
    refine ⟨?_, ?_, ?_, fun h' => by omega⟩
    · rw [hm]
      have := Nat.mul_le_mul_right (2 ^ c) t1
      rw [← Nat.pow_add, show T - 1 + c = 52 by omega] at this
      exact this
    · rw [hm]
      have := Nat.mul_lt_mul_of_pos_right t2 hcp
      rw [← Nat.pow_add, ← hc] at this
      exact this
    · rw [hm]
      have e2 : ((N * 2 ^ c : Nat) : Rat) = (N : Rat) * p2 (c : Int) := by rw [p2_nat]; push_cast; rfl
      rw [e2, Rat.mul_assoc, ← p2_add, show (c : Int) + (e + ((T : Int) - 53)) = e by omega, hK]
theorem wTop' (T : Nat) (neg : Bool) (xs : List Nat) (a : Option Addr) (c : Nat) (H : Heap) (hT : TopOf (lv xs) T) (hu : US H (.slice a xs.length c) xs) (hL : Lm xs) (hN : Nrm xs) (hne : xs ≠ []) (hl : xs.length < 2 ^ 30) :
    Does Try.prog 83 [.agg ⟨[.bool neg, .slice a xs.length c]⟩] H fun w H' => w = .int .i64 (T : Int) ∧ ∃ ex, H' = ex ++ H := by
  refine (wTop neg xs a c H hu hL hN hne hl).mono ?_
  rintro _ _ ⟨⟨S, rfl, hS, _⟩, h⟩
  exact ⟨by rw [hT.uniq hS], h⟩
set_option maxHeartbeats 16000000 in
theorem qFloat (u : Value) (K : Int) (d : Nat) (H : Heap) (hd : d ≤ 5) (hu : IsQ (K : Rat) d u H) (k1 : -9007199254740991 ≤ K) (k2 : K ≤ 9007199254740991) :
    Does Try.prog 32 [u] H fun w H' => (∃ r, w = .float .f64 r ∧ Fv r (K : Rat)) ∧ ∃ ex, H' = ex ++ H := by
  have hu0 := hu
  obtain ⟨n, e, L, hD, hq, hL, e1, e2⟩ := hu
  obtain ⟨b, a, kk, c, rfl, hW⟩ := hD
  obtain ⟨neg0, xs, a', c', hv, x1, x2, x3, rfl, x5, x6⟩ := hW
  cases hv
  obtain ⟨p4, _, _, p5, _, _⟩ := pow4 hd
  have hxl : xs.length < 2 ^ 30 := by
    have : 70100 * 4 ^ d ≤ 70100 * 1024 := Nat.mul_le_mul_left _ p4
    omega
  have he : -1000000 ≤ e ∧ e ≤ 1000000 := by
    have : 1100 * 2 ^ d ≤ 1100 * 32 := Nat.mul_le_mul_left _ p5
    omega
  refine fn_enter 78 Try.func32 fun W => ?_
  by_cases hK0 : K = 0
  · subst hK0
    have hs : sgQ ((0 : Int) : Rat) = 0 := by simp [sgQ]
    repeat' first
      | (refine op_call ((qSign _ _ d _ (hu0.mono fun e he => by simp [he])).mono ?_); rw [hs]; rintro _ _ ⟨rfl, rfl⟩)
      | (first | refine tl_defer ?_ | refine tc_seq ?_ | refine tc_region ?_ | refine at_seq_normal ?_ | refine tl_nil ?_ | refine tl_cons ?_ | refine tl_cons_none ?_ | refine op_move ?_ | refine op_assign ?_ | refine op_fieldAddr ?_ | refine op_load ?_ | refine op_load_agg ?_ | refine op_indexC ?_ | refine op_indexAddr1 ?_ | refine op_indexAddr ?_ | refine op_icmp ?_ | refine op_fcmp ?_ | refine op_iarith ?_ | refine op_bcmp ?_ | refine op_unop_not ?_ | refine op_unop_neg_float ?_ | refine op_unop_neg_int ?_ | refine op_len_slice ?_ | refine op_pick_true ?_ | refine op_pick_false ?_ | refine op_pick_true' ?_ | refine op_pick_false' ?_ | refine op_build ?_ | refine op_extract ?_ | refine op_makeInterface ?_ | refine op_typeAssert ?_ | refine op_ptr_nil ?_ | refine op_nilCheck_ptr ?_ | refine op_nilCheck_meth ?_ | refine op_makeMeth ?_ | refine op_makeFunc ?_ | refine op_itof ?_ | refine op_itoi ?_ | refine op_ftoi ?_ | refine op_iquo ?_ | refine op_irem ?_ | refine op_ibits ?_ | refine op_slice_isnil ?_ | refine op_slice_notnil ?_ | refine op_imax ?_ | refine op_imin ?_ | refine op_shl ?_ | refine op_shr ?_ | (refine op_alloc ?_; intro _) | (refine op_box ?_; intro _) | (refine op_buildSlice ?_; intro _) | (refine op_farith ?_; intro _ _) | refine op_store0 ?_ | refine op_store1 ?_ | refine op_store2 ?_ | refine op_store3 ?_ | refine op_store4 ?_ | refine op_store5 ?_ | refine op_storeK rfl ?_ | refine op_loadK rfl ?_ | refine op_load_aggK rfl ?_ | refine tc_cond_t ?_ | refine tc_cond_f ?_ | refine tc_cond (fun _ => ?_) (fun _ => ?_) | refine tc_block ?_ | refine tc_skip ?_ | refine tc_ret ?_ | refine tc_exit ?_ | refine tc_label ?_ | refine at_seq_ret ?_ | refine at_seq_exit ?_ | refine at_block_normal ?_ | refine at_block_ret ?_ | refine at_block_exit_self ?_ | refine at_block_exit_ne ?_ | refine at_loop_ret ?_ | refine at_loop_exit ?_ | refine at_loop_goto ?_ | refine tl_guard_yes ?_ | refine tl_guard_no ?_ | refine tl_guard_yes' ?_ | refine tl_guard_no' ?_ | refine tl_guard_undef ?_ | refine tl_guard_split (fun _ => ?_) (fun _ => ?_))
      | fail
    exact ret_tmp (hG := List.Sublist.refl _) (hk := ⟨⟨0, rfl, ⟨false, 0, -1074, rfl, by simp⟩⟩, ExC.ex⟩)
  have hsg : sgQ (K : Rat) ≠ 0 := by
    have h0 : (K : Rat) ≠ 0 := by exact_mod_cast hK0
    unfold sgQ; rw [if_neg h0]; split <;> decide
  have hc0 : ¬ icmp .eql (sgQ (K : Rat)) 0 = true := by simp only [icmp, beq_iff_eq]; exact hsg
  have hN0 : lv xs ≠ 0 := by
    intro h0
    rw [show nval b xs = 0 by unfold nval; rw [h0]; cases b <;> rfl] at hq
    apply hK0
    have : (K : Rat) = 0 := by rw [hq]; simp
    exact_mod_cast this
  have hne : xs ≠ [] := by intro h; rw [h] at hN0; exact hN0 rfl
  have hpe := p2_pos e
  -- the size without the sign
  obtain ⟨K', hK'⟩ : ∃ K' : Nat, K' = K.natAbs := ⟨_, rfl⟩
  have hKK : (K' : Rat) = (lv xs : Rat) * p2 e ∧ (b = true → (K : Rat) = -(K' : Rat)) ∧ (b = false → (K : Rat) = (K' : Rat)) := by
    have hN : (0 : Rat) ≤ (lv xs : Rat) := by exact_mod_cast nat_le_rat.2 (Nat.zero_le (lv xs))
    have hNe := Rat.mul_nonneg hN (Rat.le_of_lt hpe)
    cases b with
    | false =>
      have h1 : (K : Rat) = (lv xs : Rat) * p2 e := by rw [hq]; show (((lv xs : Nat) : Int) : Rat) * p2 e = _; rw [Rat.intCast_natCast]
      have h2 : 0 ≤ K := by
        have : (0 : Rat) ≤ (K : Rat) := by rw [h1]; exact hNe
        exact_mod_cast this
      have h3 : (K' : Rat) = (K : Rat) := by rw [← Rat.intCast_natCast]; exact congrArg _ (by omega)
      exact ⟨by rw [h3, h1], (fun h => by cases h), fun _ => h3.symm⟩
    | true =>
      have h1 : (K : Rat) = -((lv xs : Rat) * p2 e) := by rw [hq]; show ((-((lv xs : Nat) : Int) : Int) : Rat) * p2 e = _; rw [Rat.intCast_neg, Rat.intCast_natCast]; exact Rat.neg_mul _ _
      have h2 : K ≤ 0 := by
        have : (K : Rat) ≤ 0 := by rw [h1]; grind
        exact_mod_cast this
      have h3 : (K' : Rat) = -(K : Rat) := by rw [← Rat.intCast_natCast, ← Rat.intCast_neg]; exact congrArg _ (by omega)
      exact ⟨by rw [h3, h1]; grind, (fun _ => by rw [h3]; grind), fun h => by cases h⟩
  obtain ⟨hKq, hKn, hKp⟩ := hKK
  obtain ⟨T, hT, hTl⟩ : ∃ T, TopOf (lv xs) T ∧ T ≤ 32 * xs.length := by
    have hz := x3 hne
    have hlt := getD_lt x2 (xs.length - 1)
    refine ⟨(lv xs).log2 + 1, ⟨?_, ?_, by omega⟩, ?_⟩
    · rw [Nat.add_sub_cancel]; exact (Nat.le_log2 hN0).1 (Nat.le_refl _)
    · exact (Nat.log2_lt hN0).1 (Nat.lt_succ_self _)
    · have h1 := lv_lt x2
      have h2 : (lv xs).log2 < 32 * xs.length := (Nat.log2_lt hN0).2 (by rw [Nat.pow_mul]; exact h1)
      omega
  obtain ⟨f1, f2, f3, f4, f5, f6⟩ := float_facts hT hKq (by omega) (by omega)
  have hTm : (T : Int) ≤ 32 * 1073741824 := by omega
  have w1 : IntKind.i64.wrap (iarith .add (T : Int) e) = (T : Int) + e := by rw [wrap_add (by omega) (by omega)]
  have w2 : IntKind.i64.wrap (iarith .add ((T : Int) + e) 1074) = (T : Int) + e + 1074 := by rw [wrap_add (by omega) (by omega)]
  have w3 : (if (T : Int) + e + 1074 < 53 then (T : Int) + e + 1074 else 53) = 53 := if_neg (by omega)
  have w4 : IntKind.i64.wrap (iarith .sub (T : Int) 53) = (T : Int) - 53 := by rw [wrap_sub (by omega) (by omega)]
  have w5 : IntKind.i64.wrap (iarith .sub (T : Int) 1) = (T : Int) - 1 := by rw [wrap_sub (by omega) (by omega)]
  have hbox : ∀ (k1 : Nat) (G : Heap), (k1, Obj.cells ⟨[.bool b, .slice a xs.length c, .int .i64 e]⟩ 68 (0, 0)) ∈ G → (([Value.bool b, .slice a xs.length c, .int .i64 e] : List Value).drop 0).take 2 = [.bool b, .slice a xs.length c] := fun _ _ _ => rfl
  have hc0' := Bool.eq_false_iff.2 hc0
  repeat' first
    | (refine op_call ((qSign _ _ d _ (hu0.mono fun e he => by simp [he])).mono ?_); rintro _ _ ⟨rfl, rfl⟩)
    | (refine op_icmp ?_; rw [hc0'])
    | (first | refine tl_defer ?_ | refine tc_seq ?_ | refine tc_region ?_ | refine at_seq_normal ?_ | refine tl_nil ?_ | refine tl_cons ?_ | refine tl_cons_none ?_ | refine op_move ?_ | refine op_assign ?_ | refine op_fieldAddr ?_ | refine op_load ?_ | refine op_load_agg ?_ | refine op_indexC ?_ | refine op_indexAddr1 ?_ | refine op_indexAddr ?_ | refine op_icmp ?_ | refine op_fcmp ?_ | refine op_iarith ?_ | refine op_bcmp ?_ | refine op_unop_not ?_ | refine op_unop_neg_float ?_ | refine op_unop_neg_int ?_ | refine op_len_slice ?_ | refine op_pick_true ?_ | refine op_pick_false ?_ | refine op_pick_true' ?_ | refine op_pick_false' ?_ | refine op_build ?_ | refine op_extract ?_ | refine op_makeInterface ?_ | refine op_typeAssert ?_ | refine op_ptr_nil ?_ | refine op_nilCheck_ptr ?_ | refine op_nilCheck_meth ?_ | refine op_makeMeth ?_ | refine op_makeFunc ?_ | refine op_itof ?_ | refine op_itoi ?_ | refine op_ftoi ?_ | refine op_iquo ?_ | refine op_irem ?_ | refine op_ibits ?_ | refine op_slice_isnil ?_ | refine op_slice_notnil ?_ | refine op_imax ?_ | refine op_imin ?_ | refine op_shl ?_ | refine op_shr ?_ | (refine op_alloc ?_; intro _) | (refine op_box ?_; intro _) | (refine op_buildSlice ?_; intro _) | (refine op_farith ?_; intro _ _) | refine op_store0 ?_ | refine op_store1 ?_ | refine op_store2 ?_ | refine op_store3 ?_ | refine op_store4 ?_ | refine op_store5 ?_ | refine op_storeK rfl ?_ | refine op_loadK rfl ?_ | refine op_load_aggK rfl ?_ | refine tc_cond_t ?_ | refine tc_cond_f ?_ | refine tc_cond (fun _ => ?_) (fun _ => ?_) | refine tc_block ?_ | refine tc_skip ?_ | refine tc_ret ?_ | refine tc_exit ?_ | refine tc_label ?_ | refine at_seq_ret ?_ | refine at_seq_exit ?_ | refine at_block_normal ?_ | refine at_block_ret ?_ | refine at_block_exit_self ?_ | refine at_block_exit_ne ?_ | refine at_loop_ret ?_ | refine at_loop_exit ?_ | refine at_loop_goto ?_ | refine tl_guard_yes ?_ | refine tl_guard_no ?_ | refine tl_guard_yes' ?_ | refine tl_guard_no' ?_ | refine tl_guard_undef ?_ | refine tl_guard_split (fun _ => ?_) (fun _ => ?_))
    | fail
  rename_i k1
  apply fun hole0 hole1 hole2 hole3 hE hD hml hdl hpr prem fin => tc_drawnD 8 [PhiD.is hole0, PhiD.is hole1, PhiD.gen (some' (fun w _ => w = .int .i64 (T : Int))), PhiD.is hole2, PhiD.is hole3, PhiD.is (.int .i64 ((T : Int) + e)), PhiD.is (.int .i64 ((T : Int) + e + 1074)), PhiD.is (.int .i64 53)]
    [some 11, some 12, some 13, some 14, some 15, some 16, some 17, some 18, some 3] [[], [0], [1], [], [3], [2, 4], [5], [6]] mixed ⟨(some_mono _), trivial⟩ prem fin hE hD rfl hml hdl hpr
  rotate_left 5
  · first | kernel_rfl | exact rfl
  · first | kernel_rfl | exact rfl
  · exact Nat.le_of_ble_eq_true rfl
  · first | kernel_rfl | exact rfl
  · first | kernel_rfl | exact rfl
  refine ⟨fun G hG => ?_, fun G hG => ?_, fun G hG => ?_, fun G hG => ?_, fun G hG => ?_, fun G hG => ?_, fun G hG => ?_, fun G hG => ?_, trivial⟩
  · simp only [withD, nthD, Step2, nthDst, putO, postD]
    (refine op_fieldAddr ?_; exact ⟨[], rfl, rfl, rfl⟩)
  · simp only [withD, nthD, Step2, nthDst, putO, postD]
    ((first | refine op_load ?_ | refine op_load_agg ?_ | refine op_load ?_ (hm := Sub.mem (by assumption) (by (repeat (apply List.mem_cons_of_mem)); assumption)) | refine op_load_agg ?_ (hm := Sub.mem (by assumption) (by (repeat (apply List.mem_cons_of_mem)); assumption)) | refine op_loadH hG rfl ?_ | refine op_load_aggH hG rfl ?_); exact ⟨[], rfl, rfl, rfl⟩)
  · simp only [withD, nthD, Step2, nthDst, putO, postD]
    (refine op_call ((wTop' T b xs a c _ hT (x1.mono fun e he => hG e (by simp [he])) x2 x3 hne hxl).mono ?_); rintro _ _ ⟨rfl, ex, rfl⟩; exact ⟨ex, rfl, rfl⟩)
  · simp only [withD, nthD, Step2, nthDst, putO, postD]
    (refine op_fieldAddr ?_; exact ⟨[], rfl, rfl, rfl⟩)
  · simp only [withD, nthD, Step2, nthDst, putO, postD]
    ((first | refine op_load ?_ | refine op_load_agg ?_ | refine op_load ?_ (hm := Sub.mem (by assumption) (by (repeat (apply List.mem_cons_of_mem)); assumption)) | refine op_load_agg ?_ (hm := Sub.mem (by assumption) (by (repeat (apply List.mem_cons_of_mem)); assumption)) | refine op_loadH hG rfl ?_ | refine op_load_aggH hG rfl ?_); exact ⟨[], rfl, rfl, rfl⟩)
  · simp only [withD, nthD, Step2, nthDst, putO, postD]
    rintro _ _ rfl -
    (refine op_iarith ?_; rw [w1]; exact ⟨[], rfl, rfl, rfl⟩)
  · simp only [withD, nthD, Step2, nthDst, putO, postD]
    (refine op_iarith ?_; rw [w2]; exact ⟨[], rfl, rfl, rfl⟩)
  · simp only [withD, nthD, Step2, nthDst, putO, postD]
    (refine op_imin ?_; rw [w3]; exact ⟨[], rfl, rfl, rfl⟩)
  simp only [FinalsD, nthDst, putO, List.drop_succ_cons, List.drop_zero]
  rintro _ _ ⟨rfl, -⟩
  try simp only [List.nil_append]
  repeat' first
    | (refine op_call ((wTop' T b xs a c _ hT (x1.mono fun e he => by simp [he]) x2 x3 hne hxl).mono ?_); rintro _ _ ⟨rfl, ex2, rfl⟩)
    | (refine op_iarith ?_; rw [w4])
    | (first | refine tl_defer ?_ | refine tc_seq ?_ | refine tc_region ?_ | refine at_seq_normal ?_ | refine tl_nil ?_ | refine tl_cons ?_ | refine tl_cons_none ?_ | refine op_move ?_ | refine op_assign ?_ | refine op_fieldAddr ?_ | refine op_load ?_ | refine op_load_agg ?_ | refine op_indexC ?_ | refine op_indexAddr1 ?_ | refine op_indexAddr ?_ | refine op_icmp ?_ | refine op_fcmp ?_ | refine op_iarith ?_ | refine op_bcmp ?_ | refine op_unop_not ?_ | refine op_unop_neg_float ?_ | refine op_unop_neg_int ?_ | refine op_len_slice ?_ | refine op_pick_true ?_ | refine op_pick_false ?_ | refine op_pick_true' ?_ | refine op_pick_false' ?_ | refine op_build ?_ | refine op_extract ?_ | refine op_makeInterface ?_ | refine op_typeAssert ?_ | refine op_ptr_nil ?_ | refine op_nilCheck_ptr ?_ | refine op_nilCheck_meth ?_ | refine op_makeMeth ?_ | refine op_makeFunc ?_ | refine op_itof ?_ | refine op_itoi ?_ | refine op_ftoi ?_ | refine op_iquo ?_ | refine op_irem ?_ | refine op_ibits ?_ | refine op_slice_isnil ?_ | refine op_slice_notnil ?_ | refine op_imax ?_ | refine op_imin ?_ | refine op_shl ?_ | refine op_shr ?_ | (refine op_alloc ?_; intro _) | (refine op_box ?_; intro _) | (refine op_buildSlice ?_; intro _) | (refine op_farith ?_; intro _ _) | refine op_store0 ?_ | refine op_store1 ?_ | refine op_store2 ?_ | refine op_store3 ?_ | refine op_store4 ?_ | refine op_store5 ?_ | refine op_storeK rfl ?_ | refine op_loadK rfl ?_ | refine op_load_aggK rfl ?_ | refine tc_cond_t ?_ | refine tc_cond_f ?_ | refine tc_cond (fun _ => ?_) (fun _ => ?_) | refine tc_block ?_ | refine tc_skip ?_ | refine tc_ret ?_ | refine tc_exit ?_ | refine tc_label ?_ | refine at_seq_ret ?_ | refine at_seq_exit ?_ | refine at_block_normal ?_ | refine at_block_ret ?_ | refine at_block_exit_self ?_ | refine at_block_exit_ne ?_ | refine at_loop_ret ?_ | refine at_loop_exit ?_ | refine at_loop_goto ?_ | refine tl_guard_yes ?_ | refine tl_guard_no ?_ | refine tl_guard_yes' ?_ | refine tl_guard_no' ?_ | refine tl_guard_undef ?_ | refine tl_guard_split (fun _ => ?_) (fun _ => ?_))
    | fail
  refine tc_sub (G' := (k1, .cells ⟨[.bool b, .slice a xs.length c, .int .i64 e]⟩ 68 (0, 0)) :: H) (by (repeat (first | exact List.Sublist.refl _ | apply List.Sublist.cons_cons | apply List.Sublist.cons | refine List.Sublist.trans ?_ (List.sublist_append_right _ _)))) ?_
  refine tc_loopH [(1, _), (2, _), (3, _), (4, _)] (by repeat (first | exact trivial | refine ⟨rfl, ?_⟩)) (fun i : Nat => [(5, .int .u64 ((Mi (lv xs) T i : Nat) : Int)), (6, .int .i64 (i : Int))]) (fun i => i ≤ 53) (fun i => 53 - i) 0 (by decide) ⟨(by rw [mi_zero hT.2.1]; rfl), rfl, trivial⟩ ?_
  intro i hi
  by_cases hlt : i < 53
  · have hb : ¬ icmp .lss (i : Int) 53 = false := by simp only [icmp, decide_eq_false_iff_not]; omega
    have hb' := Bool.not_eq_false _ ▸ hb
    have hml := mi_lt hT.2.1 i
    have hms := mi_succ (lv xs) T i
    have h52 : 2 ^ i ≤ 4503599627370496 := Nat.pow_le_pow_right (n := 2) (by decide) (show i ≤ 52 by omega)
    have w6 : IntKind.u64.wrap (((Mi (lv xs) T i : Nat) : Int) * 2 ^ min (1 : Int).toNat IntKind.u64.bits) = ((2 * Mi (lv xs) T i : Nat) : Int) := by
      show IntKind.u64.wrap (((Mi (lv xs) T i : Nat) : Int) * 2) = _
      rw [wrap_u64 (by omega) (by omega)]; omega
    have w7 : IntKind.i64.wrap (iarith .sub ((T : Int) - 1) (i : Int)) = (T : Int) - 1 - i := by rw [wrap_sub (by omega) (by omega)]
    have w8 : IntKind.u64.wrap (iarith .add ((2 * Mi (lv xs) T i : Nat) : Int) 1) = ((2 * Mi (lv xs) T i + 1 : Nat) : Int) := by
      show IntKind.u64.wrap (((2 * Mi (lv xs) T i : Nat) : Int) + 1) = _
      rw [wrap_u64 (by omega) (by omega)]; omega
    have hbl : (T : Int) - 1 - i < 2 ^ 40 := by omega
    repeat' first
      | (refine op_icmp ?_; rw [hb'])
      | (refine op_shl (v := 1) ?_; rw [w6])
      | (first | refine tl_defer ?_ | refine tc_seq ?_ | refine tc_region ?_ | refine at_seq_normal ?_ | refine tl_nil ?_ | refine tl_cons ?_ | refine tl_cons_none ?_ | refine op_move ?_ | refine op_assign ?_ | refine op_fieldAddr ?_ | refine op_load ?_ | refine op_load_agg ?_ | refine op_indexC ?_ | refine op_indexAddr1 ?_ | refine op_indexAddr ?_ | refine op_icmp ?_ | refine op_fcmp ?_ | refine op_iarith ?_ | refine op_bcmp ?_ | refine op_unop_not ?_ | refine op_unop_neg_float ?_ | refine op_unop_neg_int ?_ | refine op_len_slice ?_ | refine op_pick_true ?_ | refine op_pick_false ?_ | refine op_pick_true' ?_ | refine op_pick_false' ?_ | refine op_build ?_ | refine op_extract ?_ | refine op_makeInterface ?_ | refine op_typeAssert ?_ | refine op_ptr_nil ?_ | refine op_nilCheck_ptr ?_ | refine op_nilCheck_meth ?_ | refine op_makeMeth ?_ | refine op_makeFunc ?_ | refine op_itof ?_ | refine op_itoi ?_ | refine op_ftoi ?_ | refine op_iquo ?_ | refine op_irem ?_ | refine op_ibits ?_ | refine op_slice_isnil ?_ | refine op_slice_notnil ?_ | refine op_imax ?_ | refine op_imin ?_ | refine op_shl ?_ | refine op_shr ?_ | (refine op_alloc ?_; intro _) | (refine op_box ?_; intro _) | (refine op_buildSlice ?_; intro _) | (refine op_farith ?_; intro _ _) | refine op_store0 ?_ | refine op_store1 ?_ | refine op_store2 ?_ | refine op_store3 ?_ | refine op_store4 ?_ | refine op_store5 ?_ | refine op_storeK rfl ?_ | refine op_loadK rfl ?_ | refine op_load_aggK rfl ?_ | refine tc_cond_t ?_ | refine tc_cond_f ?_ | refine tc_cond (fun _ => ?_) (fun _ => ?_) | refine tc_block ?_ | refine tc_skip ?_ | refine tc_ret ?_ | refine tc_exit ?_ | refine tc_label ?_ | refine at_seq_ret ?_ | refine at_seq_exit ?_ | refine at_block_normal ?_ | refine at_block_ret ?_ | refine at_block_exit_self ?_ | refine at_block_exit_ne ?_ | refine at_loop_ret ?_ | refine at_loop_exit ?_ | refine at_loop_goto ?_ | refine tl_guard_yes ?_ | refine tl_guard_no ?_ | refine tl_guard_yes' ?_ | refine tl_guard_no' ?_ | refine tl_guard_undef ?_ | refine tl_guard_split (fun _ => ?_) (fun _ => ?_))
      | fail
    apply fun hole0 hole1 hole2 hole3 hole4 hE hD hml hdl hpr prem fin => tc_drawnD 9 [PhiD.is hole0, PhiD.is hole1, PhiD.is hole2, PhiD.is hole3, PhiD.gen (some' (fun w _ => w = .int .i64 (T : Int))), PhiD.is (.int .i64 ((T : Int) - 1)), PhiD.is hole4, PhiD.is (.int .i64 ((T : Int) - 1 - i)), PhiD.gen (some' (fun w _ => w = .bool (bitAt (lv xs) ((T : Int) - 1 - i))))]
      [some 31, some 32, some 33, some 34, some 35, some 36, some 37, some 38, some 39] [[], [0], [], [2], [3], [4], [], [5, 6], [1, 7, 4]] mixed ⟨(some_mono _), (some_mono _), trivial⟩ prem fin hE hD rfl hml hdl hpr
    rotate_left 6
    · first | kernel_rfl | exact rfl
    · first | kernel_rfl | exact rfl
    · exact Nat.le_of_ble_eq_true rfl
    · first | kernel_rfl | exact rfl
    · first | kernel_rfl | exact rfl
    refine ⟨fun G hG => ?_, fun G hG => ?_, fun G hG => ?_, fun G hG => ?_, fun G hG => ?_, fun G hG => ?_, fun G hG => ?_, fun G hG => ?_, fun G hG => ?_, trivial⟩
    · simp only [withD, nthD, Step2, nthDst, putO, postD]
      (refine op_fieldAddr ?_; exact ⟨[], rfl, rfl, rfl⟩)
    · simp only [withD, nthD, Step2, nthDst, putO, postD]
      ((first | refine op_load ?_ | refine op_load_agg ?_ | refine op_load ?_ (hm := Sub.mem (by assumption) (by (repeat (apply List.mem_cons_of_mem)); assumption)) | refine op_load_agg ?_ (hm := Sub.mem (by assumption) (by (repeat (apply List.mem_cons_of_mem)); assumption)) | refine op_loadH hG rfl ?_ | refine op_load_aggH hG rfl ?_); exact ⟨[], rfl, rfl, rfl⟩)
    · simp only [withD, nthD, Step2, nthDst, putO, postD]
      (refine op_fieldAddr ?_; exact ⟨[], rfl, rfl, rfl⟩)
    · simp only [withD, nthD, Step2, nthDst, putO, postD]
      ((first | refine op_load ?_ | refine op_load_agg ?_ | refine op_load ?_ (hm := Sub.mem (by assumption) (by (repeat (apply List.mem_cons_of_mem)); assumption)) | refine op_load_agg ?_ (hm := Sub.mem (by assumption) (by (repeat (apply List.mem_cons_of_mem)); assumption)) | refine op_loadH hG rfl ?_ | refine op_load_aggH hG rfl ?_); exact ⟨[], rfl, rfl, rfl⟩)
    · simp only [withD, nthD, Step2, nthDst, putO, postD]
      (refine op_call ((wTop' T b xs a c _ hT (x1.mono fun e he => hG e (by simp [he])) x2 x3 hne hxl).mono ?_); rintro _ _ ⟨rfl, ex, rfl⟩; exact ⟨ex, rfl, rfl⟩)
    · simp only [withD, nthD, Step2, nthDst, putO, postD]
      rintro _ _ rfl -
      (refine op_iarith ?_; rw [w5]; exact ⟨[], rfl, rfl, rfl⟩)
    · simp only [withD, nthD, Step2, nthDst, putO, postD]
      (refine op_move ?_; exact ⟨[], rfl, rfl, rfl⟩)
    · simp only [withD, nthD, Step2, nthDst, putO, postD]
      (refine op_iarith ?_; rw [w7]; exact ⟨[], rfl, rfl, rfl⟩)
    · simp only [withD, nthD, Step2, nthDst, putO, postD]
      rintro _ _ rfl -
      (refine op_call ((wBit b xs a c _ _ (x1.mono fun e he => hG e (by simp [he])) x2 hbl (by omega)).mono ?_); rintro _ _ ⟨rfl, ex, rfl⟩; exact ⟨ex, rfl, rfl⟩)
    simp only [FinalsD, nthDst, putO, List.drop_succ_cons, List.drop_zero]
    rintro _ _ _ _ ⟨rfl, rfl, -⟩
    try simp only [List.nil_append]
    by_cases hbit : bitAt (lv xs) ((T : Int) - 1 - i) = true
    · rw [if_pos hbit] at hms
      rw [hbit]
      clear hb hb'
      repeat' first
        | (refine op_iarith ?_; rw [w8])
        | (first | refine tl_defer ?_ | refine tc_seq ?_ | refine tc_region ?_ | refine at_seq_normal ?_ | refine tl_nil ?_ | refine tl_cons ?_ | refine tl_cons_none ?_ | refine op_move ?_ | refine op_assign ?_ | refine op_fieldAddr ?_ | refine op_load ?_ | refine op_load_agg ?_ | refine op_indexC ?_ | refine op_indexAddr1 ?_ | refine op_indexAddr ?_ | refine op_icmp ?_ | refine op_fcmp ?_ | refine op_iarith ?_ | refine op_bcmp ?_ | refine op_unop_not ?_ | refine op_unop_neg_float ?_ | refine op_unop_neg_int ?_ | refine op_len_slice ?_ | refine op_pick_true ?_ | refine op_pick_false ?_ | refine op_pick_true' ?_ | refine op_pick_false' ?_ | refine op_build ?_ | refine op_extract ?_ | refine op_makeInterface ?_ | refine op_typeAssert ?_ | refine op_ptr_nil ?_ | refine op_nilCheck_ptr ?_ | refine op_nilCheck_meth ?_ | refine op_makeMeth ?_ | refine op_makeFunc ?_ | refine op_itof ?_ | refine op_itoi ?_ | refine op_ftoi ?_ | refine op_iquo ?_ | refine op_irem ?_ | refine op_ibits ?_ | refine op_slice_isnil ?_ | refine op_slice_notnil ?_ | refine op_imax ?_ | refine op_imin ?_ | refine op_shl ?_ | refine op_shr ?_ | (refine op_alloc ?_; intro _) | (refine op_box ?_; intro _) | (refine op_buildSlice ?_; intro _) | (refine op_farith ?_; intro _ _) | refine op_store0 ?_ | refine op_store1 ?_ | refine op_store2 ?_ | refine op_store3 ?_ | refine op_store4 ?_ | refine op_store5 ?_ | refine op_storeK rfl ?_ | refine op_loadK rfl ?_ | refine op_load_aggK rfl ?_ | refine tc_cond_t ?_ | refine tc_cond_f ?_ | refine tc_cond (fun _ => ?_) (fun _ => ?_) | refine tc_block ?_ | refine tc_skip ?_ | refine tc_ret ?_ | refine tc_exit ?_ | refine tc_label ?_ | refine at_seq_ret ?_ | refine at_seq_exit ?_ | refine at_block_normal ?_ | refine at_block_ret ?_ | refine at_block_exit_self ?_ | refine at_block_exit_ne ?_ | refine at_loop_ret ?_ | refine at_loop_exit ?_ | refine at_loop_goto ?_ | refine tl_guard_yes ?_ | refine tl_guard_no ?_ | refine tl_guard_yes' ?_ | refine tl_guard_no' ?_ | refine tl_guard_undef ?_ | refine tl_guard_split (fun _ => ?_) (fun _ => ?_))
        | fail
      refine at_loopK (i + 1) (by omega) (by omega) ⟨(by rw [hms]; rfl), next_nat (by omega), trivial⟩ (by repeat (first | exact trivial | refine ⟨rfl, ?_⟩)) (by (repeat (first | exact List.Sublist.refl _ | apply List.Sublist.cons_cons | apply List.Sublist.cons | refine List.Sublist.trans ?_ (List.sublist_append_right _ _))))
    · have hbit' : bitAt (lv xs) ((T : Int) - 1 - i) = false := by simpa using hbit
      rw [if_neg hbit, Nat.add_zero] at hms
      rw [hbit']
      clear hb hb'
      repeat'
        first
          | refine tl_defer ?_ | refine tc_seq ?_ | refine tc_region ?_ | refine at_seq_normal ?_ | refine tl_nil ?_ | refine tl_cons ?_ | refine tl_cons_none ?_ | refine op_move ?_
          | refine op_assign ?_ | refine op_fieldAddr ?_ | refine op_load ?_ | refine op_load_agg ?_ | refine op_indexC ?_ | refine op_indexAddr1 ?_ | refine op_indexAddr ?_ | refine op_icmp ?_
          | refine op_fcmp ?_ | refine op_iarith ?_ | refine op_bcmp ?_ | refine op_unop_not ?_ | refine op_unop_neg_float ?_ | refine op_unop_neg_int ?_ | refine op_len_slice ?_ | refine op_pick_true ?_
          | refine op_pick_false ?_ | refine op_pick_true' ?_ | refine op_pick_false' ?_ | refine op_build ?_ | refine op_extract ?_ | refine op_makeInterface ?_ | refine op_typeAssert ?_ | refine op_ptr_nil ?_
          | refine op_nilCheck_ptr ?_ | refine op_nilCheck_meth ?_ | refine op_makeMeth ?_ | refine op_makeFunc ?_ | refine op_itof ?_ | refine op_itoi ?_ | refine op_ftoi ?_ | refine op_iquo ?_
          | refine op_irem ?_ | refine op_ibits ?_ | refine op_slice_isnil ?_ | refine op_slice_notnil ?_ | refine op_imax ?_ | refine op_imin ?_ | refine op_shl ?_ | refine op_shr ?_
          | (refine op_alloc ?_; intro _) | (refine op_box ?_; intro _) | (refine op_buildSlice ?_; intro _) | (refine op_farith ?_; intro _ _) | refine op_store0 ?_ | refine op_store1 ?_ | refine op_store2 ?_ | refine op_store3 ?_
          | refine op_store4 ?_ | refine op_store5 ?_ | refine tc_cond_t ?_ | refine tc_cond_f ?_ | refine tc_cond (fun _ => ?_) (fun _ => ?_) | refine tc_block ?_ | refine tc_skip ?_ | refine tc_ret ?_
          | refine tc_exit ?_ | refine tc_label ?_ | refine at_seq_ret ?_ | refine at_seq_exit ?_ | refine at_block_normal ?_ | refine at_block_ret ?_ | refine at_block_exit_self ?_ | refine at_block_exit_ne ?_
          | refine at_loop_ret ?_ | refine at_loop_exit ?_ | refine at_loop_goto ?_ | refine tl_guard_yes ?_ | refine tl_guard_no ?_ | refine tl_guard_yes' ?_ | refine tl_guard_no' ?_ | refine tl_guard_undef ?_
          | refine tl_guard_split (fun _ => ?_) (fun _ => ?_)
      refine at_loopK (i + 1) (by omega) (by omega) ⟨(by rw [hms]; rfl), next_nat (by omega), trivial⟩ (by repeat (first | exact trivial | refine ⟨rfl, ?_⟩)) (by (repeat (first | exact List.Sublist.refl _ | apply List.Sublist.cons_cons | apply List.Sublist.cons | refine List.Sublist.trans ?_ (List.sublist_append_right _ _))))
  · obtain rfl : i = 53 := by omega
    have hb : ¬ icmp .lss ((53 : Nat) : Int) 53 = true := by decide
    have hb' := Bool.eq_false_iff.2 hb
    generalize hm : Mi (lv xs) T 53 = m at *
    have hfx := fv_ofInt (n := (m : Int)) (by omega) (by omega)
    rw [Rat.intCast_natCast] at hfx
    have hfw : floatOfInt .f64 (m : Int) < 18446744073709551616 := by have := floatOfInt_wf .f64 (m : Int); exact wf_f64 this
    generalize hfxe : floatOfInt .f64 (m : Int) = fx at *
    have w6 : IntKind.i64.wrap (iarith .add e ((T : Int) - 53)) = e + ((T : Int) - 53) := by rw [wrap_add (by omega) (by omega)]
    have w7 : IntKind.i64.wrap (iarith .sub ((T : Int) - 53) 1) = (T : Int) - 53 - 1 := by rw [wrap_sub (by omega) (by omega)]
    have hld : ∀ G : Heap, Does Try.prog 86 [.float .f64 fx, .int .i64 (e + ((T : Int) - 53))] G fun w H' => (∃ r, w = .float .f64 r ∧ Fv r (K' : Rat)) ∧ H' = G := fun G => Pl.ldexp fx m K' _ G hfx hfw f3 f4 (by omega) (by omega) f5
    have hgt : icmp .gtr ((T : Int) - 53) 0 = decide (53 < T) := by simp only [icmp]; rw [Bool.eq_iff_iff]; simp only [decide_eq_true_eq]; omega
    have hbl2 : (T : Int) - 53 - 1 < 2 ^ 40 := by omega
    by_cases hcut : 53 < T
    · have hbf := f6 hcut
      rw [decide_eq_true hcut] at hgt
      have hbB : ∀ (k1 : Nat) (G : Heap), (∀ e ∈ H, e ∈ G) → Does Try.prog 84 [.agg ⟨[.bool b, .slice a xs.length c]⟩, .int .i64 ((T : Int) - 53 - 1)] G fun w H' => w = .bool false ∧ ∃ ex, H' = ex ++ G := fun k1 G hG => by
        rw [← hbf]; exact wBit b xs a c _ _ (x1.mono hG) x2 hbl2 (by omega)
      repeat' first
        | (refine op_icmp ?_; first | rw [hb'] | (rw [hgt]; clear hgt))
        | (refine op_iarith ?_; first | rw [w6] | rw [w7])
        | (refine op_call ((hbB k1 _ (fun e he => by simp [he])).mono ?_); rintro _ _ ⟨rfl, ex3, rfl⟩)
        | (refine op_itof ?_; rw [hfxe])
        | (refine op_call ((hld _).mono ?_); rintro _ _ ⟨⟨r, rfl, hr⟩, rfl⟩)
        | (first | refine tl_defer ?_ | refine tc_seq ?_ | refine tc_region ?_ | refine at_seq_normal ?_ | refine tl_nil ?_ | refine tl_cons ?_ | refine tl_cons_none ?_ | refine op_move ?_ | refine op_assign ?_ | refine op_fieldAddr ?_ | refine op_load ?_ | refine op_load_agg ?_ | refine op_indexC ?_ | refine op_indexAddr1 ?_ | refine op_indexAddr ?_ | refine op_icmp ?_ | refine op_fcmp ?_ | refine op_iarith ?_ | refine op_bcmp ?_ | refine op_unop_not ?_ | refine op_unop_neg_float ?_ | refine op_unop_neg_int ?_ | refine op_len_slice ?_ | refine op_pick_true ?_ | refine op_pick_false ?_ | refine op_pick_true' ?_ | refine op_pick_false' ?_ | refine op_build ?_ | refine op_extract ?_ | refine op_makeInterface ?_ | refine op_typeAssert ?_ | refine op_ptr_nil ?_ | refine op_nilCheck_ptr ?_ | refine op_nilCheck_meth ?_ | refine op_makeMeth ?_ | refine op_makeFunc ?_ | refine op_itof ?_ | refine op_itoi ?_ | refine op_ftoi ?_ | refine op_iquo ?_ | refine op_irem ?_ | refine op_ibits ?_ | refine op_slice_isnil ?_ | refine op_slice_notnil ?_ | refine op_imax ?_ | refine op_imin ?_ | refine op_shl ?_ | refine op_shr ?_ | (refine op_alloc ?_; intro _) | (refine op_box ?_; intro _) | (refine op_buildSlice ?_; intro _) | (refine op_farith ?_; intro _ _) | refine op_store0 ?_ | refine op_store1 ?_ | refine op_store2 ?_ | refine op_store3 ?_ | refine op_store4 ?_ | refine op_store5 ?_ | refine op_storeK rfl ?_ | refine op_loadK rfl ?_ | refine op_load_aggK rfl ?_ | refine tc_cond_t ?_ | refine tc_cond_f ?_ | refine tc_cond (fun _ => ?_) (fun _ => ?_) | refine tc_block ?_ | refine tc_skip ?_ | refine tc_ret ?_ | refine tc_exit ?_ | refine tc_label ?_ | refine at_seq_ret ?_ | refine at_seq_exit ?_ | refine at_block_normal ?_ | refine at_block_ret ?_ | refine at_block_exit_self ?_ | refine at_block_exit_ne ?_ | refine at_loop_ret ?_ | refine at_loop_exit ?_ | refine at_loop_goto ?_ | refine tl_guard_yes ?_ | refine tl_guard_no ?_ | refine tl_guard_yes' ?_ | refine tl_guard_no' ?_ | refine tl_guard_undef ?_ | refine tl_guard_split (fun _ => ?_) (fun _ => ?_))
        | fail
      · exact ret_tmp (hG := List.Sublist.refl _) (hk := ⟨⟨_, rfl, by rw [hKn (by assumption)]; exact hr.neg⟩, ExC.ex⟩)
      · exact ret_tmp (hG := List.Sublist.refl _) (hk := ⟨⟨_, rfl, by rw [hKp (by assumption)]; exact hr⟩, ExC.ex⟩)
    · rw [decide_eq_false hcut] at hgt
      repeat' first
        | (refine op_icmp ?_; first | rw [hb'] | (rw [hgt]; clear hgt))
        | (refine op_iarith ?_; first | rw [w6] | rw [w7])
        | (refine op_itof ?_; rw [hfxe])
        | (refine op_call ((hld _).mono ?_); rintro _ _ ⟨⟨r, rfl, hr⟩, rfl⟩)
        | (first | refine tl_defer ?_ | refine tc_seq ?_ | refine tc_region ?_ | refine at_seq_normal ?_ | refine tl_nil ?_ | refine tl_cons ?_ | refine tl_cons_none ?_ | refine op_move ?_ | refine op_assign ?_ | refine op_fieldAddr ?_ | refine op_load ?_ | refine op_load_agg ?_ | refine op_indexC ?_ | refine op_indexAddr1 ?_ | refine op_indexAddr ?_ | refine op_icmp ?_ | refine op_fcmp ?_ | refine op_iarith ?_ | refine op_bcmp ?_ | refine op_unop_not ?_ | refine op_unop_neg_float ?_ | refine op_unop_neg_int ?_ | refine op_len_slice ?_ | refine op_pick_true ?_ | refine op_pick_false ?_ | refine op_pick_true' ?_ | refine op_pick_false' ?_ | refine op_build ?_ | refine op_extract ?_ | refine op_makeInterface ?_ | refine op_typeAssert ?_ | refine op_ptr_nil ?_ | refine op_nilCheck_ptr ?_ | refine op_nilCheck_meth ?_ | refine op_makeMeth ?_ | refine op_makeFunc ?_ | refine op_itof ?_ | refine op_itoi ?_ | refine op_ftoi ?_ | refine op_iquo ?_ | refine op_irem ?_ | refine op_ibits ?_ | refine op_slice_isnil ?_ | refine op_slice_notnil ?_ | refine op_imax ?_ | refine op_imin ?_ | refine op_shl ?_ | refine op_shr ?_ | (refine op_alloc ?_; intro _) | (refine op_box ?_; intro _) | (refine op_buildSlice ?_; intro _) | (refine op_farith ?_; intro _ _) | refine op_store0 ?_ | refine op_store1 ?_ | refine op_store2 ?_ | refine op_store3 ?_ | refine op_store4 ?_ | refine op_store5 ?_ | refine op_storeK rfl ?_ | refine op_loadK rfl ?_ | refine op_load_aggK rfl ?_ | refine tc_cond_t ?_ | refine tc_cond_f ?_ | refine tc_cond (fun _ => ?_) (fun _ => ?_) | refine tc_block ?_ | refine tc_skip ?_ | refine tc_ret ?_ | refine tc_exit ?_ | refine tc_label ?_ | refine at_seq_ret ?_ | refine at_seq_exit ?_ | refine at_block_normal ?_ | refine at_block_ret ?_ | refine at_block_exit_self ?_ | refine at_block_exit_ne ?_ | refine at_loop_ret ?_ | refine at_loop_exit ?_ | refine at_loop_goto ?_ | refine tl_guard_yes ?_ | refine tl_guard_no ?_ | refine tl_guard_yes' ?_ | refine tl_guard_no' ?_ | refine tl_guard_undef ?_ | refine tl_guard_split (fun _ => ?_) (fun _ => ?_))
        | fail
      · exact ret_tmp (hG := List.Sublist.refl _) (hk := ⟨⟨_, rfl, by rw [hKn (by assumption)]; exact hr.neg⟩, ExC.ex⟩)
      · exact ret_tmp (hG := List.Sublist.refl _) (hk := ⟨⟨_, rfl, by rw [hKp (by assumption)]; exact hr⟩, ExC.ex⟩)
end Go.Proofs.Ytomhkbijijdghaa.Lmb
