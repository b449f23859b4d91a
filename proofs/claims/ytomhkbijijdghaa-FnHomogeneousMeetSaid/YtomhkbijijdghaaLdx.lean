/-
  math.Ldexp of a whole number of 53 bits, where the result is a whole number. No conditions.
-/
import Derived.Test.YtomhkbijijdghaaPl
import Derived.Test.YtomhkbijijdghaaFl13
import Derived.Test.YtomhkbijijdghaaDyc
set_option linter.unusedVariables false
set_option linter.unusedSimpArgs false
namespace Go.Proofs.Ytomhkbijijdghaa.Pl
open Go.Lg

theorem nat_lt_rat {a b : Nat} : (a : Rat) < (b : Rat) ↔ a < b := by
  rw [← Rat.intCast_natCast, ← Rat.intCast_natCast, Rat.intCast_lt_intCast]; omega
theorem nat_le_rat {a b : Nat} : (a : Rat) ≤ (b : Rat) ↔ a ≤ b := by
  rw [← Rat.intCast_natCast, ← Rat.intCast_natCast, Rat.intCast_le_intCast]; omega
theorem p2_half1 : p2 (-1) + p2 (-1) = 1 := by rw [← p2_half (e' := 0) (by decide), p2_zero]
/-- The word of a whole number of 53 bits. -/
theorem word53 {x m : Nat} (h : Fv x (m : Rat)) (hx : x < 18446744073709551616) (h1 : 4503599627370496 ≤ m) (h2 : m < 9007199254740992) : x = 1075 * 4503599627370496 + (m - 4503599627370496) := by
  obtain ⟨hne, hq⟩ := Lmb.word_val h hx
  obtain ⟨M, hM⟩ : ∃ M : Nat, M = (if x / 4503599627370496 % 2048 = 0 then x % 4503599627370496 else 4503599627370496 + x % 4503599627370496) := ⟨_, rfl⟩
  obtain ⟨d, hd⟩ : ∃ d : Int, d = (if x / 4503599627370496 % 2048 = 0 then 1 else ((x / 4503599627370496 % 2048 : Nat) : Int)) - 1075 := ⟨_, rfl⟩
  rw [← hM, ← hd] at hq
  have hMl : M < 9007199254740992 := by rw [hM]; split <;> omega
  have hp := p2_pos d
  have hm0 : (4503599627370496 : Rat) ≤ (m : Rat) := by exact_mod_cast nat_le_rat.2 h1
  have hm1 : (m : Rat) < 9007199254740992 := by exact_mod_cast nat_lt_rat.2 h2
  have hM0 : (0 : Rat) ≤ (M : Rat) := by exact_mod_cast nat_le_rat.2 (Nat.zero_le M)
  have hM1 : (M : Rat) < 9007199254740992 := by exact_mod_cast nat_lt_rat.2 hMl
  by_cases hs : x / 9223372036854775808 = 1
  · exfalso
    rw [if_pos hs] at hq
    have e : (((-1 * (M : Int) : Int)) : Rat) = -(M : Rat) := by rw [Int.neg_one_mul, Rat.intCast_neg, Rat.intCast_natCast]
    rw [e] at hq
    have := Rat.mul_nonneg hM0 (Rat.le_of_lt hp)
    grind
  rw [if_neg hs, Int.one_mul, Rat.intCast_natCast] at hq
  rcases Int.lt_trichotomy d 0 with hd0 | hd0 | hd0
  · exfalso
    have h3 := p2_le (show d ≤ -1 by omega)
    have h4 := mul_le_left h3 hM0
    have h5 := p2_half1
    have h6 : (M : Rat) * p2 (-1) + (M : Rat) * p2 (-1) = (M : Rat) := by rw [← Rat.mul_add, h5, Rat.mul_one]
    grind
  · subst hd0
    rw [p2_zero, Rat.mul_one] at hq
    have e : m = M := by exact_mod_cast hq
    have hE : x / 4503599627370496 % 2048 ≠ 0 := by
      intro h0; rw [if_pos h0] at hd; omega
    rw [if_neg hE] at hd hM
    omega
  · exfalso
    have hE : x / 4503599627370496 % 2048 ≠ 0 := by
      intro h0; rw [if_pos h0] at hd; omega
    rw [if_neg hE] at hM
    have h3 := p2_le (show 1 ≤ d by omega)
    rw [p2_one] at h3
    have h4 : (4503599627370496 : Rat) ≤ (M : Rat) := by exact_mod_cast nat_le_rat.2 (show 4503599627370496 ≤ M by omega)
    have h5 := mul_le_left h3 hM0
    grind
theorem word_read {f E : Nat} (hf : f < 4503599627370496) (hE0 : 1 ≤ E) (hE : E < 2047) : Fv (f + E * 4503599627370496) (((4503599627370496 + f : Nat) : Rat) * p2 ((E : Int) - 1075)) := by
  refine ⟨false, 4503599627370496 + f, (E : Int) - 1075, ?_, by unfold sgn; simp⟩
  have h1 : (f + E * 4503599627370496) % 9223372036854775808 = f + E * 4503599627370496 := by omega
  have h2 : (f + E * 4503599627370496) / 9223372036854775808 % 2 = 0 := by omega
  rw [read_eq, h1, if_neg (by omega), if_pos (by omega), h2]
  have h3 : (f + E * 4503599627370496) % 4503599627370496 = f := by omega
  have h4 : (f + E * 4503599627370496) / 4503599627370496 = E := by omega
  rw [h3, h4]
  show Ieee.Datum.number false _ _ = _
  congr 1
  omega
theorem ibits_mant {x : Nat} (h : x < 9223372036854775808) : ibits .andNot .u64 ((x : Nat) : Int) 9218868437227405312 = ((x % 4503599627370496 : Nat) : Int) := by
  show IntKind.u64.wrap (((BitVec.ofInt 64 ((x : Nat) : Int) &&& ~~~ BitVec.ofInt 64 9218868437227405312 : BitVec 64).toNat : Nat) : Int) = _
  have e : (~~~ BitVec.ofInt 64 9218868437227405312 : BitVec 64) = BitVec.ofNat 64 (2 ^ 63 ||| (2 ^ 52 - 1)) := by decide
  rw [e, BitVec.ofInt_natCast, BitVec.toNat_and, BitVec.toNat_ofNat, BitVec.toNat_ofNat, Nat.mod_eq_of_lt (a := 2 ^ 63 ||| (2 ^ 52 - 1)) (by decide), Nat.mod_eq_of_lt (a := x) (by omega), Nat.and_or_distrib_left, Nat.and_two_pow_sub_one_eq_mod]
  have e2 : x &&& 2 ^ 63 = 0 := by
    refine Nat.eq_of_testBit_eq fun i => ?_
    rw [Nat.testBit_and, Nat.testBit_two_pow, Nat.zero_testBit]
    by_cases hi : 63 = i
    · subst hi
      rw [Nat.testBit_lt_two_pow (x := x) (i := 63) h]; rfl
    · rw [decide_eq_false hi, Bool.and_false]
  rw [e2, Nat.zero_or]
  have h64 : IntKind.u64.wrap ((x % 2 ^ 52 : Nat) : Int) = ((x % 2 ^ 52 : Nat) : Int) := by rw [wrap_u64 (by omega) (by omega)]
  exact h64
theorem ibits_or_exp {f E : Nat} (hf : f < 4503599627370496) (hE : E < 2048) : ibits .or .u64 ((f : Nat) : Int) ((E * 4503599627370496 : Nat) : Int) = ((f + E * 4503599627370496 : Nat) : Int) := by
  show IntKind.u64.wrap (((BitVec.ofInt 64 ((f : Nat) : Int) ||| BitVec.ofInt 64 ((E * 4503599627370496 : Nat) : Int) : BitVec 64).toNat : Nat) : Int) = _
  rw [BitVec.ofInt_natCast, BitVec.ofInt_natCast, BitVec.toNat_or, BitVec.toNat_ofNat, BitVec.toNat_ofNat, Nat.mod_eq_of_lt (by omega), Nat.mod_eq_of_lt (by omega)]
  have e : f ||| E * 4503599627370496 = f + E * 4503599627370496 := by
    have := Nat.shiftLeft_add_eq_or_of_lt (i := 52) (b := f) hf E
    rw [Nat.shiftLeft_eq, show (2 : Nat) ^ 52 = 4503599627370496 from rfl] at this
    rw [Nat.or_comm, ← this, Nat.add_comm]
  rw [e, wrap_u64 (by omega) (by omega)]
theorem isInf (x : Nat) (q : Rat) (H : Heap) (hx : Fv x q) (hb : rabs q ≤ p2 1000) : Does Try.prog 126 [.float .f64 x, .int .i64 0] H fun w H' => w = .bool false ∧ H' = H := by
  refine fn_enter 15 Try.func126 fun W => ?_
  repeat' first
    | (refine op_call ((abs _ _).mono ?_); rintro _ _ ⟨rfl, rfl⟩)
    | (first | refine tl_defer ?_ | refine tc_seq ?_ | refine tc_region ?_ | refine at_seq_normal ?_ | refine tl_nil ?_ | refine tl_cons ?_ | refine tl_cons_none ?_ | refine op_move ?_ | refine op_assign ?_ | refine op_fieldAddr ?_ | refine op_load ?_ | refine op_load_agg ?_ | refine op_indexC ?_ | refine op_indexAddr1 ?_ | refine op_indexAddr ?_ | refine op_icmp ?_ | refine op_fcmp ?_ | refine op_iarith ?_ | refine op_bcmp ?_ | refine op_unop_not ?_ | refine op_unop_neg_float ?_ | refine op_unop_neg_int ?_ | refine op_len_slice ?_ | refine op_pick_true ?_ | refine op_pick_false ?_ | refine op_pick_true' ?_ | refine op_pick_false' ?_ | refine op_build ?_ | refine op_extract ?_ | refine op_makeInterface ?_ | refine op_typeAssert ?_ | refine op_ptr_nil ?_ | refine op_nilCheck_ptr ?_ | refine op_nilCheck_meth ?_ | refine op_makeMeth ?_ | refine op_makeFunc ?_ | refine op_itof ?_ | refine op_itoi ?_ | refine op_ftoi ?_ | refine op_iquo ?_ | refine op_irem ?_ | refine op_ibits ?_ | refine op_slice_isnil ?_ | refine op_slice_notnil ?_ | refine op_imax ?_ | refine op_imin ?_ | refine op_shl ?_ | refine op_shr ?_ | (refine op_alloc ?_; intro _) | (refine op_box ?_; intro _) | (refine op_buildSlice ?_; intro _) | (refine op_farith ?_; intro _ _) | refine op_store0 ?_ | refine op_store1 ?_ | refine op_store2 ?_ | refine op_store3 ?_ | refine op_store4 ?_ | refine op_store5 ?_ | refine op_storeK rfl ?_ | refine op_loadK rfl ?_ | refine op_load_aggK rfl ?_ | refine tc_cond_t ?_ | refine tc_cond_f ?_ | refine tc_cond (fun _ => ?_) (fun _ => ?_) | refine tc_block ?_ | refine tc_skip ?_ | refine tc_ret ?_ | refine tc_exit ?_ | refine tc_label ?_ | refine at_seq_ret ?_ | refine at_seq_exit ?_ | refine at_block_normal ?_ | refine at_block_ret ?_ | refine at_block_exit_self ?_ | refine at_block_exit_ne ?_ | refine at_loop_ret ?_ | refine at_loop_exit ?_ | refine at_loop_goto ?_ | refine tl_guard_yes ?_ | refine tl_guard_no ?_ | refine tl_guard_yes' ?_ | refine tl_guard_no' ?_ | refine tl_guard_undef ?_ | refine tl_guard_split (fun _ => ?_) (fun _ => ?_))
    | fail
  refine ret_tmp (hk := ⟨congrArg Value.bool ?_, rfl⟩)
  have hmx : Fv 9218868437227405311 (((4503599627370496 + 4503599627370495 : Nat) : Rat) * p2 971) := word_read (f := 4503599627370495) (E := 2046) (by decide) (by decide) (by decide)
  rw [fcmp_gtr hx.abs hmx]
  refine decide_eq_false ?_
  have h1 : (1 : Rat) ≤ ((4503599627370496 + 4503599627370495 : Nat) : Rat) := by exact_mod_cast (by decide : 1 ≤ 4503599627370496 + 4503599627370495)
  have h0 : p2 971 * p2 52 = p2 1023 := p2_mul (by decide)
  have h2 : p2 52 ≤ ((4503599627370496 + 4503599627370495 : Nat) : Rat) := by
    rw [p2_toNat (e := 52) (by decide)]; exact nat_le_rat.2 (by decide)
  have h3 := mul_le h2 (Rat.le_of_lt (p2_pos 971))
  rw [Rat.mul_comm, h0] at h3
  have h4 := p2_le (show (1000 : Int) ≤ 1023 by decide)
  clear hmx hx h0 h1 h2
  grind
theorem isNaN (x : Nat) (q : Rat) (H : Heap) (hx : Fv x q) : Does Try.prog 118 [.float .f64 x] H fun w H' => w = .bool false ∧ H' = H := by
  refine fn_enter 6 Try.func118 fun W => ?_
  repeat'
    first
      | refine tl_defer ?_ | refine tc_seq ?_ | refine tc_region ?_ | refine at_seq_normal ?_ | refine tl_nil ?_ | refine tl_cons ?_ | refine tl_cons_none ?_ | refine op_move ?_
      | refine op_assign ?_ | refine op_fieldAddr ?_ | refine op_load ?_ | refine op_load_agg ?_ | refine op_indexC ?_ | refine op_indexAddr1 ?_ | refine op_indexAddr ?_ | refine op_icmp ?_
      | refine op_fcmp ?_ | refine op_iarith ?_ | refine op_bcmp ?_ | refine op_unop_not ?_ | refine op_unop_neg_float ?_ | refine op_unop_neg_int ?_ | refine op_len_slice ?_ | refine op_pick_true ?_
      | refine op_pick_false ?_ | refine op_pick_true' ?_ | refine op_pick_false' ?_ | refine op_build ?_ | refine op_extract ?_ | refine op_makeInterface ?_ | refine op_typeAssert ?_ | refine op_ptr_nil ?_
      | refine op_nilCheck_ptr ?_ | refine op_nilCheck_meth ?_ | refine op_makeMeth ?_ | refine op_makeFunc ?_ | refine op_itof ?_ | refine op_itoi ?_ | refine op_ftoi ?_ | refine op_iquo ?_
      | refine op_irem ?_ | refine op_ibits ?_ | refine op_slice_isnil ?_ | refine op_slice_notnil ?_ | refine op_imax ?_ | refine op_imin ?_ | refine op_shl ?_ | refine op_shr ?_
      | (refine op_alloc ?_; intro _) | (refine op_box ?_; intro _) | (refine op_buildSlice ?_; intro _) | (refine op_farith ?_; intro _ _) | refine op_store0 ?_ | refine op_store1 ?_ | refine op_store2 ?_ | refine op_store3 ?_
      | refine op_store4 ?_ | refine op_store5 ?_ | refine tc_cond_t ?_ | refine tc_cond_f ?_ | refine tc_cond (fun _ => ?_) (fun _ => ?_) | refine tc_block ?_ | refine tc_skip ?_ | refine tc_ret ?_
      | refine tc_exit ?_ | refine tc_label ?_ | refine at_seq_ret ?_ | refine at_seq_exit ?_ | refine at_block_normal ?_ | refine at_block_ret ?_ | refine at_block_exit_self ?_ | refine at_block_exit_ne ?_
      | refine at_loop_ret ?_ | refine at_loop_exit ?_ | refine at_loop_goto ?_ | refine tl_guard_yes ?_ | refine tl_guard_no ?_ | refine tl_guard_yes' ?_ | refine tl_guard_no' ?_ | refine tl_guard_undef ?_
      | refine tl_guard_split (fun _ => ?_) (fun _ => ?_)
  exact ret_tmp (hk := ⟨congrArg Value.bool (by rw [fcmp_neq hx hx]; simp), rfl⟩)
theorem normalize (x m : Nat) (H : Heap) (hx : Fv x (m : Rat)) (h1 : 1 ≤ m) : Does Try.prog 138 [.float .f64 x] H fun w H' => w = .tuple #[.float .f64 x, .int .i64 0] ∧ H' = H := by
  have hsm : Fv 4503599627370496 (((4503599627370496 + 0 : Nat) : Rat) * p2 (-1074)) := word_read (f := 0) (E := 1) (by decide) (by decide) (by decide)
  have hc : fcmp .lss (x % 9223372036854775808) 4503599627370496 = false := by
    rw [fcmp_lss hx.abs hsm]
    refine decide_eq_false ?_
    have h2 : (1 : Rat) ≤ (m : Rat) := by exact_mod_cast nat_le_rat.2 h1
    have h3 := (le_rabs (m : Rat)).1
    have h4 : ((4503599627370496 + 0 : Nat) : Rat) * p2 (-1074) ≤ 1 := by
      have e : ((4503599627370496 + 0 : Nat) : Rat) = p2 52 := (p2_toNat (e := 52) (by decide)).symm
      rw [e, p2_mul (c := -1022) (by decide), ← p2_zero]; exact p2_le (by decide)
    clear hsm hx
    generalize ((4503599627370496 + 0 : Nat) : Rat) * p2 (-1074) = z at *
    grind
  refine fn_enter 10 Try.func138 fun W => ?_
  repeat' first
    | (refine op_call ((abs _ _).mono ?_); rintro _ _ ⟨rfl, rfl⟩)
    | (refine op_fcmp ?_; rw [hc])
    | (first | refine tl_defer ?_ | refine tc_seq ?_ | refine tc_region ?_ | refine at_seq_normal ?_ | refine tl_nil ?_ | refine tl_cons ?_ | refine tl_cons_none ?_ | refine op_move ?_ | refine op_assign ?_ | refine op_fieldAddr ?_ | refine op_load ?_ | refine op_load_agg ?_ | refine op_indexC ?_ | refine op_indexAddr1 ?_ | refine op_indexAddr ?_ | refine op_icmp ?_ | refine op_fcmp ?_ | refine op_iarith ?_ | refine op_bcmp ?_ | refine op_unop_not ?_ | refine op_unop_neg_float ?_ | refine op_unop_neg_int ?_ | refine op_len_slice ?_ | refine op_pick_true ?_ | refine op_pick_false ?_ | refine op_pick_true' ?_ | refine op_pick_false' ?_ | refine op_build ?_ | refine op_extract ?_ | refine op_makeInterface ?_ | refine op_typeAssert ?_ | refine op_ptr_nil ?_ | refine op_nilCheck_ptr ?_ | refine op_nilCheck_meth ?_ | refine op_makeMeth ?_ | refine op_makeFunc ?_ | refine op_itof ?_ | refine op_itoi ?_ | refine op_ftoi ?_ | refine op_iquo ?_ | refine op_irem ?_ | refine op_ibits ?_ | refine op_slice_isnil ?_ | refine op_slice_notnil ?_ | refine op_imax ?_ | refine op_imin ?_ | refine op_shl ?_ | refine op_shr ?_ | (refine op_alloc ?_; intro _) | (refine op_box ?_; intro _) | (refine op_buildSlice ?_; intro _) | (refine op_farith ?_; intro _ _) | refine op_store0 ?_ | refine op_store1 ?_ | refine op_store2 ?_ | refine op_store3 ?_ | refine op_store4 ?_ | refine op_store5 ?_ | refine op_storeK rfl ?_ | refine op_loadK rfl ?_ | refine op_load_aggK rfl ?_ | refine tc_cond_t ?_ | refine tc_cond_f ?_ | refine tc_cond (fun _ => ?_) (fun _ => ?_) | refine tc_block ?_ | refine tc_skip ?_ | refine tc_ret ?_ | refine tc_exit ?_ | refine tc_label ?_ | refine at_seq_ret ?_ | refine at_seq_exit ?_ | refine at_block_normal ?_ | refine at_block_ret ?_ | refine at_block_exit_self ?_ | refine at_block_exit_ne ?_ | refine at_loop_ret ?_ | refine at_loop_exit ?_ | refine at_loop_goto ?_ | refine tl_guard_yes ?_ | refine tl_guard_no ?_ | refine tl_guard_yes' ?_ | refine tl_guard_no' ?_ | refine tl_guard_undef ?_ | refine tl_guard_split (fun _ => ?_) (fun _ => ?_))
    | fail
  exact ret_two (.tmp rfl) (.tmp rfl) (hk := ⟨rfl, rfl⟩)
set_option maxHeartbeats 8000000 in
theorem ldexp (x m K : Nat) (k : Int) (H : Heap) (hx : Fv x (m : Rat)) (hx0 : x < 18446744073709551616) (h1 : 4503599627370496 ≤ m) (h2 : m < 9007199254740992) (hK1 : 1 ≤ K) (hK2 : K ≤ 9007199254740991) (hk : (K : Rat) = (m : Rat) * p2 k) :
    Does Try.prog 86 [.float .f64 x, .int .i64 k] H fun w H' => (∃ r, w = .float .f64 r ∧ Fv r (K : Rat)) ∧ H' = H := by
  obtain ⟨f, rfl⟩ : ∃ f, m = 4503599627370496 + f := ⟨m - 4503599627370496, by omega⟩
  have hf : f < 4503599627370496 := by omega
  have hxw := word53 hx hx0 h1 h2
  rw [Nat.add_sub_cancel_left] at hxw
  have hmp : (0 : Rat) < ((4503599627370496 + f : Nat) : Rat) := by exact_mod_cast nat_lt_rat.2 (show 0 < 4503599627370496 + f by omega)
  have hm1 : ((4503599627370496 + f : Nat) : Rat) < p2 53 := by rw [p2_toNat (e := 53) (by decide)]; exact nat_lt_rat.2 h2
  have hm0 : p2 52 ≤ ((4503599627370496 + f : Nat) : Rat) := by rw [p2_toNat (e := 52) (by decide)]; exact nat_le_rat.2 h1
  have hKr1 : (1 : Rat) ≤ (K : Rat) := by exact_mod_cast nat_le_rat.2 hK1
  have hKr2 : (K : Rat) < p2 53 := by rw [p2_toNat (e := 53) (by decide)]; exact nat_lt_rat.2 (show K < 9007199254740992 by omega)
  have hk0 : k ≤ 0 := by
    rcases (Int.lt_or_le 0 k : 0 < k ∨ k ≤ 0) with h | h
    · exfalso
      have h3 := p2_le (show 1 ≤ k by omega)
      have h4 := mul_le_left h3 (Rat.le_of_lt hmp)
      have h5 := mul_le hm0 (Rat.le_of_lt (p2_pos 1))
      rw [p2_mul (c := 53) (by decide)] at h5
      grind
    · exact h
  have hk1 : -52 ≤ k := by
    rcases (Int.lt_or_le k (-52) : k < -52 ∨ -52 ≤ k) with h | h
    · exfalso
      have h3 := p2_le (show k ≤ -53 by omega)
      have h4 := mul_le_left h3 (Rat.le_of_lt hmp)
      have h5 := mul_lt hm1 (p2_pos (-53))
      rw [p2_mul (c := 0) (by decide), p2_zero] at h5
      grind
    · exact h
  obtain ⟨E, hE⟩ : ∃ E : Nat, (E : Int) = k + 1075 := ⟨(k + 1075).toNat, by omega⟩
  have hrd := word_read (f := f) (E := E) hf (by omega) (by omega)
  rw [show (E : Int) - 1075 = k by omega, ← hk] at hrd
  have hrb : FI 9007199254740991 (f + E * 4503599627370496) (K : Int) := ⟨by rw [Rat.intCast_natCast]; exact hrd, by omega, by omega⟩
  have one : FI 1 4607182418800017408 1 := ⟨by have := word_read (f := 0) (E := 1023) (by decide) (by decide) (by decide); rw [show ((1023 : Nat) : Int) - 1075 = -52 by decide] at this; have e : ((4503599627370496 + 0 : Nat) : Rat) = p2 52 := (p2_toNat (e := 52) (by decide)).symm; rw [e, p2_mul (c := 0) (by decide), p2_zero] at this; simpa using this, by decide, by decide⟩
  obtain ⟨mf, mr⟩ := one.mulF hrb (C := 9007199254740991) (by decide)
  have c0 : fcmp .eql x 0 = false := by
    rw [fcmp_eql hx ⟨false, 0, -1074, rfl, rfl⟩]
    refine decide_eq_false ?_
    have e : sgn false * ((0 : Nat) : Rat) * p2 (-1074) = 0 := by simp
    rw [e]; grind
  have hb1000 : rabs ((4503599627370496 + f : Nat) : Rat) ≤ p2 1000 := by
    rw [rabs_of_nonneg (Rat.le_of_lt hmp)]
    have := p2_le (show (53 : Int) ≤ 1000 by decide)
    grind
  have a1 : Int.fdiv ((x : Nat) : Int) (2 ^ min (52 : Int).toNat IntKind.u64.bits) = 1075 := by
    show Int.fdiv ((x : Nat) : Int) ((4503599627370496 : Nat) : Int) = 1075
    rw [Int.fdiv_eq_ediv_of_nonneg _ (by omega)]
    have : x / 4503599627370496 = 1075 := by omega
    omega
  have a2 : ibits .and .i64 1075 2047 = 1075 := by decide
  have a3 : IntKind.i64.wrap 1075 = 1075 := by decide
  have a4 : IntKind.i64.wrap (iarith .sub 1075 1023) = 52 := by decide
  have a0 : IntKind.i64.wrap (iarith .add k 0) = k := by rw [wrap_add (by omega) (by omega)]; omega
  have a5 : IntKind.i64.wrap (iarith .add k 52) = k + 52 := by rw [wrap_add (by omega) (by omega)]
  have a6 := ibits_mant (x := x) (by omega)
  rw [show x % 4503599627370496 = f by omega] at a6
  have a7 : IntKind.i64.wrap (iarith .add (k + 52) 1023) = (E : Int) := by rw [wrap_add (by omega) (by omega)]; omega
  have a8 : IntKind.u64.wrap (E : Int) = (E : Int) := wrap_u64 (by omega) (by omega)
  have a9 : IntKind.u64.wrap ((E : Int) * 2 ^ min (52 : Int).toNat IntKind.u64.bits) = ((E * 4503599627370496 : Nat) : Int) := by
    show IntKind.u64.wrap ((E : Int) * ((4503599627370496 : Nat) : Int)) = _
    rw [wrap_u64 (by omega) (by omega)]; omega
  have a10 := ibits_or_exp (f := f) (E := E) hf (by omega)
  have d1 : icmp .lss (k + 52) (-1075) = false := by simp only [icmp, decide_eq_false_iff_not]; omega
  have d2 : icmp .gtr (k + 52) 1023 = false := by simp only [icmp, decide_eq_false_iff_not]; omega
  have d3 : icmp .lss (k + 52) (-1022) = false := by simp only [icmp, decide_eq_false_iff_not]; omega
  have d1' := Bool.eq_false_iff.1 d1
  have d2' := Bool.eq_false_iff.1 d2
  have d3' := Bool.eq_false_iff.1 d3
  have c0' := Bool.eq_false_iff.1 c0
  clear d1 d2 d3 c0
  have hmr : ∀ r : Nat, r = fop .mul 4607182418800017408 (f + E * 4503599627370496) → Fv r (K : Rat) := fun r hr => by
    rw [hr]; have := mr.fv; rw [Int.one_mul, Rat.intCast_natCast] at this; exact this
  have hInf : ∀ G, Does Try.prog 126 [.float .f64 x, .int .i64 0] G fun w H' => w = .bool false ∧ H' = G := fun G => isInf _ _ _ hx hb1000
  have hNaN : ∀ G, Does Try.prog 118 [.float .f64 x] G fun w H' => w = .bool false ∧ H' = G := fun G => isNaN _ _ _ hx
  have hNor : ∀ G, Does Try.prog 138 [.float .f64 x] G fun w H' => w = .tuple #[.float .f64 x, .int .i64 0] ∧ H' = G := fun G => normalize _ _ _ hx (by omega)
  have inner : ∀ G : Heap, Does Try.prog 122 [.float .f64 x, .int .i64 k] G fun w H' => (∃ r, w = .float .f64 r ∧ Fv r (K : Rat)) ∧ H' = G := by
    intro G
    clear hb1000 hrd hrb mr hE hxw h1 h2 hK1 hK2 hk hk0 hk1 hKr1 hKr2 hm0 hm1
    refine fn_enter 63 Try.func122 fun W => ?_
    repeat' first
      | (refine op_fcmp ?_; rw [Bool.eq_false_iff.2 c0'])
      | (refine op_icmp ?_; first | rw [Bool.eq_false_iff.2 d1'] | rw [Bool.eq_false_iff.2 d2'] | rw [Bool.eq_false_iff.2 d3'])
      | (refine op_call ((hInf _).mono ?_); rintro _ _ ⟨rfl, rfl⟩)
      | (refine op_call ((hNaN _).mono ?_); rintro _ _ ⟨rfl, rfl⟩)
      | (refine op_call ((hNor _).mono ?_); rintro _ _ ⟨rfl, rfl⟩)
      | (refine op_call ((Flat.bits _ _).mono ?_); rintro _ _ ⟨rfl, rfl⟩)
      | (refine op_call ((frombits _ _).mono ?_); rintro _ _ ⟨rfl, rfl⟩)
      | (refine op_shr (v := 52) ?_; rw [a1])
      | (refine op_shl (v := 52) ?_; rw [a9])
      | (refine op_ibits ?_; first | rw [a2] | rw [a6] | rw [a10])
      | (refine op_itoi ?_; first | rw [a3] | rw [a8])
      | (refine op_iarith ?_; first | rw [a0] | rw [a4] | rw [a5] | rw [a7])
      | (refine op_farithF ?_)
      | (first | refine tl_defer ?_ | refine tc_seq ?_ | refine tc_region ?_ | refine at_seq_normal ?_ | refine tl_nil ?_ | refine tl_cons ?_ | refine tl_cons_none ?_ | refine op_move ?_ | refine op_assign ?_ | refine op_fieldAddr ?_ | refine op_load ?_ | refine op_load_agg ?_ | refine op_indexC ?_ | refine op_indexAddr1 ?_ | refine op_indexAddr ?_ | refine op_icmp ?_ | refine op_fcmp ?_ | refine op_iarith ?_ | refine op_bcmp ?_ | refine op_unop_not ?_ | refine op_unop_neg_float ?_ | refine op_unop_neg_int ?_ | refine op_len_slice ?_ | refine op_pick_true ?_ | refine op_pick_false ?_ | refine op_pick_true' ?_ | refine op_pick_false' ?_ | refine op_build ?_ | refine op_extract ?_ | refine op_makeInterface ?_ | refine op_typeAssert ?_ | refine op_ptr_nil ?_ | refine op_nilCheck_ptr ?_ | refine op_nilCheck_meth ?_ | refine op_makeMeth ?_ | refine op_makeFunc ?_ | refine op_itof ?_ | refine op_itoi ?_ | refine op_ftoi ?_ | refine op_iquo ?_ | refine op_irem ?_ | refine op_ibits ?_ | refine op_slice_isnil ?_ | refine op_slice_notnil ?_ | refine op_imax ?_ | refine op_imin ?_ | refine op_shl ?_ | refine op_shr ?_ | (refine op_alloc ?_; intro _) | (refine op_box ?_; intro _) | (refine op_buildSlice ?_; intro _) | (refine op_farith ?_; intro _ _) | refine op_store0 ?_ | refine op_store1 ?_ | refine op_store2 ?_ | refine op_store3 ?_ | refine op_store4 ?_ | refine op_store5 ?_ | refine op_storeK rfl ?_ | refine op_loadK rfl ?_ | refine op_load_aggK rfl ?_ | refine tc_cond_t ?_ | refine tc_cond_f ?_ | refine tc_cond (fun _ => ?_) (fun _ => ?_) | refine tc_block ?_ | refine tc_skip ?_ | refine tc_ret ?_ | refine tc_exit ?_ | refine tc_label ?_ | refine at_seq_ret ?_ | refine at_seq_exit ?_ | refine at_block_normal ?_ | refine at_block_ret ?_ | refine at_block_exit_self ?_ | refine at_block_exit_ne ?_ | refine at_loop_ret ?_ | refine at_loop_exit ?_ | refine at_loop_goto ?_ | refine tl_guard_yes ?_ | refine tl_guard_no ?_ | refine tl_guard_yes' ?_ | refine tl_guard_no' ?_ | refine tl_guard_undef ?_ | refine tl_guard_split (fun _ => ?_) (fun _ => ?_))
      | fail
    exact ret_tmp (hk := ⟨⟨_, rfl, hmr _ rfl⟩, rfl⟩)
  refine fn_enter 11 Try.func86 fun W => ?_
  repeat' first
    | refine tc_cond_f ?_ (hb := by exact rfl)
    | (refine op_call ((inner _).mono ?_); rintro _ _ ⟨⟨r, rfl, hr⟩, rfl⟩)
    | (first | refine tl_defer ?_ | refine tc_seq ?_ | refine tc_region ?_ | refine at_seq_normal ?_ | refine tl_nil ?_ | refine tl_cons ?_ | refine tl_cons_none ?_ | refine op_move ?_ | refine op_assign ?_ | refine op_fieldAddr ?_ | refine op_load ?_ | refine op_load_agg ?_ | refine op_indexC ?_ | refine op_indexAddr1 ?_ | refine op_indexAddr ?_ | refine op_icmp ?_ | refine op_fcmp ?_ | refine op_iarith ?_ | refine op_bcmp ?_ | refine op_unop_not ?_ | refine op_unop_neg_float ?_ | refine op_unop_neg_int ?_ | refine op_len_slice ?_ | refine op_pick_true ?_ | refine op_pick_false ?_ | refine op_pick_true' ?_ | refine op_pick_false' ?_ | refine op_build ?_ | refine op_extract ?_ | refine op_makeInterface ?_ | refine op_typeAssert ?_ | refine op_ptr_nil ?_ | refine op_nilCheck_ptr ?_ | refine op_nilCheck_meth ?_ | refine op_makeMeth ?_ | refine op_makeFunc ?_ | refine op_itof ?_ | refine op_itoi ?_ | refine op_ftoi ?_ | refine op_iquo ?_ | refine op_irem ?_ | refine op_ibits ?_ | refine op_slice_isnil ?_ | refine op_slice_notnil ?_ | refine op_imax ?_ | refine op_imin ?_ | refine op_shl ?_ | refine op_shr ?_ | (refine op_alloc ?_; intro _) | (refine op_box ?_; intro _) | (refine op_buildSlice ?_; intro _) | (refine op_farith ?_; intro _ _) | refine op_store0 ?_ | refine op_store1 ?_ | refine op_store2 ?_ | refine op_store3 ?_ | refine op_store4 ?_ | refine op_store5 ?_ | refine op_storeK rfl ?_ | refine op_loadK rfl ?_ | refine op_load_aggK rfl ?_ | refine tc_cond_t ?_ | refine tc_cond_f ?_ | refine tc_cond (fun _ => ?_) (fun _ => ?_) | refine tc_block ?_ | refine tc_skip ?_ | refine tc_ret ?_ | refine tc_exit ?_ | refine tc_label ?_ | refine at_seq_ret ?_ | refine at_seq_exit ?_ | refine at_block_normal ?_ | refine at_block_ret ?_ | refine at_block_exit_self ?_ | refine at_block_exit_ne ?_ | refine at_loop_ret ?_ | refine at_loop_exit ?_ | refine at_loop_goto ?_ | refine tl_guard_yes ?_ | refine tl_guard_no ?_ | refine tl_guard_yes' ?_ | refine tl_guard_no' ?_ | refine tl_guard_undef ?_ | refine tl_guard_split (fun _ => ?_) (fun _ => ?_))
    | fail
  exact ret_tmp (hk := ⟨⟨r, rfl, hr⟩, rfl⟩)
end Go.Proofs.Ytomhkbijijdghaa.Pl
