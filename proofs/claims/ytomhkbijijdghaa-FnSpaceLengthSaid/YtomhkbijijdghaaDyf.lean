/-
  Whole numbers of any size: the number of their bits, a bit of them. No conditions.
-/
import Derived.Test.YtomhkbijijdghaaDyp
import Derived.Test.YtomhkbijijdghaaLg24
set_option linter.unusedVariables false
set_option linter.unusedSimpArgs false
namespace Go.Proofs.Ytomhkbijijdghaa.Lmb
open Go.Lg

theorem pow2_pos (n : Nat) : 0 < 2 ^ n := Nat.pow_pos (by decide)
theorem lv_bit : ∀ (xs : List Nat), Lm xs → ∀ k, lv xs / 2 ^ k % 2 = xs.getD (k / 32) 0 / 2 ^ (k % 32) % 2
  | [], _, k => by simp [lv]
  | x :: xs, h, k => by
    have hx := h x List.mem_cons_self
    have h' : Lm xs := fun y hy => h y (List.mem_cons_of_mem _ hy)
    rcases Nat.lt_or_ge k 32 with hk | hk
    · rw [Nat.div_eq_of_lt hk, Nat.mod_eq_of_lt hk]
      have e : lv (x :: xs) = x + 2 ^ k * (2 ^ (32 - k) * lv xs) := by
        rw [lv, ← Nat.mul_assoc, ← Nat.pow_add, show k + (32 - k) = 32 by omega]
      rw [e, Nat.add_mul_div_left _ _ (pow2_pos k)]
      obtain ⟨d, hd⟩ : ∃ d, 32 - k = d + 1 := ⟨31 - k, by omega⟩
      rw [hd, Nat.pow_succ, Nat.mul_assoc, Nat.mul_comm (2 ^ d), Nat.mul_assoc, Nat.add_mul_mod_self_left]
      rfl
    · obtain ⟨j, rfl⟩ : ∃ j, k = j + 32 := ⟨k - 32, by omega⟩
      have ih := lv_bit xs h' j
      have e1 : lv (x :: xs) / 2 ^ (j + 32) = lv xs / 2 ^ j := by
        rw [lv, Nat.pow_add, Nat.mul_comm (2 ^ j), ← Nat.div_div_eq_div_mul, show (2 ^ 32 : Nat) = 4294967296 from rfl, Nat.add_mul_div_left _ _ (by decide), Nat.div_eq_of_lt hx, Nat.zero_add]
      rw [e1, ih, show (j + 32) / 32 = j / 32 + 1 by omega, show (j + 32) % 32 = j % 32 by omega]
      rfl
def bitAt (N : Nat) (k : Int) : Bool := decide (0 ≤ k ∧ N / 2 ^ k.toNat % 2 = 1)
theorem u32_shr {x n : Nat} (hn : n < 32) : Int.fdiv ((x : Nat) : Int) (2 ^ min ((n : Nat) : Int).toNat IntKind.u32.bits) = ((x / 2 ^ n : Nat) : Int) := by
  have e : min ((n : Nat) : Int).toNat IntKind.u32.bits = n := by show min n 32 = n; omega
  rw [e]
  have e2 : ((2 : Int) ^ n) = ((2 ^ n : Nat) : Int) := by push_cast; rfl
  rw [e2, Int.fdiv_eq_ediv_of_nonneg _ (Int.natCast_nonneg _)]; rfl
theorem u32_and1 {x : Nat} (h : x < 4294967296) : ibits .and .u32 ((x : Nat) : Int) 1 = ((x % 2 : Nat) : Int) := by
  have e1 : BitVec.ofInt IntKind.u32.bits ((x : Nat) : Int) = BitVec.ofNat 32 x := by
    show BitVec.ofInt 32 ((x : Nat) : Int) = _
    exact BitVec.ofInt_natCast 32 x
  have e2 : BitVec.ofInt IntKind.u32.bits 1 = BitVec.ofNat 32 1 := rfl
  show IntKind.u32.wrap (((BitVec.ofInt IntKind.u32.bits ((x : Nat) : Int) &&& BitVec.ofInt IntKind.u32.bits 1).toNat : Nat) : Int) = _
  rw [e1, e2]
  show IntKind.u32.wrap (((BitVec.ofNat 32 x &&& BitVec.ofNat 32 1 : BitVec 32).toNat : Nat) : Int) = _
  rw [BitVec.toNat_and, BitVec.toNat_ofNat, BitVec.toNat_ofNat, Nat.mod_eq_of_lt (by omega), Nat.mod_eq_of_lt (by decide), show (1 : Nat) = 2 ^ 1 - 1 from rfl, Nat.and_two_pow_sub_one_eq_mod, wrap_u32 (by omega)]
  omega
set_option maxHeartbeats 8000000 in
theorem wBit (neg : Bool) (xs : List Nat) (a : Option Addr) (c : Nat) (k : Int) (H : Heap) (hu : US H (.slice a xs.length c) xs) (hL : Lm xs) (hk : k < 2 ^ 40) (hl : xs.length < 2 ^ 40) :
    Does Try.prog 84 [.agg ⟨[.bool neg, .slice a xs.length c]⟩, .int .i64 k] H fun w H' => w = .bool (bitAt (lv xs) k) ∧ ∃ ex, H' = ex ++ H := by
  refine fn_enter 28 Try.func84 fun W => ?_
  by_cases h0 : 0 ≤ k
  rotate_left
  · have c1 : icmp .geq k 0 = false := by simp only [icmp, decide_eq_false_iff_not]; omega
    repeat'
      first
        | refine tl_defer ?_ | refine tc_seq ?_ | refine tc_region ?_ | refine at_seq_normal ?_ | refine tl_nil ?_ | refine tl_cons ?_ | refine tl_cons_none ?_ | refine op_move ?_
        | refine op_assign ?_ | refine op_fieldAddr ?_ | refine op_load ?_ | refine op_load_agg ?_ | refine op_indexC ?_ | refine op_indexAddr1 ?_ | refine op_indexAddr ?_ | refine op_icmp ?_
        | refine op_fcmp ?_ | refine op_iarith ?_ | refine op_bcmp ?_ | refine op_unop_not ?_ | refine op_unop_neg_float ?_ | refine op_unop_neg_int ?_ | refine op_len_slice ?_ | refine op_pick_true ?_
        | refine op_pick_false ?_ | refine op_pick_true' ?_ | refine op_pick_false' ?_ | refine op_build ?_ | refine op_extract ?_ | refine op_makeInterface ?_ | refine op_typeAssert ?_ | refine op_ptr_nil ?_
        | refine op_nilCheck_ptr ?_ | refine op_nilCheck_meth ?_ | refine op_makeMeth ?_ | refine op_makeFunc ?_ | refine op_itof ?_ | refine op_itoi ?_ | refine op_ftoi ?_ | refine op_iquo ?_
        | refine op_irem ?_ | refine op_ibits ?_ | refine op_slice_isnil ?_ | refine op_slice_notnil ?_ | refine op_imax ?_ | refine op_imin ?_ | refine op_shl ?_ | refine op_shr ?_
        | (refine op_alloc ?_; intro _) | (refine op_box ?_; intro _) | (refine op_buildSlice ?_; intro _) | (refine op_farith ?_; intro _ _) | refine op_store0 ?_ | refine op_store1 ?_ | refine op_store2 ?_ | refine op_store3 ?_
        | refine op_store4 ?_ | refine op_store5 ?_ | refine tc_cond_t ?_ | refine tc_cond_f ?_ | refine tc_cond (fun _ => ?_) (fun _ => ?_) | refine tc_block ?_ | refine tc_skip ?_ | refine tc_ret ?_
        | refine tc_exit ?_ | refine tc_label ?_ | refine at_seq_ret ?_ | refine at_seq_exit ?_ | refine at_block_normal ?_ | refine at_block_ret ?_ | refine at_block_exit_self ?_ | refine at_block_exit_ne ?_
        | refine at_loop_ret ?_ | refine at_loop_exit ?_ | refine at_loop_goto ?_ | refine tl_guard_yes ?_ | refine tl_guard_no ?_ | refine tl_guard_yes' ?_ | refine tl_guard_no' ?_ | refine tl_guard_undef ?_
        | refine tl_guard_split (fun _ => ?_) (fun _ => ?_)
    exact ret_tmp (hG := List.Sublist.refl _) (hk := ⟨congrArg Value.bool (decide_eq_false (by omega)).symm, ExC.ex⟩)
  obtain ⟨n, rfl⟩ : ∃ n : Nat, k = (n : Int) := ⟨k.toNat, by omega⟩
  have c1 : icmp .geq (n : Int) 0 = true := by simp only [icmp, decide_eq_true_eq]; omega
  have q1 : IntKind.i64.wrap (Int.tdiv (n : Int) 32) = ((n / 32 : Nat) : Int) := by
    have : Int.tdiv (n : Int) 32 = ((n / 32 : Nat) : Int) := (Int.ofNat_tdiv n 32).symm
    rw [this, wrap_in (by omega) (by omega)]
  have r1 : Int.tmod (n : Int) 32 = ((n % 32 : Nat) : Int) := (Int.ofNat_tmod n 32).symm
  have hb := lv_bit xs hL n
  by_cases hin : n / 32 < xs.length
  rotate_left
  · have c2 : icmp .lss ((n / 32 : Nat) : Int) (xs.length : Int) = false := by simp only [icmp, decide_eq_false_iff_not]; omega
    rw [List.getD_eq_getElem?_getD, List.getElem?_eq_none (by omega)] at hb
    repeat' first
      | (refine op_iquo (v := 32) ?_; rw [q1])
      | (first | refine tl_defer ?_ | refine tc_seq ?_ | refine tc_region ?_ | refine at_seq_normal ?_ | refine tl_nil ?_ | refine tl_cons ?_ | refine tl_cons_none ?_ | refine op_move ?_ | refine op_assign ?_ | refine op_fieldAddr ?_ | refine op_load ?_ | refine op_load_agg ?_ | refine op_indexC ?_ | refine op_indexAddr1 ?_ | refine op_indexAddr ?_ | refine op_icmp ?_ | refine op_fcmp ?_ | refine op_iarith ?_ | refine op_bcmp ?_ | refine op_unop_not ?_ | refine op_unop_neg_float ?_ | refine op_unop_neg_int ?_ | refine op_len_slice ?_ | refine op_pick_true ?_ | refine op_pick_false ?_ | refine op_pick_true' ?_ | refine op_pick_false' ?_ | refine op_build ?_ | refine op_extract ?_ | refine op_makeInterface ?_ | refine op_typeAssert ?_ | refine op_ptr_nil ?_ | refine op_nilCheck_ptr ?_ | refine op_nilCheck_meth ?_ | refine op_makeMeth ?_ | refine op_makeFunc ?_ | refine op_itof ?_ | refine op_itoi ?_ | refine op_ftoi ?_ | refine op_iquo ?_ | refine op_irem ?_ | refine op_ibits ?_ | refine op_slice_isnil ?_ | refine op_slice_notnil ?_ | refine op_imax ?_ | refine op_imin ?_ | refine op_shl ?_ | refine op_shr ?_ | (refine op_alloc ?_; intro _) | (refine op_box ?_; intro _) | (refine op_buildSlice ?_; intro _) | (refine op_farith ?_; intro _ _) | refine op_store0 ?_ | refine op_store1 ?_ | refine op_store2 ?_ | refine op_store3 ?_ | refine op_store4 ?_ | refine op_store5 ?_ | refine op_storeK rfl ?_ | refine op_loadK rfl ?_ | refine op_load_aggK rfl ?_ | refine tc_cond_t ?_ | refine tc_cond_f ?_ | refine tc_cond (fun _ => ?_) (fun _ => ?_) | refine tc_block ?_ | refine tc_skip ?_ | refine tc_ret ?_ | refine tc_exit ?_ | refine tc_label ?_ | refine at_seq_ret ?_ | refine at_seq_exit ?_ | refine at_block_normal ?_ | refine at_block_ret ?_ | refine at_block_exit_self ?_ | refine at_block_exit_ne ?_ | refine at_loop_ret ?_ | refine at_loop_exit ?_ | refine at_loop_goto ?_ | refine tl_guard_yes ?_ | refine tl_guard_no ?_ | refine tl_guard_yes' ?_ | refine tl_guard_no' ?_ | refine tl_guard_undef ?_ | refine tl_guard_split (fun _ => ?_) (fun _ => ?_))
      | fail
    refine ret_tmp (hG := List.Sublist.refl _) (hk := ⟨congrArg Value.bool ?_, ExC.ex⟩)
    refine (decide_eq_false ?_).symm
    rw [Int.toNat_natCast, hb]; simp
  · have c2 : icmp .lss ((n / 32 : Nat) : Int) (xs.length : Int) = true := by simp only [icmp, decide_eq_true_eq]; omega
    have hne : xs ≠ [] := by intro e; rw [e] at hin; simp at hin
    obtain ⟨kb, off, L, T, fz, rfl, hm, hall⟩ := us_block hu hne
    have hg := hall (n / 32) hin
    have hlt := getD_lt hL (n / 32)
    have hdl : xs.getD (n / 32) 0 / 2 ^ (n % 32) < 4294967296 := Nat.lt_of_le_of_lt (Nat.div_le_self _ _) hlt
    have s1 := @u32_shr (xs.getD (n / 32) 0) (n % 32) (Nat.mod_lt _ (by decide))
    have s2 := u32_and1 hdl
    have hnn : (0 : Int) ≤ ((n % 32 : Nat) : Int) := Int.natCast_nonneg _
    have hfin : icmp .eql ((xs.getD (n / 32) 0 / 2 ^ (n % 32) % 2 : Nat) : Int) 1 = bitAt (lv xs) n := by
      unfold bitAt
      rw [Int.toNat_natCast, hb]
      simp only [icmp]
      rw [Bool.eq_iff_iff]
      simp only [beq_iff_eq, decide_eq_true_eq]
      omega
    generalize xs.getD (n / 32) 0 = x at *
    repeat' first
      | (refine op_iquo (v := 32) ?_; rw [q1])
      | (refine op_irem (v := 32) ?_; rw [r1])
      | (refine op_indexAddr1 (j := n / 32) ?_ (hj := hin))
      | (refine op_load ?_ (hm := List.mem_cons_of_mem _ hm) (hv := hg))
      | (refine op_shr (v := ((n % 32 : Nat) : Int)) ?_ (hv := hnn); rw [s1])
      | (refine op_ibits ?_; rw [s2])
      | (first | refine tl_defer ?_ | refine tc_seq ?_ | refine tc_region ?_ | refine at_seq_normal ?_ | refine tl_nil ?_ | refine tl_cons ?_ | refine tl_cons_none ?_ | refine op_move ?_ | refine op_assign ?_ | refine op_fieldAddr ?_ | refine op_load ?_ | refine op_load_agg ?_ | refine op_indexC ?_ | refine op_indexAddr1 ?_ | refine op_indexAddr ?_ | refine op_icmp ?_ | refine op_fcmp ?_ | refine op_iarith ?_ | refine op_bcmp ?_ | refine op_unop_not ?_ | refine op_unop_neg_float ?_ | refine op_unop_neg_int ?_ | refine op_len_slice ?_ | refine op_pick_true ?_ | refine op_pick_false ?_ | refine op_pick_true' ?_ | refine op_pick_false' ?_ | refine op_build ?_ | refine op_extract ?_ | refine op_makeInterface ?_ | refine op_typeAssert ?_ | refine op_ptr_nil ?_ | refine op_nilCheck_ptr ?_ | refine op_nilCheck_meth ?_ | refine op_makeMeth ?_ | refine op_makeFunc ?_ | refine op_itof ?_ | refine op_itoi ?_ | refine op_ftoi ?_ | refine op_iquo ?_ | refine op_irem ?_ | refine op_ibits ?_ | refine op_slice_isnil ?_ | refine op_slice_notnil ?_ | refine op_imax ?_ | refine op_imin ?_ | refine op_shl ?_ | refine op_shr ?_ | (refine op_alloc ?_; intro _) | (refine op_box ?_; intro _) | (refine op_buildSlice ?_; intro _) | (refine op_farith ?_; intro _ _) | refine op_store0 ?_ | refine op_store1 ?_ | refine op_store2 ?_ | refine op_store3 ?_ | refine op_store4 ?_ | refine op_store5 ?_ | refine op_storeK rfl ?_ | refine op_loadK rfl ?_ | refine op_load_aggK rfl ?_ | refine tc_cond_t ?_ | refine tc_cond_f ?_ | refine tc_cond (fun _ => ?_) (fun _ => ?_) | refine tc_block ?_ | refine tc_skip ?_ | refine tc_ret ?_ | refine tc_exit ?_ | refine tc_label ?_ | refine at_seq_ret ?_ | refine at_seq_exit ?_ | refine at_block_normal ?_ | refine at_block_ret ?_ | refine at_block_exit_self ?_ | refine at_block_exit_ne ?_ | refine at_loop_ret ?_ | refine at_loop_exit ?_ | refine at_loop_goto ?_ | refine tl_guard_yes ?_ | refine tl_guard_no ?_ | refine tl_guard_yes' ?_ | refine tl_guard_no' ?_ | refine tl_guard_undef ?_ | refine tl_guard_split (fun _ => ?_) (fun _ => ?_))
      | fail
    exact ret_tmp (hG := List.Sublist.refl _) (hk := ⟨congrArg Value.bool hfin, ExC.ex⟩)

/-- The number's count of bits. -/
def TopOf (N T : Nat) : Prop := 2 ^ (T - 1) ≤ N ∧ N < 2 ^ T ∧ 1 ≤ T
theorem TopOf.uniq {N T S : Nat} (h1 : TopOf N T) (h2 : TopOf N S) : T = S := by
  obtain ⟨a, b, c⟩ := h1
  obtain ⟨d, e, f⟩ := h2
  have g1 : T - 1 < S := (Nat.pow_lt_pow_iff_right (by decide : 1 < 2)).1 (Nat.lt_of_le_of_lt a e)
  have g2 : S - 1 < T := (Nat.pow_lt_pow_iff_right (by decide : 1 < 2)).1 (Nat.lt_of_le_of_lt d b)
  omega
theorem top_of {xs : List Nat} {j : Nat} (hL : Lm xs) (hn : xs ≠ []) (h1 : 2147483648 ≤ xs.getD (xs.length - 1) 0 * 2 ^ j) (h2 : xs.getD (xs.length - 1) 0 * 2 ^ j < 4294967296) : TopOf (lv xs) (32 * xs.length - j) ∧ j < 32 := by
  have hpos : 0 < xs.length := List.length_pos_iff.2 hn
  have hl := lv_take xs (xs.length - 1)
  rw [Nat.sub_add_cancel hpos, List.take_of_length_le (Nat.le_refl _)] at hl
  have hlt := lv_lt (hL.take (xs.length - 1))
  rw [List.length_take, Nat.min_eq_left (by omega)] at hlt
  generalize xs.getD (xs.length - 1) 0 = z at *
  generalize lv (xs.take (xs.length - 1)) = p at *
  obtain ⟨m, hm⟩ : ∃ m, xs.length = m + 1 := ⟨xs.length - 1, by omega⟩
  rw [hm] at hl hlt ⊢
  rw [Nat.add_sub_cancel] at hl hlt
  have e32 : (4294967296 : Nat) ^ m = 2 ^ (32 * m) := by rw [Nat.pow_mul]
  rw [e32] at hl hlt
  have hz0 : 0 < z := by rcases Nat.eq_zero_or_pos z with h | h; (subst h; simp at h1); exact h
  have hj : j < 32 := by
    have : 2 ^ j < 2 ^ 32 := by
      have := Nat.mul_le_mul_right (2 ^ j) hz0
      simp only [Nat.reducePow]; omega
    exact (Nat.pow_lt_pow_iff_right (by decide : 1 < 2)).1 this
  refine ⟨?_, hj⟩
  have ez : 2 ^ (31 - j) ≤ z := by
    have e : 2 ^ (31 - j) * 2 ^ j = 2147483648 := by rw [← Nat.pow_add, show 31 - j + j = 31 by omega]
    exact Nat.le_of_mul_le_mul_right (by rw [e]; exact h1) (pow2_pos j)
  have ez2 : z < 2 ^ (32 - j) := by
    have e : 2 ^ (32 - j) * 2 ^ j = 4294967296 := by rw [← Nat.pow_add, show 32 - j + j = 32 by omega]
    exact Nat.lt_of_mul_lt_mul_right (by rw [e]; exact h2)
  rw [show 32 * (m + 1) - j = 32 * m + (32 - j) by omega]
  refine ⟨?_, ?_, by omega⟩
  · rw [show 32 * m + (32 - j) - 1 = 32 * m + (31 - j) by omega, Nat.pow_add]
    have := Nat.mul_le_mul_left (2 ^ (32 * m)) ez
    omega
  · rw [Nat.pow_add]
    have := Nat.mul_le_mul_left (2 ^ (32 * m)) (show z + 1 ≤ 2 ^ (32 - j) from ez2)
    rw [Nat.mul_add, Nat.mul_one] at this
    omega
set_option maxHeartbeats 8000000 in
theorem wTop (neg : Bool) (xs : List Nat) (a : Option Addr) (c : Nat) (H : Heap) (hu : US H (.slice a xs.length c) xs) (hL : Lm xs) (hN : Nrm xs) (hne : xs ≠ []) (hl : xs.length < 2 ^ 30) :
    Does Try.prog 83 [.agg ⟨[.bool neg, .slice a xs.length c]⟩] H fun w H' => (∃ T : Nat, w = .int .i64 (T : Int) ∧ TopOf (lv xs) T ∧ T ≤ 32 * xs.length) ∧ ∃ ex, H' = ex ++ H := by
  have hpos : 0 < xs.length := List.length_pos_iff.2 hne
  obtain ⟨kb, off, L, T, fz, rfl, hm, hall⟩ := us_block hu hne
  have hg := hall (xs.length - 1) (by omega)
  have hlt := getD_lt hL (xs.length - 1)
  have hz := hN hne
  have htop := @top_of xs
  have c1 : icmp .eql (xs.length : Int) 0 = false := by simp only [icmp, beq_eq_false_iff_ne]; omega
  have w1 : IntKind.i64.wrap (iarith .mul 32 (xs.length : Int)) = ((32 * xs.length : Nat) : Int) := wrap_mulN (i := 32) (by omega)
  have w2 : IntKind.i64.wrap (iarith .sub (xs.length : Int) 1) = ((xs.length - 1 : Nat) : Int) := by rw [wrap_sub (by omega) (by omega)]; omega
  generalize xs.getD (xs.length - 1) 0 = z at *
  refine fn_enter 28 Try.func83 fun W => ?_
  repeat' first
    | (refine op_iarith ?_; first | rw [w1] | rw [w2])
    | (refine op_indexAddr1 (j := xs.length - 1) ?_ (hj := by omega))
    | (refine op_load ?_ (hm := List.mem_cons_of_mem _ hm) (hv := hg))
    | (first | refine tl_defer ?_ | refine tc_seq ?_ | refine tc_region ?_ | refine at_seq_normal ?_ | refine tl_nil ?_ | refine tl_cons ?_ | refine tl_cons_none ?_ | refine op_move ?_ | refine op_assign ?_ | refine op_fieldAddr ?_ | refine op_load ?_ | refine op_load_agg ?_ | refine op_indexC ?_ | refine op_indexAddr1 ?_ | refine op_indexAddr ?_ | refine op_icmp ?_ | refine op_fcmp ?_ | refine op_iarith ?_ | refine op_bcmp ?_ | refine op_unop_not ?_ | refine op_unop_neg_float ?_ | refine op_unop_neg_int ?_ | refine op_len_slice ?_ | refine op_pick_true ?_ | refine op_pick_false ?_ | refine op_pick_true' ?_ | refine op_pick_false' ?_ | refine op_build ?_ | refine op_extract ?_ | refine op_makeInterface ?_ | refine op_typeAssert ?_ | refine op_ptr_nil ?_ | refine op_nilCheck_ptr ?_ | refine op_nilCheck_meth ?_ | refine op_makeMeth ?_ | refine op_makeFunc ?_ | refine op_itof ?_ | refine op_itoi ?_ | refine op_ftoi ?_ | refine op_iquo ?_ | refine op_irem ?_ | refine op_ibits ?_ | refine op_slice_isnil ?_ | refine op_slice_notnil ?_ | refine op_imax ?_ | refine op_imin ?_ | refine op_shl ?_ | refine op_shr ?_ | (refine op_alloc ?_; intro _) | (refine op_box ?_; intro _) | (refine op_buildSlice ?_; intro _) | (refine op_farith ?_; intro _ _) | refine op_store0 ?_ | refine op_store1 ?_ | refine op_store2 ?_ | refine op_store3 ?_ | refine op_store4 ?_ | refine op_store5 ?_ | refine op_storeK rfl ?_ | refine op_loadK rfl ?_ | refine op_load_aggK rfl ?_ | refine tc_cond_t ?_ | refine tc_cond_f ?_ | refine tc_cond (fun _ => ?_) (fun _ => ?_) | refine tc_block ?_ | refine tc_skip ?_ | refine tc_ret ?_ | refine tc_exit ?_ | refine tc_label ?_ | refine at_seq_ret ?_ | refine at_seq_exit ?_ | refine at_block_normal ?_ | refine at_block_ret ?_ | refine at_block_exit_self ?_ | refine at_block_exit_ne ?_ | refine at_loop_ret ?_ | refine at_loop_exit ?_ | refine at_loop_goto ?_ | refine tl_guard_yes ?_ | refine tl_guard_no ?_ | refine tl_guard_yes' ?_ | refine tl_guard_no' ?_ | refine tl_guard_undef ?_ | refine tl_guard_split (fun _ => ?_) (fun _ => ?_))
    | fail
  refine tc_loopH [(2, _)] (by repeat (first | exact trivial | refine ⟨rfl, ?_⟩)) (fun j : Nat => [(3, .int .i64 ((32 * xs.length - j : Nat) : Int)), (4, .int .u32 ((z * 2 ^ j : Nat) : Int))]) (fun j => z * 2 ^ j < 4294967296) (fun j => 32 - j) 0 (by rw [Nat.pow_zero, Nat.mul_one]; exact hlt) ⟨rfl, (by rw [Nat.pow_zero, Nat.mul_one]; rfl), trivial⟩ ?_
  intro j hj
  by_cases hs : z * 2 ^ j < 2147483648
  · have hb : icmp .lss ((z * 2 ^ j : Nat) : Int) 2147483648 = true := by simp only [icmp, decide_eq_true_eq]; omega
    have hj31 : j < 31 := by
      have h1 : 2 ^ j < 2 ^ 31 := by
        have := Nat.mul_le_mul_right (2 ^ j) (show 1 ≤ z by omega)
        simp only [Nat.reducePow]; omega
      exact (Nat.pow_lt_pow_iff_right (by decide : 1 < 2)).1 h1
    have w3 : IntKind.i64.wrap (iarith .sub ((32 * xs.length - j : Nat) : Int) 1) = ((32 * xs.length - (j + 1) : Nat) : Int) := by rw [wrap_sub (by omega) (by omega)]; omega
    have w4 : IntKind.u32.wrap (((z * 2 ^ j : Nat) : Int) * 2 ^ min (1 : Int).toNat IntKind.u32.bits) = ((z * 2 ^ (j + 1) : Nat) : Int) := by
      have e : z * 2 ^ (j + 1) = z * 2 ^ j * 2 := by rw [Nat.pow_succ, Nat.mul_assoc]
      rw [e, wrap_u32 (Int.mul_nonneg (Int.natCast_nonneg _) (by decide))]
      show ((z * 2 ^ j : Nat) : Int) * 2 ^ 1 % 4294967296 = _
      omega
    have hn : z * 2 ^ (j + 1) < 4294967296 := by rw [Nat.pow_succ, ← Nat.mul_assoc]; omega
    repeat' first
      | (refine op_icmp ?_; rw [hb]; clear hb)
      | (refine op_iarith ?_; first | rw [w3])
      | (refine op_shl (v := 1) ?_; rw [w4])
      | (first | refine tl_defer ?_ | refine tc_seq ?_ | refine tc_region ?_ | refine at_seq_normal ?_ | refine tl_nil ?_ | refine tl_cons ?_ | refine tl_cons_none ?_ | refine op_move ?_ | refine op_assign ?_ | refine op_fieldAddr ?_ | refine op_load ?_ | refine op_load_agg ?_ | refine op_indexC ?_ | refine op_indexAddr1 ?_ | refine op_indexAddr ?_ | refine op_icmp ?_ | refine op_fcmp ?_ | refine op_iarith ?_ | refine op_bcmp ?_ | refine op_unop_not ?_ | refine op_unop_neg_float ?_ | refine op_unop_neg_int ?_ | refine op_len_slice ?_ | refine op_pick_true ?_ | refine op_pick_false ?_ | refine op_pick_true' ?_ | refine op_pick_false' ?_ | refine op_build ?_ | refine op_extract ?_ | refine op_makeInterface ?_ | refine op_typeAssert ?_ | refine op_ptr_nil ?_ | refine op_nilCheck_ptr ?_ | refine op_nilCheck_meth ?_ | refine op_makeMeth ?_ | refine op_makeFunc ?_ | refine op_itof ?_ | refine op_itoi ?_ | refine op_ftoi ?_ | refine op_iquo ?_ | refine op_irem ?_ | refine op_ibits ?_ | refine op_slice_isnil ?_ | refine op_slice_notnil ?_ | refine op_imax ?_ | refine op_imin ?_ | refine op_shl ?_ | refine op_shr ?_ | (refine op_alloc ?_; intro _) | (refine op_box ?_; intro _) | (refine op_buildSlice ?_; intro _) | (refine op_farith ?_; intro _ _) | refine op_store0 ?_ | refine op_store1 ?_ | refine op_store2 ?_ | refine op_store3 ?_ | refine op_store4 ?_ | refine op_store5 ?_ | refine op_storeK rfl ?_ | refine op_loadK rfl ?_ | refine op_load_aggK rfl ?_ | refine tc_cond_t ?_ | refine tc_cond_f ?_ | refine tc_cond (fun _ => ?_) (fun _ => ?_) | refine tc_block ?_ | refine tc_skip ?_ | refine tc_ret ?_ | refine tc_exit ?_ | refine tc_label ?_ | refine at_seq_ret ?_ | refine at_seq_exit ?_ | refine at_block_normal ?_ | refine at_block_ret ?_ | refine at_block_exit_self ?_ | refine at_block_exit_ne ?_ | refine at_loop_ret ?_ | refine at_loop_exit ?_ | refine at_loop_goto ?_ | refine tl_guard_yes ?_ | refine tl_guard_no ?_ | refine tl_guard_yes' ?_ | refine tl_guard_no' ?_ | refine tl_guard_undef ?_ | refine tl_guard_split (fun _ => ?_) (fun _ => ?_))
      | fail
    exact at_loopK (j + 1) hn (by omega) ⟨rfl, rfl, trivial⟩ (by repeat (first | exact trivial | refine ⟨rfl, ?_⟩)) (List.Sublist.refl _)
  · have hb : icmp .lss ((z * 2 ^ j : Nat) : Int) 2147483648 = false := by simp only [icmp, decide_eq_false_iff_not]; omega
    obtain ⟨t1, t2⟩ := htop hL hne (by omega) hj
    generalize z * 2 ^ j = y at *
    repeat' first
      | (refine op_icmp ?_; rw [hb]; clear hb)
      | (first | refine tl_defer ?_ | refine tc_seq ?_ | refine tc_region ?_ | refine at_seq_normal ?_ | refine tl_nil ?_ | refine tl_cons ?_ | refine tl_cons_none ?_ | refine op_move ?_ | refine op_assign ?_ | refine op_fieldAddr ?_ | refine op_load ?_ | refine op_load_agg ?_ | refine op_indexC ?_ | refine op_indexAddr1 ?_ | refine op_indexAddr ?_ | refine op_icmp ?_ | refine op_fcmp ?_ | refine op_iarith ?_ | refine op_bcmp ?_ | refine op_unop_not ?_ | refine op_unop_neg_float ?_ | refine op_unop_neg_int ?_ | refine op_len_slice ?_ | refine op_pick_true ?_ | refine op_pick_false ?_ | refine op_pick_true' ?_ | refine op_pick_false' ?_ | refine op_build ?_ | refine op_extract ?_ | refine op_makeInterface ?_ | refine op_typeAssert ?_ | refine op_ptr_nil ?_ | refine op_nilCheck_ptr ?_ | refine op_nilCheck_meth ?_ | refine op_makeMeth ?_ | refine op_makeFunc ?_ | refine op_itof ?_ | refine op_itoi ?_ | refine op_ftoi ?_ | refine op_iquo ?_ | refine op_irem ?_ | refine op_ibits ?_ | refine op_slice_isnil ?_ | refine op_slice_notnil ?_ | refine op_imax ?_ | refine op_imin ?_ | refine op_shl ?_ | refine op_shr ?_ | (refine op_alloc ?_; intro _) | (refine op_box ?_; intro _) | (refine op_buildSlice ?_; intro _) | (refine op_farith ?_; intro _ _) | refine op_store0 ?_ | refine op_store1 ?_ | refine op_store2 ?_ | refine op_store3 ?_ | refine op_store4 ?_ | refine op_store5 ?_ | refine op_storeK rfl ?_ | refine op_loadK rfl ?_ | refine op_load_aggK rfl ?_ | refine tc_cond_t ?_ | refine tc_cond_f ?_ | refine tc_cond (fun _ => ?_) (fun _ => ?_) | refine tc_block ?_ | refine tc_skip ?_ | refine tc_ret ?_ | refine tc_exit ?_ | refine tc_label ?_ | refine at_seq_ret ?_ | refine at_seq_exit ?_ | refine at_block_normal ?_ | refine at_block_ret ?_ | refine at_block_exit_self ?_ | refine at_block_exit_ne ?_ | refine at_loop_ret ?_ | refine at_loop_exit ?_ | refine at_loop_goto ?_ | refine tl_guard_yes ?_ | refine tl_guard_no ?_ | refine tl_guard_yes' ?_ | refine tl_guard_no' ?_ | refine tl_guard_undef ?_ | refine tl_guard_split (fun _ => ?_) (fun _ => ?_))
      | fail
    exact ret_tmp (hG := List.Sublist.refl _) (hk := ⟨⟨_, rfl, t1, by omega⟩, ExC.ex⟩)
end Go.Proofs.Ytomhkbijijdghaa.Lmb
