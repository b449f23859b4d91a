/-
  Whole numbers of 64 bits, and floats, as dyadic numbers. No conditions.
-/
import Derived.Test.YtomhkbijijdghaaDyb
import Derived.Test.YtomhkbijijdghaaFlat
import Derived.Test.YtomhkbijijdghaaFl4
set_option linter.unusedVariables false
set_option linter.unusedSimpArgs false
namespace Go.Proofs.Ytomhkbijijdghaa.Lmb
open Go.Lg

set_option maxHeartbeats 8000000 in
theorem wholeOf (n : Int) (H : Heap) (h0 : -4611686018427387904 < n) (h1 : n < 4611686018427387904) : Does Try.prog 98 [.int .i64 n] H fun w H' => ∃ ex, H' = ex ++ H ∧ IsW n 2 w H' := by
  obtain ⟨m, hm⟩ : ∃ m : Nat, m = n.natAbs := ⟨_, rfl⟩
  have e5 : IntKind.u32.wrap ((m : Nat) : Int) = ((m % 4294967296 : Nat) : Int) := by rw [wrap_u32 (by omega)]; omega
  have e6 : Int.fdiv ((m : Nat) : Int) (2 ^ min (32 : Int).toNat IntKind.u64.bits) = ((m / 4294967296 : Nat) : Int) := by
    show Int.fdiv ((m : Nat) : Int) ((4294967296 : Nat) : Int) = _
    rw [Int.fdiv_eq_ediv_of_nonneg _ (by omega)]; rfl
  have e7 : IntKind.u32.wrap ((m / 4294967296 : Nat) : Int) = ((m / 4294967296 : Nat) : Int) := by rw [wrap_u32 (by omega)]; omega
  have hlm : Lm [m % 4294967296, m / 4294967296] := fun x hx => by
    simp only [List.mem_cons, List.not_mem_nil, or_false] at hx
    rcases hx with rfl | rfl <;> omega
  have hlv : lv [m % 4294967296, m / 4294967296] = m := by simp only [lv, Nat.mul_zero, Nat.add_zero]; omega
  have htr : ∀ (kn : Nat) (G : Heap) T fz, (kn, Obj.cells ⟨[.int .u32 ((m % 4294967296 : Nat) : Int), .int .u32 ((m / 4294967296 : Nat) : Int)]⟩ T fz) ∈ G → Does Try.prog 127 [.slice (some ⟨kn, 0, none⟩) 2 2] G
      fun w H' => ∃ q, w = .slice (some ⟨kn, 0, none⟩) q 2 ∧ H' = G ∧ q ≤ 2 ∧ Nrm ([m % 4294967296, m / 4294967296].take q) ∧ lv ([m % 4294967296, m / 4294967296].take q) = m := by
    intro kn G T fz hG
    have := trim (some ⟨kn, 0, none⟩) 2 [m % 4294967296, m / 4294967296] G (us_mem hG) (by simp only [List.length_cons, List.length_nil]; omega)
    rw [hlv] at this
    exact this
  refine fn_enter 20 Try.func98 fun W => ?_
  by_cases hn : n < 0
  · have hc : icmp .lss n 0 = true := by simp only [icmp, decide_eq_true_eq]; omega
    have e1 : IntKind.u64.wrap n = ((18446744073709551616 - m : Nat) : Int) := by
      simp only [IntKind.wrap, IntKind.bits, IntKind.signed]; simp; omega
    have e2 : IntKind.u64.wrap (0 - ((18446744073709551616 - m : Nat) : Int)) = ((m : Nat) : Int) := by
      simp only [IntKind.wrap, IntKind.bits, IntKind.signed]; simp; omega
    repeat' first
      | (rw [e1])
      | (rw [e2])
      | (rw [e5])
      | (rw [e6])
      | (rw [e7])
      | refine op_itoi ?_
      | refine op_shr (v := 32) ?_
      | (refine op_buildSlice (fun kn => ?_))
      | (refine op_call ((htr _ _ _ _ List.mem_cons_self).mono ?_); rintro _ _ ⟨q, rfl, rfl, hq, hnr, hl⟩)
      | refine op_build ?_
      | (first | refine tl_defer ?_ | refine tc_seq ?_ | refine tc_region ?_ | refine at_seq_normal ?_ | refine tl_nil ?_ | refine tl_cons ?_ | refine tl_cons_none ?_ | refine op_move ?_ | refine op_assign ?_ | refine op_fieldAddr ?_ | refine op_load ?_ | refine op_load_agg ?_ | refine op_indexC ?_ | refine op_indexAddr1 ?_ | refine op_indexAddr ?_ | refine op_icmp ?_ | refine op_fcmp ?_ | refine op_iarith ?_ | refine op_bcmp ?_ | refine op_unop_not ?_ | refine op_unop_neg_float ?_ | refine op_unop_neg_int ?_ | refine op_len_slice ?_ | refine op_pick_true ?_ | refine op_pick_false ?_ | refine op_pick_true' ?_ | refine op_pick_false' ?_ | refine op_build ?_ | refine op_extract ?_ | refine op_makeInterface ?_ | refine op_typeAssert ?_ | refine op_ptr_nil ?_ | refine op_nilCheck_ptr ?_ | refine op_nilCheck_meth ?_ | refine op_makeMeth ?_ | refine op_makeFunc ?_ | refine op_itof ?_ | refine op_itoi ?_ | refine op_ftoi ?_ | refine op_iquo ?_ | refine op_irem ?_ | refine op_ibits ?_ | refine op_slice_isnil ?_ | refine op_slice_notnil ?_ | refine op_imax ?_ | refine op_imin ?_ | refine op_shl ?_ | refine op_shr ?_ | (refine op_alloc ?_; intro _) | (refine op_box ?_; intro _) | (refine op_buildSlice ?_; intro _) | (refine op_farith ?_; intro _ _) | refine op_store0 ?_ | refine op_store1 ?_ | refine op_store2 ?_ | refine op_store3 ?_ | refine op_store4 ?_ | refine op_store5 ?_ | refine op_storeK rfl ?_ | refine op_loadK rfl ?_ | refine op_load_aggK rfl ?_ | refine tc_cond_t ?_ | refine tc_cond_f ?_ | refine tc_cond (fun _ => ?_) (fun _ => ?_) | refine tc_block ?_ | refine tc_skip ?_ | refine tc_ret ?_ | refine tc_exit ?_ | refine tc_label ?_ | refine at_seq_ret ?_ | refine at_seq_exit ?_ | refine at_block_normal ?_ | refine at_block_ret ?_ | refine at_block_exit_self ?_ | refine at_block_exit_ne ?_ | refine at_loop_ret ?_ | refine at_loop_exit ?_ | refine at_loop_goto ?_ | refine tl_guard_yes ?_ | refine tl_guard_no ?_ | refine tl_guard_yes' ?_ | refine tl_guard_no' ?_ | refine tl_guard_undef ?_ | refine tl_guard_split (fun _ => ?_) (fun _ => ?_))
      | fail
    rename_i k2
    have hlen : ([m % 4294967296, m / 4294967296].take q).length = q := by rw [List.length_take]; exact Nat.min_eq_left hq
    refine ret_one (.agg (T := 66) (k := k2) (off := 0) (m := [.bool (icmp .lss n 0), .slice (some ⟨kn, 0, none⟩) q 2]) rfl rfl mem1 rfl rfl) (hG := List.Sublist.refl _) (hk := ⟨[_, _], rfl, icmp .lss n 0, [m % 4294967296, m / 4294967296].take q, some ⟨kn, 0, none⟩, 2, ?_, ?_, hlm.take q, hnr, ?_, (fun _ => by rw [hl]; omega), by rw [hlen]; exact hq⟩)
    · rw [hlen]
    · rw [hlen]; exact US.take (n := 2) (zs := [m % 4294967296, m / 4294967296]) (us_mem (k := kn) (zs := [m % 4294967296, m / 4294967296]) (T := 189) (fz := (0, 0)) (by simp [uv])) hq
    · rw [hc, nval, if_pos rfl, hl]; omega
  · have hc : icmp .lss n 0 = false := by simp only [icmp, decide_eq_false_iff_not]; omega
    have e1 : IntKind.u64.wrap n = ((m : Nat) : Int) := by rw [wrap_u64 (by omega) (by omega)]; omega
    repeat' first
      | (rw [e1])
      | (rw [e5])
      | (rw [e6])
      | (rw [e7])
      | refine op_itoi ?_
      | refine op_shr (v := 32) ?_
      | (refine op_buildSlice (fun kn => ?_))
      | (refine op_call ((htr _ _ _ _ List.mem_cons_self).mono ?_); rintro _ _ ⟨q, rfl, rfl, hq, hnr, hl⟩)
      | refine op_build ?_
      | (first | refine tl_defer ?_ | refine tc_seq ?_ | refine tc_region ?_ | refine at_seq_normal ?_ | refine tl_nil ?_ | refine tl_cons ?_ | refine tl_cons_none ?_ | refine op_move ?_ | refine op_assign ?_ | refine op_fieldAddr ?_ | refine op_load ?_ | refine op_load_agg ?_ | refine op_indexC ?_ | refine op_indexAddr1 ?_ | refine op_indexAddr ?_ | refine op_icmp ?_ | refine op_fcmp ?_ | refine op_iarith ?_ | refine op_bcmp ?_ | refine op_unop_not ?_ | refine op_unop_neg_float ?_ | refine op_unop_neg_int ?_ | refine op_len_slice ?_ | refine op_pick_true ?_ | refine op_pick_false ?_ | refine op_pick_true' ?_ | refine op_pick_false' ?_ | refine op_build ?_ | refine op_extract ?_ | refine op_makeInterface ?_ | refine op_typeAssert ?_ | refine op_ptr_nil ?_ | refine op_nilCheck_ptr ?_ | refine op_nilCheck_meth ?_ | refine op_makeMeth ?_ | refine op_makeFunc ?_ | refine op_itof ?_ | refine op_itoi ?_ | refine op_ftoi ?_ | refine op_iquo ?_ | refine op_irem ?_ | refine op_ibits ?_ | refine op_slice_isnil ?_ | refine op_slice_notnil ?_ | refine op_imax ?_ | refine op_imin ?_ | refine op_shl ?_ | refine op_shr ?_ | (refine op_alloc ?_; intro _) | (refine op_box ?_; intro _) | (refine op_buildSlice ?_; intro _) | (refine op_farith ?_; intro _ _) | refine op_store0 ?_ | refine op_store1 ?_ | refine op_store2 ?_ | refine op_store3 ?_ | refine op_store4 ?_ | refine op_store5 ?_ | refine op_storeK rfl ?_ | refine op_loadK rfl ?_ | refine op_load_aggK rfl ?_ | refine tc_cond_t ?_ | refine tc_cond_f ?_ | refine tc_cond (fun _ => ?_) (fun _ => ?_) | refine tc_block ?_ | refine tc_skip ?_ | refine tc_ret ?_ | refine tc_exit ?_ | refine tc_label ?_ | refine at_seq_ret ?_ | refine at_seq_exit ?_ | refine at_block_normal ?_ | refine at_block_ret ?_ | refine at_block_exit_self ?_ | refine at_block_exit_ne ?_ | refine at_loop_ret ?_ | refine at_loop_exit ?_ | refine at_loop_goto ?_ | refine tl_guard_yes ?_ | refine tl_guard_no ?_ | refine tl_guard_yes' ?_ | refine tl_guard_no' ?_ | refine tl_guard_undef ?_ | refine tl_guard_split (fun _ => ?_) (fun _ => ?_))
      | fail
    rename_i k2
    have hlen : ([m % 4294967296, m / 4294967296].take q).length = q := by rw [List.length_take]; exact Nat.min_eq_left hq
    refine ret_one (.agg (T := 66) (k := k2) (off := 0) (m := [.bool (icmp .lss n 0), .slice (some ⟨kn, 0, none⟩) q 2]) rfl rfl mem1 rfl rfl) (hG := List.Sublist.refl _) (hk := ⟨[_, _], rfl, icmp .lss n 0, [m % 4294967296, m / 4294967296].take q, some ⟨kn, 0, none⟩, 2, ?_, ?_, hlm.take q, hnr, ?_, (fun hb => by rw [hc] at hb; cases hb), by rw [hlen]; exact hq⟩)
    · rw [hlen]
    · rw [hlen]; exact US.take (n := 2) (zs := [m % 4294967296, m / 4294967296]) (us_mem (k := kn) (zs := [m % 4294967296, m / 4294967296]) (T := 189) (fz := (0, 0)) (by simp [uv])) hq
    · rw [hc, nval, if_neg (by decide), hl]; omega

theorem ibits_and {a p : Nat} (hp : p < 64) (ha : a < 18446744073709551616) : ibits .and .u64 ((a : Nat) : Int) ((2 ^ p - 1 : Nat) : Int) = ((a % 2 ^ p : Nat) : Int) := by
  have hpp : 2 ^ p - 1 < 18446744073709551616 := by
    have : 2 ^ p ≤ 2 ^ 63 := Nat.pow_le_pow_right (by decide) (by omega)
    omega
  show IntKind.u64.wrap (((BitVec.ofInt 64 ((a : Nat) : Int) &&& BitVec.ofInt 64 ((2 ^ p - 1 : Nat) : Int) : BitVec 64).toNat : Nat) : Int) = _
  rw [BitVec.ofInt_natCast, BitVec.ofInt_natCast, BitVec.toNat_and, BitVec.toNat_ofNat, BitVec.toNat_ofNat, Nat.mod_eq_of_lt (by omega), Nat.mod_eq_of_lt (by omega), Nat.and_two_pow_sub_one_eq_mod]
  have := Nat.mod_le a (2 ^ p)
  exact wrap_u64 (by omega) (by omega)

/-- What a float's word stands for. -/
theorem word_val {x : Nat} {q : Rat} (h : Fv x q) (hx : x < 18446744073709551616) : x / 4503599627370496 % 2048 ≠ 2047 ∧
    q = ((((if x / 9223372036854775808 = 1 then -1 else 1) * ((if x / 4503599627370496 % 2048 = 0 then x % 4503599627370496 else 4503599627370496 + x % 4503599627370496 : Nat) : Int) : Int)) : Rat) * p2 ((if x / 4503599627370496 % 2048 = 0 then 1 else ((x / 4503599627370496 % 2048 : Nat) : Int)) - 1075) := by
  obtain ⟨s, m, e, hr, hq⟩ := h
  have hread : Ieee.double.read x = (if x % 9223372036854775808 < 4503599627370496 then
      Ieee.Datum.number (x / 9223372036854775808 % 2 == 1) (x % 9223372036854775808) (-1074)
    else if x % 9223372036854775808 < 9218868437227405312 then
      Ieee.Datum.number (x / 9223372036854775808 % 2 == 1) (4503599627370496 + x % 9223372036854775808 % 4503599627370496) (-1074 + ((x % 9223372036854775808 / 4503599627370496 - 1 : Nat) : Int))
    else if x % 9223372036854775808 = 9218868437227405312 then Ieee.Datum.infinity (x / 9223372036854775808 % 2 == 1)
    else Ieee.Datum.nan (x / 9223372036854775808 % 2 == 1) (x % 9223372036854775808 - 9218868437227405312)) := rfl
  rw [hread] at hr
  have hs2 : ∀ b : Bool, (x / 9223372036854775808 % 2 == 1) = b → sgn b = (((if x / 9223372036854775808 = 1 then -1 else 1 : Int)) : Rat) := by
    intro b hb
    by_cases h1 : x / 9223372036854775808 = 1
    · rw [if_pos h1]; rw [h1] at hb; subst hb; unfold sgn; simp
    · have h0 : x / 9223372036854775808 = 0 := by omega
      rw [if_neg h1]; rw [h0] at hb; subst hb; unfold sgn; simp
  by_cases c1 : x % 9223372036854775808 < 4503599627370496
  · rw [if_pos c1] at hr; cases hr
    have h0 : x / 4503599627370496 % 2048 = 0 := by omega
    refine ⟨by omega, ?_⟩
    rw [if_pos h0, if_pos h0, hq, hs2 _ rfl, Rat.intCast_mul, Rat.intCast_natCast, show x % 9223372036854775808 = x % 4503599627370496 by omega]
    rfl
  · rw [if_neg c1] at hr
    by_cases c2 : x % 9223372036854775808 < 9218868437227405312
    · rw [if_pos c2] at hr; cases hr
      have h0 : x / 4503599627370496 % 2048 ≠ 0 := by omega
      refine ⟨by omega, ?_⟩
      rw [if_neg h0, if_neg h0, hq, hs2 _ rfl, Rat.intCast_mul, Rat.intCast_natCast, show x % 9223372036854775808 % 4503599627370496 = x % 4503599627370496 by omega,
        show (-1074 + ((x % 9223372036854775808 / 4503599627370496 - 1 : Nat) : Int)) = ((x / 4503599627370496 % 2048 : Nat) : Int) - 1075 by omega]
    · rw [if_neg c2] at hr
      by_cases c3 : x % 9223372036854775808 = 9218868437227405312
      · rw [if_pos c3] at hr; cases hr
      · rw [if_neg c3] at hr; cases hr
end Go.Proofs.Ytomhkbijijdghaa.Lmb
