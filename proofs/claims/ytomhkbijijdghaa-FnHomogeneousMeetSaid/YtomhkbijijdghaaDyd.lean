/-
  Floats as dyadic numbers. No conditions.
-/
import Derived.Test.YtomhkbijijdghaaDyc
set_option linter.unusedVariables false
set_option linter.unusedSimpArgs false
namespace Go.Proofs.Ytomhkbijijdghaa.Lmb
open Go.Lg

theorem neg_wrap {t : Nat} (h : t ≤ 9007199254740992) : IntKind.i64.wrap (0 - ((t : Nat) : Int)) = -((t : Nat) : Int) := by
  have : (0 : Int) - ((t : Nat) : Int) = -((t : Nat) : Int) := Int.zero_sub _
  rw [this]
  exact wrap_in (by omega) (by omega)
/-- What the word's parts are, as the code takes them out. -/
structure DyF (x mm ee ss : Nat) : Prop where
  e1 : ibits .and .u64 ((x : Nat) : Int) 4503599627370495 = ((mm : Nat) : Int)
  e2 : IntKind.i64.wrap ((mm : Nat) : Int) = ((mm : Nat) : Int)
  e3 : Int.fdiv ((x : Nat) : Int) (2 ^ min (52 : Int).toNat IntKind.u64.bits) = ((x / 4503599627370496 : Nat) : Int)
  e4 : ibits .and .u64 ((x / 4503599627370496 : Nat) : Int) 2047 = ((ee : Nat) : Int)
  e5 : IntKind.i64.wrap ((ee : Nat) : Int) = ((ee : Nat) : Int)
  e6 : Int.fdiv ((x : Nat) : Int) (2 ^ min (63 : Int).toNat IntKind.u64.bits) = ((ss : Nat) : Int)
theorem dyF (x : Nat) (hx : x < 18446744073709551616) : DyF x (x % 4503599627370496) (x / 4503599627370496 % 2048) (x / 9223372036854775808) where
  e1 := ibits_and (p := 52) (by decide) hx
  e2 := wrap_in (by omega) (by omega)
  e3 := by
    show Int.fdiv ((x : Nat) : Int) ((4503599627370496 : Nat) : Int) = _
    rw [Int.fdiv_eq_ediv_of_nonneg _ (by omega)]; rfl
  e4 := ibits_and (p := 11) (by decide) (by omega)
  e5 := wrap_in (by omega) (by omega)
  e6 := by
    show Int.fdiv ((x : Nat) : Int) ((9223372036854775808 : Nat) : Int) = _
    rw [Int.fdiv_eq_ediv_of_nonneg _ (by omega)]; rfl
theorem dyAdd {mm : Nat} (h : mm < 4503599627370496) : IntKind.i64.wrap (iarith .add ((mm : Nat) : Int) 4503599627370496) = ((4503599627370496 + mm : Nat) : Int) := by rw [wrap_add (by omega) (by omega)]; omega
theorem dyE1 : IntKind.i64.wrap (iarith .sub 1 1075) = (-1074 : Int) := by rw [wrap_sub (by omega) (by omega)]; rfl
theorem dyE2 {ee : Nat} (h : ee < 2048) : IntKind.i64.wrap (iarith .sub ((ee : Nat) : Int) 1075) = ((ee : Nat) : Int) - 1075 := wrap_sub (by omega) (by omega)
theorem eqlF {a : Nat} {b : Int} (h : (a : Int) ≠ b) : icmp .eql ((a : Nat) : Int) b = false := by simp only [icmp, beq_eq_false_iff_ne]; exact h
theorem eqlT {a : Nat} {b : Int} (h : (a : Int) = b) : icmp .eql ((a : Nat) : Int) b = true := by simp only [icmp, beq_iff_eq]; exact h
set_option maxHeartbeats 16000000 in
theorem dyWalk00 (x mm ee ss : Nat) (H : Heap) (F : DyF x mm ee ss) (bm : mm < 4503599627370496) (be : ee < 2048) (c1 : icmp .eql ((ee : Nat) : Int) 2047 = false) (c2 : icmp .eql ((ee : Nat) : Int) 0 = true) (c3 : icmp .eql ((ss : Nat) : Int) 1 = true) :
    Does Try.prog 102 [.float .f64 x] H fun w H' => ∃ ex, H' = ex ++ H ∧ IsD (-((mm : Nat) : Int)) (-1074) 2 w H' := by
  have a1 := F.e1
  have a2 := F.e2
  have a3 := F.e3
  have a4 := F.e4
  have a5 := F.e5
  have a6 := F.e6
  have a8 := dyAdd bm
  have a9 := neg_wrap (t := mm) (by clear F a1 a2 a3 a4 a5 a6 a8; omega)
  have a10 := dyE1
  have w1 : -4611686018427387904 < -((mm : Nat) : Int) := by clear a1 a2 a3 a4 a5 a6 a8 a9 a10 c1 c2 c3 F; omega
  have w2 : -((mm : Nat) : Int) < 4611686018427387904 := by clear a1 a2 a3 a4 a5 a6 a8 a9 a10 c1 c2 c3 F; omega
  refine fn_enter 33 Try.func102 fun W => ?_
  repeat' first
    | (rw [a1])
    | (rw [a2])
    | (rw [a3])
    | (rw [a4])
    | (rw [a5])
    | (rw [a6])
    | (rw [a8])
    | (rw [a9])
    | (rw [a10])
    | (rw [c1])
    | (rw [c2])
    | (rw [c3])
    | refine tc_cond_true ?_
    | refine tc_cond_false ?_
    | refine op_itoi ?_
    | refine op_shr (v := 52) ?_
    | refine op_shr (v := 63) ?_
    | refine op_ibits ?_
    | (refine op_call ((Go.Proofs.Ytomhkbijijdghaa.Flat.bits _ _).mono ?_); rintro _ _ ⟨rfl, rfl⟩)
    | (refine op_call ((wholeOf (-((mm : Nat) : Int)) _ w1 w2).mono ?_); rintro _ _ ⟨ex, rfl, nz, zr, ar, cr, rfl, hw⟩)
    | refine tc_seq ?_
    | refine tc_region ?_
    | refine tc_block ?_
    | refine tc_skip ?_
    | refine tc_exit ?_
    | refine tc_ret ?_
    | refine at_seq_normal ?_
    | refine at_seq_exit ?_
    | refine at_seq_ret ?_
    | refine at_block_normal ?_
    | refine at_block_ret ?_
    | refine at_block_exit_self ?_
    | refine at_block_exit_ne ?_
    | refine tl_nil ?_
    | refine tl_cons ?_
    | refine tl_cons_none ?_
    | refine op_move ?_
    | refine op_assign ?_
    | refine op_alloc (fun k2 => ?_)
    | refine op_icmp ?_
    | refine op_iarith ?_
    | refine op_unop_neg_int ?_
    | refine op_build ?_
    | refine op_store0 ?_
    | refine op_store1 ?_
    | fail
  refine op_perm (mid2 [] _ (k2, _) _).symm ?_
  refine op_store0 ?_
  repeat' first | refine tl_nil ?_ | refine at_seq_normal ?_ | refine tc_ret ?_
  refine ret_one (.agg (T := 68) (k := k2) (off := 0) (m := [.bool nz, .slice ar zr.length cr, .int .i64 (-1074)]) rfl rfl mem0 rfl rfl) (hG := List.Sublist.refl _) (hk := ⟨_ :: ex, rfl, ?_⟩)
  exact IsD.skip ⟨nz, ar, zr.length, cr, rfl, nz, zr, ar, cr, rfl, hw⟩ (mid2_mem (e2 := []) noU3)
set_option maxHeartbeats 16000000 in
theorem dyWalk01 (x mm ee ss : Nat) (H : Heap) (F : DyF x mm ee ss) (bm : mm < 4503599627370496) (be : ee < 2048) (c1 : icmp .eql ((ee : Nat) : Int) 2047 = false) (c2 : icmp .eql ((ee : Nat) : Int) 0 = true) (c3 : icmp .eql ((ss : Nat) : Int) 1 = false) :
    Does Try.prog 102 [.float .f64 x] H fun w H' => ∃ ex, H' = ex ++ H ∧ IsD (((mm : Nat) : Int)) (-1074) 2 w H' := by
  have a1 := F.e1
  have a2 := F.e2
  have a3 := F.e3
  have a4 := F.e4
  have a5 := F.e5
  have a6 := F.e6
  have a8 := dyAdd bm
  have a9 : True := trivial
  have a10 := dyE1
  have w1 : -4611686018427387904 < ((mm : Nat) : Int) := by clear a1 a2 a3 a4 a5 a6 a8 a9 a10 c1 c2 c3 F; omega
  have w2 : ((mm : Nat) : Int) < 4611686018427387904 := by clear a1 a2 a3 a4 a5 a6 a8 a9 a10 c1 c2 c3 F; omega
  refine fn_enter 33 Try.func102 fun W => ?_
  repeat' first
    | (rw [a1])
    | (rw [a2])
    | (rw [a3])
    | (rw [a4])
    | (rw [a5])
    | (rw [a6])
    | (rw [a8])
    | (rw [a10])
    | (rw [c1])
    | (rw [c2])
    | (rw [c3])
    | refine tc_cond_true ?_
    | refine tc_cond_false ?_
    | refine op_itoi ?_
    | refine op_shr (v := 52) ?_
    | refine op_shr (v := 63) ?_
    | refine op_ibits ?_
    | (refine op_call ((Go.Proofs.Ytomhkbijijdghaa.Flat.bits _ _).mono ?_); rintro _ _ ⟨rfl, rfl⟩)
    | (refine op_call ((wholeOf (((mm : Nat) : Int)) _ w1 w2).mono ?_); rintro _ _ ⟨ex, rfl, nz, zr, ar, cr, rfl, hw⟩)
    | refine tc_seq ?_
    | refine tc_region ?_
    | refine tc_block ?_
    | refine tc_skip ?_
    | refine tc_exit ?_
    | refine tc_ret ?_
    | refine at_seq_normal ?_
    | refine at_seq_exit ?_
    | refine at_seq_ret ?_
    | refine at_block_normal ?_
    | refine at_block_ret ?_
    | refine at_block_exit_self ?_
    | refine at_block_exit_ne ?_
    | refine tl_nil ?_
    | refine tl_cons ?_
    | refine tl_cons_none ?_
    | refine op_move ?_
    | refine op_assign ?_
    | refine op_alloc (fun k2 => ?_)
    | refine op_icmp ?_
    | refine op_iarith ?_
    | refine op_unop_neg_int ?_
    | refine op_build ?_
    | refine op_store0 ?_
    | refine op_store1 ?_
    | fail
  refine op_perm (mid2 [] _ (k2, _) _).symm ?_
  refine op_store0 ?_
  repeat' first | refine tl_nil ?_ | refine at_seq_normal ?_ | refine tc_ret ?_
  refine ret_one (.agg (T := 68) (k := k2) (off := 0) (m := [.bool nz, .slice ar zr.length cr, .int .i64 (-1074)]) rfl rfl mem0 rfl rfl) (hG := List.Sublist.refl _) (hk := ⟨_ :: ex, rfl, ?_⟩)
  exact IsD.skip ⟨nz, ar, zr.length, cr, rfl, nz, zr, ar, cr, rfl, hw⟩ (mid2_mem (e2 := []) noU3)
set_option maxHeartbeats 16000000 in
theorem dyWalk10 (x mm ee ss : Nat) (H : Heap) (F : DyF x mm ee ss) (bm : mm < 4503599627370496) (be : ee < 2048) (c1 : icmp .eql ((ee : Nat) : Int) 2047 = false) (c2 : icmp .eql ((ee : Nat) : Int) 0 = false) (c3 : icmp .eql ((ss : Nat) : Int) 1 = true) :
    Does Try.prog 102 [.float .f64 x] H fun w H' => ∃ ex, H' = ex ++ H ∧ IsD (-((4503599627370496 + mm : Nat) : Int)) (((ee : Nat) : Int) - 1075) 2 w H' := by
  have a1 := F.e1
  have a2 := F.e2
  have a3 := F.e3
  have a4 := F.e4
  have a5 := F.e5
  have a6 := F.e6
  have a8 := dyAdd bm
  have a9 := neg_wrap (t := 4503599627370496 + mm) (by clear F a1 a2 a3 a4 a5 a6 a8; omega)
  have a10 := dyE2 be
  have w1 : -4611686018427387904 < -((4503599627370496 + mm : Nat) : Int) := by clear a1 a2 a3 a4 a5 a6 a8 a9 a10 c1 c2 c3 F; omega
  have w2 : -((4503599627370496 + mm : Nat) : Int) < 4611686018427387904 := by clear a1 a2 a3 a4 a5 a6 a8 a9 a10 c1 c2 c3 F; omega
  refine fn_enter 33 Try.func102 fun W => ?_
  repeat' first
    | (rw [a1])
    | (rw [a2])
    | (rw [a3])
    | (rw [a4])
    | (rw [a5])
    | (rw [a6])
    | (rw [a8])
    | (rw [a9])
    | (rw [a10])
    | (rw [c1])
    | (rw [c2])
    | (rw [c3])
    | refine tc_cond_true ?_
    | refine tc_cond_false ?_
    | refine op_itoi ?_
    | refine op_shr (v := 52) ?_
    | refine op_shr (v := 63) ?_
    | refine op_ibits ?_
    | (refine op_call ((Go.Proofs.Ytomhkbijijdghaa.Flat.bits _ _).mono ?_); rintro _ _ ⟨rfl, rfl⟩)
    | (refine op_call ((wholeOf (-((4503599627370496 + mm : Nat) : Int)) _ w1 w2).mono ?_); rintro _ _ ⟨ex, rfl, nz, zr, ar, cr, rfl, hw⟩)
    | refine tc_seq ?_
    | refine tc_region ?_
    | refine tc_block ?_
    | refine tc_skip ?_
    | refine tc_exit ?_
    | refine tc_ret ?_
    | refine at_seq_normal ?_
    | refine at_seq_exit ?_
    | refine at_seq_ret ?_
    | refine at_block_normal ?_
    | refine at_block_ret ?_
    | refine at_block_exit_self ?_
    | refine at_block_exit_ne ?_
    | refine tl_nil ?_
    | refine tl_cons ?_
    | refine tl_cons_none ?_
    | refine op_move ?_
    | refine op_assign ?_
    | refine op_alloc (fun k2 => ?_)
    | refine op_icmp ?_
    | refine op_iarith ?_
    | refine op_unop_neg_int ?_
    | refine op_build ?_
    | refine op_store0 ?_
    | refine op_store1 ?_
    | fail
  refine op_perm (mid2 [] _ (k2, _) _).symm ?_
  refine op_store0 ?_
  repeat' first | refine tl_nil ?_ | refine at_seq_normal ?_ | refine tc_ret ?_
  refine ret_one (.agg (T := 68) (k := k2) (off := 0) (m := [.bool nz, .slice ar zr.length cr, .int .i64 (((ee : Nat) : Int) - 1075)]) rfl rfl mem0 rfl rfl) (hG := List.Sublist.refl _) (hk := ⟨_ :: ex, rfl, ?_⟩)
  exact IsD.skip ⟨nz, ar, zr.length, cr, rfl, nz, zr, ar, cr, rfl, hw⟩ (mid2_mem (e2 := []) noU3)
set_option maxHeartbeats 16000000 in
theorem dyWalk11 (x mm ee ss : Nat) (H : Heap) (F : DyF x mm ee ss) (bm : mm < 4503599627370496) (be : ee < 2048) (c1 : icmp .eql ((ee : Nat) : Int) 2047 = false) (c2 : icmp .eql ((ee : Nat) : Int) 0 = false) (c3 : icmp .eql ((ss : Nat) : Int) 1 = false) :
    Does Try.prog 102 [.float .f64 x] H fun w H' => ∃ ex, H' = ex ++ H ∧ IsD (((4503599627370496 + mm : Nat) : Int)) (((ee : Nat) : Int) - 1075) 2 w H' := by
  have a1 := F.e1
  have a2 := F.e2
  have a3 := F.e3
  have a4 := F.e4
  have a5 := F.e5
  have a6 := F.e6
  have a8 := dyAdd bm
  have a9 : True := trivial
  have a10 := dyE2 be
  have w1 : -4611686018427387904 < ((4503599627370496 + mm : Nat) : Int) := by clear a1 a2 a3 a4 a5 a6 a8 a9 a10 c1 c2 c3 F; omega
  have w2 : ((4503599627370496 + mm : Nat) : Int) < 4611686018427387904 := by clear a1 a2 a3 a4 a5 a6 a8 a9 a10 c1 c2 c3 F; omega
  refine fn_enter 33 Try.func102 fun W => ?_
  repeat' first
    | (rw [a1])
    | (rw [a2])
    | (rw [a3])
    | (rw [a4])
    | (rw [a5])
    | (rw [a6])
    | (rw [a8])
    | (rw [a10])
    | (rw [c1])
    | (rw [c2])
    | (rw [c3])
    | refine tc_cond_true ?_
    | refine tc_cond_false ?_
    | refine op_itoi ?_
    | refine op_shr (v := 52) ?_
    | refine op_shr (v := 63) ?_
    | refine op_ibits ?_
    | (refine op_call ((Go.Proofs.Ytomhkbijijdghaa.Flat.bits _ _).mono ?_); rintro _ _ ⟨rfl, rfl⟩)
    | (refine op_call ((wholeOf (((4503599627370496 + mm : Nat) : Int)) _ w1 w2).mono ?_); rintro _ _ ⟨ex, rfl, nz, zr, ar, cr, rfl, hw⟩)
    | refine tc_seq ?_
    | refine tc_region ?_
    | refine tc_block ?_
    | refine tc_skip ?_
    | refine tc_exit ?_
    | refine tc_ret ?_
    | refine at_seq_normal ?_
    | refine at_seq_exit ?_
    | refine at_seq_ret ?_
    | refine at_block_normal ?_
    | refine at_block_ret ?_
    | refine at_block_exit_self ?_
    | refine at_block_exit_ne ?_
    | refine tl_nil ?_
    | refine tl_cons ?_
    | refine tl_cons_none ?_
    | refine op_move ?_
    | refine op_assign ?_
    | refine op_alloc (fun k2 => ?_)
    | refine op_icmp ?_
    | refine op_iarith ?_
    | refine op_unop_neg_int ?_
    | refine op_build ?_
    | refine op_store0 ?_
    | refine op_store1 ?_
    | fail
  refine op_perm (mid2 [] _ (k2, _) _).symm ?_
  refine op_store0 ?_
  repeat' first | refine tl_nil ?_ | refine at_seq_normal ?_ | refine tc_ret ?_
  refine ret_one (.agg (T := 68) (k := k2) (off := 0) (m := [.bool nz, .slice ar zr.length cr, .int .i64 (((ee : Nat) : Int) - 1075)]) rfl rfl mem0 rfl rfl) (hG := List.Sublist.refl _) (hk := ⟨_ :: ex, rfl, ?_⟩)
  exact IsD.skip ⟨nz, ar, zr.length, cr, rfl, nz, zr, ar, cr, rfl, hw⟩ (mid2_mem (e2 := []) noU3)

theorem dyadicOf (x : Nat) (q : Rat) (H : Heap) (hq : Fv x q) (hx : x < 18446744073709551616) : Does Try.prog 102 [.float .f64 x] H fun w H' => ∃ ex n e, H' = ex ++ H ∧ IsD n e 2 w H' ∧ q = (n : Rat) * p2 e ∧ -1074 ≤ e ∧ e ≤ 971 := by
  obtain ⟨hv1, hv2⟩ := word_val hq hx
  have F := dyF x hx
  have bm : x % 4503599627370496 < 4503599627370496 := Nat.mod_lt _ (by decide)
  have be : x / 4503599627370496 % 2048 < 2048 := Nat.mod_lt _ (by decide)
  have bs : x / 9223372036854775808 ≤ 1 := by omega
  generalize x % 4503599627370496 = mm at *
  generalize x / 4503599627370496 % 2048 = ee at *
  generalize x / 9223372036854775808 = ss at *
  have c1 : icmp .eql ((ee : Nat) : Int) 2047 = false := eqlF (by clear hv2 F; omega)
  by_cases h0 : ee = 0
  · rw [if_pos h0, if_pos h0] at hv2
    have c2 : icmp .eql ((ee : Nat) : Int) 0 = true := eqlT (by clear hv2 F; omega)
    by_cases h1 : ss = 1
    · rw [if_pos h1] at hv2
      have c3 : icmp .eql ((ss : Nat) : Int) 1 = true := eqlT (by clear hv2 F; omega)
      refine (dyWalk00 x mm ee ss H F bm be c1 c2 c3).mono ?_
      rintro w H' ⟨ex, rfl, hd⟩
      refine ⟨ex, _, _, rfl, hd, ?_, by decide, by decide⟩
      rw [hv2, Int.neg_one_mul]; rfl
    · rw [if_neg h1] at hv2
      have c3 : icmp .eql ((ss : Nat) : Int) 1 = false := eqlF (by clear hv2 F; omega)
      refine (dyWalk01 x mm ee ss H F bm be c1 c2 c3).mono ?_
      rintro w H' ⟨ex, rfl, hd⟩
      refine ⟨ex, _, _, rfl, hd, ?_, by decide, by decide⟩
      rw [hv2, Int.one_mul]; rfl
  · rw [if_neg h0, if_neg h0] at hv2
    have c2 : icmp .eql ((ee : Nat) : Int) 0 = false := eqlF (by clear hv2 F; omega)
    by_cases h1 : ss = 1
    · rw [if_pos h1] at hv2
      have c3 : icmp .eql ((ss : Nat) : Int) 1 = true := eqlT (by clear hv2 F; omega)
      refine (dyWalk10 x mm ee ss H F bm be c1 c2 c3).mono ?_
      rintro w H' ⟨ex, rfl, hd⟩
      refine ⟨ex, _, _, rfl, hd, ?_, by clear hv2 F; omega, by clear hv2 F; omega⟩
      rw [hv2, Int.neg_one_mul]
    · rw [if_neg h1] at hv2
      have c3 : icmp .eql ((ss : Nat) : Int) 1 = false := eqlF (by clear hv2 F; omega)
      refine (dyWalk11 x mm ee ss H F bm be c1 c2 c3).mono ?_
      rintro w H' ⟨ex, rfl, hd⟩
      refine ⟨ex, _, _, rfl, hd, ?_, by clear hv2 F; omega, by clear hv2 F; omega⟩
      rw [hv2, Int.one_mul]
end Go.Proofs.Ytomhkbijijdghaa.Lmb
