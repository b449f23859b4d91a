/-
  Dyadic numbers: sums, differences. No conditions.
-/
import Derived.Test.YtomhkbijijdghaaDya
set_option linter.unusedVariables false
set_option linter.unusedSimpArgs false
namespace Go.Proofs.Ytomhkbijijdghaa.Lmb
open Go.Lg

theorem mid3 {α : Type} (e3 e2 e1 : List α) (x : α) (R : List α) : List.Perm (e3 ++ (e2 ++ (e1 ++ x :: R))) (x :: (e3 ++ (e2 ++ (e1 ++ R)))) :=
  ((mid2 e2 e1 x R).append_left e3).trans List.perm_middle
theorem mid3_mem {α : Type} {e3 e2 e1 R : List α} {x y : α} {p : α → Prop} (hp : p x) : ∀ e ∈ e3 ++ (e2 ++ (e1 ++ x :: R)), e ∈ y :: (e3 ++ (e2 ++ (e1 ++ R))) ∨ p e := fun e he => by
  rcases List.mem_cons.1 ((mid3 e3 e2 e1 x R).subset he) with h | h
  · right; rw [h]; exact hp
  · exact .inl (List.mem_cons_of_mem _ h)
theorem ex3_eq {α : Type} {x a b : α} {H : List α} (e3 e2 e1 : List α) : x :: (e3 ++ (e2 ++ (e1 ++ a :: b :: H))) = (x :: (e3 ++ (e2 ++ (e1 ++ [a, b])))) ++ H := by simp

/-- The sum of two dyadic numbers, as it is written. -/
def dAddN (n e m f : Int) : Int × Int :=
  if n = 0 then (m, f) else if m = 0 then (n, e) else if f < e then (n * ((2 ^ (e - f).toNat : Nat) : Int) + m, f) else (m * ((2 ^ (f - e).toNat : Nat) : Int) + n, e)
theorem sgI_zero {n : Int} : icmp .eql (sgI n) 0 = decide (n = 0) := by
  unfold sgI
  by_cases h : n = 0
  · simp [h, icmp]
  · by_cases h2 : n < 0
    · simp [h, h2, icmp]
    · simp [h, h2, icmp]

set_option maxHeartbeats 16000000 in
theorem dAdd (u v : Value) (n e m f : Int) (L M : Nat) (H : Heap) (hu : IsD n e L u H) (hv : IsD m f M v H) (hL : L < 2 ^ 28) (hM : M < 2 ^ 28) (he : -1000000 ≤ e ∧ e ≤ 1000000) (hf : -1000000 ≤ f ∧ f ≤ 1000000) :
    Does Try.prog 93 [u, v] H fun w H' => ∃ ex, H' = ex ++ H ∧ IsD (dAddN n e m f).1 (dAddN n e m f).2 (L + M + 70000) w H' := by
  have hu0 := hu
  have hv0 := hv
  obtain ⟨b, a, k, c, rfl, h1⟩ := hu
  obtain ⟨b2, a2, kk2, c2, rfl, h2⟩ := hv
  refine fn_enter 49 Try.func93 fun W => ?_
  by_cases hn0 : n = 0
  · have hc : icmp .eql (sgI n) 0 = true := by rw [sgI_zero]; simpa using hn0
    have hres : dAddN n e m f = (m, f) := by rw [dAddN, if_pos hn0]
    repeat' first
      | (first | refine tl_defer ?_ | refine tc_seq ?_ | refine tc_region ?_ | refine at_seq_normal ?_ | refine tl_nil ?_ | refine tl_cons ?_ | refine tl_cons_none ?_ | refine op_move ?_ | refine op_assign ?_ | refine op_fieldAddr ?_ | refine op_load ?_ | refine op_load_agg ?_ | refine op_indexC ?_ | refine op_indexAddr1 ?_ | refine op_indexAddr ?_ | refine op_icmp ?_ | refine op_fcmp ?_ | refine op_iarith ?_ | refine op_bcmp ?_ | refine op_unop_not ?_ | refine op_unop_neg_float ?_ | refine op_unop_neg_int ?_ | refine op_len_slice ?_ | refine op_pick_true ?_ | refine op_pick_false ?_ | refine op_pick_true' ?_ | refine op_pick_false' ?_ | refine op_build ?_ | refine op_extract ?_ | refine op_makeInterface ?_ | refine op_typeAssert ?_ | refine op_ptr_nil ?_ | refine op_nilCheck_ptr ?_ | refine op_nilCheck_meth ?_ | refine op_makeMeth ?_ | refine op_makeFunc ?_ | refine op_itof ?_ | refine op_itoi ?_ | refine op_ftoi ?_ | refine op_iquo ?_ | refine op_irem ?_ | refine op_ibits ?_ | refine op_slice_isnil ?_ | refine op_slice_notnil ?_ | refine op_imax ?_ | refine op_imin ?_ | refine op_shl ?_ | refine op_shr ?_ | (refine op_alloc ?_; intro _) | (refine op_box ?_; intro _) | (refine op_buildSlice ?_; intro _) | (refine op_farith ?_; intro _ _) | refine op_store0 ?_ | refine op_store1 ?_ | refine op_store2 ?_ | refine op_store3 ?_ | refine op_store4 ?_ | refine op_store5 ?_ | refine op_storeK rfl ?_ | refine op_loadK rfl ?_ | refine op_load_aggK rfl ?_ | refine tc_cond_t ?_ | refine tc_cond_f ?_ | refine tc_cond (fun _ => ?_) (fun _ => ?_) | refine tc_block ?_ | refine tc_skip ?_ | refine tc_ret ?_ | refine tc_exit ?_ | refine tc_label ?_ | refine at_seq_ret ?_ | refine at_seq_exit ?_ | refine at_block_normal ?_ | refine at_block_ret ?_ | refine at_block_exit_self ?_ | refine at_block_exit_ne ?_ | refine at_loop_ret ?_ | refine at_loop_exit ?_ | refine at_loop_goto ?_ | refine tl_guard_yes ?_ | refine tl_guard_no ?_ | refine tl_guard_yes' ?_ | refine tl_guard_no' ?_ | refine tl_guard_undef ?_ | refine tl_guard_split (fun _ => ?_) (fun _ => ?_))
      | (refine op_call ((dSign _ n e L _ (hu0.mono fun e he => by simp [he])).mono ?_); rintro _ _ ⟨rfl, rfl⟩)
      | fail
    refine ret_one (.agg (T := 68) (off := 0) (m := [.bool b2, .slice a2 kk2 c2, .int .i64 f]) rfl rfl mem0 rfl rfl) (hG := List.Sublist.refl _) (hk := ⟨[_, _, _], rfl, ?_⟩)
    rw [hres]
    exact (hv0.big (by omega)).mono fun e he => by simp [he]
  have hc : icmp .eql (sgI n) 0 = false := by rw [sgI_zero]; simpa using hn0
  by_cases hm0 : m = 0
  · have hc2 : icmp .eql (sgI m) 0 = true := by rw [sgI_zero]; simpa using hm0
    have hres : dAddN n e m f = (n, e) := by rw [dAddN, if_neg hn0, if_pos hm0]
    repeat' first
      | (first | refine tl_defer ?_ | refine tc_seq ?_ | refine tc_region ?_ | refine at_seq_normal ?_ | refine tl_nil ?_ | refine tl_cons ?_ | refine tl_cons_none ?_ | refine op_move ?_ | refine op_assign ?_ | refine op_fieldAddr ?_ | refine op_load ?_ | refine op_load_agg ?_ | refine op_indexC ?_ | refine op_indexAddr1 ?_ | refine op_indexAddr ?_ | refine op_icmp ?_ | refine op_fcmp ?_ | refine op_iarith ?_ | refine op_bcmp ?_ | refine op_unop_not ?_ | refine op_unop_neg_float ?_ | refine op_unop_neg_int ?_ | refine op_len_slice ?_ | refine op_pick_true ?_ | refine op_pick_false ?_ | refine op_pick_true' ?_ | refine op_pick_false' ?_ | refine op_build ?_ | refine op_extract ?_ | refine op_makeInterface ?_ | refine op_typeAssert ?_ | refine op_ptr_nil ?_ | refine op_nilCheck_ptr ?_ | refine op_nilCheck_meth ?_ | refine op_makeMeth ?_ | refine op_makeFunc ?_ | refine op_itof ?_ | refine op_itoi ?_ | refine op_ftoi ?_ | refine op_iquo ?_ | refine op_irem ?_ | refine op_ibits ?_ | refine op_slice_isnil ?_ | refine op_slice_notnil ?_ | refine op_imax ?_ | refine op_imin ?_ | refine op_shl ?_ | refine op_shr ?_ | (refine op_alloc ?_; intro _) | (refine op_box ?_; intro _) | (refine op_buildSlice ?_; intro _) | (refine op_farith ?_; intro _ _) | refine op_store0 ?_ | refine op_store1 ?_ | refine op_store2 ?_ | refine op_store3 ?_ | refine op_store4 ?_ | refine op_store5 ?_ | refine op_storeK rfl ?_ | refine op_loadK rfl ?_ | refine op_load_aggK rfl ?_ | refine tc_cond_t ?_ | refine tc_cond_f ?_ | refine tc_cond (fun _ => ?_) (fun _ => ?_) | refine tc_block ?_ | refine tc_skip ?_ | refine tc_ret ?_ | refine tc_exit ?_ | refine tc_label ?_ | refine at_seq_ret ?_ | refine at_seq_exit ?_ | refine at_block_normal ?_ | refine at_block_ret ?_ | refine at_block_exit_self ?_ | refine at_block_exit_ne ?_ | refine at_loop_ret ?_ | refine at_loop_exit ?_ | refine at_loop_goto ?_ | refine tl_guard_yes ?_ | refine tl_guard_no ?_ | refine tl_guard_yes' ?_ | refine tl_guard_no' ?_ | refine tl_guard_undef ?_ | refine tl_guard_split (fun _ => ?_) (fun _ => ?_))
      | (refine op_call ((dSign _ n e L _ (hu0.mono fun e he => by simp [he])).mono ?_); rintro _ _ ⟨rfl, rfl⟩)
      | (refine op_call ((dSign _ m f M _ (hv0.mono fun e he => by simp [he])).mono ?_); rintro _ _ ⟨rfl, rfl⟩)
      | fail
    refine ret_one (.agg (T := 68) (off := 0) (m := [.bool b, .slice a k c, .int .i64 e]) rfl rfl mem0 rfl rfl) (hG := List.Sublist.refl _) (hk := ⟨[_, _, _], rfl, ?_⟩)
    rw [hres]
    exact (hu0.big (by omega)).mono fun e he => by simp [he]
  have hc2 : icmp .eql (sgI m) 0 = false := by rw [sgI_zero]; simpa using hm0
  by_cases hef : f < e
  · have hgt : icmp .gtr e f = true := by simp only [icmp, decide_eq_true_eq]; omega
    obtain ⟨kk, hkk0⟩ : ∃ kk : Nat, e - f = (kk : Int) := ⟨(e - f).toNat, by omega⟩
    have hkk : IntKind.i64.wrap (iarith .sub e f) = ((kk : Nat) : Int) := by rw [wrap_sub (by omega) (by omega)]; exact hkk0
    have hkb : kk ≤ 2000000 := by omega
    have hres : dAddN n e m f = (n * ((2 ^ kk : Nat) : Int) + m, f) := by rw [dAddN, if_neg hn0, if_neg hm0, if_pos hef, hkk0, Int.toNat_natCast]
    repeat' first
      | (first | refine tl_defer ?_ | refine tc_seq ?_ | refine tc_region ?_ | refine at_seq_normal ?_ | refine tl_nil ?_ | refine tl_cons ?_ | refine tl_cons_none ?_ | refine op_move ?_ | refine op_assign ?_ | refine op_fieldAddr ?_ | refine op_load ?_ | refine op_load_agg ?_ | refine op_indexC ?_ | refine op_indexAddr1 ?_ | refine op_indexAddr ?_ | refine op_icmp ?_ | refine op_fcmp ?_ | refine op_iarith ?_ | refine op_bcmp ?_ | refine op_unop_not ?_ | refine op_unop_neg_float ?_ | refine op_unop_neg_int ?_ | refine op_len_slice ?_ | refine op_pick_true ?_ | refine op_pick_false ?_ | refine op_pick_true' ?_ | refine op_pick_false' ?_ | refine op_build ?_ | refine op_extract ?_ | refine op_makeInterface ?_ | refine op_typeAssert ?_ | refine op_ptr_nil ?_ | refine op_nilCheck_ptr ?_ | refine op_nilCheck_meth ?_ | refine op_makeMeth ?_ | refine op_makeFunc ?_ | refine op_itof ?_ | refine op_itoi ?_ | refine op_ftoi ?_ | refine op_iquo ?_ | refine op_irem ?_ | refine op_ibits ?_ | refine op_slice_isnil ?_ | refine op_slice_notnil ?_ | refine op_imax ?_ | refine op_imin ?_ | refine op_shl ?_ | refine op_shr ?_ | (refine op_alloc ?_; intro _) | (refine op_box ?_; intro _) | (refine op_buildSlice ?_; intro _) | (refine op_farith ?_; intro _ _) | refine op_store0 ?_ | refine op_store1 ?_ | refine op_store2 ?_ | refine op_store3 ?_ | refine op_store4 ?_ | refine op_store5 ?_ | refine op_storeK rfl ?_ | refine op_loadK rfl ?_ | refine op_load_aggK rfl ?_ | refine tc_cond_t ?_ | refine tc_cond_f ?_ | refine tc_cond (fun _ => ?_) (fun _ => ?_) | refine tc_block ?_ | refine tc_skip ?_ | refine tc_ret ?_ | refine tc_exit ?_ | refine tc_label ?_ | refine at_seq_ret ?_ | refine at_seq_exit ?_ | refine at_block_normal ?_ | refine at_block_ret ?_ | refine at_block_exit_self ?_ | refine at_block_exit_ne ?_ | refine at_loop_ret ?_ | refine at_loop_exit ?_ | refine at_loop_goto ?_ | refine tl_guard_yes ?_ | refine tl_guard_no ?_ | refine tl_guard_yes' ?_ | refine tl_guard_no' ?_ | refine tl_guard_undef ?_ | refine tl_guard_split (fun _ => ?_) (fun _ => ?_))
      | (refine op_call ((dSign _ n e L _ (hu0.mono fun e he => by simp [he])).mono ?_); rintro _ _ ⟨rfl, rfl⟩)
      | (refine op_call ((dSign _ m f M _ (hv0.mono fun e he => by simp [he])).mono ?_); rintro _ _ ⟨rfl, rfl⟩)
      | fail
    rename_i k2 k3 k4
    apply fun hole0 hole1 hole2 hole3 hole4 hole5 hole6 hole7 hole8 hole9 hE hD hml hdl hpr prem fin => tc_drawn 14 [is hole0, is hole1, is hole2, is hole3, is hole4, is hole5, (is (.int .i64 ((kk : Nat) : Int))), (fun w _ G => IsW (n * ((2 ^ kk : Nat) : Int)) (L + kk / 32 + 1) w G), is hole6, is hole7, (fun w _ G => IsW (n * ((2 ^ kk : Nat) : Int) + m) (L + M + 70000) w G), is hole8, is hole9, (fun w _ G => IsD (n * ((2 ^ kk : Nat) : Int) + m) f (L + M + 70000) w G)]
      [some 21, some 22, some 23, some 24, some 25, some 26, some 27, some 28, some 29, some 30, some 31, some 32, some 33, some 34, none] [[], [0], [], [2], [], [4], [3, 5], [1, 6], [], [8], [7, 9], [], [11], [10, 12]] mixed ⟨(is_mono _), (is_mono _), (is_mono _), (is_mono _), (is_mono _), (is_mono _), (some_mono _), (fun _ _ _ _ h hs => IsW.mono h hs), (is_mono _), (is_mono _), (fun _ _ _ _ h hs => IsW.mono h hs), (is_mono _), (is_mono _), (fun _ _ _ _ h hs => IsD.mono h hs), trivial⟩ prem fin hE hD rfl hml hdl hpr
    rotate_left 11
    · first | kernel_rfl | exact rfl
    · first | kernel_rfl | exact rfl
    · exact Nat.le_of_ble_eq_true rfl
    · first | kernel_rfl | exact rfl
    · first | kernel_rfl | exact rfl
    refine ⟨fun G hG => ?_, fun G hG => ?_, fun G hG => ?_, fun G hG => ?_, fun G hG => ?_, fun G hG => ?_, fun G hG => ?_, fun G hG => ?_, fun G hG => ?_, fun G hG => ?_, fun G hG => ?_, fun G hG => ?_, fun G hG => ?_, fun G hG => ?_, trivial⟩
    · simp only [with2, Step2, nthDst, putO]
      (refine op_fieldAddr ?_; exact ⟨[], rfl, rfl, rfl⟩)
    · rintro _ _ ⟨rfl, rfl⟩ -
      simp only [with2, Step2, nthDst, putO]
      ((first | refine op_load ?_ | refine op_load_agg ?_ | refine op_load ?_ (hm := Sub.mem (by assumption) (by (repeat (apply List.mem_cons_of_mem)); assumption)) | refine op_load_agg ?_ (hm := Sub.mem (by assumption) (by (repeat (apply List.mem_cons_of_mem)); assumption)) | refine op_loadH hG rfl ?_ | refine op_load_aggH hG rfl ?_); exact ⟨[], rfl, rfl, rfl⟩)
    · simp only [with2, Step2, nthDst, putO]
      (refine op_fieldAddr ?_; exact ⟨[], rfl, rfl, rfl⟩)
    · rintro _ _ ⟨rfl, rfl⟩ -
      simp only [with2, Step2, nthDst, putO]
      ((first | refine op_load ?_ | refine op_load_agg ?_ | refine op_load ?_ (hm := Sub.mem (by assumption) (by (repeat (apply List.mem_cons_of_mem)); assumption)) | refine op_load_agg ?_ (hm := Sub.mem (by assumption) (by (repeat (apply List.mem_cons_of_mem)); assumption)) | refine op_loadH hG rfl ?_ | refine op_load_aggH hG rfl ?_); exact ⟨[], rfl, rfl, rfl⟩)
    · simp only [with2, Step2, nthDst, putO]
      (refine op_fieldAddr ?_; exact ⟨[], rfl, rfl, rfl⟩)
    · rintro _ _ ⟨rfl, rfl⟩ -
      simp only [with2, Step2, nthDst, putO]
      ((first | refine op_load ?_ | refine op_load_agg ?_ | refine op_load ?_ (hm := Sub.mem (by assumption) (by (repeat (apply List.mem_cons_of_mem)); assumption)) | refine op_load_agg ?_ (hm := Sub.mem (by assumption) (by (repeat (apply List.mem_cons_of_mem)); assumption)) | refine op_loadH hG rfl ?_ | refine op_load_aggH hG rfl ?_); exact ⟨[], rfl, rfl, rfl⟩)
    · rintro _ _ ⟨rfl, rfl⟩ - _ _ ⟨rfl, rfl⟩ -
      simp only [with2, Step2, nthDst, putO]
      (refine op_iarith ?_; exact ⟨[], rfl, congrArg (Value.int .i64) hkk, rfl⟩)
    · rintro _ _ ⟨rfl, rfl⟩ - _ _ ⟨rfl, rfl⟩ -
      simp only [with2, Step2, nthDst, putO]
      (refine op_call ((wUp _ n L kk _ (h1.mono fun e he => hG e (by simp [he])) (by omega) (by omega)).mono ?_); rintro w _ ⟨ex, rfl, hw⟩; exact ⟨ex, rfl, hw⟩)
    · simp only [with2, Step2, nthDst, putO]
      (refine op_fieldAddr ?_; exact ⟨[], rfl, rfl, rfl⟩)
    · rintro _ _ ⟨rfl, rfl⟩ -
      simp only [with2, Step2, nthDst, putO]
      ((first | refine op_load ?_ | refine op_load_agg ?_ | refine op_load ?_ (hm := Sub.mem (by assumption) (by (repeat (apply List.mem_cons_of_mem)); assumption)) | refine op_load_agg ?_ (hm := Sub.mem (by assumption) (by (repeat (apply List.mem_cons_of_mem)); assumption)) | refine op_loadH hG rfl ?_ | refine op_load_aggH hG rfl ?_); exact ⟨[], rfl, rfl, rfl⟩)
    · rintro _ _ ⟨nz, zr, ar, cr, rfl, r⟩ - _ _ ⟨rfl, rfl⟩ -
      simp only [with2, Step2, nthDst, putO]
      (refine op_call ((wAdd _ _ _ m (L + kk / 32 + 1) M _ ⟨nz, zr, ar, cr, rfl, r⟩ (h2.mono fun e he => hG e (by simp [he])) (by omega) (by omega)).mono ?_); rintro w _ ⟨ex, rfl, hw⟩; exact ⟨ex, rfl, hw.big (by omega)⟩)
    · simp only [with2, Step2, nthDst, putO]
      (refine op_fieldAddr ?_; exact ⟨[], rfl, rfl, rfl⟩)
    · rintro _ _ ⟨rfl, rfl⟩ -
      simp only [with2, Step2, nthDst, putO]
      ((first | refine op_load ?_ | refine op_load_agg ?_ | refine op_load ?_ (hm := Sub.mem (by assumption) (by (repeat (apply List.mem_cons_of_mem)); assumption)) | refine op_load_agg ?_ (hm := Sub.mem (by assumption) (by (repeat (apply List.mem_cons_of_mem)); assumption)) | refine op_loadH hG rfl ?_ | refine op_load_aggH hG rfl ?_); exact ⟨[], rfl, rfl, rfl⟩)
    · rintro _ _ ⟨ny, yr, ay, cy, rfl, ry⟩ - _ _ ⟨rfl, rfl⟩ -
      simp only [with2, Step2, nthDst, putO]
      (refine op_build ?_; exact ⟨[], rfl, _, _, _, _, rfl, ⟨ny, yr, ay, cy, rfl, ry⟩⟩)
    · rintro _ _ _ _ _ _ _ _ _ _ _ _ _ _ _ _ _ _ _ _ _ _ _ _ _ _ _ _ ⟨⟨bz, az, kz, cz, rfl, hz⟩, ⟨rfl, rfl⟩, ⟨rfl, rfl⟩, ⟨ny, yr, ay, cy, rfl, ry⟩, ⟨rfl, rfl⟩, ⟨rfl, rfl⟩, ⟨nz, zr, ar, cr, rfl, r⟩, ⟨rfl, rfl⟩, ⟨rfl, rfl⟩, ⟨rfl, rfl⟩, ⟨rfl, rfl⟩, ⟨rfl, rfl⟩, ⟨rfl, rfl⟩, ⟨rfl, rfl⟩, _⟩
      simp only [List.nil_append, List.cons_append, List.append_nil, List.drop_succ_cons, List.drop_zero, nthDst, putO]
      rename_i e1 e2 e3 _
      simp only [List.nil_append] at hz
      refine tl_cons_none ?_
      refine op_perm (mid3 _ _ _ (k4, _) _).symm ?_
      refine op_store0 ?_
      repeat'
        first
          | refine tl_defer ?_ | refine tc_seq ?_ | refine tc_region ?_ | refine at_seq_normal ?_ | refine tl_nil ?_ | refine tl_cons ?_ | refine tl_cons_none ?_ | refine op_move ?_
          | refine op_assign ?_ | refine op_fieldAddr ?_ | refine op_load ?_ | refine op_load_agg ?_ | refine op_indexC ?_ | refine op_indexAddr1 ?_ | refine op_indexAddr ?_ | refine op_icmp ?_
          | refine op_fcmp ?_ | refine op_iarith ?_ | refine op_bcmp ?_ | refine op_unop_not ?_ | refine op_unop_neg_float ?_ | refine op_unop_neg_int ?_ | refine op_len_slice ?_ | refine op_pick_true ?_
          | refine op_pick_false ?_ | refine op_pick_true' ?_ | refine op_pick_false' ?_ | refine op_build ?_ | refine op_extract ?_ | refine op_makeInterface ?_ | refine op_typeAssert ?_ | refine op_ptr_nil ?_
          | refine op_nilCheck_ptr ?_ | refine op_nilCheck_meth ?_ | refine op_makeMeth ?_ | refine op_makeFunc ?_ | refine op_itof ?_ | refine op_itoi ?_ | refine op_ftoi ?_ | refine op_iquo ?_
          | refine op_irem ?_ | refine op_ibits ?_ | refine op_slice_isnil ?_ | refine op_slice_notnil ?_ | refine op_imax ?_ | refine op_imin ?_ | refine op_shl ?_ | refine op_shr ?_
          | (refine op_alloc ?_; intro _) | (refine op_box ?_; intro _) | (refine op_buildSlice ?_; intro _) | (refine op_farith ?_; intro _ _) | refine op_store0 ?_ | refine op_store1 ?_ | refine op_store2 ?_ | refine op_store3 ?_
          | refine op_store4 ?_ | refine op_store5 ?_ | refine tc_cond_t ?_ | refine tc_cond_f ?_ | refine tc_cond (fun _ => ?_) (fun _ => ?_) | refine tc_block ?_ | refine tc_skip ?_ | refine tc_ret ?_
          | refine tc_exit ?_ | refine tc_label ?_ | refine at_seq_ret ?_ | refine at_seq_exit ?_ | refine at_block_normal ?_ | refine at_block_ret ?_ | refine at_block_exit_self ?_ | refine at_block_exit_ne ?_
          | refine at_loop_ret ?_ | refine at_loop_exit ?_ | refine at_loop_goto ?_ | refine tl_guard_yes ?_ | refine tl_guard_no ?_ | refine tl_guard_yes' ?_ | refine tl_guard_no' ?_ | refine tl_guard_undef ?_
          | refine tl_guard_split (fun _ => ?_) (fun _ => ?_)
      refine ret_one (.agg (T := 68) (k := k4) (off := 0) (m := [.bool bz, .slice az kz cz, .int .i64 f]) rfl rfl mem0 rfl rfl) (hG := List.Sublist.refl _) (hk := ⟨_, ex3_eq _ _ _, ?_⟩)
      rw [hres]
      exact IsD.skip ⟨bz, az, kz, cz, rfl, hz⟩ (mid3_mem noU3)
  · have hgt : icmp .gtr e f = false := by simp only [icmp, decide_eq_false_iff_not]; omega
    obtain ⟨kk, hkk0⟩ : ∃ kk : Nat, f - e = (kk : Int) := ⟨(f - e).toNat, by omega⟩
    have hkk : IntKind.i64.wrap (iarith .sub f e) = ((kk : Nat) : Int) := by rw [wrap_sub (by omega) (by omega)]; exact hkk0
    have hkb : kk ≤ 2000000 := by omega
    have hres : dAddN n e m f = (m * ((2 ^ kk : Nat) : Int) + n, e) := by rw [dAddN, if_neg hn0, if_neg hm0, if_neg hef, hkk0, Int.toNat_natCast]
    repeat' first
      | (first | refine tl_defer ?_ | refine tc_seq ?_ | refine tc_region ?_ | refine at_seq_normal ?_ | refine tl_nil ?_ | refine tl_cons ?_ | refine tl_cons_none ?_ | refine op_move ?_ | refine op_assign ?_ | refine op_fieldAddr ?_ | refine op_load ?_ | refine op_load_agg ?_ | refine op_indexC ?_ | refine op_indexAddr1 ?_ | refine op_indexAddr ?_ | refine op_icmp ?_ | refine op_fcmp ?_ | refine op_iarith ?_ | refine op_bcmp ?_ | refine op_unop_not ?_ | refine op_unop_neg_float ?_ | refine op_unop_neg_int ?_ | refine op_len_slice ?_ | refine op_pick_true ?_ | refine op_pick_false ?_ | refine op_pick_true' ?_ | refine op_pick_false' ?_ | refine op_build ?_ | refine op_extract ?_ | refine op_makeInterface ?_ | refine op_typeAssert ?_ | refine op_ptr_nil ?_ | refine op_nilCheck_ptr ?_ | refine op_nilCheck_meth ?_ | refine op_makeMeth ?_ | refine op_makeFunc ?_ | refine op_itof ?_ | refine op_itoi ?_ | refine op_ftoi ?_ | refine op_iquo ?_ | refine op_irem ?_ | refine op_ibits ?_ | refine op_slice_isnil ?_ | refine op_slice_notnil ?_ | refine op_imax ?_ | refine op_imin ?_ | refine op_shl ?_ | refine op_shr ?_ | (refine op_alloc ?_; intro _) | (refine op_box ?_; intro _) | (refine op_buildSlice ?_; intro _) | (refine op_farith ?_; intro _ _) | refine op_store0 ?_ | refine op_store1 ?_ | refine op_store2 ?_ | refine op_store3 ?_ | refine op_store4 ?_ | refine op_store5 ?_ | refine op_storeK rfl ?_ | refine op_loadK rfl ?_ | refine op_load_aggK rfl ?_ | refine tc_cond_t ?_ | refine tc_cond_f ?_ | refine tc_cond (fun _ => ?_) (fun _ => ?_) | refine tc_block ?_ | refine tc_skip ?_ | refine tc_ret ?_ | refine tc_exit ?_ | refine tc_label ?_ | refine at_seq_ret ?_ | refine at_seq_exit ?_ | refine at_block_normal ?_ | refine at_block_ret ?_ | refine at_block_exit_self ?_ | refine at_block_exit_ne ?_ | refine at_loop_ret ?_ | refine at_loop_exit ?_ | refine at_loop_goto ?_ | refine tl_guard_yes ?_ | refine tl_guard_no ?_ | refine tl_guard_yes' ?_ | refine tl_guard_no' ?_ | refine tl_guard_undef ?_ | refine tl_guard_split (fun _ => ?_) (fun _ => ?_))
      | (refine op_call ((dSign _ n e L _ (hu0.mono fun e he => by simp [he])).mono ?_); rintro _ _ ⟨rfl, rfl⟩)
      | (refine op_call ((dSign _ m f M _ (hv0.mono fun e he => by simp [he])).mono ?_); rintro _ _ ⟨rfl, rfl⟩)
      | fail
    rename_i k2 k3 k4
    apply fun hole0 hole1 hole2 hole3 hole4 hole5 hole6 hole7 hole8 hole9 hE hD hml hdl hpr prem fin => tc_drawn 14 [is hole0, is hole1, is hole2, is hole3, is hole4, is hole5, (is (.int .i64 ((kk : Nat) : Int))), (fun w _ G => IsW (m * ((2 ^ kk : Nat) : Int)) (M + kk / 32 + 1) w G), is hole6, is hole7, (fun w _ G => IsW (m * ((2 ^ kk : Nat) : Int) + n) (L + M + 70000) w G), is hole8, is hole9, (fun w _ G => IsD (m * ((2 ^ kk : Nat) : Int) + n) e (L + M + 70000) w G)]
      [some 35, some 36, some 37, some 38, some 39, some 40, some 41, some 42, some 43, some 44, some 45, some 46, some 47, some 48, none] [[], [0], [], [2], [], [4], [3, 5], [1, 6], [], [8], [7, 9], [], [11], [10, 12]] mixed ⟨(is_mono _), (is_mono _), (is_mono _), (is_mono _), (is_mono _), (is_mono _), (some_mono _), (fun _ _ _ _ h hs => IsW.mono h hs), (is_mono _), (is_mono _), (fun _ _ _ _ h hs => IsW.mono h hs), (is_mono _), (is_mono _), (fun _ _ _ _ h hs => IsD.mono h hs), trivial⟩ prem fin hE hD rfl hml hdl hpr
    rotate_left 11
    · first | kernel_rfl | exact rfl
    · first | kernel_rfl | exact rfl
    · exact Nat.le_of_ble_eq_true rfl
    · first | kernel_rfl | exact rfl
    · first | kernel_rfl | exact rfl
    refine ⟨fun G hG => ?_, fun G hG => ?_, fun G hG => ?_, fun G hG => ?_, fun G hG => ?_, fun G hG => ?_, fun G hG => ?_, fun G hG => ?_, fun G hG => ?_, fun G hG => ?_, fun G hG => ?_, fun G hG => ?_, fun G hG => ?_, fun G hG => ?_, trivial⟩
    · simp only [with2, Step2, nthDst, putO]
      (refine op_fieldAddr ?_; exact ⟨[], rfl, rfl, rfl⟩)
    · rintro _ _ ⟨rfl, rfl⟩ -
      simp only [with2, Step2, nthDst, putO]
      ((first | refine op_load ?_ | refine op_load_agg ?_ | refine op_load ?_ (hm := Sub.mem (by assumption) (by (repeat (apply List.mem_cons_of_mem)); assumption)) | refine op_load_agg ?_ (hm := Sub.mem (by assumption) (by (repeat (apply List.mem_cons_of_mem)); assumption)) | refine op_loadH hG rfl ?_ | refine op_load_aggH hG rfl ?_); exact ⟨[], rfl, rfl, rfl⟩)
    · simp only [with2, Step2, nthDst, putO]
      (refine op_fieldAddr ?_; exact ⟨[], rfl, rfl, rfl⟩)
    · rintro _ _ ⟨rfl, rfl⟩ -
      simp only [with2, Step2, nthDst, putO]
      ((first | refine op_load ?_ | refine op_load_agg ?_ | refine op_load ?_ (hm := Sub.mem (by assumption) (by (repeat (apply List.mem_cons_of_mem)); assumption)) | refine op_load_agg ?_ (hm := Sub.mem (by assumption) (by (repeat (apply List.mem_cons_of_mem)); assumption)) | refine op_loadH hG rfl ?_ | refine op_load_aggH hG rfl ?_); exact ⟨[], rfl, rfl, rfl⟩)
    · simp only [with2, Step2, nthDst, putO]
      (refine op_fieldAddr ?_; exact ⟨[], rfl, rfl, rfl⟩)
    · rintro _ _ ⟨rfl, rfl⟩ -
      simp only [with2, Step2, nthDst, putO]
      ((first | refine op_load ?_ | refine op_load_agg ?_ | refine op_load ?_ (hm := Sub.mem (by assumption) (by (repeat (apply List.mem_cons_of_mem)); assumption)) | refine op_load_agg ?_ (hm := Sub.mem (by assumption) (by (repeat (apply List.mem_cons_of_mem)); assumption)) | refine op_loadH hG rfl ?_ | refine op_load_aggH hG rfl ?_); exact ⟨[], rfl, rfl, rfl⟩)
    · rintro _ _ ⟨rfl, rfl⟩ - _ _ ⟨rfl, rfl⟩ -
      simp only [with2, Step2, nthDst, putO]
      (refine op_iarith ?_; exact ⟨[], rfl, congrArg (Value.int .i64) hkk, rfl⟩)
    · rintro _ _ ⟨rfl, rfl⟩ - _ _ ⟨rfl, rfl⟩ -
      simp only [with2, Step2, nthDst, putO]
      (refine op_call ((wUp _ m M kk _ (h2.mono fun e he => hG e (by simp [he])) (by omega) (by omega)).mono ?_); rintro w _ ⟨ex, rfl, hw⟩; exact ⟨ex, rfl, hw⟩)
    · simp only [with2, Step2, nthDst, putO]
      (refine op_fieldAddr ?_; exact ⟨[], rfl, rfl, rfl⟩)
    · rintro _ _ ⟨rfl, rfl⟩ -
      simp only [with2, Step2, nthDst, putO]
      ((first | refine op_load ?_ | refine op_load_agg ?_ | refine op_load ?_ (hm := Sub.mem (by assumption) (by (repeat (apply List.mem_cons_of_mem)); assumption)) | refine op_load_agg ?_ (hm := Sub.mem (by assumption) (by (repeat (apply List.mem_cons_of_mem)); assumption)) | refine op_loadH hG rfl ?_ | refine op_load_aggH hG rfl ?_); exact ⟨[], rfl, rfl, rfl⟩)
    · rintro _ _ ⟨nz, zr, ar, cr, rfl, r⟩ - _ _ ⟨rfl, rfl⟩ -
      simp only [with2, Step2, nthDst, putO]
      (refine op_call ((wAdd _ _ _ n (M + kk / 32 + 1) L _ ⟨nz, zr, ar, cr, rfl, r⟩ (h1.mono fun e he => hG e (by simp [he])) (by omega) (by omega)).mono ?_); rintro w _ ⟨ex, rfl, hw⟩; exact ⟨ex, rfl, hw.big (by omega)⟩)
    · simp only [with2, Step2, nthDst, putO]
      (refine op_fieldAddr ?_; exact ⟨[], rfl, rfl, rfl⟩)
    · rintro _ _ ⟨rfl, rfl⟩ -
      simp only [with2, Step2, nthDst, putO]
      ((first | refine op_load ?_ | refine op_load_agg ?_ | refine op_load ?_ (hm := Sub.mem (by assumption) (by (repeat (apply List.mem_cons_of_mem)); assumption)) | refine op_load_agg ?_ (hm := Sub.mem (by assumption) (by (repeat (apply List.mem_cons_of_mem)); assumption)) | refine op_loadH hG rfl ?_ | refine op_load_aggH hG rfl ?_); exact ⟨[], rfl, rfl, rfl⟩)
    · rintro _ _ ⟨ny, yr, ay, cy, rfl, ry⟩ - _ _ ⟨rfl, rfl⟩ -
      simp only [with2, Step2, nthDst, putO]
      (refine op_build ?_; exact ⟨[], rfl, _, _, _, _, rfl, ⟨ny, yr, ay, cy, rfl, ry⟩⟩)
    · rintro _ _ _ _ _ _ _ _ _ _ _ _ _ _ _ _ _ _ _ _ _ _ _ _ _ _ _ _ ⟨⟨bz, az, kz, cz, rfl, hz⟩, ⟨rfl, rfl⟩, ⟨rfl, rfl⟩, ⟨ny, yr, ay, cy, rfl, ry⟩, ⟨rfl, rfl⟩, ⟨rfl, rfl⟩, ⟨nz, zr, ar, cr, rfl, r⟩, ⟨rfl, rfl⟩, ⟨rfl, rfl⟩, ⟨rfl, rfl⟩, ⟨rfl, rfl⟩, ⟨rfl, rfl⟩, ⟨rfl, rfl⟩, ⟨rfl, rfl⟩, _⟩
      simp only [List.nil_append, List.cons_append, List.append_nil, List.drop_succ_cons, List.drop_zero, nthDst, putO]
      rename_i e1 e2 e3 _
      simp only [List.nil_append] at hz
      refine tl_cons_none ?_
      refine op_perm (mid3 _ _ _ (k4, _) _).symm ?_
      refine op_store0 ?_
      repeat'
        first
          | refine tl_defer ?_ | refine tc_seq ?_ | refine tc_region ?_ | refine at_seq_normal ?_ | refine tl_nil ?_ | refine tl_cons ?_ | refine tl_cons_none ?_ | refine op_move ?_
          | refine op_assign ?_ | refine op_fieldAddr ?_ | refine op_load ?_ | refine op_load_agg ?_ | refine op_indexC ?_ | refine op_indexAddr1 ?_ | refine op_indexAddr ?_ | refine op_icmp ?_
          | refine op_fcmp ?_ | refine op_iarith ?_ | refine op_bcmp ?_ | refine op_unop_not ?_ | refine op_unop_neg_float ?_ | refine op_unop_neg_int ?_ | refine op_len_slice ?_ | refine op_pick_true ?_
          | refine op_pick_false ?_ | refine op_pick_true' ?_ | refine op_pick_false' ?_ | refine op_build ?_ | refine op_extract ?_ | refine op_makeInterface ?_ | refine op_typeAssert ?_ | refine op_ptr_nil ?_
          | refine op_nilCheck_ptr ?_ | refine op_nilCheck_meth ?_ | refine op_makeMeth ?_ | refine op_makeFunc ?_ | refine op_itof ?_ | refine op_itoi ?_ | refine op_ftoi ?_ | refine op_iquo ?_
          | refine op_irem ?_ | refine op_ibits ?_ | refine op_slice_isnil ?_ | refine op_slice_notnil ?_ | refine op_imax ?_ | refine op_imin ?_ | refine op_shl ?_ | refine op_shr ?_
          | (refine op_alloc ?_; intro _) | (refine op_box ?_; intro _) | (refine op_buildSlice ?_; intro _) | (refine op_farith ?_; intro _ _) | refine op_store0 ?_ | refine op_store1 ?_ | refine op_store2 ?_ | refine op_store3 ?_
          | refine op_store4 ?_ | refine op_store5 ?_ | refine tc_cond_t ?_ | refine tc_cond_f ?_ | refine tc_cond (fun _ => ?_) (fun _ => ?_) | refine tc_block ?_ | refine tc_skip ?_ | refine tc_ret ?_
          | refine tc_exit ?_ | refine tc_label ?_ | refine at_seq_ret ?_ | refine at_seq_exit ?_ | refine at_block_normal ?_ | refine at_block_ret ?_ | refine at_block_exit_self ?_ | refine at_block_exit_ne ?_
          | refine at_loop_ret ?_ | refine at_loop_exit ?_ | refine at_loop_goto ?_ | refine tl_guard_yes ?_ | refine tl_guard_no ?_ | refine tl_guard_yes' ?_ | refine tl_guard_no' ?_ | refine tl_guard_undef ?_
          | refine tl_guard_split (fun _ => ?_) (fun _ => ?_)
      refine ret_one (.agg (T := 68) (k := k4) (off := 0) (m := [.bool bz, .slice az kz cz, .int .i64 e]) rfl rfl mem0 rfl rfl) (hG := List.Sublist.refl _) (hk := ⟨_, ex3_eq _ _ _, ?_⟩)
      rw [hres]
      exact IsD.skip ⟨bz, az, kz, cz, rfl, hz⟩ (mid3_mem noU3)

set_option maxHeartbeats 8000000 in
theorem dSub (u v : Value) (n e m f : Int) (L M : Nat) (H : Heap) (hu : IsD n e L u H) (hv : IsD m f M v H) (hL : L < 2 ^ 28) (hM : M < 2 ^ 28) (he : -1000000 ≤ e ∧ e ≤ 1000000) (hf : -1000000 ≤ f ∧ f ≤ 1000000) :
    Does Try.prog 91 [u, v] H fun w H' => ∃ ex, H' = ex ++ H ∧ IsD (dAddN n e (-m) f).1 (dAddN n e (-m) f).2 (L + M + 70000) w H' := by
  have hu0 := hu
  have hv0 := hv
  obtain ⟨b, a, k, c, rfl, h1⟩ := hu
  obtain ⟨b2, a2, kk2, c2, rfl, h2⟩ := hv
  refine fn_enter 9 Try.func91 fun W => ?_
  generalize hE : (dAddN n e (-m) f).2 = E
  generalize hN : (dAddN n e (-m) f).1 = N
  repeat'
    first
      | refine tl_defer ?_ | refine tc_seq ?_ | refine tc_region ?_ | refine at_seq_normal ?_ | refine tl_nil ?_ | refine tl_cons ?_ | refine tl_cons_none ?_ | refine op_move ?_
      | refine op_assign ?_ | refine op_fieldAddr ?_ | refine op_load ?_ | refine op_load_agg ?_ | refine op_indexC ?_ | refine op_indexAddr1 ?_ | refine op_indexAddr ?_ | refine op_icmp ?_
      | refine op_fcmp ?_ | refine op_iarith ?_ | refine op_bcmp ?_ | refine op_unop_not ?_ | refine op_unop_neg_float ?_ | refine op_unop_neg_int ?_ | refine op_len_slice ?_ | refine op_pick_true ?_
      | refine op_pick_false ?_ | refine op_pick_true' ?_ | refine op_pick_false' ?_ | refine op_build ?_ | refine op_extract ?_ | refine op_makeInterface ?_ | refine op_typeAssert ?_ | refine op_ptr_nil ?_
      | refine op_nilCheck_ptr ?_ | refine op_nilCheck_meth ?_ | refine op_makeMeth ?_ | refine op_makeFunc ?_ | refine op_itof ?_ | refine op_itoi ?_ | refine op_ftoi ?_ | refine op_iquo ?_
      | refine op_irem ?_ | refine op_ibits ?_ | refine op_slice_isnil ?_ | refine op_slice_notnil ?_ | refine op_imax ?_ | refine op_imin ?_ | refine op_shl ?_ | refine op_shr ?_
      | (refine op_alloc ?_; intro _) | (refine op_box ?_; intro _) | (refine op_buildSlice ?_; intro _) | (refine op_farith ?_; intro _ _) | refine op_store0 ?_ | refine op_store1 ?_ | refine op_store2 ?_ | refine op_store3 ?_
      | refine op_store4 ?_ | refine op_store5 ?_ | refine tc_cond_t ?_ | refine tc_cond_f ?_ | refine tc_cond (fun _ => ?_) (fun _ => ?_) | refine tc_block ?_ | refine tc_skip ?_ | refine tc_ret ?_
      | refine tc_exit ?_ | refine tc_label ?_ | refine at_seq_ret ?_ | refine at_seq_exit ?_ | refine at_block_normal ?_ | refine at_block_ret ?_ | refine at_block_exit_self ?_ | refine at_block_exit_ne ?_
      | refine at_loop_ret ?_ | refine at_loop_exit ?_ | refine at_loop_goto ?_ | refine tl_guard_yes ?_ | refine tl_guard_no ?_ | refine tl_guard_yes' ?_ | refine tl_guard_no' ?_ | refine tl_guard_undef ?_
      | refine tl_guard_split (fun _ => ?_) (fun _ => ?_)
  rename_i k2 k3 k4
  apply fun hole0 hole1 hE hD hml hdl hpr prem fin => tc_drawn 4 [is hole0, is hole1, (fun w _ G => IsD (-m) f M w G), (fun w _ G => IsD N E (L + M + 70000) w G)]
    [some 5, some 6, some 7, some 8, none] [[], [], [1], [0, 2]] mixed ⟨(is_mono _), (is_mono _), (fun _ _ _ _ h hs => IsD.mono h hs), (fun _ _ _ _ h hs => IsD.mono h hs), trivial⟩ prem fin hE hD rfl hml hdl hpr
  rotate_left 3
  · first | kernel_rfl | exact rfl
  · first | kernel_rfl | exact rfl
  · exact Nat.le_of_ble_eq_true rfl
  · first | kernel_rfl | exact rfl
  · first | kernel_rfl | exact rfl
  refine ⟨fun G hG => ?_, fun G hG => ?_, fun G hG => ?_, fun G hG => ?_, trivial⟩
  · simp only [with2, Step2, nthDst, putO]
    ((first | refine op_load ?_ | refine op_load_agg ?_ | refine op_load ?_ (hm := Sub.mem (by assumption) (by (repeat (apply List.mem_cons_of_mem)); assumption)) | refine op_load_agg ?_ (hm := Sub.mem (by assumption) (by (repeat (apply List.mem_cons_of_mem)); assumption)) | refine op_loadH hG rfl ?_ | refine op_load_aggH hG rfl ?_); exact ⟨[], rfl, rfl, rfl⟩)
  · simp only [with2, Step2, nthDst, putO]
    ((first | refine op_load ?_ | refine op_load_agg ?_ | refine op_load ?_ (hm := Sub.mem (by assumption) (by (repeat (apply List.mem_cons_of_mem)); assumption)) | refine op_load_agg ?_ (hm := Sub.mem (by assumption) (by (repeat (apply List.mem_cons_of_mem)); assumption)) | refine op_loadH hG rfl ?_ | refine op_load_aggH hG rfl ?_); exact ⟨[], rfl, rfl, rfl⟩)
  · rintro _ _ ⟨rfl, rfl⟩ -
    simp only [with2, Step2, nthDst, putO]
    (refine op_call ((dMinus _ m f M _ (hv0.mono fun e he => hG e (by simp [he]))).mono ?_); rintro w _ ⟨ex, rfl, hw⟩; exact ⟨ex, rfl, hw⟩)
  · rintro _ _ ⟨rfl, rfl⟩ - _ _ g2 -
    simp only [with2, Step2, nthDst, putO]
    (refine op_call ((dAdd _ _ n e (-m) f L M _ (hu0.mono fun e he => hG e (by simp [he])) g2 hL hM he hf).mono ?_); rintro w _ ⟨ex, rfl, hw⟩; rw [hN, hE] at hw; exact ⟨ex, rfl, hw⟩)
  · rintro _ _ _ _ _ _ _ _ ⟨⟨bz, az, kz, cz, rfl, hz⟩, g2, ⟨rfl, rfl⟩, ⟨rfl, rfl⟩, _⟩
    simp only [List.nil_append, List.cons_append, List.append_nil, List.drop_succ_cons, List.drop_zero, nthDst, putO]
    rename_i e1 e2 _
    simp only [List.nil_append] at hz
    refine tl_cons_none ?_
    refine op_perm (mid2 _ _ (k4, _) _).symm ?_
    refine op_store0 ?_
    repeat'
      first
        | refine tl_defer ?_ | refine tc_seq ?_ | refine tc_region ?_ | refine at_seq_normal ?_ | refine tl_nil ?_ | refine tl_cons ?_ | refine tl_cons_none ?_ | refine op_move ?_
        | refine op_assign ?_ | refine op_fieldAddr ?_ | refine op_load ?_ | refine op_load_agg ?_ | refine op_indexC ?_ | refine op_indexAddr1 ?_ | refine op_indexAddr ?_ | refine op_icmp ?_
        | refine op_fcmp ?_ | refine op_iarith ?_ | refine op_bcmp ?_ | refine op_unop_not ?_ | refine op_unop_neg_float ?_ | refine op_unop_neg_int ?_ | refine op_len_slice ?_ | refine op_pick_true ?_
        | refine op_pick_false ?_ | refine op_pick_true' ?_ | refine op_pick_false' ?_ | refine op_build ?_ | refine op_extract ?_ | refine op_makeInterface ?_ | refine op_typeAssert ?_ | refine op_ptr_nil ?_
        | refine op_nilCheck_ptr ?_ | refine op_nilCheck_meth ?_ | refine op_makeMeth ?_ | refine op_makeFunc ?_ | refine op_itof ?_ | refine op_itoi ?_ | refine op_ftoi ?_ | refine op_iquo ?_
        | refine op_irem ?_ | refine op_ibits ?_ | refine op_slice_isnil ?_ | refine op_slice_notnil ?_ | refine op_imax ?_ | refine op_imin ?_ | refine op_shl ?_ | refine op_shr ?_
        | (refine op_alloc ?_; intro _) | (refine op_box ?_; intro _) | (refine op_buildSlice ?_; intro _) | (refine op_farith ?_; intro _ _) | refine op_store0 ?_ | refine op_store1 ?_ | refine op_store2 ?_ | refine op_store3 ?_
        | refine op_store4 ?_ | refine op_store5 ?_ | refine tc_cond_t ?_ | refine tc_cond_f ?_ | refine tc_cond (fun _ => ?_) (fun _ => ?_) | refine tc_block ?_ | refine tc_skip ?_ | refine tc_ret ?_
        | refine tc_exit ?_ | refine tc_label ?_ | refine at_seq_ret ?_ | refine at_seq_exit ?_ | refine at_block_normal ?_ | refine at_block_ret ?_ | refine at_block_exit_self ?_ | refine at_block_exit_ne ?_
        | refine at_loop_ret ?_ | refine at_loop_exit ?_ | refine at_loop_goto ?_ | refine tl_guard_yes ?_ | refine tl_guard_no ?_ | refine tl_guard_yes' ?_ | refine tl_guard_no' ?_ | refine tl_guard_undef ?_
        | refine tl_guard_split (fun _ => ?_) (fun _ => ?_)
    refine ret_one (.agg (T := 68) (k := k4) (off := 0) (m := [.bool bz, .slice az kz cz, .int .i64 E]) rfl rfl mem0 rfl rfl) (hG := List.Sublist.refl _) (hk := ⟨_, ex2_eq _ _, ?_⟩)
    exact IsD.skip ⟨bz, az, kz, cz, rfl, hz⟩ (mid2_mem noU3)
end Go.Proofs.Ytomhkbijijdghaa.Lmb
