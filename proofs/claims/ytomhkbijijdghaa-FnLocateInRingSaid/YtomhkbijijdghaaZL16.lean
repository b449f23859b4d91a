/-
  Dyadic numbers: sums, differences. No conditions.
-/
import Derived.Test.YtomhkbijijdghaaZL6
import Derived.Test.YtomhkbijijdghaaZL15
set_option linter.unusedVariables false
set_option linter.unusedSimpArgs false
namespace Go.Proofs.Ytomhkbijijdghaa.Lmb
open Go.Lg

theorem mid3 {α : Type} (e3 e2 e1 : List α) (x : α) (R : List α) : List.Perm (e3 ++ (e2 ++ (e1 ++ x :: R))) (x :: (e3 ++ (e2 ++ (e1 ++ R)))) :=
  ((mid2 e2 e1 x R).append_left e3).trans List.perm_middle
theorem mid3_mem {α : Type} {e3 e2 e1 R : List α} {x y : α} {p : α → Prop} (hp : p x) : ∀ e ∈ e3 ++ (e2 ++ (e1 ++ x :: R)), e ∈ y :: (e3 ++ (e2 ++ (e1 ++ R))) ∨ p e := fun e he => by
  rcases List.mem_cons.1 ((mid3 e3 e2 e1 x R).subset he) with h | h
  · right; rw [h]; exact hp
  · exact .inl (List.mem_cons_of_mem _ h)
theorem ex3_eq {α : Type} {x a b : α} {H : List α} (e3 e2 e1 : List α) : x :: (e3 ++ (e2 ++ (e1 ++ a :: b :: H))) = (x :: (e3 ++ (e2 ++ (e1 ++ [a, b])))) ++ H := by simp

/-- The sum of two dyadic numbers, as0 it is written. -/
def dAddN (n e m f : Int) : Int × Int :=
  if n = 0 then (m, f) else if m = 0 then (n, e) else if f < e then (n * ((2 ^ (e - f).toNat : Nat) : Int) + m, f) else (m * ((2 ^ (f - e).toNat : Nat) : Int) + n, e)
theorem sgI_zero {n : Int} : icmp .eql (sgI n) 0 = decide (n = 0) := by
  unfold sgI
  by_cases h : n = 0
  · simp [h, icmp]
  · by_cases h2 : n < 0
    · simp [h, h2, icmp]
    · simp [h, h2, icmp]

set_option maxHeartbeats 16000000 in
theorem dAdd (u v : Value) (n e m f : Int) (L M : Nat) (H : Heap) (hu : IsD n e L u H) (hv : IsD m f M v H) (hL : L < 2 ^ 28) (hM : M < 2 ^ 28) (he : -1000000 ≤ e ∧ e ≤ 1000000) (hf : -1000000 ≤ f ∧ f ≤ 1000000) :
    Does Try.prog 93 [u, v] H fun w H' => ∃ ex, H' = ex ++ H ∧ IsD (dAddN n e m f).1 (dAddN n e m f).2 (L + M + 70000) w H' := by
  have hu0 := hu
  have hv0 := hv
  obtain ⟨b, a, k, c, rfl, h1⟩ := hu
  obtain ⟨b2, a2, kk2, c2, rfl, h2⟩ := hv
  refine fn_enter 49 Try.func93 fun W => ?_
  by_cases hn0 : n = 0
  · have hc : icmp .eql (sgI n) 0 = true := by rw [sgI_zero]; simpa using hn0
    have hres : dAddN n e m f = (m, f) := by rw [dAddN, if_pos hn0]
    repeat' first
      | (first | refine tc_seq ?_ | refine tc_region ?_ | refine at_seq_normal ?_ | refine tl_nil ?_ | refine tl_cons ?_ | refine tl_cons_none ?_ | refine op_assign ?_ | refine op_fieldAddr ?_ | refine op_load ?_ | refine op_load_agg ?_ | refine op_icmp ?_ | refine op_iarith ?_ | refine op_build ?_ | (refine op_alloc ?_; intro _) | (refine op_box ?_; intro _) | refine op_store0 ?_ | refine op_store1 ?_ | refine op_store2 ?_ | refine op_store3 ?_ | refine op_store4 ?_ | refine op_store5 ?_ | refine op_storeK rfl ?_ | refine op_loadK rfl ?_ | refine op_load_aggK rfl ?_ | refine tc_cond_t ?_ | refine tc_cond_f ?_ | refine tc_cond (fun _ => ?_) (fun _ => ?_) | refine tc_block ?_ | refine tc_skip ?_ | refine tc_ret ?_ | refine at_seq_ret ?_ | refine at_block_normal ?_ | refine at_block_ret ?_ | fail)
      | (refine op_call ((dSign _ n e L _ (hu0.mono fun e he => by simp [he])).mono ?_); rintro _ _ ⟨rfl, rfl⟩)
      | fail
    refine ret_one (.agg (T := 68) (off := 0) (m := [.bool b2, .slice a2 kk2 c2, .int .i64 f]) rfl rfl mem0 rfl rfl) (hG := List.Sublist.refl _) (hk := ⟨[_, _, _], rfl, ?_⟩)
    rw [hres]
    exact (hv0.big (by omega)).mono fun e he => by simp [he]
  have hc : icmp .eql (sgI n) 0 = false := by rw [sgI_zero]; simpa using hn0
  by_cases hm0 : m = 0
  · have hc2 : icmp .eql (sgI m) 0 = true := by rw [sgI_zero]; simpa using hm0
    have hres : dAddN n e m f = (n, e) := by rw [dAddN, if_neg hn0, if_pos hm0]
    repeat' first
      | (first | refine tc_seq ?_ | refine tc_region ?_ | refine at_seq_normal ?_ | refine tl_nil ?_ | refine tl_cons ?_ | refine tl_cons_none ?_ | refine op_assign ?_ | refine op_fieldAddr ?_ | refine op_load ?_ | refine op_load_agg ?_ | refine op_icmp ?_ | refine op_iarith ?_ | refine op_build ?_ | (refine op_alloc ?_; intro _) | (refine op_box ?_; intro _) | refine op_store0 ?_ | refine op_store1 ?_ | refine op_store2 ?_ | refine op_store3 ?_ | refine op_store4 ?_ | refine op_store5 ?_ | refine op_storeK rfl ?_ | refine op_loadK rfl ?_ | refine op_load_aggK rfl ?_ | refine tc_cond_t ?_ | refine tc_cond_f ?_ | refine tc_cond (fun _ => ?_) (fun _ => ?_) | refine tc_block ?_ | refine tc_skip ?_ | refine tc_ret ?_ | refine at_seq_ret ?_ | refine at_block_normal ?_ | refine at_block_ret ?_ | fail)
      | (refine op_call ((dSign _ n e L _ (hu0.mono fun e he => by simp [he])).mono ?_); rintro _ _ ⟨rfl, rfl⟩)
      | (refine op_call ((dSign _ m f M _ (hv0.mono fun e he => by simp [he])).mono ?_); rintro _ _ ⟨rfl, rfl⟩)
      | fail
    refine ret_one (.agg (T := 68) (off := 0) (m := [.bool b, .slice a k c, .int .i64 e]) rfl rfl mem0 rfl rfl) (hG := List.Sublist.refl _) (hk := ⟨[_, _, _], rfl, ?_⟩)
    rw [hres]
    exact (hu0.big (by omega)).mono fun e he => by simp [he]
  have hc2 : icmp .eql (sgI m) 0 = false := by rw [sgI_zero]; simpa using hm0
  by_cases hef : f < e
  · have hgt : icmp .gtr e f = true := by simp only [icmp, decide_eq_true_eq]; omega
    obtain ⟨kk, hkk0⟩ : ∃ kk : Nat, e - f = (kk : Int) := ⟨(e - f).toNat, by omega⟩
    have hkk : IntKind.i64.wrap (iarith .sub e f) = ((kk : Nat) : Int) := by rw [wrap_sub (by omega) (by omega)]; exact hkk0
    have hkb : kk ≤ 2000000 := by omega
    have hres : dAddN n e m f = (n * ((2 ^ kk : Nat) : Int) + m, f) := by rw [dAddN, if_neg hn0, if_neg hm0, if_pos hef, hkk0, Int.toNat_natCast]
    repeat' first
      | (first | refine tc_seq ?_ | refine tc_region ?_ | refine at_seq_normal ?_ | refine tl_nil ?_ | refine tl_cons ?_ | refine tl_cons_none ?_ | refine op_assign ?_ | refine op_fieldAddr ?_ | refine op_load ?_ | refine op_load_agg ?_ | refine op_icmp ?_ | refine op_iarith ?_ | refine op_build ?_ | (refine op_alloc ?_; intro _) | (refine op_box ?_; intro _) | refine op_store0 ?_ | refine op_store1 ?_ | refine op_store2 ?_ | refine op_store3 ?_ | refine op_store4 ?_ | refine op_store5 ?_ | refine op_storeK rfl ?_ | refine op_loadK rfl ?_ | refine op_load_aggK rfl ?_ | refine tc_cond_t ?_ | refine tc_cond_f ?_ | refine tc_cond (fun _ => ?_) (fun _ => ?_) | refine tc_block ?_ | refine tc_skip ?_ | refine tc_ret ?_ | refine at_seq_ret ?_ | refine at_block_normal ?_ | refine at_block_ret ?_ | fail)
      | (refine op_call ((dSign _ n e L _ (hu0.mono fun e he => by simp [he])).mono ?_); rintro _ _ ⟨rfl, rfl⟩)
      | (refine op_call ((dSign _ m f M _ (hv0.mono fun e he => by simp [he])).mono ?_); rintro _ _ ⟨rfl, rfl⟩)
      | fail
    rename_i k2 k3 k4
    apply fun hole0 hole1 hole2 hole3 hole4 hole5 hole6 hole7 hole8 hole9 hE hD hml hdl hpr prem fin => tc_drawn 14 [is hole0, is hole1, is hole2, is hole3, is hole4, is hole5, (is (.int .i64 ((kk : Nat) : Int))), (fun w _ G => IsW (n * ((2 ^ kk : Nat) : Int)) (L + kk / 32 + 1) w G), is hole6, is hole7, (fun w _ G => IsW (n * ((2 ^ kk : Nat) : Int) + m) (L + M + 70000) w G), is hole8, is hole9, (fun w _ G => IsD (n * ((2 ^ kk : Nat) : Int) + m) f (L + M + 70000) w G)]
      [some 21, some 22, some 23, some 24, some 25, some 26, some 27, some 28, some 29, some 30, some 31, some 32, some 33, some 34, none] [[], [0], [], [2], [], [4], [3, 5], [1, 6], [], [8], [7, 9], [], [11], [10, 12]] mixed ⟨(is_mono _), (is_mono _), (is_mono _), (is_mono _), (is_mono _), (is_mono _), (some_mono _), (fun _ _ _ _ h hs => IsW.mono h hs), (is_mono _), (is_mono _), (fun _ _ _ _ h hs => IsW.mono h hs), (is_mono _), (is_mono _), (fun _ _ _ _ h hs => IsD.mono h hs), trivial⟩ prem fin hE hD rfl hml hdl hpr
    rotate_left 11
    · first | kernel_rfl | exact rfl
    · first | kernel_rfl | exact rfl
    · exact Nat.le_of_ble_eq_true rfl
    · first | kernel_rfl | exact rfl
    · first | kernel_rfl | exact rfl
    refine ⟨fun G hG => ?_, fun G hG => ?_, fun G hG => ?_, fun G hG => ?_, fun G hG => ?_, fun G hG => ?_, fun G hG => ?_, fun G hG => ?_, fun G hG => ?_, fun G hG => ?_, fun G hG => ?_, fun G hG => ?_, fun G hG => ?_, fun G hG => ?_, trivial⟩
    · simp only [with2, Step2, nthDst, putO]
      (refine op_fieldAddr ?_; exact ⟨[], rfl, rfl, rfl⟩)
    · rintro _ _ ⟨rfl, rfl⟩ -
      simp only [with2, Step2, nthDst, putO]
      ((first | refine op_load ?_ | refine op_load_agg ?_ | refine op_load ?_ (hm := Sub.mem (by assumption) (by (repeat (apply List.mem_cons_of_mem)); assumption)) | refine op_load_agg ?_ (hm := Sub.mem (by assumption) (by (repeat (apply List.mem_cons_of_mem)); assumption)) | refine op_loadH hG rfl ?_ | refine op_load_aggH hG rfl ?_); exact ⟨[], rfl, rfl, rfl⟩)
    · simp only [with2, Step2, nthDst, putO]
      (refine op_fieldAddr ?_; exact ⟨[], rfl, rfl, rfl⟩)
    · rintro _ _ ⟨rfl, rfl⟩ -
      simp only [with2, Step2, nthDst, putO]
      ((first | refine op_load ?_ | refine op_load_agg ?_ | refine op_load ?_ (hm := Sub.mem (by assumption) (by (repeat (apply List.mem_cons_of_mem)); assumption)) | refine op_load_agg ?_ (hm := Sub.mem (by assumption) (by (repeat (apply List.mem_cons_of_mem)); assumption)) | refine op_loadH hG rfl ?_ | refine op_load_aggH hG rfl ?_); exact ⟨[], rfl, rfl, rfl⟩)
    · simp only [with2, Step2, nthDst, putO]
      (refine op_fieldAddr ?_; exact ⟨[], rfl, rfl, rfl⟩)
    · rintro _ _ ⟨rfl, rfl⟩ -
      simp only [with2, Step2, nthDst, putO]
      ((first | refine op_load ?_ | refine op_load_agg ?_ | refine op_load ?_ (hm := Sub.mem (by assumption) (by (repeat (apply List.mem_cons_of_mem)); assumption)) | refine op_load_agg ?_ (hm := Sub.mem (by assumption) (by (repeat (apply List.mem_cons_of_mem)); assumption)) | refine op_loadH hG rfl ?_ | refine op_load_aggH hG rfl ?_); exact ⟨[], rfl, rfl, rfl⟩)
    · rintro _ _ ⟨rfl, rfl⟩ - _ _ ⟨rfl, rfl⟩ -
      simp only [with2, Step2, nthDst, putO]
      (refine op_iarith ?_; exact ⟨[], rfl, congrArg (Value.int .i64) hkk, rfl⟩)
    · rintro _ _ ⟨rfl, rfl⟩ - _ _ ⟨rfl, rfl⟩ -
      simp only [with2, Step2, nthDst, putO]
      (refine op_call ((wUp _ n L kk _ (h1.mono fun e he => hG e (by simp [he])) (by omega) (by omega)).mono ?_); rintro w _ ⟨ex, rfl, hw⟩; exact ⟨ex, rfl, hw⟩)
    · simp only [with2, Step2, nthDst, putO]
      (refine op_fieldAddr ?_; exact ⟨[], rfl, rfl, rfl⟩)
    · rintro _ _ ⟨rfl, rfl⟩ -
      simp only [with2, Step2, nthDst, putO]
      ((first | refine op_load ?_ | refine op_load_agg ?_ | refine op_load ?_ (hm := Sub.mem (by assumption) (by (repeat (apply List.mem_cons_of_mem)); assumption)) | refine op_load_agg ?_ (hm := Sub.mem (by assumption) (by (repeat (apply List.mem_cons_of_mem)); assumption)) | refine op_loadH hG rfl ?_ | refine op_load_aggH hG rfl ?_); exact ⟨[], rfl, rfl, rfl⟩)
    · rintro _ _ ⟨nz, zr, ar, cr, rfl, r⟩ - _ _ ⟨rfl, rfl⟩ -
      simp only [with2, Step2, nthDst, putO]
      (refine op_call ((wAdd _ _ _ m (L + kk / 32 + 1) M _ ⟨nz, zr, ar, cr, rfl, r⟩ (h2.mono fun e he => hG e (by simp [he])) (by omega) (by omega)).mono ?_); rintro w _ ⟨ex, rfl, hw⟩; exact ⟨ex, rfl, hw.big (by omega)⟩)
    · simp only [with2, Step2, nthDst, putO]
      (refine op_fieldAddr ?_; exact ⟨[], rfl, rfl, rfl⟩)
    · rintro _ _ ⟨rfl, rfl⟩ -
      simp only [with2, Step2, nthDst, putO]
      ((first | refine op_load ?_ | refine op_load_agg ?_ | refine op_load ?_ (hm := Sub.mem (by assumption) (by (repeat (apply List.mem_cons_of_mem)); assumption)) | refine op_load_agg ?_ (hm := Sub.mem (by assumption) (by (repeat (apply List.mem_cons_of_mem)); assumption)) | refine op_loadH hG rfl ?_ | refine op_load_aggH hG rfl ?_); exact ⟨[], rfl, rfl, rfl⟩)
    · rintro _ _ ⟨ny, yr, ay, cy, rfl, ry⟩ - _ _ ⟨rfl, rfl⟩ -
      simp only [with2, Step2, nthDst, putO]
      (refine op_build ?_; exact ⟨[], rfl, _, _, _, _, rfl, ⟨ny, yr, ay, cy, rfl, ry⟩⟩)
    · rintro _ _ _ _ _ _ _ _ _ _ _ _ _ _ _ _ _ _ _ _ _ _ _ _ _ _ _ _ ⟨⟨bz, az, kz, cz, rfl, hz⟩, ⟨rfl, rfl⟩, ⟨rfl, rfl⟩, ⟨ny, yr, ay, cy, rfl, ry⟩, ⟨rfl, rfl⟩, ⟨rfl, rfl⟩, ⟨nz, zr, ar, cr, rfl, r⟩, ⟨rfl, rfl⟩, ⟨rfl, rfl⟩, ⟨rfl, rfl⟩, ⟨rfl, rfl⟩, ⟨rfl, rfl⟩, ⟨rfl, rfl⟩, ⟨rfl, rfl⟩, _⟩
      simp only [List.nil_append, List.cons_append, List.append_nil, List.drop_succ_cons, List.drop_zero, nthDst, putO]
      rename_i e1 e2 e3 _
      simp only [List.nil_append] at hz
      refine tl_cons_none ?_
      refine op_perm (mid3 _ _ _ (k4, _) _).symm ?_
      refine op_store0 ?_
      repeat' first
        | refine tc_seq ?_ | refine tc_region ?_ | refine at_seq_normal ?_ | refine tl_nil ?_ | refine tl_cons ?_ | refine tl_cons_none ?_ | refine op_assign ?_ | refine op_fieldAddr ?_ | refine op_load ?_ | refine op_load_agg ?_
        | refine op_icmp ?_ | refine op_iarith ?_ | refine op_build ?_ | (refine op_alloc ?_; intro _) | (refine op_box ?_; intro _) | refine op_store0 ?_ | refine op_store1 ?_ | refine op_store2 ?_ | refine op_store3 ?_ | refine op_store4 ?_
        | refine op_store5 ?_ | refine op_storeK rfl ?_ | refine op_loadK rfl ?_ | refine op_load_aggK rfl ?_ | refine tc_cond_t ?_ | refine tc_cond_f ?_ | refine tc_cond (fun _ => ?_) (fun _ => ?_) | refine tc_block ?_ | refine tc_skip ?_ | refine tc_ret ?_
        | refine at_seq_ret ?_ | refine at_block_normal ?_ | refine at_block_ret ?_
      refine ret_one (.agg (T := 68) (k := k4) (off := 0) (m := [.bool bz, .slice az kz cz, .int .i64 f]) rfl rfl mem0 rfl rfl) (hG := List.Sublist.refl _) (hk := ⟨_, ex3_eq _ _ _, ?_⟩)
      rw [hres]
      exact IsD.skip ⟨bz, az, kz, cz, rfl, hz⟩ (mid3_mem noU3)
  · have hgt : icmp .gtr e f = false := by simp only [icmp, decide_eq_false_iff_not]; omega
    obtain ⟨kk, hkk0⟩ : ∃ kk : Nat, f - e = (kk : Int) := ⟨(f - e).toNat, by omega⟩
    have hkk : IntKind.i64.wrap (iarith .sub f e) = ((kk : Nat) : Int) := by rw [wrap_sub (by omega) (by omega)]; exact hkk0
    have hkb : kk ≤ 2000000 := by omega
    have hres : dAddN n e m f = (m * ((2 ^ kk : Nat) : Int) + n, e) := by rw [dAddN, if_neg hn0, if_neg hm0, if_neg hef, hkk0, Int.toNat_natCast]
    repeat' first
      | (first | refine tc_seq ?_ | refine tc_region ?_ | refine at_seq_normal ?_ | refine tl_nil ?_ | refine tl_cons ?_ | refine tl_cons_none ?_ | refine op_assign ?_ | refine op_fieldAddr ?_ | refine op_load ?_ | refine op_load_agg ?_ | refine op_icmp ?_ | refine op_iarith ?_ | refine op_build ?_ | (refine op_alloc ?_; intro _) | (refine op_box ?_; intro _) | refine op_store0 ?_ | refine op_store1 ?_ | refine op_store2 ?_ | refine op_store3 ?_ | refine op_store4 ?_ | refine op_store5 ?_ | refine op_storeK rfl ?_ | refine op_loadK rfl ?_ | refine op_load_aggK rfl ?_ | refine tc_cond_t ?_ | refine tc_cond_f ?_ | refine tc_cond (fun _ => ?_) (fun _ => ?_) | refine tc_block ?_ | refine tc_skip ?_ | refine tc_ret ?_ | refine at_seq_ret ?_ | refine at_block_normal ?_ | refine at_block_ret ?_ | fail)
      | (refine op_call ((dSign _ n e L _ (hu0.mono fun e he => by simp [he])).mono ?_); rintro _ _ ⟨rfl, rfl⟩)
      | (refine op_call ((dSign _ m f M _ (hv0.mono fun e he => by simp [he])).mono ?_); rintro _ _ ⟨rfl, rfl⟩)
      | fail
    rename_i k2 k3 k4
    apply fun hole0 hole1 hole2 hole3 hole4 hole5 hole6 hole7 hole8 hole9 hE hD hml hdl hpr prem fin => tc_drawn 14 [is hole0, is hole1, is hole2, is hole3, is hole4, is hole5, (is (.int .i64 ((kk : Nat) : Int))), (fun w _ G => IsW (m * ((2 ^ kk : Nat) : Int)) (M + kk / 32 + 1) w G), is hole6, is hole7, (fun w _ G => IsW (m * ((2 ^ kk : Nat) : Int) + n) (L + M + 70000) w G), is hole8, is hole9, (fun w _ G => IsD (m * ((2 ^ kk : Nat) : Int) + n) e (L + M + 70000) w G)]
      [some 35, some 36, some 37, some 38, some 39, some 40, some 41, some 42, some 43, some 44, some 45, some 46, some 47, some 48, none] [[], [0], [], [2], [], [4], [3, 5], [1, 6], [], [8], [7, 9], [], [11], [10, 12]] mixed ⟨(is_mono _), (is_mono _), (is_mono _), (is_mono _), (is_mono _), (is_mono _), (some_mono _), (fun _ _ _ _ h hs => IsW.mono h hs), (is_mono _), (is_mono _), (fun _ _ _ _ h hs => IsW.mono h hs), (is_mono _), (is_mono _), (fun _ _ _ _ h hs => IsD.mono h hs), trivial⟩ prem fin hE hD rfl hml hdl hpr
    rotate_left 11
    · first | kernel_rfl | exact rfl
    · first | kernel_rfl | exact rfl
    · exact Nat.le_of_ble_eq_true rfl
    · first | kernel_rfl | exact rfl
    · first | kernel_rfl | exact rfl
    refine ⟨fun G hG => ?_, fun G hG => ?_, fun G hG => ?_, fun G hG => ?_, fun G hG => ?_, fun G hG => ?_, fun G hG => ?_, fun G hG => ?_, fun G hG => ?_, fun G hG => ?_, fun G hG => ?_, fun G hG => ?_, fun G hG => ?_, fun G hG => ?_, trivial⟩
    · simp only [with2, Step2, nthDst, putO]
      (refine op_fieldAddr ?_; exact ⟨[], rfl, rfl, rfl⟩)
    · rintro _ _ ⟨rfl, rfl⟩ -
      simp only [with2, Step2, nthDst, putO]
      ((first | refine op_load ?_ | refine op_load_agg ?_ | refine op_load ?_ (hm := Sub.mem (by assumption) (by (repeat (apply List.mem_cons_of_mem)); assumption)) | refine op_load_agg ?_ (hm := Sub.mem (by assumption) (by (repeat (apply List.mem_cons_of_mem)); assumption)) | refine op_loadH hG rfl ?_ | refine op_load_aggH hG rfl ?_); exact ⟨[], rfl, rfl, rfl⟩)
    · simp only [with2, Step2, nthDst, putO]
      (refine op_fieldAddr ?_; exact ⟨[], rfl, rfl, rfl⟩)
    · rintro _ _ ⟨rfl, rfl⟩ -
      simp only [with2, Step2, nthDst, putO]
      ((first | refine op_load ?_ | refine op_load_agg ?_ | refine op_load ?_ (hm := Sub.mem (by assumption) (by (repeat (apply List.mem_cons_of_mem)); assumption)) | refine op_load_agg ?_ (hm := Sub.mem (by assumption) (by (repeat (apply List.mem_cons_of_mem)); assumption)) | refine op_loadH hG rfl ?_ | refine op_load_aggH hG rfl ?_); exact ⟨[], rfl, rfl, rfl⟩)
    · simp only [with2, Step2, nthDst, putO]
      (refine op_fieldAddr ?_; exact ⟨[], rfl, rfl, rfl⟩)
    · rintro _ _ ⟨rfl, rfl⟩ -
      simp only [with2, Step2, nthDst, putO]
      ((first | refine op_load ?_ | refine op_load_agg ?_ | refine op_load ?_ (hm := Sub.mem (by assumption) (by (repeat (apply List.mem_cons_of_mem)); assumption)) | refine op_load_agg ?_ (hm := Sub.mem (by assumption) (by (repeat (apply List.mem_cons_of_mem)); assumption)) | refine op_loadH hG rfl ?_ | refine op_load_aggH hG rfl ?_); exact ⟨[], rfl, rfl, rfl⟩)
    · rintro _ _ ⟨rfl, rfl⟩ - _ _ ⟨rfl, rfl⟩ -
      simp only [with2, Step2, nthDst, putO]
      (refine op_iarith ?_; exact ⟨[], rfl, congrArg (Value.int .i64) hkk, rfl⟩)
    · rintro _ _ ⟨rfl, rfl⟩ - _ _ ⟨rfl, rfl⟩ -
      simp only [with2, Step2, nthDst, putO]
      (refine op_call ((wUp _ m M kk _ (h2.mono fun e he => hG e (by simp [he])) (by omega) (by omega)).mono ?_); rintro w _ ⟨ex, rfl, hw⟩; exact ⟨ex, rfl, hw⟩)
    · simp only [with2, Step2, nthDst, putO]
      (refine op_fieldAddr ?_; exact ⟨[], rfl, rfl, rfl⟩)
    · rintro _ _ ⟨rfl, rfl⟩ -
      simp only [with2, Step2, nthDst, putO]
      ((first | refine op_load ?_ | refine op_load_agg ?_ | refine op_load ?_ (hm := Sub.mem (by assumption) (by (repeat (apply List.mem_cons_of_mem)); assumption)) | refine op_load_agg ?_ (hm := Sub.mem (by assumption) (by (repeat (apply List.mem_cons_of_mem)); assumption)) | refine op_loadH hG rfl ?_ | refine op_load_aggH hG rfl ?_); exact ⟨[], rfl, rfl, rfl⟩)
    · rintro _ _ ⟨nz, zr, ar, cr, rfl, r⟩ - _ _ ⟨rfl, rfl⟩ -
      simp only [with2, Step2, nthDst, putO]
      (refine op_call ((wAdd _ _ _ n (M + kk / 32 + 1) L _ ⟨nz, zr, ar, cr, rfl, r⟩ (h1.mono fun e he => hG e (by simp [he])) (by omega) (by omega)).mono ?_); rintro w _ ⟨ex, rfl, hw⟩; exact ⟨ex, rfl, hw.big (by omega)⟩)
    · simp only [with2, Step2, nthDst, putO]
      (refine op_fieldAddr ?_; exact ⟨[], rfl, rfl, rfl⟩)
    · rintro _ _ ⟨rfl, rfl⟩ -
      simp only [with2, Step2, nthDst, putO]
      ((first | refine op_load ?_ | refine op_load_agg ?_ | refine op_load ?_ (hm := Sub.mem (by assumption) (by (repeat (apply List.mem_cons_of_mem)); assumption)) | refine op_load_agg ?_ (hm := Sub.mem (by assumption) (by (repeat (apply List.mem_cons_of_mem)); assumption)) | refine op_loadH hG rfl ?_ | refine op_load_aggH hG rfl ?_); exact ⟨[], rfl, rfl, rfl⟩)
    · rintro _ _ ⟨ny, yr, ay, cy, rfl, ry⟩ - _ _ ⟨rfl, rfl⟩ -
      simp only [with2, Step2, nthDst, putO]
      (refine op_build ?_; exact ⟨[], rfl, _, _, _, _, rfl, ⟨ny, yr, ay, cy, rfl, ry⟩⟩)
    · rintro _ _ _ _ _ _ _ _ _ _ _ _ _ _ _ _ _ _ _ _ _ _ _ _ _ _ _ _ ⟨⟨bz, az, kz, cz, rfl, hz⟩, ⟨rfl, rfl⟩, ⟨rfl, rfl⟩, ⟨ny, yr, ay, cy, rfl, ry⟩, ⟨rfl, rfl⟩, ⟨rfl, rfl⟩, ⟨nz, zr, ar, cr, rfl, r⟩, ⟨rfl, rfl⟩, ⟨rfl, rfl⟩, ⟨rfl, rfl⟩, ⟨rfl, rfl⟩, ⟨rfl, rfl⟩, ⟨rfl, rfl⟩, ⟨rfl, rfl⟩, _⟩
      simp only [List.nil_append, List.cons_append, List.append_nil, List.drop_succ_cons, List.drop_zero, nthDst, putO]
      rename_i e1 e2 e3 _
      simp only [List.nil_append] at hz
      refine tl_cons_none ?_
      refine op_perm (mid3 _ _ _ (k4, _) _).symm ?_
      refine op_store0 ?_
      repeat' first
        | refine tc_seq ?_ | refine tc_region ?_ | refine at_seq_normal ?_ | refine tl_nil ?_ | refine tl_cons ?_ | refine tl_cons_none ?_ | refine op_assign ?_ | refine op_fieldAddr ?_ | refine op_load ?_ | refine op_load_agg ?_
        | refine op_icmp ?_ | refine op_iarith ?_ | refine op_build ?_ | (refine op_alloc ?_; intro _) | (refine op_box ?_; intro _) | refine op_store0 ?_ | refine op_store1 ?_ | refine op_store2 ?_ | refine op_store3 ?_ | refine op_store4 ?_
        | refine op_store5 ?_ | refine op_storeK rfl ?_ | refine op_loadK rfl ?_ | refine op_load_aggK rfl ?_ | refine tc_cond_t ?_ | refine tc_cond_f ?_ | refine tc_cond (fun _ => ?_) (fun _ => ?_) | refine tc_block ?_ | refine tc_skip ?_ | refine tc_ret ?_
        | refine at_seq_ret ?_ | refine at_block_normal ?_ | refine at_block_ret ?_
      refine ret_one (.agg (T := 68) (k := k4) (off := 0) (m := [.bool bz, .slice az kz cz, .int .i64 e]) rfl rfl mem0 rfl rfl) (hG := List.Sublist.refl _) (hk := ⟨_, ex3_eq _ _ _, ?_⟩)
      rw [hres]
      exact IsD.skip ⟨bz, az, kz, cz, rfl, hz⟩ (mid3_mem noU3)

set_option maxHeartbeats 8000000 in
theorem dSub (u v : Value) (n e m f : Int) (L M : Nat) (H : Heap) (hu : IsD n e L u H) (hv : IsD m f M v H) (hL : L < 2 ^ 28) (hM : M < 2 ^ 28) (he : -1000000 ≤ e ∧ e ≤ 1000000) (hf : -1000000 ≤ f ∧ f ≤ 1000000) :
    Does Try.prog 91 [u, v] H fun w H' => ∃ ex, H' = ex ++ H ∧ IsD (dAddN n e (-m) f).1 (dAddN n e (-m) f).2 (L + M + 70000) w H' := by
  have hu0 := hu
  have hv0 := hv
  obtain ⟨b, a, k, c, rfl, h1⟩ := hu
  obtain ⟨b2, a2, kk2, c2, rfl, h2⟩ := hv
  refine fn_enter 9 Try.func91 fun W => ?_
  generalize hE : (dAddN n e (-m) f).2 = E
  generalize hN : (dAddN n e (-m) f).1 = N
  repeat' first
    | refine tc_seq ?_ | refine tc_region ?_ | refine at_seq_normal ?_ | refine tl_nil ?_ | refine tl_cons ?_ | refine tl_cons_none ?_ | refine op_load ?_ | refine op_load_agg ?_ | (refine op_alloc ?_; intro _) | (refine op_box ?_; intro _)
    | refine op_store0 ?_ | refine op_store1 ?_ | refine op_store2 ?_ | refine op_store3 ?_ | refine op_store4 ?_ | refine op_store5 ?_ | refine op_storeK rfl ?_ | refine op_loadK rfl ?_ | refine op_load_aggK rfl ?_ | refine tc_ret ?_
    | refine at_seq_ret ?_
  rename_i k2 k3 k4
  apply fun hole0 hole1 hE hD hml hdl hpr prem fin => tc_drawn 4 [is hole0, is hole1, (fun w _ G => IsD (-m) f M w G), (fun w _ G => IsD N E (L + M + 70000) w G)]
    [some 5, some 6, some 7, some 8, none] [[], [], [1], [0, 2]] mixed ⟨(is_mono _), (is_mono _), (fun _ _ _ _ h hs => IsD.mono h hs), (fun _ _ _ _ h hs => IsD.mono h hs), trivial⟩ prem fin hE hD rfl hml hdl hpr
  rotate_left 3
  · first | kernel_rfl | exact rfl
  · first | kernel_rfl | exact rfl
  · exact Nat.le_of_ble_eq_true rfl
  · first | kernel_rfl | exact rfl
  · first | kernel_rfl | exact rfl
  refine ⟨fun G hG => ?_, fun G hG => ?_, fun G hG => ?_, fun G hG => ?_, trivial⟩
  · simp only [with2, Step2, nthDst, putO]
    ((first | refine op_load ?_ | refine op_load_agg ?_ | refine op_load ?_ (hm := Sub.mem (by assumption) (by (repeat (apply List.mem_cons_of_mem)); assumption)) | refine op_load_agg ?_ (hm := Sub.mem (by assumption) (by (repeat (apply List.mem_cons_of_mem)); assumption)) | refine op_loadH hG rfl ?_ | refine op_load_aggH hG rfl ?_); exact ⟨[], rfl, rfl, rfl⟩)
  · simp only [with2, Step2, nthDst, putO]
    ((first | refine op_load ?_ | refine op_load_agg ?_ | refine op_load ?_ (hm := Sub.mem (by assumption) (by (repeat (apply List.mem_cons_of_mem)); assumption)) | refine op_load_agg ?_ (hm := Sub.mem (by assumption) (by (repeat (apply List.mem_cons_of_mem)); assumption)) | refine op_loadH hG rfl ?_ | refine op_load_aggH hG rfl ?_); exact ⟨[], rfl, rfl, rfl⟩)
  · rintro _ _ ⟨rfl, rfl⟩ -
    simp only [with2, Step2, nthDst, putO]
    (refine op_call ((dMinus _ m f M _ (hv0.mono fun e he => hG e (by simp [he]))).mono ?_); rintro w _ ⟨ex, rfl, hw⟩; exact ⟨ex, rfl, hw⟩)
  · rintro _ _ ⟨rfl, rfl⟩ - _ _ g2 -
    simp only [with2, Step2, nthDst, putO]
    (refine op_call ((dAdd _ _ n e (-m) f L M _ (hu0.mono fun e he => hG e (by simp [he])) g2 hL hM he hf).mono ?_); rintro w _ ⟨ex, rfl, hw⟩; rw [hN, hE] at hw; exact ⟨ex, rfl, hw⟩)
  · rintro _ _ _ _ _ _ _ _ ⟨⟨bz, az, kz, cz, rfl, hz⟩, g2, ⟨rfl, rfl⟩, ⟨rfl, rfl⟩, _⟩
    simp only [List.nil_append, List.cons_append, List.append_nil, List.drop_succ_cons, List.drop_zero, nthDst, putO]
    rename_i e1 e2 _
    simp only [List.nil_append] at hz
    refine tl_cons_none ?_
    refine op_perm (mid2 _ _ (k4, _) _).symm ?_
    refine op_store0 ?_
    repeat' first
      | refine tc_seq ?_ | refine tc_region ?_ | refine at_seq_normal ?_ | refine tl_nil ?_ | refine tl_cons ?_ | refine tl_cons_none ?_ | refine op_load ?_ | refine op_load_agg ?_ | (refine op_alloc ?_; intro _) | (refine op_box ?_; intro _)
      | refine op_store0 ?_ | refine op_store1 ?_ | refine op_store2 ?_ | refine op_store3 ?_ | refine op_store4 ?_ | refine op_store5 ?_ | refine op_storeK rfl ?_ | refine op_loadK rfl ?_ | refine op_load_aggK rfl ?_ | refine tc_ret ?_
      | refine at_seq_ret ?_
    refine ret_one (.agg (T := 68) (k := k4) (off := 0) (m := [.bool bz, .slice az kz cz, .int .i64 E]) rfl rfl mem0 rfl rfl) (hG := List.Sublist.refl _) (hk := ⟨_, ex2_eq _ _, ?_⟩)
    exact IsD.skip ⟨bz, az, kz, cz, rfl, hz⟩ (mid2_mem noU3)
end Go.Proofs.Ytomhkbijijdghaa.Lmb

set_option linter.unusedVariables false
set_option linter.unusedSimpArgs false
namespace Go.Proofs.Ytomhkbijijdghaa.Lmb
open Go.Lg

set_option maxHeartbeats 8000000 in
theorem wholeOf (n : Int) (H : Heap) (h0 : -4611686018427387904 < n) (h1 : n < 4611686018427387904) : Does Try.prog 98 [.int .i64 n] H fun w H' => ∃ ex, H' = ex ++ H ∧ IsW n 2 w H' := by
  obtain ⟨m, hm⟩ : ∃ m : Nat, m = n.natAbs := ⟨_, rfl⟩
  have e5 : IntKind.u32.wrap ((m : Nat) : Int) = ((m % 4294967296 : Nat) : Int) := by rw [wrap_u32 (by omega)]; omega
  have e6 : Int.fdiv ((m : Nat) : Int) (2 ^ min (32 : Int).toNat IntKind.u64.bits) = ((m / 4294967296 : Nat) : Int) := by
    show Int.fdiv ((m : Nat) : Int) ((4294967296 : Nat) : Int) = _
    rw [Int.fdiv_eq_ediv_of_nonneg _ (by omega)]; rfl
  have e7 : IntKind.u32.wrap ((m / 4294967296 : Nat) : Int) = ((m / 4294967296 : Nat) : Int) := by rw [wrap_u32 (by omega)]; omega
  have hlm : Lm [m % 4294967296, m / 4294967296] := fun x hx => by
    simp only [List.mem_cons, List.not_mem_nil, or_false] at hx
    rcases hx with rfl | rfl <;> omega
  have hlv : lv [m % 4294967296, m / 4294967296] = m := by simp only [lv, Nat.mul_zero, Nat.add_zero]; omega
  have htr : ∀ (kn : Nat) (G : Heap) T fz, (kn, Obj.cells ⟨[.int .u32 ((m % 4294967296 : Nat) : Int), .int .u32 ((m / 4294967296 : Nat) : Int)]⟩ T fz) ∈ G → Does Try.prog 127 [.slice (some ⟨kn, 0, none⟩) 2 2] G
      fun w H' => ∃ q, w = .slice (some ⟨kn, 0, none⟩) q 2 ∧ H' = G ∧ q ≤ 2 ∧ Nrm ([m % 4294967296, m / 4294967296].take q) ∧ lv ([m % 4294967296, m / 4294967296].take q) = m := by
    intro kn G T fz hG
    have := trim (some ⟨kn, 0, none⟩) 2 [m % 4294967296, m / 4294967296] G (us_mem hG) (by simp only [List.length_cons, List.length_nil]; omega)
    rw [hlv] at this
    exact this
  refine fn_enter 20 Try.func98 fun W => ?_
  by_cases hn : n < 0
  · have hc : icmp .lss n 0 = true := by simp only [icmp, decide_eq_true_eq]; omega
    have e1 : IntKind.u64.wrap n = ((18446744073709551616 - m : Nat) : Int) := by
      simp only [IntKind.wrap, IntKind.bits, IntKind.signed]; simp; omega
    have e2 : IntKind.u64.wrap (0 - ((18446744073709551616 - m : Nat) : Int)) = ((m : Nat) : Int) := by
      simp only [IntKind.wrap, IntKind.bits, IntKind.signed]; simp; omega
    repeat' first
      | (rw [e1])
      | (rw [e2])
      | (rw [e5])
      | (rw [e6])
      | (rw [e7])
      | refine op_itoi ?_
      | refine op_shr (v := 32) ?_
      | (refine op_buildSlice (fun kn => ?_))
      | (refine op_call ((htr _ _ _ _ List.mem_cons_self).mono ?_); rintro _ _ ⟨q, rfl, rfl, hq, hnr, hl⟩)
      | refine op_build ?_
      | (first | refine tc_seq ?_ | refine tc_region ?_ | refine at_seq_normal ?_ | refine tl_nil ?_ | refine tl_cons ?_ | refine tl_cons_none ?_ | refine op_move ?_ | refine op_assign ?_ | refine op_icmp ?_ | refine op_unop_neg_float ?_ | refine op_unop_neg_int ?_ | refine op_build ?_ | refine op_itof ?_ | refine op_itoi ?_ | refine op_ftoi ?_ | refine op_shr ?_ | (refine op_alloc ?_; intro _) | (refine op_buildSlice ?_; intro _) | refine op_store0 ?_ | refine op_store1 ?_ | refine op_store2 ?_ | refine op_store3 ?_ | refine op_store4 ?_ | refine op_store5 ?_ | refine op_storeK rfl ?_ | refine tc_cond_t ?_ | refine tc_cond_f ?_ | refine tc_cond (fun _ => ?_) (fun _ => ?_) | refine tc_skip ?_ | refine tc_ret ?_ | refine at_seq_ret ?_ | fail)
      | fail
    rename_i k2
    have hlen : ([m % 4294967296, m / 4294967296].take q).length = q := by rw [List.length_take]; exact Nat.min_eq_left hq
    refine ret_one (.agg (T := 66) (k := k2) (off := 0) (m := [.bool (icmp .lss n 0), .slice (some ⟨kn, 0, none⟩) q 2]) rfl rfl mem1 rfl rfl) (hG := List.Sublist.refl _) (hk := ⟨[_, _], rfl, icmp .lss n 0, [m % 4294967296, m / 4294967296].take q, some ⟨kn, 0, none⟩, 2, ?_, ?_, hlm.take q, hnr, ?_, (fun _ => by rw [hl]; omega), by rw [hlen]; exact hq⟩)
    · rw [hlen]
    · rw [hlen]; exact US.take (n := 2) (zs := [m % 4294967296, m / 4294967296]) (us_mem (k := kn) (zs := [m % 4294967296, m / 4294967296]) (T := 189) (fz := (0, 0)) (by simp [uv])) hq
    · rw [hc, nval, if_pos rfl, hl]; omega
  · have hc : icmp .lss n 0 = false := by simp only [icmp, decide_eq_false_iff_not]; omega
    have e1 : IntKind.u64.wrap n = ((m : Nat) : Int) := by rw [wrap_u64 (by omega) (by omega)]; omega
    repeat' first
      | (rw [e1])
      | (rw [e5])
      | (rw [e6])
      | (rw [e7])
      | refine op_itoi ?_
      | refine op_shr (v := 32) ?_
      | (refine op_buildSlice (fun kn => ?_))
      | (refine op_call ((htr _ _ _ _ List.mem_cons_self).mono ?_); rintro _ _ ⟨q, rfl, rfl, hq, hnr, hl⟩)
      | refine op_build ?_
      | (first | refine tc_seq ?_ | refine tc_region ?_ | refine at_seq_normal ?_ | refine tl_nil ?_ | refine tl_cons ?_ | refine tl_cons_none ?_ | refine op_move ?_ | refine op_assign ?_ | refine op_icmp ?_ | refine op_unop_neg_float ?_ | refine op_unop_neg_int ?_ | refine op_build ?_ | refine op_itof ?_ | refine op_itoi ?_ | refine op_ftoi ?_ | refine op_shr ?_ | (refine op_alloc ?_; intro _) | (refine op_buildSlice ?_; intro _) | refine op_store0 ?_ | refine op_store1 ?_ | refine op_store2 ?_ | refine op_store3 ?_ | refine op_store4 ?_ | refine op_store5 ?_ | refine op_storeK rfl ?_ | refine tc_cond_t ?_ | refine tc_cond_f ?_ | refine tc_cond (fun _ => ?_) (fun _ => ?_) | refine tc_skip ?_ | refine tc_ret ?_ | refine at_seq_ret ?_ | fail)
      | fail
    rename_i k2
    have hlen : ([m % 4294967296, m / 4294967296].take q).length = q := by rw [List.length_take]; exact Nat.min_eq_left hq
    refine ret_one (.agg (T := 66) (k := k2) (off := 0) (m := [.bool (icmp .lss n 0), .slice (some ⟨kn, 0, none⟩) q 2]) rfl rfl mem1 rfl rfl) (hG := List.Sublist.refl _) (hk := ⟨[_, _], rfl, icmp .lss n 0, [m % 4294967296, m / 4294967296].take q, some ⟨kn, 0, none⟩, 2, ?_, ?_, hlm.take q, hnr, ?_, (fun hb => by rw [hc] at hb; cases hb), by rw [hlen]; exact hq⟩)
    · rw [hlen]
    · rw [hlen]; exact US.take (n := 2) (zs := [m % 4294967296, m / 4294967296]) (us_mem (k := kn) (zs := [m % 4294967296, m / 4294967296]) (T := 189) (fz := (0, 0)) (by simp [uv])) hq
    · rw [hc, nval, if_neg (by decide), hl]; omega

theorem ibits_and {a p : Nat} (hp : p < 64) (ha : a < 18446744073709551616) : ibits .and .u64 ((a : Nat) : Int) ((2 ^ p - 1 : Nat) : Int) = ((a % 2 ^ p : Nat) : Int) := by
  have hpp : 2 ^ p - 1 < 18446744073709551616 := by
    have : 2 ^ p ≤ 2 ^ 63 := Nat.pow_le_pow_right (by decide) (by omega)
    omega
  show IntKind.u64.wrap (((BitVec.ofInt 64 ((a : Nat) : Int) &&& BitVec.ofInt 64 ((2 ^ p - 1 : Nat) : Int) : BitVec 64).toNat : Nat) : Int) = _
  rw [BitVec.ofInt_natCast, BitVec.ofInt_natCast, BitVec.toNat_and, BitVec.toNat_ofNat, BitVec.toNat_ofNat, Nat.mod_eq_of_lt (by omega), Nat.mod_eq_of_lt (by omega), Nat.and_two_pow_sub_one_eq_mod]
  have := Nat.mod_le a (2 ^ p)
  exact wrap_u64 (by omega) (by omega)

/-- What a float's word stands for. -/
theorem word_val {x : Nat} {q : Rat} (h : Fv x q) (hx : x < 18446744073709551616) : x / 4503599627370496 % 2048 ≠ 2047 ∧
    q = ((((if x / 9223372036854775808 = 1 then -1 else 1) * ((if x / 4503599627370496 % 2048 = 0 then x % 4503599627370496 else 4503599627370496 + x % 4503599627370496 : Nat) : Int) : Int)) : Rat) * p2 ((if x / 4503599627370496 % 2048 = 0 then 1 else ((x / 4503599627370496 % 2048 : Nat) : Int)) - 1075) := by
  obtain ⟨s, m, e, hr, hq⟩ := h
  have hread : Ieee.double.read x = (if x % 9223372036854775808 < 4503599627370496 then
      Ieee.Datum.number (x / 9223372036854775808 % 2 == 1) (x % 9223372036854775808) (-1074)
    else if x % 9223372036854775808 < 9218868437227405312 then
      Ieee.Datum.number (x / 9223372036854775808 % 2 == 1) (4503599627370496 + x % 9223372036854775808 % 4503599627370496) (-1074 + ((x % 9223372036854775808 / 4503599627370496 - 1 : Nat) : Int))
    else if x % 9223372036854775808 = 9218868437227405312 then Ieee.Datum.infinity (x / 9223372036854775808 % 2 == 1)
    else Ieee.Datum.nan (x / 9223372036854775808 % 2 == 1) (x % 9223372036854775808 - 9218868437227405312)) := rfl
  rw [hread] at hr
  have hs2 : ∀ b : Bool, (x / 9223372036854775808 % 2 == 1) = b → sgn b = (((if x / 9223372036854775808 = 1 then -1 else 1 : Int)) : Rat) := by
    intro b hb
    by_cases h1 : x / 9223372036854775808 = 1
    · rw [if_pos h1]; rw [h1] at hb; subst hb; unfold sgn; simp
    · have h0 : x / 9223372036854775808 = 0 := by omega
      rw [if_neg h1]; rw [h0] at hb; subst hb; unfold sgn; simp
  by_cases c1 : x % 9223372036854775808 < 4503599627370496
  · rw [if_pos c1] at hr; cases hr
    have h0 : x / 4503599627370496 % 2048 = 0 := by omega
    refine ⟨by omega, ?_⟩
    rw [if_pos h0, if_pos h0, hq, hs2 _ rfl, Rat.intCast_mul, Rat.intCast_natCast, show x % 9223372036854775808 = x % 4503599627370496 by omega]
    rfl
  · rw [if_neg c1] at hr
    by_cases c2 : x % 9223372036854775808 < 9218868437227405312
    · rw [if_pos c2] at hr; cases hr
      have h0 : x / 4503599627370496 % 2048 ≠ 0 := by omega
      refine ⟨by omega, ?_⟩
      rw [if_neg h0, if_neg h0, hq, hs2 _ rfl, Rat.intCast_mul, Rat.intCast_natCast, show x % 9223372036854775808 % 4503599627370496 = x % 4503599627370496 by omega,
        show (-1074 + ((x % 9223372036854775808 / 4503599627370496 - 1 : Nat) : Int)) = ((x / 4503599627370496 % 2048 : Nat) : Int) - 1075 by omega]
    · rw [if_neg c2] at hr
      by_cases c3 : x % 9223372036854775808 = 9218868437227405312
      · rw [if_pos c3] at hr; cases hr
      · rw [if_neg c3] at hr; cases hr
end Go.Proofs.Ytomhkbijijdghaa.Lmb

set_option linter.unusedVariables false
set_option linter.unusedSimpArgs false
namespace Go.Proofs.Ytomhkbijijdghaa.Lmb
open Go.Lg

theorem neg_wrap {t : Nat} (h : t ≤ 9007199254740992) : IntKind.i64.wrap (0 - ((t : Nat) : Int)) = -((t : Nat) : Int) := by
  have : (0 : Int) - ((t : Nat) : Int) = -((t : Nat) : Int) := Int.zero_sub _
  rw [this]
  exact wrap_in (by omega) (by omega)
/-- What the word's parts are, as0 the code takes them out. -/
structure DyF (x mm ee ss : Nat) : Prop where
  e1 : ibits .and .u64 ((x : Nat) : Int) 4503599627370495 = ((mm : Nat) : Int)
  e2 : IntKind.i64.wrap ((mm : Nat) : Int) = ((mm : Nat) : Int)
  e3 : Int.fdiv ((x : Nat) : Int) (2 ^ min (52 : Int).toNat IntKind.u64.bits) = ((x / 4503599627370496 : Nat) : Int)
  e4 : ibits .and .u64 ((x / 4503599627370496 : Nat) : Int) 2047 = ((ee : Nat) : Int)
  e5 : IntKind.i64.wrap ((ee : Nat) : Int) = ((ee : Nat) : Int)
  e6 : Int.fdiv ((x : Nat) : Int) (2 ^ min (63 : Int).toNat IntKind.u64.bits) = ((ss : Nat) : Int)
theorem dyF (x : Nat) (hx : x < 18446744073709551616) : DyF x (x % 4503599627370496) (x / 4503599627370496 % 2048) (x / 9223372036854775808) where
  e1 := ibits_and (p := 52) (by decide) hx
  e2 := wrap_in (by omega) (by omega)
  e3 := by
    show Int.fdiv ((x : Nat) : Int) ((4503599627370496 : Nat) : Int) = _
    rw [Int.fdiv_eq_ediv_of_nonneg _ (by omega)]; rfl
  e4 := ibits_and (p := 11) (by decide) (by omega)
  e5 := wrap_in (by omega) (by omega)
  e6 := by
    show Int.fdiv ((x : Nat) : Int) ((9223372036854775808 : Nat) : Int) = _
    rw [Int.fdiv_eq_ediv_of_nonneg _ (by omega)]; rfl
theorem dyAdd {mm : Nat} (h : mm < 4503599627370496) : IntKind.i64.wrap (iarith .add ((mm : Nat) : Int) 4503599627370496) = ((4503599627370496 + mm : Nat) : Int) := by rw [wrap_add (by omega) (by omega)]; omega
theorem dyE1 : IntKind.i64.wrap (iarith .sub 1 1075) = (-1074 : Int) := by rw [wrap_sub (by omega) (by omega)]; rfl
theorem dyE2 {ee : Nat} (h : ee < 2048) : IntKind.i64.wrap (iarith .sub ((ee : Nat) : Int) 1075) = ((ee : Nat) : Int) - 1075 := wrap_sub (by omega) (by omega)
theorem eqlF {a : Nat} {b : Int} (h : (a : Int) ≠ b) : icmp .eql ((a : Nat) : Int) b = false := by simp only [icmp, beq_eq_false_iff_ne]; exact h
theorem eqlT {a : Nat} {b : Int} (h : (a : Int) = b) : icmp .eql ((a : Nat) : Int) b = true := by simp only [icmp, beq_iff_eq]; exact h
set_option maxHeartbeats 16000000 in
theorem dyWalk00 (x mm ee ss : Nat) (H : Heap) (F : DyF x mm ee ss) (bm : mm < 4503599627370496) (be : ee < 2048) (c1 : icmp .eql ((ee : Nat) : Int) 2047 = false) (c2 : icmp .eql ((ee : Nat) : Int) 0 = true) (c3 : icmp .eql ((ss : Nat) : Int) 1 = true) :
    Does Try.prog 102 [.float .f64 x] H fun w H' => ∃ ex, H' = ex ++ H ∧ IsD (-((mm : Nat) : Int)) (-1074) 2 w H' := by
  have a1 := F.e1
  have a2 := F.e2
  have a3 := F.e3
  have a4 := F.e4
  have a5 := F.e5
  have a6 := F.e6
  have a8 := dyAdd bm
  have a9 := neg_wrap (t := mm) (by clear F a1 a2 a3 a4 a5 a6 a8; omega)
  have a10 := dyE1
  have w1 : -4611686018427387904 < -((mm : Nat) : Int) := by clear a1 a2 a3 a4 a5 a6 a8 a9 a10 c1 c2 c3 F; omega
  have w2 : -((mm : Nat) : Int) < 4611686018427387904 := by clear a1 a2 a3 a4 a5 a6 a8 a9 a10 c1 c2 c3 F; omega
  refine fn_enter 33 Try.func102 fun W => ?_
  repeat' first
    | (rw [a1])
    | (rw [a2])
    | (rw [a3])
    | (rw [a4])
    | (rw [a5])
    | (rw [a6])
    | (rw [a8])
    | (rw [a9])
    | (rw [a10])
    | (rw [c1])
    | (rw [c2])
    | (rw [c3])
    | refine tc_cond_true ?_
    | refine tc_cond_false ?_
    | refine op_itoi ?_
    | refine op_shr (v := 52) ?_
    | refine op_shr (v := 63) ?_
    | refine op_ibits ?_
    | (refine op_call ((Go.Proofs.Ytomhkbijijdghaa.Flat.bits _ _).mono ?_); rintro _ _ ⟨rfl, rfl⟩)
    | (refine op_call ((wholeOf (-((mm : Nat) : Int)) _ w1 w2).mono ?_); rintro _ _ ⟨ex, rfl, nz, zr, ar, cr, rfl, hw⟩)
    | refine tc_seq ?_
    | refine tc_region ?_
    | refine tc_block ?_
    | refine tc_skip ?_
    | refine tc_exit ?_
    | refine tc_ret ?_
    | refine at_seq_normal ?_
    | refine at_seq_exit ?_
    | refine at_seq_ret ?_
    | refine at_block_normal ?_
    | refine at_block_ret ?_
    | refine at_block_exit_self ?_
    | refine at_block_exit_ne ?_
    | refine tl_nil ?_
    | refine tl_cons ?_
    | refine tl_cons_none ?_
    | refine op_move ?_
    | refine op_assign ?_
    | refine op_alloc (fun k2 => ?_)
    | refine op_icmp ?_
    | refine op_iarith ?_
    | refine op_unop_neg_int ?_
    | refine op_build ?_
    | refine op_store0 ?_
    | refine op_store1 ?_
    | fail
  refine op_perm (mid2 [] _ (k2, _) _).symm ?_
  refine op_store0 ?_
  repeat' first | refine tl_nil ?_ | refine at_seq_normal ?_ | refine tc_ret ?_
  refine ret_one (.agg (T := 68) (k := k2) (off := 0) (m := [.bool nz, .slice ar zr.length cr, .int .i64 (-1074)]) rfl rfl mem0 rfl rfl) (hG := List.Sublist.refl _) (hk := ⟨_ :: ex, rfl, ?_⟩)
  exact IsD.skip ⟨nz, ar, zr.length, cr, rfl, nz, zr, ar, cr, rfl, hw⟩ (mid2_mem (e2 := []) noU3)
set_option maxHeartbeats 16000000 in
theorem dyWalk01 (x mm ee ss : Nat) (H : Heap) (F : DyF x mm ee ss) (bm : mm < 4503599627370496) (be : ee < 2048) (c1 : icmp .eql ((ee : Nat) : Int) 2047 = false) (c2 : icmp .eql ((ee : Nat) : Int) 0 = true) (c3 : icmp .eql ((ss : Nat) : Int) 1 = false) :
    Does Try.prog 102 [.float .f64 x] H fun w H' => ∃ ex, H' = ex ++ H ∧ IsD (((mm : Nat) : Int)) (-1074) 2 w H' := by
  have a1 := F.e1
  have a2 := F.e2
  have a3 := F.e3
  have a4 := F.e4
  have a5 := F.e5
  have a6 := F.e6
  have a8 := dyAdd bm
  have a9 : True := trivial
  have a10 := dyE1
  have w1 : -4611686018427387904 < ((mm : Nat) : Int) := by clear a1 a2 a3 a4 a5 a6 a8 a9 a10 c1 c2 c3 F; omega
  have w2 : ((mm : Nat) : Int) < 4611686018427387904 := by clear a1 a2 a3 a4 a5 a6 a8 a9 a10 c1 c2 c3 F; omega
  refine fn_enter 33 Try.func102 fun W => ?_
  repeat' first
    | (rw [a1])
    | (rw [a2])
    | (rw [a3])
    | (rw [a4])
    | (rw [a5])
    | (rw [a6])
    | (rw [a8])
    | (rw [a10])
    | (rw [c1])
    | (rw [c2])
    | (rw [c3])
    | refine tc_cond_true ?_
    | refine tc_cond_false ?_
    | refine op_itoi ?_
    | refine op_shr (v := 52) ?_
    | refine op_shr (v := 63) ?_
    | refine op_ibits ?_
    | (refine op_call ((Go.Proofs.Ytomhkbijijdghaa.Flat.bits _ _).mono ?_); rintro _ _ ⟨rfl, rfl⟩)
    | (refine op_call ((wholeOf (((mm : Nat) : Int)) _ w1 w2).mono ?_); rintro _ _ ⟨ex, rfl, nz, zr, ar, cr, rfl, hw⟩)
    | refine tc_seq ?_
    | refine tc_region ?_
    | refine tc_block ?_
    | refine tc_skip ?_
    | refine tc_exit ?_
    | refine tc_ret ?_
    | refine at_seq_normal ?_
    | refine at_seq_exit ?_
    | refine at_seq_ret ?_
    | refine at_block_normal ?_
    | refine at_block_ret ?_
    | refine at_block_exit_self ?_
    | refine at_block_exit_ne ?_
    | refine tl_nil ?_
    | refine tl_cons ?_
    | refine tl_cons_none ?_
    | refine op_move ?_
    | refine op_assign ?_
    | refine op_alloc (fun k2 => ?_)
    | refine op_icmp ?_
    | refine op_iarith ?_
    | refine op_unop_neg_int ?_
    | refine op_build ?_
    | refine op_store0 ?_
    | refine op_store1 ?_
    | fail
  refine op_perm (mid2 [] _ (k2, _) _).symm ?_
  refine op_store0 ?_
  repeat' first | refine tl_nil ?_ | refine at_seq_normal ?_ | refine tc_ret ?_
  refine ret_one (.agg (T := 68) (k := k2) (off := 0) (m := [.bool nz, .slice ar zr.length cr, .int .i64 (-1074)]) rfl rfl mem0 rfl rfl) (hG := List.Sublist.refl _) (hk := ⟨_ :: ex, rfl, ?_⟩)
  exact IsD.skip ⟨nz, ar, zr.length, cr, rfl, nz, zr, ar, cr, rfl, hw⟩ (mid2_mem (e2 := []) noU3)
set_option maxHeartbeats 16000000 in
theorem dyWalk10 (x mm ee ss : Nat) (H : Heap) (F : DyF x mm ee ss) (bm : mm < 4503599627370496) (be : ee < 2048) (c1 : icmp .eql ((ee : Nat) : Int) 2047 = false) (c2 : icmp .eql ((ee : Nat) : Int) 0 = false) (c3 : icmp .eql ((ss : Nat) : Int) 1 = true) :
    Does Try.prog 102 [.float .f64 x] H fun w H' => ∃ ex, H' = ex ++ H ∧ IsD (-((4503599627370496 + mm : Nat) : Int)) (((ee : Nat) : Int) - 1075) 2 w H' := by
  have a1 := F.e1
  have a2 := F.e2
  have a3 := F.e3
  have a4 := F.e4
  have a5 := F.e5
  have a6 := F.e6
  have a8 := dyAdd bm
  have a9 := neg_wrap (t := 4503599627370496 + mm) (by clear F a1 a2 a3 a4 a5 a6 a8; omega)
  have a10 := dyE2 be
  have w1 : -4611686018427387904 < -((4503599627370496 + mm : Nat) : Int) := by clear a1 a2 a3 a4 a5 a6 a8 a9 a10 c1 c2 c3 F; omega
  have w2 : -((4503599627370496 + mm : Nat) : Int) < 4611686018427387904 := by clear a1 a2 a3 a4 a5 a6 a8 a9 a10 c1 c2 c3 F; omega
  refine fn_enter 33 Try.func102 fun W => ?_
  repeat' first
    | (rw [a1])
    | (rw [a2])
    | (rw [a3])
    | (rw [a4])
    | (rw [a5])
    | (rw [a6])
    | (rw [a8])
    | (rw [a9])
    | (rw [a10])
    | (rw [c1])
    | (rw [c2])
    | (rw [c3])
    | refine tc_cond_true ?_
    | refine tc_cond_false ?_
    | refine op_itoi ?_
    | refine op_shr (v := 52) ?_
    | refine op_shr (v := 63) ?_
    | refine op_ibits ?_
    | (refine op_call ((Go.Proofs.Ytomhkbijijdghaa.Flat.bits _ _).mono ?_); rintro _ _ ⟨rfl, rfl⟩)
    | (refine op_call ((wholeOf (-((4503599627370496 + mm : Nat) : Int)) _ w1 w2).mono ?_); rintro _ _ ⟨ex, rfl, nz, zr, ar, cr, rfl, hw⟩)
    | refine tc_seq ?_
    | refine tc_region ?_
    | refine tc_block ?_
    | refine tc_skip ?_
    | refine tc_exit ?_
    | refine tc_ret ?_
    | refine at_seq_normal ?_
    | refine at_seq_exit ?_
    | refine at_seq_ret ?_
    | refine at_block_normal ?_
    | refine at_block_ret ?_
    | refine at_block_exit_self ?_
    | refine at_block_exit_ne ?_
    | refine tl_nil ?_
    | refine tl_cons ?_
    | refine tl_cons_none ?_
    | refine op_move ?_
    | refine op_assign ?_
    | refine op_alloc (fun k2 => ?_)
    | refine op_icmp ?_
    | refine op_iarith ?_
    | refine op_unop_neg_int ?_
    | refine op_build ?_
    | refine op_store0 ?_
    | refine op_store1 ?_
    | fail
  refine op_perm (mid2 [] _ (k2, _) _).symm ?_
  refine op_store0 ?_
  repeat' first | refine tl_nil ?_ | refine at_seq_normal ?_ | refine tc_ret ?_
  refine ret_one (.agg (T := 68) (k := k2) (off := 0) (m := [.bool nz, .slice ar zr.length cr, .int .i64 (((ee : Nat) : Int) - 1075)]) rfl rfl mem0 rfl rfl) (hG := List.Sublist.refl _) (hk := ⟨_ :: ex, rfl, ?_⟩)
  exact IsD.skip ⟨nz, ar, zr.length, cr, rfl, nz, zr, ar, cr, rfl, hw⟩ (mid2_mem (e2 := []) noU3)
set_option maxHeartbeats 16000000 in
theorem dyWalk11 (x mm ee ss : Nat) (H : Heap) (F : DyF x mm ee ss) (bm : mm < 4503599627370496) (be : ee < 2048) (c1 : icmp .eql ((ee : Nat) : Int) 2047 = false) (c2 : icmp .eql ((ee : Nat) : Int) 0 = false) (c3 : icmp .eql ((ss : Nat) : Int) 1 = false) :
    Does Try.prog 102 [.float .f64 x] H fun w H' => ∃ ex, H' = ex ++ H ∧ IsD (((4503599627370496 + mm : Nat) : Int)) (((ee : Nat) : Int) - 1075) 2 w H' := by
  have a1 := F.e1
  have a2 := F.e2
  have a3 := F.e3
  have a4 := F.e4
  have a5 := F.e5
  have a6 := F.e6
  have a8 := dyAdd bm
  have a9 : True := trivial
  have a10 := dyE2 be
  have w1 : -4611686018427387904 < ((4503599627370496 + mm : Nat) : Int) := by clear a1 a2 a3 a4 a5 a6 a8 a9 a10 c1 c2 c3 F; omega
  have w2 : ((4503599627370496 + mm : Nat) : Int) < 4611686018427387904 := by clear a1 a2 a3 a4 a5 a6 a8 a9 a10 c1 c2 c3 F; omega
  refine fn_enter 33 Try.func102 fun W => ?_
  repeat' first
    | (rw [a1])
    | (rw [a2])
    | (rw [a3])
    | (rw [a4])
    | (rw [a5])
    | (rw [a6])
    | (rw [a8])
    | (rw [a10])
    | (rw [c1])
    | (rw [c2])
    | (rw [c3])
    | refine tc_cond_true ?_
    | refine tc_cond_false ?_
    | refine op_itoi ?_
    | refine op_shr (v := 52) ?_
    | refine op_shr (v := 63) ?_
    | refine op_ibits ?_
    | (refine op_call ((Go.Proofs.Ytomhkbijijdghaa.Flat.bits _ _).mono ?_); rintro _ _ ⟨rfl, rfl⟩)
    | (refine op_call ((wholeOf (((4503599627370496 + mm : Nat) : Int)) _ w1 w2).mono ?_); rintro _ _ ⟨ex, rfl, nz, zr, ar, cr, rfl, hw⟩)
    | refine tc_seq ?_
    | refine tc_region ?_
    | refine tc_block ?_
    | refine tc_skip ?_
    | refine tc_exit ?_
    | refine tc_ret ?_
    | refine at_seq_normal ?_
    | refine at_seq_exit ?_
    | refine at_seq_ret ?_
    | refine at_block_normal ?_
    | refine at_block_ret ?_
    | refine at_block_exit_self ?_
    | refine at_block_exit_ne ?_
    | refine tl_nil ?_
    | refine tl_cons ?_
    | refine tl_cons_none ?_
    | refine op_move ?_
    | refine op_assign ?_
    | refine op_alloc (fun k2 => ?_)
    | refine op_icmp ?_
    | refine op_iarith ?_
    | refine op_unop_neg_int ?_
    | refine op_build ?_
    | refine op_store0 ?_
    | refine op_store1 ?_
    | fail
  refine op_perm (mid2 [] _ (k2, _) _).symm ?_
  refine op_store0 ?_
  repeat' first | refine tl_nil ?_ | refine at_seq_normal ?_ | refine tc_ret ?_
  refine ret_one (.agg (T := 68) (k := k2) (off := 0) (m := [.bool nz, .slice ar zr.length cr, .int .i64 (((ee : Nat) : Int) - 1075)]) rfl rfl mem0 rfl rfl) (hG := List.Sublist.refl _) (hk := ⟨_ :: ex, rfl, ?_⟩)
  exact IsD.skip ⟨nz, ar, zr.length, cr, rfl, nz, zr, ar, cr, rfl, hw⟩ (mid2_mem (e2 := []) noU3)

theorem dyadicOf (x : Nat) (q : Rat) (H : Heap) (hq : Fv x q) (hx : x < 18446744073709551616) : Does Try.prog 102 [.float .f64 x] H fun w H' => ∃ ex n e, H' = ex ++ H ∧ IsD n e 2 w H' ∧ q = (n : Rat) * p2 e ∧ -1074 ≤ e ∧ e ≤ 971 := by
  obtain ⟨hv1, hv2⟩ := word_val hq hx
  have F := dyF x hx
  have bm : x % 4503599627370496 < 4503599627370496 := Nat.mod_lt _ (by decide)
  have be : x / 4503599627370496 % 2048 < 2048 := Nat.mod_lt _ (by decide)
  have bs : x / 9223372036854775808 ≤ 1 := by omega
  generalize x % 4503599627370496 = mm at *
  generalize x / 4503599627370496 % 2048 = ee at *
  generalize x / 9223372036854775808 = ss at *
  have c1 : icmp .eql ((ee : Nat) : Int) 2047 = false := eqlF (by clear hv2 F; omega)
  by_cases h0 : ee = 0
  · rw [if_pos h0, if_pos h0] at hv2
    have c2 : icmp .eql ((ee : Nat) : Int) 0 = true := eqlT (by clear hv2 F; omega)
    by_cases h1 : ss = 1
    · rw [if_pos h1] at hv2
      have c3 : icmp .eql ((ss : Nat) : Int) 1 = true := eqlT (by clear hv2 F; omega)
      refine (dyWalk00 x mm ee ss H F bm be c1 c2 c3).mono ?_
      rintro w H' ⟨ex, rfl, hd⟩
      refine ⟨ex, _, _, rfl, hd, ?_, by decide, by decide⟩
      rw [hv2, Int.neg_one_mul]; rfl
    · rw [if_neg h1] at hv2
      have c3 : icmp .eql ((ss : Nat) : Int) 1 = false := eqlF (by clear hv2 F; omega)
      refine (dyWalk01 x mm ee ss H F bm be c1 c2 c3).mono ?_
      rintro w H' ⟨ex, rfl, hd⟩
      refine ⟨ex, _, _, rfl, hd, ?_, by decide, by decide⟩
      rw [hv2, Int.one_mul]; rfl
  · rw [if_neg h0, if_neg h0] at hv2
    have c2 : icmp .eql ((ee : Nat) : Int) 0 = false := eqlF (by clear hv2 F; omega)
    by_cases h1 : ss = 1
    · rw [if_pos h1] at hv2
      have c3 : icmp .eql ((ss : Nat) : Int) 1 = true := eqlT (by clear hv2 F; omega)
      refine (dyWalk10 x mm ee ss H F bm be c1 c2 c3).mono ?_
      rintro w H' ⟨ex, rfl, hd⟩
      refine ⟨ex, _, _, rfl, hd, ?_, by clear hv2 F; omega, by clear hv2 F; omega⟩
      rw [hv2, Int.neg_one_mul]
    · rw [if_neg h1] at hv2
      have c3 : icmp .eql ((ss : Nat) : Int) 1 = false := eqlF (by clear hv2 F; omega)
      refine (dyWalk11 x mm ee ss H F bm be c1 c2 c3).mono ?_
      rintro w H' ⟨ex, rfl, hd⟩
      refine ⟨ex, _, _, rfl, hd, ?_, by clear hv2 F; omega, by clear hv2 F; omega⟩
      rw [hv2, Int.one_mul]
end Go.Proofs.Ytomhkbijijdghaa.Lmb
