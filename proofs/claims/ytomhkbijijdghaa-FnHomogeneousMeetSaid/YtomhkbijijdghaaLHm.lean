/-
  FnHomogeneousMeet: the place at which the lines through two segments meet is told just if they have not one direction, and is near the true one. No conditions beyond the statement's own.
-/
import Derived.Test.YtomhkbijijdghaaRows
import Derived.Test.YtomhkbijijdghaaHmt3
import Derived.Test.YtomhkbijijdghaaLg5
import Derived.Test.YtomhkbijijdghaaLg28
set_option linter.unusedVariables false
set_option linter.unusedSimpArgs false
namespace Go.Proofs.Ytomhkbijijdghaa.fnHomogeneousMeet
open Go.Lg Go.Proofs.Ytomhkbijijdghaa.Pl Go.Proofs.Ytomhkbijijdghaa.Lmb Go.Proofs.Ytomhkbijijdghaa.Hm
open Go.ChangeShapes Go.WideShapes Go.RowKit

theorem isP_skip {x y : Rat} {d : Nat} {ob : Obj} (h : ∀ k, NoU (k, ob)) : PhiSkip (fun w _ G => IsP x y d w G) ob := fun k v ex G G' hG hp =>
  hp.skip fun e he => (hG e he).imp id fun h' => by rw [h']; exact h k
/-- The two fractions as one result. -/
def Got (A B D : Rat) (w : Value) (G : Heap) : Prop := ∃ u1 u2 u3 u4 u5 u6 u7 u8 u9 u10 v1 v2 v3 v4 v5 v6 v7 v8 v9 v10,
  w = .tuple #[.agg ⟨[.bool u1, .slice u2 u3 u4, .int .i64 u5, .bool u6, .slice u7 u8 u9, .int .i64 u10]⟩, .agg ⟨[.bool v1, .slice v2 v3 v4, .int .i64 v5, .bool v6, .slice v7 v8 v9, .int .i64 v10]⟩, .bool true] ∧
  IsP A D 5 (.agg ⟨[.bool u1, .slice u2 u3 u4, .int .i64 u5, .bool u6, .slice u7 u8 u9, .int .i64 u10]⟩) G ∧ IsP B D 5 (.agg ⟨[.bool v1, .slice v2 v3 v4, .int .i64 v5, .bool v6, .slice v7 v8 v9, .int .i64 v10]⟩) G
theorem got_skip {A B D : Rat} {ob : Obj} (h : ∀ k, NoU (k, ob)) : PhiSkip (fun w _ G => Got A B D w G) ob := fun k v ex G G' hG hp => by
  obtain ⟨u1, u2, u3, u4, u5, u6, u7, u8, u9, u10, v1, v2, v3, v4, v5, v6, v7, v8, v9, v10, h1, h2, h3⟩ := hp
  exact ⟨u1, u2, u3, u4, u5, u6, u7, u8, u9, u10, v1, v2, v3, v4, v5, v6, v7, v8, v9, v10, h1, h2.skip fun e he => (hG e he).imp id fun h' => by rw [h']; exact h k, h3.skip fun e he => (hG e he).imp id fun h' => by rw [h']; exact h k⟩
/-- A fraction, its cells told. -/
def Fr (A D : Rat) (w : Value) (G : Heap) : Prop := ∃ u1 u2 u3 u4 u5 u6 u7 u8 u9 u10, w = .agg ⟨[.bool u1, .slice u2 u3 u4, .int .i64 u5, .bool u6, .slice u7 u8 u9, .int .i64 u10]⟩ ∧ IsP A D 5 (.agg ⟨[.bool u1, .slice u2 u3 u4, .int .i64 u5, .bool u6, .slice u7 u8 u9, .int .i64 u10]⟩) G
theorem fr_skip {A D : Rat} {ob : Obj} (h : ∀ k, NoU (k, ob)) : PhiSkip (fun w _ G => Fr A D w G) ob := fun k v ex G G' hG hp => by
  obtain ⟨u1, u2, u3, u4, u5, u6, u7, u8, u9, u10, h1, h2⟩ := hp
  exact ⟨u1, u2, u3, u4, u5, u6, u7, u8, u9, u10, h1, h2.skip fun e he => (hG e he).imp id fun h' => by rw [h']; exact h k⟩
/-- The block of a fraction. -/
def FrB (A D : Rat) (v : Value) (ex G : Heap) : Prop := ∃ k u1 u2 u3 u4 u5 u6 u7 u8 u9 u10, v = .pointer (some ⟨k, 0, none⟩) ∧ ex = [(k, .cells ⟨[.bool u1, .slice u2 u3 u4, .int .i64 u5, .bool u6, .slice u7 u8 u9, .int .i64 u10]⟩ 82 (0, 0))] ∧
  IsP A D 5 (.agg ⟨[.bool u1, .slice u2 u3 u4, .int .i64 u5, .bool u6, .slice u7 u8 u9, .int .i64 u10]⟩) G
theorem frB_skip {A D : Rat} {ob : Obj} (h : ∀ k, NoU (k, ob)) : PhiSkip (FrB A D) ob := fun _ v ex G G' hG hp => by
  obtain ⟨k, u1, u2, u3, u4, u5, u6, u7, u8, u9, u10, h1, h2, h3⟩ := hp
  exact ⟨k, u1, u2, u3, u4, u5, u6, u7, u8, u9, u10, h1, h2, h3.skip fun e he => (hG e he).imp id fun h' => by rw [h']; exact h _⟩
/-- A quotient that is near a fraction. -/
theorem near_frac {r : Nat} {X W : Int} {N D : Rat} (h : Qt r X W) (hW : W ≠ 0) (hN : N = rN (X : Rat) (W : Rat)) (hD : D = rD (W : Rat)) (hb : ¬ 0 < rabs N - 16384 * D) : ∃ c, Fv r c ∧ r < 18446744073709551616 ∧ rabs (c * D - N) < D * p2 (-20) := by
  obtain ⟨c, hc, hr, _, hl⟩ := h
  refine ⟨c, hc, hl, ?_⟩
  have hW0 : ((W : Int) : Rat) ≠ 0 := by exact_mod_cast hW
  have hDp : 0 < D := by rw [hD]; unfold rD; split <;> grind
  have hq : (X : Rat) / W * D = N := by
    have d := rat_div_mul (X : Rat) (W : Rat) hW0
    rw [hD, hN]; unfold rD rN
    split
    · rw [← d]; grind
    · exact d
  have e1 : c * D - N = (c - (X : Rat) / W) * D := by rw [← hq]; grind
  unfold Rl at hr
  have hDr : rabs D = D := rabs_of_nonneg (Rat.le_of_lt hDp)
  have hNr : rabs ((X : Rat) / W) * D = rabs N := by rw [← hq, rabs_mul, hDr]
  rw [e1, rabs_mul, hDr]
  have s1 := mul_le hr (Rat.le_of_lt hDp)
  rw [Rat.mul_assoc, hNr] at s1
  have s2 : rabs N ≤ p2 14 * D := by
    have : p2 14 = 16384 := by rw [p2_toNat (e := 14) (by decide)]; rfl
    rw [this]; grind
  have s3 := mul_le_left s2 (Rat.le_of_lt (p2_pos (-52)))
  rw [← Rat.mul_assoc, p2_mul (c := -38) (by decide)] at s3
  have s4 := mul_lt (p2_lt (show (-38 : Int) < -20 by decide)) hDp
  have s5 : D * p2 (-20) = p2 (-20) * D := Rat.mul_comm _ _
  grind
theorem fv13 : Fv 4665729213955833856 ((8192 : Nat) : Rat) := ⟨false, 4503599627370496, -39, rfl, by
  unfold sgn p2; simp; grind⟩
abbrev w2 (x y : Nat) : Value := .agg ⟨[.float .f64 x, .float .f64 y]⟩
set_option maxHeartbeats 64000000 in
theorem law (ax ay : Nat) (hax : ax < 18446744073709551616) (hay : ay < 18446744073709551616) (bx b2 : Nat) (hbx : bx < 18446744073709551616) (hb2 : b2 < 18446744073709551616)
    (cx cy : Nat) (hcx : cx < 18446744073709551616) (hcy : cy < 18446744073709551616) (dx dy : Nat) (hdx : dx < 18446744073709551616) (hdy : dy < 18446744073709551616) (H : Heap) :
    Does Try.prog 8 [w2 ax ay, w2 bx b2, w2 cx cy, w2 dx dy] H fun w H' => w = .bool true ∧ H' = H := by
  refine fn_enter 82 Try.func8 fun W => ?_
  repeat' first
    | (first | refine tl_defer ?_ | refine tc_seq ?_ | refine tc_region ?_ | refine at_seq_normal ?_ | refine tl_nil ?_ | refine tl_cons ?_ | refine tl_cons_none ?_ | refine op_move ?_ | refine op_assign ?_ | refine op_fieldAddr ?_ | refine op_load ?_ | refine op_load_agg ?_ | refine op_indexC ?_ | refine op_indexAddr1 ?_ | refine op_indexAddr ?_ | refine op_icmp ?_ | refine op_fcmp ?_ | refine op_iarith ?_ | refine op_bcmp ?_ | refine op_unop_not ?_ | refine op_unop_neg_float ?_ | refine op_unop_neg_int ?_ | refine op_len_slice ?_ | refine op_pick_true ?_ | refine op_pick_false ?_ | refine op_pick_true' ?_ | refine op_pick_false' ?_ | refine op_build ?_ | refine op_extract ?_ | refine op_makeInterface ?_ | refine op_typeAssert ?_ | refine op_ptr_nil ?_ | refine op_nilCheck_ptr ?_ | refine op_nilCheck_meth ?_ | refine op_makeMeth ?_ | refine op_makeFunc ?_ | refine op_itof ?_ | refine op_itoi ?_ | refine op_ftoi ?_ | refine op_iquo ?_ | refine op_irem ?_ | refine op_ibits ?_ | refine op_slice_isnil ?_ | refine op_slice_notnil ?_ | refine op_imax ?_ | refine op_imin ?_ | refine op_shl ?_ | refine op_shr ?_ | (refine op_alloc ?_; intro _) | (refine op_box ?_; intro _) | (refine op_buildSlice ?_; intro _) | (refine op_farith ?_; intro _ _) | refine op_store0 ?_ | refine op_store1 ?_ | refine op_store2 ?_ | refine op_store3 ?_ | refine op_store4 ?_ | refine op_store5 ?_ | refine op_storeK rfl ?_ | refine op_loadK rfl ?_ | refine op_load_aggK rfl ?_ | refine tc_cond_t ?_ | refine tc_cond_f ?_ | refine tc_cond (fun _ => ?_) (fun _ => ?_) | refine tc_block ?_ | refine tc_skip ?_ | refine tc_ret ?_ | refine tc_exit ?_ | refine tc_label ?_ | refine at_seq_ret ?_ | refine at_seq_exit ?_ | refine at_block_normal ?_ | refine at_block_ret ?_ | refine at_block_exit_self ?_ | refine at_block_exit_ne ?_ | refine at_loop_ret ?_ | refine at_loop_exit ?_ | refine at_loop_goto ?_ | refine tl_guard_yes ?_ | refine tl_guard_no ?_ | refine tl_guard_yes' ?_ | refine tl_guard_no' ?_ | refine tl_guard_undef ?_ | refine tl_guard_split (fun _ => ?_) (fun _ => ?_))
    | (refine op_call ((planeTo _ [(ax, ay), (bx, b2), (cx, cy), (dx, dy)] _ _ _ _ 8192 _ fv13 (by decide) (by simp) (by simp [*]) mem0).mono ?_); rintro _ _ ⟨⟨b, rfl, hb⟩, ex0, rfl⟩)
    | fail
  · exact ret_tmp (hG := by (repeat (first | exact List.Sublist.refl _ | apply List.Sublist.cons_cons | apply List.Sublist.cons | refine List.Sublist.trans ?_ (List.sublist_append_right _ _)))) (hk := ⟨rfl, rfl⟩)
  rename_i ka kb kc kd ks hnb
  have hb' := hb (by simpa using hnb)
  obtain ⟨⟨nax, fax, a1, a2⟩, ⟨nay, fay, a3, a4⟩⟩ := hb' (ax, ay) (by simp)
  obtain ⟨⟨nbx, fbx, b1, b2'⟩, ⟨nb2, fb2, b3, b4⟩⟩ := hb' (bx, b2) (by simp)
  obtain ⟨⟨ncx, fcx, c1, c2'⟩, ⟨ncy, fcy, c3, c4⟩⟩ := hb' (cx, cy) (by simp)
  obtain ⟨⟨ndx, fdx, d1, d2⟩, ⟨ndy, fdy, d3, d4⟩⟩ := hb' (dx, dy) (by simp)
  simp only at fax fay fbx fb2 fcx fcy fdx fdy
  have gax : FI 8192 ax nax := ⟨fax, a1, a2⟩
  have gay : FI 8192 ay nay := ⟨fay, a3, a4⟩
  have gbx : FI 8192 bx nbx := ⟨fbx, b1, b2'⟩
  have gby : FI 8192 b2 nb2 := ⟨fb2, b3, b4⟩
  have gcx : FI 8192 cx ncx := ⟨fcx, c1, c2'⟩
  have gcy : FI 8192 cy ncy := ⟨fcy, c3, c4⟩
  have gdx : FI 8192 dx ndx := ⟨fdx, d1, d2⟩
  have gdy : FI 8192 dy ndy := ⟨fdy, d3, d4⟩
  clear hb hb' hnb
  obtain ⟨X, hX⟩ : ∃ X, X = (nbx - nax) * (ncx * ndy - ndx * ncy) - (ndx - ncx) * (nax * nb2 - nbx * nay) := ⟨_, rfl⟩
  obtain ⟨Y, hY⟩ : ∃ Y, Y = (ncy - ndy) * (nax * nb2 - nbx * nay) - (nay - nb2) * (ncx * ndy - ndx * ncy) := ⟨_, rfl⟩
  obtain ⟨W0, hW0⟩ : ∃ W0, W0 = (nay - nb2) * (ndx - ncx) - (ncy - ndy) * (nbx - nax) := ⟨_, rfl⟩
  have eW : ((nbx : Rat) - nax) * (ndy - ncy) - (nb2 - nay) * (ndx - ncx) = (W0 : Rat) := by
    rw [hW0]; simp only [Rat.intCast_sub, Rat.intCast_mul]; grind
  have eX : (nax : Rat) * (W0 : Rat) + (((ncx : Rat) - nax) * (ndy - ncy) - (ncy - nay) * (ndx - ncx)) * (nbx - nax) = (X : Rat) := by
    rw [hX, ← eW]; simp only [Rat.intCast_sub, Rat.intCast_mul]; grind
  have eY : (nay : Rat) * (W0 : Rat) + (((ncx : Rat) - nax) * (ndy - ncy) - (ncy - nay) * (ndx - ncx)) * (nb2 - nay) = (Y : Rat) := by
    rw [hY, ← eW]; simp only [Rat.intCast_sub, Rat.intCast_mul]; grind
  have hcr := fun (ua ub uc ud : Value) (G : Heap) (h1 : IsP (nax : Rat) nay 0 ua G) (h2 : IsP (nbx : Rat) nb2 0 ub G) (h3 : IsP (ncx : Rat) ncy 0 uc G) (h4 : IsP (ndx : Rat) ndy 0 ud G) => qCrossing ua ub uc ud _ _ _ _ _ _ _ _ G h1 h2 h3 h4
  rw [eW, eX, eY] at hcr
  have him := fun (G : Heap) => implMeet ax ay bx b2 cx cy dx dy nax nay nbx nb2 ncx ncy ndx ndy G gax gay gbx gby gcx gcy gdx gdy X Y W0 hX hY hW0
  refine tc_sub (G' := (kd, .cells ⟨[.float .f64 dx, .float .f64 dy]⟩ 57 (0, 0)) :: (kc, .cells ⟨[.float .f64 cx, .float .f64 cy]⟩ 57 (0, 0)) :: (kb, .cells ⟨[.float .f64 bx, .float .f64 b2]⟩ 57 (0, 0)) :: (ka, .cells ⟨[.float .f64 ax, .float .f64 ay]⟩ 57 (0, 0)) :: H) (by (repeat (first | exact List.Sublist.refl _ | apply List.Sublist.cons_cons | apply List.Sublist.cons | refine List.Sublist.trans ?_ (List.sublist_append_right _ _)))) ?_
  clear eW eX eY hX hY hW0
  by_cases hz : W0 = 0
  · have hz' : ((W0 : Int) : Rat) = 0 := by exact_mod_cast hz
    apply fun hole0 hole1 hole2 hole3 hole4 hole5 hole6 hole7 hole8 hE hD hal hml hdl hpr prem fin => tc_drawnM 18 [⟨15, 13, 9, PhiD.fresh (fun k => .pointer (some ⟨k, 0, none⟩)) (.cells ⟨[.bool false, .slice none 0 0, .int .i64 0, .bool false, .slice none 0 0, .int .i64 0]⟩ 82 (0, 0))⟩, ⟨16, 14, 10, PhiD.fresh (fun k => .pointer (some ⟨k, 0, none⟩)) (.cells ⟨[.bool false, .slice none 0 0, .int .i64 0, .bool false, .slice none 0 0, .int .i64 0]⟩ 82 (0, 0))⟩] (fun k => .pointer (some ⟨k, 0, none⟩)) (.cells ⟨[.bool false, .slice none 0 0, .int .i64 0, .bool false, .slice none 0 0, .int .i64 0]⟩ 82 (0, 0)) [PhiD.is hole0, PhiD.gen (fun w _ G => IsP nax nay 0 w G), PhiD.is hole1, PhiD.gen (fun w _ G => IsP nbx nb2 0 w G), PhiD.is hole2, PhiD.gen (fun w _ G => IsP ncx ncy 0 w G), PhiD.is hole3, PhiD.gen (fun w _ G => IsP ndx ndy 0 w G), PhiD.gen (some' (fun w _ => w = .tuple #[z6, z6, .bool false])), PhiD.is hole4, PhiD.is hole5, PhiD.is hole6, PhiD.is hole7, PhiD.fresh (fun k => .pointer (some ⟨k, 0, none⟩)) (.cells ⟨[.bool false, .slice none 0 0, .int .i64 0, .bool false, .slice none 0 0, .int .i64 0]⟩ 82 (0, 0)), PhiD.fresh (fun k => .pointer (some ⟨k, 0, none⟩)) (.cells ⟨[.bool false, .slice none 0 0, .int .i64 0, .bool false, .slice none 0 0, .int .i64 0]⟩ 82 (0, 0)), PhiD.is undef, PhiD.is undef, PhiD.is hole8] [PhiD.is hole0, PhiD.gen (fun w _ G => IsP nax nay 0 w G), PhiD.is hole1, PhiD.gen (fun w _ G => IsP nbx nb2 0 w G), PhiD.is hole2, PhiD.gen (fun w _ G => IsP ncx ncy 0 w G), PhiD.is hole3, PhiD.gen (fun w _ G => IsP ndx ndy 0 w G), PhiD.gen (some' (fun w _ => w = .tuple #[z6, z6, .bool false])), PhiD.is hole4, PhiD.is hole5, PhiD.is hole6, PhiD.is hole7, PhiD.fresh (fun k => .pointer (some ⟨k, 0, none⟩)) (.cells ⟨[.bool false, .slice none 0 0, .int .i64 0, .bool false, .slice none 0 0, .int .i64 0]⟩ 82 (0, 0)), PhiD.fresh (fun k => .pointer (some ⟨k, 0, none⟩)) (.cells ⟨[.bool false, .slice none 0 0, .int .i64 0, .bool false, .slice none 0 0, .int .i64 0]⟩ 82 (0, 0)), PhiD.is undef, PhiD.is undef, PhiD.is hole8]
      [some 23, some 24, some 25, some 26, some 27, some 28, some 29, some 30, some 31, some 22, some 32, some 33, some 34, some 9, some 10, none, none, some 11] [[], [0], [], [2, 1], [], [4, 3], [], [6, 5], [1, 3, 5, 7], [8], [9], [9], [9], [], [], [13, 10, 8, 0, 1, 2, 3, 4, 5, 6, 7, 9], [14, 11, 15, 0, 1, 2, 3, 4, 5, 6, 7, 8, 9, 10], [12, 16, 0, 1, 2, 3, 4, 5, 6, 7, 8, 9, 10, 11, 15]] mixed ⟨(isP_skip fun _ => noU6), (isP_skip fun _ => noU6), (isP_skip fun _ => noU6), (isP_skip fun _ => noU6), (some_skip _ _), trivial⟩ ⟨⟨rfl, rfl, (const_skip _ (fresh_const _ _)), rfl⟩, ⟨rfl, rfl, (const_skip _ (fresh_const _ _)), rfl⟩, trivial⟩ prem fin rfl hE hD hal rfl hml hdl hpr
    rotate_left 10
    · first | kernel_rfl | exact rfl
    · first | kernel_rfl | exact rfl
    · first | kernel_rfl | exact rfl
    · exact Nat.le_of_ble_eq_true rfl
    · first | kernel_rfl | exact rfl
    · first | kernel_rfl | exact rfl
    refine ⟨fun G hG => ?_, fun G hG => ?_, fun G hG => ?_, fun G hG => ?_, fun G hG => ?_, fun G hG => ?_, fun G hG => ?_, fun G hG => ?_, fun G hG => ?_, fun G hG => ?_, fun G hG => ?_, fun G hG => ?_, fun G hG => ?_, fun G hG => ?_, fun G hG => ?_, fun G hG => ?_, fun G hG => ?_, fun G hG => ?_, trivial⟩
    · simp only [withD, nthD, Step2, nthDst, putO, postD, Nat.reduceAdd, Nat.reduceEqDiff, Nat.zero_add, stS, List.find?_cons, List.find?_nil, Nat.reduceBEq, if_true, if_false, reduceIte, PhiD.phi]
      ((first | refine op_load ?_ | refine op_load_agg ?_ | refine op_load ?_ (hm := Sub.mem (by assumption) (by (repeat (apply List.mem_cons_of_mem)); assumption)) | refine op_load_agg ?_ (hm := Sub.mem (by assumption) (by (repeat (apply List.mem_cons_of_mem)); assumption)) | refine op_loadH hG rfl ?_ | refine op_load_aggH hG rfl ?_); exact ⟨[], rfl, rfl, rfl⟩)
    · simp only [withD, nthD, Step2, nthDst, putO, postD, Nat.reduceAdd, Nat.reduceEqDiff, Nat.zero_add, stS, List.find?_cons, List.find?_nil, Nat.reduceBEq, if_true, if_false, reduceIte, PhiD.phi]
      (refine op_call ((exactly _ _ _ _ _ fax fay hax hay).mono ?_); rintro w _ ⟨ex, rfl, hw⟩; exact ⟨ex, rfl, hw⟩)
    · simp only [withD, nthD, Step2, nthDst, putO, postD, Nat.reduceAdd, Nat.reduceEqDiff, Nat.zero_add, stS, List.find?_cons, List.find?_nil, Nat.reduceBEq, if_true, if_false, reduceIte, PhiD.phi]
      ((first | refine op_load ?_ | refine op_load_agg ?_ | refine op_load ?_ (hm := Sub.mem (by assumption) (by (repeat (apply List.mem_cons_of_mem)); assumption)) | refine op_load_agg ?_ (hm := Sub.mem (by assumption) (by (repeat (apply List.mem_cons_of_mem)); assumption)) | refine op_loadH hG rfl ?_ | refine op_load_aggH hG rfl ?_); exact ⟨[], rfl, rfl, rfl⟩)
    · simp only [withD, nthD, Step2, nthDst, putO, postD, Nat.reduceAdd, Nat.reduceEqDiff, Nat.zero_add, stS, List.find?_cons, List.find?_nil, Nat.reduceBEq, if_true, if_false, reduceIte, PhiD.phi]
      rintro _ _ qa -
      (refine op_call ((exactly _ _ _ _ _ fbx fb2 hbx hb2).mono ?_); rintro w _ ⟨ex, rfl, hw⟩; exact ⟨ex, rfl, hw⟩)
    · simp only [withD, nthD, Step2, nthDst, putO, postD, Nat.reduceAdd, Nat.reduceEqDiff, Nat.zero_add, stS, List.find?_cons, List.find?_nil, Nat.reduceBEq, if_true, if_false, reduceIte, PhiD.phi]
      ((first | refine op_load ?_ | refine op_load_agg ?_ | refine op_load ?_ (hm := Sub.mem (by assumption) (by (repeat (apply List.mem_cons_of_mem)); assumption)) | refine op_load_agg ?_ (hm := Sub.mem (by assumption) (by (repeat (apply List.mem_cons_of_mem)); assumption)) | refine op_loadH hG rfl ?_ | refine op_load_aggH hG rfl ?_); exact ⟨[], rfl, rfl, rfl⟩)
    · simp only [withD, nthD, Step2, nthDst, putO, postD, Nat.reduceAdd, Nat.reduceEqDiff, Nat.zero_add, stS, List.find?_cons, List.find?_nil, Nat.reduceBEq, if_true, if_false, reduceIte, PhiD.phi]
      rintro _ _ qb -
      (refine op_call ((exactly _ _ _ _ _ fcx fcy hcx hcy).mono ?_); rintro w _ ⟨ex, rfl, hw⟩; exact ⟨ex, rfl, hw⟩)
    · simp only [withD, nthD, Step2, nthDst, putO, postD, Nat.reduceAdd, Nat.reduceEqDiff, Nat.zero_add, stS, List.find?_cons, List.find?_nil, Nat.reduceBEq, if_true, if_false, reduceIte, PhiD.phi]
      ((first | refine op_load ?_ | refine op_load_agg ?_ | refine op_load ?_ (hm := Sub.mem (by assumption) (by (repeat (apply List.mem_cons_of_mem)); assumption)) | refine op_load_agg ?_ (hm := Sub.mem (by assumption) (by (repeat (apply List.mem_cons_of_mem)); assumption)) | refine op_loadH hG rfl ?_ | refine op_load_aggH hG rfl ?_); exact ⟨[], rfl, rfl, rfl⟩)
    · simp only [withD, nthD, Step2, nthDst, putO, postD, Nat.reduceAdd, Nat.reduceEqDiff, Nat.zero_add, stS, List.find?_cons, List.find?_nil, Nat.reduceBEq, if_true, if_false, reduceIte, PhiD.phi]
      rintro _ _ qc -
      (refine op_call ((exactly _ _ _ _ _ fdx fdy hdx hdy).mono ?_); rintro w _ ⟨ex, rfl, hw⟩; exact ⟨ex, rfl, hw⟩)
    · simp only [withD, nthD, Step2, nthDst, putO, postD, Nat.reduceAdd, Nat.reduceEqDiff, Nat.zero_add, stS, List.find?_cons, List.find?_nil, Nat.reduceBEq, if_true, if_false, reduceIte, PhiD.phi]
      rintro _ _ qa - _ _ qb - _ _ qc - _ _ qd -
      (refine op_call ((hcr _ _ _ _ _ qa qb qc qd).mono ?_); rintro w _ ⟨ex, rfl, ⟨_, rfl⟩ | ⟨h, _⟩⟩; exact ⟨ex, rfl, rfl⟩; exact absurd hz' h)
    · simp only [withD, nthD, Step2, nthDst, putO, postD, Nat.reduceAdd, Nat.reduceEqDiff, Nat.zero_add, stS, List.find?_cons, List.find?_nil, Nat.reduceBEq, if_true, if_false, reduceIte, PhiD.phi]
      rintro _ _ rfl -
      (refine op_move ?_; exact ⟨[], rfl, rfl, rfl⟩)
    · simp only [withD, nthD, Step2, nthDst, putO, postD, Nat.reduceAdd, Nat.reduceEqDiff, Nat.zero_add, stS, List.find?_cons, List.find?_nil, Nat.reduceBEq, if_true, if_false, reduceIte, PhiD.phi]
      (refine op_extract ?_; exact ⟨[], rfl, rfl, rfl⟩)
    · simp only [withD, nthD, Step2, nthDst, putO, postD, Nat.reduceAdd, Nat.reduceEqDiff, Nat.zero_add, stS, List.find?_cons, List.find?_nil, Nat.reduceBEq, if_true, if_false, reduceIte, PhiD.phi]
      (refine op_extract ?_; exact ⟨[], rfl, rfl, rfl⟩)
    · simp only [withD, nthD, Step2, nthDst, putO, postD, Nat.reduceAdd, Nat.reduceEqDiff, Nat.zero_add, stS, List.find?_cons, List.find?_nil, Nat.reduceBEq, if_true, if_false, reduceIte, PhiD.phi]
      (refine op_extract ?_; exact ⟨[], rfl, rfl, rfl⟩)
    · simp only [withD, nthD, Step2, nthDst, putO, postD, Nat.reduceAdd, Nat.reduceEqDiff, Nat.zero_add, stS, List.find?_cons, List.find?_nil, Nat.reduceBEq, if_true, if_false, reduceIte, PhiD.phi]
      (refine op_alloc ?_; intro _; exact ⟨[(_, _)], rfl, ⟨_, rfl, rfl⟩⟩)
    · simp only [withD, nthD, Step2, nthDst, putO, postD, Nat.reduceAdd, Nat.reduceEqDiff, Nat.zero_add, stS, List.find?_cons, List.find?_nil, Nat.reduceBEq, if_true, if_false, reduceIte, PhiD.phi]
      (refine op_alloc ?_; intro _; exact ⟨[(_, _)], rfl, ⟨_, rfl, rfl⟩⟩)
    · simp only [withD, nthD, Step2, nthDst, putO, postD, Nat.reduceAdd, Nat.reduceEqDiff, Nat.zero_add, stS, List.find?_cons, List.find?_nil, Nat.reduceBEq, if_true, if_false, reduceIte, PhiD.phi]
      rintro _ _ _ _ rfl - _ _ qa - _ _ qb - _ _ qc - _ _ qd -
      intro a k R hoa hta hpm
      have heq := (hoa.get 9 _ rfl).symm.trans hta
      cases heq
      exact op_store0 (Exists.intro _ (And.intro rfl (And.intro (Exists.intro _ (And.intro rfl rfl)) (And.intro rfl rfl))))
    · simp only [withD, nthD, Step2, nthDst, putO, postD, Nat.reduceAdd, Nat.reduceEqDiff, Nat.zero_add, stS, List.find?_cons, List.find?_nil, Nat.reduceBEq, if_true, if_false, reduceIte, PhiD.phi]
      rintro _ _ _ _ qa - _ _ qb - _ _ qc - _ _ qd - _ _ rfl -
      intro a k R hoa hta hpm
      have heq := (hoa.get 10 _ rfl).symm.trans hta
      cases heq
      exact op_store0 (Exists.intro _ (And.intro rfl (And.intro (Exists.intro _ (And.intro rfl rfl)) (And.intro rfl rfl))))
    · simp only [withD, nthD, Step2, nthDst, putO, postD, Nat.reduceAdd, Nat.reduceEqDiff, Nat.zero_add, stS, List.find?_cons, List.find?_nil, Nat.reduceBEq, if_true, if_false, reduceIte, PhiD.phi]
      rintro _ _ qa - _ _ qb - _ _ qc - _ _ qd - _ _ rfl -
      (refine op_assign ?_; exact ⟨[], rfl, rfl, rfl⟩)
    simp only [FinalsD, nthDst, putO, List.drop_succ_cons, List.drop_zero]
    rintro _ _ _ _ _ _ _ _ _ _ _ _ ⟨rfl, qd, qc, qb, qa, -⟩
    try simp only [List.nil_append, List.cons_append]
    repeat' first
      | refine op_storeK rfl ?_
      | (refine op_call ((him _).mono ?_); rintro _ _ ⟨⟨ex1, rfl⟩, ⟨_, rfl⟩ | ⟨h, _⟩⟩; rotate_left; exact absurd hz h)
      | (first | refine tl_defer ?_ | refine tc_seq ?_ | refine tc_region ?_ | refine at_seq_normal ?_ | refine tl_nil ?_ | refine tl_cons ?_ | refine tl_cons_none ?_ | refine op_move ?_ | refine op_assign ?_ | refine op_fieldAddr ?_ | refine op_load ?_ | refine op_load_agg ?_ | refine op_indexC ?_ | refine op_indexAddr1 ?_ | refine op_indexAddr ?_ | refine op_icmp ?_ | refine op_fcmp ?_ | refine op_iarith ?_ | refine op_bcmp ?_ | refine op_unop_not ?_ | refine op_unop_neg_float ?_ | refine op_unop_neg_int ?_ | refine op_len_slice ?_ | refine op_pick_true ?_ | refine op_pick_false ?_ | refine op_pick_true' ?_ | refine op_pick_false' ?_ | refine op_build ?_ | refine op_extract ?_ | refine op_makeInterface ?_ | refine op_typeAssert ?_ | refine op_ptr_nil ?_ | refine op_nilCheck_ptr ?_ | refine op_nilCheck_meth ?_ | refine op_makeMeth ?_ | refine op_makeFunc ?_ | refine op_itof ?_ | refine op_itoi ?_ | refine op_ftoi ?_ | refine op_iquo ?_ | refine op_irem ?_ | refine op_ibits ?_ | refine op_slice_isnil ?_ | refine op_slice_notnil ?_ | refine op_imax ?_ | refine op_imin ?_ | refine op_shl ?_ | refine op_shr ?_ | (refine op_alloc ?_; intro _) | (refine op_box ?_; intro _) | (refine op_buildSlice ?_; intro _) | (refine op_farith ?_; intro _ _) | refine op_store0 ?_ | refine op_store1 ?_ | refine op_store2 ?_ | refine op_store3 ?_ | refine op_store4 ?_ | refine op_store5 ?_ | refine op_storeK rfl ?_ | refine op_loadK rfl ?_ | refine op_load_aggK rfl ?_ | refine tc_cond_t ?_ | refine tc_cond_f ?_ | refine tc_cond (fun _ => ?_) (fun _ => ?_) | refine tc_block ?_ | refine tc_skip ?_ | refine tc_ret ?_ | refine tc_exit ?_ | refine tc_label ?_ | refine at_seq_ret ?_ | refine at_seq_exit ?_ | refine at_block_normal ?_ | refine at_block_ret ?_ | refine at_block_exit_self ?_ | refine at_block_exit_ne ?_ | refine at_loop_ret ?_ | refine at_loop_exit ?_ | refine at_loop_goto ?_ | refine tl_guard_yes ?_ | refine tl_guard_no ?_ | refine tl_guard_yes' ?_ | refine tl_guard_no' ?_ | refine tl_guard_undef ?_ | refine tl_guard_split (fun _ => ?_) (fun _ => ?_))
      | fail
    exact ret_tmp (hG := by (repeat (first | exact List.Sublist.refl _ | apply List.Sublist.cons_cons | apply List.Sublist.cons | refine List.Sublist.trans ?_ (List.sublist_append_right _ _)))) (hk := ⟨rfl, rfl⟩)
  · have hz' : ¬ ((W0 : Int) : Rat) = 0 := by intro h; exact hz (by exact_mod_cast h)
    obtain ⟨N1, hN1⟩ : ∃ N1, N1 = rN (X : Rat) (W0 : Rat) := ⟨_, rfl⟩
    obtain ⟨N2, hN2⟩ : ∃ N2, N2 = rN (Y : Rat) (W0 : Rat) := ⟨_, rfl⟩
    obtain ⟨D, hDD⟩ : ∃ D, D = rD (W0 : Rat) := ⟨_, rfl⟩
    rw [← hN1, ← hN2, ← hDD] at hcr
    apply fun hole0 hole1 hole2 hole3 hole4 hE hD hal hml hdl hpr prem fin => tc_drawnM 18 [⟨15, 13, 9, PhiD.gen (FrB N1 D)⟩, ⟨16, 14, 10, PhiD.gen (FrB N2 D)⟩] (fun k => .pointer (some ⟨k, 0, none⟩)) (.cells ⟨[.bool false, .slice none 0 0, .int .i64 0, .bool false, .slice none 0 0, .int .i64 0]⟩ 82 (0, 0)) [PhiD.is hole0, PhiD.gen (fun w _ G => IsP nax nay 0 w G), PhiD.is hole1, PhiD.gen (fun w _ G => IsP nbx nb2 0 w G), PhiD.is hole2, PhiD.gen (fun w _ G => IsP ncx ncy 0 w G), PhiD.is hole3, PhiD.gen (fun w _ G => IsP ndx ndy 0 w G), PhiD.gen (fun w _ G => Got N1 N2 D w G), PhiD.gen (fun w _ G => Got N1 N2 D w G), PhiD.gen (fun w _ G => Fr N1 D w G), PhiD.gen (fun w _ G => Fr N2 D w G), PhiD.is (.bool true), PhiD.fresh (fun k => .pointer (some ⟨k, 0, none⟩)) (.cells ⟨[.bool false, .slice none 0 0, .int .i64 0, .bool false, .slice none 0 0, .int .i64 0]⟩ 82 (0, 0)), PhiD.fresh (fun k => .pointer (some ⟨k, 0, none⟩)) (.cells ⟨[.bool false, .slice none 0 0, .int .i64 0, .bool false, .slice none 0 0, .int .i64 0]⟩ 82 (0, 0)), PhiD.is undef, PhiD.is undef, PhiD.is hole4] [PhiD.is hole0, PhiD.gen (fun w _ G => IsP nax nay 0 w G), PhiD.is hole1, PhiD.gen (fun w _ G => IsP nbx nb2 0 w G), PhiD.is hole2, PhiD.gen (fun w _ G => IsP ncx ncy 0 w G), PhiD.is hole3, PhiD.gen (fun w _ G => IsP ndx ndy 0 w G), PhiD.gen (fun w _ G => Got N1 N2 D w G), PhiD.gen (fun w _ G => Got N1 N2 D w G), PhiD.gen (fun w _ G => Fr N1 D w G), PhiD.gen (fun w _ G => Fr N2 D w G), PhiD.is (.bool true), PhiD.gen (FrB N1 D), PhiD.gen (FrB N2 D), PhiD.is undef, PhiD.is undef, PhiD.is hole4]
      [some 23, some 24, some 25, some 26, some 27, some 28, some 29, some 30, some 31, some 22, some 32, some 33, some 34, some 9, some 10, none, none, some 11] [[], [0], [], [2, 1], [], [4, 3], [], [6, 5], [1, 3, 5, 7], [8], [9], [9], [9], [], [], [13, 10, 8, 0, 1, 2, 3, 4, 5, 6, 7, 9], [14, 11, 15, 0, 1, 2, 3, 4, 5, 6, 7, 8, 9, 10], [12, 16, 0, 1, 2, 3, 4, 5, 6, 7, 8, 9, 10, 11, 15]] mixed ⟨(isP_skip fun _ => noU6), (isP_skip fun _ => noU6), (isP_skip fun _ => noU6), (isP_skip fun _ => noU6), (got_skip fun _ => noU6), (got_skip fun _ => noU6), (fr_skip fun _ => noU6), (fr_skip fun _ => noU6), trivial⟩ ⟨⟨rfl, rfl, (frB_skip fun _ => noU6), rfl⟩, ⟨rfl, rfl, (frB_skip fun _ => noU6), rfl⟩, trivial⟩ prem fin rfl hE hD hal rfl hml hdl hpr
    rotate_left 6
    · first | kernel_rfl | exact rfl
    · first | kernel_rfl | exact rfl
    · first | kernel_rfl | exact rfl
    · exact Nat.le_of_ble_eq_true rfl
    · first | kernel_rfl | exact rfl
    · first | kernel_rfl | exact rfl
    refine ⟨fun G hG => ?_, fun G hG => ?_, fun G hG => ?_, fun G hG => ?_, fun G hG => ?_, fun G hG => ?_, fun G hG => ?_, fun G hG => ?_, fun G hG => ?_, fun G hG => ?_, fun G hG => ?_, fun G hG => ?_, fun G hG => ?_, fun G hG => ?_, fun G hG => ?_, fun G hG => ?_, fun G hG => ?_, fun G hG => ?_, trivial⟩
    · simp only [withD, nthD, Step2, nthDst, putO, postD, Nat.reduceAdd, Nat.reduceEqDiff, Nat.zero_add, stS, List.find?_cons, List.find?_nil, Nat.reduceBEq, if_true, if_false, reduceIte, PhiD.phi]
      ((first | refine op_load ?_ | refine op_load_agg ?_ | refine op_load ?_ (hm := Sub.mem (by assumption) (by (repeat (apply List.mem_cons_of_mem)); assumption)) | refine op_load_agg ?_ (hm := Sub.mem (by assumption) (by (repeat (apply List.mem_cons_of_mem)); assumption)) | refine op_loadH hG rfl ?_ | refine op_load_aggH hG rfl ?_); exact ⟨[], rfl, rfl, rfl⟩)
    · simp only [withD, nthD, Step2, nthDst, putO, postD, Nat.reduceAdd, Nat.reduceEqDiff, Nat.zero_add, stS, List.find?_cons, List.find?_nil, Nat.reduceBEq, if_true, if_false, reduceIte, PhiD.phi]
      (refine op_call ((exactly _ _ _ _ _ fax fay hax hay).mono ?_); rintro w _ ⟨ex, rfl, hw⟩; exact ⟨ex, rfl, hw⟩)
    · simp only [withD, nthD, Step2, nthDst, putO, postD, Nat.reduceAdd, Nat.reduceEqDiff, Nat.zero_add, stS, List.find?_cons, List.find?_nil, Nat.reduceBEq, if_true, if_false, reduceIte, PhiD.phi]
      ((first | refine op_load ?_ | refine op_load_agg ?_ | refine op_load ?_ (hm := Sub.mem (by assumption) (by (repeat (apply List.mem_cons_of_mem)); assumption)) | refine op_load_agg ?_ (hm := Sub.mem (by assumption) (by (repeat (apply List.mem_cons_of_mem)); assumption)) | refine op_loadH hG rfl ?_ | refine op_load_aggH hG rfl ?_); exact ⟨[], rfl, rfl, rfl⟩)
    · simp only [withD, nthD, Step2, nthDst, putO, postD, Nat.reduceAdd, Nat.reduceEqDiff, Nat.zero_add, stS, List.find?_cons, List.find?_nil, Nat.reduceBEq, if_true, if_false, reduceIte, PhiD.phi]
      rintro _ _ qa -
      (refine op_call ((exactly _ _ _ _ _ fbx fb2 hbx hb2).mono ?_); rintro w _ ⟨ex, rfl, hw⟩; exact ⟨ex, rfl, hw⟩)
    · simp only [withD, nthD, Step2, nthDst, putO, postD, Nat.reduceAdd, Nat.reduceEqDiff, Nat.zero_add, stS, List.find?_cons, List.find?_nil, Nat.reduceBEq, if_true, if_false, reduceIte, PhiD.phi]
      ((first | refine op_load ?_ | refine op_load_agg ?_ | refine op_load ?_ (hm := Sub.mem (by assumption) (by (repeat (apply List.mem_cons_of_mem)); assumption)) | refine op_load_agg ?_ (hm := Sub.mem (by assumption) (by (repeat (apply List.mem_cons_of_mem)); assumption)) | refine op_loadH hG rfl ?_ | refine op_load_aggH hG rfl ?_); exact ⟨[], rfl, rfl, rfl⟩)
    · simp only [withD, nthD, Step2, nthDst, putO, postD, Nat.reduceAdd, Nat.reduceEqDiff, Nat.zero_add, stS, List.find?_cons, List.find?_nil, Nat.reduceBEq, if_true, if_false, reduceIte, PhiD.phi]
      rintro _ _ qb -
      (refine op_call ((exactly _ _ _ _ _ fcx fcy hcx hcy).mono ?_); rintro w _ ⟨ex, rfl, hw⟩; exact ⟨ex, rfl, hw⟩)
    · simp only [withD, nthD, Step2, nthDst, putO, postD, Nat.reduceAdd, Nat.reduceEqDiff, Nat.zero_add, stS, List.find?_cons, List.find?_nil, Nat.reduceBEq, if_true, if_false, reduceIte, PhiD.phi]
      ((first | refine op_load ?_ | refine op_load_agg ?_ | refine op_load ?_ (hm := Sub.mem (by assumption) (by (repeat (apply List.mem_cons_of_mem)); assumption)) | refine op_load_agg ?_ (hm := Sub.mem (by assumption) (by (repeat (apply List.mem_cons_of_mem)); assumption)) | refine op_loadH hG rfl ?_ | refine op_load_aggH hG rfl ?_); exact ⟨[], rfl, rfl, rfl⟩)
    · simp only [withD, nthD, Step2, nthDst, putO, postD, Nat.reduceAdd, Nat.reduceEqDiff, Nat.zero_add, stS, List.find?_cons, List.find?_nil, Nat.reduceBEq, if_true, if_false, reduceIte, PhiD.phi]
      rintro _ _ qc -
      (refine op_call ((exactly _ _ _ _ _ fdx fdy hdx hdy).mono ?_); rintro w _ ⟨ex, rfl, hw⟩; exact ⟨ex, rfl, hw⟩)
    · simp only [withD, nthD, Step2, nthDst, putO, postD, Nat.reduceAdd, Nat.reduceEqDiff, Nat.zero_add, stS, List.find?_cons, List.find?_nil, Nat.reduceBEq, if_true, if_false, reduceIte, PhiD.phi]
      rintro _ _ qa - _ _ qb - _ _ qc - _ _ qd -
      (refine op_call ((hcr _ _ _ _ _ qa qb qc qd).mono ?_); rintro w _ ⟨ex, rfl, ⟨h, _⟩ | ⟨_, r1, r2, rfl, p1, p2⟩⟩; exact absurd h hz'; obtain ⟨_, _, _, _, _, _, _, _, _, _, rfl, _, _⟩ := id p1; obtain ⟨_, _, _, _, _, _, _, _, _, _, rfl, _, _⟩ := id p2; exact ⟨ex, rfl, _, _, _, _, _, _, _, _, _, _, _, _, _, _, _, _, _, _, _, _, rfl, p1, p2⟩)
    · simp only [withD, nthD, Step2, nthDst, putO, postD, Nat.reduceAdd, Nat.reduceEqDiff, Nat.zero_add, stS, List.find?_cons, List.find?_nil, Nat.reduceBEq, if_true, if_false, reduceIte, PhiD.phi]
      rintro _ _ ⟨_, _, _, _, _, _, _, _, _, _, _, _, _, _, _, _, _, _, _, _, rfl, e1, e2⟩ -
      (refine op_move ?_; exact ⟨[], rfl, _, _, _, _, _, _, _, _, _, _, _, _, _, _, _, _, _, _, _, _, rfl, e1, e2⟩)
    · simp only [withD, nthD, Step2, nthDst, putO, postD, Nat.reduceAdd, Nat.reduceEqDiff, Nat.zero_add, stS, List.find?_cons, List.find?_nil, Nat.reduceBEq, if_true, if_false, reduceIte, PhiD.phi]
      rintro _ _ ⟨_, _, _, _, _, _, _, _, _, _, _, _, _, _, _, _, _, _, _, _, rfl, g1, g2⟩ -
      (refine op_extract ?_; exact ⟨[], rfl, _, _, _, _, _, _, _, _, _, _, rfl, g1⟩)
    · simp only [withD, nthD, Step2, nthDst, putO, postD, Nat.reduceAdd, Nat.reduceEqDiff, Nat.zero_add, stS, List.find?_cons, List.find?_nil, Nat.reduceBEq, if_true, if_false, reduceIte, PhiD.phi]
      rintro _ _ ⟨_, _, _, _, _, _, _, _, _, _, _, _, _, _, _, _, _, _, _, _, rfl, g1, g2⟩ -
      (refine op_extract ?_; exact ⟨[], rfl, _, _, _, _, _, _, _, _, _, _, rfl, g2⟩)
    · simp only [withD, nthD, Step2, nthDst, putO, postD, Nat.reduceAdd, Nat.reduceEqDiff, Nat.zero_add, stS, List.find?_cons, List.find?_nil, Nat.reduceBEq, if_true, if_false, reduceIte, PhiD.phi]
      rintro _ _ ⟨_, _, _, _, _, _, _, _, _, _, _, _, _, _, _, _, _, _, _, _, rfl, g1, g2⟩ -
      (refine op_extract ?_; exact ⟨[], rfl, rfl, rfl⟩)
    · simp only [withD, nthD, Step2, nthDst, putO, postD, Nat.reduceAdd, Nat.reduceEqDiff, Nat.zero_add, stS, List.find?_cons, List.find?_nil, Nat.reduceBEq, if_true, if_false, reduceIte, PhiD.phi]
      (refine op_alloc ?_; intro _; exact ⟨[(_, _)], rfl, ⟨_, rfl, rfl⟩⟩)
    · simp only [withD, nthD, Step2, nthDst, putO, postD, Nat.reduceAdd, Nat.reduceEqDiff, Nat.zero_add, stS, List.find?_cons, List.find?_nil, Nat.reduceBEq, if_true, if_false, reduceIte, PhiD.phi]
      (refine op_alloc ?_; intro _; exact ⟨[(_, _)], rfl, ⟨_, rfl, rfl⟩⟩)
    · simp only [withD, nthD, Step2, nthDst, putO, postD, Nat.reduceAdd, Nat.reduceEqDiff, Nat.zero_add, stS, List.find?_cons, List.find?_nil, Nat.reduceBEq, if_true, if_false, reduceIte, PhiD.phi]
      rintro _ _ _ _ ⟨_, _, _, _, _, _, _, _, _, _, rfl, p10⟩ - _ _ ⟨_, _, _, _, _, _, _, _, _, _, _, _, _, _, _, _, _, _, _, _, rfl, e1, e2⟩ - _ _ qa - _ _ qb - _ _ qc - _ _ qd - _ _ ⟨_, _, _, _, _, _, _, _, _, _, _, _, _, _, _, _, _, _, _, _, rfl, g1, g2⟩ -
      intro a k R hoa hta hpm
      have heq := (hoa.get 9 _ rfl).symm.trans hta
      cases heq
      exact op_store0 (Exists.intro _ (And.intro rfl (And.intro ⟨_, _, _, _, _, _, _, _, _, _, _, rfl, rfl, p10.skip fun e he => by rcases List.mem_cons.1 (hpm.mem_iff.1 he) with h | h; exact .inr (by rw [h]; exact noU6); exact .inl (List.mem_cons_of_mem _ h)⟩ (And.intro rfl rfl))))
    · simp only [withD, nthD, Step2, nthDst, putO, postD, Nat.reduceAdd, Nat.reduceEqDiff, Nat.zero_add, stS, List.find?_cons, List.find?_nil, Nat.reduceBEq, if_true, if_false, reduceIte, PhiD.phi]
      rintro _ _ _ _ ⟨_, _, _, _, _, _, _, _, _, _, rfl, p11⟩ - _ _ qa - _ _ qb - _ _ qc - _ _ qd - _ _ ⟨_, _, _, _, _, _, _, _, _, _, _, _, _, _, _, _, _, _, _, _, rfl, e1, e2⟩ - _ _ ⟨_, _, _, _, _, _, _, _, _, _, _, _, _, _, _, _, _, _, _, _, rfl, g1, g2⟩ - _ _ ⟨_, _, _, _, _, _, _, _, _, _, rfl, p10⟩ -
      intro a k R hoa hta hpm
      have heq := (hoa.get 10 _ rfl).symm.trans hta
      cases heq
      exact op_store0 (Exists.intro _ (And.intro rfl (And.intro ⟨_, _, _, _, _, _, _, _, _, _, _, rfl, rfl, p11.skip fun e he => by rcases List.mem_cons.1 (hpm.mem_iff.1 he) with h | h; exact .inr (by rw [h]; exact noU6); exact .inl (List.mem_cons_of_mem _ h)⟩ (And.intro rfl rfl))))
    · simp only [withD, nthD, Step2, nthDst, putO, postD, Nat.reduceAdd, Nat.reduceEqDiff, Nat.zero_add, stS, List.find?_cons, List.find?_nil, Nat.reduceBEq, if_true, if_false, reduceIte, PhiD.phi]
      rintro _ _ qa - _ _ qb - _ _ qc - _ _ qd - _ _ ⟨_, _, _, _, _, _, _, _, _, _, _, _, _, _, _, _, _, _, _, _, rfl, e1, e2⟩ - _ _ ⟨_, _, _, _, _, _, _, _, _, _, _, _, _, _, _, _, _, _, _, _, rfl, g1, g2⟩ - _ _ ⟨_, _, _, _, _, _, _, _, _, _, rfl, p10⟩ - _ _ ⟨_, _, _, _, _, _, _, _, _, _, rfl, p11⟩ -
      (refine op_assign ?_; exact ⟨[], rfl, rfl, rfl⟩)
    simp only [FinalsD, nthDst, putO, List.drop_succ_cons, List.drop_zero]
    rintro _ _ _ _ _ _ _ _ _ _ _ _ _ _ _ _ _ _ _ _ ⟨⟨ky, v1, v2, v3, v4, v5, v6, v7, v8, v9, v10, rfl, rfl, hy⟩, ⟨kx, u1, u2, u3, u4, u5, u6, u7, u8, u9, u10, rfl, rfl, hx⟩, ⟨_, _, _, _, _, _, _, _, _, _, rfl, p11⟩, ⟨_, _, _, _, _, _, _, _, _, _, rfl, p10⟩, ⟨_, _, _, _, _, _, _, _, _, _, _, _, _, _, _, _, _, _, _, _, rfl, g1, g2⟩, ⟨_, _, _, _, _, _, _, _, _, _, _, _, _, _, _, _, _, _, _, _, rfl, e1, e2⟩, qd, qc, qb, qa, -⟩
    try simp only [List.nil_append, List.cons_append]
    simp only [List.cons_append, List.nil_append] at hx hy
    repeat' first
      | refine op_storeK rfl ?_
      | (refine op_call ((him _).mono ?_); rintro _ _ ⟨⟨ex1, rfl⟩, ⟨h, _⟩ | ⟨_, r, s, rfl, hqr, hqs⟩⟩; exact absurd h hz)
      | (refine op_call ((qIntOf 16384 _ (by decide) (by decide)).mono ?_); rintro w _ ⟨ex2, rfl, hw⟩; obtain ⟨fb, fa, fk, fc, fe, rfl⟩ := id hw.open)
      | (first | refine tl_defer ?_ | refine tc_seq ?_ | refine tc_region ?_ | refine at_seq_normal ?_ | refine tl_nil ?_ | refine tl_cons ?_ | refine tl_cons_none ?_ | refine op_move ?_ | refine op_assign ?_ | refine op_fieldAddr ?_ | refine op_load ?_ | refine op_load_agg ?_ | refine op_indexC ?_ | refine op_indexAddr1 ?_ | refine op_indexAddr ?_ | refine op_icmp ?_ | refine op_fcmp ?_ | refine op_iarith ?_ | refine op_bcmp ?_ | refine op_unop_not ?_ | refine op_unop_neg_float ?_ | refine op_unop_neg_int ?_ | refine op_len_slice ?_ | refine op_pick_true ?_ | refine op_pick_false ?_ | refine op_pick_true' ?_ | refine op_pick_false' ?_ | refine op_build ?_ | refine op_extract ?_ | refine op_makeInterface ?_ | refine op_typeAssert ?_ | refine op_ptr_nil ?_ | refine op_nilCheck_ptr ?_ | refine op_nilCheck_meth ?_ | refine op_makeMeth ?_ | refine op_makeFunc ?_ | refine op_itof ?_ | refine op_itoi ?_ | refine op_ftoi ?_ | refine op_iquo ?_ | refine op_irem ?_ | refine op_ibits ?_ | refine op_slice_isnil ?_ | refine op_slice_notnil ?_ | refine op_imax ?_ | refine op_imin ?_ | refine op_shl ?_ | refine op_shr ?_ | (refine op_alloc ?_; intro _) | (refine op_box ?_; intro _) | (refine op_buildSlice ?_; intro _) | (refine op_farith ?_; intro _ _) | refine op_store0 ?_ | refine op_store1 ?_ | refine op_store2 ?_ | refine op_store3 ?_ | refine op_store4 ?_ | refine op_store5 ?_ | refine op_storeK rfl ?_ | refine op_loadK rfl ?_ | refine op_load_aggK rfl ?_ | refine tc_cond_t ?_ | refine tc_cond_f ?_ | refine tc_cond (fun _ => ?_) (fun _ => ?_) | refine tc_block ?_ | refine tc_skip ?_ | refine tc_ret ?_ | refine tc_exit ?_ | refine tc_label ?_ | refine at_seq_ret ?_ | refine at_seq_exit ?_ | refine at_block_normal ?_ | refine at_block_ret ?_ | refine at_block_exit_self ?_ | refine at_block_exit_ne ?_ | refine at_loop_ret ?_ | refine at_loop_exit ?_ | refine at_loop_goto ?_ | refine tl_guard_yes ?_ | refine tl_guard_no ?_ | refine tl_guard_yes' ?_ | refine tl_guard_no' ?_ | refine tl_guard_undef ?_ | refine tl_guard_split (fun _ => ?_) (fun _ => ?_))
      | fail
    rename_i k14
    refine tc_fact (fun G => IsP N1 D 5 (.agg ⟨[.bool u1, .slice u2 u3 u4, .int .i64 u5, .bool u6, .slice u7 u8 u9, .int .i64 u10]⟩) G) (hx.mono ins) fun fx => ?_
    refine tc_fact (fun G => IsP N2 D 5 (.agg ⟨[.bool v1, .slice v2 v3 v4, .int .i64 v5, .bool v6, .slice v7 v8 v9, .int .i64 v10]⟩) G) (hy.mono ins) fun fy => ?_
    refine tc_fact (fun G => IsQ 16384 0 (.agg ⟨[.bool fb, .slice fa fk fc, .int .i64 fe]⟩) G) (hw.mono ins) fun fI => ?_
    clear hx hy hw
    obtain ⟨_, _, _, _, _, _, _, _, _, _, hxa, i1, i2⟩ := id fx
    cases hxa
    obtain ⟨_, _, _, _, _, _, _, _, _, _, hya, j1, j2⟩ := id fy
    cases hya
    by_cases hA : 0 < (if N1 < 0 then -N1 else N1) - 16384 * D
    · have hcA : icmp .gtr (sgQ ((if N1 < 0 then -N1 else N1) - 16384 * D)) 0 = true := by rw [sgQ_gtr, decide_eq_true hA]
      apply fun hole0 hole1 hole2 hole3 hole4 hole5 hole6 hole7 hole8 hole9 hole10 hole11 hole12 hole13 hole14 hole15 hE hD hml hdl hpr prem fin => tc_drawnD 20 [PhiD.is hole0, PhiD.is hole1, PhiD.gen (fun w _ G => IsQ (if N1 < 0 then -N1 else N1) 5 w G), PhiD.is hole2, PhiD.is hole3, PhiD.is hole4, PhiD.gen (fun w _ G => IsQ (16384 * D) 6 w G), PhiD.gen (some' (fun w _ => w = .int .i64 (sgQ ((if N1 < 0 then -N1 else N1) - 16384 * D)))), PhiD.is (.bool true), PhiD.is hole5, PhiD.is hole6, PhiD.is hole7, PhiD.is hole8, PhiD.is hole9, PhiD.is hole10, PhiD.is hole11, PhiD.is hole12, PhiD.is hole13, PhiD.is hole14, PhiD.is hole15]
        [some 48, some 49, some 50, some 51, some 52, some 53, some 54, some 55, some 56, some 57, some 58, some 59, some 60, some 61, some 62, some 63, some 64, some 65, some 66, some 67] [[], [0], [1], [], [], [4], [3, 5, 2], [2, 6], [7], [8, 7], [9], [10, 9], [11, 9], [9], [9], [14, 9], [13, 15, 12, 9], [12, 16, 9], [17, 9], [9, 18]] mixed ⟨(fun _ _ _ _ h hs => IsQ.mono h hs), (fun _ _ _ _ h hs => IsQ.mono h hs), (some_mono _), trivial⟩ prem fin hE hD rfl hml hdl hpr
      rotate_left 17
      · first | kernel_rfl | exact rfl
      · first | kernel_rfl | exact rfl
      · exact Nat.le_of_ble_eq_true rfl
      · first | kernel_rfl | exact rfl
      · first | kernel_rfl | exact rfl
      refine ⟨fun G hG => ?_, fun G hG => ?_, fun G hG => ?_, fun G hG => ?_, fun G hG => ?_, fun G hG => ?_, fun G hG => ?_, fun G hG => ?_, fun G hG => ?_, fun G hG => ?_, fun G hG => ?_, fun G hG => ?_, fun G hG => ?_, fun G hG => ?_, fun G hG => ?_, fun G hG => ?_, fun G hG => ?_, fun G hG => ?_, fun G hG => ?_, fun G hG => ?_, trivial⟩
      · simp only [withD, nthD, Step2, nthDst, putO, postD]
        (refine op_fieldAddr ?_; exact ⟨[], rfl, rfl, rfl⟩)
      · simp only [withD, nthD, Step2, nthDst, putO, postD]
        ((first | refine op_load ?_ | refine op_load_agg ?_ | refine op_load ?_ (hm := Sub.mem (by assumption) (by (repeat (apply List.mem_cons_of_mem)); assumption)) | refine op_load_agg ?_ (hm := Sub.mem (by assumption) (by (repeat (apply List.mem_cons_of_mem)); assumption)) | refine op_loadH hG rfl ?_ | refine op_load_aggH hG rfl ?_); exact ⟨[], rfl, rfl, rfl⟩)
      · simp only [withD, nthD, Step2, nthDst, putO, postD]
        (refine op_call ((qAbs _ _ 5 _ (i1.mono fun e he => hG e (by simp [he]))).mono ?_); rintro w _ ⟨ex, rfl, hw⟩; exact ⟨ex, rfl, hw⟩)
      · simp only [withD, nthD, Step2, nthDst, putO, postD]
        ((first | refine op_load ?_ | refine op_load_agg ?_ | refine op_load ?_ (hm := Sub.mem (by assumption) (by (repeat (apply List.mem_cons_of_mem)); assumption)) | refine op_load_agg ?_ (hm := Sub.mem (by assumption) (by (repeat (apply List.mem_cons_of_mem)); assumption)) | refine op_loadH hG rfl ?_ | refine op_load_aggH hG rfl ?_); exact ⟨[], rfl, rfl, rfl⟩)
      · simp only [withD, nthD, Step2, nthDst, putO, postD]
        (refine op_fieldAddr ?_; exact ⟨[], rfl, rfl, rfl⟩)
      · simp only [withD, nthD, Step2, nthDst, putO, postD]
        ((first | refine op_load ?_ | refine op_load_agg ?_ | refine op_load ?_ (hm := Sub.mem (by assumption) (by (repeat (apply List.mem_cons_of_mem)); assumption)) | refine op_load_agg ?_ (hm := Sub.mem (by assumption) (by (repeat (apply List.mem_cons_of_mem)); assumption)) | refine op_loadH hG rfl ?_ | refine op_load_aggH hG rfl ?_); exact ⟨[], rfl, rfl, rfl⟩)
      · simp only [withD, nthD, Step2, nthDst, putO, postD]
        rintro _ _ r2 -
        (refine op_call ((qMul _ _ _ _ 5 _ (by decide) (((fI.mono fun e he => hG e (by simp [he]))).big (by decide)) (i2.mono fun e he => hG e (by simp [he]))).mono ?_); rintro w _ ⟨ex, rfl, hw⟩; exact ⟨ex, rfl, hw⟩)
      · simp only [withD, nthD, Step2, nthDst, putO, postD]
        rintro _ _ r2 - _ _ r6 -
        (refine op_call ((qCmp _ _ _ _ 6 _ (by decide) (r2.big (by decide)) r6).mono ?_); rintro _ _ ⟨ex, rfl, rfl⟩; exact ⟨ex, rfl, rfl⟩)
      · simp only [withD, nthD, Step2, nthDst, putO, postD]
        rintro _ _ rfl -
        (refine op_icmp ?_; rw [hcA]; exact ⟨[], rfl, rfl, rfl⟩)
      · simp only [withD, nthD, Step2, nthDst, putO, postD]
        rintro _ _ rfl -
        (refine op_move ?_; exact ⟨[], rfl, rfl, rfl⟩)
      · simp only [withD, nthD, Step2, nthDst, putO, postD]
        (first | refine .inr ⟨_, rfl, rfl, [], rfl, rfl, rfl⟩ | refine .inl ⟨_, _, rfl, rfl, fun _ => ?_, fun h => absurd h (by first | decide | (refine ne_not ?_; assumption))⟩ | refine .inl ⟨_, _, rfl, rfl, (fun h => absurd h (by first | decide | (refine ne_not2 ?_; assumption))), fun _ => ⟨[], rfl, rfl, rfl⟩⟩)
        (all_goals (refine op_fieldAddr ?_; exact ⟨[], rfl, rfl, rfl⟩))
      · simp only [withD, nthD, Step2, nthDst, putO, postD]
        (first | refine .inr ⟨_, rfl, rfl, [], rfl, rfl, rfl⟩ | refine .inl ⟨_, _, rfl, rfl, fun _ => ?_, fun h => absurd h (by first | decide | (refine ne_not ?_; assumption))⟩ | refine .inl ⟨_, _, rfl, rfl, (fun h => absurd h (by first | decide | (refine ne_not2 ?_; assumption))), fun _ => ⟨[], rfl, rfl, rfl⟩⟩)
        (all_goals ((first | refine op_load ?_ | refine op_load_agg ?_ | refine op_load ?_ (hm := Sub.mem (by assumption) (by (repeat (apply List.mem_cons_of_mem)); assumption)) | refine op_load_agg ?_ (hm := Sub.mem (by assumption) (by (repeat (apply List.mem_cons_of_mem)); assumption)) | refine op_loadH hG rfl ?_ | refine op_load_aggH hG rfl ?_); exact ⟨[], rfl, rfl, rfl⟩))
      · simp only [withD, nthD, Step2, nthDst, putO, postD]
        (first | refine .inr ⟨_, rfl, rfl, [], rfl, rfl, rfl⟩ | refine .inl ⟨_, _, rfl, rfl, fun _ => ?_, fun h => absurd h (by first | decide | (refine ne_not ?_; assumption))⟩ | refine .inl ⟨_, _, rfl, rfl, (fun h => absurd h (by first | decide | (refine ne_not2 ?_; assumption))), fun _ => ⟨[], rfl, rfl, rfl⟩⟩)
        (all_goals (first | ((first | refine op_move ?_ | refine op_assign ?_ | refine op_fieldAddr ?_ | refine op_load ?_ | refine op_load_agg ?_ | refine op_indexC ?_ | refine op_indexAddr1 ?_ | refine op_indexAddr ?_ | refine op_icmp ?_ | refine op_fcmp ?_ | refine op_iarith ?_ | refine op_bcmp ?_ | refine op_unop_not ?_ | refine op_unop_neg_float ?_ | refine op_unop_neg_int ?_ | refine op_len_slice ?_ | refine op_pick_true ?_ | refine op_pick_false ?_ | refine op_pick_true' ?_ | refine op_pick_false' ?_ | refine op_build ?_ | refine op_extract ?_ | refine op_makeInterface ?_ | refine op_typeAssert ?_ | refine op_ptr_nil ?_ | refine op_nilCheck_ptr ?_ | refine op_nilCheck_meth ?_ | refine op_makeMeth ?_ | refine op_makeFunc ?_ | refine op_itof ?_ | refine op_itoi ?_ | refine op_ftoi ?_ | refine op_iquo ?_ | refine op_irem ?_ | refine op_ibits ?_ | refine op_slice_isnil ?_ | refine op_slice_notnil ?_ | refine op_imax ?_ | refine op_imin ?_ | refine op_shl ?_ | refine op_shr ?_ | refine op_load ?_ (hm := Sub.mem (by assumption) (by (repeat (apply List.mem_cons_of_mem)); assumption)) | refine op_load_agg ?_ (hm := Sub.mem (by assumption) (by (repeat (apply List.mem_cons_of_mem)); assumption))); exact ⟨[], rfl, rfl, rfl⟩) | (refine op_alloc ?_; intro _; exact ⟨[(_, _)], rfl, ⟨_, rfl, rfl⟩⟩) | (refine op_box ?_; intro _; exact ⟨[(_, _)], rfl, ⟨_, rfl, rfl⟩⟩) | (refine op_buildSlice ?_; intro _; exact ⟨[(_, _)], rfl, ⟨_, rfl, rfl⟩⟩) | (refine op_farith ?_; intro _ h; exact ⟨[], rfl, ⟨_, h, rfl⟩, rfl⟩)))
      · simp only [withD, nthD, Step2, nthDst, putO, postD]
        (first | refine .inr ⟨_, rfl, rfl, [], rfl, rfl, rfl⟩ | refine .inl ⟨_, _, rfl, rfl, fun _ => ?_, fun h => absurd h (by first | decide | (refine ne_not ?_; assumption))⟩ | refine .inl ⟨_, _, rfl, rfl, (fun h => absurd h (by first | decide | (refine ne_not2 ?_; assumption))), fun _ => ⟨[], rfl, rfl, rfl⟩⟩)
        (all_goals ((first | refine op_load ?_ | refine op_load_agg ?_ | refine op_load ?_ (hm := Sub.mem (by assumption) (by (repeat (apply List.mem_cons_of_mem)); assumption)) | refine op_load_agg ?_ (hm := Sub.mem (by assumption) (by (repeat (apply List.mem_cons_of_mem)); assumption)) | refine op_loadH hG rfl ?_ | refine op_load_aggH hG rfl ?_); exact ⟨[], rfl, rfl, rfl⟩))
      · simp only [withD, nthD, Step2, nthDst, putO, postD]
        (first | refine .inr ⟨_, rfl, rfl, [], rfl, rfl, rfl⟩ | refine .inl ⟨_, _, rfl, rfl, fun _ => ?_, fun h => absurd h (by first | decide | (refine ne_not ?_; assumption))⟩ | refine .inl ⟨_, _, rfl, rfl, (fun h => absurd h (by first | decide | (refine ne_not2 ?_; assumption))), fun _ => ⟨[], rfl, rfl, rfl⟩⟩)
        (all_goals (refine op_fieldAddr ?_; exact ⟨[], rfl, rfl, rfl⟩))
      · simp only [withD, nthD, Step2, nthDst, putO, postD]
        (first | refine .inr ⟨_, rfl, rfl, [], rfl, rfl, rfl⟩ | refine .inl ⟨_, _, rfl, rfl, fun _ => ?_, fun h => absurd h (by first | decide | (refine ne_not ?_; assumption))⟩ | refine .inl ⟨_, _, rfl, rfl, (fun h => absurd h (by first | decide | (refine ne_not2 ?_; assumption))), fun _ => ⟨[], rfl, rfl, rfl⟩⟩)
        (all_goals ((first | refine op_load ?_ | refine op_load_agg ?_ | refine op_load ?_ (hm := Sub.mem (by assumption) (by (repeat (apply List.mem_cons_of_mem)); assumption)) | refine op_load_agg ?_ (hm := Sub.mem (by assumption) (by (repeat (apply List.mem_cons_of_mem)); assumption)) | refine op_loadH hG rfl ?_ | refine op_load_aggH hG rfl ?_); exact ⟨[], rfl, rfl, rfl⟩))
      · simp only [withD, nthD, Step2, nthDst, putO, postD]
        (first | refine .inr ⟨_, rfl, rfl, [], rfl, rfl, rfl⟩ | refine .inl ⟨_, _, rfl, rfl, fun _ => ?_, fun h => absurd h (by first | decide | (refine ne_not ?_; assumption))⟩ | refine .inl ⟨_, _, rfl, rfl, (fun h => absurd h (by first | decide | (refine ne_not2 ?_; assumption))), fun _ => ⟨[], rfl, rfl, rfl⟩⟩)
        (all_goals (first | ((first | refine op_move ?_ | refine op_assign ?_ | refine op_fieldAddr ?_ | refine op_load ?_ | refine op_load_agg ?_ | refine op_indexC ?_ | refine op_indexAddr1 ?_ | refine op_indexAddr ?_ | refine op_icmp ?_ | refine op_fcmp ?_ | refine op_iarith ?_ | refine op_bcmp ?_ | refine op_unop_not ?_ | refine op_unop_neg_float ?_ | refine op_unop_neg_int ?_ | refine op_len_slice ?_ | refine op_pick_true ?_ | refine op_pick_false ?_ | refine op_pick_true' ?_ | refine op_pick_false' ?_ | refine op_build ?_ | refine op_extract ?_ | refine op_makeInterface ?_ | refine op_typeAssert ?_ | refine op_ptr_nil ?_ | refine op_nilCheck_ptr ?_ | refine op_nilCheck_meth ?_ | refine op_makeMeth ?_ | refine op_makeFunc ?_ | refine op_itof ?_ | refine op_itoi ?_ | refine op_ftoi ?_ | refine op_iquo ?_ | refine op_irem ?_ | refine op_ibits ?_ | refine op_slice_isnil ?_ | refine op_slice_notnil ?_ | refine op_imax ?_ | refine op_imin ?_ | refine op_shl ?_ | refine op_shr ?_ | refine op_load ?_ (hm := Sub.mem (by assumption) (by (repeat (apply List.mem_cons_of_mem)); assumption)) | refine op_load_agg ?_ (hm := Sub.mem (by assumption) (by (repeat (apply List.mem_cons_of_mem)); assumption))); exact ⟨[], rfl, rfl, rfl⟩) | (refine op_alloc ?_; intro _; exact ⟨[(_, _)], rfl, ⟨_, rfl, rfl⟩⟩) | (refine op_box ?_; intro _; exact ⟨[(_, _)], rfl, ⟨_, rfl, rfl⟩⟩) | (refine op_buildSlice ?_; intro _; exact ⟨[(_, _)], rfl, ⟨_, rfl, rfl⟩⟩) | (refine op_farith ?_; intro _ h; exact ⟨[], rfl, ⟨_, h, rfl⟩, rfl⟩)))
      · simp only [withD, nthD, Step2, nthDst, putO, postD]
        (first | refine .inr ⟨_, rfl, rfl, [], rfl, rfl, rfl⟩ | refine .inl ⟨_, _, rfl, rfl, fun _ => ?_, fun h => absurd h (by first | decide | (refine ne_not ?_; assumption))⟩ | refine .inl ⟨_, _, rfl, rfl, (fun h => absurd h (by first | decide | (refine ne_not2 ?_; assumption))), fun _ => ⟨[], rfl, rfl, rfl⟩⟩)
        (all_goals (first | ((first | refine op_move ?_ | refine op_assign ?_ | refine op_fieldAddr ?_ | refine op_load ?_ | refine op_load_agg ?_ | refine op_indexC ?_ | refine op_indexAddr1 ?_ | refine op_indexAddr ?_ | refine op_icmp ?_ | refine op_fcmp ?_ | refine op_iarith ?_ | refine op_bcmp ?_ | refine op_unop_not ?_ | refine op_unop_neg_float ?_ | refine op_unop_neg_int ?_ | refine op_len_slice ?_ | refine op_pick_true ?_ | refine op_pick_false ?_ | refine op_pick_true' ?_ | refine op_pick_false' ?_ | refine op_build ?_ | refine op_extract ?_ | refine op_makeInterface ?_ | refine op_typeAssert ?_ | refine op_ptr_nil ?_ | refine op_nilCheck_ptr ?_ | refine op_nilCheck_meth ?_ | refine op_makeMeth ?_ | refine op_makeFunc ?_ | refine op_itof ?_ | refine op_itoi ?_ | refine op_ftoi ?_ | refine op_iquo ?_ | refine op_irem ?_ | refine op_ibits ?_ | refine op_slice_isnil ?_ | refine op_slice_notnil ?_ | refine op_imax ?_ | refine op_imin ?_ | refine op_shl ?_ | refine op_shr ?_ | refine op_load ?_ (hm := Sub.mem (by assumption) (by (repeat (apply List.mem_cons_of_mem)); assumption)) | refine op_load_agg ?_ (hm := Sub.mem (by assumption) (by (repeat (apply List.mem_cons_of_mem)); assumption))); exact ⟨[], rfl, rfl, rfl⟩) | (refine op_alloc ?_; intro _; exact ⟨[(_, _)], rfl, ⟨_, rfl, rfl⟩⟩) | (refine op_box ?_; intro _; exact ⟨[(_, _)], rfl, ⟨_, rfl, rfl⟩⟩) | (refine op_buildSlice ?_; intro _; exact ⟨[(_, _)], rfl, ⟨_, rfl, rfl⟩⟩) | (refine op_farith ?_; intro _ h; exact ⟨[], rfl, ⟨_, h, rfl⟩, rfl⟩)))
      · simp only [withD, nthD, Step2, nthDst, putO, postD]
        (first | refine .inr ⟨_, rfl, rfl, [], rfl, rfl, rfl⟩ | refine .inl ⟨_, _, rfl, rfl, fun _ => ?_, fun h => absurd h (by first | decide | (refine ne_not ?_; assumption))⟩ | refine .inl ⟨_, _, rfl, rfl, (fun h => absurd h (by first | decide | (refine ne_not2 ?_; assumption))), fun _ => ⟨[], rfl, rfl, rfl⟩⟩)
        (all_goals (refine op_icmp ?_; exact ⟨[], rfl, rfl, rfl⟩))
      · simp only [withD, nthD, Step2, nthDst, putO, postD]
        ((first | refine op_pick_true ?_ | refine op_pick_false ?_ | refine op_pick_true' ?_ | refine op_pick_false' ?_); exact ⟨[], rfl, rfl, rfl⟩)
      simp only [FinalsD, nthDst, putO, List.drop_succ_cons, List.drop_zero]
      rintro _ _ _ _ _ _ ⟨rfl, r6, r2, -⟩
      try simp only [List.nil_append]
      repeat'
        first
          | refine tl_defer ?_ | refine tc_seq ?_ | refine tc_region ?_ | refine at_seq_normal ?_ | refine tl_nil ?_ | refine tl_cons ?_ | refine tl_cons_none ?_ | refine op_move ?_
          | refine op_assign ?_ | refine op_fieldAddr ?_ | refine op_load ?_ | refine op_load_agg ?_ | refine op_indexC ?_ | refine op_indexAddr1 ?_ | refine op_indexAddr ?_ | refine op_icmp ?_
          | refine op_fcmp ?_ | refine op_iarith ?_ | refine op_bcmp ?_ | refine op_unop_not ?_ | refine op_unop_neg_float ?_ | refine op_unop_neg_int ?_ | refine op_len_slice ?_ | refine op_pick_true ?_
          | refine op_pick_false ?_ | refine op_pick_true' ?_ | refine op_pick_false' ?_ | refine op_build ?_ | refine op_extract ?_ | refine op_makeInterface ?_ | refine op_typeAssert ?_ | refine op_ptr_nil ?_
          | refine op_nilCheck_ptr ?_ | refine op_nilCheck_meth ?_ | refine op_makeMeth ?_ | refine op_makeFunc ?_ | refine op_itof ?_ | refine op_itoi ?_ | refine op_ftoi ?_ | refine op_iquo ?_
          | refine op_irem ?_ | refine op_ibits ?_ | refine op_slice_isnil ?_ | refine op_slice_notnil ?_ | refine op_imax ?_ | refine op_imin ?_ | refine op_shl ?_ | refine op_shr ?_
          | (refine op_alloc ?_; intro _) | (refine op_box ?_; intro _) | (refine op_buildSlice ?_; intro _) | (refine op_farith ?_; intro _ _) | refine op_store0 ?_ | refine op_store1 ?_ | refine op_store2 ?_ | refine op_store3 ?_
          | refine op_store4 ?_ | refine op_store5 ?_ | refine tc_cond_t ?_ | refine tc_cond_f ?_ | refine tc_cond (fun _ => ?_) (fun _ => ?_) | refine tc_block ?_ | refine tc_skip ?_ | refine tc_ret ?_
          | refine tc_exit ?_ | refine tc_label ?_ | refine at_seq_ret ?_ | refine at_seq_exit ?_ | refine at_block_normal ?_ | refine at_block_ret ?_ | refine at_block_exit_self ?_ | refine at_block_exit_ne ?_
          | refine at_loop_ret ?_ | refine at_loop_exit ?_ | refine at_loop_goto ?_ | refine tl_guard_yes ?_ | refine tl_guard_no ?_ | refine tl_guard_yes' ?_ | refine tl_guard_no' ?_ | refine tl_guard_undef ?_
          | refine tl_guard_split (fun _ => ?_) (fun _ => ?_)
      exact ret_tmp (hG := by (repeat (first | exact List.Sublist.refl _ | apply List.Sublist.cons_cons | apply List.Sublist.cons | refine List.Sublist.trans ?_ (List.sublist_append_right _ _)))) (hk := ⟨rfl, rfl⟩)
    · have hcA : icmp .gtr (sgQ ((if N1 < 0 then -N1 else N1) - 16384 * D)) 0 = false := by rw [sgQ_gtr, decide_eq_false hA]
      by_cases hB : 0 < (if N2 < 0 then -N2 else N2) - 16384 * D
      · have hcB : icmp .gtr (sgQ ((if N2 < 0 then -N2 else N2) - 16384 * D)) 0 = true := by rw [sgQ_gtr, decide_eq_true hB]
        apply fun hole0 hole1 hole2 hole3 hole4 hole5 hole6 hole7 hole8 hole9 hole10 hole11 hE hD hml hdl hpr prem fin => tc_drawnD 20 [PhiD.is hole0, PhiD.is hole1, PhiD.gen (fun w _ G => IsQ (if N1 < 0 then -N1 else N1) 5 w G), PhiD.is hole2, PhiD.is hole3, PhiD.is hole4, PhiD.gen (fun w _ G => IsQ (16384 * D) 6 w G), PhiD.gen (some' (fun w _ => w = .int .i64 (sgQ ((if N1 < 0 then -N1 else N1) - 16384 * D)))), PhiD.is (.bool false), PhiD.is hole5, PhiD.is hole6, PhiD.is hole7, PhiD.gen (fun w _ G => IsQ (if N2 < 0 then -N2 else N2) 5 w G), PhiD.is hole8, PhiD.is hole9, PhiD.is hole10, PhiD.gen (fun w _ G => IsQ (16384 * D) 6 w G), PhiD.gen (some' (fun w _ => w = .int .i64 (sgQ ((if N2 < 0 then -N2 else N2) - 16384 * D)))), PhiD.is (.bool true), PhiD.is hole11]
          [some 48, some 49, some 50, some 51, some 52, some 53, some 54, some 55, some 56, some 57, some 58, some 59, some 60, some 61, some 62, some 63, some 64, some 65, some 66, some 67] [[], [0], [1], [], [], [4], [3, 5, 2], [2, 6], [7], [8, 7], [9], [10, 9], [11, 9], [9], [9], [14, 9], [13, 15, 12, 9], [12, 16, 9], [17, 9], [9, 18]] mixed ⟨(fun _ _ _ _ h hs => IsQ.mono h hs), (fun _ _ _ _ h hs => IsQ.mono h hs), (some_mono _), (fun _ _ _ _ h hs => IsQ.mono h hs), (fun _ _ _ _ h hs => IsQ.mono h hs), (some_mono _), trivial⟩ prem fin hE hD rfl hml hdl hpr
        rotate_left 13
        · first | kernel_rfl | exact rfl
        · first | kernel_rfl | exact rfl
        · exact Nat.le_of_ble_eq_true rfl
        · first | kernel_rfl | exact rfl
        · first | kernel_rfl | exact rfl
        refine ⟨fun G hG => ?_, fun G hG => ?_, fun G hG => ?_, fun G hG => ?_, fun G hG => ?_, fun G hG => ?_, fun G hG => ?_, fun G hG => ?_, fun G hG => ?_, fun G hG => ?_, fun G hG => ?_, fun G hG => ?_, fun G hG => ?_, fun G hG => ?_, fun G hG => ?_, fun G hG => ?_, fun G hG => ?_, fun G hG => ?_, fun G hG => ?_, fun G hG => ?_, trivial⟩
        · simp only [withD, nthD, Step2, nthDst, putO, postD]
          (refine op_fieldAddr ?_; exact ⟨[], rfl, rfl, rfl⟩)
        · simp only [withD, nthD, Step2, nthDst, putO, postD]
          ((first | refine op_load ?_ | refine op_load_agg ?_ | refine op_load ?_ (hm := Sub.mem (by assumption) (by (repeat (apply List.mem_cons_of_mem)); assumption)) | refine op_load_agg ?_ (hm := Sub.mem (by assumption) (by (repeat (apply List.mem_cons_of_mem)); assumption)) | refine op_loadH hG rfl ?_ | refine op_load_aggH hG rfl ?_); exact ⟨[], rfl, rfl, rfl⟩)
        · simp only [withD, nthD, Step2, nthDst, putO, postD]
          (refine op_call ((qAbs _ _ 5 _ (i1.mono fun e he => hG e (by simp [he]))).mono ?_); rintro w _ ⟨ex, rfl, hw⟩; exact ⟨ex, rfl, hw⟩)
        · simp only [withD, nthD, Step2, nthDst, putO, postD]
          ((first | refine op_load ?_ | refine op_load_agg ?_ | refine op_load ?_ (hm := Sub.mem (by assumption) (by (repeat (apply List.mem_cons_of_mem)); assumption)) | refine op_load_agg ?_ (hm := Sub.mem (by assumption) (by (repeat (apply List.mem_cons_of_mem)); assumption)) | refine op_loadH hG rfl ?_ | refine op_load_aggH hG rfl ?_); exact ⟨[], rfl, rfl, rfl⟩)
        · simp only [withD, nthD, Step2, nthDst, putO, postD]
          (refine op_fieldAddr ?_; exact ⟨[], rfl, rfl, rfl⟩)
        · simp only [withD, nthD, Step2, nthDst, putO, postD]
          ((first | refine op_load ?_ | refine op_load_agg ?_ | refine op_load ?_ (hm := Sub.mem (by assumption) (by (repeat (apply List.mem_cons_of_mem)); assumption)) | refine op_load_agg ?_ (hm := Sub.mem (by assumption) (by (repeat (apply List.mem_cons_of_mem)); assumption)) | refine op_loadH hG rfl ?_ | refine op_load_aggH hG rfl ?_); exact ⟨[], rfl, rfl, rfl⟩)
        · simp only [withD, nthD, Step2, nthDst, putO, postD]
          rintro _ _ r2 -
          (refine op_call ((qMul _ _ _ _ 5 _ (by decide) (((fI.mono fun e he => hG e (by simp [he]))).big (by decide)) (i2.mono fun e he => hG e (by simp [he]))).mono ?_); rintro w _ ⟨ex, rfl, hw⟩; exact ⟨ex, rfl, hw⟩)
        · simp only [withD, nthD, Step2, nthDst, putO, postD]
          rintro _ _ r2 - _ _ r6 -
          (refine op_call ((qCmp _ _ _ _ 6 _ (by decide) (r2.big (by decide)) r6).mono ?_); rintro _ _ ⟨ex, rfl, rfl⟩; exact ⟨ex, rfl, rfl⟩)
        · simp only [withD, nthD, Step2, nthDst, putO, postD]
          rintro _ _ rfl -
          (refine op_icmp ?_; rw [hcA]; exact ⟨[], rfl, rfl, rfl⟩)
        · simp only [withD, nthD, Step2, nthDst, putO, postD]
          rintro _ _ rfl -
          (refine op_move ?_; exact ⟨[], rfl, rfl, rfl⟩)
        · simp only [withD, nthD, Step2, nthDst, putO, postD]
          (first | refine .inr ⟨_, rfl, rfl, [], rfl, rfl, rfl⟩ | refine .inl ⟨_, _, rfl, rfl, fun _ => ?_, fun h => absurd h (by first | decide | (refine ne_not ?_; assumption))⟩ | refine .inl ⟨_, _, rfl, rfl, (fun h => absurd h (by first | decide | (refine ne_not2 ?_; assumption))), fun _ => ⟨[], rfl, rfl, rfl⟩⟩)
          (all_goals (refine op_fieldAddr ?_; exact ⟨[], rfl, rfl, rfl⟩))
        · simp only [withD, nthD, Step2, nthDst, putO, postD]
          (first | refine .inr ⟨_, rfl, rfl, [], rfl, rfl, rfl⟩ | refine .inl ⟨_, _, rfl, rfl, fun _ => ?_, fun h => absurd h (by first | decide | (refine ne_not ?_; assumption))⟩ | refine .inl ⟨_, _, rfl, rfl, (fun h => absurd h (by first | decide | (refine ne_not2 ?_; assumption))), fun _ => ⟨[], rfl, rfl, rfl⟩⟩)
          (all_goals ((first | refine op_load ?_ | refine op_load_agg ?_ | refine op_load ?_ (hm := Sub.mem (by assumption) (by (repeat (apply List.mem_cons_of_mem)); assumption)) | refine op_load_agg ?_ (hm := Sub.mem (by assumption) (by (repeat (apply List.mem_cons_of_mem)); assumption)) | refine op_loadH hG rfl ?_ | refine op_load_aggH hG rfl ?_); exact ⟨[], rfl, rfl, rfl⟩))
        · simp only [withD, nthD, Step2, nthDst, putO, postD]
          (first | refine .inr ⟨_, rfl, rfl, [], rfl, rfl, rfl⟩ | refine .inl ⟨_, _, rfl, rfl, fun _ => ?_, fun h => absurd h (by first | decide | (refine ne_not ?_; assumption))⟩ | refine .inl ⟨_, _, rfl, rfl, (fun h => absurd h (by first | decide | (refine ne_not2 ?_; assumption))), fun _ => ⟨[], rfl, rfl, rfl⟩⟩)
          (all_goals ((refine op_call ((qAbs _ _ 5 _ (j1.mono fun e he => hG e (by simp [he]))).mono ?_); rintro w _ ⟨ex, rfl, hw⟩; exact ⟨ex, rfl, hw⟩)))
        · simp only [withD, nthD, Step2, nthDst, putO, postD]
          (first | refine .inr ⟨_, rfl, rfl, [], rfl, rfl, rfl⟩ | refine .inl ⟨_, _, rfl, rfl, fun _ => ?_, fun h => absurd h (by first | decide | (refine ne_not ?_; assumption))⟩ | refine .inl ⟨_, _, rfl, rfl, (fun h => absurd h (by first | decide | (refine ne_not2 ?_; assumption))), fun _ => ⟨[], rfl, rfl, rfl⟩⟩)
          (all_goals ((first | refine op_load ?_ | refine op_load_agg ?_ | refine op_load ?_ (hm := Sub.mem (by assumption) (by (repeat (apply List.mem_cons_of_mem)); assumption)) | refine op_load_agg ?_ (hm := Sub.mem (by assumption) (by (repeat (apply List.mem_cons_of_mem)); assumption)) | refine op_loadH hG rfl ?_ | refine op_load_aggH hG rfl ?_); exact ⟨[], rfl, rfl, rfl⟩))
        · simp only [withD, nthD, Step2, nthDst, putO, postD]
          (first | refine .inr ⟨_, rfl, rfl, [], rfl, rfl, rfl⟩ | refine .inl ⟨_, _, rfl, rfl, fun _ => ?_, fun h => absurd h (by first | decide | (refine ne_not ?_; assumption))⟩ | refine .inl ⟨_, _, rfl, rfl, (fun h => absurd h (by first | decide | (refine ne_not2 ?_; assumption))), fun _ => ⟨[], rfl, rfl, rfl⟩⟩)
          (all_goals (refine op_fieldAddr ?_; exact ⟨[], rfl, rfl, rfl⟩))
        · simp only [withD, nthD, Step2, nthDst, putO, postD]
          (first | refine .inr ⟨_, rfl, rfl, [], rfl, rfl, rfl⟩ | refine .inl ⟨_, _, rfl, rfl, fun _ => ?_, fun h => absurd h (by first | decide | (refine ne_not ?_; assumption))⟩ | refine .inl ⟨_, _, rfl, rfl, (fun h => absurd h (by first | decide | (refine ne_not2 ?_; assumption))), fun _ => ⟨[], rfl, rfl, rfl⟩⟩)
          (all_goals ((first | refine op_load ?_ | refine op_load_agg ?_ | refine op_load ?_ (hm := Sub.mem (by assumption) (by (repeat (apply List.mem_cons_of_mem)); assumption)) | refine op_load_agg ?_ (hm := Sub.mem (by assumption) (by (repeat (apply List.mem_cons_of_mem)); assumption)) | refine op_loadH hG rfl ?_ | refine op_load_aggH hG rfl ?_); exact ⟨[], rfl, rfl, rfl⟩))
        · simp only [withD, nthD, Step2, nthDst, putO, postD]
          rintro _ _ r12 -
          (first | refine .inr ⟨_, rfl, rfl, [], rfl, rfl, rfl⟩ | refine .inl ⟨_, _, rfl, rfl, fun _ => ?_, fun h => absurd h (by first | decide | (refine ne_not ?_; assumption))⟩ | refine .inl ⟨_, _, rfl, rfl, (fun h => absurd h (by first | decide | (refine ne_not2 ?_; assumption))), fun _ => ⟨[], rfl, rfl, rfl⟩⟩)
          (all_goals ((refine op_call ((qMul _ _ _ _ 5 _ (by decide) (((fI.mono fun e he => hG e (by simp [he]))).big (by decide)) (j2.mono fun e he => hG e (by simp [he]))).mono ?_); rintro w _ ⟨ex, rfl, hw⟩; exact ⟨ex, rfl, hw⟩)))
        · simp only [withD, nthD, Step2, nthDst, putO, postD]
          rintro _ _ r12 - _ _ r16 -
          (first | refine .inr ⟨_, rfl, rfl, [], rfl, rfl, rfl⟩ | refine .inl ⟨_, _, rfl, rfl, fun _ => ?_, fun h => absurd h (by first | decide | (refine ne_not ?_; assumption))⟩ | refine .inl ⟨_, _, rfl, rfl, (fun h => absurd h (by first | decide | (refine ne_not2 ?_; assumption))), fun _ => ⟨[], rfl, rfl, rfl⟩⟩)
          (all_goals ((refine op_call ((qCmp _ _ _ _ 6 _ (by decide) (r12.big (by decide)) r16).mono ?_); rintro _ _ ⟨ex, rfl, rfl⟩; exact ⟨ex, rfl, rfl⟩)))
        · simp only [withD, nthD, Step2, nthDst, putO, postD]
          rintro _ _ rfl -
          (first | refine .inr ⟨_, rfl, rfl, [], rfl, rfl, rfl⟩ | refine .inl ⟨_, _, rfl, rfl, fun _ => ?_, fun h => absurd h (by first | decide | (refine ne_not ?_; assumption))⟩ | refine .inl ⟨_, _, rfl, rfl, (fun h => absurd h (by first | decide | (refine ne_not2 ?_; assumption))), fun _ => ⟨[], rfl, rfl, rfl⟩⟩)
          (all_goals ((refine op_icmp ?_; rw [hcB]; exact ⟨[], rfl, rfl, rfl⟩)))
        · simp only [withD, nthD, Step2, nthDst, putO, postD]
          ((first | refine op_pick_true ?_ | refine op_pick_false ?_ | refine op_pick_true' ?_ | refine op_pick_false' ?_); exact ⟨[], rfl, rfl, rfl⟩)
        simp only [FinalsD, nthDst, putO, List.drop_succ_cons, List.drop_zero]
        rintro _ _ _ _ _ _ _ _ _ _ _ _ ⟨rfl, r16, r12, rfl, r6, r2, -⟩
        try simp only [List.nil_append]
        repeat'
          first
            | refine tl_defer ?_ | refine tc_seq ?_ | refine tc_region ?_ | refine at_seq_normal ?_ | refine tl_nil ?_ | refine tl_cons ?_ | refine tl_cons_none ?_ | refine op_move ?_
            | refine op_assign ?_ | refine op_fieldAddr ?_ | refine op_load ?_ | refine op_load_agg ?_ | refine op_indexC ?_ | refine op_indexAddr1 ?_ | refine op_indexAddr ?_ | refine op_icmp ?_
            | refine op_fcmp ?_ | refine op_iarith ?_ | refine op_bcmp ?_ | refine op_unop_not ?_ | refine op_unop_neg_float ?_ | refine op_unop_neg_int ?_ | refine op_len_slice ?_ | refine op_pick_true ?_
            | refine op_pick_false ?_ | refine op_pick_true' ?_ | refine op_pick_false' ?_ | refine op_build ?_ | refine op_extract ?_ | refine op_makeInterface ?_ | refine op_typeAssert ?_ | refine op_ptr_nil ?_
            | refine op_nilCheck_ptr ?_ | refine op_nilCheck_meth ?_ | refine op_makeMeth ?_ | refine op_makeFunc ?_ | refine op_itof ?_ | refine op_itoi ?_ | refine op_ftoi ?_ | refine op_iquo ?_
            | refine op_irem ?_ | refine op_ibits ?_ | refine op_slice_isnil ?_ | refine op_slice_notnil ?_ | refine op_imax ?_ | refine op_imin ?_ | refine op_shl ?_ | refine op_shr ?_
            | (refine op_alloc ?_; intro _) | (refine op_box ?_; intro _) | (refine op_buildSlice ?_; intro _) | (refine op_farith ?_; intro _ _) | refine op_store0 ?_ | refine op_store1 ?_ | refine op_store2 ?_ | refine op_store3 ?_
            | refine op_store4 ?_ | refine op_store5 ?_ | refine tc_cond_t ?_ | refine tc_cond_f ?_ | refine tc_cond (fun _ => ?_) (fun _ => ?_) | refine tc_block ?_ | refine tc_skip ?_ | refine tc_ret ?_
            | refine tc_exit ?_ | refine tc_label ?_ | refine at_seq_ret ?_ | refine at_seq_exit ?_ | refine at_block_normal ?_ | refine at_block_ret ?_ | refine at_block_exit_self ?_ | refine at_block_exit_ne ?_
            | refine at_loop_ret ?_ | refine at_loop_exit ?_ | refine at_loop_goto ?_ | refine tl_guard_yes ?_ | refine tl_guard_no ?_ | refine tl_guard_yes' ?_ | refine tl_guard_no' ?_ | refine tl_guard_undef ?_
            | refine tl_guard_split (fun _ => ?_) (fun _ => ?_)
        exact ret_tmp (hG := by (repeat (first | exact List.Sublist.refl _ | apply List.Sublist.cons_cons | apply List.Sublist.cons | refine List.Sublist.trans ?_ (List.sublist_append_right _ _)))) (hk := ⟨rfl, rfl⟩)
      · have hcB : icmp .gtr (sgQ ((if N2 < 0 then -N2 else N2) - 16384 * D)) 0 = false := by rw [sgQ_gtr, decide_eq_false hB]
        apply fun hole0 hole1 hole2 hole3 hole4 hole5 hole6 hole7 hole8 hole9 hole10 hole11 hE hD hml hdl hpr prem fin => tc_drawnD 20 [PhiD.is hole0, PhiD.is hole1, PhiD.gen (fun w _ G => IsQ (if N1 < 0 then -N1 else N1) 5 w G), PhiD.is hole2, PhiD.is hole3, PhiD.is hole4, PhiD.gen (fun w _ G => IsQ (16384 * D) 6 w G), PhiD.gen (some' (fun w _ => w = .int .i64 (sgQ ((if N1 < 0 then -N1 else N1) - 16384 * D)))), PhiD.is (.bool false), PhiD.is hole5, PhiD.is hole6, PhiD.is hole7, PhiD.gen (fun w _ G => IsQ (if N2 < 0 then -N2 else N2) 5 w G), PhiD.is hole8, PhiD.is hole9, PhiD.is hole10, PhiD.gen (fun w _ G => IsQ (16384 * D) 6 w G), PhiD.gen (some' (fun w _ => w = .int .i64 (sgQ ((if N2 < 0 then -N2 else N2) - 16384 * D)))), PhiD.is (.bool false), PhiD.is hole11]
          [some 48, some 49, some 50, some 51, some 52, some 53, some 54, some 55, some 56, some 57, some 58, some 59, some 60, some 61, some 62, some 63, some 64, some 65, some 66, some 67] [[], [0], [1], [], [], [4], [3, 5, 2], [2, 6], [7], [8, 7], [9], [10, 9], [11, 9], [9], [9], [14, 9], [13, 15, 12, 9], [12, 16, 9], [17, 9], [9, 18]] mixed ⟨(fun _ _ _ _ h hs => IsQ.mono h hs), (fun _ _ _ _ h hs => IsQ.mono h hs), (some_mono _), (fun _ _ _ _ h hs => IsQ.mono h hs), (fun _ _ _ _ h hs => IsQ.mono h hs), (some_mono _), trivial⟩ prem fin hE hD rfl hml hdl hpr
        rotate_left 13
        · first | kernel_rfl | exact rfl
        · first | kernel_rfl | exact rfl
        · exact Nat.le_of_ble_eq_true rfl
        · first | kernel_rfl | exact rfl
        · first | kernel_rfl | exact rfl
        refine ⟨fun G hG => ?_, fun G hG => ?_, fun G hG => ?_, fun G hG => ?_, fun G hG => ?_, fun G hG => ?_, fun G hG => ?_, fun G hG => ?_, fun G hG => ?_, fun G hG => ?_, fun G hG => ?_, fun G hG => ?_, fun G hG => ?_, fun G hG => ?_, fun G hG => ?_, fun G hG => ?_, fun G hG => ?_, fun G hG => ?_, fun G hG => ?_, fun G hG => ?_, trivial⟩
        · simp only [withD, nthD, Step2, nthDst, putO, postD]
          (refine op_fieldAddr ?_; exact ⟨[], rfl, rfl, rfl⟩)
        · simp only [withD, nthD, Step2, nthDst, putO, postD]
          ((first | refine op_load ?_ | refine op_load_agg ?_ | refine op_load ?_ (hm := Sub.mem (by assumption) (by (repeat (apply List.mem_cons_of_mem)); assumption)) | refine op_load_agg ?_ (hm := Sub.mem (by assumption) (by (repeat (apply List.mem_cons_of_mem)); assumption)) | refine op_loadH hG rfl ?_ | refine op_load_aggH hG rfl ?_); exact ⟨[], rfl, rfl, rfl⟩)
        · simp only [withD, nthD, Step2, nthDst, putO, postD]
          (refine op_call ((qAbs _ _ 5 _ (i1.mono fun e he => hG e (by simp [he]))).mono ?_); rintro w _ ⟨ex, rfl, hw⟩; exact ⟨ex, rfl, hw⟩)
        · simp only [withD, nthD, Step2, nthDst, putO, postD]
          ((first | refine op_load ?_ | refine op_load_agg ?_ | refine op_load ?_ (hm := Sub.mem (by assumption) (by (repeat (apply List.mem_cons_of_mem)); assumption)) | refine op_load_agg ?_ (hm := Sub.mem (by assumption) (by (repeat (apply List.mem_cons_of_mem)); assumption)) | refine op_loadH hG rfl ?_ | refine op_load_aggH hG rfl ?_); exact ⟨[], rfl, rfl, rfl⟩)
        · simp only [withD, nthD, Step2, nthDst, putO, postD]
          (refine op_fieldAddr ?_; exact ⟨[], rfl, rfl, rfl⟩)
        · simp only [withD, nthD, Step2, nthDst, putO, postD]
          ((first | refine op_load ?_ | refine op_load_agg ?_ | refine op_load ?_ (hm := Sub.mem (by assumption) (by (repeat (apply List.mem_cons_of_mem)); assumption)) | refine op_load_agg ?_ (hm := Sub.mem (by assumption) (by (repeat (apply List.mem_cons_of_mem)); assumption)) | refine op_loadH hG rfl ?_ | refine op_load_aggH hG rfl ?_); exact ⟨[], rfl, rfl, rfl⟩)
        · simp only [withD, nthD, Step2, nthDst, putO, postD]
          rintro _ _ r2 -
          (refine op_call ((qMul _ _ _ _ 5 _ (by decide) (((fI.mono fun e he => hG e (by simp [he]))).big (by decide)) (i2.mono fun e he => hG e (by simp [he]))).mono ?_); rintro w _ ⟨ex, rfl, hw⟩; exact ⟨ex, rfl, hw⟩)
        · simp only [withD, nthD, Step2, nthDst, putO, postD]
          rintro _ _ r2 - _ _ r6 -
          (refine op_call ((qCmp _ _ _ _ 6 _ (by decide) (r2.big (by decide)) r6).mono ?_); rintro _ _ ⟨ex, rfl, rfl⟩; exact ⟨ex, rfl, rfl⟩)
        · simp only [withD, nthD, Step2, nthDst, putO, postD]
          rintro _ _ rfl -
          (refine op_icmp ?_; rw [hcA]; exact ⟨[], rfl, rfl, rfl⟩)
        · simp only [withD, nthD, Step2, nthDst, putO, postD]
          rintro _ _ rfl -
          (refine op_move ?_; exact ⟨[], rfl, rfl, rfl⟩)
        · simp only [withD, nthD, Step2, nthDst, putO, postD]
          (first | refine .inr ⟨_, rfl, rfl, [], rfl, rfl, rfl⟩ | refine .inl ⟨_, _, rfl, rfl, fun _ => ?_, fun h => absurd h (by first | decide | (refine ne_not ?_; assumption))⟩ | refine .inl ⟨_, _, rfl, rfl, (fun h => absurd h (by first | decide | (refine ne_not2 ?_; assumption))), fun _ => ⟨[], rfl, rfl, rfl⟩⟩)
          (all_goals (refine op_fieldAddr ?_; exact ⟨[], rfl, rfl, rfl⟩))
        · simp only [withD, nthD, Step2, nthDst, putO, postD]
          (first | refine .inr ⟨_, rfl, rfl, [], rfl, rfl, rfl⟩ | refine .inl ⟨_, _, rfl, rfl, fun _ => ?_, fun h => absurd h (by first | decide | (refine ne_not ?_; assumption))⟩ | refine .inl ⟨_, _, rfl, rfl, (fun h => absurd h (by first | decide | (refine ne_not2 ?_; assumption))), fun _ => ⟨[], rfl, rfl, rfl⟩⟩)
          (all_goals ((first | refine op_load ?_ | refine op_load_agg ?_ | refine op_load ?_ (hm := Sub.mem (by assumption) (by (repeat (apply List.mem_cons_of_mem)); assumption)) | refine op_load_agg ?_ (hm := Sub.mem (by assumption) (by (repeat (apply List.mem_cons_of_mem)); assumption)) | refine op_loadH hG rfl ?_ | refine op_load_aggH hG rfl ?_); exact ⟨[], rfl, rfl, rfl⟩))
        · simp only [withD, nthD, Step2, nthDst, putO, postD]
          (first | refine .inr ⟨_, rfl, rfl, [], rfl, rfl, rfl⟩ | refine .inl ⟨_, _, rfl, rfl, fun _ => ?_, fun h => absurd h (by first | decide | (refine ne_not ?_; assumption))⟩ | refine .inl ⟨_, _, rfl, rfl, (fun h => absurd h (by first | decide | (refine ne_not2 ?_; assumption))), fun _ => ⟨[], rfl, rfl, rfl⟩⟩)
          (all_goals ((refine op_call ((qAbs _ _ 5 _ (j1.mono fun e he => hG e (by simp [he]))).mono ?_); rintro w _ ⟨ex, rfl, hw⟩; exact ⟨ex, rfl, hw⟩)))
        · simp only [withD, nthD, Step2, nthDst, putO, postD]
          (first | refine .inr ⟨_, rfl, rfl, [], rfl, rfl, rfl⟩ | refine .inl ⟨_, _, rfl, rfl, fun _ => ?_, fun h => absurd h (by first | decide | (refine ne_not ?_; assumption))⟩ | refine .inl ⟨_, _, rfl, rfl, (fun h => absurd h (by first | decide | (refine ne_not2 ?_; assumption))), fun _ => ⟨[], rfl, rfl, rfl⟩⟩)
          (all_goals ((first | refine op_load ?_ | refine op_load_agg ?_ | refine op_load ?_ (hm := Sub.mem (by assumption) (by (repeat (apply List.mem_cons_of_mem)); assumption)) | refine op_load_agg ?_ (hm := Sub.mem (by assumption) (by (repeat (apply List.mem_cons_of_mem)); assumption)) | refine op_loadH hG rfl ?_ | refine op_load_aggH hG rfl ?_); exact ⟨[], rfl, rfl, rfl⟩))
        · simp only [withD, nthD, Step2, nthDst, putO, postD]
          (first | refine .inr ⟨_, rfl, rfl, [], rfl, rfl, rfl⟩ | refine .inl ⟨_, _, rfl, rfl, fun _ => ?_, fun h => absurd h (by first | decide | (refine ne_not ?_; assumption))⟩ | refine .inl ⟨_, _, rfl, rfl, (fun h => absurd h (by first | decide | (refine ne_not2 ?_; assumption))), fun _ => ⟨[], rfl, rfl, rfl⟩⟩)
          (all_goals (refine op_fieldAddr ?_; exact ⟨[], rfl, rfl, rfl⟩))
        · simp only [withD, nthD, Step2, nthDst, putO, postD]
          (first | refine .inr ⟨_, rfl, rfl, [], rfl, rfl, rfl⟩ | refine .inl ⟨_, _, rfl, rfl, fun _ => ?_, fun h => absurd h (by first | decide | (refine ne_not ?_; assumption))⟩ | refine .inl ⟨_, _, rfl, rfl, (fun h => absurd h (by first | decide | (refine ne_not2 ?_; assumption))), fun _ => ⟨[], rfl, rfl, rfl⟩⟩)
          (all_goals ((first | refine op_load ?_ | refine op_load_agg ?_ | refine op_load ?_ (hm := Sub.mem (by assumption) (by (repeat (apply List.mem_cons_of_mem)); assumption)) | refine op_load_agg ?_ (hm := Sub.mem (by assumption) (by (repeat (apply List.mem_cons_of_mem)); assumption)) | refine op_loadH hG rfl ?_ | refine op_load_aggH hG rfl ?_); exact ⟨[], rfl, rfl, rfl⟩))
        · simp only [withD, nthD, Step2, nthDst, putO, postD]
          rintro _ _ r12 -
          (first | refine .inr ⟨_, rfl, rfl, [], rfl, rfl, rfl⟩ | refine .inl ⟨_, _, rfl, rfl, fun _ => ?_, fun h => absurd h (by first | decide | (refine ne_not ?_; assumption))⟩ | refine .inl ⟨_, _, rfl, rfl, (fun h => absurd h (by first | decide | (refine ne_not2 ?_; assumption))), fun _ => ⟨[], rfl, rfl, rfl⟩⟩)
          (all_goals ((refine op_call ((qMul _ _ _ _ 5 _ (by decide) (((fI.mono fun e he => hG e (by simp [he]))).big (by decide)) (j2.mono fun e he => hG e (by simp [he]))).mono ?_); rintro w _ ⟨ex, rfl, hw⟩; exact ⟨ex, rfl, hw⟩)))
        · simp only [withD, nthD, Step2, nthDst, putO, postD]
          rintro _ _ r12 - _ _ r16 -
          (first | refine .inr ⟨_, rfl, rfl, [], rfl, rfl, rfl⟩ | refine .inl ⟨_, _, rfl, rfl, fun _ => ?_, fun h => absurd h (by first | decide | (refine ne_not ?_; assumption))⟩ | refine .inl ⟨_, _, rfl, rfl, (fun h => absurd h (by first | decide | (refine ne_not2 ?_; assumption))), fun _ => ⟨[], rfl, rfl, rfl⟩⟩)
          (all_goals ((refine op_call ((qCmp _ _ _ _ 6 _ (by decide) (r12.big (by decide)) r16).mono ?_); rintro _ _ ⟨ex, rfl, rfl⟩; exact ⟨ex, rfl, rfl⟩)))
        · simp only [withD, nthD, Step2, nthDst, putO, postD]
          rintro _ _ rfl -
          (first | refine .inr ⟨_, rfl, rfl, [], rfl, rfl, rfl⟩ | refine .inl ⟨_, _, rfl, rfl, fun _ => ?_, fun h => absurd h (by first | decide | (refine ne_not ?_; assumption))⟩ | refine .inl ⟨_, _, rfl, rfl, (fun h => absurd h (by first | decide | (refine ne_not2 ?_; assumption))), fun _ => ⟨[], rfl, rfl, rfl⟩⟩)
          (all_goals ((refine op_icmp ?_; rw [hcB]; exact ⟨[], rfl, rfl, rfl⟩)))
        · simp only [withD, nthD, Step2, nthDst, putO, postD]
          ((first | refine op_pick_true ?_ | refine op_pick_false ?_ | refine op_pick_true' ?_ | refine op_pick_false' ?_); exact ⟨[], rfl, rfl, rfl⟩)
        simp only [FinalsD, nthDst, putO, List.drop_succ_cons, List.drop_zero]
        rintro _ _ _ _ _ _ _ _ _ _ _ _ ⟨rfl, r16, r12, rfl, r6, r2, -⟩
        try simp only [List.nil_append]
        obtain ⟨c1, hc1, hr1, hn1⟩ := near_frac hqr hz hN1 hDD hA
        obtain ⟨c2, hc2, hr2, hn2⟩ := near_frac hqs hz hN2 hDD hB
        repeat' first
          | (refine op_load (l := [.float .f64 r, .float .f64 s]) (T := 57) (fz := (0, 0)) ?_ (hx := rfl) (hm := by simp))
          | (refine op_load_agg (k := kx) (l := [.bool u1, .slice u2 u3 u4, .int .i64 u5, .bool u6, .slice u7 u8 u9, .int .i64 u10]) (T := 82) (fz := (0, 0)) ?_ (hx := rfl) (hm := by simp))
          | (refine op_load_agg (k := ky) (l := [.bool v1, .slice v2 v3 v4, .int .i64 v5, .bool v6, .slice v7 v8 v9, .int .i64 v10]) (T := 82) (fz := (0, 0)) ?_ (hx := rfl) (hm := by simp))
          | (refine op_call ((nearRatio r c1 N1 D _ _ hc1 hr1 (fx.mono fun e he => by simp [he]) hn1).mono ?_); rintro _ _ ⟨rfl, ex8, rfl⟩)
          | (refine op_call ((nearRatio s c2 N2 D _ _ hc2 hr2 (fy.mono fun e he => by simp [he]) hn2).mono ?_); rintro _ _ ⟨rfl, ex9, rfl⟩)
          | (first | refine tl_defer ?_ | refine tc_seq ?_ | refine tc_region ?_ | refine at_seq_normal ?_ | refine tl_nil ?_ | refine tl_cons ?_ | refine tl_cons_none ?_ | refine op_move ?_ | refine op_assign ?_ | refine op_fieldAddr ?_ | refine op_load ?_ | refine op_load_agg ?_ | refine op_indexC ?_ | refine op_indexAddr1 ?_ | refine op_indexAddr ?_ | refine op_icmp ?_ | refine op_fcmp ?_ | refine op_iarith ?_ | refine op_bcmp ?_ | refine op_unop_not ?_ | refine op_unop_neg_float ?_ | refine op_unop_neg_int ?_ | refine op_len_slice ?_ | refine op_pick_true ?_ | refine op_pick_false ?_ | refine op_pick_true' ?_ | refine op_pick_false' ?_ | refine op_build ?_ | refine op_extract ?_ | refine op_makeInterface ?_ | refine op_typeAssert ?_ | refine op_ptr_nil ?_ | refine op_nilCheck_ptr ?_ | refine op_nilCheck_meth ?_ | refine op_makeMeth ?_ | refine op_makeFunc ?_ | refine op_itof ?_ | refine op_itoi ?_ | refine op_ftoi ?_ | refine op_iquo ?_ | refine op_irem ?_ | refine op_ibits ?_ | refine op_slice_isnil ?_ | refine op_slice_notnil ?_ | refine op_imax ?_ | refine op_imin ?_ | refine op_shl ?_ | refine op_shr ?_ | (refine op_alloc ?_; intro _) | (refine op_box ?_; intro _) | (refine op_buildSlice ?_; intro _) | (refine op_farith ?_; intro _ _) | refine op_store0 ?_ | refine op_store1 ?_ | refine op_store2 ?_ | refine op_store3 ?_ | refine op_store4 ?_ | refine op_store5 ?_ | refine op_storeK rfl ?_ | refine op_loadK rfl ?_ | refine op_load_aggK rfl ?_ | refine tc_cond_t ?_ | refine tc_cond_f ?_ | refine tc_cond (fun _ => ?_) (fun _ => ?_) | refine tc_block ?_ | refine tc_skip ?_ | refine tc_ret ?_ | refine tc_exit ?_ | refine tc_label ?_ | refine at_seq_ret ?_ | refine at_seq_exit ?_ | refine at_block_normal ?_ | refine at_block_ret ?_ | refine at_block_exit_self ?_ | refine at_block_exit_ne ?_ | refine at_loop_ret ?_ | refine at_loop_exit ?_ | refine at_loop_goto ?_ | refine tl_guard_yes ?_ | refine tl_guard_no ?_ | refine tl_guard_yes' ?_ | refine tl_guard_no' ?_ | refine tl_guard_undef ?_ | refine tl_guard_split (fun _ => ?_) (fun _ => ?_))
          | fail
        exact ret_tmp (hG := by (repeat (first | exact List.Sublist.refl _ | apply List.Sublist.cons_cons | apply List.Sublist.cons | refine List.Sublist.trans ?_ (List.sublist_append_right _ _)))) (hk := ⟨rfl, rfl⟩)
theorem own : ownKnob Try.prog.godebug = none := by kernel_rfl
theorem laid : laidOutB Try.prog = true := by kernel_rfl
set_option maxRecDepth 100000 in
theorem lifted (os : Os) (started : os.Started) (H : Type) (enc : TypeId × Value → H) :
    ReturnsInHanded {} Try.checked os 8 .any (Rows.fnHomogeneousMeetSpec.pre6 enc Try.prog Try.f8 Rows.fnHomogeneousMeetRow.domain false) (Rows.fnHomogeneousMeetSpec.post enc Try.prog Try.f8 false true false false) := by
  refine returnsInHanded_of_change (C := Try.checked) own started (by kernel_rfl) Try.func8
    (ChangeSpec.witness6 (enc := enc) (C := Try.checked) false ⟨#[], #[.agg #[.float .f64 0, .float .f64 0], .agg #[.float .f64 0, .float .f64 0], .agg #[.float .f64 0, .float .f64 0], .agg #[.float .f64 0, .float .f64 0]], []⟩ 8 (by kernel_rfl) (by kernel_rfl) (by kernel_rfl) (by kernel_rfl)) ?_
  intro W base args ds gs before hval0 hW hcnd _
  have hval : ∀ (j : Nat) t v, Try.f8.params[j]? = some t → args[j]? = some v → Value.okWide Try.prog W .any base t v := hval0
  have hW' := hW
  obtain ⟨p, q, hA0, hV, rfl, hfz, hnd⟩ := hW
  have hA : DataW.TrodAll enc Try.prog W 0 (fun _ => true) true Try.f8.params.toList args.toList ds p := hA0
  rw [Try.params8] at hA hval
  obtain ⟨v0, vs0, d0, ds0, p0, q0, hargs, rfl, rfl, h0, r0⟩ := trodAll_cons hA
  obtain ⟨v1, vs1, d1, ds1, p1, q1, rfl, rfl, rfl, h1, r1⟩ := trodAll_cons r0
  obtain ⟨v2, vs2, d2, ds2, p2, q2, rfl, rfl, rfl, h2, r2⟩ := trodAll_cons r1
  obtain ⟨v3, vs3, d3, ds3, p3, q3, rfl, rfl, rfl, h3, r3⟩ := trodAll_cons r2
  obtain ⟨rfl, rfl, rfl⟩ := trodAll_nil r3
  obtain rfl : args = #[v0, v1, v2, v3] := by cases args; simp_all
  obtain ⟨rfl, rfl⟩ := trodVars_none hV
  obtain ⟨x0, y0, rfl, bx0, by0⟩ := open_p2 Try.underlying57 (by kernel_rfl) (by kernel_rfl) Try.underlying36 Try.underlying36 (hval 0 57 v0 rfl rfl) h0
  obtain ⟨x1, y1, rfl, bx1, by1⟩ := open_p2 Try.underlying57 (by kernel_rfl) (by kernel_rfl) Try.underlying36 Try.underlying36 (hval 1 57 v1 rfl rfl) h1
  obtain ⟨x2, y2, rfl, bx2, by2⟩ := open_p2 Try.underlying57 (by kernel_rfl) (by kernel_rfl) Try.underlying36 Try.underlying36 (hval 2 57 v2 rfl rfl) h2
  obtain ⟨x3, y3, rfl, bx3, by3⟩ := open_p2 Try.underlying57 (by kernel_rfl) (by kernel_rfl) Try.underlying36 Try.underlying36 (hval 3 57 v3 rfl rfl) h3
  clear hA0 hval0
  refine (calls_of_does (law (H := all W) x0 y0 bx0 by0 x1 y1 bx1 by1 x2 y2 bx2 by2 x3 y3 bx3 by3) (sees_all W)).mono fun e W' ⟨v, H', he, hs, hv, hH⟩ => ?_
  subst he
  subst hv
  subst hH
  exact ⟨_, rfl, post_law laid (of_decide_eq_true (by kernel_rfl)) rfl hW' rfl rfl Try.underlying4 hs.below⟩
theorem over : Rows.fnHomogeneousMeetRow.holds Try.pinned (OpenSpec.ofChange Rows.fnHomogeneousMeetSpec) :=
  OpenClaim.holds_of_wide 8 Try.f8 rfl rfl rfl rfl rfl rfl rfl ⟨rfl, rfl, rfl, rfl, rfl⟩ rfl rfl rfl rfl rfl (by kernel_rfl) Try.func8 (by kernel_rfl)
    (of_decide_eq_true (by kernel_rfl)) (by unfold Func.isWrapper; first | (rw [if_pos (by decide +kernel)]; kernel_rfl) | (rw [if_neg (by decide +kernel)]; exact ⟨rfl, rfl⟩))
    (fun os started H enc _ => lifted os started H enc)
/-- The statement. -/
theorem proved : Rows.FnHomogeneousMeetSaid := over
#print axioms proved
end Go.Proofs.Ytomhkbijijdghaa.fnHomogeneousMeet
