/-
  FnPointLineNone: the distance of a place from a segment is below 2^-20 just if the place lies on it, and as great whichever way about the segment runs. No conditions beyond the statement's own.
-/
import Derived.Test.YtgkgfjliilemnaaRows
import Derived.Test.YtgkgfjliilemnaaPld
import Derived.Test.YtgkgfjliilemnaaDyq
set_option linter.unusedVariables false
set_option linter.unusedSimpArgs false
namespace Go.Proofs.Ytgkgfjliilemnaa.fnPointLineNone
open Go.Lg Go.Proofs.Ytgkgfjliilemnaa.Pl Go.Proofs.Ytgkgfjliilemnaa.Lmb
open Go.ChangeShapes Go.WideShapes Go.RowKit

theorem fv13 : Fv 4665729213955833856 ((8192 : Nat) : Rat) := ⟨false, 4503599627370496, -39, rfl, by
  unfold sgn p2; simp; grind⟩
theorem fv_m20 : Fv 4517110426252607488 (p2 (-20)) := ⟨false, 4503599627370496, -72, rfl, by
  have e : ((4503599627370496 : Nat) : Rat) = p2 52 := (p2_toNat (e := 52) (by decide)).symm
  have := p2_mul (a := 52) (b := -72) (c := -20) (by decide)
  rw [e]; unfold sgn; grind⟩
theorem nearTo (x y : Nat) (a b : Rat) (H : Heap) (hx : Fv x a) (hy : Fv y b) (h : rabs (a - b) ≤ p2 (-22)) : Does Try.prog 20 [.float .f64 x, .float .f64 y] H fun w H' => w = .bool true ∧ H' = H := by
  refine fn_enter 10 Try.func20 fun W => ?_
  repeat' first
    | (first | refine tl_defer ?_ | refine tc_seq ?_ | refine tc_region ?_ | refine at_seq_normal ?_ | refine tl_nil ?_ | refine tl_cons ?_ | refine tl_cons_none ?_ | refine op_move ?_ | refine op_assign ?_ | refine op_fieldAddr ?_ | refine op_load ?_ | refine op_load_agg ?_ | refine op_indexC ?_ | refine op_indexAddr1 ?_ | refine op_indexAddr ?_ | refine op_icmp ?_ | refine op_fcmp ?_ | refine op_iarith ?_ | refine op_bcmp ?_ | refine op_unop_not ?_ | refine op_unop_neg_float ?_ | refine op_unop_neg_int ?_ | refine op_len_slice ?_ | refine op_pick_true ?_ | refine op_pick_false ?_ | refine op_pick_true' ?_ | refine op_pick_false' ?_ | refine op_build ?_ | refine op_extract ?_ | refine op_makeInterface ?_ | refine op_typeAssert ?_ | refine op_ptr_nil ?_ | refine op_nilCheck_ptr ?_ | refine op_nilCheck_meth ?_ | refine op_makeMeth ?_ | refine op_makeFunc ?_ | refine op_itof ?_ | refine op_itoi ?_ | refine op_ftoi ?_ | refine op_iquo ?_ | refine op_irem ?_ | refine op_ibits ?_ | refine op_slice_isnil ?_ | refine op_slice_notnil ?_ | refine op_imax ?_ | refine op_imin ?_ | refine op_shl ?_ | refine op_shr ?_ | (refine op_alloc ?_; intro _) | (refine op_box ?_; intro _) | (refine op_buildSlice ?_; intro _) | (refine op_farith ?_; intro _ _) | refine op_store0 ?_ | refine op_store1 ?_ | refine op_store2 ?_ | refine op_store3 ?_ | refine op_store4 ?_ | refine op_store5 ?_ | refine tc_cond_t ?_ | refine tc_cond_f ?_ | refine tc_cond (fun _ => ?_) (fun _ => ?_) | refine tc_block ?_ | refine tc_skip ?_ | refine tc_ret ?_ | refine tc_exit ?_ | refine tc_label ?_ | refine at_seq_ret ?_ | refine at_seq_exit ?_ | refine at_block_normal ?_ | refine at_block_ret ?_ | refine at_block_exit_self ?_ | refine at_block_exit_ne ?_ | refine at_loop_ret ?_ | refine at_loop_exit ?_ | refine at_loop_goto ?_ | refine tl_guard_yes ?_ | refine tl_guard_no ?_ | refine tl_guard_yes' ?_ | refine tl_guard_no' ?_ | refine tl_guard_undef ?_ | refine tl_guard_split (fun _ => ?_) (fun _ => ?_))
    | (refine op_call ((abs _ _).mono ?_); rintro _ _ ⟨rfl, rfl⟩)
  rename_i r hr _
  have h1 := le_rabs (a - b)
  have h2 := p2_lt (show (-22 : Int) < 1023 by decide)
  obtain ⟨c, hc, hrd⟩ := far_sub hr hx hy (by clear hr hx hy; generalize p2 (-22) = z at *; generalize p2 1023 = y at *; grind) (by clear hr hx hy; generalize p2 (-22) = z at *; generalize p2 1023 = y at *; grind)
  clear h2
  have h3 := hrd.abs_le
  have h4 : p2 (-20) = p2 (-21) + p2 (-21) := p2_half (by decide)
  have h5 : p2 (-21) = p2 (-22) + p2 (-22) := p2_half (by decide)
  have h6 := p2_lt (show (-1000 : Int) < -22 by decide)
  have h7 := p2_pos (-22)
  refine ret_tmp (hk := ⟨congrArg Value.bool ?_, rfl⟩)
  rw [fcmp_lss hc.abs fv_m20]
  refine decide_eq_true ?_
  generalize p2 (-1000) = z at *
  clear hrd hc hr hx hy
  grind
theorem btw_int {a b c : Int} : btwB (a : Rat) (b : Rat) (c : Rat) = true ↔ betw 0 (b - a) (c - a) := by
  have e : ∀ x y : Int, ((x : Rat) - (y : Rat) ≤ 0) ↔ x - y ≤ 0 := fun x y => by rw [← Rat.intCast_sub]; exact_mod_cast Iff.rfl
  unfold btwB betw
  simp only [Bool.or_eq_true, Bool.and_eq_true, decide_eq_true_eq, e]
  omega
theorem on_int {px py ax ay bx by' : Int} : onB (px : Rat) (py : Rat) (ax : Rat) (ay : Rat) (bx : Rat) (by' : Rat) = true ↔ seg0 (px - ax) (py - ay) (bx - ax) (by' - ay) = 0 := by
  rw [seg_zero]
  unfold onB
  simp only [Bool.and_eq_true, decide_eq_true_eq, btw_int]
  have e : ((bx : Rat) - ax) * (py - ay) - (by' - ay) * (px - ax) = ((-(crs (px - ax) (py - ay) (bx - ax) (by' - ay)) : Int) : Rat) := by
    unfold crs
    simp only [Rat.intCast_neg, Rat.intCast_sub, Rat.intCast_mul]
    grind
  rw [e]
  constructor
  · rintro ⟨⟨h1, h2⟩, h3⟩
    have : -(crs (px - ax) (py - ay) (bx - ax) (by' - ay)) = 0 := by exact_mod_cast h1
    exact ⟨by omega, h2, h3⟩
  · rintro ⟨h1, h2, h3⟩
    rw [h1]
    exact ⟨⟨by simp, h2⟩, h3⟩
theorem sq_lt' {a b : Rat} (ha : 0 ≤ a) (hb : 0 ≤ b) (h : a < b) : a * a < b * b := by
  have h1 := mul_le (Rat.le_of_lt h) ha
  have h2 := mul_lt h (show 0 < b by grind)
  have h3 : a * b = b * a := Rat.mul_comm a b
  grind
/-- Below 2^-20 just if it is nothing. -/
theorem small {c S : Rat} {L : Int} (hc : 0 ≤ c) (hr : Rl (p2 (-46)) (c * c) S) (hS : 0 ≤ S) (hL : L + 1 ≤ 1073741824) (hL0 : 0 ≤ L) (h : S ≠ 0 → (1 : Rat) ≤ S * ((L + 1 : Int) : Rat)) : c < p2 (-20) ↔ S = 0 := by
  have hp := hr.pos hS
  have e1 := mul_le (p2_le (show (-46 : Int) ≤ -1 by decide)) hS
  have e2 : p2 (-1) * S + p2 (-1) * S = S := by rw [← Rat.add_mul, Pld.half]; grind
  constructor
  · intro hlt
    rcases Classical.em (S = 0) with h0 | h0
    · exact h0
    · exfalso
      have h1 := h h0
      have hLr : ((L + 1 : Int) : Rat) ≤ p2 30 := by
        have e : p2 30 = ((1073741824 : Nat) : Rat) := p2_toNat (by decide)
        rw [e, ← Rat.intCast_natCast]
        exact Rat.intCast_le_intCast.2 (by omega)
      have h2 := mul_le_left hLr hS
      have h3 := sq_lt' hc (Rat.le_of_lt (p2_pos (-20))) hlt
      rw [p2_mul (c := -40) (by decide)] at h3
      have h4 : 1 ≤ S * p2 30 := by grind
      have h5 := mul_le h4 (Rat.le_of_lt (p2_pos (-30)))
      rw [Rat.mul_assoc, p2_mul (c := 0) (by decide), p2_zero] at h5
      have h6 : p2 (-30) = p2 (-31) + p2 (-31) := p2_half (by decide)
      have h7 := p2_lt (show (-40 : Int) < -31 by decide)
      grind
  · intro h0
    rw [h0] at hp
    rcases (Rat.le_total : c ≤ 0 ∨ 0 ≤ c) with h1 | h1
    · have := p2_pos (-20); grind
    · rcases Rat.le_iff_lt_or_eq.1 h1 with h2 | h2
      · have := Rat.mul_pos h2 h2; exfalso; grind
      · have := p2_pos (-20); grind
theorem nrm_le {x y B : Int} (h1 : -B ≤ x) (h2 : x ≤ B) (h3 : -B ≤ y) (h4 : y ≤ B) (hB : 0 ≤ B) : nrm x y ≤ 2 * (B * B) := by
  have a := (mul_bound h1 h2 h1 h2).2
  have b := (mul_bound h3 h4 h3 h4).2
  unfold nrm; omega
abbrev v2 (x y : Nat) : Value := .agg ⟨[.float .f64 x, .float .f64 y]⟩
set_option maxHeartbeats 16000000 in
theorem law (px py : Nat) (hpx : px < 18446744073709551616) (hpy : py < 18446744073709551616) (ax ay : Nat) (hax : ax < 18446744073709551616) (hay : ay < 18446744073709551616) (bx by' : Nat) (hbx : bx < 18446744073709551616) (hby : by' < 18446744073709551616) (H : Heap) :
    Does Try.prog 6 [v2 px py, v2 ax ay, v2 bx by'] H fun w H' => w = .bool true ∧ H' = H := by
  refine fn_enter 40 Try.func6 fun W => ?_
  repeat' first
    | (first | refine tl_defer ?_ | refine tc_seq ?_ | refine tc_region ?_ | refine at_seq_normal ?_ | refine tl_nil ?_ | refine tl_cons ?_ | refine tl_cons_none ?_ | refine op_move ?_ | refine op_assign ?_ | refine op_fieldAddr ?_ | refine op_load ?_ | refine op_load_agg ?_ | refine op_indexC ?_ | refine op_indexAddr1 ?_ | refine op_indexAddr ?_ | refine op_icmp ?_ | refine op_fcmp ?_ | refine op_iarith ?_ | refine op_bcmp ?_ | refine op_unop_not ?_ | refine op_unop_neg_float ?_ | refine op_unop_neg_int ?_ | refine op_len_slice ?_ | refine op_pick_true ?_ | refine op_pick_false ?_ | refine op_pick_true' ?_ | refine op_pick_false' ?_ | refine op_build ?_ | refine op_extract ?_ | refine op_makeInterface ?_ | refine op_typeAssert ?_ | refine op_ptr_nil ?_ | refine op_nilCheck_ptr ?_ | refine op_nilCheck_meth ?_ | refine op_makeMeth ?_ | refine op_makeFunc ?_ | refine op_itof ?_ | refine op_itoi ?_ | refine op_ftoi ?_ | refine op_iquo ?_ | refine op_irem ?_ | refine op_ibits ?_ | refine op_slice_isnil ?_ | refine op_slice_notnil ?_ | refine op_imax ?_ | refine op_imin ?_ | refine op_shl ?_ | refine op_shr ?_ | (refine op_alloc ?_; intro _) | (refine op_box ?_; intro _) | (refine op_buildSlice ?_; intro _) | (refine op_farith ?_; intro _ _) | refine op_store0 ?_ | refine op_store1 ?_ | refine op_store2 ?_ | refine op_store3 ?_ | refine op_store4 ?_ | refine op_store5 ?_ | refine tc_cond_t ?_ | refine tc_cond_f ?_ | refine tc_cond (fun _ => ?_) (fun _ => ?_) | refine tc_block ?_ | refine tc_skip ?_ | refine tc_ret ?_ | refine tc_exit ?_ | refine tc_label ?_ | refine at_seq_ret ?_ | refine at_seq_exit ?_ | refine at_block_normal ?_ | refine at_block_ret ?_ | refine at_block_exit_self ?_ | refine at_block_exit_ne ?_ | refine at_loop_ret ?_ | refine at_loop_exit ?_ | refine at_loop_goto ?_ | refine tl_guard_yes ?_ | refine tl_guard_no ?_ | refine tl_guard_yes' ?_ | refine tl_guard_no' ?_ | refine tl_guard_undef ?_ | refine tl_guard_split (fun _ => ?_) (fun _ => ?_))
    | (refine op_call ((planeTo _ [(px, py), (ax, ay), (bx, by')] _ _ _ _ 8192 _ fv13 (by decide) (by simp) (by simp [*]) mem0).mono ?_); rintro _ _ ⟨⟨b, rfl, hb⟩, ex0, rfl⟩)
    | fail
  · exact ret_tmp (hG := by (repeat (first | exact List.Sublist.refl _ | apply List.Sublist.cons_cons | apply List.Sublist.cons | refine List.Sublist.trans ?_ (List.sublist_append_right _ _)))) (hk := ⟨rfl, rfl⟩)
  rename_i kp ka kb ks hnb
  have hb' := hb (by simpa using hnb)
  obtain ⟨⟨npx, fpx, p1, p2'⟩, ⟨npy, fpy, p3, p4⟩⟩ := hb' (px, py) (by simp)
  obtain ⟨⟨nax, fax, a1, a2⟩, ⟨nay, fay, a3, a4⟩⟩ := hb' (ax, ay) (by simp)
  obtain ⟨⟨nbx, fbx, b1, b2⟩, ⟨nby, fby, b3, b4⟩⟩ := hb' (bx, by') (by simp)
  simp only at fax fay fbx fby fpx fpy
  have gpx : FI 8192 px npx := ⟨fpx, p1, p2'⟩
  have gpy : FI 8192 py npy := ⟨fpy, p3, p4⟩
  have gax : FI 8192 ax nax := ⟨fax, a1, a2⟩
  have gay : FI 8192 ay nay := ⟨fay, a3, a4⟩
  have gbx : FI 8192 bx nbx := ⟨fbx, b1, b2⟩
  have gby : FI 8192 by' nby := ⟨fby, b3, b4⟩
  clear hb hb' hnb
  obtain ⟨S, hS⟩ : ∃ S, S = seg0 (npx - nax) (npy - nay) (nbx - nax) (nby - nay) := ⟨_, rfl⟩
  have hS0 : 0 ≤ S := by rw [hS]; exact seg_nonneg _ _ _ _
  have hSrev : S = seg0 (npx - nbx) (npy - nby) (nax - nbx) (nay - nby) := by
    rw [hS, seg_rev]
    congr 1 <;> omega
  have hLb := nrm_le (B := 16384) (x := nbx - nax) (y := nby - nay) (by omega) (by omega) (by omega) (by omega) (by decide)
  have hNb := nrm_le (B := 16384) (x := npx - nax) (y := npy - nay) (by omega) (by omega) (by omega) (by omega) (by decide)
  have hL0 := nrm_nonneg (nbx - nax) (nby - nay)
  have hSle : S ≤ p2 15 * p2 15 := by
    have e : p2 15 * p2 15 = ((1073741824 : Nat) : Rat) := by rw [p2_mul (c := 30) (by decide)]; exact p2_toNat (by decide)
    have := seg_le (npx - nax) (npy - nay) (nbx - nax) (nby - nay)
    rw [← hS] at this
    rw [e]
    refine Rat.le_trans this ?_
    rw [← Rat.intCast_natCast]
    exact Rat.intCast_le_intCast.2 (by omega)
  have hon : onB (npx : Rat) npy nax nay nbx nby = decide (S = 0) := by
    rw [Bool.eq_iff_iff, on_int, ← hS]; simp
  have hleast := @seg_least (npx - nax) (npy - nay) (nbx - nax) (nby - nay)
  rw [← hS] at hleast
  repeat' first
    | (first | refine tl_defer ?_ | refine tc_seq ?_ | refine tc_region ?_ | refine at_seq_normal ?_ | refine tl_nil ?_ | refine tl_cons ?_ | refine tl_cons_none ?_ | refine op_move ?_ | refine op_assign ?_ | refine op_fieldAddr ?_ | refine op_load ?_ | refine op_load_agg ?_ | refine op_indexC ?_ | refine op_indexAddr1 ?_ | refine op_indexAddr ?_ | refine op_icmp ?_ | refine op_fcmp ?_ | refine op_iarith ?_ | refine op_bcmp ?_ | refine op_unop_not ?_ | refine op_unop_neg_float ?_ | refine op_unop_neg_int ?_ | refine op_len_slice ?_ | refine op_pick_true ?_ | refine op_pick_false ?_ | refine op_pick_true' ?_ | refine op_pick_false' ?_ | refine op_build ?_ | refine op_extract ?_ | refine op_makeInterface ?_ | refine op_typeAssert ?_ | refine op_ptr_nil ?_ | refine op_nilCheck_ptr ?_ | refine op_nilCheck_meth ?_ | refine op_makeMeth ?_ | refine op_makeFunc ?_ | refine op_itof ?_ | refine op_itoi ?_ | refine op_ftoi ?_ | refine op_iquo ?_ | refine op_irem ?_ | refine op_ibits ?_ | refine op_slice_isnil ?_ | refine op_slice_notnil ?_ | refine op_imax ?_ | refine op_imin ?_ | refine op_shl ?_ | refine op_shr ?_ | (refine op_alloc ?_; intro _) | (refine op_box ?_; intro _) | (refine op_buildSlice ?_; intro _) | (refine op_farith ?_; intro _ _) | refine op_store0 ?_ | refine op_store1 ?_ | refine op_store2 ?_ | refine op_store3 ?_ | refine op_store4 ?_ | refine op_store5 ?_ | refine tc_cond_t ?_ | refine tc_cond_f ?_ | refine tc_cond (fun _ => ?_) (fun _ => ?_) | refine tc_block ?_ | refine tc_skip ?_ | refine tc_ret ?_ | refine tc_exit ?_ | refine tc_label ?_ | refine at_seq_ret ?_ | refine at_seq_exit ?_ | refine at_block_normal ?_ | refine at_block_ret ?_ | refine at_block_exit_self ?_ | refine at_block_exit_ne ?_ | refine at_loop_ret ?_ | refine at_loop_exit ?_ | refine at_loop_goto ?_ | refine tl_guard_yes ?_ | refine tl_guard_no ?_ | refine tl_guard_yes' ?_ | refine tl_guard_no' ?_ | refine tl_guard_undef ?_ | refine tl_guard_split (fun _ => ?_) (fun _ => ?_))
    | refine op_load_aggK rfl ?_
    | (refine op_call ((Pld.pointLine px py ax ay bx by' npx npy nax nay nbx nby _ gpx gpy gax gay gbx gby).mono ?_); rintro _ _ ⟨⟨v, c, rfl, g1, g2, g3⟩, ex1, rfl⟩)
    | fail
  rw [← hS] at g3
  have hlt : fcmp .lss v 4517110426252607488 = decide (S = 0) := by
    rw [fcmp_lss g1 fv_m20, Bool.eq_iff_iff]
    simp only [decide_eq_true_eq]
    exact small g2 g3 hS0 (L := nrm (nbx - nax) (nby - nay)) (by omega) hL0 hleast
  have hge : fcmp .geq v 0 = true := by rw [fcmp_geq g1 Acu.fv_zero]; exact decide_eq_true g2
  have hnear : ∀ c', 0 ≤ c' → Rl (p2 (-46)) (c' * c') S → rabs (c - c') ≤ p2 (-22) := by
    intro c' h1 h2
    have := near_roots g2 h1 g3 h2 hS0 (Rat.le_of_lt (p2_pos _)) (p2_le (by decide)) (p2_pos 15) hSle
    have e : 8 * p2 (-46) * p2 15 = p2 (-28) := by
      have e8 : (8 : Rat) = p2 3 := by rw [p2_toNat (e := 3) (by decide)]; rfl
      rw [e8, p2_mul (c := -43) (by decide), p2_mul (c := -28) (by decide)]
    rw [e] at this
    exact Rat.le_trans this (p2_le (by decide))
  refine tc_weak (G' := (kb, _) :: (ka, _) :: (kp, _) :: H) (fun _ _ h => h) (by (repeat (first | exact List.Sublist.refl _ | apply List.Sublist.cons_cons | apply List.Sublist.cons | refine List.Sublist.trans ?_ (List.sublist_append_right _ _)))) ?_
  apply fun hole0 hole1 hole2 hole3 hole4 hole5 hole6 hole7 hole8 hole9 hole10 hole11 hole12 hE hD hml hdl hpr prem fin => tc_drawn 22 [is hole0, (is (.bool true)), is hole1, is hole2, (is (.bool (decide (S = 0)))), is hole3, (fun w _ G => IsP npx npy 0 w G), is hole4, (fun w _ G => IsP nax nay 0 w G), is hole5, (fun w _ G => IsP nbx nby 0 w G), (some' (fun w _ => w = .bool (decide (S = 0)))), (is (.bool true)), is hole6, is hole7, is hole8, is hole9, is hole10, is hole11, (some' (fun w _ => ∃ r c', w = .float .f64 r ∧ Fv r c' ∧ 0 ≤ c' ∧ Rl (p2 (-46)) (c' * c') S)), (is (.bool true)), is hole12]
    [some 18, some 19, some 20, some 21, some 22, some 23, some 24, some 25, some 26, some 27, some 28, some 29, some 30, some 31, some 32, some 33, some 34, some 35, some 36, some 37, some 38, some 39, some 6] [[], [0], [1], [2], [3, 2], [2], [5, 2], [2], [7, 6, 2], [2], [9, 8, 2], [6, 8, 10, 2], [4, 11, 2], [2, 12], [13, 11], [14], [14], [14], [14], [16, 17, 18, 14], [15, 19, 14], [14, 20]] mixed ⟨(is_mono _), (some_mono _), (is_mono _), (is_mono _), (some_mono _), (is_mono _), (fun _ _ _ _ h hs => IsP.mono h hs), (is_mono _), (fun _ _ _ _ h hs => IsP.mono h hs), (is_mono _), (fun _ _ _ _ h hs => IsP.mono h hs), (some_mono _), (some_mono _), (is_mono _), (is_mono _), (is_mono _), (is_mono _), (is_mono _), (is_mono _), (some_mono _), (some_mono _), (is_mono _), trivial⟩ prem fin hE hD rfl hml hdl hpr
  rotate_left 14
  · exact rfl
  · exact rfl
  · exact Nat.le_of_ble_eq_true rfl
  · exact rfl
  · exact rfl
  refine ⟨fun G hG => ?_, fun G hG => ?_, fun G hG => ?_, fun G hG => ?_, fun G hG => ?_, fun G hG => ?_, fun G hG => ?_, fun G hG => ?_, fun G hG => ?_, fun G hG => ?_, fun G hG => ?_, fun G hG => ?_, fun G hG => ?_, fun G hG => ?_, fun G hG => ?_, fun G hG => ?_, fun G hG => ?_, fun G hG => ?_, fun G hG => ?_, fun G hG => ?_, fun G hG => ?_, fun G hG => ?_, trivial⟩
  · simp only [with2, Step2, nthDst, putO]
    (refine op_move ?_; exact ⟨[], rfl, rfl, rfl⟩)
  · rintro _ _ ⟨rfl, rfl⟩ -
    simp only [with2, Step2, nthDst, putO]
    (refine op_fcmp ?_; exact ⟨[], rfl, congrArg Value.bool hge, rfl⟩)
  · rintro _ _ ⟨rfl, rfl⟩ -
    simp only [with2, Step2, nthDst, putO]
    (refine op_move ?_; exact ⟨[], rfl, rfl, rfl⟩)
  · rintro _ _ ⟨rfl, rfl⟩ -
    simp only [with2, Step2, nthDst, putO]
    (first | refine .inr ⟨_, rfl, rfl, [], rfl, rfl, rfl⟩ | refine .inl ⟨_, _, rfl, rfl, fun _ => ?_, fun h => absurd h (by first | decide | (refine ne_not ?_; assumption))⟩ | refine .inl ⟨_, _, rfl, rfl, (fun h => absurd h (by first | decide | (refine ne_not2 ?_; assumption))), fun _ => ⟨[], rfl, rfl, rfl⟩⟩)
    (all_goals (refine op_move ?_; exact ⟨[], rfl, rfl, rfl⟩))
  · rintro _ _ ⟨rfl, rfl⟩ - _ _ ⟨rfl, rfl⟩ -
    simp only [with2, Step2, nthDst, putO]
    (first | refine .inr ⟨_, rfl, rfl, [], rfl, rfl, rfl⟩ | refine .inl ⟨_, _, rfl, rfl, fun _ => ?_, fun h => absurd h (by first | decide | (refine ne_not ?_; assumption))⟩ | refine .inl ⟨_, _, rfl, rfl, (fun h => absurd h (by first | decide | (refine ne_not2 ?_; assumption))), fun _ => ⟨[], rfl, rfl, rfl⟩⟩)
    (all_goals ((refine op_fcmp ?_; exact ⟨[], rfl, congrArg Value.bool hlt, rfl⟩)))
  · rintro _ _ ⟨rfl, rfl⟩ -
    simp only [with2, Step2, nthDst, putO]
    (first | refine .inr ⟨_, rfl, rfl, [], rfl, rfl, rfl⟩ | refine .inl ⟨_, _, rfl, rfl, fun _ => ?_, fun h => absurd h (by first | decide | (refine ne_not ?_; assumption))⟩ | refine .inl ⟨_, _, rfl, rfl, (fun h => absurd h (by first | decide | (refine ne_not2 ?_; assumption))), fun _ => ⟨[], rfl, rfl, rfl⟩⟩)
    (all_goals ((first | refine op_load ?_ | refine op_load_agg ?_ | refine op_load ?_ (hm := Sub.mem (by assumption) (by (repeat (apply List.mem_cons_of_mem)); assumption)) | refine op_load_agg ?_ (hm := Sub.mem (by assumption) (by (repeat (apply List.mem_cons_of_mem)); assumption))); exact ⟨[], rfl, rfl, rfl⟩))
  · rintro _ _ ⟨rfl, rfl⟩ - _ _ ⟨rfl, rfl⟩ -
    simp only [with2, Step2, nthDst, putO]
    (first | refine .inr ⟨_, rfl, rfl, [], rfl, rfl, rfl⟩ | refine .inl ⟨_, _, rfl, rfl, fun _ => ?_, fun h => absurd h (by first | decide | (refine ne_not ?_; assumption))⟩ | refine .inl ⟨_, _, rfl, rfl, (fun h => absurd h (by first | decide | (refine ne_not2 ?_; assumption))), fun _ => ⟨[], rfl, rfl, rfl⟩⟩)
    (all_goals ((refine op_call ((exactly _ _ _ _ _ fpx fpy hpx hpy).mono ?_); rintro w _ ⟨ex, rfl, hw⟩; exact ⟨ex, rfl, hw⟩)))
  · rintro _ _ ⟨rfl, rfl⟩ -
    simp only [with2, Step2, nthDst, putO]
    (first | refine .inr ⟨_, rfl, rfl, [], rfl, rfl, rfl⟩ | refine .inl ⟨_, _, rfl, rfl, fun _ => ?_, fun h => absurd h (by first | decide | (refine ne_not ?_; assumption))⟩ | refine .inl ⟨_, _, rfl, rfl, (fun h => absurd h (by first | decide | (refine ne_not2 ?_; assumption))), fun _ => ⟨[], rfl, rfl, rfl⟩⟩)
    (all_goals ((first | refine op_load ?_ | refine op_load_agg ?_ | refine op_load ?_ (hm := Sub.mem (by assumption) (by (repeat (apply List.mem_cons_of_mem)); assumption)) | refine op_load_agg ?_ (hm := Sub.mem (by assumption) (by (repeat (apply List.mem_cons_of_mem)); assumption))); exact ⟨[], rfl, rfl, rfl⟩))
  · rintro _ _ ⟨rfl, rfl⟩ - _ _ q6 - _ _ ⟨rfl, rfl⟩ -
    simp only [with2, Step2, nthDst, putO]
    (first | refine .inr ⟨_, rfl, rfl, [], rfl, rfl, rfl⟩ | refine .inl ⟨_, _, rfl, rfl, fun _ => ?_, fun h => absurd h (by first | decide | (refine ne_not ?_; assumption))⟩ | refine .inl ⟨_, _, rfl, rfl, (fun h => absurd h (by first | decide | (refine ne_not2 ?_; assumption))), fun _ => ⟨[], rfl, rfl, rfl⟩⟩)
    (all_goals ((refine op_call ((exactly _ _ _ _ _ fax fay hax hay).mono ?_); rintro w _ ⟨ex, rfl, hw⟩; exact ⟨ex, rfl, hw⟩)))
  · rintro _ _ ⟨rfl, rfl⟩ -
    simp only [with2, Step2, nthDst, putO]
    (first | refine .inr ⟨_, rfl, rfl, [], rfl, rfl, rfl⟩ | refine .inl ⟨_, _, rfl, rfl, fun _ => ?_, fun h => absurd h (by first | decide | (refine ne_not ?_; assumption))⟩ | refine .inl ⟨_, _, rfl, rfl, (fun h => absurd h (by first | decide | (refine ne_not2 ?_; assumption))), fun _ => ⟨[], rfl, rfl, rfl⟩⟩)
    (all_goals ((first | refine op_load ?_ | refine op_load_agg ?_ | refine op_load ?_ (hm := Sub.mem (by assumption) (by (repeat (apply List.mem_cons_of_mem)); assumption)) | refine op_load_agg ?_ (hm := Sub.mem (by assumption) (by (repeat (apply List.mem_cons_of_mem)); assumption))); exact ⟨[], rfl, rfl, rfl⟩))
  · rintro _ _ ⟨rfl, rfl⟩ - _ _ q8 - _ _ ⟨rfl, rfl⟩ -
    simp only [with2, Step2, nthDst, putO]
    (first | refine .inr ⟨_, rfl, rfl, [], rfl, rfl, rfl⟩ | refine .inl ⟨_, _, rfl, rfl, fun _ => ?_, fun h => absurd h (by first | decide | (refine ne_not ?_; assumption))⟩ | refine .inl ⟨_, _, rfl, rfl, (fun h => absurd h (by first | decide | (refine ne_not2 ?_; assumption))), fun _ => ⟨[], rfl, rfl, rfl⟩⟩)
    (all_goals ((refine op_call ((exactly _ _ _ _ _ fbx fby hbx hby).mono ?_); rintro w _ ⟨ex, rfl, hw⟩; exact ⟨ex, rfl, hw⟩)))
  · rintro _ _ q6 - _ _ q8 - _ _ q10 - _ _ ⟨rfl, rfl⟩ -
    simp only [with2, Step2, nthDst, putO]
    (first | refine .inr ⟨_, rfl, rfl, [], rfl, rfl, rfl⟩ | refine .inl ⟨_, _, rfl, rfl, fun _ => ?_, fun h => absurd h (by first | decide | (refine ne_not ?_; assumption))⟩ | refine .inl ⟨_, _, rfl, rfl, (fun h => absurd h (by first | decide | (refine ne_not2 ?_; assumption))), fun _ => ⟨[], rfl, rfl, rfl⟩⟩)
    (all_goals ((refine op_call ((qOn _ _ _ _ _ _ _ _ _ _ q6 q8 q10).mono ?_); rintro _ _ ⟨rfl, ex, rfl⟩; exact ⟨ex, rfl, congrArg Value.bool hon⟩)))
  · rintro _ _ ⟨rfl, rfl⟩ - _ _ rfl - _ _ ⟨rfl, rfl⟩ -
    simp only [with2, Step2, nthDst, putO]
    (first | refine .inr ⟨_, rfl, rfl, [], rfl, rfl, rfl⟩ | refine .inl ⟨_, _, rfl, rfl, fun _ => ?_, fun h => absurd h (by first | decide | (refine ne_not ?_; assumption))⟩ | refine .inl ⟨_, _, rfl, rfl, (fun h => absurd h (by first | decide | (refine ne_not2 ?_; assumption))), fun _ => ⟨[], rfl, rfl, rfl⟩⟩)
    (all_goals ((refine op_bcmp ?_; exact ⟨[], rfl, congrArg Value.bool (by simp [bcmp]), rfl⟩)))
  · rintro _ _ ⟨rfl, rfl⟩ - _ _ ⟨rfl, rfl⟩ -
    simp only [with2, Step2, nthDst, putO]
    ((first | refine op_pick_true ?_ | refine op_pick_false ?_ | refine op_pick_true' ?_ | refine op_pick_false' ?_); exact ⟨[], rfl, rfl, rfl⟩)
  · rintro _ _ ⟨rfl, rfl⟩ - _ _ rfl -
    simp only [with2, Step2, nthDst, putO]
    (refine op_move ?_; exact ⟨[], rfl, rfl, rfl⟩)
  · rintro _ _ ⟨rfl, rfl⟩ -
    simp only [with2, Step2, nthDst, putO]
    (first | refine .inr ⟨_, rfl, rfl, [], rfl, rfl, rfl⟩ | refine .inl ⟨_, _, rfl, rfl, fun _ => ?_, fun h => absurd h (by first | decide | (refine ne_not ?_; assumption))⟩ | refine .inl ⟨_, _, rfl, rfl, (fun h => absurd h (by first | decide | (refine ne_not2 ?_; assumption))), fun _ => ⟨[], rfl, rfl, rfl⟩⟩)
    (all_goals (refine op_move ?_; exact ⟨[], rfl, rfl, rfl⟩))
  · rintro _ _ ⟨rfl, rfl⟩ -
    simp only [with2, Step2, nthDst, putO]
    (first | refine .inr ⟨_, rfl, rfl, [], rfl, rfl, rfl⟩ | refine .inl ⟨_, _, rfl, rfl, fun _ => ?_, fun h => absurd h (by first | decide | (refine ne_not ?_; assumption))⟩ | refine .inl ⟨_, _, rfl, rfl, (fun h => absurd h (by first | decide | (refine ne_not2 ?_; assumption))), fun _ => ⟨[], rfl, rfl, rfl⟩⟩)
    (all_goals ((first | refine op_load ?_ | refine op_load_agg ?_ | refine op_load ?_ (hm := Sub.mem (by assumption) (by (repeat (apply List.mem_cons_of_mem)); assumption)) | refine op_load_agg ?_ (hm := Sub.mem (by assumption) (by (repeat (apply List.mem_cons_of_mem)); assumption))); exact ⟨[], rfl, rfl, rfl⟩))
  · rintro _ _ ⟨rfl, rfl⟩ -
    simp only [with2, Step2, nthDst, putO]
    (first | refine .inr ⟨_, rfl, rfl, [], rfl, rfl, rfl⟩ | refine .inl ⟨_, _, rfl, rfl, fun _ => ?_, fun h => absurd h (by first | decide | (refine ne_not ?_; assumption))⟩ | refine .inl ⟨_, _, rfl, rfl, (fun h => absurd h (by first | decide | (refine ne_not2 ?_; assumption))), fun _ => ⟨[], rfl, rfl, rfl⟩⟩)
    (all_goals ((first | refine op_load ?_ | refine op_load_agg ?_ | refine op_load ?_ (hm := Sub.mem (by assumption) (by (repeat (apply List.mem_cons_of_mem)); assumption)) | refine op_load_agg ?_ (hm := Sub.mem (by assumption) (by (repeat (apply List.mem_cons_of_mem)); assumption))); exact ⟨[], rfl, rfl, rfl⟩))
  · rintro _ _ ⟨rfl, rfl⟩ -
    simp only [with2, Step2, nthDst, putO]
    (first | refine .inr ⟨_, rfl, rfl, [], rfl, rfl, rfl⟩ | refine .inl ⟨_, _, rfl, rfl, fun _ => ?_, fun h => absurd h (by first | decide | (refine ne_not ?_; assumption))⟩ | refine .inl ⟨_, _, rfl, rfl, (fun h => absurd h (by first | decide | (refine ne_not2 ?_; assumption))), fun _ => ⟨[], rfl, rfl, rfl⟩⟩)
    (all_goals ((first | refine op_load ?_ | refine op_load_agg ?_ | refine op_load ?_ (hm := Sub.mem (by assumption) (by (repeat (apply List.mem_cons_of_mem)); assumption)) | refine op_load_agg ?_ (hm := Sub.mem (by assumption) (by (repeat (apply List.mem_cons_of_mem)); assumption))); exact ⟨[], rfl, rfl, rfl⟩))
  · rintro _ _ ⟨rfl, rfl⟩ - _ _ ⟨rfl, rfl⟩ - _ _ ⟨rfl, rfl⟩ - _ _ ⟨rfl, rfl⟩ -
    simp only [with2, Step2, nthDst, putO]
    (first | refine .inr ⟨_, rfl, rfl, [], rfl, rfl, rfl⟩ | refine .inl ⟨_, _, rfl, rfl, fun _ => ?_, fun h => absurd h (by first | decide | (refine ne_not ?_; assumption))⟩ | refine .inl ⟨_, _, rfl, rfl, (fun h => absurd h (by first | decide | (refine ne_not2 ?_; assumption))), fun _ => ⟨[], rfl, rfl, rfl⟩⟩)
    (all_goals ((refine op_call ((Pld.pointLine px py bx by' ax ay npx npy nbx nby nax nay _ gpx gpy gbx gby gax gay).mono ?_); rw [← hSrev]; rintro _ _ ⟨h, ex, rfl⟩; exact ⟨ex, rfl, h⟩)))
  · rintro _ _ ⟨rfl, rfl⟩ - _ _ ⟨r, c', rfl, k1, k2, k3⟩ - _ _ ⟨rfl, rfl⟩ -
    simp only [with2, Step2, nthDst, putO]
    (first | refine .inr ⟨_, rfl, rfl, [], rfl, rfl, rfl⟩ | refine .inl ⟨_, _, rfl, rfl, fun _ => ?_, fun h => absurd h (by first | decide | (refine ne_not ?_; assumption))⟩ | refine .inl ⟨_, _, rfl, rfl, (fun h => absurd h (by first | decide | (refine ne_not2 ?_; assumption))), fun _ => ⟨[], rfl, rfl, rfl⟩⟩)
    (all_goals ((refine op_call ((nearTo _ _ _ _ _ g1 k1 (hnear _ k2 k3)).mono ?_); rintro _ _ ⟨rfl, rfl⟩; exact ⟨[], rfl, rfl, rfl⟩)))
  · rintro _ _ ⟨rfl, rfl⟩ - _ _ ⟨rfl, rfl⟩ -
    simp only [with2, Step2, nthDst, putO]
    ((first | refine op_pick_true ?_ | refine op_pick_false ?_ | refine op_pick_true' ?_ | refine op_pick_false' ?_); exact ⟨[], rfl, rfl, rfl⟩)
  · rintro _ _ _ _ _ _ _ _ _ _ _ _ _ _ _ _ _ _ _ _ _ _ _ _ _ _ _ _ _ _ _ _ _ _ _ _ _ _ _ _ _ _ _ _ ⟨⟨rfl, rfl⟩, ⟨rfl, rfl⟩, ⟨r, c', rfl, k1, k2, k3⟩, ⟨rfl, rfl⟩, ⟨rfl, rfl⟩, ⟨rfl, rfl⟩, ⟨rfl, rfl⟩, ⟨rfl, rfl⟩, ⟨rfl, rfl⟩, ⟨rfl, rfl⟩, rfl, q10, ⟨rfl, rfl⟩, q8, ⟨rfl, rfl⟩, q6, ⟨rfl, rfl⟩, ⟨rfl, rfl⟩, ⟨rfl, rfl⟩, ⟨rfl, rfl⟩, ⟨rfl, rfl⟩, ⟨rfl, rfl⟩, _⟩
    simp only [List.nil_append, List.cons_append, List.append_nil, List.drop_succ_cons, List.drop_zero, nthDst, putO]
    repeat'
      first
        | refine tl_defer ?_ | refine tc_seq ?_ | refine tc_region ?_ | refine at_seq_normal ?_ | refine tl_nil ?_ | refine tl_cons ?_ | refine tl_cons_none ?_ | refine op_move ?_
        | refine op_assign ?_ | refine op_fieldAddr ?_ | refine op_load ?_ | refine op_load_agg ?_ | refine op_indexC ?_ | refine op_indexAddr1 ?_ | refine op_indexAddr ?_ | refine op_icmp ?_
        | refine op_fcmp ?_ | refine op_iarith ?_ | refine op_bcmp ?_ | refine op_unop_not ?_ | refine op_unop_neg_float ?_ | refine op_unop_neg_int ?_ | refine op_len_slice ?_ | refine op_pick_true ?_
        | refine op_pick_false ?_ | refine op_pick_true' ?_ | refine op_pick_false' ?_ | refine op_build ?_ | refine op_extract ?_ | refine op_makeInterface ?_ | refine op_typeAssert ?_ | refine op_ptr_nil ?_
        | refine op_nilCheck_ptr ?_ | refine op_nilCheck_meth ?_ | refine op_makeMeth ?_ | refine op_makeFunc ?_ | refine op_itof ?_ | refine op_itoi ?_ | refine op_ftoi ?_ | refine op_iquo ?_
        | refine op_irem ?_ | refine op_ibits ?_ | refine op_slice_isnil ?_ | refine op_slice_notnil ?_ | refine op_imax ?_ | refine op_imin ?_ | refine op_shl ?_ | refine op_shr ?_
        | (refine op_alloc ?_; intro _) | (refine op_box ?_; intro _) | (refine op_buildSlice ?_; intro _) | (refine op_farith ?_; intro _ _) | refine op_store0 ?_ | refine op_store1 ?_ | refine op_store2 ?_ | refine op_store3 ?_
        | refine op_store4 ?_ | refine op_store5 ?_ | refine tc_cond_t ?_ | refine tc_cond_f ?_ | refine tc_cond (fun _ => ?_) (fun _ => ?_) | refine tc_block ?_ | refine tc_skip ?_ | refine tc_ret ?_
        | refine tc_exit ?_ | refine tc_label ?_ | refine at_seq_ret ?_ | refine at_seq_exit ?_ | refine at_block_normal ?_ | refine at_block_ret ?_ | refine at_block_exit_self ?_ | refine at_block_exit_ne ?_
        | refine at_loop_ret ?_ | refine at_loop_exit ?_ | refine at_loop_goto ?_ | refine tl_guard_yes ?_ | refine tl_guard_no ?_ | refine tl_guard_yes' ?_ | refine tl_guard_no' ?_ | refine tl_guard_undef ?_
        | refine tl_guard_split (fun _ => ?_) (fun _ => ?_)
    exact ret_tmp (hG := by (repeat (first | exact List.Sublist.refl _ | apply List.Sublist.cons_cons | apply List.Sublist.cons | refine List.Sublist.trans ?_ (List.sublist_append_right _ _)))) (hk := ⟨rfl, rfl⟩)
theorem own : ownKnob Try.prog.godebug = none := by kernel_rfl
theorem laid : laidOutB Try.prog = true := by kernel_rfl
set_option maxRecDepth 100000 in
theorem lifted (os : Os) (started : os.Started) (H : Type) (enc : TypeId × Value → H) :
    ReturnsInHanded {} Try.checked os 6 .any (Rows.fnPointLineNoneSpec.pre6 enc Try.prog Try.f6 Rows.fnPointLineNoneRow.domain false) (Rows.fnPointLineNoneSpec.post enc Try.prog Try.f6 false true false false) := by
  refine returnsInHanded_of_change (C := Try.checked) own started (by kernel_rfl) Try.func6
    (ChangeSpec.witness6 (enc := enc) (C := Try.checked) false ⟨#[], #[.agg #[.float .f64 0, .float .f64 0], .agg #[.float .f64 0, .float .f64 0], .agg #[.float .f64 0, .float .f64 0]], []⟩ 8 (by kernel_rfl) (by kernel_rfl) (by kernel_rfl) (by kernel_rfl)) ?_
  intro W base args ds gs before hval0 hW hcnd _
  have hval : ∀ (j : Nat) t v, Try.f6.params[j]? = some t → args[j]? = some v → Value.okWide Try.prog W .any base t v := hval0
  have hW' := hW
  obtain ⟨p, q, hA0, hV, rfl, hfz, hnd⟩ := hW
  have hA : DataW.TrodAll enc Try.prog W 0 (fun _ => true) true Try.f6.params.toList args.toList ds p := hA0
  rw [Try.params6] at hA hval
  obtain ⟨v0, vs0, d0, ds0, p0, q0, hargs, rfl, rfl, h0, r0⟩ := trodAll_cons hA
  obtain ⟨v1, vs1, d1, ds1, p1, q1, rfl, rfl, rfl, h1, r1⟩ := trodAll_cons r0
  obtain ⟨v2, vs2, d2, ds2, p2, q2, rfl, rfl, rfl, h2, r2⟩ := trodAll_cons r1
  obtain ⟨rfl, rfl, rfl⟩ := trodAll_nil r2
  obtain rfl : args = #[v0, v1, v2] := by cases args; simp_all
  obtain ⟨rfl, rfl⟩ := trodVars_none hV
  obtain ⟨x0, y0, rfl, bx0, by0⟩ := open_p2 Try.underlying24 (by kernel_rfl) (by kernel_rfl) Try.underlying22 Try.underlying22 (hval 0 24 v0 rfl rfl) h0
  obtain ⟨x1, y1, rfl, bx1, by1⟩ := open_p2 Try.underlying24 (by kernel_rfl) (by kernel_rfl) Try.underlying22 Try.underlying22 (hval 1 24 v1 rfl rfl) h1
  obtain ⟨x2, y2, rfl, bx2, by2⟩ := open_p2 Try.underlying24 (by kernel_rfl) (by kernel_rfl) Try.underlying22 Try.underlying22 (hval 2 24 v2 rfl rfl) h2
  clear hA0 hval0
  refine (calls_of_does (law (H := all W) x0 y0 bx0 by0 x1 y1 bx1 by1 x2 y2 bx2 by2) (sees_all W)).mono fun e W' ⟨v, H', he, hs, hv, hH⟩ => ?_
  subst he
  subst hv
  subst hH
  exact ⟨_, rfl, post_law laid (of_decide_eq_true (by kernel_rfl)) rfl hW' rfl rfl Try.underlying4 hs.below⟩
theorem over : Rows.fnPointLineNoneRow.holds Try.pinned (OpenSpec.ofChange Rows.fnPointLineNoneSpec) :=
  OpenClaim.holds_of_wide 6 Try.f6 rfl rfl rfl rfl rfl rfl rfl ⟨rfl, rfl, rfl, rfl, rfl⟩ rfl rfl rfl rfl rfl (by kernel_rfl) Try.func6 (by kernel_rfl)
    (of_decide_eq_true (by kernel_rfl)) (by unfold Func.isWrapper; first | (rw [if_pos (by decide +kernel)]; kernel_rfl) | (rw [if_neg (by decide +kernel)]; exact ⟨rfl, rfl⟩))
    (fun os started H enc _ => lifted os started H enc)
/-- The statement. -/
theorem proved : Rows.FnPointLineNoneSaid := over
#print axioms proved
end Go.Proofs.Ytgkgfjliilemnaa.fnPointLineNone
