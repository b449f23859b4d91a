/-
  FnSimplifyLayouts: which places are kept of a line that is simplified does not depend on further numbers that each place has, nor on the threshold's sign; the first one is kept. No conditions beyond the statement's own.
-/
import Derived.Test.YtomhkbijijdghaaRows
import Derived.Test.YtomhkbijijdghaaSmpl3
import Derived.Test.YtomhkbijijdghaaLg5
set_option linter.unusedVariables false
set_option linter.unusedSimpArgs false
namespace Go.Proofs.Ytomhkbijijdghaa.fnSimplifyLayouts
open Go.Lg Go.Lg.Smp Go.Proofs.Ytomhkbijijdghaa.Pl Go.Proofs.Ytomhkbijijdghaa.Smpl
open Go.ChangeShapes Go.WideShapes Go.RowKit

theorem fv14 : Fv 4670232813583204352 ((16384 : Nat) : Rat) := ⟨false, 4503599627370496, -38, rfl, by
  unfold sgn p2; simp; grind⟩
/-- A number whose size is at most 16384. -/
theorem small_of {x : Nat} (h : fcmp .leq (x % 9223372036854775808) 4670232813583204352 = true) : ∃ q, Fv x q ∧ Bd 14 x := by
  have h1 := read_abs x
  cases hr : Ieee.double.read x with
  | number s m e =>
    have hx : Fv x (sgn s * (m : Rat) * p2 e) := ⟨s, m, e, hr, rfl⟩
    rw [fcmp_leq hx.abs fv14] at h
    refine ⟨_, hx, _, hx, ?_⟩
    have e14 : p2 14 = ((16384 : Nat) : Rat) := p2_toNat (by decide)
    rw [e14]; simpa using h
  | infinity s =>
    exfalso
    rw [hr] at h1
    rw [fcmp_def] at h
    simp only [fcmp0, Ieee.Format.order, h1, Datum.noSign] at h
    revert h; decide
  | nan s t =>
    exfalso
    rw [hr] at h1
    rw [fcmp_def] at h
    simp only [fcmp0, Ieee.Format.order, h1, Datum.noSign] at h
    revert h
    cases Ieee.double.read 4670232813583204352 <;> simp [Ieee.Datum.order]
theorem sq_nonneg {x : Nat} {q : Rat} (hx : Fv x q) (hb : Bd 14 x) : FB .mul x x ∧ fcmp .gtr 0 (fop .mul x x) = false := by
  have hf : FB .mul x x := fb_mul hx hx
  refine ⟨hf, ?_⟩
  obtain ⟨q', hq', hle⟩ := hb
  obtain rfl := hq'.uniq hx
  have h1 := Rat.mul_nonneg (rabs_nonneg q') (rabs_nonneg q')
  rw [← rabs_mul] at h1
  have hsq : 0 ≤ q' * q' := by
    rcases rabs_cases q' with h | h
    · have := Rat.mul_nonneg (rabs_nonneg q') (rabs_nonneg q'); rw [h] at this; exact this
    · have := Rat.mul_nonneg (rabs_nonneg q') (rabs_nonneg q'); rw [h] at this; grind
  have hup : q' * q' ≤ p2 28 := by
    have e : q' * q' = rabs q' * rabs q' := by rcases rabs_cases q' with h | h <;> rw [h] <;> grind
    rw [e]
    have := mul_le hle (rabs_nonneg q')
    have h2 := mul_le_left hle (Rat.le_of_lt (p2_pos 14))
    rw [p2_mul (c := 28) (by decide)] at h2
    exact Rat.le_trans this h2
  have h3 := p2_lt (show (28 : Int) < 1023 by decide)
  have h4 := p2_pos 1023
  obtain ⟨c, hc, hr⟩ := far_mul (far_fop hf) hx hx (by clear hx hq' hf; grind) (by clear hx hq' hf; grind)
  rw [fcmp_gtr fv_zero hc]
  refine decide_eq_false ?_
  intro hlt
  obtain ⟨last, k, g1, g2, g3, g4, _⟩ := hr
  have hp := p2_pos last
  have hk : k < 0 := by
    rcases (Int.lt_or_le k 0 : k < 0 ∨ 0 ≤ k) with h | h
    · exact h
    · exfalso
      have : (0 : Rat) ≤ (k : Rat) := by exact_mod_cast h
      have := mul_le this (Rat.le_of_lt hp)
      grind
  have h5 : (k : Rat) ≤ -1 := by
    have h7 : k ≤ -1 := by omega
    have h8 := Rat.intCast_le_intCast.2 h7
    simpa using h8
  have h6 := mul_le h5 (Rat.le_of_lt hp)
  grind
def plain (X Y : Nat → Nat) : Nat → List Nat
  | 0 => []
  | j + 1 => plain X Y j ++ [X j, Y j]
theorem plain_len (X Y : Nat → Nat) : ∀ j, (plain X Y j).length = 2 * j
  | 0 => rfl
  | j + 1 => by simp [plain, plain_len X Y j]; omega
theorem plain_get (X Y : Nat → Nat) : ∀ j i, i < j → (plain X Y j)[i * 2]? = some (X i) ∧ (plain X Y j)[i * 2 + 1]? = some (Y i)
  | 0, i, h => by omega
  | j + 1, i, h => by
    have hl := plain_len X Y j
    rcases Nat.lt_or_ge i j with h' | h'
    · obtain ⟨a, b⟩ := plain_get X Y j i h'
      exact ⟨by rw [plain, List.getElem?_append_left (by omega)]; exact a, by rw [plain, List.getElem?_append_left (by omega)]; exact b⟩
    · obtain rfl : i = j := by omega
      constructor
      · rw [plain, List.getElem?_append_right (by omega), hl, show i * 2 - 2 * i = 0 by omega]; rfl
      · rw [plain, List.getElem?_append_right (by omega), hl, show i * 2 + 1 - 2 * i = 1 by omega]; rfl
set_option maxHeartbeats 32000000 in
theorem law {H : Heap} (v : Value) (xs : List Nat) (hv : FS H v xs) (hl : xs.length ≤ 9223372036854775807) (hb : ∀ y ∈ xs, y < 2 ^ 64) (thr : Nat) (s : Int) (hw : -9223372036854775808 ≤ s ∧ s ≤ 9223372036854775807) :
    Does Try.prog 4 [v, .float .f64 thr, .int .i64 s] H fun w H' => w = .bool true ∧ H' = H := by
  obtain ⟨a, c, rfl⟩ := hv.val
  refine fn_enter 90 Try.func4 fun W => ?_
  by_cases hbig : xs.length > 2147483647
  · have hc : icmp .gtr (xs.length : Int) 2147483647 = true := by simp only [icmp, decide_eq_true_eq]; omega
    repeat'
      first
        | refine tl_defer ?_ | refine tc_seq ?_ | refine tc_region ?_ | refine at_seq_normal ?_ | refine tl_nil ?_ | refine tl_cons ?_ | refine tl_cons_none ?_ | refine op_move ?_
        | refine op_assign ?_ | refine op_fieldAddr ?_ | refine op_load ?_ | refine op_load_agg ?_ | refine op_indexC ?_ | refine op_indexAddr1 ?_ | refine op_indexAddr ?_ | refine op_icmp ?_
        | refine op_fcmp ?_ | refine op_iarith ?_ | refine op_bcmp ?_ | refine op_unop_not ?_ | refine op_unop_neg_float ?_ | refine op_unop_neg_int ?_ | refine op_len_slice ?_ | refine op_pick_true ?_
        | refine op_pick_false ?_ | refine op_pick_true' ?_ | refine op_pick_false' ?_ | refine op_build ?_ | refine op_extract ?_ | refine op_makeInterface ?_ | refine op_typeAssert ?_ | refine op_ptr_nil ?_
        | refine op_nilCheck_ptr ?_ | refine op_nilCheck_meth ?_ | refine op_makeMeth ?_ | refine op_makeFunc ?_ | refine op_itof ?_ | refine op_itoi ?_ | refine op_ftoi ?_ | refine op_iquo ?_
        | refine op_irem ?_ | refine op_ibits ?_ | refine op_slice_isnil ?_ | refine op_slice_notnil ?_ | refine op_imax ?_ | refine op_imin ?_ | refine op_shl ?_ | refine op_shr ?_
        | (refine op_alloc ?_; intro _) | (refine op_box ?_; intro _) | (refine op_buildSlice ?_; intro _) | (refine op_farith ?_; intro _ _) | refine op_store0 ?_ | refine op_store1 ?_ | refine op_store2 ?_ | refine op_store3 ?_
        | refine op_store4 ?_ | refine op_store5 ?_ | refine tc_cond_t ?_ | refine tc_cond_f ?_ | refine tc_cond (fun _ => ?_) (fun _ => ?_) | refine tc_block ?_ | refine tc_skip ?_ | refine tc_ret ?_
        | refine tc_exit ?_ | refine tc_label ?_ | refine at_seq_ret ?_ | refine at_seq_exit ?_ | refine at_block_normal ?_ | refine at_block_ret ?_ | refine at_block_exit_self ?_ | refine at_block_exit_ne ?_
        | refine at_loop_ret ?_ | refine at_loop_exit ?_ | refine at_loop_goto ?_ | refine tl_guard_yes ?_ | refine tl_guard_no ?_ | refine tl_guard_yes' ?_ | refine tl_guard_no' ?_ | refine tl_guard_undef ?_
        | refine tl_guard_split (fun _ => ?_) (fun _ => ?_)
    exact ret_tmp (hk := ⟨rfl, rfl⟩)
  have hc : icmp .gtr (xs.length : Int) 2147483647 = false := by simp only [icmp, decide_eq_false_iff_not]; omega
  repeat' first
    | (refine op_call ((flatPoints a c s xs _ hv (by omega) hb).mono ?_); rintro _ _ ⟨a2, m, c2, b, rfl, hok, ex, rfl⟩)
    | (refine op_call ((abs _ _).mono ?_); rintro _ _ ⟨rfl, rfl⟩)
    | (first | refine tl_defer ?_ | refine tc_seq ?_ | refine tc_region ?_ | refine at_seq_normal ?_ | refine tl_nil ?_ | refine tl_cons ?_ | refine tl_cons_none ?_ | refine op_move ?_ | refine op_assign ?_ | refine op_fieldAddr ?_ | refine op_load ?_ | refine op_load_agg ?_ | refine op_indexC ?_ | refine op_indexAddr1 ?_ | refine op_indexAddr ?_ | refine op_icmp ?_ | refine op_fcmp ?_ | refine op_iarith ?_ | refine op_bcmp ?_ | refine op_unop_not ?_ | refine op_unop_neg_float ?_ | refine op_unop_neg_int ?_ | refine op_len_slice ?_ | refine op_pick_true ?_ | refine op_pick_false ?_ | refine op_pick_true' ?_ | refine op_pick_false' ?_ | refine op_build ?_ | refine op_extract ?_ | refine op_makeInterface ?_ | refine op_typeAssert ?_ | refine op_ptr_nil ?_ | refine op_nilCheck_ptr ?_ | refine op_nilCheck_meth ?_ | refine op_makeMeth ?_ | refine op_makeFunc ?_ | refine op_itof ?_ | refine op_itoi ?_ | refine op_ftoi ?_ | refine op_iquo ?_ | refine op_irem ?_ | refine op_ibits ?_ | refine op_slice_isnil ?_ | refine op_slice_notnil ?_ | refine op_imax ?_ | refine op_imin ?_ | refine op_shl ?_ | refine op_shr ?_ | (refine op_alloc ?_; intro _) | (refine op_box ?_; intro _) | (refine op_buildSlice ?_; intro _) | (refine op_farith ?_; intro _ _) | refine op_store0 ?_ | refine op_store1 ?_ | refine op_store2 ?_ | refine op_store3 ?_ | refine op_store4 ?_ | refine op_store5 ?_ | refine op_storeK rfl ?_ | refine op_loadK rfl ?_ | refine op_load_aggK rfl ?_ | refine tc_cond_t ?_ | refine tc_cond_f ?_ | refine tc_cond (fun _ => ?_) (fun _ => ?_) | refine tc_block ?_ | refine tc_skip ?_ | refine tc_ret ?_ | refine tc_exit ?_ | refine tc_label ?_ | refine at_seq_ret ?_ | refine at_seq_exit ?_ | refine at_block_normal ?_ | refine at_block_ret ?_ | refine at_block_exit_self ?_ | refine at_block_exit_ne ?_ | refine at_loop_ret ?_ | refine at_loop_exit ?_ | refine at_loop_goto ?_ | refine tl_guard_yes ?_ | refine tl_guard_no ?_ | refine tl_guard_yes' ?_ | refine tl_guard_no' ?_ | refine tl_guard_undef ?_ | refine tl_guard_split (fun _ => ?_) (fun _ => ?_))
    | fail
  all_goals first
    | exact ret_tmp (hG := by (repeat (first | exact List.Sublist.refl _ | apply List.Sublist.cons_cons | apply List.Sublist.cons | refine List.Sublist.trans ?_ (List.sublist_append_right _ _)))) (hk := ⟨rfl, rfl⟩)
    | skip
  have hbt : b = true := by simpa using ‹(!b) = false›
  have hle : fcmp .leq (thr % 9223372036854775808) 4670232813583204352 = true := by simpa using ‹(!fcmp .leq (thr % 9223372036854775808) 4670232813583204352) = false›
  obtain ⟨stp, n, ⟨rfl, hs2, hs8, hn, hn60, hW⟩, rfl⟩ := hok hbt
  have hn1 : 1 ≤ m := by
    have h0 : icmp .eql (m : Int) 0 = false := by assumption
    simp only [icmp, beq_eq_false_iff_ne] at h0; omega
  obtain ⟨qt, hqt, hbd⟩ := small_of hle
  obtain ⟨t1, t2⟩ := sq_nonneg hqt hbd
  have t3 : FB .mul (Op.negFloat .f64 thr) (Op.negFloat .f64 thr) := fb_mul hqt.neg hqt.neg
  have t4 := fop_neg_sq hqt
  clear hok hle hbt
  generalize hX : (fun i => xs.getD (i * stp) 0) = X
  generalize hY : (fun i => xs.getD (i * stp + 1) 0) = Y
  have eX : ∀ i, xs.getD (i * stp) 0 = X i := fun i => by rw [← hX]
  have eY : ∀ i, xs.getD (i * stp + 1) 0 = Y i := fun i => by rw [← hY]
  have hW' : ∀ i, i < m → (∃ z, FI 8192 (X i) z) ∧ ∃ z, FI 8192 (Y i) z := fun i hi => by
    obtain ⟨⟨n1, f1, g1, g2⟩, n2, f2, g3, g4⟩ := hW i hi
    rw [eX] at f1
    rw [eY] at f2
    exact ⟨⟨n1, f1, g1, g2⟩, n2, f2, g3, g4⟩
  have hmul : ∀ i, i < m → i * stp + stp ≤ xs.length := fun i hi => by
    have := Nat.mul_le_mul_right stp (show i + 1 ≤ m from hi)
    rw [Nat.add_mul, Nat.one_mul] at this
    omega
  have hne : xs ≠ [] := by intro e; have := hmul 0 hn1; rw [e] at this; simp at this; omega
  obtain ⟨k, o, L, T, fz, rfl, hm, _, hcap, hget⟩ := hv.block hne
  have hXY : ∀ i, i < m → L[o + i * stp]? = some (.float .f64 (X i)) ∧ L[o + i * stp + 1]? = some (.float .f64 (Y i)) := fun i hi => by
    have := hmul i hi
    have a1 := hget (i * stp) (by omega)
    have a2 := hget (i * stp + 1) (by omega)
    rw [eX] at a1
    rw [eY] at a2
    exact ⟨a1, a2⟩
  have hk0 := @kept_first m (fun s e i => dsq (X s) (Y s) (X e) (Y e) (X i) (Y i)) (fop .mul thr thr) hn1
  have hkl := @kept_len m (fun s e i => dsq (X s) (Y s) (X e) (Y e) (X i) (Y i)) (fop .mul thr thr)
  obtain ⟨ks, hks⟩ : ∃ ks, ks = kept m (fun s e i => dsq (X s) (Y s) (X e) (Y e) (X i) (Y i)) (fop .mul thr thr) := ⟨_, rfl⟩
  rw [← hks] at hk0 hkl
  have hks2 : ks = kept m (fun s e i => dsq (X s) (Y s) (X e) (Y e) (X i) (Y i)) (fop .mul (Op.negFloat .f64 thr) (Op.negFloat .f64 thr)) := by rw [t4]; exact hks
  have hms : m * stp ≤ 60 * 8 := Nat.mul_le_mul hn60 hs8
  clear hW hX hY
  refine tc_loopK [(0, _), (1, _), (2, _), (6, _)] (by repeat (first | exact trivial | refine ⟨rfl, ?_⟩)) (fun (g : Nat × Buf) => [(9, bufV g.2 (2 * g.1)), (10, .int .i64 ((g.1 * stp : Nat) : Int))])
    (fun g => bufH 36 g.2 ((plain X Y g.1).map fl) H) (fun g => g.1 ≤ m ∧ bufOk 1 g.2 (2 * g.1) ((plain X Y g.1).map fl)) (fun g => m - g.1) (0, none) ⟨Nat.zero_le _, rfl, rfl⟩ ⟨rfl, (by simp only [Nat.zero_mul]; rfl), trivial⟩ (List.sublist_append_right _ _) ?_
  rintro ⟨j, buf⟩ ⟨hj, hbuf⟩
  simp only at hj hbuf ⊢
  have hjs : j * stp ≤ 60 * 8 := Nat.mul_le_mul (by omega) (by omega)
  have w1 : IntKind.i64.wrap (iarith .add ((j * stp : Nat) : Int) (stp : Int)) = (((j + 1) * stp : Nat) : Int) := by
    rw [wrap_addN (by omega), Nat.add_mul, Nat.one_mul]
  by_cases hlt : j < m
  · have hjl := hmul j hlt
    have hb : icmp .lss ((j * stp : Nat) : Int) (xs.length : Int) = true := by simp only [icmp, decide_eq_true_eq]; omega
    have w2 : IntKind.i64.wrap (iarith .add ((j * stp : Nat) : Int) 1) = ((j * stp + 1 : Nat) : Int) := wrap_addN (s := 1) (by omega)
    obtain ⟨g1, g2⟩ := hXY j hlt
    have hmem : (k, Obj.cells ⟨L⟩ T fz) ∈ bufH 36 buf ((plain X Y j).map fl) H := (bufH_sub _ _ _ _).subset hm
    repeat'
      first
        | refine tl_defer ?_ | refine tc_seq ?_ | refine tc_region ?_ | refine at_seq_normal ?_ | refine tl_nil ?_ | refine tl_cons ?_ | refine tl_cons_none ?_ | refine op_move ?_
        | refine op_assign ?_ | refine op_fieldAddr ?_ | refine op_load ?_ | refine op_load_agg ?_ | refine op_indexC ?_ | refine op_indexAddr1 ?_ | refine op_indexAddr ?_ | refine op_icmp ?_
        | refine op_fcmp ?_ | refine op_iarith ?_ | refine op_bcmp ?_ | refine op_unop_not ?_ | refine op_unop_neg_float ?_ | refine op_unop_neg_int ?_ | refine op_len_slice ?_ | refine op_pick_true ?_
        | refine op_pick_false ?_ | refine op_pick_true' ?_ | refine op_pick_false' ?_ | refine op_build ?_ | refine op_extract ?_ | refine op_makeInterface ?_ | refine op_typeAssert ?_ | refine op_ptr_nil ?_
        | refine op_nilCheck_ptr ?_ | refine op_nilCheck_meth ?_ | refine op_makeMeth ?_ | refine op_makeFunc ?_ | refine op_itof ?_ | refine op_itoi ?_ | refine op_ftoi ?_ | refine op_iquo ?_
        | refine op_irem ?_ | refine op_ibits ?_ | refine op_slice_isnil ?_ | refine op_slice_notnil ?_ | refine op_imax ?_ | refine op_imin ?_ | refine op_shl ?_ | refine op_shr ?_
        | (refine op_alloc ?_; intro _) | (refine op_box ?_; intro _) | (refine op_buildSlice ?_; intro _) | (refine op_farith ?_; intro _ _) | refine op_store0 ?_ | refine op_store1 ?_ | refine op_store2 ?_ | refine op_store3 ?_
        | refine op_store4 ?_ | refine op_store5 ?_ | refine tc_cond_t ?_ | refine tc_cond_f ?_ | refine tc_cond (fun _ => ?_) (fun _ => ?_) | refine tc_block ?_ | refine tc_skip ?_ | refine tc_ret ?_
        | refine tc_exit ?_ | refine tc_label ?_ | refine at_seq_ret ?_ | refine at_seq_exit ?_ | refine at_block_normal ?_ | refine at_block_ret ?_ | refine at_block_exit_self ?_ | refine at_block_exit_ne ?_
        | refine at_loop_ret ?_ | refine at_loop_exit ?_ | refine at_loop_goto ?_ | refine tl_guard_yes ?_ | refine tl_guard_no ?_ | refine tl_guard_yes' ?_ | refine tl_guard_no' ?_ | refine tl_guard_undef ?_
        | refine tl_guard_split (fun _ => ?_) (fun _ => ?_)
    apply fun hole0 hole1 hole2 hole3 hole4 hole5 hole6 hole7 hole8 hole9 hE hD hml hdl hpr prem fin => tc_drawnD 11 [PhiD.is hole0, PhiD.is hole1, PhiD.is hole2, PhiD.is hole3, PhiD.is hole4, PhiD.is hole5, PhiD.is hole6, PhiD.is (.int .i64 ((j * stp + 1 : Nat) : Int)), PhiD.is hole7, PhiD.is hole8, PhiD.fresh (fun k => .slice (some ⟨k, 0, none⟩) 2 2) hole9]
      [some 44, some 45, some 46, some 47, some 48, some 49, some 50, some 51, some 52, some 53, some 54, some 55, some 9] [[], [], [], [1, 2], [3], [], [], [6], [5, 7], [8], [4, 9]] mixed trivial prem fin hE hD rfl hml hdl hpr
    rotate_left 11
    · first | kernel_rfl | exact rfl
    · first | kernel_rfl | exact rfl
    · exact Nat.le_of_ble_eq_true rfl
    · first | kernel_rfl | exact rfl
    · first | kernel_rfl | exact rfl
    refine ⟨fun G hG => ?_, fun G hG => ?_, fun G hG => ?_, fun G hG => ?_, fun G hG => ?_, fun G hG => ?_, fun G hG => ?_, fun G hG => ?_, fun G hG => ?_, fun G hG => ?_, fun G hG => ?_, trivial⟩
    · simp only [withD, nthD, Step2, nthDst, putO, postD]
      (refine op_move ?_; exact ⟨[], rfl, rfl, rfl⟩)
    · simp only [withD, nthD, Step2, nthDst, putO, postD]
      (refine op_move ?_; exact ⟨[], rfl, rfl, rfl⟩)
    · simp only [withD, nthD, Step2, nthDst, putO, postD]
      (refine op_move ?_; exact ⟨[], rfl, rfl, rfl⟩)
    · simp only [withD, nthD, Step2, nthDst, putO, postD]
      (refine op_indexAddr1 (j := j * stp) ?_ (hj := by omega); exact ⟨[], rfl, rfl, rfl⟩)
    · simp only [withD, nthD, Step2, nthDst, putO, postD]
      (refine op_load ?_ (hm := hG _ hmem) (hv := g1); exact ⟨[], rfl, rfl, rfl⟩)
    · simp only [withD, nthD, Step2, nthDst, putO, postD]
      (refine op_move ?_; exact ⟨[], rfl, rfl, rfl⟩)
    · simp only [withD, nthD, Step2, nthDst, putO, postD]
      (refine op_move ?_; exact ⟨[], rfl, rfl, rfl⟩)
    · simp only [withD, nthD, Step2, nthDst, putO, postD]
      (refine op_iarith ?_; rw [w2]; exact ⟨[], rfl, rfl, rfl⟩)
    · simp only [withD, nthD, Step2, nthDst, putO, postD]
      (refine op_indexAddr1 (j := j * stp + 1) ?_ (hj := by omega); exact ⟨[], rfl, rfl, rfl⟩)
    · simp only [withD, nthD, Step2, nthDst, putO, postD]
      (refine op_load ?_ (hm := hG _ hmem) (hv := g2); exact ⟨[], rfl, rfl, rfl⟩)
    · simp only [withD, nthD, Step2, nthDst, putO, postD]
      (refine op_buildSlice ?_; intro _; exact ⟨[(_, _)], rfl, ⟨_, rfl, rfl⟩⟩)
    simp only [FinalsD, nthDst, putO, List.drop_succ_cons, List.drop_zero]
    rintro _ -
    refine tl_cons ?_
    refine op_append buf (2 * j) ((plain X Y j).map fl) [.float .f64 (X j), .float .f64 (Y j)] (m := 2) (s := 1) hbuf (fun buf' hokb => ?_) (by exact rfl) (by exact rfl) (H' := H) (List.sublist_cons_self _ _) mem0 rfl rfl (by intro u hu; simp only [List.mem_cons, List.not_mem_nil, or_false] at hu; rcases hu with rfl | rfl <;> rfl) (by decide) (by simp only [maxLen]; omega) (by omega)
    repeat' first
      | (refine op_iarith ?_; first | rw [w1] | rw [w2])
      | (first | refine tl_defer ?_ | refine tc_seq ?_ | refine tc_region ?_ | refine at_seq_normal ?_ | refine tl_nil ?_ | refine tl_cons ?_ | refine tl_cons_none ?_ | refine op_move ?_ | refine op_assign ?_ | refine op_fieldAddr ?_ | refine op_load ?_ | refine op_load_agg ?_ | refine op_indexC ?_ | refine op_indexAddr1 ?_ | refine op_indexAddr ?_ | refine op_icmp ?_ | refine op_fcmp ?_ | refine op_iarith ?_ | refine op_bcmp ?_ | refine op_unop_not ?_ | refine op_unop_neg_float ?_ | refine op_unop_neg_int ?_ | refine op_len_slice ?_ | refine op_pick_true ?_ | refine op_pick_false ?_ | refine op_pick_true' ?_ | refine op_pick_false' ?_ | refine op_build ?_ | refine op_extract ?_ | refine op_makeInterface ?_ | refine op_typeAssert ?_ | refine op_ptr_nil ?_ | refine op_nilCheck_ptr ?_ | refine op_nilCheck_meth ?_ | refine op_makeMeth ?_ | refine op_makeFunc ?_ | refine op_itof ?_ | refine op_itoi ?_ | refine op_ftoi ?_ | refine op_iquo ?_ | refine op_irem ?_ | refine op_ibits ?_ | refine op_slice_isnil ?_ | refine op_slice_notnil ?_ | refine op_imax ?_ | refine op_imin ?_ | refine op_shl ?_ | refine op_shr ?_ | (refine op_alloc ?_; intro _) | (refine op_box ?_; intro _) | (refine op_buildSlice ?_; intro _) | (refine op_farith ?_; intro _ _) | refine op_store0 ?_ | refine op_store1 ?_ | refine op_store2 ?_ | refine op_store3 ?_ | refine op_store4 ?_ | refine op_store5 ?_ | refine op_storeK rfl ?_ | refine op_loadK rfl ?_ | refine op_load_aggK rfl ?_ | refine tc_cond_t ?_ | refine tc_cond_f ?_ | refine tc_cond (fun _ => ?_) (fun _ => ?_) | refine tc_block ?_ | refine tc_skip ?_ | refine tc_ret ?_ | refine tc_exit ?_ | refine tc_label ?_ | refine at_seq_ret ?_ | refine at_seq_exit ?_ | refine at_block_normal ?_ | refine at_block_ret ?_ | refine at_block_exit_self ?_ | refine at_block_exit_ne ?_ | refine at_loop_ret ?_ | refine at_loop_exit ?_ | refine at_loop_goto ?_ | refine tl_guard_yes ?_ | refine tl_guard_no ?_ | refine tl_guard_yes' ?_ | refine tl_guard_no' ?_ | refine tl_guard_undef ?_ | refine tl_guard_split (fun _ => ?_) (fun _ => ?_))
      | fail
    have hp : (plain X Y (j + 1)).map fl = (plain X Y j).map fl ++ [.float .f64 (X j), .float .f64 (Y j)] := by rw [plain, List.map_append]; rfl
    exact at_loopK (j + 1, buf') ⟨hlt, by rw [hp]; exact hokb⟩ (by simp only []; omega) ⟨rfl, rfl, trivial⟩ (by repeat (first | exact trivial | refine ⟨rfl, ?_⟩)) (by rw [hp]; exact List.Sublist.refl _)
  · obtain rfl : j = m := by omega
    have hb : icmp .lss ((j * stp : Nat) : Int) (xs.length : Int) = false := by simp only [icmp, decide_eq_false_iff_not]; omega
    match buf, hbuf with
    | none, hbuf => exact absurd hbuf.1 (by omega)
    | some (kb, cap, sp), hbuf =>
    obtain ⟨p1, p2', p3, p4⟩ := hbuf
    have hXY2 : ∀ i, i < j → ((plain X Y j).map fl ++ sp)[0 + i * 2]? = some (.float .f64 (X i)) ∧ ((plain X Y j).map fl ++ sp)[0 + i * 2 + 1]? = some (.float .f64 (Y i)) := fun i hi => by
      obtain ⟨q1, q2⟩ := plain_get X Y j i hi
      have hpl := plain_len X Y j
      rw [Nat.zero_add]
      constructor
      · rw [List.getElem?_append_left (by rw [List.length_map]; omega), List.getElem?_map, q1]; rfl
      · rw [List.getElem?_append_left (by rw [List.length_map]; omega), List.getElem?_map, q2]; rfl
    have hgk : icmp .gtr (ks.length : Int) 0 = true := by
      have : 0 < ks.length := by
        rcases Nat.lt_or_ge 0 ks.length with h | h
        · exact h
        · rw [List.getElem?_eq_none h] at hk0; cases hk0
      simp only [icmp, decide_eq_true_eq]; omega
    simp only [bufV, bufH]
    repeat' first
      | (refine op_call ((implSimplify j stp X Y k o c L T fz thr _ (ins (e := H) _ hm) hn1 hn60 hs2 hs8 (by omega) hXY hW' t1 t2 xs.length hn ks hks).mono ?_); rintro _ _ ⟨a3, c3, rfl, hk1, ex1, rfl⟩)
      | (refine op_call ((implSimplify j 2 X Y kb 0 cap _ _ _ (Op.negFloat .f64 thr) _ (MidC.mem inferInstance) hn1 hn60 (by decide) (by decide) (by omega) hXY2 hW' t3 (by rw [t4]; exact t2) (2 * j) (by omega) ks hks2).mono ?_); rintro _ _ ⟨a4, c4, rfl, hk2, ex2, rfl⟩)
      | (refine op_call ((sameInts _ _ ks _ (hk1.mono ins) (hk2.mono ins) (by omega)).mono ?_); rintro _ _ ⟨rfl, rfl⟩)
      | (first | refine tl_defer ?_ | refine tc_seq ?_ | refine tc_region ?_ | refine at_seq_normal ?_ | refine tl_nil ?_ | refine tl_cons ?_ | refine tl_cons_none ?_ | refine op_move ?_ | refine op_assign ?_ | refine op_fieldAddr ?_ | refine op_load ?_ | refine op_load_agg ?_ | refine op_indexC ?_ | refine op_indexAddr1 ?_ | refine op_indexAddr ?_ | refine op_icmp ?_ | refine op_fcmp ?_ | refine op_iarith ?_ | refine op_bcmp ?_ | refine op_unop_not ?_ | refine op_unop_neg_float ?_ | refine op_unop_neg_int ?_ | refine op_len_slice ?_ | refine op_pick_true ?_ | refine op_pick_false ?_ | refine op_pick_true' ?_ | refine op_pick_false' ?_ | refine op_build ?_ | refine op_extract ?_ | refine op_makeInterface ?_ | refine op_typeAssert ?_ | refine op_ptr_nil ?_ | refine op_nilCheck_ptr ?_ | refine op_nilCheck_meth ?_ | refine op_makeMeth ?_ | refine op_makeFunc ?_ | refine op_itof ?_ | refine op_itoi ?_ | refine op_ftoi ?_ | refine op_iquo ?_ | refine op_irem ?_ | refine op_ibits ?_ | refine op_slice_isnil ?_ | refine op_slice_notnil ?_ | refine op_imax ?_ | refine op_imin ?_ | refine op_shl ?_ | refine op_shr ?_ | (refine op_alloc ?_; intro _) | (refine op_box ?_; intro _) | (refine op_buildSlice ?_; intro _) | (refine op_farith ?_; intro _ _) | refine op_store0 ?_ | refine op_store1 ?_ | refine op_store2 ?_ | refine op_store3 ?_ | refine op_store4 ?_ | refine op_store5 ?_ | refine op_storeK rfl ?_ | refine op_loadK rfl ?_ | refine op_load_aggK rfl ?_ | refine tc_cond_t ?_ | refine tc_cond_f ?_ | refine tc_cond (fun _ => ?_) (fun _ => ?_) | refine tc_block ?_ | refine tc_skip ?_ | refine tc_ret ?_ | refine tc_exit ?_ | refine tc_label ?_ | refine at_seq_ret ?_ | refine at_seq_exit ?_ | refine at_block_normal ?_ | refine at_block_ret ?_ | refine at_block_exit_self ?_ | refine at_block_exit_ne ?_ | refine at_loop_ret ?_ | refine at_loop_exit ?_ | refine at_loop_goto ?_ | refine tl_guard_yes ?_ | refine tl_guard_no ?_ | refine tl_guard_yes' ?_ | refine tl_guard_no' ?_ | refine tl_guard_undef ?_ | refine tl_guard_split (fun _ => ?_) (fun _ => ?_))
      | fail
    obtain ⟨k3, o3, l3, T3, fz3, cap3, he, hm3, hg3, hlt3⟩ := hk1.at hk0
    cases he
    repeat' first
      | (refine op_indexAddr1 (j := 0) ?_ (hj := hlt3))
      | (refine op_load ?_ (hm := ins _ hm3) (hv := hg3))
      | (first | refine tl_defer ?_ | refine tc_seq ?_ | refine tc_region ?_ | refine at_seq_normal ?_ | refine tl_nil ?_ | refine tl_cons ?_ | refine tl_cons_none ?_ | refine op_move ?_ | refine op_assign ?_ | refine op_fieldAddr ?_ | refine op_load ?_ | refine op_load_agg ?_ | refine op_indexC ?_ | refine op_indexAddr1 ?_ | refine op_indexAddr ?_ | refine op_icmp ?_ | refine op_fcmp ?_ | refine op_iarith ?_ | refine op_bcmp ?_ | refine op_unop_not ?_ | refine op_unop_neg_float ?_ | refine op_unop_neg_int ?_ | refine op_len_slice ?_ | refine op_pick_true ?_ | refine op_pick_false ?_ | refine op_pick_true' ?_ | refine op_pick_false' ?_ | refine op_build ?_ | refine op_extract ?_ | refine op_makeInterface ?_ | refine op_typeAssert ?_ | refine op_ptr_nil ?_ | refine op_nilCheck_ptr ?_ | refine op_nilCheck_meth ?_ | refine op_makeMeth ?_ | refine op_makeFunc ?_ | refine op_itof ?_ | refine op_itoi ?_ | refine op_ftoi ?_ | refine op_iquo ?_ | refine op_irem ?_ | refine op_ibits ?_ | refine op_slice_isnil ?_ | refine op_slice_notnil ?_ | refine op_imax ?_ | refine op_imin ?_ | refine op_shl ?_ | refine op_shr ?_ | (refine op_alloc ?_; intro _) | (refine op_box ?_; intro _) | (refine op_buildSlice ?_; intro _) | (refine op_farith ?_; intro _ _) | refine op_store0 ?_ | refine op_store1 ?_ | refine op_store2 ?_ | refine op_store3 ?_ | refine op_store4 ?_ | refine op_store5 ?_ | refine op_storeK rfl ?_ | refine op_loadK rfl ?_ | refine op_load_aggK rfl ?_ | refine tc_cond_t ?_ | refine tc_cond_f ?_ | refine tc_cond (fun _ => ?_) (fun _ => ?_) | refine tc_block ?_ | refine tc_skip ?_ | refine tc_ret ?_ | refine tc_exit ?_ | refine tc_label ?_ | refine at_seq_ret ?_ | refine at_seq_exit ?_ | refine at_block_normal ?_ | refine at_block_ret ?_ | refine at_block_exit_self ?_ | refine at_block_exit_ne ?_ | refine at_loop_ret ?_ | refine at_loop_exit ?_ | refine at_loop_goto ?_ | refine tl_guard_yes ?_ | refine tl_guard_no ?_ | refine tl_guard_yes' ?_ | refine tl_guard_no' ?_ | refine tl_guard_undef ?_ | refine tl_guard_split (fun _ => ?_) (fun _ => ?_))
      | fail
    exact ret_tmp (hG := by (repeat (first | exact List.Sublist.refl _ | apply List.Sublist.cons_cons | apply List.Sublist.cons | refine List.Sublist.trans ?_ (List.sublist_append_right _ _)))) (hk := ⟨rfl, rfl⟩)
theorem own : ownKnob Try.prog.godebug = none := by kernel_rfl
theorem laid : laidOutB Try.prog = true := by kernel_rfl
set_option maxRecDepth 100000 in
theorem lifted (os : Os) (started : os.Started) (H : Type) (enc : TypeId × Value → H) :
    ReturnsInHanded {} Try.checked os 4 .any (Rows.fnSimplifyLayoutsSpec.pre6 enc Try.prog Try.f4 Rows.fnSimplifyLayoutsRow.domain false) (Rows.fnSimplifyLayoutsSpec.post enc Try.prog Try.f4 false true false false) := by
  refine returnsInHanded_of_change (C := Try.checked) own started (by kernel_rfl) Try.func4
    (ChangeSpec.witness6 (enc := enc) (C := Try.checked) false ⟨#[], #[.slice none 0 0, .float .f64 0, .int .i64 0], []⟩ 8 (by kernel_rfl) (by kernel_rfl) (by kernel_rfl) (by kernel_rfl)) ?_
  intro W base args ds gs before hval0 hW hcnd _
  have hval : ∀ (j : Nat) t v, Try.f4.params[j]? = some t → args[j]? = some v → Value.okWide Try.prog W .any base t v := hval0
  have hW' := hW
  obtain ⟨p, q, hA0, hV, rfl, hfz, hnd⟩ := hW
  have hA : DataW.TrodAll enc Try.prog W 0 (fun _ => true) true Try.f4.params.toList args.toList ds p := hA0
  rw [Try.params4] at hA hval
  obtain ⟨v0, vs0, d0, ds0, p0, q0, hargs, rfl, rfl, h0, r0⟩ := trodAll_cons hA
  obtain ⟨v1, vs1, d1, ds1, p1, q1, rfl, rfl, rfl, h1, r1⟩ := trodAll_cons r0
  obtain ⟨v2, vs2, d2, ds2, p2, q2, rfl, rfl, rfl, h2, r2⟩ := trodAll_cons r1
  obtain ⟨rfl, rfl, rfl⟩ := trodAll_nil r2
  obtain rfl : args = #[v0, v1, v2] := by cases args; simp_all
  obtain ⟨rfl, rfl⟩ := trodVars_none hV
  obtain ⟨xs0, hs0, hl0, hb0⟩ := open_floats Try.underlying25 (by kernel_rfl) Try.underlying36 (hval 0 25 v0 rfl rfl) h0
  obtain ⟨x1, rfl, wx1⟩ := Go.Lg.open_float Try.underlying36 (hval 1 36 v1 rfl rfl) h1
  obtain ⟨n2, rfl, rfl, rfl, wn2⟩ := open_int Try.underlying3 (hval 2 3 v2 rfl rfl) h2
  clear hA0 hval0
  refine (calls_of_does (law (H := all W) v0 xs0 hs0 hl0 hb0 x1 n2 (wf_i64 wn2)) (sees_all W)).mono fun e W' ⟨v, H', he, hs, hv, hH⟩ => ?_
  subst he
  subst hv
  subst hH
  exact ⟨_, rfl, post_law laid (of_decide_eq_true (by kernel_rfl)) rfl hW' rfl rfl Try.underlying4 hs.below⟩
theorem over : Rows.fnSimplifyLayoutsRow.holds Try.pinned (OpenSpec.ofChange Rows.fnSimplifyLayoutsSpec) :=
  OpenClaim.holds_of_wide 4 Try.f4 rfl rfl rfl rfl rfl rfl rfl ⟨rfl, rfl, rfl, rfl, rfl⟩ rfl rfl rfl rfl rfl (by kernel_rfl) Try.func4 (by kernel_rfl)
    (of_decide_eq_true (by kernel_rfl)) (by unfold Func.isWrapper; first | (rw [if_pos (by decide +kernel)]; kernel_rfl) | (rw [if_neg (by decide +kernel)]; exact ⟨rfl, rfl⟩))
    (fun os started H enc _ => lifted os started H enc)
/-- The statement. -/
theorem proved : Rows.FnSimplifyLayoutsSaid := over
#print axioms proved
end Go.Proofs.Ytomhkbijijdghaa.fnSimplifyLayouts
