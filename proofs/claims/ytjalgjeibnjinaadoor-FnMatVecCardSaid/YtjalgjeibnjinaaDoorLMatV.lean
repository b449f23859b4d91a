/-
  FnMatVec: the product of a matrix and a vector has the products of its rows and the vector; that of the transposed one, those of its columns. The tied card, of the first form. No conditions beyond the statement's own.
-/
import Derived.Test.YtjalgjeibnjinaaDoorCards
import Derived.Test.YtjalgjeibnjinaaDoorTie
import Derived.Test.YtjalgjeibnjinaaDoorLg5
import Derived.Test.YtjalgjeibnjinaaDoorMat2
import Derived.Deep.DeepHandedRow
import Derived.LaidMore
set_option linter.unusedVariables false
set_option linter.unusedSimpArgs false
namespace Go.Proofs.YtjalgjeibnjinaaDoor.fnMatVec
open Go.Lg Go.Proofs.YtjalgjeibnjinaaDoor.Mat Go.Proofs.YtjalgjeibnjinaaDoor.Gd
open Go.ChangeShapes Go.WideShapes Go.ChangeAt Go.RowKit

section
variable {H : Type} {enc : TypeId × Value → H} {P : Program} {W : World} {sp : Nat → Bool} {hd : Bool} {t e : TypeId} {v : Value} {r : Reach} {b0 : Nat}
theorem open_mat {d : DataW H} {p : List MemPlace} (hs : P.underlying t = some (.array 9 e)) (hC : P.cellsOf t = 9) (he : P.cellsOf e = 1) (hf : P.underlying e = some (.float .f64)) (hv : Value.okWide P W r b0 t v) (h : DataW.Trod enc P W 0 sp hd t v d p) :
    ∃ ms : List Nat, v = .agg ⟨ms.map fl⟩ ∧ ms.length = 9 := by
  simp only [Value.okWide, hs] at hv
  obtain ⟨cs, rfl, hsz, _⟩ := hv
  obtain ⟨n, hn⟩ := h
  obtain ⟨xs, m, _, _, hl, hx, hg⟩ := DataW.trod_array hs (show DataW.trod enc P W 0 sp hd n t cs.toList = _ from hn)
  rw [hC] at hl
  have hall : ∀ y ∈ cs.toList, ∃ b, y = Value.float .f64 b ∧ b < 2 ^ 64 := by
    intro y hy
    obtain ⟨i, hi, rfl⟩ := List.getElem_of_mem hy
    have h1 := hg i (by omega)
    rw [he, Nat.mul_one] at h1
    have hd1 : (cs.toList.drop i).take 1 = [cs.toList[i]] := by rw [List.drop_eq_getElem_cons hi]; rfl
    rw [hd1, List.getElem?_eq_getElem (by omega)] at h1
    obtain ⟨b, hb, hw⟩ := trod_float hf h1
    exact ⟨b, hb, wf_f64 hw⟩
  obtain ⟨ms, hms, _⟩ := all_floats hall
  refine ⟨ms, ?_, ?_⟩
  · rw [← hms]
  · have := congrArg List.length hms
    rw [List.length_map] at this; omega
end
-- ROWS
set_option maxHeartbeats 4000000 in
theorem row01 (k2 k3 vx vy vz a0 a1 a2 a3 a4 a5 a6 a7 a8 : Nat) (T2 T3 : TypeId) (x y z n0 n1 n2 n3 n4 n5 n6 n7 n8 : Int) (H : Heap) (hm2 : (k2, Obj.cells ⟨[a0, a1, a2, a3, a4, a5, a6, a7, a8].map fl⟩ T2 (0, 0)) ∈ H) (hm3 : (k3, Obj.cells ⟨[.float .f64 vx, .float .f64 vy, .float .f64 vz]⟩ T3 (0, 0)) ∈ H) (gx : FI 1024 vx x) (gy : FI 1024 vy y) (gz : FI 1024 vz z) (f0 : FI 1024 a0 n0) (f1 : FI 1024 a1 n1) (f2 : FI 1024 a2 n2) (f3 : FI 1024 a3 n3) (f4 : FI 1024 a4 n4) (f5 : FI 1024 a5 n5) (f6 : FI 1024 a6 n6) (f7 : FI 1024 a7 n7) (f8 : FI 1024 a8 n8) :
    Does Tryd.prog 27 [.int .i64 0, .int .i64 1, .pointer (some ⟨k2, 0, none⟩), .pointer (some ⟨k3, 0, none⟩)] H fun w H' => (∃ p, w = .float .f64 p ∧ FI 3145728 p (n0 * x + n1 * y + n2 * z)) ∧ H' = H := by
  refine fn_enter 32 Tryd.func27 fun W => ?_
  repeat'
    first
      | refine tl_defer ?_ | refine tc_seq ?_ | refine tc_region ?_ | refine at_seq_normal ?_ | refine tl_nil ?_ | refine tl_cons ?_ | refine tl_cons_none ?_ | refine op_move ?_
      | refine op_assign ?_ | refine op_fieldAddr ?_ | refine op_load ?_ | refine op_load_agg ?_ | refine op_indexC ?_ | refine op_indexAddr1 ?_ | refine op_indexAddr ?_ | refine op_icmp ?_
      | refine op_fcmp ?_ | refine op_iarith ?_ | refine op_bcmp ?_ | refine op_unop_not ?_ | refine op_unop_neg_float ?_ | refine op_unop_neg_int ?_ | refine op_len_slice ?_ | refine op_pick_true ?_
      | refine op_pick_false ?_ | refine op_pick_true' ?_ | refine op_pick_false' ?_ | refine op_build ?_ | refine op_extract ?_ | refine op_makeInterface ?_ | refine op_typeAssert ?_ | refine op_ptr_nil ?_
      | refine op_nilCheck_ptr ?_ | refine op_nilCheck_meth ?_ | refine op_makeMeth ?_ | refine op_makeFunc ?_ | refine op_itof ?_ | refine op_itoi ?_ | refine op_ftoi ?_ | refine op_iquo ?_
      | refine op_irem ?_ | refine op_ibits ?_ | refine op_slice_isnil ?_ | refine op_slice_notnil ?_ | refine op_imax ?_ | refine op_imin ?_ | refine op_shl ?_ | refine op_shr ?_
      | (refine op_alloc ?_; intro _) | (refine op_box ?_; intro _) | (refine op_buildSlice ?_; intro _) | (refine op_farith ?_; intro _ _) | refine op_store0 ?_ | refine op_store1 ?_ | refine op_store2 ?_ | refine op_store3 ?_
      | refine op_store4 ?_ | refine op_store5 ?_ | refine tc_cond_t ?_ | refine tc_cond_f ?_ | refine tc_cond (fun _ => ?_) (fun _ => ?_) | refine tc_block ?_ | refine tc_skip ?_ | refine tc_ret ?_
      | refine tc_exit ?_ | refine tc_label ?_ | refine at_seq_ret ?_ | refine at_seq_exit ?_ | refine at_block_normal ?_ | refine at_block_ret ?_ | refine at_block_exit_self ?_ | refine at_block_exit_ne ?_
      | refine at_loop_ret ?_ | refine at_loop_exit ?_ | refine at_loop_goto ?_ | refine tl_guard_yes ?_ | refine tl_guard_no ?_ | refine tl_guard_yes' ?_ | refine tl_guard_no' ?_ | refine tl_guard_undef ?_
      | refine tl_guard_split (fun _ => ?_) (fun _ => ?_)
  apply fun hole0 hole1 hole2 hole3 hole4 hole5 hole6 hole7 hole8 hole9 hole10 hole11 hole12 hole13 hole14 hole15 hole16 hole17 hole18 hole19 hE hD hml hdl hpr prem fin => tc_drawnD 25 [PhiD.is hole0, PhiD.is hole1, PhiD.is hole2, PhiD.is hole3, PhiD.is hole4, PhiD.gen (some' (fun w ex => (∃ r, FI 1048576 r (n0 * x) ∧ w = .float .f64 r) ∧ ex = [])), PhiD.is hole5, PhiD.is hole6, PhiD.is hole7, PhiD.is hole8, PhiD.is hole9, PhiD.is hole10, PhiD.is hole11, PhiD.gen (some' (fun w ex => (∃ r, FI 1048576 r (n1 * y) ∧ w = .float .f64 r) ∧ ex = [])), PhiD.gen (some' (fun w ex => (∃ r, FI 2097152 r (n0 * x + n1 * y) ∧ w = .float .f64 r) ∧ ex = [])), PhiD.is hole12, PhiD.is hole13, PhiD.is hole14, PhiD.is hole15, PhiD.is hole16, PhiD.is hole17, PhiD.is hole18, PhiD.is hole19, PhiD.gen (some' (fun w ex => (∃ r, FI 1048576 r (n2 * z) ∧ w = .float .f64 r) ∧ ex = [])), PhiD.gen (some' (fun w ex => (∃ r, FI 3145728 r (n0 * x + n1 * y + n2 * z) ∧ w = .float .f64 r) ∧ ex = []))]
    [some 7, some 8, some 9, some 10, some 11, some 12, some 13, some 14, some 15, some 16, some 17, some 18, some 19, some 20, some 21, some 22, some 23, some 24, some 25, some 26, some 27, some 28, some 29, some 30, some 31, some 6] [[], [0], [1], [], [3], [2, 4], [], [], [6, 7], [8], [9], [], [11], [10, 12], [5, 13], [], [], [16], [15, 17], [18], [19], [], [21], [20, 22], [14, 23]] mixed ⟨(some_mono _), (some_mono _), (some_mono _), (some_mono _), (some_mono _), trivial⟩ prem fin hE hD rfl hml hdl hpr
  rotate_left 21
  · first | kernel_rfl | exact rfl
  · first | kernel_rfl | exact rfl
  · exact Nat.le_of_ble_eq_true rfl
  · first | kernel_rfl | exact rfl
  · first | kernel_rfl | exact rfl
  refine ⟨fun G hG => ?_, fun G hG => ?_, fun G hG => ?_, fun G hG => ?_, fun G hG => ?_, fun G hG => ?_, fun G hG => ?_, fun G hG => ?_, fun G hG => ?_, fun G hG => ?_, fun G hG => ?_, fun G hG => ?_, fun G hG => ?_, fun G hG => ?_, fun G hG => ?_, fun G hG => ?_, fun G hG => ?_, fun G hG => ?_, fun G hG => ?_, fun G hG => ?_, fun G hG => ?_, fun G hG => ?_, fun G hG => ?_, fun G hG => ?_, fun G hG => ?_, trivial⟩
  · simp only [withD, nthD, Step2, nthDst, putO, postD]
    (refine op_move ?_; exact ⟨[], rfl, rfl, rfl⟩)
  · simp only [withD, nthD, Step2, nthDst, putO, postD]
    (refine op_indexArr ?_ (hi := by decide); exact ⟨[], rfl, rfl, rfl⟩)
  · simp only [withD, nthD, Step2, nthDst, putO, postD]
    (refine op_load (v := fl a0) ?_ (hm := hG _ hm2) (hv := rfl); exact ⟨[], rfl, rfl, rfl⟩)
  · simp only [withD, nthD, Step2, nthDst, putO, postD]
    (refine op_fieldAddr ?_; exact ⟨[], rfl, rfl, rfl⟩)
  · simp only [withD, nthD, Step2, nthDst, putO, postD]
    (refine op_load (v := .float .f64 vx) ?_ (hm := hG _ hm3) (hv := rfl); exact ⟨[], rfl, rfl, rfl⟩)
  · simp only [withD, nthD, Step2, nthDst, putO, postD]
    (refine op_farith ?_; intro _ h; exact ⟨[], rfl, ⟨_, FI.mul f0 gx (by decide) h, rfl⟩, rfl⟩)
  · simp only [withD, nthD, Step2, nthDst, putO, postD]
    (refine op_move ?_; exact ⟨[], rfl, rfl, rfl⟩)
  · simp only [withD, nthD, Step2, nthDst, putO, postD]
    (refine op_move ?_; exact ⟨[], rfl, rfl, rfl⟩)
  · simp only [withD, nthD, Step2, nthDst, putO, postD]
    (refine op_iarith ?_; exact ⟨[], rfl, rfl, rfl⟩)
  · simp only [withD, nthD, Step2, nthDst, putO, postD]
    (refine op_indexArr ?_ (hi := by decide); exact ⟨[], rfl, rfl, rfl⟩)
  · simp only [withD, nthD, Step2, nthDst, putO, postD]
    (refine op_load (v := fl a1) ?_ (hm := hG _ hm2) (hv := rfl); exact ⟨[], rfl, rfl, rfl⟩)
  · simp only [withD, nthD, Step2, nthDst, putO, postD]
    (refine op_fieldAddr ?_; exact ⟨[], rfl, rfl, rfl⟩)
  · simp only [withD, nthD, Step2, nthDst, putO, postD]
    (refine op_load (v := .float .f64 vy) ?_ (hm := hG _ hm3) (hv := rfl); exact ⟨[], rfl, rfl, rfl⟩)
  · simp only [withD, nthD, Step2, nthDst, putO, postD]
    (refine op_farith ?_; intro _ h; exact ⟨[], rfl, ⟨_, FI.mul f1 gy (by decide) h, rfl⟩, rfl⟩)
  · simp only [withD, nthD, Step2, nthDst, putO, postD]
    rintro _ _ ⟨⟨b0, h0, rfl⟩, rfl⟩ - _ _ ⟨⟨b1, h1, rfl⟩, rfl⟩ -
    (refine op_farith ?_; intro _ h; exact ⟨[], rfl, ⟨_, FI.add h0 h1 (by decide) h, rfl⟩, rfl⟩)
  · simp only [withD, nthD, Step2, nthDst, putO, postD]
    (refine op_move ?_; exact ⟨[], rfl, rfl, rfl⟩)
  · simp only [withD, nthD, Step2, nthDst, putO, postD]
    (refine op_move ?_; exact ⟨[], rfl, rfl, rfl⟩)
  · simp only [withD, nthD, Step2, nthDst, putO, postD]
    (refine op_iarith ?_; exact ⟨[], rfl, rfl, rfl⟩)
  · simp only [withD, nthD, Step2, nthDst, putO, postD]
    (refine op_iarith ?_; exact ⟨[], rfl, rfl, rfl⟩)
  · simp only [withD, nthD, Step2, nthDst, putO, postD]
    (refine op_indexArr ?_ (hi := by decide); exact ⟨[], rfl, rfl, rfl⟩)
  · simp only [withD, nthD, Step2, nthDst, putO, postD]
    (refine op_load (v := fl a2) ?_ (hm := hG _ hm2) (hv := rfl); exact ⟨[], rfl, rfl, rfl⟩)
  · simp only [withD, nthD, Step2, nthDst, putO, postD]
    (refine op_fieldAddr ?_; exact ⟨[], rfl, rfl, rfl⟩)
  · simp only [withD, nthD, Step2, nthDst, putO, postD]
    (refine op_load (v := .float .f64 vz) ?_ (hm := hG _ hm3) (hv := rfl); exact ⟨[], rfl, rfl, rfl⟩)
  · simp only [withD, nthD, Step2, nthDst, putO, postD]
    (refine op_farith ?_; intro _ h; exact ⟨[], rfl, ⟨_, FI.mul f2 gz (by decide) h, rfl⟩, rfl⟩)
  · simp only [withD, nthD, Step2, nthDst, putO, postD]
    rintro _ _ ⟨⟨b2, h2, rfl⟩, rfl⟩ - _ _ ⟨⟨b3, h3, rfl⟩, rfl⟩ -
    (refine op_farith ?_; intro _ h; exact ⟨[], rfl, ⟨_, FI.add h2 h3 (by decide) h, rfl⟩, rfl⟩)
  simp only [FinalsD, nthDst, putO, List.drop_succ_cons, List.drop_zero]
  rintro _ _ _ _ _ _ _ _ _ _ ⟨⟨⟨b4, h4, rfl⟩, rfl⟩, ⟨⟨b3, h3, rfl⟩, rfl⟩, ⟨⟨b2, h2, rfl⟩, rfl⟩, ⟨⟨b1, h1, rfl⟩, rfl⟩, ⟨⟨b0, h0, rfl⟩, rfl⟩, -⟩
  simp only [List.nil_append]
  repeat'
    first
      | refine tl_defer ?_ | refine tc_seq ?_ | refine tc_region ?_ | refine at_seq_normal ?_ | refine tl_nil ?_ | refine tl_cons ?_ | refine tl_cons_none ?_ | refine op_move ?_
      | refine op_assign ?_ | refine op_fieldAddr ?_ | refine op_load ?_ | refine op_load_agg ?_ | refine op_indexC ?_ | refine op_indexAddr1 ?_ | refine op_indexAddr ?_ | refine op_icmp ?_
      | refine op_fcmp ?_ | refine op_iarith ?_ | refine op_bcmp ?_ | refine op_unop_not ?_ | refine op_unop_neg_float ?_ | refine op_unop_neg_int ?_ | refine op_len_slice ?_ | refine op_pick_true ?_
      | refine op_pick_false ?_ | refine op_pick_true' ?_ | refine op_pick_false' ?_ | refine op_build ?_ | refine op_extract ?_ | refine op_makeInterface ?_ | refine op_typeAssert ?_ | refine op_ptr_nil ?_
      | refine op_nilCheck_ptr ?_ | refine op_nilCheck_meth ?_ | refine op_makeMeth ?_ | refine op_makeFunc ?_ | refine op_itof ?_ | refine op_itoi ?_ | refine op_ftoi ?_ | refine op_iquo ?_
      | refine op_irem ?_ | refine op_ibits ?_ | refine op_slice_isnil ?_ | refine op_slice_notnil ?_ | refine op_imax ?_ | refine op_imin ?_ | refine op_shl ?_ | refine op_shr ?_
      | (refine op_alloc ?_; intro _) | (refine op_box ?_; intro _) | (refine op_buildSlice ?_; intro _) | (refine op_farith ?_; intro _ _) | refine op_store0 ?_ | refine op_store1 ?_ | refine op_store2 ?_ | refine op_store3 ?_
      | refine op_store4 ?_ | refine op_store5 ?_ | refine tc_cond_t ?_ | refine tc_cond_f ?_ | refine tc_cond (fun _ => ?_) (fun _ => ?_) | refine tc_block ?_ | refine tc_skip ?_ | refine tc_ret ?_
      | refine tc_exit ?_ | refine tc_label ?_ | refine at_seq_ret ?_ | refine at_seq_exit ?_ | refine at_block_normal ?_ | refine at_block_ret ?_ | refine at_block_exit_self ?_ | refine at_block_exit_ne ?_
      | refine at_loop_ret ?_ | refine at_loop_exit ?_ | refine at_loop_goto ?_ | refine tl_guard_yes ?_ | refine tl_guard_no ?_ | refine tl_guard_yes' ?_ | refine tl_guard_no' ?_ | refine tl_guard_undef ?_
      | refine tl_guard_split (fun _ => ?_) (fun _ => ?_)
  exact ret_tmp (hG := List.Sublist.refl _) (hk := ⟨⟨_, rfl, h4⟩, rfl⟩)
set_option maxHeartbeats 4000000 in
theorem row31 (k2 k3 vx vy vz a0 a1 a2 a3 a4 a5 a6 a7 a8 : Nat) (T2 T3 : TypeId) (x y z n0 n1 n2 n3 n4 n5 n6 n7 n8 : Int) (H : Heap) (hm2 : (k2, Obj.cells ⟨[a0, a1, a2, a3, a4, a5, a6, a7, a8].map fl⟩ T2 (0, 0)) ∈ H) (hm3 : (k3, Obj.cells ⟨[.float .f64 vx, .float .f64 vy, .float .f64 vz]⟩ T3 (0, 0)) ∈ H) (gx : FI 1024 vx x) (gy : FI 1024 vy y) (gz : FI 1024 vz z) (f0 : FI 1024 a0 n0) (f1 : FI 1024 a1 n1) (f2 : FI 1024 a2 n2) (f3 : FI 1024 a3 n3) (f4 : FI 1024 a4 n4) (f5 : FI 1024 a5 n5) (f6 : FI 1024 a6 n6) (f7 : FI 1024 a7 n7) (f8 : FI 1024 a8 n8) :
    Does Tryd.prog 27 [.int .i64 3, .int .i64 1, .pointer (some ⟨k2, 0, none⟩), .pointer (some ⟨k3, 0, none⟩)] H fun w H' => (∃ p, w = .float .f64 p ∧ FI 3145728 p (n3 * x + n4 * y + n5 * z)) ∧ H' = H := by
  refine fn_enter 32 Tryd.func27 fun W => ?_
  repeat'
    first
      | refine tl_defer ?_ | refine tc_seq ?_ | refine tc_region ?_ | refine at_seq_normal ?_ | refine tl_nil ?_ | refine tl_cons ?_ | refine tl_cons_none ?_ | refine op_move ?_
      | refine op_assign ?_ | refine op_fieldAddr ?_ | refine op_load ?_ | refine op_load_agg ?_ | refine op_indexC ?_ | refine op_indexAddr1 ?_ | refine op_indexAddr ?_ | refine op_icmp ?_
      | refine op_fcmp ?_ | refine op_iarith ?_ | refine op_bcmp ?_ | refine op_unop_not ?_ | refine op_unop_neg_float ?_ | refine op_unop_neg_int ?_ | refine op_len_slice ?_ | refine op_pick_true ?_
      | refine op_pick_false ?_ | refine op_pick_true' ?_ | refine op_pick_false' ?_ | refine op_build ?_ | refine op_extract ?_ | refine op_makeInterface ?_ | refine op_typeAssert ?_ | refine op_ptr_nil ?_
      | refine op_nilCheck_ptr ?_ | refine op_nilCheck_meth ?_ | refine op_makeMeth ?_ | refine op_makeFunc ?_ | refine op_itof ?_ | refine op_itoi ?_ | refine op_ftoi ?_ | refine op_iquo ?_
      | refine op_irem ?_ | refine op_ibits ?_ | refine op_slice_isnil ?_ | refine op_slice_notnil ?_ | refine op_imax ?_ | refine op_imin ?_ | refine op_shl ?_ | refine op_shr ?_
      | (refine op_alloc ?_; intro _) | (refine op_box ?_; intro _) | (refine op_buildSlice ?_; intro _) | (refine op_farith ?_; intro _ _) | refine op_store0 ?_ | refine op_store1 ?_ | refine op_store2 ?_ | refine op_store3 ?_
      | refine op_store4 ?_ | refine op_store5 ?_ | refine tc_cond_t ?_ | refine tc_cond_f ?_ | refine tc_cond (fun _ => ?_) (fun _ => ?_) | refine tc_block ?_ | refine tc_skip ?_ | refine tc_ret ?_
      | refine tc_exit ?_ | refine tc_label ?_ | refine at_seq_ret ?_ | refine at_seq_exit ?_ | refine at_block_normal ?_ | refine at_block_ret ?_ | refine at_block_exit_self ?_ | refine at_block_exit_ne ?_
      | refine at_loop_ret ?_ | refine at_loop_exit ?_ | refine at_loop_goto ?_ | refine tl_guard_yes ?_ | refine tl_guard_no ?_ | refine tl_guard_yes' ?_ | refine tl_guard_no' ?_ | refine tl_guard_undef ?_
      | refine tl_guard_split (fun _ => ?_) (fun _ => ?_)
  apply fun hole0 hole1 hole2 hole3 hole4 hole5 hole6 hole7 hole8 hole9 hole10 hole11 hole12 hole13 hole14 hole15 hole16 hole17 hole18 hole19 hE hD hml hdl hpr prem fin => tc_drawnD 25 [PhiD.is hole0, PhiD.is hole1, PhiD.is hole2, PhiD.is hole3, PhiD.is hole4, PhiD.gen (some' (fun w ex => (∃ r, FI 1048576 r (n3 * x) ∧ w = .float .f64 r) ∧ ex = [])), PhiD.is hole5, PhiD.is hole6, PhiD.is hole7, PhiD.is hole8, PhiD.is hole9, PhiD.is hole10, PhiD.is hole11, PhiD.gen (some' (fun w ex => (∃ r, FI 1048576 r (n4 * y) ∧ w = .float .f64 r) ∧ ex = [])), PhiD.gen (some' (fun w ex => (∃ r, FI 2097152 r (n3 * x + n4 * y) ∧ w = .float .f64 r) ∧ ex = [])), PhiD.is hole12, PhiD.is hole13, PhiD.is hole14, PhiD.is hole15, PhiD.is hole16, PhiD.is hole17, PhiD.is hole18, PhiD.is hole19, PhiD.gen (some' (fun w ex => (∃ r, FI 1048576 r (n5 * z) ∧ w = .float .f64 r) ∧ ex = [])), PhiD.gen (some' (fun w ex => (∃ r, FI 3145728 r (n3 * x + n4 * y + n5 * z) ∧ w = .float .f64 r) ∧ ex = []))]
    [some 7, some 8, some 9, some 10, some 11, some 12, some 13, some 14, some 15, some 16, some 17, some 18, some 19, some 20, some 21, some 22, some 23, some 24, some 25, some 26, some 27, some 28, some 29, some 30, some 31, some 6] [[], [0], [1], [], [3], [2, 4], [], [], [6, 7], [8], [9], [], [11], [10, 12], [5, 13], [], [], [16], [15, 17], [18], [19], [], [21], [20, 22], [14, 23]] mixed ⟨(some_mono _), (some_mono _), (some_mono _), (some_mono _), (some_mono _), trivial⟩ prem fin hE hD rfl hml hdl hpr
  rotate_left 21
  · first | kernel_rfl | exact rfl
  · first | kernel_rfl | exact rfl
  · exact Nat.le_of_ble_eq_true rfl
  · first | kernel_rfl | exact rfl
  · first | kernel_rfl | exact rfl
  refine ⟨fun G hG => ?_, fun G hG => ?_, fun G hG => ?_, fun G hG => ?_, fun G hG => ?_, fun G hG => ?_, fun G hG => ?_, fun G hG => ?_, fun G hG => ?_, fun G hG => ?_, fun G hG => ?_, fun G hG => ?_, fun G hG => ?_, fun G hG => ?_, fun G hG => ?_, fun G hG => ?_, fun G hG => ?_, fun G hG => ?_, fun G hG => ?_, fun G hG => ?_, fun G hG => ?_, fun G hG => ?_, fun G hG => ?_, fun G hG => ?_, fun G hG => ?_, trivial⟩
  · simp only [withD, nthD, Step2, nthDst, putO, postD]
    (refine op_move ?_; exact ⟨[], rfl, rfl, rfl⟩)
  · simp only [withD, nthD, Step2, nthDst, putO, postD]
    (refine op_indexArr ?_ (hi := by decide); exact ⟨[], rfl, rfl, rfl⟩)
  · simp only [withD, nthD, Step2, nthDst, putO, postD]
    (refine op_load (v := fl a3) ?_ (hm := hG _ hm2) (hv := rfl); exact ⟨[], rfl, rfl, rfl⟩)
  · simp only [withD, nthD, Step2, nthDst, putO, postD]
    (refine op_fieldAddr ?_; exact ⟨[], rfl, rfl, rfl⟩)
  · simp only [withD, nthD, Step2, nthDst, putO, postD]
    (refine op_load (v := .float .f64 vx) ?_ (hm := hG _ hm3) (hv := rfl); exact ⟨[], rfl, rfl, rfl⟩)
  · simp only [withD, nthD, Step2, nthDst, putO, postD]
    (refine op_farith ?_; intro _ h; exact ⟨[], rfl, ⟨_, FI.mul f3 gx (by decide) h, rfl⟩, rfl⟩)
  · simp only [withD, nthD, Step2, nthDst, putO, postD]
    (refine op_move ?_; exact ⟨[], rfl, rfl, rfl⟩)
  · simp only [withD, nthD, Step2, nthDst, putO, postD]
    (refine op_move ?_; exact ⟨[], rfl, rfl, rfl⟩)
  · simp only [withD, nthD, Step2, nthDst, putO, postD]
    (refine op_iarith ?_; exact ⟨[], rfl, rfl, rfl⟩)
  · simp only [withD, nthD, Step2, nthDst, putO, postD]
    (refine op_indexArr ?_ (hi := by decide); exact ⟨[], rfl, rfl, rfl⟩)
  · simp only [withD, nthD, Step2, nthDst, putO, postD]
    (refine op_load (v := fl a4) ?_ (hm := hG _ hm2) (hv := rfl); exact ⟨[], rfl, rfl, rfl⟩)
  · simp only [withD, nthD, Step2, nthDst, putO, postD]
    (refine op_fieldAddr ?_; exact ⟨[], rfl, rfl, rfl⟩)
  · simp only [withD, nthD, Step2, nthDst, putO, postD]
    (refine op_load (v := .float .f64 vy) ?_ (hm := hG _ hm3) (hv := rfl); exact ⟨[], rfl, rfl, rfl⟩)
  · simp only [withD, nthD, Step2, nthDst, putO, postD]
    (refine op_farith ?_; intro _ h; exact ⟨[], rfl, ⟨_, FI.mul f4 gy (by decide) h, rfl⟩, rfl⟩)
  · simp only [withD, nthD, Step2, nthDst, putO, postD]
    rintro _ _ ⟨⟨b0, h0, rfl⟩, rfl⟩ - _ _ ⟨⟨b1, h1, rfl⟩, rfl⟩ -
    (refine op_farith ?_; intro _ h; exact ⟨[], rfl, ⟨_, FI.add h0 h1 (by decide) h, rfl⟩, rfl⟩)
  · simp only [withD, nthD, Step2, nthDst, putO, postD]
    (refine op_move ?_; exact ⟨[], rfl, rfl, rfl⟩)
  · simp only [withD, nthD, Step2, nthDst, putO, postD]
    (refine op_move ?_; exact ⟨[], rfl, rfl, rfl⟩)
  · simp only [withD, nthD, Step2, nthDst, putO, postD]
    (refine op_iarith ?_; exact ⟨[], rfl, rfl, rfl⟩)
  · simp only [withD, nthD, Step2, nthDst, putO, postD]
    (refine op_iarith ?_; exact ⟨[], rfl, rfl, rfl⟩)
  · simp only [withD, nthD, Step2, nthDst, putO, postD]
    (refine op_indexArr ?_ (hi := by decide); exact ⟨[], rfl, rfl, rfl⟩)
  · simp only [withD, nthD, Step2, nthDst, putO, postD]
    (refine op_load (v := fl a5) ?_ (hm := hG _ hm2) (hv := rfl); exact ⟨[], rfl, rfl, rfl⟩)
  · simp only [withD, nthD, Step2, nthDst, putO, postD]
    (refine op_fieldAddr ?_; exact ⟨[], rfl, rfl, rfl⟩)
  · simp only [withD, nthD, Step2, nthDst, putO, postD]
    (refine op_load (v := .float .f64 vz) ?_ (hm := hG _ hm3) (hv := rfl); exact ⟨[], rfl, rfl, rfl⟩)
  · simp only [withD, nthD, Step2, nthDst, putO, postD]
    (refine op_farith ?_; intro _ h; exact ⟨[], rfl, ⟨_, FI.mul f5 gz (by decide) h, rfl⟩, rfl⟩)
  · simp only [withD, nthD, Step2, nthDst, putO, postD]
    rintro _ _ ⟨⟨b2, h2, rfl⟩, rfl⟩ - _ _ ⟨⟨b3, h3, rfl⟩, rfl⟩ -
    (refine op_farith ?_; intro _ h; exact ⟨[], rfl, ⟨_, FI.add h2 h3 (by decide) h, rfl⟩, rfl⟩)
  simp only [FinalsD, nthDst, putO, List.drop_succ_cons, List.drop_zero]
  rintro _ _ _ _ _ _ _ _ _ _ ⟨⟨⟨b4, h4, rfl⟩, rfl⟩, ⟨⟨b3, h3, rfl⟩, rfl⟩, ⟨⟨b2, h2, rfl⟩, rfl⟩, ⟨⟨b1, h1, rfl⟩, rfl⟩, ⟨⟨b0, h0, rfl⟩, rfl⟩, -⟩
  simp only [List.nil_append]
  repeat'
    first
      | refine tl_defer ?_ | refine tc_seq ?_ | refine tc_region ?_ | refine at_seq_normal ?_ | refine tl_nil ?_ | refine tl_cons ?_ | refine tl_cons_none ?_ | refine op_move ?_
      | refine op_assign ?_ | refine op_fieldAddr ?_ | refine op_load ?_ | refine op_load_agg ?_ | refine op_indexC ?_ | refine op_indexAddr1 ?_ | refine op_indexAddr ?_ | refine op_icmp ?_
      | refine op_fcmp ?_ | refine op_iarith ?_ | refine op_bcmp ?_ | refine op_unop_not ?_ | refine op_unop_neg_float ?_ | refine op_unop_neg_int ?_ | refine op_len_slice ?_ | refine op_pick_true ?_
      | refine op_pick_false ?_ | refine op_pick_true' ?_ | refine op_pick_false' ?_ | refine op_build ?_ | refine op_extract ?_ | refine op_makeInterface ?_ | refine op_typeAssert ?_ | refine op_ptr_nil ?_
      | refine op_nilCheck_ptr ?_ | refine op_nilCheck_meth ?_ | refine op_makeMeth ?_ | refine op_makeFunc ?_ | refine op_itof ?_ | refine op_itoi ?_ | refine op_ftoi ?_ | refine op_iquo ?_
      | refine op_irem ?_ | refine op_ibits ?_ | refine op_slice_isnil ?_ | refine op_slice_notnil ?_ | refine op_imax ?_ | refine op_imin ?_ | refine op_shl ?_ | refine op_shr ?_
      | (refine op_alloc ?_; intro _) | (refine op_box ?_; intro _) | (refine op_buildSlice ?_; intro _) | (refine op_farith ?_; intro _ _) | refine op_store0 ?_ | refine op_store1 ?_ | refine op_store2 ?_ | refine op_store3 ?_
      | refine op_store4 ?_ | refine op_store5 ?_ | refine tc_cond_t ?_ | refine tc_cond_f ?_ | refine tc_cond (fun _ => ?_) (fun _ => ?_) | refine tc_block ?_ | refine tc_skip ?_ | refine tc_ret ?_
      | refine tc_exit ?_ | refine tc_label ?_ | refine at_seq_ret ?_ | refine at_seq_exit ?_ | refine at_block_normal ?_ | refine at_block_ret ?_ | refine at_block_exit_self ?_ | refine at_block_exit_ne ?_
      | refine at_loop_ret ?_ | refine at_loop_exit ?_ | refine at_loop_goto ?_ | refine tl_guard_yes ?_ | refine tl_guard_no ?_ | refine tl_guard_yes' ?_ | refine tl_guard_no' ?_ | refine tl_guard_undef ?_
      | refine tl_guard_split (fun _ => ?_) (fun _ => ?_)
  exact ret_tmp (hG := List.Sublist.refl _) (hk := ⟨⟨_, rfl, h4⟩, rfl⟩)
set_option maxHeartbeats 4000000 in
theorem row61 (k2 k3 vx vy vz a0 a1 a2 a3 a4 a5 a6 a7 a8 : Nat) (T2 T3 : TypeId) (x y z n0 n1 n2 n3 n4 n5 n6 n7 n8 : Int) (H : Heap) (hm2 : (k2, Obj.cells ⟨[a0, a1, a2, a3, a4, a5, a6, a7, a8].map fl⟩ T2 (0, 0)) ∈ H) (hm3 : (k3, Obj.cells ⟨[.float .f64 vx, .float .f64 vy, .float .f64 vz]⟩ T3 (0, 0)) ∈ H) (gx : FI 1024 vx x) (gy : FI 1024 vy y) (gz : FI 1024 vz z) (f0 : FI 1024 a0 n0) (f1 : FI 1024 a1 n1) (f2 : FI 1024 a2 n2) (f3 : FI 1024 a3 n3) (f4 : FI 1024 a4 n4) (f5 : FI 1024 a5 n5) (f6 : FI 1024 a6 n6) (f7 : FI 1024 a7 n7) (f8 : FI 1024 a8 n8) :
    Does Tryd.prog 27 [.int .i64 6, .int .i64 1, .pointer (some ⟨k2, 0, none⟩), .pointer (some ⟨k3, 0, none⟩)] H fun w H' => (∃ p, w = .float .f64 p ∧ FI 3145728 p (n6 * x + n7 * y + n8 * z)) ∧ H' = H := by
  refine fn_enter 32 Tryd.func27 fun W => ?_
  repeat'
    first
      | refine tl_defer ?_ | refine tc_seq ?_ | refine tc_region ?_ | refine at_seq_normal ?_ | refine tl_nil ?_ | refine tl_cons ?_ | refine tl_cons_none ?_ | refine op_move ?_
      | refine op_assign ?_ | refine op_fieldAddr ?_ | refine op_load ?_ | refine op_load_agg ?_ | refine op_indexC ?_ | refine op_indexAddr1 ?_ | refine op_indexAddr ?_ | refine op_icmp ?_
      | refine op_fcmp ?_ | refine op_iarith ?_ | refine op_bcmp ?_ | refine op_unop_not ?_ | refine op_unop_neg_float ?_ | refine op_unop_neg_int ?_ | refine op_len_slice ?_ | refine op_pick_true ?_
      | refine op_pick_false ?_ | refine op_pick_true' ?_ | refine op_pick_false' ?_ | refine op_build ?_ | refine op_extract ?_ | refine op_makeInterface ?_ | refine op_typeAssert ?_ | refine op_ptr_nil ?_
      | refine op_nilCheck_ptr ?_ | refine op_nilCheck_meth ?_ | refine op_makeMeth ?_ | refine op_makeFunc ?_ | refine op_itof ?_ | refine op_itoi ?_ | refine op_ftoi ?_ | refine op_iquo ?_
      | refine op_irem ?_ | refine op_ibits ?_ | refine op_slice_isnil ?_ | refine op_slice_notnil ?_ | refine op_imax ?_ | refine op_imin ?_ | refine op_shl ?_ | refine op_shr ?_
      | (refine op_alloc ?_; intro _) | (refine op_box ?_; intro _) | (refine op_buildSlice ?_; intro _) | (refine op_farith ?_; intro _ _) | refine op_store0 ?_ | refine op_store1 ?_ | refine op_store2 ?_ | refine op_store3 ?_
      | refine op_store4 ?_ | refine op_store5 ?_ | refine tc_cond_t ?_ | refine tc_cond_f ?_ | refine tc_cond (fun _ => ?_) (fun _ => ?_) | refine tc_block ?_ | refine tc_skip ?_ | refine tc_ret ?_
      | refine tc_exit ?_ | refine tc_label ?_ | refine at_seq_ret ?_ | refine at_seq_exit ?_ | refine at_block_normal ?_ | refine at_block_ret ?_ | refine at_block_exit_self ?_ | refine at_block_exit_ne ?_
      | refine at_loop_ret ?_ | refine at_loop_exit ?_ | refine at_loop_goto ?_ | refine tl_guard_yes ?_ | refine tl_guard_no ?_ | refine tl_guard_yes' ?_ | refine tl_guard_no' ?_ | refine tl_guard_undef ?_
      | refine tl_guard_split (fun _ => ?_) (fun _ => ?_)
  apply fun hole0 hole1 hole2 hole3 hole4 hole5 hole6 hole7 hole8 hole9 hole10 hole11 hole12 hole13 hole14 hole15 hole16 hole17 hole18 hole19 hE hD hml hdl hpr prem fin => tc_drawnD 25 [PhiD.is hole0, PhiD.is hole1, PhiD.is hole2, PhiD.is hole3, PhiD.is hole4, PhiD.gen (some' (fun w ex => (∃ r, FI 1048576 r (n6 * x) ∧ w = .float .f64 r) ∧ ex = [])), PhiD.is hole5, PhiD.is hole6, PhiD.is hole7, PhiD.is hole8, PhiD.is hole9, PhiD.is hole10, PhiD.is hole11, PhiD.gen (some' (fun w ex => (∃ r, FI 1048576 r (n7 * y) ∧ w = .float .f64 r) ∧ ex = [])), PhiD.gen (some' (fun w ex => (∃ r, FI 2097152 r (n6 * x + n7 * y) ∧ w = .float .f64 r) ∧ ex = [])), PhiD.is hole12, PhiD.is hole13, PhiD.is hole14, PhiD.is hole15, PhiD.is hole16, PhiD.is hole17, PhiD.is hole18, PhiD.is hole19, PhiD.gen (some' (fun w ex => (∃ r, FI 1048576 r (n8 * z) ∧ w = .float .f64 r) ∧ ex = [])), PhiD.gen (some' (fun w ex => (∃ r, FI 3145728 r (n6 * x + n7 * y + n8 * z) ∧ w = .float .f64 r) ∧ ex = []))]
    [some 7, some 8, some 9, some 10, some 11, some 12, some 13, some 14, some 15, some 16, some 17, some 18, some 19, some 20, some 21, some 22, some 23, some 24, some 25, some 26, some 27, some 28, some 29, some 30, some 31, some 6] [[], [0], [1], [], [3], [2, 4], [], [], [6, 7], [8], [9], [], [11], [10, 12], [5, 13], [], [], [16], [15, 17], [18], [19], [], [21], [20, 22], [14, 23]] mixed ⟨(some_mono _), (some_mono _), (some_mono _), (some_mono _), (some_mono _), trivial⟩ prem fin hE hD rfl hml hdl hpr
  rotate_left 21
  · first | kernel_rfl | exact rfl
  · first | kernel_rfl | exact rfl
  · exact Nat.le_of_ble_eq_true rfl
  · first | kernel_rfl | exact rfl
  · first | kernel_rfl | exact rfl
  refine ⟨fun G hG => ?_, fun G hG => ?_, fun G hG => ?_, fun G hG => ?_, fun G hG => ?_, fun G hG => ?_, fun G hG => ?_, fun G hG => ?_, fun G hG => ?_, fun G hG => ?_, fun G hG => ?_, fun G hG => ?_, fun G hG => ?_, fun G hG => ?_, fun G hG => ?_, fun G hG => ?_, fun G hG => ?_, fun G hG => ?_, fun G hG => ?_, fun G hG => ?_, fun G hG => ?_, fun G hG => ?_, fun G hG => ?_, fun G hG => ?_, fun G hG => ?_, trivial⟩
  · simp only [withD, nthD, Step2, nthDst, putO, postD]
    (refine op_move ?_; exact ⟨[], rfl, rfl, rfl⟩)
  · simp only [withD, nthD, Step2, nthDst, putO, postD]
    (refine op_indexArr ?_ (hi := by decide); exact ⟨[], rfl, rfl, rfl⟩)
  · simp only [withD, nthD, Step2, nthDst, putO, postD]
    (refine op_load (v := fl a6) ?_ (hm := hG _ hm2) (hv := rfl); exact ⟨[], rfl, rfl, rfl⟩)
  · simp only [withD, nthD, Step2, nthDst, putO, postD]
    (refine op_fieldAddr ?_; exact ⟨[], rfl, rfl, rfl⟩)
  · simp only [withD, nthD, Step2, nthDst, putO, postD]
    (refine op_load (v := .float .f64 vx) ?_ (hm := hG _ hm3) (hv := rfl); exact ⟨[], rfl, rfl, rfl⟩)
  · simp only [withD, nthD, Step2, nthDst, putO, postD]
    (refine op_farith ?_; intro _ h; exact ⟨[], rfl, ⟨_, FI.mul f6 gx (by decide) h, rfl⟩, rfl⟩)
  · simp only [withD, nthD, Step2, nthDst, putO, postD]
    (refine op_move ?_; exact ⟨[], rfl, rfl, rfl⟩)
  · simp only [withD, nthD, Step2, nthDst, putO, postD]
    (refine op_move ?_; exact ⟨[], rfl, rfl, rfl⟩)
  · simp only [withD, nthD, Step2, nthDst, putO, postD]
    (refine op_iarith ?_; exact ⟨[], rfl, rfl, rfl⟩)
  · simp only [withD, nthD, Step2, nthDst, putO, postD]
    (refine op_indexArr ?_ (hi := by decide); exact ⟨[], rfl, rfl, rfl⟩)
  · simp only [withD, nthD, Step2, nthDst, putO, postD]
    (refine op_load (v := fl a7) ?_ (hm := hG _ hm2) (hv := rfl); exact ⟨[], rfl, rfl, rfl⟩)
  · simp only [withD, nthD, Step2, nthDst, putO, postD]
    (refine op_fieldAddr ?_; exact ⟨[], rfl, rfl, rfl⟩)
  · simp only [withD, nthD, Step2, nthDst, putO, postD]
    (refine op_load (v := .float .f64 vy) ?_ (hm := hG _ hm3) (hv := rfl); exact ⟨[], rfl, rfl, rfl⟩)
  · simp only [withD, nthD, Step2, nthDst, putO, postD]
    (refine op_farith ?_; intro _ h; exact ⟨[], rfl, ⟨_, FI.mul f7 gy (by decide) h, rfl⟩, rfl⟩)
  · simp only [withD, nthD, Step2, nthDst, putO, postD]
    rintro _ _ ⟨⟨b0, h0, rfl⟩, rfl⟩ - _ _ ⟨⟨b1, h1, rfl⟩, rfl⟩ -
    (refine op_farith ?_; intro _ h; exact ⟨[], rfl, ⟨_, FI.add h0 h1 (by decide) h, rfl⟩, rfl⟩)
  · simp only [withD, nthD, Step2, nthDst, putO, postD]
    (refine op_move ?_; exact ⟨[], rfl, rfl, rfl⟩)
  · simp only [withD, nthD, Step2, nthDst, putO, postD]
    (refine op_move ?_; exact ⟨[], rfl, rfl, rfl⟩)
  · simp only [withD, nthD, Step2, nthDst, putO, postD]
    (refine op_iarith ?_; exact ⟨[], rfl, rfl, rfl⟩)
  · simp only [withD, nthD, Step2, nthDst, putO, postD]
    (refine op_iarith ?_; exact ⟨[], rfl, rfl, rfl⟩)
  · simp only [withD, nthD, Step2, nthDst, putO, postD]
    (refine op_indexArr ?_ (hi := by decide); exact ⟨[], rfl, rfl, rfl⟩)
  · simp only [withD, nthD, Step2, nthDst, putO, postD]
    (refine op_load (v := fl a8) ?_ (hm := hG _ hm2) (hv := rfl); exact ⟨[], rfl, rfl, rfl⟩)
  · simp only [withD, nthD, Step2, nthDst, putO, postD]
    (refine op_fieldAddr ?_; exact ⟨[], rfl, rfl, rfl⟩)
  · simp only [withD, nthD, Step2, nthDst, putO, postD]
    (refine op_load (v := .float .f64 vz) ?_ (hm := hG _ hm3) (hv := rfl); exact ⟨[], rfl, rfl, rfl⟩)
  · simp only [withD, nthD, Step2, nthDst, putO, postD]
    (refine op_farith ?_; intro _ h; exact ⟨[], rfl, ⟨_, FI.mul f8 gz (by decide) h, rfl⟩, rfl⟩)
  · simp only [withD, nthD, Step2, nthDst, putO, postD]
    rintro _ _ ⟨⟨b2, h2, rfl⟩, rfl⟩ - _ _ ⟨⟨b3, h3, rfl⟩, rfl⟩ -
    (refine op_farith ?_; intro _ h; exact ⟨[], rfl, ⟨_, FI.add h2 h3 (by decide) h, rfl⟩, rfl⟩)
  simp only [FinalsD, nthDst, putO, List.drop_succ_cons, List.drop_zero]
  rintro _ _ _ _ _ _ _ _ _ _ ⟨⟨⟨b4, h4, rfl⟩, rfl⟩, ⟨⟨b3, h3, rfl⟩, rfl⟩, ⟨⟨b2, h2, rfl⟩, rfl⟩, ⟨⟨b1, h1, rfl⟩, rfl⟩, ⟨⟨b0, h0, rfl⟩, rfl⟩, -⟩
  simp only [List.nil_append]
  repeat'
    first
      | refine tl_defer ?_ | refine tc_seq ?_ | refine tc_region ?_ | refine at_seq_normal ?_ | refine tl_nil ?_ | refine tl_cons ?_ | refine tl_cons_none ?_ | refine op_move ?_
      | refine op_assign ?_ | refine op_fieldAddr ?_ | refine op_load ?_ | refine op_load_agg ?_ | refine op_indexC ?_ | refine op_indexAddr1 ?_ | refine op_indexAddr ?_ | refine op_icmp ?_
      | refine op_fcmp ?_ | refine op_iarith ?_ | refine op_bcmp ?_ | refine op_unop_not ?_ | refine op_unop_neg_float ?_ | refine op_unop_neg_int ?_ | refine op_len_slice ?_ | refine op_pick_true ?_
      | refine op_pick_false ?_ | refine op_pick_true' ?_ | refine op_pick_false' ?_ | refine op_build ?_ | refine op_extract ?_ | refine op_makeInterface ?_ | refine op_typeAssert ?_ | refine op_ptr_nil ?_
      | refine op_nilCheck_ptr ?_ | refine op_nilCheck_meth ?_ | refine op_makeMeth ?_ | refine op_makeFunc ?_ | refine op_itof ?_ | refine op_itoi ?_ | refine op_ftoi ?_ | refine op_iquo ?_
      | refine op_irem ?_ | refine op_ibits ?_ | refine op_slice_isnil ?_ | refine op_slice_notnil ?_ | refine op_imax ?_ | refine op_imin ?_ | refine op_shl ?_ | refine op_shr ?_
      | (refine op_alloc ?_; intro _) | (refine op_box ?_; intro _) | (refine op_buildSlice ?_; intro _) | (refine op_farith ?_; intro _ _) | refine op_store0 ?_ | refine op_store1 ?_ | refine op_store2 ?_ | refine op_store3 ?_
      | refine op_store4 ?_ | refine op_store5 ?_ | refine tc_cond_t ?_ | refine tc_cond_f ?_ | refine tc_cond (fun _ => ?_) (fun _ => ?_) | refine tc_block ?_ | refine tc_skip ?_ | refine tc_ret ?_
      | refine tc_exit ?_ | refine tc_label ?_ | refine at_seq_ret ?_ | refine at_seq_exit ?_ | refine at_block_normal ?_ | refine at_block_ret ?_ | refine at_block_exit_self ?_ | refine at_block_exit_ne ?_
      | refine at_loop_ret ?_ | refine at_loop_exit ?_ | refine at_loop_goto ?_ | refine tl_guard_yes ?_ | refine tl_guard_no ?_ | refine tl_guard_yes' ?_ | refine tl_guard_no' ?_ | refine tl_guard_undef ?_
      | refine tl_guard_split (fun _ => ?_) (fun _ => ?_)
  exact ret_tmp (hG := List.Sublist.refl _) (hk := ⟨⟨_, rfl, h4⟩, rfl⟩)
set_option maxHeartbeats 4000000 in
theorem row03 (k2 k3 vx vy vz a0 a1 a2 a3 a4 a5 a6 a7 a8 : Nat) (T2 T3 : TypeId) (x y z n0 n1 n2 n3 n4 n5 n6 n7 n8 : Int) (H : Heap) (hm2 : (k2, Obj.cells ⟨[a0, a1, a2, a3, a4, a5, a6, a7, a8].map fl⟩ T2 (0, 0)) ∈ H) (hm3 : (k3, Obj.cells ⟨[.float .f64 vx, .float .f64 vy, .float .f64 vz]⟩ T3 (0, 0)) ∈ H) (gx : FI 1024 vx x) (gy : FI 1024 vy y) (gz : FI 1024 vz z) (f0 : FI 1024 a0 n0) (f1 : FI 1024 a1 n1) (f2 : FI 1024 a2 n2) (f3 : FI 1024 a3 n3) (f4 : FI 1024 a4 n4) (f5 : FI 1024 a5 n5) (f6 : FI 1024 a6 n6) (f7 : FI 1024 a7 n7) (f8 : FI 1024 a8 n8) :
    Does Tryd.prog 27 [.int .i64 0, .int .i64 3, .pointer (some ⟨k2, 0, none⟩), .pointer (some ⟨k3, 0, none⟩)] H fun w H' => (∃ p, w = .float .f64 p ∧ FI 3145728 p (n0 * x + n3 * y + n6 * z)) ∧ H' = H := by
  refine fn_enter 32 Tryd.func27 fun W => ?_
  repeat'
    first
      | refine tl_defer ?_ | refine tc_seq ?_ | refine tc_region ?_ | refine at_seq_normal ?_ | refine tl_nil ?_ | refine tl_cons ?_ | refine tl_cons_none ?_ | refine op_move ?_
      | refine op_assign ?_ | refine op_fieldAddr ?_ | refine op_load ?_ | refine op_load_agg ?_ | refine op_indexC ?_ | refine op_indexAddr1 ?_ | refine op_indexAddr ?_ | refine op_icmp ?_
      | refine op_fcmp ?_ | refine op_iarith ?_ | refine op_bcmp ?_ | refine op_unop_not ?_ | refine op_unop_neg_float ?_ | refine op_unop_neg_int ?_ | refine op_len_slice ?_ | refine op_pick_true ?_
      | refine op_pick_false ?_ | refine op_pick_true' ?_ | refine op_pick_false' ?_ | refine op_build ?_ | refine op_extract ?_ | refine op_makeInterface ?_ | refine op_typeAssert ?_ | refine op_ptr_nil ?_
      | refine op_nilCheck_ptr ?_ | refine op_nilCheck_meth ?_ | refine op_makeMeth ?_ | refine op_makeFunc ?_ | refine op_itof ?_ | refine op_itoi ?_ | refine op_ftoi ?_ | refine op_iquo ?_
      | refine op_irem ?_ | refine op_ibits ?_ | refine op_slice_isnil ?_ | refine op_slice_notnil ?_ | refine op_imax ?_ | refine op_imin ?_ | refine op_shl ?_ | refine op_shr ?_
      | (refine op_alloc ?_; intro _) | (refine op_box ?_; intro _) | (refine op_buildSlice ?_; intro _) | (refine op_farith ?_; intro _ _) | refine op_store0 ?_ | refine op_store1 ?_ | refine op_store2 ?_ | refine op_store3 ?_
      | refine op_store4 ?_ | refine op_store5 ?_ | refine tc_cond_t ?_ | refine tc_cond_f ?_ | refine tc_cond (fun _ => ?_) (fun _ => ?_) | refine tc_block ?_ | refine tc_skip ?_ | refine tc_ret ?_
      | refine tc_exit ?_ | refine tc_label ?_ | refine at_seq_ret ?_ | refine at_seq_exit ?_ | refine at_block_normal ?_ | refine at_block_ret ?_ | refine at_block_exit_self ?_ | refine at_block_exit_ne ?_
      | refine at_loop_ret ?_ | refine at_loop_exit ?_ | refine at_loop_goto ?_ | refine tl_guard_yes ?_ | refine tl_guard_no ?_ | refine tl_guard_yes' ?_ | refine tl_guard_no' ?_ | refine tl_guard_undef ?_
      | refine tl_guard_split (fun _ => ?_) (fun _ => ?_)
  apply fun hole0 hole1 hole2 hole3 hole4 hole5 hole6 hole7 hole8 hole9 hole10 hole11 hole12 hole13 hole14 hole15 hole16 hole17 hole18 hole19 hE hD hml hdl hpr prem fin => tc_drawnD 25 [PhiD.is hole0, PhiD.is hole1, PhiD.is hole2, PhiD.is hole3, PhiD.is hole4, PhiD.gen (some' (fun w ex => (∃ r, FI 1048576 r (n0 * x) ∧ w = .float .f64 r) ∧ ex = [])), PhiD.is hole5, PhiD.is hole6, PhiD.is hole7, PhiD.is hole8, PhiD.is hole9, PhiD.is hole10, PhiD.is hole11, PhiD.gen (some' (fun w ex => (∃ r, FI 1048576 r (n3 * y) ∧ w = .float .f64 r) ∧ ex = [])), PhiD.gen (some' (fun w ex => (∃ r, FI 2097152 r (n0 * x + n3 * y) ∧ w = .float .f64 r) ∧ ex = [])), PhiD.is hole12, PhiD.is hole13, PhiD.is hole14, PhiD.is hole15, PhiD.is hole16, PhiD.is hole17, PhiD.is hole18, PhiD.is hole19, PhiD.gen (some' (fun w ex => (∃ r, FI 1048576 r (n6 * z) ∧ w = .float .f64 r) ∧ ex = [])), PhiD.gen (some' (fun w ex => (∃ r, FI 3145728 r (n0 * x + n3 * y + n6 * z) ∧ w = .float .f64 r) ∧ ex = []))]
    [some 7, some 8, some 9, some 10, some 11, some 12, some 13, some 14, some 15, some 16, some 17, some 18, some 19, some 20, some 21, some 22, some 23, some 24, some 25, some 26, some 27, some 28, some 29, some 30, some 31, some 6] [[], [0], [1], [], [3], [2, 4], [], [], [6, 7], [8], [9], [], [11], [10, 12], [5, 13], [], [], [16], [15, 17], [18], [19], [], [21], [20, 22], [14, 23]] mixed ⟨(some_mono _), (some_mono _), (some_mono _), (some_mono _), (some_mono _), trivial⟩ prem fin hE hD rfl hml hdl hpr
  rotate_left 21
  · first | kernel_rfl | exact rfl
  · first | kernel_rfl | exact rfl
  · exact Nat.le_of_ble_eq_true rfl
  · first | kernel_rfl | exact rfl
  · first | kernel_rfl | exact rfl
  refine ⟨fun G hG => ?_, fun G hG => ?_, fun G hG => ?_, fun G hG => ?_, fun G hG => ?_, fun G hG => ?_, fun G hG => ?_, fun G hG => ?_, fun G hG => ?_, fun G hG => ?_, fun G hG => ?_, fun G hG => ?_, fun G hG => ?_, fun G hG => ?_, fun G hG => ?_, fun G hG => ?_, fun G hG => ?_, fun G hG => ?_, fun G hG => ?_, fun G hG => ?_, fun G hG => ?_, fun G hG => ?_, fun G hG => ?_, fun G hG => ?_, fun G hG => ?_, trivial⟩
  · simp only [withD, nthD, Step2, nthDst, putO, postD]
    (refine op_move ?_; exact ⟨[], rfl, rfl, rfl⟩)
  · simp only [withD, nthD, Step2, nthDst, putO, postD]
    (refine op_indexArr ?_ (hi := by decide); exact ⟨[], rfl, rfl, rfl⟩)
  · simp only [withD, nthD, Step2, nthDst, putO, postD]
    (refine op_load (v := fl a0) ?_ (hm := hG _ hm2) (hv := rfl); exact ⟨[], rfl, rfl, rfl⟩)
  · simp only [withD, nthD, Step2, nthDst, putO, postD]
    (refine op_fieldAddr ?_; exact ⟨[], rfl, rfl, rfl⟩)
  · simp only [withD, nthD, Step2, nthDst, putO, postD]
    (refine op_load (v := .float .f64 vx) ?_ (hm := hG _ hm3) (hv := rfl); exact ⟨[], rfl, rfl, rfl⟩)
  · simp only [withD, nthD, Step2, nthDst, putO, postD]
    (refine op_farith ?_; intro _ h; exact ⟨[], rfl, ⟨_, FI.mul f0 gx (by decide) h, rfl⟩, rfl⟩)
  · simp only [withD, nthD, Step2, nthDst, putO, postD]
    (refine op_move ?_; exact ⟨[], rfl, rfl, rfl⟩)
  · simp only [withD, nthD, Step2, nthDst, putO, postD]
    (refine op_move ?_; exact ⟨[], rfl, rfl, rfl⟩)
  · simp only [withD, nthD, Step2, nthDst, putO, postD]
    (refine op_iarith ?_; exact ⟨[], rfl, rfl, rfl⟩)
  · simp only [withD, nthD, Step2, nthDst, putO, postD]
    (refine op_indexArr ?_ (hi := by decide); exact ⟨[], rfl, rfl, rfl⟩)
  · simp only [withD, nthD, Step2, nthDst, putO, postD]
    (refine op_load (v := fl a3) ?_ (hm := hG _ hm2) (hv := rfl); exact ⟨[], rfl, rfl, rfl⟩)
  · simp only [withD, nthD, Step2, nthDst, putO, postD]
    (refine op_fieldAddr ?_; exact ⟨[], rfl, rfl, rfl⟩)
  · simp only [withD, nthD, Step2, nthDst, putO, postD]
    (refine op_load (v := .float .f64 vy) ?_ (hm := hG _ hm3) (hv := rfl); exact ⟨[], rfl, rfl, rfl⟩)
  · simp only [withD, nthD, Step2, nthDst, putO, postD]
    (refine op_farith ?_; intro _ h; exact ⟨[], rfl, ⟨_, FI.mul f3 gy (by decide) h, rfl⟩, rfl⟩)
  · simp only [withD, nthD, Step2, nthDst, putO, postD]
    rintro _ _ ⟨⟨b0, h0, rfl⟩, rfl⟩ - _ _ ⟨⟨b1, h1, rfl⟩, rfl⟩ -
    (refine op_farith ?_; intro _ h; exact ⟨[], rfl, ⟨_, FI.add h0 h1 (by decide) h, rfl⟩, rfl⟩)
  · simp only [withD, nthD, Step2, nthDst, putO, postD]
    (refine op_move ?_; exact ⟨[], rfl, rfl, rfl⟩)
  · simp only [withD, nthD, Step2, nthDst, putO, postD]
    (refine op_move ?_; exact ⟨[], rfl, rfl, rfl⟩)
  · simp only [withD, nthD, Step2, nthDst, putO, postD]
    (refine op_iarith ?_; exact ⟨[], rfl, rfl, rfl⟩)
  · simp only [withD, nthD, Step2, nthDst, putO, postD]
    (refine op_iarith ?_; exact ⟨[], rfl, rfl, rfl⟩)
  · simp only [withD, nthD, Step2, nthDst, putO, postD]
    (refine op_indexArr ?_ (hi := by decide); exact ⟨[], rfl, rfl, rfl⟩)
  · simp only [withD, nthD, Step2, nthDst, putO, postD]
    (refine op_load (v := fl a6) ?_ (hm := hG _ hm2) (hv := rfl); exact ⟨[], rfl, rfl, rfl⟩)
  · simp only [withD, nthD, Step2, nthDst, putO, postD]
    (refine op_fieldAddr ?_; exact ⟨[], rfl, rfl, rfl⟩)
  · simp only [withD, nthD, Step2, nthDst, putO, postD]
    (refine op_load (v := .float .f64 vz) ?_ (hm := hG _ hm3) (hv := rfl); exact ⟨[], rfl, rfl, rfl⟩)
  · simp only [withD, nthD, Step2, nthDst, putO, postD]
    (refine op_farith ?_; intro _ h; exact ⟨[], rfl, ⟨_, FI.mul f6 gz (by decide) h, rfl⟩, rfl⟩)
  · simp only [withD, nthD, Step2, nthDst, putO, postD]
    rintro _ _ ⟨⟨b2, h2, rfl⟩, rfl⟩ - _ _ ⟨⟨b3, h3, rfl⟩, rfl⟩ -
    (refine op_farith ?_; intro _ h; exact ⟨[], rfl, ⟨_, FI.add h2 h3 (by decide) h, rfl⟩, rfl⟩)
  simp only [FinalsD, nthDst, putO, List.drop_succ_cons, List.drop_zero]
  rintro _ _ _ _ _ _ _ _ _ _ ⟨⟨⟨b4, h4, rfl⟩, rfl⟩, ⟨⟨b3, h3, rfl⟩, rfl⟩, ⟨⟨b2, h2, rfl⟩, rfl⟩, ⟨⟨b1, h1, rfl⟩, rfl⟩, ⟨⟨b0, h0, rfl⟩, rfl⟩, -⟩
  simp only [List.nil_append]
  repeat'
    first
      | refine tl_defer ?_ | refine tc_seq ?_ | refine tc_region ?_ | refine at_seq_normal ?_ | refine tl_nil ?_ | refine tl_cons ?_ | refine tl_cons_none ?_ | refine op_move ?_
      | refine op_assign ?_ | refine op_fieldAddr ?_ | refine op_load ?_ | refine op_load_agg ?_ | refine op_indexC ?_ | refine op_indexAddr1 ?_ | refine op_indexAddr ?_ | refine op_icmp ?_
      | refine op_fcmp ?_ | refine op_iarith ?_ | refine op_bcmp ?_ | refine op_unop_not ?_ | refine op_unop_neg_float ?_ | refine op_unop_neg_int ?_ | refine op_len_slice ?_ | refine op_pick_true ?_
      | refine op_pick_false ?_ | refine op_pick_true' ?_ | refine op_pick_false' ?_ | refine op_build ?_ | refine op_extract ?_ | refine op_makeInterface ?_ | refine op_typeAssert ?_ | refine op_ptr_nil ?_
      | refine op_nilCheck_ptr ?_ | refine op_nilCheck_meth ?_ | refine op_makeMeth ?_ | refine op_makeFunc ?_ | refine op_itof ?_ | refine op_itoi ?_ | refine op_ftoi ?_ | refine op_iquo ?_
      | refine op_irem ?_ | refine op_ibits ?_ | refine op_slice_isnil ?_ | refine op_slice_notnil ?_ | refine op_imax ?_ | refine op_imin ?_ | refine op_shl ?_ | refine op_shr ?_
      | (refine op_alloc ?_; intro _) | (refine op_box ?_; intro _) | (refine op_buildSlice ?_; intro _) | (refine op_farith ?_; intro _ _) | refine op_store0 ?_ | refine op_store1 ?_ | refine op_store2 ?_ | refine op_store3 ?_
      | refine op_store4 ?_ | refine op_store5 ?_ | refine tc_cond_t ?_ | refine tc_cond_f ?_ | refine tc_cond (fun _ => ?_) (fun _ => ?_) | refine tc_block ?_ | refine tc_skip ?_ | refine tc_ret ?_
      | refine tc_exit ?_ | refine tc_label ?_ | refine at_seq_ret ?_ | refine at_seq_exit ?_ | refine at_block_normal ?_ | refine at_block_ret ?_ | refine at_block_exit_self ?_ | refine at_block_exit_ne ?_
      | refine at_loop_ret ?_ | refine at_loop_exit ?_ | refine at_loop_goto ?_ | refine tl_guard_yes ?_ | refine tl_guard_no ?_ | refine tl_guard_yes' ?_ | refine tl_guard_no' ?_ | refine tl_guard_undef ?_
      | refine tl_guard_split (fun _ => ?_) (fun _ => ?_)
  exact ret_tmp (hG := List.Sublist.refl _) (hk := ⟨⟨_, rfl, h4⟩, rfl⟩)
set_option maxHeartbeats 4000000 in
theorem row13 (k2 k3 vx vy vz a0 a1 a2 a3 a4 a5 a6 a7 a8 : Nat) (T2 T3 : TypeId) (x y z n0 n1 n2 n3 n4 n5 n6 n7 n8 : Int) (H : Heap) (hm2 : (k2, Obj.cells ⟨[a0, a1, a2, a3, a4, a5, a6, a7, a8].map fl⟩ T2 (0, 0)) ∈ H) (hm3 : (k3, Obj.cells ⟨[.float .f64 vx, .float .f64 vy, .float .f64 vz]⟩ T3 (0, 0)) ∈ H) (gx : FI 1024 vx x) (gy : FI 1024 vy y) (gz : FI 1024 vz z) (f0 : FI 1024 a0 n0) (f1 : FI 1024 a1 n1) (f2 : FI 1024 a2 n2) (f3 : FI 1024 a3 n3) (f4 : FI 1024 a4 n4) (f5 : FI 1024 a5 n5) (f6 : FI 1024 a6 n6) (f7 : FI 1024 a7 n7) (f8 : FI 1024 a8 n8) :
    Does Tryd.prog 27 [.int .i64 1, .int .i64 3, .pointer (some ⟨k2, 0, none⟩), .pointer (some ⟨k3, 0, none⟩)] H fun w H' => (∃ p, w = .float .f64 p ∧ FI 3145728 p (n1 * x + n4 * y + n7 * z)) ∧ H' = H := by
  refine fn_enter 32 Tryd.func27 fun W => ?_
  repeat'
    first
      | refine tl_defer ?_ | refine tc_seq ?_ | refine tc_region ?_ | refine at_seq_normal ?_ | refine tl_nil ?_ | refine tl_cons ?_ | refine tl_cons_none ?_ | refine op_move ?_
      | refine op_assign ?_ | refine op_fieldAddr ?_ | refine op_load ?_ | refine op_load_agg ?_ | refine op_indexC ?_ | refine op_indexAddr1 ?_ | refine op_indexAddr ?_ | refine op_icmp ?_
      | refine op_fcmp ?_ | refine op_iarith ?_ | refine op_bcmp ?_ | refine op_unop_not ?_ | refine op_unop_neg_float ?_ | refine op_unop_neg_int ?_ | refine op_len_slice ?_ | refine op_pick_true ?_
      | refine op_pick_false ?_ | refine op_pick_true' ?_ | refine op_pick_false' ?_ | refine op_build ?_ | refine op_extract ?_ | refine op_makeInterface ?_ | refine op_typeAssert ?_ | refine op_ptr_nil ?_
      | refine op_nilCheck_ptr ?_ | refine op_nilCheck_meth ?_ | refine op_makeMeth ?_ | refine op_makeFunc ?_ | refine op_itof ?_ | refine op_itoi ?_ | refine op_ftoi ?_ | refine op_iquo ?_
      | refine op_irem ?_ | refine op_ibits ?_ | refine op_slice_isnil ?_ | refine op_slice_notnil ?_ | refine op_imax ?_ | refine op_imin ?_ | refine op_shl ?_ | refine op_shr ?_
      | (refine op_alloc ?_; intro _) | (refine op_box ?_; intro _) | (refine op_buildSlice ?_; intro _) | (refine op_farith ?_; intro _ _) | refine op_store0 ?_ | refine op_store1 ?_ | refine op_store2 ?_ | refine op_store3 ?_
      | refine op_store4 ?_ | refine op_store5 ?_ | refine tc_cond_t ?_ | refine tc_cond_f ?_ | refine tc_cond (fun _ => ?_) (fun _ => ?_) | refine tc_block ?_ | refine tc_skip ?_ | refine tc_ret ?_
      | refine tc_exit ?_ | refine tc_label ?_ | refine at_seq_ret ?_ | refine at_seq_exit ?_ | refine at_block_normal ?_ | refine at_block_ret ?_ | refine at_block_exit_self ?_ | refine at_block_exit_ne ?_
      | refine at_loop_ret ?_ | refine at_loop_exit ?_ | refine at_loop_goto ?_ | refine tl_guard_yes ?_ | refine tl_guard_no ?_ | refine tl_guard_yes' ?_ | refine tl_guard_no' ?_ | refine tl_guard_undef ?_
      | refine tl_guard_split (fun _ => ?_) (fun _ => ?_)
  apply fun hole0 hole1 hole2 hole3 hole4 hole5 hole6 hole7 hole8 hole9 hole10 hole11 hole12 hole13 hole14 hole15 hole16 hole17 hole18 hole19 hE hD hml hdl hpr prem fin => tc_drawnD 25 [PhiD.is hole0, PhiD.is hole1, PhiD.is hole2, PhiD.is hole3, PhiD.is hole4, PhiD.gen (some' (fun w ex => (∃ r, FI 1048576 r (n1 * x) ∧ w = .float .f64 r) ∧ ex = [])), PhiD.is hole5, PhiD.is hole6, PhiD.is hole7, PhiD.is hole8, PhiD.is hole9, PhiD.is hole10, PhiD.is hole11, PhiD.gen (some' (fun w ex => (∃ r, FI 1048576 r (n4 * y) ∧ w = .float .f64 r) ∧ ex = [])), PhiD.gen (some' (fun w ex => (∃ r, FI 2097152 r (n1 * x + n4 * y) ∧ w = .float .f64 r) ∧ ex = [])), PhiD.is hole12, PhiD.is hole13, PhiD.is hole14, PhiD.is hole15, PhiD.is hole16, PhiD.is hole17, PhiD.is hole18, PhiD.is hole19, PhiD.gen (some' (fun w ex => (∃ r, FI 1048576 r (n7 * z) ∧ w = .float .f64 r) ∧ ex = [])), PhiD.gen (some' (fun w ex => (∃ r, FI 3145728 r (n1 * x + n4 * y + n7 * z) ∧ w = .float .f64 r) ∧ ex = []))]
    [some 7, some 8, some 9, some 10, some 11, some 12, some 13, some 14, some 15, some 16, some 17, some 18, some 19, some 20, some 21, some 22, some 23, some 24, some 25, some 26, some 27, some 28, some 29, some 30, some 31, some 6] [[], [0], [1], [], [3], [2, 4], [], [], [6, 7], [8], [9], [], [11], [10, 12], [5, 13], [], [], [16], [15, 17], [18], [19], [], [21], [20, 22], [14, 23]] mixed ⟨(some_mono _), (some_mono _), (some_mono _), (some_mono _), (some_mono _), trivial⟩ prem fin hE hD rfl hml hdl hpr
  rotate_left 21
  · first | kernel_rfl | exact rfl
  · first | kernel_rfl | exact rfl
  · exact Nat.le_of_ble_eq_true rfl
  · first | kernel_rfl | exact rfl
  · first | kernel_rfl | exact rfl
  refine ⟨fun G hG => ?_, fun G hG => ?_, fun G hG => ?_, fun G hG => ?_, fun G hG => ?_, fun G hG => ?_, fun G hG => ?_, fun G hG => ?_, fun G hG => ?_, fun G hG => ?_, fun G hG => ?_, fun G hG => ?_, fun G hG => ?_, fun G hG => ?_, fun G hG => ?_, fun G hG => ?_, fun G hG => ?_, fun G hG => ?_, fun G hG => ?_, fun G hG => ?_, fun G hG => ?_, fun G hG => ?_, fun G hG => ?_, fun G hG => ?_, fun G hG => ?_, trivial⟩
  · simp only [withD, nthD, Step2, nthDst, putO, postD]
    (refine op_move ?_; exact ⟨[], rfl, rfl, rfl⟩)
  · simp only [withD, nthD, Step2, nthDst, putO, postD]
    (refine op_indexArr ?_ (hi := by decide); exact ⟨[], rfl, rfl, rfl⟩)
  · simp only [withD, nthD, Step2, nthDst, putO, postD]
    (refine op_load (v := fl a1) ?_ (hm := hG _ hm2) (hv := rfl); exact ⟨[], rfl, rfl, rfl⟩)
  · simp only [withD, nthD, Step2, nthDst, putO, postD]
    (refine op_fieldAddr ?_; exact ⟨[], rfl, rfl, rfl⟩)
  · simp only [withD, nthD, Step2, nthDst, putO, postD]
    (refine op_load (v := .float .f64 vx) ?_ (hm := hG _ hm3) (hv := rfl); exact ⟨[], rfl, rfl, rfl⟩)
  · simp only [withD, nthD, Step2, nthDst, putO, postD]
    (refine op_farith ?_; intro _ h; exact ⟨[], rfl, ⟨_, FI.mul f1 gx (by decide) h, rfl⟩, rfl⟩)
  · simp only [withD, nthD, Step2, nthDst, putO, postD]
    (refine op_move ?_; exact ⟨[], rfl, rfl, rfl⟩)
  · simp only [withD, nthD, Step2, nthDst, putO, postD]
    (refine op_move ?_; exact ⟨[], rfl, rfl, rfl⟩)
  · simp only [withD, nthD, Step2, nthDst, putO, postD]
    (refine op_iarith ?_; exact ⟨[], rfl, rfl, rfl⟩)
  · simp only [withD, nthD, Step2, nthDst, putO, postD]
    (refine op_indexArr ?_ (hi := by decide); exact ⟨[], rfl, rfl, rfl⟩)
  · simp only [withD, nthD, Step2, nthDst, putO, postD]
    (refine op_load (v := fl a4) ?_ (hm := hG _ hm2) (hv := rfl); exact ⟨[], rfl, rfl, rfl⟩)
  · simp only [withD, nthD, Step2, nthDst, putO, postD]
    (refine op_fieldAddr ?_; exact ⟨[], rfl, rfl, rfl⟩)
  · simp only [withD, nthD, Step2, nthDst, putO, postD]
    (refine op_load (v := .float .f64 vy) ?_ (hm := hG _ hm3) (hv := rfl); exact ⟨[], rfl, rfl, rfl⟩)
  · simp only [withD, nthD, Step2, nthDst, putO, postD]
    (refine op_farith ?_; intro _ h; exact ⟨[], rfl, ⟨_, FI.mul f4 gy (by decide) h, rfl⟩, rfl⟩)
  · simp only [withD, nthD, Step2, nthDst, putO, postD]
    rintro _ _ ⟨⟨b0, h0, rfl⟩, rfl⟩ - _ _ ⟨⟨b1, h1, rfl⟩, rfl⟩ -
    (refine op_farith ?_; intro _ h; exact ⟨[], rfl, ⟨_, FI.add h0 h1 (by decide) h, rfl⟩, rfl⟩)
  · simp only [withD, nthD, Step2, nthDst, putO, postD]
    (refine op_move ?_; exact ⟨[], rfl, rfl, rfl⟩)
  · simp only [withD, nthD, Step2, nthDst, putO, postD]
    (refine op_move ?_; exact ⟨[], rfl, rfl, rfl⟩)
  · simp only [withD, nthD, Step2, nthDst, putO, postD]
    (refine op_iarith ?_; exact ⟨[], rfl, rfl, rfl⟩)
  · simp only [withD, nthD, Step2, nthDst, putO, postD]
    (refine op_iarith ?_; exact ⟨[], rfl, rfl, rfl⟩)
  · simp only [withD, nthD, Step2, nthDst, putO, postD]
    (refine op_indexArr ?_ (hi := by decide); exact ⟨[], rfl, rfl, rfl⟩)
  · simp only [withD, nthD, Step2, nthDst, putO, postD]
    (refine op_load (v := fl a7) ?_ (hm := hG _ hm2) (hv := rfl); exact ⟨[], rfl, rfl, rfl⟩)
  · simp only [withD, nthD, Step2, nthDst, putO, postD]
    (refine op_fieldAddr ?_; exact ⟨[], rfl, rfl, rfl⟩)
  · simp only [withD, nthD, Step2, nthDst, putO, postD]
    (refine op_load (v := .float .f64 vz) ?_ (hm := hG _ hm3) (hv := rfl); exact ⟨[], rfl, rfl, rfl⟩)
  · simp only [withD, nthD, Step2, nthDst, putO, postD]
    (refine op_farith ?_; intro _ h; exact ⟨[], rfl, ⟨_, FI.mul f7 gz (by decide) h, rfl⟩, rfl⟩)
  · simp only [withD, nthD, Step2, nthDst, putO, postD]
    rintro _ _ ⟨⟨b2, h2, rfl⟩, rfl⟩ - _ _ ⟨⟨b3, h3, rfl⟩, rfl⟩ -
    (refine op_farith ?_; intro _ h; exact ⟨[], rfl, ⟨_, FI.add h2 h3 (by decide) h, rfl⟩, rfl⟩)
  simp only [FinalsD, nthDst, putO, List.drop_succ_cons, List.drop_zero]
  rintro _ _ _ _ _ _ _ _ _ _ ⟨⟨⟨b4, h4, rfl⟩, rfl⟩, ⟨⟨b3, h3, rfl⟩, rfl⟩, ⟨⟨b2, h2, rfl⟩, rfl⟩, ⟨⟨b1, h1, rfl⟩, rfl⟩, ⟨⟨b0, h0, rfl⟩, rfl⟩, -⟩
  simp only [List.nil_append]
  repeat'
    first
      | refine tl_defer ?_ | refine tc_seq ?_ | refine tc_region ?_ | refine at_seq_normal ?_ | refine tl_nil ?_ | refine tl_cons ?_ | refine tl_cons_none ?_ | refine op_move ?_
      | refine op_assign ?_ | refine op_fieldAddr ?_ | refine op_load ?_ | refine op_load_agg ?_ | refine op_indexC ?_ | refine op_indexAddr1 ?_ | refine op_indexAddr ?_ | refine op_icmp ?_
      | refine op_fcmp ?_ | refine op_iarith ?_ | refine op_bcmp ?_ | refine op_unop_not ?_ | refine op_unop_neg_float ?_ | refine op_unop_neg_int ?_ | refine op_len_slice ?_ | refine op_pick_true ?_
      | refine op_pick_false ?_ | refine op_pick_true' ?_ | refine op_pick_false' ?_ | refine op_build ?_ | refine op_extract ?_ | refine op_makeInterface ?_ | refine op_typeAssert ?_ | refine op_ptr_nil ?_
      | refine op_nilCheck_ptr ?_ | refine op_nilCheck_meth ?_ | refine op_makeMeth ?_ | refine op_makeFunc ?_ | refine op_itof ?_ | refine op_itoi ?_ | refine op_ftoi ?_ | refine op_iquo ?_
      | refine op_irem ?_ | refine op_ibits ?_ | refine op_slice_isnil ?_ | refine op_slice_notnil ?_ | refine op_imax ?_ | refine op_imin ?_ | refine op_shl ?_ | refine op_shr ?_
      | (refine op_alloc ?_; intro _) | (refine op_box ?_; intro _) | (refine op_buildSlice ?_; intro _) | (refine op_farith ?_; intro _ _) | refine op_store0 ?_ | refine op_store1 ?_ | refine op_store2 ?_ | refine op_store3 ?_
      | refine op_store4 ?_ | refine op_store5 ?_ | refine tc_cond_t ?_ | refine tc_cond_f ?_ | refine tc_cond (fun _ => ?_) (fun _ => ?_) | refine tc_block ?_ | refine tc_skip ?_ | refine tc_ret ?_
      | refine tc_exit ?_ | refine tc_label ?_ | refine at_seq_ret ?_ | refine at_seq_exit ?_ | refine at_block_normal ?_ | refine at_block_ret ?_ | refine at_block_exit_self ?_ | refine at_block_exit_ne ?_
      | refine at_loop_ret ?_ | refine at_loop_exit ?_ | refine at_loop_goto ?_ | refine tl_guard_yes ?_ | refine tl_guard_no ?_ | refine tl_guard_yes' ?_ | refine tl_guard_no' ?_ | refine tl_guard_undef ?_
      | refine tl_guard_split (fun _ => ?_) (fun _ => ?_)
  exact ret_tmp (hG := List.Sublist.refl _) (hk := ⟨⟨_, rfl, h4⟩, rfl⟩)
set_option maxHeartbeats 4000000 in
theorem row23 (k2 k3 vx vy vz a0 a1 a2 a3 a4 a5 a6 a7 a8 : Nat) (T2 T3 : TypeId) (x y z n0 n1 n2 n3 n4 n5 n6 n7 n8 : Int) (H : Heap) (hm2 : (k2, Obj.cells ⟨[a0, a1, a2, a3, a4, a5, a6, a7, a8].map fl⟩ T2 (0, 0)) ∈ H) (hm3 : (k3, Obj.cells ⟨[.float .f64 vx, .float .f64 vy, .float .f64 vz]⟩ T3 (0, 0)) ∈ H) (gx : FI 1024 vx x) (gy : FI 1024 vy y) (gz : FI 1024 vz z) (f0 : FI 1024 a0 n0) (f1 : FI 1024 a1 n1) (f2 : FI 1024 a2 n2) (f3 : FI 1024 a3 n3) (f4 : FI 1024 a4 n4) (f5 : FI 1024 a5 n5) (f6 : FI 1024 a6 n6) (f7 : FI 1024 a7 n7) (f8 : FI 1024 a8 n8) :
    Does Tryd.prog 27 [.int .i64 2, .int .i64 3, .pointer (some ⟨k2, 0, none⟩), .pointer (some ⟨k3, 0, none⟩)] H fun w H' => (∃ p, w = .float .f64 p ∧ FI 3145728 p (n2 * x + n5 * y + n8 * z)) ∧ H' = H := by
  refine fn_enter 32 Tryd.func27 fun W => ?_
  repeat'
    first
      | refine tl_defer ?_ | refine tc_seq ?_ | refine tc_region ?_ | refine at_seq_normal ?_ | refine tl_nil ?_ | refine tl_cons ?_ | refine tl_cons_none ?_ | refine op_move ?_
      | refine op_assign ?_ | refine op_fieldAddr ?_ | refine op_load ?_ | refine op_load_agg ?_ | refine op_indexC ?_ | refine op_indexAddr1 ?_ | refine op_indexAddr ?_ | refine op_icmp ?_
      | refine op_fcmp ?_ | refine op_iarith ?_ | refine op_bcmp ?_ | refine op_unop_not ?_ | refine op_unop_neg_float ?_ | refine op_unop_neg_int ?_ | refine op_len_slice ?_ | refine op_pick_true ?_
      | refine op_pick_false ?_ | refine op_pick_true' ?_ | refine op_pick_false' ?_ | refine op_build ?_ | refine op_extract ?_ | refine op_makeInterface ?_ | refine op_typeAssert ?_ | refine op_ptr_nil ?_
      | refine op_nilCheck_ptr ?_ | refine op_nilCheck_meth ?_ | refine op_makeMeth ?_ | refine op_makeFunc ?_ | refine op_itof ?_ | refine op_itoi ?_ | refine op_ftoi ?_ | refine op_iquo ?_
      | refine op_irem ?_ | refine op_ibits ?_ | refine op_slice_isnil ?_ | refine op_slice_notnil ?_ | refine op_imax ?_ | refine op_imin ?_ | refine op_shl ?_ | refine op_shr ?_
      | (refine op_alloc ?_; intro _) | (refine op_box ?_; intro _) | (refine op_buildSlice ?_; intro _) | (refine op_farith ?_; intro _ _) | refine op_store0 ?_ | refine op_store1 ?_ | refine op_store2 ?_ | refine op_store3 ?_
      | refine op_store4 ?_ | refine op_store5 ?_ | refine tc_cond_t ?_ | refine tc_cond_f ?_ | refine tc_cond (fun _ => ?_) (fun _ => ?_) | refine tc_block ?_ | refine tc_skip ?_ | refine tc_ret ?_
      | refine tc_exit ?_ | refine tc_label ?_ | refine at_seq_ret ?_ | refine at_seq_exit ?_ | refine at_block_normal ?_ | refine at_block_ret ?_ | refine at_block_exit_self ?_ | refine at_block_exit_ne ?_
      | refine at_loop_ret ?_ | refine at_loop_exit ?_ | refine at_loop_goto ?_ | refine tl_guard_yes ?_ | refine tl_guard_no ?_ | refine tl_guard_yes' ?_ | refine tl_guard_no' ?_ | refine tl_guard_undef ?_
      | refine tl_guard_split (fun _ => ?_) (fun _ => ?_)
  apply fun hole0 hole1 hole2 hole3 hole4 hole5 hole6 hole7 hole8 hole9 hole10 hole11 hole12 hole13 hole14 hole15 hole16 hole17 hole18 hole19 hE hD hml hdl hpr prem fin => tc_drawnD 25 [PhiD.is hole0, PhiD.is hole1, PhiD.is hole2, PhiD.is hole3, PhiD.is hole4, PhiD.gen (some' (fun w ex => (∃ r, FI 1048576 r (n2 * x) ∧ w = .float .f64 r) ∧ ex = [])), PhiD.is hole5, PhiD.is hole6, PhiD.is hole7, PhiD.is hole8, PhiD.is hole9, PhiD.is hole10, PhiD.is hole11, PhiD.gen (some' (fun w ex => (∃ r, FI 1048576 r (n5 * y) ∧ w = .float .f64 r) ∧ ex = [])), PhiD.gen (some' (fun w ex => (∃ r, FI 2097152 r (n2 * x + n5 * y) ∧ w = .float .f64 r) ∧ ex = [])), PhiD.is hole12, PhiD.is hole13, PhiD.is hole14, PhiD.is hole15, PhiD.is hole16, PhiD.is hole17, PhiD.is hole18, PhiD.is hole19, PhiD.gen (some' (fun w ex => (∃ r, FI 1048576 r (n8 * z) ∧ w = .float .f64 r) ∧ ex = [])), PhiD.gen (some' (fun w ex => (∃ r, FI 3145728 r (n2 * x + n5 * y + n8 * z) ∧ w = .float .f64 r) ∧ ex = []))]
    [some 7, some 8, some 9, some 10, some 11, some 12, some 13, some 14, some 15, some 16, some 17, some 18, some 19, some 20, some 21, some 22, some 23, some 24, some 25, some 26, some 27, some 28, some 29, some 30, some 31, some 6] [[], [0], [1], [], [3], [2, 4], [], [], [6, 7], [8], [9], [], [11], [10, 12], [5, 13], [], [], [16], [15, 17], [18], [19], [], [21], [20, 22], [14, 23]] mixed ⟨(some_mono _), (some_mono _), (some_mono _), (some_mono _), (some_mono _), trivial⟩ prem fin hE hD rfl hml hdl hpr
  rotate_left 21
  · first | kernel_rfl | exact rfl
  · first | kernel_rfl | exact rfl
  · exact Nat.le_of_ble_eq_true rfl
  · first | kernel_rfl | exact rfl
  · first | kernel_rfl | exact rfl
  refine ⟨fun G hG => ?_, fun G hG => ?_, fun G hG => ?_, fun G hG => ?_, fun G hG => ?_, fun G hG => ?_, fun G hG => ?_, fun G hG => ?_, fun G hG => ?_, fun G hG => ?_, fun G hG => ?_, fun G hG => ?_, fun G hG => ?_, fun G hG => ?_, fun G hG => ?_, fun G hG => ?_, fun G hG => ?_, fun G hG => ?_, fun G hG => ?_, fun G hG => ?_, fun G hG => ?_, fun G hG => ?_, fun G hG => ?_, fun G hG => ?_, fun G hG => ?_, trivial⟩
  · simp only [withD, nthD, Step2, nthDst, putO, postD]
    (refine op_move ?_; exact ⟨[], rfl, rfl, rfl⟩)
  · simp only [withD, nthD, Step2, nthDst, putO, postD]
    (refine op_indexArr ?_ (hi := by decide); exact ⟨[], rfl, rfl, rfl⟩)
  · simp only [withD, nthD, Step2, nthDst, putO, postD]
    (refine op_load (v := fl a2) ?_ (hm := hG _ hm2) (hv := rfl); exact ⟨[], rfl, rfl, rfl⟩)
  · simp only [withD, nthD, Step2, nthDst, putO, postD]
    (refine op_fieldAddr ?_; exact ⟨[], rfl, rfl, rfl⟩)
  · simp only [withD, nthD, Step2, nthDst, putO, postD]
    (refine op_load (v := .float .f64 vx) ?_ (hm := hG _ hm3) (hv := rfl); exact ⟨[], rfl, rfl, rfl⟩)
  · simp only [withD, nthD, Step2, nthDst, putO, postD]
    (refine op_farith ?_; intro _ h; exact ⟨[], rfl, ⟨_, FI.mul f2 gx (by decide) h, rfl⟩, rfl⟩)
  · simp only [withD, nthD, Step2, nthDst, putO, postD]
    (refine op_move ?_; exact ⟨[], rfl, rfl, rfl⟩)
  · simp only [withD, nthD, Step2, nthDst, putO, postD]
    (refine op_move ?_; exact ⟨[], rfl, rfl, rfl⟩)
  · simp only [withD, nthD, Step2, nthDst, putO, postD]
    (refine op_iarith ?_; exact ⟨[], rfl, rfl, rfl⟩)
  · simp only [withD, nthD, Step2, nthDst, putO, postD]
    (refine op_indexArr ?_ (hi := by decide); exact ⟨[], rfl, rfl, rfl⟩)
  · simp only [withD, nthD, Step2, nthDst, putO, postD]
    (refine op_load (v := fl a5) ?_ (hm := hG _ hm2) (hv := rfl); exact ⟨[], rfl, rfl, rfl⟩)
  · simp only [withD, nthD, Step2, nthDst, putO, postD]
    (refine op_fieldAddr ?_; exact ⟨[], rfl, rfl, rfl⟩)
  · simp only [withD, nthD, Step2, nthDst, putO, postD]
    (refine op_load (v := .float .f64 vy) ?_ (hm := hG _ hm3) (hv := rfl); exact ⟨[], rfl, rfl, rfl⟩)
  · simp only [withD, nthD, Step2, nthDst, putO, postD]
    (refine op_farith ?_; intro _ h; exact ⟨[], rfl, ⟨_, FI.mul f5 gy (by decide) h, rfl⟩, rfl⟩)
  · simp only [withD, nthD, Step2, nthDst, putO, postD]
    rintro _ _ ⟨⟨b0, h0, rfl⟩, rfl⟩ - _ _ ⟨⟨b1, h1, rfl⟩, rfl⟩ -
    (refine op_farith ?_; intro _ h; exact ⟨[], rfl, ⟨_, FI.add h0 h1 (by decide) h, rfl⟩, rfl⟩)
  · simp only [withD, nthD, Step2, nthDst, putO, postD]
    (refine op_move ?_; exact ⟨[], rfl, rfl, rfl⟩)
  · simp only [withD, nthD, Step2, nthDst, putO, postD]
    (refine op_move ?_; exact ⟨[], rfl, rfl, rfl⟩)
  · simp only [withD, nthD, Step2, nthDst, putO, postD]
    (refine op_iarith ?_; exact ⟨[], rfl, rfl, rfl⟩)
  · simp only [withD, nthD, Step2, nthDst, putO, postD]
    (refine op_iarith ?_; exact ⟨[], rfl, rfl, rfl⟩)
  · simp only [withD, nthD, Step2, nthDst, putO, postD]
    (refine op_indexArr ?_ (hi := by decide); exact ⟨[], rfl, rfl, rfl⟩)
  · simp only [withD, nthD, Step2, nthDst, putO, postD]
    (refine op_load (v := fl a8) ?_ (hm := hG _ hm2) (hv := rfl); exact ⟨[], rfl, rfl, rfl⟩)
  · simp only [withD, nthD, Step2, nthDst, putO, postD]
    (refine op_fieldAddr ?_; exact ⟨[], rfl, rfl, rfl⟩)
  · simp only [withD, nthD, Step2, nthDst, putO, postD]
    (refine op_load (v := .float .f64 vz) ?_ (hm := hG _ hm3) (hv := rfl); exact ⟨[], rfl, rfl, rfl⟩)
  · simp only [withD, nthD, Step2, nthDst, putO, postD]
    (refine op_farith ?_; intro _ h; exact ⟨[], rfl, ⟨_, FI.mul f8 gz (by decide) h, rfl⟩, rfl⟩)
  · simp only [withD, nthD, Step2, nthDst, putO, postD]
    rintro _ _ ⟨⟨b2, h2, rfl⟩, rfl⟩ - _ _ ⟨⟨b3, h3, rfl⟩, rfl⟩ -
    (refine op_farith ?_; intro _ h; exact ⟨[], rfl, ⟨_, FI.add h2 h3 (by decide) h, rfl⟩, rfl⟩)
  simp only [FinalsD, nthDst, putO, List.drop_succ_cons, List.drop_zero]
  rintro _ _ _ _ _ _ _ _ _ _ ⟨⟨⟨b4, h4, rfl⟩, rfl⟩, ⟨⟨b3, h3, rfl⟩, rfl⟩, ⟨⟨b2, h2, rfl⟩, rfl⟩, ⟨⟨b1, h1, rfl⟩, rfl⟩, ⟨⟨b0, h0, rfl⟩, rfl⟩, -⟩
  simp only [List.nil_append]
  repeat'
    first
      | refine tl_defer ?_ | refine tc_seq ?_ | refine tc_region ?_ | refine at_seq_normal ?_ | refine tl_nil ?_ | refine tl_cons ?_ | refine tl_cons_none ?_ | refine op_move ?_
      | refine op_assign ?_ | refine op_fieldAddr ?_ | refine op_load ?_ | refine op_load_agg ?_ | refine op_indexC ?_ | refine op_indexAddr1 ?_ | refine op_indexAddr ?_ | refine op_icmp ?_
      | refine op_fcmp ?_ | refine op_iarith ?_ | refine op_bcmp ?_ | refine op_unop_not ?_ | refine op_unop_neg_float ?_ | refine op_unop_neg_int ?_ | refine op_len_slice ?_ | refine op_pick_true ?_
      | refine op_pick_false ?_ | refine op_pick_true' ?_ | refine op_pick_false' ?_ | refine op_build ?_ | refine op_extract ?_ | refine op_makeInterface ?_ | refine op_typeAssert ?_ | refine op_ptr_nil ?_
      | refine op_nilCheck_ptr ?_ | refine op_nilCheck_meth ?_ | refine op_makeMeth ?_ | refine op_makeFunc ?_ | refine op_itof ?_ | refine op_itoi ?_ | refine op_ftoi ?_ | refine op_iquo ?_
      | refine op_irem ?_ | refine op_ibits ?_ | refine op_slice_isnil ?_ | refine op_slice_notnil ?_ | refine op_imax ?_ | refine op_imin ?_ | refine op_shl ?_ | refine op_shr ?_
      | (refine op_alloc ?_; intro _) | (refine op_box ?_; intro _) | (refine op_buildSlice ?_; intro _) | (refine op_farith ?_; intro _ _) | refine op_store0 ?_ | refine op_store1 ?_ | refine op_store2 ?_ | refine op_store3 ?_
      | refine op_store4 ?_ | refine op_store5 ?_ | refine tc_cond_t ?_ | refine tc_cond_f ?_ | refine tc_cond (fun _ => ?_) (fun _ => ?_) | refine tc_block ?_ | refine tc_skip ?_ | refine tc_ret ?_
      | refine tc_exit ?_ | refine tc_label ?_ | refine at_seq_ret ?_ | refine at_seq_exit ?_ | refine at_block_normal ?_ | refine at_block_ret ?_ | refine at_block_exit_self ?_ | refine at_block_exit_ne ?_
      | refine at_loop_ret ?_ | refine at_loop_exit ?_ | refine at_loop_goto ?_ | refine tl_guard_yes ?_ | refine tl_guard_no ?_ | refine tl_guard_yes' ?_ | refine tl_guard_no' ?_ | refine tl_guard_undef ?_
      | refine tl_guard_split (fun _ => ?_) (fun _ => ?_)
  exact ret_tmp (hG := List.Sublist.refl _) (hk := ⟨⟨_, rfl, h4⟩, rfl⟩)
theorem eq3 {B a0 a1 a2 b0 b1 b2 : Nat} {m0 m1 m2 k0 k1 k2 : Int} (h0 : FI B a0 m0) (h1 : FI B a1 m1) (h2 : FI B a2 m2) (g0 : FI B b0 k0) (g1 : FI B b1 k1) (g2 : FI B b2 k2) (e0 : m0 = k0) (e1 : m1 = k1) (e2 : m2 = k2) : eqAll [(a0, b0), (a1, b1), (a2, b2)] = true := by
  simp only [eqAll, FI.eql h0 g0, FI.eql h1 g1, FI.eql h2 g2, e0, e1, e2, decide_true, Bool.and_self]
theorem ring3 (x y z a b c : Int) : x * a + y * b + z * c = a * x + b * y + c * z := by rw [Int.mul_comm x, Int.mul_comm y, Int.mul_comm z]
set_option maxHeartbeats 16000000 in
theorem law {H : Heap} (ms : List Nat) (hl : ms.length = 9) (vx vy vz : Nat) :
    Does Tryd.prog 7 [.agg ⟨ms.map fl⟩, .agg #[.float .f64 vx, .float .f64 vy, .float .f64 vz]] H fun w H' => w = .bool true ∧ H' = H := by
  match ms, hl with
  | [a0, a1, a2, a3, a4, a5, a6, a7, a8], _ =>
  refine fn_enter 41 Tryd.func7 fun W => ?_
  repeat' first
    | refine op_load_agg (m := [a0, a1, a2, a3, a4, a5, a6, a7, a8].map fl) ?_ (hv := rfl)
    | refine op_buildSlice (l' := [a0, a1, a2, a3, a4, a5, a6, a7, a8].map fl) (fun k => ?_) (hnew := rfl)
    | (refine op_call ((entries1 _ a0 a1 a2 a3 a4 a5 a6 a7 a8 _ _ _ mem0).mono ?_); rintro _ _ ⟨rfl, rfl⟩)
    | (refine op_call ((small1 _ vx vy vz _ _ _ mem0).mono ?_); rintro _ _ ⟨rfl, rfl⟩)
    | (first | refine tl_defer ?_ | refine tc_seq ?_ | refine tc_region ?_ | refine at_seq_normal ?_ | refine tl_nil ?_ | refine tl_cons ?_ | refine tl_cons_none ?_ | refine op_move ?_ | refine op_assign ?_ | refine op_fieldAddr ?_ | refine op_load ?_ | refine op_load_agg ?_ | refine op_indexC ?_ | refine op_indexAddr1 ?_ | refine op_indexAddr ?_ | refine op_icmp ?_ | refine op_fcmp ?_ | refine op_iarith ?_ | refine op_bcmp ?_ | refine op_unop_not ?_ | refine op_unop_neg_float ?_ | refine op_unop_neg_int ?_ | refine op_len_slice ?_ | refine op_pick_true ?_ | refine op_pick_false ?_ | refine op_pick_true' ?_ | refine op_pick_false' ?_ | refine op_build ?_ | refine op_extract ?_ | refine op_makeInterface ?_ | refine op_typeAssert ?_ | refine op_ptr_nil ?_ | refine op_nilCheck_ptr ?_ | refine op_nilCheck_meth ?_ | refine op_makeMeth ?_ | refine op_makeFunc ?_ | refine op_itof ?_ | refine op_itoi ?_ | refine op_ftoi ?_ | refine op_iquo ?_ | refine op_irem ?_ | refine op_ibits ?_ | refine op_slice_isnil ?_ | refine op_slice_notnil ?_ | refine op_imax ?_ | refine op_imin ?_ | refine op_shl ?_ | refine op_shr ?_ | (refine op_alloc ?_; intro _) | (refine op_box ?_; intro _) | (refine op_buildSlice ?_; intro _) | (refine op_farith ?_; intro _ _) | refine op_store0 ?_ | refine op_store1 ?_ | refine op_store2 ?_ | refine op_store3 ?_ | refine op_store4 ?_ | refine op_store5 ?_ | refine op_storeK rfl ?_ | refine op_loadK rfl ?_ | refine op_load_aggK rfl ?_ | refine tc_cond_t ?_ | refine tc_cond_f ?_ | refine tc_cond (fun _ => ?_) (fun _ => ?_) | refine tc_block ?_ | refine tc_skip ?_ | refine tc_ret ?_ | refine tc_exit ?_ | refine tc_label ?_ | refine at_seq_ret ?_ | refine at_seq_exit ?_ | refine at_block_normal ?_ | refine at_block_ret ?_ | refine at_block_exit_self ?_ | refine at_block_exit_ne ?_ | refine at_loop_ret ?_ | refine at_loop_exit ?_ | refine at_loop_goto ?_ | refine tl_guard_yes ?_ | refine tl_guard_no ?_ | refine tl_guard_yes' ?_ | refine tl_guard_no' ?_ | refine tl_guard_undef ?_ | refine tl_guard_split (fun _ => ?_) (fun _ => ?_))
    | fail
  all_goals first
    | exact ret_tmp (hG := by (repeat (first | exact List.Sublist.refl _ | apply List.Sublist.cons_cons | apply List.Sublist.cons | refine List.Sublist.trans ?_ (List.sublist_append_right _ _)))) (hk := ⟨rfl, rfl⟩)
    | skip
  rename_i xl k2 k3 x1 kS x0
  have g9 : gridB [[a0, a1, a2, a3, a4, a5, a6, a7, a8]] 9 4652218415073722368 = true := by simpa using x1
  have g3 : gridB [[vx, vy, vz]] 3 4652218415073722368 = true := by simpa using x0
  simp only [List.map_cons, List.map_nil, gridB, List.all_cons, List.all_nil, Bool.and_true, Bool.and_eq_true] at g9 g3
  obtain ⟨n0, f0⟩ := fi_of g9.2.1
  obtain ⟨n1, f1⟩ := fi_of g9.2.2.1
  obtain ⟨n2, f2⟩ := fi_of g9.2.2.2.1
  obtain ⟨n3, f3⟩ := fi_of g9.2.2.2.2.1
  obtain ⟨n4, f4⟩ := fi_of g9.2.2.2.2.2.1
  obtain ⟨n5, f5⟩ := fi_of g9.2.2.2.2.2.2.1
  obtain ⟨n6, f6⟩ := fi_of g9.2.2.2.2.2.2.2.1
  obtain ⟨n7, f7⟩ := fi_of g9.2.2.2.2.2.2.2.2.1
  obtain ⟨n8, f8⟩ := fi_of g9.2.2.2.2.2.2.2.2.2
  obtain ⟨x, gx⟩ := fi_of g3.2.1
  obtain ⟨y, gy⟩ := fi_of g3.2.2.1
  obtain ⟨z, gz⟩ := fi_of g3.2.2.2
  clear g9 g3 x1 x0
  repeat' first
    | (refine op_call ((matVec vx vy vz a0 a1 a2 a3 a4 a5 a6 a7 a8 x y z n0 n1 n2 n3 n4 n5 n6 n7 n8 _ gx gy gz f0 f1 f2 f3 f4 f5 f6 f7 f8).mono ?_); rintro _ _ ⟨⟨r0, r1, r2, rfl, q0, q1, q2⟩, ex1, rfl⟩)
    | (refine op_call ((matVecT vx vy vz a0 a1 a2 a3 a4 a5 a6 a7 a8 x y z n0 n1 n2 n3 n4 n5 n6 n7 n8 _ gx gy gz f0 f1 f2 f3 f4 f5 f6 f7 f8).mono ?_); rintro _ _ ⟨⟨s0, s1, s2, rfl, t0, t1, t2⟩, ex2, rfl⟩)
    | (refine op_callcap (vs := [.int .i64 0, .int .i64 1]) (cs := [.pointer (some ⟨k2, 0, none⟩), .pointer (some ⟨k3, 0, none⟩)]) ((row01 k2 k3 vx vy vz a0 a1 a2 a3 a4 a5 a6 a7 a8 53 55 x y z n0 n1 n2 n3 n4 n5 n6 n7 n8 _ (by simp) (by simp) gx gy gz f0 f1 f2 f3 f4 f5 f6 f7 f8).mono ?_); rintro _ _ ⟨⟨p01, rfl, e01⟩, rfl⟩)
    | (refine op_callcap (vs := [.int .i64 3, .int .i64 1]) (cs := [.pointer (some ⟨k2, 0, none⟩), .pointer (some ⟨k3, 0, none⟩)]) ((row31 k2 k3 vx vy vz a0 a1 a2 a3 a4 a5 a6 a7 a8 53 55 x y z n0 n1 n2 n3 n4 n5 n6 n7 n8 _ (by simp) (by simp) gx gy gz f0 f1 f2 f3 f4 f5 f6 f7 f8).mono ?_); rintro _ _ ⟨⟨p31, rfl, e31⟩, rfl⟩)
    | (refine op_callcap (vs := [.int .i64 6, .int .i64 1]) (cs := [.pointer (some ⟨k2, 0, none⟩), .pointer (some ⟨k3, 0, none⟩)]) ((row61 k2 k3 vx vy vz a0 a1 a2 a3 a4 a5 a6 a7 a8 53 55 x y z n0 n1 n2 n3 n4 n5 n6 n7 n8 _ (by simp) (by simp) gx gy gz f0 f1 f2 f3 f4 f5 f6 f7 f8).mono ?_); rintro _ _ ⟨⟨p61, rfl, e61⟩, rfl⟩)
    | (refine op_callcap (vs := [.int .i64 0, .int .i64 3]) (cs := [.pointer (some ⟨k2, 0, none⟩), .pointer (some ⟨k3, 0, none⟩)]) ((row03 k2 k3 vx vy vz a0 a1 a2 a3 a4 a5 a6 a7 a8 53 55 x y z n0 n1 n2 n3 n4 n5 n6 n7 n8 _ (by simp) (by simp) gx gy gz f0 f1 f2 f3 f4 f5 f6 f7 f8).mono ?_); rintro _ _ ⟨⟨p03, rfl, e03⟩, rfl⟩)
    | (refine op_callcap (vs := [.int .i64 1, .int .i64 3]) (cs := [.pointer (some ⟨k2, 0, none⟩), .pointer (some ⟨k3, 0, none⟩)]) ((row13 k2 k3 vx vy vz a0 a1 a2 a3 a4 a5 a6 a7 a8 53 55 x y z n0 n1 n2 n3 n4 n5 n6 n7 n8 _ (by simp) (by simp) gx gy gz f0 f1 f2 f3 f4 f5 f6 f7 f8).mono ?_); rintro _ _ ⟨⟨p13, rfl, e13⟩, rfl⟩)
    | (refine op_callcap (vs := [.int .i64 2, .int .i64 3]) (cs := [.pointer (some ⟨k2, 0, none⟩), .pointer (some ⟨k3, 0, none⟩)]) ((row23 k2 k3 vx vy vz a0 a1 a2 a3 a4 a5 a6 a7 a8 53 55 x y z n0 n1 n2 n3 n4 n5 n6 n7 n8 _ (by simp) (by simp) gx gy gz f0 f1 f2 f3 f4 f5 f6 f7 f8).mono ?_); rintro _ _ ⟨⟨p23, rfl, e23⟩, rfl⟩)
    | (refine op_aggeq [(r0, p01), (r1, p31), (r2, p61)] ?_; rw [eq3 q0 q1 q2 e01 e31 e61 (ring3 _ _ _ _ _ _) (ring3 _ _ _ _ _ _) (ring3 _ _ _ _ _ _)])
    | (refine op_aggeq [(s0, p03), (s1, p13), (s2, p23)] ?_; rw [eq3 t0 t1 t2 e03 e13 e23 (ring3 _ _ _ _ _ _) (ring3 _ _ _ _ _ _) (ring3 _ _ _ _ _ _)])
    | refine op_load_agg (m := [a0, a1, a2, a3, a4, a5, a6, a7, a8].map fl) ?_ (hm := by simp) (hv := rfl)
    | refine op_load_agg (m := [.float .f64 vx, .float .f64 vy, .float .f64 vz]) ?_ (hm := by simp) (hv := rfl)
    | (first | refine tl_defer ?_ | refine tc_seq ?_ | refine tc_region ?_ | refine at_seq_normal ?_ | refine tl_nil ?_ | refine tl_cons ?_ | refine tl_cons_none ?_ | refine op_move ?_ | refine op_assign ?_ | refine op_fieldAddr ?_ | refine op_load ?_ | refine op_load_agg ?_ | refine op_indexC ?_ | refine op_indexAddr1 ?_ | refine op_indexAddr ?_ | refine op_icmp ?_ | refine op_fcmp ?_ | refine op_iarith ?_ | refine op_bcmp ?_ | refine op_unop_not ?_ | refine op_unop_neg_float ?_ | refine op_unop_neg_int ?_ | refine op_len_slice ?_ | refine op_pick_true ?_ | refine op_pick_false ?_ | refine op_pick_true' ?_ | refine op_pick_false' ?_ | refine op_build ?_ | refine op_extract ?_ | refine op_makeInterface ?_ | refine op_typeAssert ?_ | refine op_ptr_nil ?_ | refine op_nilCheck_ptr ?_ | refine op_nilCheck_meth ?_ | refine op_makeMeth ?_ | refine op_makeFunc ?_ | refine op_itof ?_ | refine op_itoi ?_ | refine op_ftoi ?_ | refine op_iquo ?_ | refine op_irem ?_ | refine op_ibits ?_ | refine op_slice_isnil ?_ | refine op_slice_notnil ?_ | refine op_imax ?_ | refine op_imin ?_ | refine op_shl ?_ | refine op_shr ?_ | (refine op_alloc ?_; intro _) | (refine op_box ?_; intro _) | (refine op_buildSlice ?_; intro _) | (refine op_farith ?_; intro _ _) | refine op_store0 ?_ | refine op_store1 ?_ | refine op_store2 ?_ | refine op_store3 ?_ | refine op_store4 ?_ | refine op_store5 ?_ | refine op_storeK rfl ?_ | refine op_loadK rfl ?_ | refine op_load_aggK rfl ?_ | refine tc_cond_t ?_ | refine tc_cond_f ?_ | refine tc_cond (fun _ => ?_) (fun _ => ?_) | refine tc_block ?_ | refine tc_skip ?_ | refine tc_ret ?_ | refine tc_exit ?_ | refine tc_label ?_ | refine at_seq_ret ?_ | refine at_seq_exit ?_ | refine at_block_normal ?_ | refine at_block_ret ?_ | refine at_block_exit_self ?_ | refine at_block_exit_ne ?_ | refine at_loop_ret ?_ | refine at_loop_exit ?_ | refine at_loop_goto ?_ | refine tl_guard_yes ?_ | refine tl_guard_no ?_ | refine tl_guard_yes' ?_ | refine tl_guard_no' ?_ | refine tl_guard_undef ?_ | refine tl_guard_split (fun _ => ?_) (fun _ => ?_))
    | fail
  exact ret_tmp (hG := by (repeat (first | exact List.Sublist.refl _ | apply List.Sublist.cons_cons | apply List.Sublist.cons | refine List.Sublist.trans ?_ (List.sublist_append_right _ _)))) (hk := ⟨rfl, rfl⟩)
theorem own : ownKnob Tryd.prog.godebug = none := by kernel_rfl
theorem laid : laidOutB Tryd.prog = true := by kernel_rfl
noncomputable def laidWorld (os : Os) : World := World.doorLaid Tryd.prog 400 os
theorem laid_met (os : Os) : laidMet Tryd.prog Rows.fnMatVecRow.laid ((laidWorld os).forCall (fun _ _ => 0) ⟨#[], #[.agg #[.float .f64 0, .float .f64 0, .float .f64 0, .float .f64 0, .float .f64 0, .float .f64 0, .float .f64 0, .float .f64 0, .float .f64 0], .agg #[.float .f64 0, .float .f64 0, .float .f64 0]], []⟩).memory :=
  laidMet_of_run' 8 (by kernel_rfl) (by kernel_rfl)
theorem reads (os : Os) {H : Type} (enc : TypeId × Value → H) : ∃ places, DataW.whole enc Tryd.prog ((laidWorld os).forCall (fun _ _ => 0) ⟨#[], #[.agg #[.float .f64 0, .float .f64 0, .float .f64 0, .float .f64 0, .float .f64 0, .float .f64 0, .float .f64 0, .float .f64 0, .float .f64 0], .agg #[.float .f64 0, .float .f64 0, .float .f64 0]], []⟩).memory Tryd.f7.params.toList Rows.fnMatVecSpec.vars false (#[.agg #[.float .f64 0, .float .f64 0, .float .f64 0, .float .f64 0, .float .f64 0, .float .f64 0, .float .f64 0, .float .f64 0, .float .f64 0], .agg #[.float .f64 0, .float .f64 0, .float .f64 0]] : Array Value).toList 8 = some ([.agg [.lit (.float .f64 0), .lit (.float .f64 0), .lit (.float .f64 0), .lit (.float .f64 0), .lit (.float .f64 0), .lit (.float .f64 0), .lit (.float .f64 0), .lit (.float .f64 0), .lit (.float .f64 0)], .agg [.lit (.float .f64 0), .lit (.float .f64 0), .lit (.float .f64 0)]], [], places) :=
  ⟨[], by kernel_rfl⟩
set_option maxRecDepth 100000 in
theorem lifted (os : Os) (started : os.Started) (H : Type) (enc : TypeId × Value → H) (F : Stop.Interp) :
    ReturnsInHanded {} Tryd.checked os 7 .any ((OpenSpec.ofChange Rows.fnMatVecSpec).preRow enc Tryd.prog Tryd.f7 Rows.fnMatVecRow.domain false Rows.fnMatVecRow.laid) (((OpenSpec.ofChange Rows.fnMatVecSpec).at F).post enc Tryd.prog Tryd.f7 false true false false) := by
  obtain ⟨places, hx⟩ := reads os enc
  refine returnsInHanded_of_row (C := Tryd.checked) (s := OpenSpec.ofChange Rows.fnMatVecSpec) own started (by kernel_rfl) Tryd.func7
    (witness_row_at (enc := enc) (C := Tryd.checked) false (laidWorld os) #[.agg #[.float .f64 0, .float .f64 0, .float .f64 0, .float .f64 0, .float .f64 0, .float .f64 0, .float .f64 0, .float .f64 0, .float .f64 0], .agg #[.float .f64 0, .float .f64 0, .float .f64 0]] rfl (by kernel_rfl) (by kernel_rfl) (by kernel_rfl)
      (OpenSpec.preRow_of_cond 8 hx (by kernel_rfl) (fun k hk => by cases hk) (by kernel_rfl) (laid_met os))) ?_
  intro W base args ds gs before hval0 hW _ _ hcond hL _ _
  have hval : ∀ (j : Nat) t v, Tryd.f7.params[j]? = some t → args[j]? = some v → Value.okWide Tryd.prog W .any base t v := hval0
  have hW' := hW
  obtain ⟨p, q, hA0, hV, rfl, hfz, hnd⟩ := hW'
  have hA : DataW.TrodAll enc Tryd.prog W 0 (fun _ => true) true Tryd.f7.params.toList args.toList ds p := hA0
  rw [Tryd.params7] at hA hval
  obtain ⟨v0, vs0, d0, ds0, p0, q0, hargs, rfl, rfl, h0, r0⟩ := trodAll_cons hA
  obtain ⟨v1, vs1, d1, ds1, p1, q1, rfl, rfl, rfl, h1, r1⟩ := trodAll_cons r0
  obtain ⟨rfl, rfl, rfl⟩ := trodAll_nil r1
  obtain rfl : args = #[v0, v1] := by cases args; simp_all
  obtain ⟨rfl, rfl⟩ := trodVars_none hV
  obtain ⟨ms0, rfl, hm0⟩ := open_mat Tryd.underlying53 (by kernel_rfl) (by kernel_rfl) Tryd.underlying51 (hval 0 53 v0 rfl rfl) h0
  obtain ⟨x1, y1, z1, rfl, bx1, by1, bz1⟩ := open_p3 Tryd.underlying55 (by kernel_rfl) (by kernel_rfl) Tryd.underlying51 Tryd.underlying51 Tryd.underlying51 (hval 1 55 v1 rfl rfl) h1
  clear hA0 hval0
  refine (calls_of_does (law (H := all W) ms0 hm0 x1 y1 z1) (sees_all W)).mono fun e W' ⟨v, H', he, hs, hv, hH⟩ => ?_
  subst he
  subst hv
  subst hH
  exact ⟨_, rfl, post_law laid (of_decide_eq_true (by kernel_rfl)) rfl hW rfl rfl Tryd.underlying4 hs.below⟩
theorem said : Rows.FnMatVecSaid :=
  OpenClaim.holds_of_cond 7 Tryd.f7 rfl rfl rfl rfl rfl rfl rfl ⟨rfl, rfl, rfl, rfl, rfl⟩ rfl rfl rfl rfl rfl (by kernel_rfl) Tryd.func7 (by kernel_rfl)
    (of_decide_eq_true (by kernel_rfl)) (by unfold Func.isWrapper; first | (rw [if_pos (by decide +kernel)]; kernel_rfl) | (rw [if_neg (by decide +kernel)]; exact ⟨rfl, rfl⟩))
    (fun os started H enc _ F => by rw [OpenClaim.pre_eq_preRow]; exact lifted os started H enc F)
theorem plain (f : FuncId) (fn : Func) (hf : Tryd.pinned.checked.prog.funcNamed "pub-orthodrome/laws.FnMatVec" = some f) (hfn : Tryd.pinned.checked.prog.funcs[f]? = some fn) :
    true = Tryd.pinned.checked.prog.looks [] ∧ ∀ (j : Nat) t, fn.params[j]? = some t → Tryd.pinned.checked.prog.wantsStandIn t = false := by
  obtain rfl : f = 7 := Option.some.inj ((show Tryd.prog.funcNamed "pub-orthodrome/laws.FnMatVec" = some 7 by kernel_rfl).symm.trans hf) |>.symm
  obtain rfl : fn = Tryd.f7 := (Option.some.inj (Tryd.func7.symm.trans hfn)).symm
  refine ⟨by kernel_rfl, fun j t ht => ?_⟩
  rw [Tryd.params7] at ht
  have hm := Array.mem_of_getElem? ht
  simp only [List.mem_toArray, List.mem_cons, List.not_mem_nil, or_false] at hm
  rcases hm with rfl | rfl
  · exact (show Tryd.prog.wantsStandIn 53 = false by kernel_rfl)
  · exact (show Tryd.prog.wantsStandIn 55 = false by kernel_rfl)
/-- The card. -/
theorem proved : Rows.FnMatVecCardSaid :=
  Claim7.holds_tied_plain_at .later [] _ _ _ _ said (fun _ h => by cases h) (by kernel_rfl) (fun _ h => by cases h) fnMatVec_row_tie rfl ⟨rfl, rfl⟩ (by kernel_rfl) rfl plain (by kernel_rfl)
#print axioms proved
end Go.Proofs.YtjalgjeibnjinaaDoor.fnMatVec
