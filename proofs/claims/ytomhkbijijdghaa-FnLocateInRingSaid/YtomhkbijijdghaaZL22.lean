/-
  FnLocateInRing: where a place lies is told exactly of any closed line, and of an open one whose last place it is not. No conditions beyond the statement's own.
-/
import Derived.Test.YtomhkbijijdghaaRows
import Derived.Test.YtomhkbijijdghaaZL4
import Derived.Test.YtomhkbijijdghaaZL21
set_option linter.unusedVariables false
set_option linter.unusedSimpArgs false
namespace Go.Proofs.Ytomhkbijijdghaa.fnLocateInRing
open Go.Lg Go.Proofs.Ytomhkbijijdghaa.Pl Go.Proofs.Ytomhkbijijdghaa.Lmb Go.Proofs.Ytomhkbijijdghaa.Sd Go.Proofs.Ytomhkbijijdghaa.Rno
open Go.ChangeShapes Go.WideShapes Go.RowKit

theorem pf_last (X Y : Nat → Int) : ∀ m i, (pf X Y i (m + 1)).getLast? = some (X (i + m), Y (i + m))
  | 0, i => rfl
  | m + 1, i => by
    show ((X i, Y i) :: (X (i + 1), Y (i + 1)) :: pf X Y (i + 1 + 1) m).getLast? = _
    rw [List.getLast?_cons_cons]
    have := pf_last X Y m (i + 1)
    rw [show i + (m + 1) = i + 1 + m by omega]
    exact this
theorem eqAll_int {x0 xn y0 yn : Nat} {X0 Xn Y0 Yn : Int} (h1 : FI 16777216 x0 X0) (h2 : FI 16777216 xn Xn) (h3 : FI 16777216 y0 Y0) (h4 : FI 16777216 yn Yn) : eqAll [(x0, xn), (y0, yn)] = decide (X0 = Xn ∧ Y0 = Yn) := by
  show (fcmp .eql x0 xn && (fcmp .eql y0 yn && true)) = _
  rw [FI.eql h1 h2, FI.eql h3 h4, Bool.eq_iff_iff]
  simp
theorem isPs_mono {X Y : Nat → Int} {n : Nat} {w : Value} {G G' : Heap} (h : IsPs G w X Y n) (hs : ∀ z ∈ G, z ∈ G') : IsPs G' w X Y n := h.mono hs
theorem one_pair {G : Heap} {k : Nat} {T : TypeId} {fz : Nat × Nat} {x y : Nat} (h : (k, Obj.cells ⟨[.float .f64 x, .float .f64 y]⟩ T fz) ∈ G) : SlN 2 G (.slice (some ⟨k, 0, none⟩) 1 1) ([(x, y)] : List (Nat × Nat)).length ((pairs [(x, y)]).map fl) :=
  ⟨rfl, some ⟨k, 0, none⟩, 1, rfl, Nat.le_refl _, fun _ => ⟨k, 0, _, T, fz, rfl, h, rfl⟩⟩
theorem sln_len {s : Nat} {G : Heap} {v : Value} {n n' : Nat} {cs : List Value} (h : SlN s G v n cs) (e : n' = n) : SlN s G v n' cs := e ▸ h
set_option maxHeartbeats 32000000 in
theorem law {H : Heap} (l : Int) (hwl : -9223372036854775808 ≤ l ∧ l ≤ 9223372036854775807) (px py : Nat) (hpx : px < 18446744073709551616) (hpy : py < 18446744073709551616) (v : Value) (xs : List Nat) (hv : FS H v xs) (hl : xs.length ≤ 9223372036854775807) (hb : ∀ y ∈ xs, y < 2 ^ 64) :
    Does Try.prog 9 [.int .i64 l, .agg ⟨[.float .f64 px, .float .f64 py]⟩, v] H fun w H' => w = .bool true ∧ H' = H := by
  obtain ⟨a, c, rfl⟩ := hv.val
  refine fn_enter 65 Try.func9 fun W => ?_
  by_cases hbig : xs.length > 2147483647
  · have hc : icmp .gtr (xs.length : Int) 2147483647 = true := by simp only [icmp, decide_eq_true_eq]; omega
    repeat' first
      | refine tc_seq ?_ | refine tc_region ?_ | refine at_seq_normal ?_ | refine tl_nil ?_ | refine tl_cons ?_ | refine op_move ?_ | refine op_assign ?_ | refine op_load ?_ | refine op_load_agg ?_ | refine op_indexC ?_
      | refine op_indexAddr1 ?_ | refine op_indexAddr ?_ | refine op_icmp ?_ | refine op_fcmp ?_ | refine op_iarith ?_ | refine op_bcmp ?_ | refine op_unop_not ?_ | refine op_len_slice ?_ | refine op_pick_true ?_ | refine op_pick_false ?_
      | refine op_pick_true' ?_ | refine op_pick_false' ?_ | refine op_extract ?_ | refine op_ptr_nil ?_ | refine op_iquo ?_ | refine op_irem ?_ | refine op_ibits ?_ | refine op_slice_isnil ?_ | refine op_slice_notnil ?_ | refine op_shl ?_
      | refine op_shr ?_ | (refine op_box ?_; intro _) | (refine op_buildSlice ?_; intro _) | (refine op_farith ?_; intro _ _) | refine op_loadK rfl ?_ | refine op_load_aggK rfl ?_ | refine tc_cond_t ?_ | refine tc_cond_f ?_ | refine tc_cond (fun _ => ?_) (fun _ => ?_) | refine tc_skip ?_
      | refine tc_ret ?_ | refine at_seq_ret ?_ | refine tl_guard_yes ?_ | refine tl_guard_no ?_ | refine tl_guard_yes' ?_ | refine tl_guard_no' ?_ | refine tl_guard_undef ?_ | refine tl_guard_split (fun _ => ?_) (fun _ => ?_)
    exact ret_tmp (hk := ⟨rfl, rfl⟩)
  have hc : icmp .gtr (xs.length : Int) 2147483647 = false := by simp only [icmp, decide_eq_false_iff_not]; omega
  repeat' first
    | (refine op_call ((flatTo a c l xs _ (hv.mono fun e he => by simp [he]) (by omega)).mono ?_); rintro _ _ ⟨_, b, rfl, ⟨a2, m, cc2, rfl⟩, hok, ex, rfl⟩)
    | (first | refine tc_seq ?_ | refine tc_region ?_ | refine at_seq_normal ?_ | refine tl_nil ?_ | refine tl_cons ?_ | refine op_move ?_ | refine op_assign ?_ | refine op_load ?_ | refine op_load_agg ?_ | refine op_indexC ?_ | refine op_indexAddr1 ?_ | refine op_indexAddr ?_ | refine op_icmp ?_ | refine op_fcmp ?_ | refine op_iarith ?_ | refine op_bcmp ?_ | refine op_unop_not ?_ | refine op_len_slice ?_ | refine op_pick_true ?_ | refine op_pick_false ?_ | refine op_pick_true' ?_ | refine op_pick_false' ?_ | refine op_extract ?_ | refine op_ptr_nil ?_ | refine op_iquo ?_ | refine op_irem ?_ | refine op_ibits ?_ | refine op_slice_isnil ?_ | refine op_slice_notnil ?_ | refine op_shl ?_ | refine op_shr ?_ | (refine op_box ?_; intro _) | (refine op_buildSlice ?_; intro _) | (refine op_farith ?_; intro _ _) | refine op_loadK rfl ?_ | refine op_load_aggK rfl ?_ | refine tc_cond_t ?_ | refine tc_cond_f ?_ | refine tc_cond (fun _ => ?_) (fun _ => ?_) | refine tc_skip ?_ | refine tc_ret ?_ | refine at_seq_ret ?_ | refine tl_guard_yes ?_ | refine tl_guard_no ?_ | refine tl_guard_yes' ?_ | refine tl_guard_no' ?_ | refine tl_guard_undef ?_ | refine tl_guard_split (fun _ => ?_) (fun _ => ?_) | fail)
    | fail
  cases b with
  | false =>
    apply fun hole0 hole1 hole2 hole3 hole4 hole5 hole6 hole7 hole8 hole9 hole10 hole11 hole12 hole13 hole14 hole15 hole16 hole17 hole18 hole19 hole20 hole21 hole22 hole23 hole24 hole25 hole26 hE hD hml hdl hpr prem fin => tc_drawnD 28 [PhiD.is hole0, PhiD.is hole1, PhiD.is hole2, PhiD.is hole3, PhiD.is hole4, PhiD.is hole5, PhiD.is hole6, PhiD.is hole7, PhiD.is hole8, PhiD.is (id undef), PhiD.is hole9, PhiD.is hole10, PhiD.is hole11, PhiD.is hole12, PhiD.is hole13, PhiD.is hole14, PhiD.is hole15, PhiD.is hole16, PhiD.is hole17, PhiD.is hole18, PhiD.is hole19, PhiD.is hole20, PhiD.is hole21, PhiD.is hole22, PhiD.is hole23, PhiD.is hole24, PhiD.is hole25, PhiD.is hole26]
      [some 20, some 21, some 22, some 23, some 24, some 25, some 26, some 27, some 28, some 29, some 30, some 31, some 32, some 33, some 34, some 35, some 36, some 37, some 38, some 39, some 40, some 41, some 42, some 43, some 44, some 45, some 46, some 47] [[], [0], [1], [2], [3, 2], [4, 2], [2, 5], [6, 2], [7], [8, 7], [9, 7], [10, 7], [7, 11], [12, 10], [13], [14, 13], [15, 13], [16, 15, 13], [17], [17], [19, 17], [20, 17], [18, 21, 17], [22, 17], [17], [23, 24, 17], [17, 25, 13], [13, 26]] mixed trivial prem fin hE hD rfl hml hdl hpr
    rotate_left 28
    · first | kernel_rfl | exact rfl
    · first | kernel_rfl | exact rfl
    · exact Nat.le_of_ble_eq_true rfl
    · first | kernel_rfl | exact rfl
    · first | kernel_rfl | exact rfl
    refine ⟨fun G hG => ?_, fun G hG => ?_, fun G hG => ?_, fun G hG => ?_, fun G hG => ?_, fun G hG => ?_, fun G hG => ?_, fun G hG => ?_, fun G hG => ?_, fun G hG => ?_, fun G hG => ?_, fun G hG => ?_, fun G hG => ?_, fun G hG => ?_, fun G hG => ?_, fun G hG => ?_, fun G hG => ?_, fun G hG => ?_, fun G hG => ?_, fun G hG => ?_, fun G hG => ?_, fun G hG => ?_, fun G hG => ?_, fun G hG => ?_, fun G hG => ?_, fun G hG => ?_, fun G hG => ?_, fun G hG => ?_, trivial⟩
    · simp only [withD, nthD, Step2, nthDst, putO, postD]
      (refine op_move ?_; exact ⟨[], rfl, rfl, rfl⟩)
    · simp only [withD, nthD, Step2, nthDst, putO, postD]
      (refine op_unop_not ?_; exact ⟨[], rfl, rfl, rfl⟩)
    · simp only [withD, nthD, Step2, nthDst, putO, postD]
      (refine op_move ?_; exact ⟨[], rfl, rfl, rfl⟩)
    · simp only [withD, nthD, Step2, nthDst, putO, postD]
      (first | refine .inr ⟨_, rfl, rfl, [], rfl, rfl, rfl⟩ | refine .inl ⟨_, _, rfl, rfl, fun _ => ?_, fun h => absurd h (by first | decide | (refine ne_not ?_; assumption))⟩ | refine .inl ⟨_, _, rfl, rfl, (fun h => absurd h (by first | decide | (refine ne_not2 ?_; assumption))), fun _ => ⟨[], rfl, rfl, rfl⟩⟩)
      (all_goals (refine op_move ?_; exact ⟨[], rfl, rfl, rfl⟩))
    · simp only [withD, nthD, Step2, nthDst, putO, postD]
      (first | refine .inr ⟨_, rfl, rfl, [], rfl, rfl, rfl⟩ | refine .inl ⟨_, _, rfl, rfl, fun _ => ?_, fun h => absurd h (by first | decide | (refine ne_not ?_; assumption))⟩ | refine .inl ⟨_, _, rfl, rfl, (fun h => absurd h (by first | decide | (refine ne_not2 ?_; assumption))), fun _ => ⟨[], rfl, rfl, rfl⟩⟩)
      (all_goals (refine op_len_slice ?_; exact ⟨[], rfl, rfl, rfl⟩))
    · simp only [withD, nthD, Step2, nthDst, putO, postD]
      (first | refine .inr ⟨_, rfl, rfl, [], rfl, rfl, rfl⟩ | refine .inl ⟨_, _, rfl, rfl, fun _ => ?_, fun h => absurd h (by first | decide | (refine ne_not ?_; assumption))⟩ | refine .inl ⟨_, _, rfl, rfl, (fun h => absurd h (by first | decide | (refine ne_not2 ?_; assumption))), fun _ => ⟨[], rfl, rfl, rfl⟩⟩)
      (all_goals (refine op_icmp ?_; exact ⟨[], rfl, rfl, rfl⟩))
    · simp only [withD, nthD, Step2, nthDst, putO, postD]
      ((first | refine op_pick_true ?_ | refine op_pick_false ?_ | refine op_pick_true' ?_ | refine op_pick_false' ?_); exact ⟨[], rfl, rfl, rfl⟩)
    · simp only [withD, nthD, Step2, nthDst, putO, postD]
      (refine op_move ?_; exact ⟨[], rfl, rfl, rfl⟩)
    · simp only [withD, nthD, Step2, nthDst, putO, postD]
      (first | refine .inr ⟨_, rfl, rfl, [], rfl, rfl, rfl⟩ | refine .inl ⟨_, _, rfl, rfl, fun _ => ?_, fun h => absurd h (by first | decide | (refine ne_not ?_; assumption))⟩ | refine .inl ⟨_, _, rfl, rfl, (fun h => absurd h (by first | decide | (refine ne_not2 ?_; assumption))), fun _ => ⟨[], rfl, rfl, rfl⟩⟩)
      (all_goals ((first | refine op_load ?_ | refine op_load_agg ?_ | refine op_load ?_ (hm := Sub.mem (by assumption) (by (repeat (apply List.mem_cons_of_mem)); assumption)) | refine op_load_agg ?_ (hm := Sub.mem (by assumption) (by (repeat (apply List.mem_cons_of_mem)); assumption)) | refine op_loadH hG rfl ?_ | refine op_load_aggH hG rfl ?_); exact ⟨[], rfl, rfl, rfl⟩))
    · simp only [withD, nthD, Step2, nthDst, putO, postD]
      (first | refine .inr ⟨_, rfl, rfl, [], rfl, rfl, rfl⟩ | refine .inl ⟨_, _, rfl, rfl, fun _ => ?_, fun h => absurd h (by first | decide | (refine ne_not ?_; assumption))⟩ | refine .inl ⟨_, _, rfl, rfl, (fun h => absurd h (by first | decide | (refine ne_not2 ?_; assumption))), fun _ => ⟨[], rfl, rfl, rfl⟩⟩)
      (all_goals (skip))
    · simp only [withD, nthD, Step2, nthDst, putO, postD]
      (first | refine .inr ⟨_, rfl, rfl, [], rfl, rfl, rfl⟩ | refine .inl ⟨_, _, rfl, rfl, fun _ => ?_, fun h => absurd h (by first | decide | (refine ne_not ?_; assumption))⟩ | refine .inl ⟨_, _, rfl, rfl, (fun h => absurd h (by first | decide | (refine ne_not2 ?_; assumption))), fun _ => ⟨[], rfl, rfl, rfl⟩⟩)
      (all_goals (first | ((first | refine op_move ?_ | refine op_assign ?_ | refine op_fieldAddr ?_ | refine op_load ?_ | refine op_load_agg ?_ | refine op_indexC ?_ | refine op_indexAddr1 ?_ | refine op_indexAddr ?_ | refine op_icmp ?_ | refine op_fcmp ?_ | refine op_iarith ?_ | refine op_bcmp ?_ | refine op_unop_not ?_ | refine op_unop_neg_float ?_ | refine op_unop_neg_int ?_ | refine op_len_slice ?_ | refine op_pick_true ?_ | refine op_pick_false ?_ | refine op_pick_true' ?_ | refine op_pick_false' ?_ | refine op_build ?_ | refine op_extract ?_ | refine op_makeInterface ?_ | refine op_typeAssert ?_ | refine op_ptr_nil ?_ | refine op_nilCheck_ptr ?_ | refine op_nilCheck_meth ?_ | refine op_makeMeth ?_ | refine op_makeFunc ?_ | refine op_itof ?_ | refine op_itoi ?_ | refine op_ftoi ?_ | refine op_iquo ?_ | refine op_irem ?_ | refine op_ibits ?_ | refine op_slice_isnil ?_ | refine op_slice_notnil ?_ | refine op_imax ?_ | refine op_imin ?_ | refine op_shl ?_ | refine op_shr ?_ | refine op_load ?_ (hm := Sub.mem (by assumption) (by (repeat (apply List.mem_cons_of_mem)); assumption)) | refine op_load_agg ?_ (hm := Sub.mem (by assumption) (by (repeat (apply List.mem_cons_of_mem)); assumption))); exact ⟨[], rfl, rfl, rfl⟩) | (refine op_alloc ?_; intro _; exact ⟨[(_, _)], rfl, ⟨_, rfl, rfl⟩⟩) | (refine op_box ?_; intro _; exact ⟨[(_, _)], rfl, ⟨_, rfl, rfl⟩⟩) | (refine op_buildSlice ?_; intro _; exact ⟨[(_, _)], rfl, ⟨_, rfl, rfl⟩⟩) | (refine op_farith ?_; intro _ h; exact ⟨[], rfl, ⟨_, h, rfl⟩, rfl⟩)))
    · simp only [withD, nthD, Step2, nthDst, putO, postD]
      (first | refine .inr ⟨_, rfl, rfl, [], rfl, rfl, rfl⟩ | refine .inl ⟨_, _, rfl, rfl, fun _ => ?_, fun h => absurd h (by first | decide | (refine ne_not ?_; assumption))⟩ | refine .inl ⟨_, _, rfl, rfl, (fun h => absurd h (by first | decide | (refine ne_not2 ?_; assumption))), fun _ => ⟨[], rfl, rfl, rfl⟩⟩)
      (all_goals (refine op_unop_not ?_; exact ⟨[], rfl, rfl, rfl⟩))
    · simp only [withD, nthD, Step2, nthDst, putO, postD]
      ((first | refine op_pick_true ?_ | refine op_pick_false ?_ | refine op_pick_true' ?_ | refine op_pick_false' ?_); exact ⟨[], rfl, rfl, rfl⟩)
    · simp only [withD, nthD, Step2, nthDst, putO, postD]
      (refine op_move ?_; exact ⟨[], rfl, rfl, rfl⟩)
    · simp only [withD, nthD, Step2, nthDst, putO, postD]
      (first | refine .inr ⟨_, rfl, rfl, [], rfl, rfl, rfl⟩ | refine .inl ⟨_, _, rfl, rfl, fun _ => ?_, fun h => absurd h (by first | decide | (refine ne_not ?_; assumption))⟩ | refine .inl ⟨_, _, rfl, rfl, (fun h => absurd h (by first | decide | (refine ne_not2 ?_; assumption))), fun _ => ⟨[], rfl, rfl, rfl⟩⟩)
      (all_goals (refine op_move ?_; exact ⟨[], rfl, rfl, rfl⟩))
    · simp only [withD, nthD, Step2, nthDst, putO, postD]
      (first | refine .inr ⟨_, rfl, rfl, [], rfl, rfl, rfl⟩ | refine .inl ⟨_, _, rfl, rfl, fun _ => ?_, fun h => absurd h (by first | decide | (refine ne_not ?_; assumption))⟩ | refine .inl ⟨_, _, rfl, rfl, (fun h => absurd h (by first | decide | (refine ne_not2 ?_; assumption))), fun _ => ⟨[], rfl, rfl, rfl⟩⟩)
      (all_goals (first | ((first | refine op_move ?_ | refine op_assign ?_ | refine op_fieldAddr ?_ | refine op_load ?_ | refine op_load_agg ?_ | refine op_indexC ?_ | refine op_indexAddr1 ?_ | refine op_indexAddr ?_ | refine op_icmp ?_ | refine op_fcmp ?_ | refine op_iarith ?_ | refine op_bcmp ?_ | refine op_unop_not ?_ | refine op_unop_neg_float ?_ | refine op_unop_neg_int ?_ | refine op_len_slice ?_ | refine op_pick_true ?_ | refine op_pick_false ?_ | refine op_pick_true' ?_ | refine op_pick_false' ?_ | refine op_build ?_ | refine op_extract ?_ | refine op_makeInterface ?_ | refine op_typeAssert ?_ | refine op_ptr_nil ?_ | refine op_nilCheck_ptr ?_ | refine op_nilCheck_meth ?_ | refine op_makeMeth ?_ | refine op_makeFunc ?_ | refine op_itof ?_ | refine op_itoi ?_ | refine op_ftoi ?_ | refine op_iquo ?_ | refine op_irem ?_ | refine op_ibits ?_ | refine op_slice_isnil ?_ | refine op_slice_notnil ?_ | refine op_imax ?_ | refine op_imin ?_ | refine op_shl ?_ | refine op_shr ?_ | refine op_load ?_ (hm := Sub.mem (by assumption) (by (repeat (apply List.mem_cons_of_mem)); assumption)) | refine op_load_agg ?_ (hm := Sub.mem (by assumption) (by (repeat (apply List.mem_cons_of_mem)); assumption))); exact ⟨[], rfl, rfl, rfl⟩) | (refine op_alloc ?_; intro _; exact ⟨[(_, _)], rfl, ⟨_, rfl, rfl⟩⟩) | (refine op_box ?_; intro _; exact ⟨[(_, _)], rfl, ⟨_, rfl, rfl⟩⟩) | (refine op_buildSlice ?_; intro _; exact ⟨[(_, _)], rfl, ⟨_, rfl, rfl⟩⟩) | (refine op_farith ?_; intro _ h; exact ⟨[], rfl, ⟨_, h, rfl⟩, rfl⟩)))
    · simp only [withD, nthD, Step2, nthDst, putO, postD]
      (first | refine .inr ⟨_, rfl, rfl, [], rfl, rfl, rfl⟩ | refine .inl ⟨_, _, rfl, rfl, fun _ => ?_, fun h => absurd h (by first | decide | (refine ne_not ?_; assumption))⟩ | refine .inl ⟨_, _, rfl, rfl, (fun h => absurd h (by first | decide | (refine ne_not2 ?_; assumption))), fun _ => ⟨[], rfl, rfl, rfl⟩⟩)
      (all_goals (refine op_unop_not ?_; exact ⟨[], rfl, rfl, rfl⟩))
    · simp only [withD, nthD, Step2, nthDst, putO, postD]
      (first | refine .inr ⟨_, rfl, rfl, [], rfl, rfl, rfl⟩ | refine .inl ⟨_, _, rfl, rfl, fun _ => ?_, fun h => absurd h (by first | decide | (refine ne_not ?_; assumption))⟩ | refine .inl ⟨_, _, rfl, rfl, (fun h => absurd h (by first | decide | (refine ne_not2 ?_; assumption))), fun _ => ⟨[], rfl, rfl, rfl⟩⟩)
      (all_goals (refine op_move ?_; exact ⟨[], rfl, rfl, rfl⟩))
    · simp only [withD, nthD, Step2, nthDst, putO, postD]
      (first | refine .inr ⟨_, rfl, rfl, [], rfl, rfl, rfl⟩ | refine .inl ⟨_, _, rfl, rfl, fun _ => ?_, fun h => absurd h (by first | decide | (refine ne_not ?_; assumption))⟩ | refine .inl ⟨_, _, rfl, rfl, (fun h => absurd h (by first | decide | (refine ne_not2 ?_; assumption))), fun _ => ⟨[], rfl, rfl, rfl⟩⟩)
      (all_goals (refine op_move ?_; exact ⟨[], rfl, rfl, rfl⟩))
    · simp only [withD, nthD, Step2, nthDst, putO, postD]
      (first | refine .inr ⟨_, rfl, rfl, [], rfl, rfl, rfl⟩ | refine .inl ⟨_, _, rfl, rfl, fun _ => ?_, fun h => absurd h (by first | decide | (refine ne_not ?_; assumption))⟩ | refine .inl ⟨_, _, rfl, rfl, (fun h => absurd h (by first | decide | (refine ne_not2 ?_; assumption))), fun _ => ⟨[], rfl, rfl, rfl⟩⟩)
      (all_goals (refine op_move ?_; exact ⟨[], rfl, rfl, rfl⟩))
    · simp only [withD, nthD, Step2, nthDst, putO, postD]
      (first | refine .inr ⟨_, rfl, rfl, [], rfl, rfl, rfl⟩ | refine .inl ⟨_, _, rfl, rfl, fun _ => ?_, fun h => absurd h (by first | decide | (refine ne_not ?_; assumption))⟩ | refine .inl ⟨_, _, rfl, rfl, (fun h => absurd h (by first | decide | (refine ne_not2 ?_; assumption))), fun _ => ⟨[], rfl, rfl, rfl⟩⟩)
      (all_goals (refine op_len_slice ?_; exact ⟨[], rfl, rfl, rfl⟩))
    · simp only [withD, nthD, Step2, nthDst, putO, postD]
      (first | refine .inr ⟨_, rfl, rfl, [], rfl, rfl, rfl⟩ | refine .inl ⟨_, _, rfl, rfl, fun _ => ?_, fun h => absurd h (by first | decide | (refine ne_not ?_; assumption))⟩ | refine .inl ⟨_, _, rfl, rfl, (fun h => absurd h (by first | decide | (refine ne_not2 ?_; assumption))), fun _ => ⟨[], rfl, rfl, rfl⟩⟩)
      (all_goals (refine op_iarith ?_; exact ⟨[], rfl, rfl, rfl⟩))
    · simp only [withD, nthD, Step2, nthDst, putO, postD]
      (first | refine .inr ⟨_, rfl, rfl, [], rfl, rfl, rfl⟩ | refine .inl ⟨_, _, rfl, rfl, fun _ => ?_, fun h => absurd h (by first | decide | (refine ne_not ?_; assumption))⟩ | refine .inl ⟨_, _, rfl, rfl, (fun h => absurd h (by first | decide | (refine ne_not2 ?_; assumption))), fun _ => ⟨[], rfl, rfl, rfl⟩⟩)
      (all_goals ((first | refine op_indexC ?_ | refine op_indexAddr1 ?_ | refine op_indexAddr ?_); exact ⟨[], rfl, rfl, rfl⟩))
    · simp only [withD, nthD, Step2, nthDst, putO, postD]
      (first | refine .inr ⟨_, rfl, rfl, [], rfl, rfl, rfl⟩ | refine .inl ⟨_, _, rfl, rfl, fun _ => ?_, fun h => absurd h (by first | decide | (refine ne_not ?_; assumption))⟩ | refine .inl ⟨_, _, rfl, rfl, (fun h => absurd h (by first | decide | (refine ne_not2 ?_; assumption))), fun _ => ⟨[], rfl, rfl, rfl⟩⟩)
      (all_goals ((first | refine op_load ?_ | refine op_load_agg ?_ | refine op_load ?_ (hm := Sub.mem (by assumption) (by (repeat (apply List.mem_cons_of_mem)); assumption)) | refine op_load_agg ?_ (hm := Sub.mem (by assumption) (by (repeat (apply List.mem_cons_of_mem)); assumption)) | refine op_loadH hG rfl ?_ | refine op_load_aggH hG rfl ?_); exact ⟨[], rfl, rfl, rfl⟩))
    · simp only [withD, nthD, Step2, nthDst, putO, postD]
      (first | refine .inr ⟨_, rfl, rfl, [], rfl, rfl, rfl⟩ | refine .inl ⟨_, _, rfl, rfl, fun _ => ?_, fun h => absurd h (by first | decide | (refine ne_not ?_; assumption))⟩ | refine .inl ⟨_, _, rfl, rfl, (fun h => absurd h (by first | decide | (refine ne_not2 ?_; assumption))), fun _ => ⟨[], rfl, rfl, rfl⟩⟩)
      (all_goals ((first | refine op_load ?_ | refine op_load_agg ?_ | refine op_load ?_ (hm := Sub.mem (by assumption) (by (repeat (apply List.mem_cons_of_mem)); assumption)) | refine op_load_agg ?_ (hm := Sub.mem (by assumption) (by (repeat (apply List.mem_cons_of_mem)); assumption)) | refine op_loadH hG rfl ?_ | refine op_load_aggH hG rfl ?_); exact ⟨[], rfl, rfl, rfl⟩))
    · simp only [withD, nthD, Step2, nthDst, putO, postD]
      (first | refine .inr ⟨_, rfl, rfl, [], rfl, rfl, rfl⟩ | refine .inl ⟨_, _, rfl, rfl, fun _ => ?_, fun h => absurd h (by first | decide | (refine ne_not ?_; assumption))⟩ | refine .inl ⟨_, _, rfl, rfl, (fun h => absurd h (by first | decide | (refine ne_not2 ?_; assumption))), fun _ => ⟨[], rfl, rfl, rfl⟩⟩)
      (all_goals (first | ((first | refine op_icmp ?_ | refine op_fcmp ?_ | refine op_iarith ?_ | refine op_bcmp ?_ | refine op_iquo ?_ | refine op_irem ?_ | refine op_ibits ?_ | refine op_shl ?_ | refine op_shr ?_ | refine op_slice_isnil ?_ | refine op_slice_notnil ?_ | refine op_ptr_nil ?_); exact ⟨[], rfl, rfl, rfl⟩) | (refine op_farith ?_; intro _ h; exact ⟨[], rfl, ⟨_, h, rfl⟩, rfl⟩)))
    · simp only [withD, nthD, Step2, nthDst, putO, postD]
      (first | refine .inr ⟨_, rfl, rfl, [], rfl, rfl, rfl⟩ | refine .inl ⟨_, _, rfl, rfl, fun _ => ?_, fun h => absurd h (by first | decide | (refine ne_not ?_; assumption))⟩ | refine .inl ⟨_, _, rfl, rfl, (fun h => absurd h (by first | decide | (refine ne_not2 ?_; assumption))), fun _ => ⟨[], rfl, rfl, rfl⟩⟩)
      (all_goals ((first | refine op_pick_true ?_ | refine op_pick_false ?_ | refine op_pick_true' ?_ | refine op_pick_false' ?_); exact ⟨[], rfl, rfl, rfl⟩))
    · simp only [withD, nthD, Step2, nthDst, putO, postD]
      ((first | refine op_pick_true ?_ | refine op_pick_false ?_ | refine op_pick_true' ?_ | refine op_pick_false' ?_); exact ⟨[], rfl, rfl, rfl⟩)
    simp only [FinalsD, nthDst, putO, List.drop_succ_cons, List.drop_zero]
    rintro -
    repeat' first
      | refine tc_seq ?_ | refine tc_region ?_ | refine at_seq_normal ?_ | refine tl_nil ?_ | refine tl_cons ?_ | refine op_move ?_ | refine op_assign ?_ | refine op_load ?_ | refine op_load_agg ?_ | refine op_indexC ?_
      | refine op_indexAddr1 ?_ | refine op_indexAddr ?_ | refine op_icmp ?_ | refine op_fcmp ?_ | refine op_iarith ?_ | refine op_bcmp ?_ | refine op_unop_not ?_ | refine op_len_slice ?_ | refine op_pick_true ?_ | refine op_pick_false ?_
      | refine op_pick_true' ?_ | refine op_pick_false' ?_ | refine op_extract ?_ | refine op_ptr_nil ?_ | refine op_iquo ?_ | refine op_irem ?_ | refine op_ibits ?_ | refine op_slice_isnil ?_ | refine op_slice_notnil ?_ | refine op_shl ?_
      | refine op_shr ?_ | (refine op_box ?_; intro _) | (refine op_buildSlice ?_; intro _) | (refine op_farith ?_; intro _ _) | refine op_loadK rfl ?_ | refine op_load_aggK rfl ?_ | refine tc_cond_t ?_ | refine tc_cond_f ?_ | refine tc_cond (fun _ => ?_) (fun _ => ?_) | refine tc_skip ?_
      | refine tc_ret ?_ | refine at_seq_ret ?_ | refine tl_guard_yes ?_ | refine tl_guard_no ?_ | refine tl_guard_yes' ?_ | refine tl_guard_no' ?_ | refine tl_guard_undef ?_ | refine tl_guard_split (fun _ => ?_) (fun _ => ?_)
    exact ret_tmp (hG := by (repeat (first | exact List.Sublist.refl _ | apply List.Sublist.cons_cons | apply List.Sublist.cons | refine List.Sublist.trans ?_ (List.sublist_append_right _ _)))) (hk := ⟨rfl, rfl⟩)
  | true =>
    obtain ⟨stp, n, ⟨hl1, hl8, hst, hs2, hs8, hn, hn200⟩, hsl, hW⟩ := hok rfl
    obtain rfl : m = n := by
      obtain ⟨_, _, he, _⟩ := hsl.val
      cases he; rfl
    by_cases hm2 : m < 2
    · have c2 : icmp .lss (m : Int) 2 = true := by simp only [icmp, decide_eq_true_eq]; omega
      apply fun hole0 hole1 hole2 hole3 hole4 hole5 hole6 hole7 hole8 hole9 hole10 hole11 hole12 hole13 hole14 hole15 hole16 hole17 hole18 hole19 hole20 hole21 hole22 hole23 hole24 hole25 hE hD hml hdl hpr prem fin => tc_drawnD 28 [PhiD.is hole0, PhiD.is hole1, PhiD.is hole2, PhiD.is hole3, PhiD.is hole4, PhiD.is (.bool true), PhiD.is hole5, PhiD.is hole6, PhiD.is hole7, PhiD.is (id undef), PhiD.is hole8, PhiD.is hole9, PhiD.is hole10, PhiD.is hole11, PhiD.is hole12, PhiD.is hole13, PhiD.is hole14, PhiD.is hole15, PhiD.is hole16, PhiD.is hole17, PhiD.is hole18, PhiD.is hole19, PhiD.is hole20, PhiD.is hole21, PhiD.is hole22, PhiD.is hole23, PhiD.is hole24, PhiD.is hole25]
        [some 20, some 21, some 22, some 23, some 24, some 25, some 26, some 27, some 28, some 29, some 30, some 31, some 32, some 33, some 34, some 35, some 36, some 37, some 38, some 39, some 40, some 41, some 42, some 43, some 44, some 45, some 46, some 47] [[], [0], [1], [2], [3, 2], [4, 2], [2, 5], [6, 2], [7], [8, 7], [9, 7], [10, 7], [7, 11], [12, 10], [13], [14, 13], [15, 13], [16, 15, 13], [17], [17], [19, 17], [20, 17], [18, 21, 17], [22, 17], [17], [23, 24, 17], [17, 25, 13], [13, 26]] mixed trivial prem fin hE hD rfl hml hdl hpr
      rotate_left 27
      · first | kernel_rfl | exact rfl
      · first | kernel_rfl | exact rfl
      · exact Nat.le_of_ble_eq_true rfl
      · first | kernel_rfl | exact rfl
      · first | kernel_rfl | exact rfl
      refine ⟨fun G hG => ?_, fun G hG => ?_, fun G hG => ?_, fun G hG => ?_, fun G hG => ?_, fun G hG => ?_, fun G hG => ?_, fun G hG => ?_, fun G hG => ?_, fun G hG => ?_, fun G hG => ?_, fun G hG => ?_, fun G hG => ?_, fun G hG => ?_, fun G hG => ?_, fun G hG => ?_, fun G hG => ?_, fun G hG => ?_, fun G hG => ?_, fun G hG => ?_, fun G hG => ?_, fun G hG => ?_, fun G hG => ?_, fun G hG => ?_, fun G hG => ?_, fun G hG => ?_, fun G hG => ?_, fun G hG => ?_, trivial⟩
      · simp only [withD, nthD, Step2, nthDst, putO, postD]
        (refine op_move ?_; exact ⟨[], rfl, rfl, rfl⟩)
      · simp only [withD, nthD, Step2, nthDst, putO, postD]
        (refine op_unop_not ?_; exact ⟨[], rfl, rfl, rfl⟩)
      · simp only [withD, nthD, Step2, nthDst, putO, postD]
        (refine op_move ?_; exact ⟨[], rfl, rfl, rfl⟩)
      · simp only [withD, nthD, Step2, nthDst, putO, postD]
        (first | refine .inr ⟨_, rfl, rfl, [], rfl, rfl, rfl⟩ | refine .inl ⟨_, _, rfl, rfl, fun _ => ?_, fun h => absurd h (by first | decide | (refine ne_not ?_; assumption))⟩ | refine .inl ⟨_, _, rfl, rfl, (fun h => absurd h (by first | decide | (refine ne_not2 ?_; assumption))), fun _ => ⟨[], rfl, rfl, rfl⟩⟩)
        (all_goals (refine op_move ?_; exact ⟨[], rfl, rfl, rfl⟩))
      · simp only [withD, nthD, Step2, nthDst, putO, postD]
        (first | refine .inr ⟨_, rfl, rfl, [], rfl, rfl, rfl⟩ | refine .inl ⟨_, _, rfl, rfl, fun _ => ?_, fun h => absurd h (by first | decide | (refine ne_not ?_; assumption))⟩ | refine .inl ⟨_, _, rfl, rfl, (fun h => absurd h (by first | decide | (refine ne_not2 ?_; assumption))), fun _ => ⟨[], rfl, rfl, rfl⟩⟩)
        (all_goals (refine op_len_slice ?_; exact ⟨[], rfl, rfl, rfl⟩))
      · simp only [withD, nthD, Step2, nthDst, putO, postD]
        (first | refine .inr ⟨_, rfl, rfl, [], rfl, rfl, rfl⟩ | refine .inl ⟨_, _, rfl, rfl, fun _ => ?_, fun h => absurd h (by first | decide | (refine ne_not ?_; assumption))⟩ | refine .inl ⟨_, _, rfl, rfl, (fun h => absurd h (by first | decide | (refine ne_not2 ?_; assumption))), fun _ => ⟨[], rfl, rfl, rfl⟩⟩)
        (all_goals ((refine op_icmp ?_; rw [c2]; exact ⟨[], rfl, rfl, rfl⟩)))
      · simp only [withD, nthD, Step2, nthDst, putO, postD]
        ((first | refine op_pick_true ?_ | refine op_pick_false ?_ | refine op_pick_true' ?_ | refine op_pick_false' ?_); exact ⟨[], rfl, rfl, rfl⟩)
      · simp only [withD, nthD, Step2, nthDst, putO, postD]
        (refine op_move ?_; exact ⟨[], rfl, rfl, rfl⟩)
      · simp only [withD, nthD, Step2, nthDst, putO, postD]
        (first | refine .inr ⟨_, rfl, rfl, [], rfl, rfl, rfl⟩ | refine .inl ⟨_, _, rfl, rfl, fun _ => ?_, fun h => absurd h (by first | decide | (refine ne_not ?_; assumption))⟩ | refine .inl ⟨_, _, rfl, rfl, (fun h => absurd h (by first | decide | (refine ne_not2 ?_; assumption))), fun _ => ⟨[], rfl, rfl, rfl⟩⟩)
        (all_goals ((first | refine op_load ?_ | refine op_load_agg ?_ | refine op_load ?_ (hm := Sub.mem (by assumption) (by (repeat (apply List.mem_cons_of_mem)); assumption)) | refine op_load_agg ?_ (hm := Sub.mem (by assumption) (by (repeat (apply List.mem_cons_of_mem)); assumption)) | refine op_loadH hG rfl ?_ | refine op_load_aggH hG rfl ?_); exact ⟨[], rfl, rfl, rfl⟩))
      · simp only [withD, nthD, Step2, nthDst, putO, postD]
        (first | refine .inr ⟨_, rfl, rfl, [], rfl, rfl, rfl⟩ | refine .inl ⟨_, _, rfl, rfl, fun _ => ?_, fun h => absurd h (by first | decide | (refine ne_not ?_; assumption))⟩ | refine .inl ⟨_, _, rfl, rfl, (fun h => absurd h (by first | decide | (refine ne_not2 ?_; assumption))), fun _ => ⟨[], rfl, rfl, rfl⟩⟩)
        (all_goals (skip))
      · simp only [withD, nthD, Step2, nthDst, putO, postD]
        (first | refine .inr ⟨_, rfl, rfl, [], rfl, rfl, rfl⟩ | refine .inl ⟨_, _, rfl, rfl, fun _ => ?_, fun h => absurd h (by first | decide | (refine ne_not ?_; assumption))⟩ | refine .inl ⟨_, _, rfl, rfl, (fun h => absurd h (by first | decide | (refine ne_not2 ?_; assumption))), fun _ => ⟨[], rfl, rfl, rfl⟩⟩)
        (all_goals (first | ((first | refine op_move ?_ | refine op_assign ?_ | refine op_fieldAddr ?_ | refine op_load ?_ | refine op_load_agg ?_ | refine op_indexC ?_ | refine op_indexAddr1 ?_ | refine op_indexAddr ?_ | refine op_icmp ?_ | refine op_fcmp ?_ | refine op_iarith ?_ | refine op_bcmp ?_ | refine op_unop_not ?_ | refine op_unop_neg_float ?_ | refine op_unop_neg_int ?_ | refine op_len_slice ?_ | refine op_pick_true ?_ | refine op_pick_false ?_ | refine op_pick_true' ?_ | refine op_pick_false' ?_ | refine op_build ?_ | refine op_extract ?_ | refine op_makeInterface ?_ | refine op_typeAssert ?_ | refine op_ptr_nil ?_ | refine op_nilCheck_ptr ?_ | refine op_nilCheck_meth ?_ | refine op_makeMeth ?_ | refine op_makeFunc ?_ | refine op_itof ?_ | refine op_itoi ?_ | refine op_ftoi ?_ | refine op_iquo ?_ | refine op_irem ?_ | refine op_ibits ?_ | refine op_slice_isnil ?_ | refine op_slice_notnil ?_ | refine op_imax ?_ | refine op_imin ?_ | refine op_shl ?_ | refine op_shr ?_ | refine op_load ?_ (hm := Sub.mem (by assumption) (by (repeat (apply List.mem_cons_of_mem)); assumption)) | refine op_load_agg ?_ (hm := Sub.mem (by assumption) (by (repeat (apply List.mem_cons_of_mem)); assumption))); exact ⟨[], rfl, rfl, rfl⟩) | (refine op_alloc ?_; intro _; exact ⟨[(_, _)], rfl, ⟨_, rfl, rfl⟩⟩) | (refine op_box ?_; intro _; exact ⟨[(_, _)], rfl, ⟨_, rfl, rfl⟩⟩) | (refine op_buildSlice ?_; intro _; exact ⟨[(_, _)], rfl, ⟨_, rfl, rfl⟩⟩) | (refine op_farith ?_; intro _ h; exact ⟨[], rfl, ⟨_, h, rfl⟩, rfl⟩)))
      · simp only [withD, nthD, Step2, nthDst, putO, postD]
        (first | refine .inr ⟨_, rfl, rfl, [], rfl, rfl, rfl⟩ | refine .inl ⟨_, _, rfl, rfl, fun _ => ?_, fun h => absurd h (by first | decide | (refine ne_not ?_; assumption))⟩ | refine .inl ⟨_, _, rfl, rfl, (fun h => absurd h (by first | decide | (refine ne_not2 ?_; assumption))), fun _ => ⟨[], rfl, rfl, rfl⟩⟩)
        (all_goals (refine op_unop_not ?_; exact ⟨[], rfl, rfl, rfl⟩))
      · simp only [withD, nthD, Step2, nthDst, putO, postD]
        ((first | refine op_pick_true ?_ | refine op_pick_false ?_ | refine op_pick_true' ?_ | refine op_pick_false' ?_); exact ⟨[], rfl, rfl, rfl⟩)
      · simp only [withD, nthD, Step2, nthDst, putO, postD]
        (refine op_move ?_; exact ⟨[], rfl, rfl, rfl⟩)
      · simp only [withD, nthD, Step2, nthDst, putO, postD]
        (first | refine .inr ⟨_, rfl, rfl, [], rfl, rfl, rfl⟩ | refine .inl ⟨_, _, rfl, rfl, fun _ => ?_, fun h => absurd h (by first | decide | (refine ne_not ?_; assumption))⟩ | refine .inl ⟨_, _, rfl, rfl, (fun h => absurd h (by first | decide | (refine ne_not2 ?_; assumption))), fun _ => ⟨[], rfl, rfl, rfl⟩⟩)
        (all_goals (refine op_move ?_; exact ⟨[], rfl, rfl, rfl⟩))
      · simp only [withD, nthD, Step2, nthDst, putO, postD]
        (first | refine .inr ⟨_, rfl, rfl, [], rfl, rfl, rfl⟩ | refine .inl ⟨_, _, rfl, rfl, fun _ => ?_, fun h => absurd h (by first | decide | (refine ne_not ?_; assumption))⟩ | refine .inl ⟨_, _, rfl, rfl, (fun h => absurd h (by first | decide | (refine ne_not2 ?_; assumption))), fun _ => ⟨[], rfl, rfl, rfl⟩⟩)
        (all_goals (first | ((first | refine op_move ?_ | refine op_assign ?_ | refine op_fieldAddr ?_ | refine op_load ?_ | refine op_load_agg ?_ | refine op_indexC ?_ | refine op_indexAddr1 ?_ | refine op_indexAddr ?_ | refine op_icmp ?_ | refine op_fcmp ?_ | refine op_iarith ?_ | refine op_bcmp ?_ | refine op_unop_not ?_ | refine op_unop_neg_float ?_ | refine op_unop_neg_int ?_ | refine op_len_slice ?_ | refine op_pick_true ?_ | refine op_pick_false ?_ | refine op_pick_true' ?_ | refine op_pick_false' ?_ | refine op_build ?_ | refine op_extract ?_ | refine op_makeInterface ?_ | refine op_typeAssert ?_ | refine op_ptr_nil ?_ | refine op_nilCheck_ptr ?_ | refine op_nilCheck_meth ?_ | refine op_makeMeth ?_ | refine op_makeFunc ?_ | refine op_itof ?_ | refine op_itoi ?_ | refine op_ftoi ?_ | refine op_iquo ?_ | refine op_irem ?_ | refine op_ibits ?_ | refine op_slice_isnil ?_ | refine op_slice_notnil ?_ | refine op_imax ?_ | refine op_imin ?_ | refine op_shl ?_ | refine op_shr ?_ | refine op_load ?_ (hm := Sub.mem (by assumption) (by (repeat (apply List.mem_cons_of_mem)); assumption)) | refine op_load_agg ?_ (hm := Sub.mem (by assumption) (by (repeat (apply List.mem_cons_of_mem)); assumption))); exact ⟨[], rfl, rfl, rfl⟩) | (refine op_alloc ?_; intro _; exact ⟨[(_, _)], rfl, ⟨_, rfl, rfl⟩⟩) | (refine op_box ?_; intro _; exact ⟨[(_, _)], rfl, ⟨_, rfl, rfl⟩⟩) | (refine op_buildSlice ?_; intro _; exact ⟨[(_, _)], rfl, ⟨_, rfl, rfl⟩⟩) | (refine op_farith ?_; intro _ h; exact ⟨[], rfl, ⟨_, h, rfl⟩, rfl⟩)))
      · simp only [withD, nthD, Step2, nthDst, putO, postD]
        (first | refine .inr ⟨_, rfl, rfl, [], rfl, rfl, rfl⟩ | refine .inl ⟨_, _, rfl, rfl, fun _ => ?_, fun h => absurd h (by first | decide | (refine ne_not ?_; assumption))⟩ | refine .inl ⟨_, _, rfl, rfl, (fun h => absurd h (by first | decide | (refine ne_not2 ?_; assumption))), fun _ => ⟨[], rfl, rfl, rfl⟩⟩)
        (all_goals (refine op_unop_not ?_; exact ⟨[], rfl, rfl, rfl⟩))
      · simp only [withD, nthD, Step2, nthDst, putO, postD]
        (first | refine .inr ⟨_, rfl, rfl, [], rfl, rfl, rfl⟩ | refine .inl ⟨_, _, rfl, rfl, fun _ => ?_, fun h => absurd h (by first | decide | (refine ne_not ?_; assumption))⟩ | refine .inl ⟨_, _, rfl, rfl, (fun h => absurd h (by first | decide | (refine ne_not2 ?_; assumption))), fun _ => ⟨[], rfl, rfl, rfl⟩⟩)
        (all_goals (refine op_move ?_; exact ⟨[], rfl, rfl, rfl⟩))
      · simp only [withD, nthD, Step2, nthDst, putO, postD]
        (first | refine .inr ⟨_, rfl, rfl, [], rfl, rfl, rfl⟩ | refine .inl ⟨_, _, rfl, rfl, fun _ => ?_, fun h => absurd h (by first | decide | (refine ne_not ?_; assumption))⟩ | refine .inl ⟨_, _, rfl, rfl, (fun h => absurd h (by first | decide | (refine ne_not2 ?_; assumption))), fun _ => ⟨[], rfl, rfl, rfl⟩⟩)
        (all_goals (refine op_move ?_; exact ⟨[], rfl, rfl, rfl⟩))
      · simp only [withD, nthD, Step2, nthDst, putO, postD]
        (first | refine .inr ⟨_, rfl, rfl, [], rfl, rfl, rfl⟩ | refine .inl ⟨_, _, rfl, rfl, fun _ => ?_, fun h => absurd h (by first | decide | (refine ne_not ?_; assumption))⟩ | refine .inl ⟨_, _, rfl, rfl, (fun h => absurd h (by first | decide | (refine ne_not2 ?_; assumption))), fun _ => ⟨[], rfl, rfl, rfl⟩⟩)
        (all_goals (refine op_move ?_; exact ⟨[], rfl, rfl, rfl⟩))
      · simp only [withD, nthD, Step2, nthDst, putO, postD]
        (first | refine .inr ⟨_, rfl, rfl, [], rfl, rfl, rfl⟩ | refine .inl ⟨_, _, rfl, rfl, fun _ => ?_, fun h => absurd h (by first | decide | (refine ne_not ?_; assumption))⟩ | refine .inl ⟨_, _, rfl, rfl, (fun h => absurd h (by first | decide | (refine ne_not2 ?_; assumption))), fun _ => ⟨[], rfl, rfl, rfl⟩⟩)
        (all_goals (refine op_len_slice ?_; exact ⟨[], rfl, rfl, rfl⟩))
      · simp only [withD, nthD, Step2, nthDst, putO, postD]
        (first | refine .inr ⟨_, rfl, rfl, [], rfl, rfl, rfl⟩ | refine .inl ⟨_, _, rfl, rfl, fun _ => ?_, fun h => absurd h (by first | decide | (refine ne_not ?_; assumption))⟩ | refine .inl ⟨_, _, rfl, rfl, (fun h => absurd h (by first | decide | (refine ne_not2 ?_; assumption))), fun _ => ⟨[], rfl, rfl, rfl⟩⟩)
        (all_goals (refine op_iarith ?_; exact ⟨[], rfl, rfl, rfl⟩))
      · simp only [withD, nthD, Step2, nthDst, putO, postD]
        (first | refine .inr ⟨_, rfl, rfl, [], rfl, rfl, rfl⟩ | refine .inl ⟨_, _, rfl, rfl, fun _ => ?_, fun h => absurd h (by first | decide | (refine ne_not ?_; assumption))⟩ | refine .inl ⟨_, _, rfl, rfl, (fun h => absurd h (by first | decide | (refine ne_not2 ?_; assumption))), fun _ => ⟨[], rfl, rfl, rfl⟩⟩)
        (all_goals ((first | refine op_indexC ?_ | refine op_indexAddr1 ?_ | refine op_indexAddr ?_); exact ⟨[], rfl, rfl, rfl⟩))
      · simp only [withD, nthD, Step2, nthDst, putO, postD]
        (first | refine .inr ⟨_, rfl, rfl, [], rfl, rfl, rfl⟩ | refine .inl ⟨_, _, rfl, rfl, fun _ => ?_, fun h => absurd h (by first | decide | (refine ne_not ?_; assumption))⟩ | refine .inl ⟨_, _, rfl, rfl, (fun h => absurd h (by first | decide | (refine ne_not2 ?_; assumption))), fun _ => ⟨[], rfl, rfl, rfl⟩⟩)
        (all_goals ((first | refine op_load ?_ | refine op_load_agg ?_ | refine op_load ?_ (hm := Sub.mem (by assumption) (by (repeat (apply List.mem_cons_of_mem)); assumption)) | refine op_load_agg ?_ (hm := Sub.mem (by assumption) (by (repeat (apply List.mem_cons_of_mem)); assumption)) | refine op_loadH hG rfl ?_ | refine op_load_aggH hG rfl ?_); exact ⟨[], rfl, rfl, rfl⟩))
      · simp only [withD, nthD, Step2, nthDst, putO, postD]
        (first | refine .inr ⟨_, rfl, rfl, [], rfl, rfl, rfl⟩ | refine .inl ⟨_, _, rfl, rfl, fun _ => ?_, fun h => absurd h (by first | decide | (refine ne_not ?_; assumption))⟩ | refine .inl ⟨_, _, rfl, rfl, (fun h => absurd h (by first | decide | (refine ne_not2 ?_; assumption))), fun _ => ⟨[], rfl, rfl, rfl⟩⟩)
        (all_goals ((first | refine op_load ?_ | refine op_load_agg ?_ | refine op_load ?_ (hm := Sub.mem (by assumption) (by (repeat (apply List.mem_cons_of_mem)); assumption)) | refine op_load_agg ?_ (hm := Sub.mem (by assumption) (by (repeat (apply List.mem_cons_of_mem)); assumption)) | refine op_loadH hG rfl ?_ | refine op_load_aggH hG rfl ?_); exact ⟨[], rfl, rfl, rfl⟩))
      · simp only [withD, nthD, Step2, nthDst, putO, postD]
        (first | refine .inr ⟨_, rfl, rfl, [], rfl, rfl, rfl⟩ | refine .inl ⟨_, _, rfl, rfl, fun _ => ?_, fun h => absurd h (by first | decide | (refine ne_not ?_; assumption))⟩ | refine .inl ⟨_, _, rfl, rfl, (fun h => absurd h (by first | decide | (refine ne_not2 ?_; assumption))), fun _ => ⟨[], rfl, rfl, rfl⟩⟩)
        (all_goals (first | ((first | refine op_icmp ?_ | refine op_fcmp ?_ | refine op_iarith ?_ | refine op_bcmp ?_ | refine op_iquo ?_ | refine op_irem ?_ | refine op_ibits ?_ | refine op_shl ?_ | refine op_shr ?_ | refine op_slice_isnil ?_ | refine op_slice_notnil ?_ | refine op_ptr_nil ?_); exact ⟨[], rfl, rfl, rfl⟩) | (refine op_farith ?_; intro _ h; exact ⟨[], rfl, ⟨_, h, rfl⟩, rfl⟩)))
      · simp only [withD, nthD, Step2, nthDst, putO, postD]
        (first | refine .inr ⟨_, rfl, rfl, [], rfl, rfl, rfl⟩ | refine .inl ⟨_, _, rfl, rfl, fun _ => ?_, fun h => absurd h (by first | decide | (refine ne_not ?_; assumption))⟩ | refine .inl ⟨_, _, rfl, rfl, (fun h => absurd h (by first | decide | (refine ne_not2 ?_; assumption))), fun _ => ⟨[], rfl, rfl, rfl⟩⟩)
        (all_goals ((first | refine op_pick_true ?_ | refine op_pick_false ?_ | refine op_pick_true' ?_ | refine op_pick_false' ?_); exact ⟨[], rfl, rfl, rfl⟩))
      · simp only [withD, nthD, Step2, nthDst, putO, postD]
        ((first | refine op_pick_true ?_ | refine op_pick_false ?_ | refine op_pick_true' ?_ | refine op_pick_false' ?_); exact ⟨[], rfl, rfl, rfl⟩)
      simp only [FinalsD, nthDst, putO, List.drop_succ_cons, List.drop_zero]
      rintro -
      repeat' first
        | refine tc_seq ?_ | refine tc_region ?_ | refine at_seq_normal ?_ | refine tl_nil ?_ | refine tl_cons ?_ | refine op_move ?_ | refine op_assign ?_ | refine op_load ?_ | refine op_load_agg ?_ | refine op_indexC ?_
        | refine op_indexAddr1 ?_ | refine op_indexAddr ?_ | refine op_icmp ?_ | refine op_fcmp ?_ | refine op_iarith ?_ | refine op_bcmp ?_ | refine op_unop_not ?_ | refine op_len_slice ?_ | refine op_pick_true ?_ | refine op_pick_false ?_
        | refine op_pick_true' ?_ | refine op_pick_false' ?_ | refine op_extract ?_ | refine op_ptr_nil ?_ | refine op_iquo ?_ | refine op_irem ?_ | refine op_ibits ?_ | refine op_slice_isnil ?_ | refine op_slice_notnil ?_ | refine op_shl ?_
        | refine op_shr ?_ | (refine op_box ?_; intro _) | (refine op_buildSlice ?_; intro _) | (refine op_farith ?_; intro _ _) | refine op_loadK rfl ?_ | refine op_load_aggK rfl ?_ | refine tc_cond_t ?_ | refine tc_cond_f ?_ | refine tc_cond (fun _ => ?_) (fun _ => ?_) | refine tc_skip ?_
        | refine tc_ret ?_ | refine at_seq_ret ?_ | refine tl_guard_yes ?_ | refine tl_guard_no ?_ | refine tl_guard_yes' ?_ | refine tl_guard_no' ?_ | refine tl_guard_undef ?_ | refine tl_guard_split (fun _ => ?_) (fun _ => ?_)
      exact ret_tmp (hG := by (repeat (first | exact List.Sublist.refl _ | apply List.Sublist.cons_cons | apply List.Sublist.cons | refine List.Sublist.trans ?_ (List.sublist_append_right _ _)))) (hk := ⟨rfl, rfl⟩)
    have c2 : icmp .lss (m : Int) 2 = false := by simp only [icmp, decide_eq_false_iff_not]; omega
    by_cases hp : pB 4715268809856909312 (px, py) = true
    rotate_left
    · have hp' : ([(px, py)].all (pB 4715268809856909312)) = false := by simpa using hp
      apply fun hole0 hole1 hole2 hole3 hole4 hole5 hole6 hole7 hole8 hole9 hole10 hole11 hole12 hole13 hole14 hole15 hole16 hole17 hole18 hole19 hole20 hole21 hole22 hole23 hole24 hole25 hE hD hml hdl hpr prem fin => tc_drawnD 28 [PhiD.is hole0, PhiD.is hole1, PhiD.is hole2, PhiD.is hole3, PhiD.is hole4, PhiD.is (.bool false), PhiD.is hole5, PhiD.is hole6, PhiD.is hole7, PhiD.fresh (fun k => .slice (some ⟨k, 0, none⟩) 1 1) hole8, PhiD.gen (some' (fun w _ => w = .bool false)), PhiD.is hole9, PhiD.is hole10, PhiD.is hole11, PhiD.is hole12, PhiD.is hole13, PhiD.is hole14, PhiD.is hole15, PhiD.is hole16, PhiD.is hole17, PhiD.is hole18, PhiD.is hole19, PhiD.is hole20, PhiD.is hole21, PhiD.is hole22, PhiD.is hole23, PhiD.is hole24, PhiD.is hole25]
        [some 20, some 21, some 22, some 23, some 24, some 25, some 26, some 27, some 28, some 29, some 30, some 31, some 32, some 33, some 34, some 35, some 36, some 37, some 38, some 39, some 40, some 41, some 42, some 43, some 44, some 45, some 46, some 47] [[], [0], [1], [2], [3, 2], [4, 2], [2, 5], [6, 2], [7], [8, 7], [9, 7], [10, 7], [7, 11], [12, 10], [13], [14, 13], [15, 13], [16, 15, 13], [17], [17], [19, 17], [20, 17], [18, 21, 17], [22, 17], [17], [23, 24, 17], [17, 25, 13], [13, 26]] mixed ⟨(some_mono _), trivial⟩ prem fin hE hD rfl hml hdl hpr
      rotate_left 27
      · first | kernel_rfl | exact rfl
      · first | kernel_rfl | exact rfl
      · exact Nat.le_of_ble_eq_true rfl
      · first | kernel_rfl | exact rfl
      · first | kernel_rfl | exact rfl
      refine ⟨fun G hG => ?_, fun G hG => ?_, fun G hG => ?_, fun G hG => ?_, fun G hG => ?_, fun G hG => ?_, fun G hG => ?_, fun G hG => ?_, fun G hG => ?_, fun G hG => ?_, fun G hG => ?_, fun G hG => ?_, fun G hG => ?_, fun G hG => ?_, fun G hG => ?_, fun G hG => ?_, fun G hG => ?_, fun G hG => ?_, fun G hG => ?_, fun G hG => ?_, fun G hG => ?_, fun G hG => ?_, fun G hG => ?_, fun G hG => ?_, fun G hG => ?_, fun G hG => ?_, fun G hG => ?_, fun G hG => ?_, trivial⟩
      · simp only [withD, nthD, Step2, nthDst, putO, postD]
        (refine op_move ?_; exact ⟨[], rfl, rfl, rfl⟩)
      · simp only [withD, nthD, Step2, nthDst, putO, postD]
        (refine op_unop_not ?_; exact ⟨[], rfl, rfl, rfl⟩)
      · simp only [withD, nthD, Step2, nthDst, putO, postD]
        (refine op_move ?_; exact ⟨[], rfl, rfl, rfl⟩)
      · simp only [withD, nthD, Step2, nthDst, putO, postD]
        (first | refine .inr ⟨_, rfl, rfl, [], rfl, rfl, rfl⟩ | refine .inl ⟨_, _, rfl, rfl, fun _ => ?_, fun h => absurd h (by first | decide | (refine ne_not ?_; assumption))⟩ | refine .inl ⟨_, _, rfl, rfl, (fun h => absurd h (by first | decide | (refine ne_not2 ?_; assumption))), fun _ => ⟨[], rfl, rfl, rfl⟩⟩)
        (all_goals (refine op_move ?_; exact ⟨[], rfl, rfl, rfl⟩))
      · simp only [withD, nthD, Step2, nthDst, putO, postD]
        (first | refine .inr ⟨_, rfl, rfl, [], rfl, rfl, rfl⟩ | refine .inl ⟨_, _, rfl, rfl, fun _ => ?_, fun h => absurd h (by first | decide | (refine ne_not ?_; assumption))⟩ | refine .inl ⟨_, _, rfl, rfl, (fun h => absurd h (by first | decide | (refine ne_not2 ?_; assumption))), fun _ => ⟨[], rfl, rfl, rfl⟩⟩)
        (all_goals (refine op_len_slice ?_; exact ⟨[], rfl, rfl, rfl⟩))
      · simp only [withD, nthD, Step2, nthDst, putO, postD]
        (first | refine .inr ⟨_, rfl, rfl, [], rfl, rfl, rfl⟩ | refine .inl ⟨_, _, rfl, rfl, fun _ => ?_, fun h => absurd h (by first | decide | (refine ne_not ?_; assumption))⟩ | refine .inl ⟨_, _, rfl, rfl, (fun h => absurd h (by first | decide | (refine ne_not2 ?_; assumption))), fun _ => ⟨[], rfl, rfl, rfl⟩⟩)
        (all_goals ((refine op_icmp ?_; rw [c2]; exact ⟨[], rfl, rfl, rfl⟩)))
      · simp only [withD, nthD, Step2, nthDst, putO, postD]
        ((first | refine op_pick_true ?_ | refine op_pick_false ?_ | refine op_pick_true' ?_ | refine op_pick_false' ?_); exact ⟨[], rfl, rfl, rfl⟩)
      · simp only [withD, nthD, Step2, nthDst, putO, postD]
        (refine op_move ?_; exact ⟨[], rfl, rfl, rfl⟩)
      · simp only [withD, nthD, Step2, nthDst, putO, postD]
        (first | refine .inr ⟨_, rfl, rfl, [], rfl, rfl, rfl⟩ | refine .inl ⟨_, _, rfl, rfl, fun _ => ?_, fun h => absurd h (by first | decide | (refine ne_not ?_; assumption))⟩ | refine .inl ⟨_, _, rfl, rfl, (fun h => absurd h (by first | decide | (refine ne_not2 ?_; assumption))), fun _ => ⟨[], rfl, rfl, rfl⟩⟩)
        (all_goals ((first | refine op_load ?_ | refine op_load_agg ?_ | refine op_load ?_ (hm := Sub.mem (by assumption) (by (repeat (apply List.mem_cons_of_mem)); assumption)) | refine op_load_agg ?_ (hm := Sub.mem (by assumption) (by (repeat (apply List.mem_cons_of_mem)); assumption)) | refine op_loadH hG rfl ?_ | refine op_load_aggH hG rfl ?_); exact ⟨[], rfl, rfl, rfl⟩))
      · simp only [withD, nthD, Step2, nthDst, putO, postD]
        (first | refine .inr ⟨_, rfl, rfl, [], rfl, rfl, rfl⟩ | refine .inl ⟨_, _, rfl, rfl, fun _ => ?_, fun h => absurd h (by first | decide | (refine ne_not ?_; assumption))⟩ | refine .inl ⟨_, _, rfl, rfl, (fun h => absurd h (by first | decide | (refine ne_not2 ?_; assumption))), fun _ => ⟨[], rfl, rfl, rfl⟩⟩)
        (all_goals (refine op_buildSlice ?_; intro _; exact ⟨[(_, _)], rfl, ⟨_, rfl, rfl⟩⟩))
      · simp only [withD, nthD, Step2, nthDst, putO, postD]
        rintro _ _
        (first | refine .inr ⟨_, rfl, rfl, [], rfl, rfl, rfl⟩ | refine .inl ⟨_, _, rfl, rfl, fun _ => ?_, fun h => absurd h (by first | decide | (refine ne_not ?_; assumption))⟩ | refine .inl ⟨_, _, rfl, rfl, (fun h => absurd h (by first | decide | (refine ne_not2 ?_; assumption))), fun _ => ⟨[], rfl, rfl, rfl⟩⟩)
        (all_goals ((refine op_call ((planeToB _ [(px, py)] _ _ (by simp) (one_pair (by assumption))).mono ?_); rintro _ _ ⟨rfl, ex, rfl⟩; exact ⟨ex, rfl, congrArg Value.bool hp'⟩)))
      · simp only [withD, nthD, Step2, nthDst, putO, postD]
        rintro _ _ rfl -
        (first | refine .inr ⟨_, rfl, rfl, [], rfl, rfl, rfl⟩ | refine .inl ⟨_, _, rfl, rfl, fun _ => ?_, fun h => absurd h (by first | decide | (refine ne_not ?_; assumption))⟩ | refine .inl ⟨_, _, rfl, rfl, (fun h => absurd h (by first | decide | (refine ne_not2 ?_; assumption))), fun _ => ⟨[], rfl, rfl, rfl⟩⟩)
        (all_goals (refine op_unop_not ?_; exact ⟨[], rfl, rfl, rfl⟩))
      · simp only [withD, nthD, Step2, nthDst, putO, postD]
        ((first | refine op_pick_true ?_ | refine op_pick_false ?_ | refine op_pick_true' ?_ | refine op_pick_false' ?_); exact ⟨[], rfl, rfl, rfl⟩)
      · simp only [withD, nthD, Step2, nthDst, putO, postD]
        rintro _ _ rfl -
        (refine op_move ?_; exact ⟨[], rfl, rfl, rfl⟩)
      · simp only [withD, nthD, Step2, nthDst, putO, postD]
        (first | refine .inr ⟨_, rfl, rfl, [], rfl, rfl, rfl⟩ | refine .inl ⟨_, _, rfl, rfl, fun _ => ?_, fun h => absurd h (by first | decide | (refine ne_not ?_; assumption))⟩ | refine .inl ⟨_, _, rfl, rfl, (fun h => absurd h (by first | decide | (refine ne_not2 ?_; assumption))), fun _ => ⟨[], rfl, rfl, rfl⟩⟩)
        (all_goals (refine op_move ?_; exact ⟨[], rfl, rfl, rfl⟩))
      · simp only [withD, nthD, Step2, nthDst, putO, postD]
        (first | refine .inr ⟨_, rfl, rfl, [], rfl, rfl, rfl⟩ | refine .inl ⟨_, _, rfl, rfl, fun _ => ?_, fun h => absurd h (by first | decide | (refine ne_not ?_; assumption))⟩ | refine .inl ⟨_, _, rfl, rfl, (fun h => absurd h (by first | decide | (refine ne_not2 ?_; assumption))), fun _ => ⟨[], rfl, rfl, rfl⟩⟩)
        (all_goals (first | ((first | refine op_move ?_ | refine op_assign ?_ | refine op_fieldAddr ?_ | refine op_load ?_ | refine op_load_agg ?_ | refine op_indexC ?_ | refine op_indexAddr1 ?_ | refine op_indexAddr ?_ | refine op_icmp ?_ | refine op_fcmp ?_ | refine op_iarith ?_ | refine op_bcmp ?_ | refine op_unop_not ?_ | refine op_unop_neg_float ?_ | refine op_unop_neg_int ?_ | refine op_len_slice ?_ | refine op_pick_true ?_ | refine op_pick_false ?_ | refine op_pick_true' ?_ | refine op_pick_false' ?_ | refine op_build ?_ | refine op_extract ?_ | refine op_makeInterface ?_ | refine op_typeAssert ?_ | refine op_ptr_nil ?_ | refine op_nilCheck_ptr ?_ | refine op_nilCheck_meth ?_ | refine op_makeMeth ?_ | refine op_makeFunc ?_ | refine op_itof ?_ | refine op_itoi ?_ | refine op_ftoi ?_ | refine op_iquo ?_ | refine op_irem ?_ | refine op_ibits ?_ | refine op_slice_isnil ?_ | refine op_slice_notnil ?_ | refine op_imax ?_ | refine op_imin ?_ | refine op_shl ?_ | refine op_shr ?_ | refine op_load ?_ (hm := Sub.mem (by assumption) (by (repeat (apply List.mem_cons_of_mem)); assumption)) | refine op_load_agg ?_ (hm := Sub.mem (by assumption) (by (repeat (apply List.mem_cons_of_mem)); assumption))); exact ⟨[], rfl, rfl, rfl⟩) | (refine op_alloc ?_; intro _; exact ⟨[(_, _)], rfl, ⟨_, rfl, rfl⟩⟩) | (refine op_box ?_; intro _; exact ⟨[(_, _)], rfl, ⟨_, rfl, rfl⟩⟩) | (refine op_buildSlice ?_; intro _; exact ⟨[(_, _)], rfl, ⟨_, rfl, rfl⟩⟩) | (refine op_farith ?_; intro _ h; exact ⟨[], rfl, ⟨_, h, rfl⟩, rfl⟩)))
      · simp only [withD, nthD, Step2, nthDst, putO, postD]
        (first | refine .inr ⟨_, rfl, rfl, [], rfl, rfl, rfl⟩ | refine .inl ⟨_, _, rfl, rfl, fun _ => ?_, fun h => absurd h (by first | decide | (refine ne_not ?_; assumption))⟩ | refine .inl ⟨_, _, rfl, rfl, (fun h => absurd h (by first | decide | (refine ne_not2 ?_; assumption))), fun _ => ⟨[], rfl, rfl, rfl⟩⟩)
        (all_goals (refine op_unop_not ?_; exact ⟨[], rfl, rfl, rfl⟩))
      · simp only [withD, nthD, Step2, nthDst, putO, postD]
        (first | refine .inr ⟨_, rfl, rfl, [], rfl, rfl, rfl⟩ | refine .inl ⟨_, _, rfl, rfl, fun _ => ?_, fun h => absurd h (by first | decide | (refine ne_not ?_; assumption))⟩ | refine .inl ⟨_, _, rfl, rfl, (fun h => absurd h (by first | decide | (refine ne_not2 ?_; assumption))), fun _ => ⟨[], rfl, rfl, rfl⟩⟩)
        (all_goals (refine op_move ?_; exact ⟨[], rfl, rfl, rfl⟩))
      · simp only [withD, nthD, Step2, nthDst, putO, postD]
        (first | refine .inr ⟨_, rfl, rfl, [], rfl, rfl, rfl⟩ | refine .inl ⟨_, _, rfl, rfl, fun _ => ?_, fun h => absurd h (by first | decide | (refine ne_not ?_; assumption))⟩ | refine .inl ⟨_, _, rfl, rfl, (fun h => absurd h (by first | decide | (refine ne_not2 ?_; assumption))), fun _ => ⟨[], rfl, rfl, rfl⟩⟩)
        (all_goals (refine op_move ?_; exact ⟨[], rfl, rfl, rfl⟩))
      · simp only [withD, nthD, Step2, nthDst, putO, postD]
        (first | refine .inr ⟨_, rfl, rfl, [], rfl, rfl, rfl⟩ | refine .inl ⟨_, _, rfl, rfl, fun _ => ?_, fun h => absurd h (by first | decide | (refine ne_not ?_; assumption))⟩ | refine .inl ⟨_, _, rfl, rfl, (fun h => absurd h (by first | decide | (refine ne_not2 ?_; assumption))), fun _ => ⟨[], rfl, rfl, rfl⟩⟩)
        (all_goals (refine op_move ?_; exact ⟨[], rfl, rfl, rfl⟩))
      · simp only [withD, nthD, Step2, nthDst, putO, postD]
        (first | refine .inr ⟨_, rfl, rfl, [], rfl, rfl, rfl⟩ | refine .inl ⟨_, _, rfl, rfl, fun _ => ?_, fun h => absurd h (by first | decide | (refine ne_not ?_; assumption))⟩ | refine .inl ⟨_, _, rfl, rfl, (fun h => absurd h (by first | decide | (refine ne_not2 ?_; assumption))), fun _ => ⟨[], rfl, rfl, rfl⟩⟩)
        (all_goals (refine op_len_slice ?_; exact ⟨[], rfl, rfl, rfl⟩))
      · simp only [withD, nthD, Step2, nthDst, putO, postD]
        (first | refine .inr ⟨_, rfl, rfl, [], rfl, rfl, rfl⟩ | refine .inl ⟨_, _, rfl, rfl, fun _ => ?_, fun h => absurd h (by first | decide | (refine ne_not ?_; assumption))⟩ | refine .inl ⟨_, _, rfl, rfl, (fun h => absurd h (by first | decide | (refine ne_not2 ?_; assumption))), fun _ => ⟨[], rfl, rfl, rfl⟩⟩)
        (all_goals (refine op_iarith ?_; exact ⟨[], rfl, rfl, rfl⟩))
      · simp only [withD, nthD, Step2, nthDst, putO, postD]
        (first | refine .inr ⟨_, rfl, rfl, [], rfl, rfl, rfl⟩ | refine .inl ⟨_, _, rfl, rfl, fun _ => ?_, fun h => absurd h (by first | decide | (refine ne_not ?_; assumption))⟩ | refine .inl ⟨_, _, rfl, rfl, (fun h => absurd h (by first | decide | (refine ne_not2 ?_; assumption))), fun _ => ⟨[], rfl, rfl, rfl⟩⟩)
        (all_goals ((first | refine op_indexC ?_ | refine op_indexAddr1 ?_ | refine op_indexAddr ?_); exact ⟨[], rfl, rfl, rfl⟩))
      · simp only [withD, nthD, Step2, nthDst, putO, postD]
        (first | refine .inr ⟨_, rfl, rfl, [], rfl, rfl, rfl⟩ | refine .inl ⟨_, _, rfl, rfl, fun _ => ?_, fun h => absurd h (by first | decide | (refine ne_not ?_; assumption))⟩ | refine .inl ⟨_, _, rfl, rfl, (fun h => absurd h (by first | decide | (refine ne_not2 ?_; assumption))), fun _ => ⟨[], rfl, rfl, rfl⟩⟩)
        (all_goals ((first | refine op_load ?_ | refine op_load_agg ?_ | refine op_load ?_ (hm := Sub.mem (by assumption) (by (repeat (apply List.mem_cons_of_mem)); assumption)) | refine op_load_agg ?_ (hm := Sub.mem (by assumption) (by (repeat (apply List.mem_cons_of_mem)); assumption)) | refine op_loadH hG rfl ?_ | refine op_load_aggH hG rfl ?_); exact ⟨[], rfl, rfl, rfl⟩))
      · simp only [withD, nthD, Step2, nthDst, putO, postD]
        (first | refine .inr ⟨_, rfl, rfl, [], rfl, rfl, rfl⟩ | refine .inl ⟨_, _, rfl, rfl, fun _ => ?_, fun h => absurd h (by first | decide | (refine ne_not ?_; assumption))⟩ | refine .inl ⟨_, _, rfl, rfl, (fun h => absurd h (by first | decide | (refine ne_not2 ?_; assumption))), fun _ => ⟨[], rfl, rfl, rfl⟩⟩)
        (all_goals ((first | refine op_load ?_ | refine op_load_agg ?_ | refine op_load ?_ (hm := Sub.mem (by assumption) (by (repeat (apply List.mem_cons_of_mem)); assumption)) | refine op_load_agg ?_ (hm := Sub.mem (by assumption) (by (repeat (apply List.mem_cons_of_mem)); assumption)) | refine op_loadH hG rfl ?_ | refine op_load_aggH hG rfl ?_); exact ⟨[], rfl, rfl, rfl⟩))
      · simp only [withD, nthD, Step2, nthDst, putO, postD]
        (first | refine .inr ⟨_, rfl, rfl, [], rfl, rfl, rfl⟩ | refine .inl ⟨_, _, rfl, rfl, fun _ => ?_, fun h => absurd h (by first | decide | (refine ne_not ?_; assumption))⟩ | refine .inl ⟨_, _, rfl, rfl, (fun h => absurd h (by first | decide | (refine ne_not2 ?_; assumption))), fun _ => ⟨[], rfl, rfl, rfl⟩⟩)
        (all_goals (first | ((first | refine op_icmp ?_ | refine op_fcmp ?_ | refine op_iarith ?_ | refine op_bcmp ?_ | refine op_iquo ?_ | refine op_irem ?_ | refine op_ibits ?_ | refine op_shl ?_ | refine op_shr ?_ | refine op_slice_isnil ?_ | refine op_slice_notnil ?_ | refine op_ptr_nil ?_); exact ⟨[], rfl, rfl, rfl⟩) | (refine op_farith ?_; intro _ h; exact ⟨[], rfl, ⟨_, h, rfl⟩, rfl⟩)))
      · simp only [withD, nthD, Step2, nthDst, putO, postD]
        (first | refine .inr ⟨_, rfl, rfl, [], rfl, rfl, rfl⟩ | refine .inl ⟨_, _, rfl, rfl, fun _ => ?_, fun h => absurd h (by first | decide | (refine ne_not ?_; assumption))⟩ | refine .inl ⟨_, _, rfl, rfl, (fun h => absurd h (by first | decide | (refine ne_not2 ?_; assumption))), fun _ => ⟨[], rfl, rfl, rfl⟩⟩)
        (all_goals ((first | refine op_pick_true ?_ | refine op_pick_false ?_ | refine op_pick_true' ?_ | refine op_pick_false' ?_); exact ⟨[], rfl, rfl, rfl⟩))
      · simp only [withD, nthD, Step2, nthDst, putO, postD]
        ((first | refine op_pick_true ?_ | refine op_pick_false ?_ | refine op_pick_true' ?_ | refine op_pick_false' ?_); exact ⟨[], rfl, rfl, rfl⟩)
      simp only [FinalsD, nthDst, putO, List.drop_succ_cons, List.drop_zero]
      rintro _ _ _ ⟨rfl, -⟩
      try simp only [List.nil_append]
      repeat' first
        | refine tc_seq ?_ | refine tc_region ?_ | refine at_seq_normal ?_ | refine tl_nil ?_ | refine tl_cons ?_ | refine op_move ?_ | refine op_assign ?_ | refine op_load ?_ | refine op_load_agg ?_ | refine op_indexC ?_
        | refine op_indexAddr1 ?_ | refine op_indexAddr ?_ | refine op_icmp ?_ | refine op_fcmp ?_ | refine op_iarith ?_ | refine op_bcmp ?_ | refine op_unop_not ?_ | refine op_len_slice ?_ | refine op_pick_true ?_ | refine op_pick_false ?_
        | refine op_pick_true' ?_ | refine op_pick_false' ?_ | refine op_extract ?_ | refine op_ptr_nil ?_ | refine op_iquo ?_ | refine op_irem ?_ | refine op_ibits ?_ | refine op_slice_isnil ?_ | refine op_slice_notnil ?_ | refine op_shl ?_
        | refine op_shr ?_ | (refine op_box ?_; intro _) | (refine op_buildSlice ?_; intro _) | (refine op_farith ?_; intro _ _) | refine op_loadK rfl ?_ | refine op_load_aggK rfl ?_ | refine tc_cond_t ?_ | refine tc_cond_f ?_ | refine tc_cond (fun _ => ?_) (fun _ => ?_) | refine tc_skip ?_
        | refine tc_ret ?_ | refine at_seq_ret ?_ | refine tl_guard_yes ?_ | refine tl_guard_no ?_ | refine tl_guard_yes' ?_ | refine tl_guard_no' ?_ | refine tl_guard_undef ?_ | refine tl_guard_split (fun _ => ?_) (fun _ => ?_)
      exact ret_tmp (hG := by (repeat (first | exact List.Sublist.refl _ | apply List.Sublist.cons_cons | apply List.Sublist.cons | refine List.Sublist.trans ?_ (List.sublist_append_right _ _)))) (hk := ⟨rfl, rfl⟩)
    have hp' : ([(px, py)].all (pB 4715268809856909312)) = true := by simpa using hp
    obtain ⟨⟨a0, fa, fa1, fa2⟩, ⟨b0, fb, fb1, fb2⟩⟩ := pB_wh fv24 (by decide) hp
    have ga : FI 16777216 px a0 := ⟨fa, fa1, fa2⟩
    have gb : FI 16777216 py b0 := ⟨fb, fb1, fb2⟩
    obtain ⟨x, hx⟩ : ∃ x : Nat → Nat, x = fun i => xs.getD (i * stp) 0 := ⟨_, rfl⟩
    obtain ⟨y, hy⟩ : ∃ y : Nat → Nat, y = fun i => xs.getD (i * stp + 1) 0 := ⟨_, rfl⟩
    have hget0 : ∀ i, i < m → (prs xs stp m)[i]? = some (x i, y i) := fun i hi => by rw [prs_get hi, hx, hy]
    have hWX : ∀ i, ∃ z : Int, i < m → FI 16777216 (x i) z := fun i => by
      rcases Nat.lt_or_ge i m with h | h
      · obtain ⟨⟨z, z1, z2, z3⟩, _⟩ := hW _ (List.mem_of_getElem? (hget0 i h))
        exact ⟨z, fun _ => ⟨z1, z2, z3⟩⟩
      · exact ⟨0, fun h' => by omega⟩
    have hWY : ∀ i, ∃ z : Int, i < m → FI 16777216 (y i) z := fun i => by
      rcases Nat.lt_or_ge i m with h | h
      · obtain ⟨_, ⟨z, z1, z2, z3⟩⟩ := hW _ (List.mem_of_getElem? (hget0 i h))
        exact ⟨z, fun _ => ⟨z1, z2, z3⟩⟩
      · exact ⟨0, fun h' => by omega⟩
    obtain ⟨X, hX⟩ := Classical.axiomOfChoice hWX
    obtain ⟨Y, hY⟩ := Classical.axiomOfChoice hWY
    have hpl := prs_len xs stp m
    obtain ⟨m2, hm2e⟩ : ∃ m2, m = m2 + 2 := ⟨m - 2, by omega⟩
    have hsl2 := sln_len hsl hpl
    obtain ⟨k2, o2, L2, T2, z2, cp2, he2, hmem2, hget2⟩ := pairs_block hsl2 (by intro e; rw [e] at hpl; simp at hpl; omega)
    injection he2 with e1 _ e3
    subst e1
    subst e3
    have w1 : IntKind.i64.wrap (iarith .sub ((m : Nat) : Int) 1) = ((m2 + 1 : Nat) : Int) := (wrap_sub (a := ((m : Nat) : Int)) (b := 1) (by omega) (by omega)).trans (by omega)
    have gl := hget2 (m2 + 1) _ _ (hget0 (m2 + 1) (by omega))
    obtain ⟨kr, o, L, Tr, fz, rfl, hmr, _, hcap, hgetr⟩ := hv.block (by
      intro e
      have h1 := Nat.mul_pos (show 0 < m by omega) (show 0 < stp by omega)
      rw [e] at hn
      simp only [List.length_nil] at hn
      omega)
    have hg : ∀ i, i < m → L[o + i * stp]? = some (.float .f64 (x i)) ∧ L[o + i * stp + 1]? = some (.float .f64 (y i)) ∧ FI 16777216 (x i) (X i) ∧ FI 16777216 (y i) (Y i) := fun i hi => by
      have hms : i * stp + stp ≤ m * stp := by
        have := Nat.mul_le_mul_right stp hi
        rwa [Nat.succ_mul] at this
      have a1 := hgetr (i * stp) (by omega)
      have a2 := hgetr (i * stp + 1) (by omega)
      exact ⟨by rw [hx]; exact a1, by rw [hy]; exact a2, hX i hi, hY i hi⟩
    have himp := fun (G : Heap) (hm : (kr, Obj.cells ⟨L⟩ Tr fz) ∈ G) => implLocate l stp m kr o c L Tr fz px py a0 b0 x y X Y G hl1 hst hs2 hs8 (by omega) hn200 (by omega) hm ga gb hg
    rw [← hn] at himp
    have hfv : ∀ i u w, (prs xs stp m)[i]? = some (u, w) → Fv u ((X i : Int) : Rat) ∧ Fv w ((Y i : Int) : Rat) ∧ u < 18446744073709551616 ∧ w < 18446744073709551616 := fun i u w hi => by
      have hi2 : i < m := by have := (List.getElem?_eq_some_iff.1 hi).1; omega
      have hms : i * stp + stp ≤ m * stp := by
        have := Nat.mul_le_mul_right stp hi2
        rwa [Nat.succ_mul] at this
      rw [hget0 i hi2] at hi
      cases hi
      refine ⟨(hX i hi2).fv, (hY i hi2).fv, ?_, ?_⟩
      · rw [hx]
        simp only
        rw [getD_in (by omega)]
        exact hb _ (List.getElem_mem _)
      · rw [hy]
        simp only
        rw [getD_in (by omega)]
        exact hb _ (List.getElem_mem _)
    have hnb : pf X Y 1 (m - 1) ≠ [] := by rw [hm2e]; intro h; cases h
    have hlast : ((X 0, Y 0) :: pf X Y 1 (m - 1)).getLast? = some (X (m2 + 1), Y (m2 + 1)) := by
      have := pf_last X Y (m2 + 1) 0
      rw [hm2e]
      rw [Nat.zero_add] at this
      exact this
    have hsh := eqAll_int (hX 0 (by omega)) (hX (m2 + 1) (by omega)) (hY 0 (by omega)) (hY (m2 + 1) (by omega))
    have hend := eqAll_int (hX (m2 + 1) (by omega)) ga (hY (m2 + 1) (by omega)) gb
    by_cases hs : X 0 = X (m2 + 1) ∧ Y 0 = Y (m2 + 1)
    · rw [decide_eq_true hs] at hsh
      have hring := rings a0 b0 (X 0, Y 0) (pf X Y 1 (m - 1)) hnb (.inl (by rw [hlast, hs.1, hs.2]))
      apply fun hole0 hole1 hole2 hole3 hole4 hole5 hole6 hole7 hole8 hole9 hole10 hole11 hole12 hole13 hole14 hole15 hole16 hole17 hole18 hole19 hole20 hole21 hole22 hole23 hole24 hE hD hml hdl hpr prem fin => tc_drawnD 28 [PhiD.is hole0, PhiD.is hole1, PhiD.is hole2, PhiD.is hole3, PhiD.is hole4, PhiD.is (.bool false), PhiD.is hole5, PhiD.is hole6, PhiD.is hole7, PhiD.fresh (fun k => .slice (some ⟨k, 0, none⟩) 1 1) hole8, PhiD.gen (some' (fun w _ => w = .bool true)), PhiD.is hole9, PhiD.is hole10, PhiD.is hole11, PhiD.is hole12, PhiD.is (.bool true), PhiD.is hole13, PhiD.is hole14, PhiD.is hole15, PhiD.is hole16, PhiD.is hole17, PhiD.is hole18, PhiD.is hole19, PhiD.is hole20, PhiD.is hole21, PhiD.is hole22, PhiD.is hole23, PhiD.is hole24]
        [some 20, some 21, some 22, some 23, some 24, some 25, some 26, some 27, some 28, some 29, some 30, some 31, some 32, some 33, some 34, some 35, some 36, some 37, some 38, some 39, some 40, some 41, some 42, some 43, some 44, some 45, some 46, some 47] [[], [0], [1], [2], [3, 2], [4, 2], [2, 5], [6, 2], [7], [8, 7], [9, 7], [10, 7], [7, 11], [12, 10], [13], [14, 13], [15, 13], [16, 15, 13], [17], [17], [19, 17], [20, 17], [18, 21, 17], [22, 17], [17], [23, 24, 17], [17, 25, 13], [13, 26]] mixed ⟨(some_mono _), trivial⟩ prem fin hE hD rfl hml hdl hpr
      rotate_left 26
      · first | kernel_rfl | exact rfl
      · first | kernel_rfl | exact rfl
      · exact Nat.le_of_ble_eq_true rfl
      · first | kernel_rfl | exact rfl
      · first | kernel_rfl | exact rfl
      refine ⟨fun G hG => ?_, fun G hG => ?_, fun G hG => ?_, fun G hG => ?_, fun G hG => ?_, fun G hG => ?_, fun G hG => ?_, fun G hG => ?_, fun G hG => ?_, fun G hG => ?_, fun G hG => ?_, fun G hG => ?_, fun G hG => ?_, fun G hG => ?_, fun G hG => ?_, fun G hG => ?_, fun G hG => ?_, fun G hG => ?_, fun G hG => ?_, fun G hG => ?_, fun G hG => ?_, fun G hG => ?_, fun G hG => ?_, fun G hG => ?_, fun G hG => ?_, fun G hG => ?_, fun G hG => ?_, fun G hG => ?_, trivial⟩
      · simp only [withD, nthD, Step2, nthDst, putO, postD]
        (refine op_move ?_; exact ⟨[], rfl, rfl, rfl⟩)
      · simp only [withD, nthD, Step2, nthDst, putO, postD]
        (refine op_unop_not ?_; exact ⟨[], rfl, rfl, rfl⟩)
      · simp only [withD, nthD, Step2, nthDst, putO, postD]
        (refine op_move ?_; exact ⟨[], rfl, rfl, rfl⟩)
      · simp only [withD, nthD, Step2, nthDst, putO, postD]
        (first | refine .inr ⟨_, rfl, rfl, [], rfl, rfl, rfl⟩ | refine .inl ⟨_, _, rfl, rfl, fun _ => ?_, fun h => absurd h (by first | decide | (refine ne_not ?_; assumption))⟩ | refine .inl ⟨_, _, rfl, rfl, (fun h => absurd h (by first | decide | (refine ne_not2 ?_; assumption))), fun _ => ⟨[], rfl, rfl, rfl⟩⟩)
        (all_goals (refine op_move ?_; exact ⟨[], rfl, rfl, rfl⟩))
      · simp only [withD, nthD, Step2, nthDst, putO, postD]
        (first | refine .inr ⟨_, rfl, rfl, [], rfl, rfl, rfl⟩ | refine .inl ⟨_, _, rfl, rfl, fun _ => ?_, fun h => absurd h (by first | decide | (refine ne_not ?_; assumption))⟩ | refine .inl ⟨_, _, rfl, rfl, (fun h => absurd h (by first | decide | (refine ne_not2 ?_; assumption))), fun _ => ⟨[], rfl, rfl, rfl⟩⟩)
        (all_goals (refine op_len_slice ?_; exact ⟨[], rfl, rfl, rfl⟩))
      · simp only [withD, nthD, Step2, nthDst, putO, postD]
        (first | refine .inr ⟨_, rfl, rfl, [], rfl, rfl, rfl⟩ | refine .inl ⟨_, _, rfl, rfl, fun _ => ?_, fun h => absurd h (by first | decide | (refine ne_not ?_; assumption))⟩ | refine .inl ⟨_, _, rfl, rfl, (fun h => absurd h (by first | decide | (refine ne_not2 ?_; assumption))), fun _ => ⟨[], rfl, rfl, rfl⟩⟩)
        (all_goals ((refine op_icmp ?_; rw [c2]; exact ⟨[], rfl, rfl, rfl⟩)))
      · simp only [withD, nthD, Step2, nthDst, putO, postD]
        ((first | refine op_pick_true ?_ | refine op_pick_false ?_ | refine op_pick_true' ?_ | refine op_pick_false' ?_); exact ⟨[], rfl, rfl, rfl⟩)
      · simp only [withD, nthD, Step2, nthDst, putO, postD]
        (refine op_move ?_; exact ⟨[], rfl, rfl, rfl⟩)
      · simp only [withD, nthD, Step2, nthDst, putO, postD]
        (first | refine .inr ⟨_, rfl, rfl, [], rfl, rfl, rfl⟩ | refine .inl ⟨_, _, rfl, rfl, fun _ => ?_, fun h => absurd h (by first | decide | (refine ne_not ?_; assumption))⟩ | refine .inl ⟨_, _, rfl, rfl, (fun h => absurd h (by first | decide | (refine ne_not2 ?_; assumption))), fun _ => ⟨[], rfl, rfl, rfl⟩⟩)
        (all_goals ((first | refine op_load ?_ | refine op_load_agg ?_ | refine op_load ?_ (hm := Sub.mem (by assumption) (by (repeat (apply List.mem_cons_of_mem)); assumption)) | refine op_load_agg ?_ (hm := Sub.mem (by assumption) (by (repeat (apply List.mem_cons_of_mem)); assumption)) | refine op_loadH hG rfl ?_ | refine op_load_aggH hG rfl ?_); exact ⟨[], rfl, rfl, rfl⟩))
      · simp only [withD, nthD, Step2, nthDst, putO, postD]
        (first | refine .inr ⟨_, rfl, rfl, [], rfl, rfl, rfl⟩ | refine .inl ⟨_, _, rfl, rfl, fun _ => ?_, fun h => absurd h (by first | decide | (refine ne_not ?_; assumption))⟩ | refine .inl ⟨_, _, rfl, rfl, (fun h => absurd h (by first | decide | (refine ne_not2 ?_; assumption))), fun _ => ⟨[], rfl, rfl, rfl⟩⟩)
        (all_goals (refine op_buildSlice ?_; intro _; exact ⟨[(_, _)], rfl, ⟨_, rfl, rfl⟩⟩))
      · simp only [withD, nthD, Step2, nthDst, putO, postD]
        rintro _ _
        (first | refine .inr ⟨_, rfl, rfl, [], rfl, rfl, rfl⟩ | refine .inl ⟨_, _, rfl, rfl, fun _ => ?_, fun h => absurd h (by first | decide | (refine ne_not ?_; assumption))⟩ | refine .inl ⟨_, _, rfl, rfl, (fun h => absurd h (by first | decide | (refine ne_not2 ?_; assumption))), fun _ => ⟨[], rfl, rfl, rfl⟩⟩)
        (all_goals ((refine op_call ((planeToB _ [(px, py)] _ _ (by simp) (one_pair (by assumption))).mono ?_); rintro _ _ ⟨rfl, ex, rfl⟩; exact ⟨ex, rfl, congrArg Value.bool hp'⟩)))
      · simp only [withD, nthD, Step2, nthDst, putO, postD]
        rintro _ _ rfl -
        (first | refine .inr ⟨_, rfl, rfl, [], rfl, rfl, rfl⟩ | refine .inl ⟨_, _, rfl, rfl, fun _ => ?_, fun h => absurd h (by first | decide | (refine ne_not ?_; assumption))⟩ | refine .inl ⟨_, _, rfl, rfl, (fun h => absurd h (by first | decide | (refine ne_not2 ?_; assumption))), fun _ => ⟨[], rfl, rfl, rfl⟩⟩)
        (all_goals (refine op_unop_not ?_; exact ⟨[], rfl, rfl, rfl⟩))
      · simp only [withD, nthD, Step2, nthDst, putO, postD]
        ((first | refine op_pick_true ?_ | refine op_pick_false ?_ | refine op_pick_true' ?_ | refine op_pick_false' ?_); exact ⟨[], rfl, rfl, rfl⟩)
      · simp only [withD, nthD, Step2, nthDst, putO, postD]
        rintro _ _ rfl -
        (refine op_move ?_; exact ⟨[], rfl, rfl, rfl⟩)
      · simp only [withD, nthD, Step2, nthDst, putO, postD]
        (first | refine .inr ⟨_, rfl, rfl, [], rfl, rfl, rfl⟩ | refine .inl ⟨_, _, rfl, rfl, fun _ => ?_, fun h => absurd h (by first | decide | (refine ne_not ?_; assumption))⟩ | refine .inl ⟨_, _, rfl, rfl, (fun h => absurd h (by first | decide | (refine ne_not2 ?_; assumption))), fun _ => ⟨[], rfl, rfl, rfl⟩⟩)
        (all_goals (refine op_move ?_; exact ⟨[], rfl, rfl, rfl⟩))
      · simp only [withD, nthD, Step2, nthDst, putO, postD]
        (first | refine .inr ⟨_, rfl, rfl, [], rfl, rfl, rfl⟩ | refine .inl ⟨_, _, rfl, rfl, fun _ => ?_, fun h => absurd h (by first | decide | (refine ne_not ?_; assumption))⟩ | refine .inl ⟨_, _, rfl, rfl, (fun h => absurd h (by first | decide | (refine ne_not2 ?_; assumption))), fun _ => ⟨[], rfl, rfl, rfl⟩⟩)
        (all_goals ((refine op_call ((shut _ (prs xs stp m) m2 _ _ _ _ _ (hsl2.mono hG) (by omega) (by omega) (hget0 0 (by omega)) (hget0 (m2 + 1) (by omega))).mono ?_); rintro _ _ ⟨rfl, rfl⟩; exact ⟨[], rfl, congrArg Value.bool hsh, rfl⟩)))
      · simp only [withD, nthD, Step2, nthDst, putO, postD]
        (first | refine .inr ⟨_, rfl, rfl, [], rfl, rfl, rfl⟩ | refine .inl ⟨_, _, rfl, rfl, fun _ => ?_, fun h => absurd h (by first | decide | (refine ne_not ?_; assumption))⟩ | refine .inl ⟨_, _, rfl, rfl, (fun h => absurd h (by first | decide | (refine ne_not2 ?_; assumption))), fun _ => ⟨[], rfl, rfl, rfl⟩⟩)
        (all_goals (refine op_unop_not ?_; exact ⟨[], rfl, rfl, rfl⟩))
      · simp only [withD, nthD, Step2, nthDst, putO, postD]
        (first | refine .inr ⟨_, rfl, rfl, [], rfl, rfl, rfl⟩ | refine .inl ⟨_, _, rfl, rfl, fun _ => ?_, fun h => absurd h (by first | decide | (refine ne_not ?_; assumption))⟩ | refine .inl ⟨_, _, rfl, rfl, (fun h => absurd h (by first | decide | (refine ne_not2 ?_; assumption))), fun _ => ⟨[], rfl, rfl, rfl⟩⟩)
        (all_goals (refine op_move ?_; exact ⟨[], rfl, rfl, rfl⟩))
      · simp only [withD, nthD, Step2, nthDst, putO, postD]
        (first | refine .inr ⟨_, rfl, rfl, [], rfl, rfl, rfl⟩ | refine .inl ⟨_, _, rfl, rfl, fun _ => ?_, fun h => absurd h (by first | decide | (refine ne_not ?_; assumption))⟩ | refine .inl ⟨_, _, rfl, rfl, (fun h => absurd h (by first | decide | (refine ne_not2 ?_; assumption))), fun _ => ⟨[], rfl, rfl, rfl⟩⟩)
        (all_goals (refine op_move ?_; exact ⟨[], rfl, rfl, rfl⟩))
      · simp only [withD, nthD, Step2, nthDst, putO, postD]
        (first | refine .inr ⟨_, rfl, rfl, [], rfl, rfl, rfl⟩ | refine .inl ⟨_, _, rfl, rfl, fun _ => ?_, fun h => absurd h (by first | decide | (refine ne_not ?_; assumption))⟩ | refine .inl ⟨_, _, rfl, rfl, (fun h => absurd h (by first | decide | (refine ne_not2 ?_; assumption))), fun _ => ⟨[], rfl, rfl, rfl⟩⟩)
        (all_goals (refine op_move ?_; exact ⟨[], rfl, rfl, rfl⟩))
      · simp only [withD, nthD, Step2, nthDst, putO, postD]
        (first | refine .inr ⟨_, rfl, rfl, [], rfl, rfl, rfl⟩ | refine .inl ⟨_, _, rfl, rfl, fun _ => ?_, fun h => absurd h (by first | decide | (refine ne_not ?_; assumption))⟩ | refine .inl ⟨_, _, rfl, rfl, (fun h => absurd h (by first | decide | (refine ne_not2 ?_; assumption))), fun _ => ⟨[], rfl, rfl, rfl⟩⟩)
        (all_goals (refine op_len_slice ?_; exact ⟨[], rfl, rfl, rfl⟩))
      · simp only [withD, nthD, Step2, nthDst, putO, postD]
        (first | refine .inr ⟨_, rfl, rfl, [], rfl, rfl, rfl⟩ | refine .inl ⟨_, _, rfl, rfl, fun _ => ?_, fun h => absurd h (by first | decide | (refine ne_not ?_; assumption))⟩ | refine .inl ⟨_, _, rfl, rfl, (fun h => absurd h (by first | decide | (refine ne_not2 ?_; assumption))), fun _ => ⟨[], rfl, rfl, rfl⟩⟩)
        (all_goals (refine op_iarith ?_; exact ⟨[], rfl, rfl, rfl⟩))
      · simp only [withD, nthD, Step2, nthDst, putO, postD]
        (first | refine .inr ⟨_, rfl, rfl, [], rfl, rfl, rfl⟩ | refine .inl ⟨_, _, rfl, rfl, fun _ => ?_, fun h => absurd h (by first | decide | (refine ne_not ?_; assumption))⟩ | refine .inl ⟨_, _, rfl, rfl, (fun h => absurd h (by first | decide | (refine ne_not2 ?_; assumption))), fun _ => ⟨[], rfl, rfl, rfl⟩⟩)
        (all_goals ((first | refine op_indexC ?_ | refine op_indexAddr1 ?_ | refine op_indexAddr ?_); exact ⟨[], rfl, rfl, rfl⟩))
      · simp only [withD, nthD, Step2, nthDst, putO, postD]
        (first | refine .inr ⟨_, rfl, rfl, [], rfl, rfl, rfl⟩ | refine .inl ⟨_, _, rfl, rfl, fun _ => ?_, fun h => absurd h (by first | decide | (refine ne_not ?_; assumption))⟩ | refine .inl ⟨_, _, rfl, rfl, (fun h => absurd h (by first | decide | (refine ne_not2 ?_; assumption))), fun _ => ⟨[], rfl, rfl, rfl⟩⟩)
        (all_goals ((first | refine op_load ?_ | refine op_load_agg ?_ | refine op_load ?_ (hm := Sub.mem (by assumption) (by (repeat (apply List.mem_cons_of_mem)); assumption)) | refine op_load_agg ?_ (hm := Sub.mem (by assumption) (by (repeat (apply List.mem_cons_of_mem)); assumption)) | refine op_loadH hG rfl ?_ | refine op_load_aggH hG rfl ?_); exact ⟨[], rfl, rfl, rfl⟩))
      · simp only [withD, nthD, Step2, nthDst, putO, postD]
        (first | refine .inr ⟨_, rfl, rfl, [], rfl, rfl, rfl⟩ | refine .inl ⟨_, _, rfl, rfl, fun _ => ?_, fun h => absurd h (by first | decide | (refine ne_not ?_; assumption))⟩ | refine .inl ⟨_, _, rfl, rfl, (fun h => absurd h (by first | decide | (refine ne_not2 ?_; assumption))), fun _ => ⟨[], rfl, rfl, rfl⟩⟩)
        (all_goals ((first | refine op_load ?_ | refine op_load_agg ?_ | refine op_load ?_ (hm := Sub.mem (by assumption) (by (repeat (apply List.mem_cons_of_mem)); assumption)) | refine op_load_agg ?_ (hm := Sub.mem (by assumption) (by (repeat (apply List.mem_cons_of_mem)); assumption)) | refine op_loadH hG rfl ?_ | refine op_load_aggH hG rfl ?_); exact ⟨[], rfl, rfl, rfl⟩))
      · simp only [withD, nthD, Step2, nthDst, putO, postD]
        (first | refine .inr ⟨_, rfl, rfl, [], rfl, rfl, rfl⟩ | refine .inl ⟨_, _, rfl, rfl, fun _ => ?_, fun h => absurd h (by first | decide | (refine ne_not ?_; assumption))⟩ | refine .inl ⟨_, _, rfl, rfl, (fun h => absurd h (by first | decide | (refine ne_not2 ?_; assumption))), fun _ => ⟨[], rfl, rfl, rfl⟩⟩)
        (all_goals (first | ((first | refine op_icmp ?_ | refine op_fcmp ?_ | refine op_iarith ?_ | refine op_bcmp ?_ | refine op_iquo ?_ | refine op_irem ?_ | refine op_ibits ?_ | refine op_shl ?_ | refine op_shr ?_ | refine op_slice_isnil ?_ | refine op_slice_notnil ?_ | refine op_ptr_nil ?_); exact ⟨[], rfl, rfl, rfl⟩) | (refine op_farith ?_; intro _ h; exact ⟨[], rfl, ⟨_, h, rfl⟩, rfl⟩)))
      · simp only [withD, nthD, Step2, nthDst, putO, postD]
        (first | refine .inr ⟨_, rfl, rfl, [], rfl, rfl, rfl⟩ | refine .inl ⟨_, _, rfl, rfl, fun _ => ?_, fun h => absurd h (by first | decide | (refine ne_not ?_; assumption))⟩ | refine .inl ⟨_, _, rfl, rfl, (fun h => absurd h (by first | decide | (refine ne_not2 ?_; assumption))), fun _ => ⟨[], rfl, rfl, rfl⟩⟩)
        (all_goals ((first | refine op_pick_true ?_ | refine op_pick_false ?_ | refine op_pick_true' ?_ | refine op_pick_false' ?_); exact ⟨[], rfl, rfl, rfl⟩))
      · simp only [withD, nthD, Step2, nthDst, putO, postD]
        ((first | refine op_pick_true ?_ | refine op_pick_false ?_ | refine op_pick_true' ?_ | refine op_pick_false' ?_); exact ⟨[], rfl, rfl, rfl⟩)
      simp only [FinalsD, nthDst, putO, List.drop_succ_cons, List.drop_zero]
      rintro _ _ _ ⟨rfl, -⟩
      try simp only [List.nil_append]
      repeat' first
        | (refine op_call ((himp _ (by simp [hmr])).mono ?_); rintro _ _ ⟨rfl, ex2, rfl⟩; rw [hring])
        | (first | refine tc_seq ?_ | refine tc_region ?_ | refine at_seq_normal ?_ | refine tl_nil ?_ | refine tl_cons ?_ | refine op_move ?_ | refine op_assign ?_ | refine op_load ?_ | refine op_load_agg ?_ | refine op_indexC ?_ | refine op_indexAddr1 ?_ | refine op_indexAddr ?_ | refine op_icmp ?_ | refine op_fcmp ?_ | refine op_iarith ?_ | refine op_bcmp ?_ | refine op_unop_not ?_ | refine op_len_slice ?_ | refine op_pick_true ?_ | refine op_pick_false ?_ | refine op_pick_true' ?_ | refine op_pick_false' ?_ | refine op_extract ?_ | refine op_ptr_nil ?_ | refine op_iquo ?_ | refine op_irem ?_ | refine op_ibits ?_ | refine op_slice_isnil ?_ | refine op_slice_notnil ?_ | refine op_shl ?_ | refine op_shr ?_ | (refine op_box ?_; intro _) | (refine op_buildSlice ?_; intro _) | (refine op_farith ?_; intro _ _) | refine op_loadK rfl ?_ | refine op_load_aggK rfl ?_ | refine tc_cond_t ?_ | refine tc_cond_f ?_ | refine tc_cond (fun _ => ?_) (fun _ => ?_) | refine tc_skip ?_ | refine tc_ret ?_ | refine at_seq_ret ?_ | refine tl_guard_yes ?_ | refine tl_guard_no ?_ | refine tl_guard_yes' ?_ | refine tl_guard_no' ?_ | refine tl_guard_undef ?_ | refine tl_guard_split (fun _ => ?_) (fun _ => ?_) | fail)
        | fail
      apply fun hole0 hole1 hole2 hole3 hole4 hole5 hE hD hml hdl hpr prem fin => tc_drawnD 10 [PhiD.is hole0, PhiD.is hole1, PhiD.is hole2, PhiD.is hole3, PhiD.gen (fun w _ G => IsPs G w X Y m), PhiD.is hole4, PhiD.gen (fun w _ G => IsP a0 b0 0 w G), PhiD.gen (some' (fun w _ => w = .int .i64 (sloop a0 b0 (X 0, Y 0) (pf X Y 1 (m - 1)) false))), PhiD.is (.bool true), PhiD.is hole5]
        [some 55, some 56, some 57, some 58, some 59, some 60, some 61, some 62, some 63, some 64, some 6] [[], [0], [1], [1], [3, 1], [1], [5, 4, 1], [4, 6, 1], [2, 7, 1], [1, 8]] mixed ⟨(fun _ _ _ _ h hs => isPs_mono h hs), (fun _ _ _ _ h hs => IsP.mono h hs), (some_mono _), trivial⟩ prem fin hE hD rfl hml hdl hpr
      rotate_left 7
      · first | kernel_rfl | exact rfl
      · first | kernel_rfl | exact rfl
      · exact Nat.le_of_ble_eq_true rfl
      · first | kernel_rfl | exact rfl
      · first | kernel_rfl | exact rfl
      refine ⟨fun G hG => ?_, fun G hG => ?_, fun G hG => ?_, fun G hG => ?_, fun G hG => ?_, fun G hG => ?_, fun G hG => ?_, fun G hG => ?_, fun G hG => ?_, fun G hG => ?_, trivial⟩
      · simp only [withD, nthD, Step2, nthDst, putO, postD]
        (refine op_move ?_; exact ⟨[], rfl, rfl, rfl⟩)
      · simp only [withD, nthD, Step2, nthDst, putO, postD]
        (refine op_move ?_; exact ⟨[], rfl, rfl, rfl⟩)
      · simp only [withD, nthD, Step2, nthDst, putO, postD]
        (first | refine .inr ⟨_, rfl, rfl, [], rfl, rfl, rfl⟩ | refine .inl ⟨_, _, rfl, rfl, fun _ => ?_, fun h => absurd h (by first | decide | (refine ne_not ?_; assumption))⟩ | refine .inl ⟨_, _, rfl, rfl, (fun h => absurd h (by first | decide | (refine ne_not2 ?_; assumption))), fun _ => ⟨[], rfl, rfl, rfl⟩⟩)
        (all_goals (refine op_move ?_; exact ⟨[], rfl, rfl, rfl⟩))
      · simp only [withD, nthD, Step2, nthDst, putO, postD]
        (first | refine .inr ⟨_, rfl, rfl, [], rfl, rfl, rfl⟩ | refine .inl ⟨_, _, rfl, rfl, fun _ => ?_, fun h => absurd h (by first | decide | (refine ne_not ?_; assumption))⟩ | refine .inl ⟨_, _, rfl, rfl, (fun h => absurd h (by first | decide | (refine ne_not2 ?_; assumption))), fun _ => ⟨[], rfl, rfl, rfl⟩⟩)
        (all_goals (refine op_move ?_; exact ⟨[], rfl, rfl, rfl⟩))
      · simp only [withD, nthD, Step2, nthDst, putO, postD]
        (first | refine .inr ⟨_, rfl, rfl, [], rfl, rfl, rfl⟩ | refine .inl ⟨_, _, rfl, rfl, fun _ => ?_, fun h => absurd h (by first | decide | (refine ne_not ?_; assumption))⟩ | refine .inl ⟨_, _, rfl, rfl, (fun h => absurd h (by first | decide | (refine ne_not2 ?_; assumption))), fun _ => ⟨[], rfl, rfl, rfl⟩⟩)
        (all_goals ((refine op_call ((exacts _ (prs xs stp m) X Y _ (hsl2.mono fun e he => hG e (exs e he)) (by omega) hfv).mono ?_); rintro w _ ⟨hw, ex, rfl⟩; rw [hpl] at hw; exact ⟨ex, rfl, hw⟩)))
      · simp only [withD, nthD, Step2, nthDst, putO, postD]
        (first | refine .inr ⟨_, rfl, rfl, [], rfl, rfl, rfl⟩ | refine .inl ⟨_, _, rfl, rfl, fun _ => ?_, fun h => absurd h (by first | decide | (refine ne_not ?_; assumption))⟩ | refine .inl ⟨_, _, rfl, rfl, (fun h => absurd h (by first | decide | (refine ne_not2 ?_; assumption))), fun _ => ⟨[], rfl, rfl, rfl⟩⟩)
        (all_goals ((first | refine op_load ?_ | refine op_load_agg ?_ | refine op_load ?_ (hm := Sub.mem (by assumption) (by (repeat (apply List.mem_cons_of_mem)); assumption)) | refine op_load_agg ?_ (hm := Sub.mem (by assumption) (by (repeat (apply List.mem_cons_of_mem)); assumption)) | refine op_loadH hG rfl ?_ | refine op_load_aggH hG rfl ?_); exact ⟨[], rfl, rfl, rfl⟩))
      · simp only [withD, nthD, Step2, nthDst, putO, postD]
        rintro _ _ hqs -
        (first | refine .inr ⟨_, rfl, rfl, [], rfl, rfl, rfl⟩ | refine .inl ⟨_, _, rfl, rfl, fun _ => ?_, fun h => absurd h (by first | decide | (refine ne_not ?_; assumption))⟩ | refine .inl ⟨_, _, rfl, rfl, (fun h => absurd h (by first | decide | (refine ne_not2 ?_; assumption))), fun _ => ⟨[], rfl, rfl, rfl⟩⟩)
        (all_goals ((refine op_call ((exactly _ _ _ _ _ fa fb hpx hpy).mono ?_); rintro w _ ⟨ex, rfl, hw⟩; exact ⟨ex, rfl, hw⟩)))
      · simp only [withD, nthD, Step2, nthDst, putO, postD]
        rintro _ _ hqs - _ _ hq6 -
        (first | refine .inr ⟨_, rfl, rfl, [], rfl, rfl, rfl⟩ | refine .inl ⟨_, _, rfl, rfl, fun _ => ?_, fun h => absurd h (by first | decide | (refine ne_not ?_; assumption))⟩ | refine .inl ⟨_, _, rfl, rfl, (fun h => absurd h (by first | decide | (refine ne_not2 ?_; assumption))), fun _ => ⟨[], rfl, rfl, rfl⟩⟩)
        (all_goals ((refine op_call ((locate _ _ X Y m a0 b0 _ hqs hq6 (by omega) hn200).mono ?_); rintro _ _ ⟨rfl, ex, rfl⟩; exact ⟨ex, rfl, rfl⟩)))
      · simp only [withD, nthD, Step2, nthDst, putO, postD]
        rintro _ _ rfl -
        (first | refine .inr ⟨_, rfl, rfl, [], rfl, rfl, rfl⟩ | refine .inl ⟨_, _, rfl, rfl, fun _ => ?_, fun h => absurd h (by first | decide | (refine ne_not ?_; assumption))⟩ | refine .inl ⟨_, _, rfl, rfl, (fun h => absurd h (by first | decide | (refine ne_not2 ?_; assumption))), fun _ => ⟨[], rfl, rfl, rfl⟩⟩)
        (all_goals ((refine op_icmp ?_; exact ⟨[], rfl, congrArg Value.bool (by simp [icmp]), rfl⟩)))
      · simp only [withD, nthD, Step2, nthDst, putO, postD]
        ((first | refine op_pick_true ?_ | refine op_pick_false ?_ | refine op_pick_true' ?_ | refine op_pick_false' ?_); exact ⟨[], rfl, rfl, rfl⟩)
      simp only [FinalsD, nthDst, putO, List.drop_succ_cons, List.drop_zero]
      rintro _ _ _ _ _ _ ⟨rfl, hq6, hqs, -⟩
      try simp only [List.nil_append]
      repeat' first
        | refine tc_seq ?_ | refine tc_region ?_ | refine at_seq_normal ?_ | refine tl_nil ?_ | refine tl_cons ?_ | refine op_move ?_ | refine op_assign ?_ | refine op_load ?_ | refine op_load_agg ?_ | refine op_indexC ?_
        | refine op_indexAddr1 ?_ | refine op_indexAddr ?_ | refine op_icmp ?_ | refine op_fcmp ?_ | refine op_iarith ?_ | refine op_bcmp ?_ | refine op_unop_not ?_ | refine op_len_slice ?_ | refine op_pick_true ?_ | refine op_pick_false ?_
        | refine op_pick_true' ?_ | refine op_pick_false' ?_ | refine op_extract ?_ | refine op_ptr_nil ?_ | refine op_iquo ?_ | refine op_irem ?_ | refine op_ibits ?_ | refine op_slice_isnil ?_ | refine op_slice_notnil ?_ | refine op_shl ?_
        | refine op_shr ?_ | (refine op_box ?_; intro _) | (refine op_buildSlice ?_; intro _) | (refine op_farith ?_; intro _ _) | refine op_loadK rfl ?_ | refine op_load_aggK rfl ?_ | refine tc_cond_t ?_ | refine tc_cond_f ?_ | refine tc_cond (fun _ => ?_) (fun _ => ?_) | refine tc_skip ?_
        | refine tc_ret ?_ | refine at_seq_ret ?_ | refine tl_guard_yes ?_ | refine tl_guard_no ?_ | refine tl_guard_yes' ?_ | refine tl_guard_no' ?_ | refine tl_guard_undef ?_ | refine tl_guard_split (fun _ => ?_) (fun _ => ?_)
      exact ret_tmp (hG := by (repeat (first | exact List.Sublist.refl _ | apply List.Sublist.cons_cons | apply List.Sublist.cons | refine List.Sublist.trans ?_ (List.sublist_append_right _ _)))) (hk := ⟨rfl, rfl⟩)
    · rw [decide_eq_false hs] at hsh
      by_cases he : X (m2 + 1) = a0 ∧ Y (m2 + 1) = b0
      · rw [decide_eq_true he] at hend
        apply fun hole0 hole1 hole2 hole3 hole4 hole5 hole6 hole7 hole8 hole9 hole10 hole11 hole12 hole13 hole14 hole15 hole16 hole17 hole18 hole19 hole20 hole21 hole22 hE hD hml hdl hpr prem fin => tc_drawnD 28 [PhiD.is hole0, PhiD.is hole1, PhiD.is hole2, PhiD.is hole3, PhiD.is hole4, PhiD.is (.bool false), PhiD.is hole5, PhiD.is hole6, PhiD.is hole7, PhiD.fresh (fun k => .slice (some ⟨k, 0, none⟩) 1 1) hole8, PhiD.gen (some' (fun w _ => w = .bool true)), PhiD.is hole9, PhiD.is hole10, PhiD.is hole11, PhiD.is hole12, PhiD.is (.bool false), PhiD.is hole13, PhiD.is hole14, PhiD.is hole15, PhiD.is hole16, PhiD.is hole17, PhiD.is (.int .i64 ((m2 + 1 : Nat) : Int)), PhiD.is hole18, PhiD.is hole19, PhiD.is hole20, PhiD.is (.bool true), PhiD.is hole21, PhiD.is hole22]
          [some 20, some 21, some 22, some 23, some 24, some 25, some 26, some 27, some 28, some 29, some 30, some 31, some 32, some 33, some 34, some 35, some 36, some 37, some 38, some 39, some 40, some 41, some 42, some 43, some 44, some 45, some 46, some 47] [[], [0], [1], [2], [3, 2], [4, 2], [2, 5], [6, 2], [7], [8, 7], [9, 7], [10, 7], [7, 11], [12, 10], [13], [14, 13], [15, 13], [16, 15, 13], [17], [17], [19, 17], [20, 17], [18, 21, 17], [22, 17], [17], [23, 24, 17], [17, 25, 13], [13, 26]] mixed ⟨(some_mono _), trivial⟩ prem fin hE hD rfl hml hdl hpr
        rotate_left 24
        · first | kernel_rfl | exact rfl
        · first | kernel_rfl | exact rfl
        · exact Nat.le_of_ble_eq_true rfl
        · first | kernel_rfl | exact rfl
        · first | kernel_rfl | exact rfl
        refine ⟨fun G hG => ?_, fun G hG => ?_, fun G hG => ?_, fun G hG => ?_, fun G hG => ?_, fun G hG => ?_, fun G hG => ?_, fun G hG => ?_, fun G hG => ?_, fun G hG => ?_, fun G hG => ?_, fun G hG => ?_, fun G hG => ?_, fun G hG => ?_, fun G hG => ?_, fun G hG => ?_, fun G hG => ?_, fun G hG => ?_, fun G hG => ?_, fun G hG => ?_, fun G hG => ?_, fun G hG => ?_, fun G hG => ?_, fun G hG => ?_, fun G hG => ?_, fun G hG => ?_, fun G hG => ?_, fun G hG => ?_, trivial⟩
        · simp only [withD, nthD, Step2, nthDst, putO, postD]
          (refine op_move ?_; exact ⟨[], rfl, rfl, rfl⟩)
        · simp only [withD, nthD, Step2, nthDst, putO, postD]
          (refine op_unop_not ?_; exact ⟨[], rfl, rfl, rfl⟩)
        · simp only [withD, nthD, Step2, nthDst, putO, postD]
          (refine op_move ?_; exact ⟨[], rfl, rfl, rfl⟩)
        · simp only [withD, nthD, Step2, nthDst, putO, postD]
          (first | refine .inr ⟨_, rfl, rfl, [], rfl, rfl, rfl⟩ | refine .inl ⟨_, _, rfl, rfl, fun _ => ?_, fun h => absurd h (by first | decide | (refine ne_not ?_; assumption))⟩ | refine .inl ⟨_, _, rfl, rfl, (fun h => absurd h (by first | decide | (refine ne_not2 ?_; assumption))), fun _ => ⟨[], rfl, rfl, rfl⟩⟩)
          (all_goals (refine op_move ?_; exact ⟨[], rfl, rfl, rfl⟩))
        · simp only [withD, nthD, Step2, nthDst, putO, postD]
          (first | refine .inr ⟨_, rfl, rfl, [], rfl, rfl, rfl⟩ | refine .inl ⟨_, _, rfl, rfl, fun _ => ?_, fun h => absurd h (by first | decide | (refine ne_not ?_; assumption))⟩ | refine .inl ⟨_, _, rfl, rfl, (fun h => absurd h (by first | decide | (refine ne_not2 ?_; assumption))), fun _ => ⟨[], rfl, rfl, rfl⟩⟩)
          (all_goals (refine op_len_slice ?_; exact ⟨[], rfl, rfl, rfl⟩))
        · simp only [withD, nthD, Step2, nthDst, putO, postD]
          (first | refine .inr ⟨_, rfl, rfl, [], rfl, rfl, rfl⟩ | refine .inl ⟨_, _, rfl, rfl, fun _ => ?_, fun h => absurd h (by first | decide | (refine ne_not ?_; assumption))⟩ | refine .inl ⟨_, _, rfl, rfl, (fun h => absurd h (by first | decide | (refine ne_not2 ?_; assumption))), fun _ => ⟨[], rfl, rfl, rfl⟩⟩)
          (all_goals ((refine op_icmp ?_; rw [c2]; exact ⟨[], rfl, rfl, rfl⟩)))
        · simp only [withD, nthD, Step2, nthDst, putO, postD]
          ((first | refine op_pick_true ?_ | refine op_pick_false ?_ | refine op_pick_true' ?_ | refine op_pick_false' ?_); exact ⟨[], rfl, rfl, rfl⟩)
        · simp only [withD, nthD, Step2, nthDst, putO, postD]
          (refine op_move ?_; exact ⟨[], rfl, rfl, rfl⟩)
        · simp only [withD, nthD, Step2, nthDst, putO, postD]
          (first | refine .inr ⟨_, rfl, rfl, [], rfl, rfl, rfl⟩ | refine .inl ⟨_, _, rfl, rfl, fun _ => ?_, fun h => absurd h (by first | decide | (refine ne_not ?_; assumption))⟩ | refine .inl ⟨_, _, rfl, rfl, (fun h => absurd h (by first | decide | (refine ne_not2 ?_; assumption))), fun _ => ⟨[], rfl, rfl, rfl⟩⟩)
          (all_goals ((first | refine op_load ?_ | refine op_load_agg ?_ | refine op_load ?_ (hm := Sub.mem (by assumption) (by (repeat (apply List.mem_cons_of_mem)); assumption)) | refine op_load_agg ?_ (hm := Sub.mem (by assumption) (by (repeat (apply List.mem_cons_of_mem)); assumption)) | refine op_loadH hG rfl ?_ | refine op_load_aggH hG rfl ?_); exact ⟨[], rfl, rfl, rfl⟩))
        · simp only [withD, nthD, Step2, nthDst, putO, postD]
          (first | refine .inr ⟨_, rfl, rfl, [], rfl, rfl, rfl⟩ | refine .inl ⟨_, _, rfl, rfl, fun _ => ?_, fun h => absurd h (by first | decide | (refine ne_not ?_; assumption))⟩ | refine .inl ⟨_, _, rfl, rfl, (fun h => absurd h (by first | decide | (refine ne_not2 ?_; assumption))), fun _ => ⟨[], rfl, rfl, rfl⟩⟩)
          (all_goals (refine op_buildSlice ?_; intro _; exact ⟨[(_, _)], rfl, ⟨_, rfl, rfl⟩⟩))
        · simp only [withD, nthD, Step2, nthDst, putO, postD]
          rintro _ _
          (first | refine .inr ⟨_, rfl, rfl, [], rfl, rfl, rfl⟩ | refine .inl ⟨_, _, rfl, rfl, fun _ => ?_, fun h => absurd h (by first | decide | (refine ne_not ?_; assumption))⟩ | refine .inl ⟨_, _, rfl, rfl, (fun h => absurd h (by first | decide | (refine ne_not2 ?_; assumption))), fun _ => ⟨[], rfl, rfl, rfl⟩⟩)
          (all_goals ((refine op_call ((planeToB _ [(px, py)] _ _ (by simp) (one_pair (by assumption))).mono ?_); rintro _ _ ⟨rfl, ex, rfl⟩; exact ⟨ex, rfl, congrArg Value.bool hp'⟩)))
        · simp only [withD, nthD, Step2, nthDst, putO, postD]
          rintro _ _ rfl -
          (first | refine .inr ⟨_, rfl, rfl, [], rfl, rfl, rfl⟩ | refine .inl ⟨_, _, rfl, rfl, fun _ => ?_, fun h => absurd h (by first | decide | (refine ne_not ?_; assumption))⟩ | refine .inl ⟨_, _, rfl, rfl, (fun h => absurd h (by first | decide | (refine ne_not2 ?_; assumption))), fun _ => ⟨[], rfl, rfl, rfl⟩⟩)
          (all_goals (refine op_unop_not ?_; exact ⟨[], rfl, rfl, rfl⟩))
        · simp only [withD, nthD, Step2, nthDst, putO, postD]
          ((first | refine op_pick_true ?_ | refine op_pick_false ?_ | refine op_pick_true' ?_ | refine op_pick_false' ?_); exact ⟨[], rfl, rfl, rfl⟩)
        · simp only [withD, nthD, Step2, nthDst, putO, postD]
          rintro _ _ rfl -
          (refine op_move ?_; exact ⟨[], rfl, rfl, rfl⟩)
        · simp only [withD, nthD, Step2, nthDst, putO, postD]
          (first | refine .inr ⟨_, rfl, rfl, [], rfl, rfl, rfl⟩ | refine .inl ⟨_, _, rfl, rfl, fun _ => ?_, fun h => absurd h (by first | decide | (refine ne_not ?_; assumption))⟩ | refine .inl ⟨_, _, rfl, rfl, (fun h => absurd h (by first | decide | (refine ne_not2 ?_; assumption))), fun _ => ⟨[], rfl, rfl, rfl⟩⟩)
          (all_goals (refine op_move ?_; exact ⟨[], rfl, rfl, rfl⟩))
        · simp only [withD, nthD, Step2, nthDst, putO, postD]
          (first | refine .inr ⟨_, rfl, rfl, [], rfl, rfl, rfl⟩ | refine .inl ⟨_, _, rfl, rfl, fun _ => ?_, fun h => absurd h (by first | decide | (refine ne_not ?_; assumption))⟩ | refine .inl ⟨_, _, rfl, rfl, (fun h => absurd h (by first | decide | (refine ne_not2 ?_; assumption))), fun _ => ⟨[], rfl, rfl, rfl⟩⟩)
          (all_goals ((refine op_call ((shut _ (prs xs stp m) m2 _ _ _ _ _ (hsl2.mono hG) (by omega) (by omega) (hget0 0 (by omega)) (hget0 (m2 + 1) (by omega))).mono ?_); rintro _ _ ⟨rfl, rfl⟩; exact ⟨[], rfl, congrArg Value.bool hsh, rfl⟩)))
        · simp only [withD, nthD, Step2, nthDst, putO, postD]
          (first | refine .inr ⟨_, rfl, rfl, [], rfl, rfl, rfl⟩ | refine .inl ⟨_, _, rfl, rfl, fun _ => ?_, fun h => absurd h (by first | decide | (refine ne_not ?_; assumption))⟩ | refine .inl ⟨_, _, rfl, rfl, (fun h => absurd h (by first | decide | (refine ne_not2 ?_; assumption))), fun _ => ⟨[], rfl, rfl, rfl⟩⟩)
          (all_goals (refine op_unop_not ?_; exact ⟨[], rfl, rfl, rfl⟩))
        · simp only [withD, nthD, Step2, nthDst, putO, postD]
          (first | refine .inr ⟨_, rfl, rfl, [], rfl, rfl, rfl⟩ | refine .inl ⟨_, _, rfl, rfl, fun _ => ?_, fun h => absurd h (by first | decide | (refine ne_not ?_; assumption))⟩ | refine .inl ⟨_, _, rfl, rfl, (fun h => absurd h (by first | decide | (refine ne_not2 ?_; assumption))), fun _ => ⟨[], rfl, rfl, rfl⟩⟩)
          (all_goals (refine op_move ?_; exact ⟨[], rfl, rfl, rfl⟩))
        · simp only [withD, nthD, Step2, nthDst, putO, postD]
          (first | refine .inr ⟨_, rfl, rfl, [], rfl, rfl, rfl⟩ | refine .inl ⟨_, _, rfl, rfl, fun _ => ?_, fun h => absurd h (by first | decide | (refine ne_not ?_; assumption))⟩ | refine .inl ⟨_, _, rfl, rfl, (fun h => absurd h (by first | decide | (refine ne_not2 ?_; assumption))), fun _ => ⟨[], rfl, rfl, rfl⟩⟩)
          (all_goals (refine op_move ?_; exact ⟨[], rfl, rfl, rfl⟩))
        · simp only [withD, nthD, Step2, nthDst, putO, postD]
          (first | refine .inr ⟨_, rfl, rfl, [], rfl, rfl, rfl⟩ | refine .inl ⟨_, _, rfl, rfl, fun _ => ?_, fun h => absurd h (by first | decide | (refine ne_not ?_; assumption))⟩ | refine .inl ⟨_, _, rfl, rfl, (fun h => absurd h (by first | decide | (refine ne_not2 ?_; assumption))), fun _ => ⟨[], rfl, rfl, rfl⟩⟩)
          (all_goals (refine op_move ?_; exact ⟨[], rfl, rfl, rfl⟩))
        · simp only [withD, nthD, Step2, nthDst, putO, postD]
          (first | refine .inr ⟨_, rfl, rfl, [], rfl, rfl, rfl⟩ | refine .inl ⟨_, _, rfl, rfl, fun _ => ?_, fun h => absurd h (by first | decide | (refine ne_not ?_; assumption))⟩ | refine .inl ⟨_, _, rfl, rfl, (fun h => absurd h (by first | decide | (refine ne_not2 ?_; assumption))), fun _ => ⟨[], rfl, rfl, rfl⟩⟩)
          (all_goals (refine op_len_slice ?_; exact ⟨[], rfl, rfl, rfl⟩))
        · simp only [withD, nthD, Step2, nthDst, putO, postD]
          (first | refine .inr ⟨_, rfl, rfl, [], rfl, rfl, rfl⟩ | refine .inl ⟨_, _, rfl, rfl, fun _ => ?_, fun h => absurd h (by first | decide | (refine ne_not ?_; assumption))⟩ | refine .inl ⟨_, _, rfl, rfl, (fun h => absurd h (by first | decide | (refine ne_not2 ?_; assumption))), fun _ => ⟨[], rfl, rfl, rfl⟩⟩)
          (all_goals ((refine op_iarith ?_; rw [w1]; exact ⟨[], rfl, rfl, rfl⟩)))
        · simp only [withD, nthD, Step2, nthDst, putO, postD]
          (first | refine .inr ⟨_, rfl, rfl, [], rfl, rfl, rfl⟩ | refine .inl ⟨_, _, rfl, rfl, fun _ => ?_, fun h => absurd h (by first | decide | (refine ne_not ?_; assumption))⟩ | refine .inl ⟨_, _, rfl, rfl, (fun h => absurd h (by first | decide | (refine ne_not2 ?_; assumption))), fun _ => ⟨[], rfl, rfl, rfl⟩⟩)
          (all_goals ((refine op_indexAddr (j := m2 + 1) ?_ (hj := by omega); exact ⟨[], rfl, rfl, rfl⟩)))
        · simp only [withD, nthD, Step2, nthDst, putO, postD]
          (first | refine .inr ⟨_, rfl, rfl, [], rfl, rfl, rfl⟩ | refine .inl ⟨_, _, rfl, rfl, fun _ => ?_, fun h => absurd h (by first | decide | (refine ne_not ?_; assumption))⟩ | refine .inl ⟨_, _, rfl, rfl, (fun h => absurd h (by first | decide | (refine ne_not2 ?_; assumption))), fun _ => ⟨[], rfl, rfl, rfl⟩⟩)
          (all_goals ((refine op_load_agg ?_ (hm := hG _ hmem2) (hv := gl); exact ⟨[], rfl, rfl, rfl⟩)))
        · simp only [withD, nthD, Step2, nthDst, putO, postD]
          (first | refine .inr ⟨_, rfl, rfl, [], rfl, rfl, rfl⟩ | refine .inl ⟨_, _, rfl, rfl, fun _ => ?_, fun h => absurd h (by first | decide | (refine ne_not ?_; assumption))⟩ | refine .inl ⟨_, _, rfl, rfl, (fun h => absurd h (by first | decide | (refine ne_not2 ?_; assumption))), fun _ => ⟨[], rfl, rfl, rfl⟩⟩)
          (all_goals ((first | refine op_load ?_ | refine op_load_agg ?_ | refine op_load ?_ (hm := Sub.mem (by assumption) (by (repeat (apply List.mem_cons_of_mem)); assumption)) | refine op_load_agg ?_ (hm := Sub.mem (by assumption) (by (repeat (apply List.mem_cons_of_mem)); assumption)) | refine op_loadH hG rfl ?_ | refine op_load_aggH hG rfl ?_); exact ⟨[], rfl, rfl, rfl⟩))
        · simp only [withD, nthD, Step2, nthDst, putO, postD]
          (first | refine .inr ⟨_, rfl, rfl, [], rfl, rfl, rfl⟩ | refine .inl ⟨_, _, rfl, rfl, fun _ => ?_, fun h => absurd h (by first | decide | (refine ne_not ?_; assumption))⟩ | refine .inl ⟨_, _, rfl, rfl, (fun h => absurd h (by first | decide | (refine ne_not2 ?_; assumption))), fun _ => ⟨[], rfl, rfl, rfl⟩⟩)
          (all_goals ((refine op_aggeq [(x (m2 + 1), px), (y (m2 + 1), py)] ?_; exact ⟨[], rfl, congrArg Value.bool hend, rfl⟩)))
        · simp only [withD, nthD, Step2, nthDst, putO, postD]
          (first | refine .inr ⟨_, rfl, rfl, [], rfl, rfl, rfl⟩ | refine .inl ⟨_, _, rfl, rfl, fun _ => ?_, fun h => absurd h (by first | decide | (refine ne_not ?_; assumption))⟩ | refine .inl ⟨_, _, rfl, rfl, (fun h => absurd h (by first | decide | (refine ne_not2 ?_; assumption))), fun _ => ⟨[], rfl, rfl, rfl⟩⟩)
          (all_goals ((first | refine op_pick_true ?_ | refine op_pick_false ?_ | refine op_pick_true' ?_ | refine op_pick_false' ?_); exact ⟨[], rfl, rfl, rfl⟩))
        · simp only [withD, nthD, Step2, nthDst, putO, postD]
          ((first | refine op_pick_true ?_ | refine op_pick_false ?_ | refine op_pick_true' ?_ | refine op_pick_false' ?_); exact ⟨[], rfl, rfl, rfl⟩)
        simp only [FinalsD, nthDst, putO, List.drop_succ_cons, List.drop_zero]
        rintro _ _ _ ⟨rfl, -⟩
        try simp only [List.nil_append]
        repeat' first
          | refine tc_seq ?_ | refine tc_region ?_ | refine at_seq_normal ?_ | refine tl_nil ?_ | refine tl_cons ?_ | refine op_move ?_ | refine op_assign ?_ | refine op_load ?_ | refine op_load_agg ?_ | refine op_indexC ?_
          | refine op_indexAddr1 ?_ | refine op_indexAddr ?_ | refine op_icmp ?_ | refine op_fcmp ?_ | refine op_iarith ?_ | refine op_bcmp ?_ | refine op_unop_not ?_ | refine op_len_slice ?_ | refine op_pick_true ?_ | refine op_pick_false ?_
          | refine op_pick_true' ?_ | refine op_pick_false' ?_ | refine op_extract ?_ | refine op_ptr_nil ?_ | refine op_iquo ?_ | refine op_irem ?_ | refine op_ibits ?_ | refine op_slice_isnil ?_ | refine op_slice_notnil ?_ | refine op_shl ?_
          | refine op_shr ?_ | (refine op_box ?_; intro _) | (refine op_buildSlice ?_; intro _) | (refine op_farith ?_; intro _ _) | refine op_loadK rfl ?_ | refine op_load_aggK rfl ?_ | refine tc_cond_t ?_ | refine tc_cond_f ?_ | refine tc_cond (fun _ => ?_) (fun _ => ?_) | refine tc_skip ?_
          | refine tc_ret ?_ | refine at_seq_ret ?_ | refine tl_guard_yes ?_ | refine tl_guard_no ?_ | refine tl_guard_yes' ?_ | refine tl_guard_no' ?_ | refine tl_guard_undef ?_ | refine tl_guard_split (fun _ => ?_) (fun _ => ?_)
        exact ret_tmp (hG := by (repeat (first | exact List.Sublist.refl _ | apply List.Sublist.cons_cons | apply List.Sublist.cons | refine List.Sublist.trans ?_ (List.sublist_append_right _ _)))) (hk := ⟨rfl, rfl⟩)
      · rw [decide_eq_false he] at hend
        have hring := rings a0 b0 (X 0, Y 0) (pf X Y 1 (m - 1)) hnb (.inr (by
          rw [hlast]
          intro h
          injection h with h
          injection h with h1 h2
          exact he ⟨h1, h2⟩))
        apply fun hole0 hole1 hole2 hole3 hole4 hole5 hole6 hole7 hole8 hole9 hole10 hole11 hole12 hole13 hole14 hole15 hole16 hole17 hole18 hole19 hole20 hole21 hole22 hE hD hml hdl hpr prem fin => tc_drawnD 28 [PhiD.is hole0, PhiD.is hole1, PhiD.is hole2, PhiD.is hole3, PhiD.is hole4, PhiD.is (.bool false), PhiD.is hole5, PhiD.is hole6, PhiD.is hole7, PhiD.fresh (fun k => .slice (some ⟨k, 0, none⟩) 1 1) hole8, PhiD.gen (some' (fun w _ => w = .bool true)), PhiD.is hole9, PhiD.is hole10, PhiD.is hole11, PhiD.is hole12, PhiD.is (.bool false), PhiD.is hole13, PhiD.is hole14, PhiD.is hole15, PhiD.is hole16, PhiD.is hole17, PhiD.is (.int .i64 ((m2 + 1 : Nat) : Int)), PhiD.is hole18, PhiD.is hole19, PhiD.is hole20, PhiD.is (.bool false), PhiD.is hole21, PhiD.is hole22]
          [some 20, some 21, some 22, some 23, some 24, some 25, some 26, some 27, some 28, some 29, some 30, some 31, some 32, some 33, some 34, some 35, some 36, some 37, some 38, some 39, some 40, some 41, some 42, some 43, some 44, some 45, some 46, some 47] [[], [0], [1], [2], [3, 2], [4, 2], [2, 5], [6, 2], [7], [8, 7], [9, 7], [10, 7], [7, 11], [12, 10], [13], [14, 13], [15, 13], [16, 15, 13], [17], [17], [19, 17], [20, 17], [18, 21, 17], [22, 17], [17], [23, 24, 17], [17, 25, 13], [13, 26]] mixed ⟨(some_mono _), trivial⟩ prem fin hE hD rfl hml hdl hpr
        rotate_left 24
        · first | kernel_rfl | exact rfl
        · first | kernel_rfl | exact rfl
        · exact Nat.le_of_ble_eq_true rfl
        · first | kernel_rfl | exact rfl
        · first | kernel_rfl | exact rfl
        refine ⟨fun G hG => ?_, fun G hG => ?_, fun G hG => ?_, fun G hG => ?_, fun G hG => ?_, fun G hG => ?_, fun G hG => ?_, fun G hG => ?_, fun G hG => ?_, fun G hG => ?_, fun G hG => ?_, fun G hG => ?_, fun G hG => ?_, fun G hG => ?_, fun G hG => ?_, fun G hG => ?_, fun G hG => ?_, fun G hG => ?_, fun G hG => ?_, fun G hG => ?_, fun G hG => ?_, fun G hG => ?_, fun G hG => ?_, fun G hG => ?_, fun G hG => ?_, fun G hG => ?_, fun G hG => ?_, fun G hG => ?_, trivial⟩
        · simp only [withD, nthD, Step2, nthDst, putO, postD]
          (refine op_move ?_; exact ⟨[], rfl, rfl, rfl⟩)
        · simp only [withD, nthD, Step2, nthDst, putO, postD]
          (refine op_unop_not ?_; exact ⟨[], rfl, rfl, rfl⟩)
        · simp only [withD, nthD, Step2, nthDst, putO, postD]
          (refine op_move ?_; exact ⟨[], rfl, rfl, rfl⟩)
        · simp only [withD, nthD, Step2, nthDst, putO, postD]
          (first | refine .inr ⟨_, rfl, rfl, [], rfl, rfl, rfl⟩ | refine .inl ⟨_, _, rfl, rfl, fun _ => ?_, fun h => absurd h (by first | decide | (refine ne_not ?_; assumption))⟩ | refine .inl ⟨_, _, rfl, rfl, (fun h => absurd h (by first | decide | (refine ne_not2 ?_; assumption))), fun _ => ⟨[], rfl, rfl, rfl⟩⟩)
          (all_goals (refine op_move ?_; exact ⟨[], rfl, rfl, rfl⟩))
        · simp only [withD, nthD, Step2, nthDst, putO, postD]
          (first | refine .inr ⟨_, rfl, rfl, [], rfl, rfl, rfl⟩ | refine .inl ⟨_, _, rfl, rfl, fun _ => ?_, fun h => absurd h (by first | decide | (refine ne_not ?_; assumption))⟩ | refine .inl ⟨_, _, rfl, rfl, (fun h => absurd h (by first | decide | (refine ne_not2 ?_; assumption))), fun _ => ⟨[], rfl, rfl, rfl⟩⟩)
          (all_goals (refine op_len_slice ?_; exact ⟨[], rfl, rfl, rfl⟩))
        · simp only [withD, nthD, Step2, nthDst, putO, postD]
          (first | refine .inr ⟨_, rfl, rfl, [], rfl, rfl, rfl⟩ | refine .inl ⟨_, _, rfl, rfl, fun _ => ?_, fun h => absurd h (by first | decide | (refine ne_not ?_; assumption))⟩ | refine .inl ⟨_, _, rfl, rfl, (fun h => absurd h (by first | decide | (refine ne_not2 ?_; assumption))), fun _ => ⟨[], rfl, rfl, rfl⟩⟩)
          (all_goals ((refine op_icmp ?_; rw [c2]; exact ⟨[], rfl, rfl, rfl⟩)))
        · simp only [withD, nthD, Step2, nthDst, putO, postD]
          ((first | refine op_pick_true ?_ | refine op_pick_false ?_ | refine op_pick_true' ?_ | refine op_pick_false' ?_); exact ⟨[], rfl, rfl, rfl⟩)
        · simp only [withD, nthD, Step2, nthDst, putO, postD]
          (refine op_move ?_; exact ⟨[], rfl, rfl, rfl⟩)
        · simp only [withD, nthD, Step2, nthDst, putO, postD]
          (first | refine .inr ⟨_, rfl, rfl, [], rfl, rfl, rfl⟩ | refine .inl ⟨_, _, rfl, rfl, fun _ => ?_, fun h => absurd h (by first | decide | (refine ne_not ?_; assumption))⟩ | refine .inl ⟨_, _, rfl, rfl, (fun h => absurd h (by first | decide | (refine ne_not2 ?_; assumption))), fun _ => ⟨[], rfl, rfl, rfl⟩⟩)
          (all_goals ((first | refine op_load ?_ | refine op_load_agg ?_ | refine op_load ?_ (hm := Sub.mem (by assumption) (by (repeat (apply List.mem_cons_of_mem)); assumption)) | refine op_load_agg ?_ (hm := Sub.mem (by assumption) (by (repeat (apply List.mem_cons_of_mem)); assumption)) | refine op_loadH hG rfl ?_ | refine op_load_aggH hG rfl ?_); exact ⟨[], rfl, rfl, rfl⟩))
        · simp only [withD, nthD, Step2, nthDst, putO, postD]
          (first | refine .inr ⟨_, rfl, rfl, [], rfl, rfl, rfl⟩ | refine .inl ⟨_, _, rfl, rfl, fun _ => ?_, fun h => absurd h (by first | decide | (refine ne_not ?_; assumption))⟩ | refine .inl ⟨_, _, rfl, rfl, (fun h => absurd h (by first | decide | (refine ne_not2 ?_; assumption))), fun _ => ⟨[], rfl, rfl, rfl⟩⟩)
          (all_goals (refine op_buildSlice ?_; intro _; exact ⟨[(_, _)], rfl, ⟨_, rfl, rfl⟩⟩))
        · simp only [withD, nthD, Step2, nthDst, putO, postD]
          rintro _ _
          (first | refine .inr ⟨_, rfl, rfl, [], rfl, rfl, rfl⟩ | refine .inl ⟨_, _, rfl, rfl, fun _ => ?_, fun h => absurd h (by first | decide | (refine ne_not ?_; assumption))⟩ | refine .inl ⟨_, _, rfl, rfl, (fun h => absurd h (by first | decide | (refine ne_not2 ?_; assumption))), fun _ => ⟨[], rfl, rfl, rfl⟩⟩)
          (all_goals ((refine op_call ((planeToB _ [(px, py)] _ _ (by simp) (one_pair (by assumption))).mono ?_); rintro _ _ ⟨rfl, ex, rfl⟩; exact ⟨ex, rfl, congrArg Value.bool hp'⟩)))
        · simp only [withD, nthD, Step2, nthDst, putO, postD]
          rintro _ _ rfl -
          (first | refine .inr ⟨_, rfl, rfl, [], rfl, rfl, rfl⟩ | refine .inl ⟨_, _, rfl, rfl, fun _ => ?_, fun h => absurd h (by first | decide | (refine ne_not ?_; assumption))⟩ | refine .inl ⟨_, _, rfl, rfl, (fun h => absurd h (by first | decide | (refine ne_not2 ?_; assumption))), fun _ => ⟨[], rfl, rfl, rfl⟩⟩)
          (all_goals (refine op_unop_not ?_; exact ⟨[], rfl, rfl, rfl⟩))
        · simp only [withD, nthD, Step2, nthDst, putO, postD]
          ((first | refine op_pick_true ?_ | refine op_pick_false ?_ | refine op_pick_true' ?_ | refine op_pick_false' ?_); exact ⟨[], rfl, rfl, rfl⟩)
        · simp only [withD, nthD, Step2, nthDst, putO, postD]
          rintro _ _ rfl -
          (refine op_move ?_; exact ⟨[], rfl, rfl, rfl⟩)
        · simp only [withD, nthD, Step2, nthDst, putO, postD]
          (first | refine .inr ⟨_, rfl, rfl, [], rfl, rfl, rfl⟩ | refine .inl ⟨_, _, rfl, rfl, fun _ => ?_, fun h => absurd h (by first | decide | (refine ne_not ?_; assumption))⟩ | refine .inl ⟨_, _, rfl, rfl, (fun h => absurd h (by first | decide | (refine ne_not2 ?_; assumption))), fun _ => ⟨[], rfl, rfl, rfl⟩⟩)
          (all_goals (refine op_move ?_; exact ⟨[], rfl, rfl, rfl⟩))
        · simp only [withD, nthD, Step2, nthDst, putO, postD]
          (first | refine .inr ⟨_, rfl, rfl, [], rfl, rfl, rfl⟩ | refine .inl ⟨_, _, rfl, rfl, fun _ => ?_, fun h => absurd h (by first | decide | (refine ne_not ?_; assumption))⟩ | refine .inl ⟨_, _, rfl, rfl, (fun h => absurd h (by first | decide | (refine ne_not2 ?_; assumption))), fun _ => ⟨[], rfl, rfl, rfl⟩⟩)
          (all_goals ((refine op_call ((shut _ (prs xs stp m) m2 _ _ _ _ _ (hsl2.mono hG) (by omega) (by omega) (hget0 0 (by omega)) (hget0 (m2 + 1) (by omega))).mono ?_); rintro _ _ ⟨rfl, rfl⟩; exact ⟨[], rfl, congrArg Value.bool hsh, rfl⟩)))
        · simp only [withD, nthD, Step2, nthDst, putO, postD]
          (first | refine .inr ⟨_, rfl, rfl, [], rfl, rfl, rfl⟩ | refine .inl ⟨_, _, rfl, rfl, fun _ => ?_, fun h => absurd h (by first | decide | (refine ne_not ?_; assumption))⟩ | refine .inl ⟨_, _, rfl, rfl, (fun h => absurd h (by first | decide | (refine ne_not2 ?_; assumption))), fun _ => ⟨[], rfl, rfl, rfl⟩⟩)
          (all_goals (refine op_unop_not ?_; exact ⟨[], rfl, rfl, rfl⟩))
        · simp only [withD, nthD, Step2, nthDst, putO, postD]
          (first | refine .inr ⟨_, rfl, rfl, [], rfl, rfl, rfl⟩ | refine .inl ⟨_, _, rfl, rfl, fun _ => ?_, fun h => absurd h (by first | decide | (refine ne_not ?_; assumption))⟩ | refine .inl ⟨_, _, rfl, rfl, (fun h => absurd h (by first | decide | (refine ne_not2 ?_; assumption))), fun _ => ⟨[], rfl, rfl, rfl⟩⟩)
          (all_goals (refine op_move ?_; exact ⟨[], rfl, rfl, rfl⟩))
        · simp only [withD, nthD, Step2, nthDst, putO, postD]
          (first | refine .inr ⟨_, rfl, rfl, [], rfl, rfl, rfl⟩ | refine .inl ⟨_, _, rfl, rfl, fun _ => ?_, fun h => absurd h (by first | decide | (refine ne_not ?_; assumption))⟩ | refine .inl ⟨_, _, rfl, rfl, (fun h => absurd h (by first | decide | (refine ne_not2 ?_; assumption))), fun _ => ⟨[], rfl, rfl, rfl⟩⟩)
          (all_goals (refine op_move ?_; exact ⟨[], rfl, rfl, rfl⟩))
        · simp only [withD, nthD, Step2, nthDst, putO, postD]
          (first | refine .inr ⟨_, rfl, rfl, [], rfl, rfl, rfl⟩ | refine .inl ⟨_, _, rfl, rfl, fun _ => ?_, fun h => absurd h (by first | decide | (refine ne_not ?_; assumption))⟩ | refine .inl ⟨_, _, rfl, rfl, (fun h => absurd h (by first | decide | (refine ne_not2 ?_; assumption))), fun _ => ⟨[], rfl, rfl, rfl⟩⟩)
          (all_goals (refine op_move ?_; exact ⟨[], rfl, rfl, rfl⟩))
        · simp only [withD, nthD, Step2, nthDst, putO, postD]
          (first | refine .inr ⟨_, rfl, rfl, [], rfl, rfl, rfl⟩ | refine .inl ⟨_, _, rfl, rfl, fun _ => ?_, fun h => absurd h (by first | decide | (refine ne_not ?_; assumption))⟩ | refine .inl ⟨_, _, rfl, rfl, (fun h => absurd h (by first | decide | (refine ne_not2 ?_; assumption))), fun _ => ⟨[], rfl, rfl, rfl⟩⟩)
          (all_goals (refine op_len_slice ?_; exact ⟨[], rfl, rfl, rfl⟩))
        · simp only [withD, nthD, Step2, nthDst, putO, postD]
          (first | refine .inr ⟨_, rfl, rfl, [], rfl, rfl, rfl⟩ | refine .inl ⟨_, _, rfl, rfl, fun _ => ?_, fun h => absurd h (by first | decide | (refine ne_not ?_; assumption))⟩ | refine .inl ⟨_, _, rfl, rfl, (fun h => absurd h (by first | decide | (refine ne_not2 ?_; assumption))), fun _ => ⟨[], rfl, rfl, rfl⟩⟩)
          (all_goals ((refine op_iarith ?_; rw [w1]; exact ⟨[], rfl, rfl, rfl⟩)))
        · simp only [withD, nthD, Step2, nthDst, putO, postD]
          (first | refine .inr ⟨_, rfl, rfl, [], rfl, rfl, rfl⟩ | refine .inl ⟨_, _, rfl, rfl, fun _ => ?_, fun h => absurd h (by first | decide | (refine ne_not ?_; assumption))⟩ | refine .inl ⟨_, _, rfl, rfl, (fun h => absurd h (by first | decide | (refine ne_not2 ?_; assumption))), fun _ => ⟨[], rfl, rfl, rfl⟩⟩)
          (all_goals ((refine op_indexAddr (j := m2 + 1) ?_ (hj := by omega); exact ⟨[], rfl, rfl, rfl⟩)))
        · simp only [withD, nthD, Step2, nthDst, putO, postD]
          (first | refine .inr ⟨_, rfl, rfl, [], rfl, rfl, rfl⟩ | refine .inl ⟨_, _, rfl, rfl, fun _ => ?_, fun h => absurd h (by first | decide | (refine ne_not ?_; assumption))⟩ | refine .inl ⟨_, _, rfl, rfl, (fun h => absurd h (by first | decide | (refine ne_not2 ?_; assumption))), fun _ => ⟨[], rfl, rfl, rfl⟩⟩)
          (all_goals ((refine op_load_agg ?_ (hm := hG _ hmem2) (hv := gl); exact ⟨[], rfl, rfl, rfl⟩)))
        · simp only [withD, nthD, Step2, nthDst, putO, postD]
          (first | refine .inr ⟨_, rfl, rfl, [], rfl, rfl, rfl⟩ | refine .inl ⟨_, _, rfl, rfl, fun _ => ?_, fun h => absurd h (by first | decide | (refine ne_not ?_; assumption))⟩ | refine .inl ⟨_, _, rfl, rfl, (fun h => absurd h (by first | decide | (refine ne_not2 ?_; assumption))), fun _ => ⟨[], rfl, rfl, rfl⟩⟩)
          (all_goals ((first | refine op_load ?_ | refine op_load_agg ?_ | refine op_load ?_ (hm := Sub.mem (by assumption) (by (repeat (apply List.mem_cons_of_mem)); assumption)) | refine op_load_agg ?_ (hm := Sub.mem (by assumption) (by (repeat (apply List.mem_cons_of_mem)); assumption)) | refine op_loadH hG rfl ?_ | refine op_load_aggH hG rfl ?_); exact ⟨[], rfl, rfl, rfl⟩))
        · simp only [withD, nthD, Step2, nthDst, putO, postD]
          (first | refine .inr ⟨_, rfl, rfl, [], rfl, rfl, rfl⟩ | refine .inl ⟨_, _, rfl, rfl, fun _ => ?_, fun h => absurd h (by first | decide | (refine ne_not ?_; assumption))⟩ | refine .inl ⟨_, _, rfl, rfl, (fun h => absurd h (by first | decide | (refine ne_not2 ?_; assumption))), fun _ => ⟨[], rfl, rfl, rfl⟩⟩)
          (all_goals ((refine op_aggeq [(x (m2 + 1), px), (y (m2 + 1), py)] ?_; exact ⟨[], rfl, congrArg Value.bool hend, rfl⟩)))
        · simp only [withD, nthD, Step2, nthDst, putO, postD]
          (first | refine .inr ⟨_, rfl, rfl, [], rfl, rfl, rfl⟩ | refine .inl ⟨_, _, rfl, rfl, fun _ => ?_, fun h => absurd h (by first | decide | (refine ne_not ?_; assumption))⟩ | refine .inl ⟨_, _, rfl, rfl, (fun h => absurd h (by first | decide | (refine ne_not2 ?_; assumption))), fun _ => ⟨[], rfl, rfl, rfl⟩⟩)
          (all_goals ((first | refine op_pick_true ?_ | refine op_pick_false ?_ | refine op_pick_true' ?_ | refine op_pick_false' ?_); exact ⟨[], rfl, rfl, rfl⟩))
        · simp only [withD, nthD, Step2, nthDst, putO, postD]
          ((first | refine op_pick_true ?_ | refine op_pick_false ?_ | refine op_pick_true' ?_ | refine op_pick_false' ?_); exact ⟨[], rfl, rfl, rfl⟩)
        simp only [FinalsD, nthDst, putO, List.drop_succ_cons, List.drop_zero]
        rintro _ _ _ ⟨rfl, -⟩
        try simp only [List.nil_append]
        repeat' first
          | (refine op_call ((himp _ (by simp [hmr])).mono ?_); rintro _ _ ⟨rfl, ex2, rfl⟩; rw [hring])
          | (first | refine tc_seq ?_ | refine tc_region ?_ | refine at_seq_normal ?_ | refine tl_nil ?_ | refine tl_cons ?_ | refine op_move ?_ | refine op_assign ?_ | refine op_load ?_ | refine op_load_agg ?_ | refine op_indexC ?_ | refine op_indexAddr1 ?_ | refine op_indexAddr ?_ | refine op_icmp ?_ | refine op_fcmp ?_ | refine op_iarith ?_ | refine op_bcmp ?_ | refine op_unop_not ?_ | refine op_len_slice ?_ | refine op_pick_true ?_ | refine op_pick_false ?_ | refine op_pick_true' ?_ | refine op_pick_false' ?_ | refine op_extract ?_ | refine op_ptr_nil ?_ | refine op_iquo ?_ | refine op_irem ?_ | refine op_ibits ?_ | refine op_slice_isnil ?_ | refine op_slice_notnil ?_ | refine op_shl ?_ | refine op_shr ?_ | (refine op_box ?_; intro _) | (refine op_buildSlice ?_; intro _) | (refine op_farith ?_; intro _ _) | refine op_loadK rfl ?_ | refine op_load_aggK rfl ?_ | refine tc_cond_t ?_ | refine tc_cond_f ?_ | refine tc_cond (fun _ => ?_) (fun _ => ?_) | refine tc_skip ?_ | refine tc_ret ?_ | refine at_seq_ret ?_ | refine tl_guard_yes ?_ | refine tl_guard_no ?_ | refine tl_guard_yes' ?_ | refine tl_guard_no' ?_ | refine tl_guard_undef ?_ | refine tl_guard_split (fun _ => ?_) (fun _ => ?_) | fail)
          | fail
        apply fun hole0 hole1 hole2 hole3 hole4 hole5 hE hD hml hdl hpr prem fin => tc_drawnD 10 [PhiD.is hole0, PhiD.is hole1, PhiD.is hole2, PhiD.is hole3, PhiD.gen (fun w _ G => IsPs G w X Y m), PhiD.is hole4, PhiD.gen (fun w _ G => IsP a0 b0 0 w G), PhiD.gen (some' (fun w _ => w = .int .i64 (sloop a0 b0 (X 0, Y 0) (pf X Y 1 (m - 1)) false))), PhiD.is (.bool true), PhiD.is hole5]
          [some 55, some 56, some 57, some 58, some 59, some 60, some 61, some 62, some 63, some 64, some 6] [[], [0], [1], [1], [3, 1], [1], [5, 4, 1], [4, 6, 1], [2, 7, 1], [1, 8]] mixed ⟨(fun _ _ _ _ h hs => isPs_mono h hs), (fun _ _ _ _ h hs => IsP.mono h hs), (some_mono _), trivial⟩ prem fin hE hD rfl hml hdl hpr
        rotate_left 7
        · first | kernel_rfl | exact rfl
        · first | kernel_rfl | exact rfl
        · exact Nat.le_of_ble_eq_true rfl
        · first | kernel_rfl | exact rfl
        · first | kernel_rfl | exact rfl
        refine ⟨fun G hG => ?_, fun G hG => ?_, fun G hG => ?_, fun G hG => ?_, fun G hG => ?_, fun G hG => ?_, fun G hG => ?_, fun G hG => ?_, fun G hG => ?_, fun G hG => ?_, trivial⟩
        · simp only [withD, nthD, Step2, nthDst, putO, postD]
          (refine op_move ?_; exact ⟨[], rfl, rfl, rfl⟩)
        · simp only [withD, nthD, Step2, nthDst, putO, postD]
          (refine op_move ?_; exact ⟨[], rfl, rfl, rfl⟩)
        · simp only [withD, nthD, Step2, nthDst, putO, postD]
          (first | refine .inr ⟨_, rfl, rfl, [], rfl, rfl, rfl⟩ | refine .inl ⟨_, _, rfl, rfl, fun _ => ?_, fun h => absurd h (by first | decide | (refine ne_not ?_; assumption))⟩ | refine .inl ⟨_, _, rfl, rfl, (fun h => absurd h (by first | decide | (refine ne_not2 ?_; assumption))), fun _ => ⟨[], rfl, rfl, rfl⟩⟩)
          (all_goals (refine op_move ?_; exact ⟨[], rfl, rfl, rfl⟩))
        · simp only [withD, nthD, Step2, nthDst, putO, postD]
          (first | refine .inr ⟨_, rfl, rfl, [], rfl, rfl, rfl⟩ | refine .inl ⟨_, _, rfl, rfl, fun _ => ?_, fun h => absurd h (by first | decide | (refine ne_not ?_; assumption))⟩ | refine .inl ⟨_, _, rfl, rfl, (fun h => absurd h (by first | decide | (refine ne_not2 ?_; assumption))), fun _ => ⟨[], rfl, rfl, rfl⟩⟩)
          (all_goals (refine op_move ?_; exact ⟨[], rfl, rfl, rfl⟩))
        · simp only [withD, nthD, Step2, nthDst, putO, postD]
          (first | refine .inr ⟨_, rfl, rfl, [], rfl, rfl, rfl⟩ | refine .inl ⟨_, _, rfl, rfl, fun _ => ?_, fun h => absurd h (by first | decide | (refine ne_not ?_; assumption))⟩ | refine .inl ⟨_, _, rfl, rfl, (fun h => absurd h (by first | decide | (refine ne_not2 ?_; assumption))), fun _ => ⟨[], rfl, rfl, rfl⟩⟩)
          (all_goals ((refine op_call ((exacts _ (prs xs stp m) X Y _ (hsl2.mono fun e he => hG e (exs e he)) (by omega) hfv).mono ?_); rintro w _ ⟨hw, ex, rfl⟩; rw [hpl] at hw; exact ⟨ex, rfl, hw⟩)))
        · simp only [withD, nthD, Step2, nthDst, putO, postD]
          (first | refine .inr ⟨_, rfl, rfl, [], rfl, rfl, rfl⟩ | refine .inl ⟨_, _, rfl, rfl, fun _ => ?_, fun h => absurd h (by first | decide | (refine ne_not ?_; assumption))⟩ | refine .inl ⟨_, _, rfl, rfl, (fun h => absurd h (by first | decide | (refine ne_not2 ?_; assumption))), fun _ => ⟨[], rfl, rfl, rfl⟩⟩)
          (all_goals ((first | refine op_load ?_ | refine op_load_agg ?_ | refine op_load ?_ (hm := Sub.mem (by assumption) (by (repeat (apply List.mem_cons_of_mem)); assumption)) | refine op_load_agg ?_ (hm := Sub.mem (by assumption) (by (repeat (apply List.mem_cons_of_mem)); assumption)) | refine op_loadH hG rfl ?_ | refine op_load_aggH hG rfl ?_); exact ⟨[], rfl, rfl, rfl⟩))
        · simp only [withD, nthD, Step2, nthDst, putO, postD]
          rintro _ _ hqs -
          (first | refine .inr ⟨_, rfl, rfl, [], rfl, rfl, rfl⟩ | refine .inl ⟨_, _, rfl, rfl, fun _ => ?_, fun h => absurd h (by first | decide | (refine ne_not ?_; assumption))⟩ | refine .inl ⟨_, _, rfl, rfl, (fun h => absurd h (by first | decide | (refine ne_not2 ?_; assumption))), fun _ => ⟨[], rfl, rfl, rfl⟩⟩)
          (all_goals ((refine op_call ((exactly _ _ _ _ _ fa fb hpx hpy).mono ?_); rintro w _ ⟨ex, rfl, hw⟩; exact ⟨ex, rfl, hw⟩)))
        · simp only [withD, nthD, Step2, nthDst, putO, postD]
          rintro _ _ hqs - _ _ hq6 -
          (first | refine .inr ⟨_, rfl, rfl, [], rfl, rfl, rfl⟩ | refine .inl ⟨_, _, rfl, rfl, fun _ => ?_, fun h => absurd h (by first | decide | (refine ne_not ?_; assumption))⟩ | refine .inl ⟨_, _, rfl, rfl, (fun h => absurd h (by first | decide | (refine ne_not2 ?_; assumption))), fun _ => ⟨[], rfl, rfl, rfl⟩⟩)
          (all_goals ((refine op_call ((locate _ _ X Y m a0 b0 _ hqs hq6 (by omega) hn200).mono ?_); rintro _ _ ⟨rfl, ex, rfl⟩; exact ⟨ex, rfl, rfl⟩)))
        · simp only [withD, nthD, Step2, nthDst, putO, postD]
          rintro _ _ rfl -
          (first | refine .inr ⟨_, rfl, rfl, [], rfl, rfl, rfl⟩ | refine .inl ⟨_, _, rfl, rfl, fun _ => ?_, fun h => absurd h (by first | decide | (refine ne_not ?_; assumption))⟩ | refine .inl ⟨_, _, rfl, rfl, (fun h => absurd h (by first | decide | (refine ne_not2 ?_; assumption))), fun _ => ⟨[], rfl, rfl, rfl⟩⟩)
          (all_goals ((refine op_icmp ?_; exact ⟨[], rfl, congrArg Value.bool (by simp [icmp]), rfl⟩)))
        · simp only [withD, nthD, Step2, nthDst, putO, postD]
          ((first | refine op_pick_true ?_ | refine op_pick_false ?_ | refine op_pick_true' ?_ | refine op_pick_false' ?_); exact ⟨[], rfl, rfl, rfl⟩)
        simp only [FinalsD, nthDst, putO, List.drop_succ_cons, List.drop_zero]
        rintro _ _ _ _ _ _ ⟨rfl, hq6, hqs, -⟩
        try simp only [List.nil_append]
        repeat' first
          | refine tc_seq ?_ | refine tc_region ?_ | refine at_seq_normal ?_ | refine tl_nil ?_ | refine tl_cons ?_ | refine op_move ?_ | refine op_assign ?_ | refine op_load ?_ | refine op_load_agg ?_ | refine op_indexC ?_
          | refine op_indexAddr1 ?_ | refine op_indexAddr ?_ | refine op_icmp ?_ | refine op_fcmp ?_ | refine op_iarith ?_ | refine op_bcmp ?_ | refine op_unop_not ?_ | refine op_len_slice ?_ | refine op_pick_true ?_ | refine op_pick_false ?_
          | refine op_pick_true' ?_ | refine op_pick_false' ?_ | refine op_extract ?_ | refine op_ptr_nil ?_ | refine op_iquo ?_ | refine op_irem ?_ | refine op_ibits ?_ | refine op_slice_isnil ?_ | refine op_slice_notnil ?_ | refine op_shl ?_
          | refine op_shr ?_ | (refine op_box ?_; intro _) | (refine op_buildSlice ?_; intro _) | (refine op_farith ?_; intro _ _) | refine op_loadK rfl ?_ | refine op_load_aggK rfl ?_ | refine tc_cond_t ?_ | refine tc_cond_f ?_ | refine tc_cond (fun _ => ?_) (fun _ => ?_) | refine tc_skip ?_
          | refine tc_ret ?_ | refine at_seq_ret ?_ | refine tl_guard_yes ?_ | refine tl_guard_no ?_ | refine tl_guard_yes' ?_ | refine tl_guard_no' ?_ | refine tl_guard_undef ?_ | refine tl_guard_split (fun _ => ?_) (fun _ => ?_)
        exact ret_tmp (hG := by (repeat (first | exact List.Sublist.refl _ | apply List.Sublist.cons_cons | apply List.Sublist.cons | refine List.Sublist.trans ?_ (List.sublist_append_right _ _)))) (hk := ⟨rfl, rfl⟩)
theorem own : ownKnob Try.prog.godebug = none := by kernel_rfl
theorem laid : laidOutB Try.prog = true := by kernel_rfl
set_option maxRecDepth 100000 in
theorem lifted (os : Os) (started : os.Started) (H : Type) (enc : TypeId × Value → H) :
    ReturnsInHanded {} Try.checked os 9 .any (Rows.fnLocateInRingSpec.pre6 enc Try.prog Try.f9 Rows.fnLocateInRingRow.domain false) (Rows.fnLocateInRingSpec.post enc Try.prog Try.f9 false true false false) := by
  refine returnsInHanded_of_change (C := Try.checked) own started (by kernel_rfl) Try.func9
    (ChangeSpec.witness6 (enc := enc) (C := Try.checked) false ⟨#[], #[.int .i64 0, .agg #[.float .f64 0, .float .f64 0], .slice none 0 0], []⟩ 8 (by kernel_rfl) (by kernel_rfl) (by kernel_rfl) (by kernel_rfl)) ?_
  intro W base args ds gs before hval0 hW hcnd _
  have hval : ∀ (j : Nat) t v, Try.f9.params[j]? = some t → args[j]? = some v → Value.okWide Try.prog W .any base t v := hval0
  have hW' := hW
  obtain ⟨p, q, hA0, hV, rfl, hfz, hnd⟩ := hW
  have hA : DataW.TrodAll enc Try.prog W 0 (fun _ => true) true Try.f9.params.toList args.toList ds p := hA0
  rw [Try.params9] at hA hval
  obtain ⟨v0, vs0, d0, ds0, p0, q0, hargs, rfl, rfl, h0, r0⟩ := trodAll_cons hA
  obtain ⟨v1, vs1, d1, ds1, p1, q1, rfl, rfl, rfl, h1, r1⟩ := trodAll_cons r0
  obtain ⟨v2, vs2, d2, ds2, p2, q2, rfl, rfl, rfl, h2, r2⟩ := trodAll_cons r1
  obtain ⟨rfl, rfl, rfl⟩ := trodAll_nil r2
  obtain rfl : args = #[v0, v1, v2] := by cases args; simp_all
  obtain ⟨rfl, rfl⟩ := trodVars_none hV
  obtain ⟨n0, rfl, rfl, rfl, wn0⟩ := open_int Try.underlying3 (hval 0 3 v0 rfl rfl) h0
  obtain ⟨x1, y1, rfl, bx1, by1⟩ := open_p2 Try.underlying57 (by kernel_rfl) (by kernel_rfl) Try.underlying36 Try.underlying36 (hval 1 57 v1 rfl rfl) h1
  obtain ⟨xs2, hs2, hl2, hb2⟩ := open_floats Try.underlying25 (by kernel_rfl) Try.underlying36 (hval 2 25 v2 rfl rfl) h2
  clear hA0 hval0
  refine (calls_of_does (law (H := all W) n0 (wf_i64 wn0) x1 y1 bx1 by1 v2 xs2 hs2 hl2 hb2) (sees_all W)).mono fun e W' ⟨v, H', he, hs, hv, hH⟩ => ?_
  subst he
  subst hv
  subst hH
  exact ⟨_, rfl, post_law laid (of_decide_eq_true (by kernel_rfl)) rfl hW' rfl rfl Try.underlying4 hs.below⟩
theorem over : Rows.fnLocateInRingRow.holds Try.pinned (OpenSpec.ofChange Rows.fnLocateInRingSpec) :=
  OpenClaim.holds_of_wide 9 Try.f9 rfl rfl rfl rfl rfl rfl rfl ⟨rfl, rfl, rfl, rfl, rfl⟩ rfl rfl rfl rfl rfl (by kernel_rfl) Try.func9 (by kernel_rfl)
    (of_decide_eq_true (by kernel_rfl)) (by unfold Func.isWrapper; first | (rw [if_pos (by decide +kernel)]; kernel_rfl) | (rw [if_neg (by decide +kernel)]; exact ⟨rfl, rfl⟩))
    (fun os started H enc _ => lifted os started H enc)
/-- The statement. -/
theorem proved : Rows.FnLocateInRingSaid := over
#print axioms proved
end Go.Proofs.Ytomhkbijijdghaa.fnLocateInRing
