/-
  FnInflate1: a row of whole places is taken apart into its places, in turn, bit by bit. No conditions beyond the statement's own.
-/
import Derived.Test.YtlgbjidbjijepaaRows
import Derived.Test.YtlgbjidbjijepaaFRow
import Derived.Test.YtlgbjidbjijepaaInfl
set_option linter.unusedVariables false
set_option linter.unusedSimpArgs false
namespace Go.Proofs.Ytlgbjidbjijepaa.fnInflate1
open Go.Lg Go.Proofs.Ytlgbjidbjijepaa.Geom Go.Proofs.Ytlgbjidbjijepaa.Flat
open Go.ChangeShapes Go.WideShapes Go.RowKit

set_option maxRecDepth 100000 in
instance idle32 : IdleD Try.prog 32 2 where
  idle := fun cap w hl => by
    match cap, hl with
    | [p, q], _ =>
    have h0 : ∀ w : World, (eqGuard .neq 20 (.tmp 2) (.const .nilIface) .nilIface .nilIface).run Try.prog w = .ok () w := fun _ => rfl
    have h1 : ∀ w : World, (binOp .neq 20 .nilIface .nilIface).run Try.prog w = .ok (.bool false) w := fun w => by
      first
        | rfl
        | simp [binOp, Op.equal, Op.equalIn, go_sem]
    refine callsD_of_wpS Try.func32 rfl fun c₀ cs hu => ?_
    apply wpS_seq
    apply wpS_region
    simp [wpOpsS, go_sem, recoverD, hu, Try.ntmps32, Exit.thenS, h1]
    refine wpS_cond (t := false) (by simp [Act.eval, Array.replicate]) ?_
    simp only [Bool.false_eq_true, if_false]
    refine wpS_of_wp (wp_skip ?_)
    cases c₀
    simp_all [bodyPostS, results, Try.results32]

set_option maxHeartbeats 8000000 in
theorem implInflate1 (a : Option Addr) (c : Nat) (xs : List Nat) (n s : Nat) (H : Heap) (hf : FS H (.slice a xs.length c) xs) (h : xs.length = n * s) (hs : 0 < s) (hb : xs.length < 2 ^ 31) :
    Does Try.prog 12 [.slice a xs.length c, .int .i64 (s : Int)] H fun w H' => ∃ v, w = .tuple #[v, .bool true] ∧ ∃ ex, H' = ex ++ H ∧ SN ex v (((chunks s n xs).map some).map nrm) := by
  have hnl : n ≤ xs.length := by rw [h]; exact Nat.le_mul_of_pos_right n hs
  refine fn_enter_d 11 Try.func12 fun W => ?_
  repeat' first
    | (first | refine tl_defer ?_ | refine tc_seq ?_ | refine tc_region ?_ | refine at_seq_normal ?_ | refine tl_nil ?_ | refine tl_cons ?_ | refine tl_cons_none ?_ | refine op_move ?_ | refine op_assign ?_ | refine op_fieldAddr ?_ | refine op_load ?_ | refine op_load_agg ?_ | refine op_indexC ?_ | refine op_indexAddr1 ?_ | refine op_indexAddr ?_ | refine op_icmp ?_ | refine op_fcmp ?_ | refine op_iarith ?_ | refine op_bcmp ?_ | refine op_unop_not ?_ | refine op_unop_neg_float ?_ | refine op_unop_neg_int ?_ | refine op_len_slice ?_ | refine op_pick_true ?_ | refine op_pick_false ?_ | refine op_pick_true' ?_ | refine op_pick_false' ?_ | refine op_build ?_ | refine op_extract ?_ | refine op_makeInterface ?_ | refine op_typeAssert ?_ | refine op_ptr_nil ?_ | refine op_nilCheck_ptr ?_ | refine op_nilCheck_meth ?_ | refine op_makeMeth ?_ | refine op_makeFunc ?_ | refine op_itof ?_ | refine op_itoi ?_ | refine op_ftoi ?_ | refine op_iquo ?_ | refine op_irem ?_ | refine op_ibits ?_ | refine op_slice_isnil ?_ | refine op_slice_notnil ?_ | refine op_imax ?_ | refine op_imin ?_ | refine op_shl ?_ | refine op_shr ?_ | (refine op_alloc ?_; intro _) | (refine op_box ?_; intro _) | (refine op_buildSlice ?_; intro _) | (refine op_farith ?_; intro _ _) | refine op_store0 ?_ | refine op_store1 ?_ | refine op_store2 ?_ | refine op_store3 ?_ | refine op_store4 ?_ | refine op_store5 ?_ | refine tc_cond_t ?_ | refine tc_cond_f ?_ | refine tc_cond (fun _ => ?_) (fun _ => ?_) | refine tc_block ?_ | refine tc_skip ?_ | refine tc_ret ?_ | refine tc_exit ?_ | refine tc_label ?_ | refine at_seq_ret ?_ | refine at_seq_exit ?_ | refine at_block_normal ?_ | refine at_block_ret ?_ | refine at_block_exit_self ?_ | refine at_block_exit_ne ?_ | refine at_loop_ret ?_ | refine at_loop_exit ?_ | refine at_loop_goto ?_ | refine tl_guard_yes ?_ | refine tl_guard_no ?_ | refine tl_guard_yes' ?_ | refine tl_guard_no' ?_ | refine tl_guard_undef ?_ | refine tl_guard_split (fun _ => ?_) (fun _ => ?_))
    | (refine op_call ((doorInflate1 a c xs n s _ (hf.mono fun e he => by simp [he]) h hs (by omega)).mono ?_); rintro w1 _ ⟨ex1, rfl, h1⟩)
    | (refine op_call ((plain1 _ _ _ h1 (by simp [chunks_len]; omega) (fun r hr => by
        obtain ⟨r', hr', rfl⟩ := List.mem_map.1 hr
        obtain ⟨i, hi, rfl⟩ := List.mem_map.1 hr'
        simp only [Option.getD_some, List.length_take, List.length_drop]; omega)).mono ?_); rintro w2 _ ⟨ex2, rfl, h2⟩)
  rename_i k4 k5
  obtain ⟨a2, c2, rfl⟩ := h2.val
  generalize (((chunks s n xs).map some).map nrm) = rs at *
  refine op_store (k := k4) (l := [.slice none 0 0]) (T := 36) (A := ex2 ++ ex1 ++ [(k5, Obj.cells ⟨[.bool false]⟩ 4 (0, 0))]) (B := H) ?_ (hG := by simp)
  refine tl_cons_none ?_
  refine op_store (k := k5) (l := [.bool false]) (T := 4) (A := ex2 ++ ex1) (B := (k4, Obj.cells ⟨[.slice a2 rs.length c2]⟩ 36 (0, 0)) :: H) ?_ (hG := by simp)
  repeat'
    first
      | refine tl_defer ?_ | refine tc_seq ?_ | refine tc_region ?_ | refine at_seq_normal ?_ | refine tl_nil ?_ | refine tl_cons ?_ | refine tl_cons_none ?_ | refine op_move ?_
      | refine op_assign ?_ | refine op_fieldAddr ?_ | refine op_load ?_ | refine op_load_agg ?_ | refine op_indexC ?_ | refine op_indexAddr1 ?_ | refine op_indexAddr ?_ | refine op_icmp ?_
      | refine op_fcmp ?_ | refine op_iarith ?_ | refine op_bcmp ?_ | refine op_unop_not ?_ | refine op_unop_neg_float ?_ | refine op_unop_neg_int ?_ | refine op_len_slice ?_ | refine op_pick_true ?_
      | refine op_pick_false ?_ | refine op_pick_true' ?_ | refine op_pick_false' ?_ | refine op_build ?_ | refine op_extract ?_ | refine op_makeInterface ?_ | refine op_typeAssert ?_ | refine op_ptr_nil ?_
      | refine op_nilCheck_ptr ?_ | refine op_nilCheck_meth ?_ | refine op_makeMeth ?_ | refine op_makeFunc ?_ | refine op_itof ?_ | refine op_itoi ?_ | refine op_ftoi ?_ | refine op_iquo ?_
      | refine op_irem ?_ | refine op_ibits ?_ | refine op_slice_isnil ?_ | refine op_slice_notnil ?_ | refine op_imax ?_ | refine op_imin ?_ | refine op_shl ?_ | refine op_shr ?_
      | (refine op_alloc ?_; intro _) | (refine op_box ?_; intro _) | (refine op_buildSlice ?_; intro _) | (refine op_farith ?_; intro _ _) | refine op_store0 ?_ | refine op_store1 ?_ | refine op_store2 ?_ | refine op_store3 ?_
      | refine op_store4 ?_ | refine op_store5 ?_ | refine tc_cond_t ?_ | refine tc_cond_f ?_ | refine tc_cond (fun _ => ?_) (fun _ => ?_) | refine tc_block ?_ | refine tc_skip ?_ | refine tc_ret ?_
      | refine tc_exit ?_ | refine tc_label ?_ | refine at_seq_ret ?_ | refine at_seq_exit ?_ | refine at_block_normal ?_ | refine at_block_ret ?_ | refine at_block_exit_self ?_ | refine at_block_exit_ne ?_
      | refine at_loop_ret ?_ | refine at_loop_exit ?_ | refine at_loop_goto ?_ | refine tl_guard_yes ?_ | refine tl_guard_no ?_ | refine tl_guard_yes' ?_ | refine tl_guard_no' ?_ | refine tl_guard_undef ?_
      | refine tl_guard_split (fun _ => ?_) (fun _ => ?_)
  refine ret_door (rs := [.cell 4 36, .cell 5 4]) rfl rfl (.cons (.cell (k := k4) (off := 0) (l := [.slice a2 rs.length c2]) (S := 36) (fz := (0, 0)) rfl rfl (by simp) rfl) (.cons (.cell (k := k5) (off := 0) (l := [.bool true]) (S := 4) (fz := (0, 0)) rfl rfl (by simp) rfl) .nil)) rfl (List.Sublist.refl _) ?_
  refine ⟨_, rfl, ex2 ++ ex1 ++ [(k5, Obj.cells ⟨[.bool true]⟩ 4 (0, 0)), (k4, Obj.cells ⟨[.slice a2 rs.length c2]⟩ 36 (0, 0))], by simp, ?_⟩
  exact h2.mono fun e he => by simp [he]

set_option maxHeartbeats 8000000 in
theorem gPlacesRows (k l r : Int) (a : Option Addr) (c : Nat) (xs : List Nat) (ve vee vk : Value) (s : Nat) (H : Heap) (hk : k ≠ 4) (hl : strideI l = (s : Int)) (hf : FS H (.slice a xs.length c) xs) (hs : 0 < s) (hs2 : s < 2 ^ 40) (hb : xs.length < 2 ^ 40) :
    Does Try.prog 14 [.agg ⟨[.int .i64 k, .int .i64 l, .int .i64 r, .slice a xs.length c, ve, vee, vk]⟩] H fun w H' => ∃ ex, H' = ex ++ H ∧ SN H' w ((chunks s (xs.length / s) xs).map some) := by
  have hkb : icmp .neq k 4 = true := by simp only [icmp, bne_iff_ne]; exact hk
  have hrows := fun H hf => rows a c xs s H hf hs hs2 hb
  rw [← hl] at hrows
  refine fn_enter 34 Try.func14 fun W => ?_
  repeat'
    first
      | refine tl_defer ?_ | refine tc_seq ?_ | refine tc_region ?_ | refine at_seq_normal ?_ | refine tl_nil ?_ | refine tl_cons ?_ | refine tl_cons_none ?_ | refine op_move ?_
      | refine op_assign ?_ | refine op_fieldAddr ?_ | refine op_load ?_ | refine op_load_agg ?_ | refine op_indexC ?_ | refine op_indexAddr1 ?_ | refine op_indexAddr ?_ | refine op_icmp ?_
      | refine op_fcmp ?_ | refine op_iarith ?_ | refine op_bcmp ?_ | refine op_unop_not ?_ | refine op_unop_neg_float ?_ | refine op_unop_neg_int ?_ | refine op_len_slice ?_ | refine op_pick_true ?_
      | refine op_pick_false ?_ | refine op_pick_true' ?_ | refine op_pick_false' ?_ | refine op_build ?_ | refine op_extract ?_ | refine op_makeInterface ?_ | refine op_typeAssert ?_ | refine op_ptr_nil ?_
      | refine op_nilCheck_ptr ?_ | refine op_nilCheck_meth ?_ | refine op_makeMeth ?_ | refine op_makeFunc ?_ | refine op_itof ?_ | refine op_itoi ?_ | refine op_ftoi ?_ | refine op_iquo ?_
      | refine op_irem ?_ | refine op_ibits ?_ | refine op_slice_isnil ?_ | refine op_slice_notnil ?_ | refine op_imax ?_ | refine op_imin ?_ | refine op_shl ?_ | refine op_shr ?_
      | (refine op_alloc ?_; intro _) | (refine op_box ?_; intro _) | (refine op_buildSlice ?_; intro _) | (refine op_farith ?_; intro _ _) | refine op_store0 ?_ | refine op_store1 ?_ | refine op_store2 ?_ | refine op_store3 ?_
      | refine op_store4 ?_ | refine op_store5 ?_ | refine tc_cond_t ?_ | refine tc_cond_f ?_ | refine tc_cond (fun _ => ?_) (fun _ => ?_) | refine tc_block ?_ | refine tc_skip ?_ | refine tc_ret ?_
      | refine tc_exit ?_ | refine tc_label ?_ | refine at_seq_ret ?_ | refine at_seq_exit ?_ | refine at_block_normal ?_ | refine at_block_ret ?_ | refine at_block_exit_self ?_ | refine at_block_exit_ne ?_
      | refine at_loop_ret ?_ | refine at_loop_exit ?_ | refine at_loop_goto ?_ | refine tl_guard_yes ?_ | refine tl_guard_no ?_ | refine tl_guard_yes' ?_ | refine tl_guard_no' ?_ | refine tl_guard_undef ?_
      | refine tl_guard_split (fun _ => ?_) (fun _ => ?_)
  apply fun hole0 hole1 hole2 hole3 hole4 hE hD hml hdl hpr prem fin => tc_drawn 6 [is hole0, is hole1, is hole2, is hole3, is hole4, (fun w _ G => SN G w ((chunks s (xs.length / s) xs).map some))]
    [some 9, some 10, some 11, some 12, some 13, some 14, some 2] [[], [0], [], [2], [3], [1, 4]] mixed ⟨(is_mono _), (is_mono _), (is_mono _), (is_mono _), (is_mono _), (fun _ _ _ _ h hs => SN.mono h hs), trivial⟩ prem fin hE hD rfl hml hdl hpr
  rotate_left 6
  · exact rfl
  · exact rfl
  · exact Nat.le_of_ble_eq_true rfl
  · exact rfl
  · exact rfl
  refine ⟨fun G hG => ?_, fun G hG => ?_, fun G hG => ?_, fun G hG => ?_, fun G hG => ?_, fun G hG => ?_, trivial⟩
  · simp only [with2, Step2, nthDst, putO]
    (first | ((first | refine op_move ?_ | refine op_assign ?_ | refine op_fieldAddr ?_ | refine op_load ?_ | refine op_load_agg ?_ | refine op_indexC ?_ | refine op_indexAddr1 ?_ | refine op_indexAddr ?_ | refine op_icmp ?_ | refine op_fcmp ?_ | refine op_iarith ?_ | refine op_bcmp ?_ | refine op_unop_not ?_ | refine op_unop_neg_float ?_ | refine op_unop_neg_int ?_ | refine op_len_slice ?_ | refine op_pick_true ?_ | refine op_pick_false ?_ | refine op_pick_true' ?_ | refine op_pick_false' ?_ | refine op_build ?_ | refine op_extract ?_ | refine op_makeInterface ?_ | refine op_typeAssert ?_ | refine op_ptr_nil ?_ | refine op_nilCheck_ptr ?_ | refine op_nilCheck_meth ?_ | refine op_makeMeth ?_ | refine op_makeFunc ?_ | refine op_itof ?_ | refine op_itoi ?_ | refine op_ftoi ?_ | refine op_iquo ?_ | refine op_irem ?_ | refine op_ibits ?_ | refine op_slice_isnil ?_ | refine op_slice_notnil ?_ | refine op_imax ?_ | refine op_imin ?_ | refine op_shl ?_ | refine op_shr ?_); exact ⟨[], rfl, rfl, rfl⟩) | (refine op_alloc ?_; intro _; exact ⟨[(_, _)], rfl, ⟨_, rfl, rfl⟩⟩) | (refine op_box ?_; intro _; exact ⟨[(_, _)], rfl, ⟨_, rfl, rfl⟩⟩) | (refine op_buildSlice ?_; intro _; exact ⟨[(_, _)], rfl, ⟨_, rfl, rfl⟩⟩) | (refine op_farith ?_; intro _ h; exact ⟨[], rfl, ⟨_, h, rfl⟩, rfl⟩))
  · rintro _ _ ⟨rfl, rfl⟩ -
    simp only [with2, Step2, nthDst, putO]
    (first | ((first | refine op_move ?_ | refine op_assign ?_ | refine op_fieldAddr ?_ | refine op_load ?_ | refine op_load_agg ?_ | refine op_indexC ?_ | refine op_indexAddr1 ?_ | refine op_indexAddr ?_ | refine op_icmp ?_ | refine op_fcmp ?_ | refine op_iarith ?_ | refine op_bcmp ?_ | refine op_unop_not ?_ | refine op_unop_neg_float ?_ | refine op_unop_neg_int ?_ | refine op_len_slice ?_ | refine op_pick_true ?_ | refine op_pick_false ?_ | refine op_pick_true' ?_ | refine op_pick_false' ?_ | refine op_build ?_ | refine op_extract ?_ | refine op_makeInterface ?_ | refine op_typeAssert ?_ | refine op_ptr_nil ?_ | refine op_nilCheck_ptr ?_ | refine op_nilCheck_meth ?_ | refine op_makeMeth ?_ | refine op_makeFunc ?_ | refine op_itof ?_ | refine op_itoi ?_ | refine op_ftoi ?_ | refine op_iquo ?_ | refine op_irem ?_ | refine op_ibits ?_ | refine op_slice_isnil ?_ | refine op_slice_notnil ?_ | refine op_imax ?_ | refine op_imin ?_ | refine op_shl ?_ | refine op_shr ?_); exact ⟨[], rfl, rfl, rfl⟩) | (refine op_alloc ?_; intro _; exact ⟨[(_, _)], rfl, ⟨_, rfl, rfl⟩⟩) | (refine op_box ?_; intro _; exact ⟨[(_, _)], rfl, ⟨_, rfl, rfl⟩⟩) | (refine op_buildSlice ?_; intro _; exact ⟨[(_, _)], rfl, ⟨_, rfl, rfl⟩⟩) | (refine op_farith ?_; intro _ h; exact ⟨[], rfl, ⟨_, h, rfl⟩, rfl⟩))
  · simp only [with2, Step2, nthDst, putO]
    (first | ((first | refine op_move ?_ | refine op_assign ?_ | refine op_fieldAddr ?_ | refine op_load ?_ | refine op_load_agg ?_ | refine op_indexC ?_ | refine op_indexAddr1 ?_ | refine op_indexAddr ?_ | refine op_icmp ?_ | refine op_fcmp ?_ | refine op_iarith ?_ | refine op_bcmp ?_ | refine op_unop_not ?_ | refine op_unop_neg_float ?_ | refine op_unop_neg_int ?_ | refine op_len_slice ?_ | refine op_pick_true ?_ | refine op_pick_false ?_ | refine op_pick_true' ?_ | refine op_pick_false' ?_ | refine op_build ?_ | refine op_extract ?_ | refine op_makeInterface ?_ | refine op_typeAssert ?_ | refine op_ptr_nil ?_ | refine op_nilCheck_ptr ?_ | refine op_nilCheck_meth ?_ | refine op_makeMeth ?_ | refine op_makeFunc ?_ | refine op_itof ?_ | refine op_itoi ?_ | refine op_ftoi ?_ | refine op_iquo ?_ | refine op_irem ?_ | refine op_ibits ?_ | refine op_slice_isnil ?_ | refine op_slice_notnil ?_ | refine op_imax ?_ | refine op_imin ?_ | refine op_shl ?_ | refine op_shr ?_); exact ⟨[], rfl, rfl, rfl⟩) | (refine op_alloc ?_; intro _; exact ⟨[(_, _)], rfl, ⟨_, rfl, rfl⟩⟩) | (refine op_box ?_; intro _; exact ⟨[(_, _)], rfl, ⟨_, rfl, rfl⟩⟩) | (refine op_buildSlice ?_; intro _; exact ⟨[(_, _)], rfl, ⟨_, rfl, rfl⟩⟩) | (refine op_farith ?_; intro _ h; exact ⟨[], rfl, ⟨_, h, rfl⟩, rfl⟩))
  · rintro _ _ ⟨rfl, rfl⟩ -
    simp only [with2, Step2, nthDst, putO]
    (first | ((first | refine op_move ?_ | refine op_assign ?_ | refine op_fieldAddr ?_ | refine op_load ?_ | refine op_load_agg ?_ | refine op_indexC ?_ | refine op_indexAddr1 ?_ | refine op_indexAddr ?_ | refine op_icmp ?_ | refine op_fcmp ?_ | refine op_iarith ?_ | refine op_bcmp ?_ | refine op_unop_not ?_ | refine op_unop_neg_float ?_ | refine op_unop_neg_int ?_ | refine op_len_slice ?_ | refine op_pick_true ?_ | refine op_pick_false ?_ | refine op_pick_true' ?_ | refine op_pick_false' ?_ | refine op_build ?_ | refine op_extract ?_ | refine op_makeInterface ?_ | refine op_typeAssert ?_ | refine op_ptr_nil ?_ | refine op_nilCheck_ptr ?_ | refine op_nilCheck_meth ?_ | refine op_makeMeth ?_ | refine op_makeFunc ?_ | refine op_itof ?_ | refine op_itoi ?_ | refine op_ftoi ?_ | refine op_iquo ?_ | refine op_irem ?_ | refine op_ibits ?_ | refine op_slice_isnil ?_ | refine op_slice_notnil ?_ | refine op_imax ?_ | refine op_imin ?_ | refine op_shl ?_ | refine op_shr ?_); exact ⟨[], rfl, rfl, rfl⟩) | (refine op_alloc ?_; intro _; exact ⟨[(_, _)], rfl, ⟨_, rfl, rfl⟩⟩) | (refine op_box ?_; intro _; exact ⟨[(_, _)], rfl, ⟨_, rfl, rfl⟩⟩) | (refine op_buildSlice ?_; intro _; exact ⟨[(_, _)], rfl, ⟨_, rfl, rfl⟩⟩) | (refine op_farith ?_; intro _ h; exact ⟨[], rfl, ⟨_, h, rfl⟩, rfl⟩))
  · rintro _ _ ⟨rfl, rfl⟩ -
    simp only [with2, Step2, nthDst, putO]
    (first | (refine op_call ((stride _ _).mono ?_); rintro _ _ ⟨rfl, rfl⟩; exact ⟨[], rfl, rfl, rfl⟩) | (first | ((first | refine op_move ?_ | refine op_assign ?_ | refine op_fieldAddr ?_ | refine op_load ?_ | refine op_load_agg ?_ | refine op_indexC ?_ | refine op_indexAddr1 ?_ | refine op_indexAddr ?_ | refine op_icmp ?_ | refine op_fcmp ?_ | refine op_iarith ?_ | refine op_bcmp ?_ | refine op_unop_not ?_ | refine op_unop_neg_float ?_ | refine op_unop_neg_int ?_ | refine op_len_slice ?_ | refine op_pick_true ?_ | refine op_pick_false ?_ | refine op_pick_true' ?_ | refine op_pick_false' ?_ | refine op_build ?_ | refine op_extract ?_ | refine op_makeInterface ?_ | refine op_typeAssert ?_ | refine op_ptr_nil ?_ | refine op_nilCheck_ptr ?_ | refine op_nilCheck_meth ?_ | refine op_makeMeth ?_ | refine op_makeFunc ?_ | refine op_itof ?_ | refine op_itoi ?_ | refine op_ftoi ?_ | refine op_iquo ?_ | refine op_irem ?_ | refine op_ibits ?_ | refine op_slice_isnil ?_ | refine op_slice_notnil ?_ | refine op_imax ?_ | refine op_imin ?_ | refine op_shl ?_ | refine op_shr ?_); exact ⟨[], rfl, rfl, rfl⟩) | (refine op_alloc ?_; intro _; exact ⟨[(_, _)], rfl, ⟨_, rfl, rfl⟩⟩) | (refine op_box ?_; intro _; exact ⟨[(_, _)], rfl, ⟨_, rfl, rfl⟩⟩) | (refine op_buildSlice ?_; intro _; exact ⟨[(_, _)], rfl, ⟨_, rfl, rfl⟩⟩) | (refine op_farith ?_; intro _ h; exact ⟨[], rfl, ⟨_, h, rfl⟩, rfl⟩)))
  · rintro _ _ ⟨rfl, rfl⟩ - _ _ ⟨rfl, rfl⟩ -
    simp only [with2, Step2, nthDst, putO]
    (refine op_call ((hrows _ (hf.mono fun e he => hG e (by simp [he]))).mono ?_); rintro w _ ⟨ex, rfl, h⟩; exact ⟨ex, rfl, h⟩)
  · rintro _ _ _ _ _ _ _ _ _ _ _ _ ⟨g5, ⟨rfl, rfl⟩, ⟨rfl, rfl⟩, ⟨rfl, rfl⟩, ⟨rfl, rfl⟩, ⟨rfl, rfl⟩, _⟩
    simp only [List.nil_append, List.cons_append, List.append_nil, List.drop_succ_cons, List.drop_zero, nthDst, putO]
    repeat'
      first
        | refine tl_defer ?_ | refine tc_seq ?_ | refine tc_region ?_ | refine at_seq_normal ?_ | refine tl_nil ?_ | refine tl_cons ?_ | refine tl_cons_none ?_ | refine op_move ?_
        | refine op_assign ?_ | refine op_fieldAddr ?_ | refine op_load ?_ | refine op_load_agg ?_ | refine op_indexC ?_ | refine op_indexAddr1 ?_ | refine op_indexAddr ?_ | refine op_icmp ?_
        | refine op_fcmp ?_ | refine op_iarith ?_ | refine op_bcmp ?_ | refine op_unop_not ?_ | refine op_unop_neg_float ?_ | refine op_unop_neg_int ?_ | refine op_len_slice ?_ | refine op_pick_true ?_
        | refine op_pick_false ?_ | refine op_pick_true' ?_ | refine op_pick_false' ?_ | refine op_build ?_ | refine op_extract ?_ | refine op_makeInterface ?_ | refine op_typeAssert ?_ | refine op_ptr_nil ?_
        | refine op_nilCheck_ptr ?_ | refine op_nilCheck_meth ?_ | refine op_makeMeth ?_ | refine op_makeFunc ?_ | refine op_itof ?_ | refine op_itoi ?_ | refine op_ftoi ?_ | refine op_iquo ?_
        | refine op_irem ?_ | refine op_ibits ?_ | refine op_slice_isnil ?_ | refine op_slice_notnil ?_ | refine op_imax ?_ | refine op_imin ?_ | refine op_shl ?_ | refine op_shr ?_
        | (refine op_alloc ?_; intro _) | (refine op_box ?_; intro _) | (refine op_buildSlice ?_; intro _) | (refine op_farith ?_; intro _ _) | refine op_store0 ?_ | refine op_store1 ?_ | refine op_store2 ?_ | refine op_store3 ?_
        | refine op_store4 ?_ | refine op_store5 ?_ | refine tc_cond_t ?_ | refine tc_cond_f ?_ | refine tc_cond (fun _ => ?_) (fun _ => ?_) | refine tc_block ?_ | refine tc_skip ?_ | refine tc_ret ?_
        | refine tc_exit ?_ | refine tc_label ?_ | refine at_seq_ret ?_ | refine at_seq_exit ?_ | refine at_block_normal ?_ | refine at_block_ret ?_ | refine at_block_exit_self ?_ | refine at_block_exit_ne ?_
        | refine at_loop_ret ?_ | refine at_loop_exit ?_ | refine at_loop_goto ?_ | refine tl_guard_yes ?_ | refine tl_guard_no ?_ | refine tl_guard_yes' ?_ | refine tl_guard_no' ?_ | refine tl_guard_undef ?_
        | refine tl_guard_split (fun _ => ?_) (fun _ => ?_)
    exact ret_tmp (hG := List.Sublist.refl _) (hk := ⟨_ ++ [_], List.append_cons _ _ _, g5⟩)

set_option maxHeartbeats 8000000 in
theorem law {H : Heap} (v : Value) (xs : List Nat) (hv : FS H v xs) (hl : xs.length ≤ 9223372036854775807) (s : Int) (hw : -9223372036854775808 ≤ s ∧ s ≤ 9223372036854775807) :
    Does Try.prog 4 [v, .int .i64 s] H fun w H' => w = .bool true ∧ H' = H := by
  obtain ⟨a, c, rfl⟩ := hv.val
  refine fn_enter 33 Try.func4 fun W => ?_
  by_cases hbig : xs.length > 2147483647
  · have hc : icmp .gtr (xs.length : Int) 2147483647 = true := by simp only [icmp, decide_eq_true_eq]; omega
    repeat'
      first
        | refine tl_defer ?_ | refine tc_seq ?_ | refine tc_region ?_ | refine at_seq_normal ?_ | refine tl_nil ?_ | refine tl_cons ?_ | refine tl_cons_none ?_ | refine op_move ?_
        | refine op_assign ?_ | refine op_fieldAddr ?_ | refine op_load ?_ | refine op_load_agg ?_ | refine op_indexC ?_ | refine op_indexAddr1 ?_ | refine op_indexAddr ?_ | refine op_icmp ?_
        | refine op_fcmp ?_ | refine op_iarith ?_ | refine op_bcmp ?_ | refine op_unop_not ?_ | refine op_unop_neg_float ?_ | refine op_unop_neg_int ?_ | refine op_len_slice ?_ | refine op_pick_true ?_
        | refine op_pick_false ?_ | refine op_pick_true' ?_ | refine op_pick_false' ?_ | refine op_build ?_ | refine op_extract ?_ | refine op_makeInterface ?_ | refine op_typeAssert ?_ | refine op_ptr_nil ?_
        | refine op_nilCheck_ptr ?_ | refine op_nilCheck_meth ?_ | refine op_makeMeth ?_ | refine op_makeFunc ?_ | refine op_itof ?_ | refine op_itoi ?_ | refine op_ftoi ?_ | refine op_iquo ?_
        | refine op_irem ?_ | refine op_ibits ?_ | refine op_slice_isnil ?_ | refine op_slice_notnil ?_ | refine op_imax ?_ | refine op_imin ?_ | refine op_shl ?_ | refine op_shr ?_
        | (refine op_alloc ?_; intro _) | (refine op_box ?_; intro _) | (refine op_buildSlice ?_; intro _) | (refine op_farith ?_; intro _ _) | refine op_store0 ?_ | refine op_store1 ?_ | refine op_store2 ?_ | refine op_store3 ?_
        | refine op_store4 ?_ | refine op_store5 ?_ | refine tc_cond_t ?_ | refine tc_cond_f ?_ | refine tc_cond (fun _ => ?_) (fun _ => ?_) | refine tc_block ?_ | refine tc_skip ?_ | refine tc_ret ?_
        | refine tc_exit ?_ | refine tc_label ?_ | refine at_seq_ret ?_ | refine at_seq_exit ?_ | refine at_block_normal ?_ | refine at_block_ret ?_ | refine at_block_exit_self ?_ | refine at_block_exit_ne ?_
        | refine at_loop_ret ?_ | refine at_loop_exit ?_ | refine at_loop_goto ?_ | refine tl_guard_yes ?_ | refine tl_guard_no ?_ | refine tl_guard_yes' ?_ | refine tl_guard_no' ?_ | refine tl_guard_undef ?_
        | refine tl_guard_split (fun _ => ?_) (fun _ => ?_)
    exact ret_tmp (hk := ⟨rfl, rfl⟩)
  have hc : icmp .gtr (xs.length : Int) 2147483647 = false := by simp only [icmp, decide_eq_false_iff_not]; omega
  repeat' first
    | (first | refine tl_defer ?_ | refine tc_seq ?_ | refine tc_region ?_ | refine at_seq_normal ?_ | refine tl_nil ?_ | refine tl_cons ?_ | refine tl_cons_none ?_ | refine op_move ?_ | refine op_assign ?_ | refine op_fieldAddr ?_ | refine op_load ?_ | refine op_load_agg ?_ | refine op_indexC ?_ | refine op_indexAddr1 ?_ | refine op_indexAddr ?_ | refine op_icmp ?_ | refine op_fcmp ?_ | refine op_iarith ?_ | refine op_bcmp ?_ | refine op_unop_not ?_ | refine op_unop_neg_float ?_ | refine op_unop_neg_int ?_ | refine op_len_slice ?_ | refine op_pick_true ?_ | refine op_pick_false ?_ | refine op_pick_true' ?_ | refine op_pick_false' ?_ | refine op_build ?_ | refine op_extract ?_ | refine op_makeInterface ?_ | refine op_typeAssert ?_ | refine op_ptr_nil ?_ | refine op_nilCheck_ptr ?_ | refine op_nilCheck_meth ?_ | refine op_makeMeth ?_ | refine op_makeFunc ?_ | refine op_itof ?_ | refine op_itoi ?_ | refine op_ftoi ?_ | refine op_iquo ?_ | refine op_irem ?_ | refine op_ibits ?_ | refine op_slice_isnil ?_ | refine op_slice_notnil ?_ | refine op_imax ?_ | refine op_imin ?_ | refine op_shl ?_ | refine op_shr ?_ | (refine op_alloc ?_; intro _) | (refine op_box ?_; intro _) | (refine op_buildSlice ?_; intro _) | (refine op_farith ?_; intro _ _) | refine op_store0 ?_ | refine op_store1 ?_ | refine op_store2 ?_ | refine op_store3 ?_ | refine op_store4 ?_ | refine op_store5 ?_ | refine tc_cond_t ?_ | refine tc_cond_f ?_ | refine tc_cond (fun _ => ?_) (fun _ => ?_) | refine tc_block ?_ | refine tc_skip ?_ | refine tc_ret ?_ | refine tc_exit ?_ | refine tc_label ?_ | refine at_seq_ret ?_ | refine at_seq_exit ?_ | refine at_block_normal ?_ | refine at_block_ret ?_ | refine at_block_exit_self ?_ | refine at_block_exit_ne ?_ | refine at_loop_ret ?_ | refine at_loop_exit ?_ | refine at_loop_goto ?_ | refine tl_guard_yes ?_ | refine tl_guard_no ?_ | refine tl_guard_yes' ?_ | refine tl_guard_no' ?_ | refine tl_guard_undef ?_ | refine tl_guard_split (fun _ => ?_) (fun _ => ?_))
    | (refine op_call ((fRow a c xs s _ hv (by omega)).mono ?_); rintro _ _ ⟨rfl | ⟨b, rfl, hb⟩, rfl⟩)
  all_goals first
    | exact ret_tmp (hk := ⟨rfl, rfl⟩)
    | skip
  rename_i H0 k27 hbb
  have hbt : b = true := by simpa using hbb
  obtain ⟨s2, s9, hg⟩ := hb hbt
  subst hbt
  obtain ⟨hwt, _, hgood⟩ := goodAll_one hg
  simp only [rowG, Geo.wt, List.map_nil, List.sum_nil, List.length_nil] at hwt
  rw [rowG, Geo.Good] at hgood
  obtain ⟨m, rfl⟩ : ∃ m : Nat, s = (m : Int) := ⟨s.toNat, by omega⟩
  have hst := fLay_stride s2 s9
  rw [hst] at hgood
  have hdiv : ∃ n, xs.length = n * m := by
    rcases hgood with h | ⟨_, _, h, _⟩
    · exact absurd h.1 (by decide)
    · refine ⟨xs.length / m, ?_⟩
      have h2 : ((xs.length % m : Nat) : Int) = 0 := by rw [← h]; exact (Int.ofNat_tmod _ _)
      have := Nat.div_add_mod xs.length m
      rw [Nat.mul_comm]; omega
  obtain ⟨n, hn⟩ := hdiv
  have hm0 : 0 < m := by omega
  have hnd : xs.length / m = n := by rw [hn, Nat.mul_div_cancel _ hm0]
  have hnl : n ≤ xs.length := by rw [hn]; exact Nat.le_mul_of_pos_right n hm0
  have hnr : ((chunks m n xs).map some).map nrm = (chunks m n xs).map some := by
    rw [List.map_map]
    refine List.map_congr_left fun r hr => ?_
    obtain ⟨i, hi, rfl⟩ := List.mem_map.1 hr
    have hi' : i * m + m ≤ xs.length := by rw [hn, ← Nat.succ_mul]; exact Nat.mul_le_mul_right _ (Nat.succ_le_of_lt (by simpa using hi))
    have : ((xs.drop (i * m)).take m).length = m := by simp; omega
    cases hc : (xs.drop (i * m)).take m with
    | nil => rw [hc] at this; simp at this; omega
    | cons y ys => rfl
  have hrl : ∀ r ∈ (chunks m n xs).map some, (r.getD []).length < 2 ^ 40 := by
    intro r hr
    obtain ⟨r', hr', rfl⟩ := List.mem_map.1 hr
    obtain ⟨i, hi, rfl⟩ := List.mem_map.1 hr'
    simp only [Option.getD_some, List.length_take, List.length_drop]; omega
  repeat' first
    | (refine op_call ((implInflate1 a c xs n m _ (hv.mono fun e he => by simp [he]) hn hm0 (by omega)).mono ?_); rintro _ _ ⟨w1, rfl, ex1, rfl, h1⟩; rw [hnr] at h1)
    | (first | refine tl_defer ?_ | refine tc_seq ?_ | refine tc_region ?_ | refine at_seq_normal ?_ | refine tl_nil ?_ | refine tl_cons ?_ | refine tl_cons_none ?_ | refine op_move ?_ | refine op_assign ?_ | refine op_fieldAddr ?_ | refine op_load ?_ | refine op_load_agg ?_ | refine op_indexC ?_ | refine op_indexAddr1 ?_ | refine op_indexAddr ?_ | refine op_icmp ?_ | refine op_fcmp ?_ | refine op_iarith ?_ | refine op_bcmp ?_ | refine op_unop_not ?_ | refine op_unop_neg_float ?_ | refine op_unop_neg_int ?_ | refine op_len_slice ?_ | refine op_pick_true ?_ | refine op_pick_false ?_ | refine op_pick_true' ?_ | refine op_pick_false' ?_ | refine op_build ?_ | refine op_extract ?_ | refine op_makeInterface ?_ | refine op_typeAssert ?_ | refine op_ptr_nil ?_ | refine op_nilCheck_ptr ?_ | refine op_nilCheck_meth ?_ | refine op_makeMeth ?_ | refine op_makeFunc ?_ | refine op_itof ?_ | refine op_itoi ?_ | refine op_ftoi ?_ | refine op_iquo ?_ | refine op_irem ?_ | refine op_ibits ?_ | refine op_slice_isnil ?_ | refine op_slice_notnil ?_ | refine op_imax ?_ | refine op_imin ?_ | refine op_shl ?_ | refine op_shr ?_ | (refine op_alloc ?_; intro _) | (refine op_box ?_; intro _) | (refine op_buildSlice ?_; intro _) | (refine op_farith ?_; intro _ _) | refine op_store0 ?_ | refine op_store1 ?_ | refine op_store2 ?_ | refine op_store3 ?_ | refine op_store4 ?_ | refine op_store5 ?_ | refine tc_cond_t ?_ | refine tc_cond_f ?_ | refine tc_cond (fun _ => ?_) (fun _ => ?_) | refine tc_block ?_ | refine tc_skip ?_ | refine tc_ret ?_ | refine tc_exit ?_ | refine tc_label ?_ | refine at_seq_ret ?_ | refine at_seq_exit ?_ | refine at_block_normal ?_ | refine at_block_ret ?_ | refine at_block_exit_self ?_ | refine at_block_exit_ne ?_ | refine at_loop_ret ?_ | refine at_loop_exit ?_ | refine at_loop_goto ?_ | refine tl_guard_yes ?_ | refine tl_guard_no ?_ | refine tl_guard_yes' ?_ | refine tl_guard_no' ?_ | refine tl_guard_undef ?_ | refine tl_guard_split (fun _ => ?_) (fun _ => ?_))
    | (refine op_load_agg ?_ (hm := List.mem_append_right _ mem0))
    | (refine op_call ((gPlacesRows 8 _ 0 a c xs _ _ _ m _ (by decide) hst (hv.mono fun e he => by simp [he]) hm0 (by omega) (by omega)).mono ?_); rintro w2 _ ⟨ex2, rfl, h2⟩; rw [hnd] at h2)
    | (refine op_call ((gRows w1 w2 _ _ _ (h1.mono fun e he => by simp [he]) h2 (by simp [chunks_len]; omega) hrl).mono ?_); rintro _ _ ⟨rfl, rfl⟩)
  exact ret_tmp (hG := by (repeat (first | exact List.Sublist.refl _ | apply List.Sublist.cons_cons | apply List.Sublist.cons | refine List.Sublist.trans ?_ (List.sublist_append_right _ _)))) (hk := ⟨congrArg Value.bool (by simp), rfl⟩)
theorem own : ownKnob Try.prog.godebug = none := by kernel_rfl
theorem laid : laidOutB Try.prog = true := by kernel_rfl
set_option maxRecDepth 100000 in
theorem lifted (os : Os) (started : os.Started) (H : Type) (enc : TypeId × Value → H) :
    ReturnsInHanded {} Try.checked os 4 .any (Rows.fnInflate1Spec.pre6 enc Try.prog Try.f4 Rows.fnInflate1Row.domain false) (Rows.fnInflate1Spec.post enc Try.prog Try.f4 false true false false) := by
  refine returnsInHanded_of_change (C := Try.checked) own started (by kernel_rfl) Try.func4
    (ChangeSpec.witness6 (enc := enc) (C := Try.checked) false ⟨#[], #[.slice none 0 0, .int .i64 0], []⟩ 8 (by kernel_rfl) (by kernel_rfl) (by kernel_rfl) (by kernel_rfl)) ?_
  intro W base args ds gs before hval0 hW hcnd _
  have hval : ∀ (j : Nat) t v, Try.f4.params[j]? = some t → args[j]? = some v → Value.okWide Try.prog W .any base t v := hval0
  have hW' := hW
  obtain ⟨p, q, hA0, hV, rfl, hfz, hnd⟩ := hW
  have hA : DataW.TrodAll enc Try.prog W 0 (fun _ => true) true Try.f4.params.toList args.toList ds p := hA0
  rw [Try.params4] at hA hval
  obtain ⟨v0, vs0, d0, ds0, p0, q0, hargs, rfl, rfl, h0, r0⟩ := trodAll_cons hA
  obtain ⟨v1, vs1, d1, ds1, p1, q1, rfl, rfl, rfl, h1, r1⟩ := trodAll_cons r0
  obtain ⟨rfl, rfl, rfl⟩ := trodAll_nil r1
  obtain rfl : args = #[v0, v1] := by cases args; simp_all
  obtain ⟨rfl, rfl⟩ := trodVars_none hV
  obtain ⟨xs0, hs0, hl0, hb0⟩ := open_floats Try.underlying22 (by kernel_rfl) Try.underlying42 (hval 0 22 v0 rfl rfl) h0
  obtain ⟨n1, rfl, rfl, rfl, wn1⟩ := open_int Try.underlying3 (hval 1 3 v1 rfl rfl) h1
  clear hA0 hval0
  refine (calls_of_does (law (H := all W) v0 xs0 hs0 hl0 n1 (wf_i64 wn1)) (sees_all W)).mono fun e W' ⟨v, H', he, hs, hv, hH⟩ => ?_
  subst he
  subst hv
  subst hH
  exact ⟨_, rfl, post_law laid (of_decide_eq_true (by kernel_rfl)) rfl hW' rfl rfl Try.underlying4 hs.below⟩
theorem over : Rows.fnInflate1Row.holds Try.pinned (OpenSpec.ofChange Rows.fnInflate1Spec) :=
  OpenClaim.holds_of_wide 4 Try.f4 rfl rfl rfl rfl rfl rfl rfl ⟨rfl, rfl, rfl, rfl, rfl⟩ rfl rfl rfl rfl rfl (by kernel_rfl) Try.func4 (by kernel_rfl)
    (of_decide_eq_true (by kernel_rfl)) (by unfold Func.isWrapper; first | (rw [if_pos (by decide +kernel)]; kernel_rfl) | (rw [if_neg (by decide +kernel)]; exact ⟨rfl, rfl⟩))
    (fun os started H enc _ => lifted os started H enc)
/-- The statement. -/
theorem proved : Rows.FnInflate1Said := over
#print axioms proved
end Go.Proofs.Ytlgbjidbjijepaa.fnInflate1
