/-
  Partition by way of the thin package. No conditions.
-/
import Derived.Test.YtefipfiajnepiaaKP2
set_option linter.unusedVariables false
set_option linter.unusedSimpArgs false
namespace Go.Proofs.Ytefipfiajnepiaa.Ord
open Go.Lg Go.Proofs.Ytefipfiajnepiaa.Flat

set_option maxRecDepth 100000 in
instance idle30 : IdleD Try.prog 30 3 where
  idle := fun cap w hl => by
    match cap, hl with
    | [p, q, r], _ =>
    have h0 : ∀ w : World, (eqGuard .neq 20 (.tmp 3) (.const .nilIface) .nilIface .nilIface).run Try.prog w = .ok () w := fun _ => rfl
    have h1 : ∀ w : World, (binOp .neq 20 .nilIface .nilIface).run Try.prog w = .ok (.bool false) w := fun w => by
      first
        | rfl
        | simp [binOp, Op.equal, Op.equalIn, go_sem]
    refine callsD_of_wpS Try.func30 rfl fun c₀ cs hu => ?_
    apply wpS_seq
    apply wpS_region
    simp [wpOpsS, go_sem, recoverD, hu, Try.ntmps30, Exit.thenS, h1]
    refine wpS_cond (t := false) (by simp [Act.eval, Array.replicate]) ?_
    simp only [Bool.false_eq_true, if_false]
    refine wpS_of_wp (wp_skip ?_)
    cases c₀
    simp_all [bodyPostS, results, Try.results30]

set_option maxHeartbeats 8000000 in
theorem implKPartition (a : Option Addr) (c : Nat) (xs : List Nat) (p : Nat) (H : Heap) (hv : FS H (.slice a xs.length c) xs) (hp : p < xs.length) (hf : ∀ x ∈ xs, Fin' x) (hb : xs.length < 2 ^ 40) :
    Does Try.prog 12 [.slice a xs.length c, .int .i64 (p : Int)] H fun w H' =>
      ∃ v ys k ex, w = .tuple #[v, .int .i64 ((k : Nat) : Int), .bool true] ∧ H' = ex ++ H ∧ FS ex v ys ∧ List.Perm ys xs ∧ Parted ys k ∧ ys.getD k 0 = xs.getD p 0 := by
  refine fn_enter_d 17 Try.func12 fun W => ?_
  repeat' first
    | (first | refine tl_defer ?_ | refine tc_seq ?_ | refine tc_region ?_ | refine at_seq_normal ?_ | refine tl_nil ?_ | refine tl_cons ?_ | refine tl_cons_none ?_ | refine op_move ?_ | refine op_assign ?_ | refine op_fieldAddr ?_ | refine op_load ?_ | refine op_load_agg ?_ | refine op_indexC ?_ | refine op_indexAddr1 ?_ | refine op_indexAddr ?_ | refine op_icmp ?_ | refine op_fcmp ?_ | refine op_iarith ?_ | refine op_bcmp ?_ | refine op_unop_not ?_ | refine op_unop_neg_float ?_ | refine op_unop_neg_int ?_ | refine op_len_slice ?_ | refine op_pick_true ?_ | refine op_pick_false ?_ | refine op_pick_true' ?_ | refine op_pick_false' ?_ | refine op_build ?_ | refine op_extract ?_ | refine op_makeInterface ?_ | refine op_typeAssert ?_ | refine op_ptr_nil ?_ | refine op_nilCheck_ptr ?_ | refine op_nilCheck_meth ?_ | refine op_makeMeth ?_ | refine op_makeFunc ?_ | refine op_itof ?_ | refine op_itoi ?_ | refine op_ftoi ?_ | refine op_iquo ?_ | refine op_irem ?_ | refine op_ibits ?_ | refine op_slice_isnil ?_ | refine op_slice_notnil ?_ | refine op_imax ?_ | refine op_imin ?_ | refine op_shl ?_ | refine op_shr ?_ | (refine op_alloc ?_; intro _) | (refine op_box ?_; intro _) | (refine op_buildSlice ?_; intro _) | (refine op_farith ?_; intro _ _) | refine op_store0 ?_ | refine op_store1 ?_ | refine op_store2 ?_ | refine op_store3 ?_ | refine op_store4 ?_ | refine op_store5 ?_ | refine tc_cond_t ?_ | refine tc_cond_f ?_ | refine tc_cond (fun _ => ?_) (fun _ => ?_) | refine tc_block ?_ | refine tc_skip ?_ | refine tc_ret ?_ | refine tc_exit ?_ | refine tc_label ?_ | refine at_seq_ret ?_ | refine at_seq_exit ?_ | refine at_block_normal ?_ | refine at_block_ret ?_ | refine at_block_exit_self ?_ | refine at_block_exit_ne ?_ | refine at_loop_ret ?_ | refine at_loop_exit ?_ | refine at_loop_goto ?_ | refine tl_guard_yes ?_ | refine tl_guard_no ?_ | refine tl_guard_yes' ?_ | refine tl_guard_no' ?_ | refine tl_guard_undef ?_ | refine tl_guard_split (fun _ => ?_) (fun _ => ?_))
    | refine op_makeInterface ?_
    | (refine op_call ((floats _ xs _ (hv.mono fun e he => by simp [he]) hb).mono ?_); rintro _ _ ⟨buf, hok, hbn, rfl, rfl⟩; rcases buf with _ | ⟨kb, cap, sp⟩)
    | (exfalso; obtain ⟨hx0, hx1⟩ := hok; omega)
    | (refine op_call ((partition kb cap xs sp _ p _ hp hf hb).mono ?_); rintro _ _ ⟨ys, k, rfl, rfl, hpm, hpt, hpk⟩)
  rename_i k4 k5 k6
  simp only [bufV]
  have hyl := hpm.length_eq
  have hok2 : bufOk 1 (some (kb, cap, sp)) ys.length (ys.map fl) := by
    simp only [bufOk, List.length_append, List.length_map, hyl] at hok ⊢; exact hok
  have hf2 := fs_buf (e := 35) (H := []) hok2
  rw [← hyl]
  refine tc_any mixed ?_
  refine ta_two 0 1 (by kernel_rfl) rfl (by decide) rfl (by decide) ?_ ?_
  · refine op_move ?_
    refine ta_two10 1 2 (by kernel_rfl) rfl (by decide) rfl ?_ ?_
    · (first | refine op_load ?_ | refine op_load_agg ?_ | refine op_store0 ?_ | refine op_store1 ?_ | refine op_store2 ?_ | refine op_store3 ?_)
      refine ta_only0 2 (by kernel_rfl) rfl ?_
      (first | refine op_load ?_ | refine op_load_agg ?_ | refine op_store0 ?_ | refine op_store1 ?_ | refine op_store2 ?_ | refine op_store3 ?_)
      refine ta_only0 3 (by kernel_rfl) rfl ?_
      (first | refine op_load ?_ | refine op_load_agg ?_ | refine op_store0 ?_ | refine op_store1 ?_ | refine op_store2 ?_ | refine op_store3 ?_)
      refine ta_only0 4 (by kernel_rfl) rfl ?_
      (first | refine op_load ?_ | refine op_load_agg ?_ | refine op_store0 ?_ | refine op_store1 ?_ | refine op_store2 ?_ | refine op_store3 ?_)
      refine ta_done (by kernel_rfl) ?_
      repeat'
        first
          | refine tl_defer ?_ | refine tc_seq ?_ | refine tc_region ?_ | refine at_seq_normal ?_ | refine tl_nil ?_ | refine tl_cons ?_ | refine tl_cons_none ?_ | refine op_move ?_
          | refine op_assign ?_ | refine op_fieldAddr ?_ | refine op_load ?_ | refine op_load_agg ?_ | refine op_indexC ?_ | refine op_indexAddr1 ?_ | refine op_indexAddr ?_ | refine op_icmp ?_
          | refine op_fcmp ?_ | refine op_iarith ?_ | refine op_bcmp ?_ | refine op_unop_not ?_ | refine op_unop_neg_float ?_ | refine op_unop_neg_int ?_ | refine op_len_slice ?_ | refine op_pick_true ?_
          | refine op_pick_false ?_ | refine op_pick_true' ?_ | refine op_pick_false' ?_ | refine op_build ?_ | refine op_extract ?_ | refine op_makeInterface ?_ | refine op_typeAssert ?_ | refine op_ptr_nil ?_
          | refine op_nilCheck_ptr ?_ | refine op_nilCheck_meth ?_ | refine op_makeMeth ?_ | refine op_makeFunc ?_ | refine op_itof ?_ | refine op_itoi ?_ | refine op_ftoi ?_ | refine op_iquo ?_
          | refine op_irem ?_ | refine op_ibits ?_ | refine op_slice_isnil ?_ | refine op_slice_notnil ?_ | refine op_imax ?_ | refine op_imin ?_ | refine op_shl ?_ | refine op_shr ?_
          | (refine op_alloc ?_; intro _) | (refine op_box ?_; intro _) | (refine op_buildSlice ?_; intro _) | (refine op_farith ?_; intro _ _) | refine op_store0 ?_ | refine op_store1 ?_ | refine op_store2 ?_ | refine op_store3 ?_
          | refine op_store4 ?_ | refine op_store5 ?_ | refine tc_cond_t ?_ | refine tc_cond_f ?_ | refine tc_cond (fun _ => ?_) (fun _ => ?_) | refine tc_block ?_ | refine tc_skip ?_ | refine tc_ret ?_
          | refine tc_exit ?_ | refine tc_label ?_ | refine at_seq_ret ?_ | refine at_seq_exit ?_ | refine at_block_normal ?_ | refine at_block_ret ?_ | refine at_block_exit_self ?_ | refine at_block_exit_ne ?_
          | refine at_loop_ret ?_ | refine at_loop_exit ?_ | refine at_loop_goto ?_ | refine tl_guard_yes ?_ | refine tl_guard_no ?_ | refine tl_guard_yes' ?_ | refine tl_guard_no' ?_ | refine tl_guard_undef ?_
          | refine tl_guard_split (fun _ => ?_) (fun _ => ?_)
      refine ret_door (rs := [.cell 4 22, .cell 5 3, .cell 6 4]) rfl rfl (.cons (.cell (k := k4) (off := 0) (l := [.slice (some ⟨kb, 0, none⟩) ys.length cap]) (S := 22) (fz := (0, 0)) rfl rfl (by simp) rfl) (.cons (.cell (k := k5) (off := 0) (l := [.int .i64 (k : Int)]) (S := 3) (fz := (0, 0)) rfl rfl (by simp) rfl) (.cons (.cell (k := k6) (off := 0) (l := [.bool true]) (S := 4) (fz := (0, 0)) rfl rfl (by simp) rfl) .nil))) rfl (List.Sublist.refl _) ?_
      exact ⟨_, ys, k, [(kb, Obj.cells ⟨ys.map fl ++ sp⟩ 35 (0, 0)), (k6, Obj.cells ⟨[.bool true]⟩ 4 (0, 0)), (k5, Obj.cells ⟨[.int .i64 (k : Int)]⟩ 3 (0, 0)), (k4, Obj.cells ⟨[.slice (some ⟨kb, 0, none⟩) ys.length cap]⟩ 22 (0, 0))], rfl, rfl, hf2.mono fun e he => by (simp only [bufH, List.mem_singleton] at he; simp [he]), hpm, hpt, hpk⟩
    · (first | refine op_load ?_ | refine op_load_agg ?_ | refine op_store0 ?_ | refine op_store1 ?_ | refine op_store2 ?_ | refine op_store3 ?_)
      refine ta_only 1 (by kernel_rfl) rfl (by decide) ?_
      (first | refine op_load ?_ | refine op_load_agg ?_ | refine op_store0 ?_ | refine op_store1 ?_ | refine op_store2 ?_ | refine op_store3 ?_)
      refine ta_only0 3 (by kernel_rfl) rfl ?_
      (first | refine op_load ?_ | refine op_load_agg ?_ | refine op_store0 ?_ | refine op_store1 ?_ | refine op_store2 ?_ | refine op_store3 ?_)
      refine ta_only0 4 (by kernel_rfl) rfl ?_
      (first | refine op_load ?_ | refine op_load_agg ?_ | refine op_store0 ?_ | refine op_store1 ?_ | refine op_store2 ?_ | refine op_store3 ?_)
      refine ta_done (by kernel_rfl) ?_
      repeat'
        first
          | refine tl_defer ?_ | refine tc_seq ?_ | refine tc_region ?_ | refine at_seq_normal ?_ | refine tl_nil ?_ | refine tl_cons ?_ | refine tl_cons_none ?_ | refine op_move ?_
          | refine op_assign ?_ | refine op_fieldAddr ?_ | refine op_load ?_ | refine op_load_agg ?_ | refine op_indexC ?_ | refine op_indexAddr1 ?_ | refine op_indexAddr ?_ | refine op_icmp ?_
          | refine op_fcmp ?_ | refine op_iarith ?_ | refine op_bcmp ?_ | refine op_unop_not ?_ | refine op_unop_neg_float ?_ | refine op_unop_neg_int ?_ | refine op_len_slice ?_ | refine op_pick_true ?_
          | refine op_pick_false ?_ | refine op_pick_true' ?_ | refine op_pick_false' ?_ | refine op_build ?_ | refine op_extract ?_ | refine op_makeInterface ?_ | refine op_typeAssert ?_ | refine op_ptr_nil ?_
          | refine op_nilCheck_ptr ?_ | refine op_nilCheck_meth ?_ | refine op_makeMeth ?_ | refine op_makeFunc ?_ | refine op_itof ?_ | refine op_itoi ?_ | refine op_ftoi ?_ | refine op_iquo ?_
          | refine op_irem ?_ | refine op_ibits ?_ | refine op_slice_isnil ?_ | refine op_slice_notnil ?_ | refine op_imax ?_ | refine op_imin ?_ | refine op_shl ?_ | refine op_shr ?_
          | (refine op_alloc ?_; intro _) | (refine op_box ?_; intro _) | (refine op_buildSlice ?_; intro _) | (refine op_farith ?_; intro _ _) | refine op_store0 ?_ | refine op_store1 ?_ | refine op_store2 ?_ | refine op_store3 ?_
          | refine op_store4 ?_ | refine op_store5 ?_ | refine tc_cond_t ?_ | refine tc_cond_f ?_ | refine tc_cond (fun _ => ?_) (fun _ => ?_) | refine tc_block ?_ | refine tc_skip ?_ | refine tc_ret ?_
          | refine tc_exit ?_ | refine tc_label ?_ | refine at_seq_ret ?_ | refine at_seq_exit ?_ | refine at_block_normal ?_ | refine at_block_ret ?_ | refine at_block_exit_self ?_ | refine at_block_exit_ne ?_
          | refine at_loop_ret ?_ | refine at_loop_exit ?_ | refine at_loop_goto ?_ | refine tl_guard_yes ?_ | refine tl_guard_no ?_ | refine tl_guard_yes' ?_ | refine tl_guard_no' ?_ | refine tl_guard_undef ?_
          | refine tl_guard_split (fun _ => ?_) (fun _ => ?_)
      refine ret_door (rs := [.cell 4 22, .cell 5 3, .cell 6 4]) rfl rfl (.cons (.cell (k := k4) (off := 0) (l := [.slice (some ⟨kb, 0, none⟩) ys.length cap]) (S := 22) (fz := (0, 0)) rfl rfl (by simp) rfl) (.cons (.cell (k := k5) (off := 0) (l := [.int .i64 (k : Int)]) (S := 3) (fz := (0, 0)) rfl rfl (by simp) rfl) (.cons (.cell (k := k6) (off := 0) (l := [.bool true]) (S := 4) (fz := (0, 0)) rfl rfl (by simp) rfl) .nil))) rfl (List.Sublist.refl _) ?_
      exact ⟨_, ys, k, [(kb, Obj.cells ⟨ys.map fl ++ sp⟩ 35 (0, 0)), (k6, Obj.cells ⟨[.bool true]⟩ 4 (0, 0)), (k5, Obj.cells ⟨[.int .i64 (k : Int)]⟩ 3 (0, 0)), (k4, Obj.cells ⟨[.slice (some ⟨kb, 0, none⟩) ys.length cap]⟩ 22 (0, 0))], rfl, rfl, hf2.mono fun e he => by (simp only [bufH, List.mem_singleton] at he; simp [he]), hpm, hpt, hpk⟩
  · (first | refine op_load ?_ | refine op_load_agg ?_ | refine op_store0 ?_ | refine op_store1 ?_ | refine op_store2 ?_ | refine op_store3 ?_)
    refine ta_only 0 (by kernel_rfl) rfl (by decide) ?_
    refine op_move ?_
    refine ta_only0 2 (by kernel_rfl) rfl ?_
    (first | refine op_load ?_ | refine op_load_agg ?_ | refine op_store0 ?_ | refine op_store1 ?_ | refine op_store2 ?_ | refine op_store3 ?_)
    refine ta_only0 3 (by kernel_rfl) rfl ?_
    (first | refine op_load ?_ | refine op_load_agg ?_ | refine op_store0 ?_ | refine op_store1 ?_ | refine op_store2 ?_ | refine op_store3 ?_)
    refine ta_only0 4 (by kernel_rfl) rfl ?_
    (first | refine op_load ?_ | refine op_load_agg ?_ | refine op_store0 ?_ | refine op_store1 ?_ | refine op_store2 ?_ | refine op_store3 ?_)
    refine ta_done (by kernel_rfl) ?_
    repeat'
      first
        | refine tl_defer ?_ | refine tc_seq ?_ | refine tc_region ?_ | refine at_seq_normal ?_ | refine tl_nil ?_ | refine tl_cons ?_ | refine tl_cons_none ?_ | refine op_move ?_
        | refine op_assign ?_ | refine op_fieldAddr ?_ | refine op_load ?_ | refine op_load_agg ?_ | refine op_indexC ?_ | refine op_indexAddr1 ?_ | refine op_indexAddr ?_ | refine op_icmp ?_
        | refine op_fcmp ?_ | refine op_iarith ?_ | refine op_bcmp ?_ | refine op_unop_not ?_ | refine op_unop_neg_float ?_ | refine op_unop_neg_int ?_ | refine op_len_slice ?_ | refine op_pick_true ?_
        | refine op_pick_false ?_ | refine op_pick_true' ?_ | refine op_pick_false' ?_ | refine op_build ?_ | refine op_extract ?_ | refine op_makeInterface ?_ | refine op_typeAssert ?_ | refine op_ptr_nil ?_
        | refine op_nilCheck_ptr ?_ | refine op_nilCheck_meth ?_ | refine op_makeMeth ?_ | refine op_makeFunc ?_ | refine op_itof ?_ | refine op_itoi ?_ | refine op_ftoi ?_ | refine op_iquo ?_
        | refine op_irem ?_ | refine op_ibits ?_ | refine op_slice_isnil ?_ | refine op_slice_notnil ?_ | refine op_imax ?_ | refine op_imin ?_ | refine op_shl ?_ | refine op_shr ?_
        | (refine op_alloc ?_; intro _) | (refine op_box ?_; intro _) | (refine op_buildSlice ?_; intro _) | (refine op_farith ?_; intro _ _) | refine op_store0 ?_ | refine op_store1 ?_ | refine op_store2 ?_ | refine op_store3 ?_
        | refine op_store4 ?_ | refine op_store5 ?_ | refine tc_cond_t ?_ | refine tc_cond_f ?_ | refine tc_cond (fun _ => ?_) (fun _ => ?_) | refine tc_block ?_ | refine tc_skip ?_ | refine tc_ret ?_
        | refine tc_exit ?_ | refine tc_label ?_ | refine at_seq_ret ?_ | refine at_seq_exit ?_ | refine at_block_normal ?_ | refine at_block_ret ?_ | refine at_block_exit_self ?_ | refine at_block_exit_ne ?_
        | refine at_loop_ret ?_ | refine at_loop_exit ?_ | refine at_loop_goto ?_ | refine tl_guard_yes ?_ | refine tl_guard_no ?_ | refine tl_guard_yes' ?_ | refine tl_guard_no' ?_ | refine tl_guard_undef ?_
        | refine tl_guard_split (fun _ => ?_) (fun _ => ?_)
    refine ret_door (rs := [.cell 4 22, .cell 5 3, .cell 6 4]) rfl rfl (.cons (.cell (k := k4) (off := 0) (l := [.slice (some ⟨kb, 0, none⟩) ys.length cap]) (S := 22) (fz := (0, 0)) rfl rfl (by simp) rfl) (.cons (.cell (k := k5) (off := 0) (l := [.int .i64 (k : Int)]) (S := 3) (fz := (0, 0)) rfl rfl (by simp) rfl) (.cons (.cell (k := k6) (off := 0) (l := [.bool true]) (S := 4) (fz := (0, 0)) rfl rfl (by simp) rfl) .nil))) rfl (List.Sublist.refl _) ?_
    exact ⟨_, ys, k, [(kb, Obj.cells ⟨ys.map fl ++ sp⟩ 35 (0, 0)), (k6, Obj.cells ⟨[.bool true]⟩ 4 (0, 0)), (k5, Obj.cells ⟨[.int .i64 (k : Int)]⟩ 3 (0, 0)), (k4, Obj.cells ⟨[.slice (some ⟨kb, 0, none⟩) ys.length cap]⟩ 22 (0, 0))], rfl, rfl, hf2.mono fun e he => by (simp only [bufH, List.mem_singleton] at he; simp [he]), hpm, hpt, hpk⟩
end Go.Proofs.Ytefipfiajnepiaa.Ord
