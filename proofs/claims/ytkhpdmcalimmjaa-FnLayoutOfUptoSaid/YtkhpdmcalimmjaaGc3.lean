/-
  Collections: made, and parts pushed. No conditions.
-/
import Derived.Test.YtkhpdmcalimmjaaGc2
import Derived.Test.YtkhpdmcalimmjaaLg22
set_option linter.unusedVariables false
set_option linter.unusedSimpArgs false
namespace Go.Proofs.Ytkhpdmcalimmjaa.Gm
open Go.Lg Go.Proofs.Ytkhpdmcalimmjaa.Geom

/-- The cells of a collection. -/
abbrev col3 (l : Int) (v : Value) (s : Int) : List Value := [.int .i64 l, v, .int .i64 s]
theorem newCol (H : Heap) : Does Try.prog 36 [] H fun w H' => ∃ k T, w = .pointer (some ⟨k, 0, none⟩) ∧ H' = (k, Obj.cells ⟨col3 0 (.slice none 0 0) 0⟩ T (0, 0)) :: H := by
  refine fn_enter 3 Try.func36 fun W => ?_
  repeat' first
    | (first | refine tc_seq ?_ | refine tc_region ?_ | refine at_seq_normal ?_ | refine tl_nil ?_ | refine tl_cons ?_ | refine op_assign ?_ | refine op_build ?_ | (refine op_box ?_; intro _) | refine tc_ret ?_ | refine at_seq_ret ?_ | fail)
    | fail
  exact ret_tmp (hk := ⟨_, _, rfl, rfl⟩)
theorem sridCol (k : Nat) (T : TypeId) (a : Option Addr) (n c : Nat) (l s s' : Int) (H : Heap) : Does Try.prog 37 [.pointer (some ⟨k, 0, none⟩), .int .i64 s'] ((k, Obj.cells ⟨col3 l (.slice a n c) s⟩ T (0, 0)) :: H) fun w H' => w = .pointer (some ⟨k, 0, none⟩) ∧ H' = (k, Obj.cells ⟨col3 l (.slice a n c) s'⟩ T (0, 0)) :: H := by
  refine fn_enter 10 Try.func37 fun W => ?_
  repeat' first
    | (first | refine tc_seq ?_ | refine tc_region ?_ | refine at_seq_normal ?_ | refine tl_nil ?_ | refine tl_cons ?_ | refine tl_cons_none ?_ | refine op_move ?_ | refine op_assign ?_ | refine op_fieldAddr ?_ | refine op_nilCheck_ptr ?_ | refine op_nilCheck_meth ?_ | refine op_store0 ?_ | refine op_store1 ?_ | refine op_store2 ?_ | refine op_store3 ?_ | refine op_store4 ?_ | refine op_store5 ?_ | refine op_storeK rfl ?_ | refine tc_ret ?_ | refine at_seq_ret ?_ | fail)
    | fail
  exact ret_tmp (hk := ⟨rfl, rfl⟩)
set_option maxHeartbeats 4000000 in
theorem push (kc kn : Nat) (T Tn : TypeId) (s : Int) (buf : Buf) (j : Nat) (ws : List Value) (t : TypeId) (kp : Nat) (R : Heap) (hok : bufOk 1 buf j ws) (hj : j < 2000) (hn : (kn, Obj.cells ⟨[.iface t (.pointer (some ⟨kp, 0, none⟩))]⟩ Tn (0, 0)) ∈ R) :
    Does Try.prog 42 [.pointer (some ⟨kc, 0, none⟩), .slice (some ⟨kn, 0, none⟩) 1 1] ((kc, Obj.cells ⟨col3 0 (bufV buf j) s⟩ T (0, 0)) :: bufH 36 buf ws R) fun w H' => w = .nilIface ∧ ∃ buf', bufOk 1 buf' (j + 1) (ws ++ [.iface t (.pointer (some ⟨kp, 0, none⟩))]) ∧ H' = (kc, Obj.cells ⟨col3 0 (bufV buf' (j + 1)) s⟩ T (0, 0)) :: bufH 36 buf' (ws ++ [.iface t (.pointer (some ⟨kp, 0, none⟩))]) R := by
  have c1 : icmp .neq 0 0 = false := rfl
  refine fn_enter 44 Try.func42 fun W => ?_
  have hbv : ∃ a n c, bufV buf j = .slice a n c := by
    cases buf with
    | none => exact ⟨_, _, _, rfl⟩
    | some b => exact ⟨_, _, _, rfl⟩
  repeat' first
    | (first | refine tc_seq ?_ | refine tc_region ?_ | refine at_seq_normal ?_ | refine tl_nil ?_ | refine tl_cons ?_ | refine tl_cons_none ?_ | refine op_move ?_ | refine op_assign ?_ | refine op_fieldAddr ?_ | refine op_load ?_ | refine op_load_agg ?_ | refine op_indexC ?_ | refine op_indexAddr1 ?_ | refine op_indexAddr ?_ | refine op_icmp ?_ | refine op_fcmp ?_ | refine op_iarith ?_ | refine op_bcmp ?_ | refine op_len_slice ?_ | refine op_build ?_ | refine op_makeInterface ?_ | refine op_ptr_nil ?_ | refine op_nilCheck_ptr ?_ | refine op_nilCheck_meth ?_ | refine op_iquo ?_ | refine op_irem ?_ | refine op_ibits ?_ | refine op_slice_isnil ?_ | refine op_slice_notnil ?_ | refine op_shl ?_ | refine op_shr ?_ | (refine op_farith ?_; intro _ _) | refine op_store0 ?_ | refine op_store1 ?_ | refine op_store2 ?_ | refine op_store3 ?_ | refine op_store4 ?_ | refine op_store5 ?_ | refine op_storeK rfl ?_ | refine op_loadK rfl ?_ | refine op_load_aggK rfl ?_ | refine tc_cond_t ?_ | refine tc_cond_f ?_ | refine tc_block ?_ | refine tc_skip ?_ | refine tc_ret ?_ | refine tc_exit ?_ | refine at_seq_ret ?_ | refine at_seq_exit ?_ | refine at_block_normal ?_ | refine at_block_ret ?_ | refine at_block_exit_self ?_ | refine at_block_exit_ne ?_ | refine at_loop_ret ?_ | refine at_loop_exit ?_ | fail)
    | fail
  refine op_perm (bufH_swap 36 buf ws (kc, _) R) ?_
  refine op_append (H' := (kc, _) :: R) buf j ws [.iface t (.pointer (some ⟨kp, 0, none⟩))] (m := 1) hok (fun buf' hok' => ?_) (by exact rfl) (by exact rfl) (List.Sublist.refl _) ((bufH_sub _ _ _ _).subset (List.mem_cons_of_mem _ hn)) rfl rfl (by simp [Value.oneCell']) (by decide) (by simp only [maxLen]; omega) (by omega)
  rcases buf' with _ | ⟨kb, cap, sp⟩
  · exact absurd hok'.1 (by omega)
  simp only [bufV, bufH]
  repeat' first
    | refine op_storeK rfl ?_
    | (first | refine tc_seq ?_ | refine tc_region ?_ | refine at_seq_normal ?_ | refine tl_nil ?_ | refine tl_cons ?_ | refine tl_cons_none ?_ | refine op_move ?_ | refine op_assign ?_ | refine op_fieldAddr ?_ | refine op_load ?_ | refine op_load_agg ?_ | refine op_indexC ?_ | refine op_indexAddr1 ?_ | refine op_indexAddr ?_ | refine op_icmp ?_ | refine op_fcmp ?_ | refine op_iarith ?_ | refine op_bcmp ?_ | refine op_len_slice ?_ | refine op_build ?_ | refine op_makeInterface ?_ | refine op_ptr_nil ?_ | refine op_nilCheck_ptr ?_ | refine op_nilCheck_meth ?_ | refine op_iquo ?_ | refine op_irem ?_ | refine op_ibits ?_ | refine op_slice_isnil ?_ | refine op_slice_notnil ?_ | refine op_shl ?_ | refine op_shr ?_ | (refine op_farith ?_; intro _ _) | refine op_store0 ?_ | refine op_store1 ?_ | refine op_store2 ?_ | refine op_store3 ?_ | refine op_store4 ?_ | refine op_store5 ?_ | refine op_storeK rfl ?_ | refine op_loadK rfl ?_ | refine op_load_aggK rfl ?_ | refine tc_cond_t ?_ | refine tc_cond_f ?_ | refine tc_block ?_ | refine tc_skip ?_ | refine tc_ret ?_ | refine tc_exit ?_ | refine at_seq_ret ?_ | refine at_seq_exit ?_ | refine at_block_normal ?_ | refine at_block_ret ?_ | refine at_block_exit_self ?_ | refine at_block_exit_ne ?_ | refine at_loop_ret ?_ | refine at_loop_exit ?_ | fail)
    | fail
  exact ret_tmp (hG := List.Sublist.refl _) (hk := ⟨rfl, some (kb, cap, sp), hok', rfl⟩)
set_option maxHeartbeats 4000000 in
theorem mustPush (kc kn : Nat) (T Tn : TypeId) (s : Int) (buf : Buf) (j : Nat) (ws : List Value) (t : TypeId) (kp : Nat) (R : Heap) (hok : bufOk 1 buf j ws) (hj : j < 2000) (hn : (kn, Obj.cells ⟨[.iface t (.pointer (some ⟨kp, 0, none⟩))]⟩ Tn (0, 0)) ∈ R) :
    Does Try.prog 38 [.pointer (some ⟨kc, 0, none⟩), .slice (some ⟨kn, 0, none⟩) 1 1] ((kc, Obj.cells ⟨col3 0 (bufV buf j) s⟩ T (0, 0)) :: bufH 36 buf ws R) fun w H' => w = .pointer (some ⟨kc, 0, none⟩) ∧ ∃ buf', bufOk 1 buf' (j + 1) (ws ++ [.iface t (.pointer (some ⟨kp, 0, none⟩))]) ∧ H' = (kc, Obj.cells ⟨col3 0 (bufV buf' (j + 1)) s⟩ T (0, 0)) :: bufH 36 buf' (ws ++ [.iface t (.pointer (some ⟨kp, 0, none⟩))]) R := by
  refine fn_enter 13 Try.func38 fun W => ?_
  repeat' first
    | (refine op_call ((push kc kn T Tn s buf j ws t kp R hok hj hn).mono ?_); rintro _ _ ⟨rfl, buf', hok', rfl⟩)
    | refine op_iface_nil ?_
    | (first | refine tc_seq ?_ | refine tc_region ?_ | refine at_seq_normal ?_ | refine tl_nil ?_ | refine tl_cons ?_ | refine tl_cons_none ?_ | refine op_move ?_ | refine op_assign ?_ | refine op_fieldAddr ?_ | refine op_load ?_ | refine op_load_agg ?_ | refine op_indexC ?_ | refine op_indexAddr1 ?_ | refine op_indexAddr ?_ | refine op_icmp ?_ | refine op_fcmp ?_ | refine op_iarith ?_ | refine op_bcmp ?_ | refine op_unop_not ?_ | refine op_unop_neg_float ?_ | refine op_unop_neg_int ?_ | refine op_len_slice ?_ | refine op_pick_true ?_ | refine op_pick_false ?_ | refine op_pick_true' ?_ | refine op_pick_false' ?_ | refine op_build ?_ | refine op_extract ?_ | refine op_makeInterface ?_ | refine op_typeAssert ?_ | refine op_ptr_nil ?_ | refine op_nilCheck_ptr ?_ | refine op_nilCheck_meth ?_ | refine op_makeMeth ?_ | refine op_makeFunc ?_ | refine op_itof ?_ | refine op_itoi ?_ | refine op_ftoi ?_ | refine op_iquo ?_ | refine op_irem ?_ | refine op_ibits ?_ | refine op_slice_isnil ?_ | refine op_slice_notnil ?_ | refine op_imax ?_ | refine op_imin ?_ | refine op_shl ?_ | refine op_shr ?_ | (refine op_alloc ?_; intro _) | (refine op_box ?_; intro _) | (refine op_buildSlice ?_; intro _) | (refine op_farith ?_; intro _ _) | refine op_store0 ?_ | refine op_store1 ?_ | refine op_store2 ?_ | refine op_store3 ?_ | refine op_store4 ?_ | refine op_store5 ?_ | refine op_storeK rfl ?_ | refine op_loadK rfl ?_ | refine op_load_aggK rfl ?_ | refine tc_cond_t ?_ | refine tc_cond_f ?_ | refine tc_skip ?_ | refine tc_ret ?_ | refine at_seq_ret ?_ | fail)
    | fail
  exact ret_tmp (hG := List.Sublist.refl _) (hk := ⟨rfl, buf', hok', rfl⟩)
end Go.Proofs.Ytkhpdmcalimmjaa.Gm
