/-
  Collections: the layout set. No conditions.
-/
import Derived.Test.YtkhpdmcalimmjaaGc3
set_option linter.unusedVariables false
set_option linter.unusedSimpArgs false
namespace Go.Proofs.Ytkhpdmcalimmjaa.Gm
open Go.Lg Go.Proofs.Ytkhpdmcalimmjaa.Geom

set_option maxHeartbeats 8000000 in
theorem checkLayout (kc : Nat) (T : TypeId) (l s : Int) (a : Option Addr) (c : Nat) (ks : List Geo) (ws : List Value) (G : Heap) (hm : (kc, Obj.cells ⟨col3 0 (.slice a ks.length c) s⟩ T (0, 0)) ∈ G) (hs : Sl G (.slice a ks.length c) ws) (hls : HasLs G ks ws) (hg : l = 0 ∨ ∀ x ∈ ks, x.lof = l) (hb : Geo.wts ks < 2 ^ 62) :
    Does Try.prog 44 [.pointer (some ⟨kc, 0, none⟩), .int .i64 l] G fun w H' => w = .nilIface ∧ H' = G := by
  obtain ⟨hlen, hget⟩ := hls.get
  have hwl := Geo.wts_len ks
  refine fn_enter 29 Try.func44 fun W => ?_
  by_cases hl0 : l = 0
  · subst hl0
    have c1 : icmp .neq 0 0 = false := rfl
    repeat' first
      | (first | refine tc_seq ?_ | refine tc_region ?_ | refine at_seq_normal ?_ | refine tl_nil ?_ | refine tl_cons ?_ | refine op_move ?_ | refine op_assign ?_ | refine op_fieldAddr ?_ | refine op_load ?_ | refine op_load_agg ?_ | refine op_indexC ?_ | refine op_indexAddr1 ?_ | refine op_indexAddr ?_ | refine op_icmp ?_ | refine op_fcmp ?_ | refine op_iarith ?_ | refine op_bcmp ?_ | refine op_len_slice ?_ | refine op_build ?_ | refine op_makeInterface ?_ | refine op_ptr_nil ?_ | refine op_nilCheck_ptr ?_ | refine op_nilCheck_meth ?_ | refine op_iquo ?_ | refine op_irem ?_ | refine op_ibits ?_ | refine op_slice_isnil ?_ | refine op_slice_notnil ?_ | refine op_shl ?_ | refine op_shr ?_ | (refine op_farith ?_; intro _ _) | refine op_loadK rfl ?_ | refine op_load_aggK rfl ?_ | refine tc_cond_t ?_ | refine tc_cond_f ?_ | refine tc_block ?_ | refine tc_skip ?_ | refine tc_ret ?_ | refine tc_exit ?_ | refine at_seq_ret ?_ | refine at_seq_exit ?_ | refine at_block_normal ?_ | refine at_block_ret ?_ | refine at_block_exit_self ?_ | refine at_block_exit_ne ?_ | refine at_loop_ret ?_ | refine at_loop_exit ?_ | fail)
      | fail
    exact ret_tmp (hk := ⟨rfl, rfl⟩)
  · have c1 : icmp .neq l 0 = true := by simp only [icmp, bne_iff_ne]; exact hl0
    have hall : ∀ x ∈ ks, x.lof = l := hg.resolve_left hl0
    repeat' first
      | (refine op_load ?_ (hm := hm))
      | (first | refine tc_seq ?_ | refine tc_region ?_ | refine at_seq_normal ?_ | refine tl_nil ?_ | refine tl_cons ?_ | refine op_move ?_ | refine op_assign ?_ | refine op_fieldAddr ?_ | refine op_load ?_ | refine op_load_agg ?_ | refine op_indexC ?_ | refine op_indexAddr1 ?_ | refine op_indexAddr ?_ | refine op_icmp ?_ | refine op_fcmp ?_ | refine op_iarith ?_ | refine op_bcmp ?_ | refine op_len_slice ?_ | refine op_build ?_ | refine op_makeInterface ?_ | refine op_ptr_nil ?_ | refine op_nilCheck_ptr ?_ | refine op_nilCheck_meth ?_ | refine op_iquo ?_ | refine op_irem ?_ | refine op_ibits ?_ | refine op_slice_isnil ?_ | refine op_slice_notnil ?_ | refine op_shl ?_ | refine op_shr ?_ | (refine op_farith ?_; intro _ _) | refine op_loadK rfl ?_ | refine op_load_aggK rfl ?_ | refine tc_cond_t ?_ | refine tc_cond_f ?_ | refine tc_block ?_ | refine tc_skip ?_ | refine tc_ret ?_ | refine tc_exit ?_ | refine at_seq_ret ?_ | refine at_seq_exit ?_ | refine at_block_normal ?_ | refine at_block_ret ?_ | refine at_block_exit_self ?_ | refine at_block_exit_ne ?_ | refine at_loop_ret ?_ | refine at_loop_exit ?_ | fail)
      | fail
    refine tc_loopH [(1, _), (13, _), (14, _)] (by repeat (first | exact trivial | refine ⟨rfl, ?_⟩)) (fun j : Nat => [(15, .int .i64 (j : Int))]) (fun j => j ≤ ks.length) (fun j => ks.length - j) 0 (Nat.zero_le _) ⟨rfl, trivial⟩ ?_
    rintro j hj
    by_cases hlt : j < ks.length
    · have hbb : icmp .lss (j : Int) (ks.length : Int) = true := by rw [lss_nat]; simpa using hlt
      have hk1 : ks[j]? = some ks[j] := List.getElem?_eq_getElem hlt
      have hwk := Geo.wts_mem hk1
      have hxl := hall _ (List.getElem_mem hlt)
      obtain ⟨wj, hwj, hq⟩ := hget j _ hk1
      obtain ⟨kk, off, L, Tl, zl, cap, he, hml, hgl, hltw⟩ := hs.at hwj
      injection he with e1 _ e3
      subst e1
      subst e3
      generalize ks[j] = x at *
      have hcl : ∀ kp', wj = .iface colT (.pointer (some ⟨kp', 0, none⟩)) → Does Try.prog 81 [.pointer (some ⟨kp', 0 + 0, none⟩)] G fun v H' => v = .int .i64 x.lof ∧ H' = G := fun kp' hw' => by
        subst hw'
        exact colLayout x.wt x kp' G (Nat.le_refl _) (by omega) hq
      have c2 : icmp .neq l l = false := by simp [icmp]
      repeat' first
        | (refine op_indexAddr1 (j := j) ?_ (hj := hlt))
        | (refine op_load (k := kk) ?_ (hm := hml) (hv := hgl))
        | (refine op_load (k := kc) ?_ (hm := hm))
        | (refine op_lay x hq hcl ?_ rfl; rw [hxl])
        | (first | refine tc_seq ?_ | refine tc_region ?_ | refine at_seq_normal ?_ | refine tl_nil ?_ | refine tl_cons ?_ | refine op_move ?_ | refine op_assign ?_ | refine op_fieldAddr ?_ | refine op_load ?_ | refine op_load_agg ?_ | refine op_indexC ?_ | refine op_indexAddr1 ?_ | refine op_indexAddr ?_ | refine op_icmp ?_ | refine op_fcmp ?_ | refine op_iarith ?_ | refine op_bcmp ?_ | refine op_len_slice ?_ | refine op_build ?_ | refine op_makeInterface ?_ | refine op_ptr_nil ?_ | refine op_nilCheck_ptr ?_ | refine op_nilCheck_meth ?_ | refine op_iquo ?_ | refine op_irem ?_ | refine op_ibits ?_ | refine op_slice_isnil ?_ | refine op_slice_notnil ?_ | refine op_shl ?_ | refine op_shr ?_ | (refine op_farith ?_; intro _ _) | refine op_loadK rfl ?_ | refine op_load_aggK rfl ?_ | refine tc_cond_t ?_ | refine tc_cond_f ?_ | refine tc_block ?_ | refine tc_skip ?_ | refine tc_ret ?_ | refine tc_exit ?_ | refine at_seq_ret ?_ | refine at_seq_exit ?_ | refine at_block_normal ?_ | refine at_block_ret ?_ | refine at_block_exit_self ?_ | refine at_block_exit_ne ?_ | refine at_loop_ret ?_ | refine at_loop_exit ?_ | fail)
        | fail
      exact at_loopK (j + 1) hlt (by omega) ⟨next_nat (by omega), trivial⟩ (by repeat (first | exact trivial | refine ⟨rfl, ?_⟩)) (by (repeat (first | exact List.Sublist.refl _ | apply List.Sublist.cons_cons | apply List.Sublist.cons | refine List.Sublist.trans ?_ (List.sublist_append_right _ _))))
    · have hbb : icmp .lss (j : Int) (ks.length : Int) = false := by rw [lss_nat]; simpa using hlt
      repeat' first
        | (first | refine tc_seq ?_ | refine tc_region ?_ | refine at_seq_normal ?_ | refine tl_nil ?_ | refine tl_cons ?_ | refine op_move ?_ | refine op_assign ?_ | refine op_fieldAddr ?_ | refine op_load ?_ | refine op_load_agg ?_ | refine op_indexC ?_ | refine op_indexAddr1 ?_ | refine op_indexAddr ?_ | refine op_icmp ?_ | refine op_fcmp ?_ | refine op_iarith ?_ | refine op_bcmp ?_ | refine op_len_slice ?_ | refine op_build ?_ | refine op_makeInterface ?_ | refine op_ptr_nil ?_ | refine op_nilCheck_ptr ?_ | refine op_nilCheck_meth ?_ | refine op_iquo ?_ | refine op_irem ?_ | refine op_ibits ?_ | refine op_slice_isnil ?_ | refine op_slice_notnil ?_ | refine op_shl ?_ | refine op_shr ?_ | (refine op_farith ?_; intro _ _) | refine op_loadK rfl ?_ | refine op_load_aggK rfl ?_ | refine tc_cond_t ?_ | refine tc_cond_f ?_ | refine tc_block ?_ | refine tc_skip ?_ | refine tc_ret ?_ | refine tc_exit ?_ | refine at_seq_ret ?_ | refine at_seq_exit ?_ | refine at_block_normal ?_ | refine at_block_ret ?_ | refine at_block_exit_self ?_ | refine at_block_exit_ne ?_ | refine at_loop_ret ?_ | refine at_loop_exit ?_ | fail)
        | fail
      exact ret_tmp (hk := ⟨rfl, rfl⟩)
theorem setLayout (kc : Nat) (T : TypeId) (l s : Int) (a : Option Addr) (c : Nat) (ks : List Geo) (ws : List Value) (R : Heap) (hs : Sl ((kc, Obj.cells ⟨col3 0 (.slice a ks.length c) s⟩ T (0, 0)) :: R) (.slice a ks.length c) ws) (hls : HasLs ((kc, Obj.cells ⟨col3 0 (.slice a ks.length c) s⟩ T (0, 0)) :: R) ks ws) (hg : l = 0 ∨ ∀ x ∈ ks, x.lof = l) (hb : Geo.wts ks < 2 ^ 62) :
    Does Try.prog 43 [.pointer (some ⟨kc, 0, none⟩), .int .i64 l] ((kc, Obj.cells ⟨col3 0 (.slice a ks.length c) s⟩ T (0, 0)) :: R) fun w H' => w = .nilIface ∧ H' = (kc, Obj.cells ⟨col3 l (.slice a ks.length c) s⟩ T (0, 0)) :: R := by
  refine fn_enter 16 Try.func43 fun W => ?_
  repeat' first
    | (refine op_call ((checkLayout kc T l s a c ks ws _ mem0 hs hls hg hb).mono ?_); rintro _ _ ⟨rfl, rfl⟩)
    | refine op_iface_nil ?_
    | (first | refine tc_seq ?_ | refine tc_region ?_ | refine at_seq_normal ?_ | refine tl_nil ?_ | refine tl_cons ?_ | refine tl_cons_none ?_ | refine op_move ?_ | refine op_assign ?_ | refine op_fieldAddr ?_ | refine op_icmp ?_ | refine op_fcmp ?_ | refine op_iarith ?_ | refine op_bcmp ?_ | refine op_ptr_nil ?_ | refine op_nilCheck_ptr ?_ | refine op_nilCheck_meth ?_ | refine op_iquo ?_ | refine op_irem ?_ | refine op_ibits ?_ | refine op_slice_isnil ?_ | refine op_slice_notnil ?_ | refine op_shl ?_ | refine op_shr ?_ | (refine op_farith ?_; intro _ _) | refine op_store0 ?_ | refine op_store1 ?_ | refine op_store2 ?_ | refine op_store3 ?_ | refine op_store4 ?_ | refine op_store5 ?_ | refine op_storeK rfl ?_ | refine tc_cond_t ?_ | refine tc_cond_f ?_ | refine tc_skip ?_ | refine tc_ret ?_ | refine at_seq_ret ?_ | fail)
    | fail
  exact ret_tmp (hk := ⟨rfl, rfl⟩)
theorem mustSetLayout (kc : Nat) (T : TypeId) (l s : Int) (a : Option Addr) (c : Nat) (ks : List Geo) (ws : List Value) (R : Heap) (hs : Sl ((kc, Obj.cells ⟨col3 0 (.slice a ks.length c) s⟩ T (0, 0)) :: R) (.slice a ks.length c) ws) (hls : HasLs ((kc, Obj.cells ⟨col3 0 (.slice a ks.length c) s⟩ T (0, 0)) :: R) ks ws) (hg : l = 0 ∨ ∀ x ∈ ks, x.lof = l) (hb : Geo.wts ks < 2 ^ 62) :
    Does Try.prog 39 [.pointer (some ⟨kc, 0, none⟩), .int .i64 l] ((kc, Obj.cells ⟨col3 0 (.slice a ks.length c) s⟩ T (0, 0)) :: R) fun w H' => w = .pointer (some ⟨kc, 0, none⟩) ∧ H' = (kc, Obj.cells ⟨col3 l (.slice a ks.length c) s⟩ T (0, 0)) :: R := by
  refine fn_enter 13 Try.func39 fun W => ?_
  repeat' first
    | (refine op_call ((setLayout kc T l s a c ks ws R hs hls hg hb).mono ?_); rintro _ _ ⟨rfl, rfl⟩)
    | refine op_iface_nil ?_
    | (first | refine tc_seq ?_ | refine tc_region ?_ | refine at_seq_normal ?_ | refine tl_nil ?_ | refine tl_cons ?_ | refine tl_cons_none ?_ | refine op_move ?_ | refine op_assign ?_ | refine op_fieldAddr ?_ | refine op_load ?_ | refine op_load_agg ?_ | refine op_indexC ?_ | refine op_indexAddr1 ?_ | refine op_indexAddr ?_ | refine op_icmp ?_ | refine op_fcmp ?_ | refine op_iarith ?_ | refine op_bcmp ?_ | refine op_unop_not ?_ | refine op_unop_neg_float ?_ | refine op_unop_neg_int ?_ | refine op_len_slice ?_ | refine op_pick_true ?_ | refine op_pick_false ?_ | refine op_pick_true' ?_ | refine op_pick_false' ?_ | refine op_build ?_ | refine op_extract ?_ | refine op_makeInterface ?_ | refine op_typeAssert ?_ | refine op_ptr_nil ?_ | refine op_nilCheck_ptr ?_ | refine op_nilCheck_meth ?_ | refine op_makeMeth ?_ | refine op_makeFunc ?_ | refine op_itof ?_ | refine op_itoi ?_ | refine op_ftoi ?_ | refine op_iquo ?_ | refine op_irem ?_ | refine op_ibits ?_ | refine op_slice_isnil ?_ | refine op_slice_notnil ?_ | refine op_imax ?_ | refine op_imin ?_ | refine op_shl ?_ | refine op_shr ?_ | (refine op_alloc ?_; intro _) | (refine op_box ?_; intro _) | (refine op_buildSlice ?_; intro _) | (refine op_farith ?_; intro _ _) | refine op_store0 ?_ | refine op_store1 ?_ | refine op_store2 ?_ | refine op_store3 ?_ | refine op_store4 ?_ | refine op_store5 ?_ | refine op_storeK rfl ?_ | refine op_loadK rfl ?_ | refine op_load_aggK rfl ?_ | refine tc_cond_t ?_ | refine tc_cond_f ?_ | refine tc_skip ?_ | refine tc_ret ?_ | refine at_seq_ret ?_ | fail)
    | fail
  exact ret_tmp (hk := ⟨rfl, rfl⟩)
end Go.Proofs.Ytkhpdmcalimmjaa.Gm
