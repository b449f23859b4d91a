/-
  impl.ReadFlat0. No conditions but the bounds.
-/
import Derived.Test.YtddpdmmikheoeaaDoorRz1
import Derived.Test.YtddpdmmikheoeaaDoorRz2
import Derived.Test.YtddpdmmikheoeaaDoorRz3
set_option linter.unusedVariables false
set_option linter.unusedSimpArgs false
namespace Go.Proofs.YtddpdmmikheoeaaDoor.Byt
open Go.Lg

instance concBuf : Conc Tryd.prog 47 where
  eq := by kernel_rfl
set_option maxRecDepth 100000 in
instance idle16 : IdleD Tryd.prog 16 3 where
  idle := fun cap w hl => by
    match cap, hl with
    | [p, q, r], _ =>
    have h0 : ∀ w : World, (eqGuard .neq 20 (.tmp 3) (.const .nilIface) .nilIface .nilIface).run Tryd.prog w = .ok () w := fun _ => rfl
    have h1 : ∀ w : World, (binOp .neq 20 .nilIface .nilIface).run Tryd.prog w = .ok (.bool false) w := fun w => by
      first
        | rfl
        | simp [binOp, Op.equal, Op.equalIn, go_sem]
    refine callsD_of_wpS Tryd.func16 rfl fun c₀ cs hu => ?_
    apply wpS_seq
    apply wpS_region
    simp [wpOpsS, go_sem, recoverD, hu, Tryd.ntmps16, Exit.thenS, h1]
    refine wpS_cond (t := false) (by simp [Act.eval, Array.replicate]) ?_
    simp only [Bool.false_eq_true, if_false]
    refine wpS_of_wp (wp_skip ?_)
    cases c₀
    simp_all [bodyPostS, results, Tryd.results16]
set_option maxHeartbeats 8000000 in
theorem implReadFlat0 (a : Option Addr) (c : Nat) (bs : List Nat) (big : Bool) (s : Nat) (H : Heap) (hv : BS H (.slice a bs.length c) bs) (hx : ∀ x ∈ bs, x < 256) (hs : 0 < s) (hs2 : s ≤ 1000) (hb : bs.length ≤ 1048576) (hE : Ends H) :
    Does Tryd.prog 7 [.slice a bs.length c, .bool big, .int .i64 (s : Int)] H fun w H' =>
      (8 * s ≤ bs.length ∧ ∃ av cv, w = .tuple #[.slice av s cv, .int .i64 ((bs.length - 8 * s : Nat) : Int), .bool true] ∧ FS H' (.slice av s cv) (words big bs s) ∧ ∃ ex, H' = ex ++ H) ∨
      (bs.length < 8 * s ∧ (∃ v l, w = .tuple #[v, .int .i64 l, .bool false]) ∧ ∃ ex, H' = ex ++ H) := by
  refine fn_enter_d 28 Tryd.func7 fun W => ?_
  repeat' first
    | (refine op_call ((newBuffer _ a bs.length c rfl _).mono ?_); rintro _ _ ⟨kb, T, rfl, rfl⟩)
    | (refine op_call ((doorOrder big _).mono ?_); rintro _ _ ⟨rfl, rfl⟩)
    | refine op_makeInterface ?_
    | (refine op_call ((readFlatCoords0 kb T a c bs big s _ (hv.mono fun e he => by simp [he]) hx hs hs2 hb (hE.mono fun e he => by simp [he])).mono ?_)
       rintro _ _ (⟨hge, av, cv, rfl, ex, rfl, hF, m1⟩ | ⟨hlt, u, v, rfl, ex, rfl, m1⟩))
    | (first | refine tl_defer ?_ | refine tc_seq ?_ | refine tc_region ?_ | refine at_seq_normal ?_ | refine tl_nil ?_ | refine tl_cons ?_ | refine tl_cons_none ?_ | refine op_move ?_ | refine op_assign ?_ | refine op_load ?_ | refine op_load_agg ?_ | refine op_icmp ?_ | refine op_fcmp ?_ | refine op_iarith ?_ | refine op_bcmp ?_ | refine op_extract ?_ | refine op_makeInterface ?_ | refine op_ptr_nil ?_ | refine op_makeMeth ?_ | refine op_makeFunc ?_ | refine op_iquo ?_ | refine op_irem ?_ | refine op_ibits ?_ | refine op_slice_isnil ?_ | refine op_slice_notnil ?_ | refine op_shl ?_ | refine op_shr ?_ | (refine op_alloc ?_; intro _) | (refine op_farith ?_; intro _ _) | refine op_store0 ?_ | refine op_store1 ?_ | refine op_store2 ?_ | refine op_store3 ?_ | refine op_store4 ?_ | refine op_store5 ?_ | refine op_storeK rfl ?_ | refine op_loadK rfl ?_ | refine op_load_aggK rfl ?_ | refine tc_ret ?_ | refine at_seq_ret ?_ | fail)
    | refine op_storeK rfl ?_
    | fail
  · have hsub : IntKind.i64.wrap (iarith .sub (bs.length : Int) ((8 * s : Nat) : Int)) = ((bs.length - 8 * s : Nat) : Int) := by rw [wrap_sub (by omega) (by omega)]; omega
    refine tc_any mixed ?_
    refine ta_three 0 1 3 (by kernel_rfl) rfl (by decide) rfl (by decide) rfl (by decide) ?_ ?_ ?_
    · refine op_loadK rfl ?_
      refine ta_two 1 3 (by kernel_rfl) rfl (by decide) rfl (by decide) ?_ ?_
      · refine op_move ?_
        refine ta_two 2 3 (by kernel_rfl) rfl (by decide) rfl (by decide) ?_ ?_
        · (refine op_call ((bufLen kb T a bs.length c _ _ _ (List.mem_cons_of_mem _ (List.mem_append_left _ m1))).mono ?_); rintro _ _ ⟨rfl, rfl⟩)
          refine ta_two10 3 5 (by kernel_rfl) rfl (by decide) rfl ?_ ?_
          · refine op_move ?_
            refine ta_two10 4 5 (by kernel_rfl) rfl (by decide) rfl ?_ ?_
            · refine op_iface_nilq ?_
              refine ta_only0 5 (by kernel_rfl) rfl ?_
              refine op_storeK rfl ?_
              refine ta_only0 6 (by kernel_rfl) rfl ?_
              refine op_storeK rfl ?_
              refine ta_only0 7 (by kernel_rfl) rfl ?_
              refine op_storeK rfl ?_
              refine ta_done (by kernel_rfl) ?_
              repeat' first
                | (first | refine tl_defer ?_ | refine tc_seq ?_ | refine tc_region ?_ | refine at_seq_normal ?_ | refine tl_nil ?_ | refine tl_cons ?_ | refine tl_cons_none ?_ | refine op_move ?_ | refine op_assign ?_ | refine op_load ?_ | refine op_load_agg ?_ | refine op_icmp ?_ | refine op_fcmp ?_ | refine op_iarith ?_ | refine op_bcmp ?_ | refine op_extract ?_ | refine op_makeInterface ?_ | refine op_ptr_nil ?_ | refine op_makeMeth ?_ | refine op_makeFunc ?_ | refine op_iquo ?_ | refine op_irem ?_ | refine op_ibits ?_ | refine op_slice_isnil ?_ | refine op_slice_notnil ?_ | refine op_shl ?_ | refine op_shr ?_ | (refine op_alloc ?_; intro _) | (refine op_farith ?_; intro _ _) | refine op_store0 ?_ | refine op_store1 ?_ | refine op_store2 ?_ | refine op_store3 ?_ | refine op_store4 ?_ | refine op_store5 ?_ | refine op_storeK rfl ?_ | refine op_loadK rfl ?_ | refine op_load_aggK rfl ?_ | refine tc_ret ?_ | refine at_seq_ret ?_ | fail)
                | fail
              refine ret_door (m := 3) rfl rfl (.cons (rv_cell rfl) (.cons (rv_cell rfl) (.cons (rv_cell rfl) .nil))) rfl (List.Sublist.refl _) ?_
              exact .inl ⟨hge, av, cv, by rw [← hsub]; rfl, hF.mono ins, ExC.ex⟩
            · refine op_storeK rfl ?_
              refine ta_two10 4 6 (by kernel_rfl) rfl (by decide) rfl ?_ ?_
              · refine op_iface_nilq ?_
                refine ta_only0 6 (by kernel_rfl) rfl ?_
                refine op_storeK rfl ?_
                refine ta_only0 7 (by kernel_rfl) rfl ?_
                refine op_storeK rfl ?_
                refine ta_done (by kernel_rfl) ?_
                repeat' first
                  | (first | refine tl_defer ?_ | refine tc_seq ?_ | refine tc_region ?_ | refine at_seq_normal ?_ | refine tl_nil ?_ | refine tl_cons ?_ | refine tl_cons_none ?_ | refine op_move ?_ | refine op_assign ?_ | refine op_load ?_ | refine op_load_agg ?_ | refine op_icmp ?_ | refine op_fcmp ?_ | refine op_iarith ?_ | refine op_bcmp ?_ | refine op_extract ?_ | refine op_makeInterface ?_ | refine op_ptr_nil ?_ | refine op_makeMeth ?_ | refine op_makeFunc ?_ | refine op_iquo ?_ | refine op_irem ?_ | refine op_ibits ?_ | refine op_slice_isnil ?_ | refine op_slice_notnil ?_ | refine op_shl ?_ | refine op_shr ?_ | (refine op_alloc ?_; intro _) | (refine op_farith ?_; intro _ _) | refine op_store0 ?_ | refine op_store1 ?_ | refine op_store2 ?_ | refine op_store3 ?_ | refine op_store4 ?_ | refine op_store5 ?_ | refine op_storeK rfl ?_ | refine op_loadK rfl ?_ | refine op_load_aggK rfl ?_ | refine tc_ret ?_ | refine at_seq_ret ?_ | fail)
                  | fail
                refine ret_door (m := 3) rfl rfl (.cons (rv_cell rfl) (.cons (rv_cell rfl) (.cons (rv_cell rfl) .nil))) rfl (List.Sublist.refl _) ?_
                exact .inl ⟨hge, av, cv, by rw [← hsub]; rfl, hF.mono ins, ExC.ex⟩
              · refine op_storeK rfl ?_
                refine ta_only 4 (by kernel_rfl) rfl (by decide) ?_
                refine op_iface_nilq ?_
                refine ta_only0 7 (by kernel_rfl) rfl ?_
                refine op_storeK rfl ?_
                refine ta_done (by kernel_rfl) ?_
                repeat' first
                  | (first | refine tl_defer ?_ | refine tc_seq ?_ | refine tc_region ?_ | refine at_seq_normal ?_ | refine tl_nil ?_ | refine tl_cons ?_ | refine tl_cons_none ?_ | refine op_move ?_ | refine op_assign ?_ | refine op_load ?_ | refine op_load_agg ?_ | refine op_icmp ?_ | refine op_fcmp ?_ | refine op_iarith ?_ | refine op_bcmp ?_ | refine op_extract ?_ | refine op_makeInterface ?_ | refine op_ptr_nil ?_ | refine op_makeMeth ?_ | refine op_makeFunc ?_ | refine op_iquo ?_ | refine op_irem ?_ | refine op_ibits ?_ | refine op_slice_isnil ?_ | refine op_slice_notnil ?_ | refine op_shl ?_ | refine op_shr ?_ | (refine op_alloc ?_; intro _) | (refine op_farith ?_; intro _ _) | refine op_store0 ?_ | refine op_store1 ?_ | refine op_store2 ?_ | refine op_store3 ?_ | refine op_store4 ?_ | refine op_store5 ?_ | refine op_storeK rfl ?_ | refine op_loadK rfl ?_ | refine op_load_aggK rfl ?_ | refine tc_ret ?_ | refine at_seq_ret ?_ | fail)
                  | fail
                refine ret_door (m := 3) rfl rfl (.cons (rv_cell rfl) (.cons (rv_cell rfl) (.cons (rv_cell rfl) .nil))) rfl (List.Sublist.refl _) ?_
                exact .inl ⟨hge, av, cv, by rw [← hsub]; rfl, hF.mono ins, ExC.ex⟩
          · refine op_storeK rfl ?_
            refine ta_two10 3 6 (by kernel_rfl) rfl (by decide) rfl ?_ ?_
            · refine op_move ?_
              refine ta_two10 4 6 (by kernel_rfl) rfl (by decide) rfl ?_ ?_
              · refine op_iface_nilq ?_
                refine ta_only0 6 (by kernel_rfl) rfl ?_
                refine op_storeK rfl ?_
                refine ta_only0 7 (by kernel_rfl) rfl ?_
                refine op_storeK rfl ?_
                refine ta_done (by kernel_rfl) ?_
                repeat' first
                  | (first | refine tl_defer ?_ | refine tc_seq ?_ | refine tc_region ?_ | refine at_seq_normal ?_ | refine tl_nil ?_ | refine tl_cons ?_ | refine tl_cons_none ?_ | refine op_move ?_ | refine op_assign ?_ | refine op_load ?_ | refine op_load_agg ?_ | refine op_icmp ?_ | refine op_fcmp ?_ | refine op_iarith ?_ | refine op_bcmp ?_ | refine op_extract ?_ | refine op_makeInterface ?_ | refine op_ptr_nil ?_ | refine op_makeMeth ?_ | refine op_makeFunc ?_ | refine op_iquo ?_ | refine op_irem ?_ | refine op_ibits ?_ | refine op_slice_isnil ?_ | refine op_slice_notnil ?_ | refine op_shl ?_ | refine op_shr ?_ | (refine op_alloc ?_; intro _) | (refine op_farith ?_; intro _ _) | refine op_store0 ?_ | refine op_store1 ?_ | refine op_store2 ?_ | refine op_store3 ?_ | refine op_store4 ?_ | refine op_store5 ?_ | refine op_storeK rfl ?_ | refine op_loadK rfl ?_ | refine op_load_aggK rfl ?_ | refine tc_ret ?_ | refine at_seq_ret ?_ | fail)
                  | fail
                refine ret_door (m := 3) rfl rfl (.cons (rv_cell rfl) (.cons (rv_cell rfl) (.cons (rv_cell rfl) .nil))) rfl (List.Sublist.refl _) ?_
                exact .inl ⟨hge, av, cv, by rw [← hsub]; rfl, hF.mono ins, ExC.ex⟩
              · refine op_storeK rfl ?_
                refine ta_only 4 (by kernel_rfl) rfl (by decide) ?_
                refine op_iface_nilq ?_
                refine ta_only0 7 (by kernel_rfl) rfl ?_
                refine op_storeK rfl ?_
                refine ta_done (by kernel_rfl) ?_
                repeat' first
                  | (first | refine tl_defer ?_ | refine tc_seq ?_ | refine tc_region ?_ | refine at_seq_normal ?_ | refine tl_nil ?_ | refine tl_cons ?_ | refine tl_cons_none ?_ | refine op_move ?_ | refine op_assign ?_ | refine op_load ?_ | refine op_load_agg ?_ | refine op_icmp ?_ | refine op_fcmp ?_ | refine op_iarith ?_ | refine op_bcmp ?_ | refine op_extract ?_ | refine op_makeInterface ?_ | refine op_ptr_nil ?_ | refine op_makeMeth ?_ | refine op_makeFunc ?_ | refine op_iquo ?_ | refine op_irem ?_ | refine op_ibits ?_ | refine op_slice_isnil ?_ | refine op_slice_notnil ?_ | refine op_shl ?_ | refine op_shr ?_ | (refine op_alloc ?_; intro _) | (refine op_farith ?_; intro _ _) | refine op_store0 ?_ | refine op_store1 ?_ | refine op_store2 ?_ | refine op_store3 ?_ | refine op_store4 ?_ | refine op_store5 ?_ | refine op_storeK rfl ?_ | refine op_loadK rfl ?_ | refine op_load_aggK rfl ?_ | refine tc_ret ?_ | refine at_seq_ret ?_ | fail)
                  | fail
                refine ret_door (m := 3) rfl rfl (.cons (rv_cell rfl) (.cons (rv_cell rfl) (.cons (rv_cell rfl) .nil))) rfl (List.Sublist.refl _) ?_
                exact .inl ⟨hge, av, cv, by rw [← hsub]; rfl, hF.mono ins, ExC.ex⟩
            · refine op_storeK rfl ?_
              refine ta_only 3 (by kernel_rfl) rfl (by decide) ?_
              refine op_move ?_
              refine ta_only 4 (by kernel_rfl) rfl (by decide) ?_
              refine op_iface_nilq ?_
              refine ta_only0 7 (by kernel_rfl) rfl ?_
              refine op_storeK rfl ?_
              refine ta_done (by kernel_rfl) ?_
              repeat' first
                | (first | refine tl_defer ?_ | refine tc_seq ?_ | refine tc_region ?_ | refine at_seq_normal ?_ | refine tl_nil ?_ | refine tl_cons ?_ | refine tl_cons_none ?_ | refine op_move ?_ | refine op_assign ?_ | refine op_load ?_ | refine op_load_agg ?_ | refine op_icmp ?_ | refine op_fcmp ?_ | refine op_iarith ?_ | refine op_bcmp ?_ | refine op_extract ?_ | refine op_makeInterface ?_ | refine op_ptr_nil ?_ | refine op_makeMeth ?_ | refine op_makeFunc ?_ | refine op_iquo ?_ | refine op_irem ?_ | refine op_ibits ?_ | refine op_slice_isnil ?_ | refine op_slice_notnil ?_ | refine op_shl ?_ | refine op_shr ?_ | (refine op_alloc ?_; intro _) | (refine op_farith ?_; intro _ _) | refine op_store0 ?_ | refine op_store1 ?_ | refine op_store2 ?_ | refine op_store3 ?_ | refine op_store4 ?_ | refine op_store5 ?_ | refine op_storeK rfl ?_ | refine op_loadK rfl ?_ | refine op_load_aggK rfl ?_ | refine tc_ret ?_ | refine at_seq_ret ?_ | fail)
                | fail
              refine ret_door (m := 3) rfl rfl (.cons (rv_cell rfl) (.cons (rv_cell rfl) (.cons (rv_cell rfl) .nil))) rfl (List.Sublist.refl _) ?_
              exact .inl ⟨hge, av, cv, by rw [← hsub]; rfl, hF.mono ins, ExC.ex⟩
        · refine op_move ?_
          refine ta_two 2 4 (by kernel_rfl) rfl (by decide) rfl (by decide) ?_ ?_
          · (refine op_call ((bufLen kb T a bs.length c _ _ _ (List.mem_cons_of_mem _ (List.mem_append_left _ m1))).mono ?_); rintro _ _ ⟨rfl, rfl⟩)
            refine ta_two10 4 5 (by kernel_rfl) rfl (by decide) rfl ?_ ?_
            · refine op_iface_nilq ?_
              refine ta_only0 5 (by kernel_rfl) rfl ?_
              refine op_storeK rfl ?_
              refine ta_only0 6 (by kernel_rfl) rfl ?_
              refine op_storeK rfl ?_
              refine ta_only0 7 (by kernel_rfl) rfl ?_
              refine op_storeK rfl ?_
              refine ta_done (by kernel_rfl) ?_
              repeat' first
                | (first | refine tl_defer ?_ | refine tc_seq ?_ | refine tc_region ?_ | refine at_seq_normal ?_ | refine tl_nil ?_ | refine tl_cons ?_ | refine tl_cons_none ?_ | refine op_move ?_ | refine op_assign ?_ | refine op_load ?_ | refine op_load_agg ?_ | refine op_icmp ?_ | refine op_fcmp ?_ | refine op_iarith ?_ | refine op_bcmp ?_ | refine op_extract ?_ | refine op_makeInterface ?_ | refine op_ptr_nil ?_ | refine op_makeMeth ?_ | refine op_makeFunc ?_ | refine op_iquo ?_ | refine op_irem ?_ | refine op_ibits ?_ | refine op_slice_isnil ?_ | refine op_slice_notnil ?_ | refine op_shl ?_ | refine op_shr ?_ | (refine op_alloc ?_; intro _) | (refine op_farith ?_; intro _ _) | refine op_store0 ?_ | refine op_store1 ?_ | refine op_store2 ?_ | refine op_store3 ?_ | refine op_store4 ?_ | refine op_store5 ?_ | refine op_storeK rfl ?_ | refine op_loadK rfl ?_ | refine op_load_aggK rfl ?_ | refine tc_ret ?_ | refine at_seq_ret ?_ | fail)
                | fail
              refine ret_door (m := 3) rfl rfl (.cons (rv_cell rfl) (.cons (rv_cell rfl) (.cons (rv_cell rfl) .nil))) rfl (List.Sublist.refl _) ?_
              exact .inl ⟨hge, av, cv, by rw [← hsub]; rfl, hF.mono ins, ExC.ex⟩
            · refine op_storeK rfl ?_
              refine ta_two10 4 6 (by kernel_rfl) rfl (by decide) rfl ?_ ?_
              · refine op_iface_nilq ?_
                refine ta_only0 6 (by kernel_rfl) rfl ?_
                refine op_storeK rfl ?_
                refine ta_only0 7 (by kernel_rfl) rfl ?_
                refine op_storeK rfl ?_
                refine ta_done (by kernel_rfl) ?_
                repeat' first
                  | (first | refine tl_defer ?_ | refine tc_seq ?_ | refine tc_region ?_ | refine at_seq_normal ?_ | refine tl_nil ?_ | refine tl_cons ?_ | refine tl_cons_none ?_ | refine op_move ?_ | refine op_assign ?_ | refine op_load ?_ | refine op_load_agg ?_ | refine op_icmp ?_ | refine op_fcmp ?_ | refine op_iarith ?_ | refine op_bcmp ?_ | refine op_extract ?_ | refine op_makeInterface ?_ | refine op_ptr_nil ?_ | refine op_makeMeth ?_ | refine op_makeFunc ?_ | refine op_iquo ?_ | refine op_irem ?_ | refine op_ibits ?_ | refine op_slice_isnil ?_ | refine op_slice_notnil ?_ | refine op_shl ?_ | refine op_shr ?_ | (refine op_alloc ?_; intro _) | (refine op_farith ?_; intro _ _) | refine op_store0 ?_ | refine op_store1 ?_ | refine op_store2 ?_ | refine op_store3 ?_ | refine op_store4 ?_ | refine op_store5 ?_ | refine op_storeK rfl ?_ | refine op_loadK rfl ?_ | refine op_load_aggK rfl ?_ | refine tc_ret ?_ | refine at_seq_ret ?_ | fail)
                  | fail
                refine ret_door (m := 3) rfl rfl (.cons (rv_cell rfl) (.cons (rv_cell rfl) (.cons (rv_cell rfl) .nil))) rfl (List.Sublist.refl _) ?_
                exact .inl ⟨hge, av, cv, by rw [← hsub]; rfl, hF.mono ins, ExC.ex⟩
              · refine op_storeK rfl ?_
                refine ta_only 4 (by kernel_rfl) rfl (by decide) ?_
                refine op_iface_nilq ?_
                refine ta_only0 7 (by kernel_rfl) rfl ?_
                refine op_storeK rfl ?_
                refine ta_done (by kernel_rfl) ?_
                repeat' first
                  | (first | refine tl_defer ?_ | refine tc_seq ?_ | refine tc_region ?_ | refine at_seq_normal ?_ | refine tl_nil ?_ | refine tl_cons ?_ | refine tl_cons_none ?_ | refine op_move ?_ | refine op_assign ?_ | refine op_load ?_ | refine op_load_agg ?_ | refine op_icmp ?_ | refine op_fcmp ?_ | refine op_iarith ?_ | refine op_bcmp ?_ | refine op_extract ?_ | refine op_makeInterface ?_ | refine op_ptr_nil ?_ | refine op_makeMeth ?_ | refine op_makeFunc ?_ | refine op_iquo ?_ | refine op_irem ?_ | refine op_ibits ?_ | refine op_slice_isnil ?_ | refine op_slice_notnil ?_ | refine op_shl ?_ | refine op_shr ?_ | (refine op_alloc ?_; intro _) | (refine op_farith ?_; intro _ _) | refine op_store0 ?_ | refine op_store1 ?_ | refine op_store2 ?_ | refine op_store3 ?_ | refine op_store4 ?_ | refine op_store5 ?_ | refine op_storeK rfl ?_ | refine op_loadK rfl ?_ | refine op_load_aggK rfl ?_ | refine tc_ret ?_ | refine at_seq_ret ?_ | fail)
                  | fail
                refine ret_door (m := 3) rfl rfl (.cons (rv_cell rfl) (.cons (rv_cell rfl) (.cons (rv_cell rfl) .nil))) rfl (List.Sublist.refl _) ?_
                exact .inl ⟨hge, av, cv, by rw [← hsub]; rfl, hF.mono ins, ExC.ex⟩
          · refine op_iface_nilq ?_
            refine ta_only 2 (by kernel_rfl) rfl (by decide) ?_
            (refine op_call ((bufLen kb T a bs.length c _ _ _ (List.mem_cons_of_mem _ (List.mem_append_left _ m1))).mono ?_); rintro _ _ ⟨rfl, rfl⟩)
            refine ta_only0 5 (by kernel_rfl) rfl ?_
            refine op_storeK rfl ?_
            refine ta_only0 6 (by kernel_rfl) rfl ?_
            refine op_storeK rfl ?_
            refine ta_only0 7 (by kernel_rfl) rfl ?_
            refine op_storeK rfl ?_
            refine ta_done (by kernel_rfl) ?_
            repeat' first
              | (first | refine tl_defer ?_ | refine tc_seq ?_ | refine tc_region ?_ | refine at_seq_normal ?_ | refine tl_nil ?_ | refine tl_cons ?_ | refine tl_cons_none ?_ | refine op_move ?_ | refine op_assign ?_ | refine op_load ?_ | refine op_load_agg ?_ | refine op_icmp ?_ | refine op_fcmp ?_ | refine op_iarith ?_ | refine op_bcmp ?_ | refine op_extract ?_ | refine op_makeInterface ?_ | refine op_ptr_nil ?_ | refine op_makeMeth ?_ | refine op_makeFunc ?_ | refine op_iquo ?_ | refine op_irem ?_ | refine op_ibits ?_ | refine op_slice_isnil ?_ | refine op_slice_notnil ?_ | refine op_shl ?_ | refine op_shr ?_ | (refine op_alloc ?_; intro _) | (refine op_farith ?_; intro _ _) | refine op_store0 ?_ | refine op_store1 ?_ | refine op_store2 ?_ | refine op_store3 ?_ | refine op_store4 ?_ | refine op_store5 ?_ | refine op_storeK rfl ?_ | refine op_loadK rfl ?_ | refine op_load_aggK rfl ?_ | refine tc_ret ?_ | refine at_seq_ret ?_ | fail)
              | fail
            refine ret_door (m := 3) rfl rfl (.cons (rv_cell rfl) (.cons (rv_cell rfl) (.cons (rv_cell rfl) .nil))) rfl (List.Sublist.refl _) ?_
            exact .inl ⟨hge, av, cv, by rw [← hsub]; rfl, hF.mono ins, ExC.ex⟩
      · refine op_move ?_
        refine ta_two 1 4 (by kernel_rfl) rfl (by decide) rfl (by decide) ?_ ?_
        · refine op_move ?_
          refine ta_two 2 4 (by kernel_rfl) rfl (by decide) rfl (by decide) ?_ ?_
          · (refine op_call ((bufLen kb T a bs.length c _ _ _ (List.mem_cons_of_mem _ (List.mem_append_left _ m1))).mono ?_); rintro _ _ ⟨rfl, rfl⟩)
            refine ta_two10 4 5 (by kernel_rfl) rfl (by decide) rfl ?_ ?_
            · refine op_iface_nilq ?_
              refine ta_only0 5 (by kernel_rfl) rfl ?_
              refine op_storeK rfl ?_
              refine ta_only0 6 (by kernel_rfl) rfl ?_
              refine op_storeK rfl ?_
              refine ta_only0 7 (by kernel_rfl) rfl ?_
              refine op_storeK rfl ?_
              refine ta_done (by kernel_rfl) ?_
              repeat' first
                | (first | refine tl_defer ?_ | refine tc_seq ?_ | refine tc_region ?_ | refine at_seq_normal ?_ | refine tl_nil ?_ | refine tl_cons ?_ | refine tl_cons_none ?_ | refine op_move ?_ | refine op_assign ?_ | refine op_load ?_ | refine op_load_agg ?_ | refine op_icmp ?_ | refine op_fcmp ?_ | refine op_iarith ?_ | refine op_bcmp ?_ | refine op_extract ?_ | refine op_makeInterface ?_ | refine op_ptr_nil ?_ | refine op_makeMeth ?_ | refine op_makeFunc ?_ | refine op_iquo ?_ | refine op_irem ?_ | refine op_ibits ?_ | refine op_slice_isnil ?_ | refine op_slice_notnil ?_ | refine op_shl ?_ | refine op_shr ?_ | (refine op_alloc ?_; intro _) | (refine op_farith ?_; intro _ _) | refine op_store0 ?_ | refine op_store1 ?_ | refine op_store2 ?_ | refine op_store3 ?_ | refine op_store4 ?_ | refine op_store5 ?_ | refine op_storeK rfl ?_ | refine op_loadK rfl ?_ | refine op_load_aggK rfl ?_ | refine tc_ret ?_ | refine at_seq_ret ?_ | fail)
                | fail
              refine ret_door (m := 3) rfl rfl (.cons (rv_cell rfl) (.cons (rv_cell rfl) (.cons (rv_cell rfl) .nil))) rfl (List.Sublist.refl _) ?_
              exact .inl ⟨hge, av, cv, by rw [← hsub]; rfl, hF.mono ins, ExC.ex⟩
            · refine op_storeK rfl ?_
              refine ta_two10 4 6 (by kernel_rfl) rfl (by decide) rfl ?_ ?_
              · refine op_iface_nilq ?_
                refine ta_only0 6 (by kernel_rfl) rfl ?_
                refine op_storeK rfl ?_
                refine ta_only0 7 (by kernel_rfl) rfl ?_
                refine op_storeK rfl ?_
                refine ta_done (by kernel_rfl) ?_
                repeat' first
                  | (first | refine tl_defer ?_ | refine tc_seq ?_ | refine tc_region ?_ | refine at_seq_normal ?_ | refine tl_nil ?_ | refine tl_cons ?_ | refine tl_cons_none ?_ | refine op_move ?_ | refine op_assign ?_ | refine op_load ?_ | refine op_load_agg ?_ | refine op_icmp ?_ | refine op_fcmp ?_ | refine op_iarith ?_ | refine op_bcmp ?_ | refine op_extract ?_ | refine op_makeInterface ?_ | refine op_ptr_nil ?_ | refine op_makeMeth ?_ | refine op_makeFunc ?_ | refine op_iquo ?_ | refine op_irem ?_ | refine op_ibits ?_ | refine op_slice_isnil ?_ | refine op_slice_notnil ?_ | refine op_shl ?_ | refine op_shr ?_ | (refine op_alloc ?_; intro _) | (refine op_farith ?_; intro _ _) | refine op_store0 ?_ | refine op_store1 ?_ | refine op_store2 ?_ | refine op_store3 ?_ | refine op_store4 ?_ | refine op_store5 ?_ | refine op_storeK rfl ?_ | refine op_loadK rfl ?_ | refine op_load_aggK rfl ?_ | refine tc_ret ?_ | refine at_seq_ret ?_ | fail)
                  | fail
                refine ret_door (m := 3) rfl rfl (.cons (rv_cell rfl) (.cons (rv_cell rfl) (.cons (rv_cell rfl) .nil))) rfl (List.Sublist.refl _) ?_
                exact .inl ⟨hge, av, cv, by rw [← hsub]; rfl, hF.mono ins, ExC.ex⟩
              · refine op_storeK rfl ?_
                refine ta_only 4 (by kernel_rfl) rfl (by decide) ?_
                refine op_iface_nilq ?_
                refine ta_only0 7 (by kernel_rfl) rfl ?_
                refine op_storeK rfl ?_
                refine ta_done (by kernel_rfl) ?_
                repeat' first
                  | (first | refine tl_defer ?_ | refine tc_seq ?_ | refine tc_region ?_ | refine at_seq_normal ?_ | refine tl_nil ?_ | refine tl_cons ?_ | refine tl_cons_none ?_ | refine op_move ?_ | refine op_assign ?_ | refine op_load ?_ | refine op_load_agg ?_ | refine op_icmp ?_ | refine op_fcmp ?_ | refine op_iarith ?_ | refine op_bcmp ?_ | refine op_extract ?_ | refine op_makeInterface ?_ | refine op_ptr_nil ?_ | refine op_makeMeth ?_ | refine op_makeFunc ?_ | refine op_iquo ?_ | refine op_irem ?_ | refine op_ibits ?_ | refine op_slice_isnil ?_ | refine op_slice_notnil ?_ | refine op_shl ?_ | refine op_shr ?_ | (refine op_alloc ?_; intro _) | (refine op_farith ?_; intro _ _) | refine op_store0 ?_ | refine op_store1 ?_ | refine op_store2 ?_ | refine op_store3 ?_ | refine op_store4 ?_ | refine op_store5 ?_ | refine op_storeK rfl ?_ | refine op_loadK rfl ?_ | refine op_load_aggK rfl ?_ | refine tc_ret ?_ | refine at_seq_ret ?_ | fail)
                  | fail
                refine ret_door (m := 3) rfl rfl (.cons (rv_cell rfl) (.cons (rv_cell rfl) (.cons (rv_cell rfl) .nil))) rfl (List.Sublist.refl _) ?_
                exact .inl ⟨hge, av, cv, by rw [← hsub]; rfl, hF.mono ins, ExC.ex⟩
          · refine op_iface_nilq ?_
            refine ta_only 2 (by kernel_rfl) rfl (by decide) ?_
            (refine op_call ((bufLen kb T a bs.length c _ _ _ (List.mem_cons_of_mem _ (List.mem_append_left _ m1))).mono ?_); rintro _ _ ⟨rfl, rfl⟩)
            refine ta_only0 5 (by kernel_rfl) rfl ?_
            refine op_storeK rfl ?_
            refine ta_only0 6 (by kernel_rfl) rfl ?_
            refine op_storeK rfl ?_
            refine ta_only0 7 (by kernel_rfl) rfl ?_
            refine op_storeK rfl ?_
            refine ta_done (by kernel_rfl) ?_
            repeat' first
              | (first | refine tl_defer ?_ | refine tc_seq ?_ | refine tc_region ?_ | refine at_seq_normal ?_ | refine tl_nil ?_ | refine tl_cons ?_ | refine tl_cons_none ?_ | refine op_move ?_ | refine op_assign ?_ | refine op_load ?_ | refine op_load_agg ?_ | refine op_icmp ?_ | refine op_fcmp ?_ | refine op_iarith ?_ | refine op_bcmp ?_ | refine op_extract ?_ | refine op_makeInterface ?_ | refine op_ptr_nil ?_ | refine op_makeMeth ?_ | refine op_makeFunc ?_ | refine op_iquo ?_ | refine op_irem ?_ | refine op_ibits ?_ | refine op_slice_isnil ?_ | refine op_slice_notnil ?_ | refine op_shl ?_ | refine op_shr ?_ | (refine op_alloc ?_; intro _) | (refine op_farith ?_; intro _ _) | refine op_store0 ?_ | refine op_store1 ?_ | refine op_store2 ?_ | refine op_store3 ?_ | refine op_store4 ?_ | refine op_store5 ?_ | refine op_storeK rfl ?_ | refine op_loadK rfl ?_ | refine op_load_aggK rfl ?_ | refine tc_ret ?_ | refine at_seq_ret ?_ | fail)
              | fail
            refine ret_door (m := 3) rfl rfl (.cons (rv_cell rfl) (.cons (rv_cell rfl) (.cons (rv_cell rfl) .nil))) rfl (List.Sublist.refl _) ?_
            exact .inl ⟨hge, av, cv, by rw [← hsub]; rfl, hF.mono ins, ExC.ex⟩
        · refine op_iface_nilq ?_
          refine ta_only 1 (by kernel_rfl) rfl (by decide) ?_
          refine op_move ?_
          refine ta_only 2 (by kernel_rfl) rfl (by decide) ?_
          (refine op_call ((bufLen kb T a bs.length c _ _ _ (List.mem_cons_of_mem _ (List.mem_append_left _ m1))).mono ?_); rintro _ _ ⟨rfl, rfl⟩)
          refine ta_only0 5 (by kernel_rfl) rfl ?_
          refine op_storeK rfl ?_
          refine ta_only0 6 (by kernel_rfl) rfl ?_
          refine op_storeK rfl ?_
          refine ta_only0 7 (by kernel_rfl) rfl ?_
          refine op_storeK rfl ?_
          refine ta_done (by kernel_rfl) ?_
          repeat' first
            | (first | refine tl_defer ?_ | refine tc_seq ?_ | refine tc_region ?_ | refine at_seq_normal ?_ | refine tl_nil ?_ | refine tl_cons ?_ | refine tl_cons_none ?_ | refine op_move ?_ | refine op_assign ?_ | refine op_load ?_ | refine op_load_agg ?_ | refine op_icmp ?_ | refine op_fcmp ?_ | refine op_iarith ?_ | refine op_bcmp ?_ | refine op_extract ?_ | refine op_makeInterface ?_ | refine op_ptr_nil ?_ | refine op_makeMeth ?_ | refine op_makeFunc ?_ | refine op_iquo ?_ | refine op_irem ?_ | refine op_ibits ?_ | refine op_slice_isnil ?_ | refine op_slice_notnil ?_ | refine op_shl ?_ | refine op_shr ?_ | (refine op_alloc ?_; intro _) | (refine op_farith ?_; intro _ _) | refine op_store0 ?_ | refine op_store1 ?_ | refine op_store2 ?_ | refine op_store3 ?_ | refine op_store4 ?_ | refine op_store5 ?_ | refine op_storeK rfl ?_ | refine op_loadK rfl ?_ | refine op_load_aggK rfl ?_ | refine tc_ret ?_ | refine at_seq_ret ?_ | fail)
            | fail
          refine ret_door (m := 3) rfl rfl (.cons (rv_cell rfl) (.cons (rv_cell rfl) (.cons (rv_cell rfl) .nil))) rfl (List.Sublist.refl _) ?_
          exact .inl ⟨hge, av, cv, by rw [← hsub]; rfl, hF.mono ins, ExC.ex⟩
    · refine op_move ?_
      refine ta_three 0 2 3 (by kernel_rfl) rfl (by decide) rfl (by decide) rfl (by decide) ?_ ?_ ?_
      · refine op_loadK rfl ?_
        refine ta_two 2 3 (by kernel_rfl) rfl (by decide) rfl (by decide) ?_ ?_
        · (refine op_call ((bufLen kb T a bs.length c _ _ _ (List.mem_cons_of_mem _ (List.mem_append_left _ m1))).mono ?_); rintro _ _ ⟨rfl, rfl⟩)
          refine ta_two10 3 5 (by kernel_rfl) rfl (by decide) rfl ?_ ?_
          · refine op_move ?_
            refine ta_two10 4 5 (by kernel_rfl) rfl (by decide) rfl ?_ ?_
            · refine op_iface_nilq ?_
              refine ta_only0 5 (by kernel_rfl) rfl ?_
              refine op_storeK rfl ?_
              refine ta_only0 6 (by kernel_rfl) rfl ?_
              refine op_storeK rfl ?_
              refine ta_only0 7 (by kernel_rfl) rfl ?_
              refine op_storeK rfl ?_
              refine ta_done (by kernel_rfl) ?_
              repeat' first
                | (first | refine tl_defer ?_ | refine tc_seq ?_ | refine tc_region ?_ | refine at_seq_normal ?_ | refine tl_nil ?_ | refine tl_cons ?_ | refine tl_cons_none ?_ | refine op_move ?_ | refine op_assign ?_ | refine op_load ?_ | refine op_load_agg ?_ | refine op_icmp ?_ | refine op_fcmp ?_ | refine op_iarith ?_ | refine op_bcmp ?_ | refine op_extract ?_ | refine op_makeInterface ?_ | refine op_ptr_nil ?_ | refine op_makeMeth ?_ | refine op_makeFunc ?_ | refine op_iquo ?_ | refine op_irem ?_ | refine op_ibits ?_ | refine op_slice_isnil ?_ | refine op_slice_notnil ?_ | refine op_shl ?_ | refine op_shr ?_ | (refine op_alloc ?_; intro _) | (refine op_farith ?_; intro _ _) | refine op_store0 ?_ | refine op_store1 ?_ | refine op_store2 ?_ | refine op_store3 ?_ | refine op_store4 ?_ | refine op_store5 ?_ | refine op_storeK rfl ?_ | refine op_loadK rfl ?_ | refine op_load_aggK rfl ?_ | refine tc_ret ?_ | refine at_seq_ret ?_ | fail)
                | fail
              refine ret_door (m := 3) rfl rfl (.cons (rv_cell rfl) (.cons (rv_cell rfl) (.cons (rv_cell rfl) .nil))) rfl (List.Sublist.refl _) ?_
              exact .inl ⟨hge, av, cv, by rw [← hsub]; rfl, hF.mono ins, ExC.ex⟩
            · refine op_storeK rfl ?_
              refine ta_two10 4 6 (by kernel_rfl) rfl (by decide) rfl ?_ ?_
              · refine op_iface_nilq ?_
                refine ta_only0 6 (by kernel_rfl) rfl ?_
                refine op_storeK rfl ?_
                refine ta_only0 7 (by kernel_rfl) rfl ?_
                refine op_storeK rfl ?_
                refine ta_done (by kernel_rfl) ?_
                repeat' first
                  | (first | refine tl_defer ?_ | refine tc_seq ?_ | refine tc_region ?_ | refine at_seq_normal ?_ | refine tl_nil ?_ | refine tl_cons ?_ | refine tl_cons_none ?_ | refine op_move ?_ | refine op_assign ?_ | refine op_load ?_ | refine op_load_agg ?_ | refine op_icmp ?_ | refine op_fcmp ?_ | refine op_iarith ?_ | refine op_bcmp ?_ | refine op_extract ?_ | refine op_makeInterface ?_ | refine op_ptr_nil ?_ | refine op_makeMeth ?_ | refine op_makeFunc ?_ | refine op_iquo ?_ | refine op_irem ?_ | refine op_ibits ?_ | refine op_slice_isnil ?_ | refine op_slice_notnil ?_ | refine op_shl ?_ | refine op_shr ?_ | (refine op_alloc ?_; intro _) | (refine op_farith ?_; intro _ _) | refine op_store0 ?_ | refine op_store1 ?_ | refine op_store2 ?_ | refine op_store3 ?_ | refine op_store4 ?_ | refine op_store5 ?_ | refine op_storeK rfl ?_ | refine op_loadK rfl ?_ | refine op_load_aggK rfl ?_ | refine tc_ret ?_ | refine at_seq_ret ?_ | fail)
                  | fail
                refine ret_door (m := 3) rfl rfl (.cons (rv_cell rfl) (.cons (rv_cell rfl) (.cons (rv_cell rfl) .nil))) rfl (List.Sublist.refl _) ?_
                exact .inl ⟨hge, av, cv, by rw [← hsub]; rfl, hF.mono ins, ExC.ex⟩
              · refine op_storeK rfl ?_
                refine ta_only 4 (by kernel_rfl) rfl (by decide) ?_
                refine op_iface_nilq ?_
                refine ta_only0 7 (by kernel_rfl) rfl ?_
                refine op_storeK rfl ?_
                refine ta_done (by kernel_rfl) ?_
                repeat' first
                  | (first | refine tl_defer ?_ | refine tc_seq ?_ | refine tc_region ?_ | refine at_seq_normal ?_ | refine tl_nil ?_ | refine tl_cons ?_ | refine tl_cons_none ?_ | refine op_move ?_ | refine op_assign ?_ | refine op_load ?_ | refine op_load_agg ?_ | refine op_icmp ?_ | refine op_fcmp ?_ | refine op_iarith ?_ | refine op_bcmp ?_ | refine op_extract ?_ | refine op_makeInterface ?_ | refine op_ptr_nil ?_ | refine op_makeMeth ?_ | refine op_makeFunc ?_ | refine op_iquo ?_ | refine op_irem ?_ | refine op_ibits ?_ | refine op_slice_isnil ?_ | refine op_slice_notnil ?_ | refine op_shl ?_ | refine op_shr ?_ | (refine op_alloc ?_; intro _) | (refine op_farith ?_; intro _ _) | refine op_store0 ?_ | refine op_store1 ?_ | refine op_store2 ?_ | refine op_store3 ?_ | refine op_store4 ?_ | refine op_store5 ?_ | refine op_storeK rfl ?_ | refine op_loadK rfl ?_ | refine op_load_aggK rfl ?_ | refine tc_ret ?_ | refine at_seq_ret ?_ | fail)
                  | fail
                refine ret_door (m := 3) rfl rfl (.cons (rv_cell rfl) (.cons (rv_cell rfl) (.cons (rv_cell rfl) .nil))) rfl (List.Sublist.refl _) ?_
                exact .inl ⟨hge, av, cv, by rw [← hsub]; rfl, hF.mono ins, ExC.ex⟩
          · refine op_storeK rfl ?_
            refine ta_two10 3 6 (by kernel_rfl) rfl (by decide) rfl ?_ ?_
            · refine op_move ?_
              refine ta_two10 4 6 (by kernel_rfl) rfl (by decide) rfl ?_ ?_
              · refine op_iface_nilq ?_
                refine ta_only0 6 (by kernel_rfl) rfl ?_
                refine op_storeK rfl ?_
                refine ta_only0 7 (by kernel_rfl) rfl ?_
                refine op_storeK rfl ?_
                refine ta_done (by kernel_rfl) ?_
                repeat' first
                  | (first | refine tl_defer ?_ | refine tc_seq ?_ | refine tc_region ?_ | refine at_seq_normal ?_ | refine tl_nil ?_ | refine tl_cons ?_ | refine tl_cons_none ?_ | refine op_move ?_ | refine op_assign ?_ | refine op_load ?_ | refine op_load_agg ?_ | refine op_icmp ?_ | refine op_fcmp ?_ | refine op_iarith ?_ | refine op_bcmp ?_ | refine op_extract ?_ | refine op_makeInterface ?_ | refine op_ptr_nil ?_ | refine op_makeMeth ?_ | refine op_makeFunc ?_ | refine op_iquo ?_ | refine op_irem ?_ | refine op_ibits ?_ | refine op_slice_isnil ?_ | refine op_slice_notnil ?_ | refine op_shl ?_ | refine op_shr ?_ | (refine op_alloc ?_; intro _) | (refine op_farith ?_; intro _ _) | refine op_store0 ?_ | refine op_store1 ?_ | refine op_store2 ?_ | refine op_store3 ?_ | refine op_store4 ?_ | refine op_store5 ?_ | refine op_storeK rfl ?_ | refine op_loadK rfl ?_ | refine op_load_aggK rfl ?_ | refine tc_ret ?_ | refine at_seq_ret ?_ | fail)
                  | fail
                refine ret_door (m := 3) rfl rfl (.cons (rv_cell rfl) (.cons (rv_cell rfl) (.cons (rv_cell rfl) .nil))) rfl (List.Sublist.refl _) ?_
                exact .inl ⟨hge, av, cv, by rw [← hsub]; rfl, hF.mono ins, ExC.ex⟩
              · refine op_storeK rfl ?_
                refine ta_only 4 (by kernel_rfl) rfl (by decide) ?_
                refine op_iface_nilq ?_
                refine ta_only0 7 (by kernel_rfl) rfl ?_
                refine op_storeK rfl ?_
                refine ta_done (by kernel_rfl) ?_
                repeat' first
                  | (first | refine tl_defer ?_ | refine tc_seq ?_ | refine tc_region ?_ | refine at_seq_normal ?_ | refine tl_nil ?_ | refine tl_cons ?_ | refine tl_cons_none ?_ | refine op_move ?_ | refine op_assign ?_ | refine op_load ?_ | refine op_load_agg ?_ | refine op_icmp ?_ | refine op_fcmp ?_ | refine op_iarith ?_ | refine op_bcmp ?_ | refine op_extract ?_ | refine op_makeInterface ?_ | refine op_ptr_nil ?_ | refine op_makeMeth ?_ | refine op_makeFunc ?_ | refine op_iquo ?_ | refine op_irem ?_ | refine op_ibits ?_ | refine op_slice_isnil ?_ | refine op_slice_notnil ?_ | refine op_shl ?_ | refine op_shr ?_ | (refine op_alloc ?_; intro _) | (refine op_farith ?_; intro _ _) | refine op_store0 ?_ | refine op_store1 ?_ | refine op_store2 ?_ | refine op_store3 ?_ | refine op_store4 ?_ | refine op_store5 ?_ | refine op_storeK rfl ?_ | refine op_loadK rfl ?_ | refine op_load_aggK rfl ?_ | refine tc_ret ?_ | refine at_seq_ret ?_ | fail)
                  | fail
                refine ret_door (m := 3) rfl rfl (.cons (rv_cell rfl) (.cons (rv_cell rfl) (.cons (rv_cell rfl) .nil))) rfl (List.Sublist.refl _) ?_
                exact .inl ⟨hge, av, cv, by rw [← hsub]; rfl, hF.mono ins, ExC.ex⟩
            · refine op_storeK rfl ?_
              refine ta_only 3 (by kernel_rfl) rfl (by decide) ?_
              refine op_move ?_
              refine ta_only 4 (by kernel_rfl) rfl (by decide) ?_
              refine op_iface_nilq ?_
              refine ta_only0 7 (by kernel_rfl) rfl ?_
              refine op_storeK rfl ?_
              refine ta_done (by kernel_rfl) ?_
              repeat' first
                | (first | refine tl_defer ?_ | refine tc_seq ?_ | refine tc_region ?_ | refine at_seq_normal ?_ | refine tl_nil ?_ | refine tl_cons ?_ | refine tl_cons_none ?_ | refine op_move ?_ | refine op_assign ?_ | refine op_load ?_ | refine op_load_agg ?_ | refine op_icmp ?_ | refine op_fcmp ?_ | refine op_iarith ?_ | refine op_bcmp ?_ | refine op_extract ?_ | refine op_makeInterface ?_ | refine op_ptr_nil ?_ | refine op_makeMeth ?_ | refine op_makeFunc ?_ | refine op_iquo ?_ | refine op_irem ?_ | refine op_ibits ?_ | refine op_slice_isnil ?_ | refine op_slice_notnil ?_ | refine op_shl ?_ | refine op_shr ?_ | (refine op_alloc ?_; intro _) | (refine op_farith ?_; intro _ _) | refine op_store0 ?_ | refine op_store1 ?_ | refine op_store2 ?_ | refine op_store3 ?_ | refine op_store4 ?_ | refine op_store5 ?_ | refine op_storeK rfl ?_ | refine op_loadK rfl ?_ | refine op_load_aggK rfl ?_ | refine tc_ret ?_ | refine at_seq_ret ?_ | fail)
                | fail
              refine ret_door (m := 3) rfl rfl (.cons (rv_cell rfl) (.cons (rv_cell rfl) (.cons (rv_cell rfl) .nil))) rfl (List.Sublist.refl _) ?_
              exact .inl ⟨hge, av, cv, by rw [← hsub]; rfl, hF.mono ins, ExC.ex⟩
        · refine op_move ?_
          refine ta_two 2 4 (by kernel_rfl) rfl (by decide) rfl (by decide) ?_ ?_
          · (refine op_call ((bufLen kb T a bs.length c _ _ _ (List.mem_cons_of_mem _ (List.mem_append_left _ m1))).mono ?_); rintro _ _ ⟨rfl, rfl⟩)
            refine ta_two10 4 5 (by kernel_rfl) rfl (by decide) rfl ?_ ?_
            · refine op_iface_nilq ?_
              refine ta_only0 5 (by kernel_rfl) rfl ?_
              refine op_storeK rfl ?_
              refine ta_only0 6 (by kernel_rfl) rfl ?_
              refine op_storeK rfl ?_
              refine ta_only0 7 (by kernel_rfl) rfl ?_
              refine op_storeK rfl ?_
              refine ta_done (by kernel_rfl) ?_
              repeat' first
                | (first | refine tl_defer ?_ | refine tc_seq ?_ | refine tc_region ?_ | refine at_seq_normal ?_ | refine tl_nil ?_ | refine tl_cons ?_ | refine tl_cons_none ?_ | refine op_move ?_ | refine op_assign ?_ | refine op_load ?_ | refine op_load_agg ?_ | refine op_icmp ?_ | refine op_fcmp ?_ | refine op_iarith ?_ | refine op_bcmp ?_ | refine op_extract ?_ | refine op_makeInterface ?_ | refine op_ptr_nil ?_ | refine op_makeMeth ?_ | refine op_makeFunc ?_ | refine op_iquo ?_ | refine op_irem ?_ | refine op_ibits ?_ | refine op_slice_isnil ?_ | refine op_slice_notnil ?_ | refine op_shl ?_ | refine op_shr ?_ | (refine op_alloc ?_; intro _) | (refine op_farith ?_; intro _ _) | refine op_store0 ?_ | refine op_store1 ?_ | refine op_store2 ?_ | refine op_store3 ?_ | refine op_store4 ?_ | refine op_store5 ?_ | refine op_storeK rfl ?_ | refine op_loadK rfl ?_ | refine op_load_aggK rfl ?_ | refine tc_ret ?_ | refine at_seq_ret ?_ | fail)
                | fail
              refine ret_door (m := 3) rfl rfl (.cons (rv_cell rfl) (.cons (rv_cell rfl) (.cons (rv_cell rfl) .nil))) rfl (List.Sublist.refl _) ?_
              exact .inl ⟨hge, av, cv, by rw [← hsub]; rfl, hF.mono ins, ExC.ex⟩
            · refine op_storeK rfl ?_
              refine ta_two10 4 6 (by kernel_rfl) rfl (by decide) rfl ?_ ?_
              · refine op_iface_nilq ?_
                refine ta_only0 6 (by kernel_rfl) rfl ?_
                refine op_storeK rfl ?_
                refine ta_only0 7 (by kernel_rfl) rfl ?_
                refine op_storeK rfl ?_
                refine ta_done (by kernel_rfl) ?_
                repeat' first
                  | (first | refine tl_defer ?_ | refine tc_seq ?_ | refine tc_region ?_ | refine at_seq_normal ?_ | refine tl_nil ?_ | refine tl_cons ?_ | refine tl_cons_none ?_ | refine op_move ?_ | refine op_assign ?_ | refine op_load ?_ | refine op_load_agg ?_ | refine op_icmp ?_ | refine op_fcmp ?_ | refine op_iarith ?_ | refine op_bcmp ?_ | refine op_extract ?_ | refine op_makeInterface ?_ | refine op_ptr_nil ?_ | refine op_makeMeth ?_ | refine op_makeFunc ?_ | refine op_iquo ?_ | refine op_irem ?_ | refine op_ibits ?_ | refine op_slice_isnil ?_ | refine op_slice_notnil ?_ | refine op_shl ?_ | refine op_shr ?_ | (refine op_alloc ?_; intro _) | (refine op_farith ?_; intro _ _) | refine op_store0 ?_ | refine op_store1 ?_ | refine op_store2 ?_ | refine op_store3 ?_ | refine op_store4 ?_ | refine op_store5 ?_ | refine op_storeK rfl ?_ | refine op_loadK rfl ?_ | refine op_load_aggK rfl ?_ | refine tc_ret ?_ | refine at_seq_ret ?_ | fail)
                  | fail
                refine ret_door (m := 3) rfl rfl (.cons (rv_cell rfl) (.cons (rv_cell rfl) (.cons (rv_cell rfl) .nil))) rfl (List.Sublist.refl _) ?_
                exact .inl ⟨hge, av, cv, by rw [← hsub]; rfl, hF.mono ins, ExC.ex⟩
              · refine op_storeK rfl ?_
                refine ta_only 4 (by kernel_rfl) rfl (by decide) ?_
                refine op_iface_nilq ?_
                refine ta_only0 7 (by kernel_rfl) rfl ?_
                refine op_storeK rfl ?_
                refine ta_done (by kernel_rfl) ?_
                repeat' first
                  | (first | refine tl_defer ?_ | refine tc_seq ?_ | refine tc_region ?_ | refine at_seq_normal ?_ | refine tl_nil ?_ | refine tl_cons ?_ | refine tl_cons_none ?_ | refine op_move ?_ | refine op_assign ?_ | refine op_load ?_ | refine op_load_agg ?_ | refine op_icmp ?_ | refine op_fcmp ?_ | refine op_iarith ?_ | refine op_bcmp ?_ | refine op_extract ?_ | refine op_makeInterface ?_ | refine op_ptr_nil ?_ | refine op_makeMeth ?_ | refine op_makeFunc ?_ | refine op_iquo ?_ | refine op_irem ?_ | refine op_ibits ?_ | refine op_slice_isnil ?_ | refine op_slice_notnil ?_ | refine op_shl ?_ | refine op_shr ?_ | (refine op_alloc ?_; intro _) | (refine op_farith ?_; intro _ _) | refine op_store0 ?_ | refine op_store1 ?_ | refine op_store2 ?_ | refine op_store3 ?_ | refine op_store4 ?_ | refine op_store5 ?_ | refine op_storeK rfl ?_ | refine op_loadK rfl ?_ | refine op_load_aggK rfl ?_ | refine tc_ret ?_ | refine at_seq_ret ?_ | fail)
                  | fail
                refine ret_door (m := 3) rfl rfl (.cons (rv_cell rfl) (.cons (rv_cell rfl) (.cons (rv_cell rfl) .nil))) rfl (List.Sublist.refl _) ?_
                exact .inl ⟨hge, av, cv, by rw [← hsub]; rfl, hF.mono ins, ExC.ex⟩
          · refine op_iface_nilq ?_
            refine ta_only 2 (by kernel_rfl) rfl (by decide) ?_
            (refine op_call ((bufLen kb T a bs.length c _ _ _ (List.mem_cons_of_mem _ (List.mem_append_left _ m1))).mono ?_); rintro _ _ ⟨rfl, rfl⟩)
            refine ta_only0 5 (by kernel_rfl) rfl ?_
            refine op_storeK rfl ?_
            refine ta_only0 6 (by kernel_rfl) rfl ?_
            refine op_storeK rfl ?_
            refine ta_only0 7 (by kernel_rfl) rfl ?_
            refine op_storeK rfl ?_
            refine ta_done (by kernel_rfl) ?_
            repeat' first
              | (first | refine tl_defer ?_ | refine tc_seq ?_ | refine tc_region ?_ | refine at_seq_normal ?_ | refine tl_nil ?_ | refine tl_cons ?_ | refine tl_cons_none ?_ | refine op_move ?_ | refine op_assign ?_ | refine op_load ?_ | refine op_load_agg ?_ | refine op_icmp ?_ | refine op_fcmp ?_ | refine op_iarith ?_ | refine op_bcmp ?_ | refine op_extract ?_ | refine op_makeInterface ?_ | refine op_ptr_nil ?_ | refine op_makeMeth ?_ | refine op_makeFunc ?_ | refine op_iquo ?_ | refine op_irem ?_ | refine op_ibits ?_ | refine op_slice_isnil ?_ | refine op_slice_notnil ?_ | refine op_shl ?_ | refine op_shr ?_ | (refine op_alloc ?_; intro _) | (refine op_farith ?_; intro _ _) | refine op_store0 ?_ | refine op_store1 ?_ | refine op_store2 ?_ | refine op_store3 ?_ | refine op_store4 ?_ | refine op_store5 ?_ | refine op_storeK rfl ?_ | refine op_loadK rfl ?_ | refine op_load_aggK rfl ?_ | refine tc_ret ?_ | refine at_seq_ret ?_ | fail)
              | fail
            refine ret_door (m := 3) rfl rfl (.cons (rv_cell rfl) (.cons (rv_cell rfl) (.cons (rv_cell rfl) .nil))) rfl (List.Sublist.refl _) ?_
            exact .inl ⟨hge, av, cv, by rw [← hsub]; rfl, hF.mono ins, ExC.ex⟩
      · (refine op_call ((bufLen kb T a bs.length c _ _ _ (List.mem_cons_of_mem _ (List.mem_append_left _ m1))).mono ?_); rintro _ _ ⟨rfl, rfl⟩)
        refine ta_two 0 3 (by kernel_rfl) rfl (by decide) rfl (by decide) ?_ ?_
        · refine op_loadK rfl ?_
          refine ta_two10 3 5 (by kernel_rfl) rfl (by decide) rfl ?_ ?_
          · refine op_move ?_
            refine ta_two10 4 5 (by kernel_rfl) rfl (by decide) rfl ?_ ?_
            · refine op_iface_nilq ?_
              refine ta_only0 5 (by kernel_rfl) rfl ?_
              refine op_storeK rfl ?_
              refine ta_only0 6 (by kernel_rfl) rfl ?_
              refine op_storeK rfl ?_
              refine ta_only0 7 (by kernel_rfl) rfl ?_
              refine op_storeK rfl ?_
              refine ta_done (by kernel_rfl) ?_
              repeat' first
                | (first | refine tl_defer ?_ | refine tc_seq ?_ | refine tc_region ?_ | refine at_seq_normal ?_ | refine tl_nil ?_ | refine tl_cons ?_ | refine tl_cons_none ?_ | refine op_move ?_ | refine op_assign ?_ | refine op_load ?_ | refine op_load_agg ?_ | refine op_icmp ?_ | refine op_fcmp ?_ | refine op_iarith ?_ | refine op_bcmp ?_ | refine op_extract ?_ | refine op_makeInterface ?_ | refine op_ptr_nil ?_ | refine op_makeMeth ?_ | refine op_makeFunc ?_ | refine op_iquo ?_ | refine op_irem ?_ | refine op_ibits ?_ | refine op_slice_isnil ?_ | refine op_slice_notnil ?_ | refine op_shl ?_ | refine op_shr ?_ | (refine op_alloc ?_; intro _) | (refine op_farith ?_; intro _ _) | refine op_store0 ?_ | refine op_store1 ?_ | refine op_store2 ?_ | refine op_store3 ?_ | refine op_store4 ?_ | refine op_store5 ?_ | refine op_storeK rfl ?_ | refine op_loadK rfl ?_ | refine op_load_aggK rfl ?_ | refine tc_ret ?_ | refine at_seq_ret ?_ | fail)
                | fail
              refine ret_door (m := 3) rfl rfl (.cons (rv_cell rfl) (.cons (rv_cell rfl) (.cons (rv_cell rfl) .nil))) rfl (List.Sublist.refl _) ?_
              exact .inl ⟨hge, av, cv, by rw [← hsub]; rfl, hF.mono ins, ExC.ex⟩
            · refine op_storeK rfl ?_
              refine ta_two10 4 6 (by kernel_rfl) rfl (by decide) rfl ?_ ?_
              · refine op_iface_nilq ?_
                refine ta_only0 6 (by kernel_rfl) rfl ?_
                refine op_storeK rfl ?_
                refine ta_only0 7 (by kernel_rfl) rfl ?_
                refine op_storeK rfl ?_
                refine ta_done (by kernel_rfl) ?_
                repeat' first
                  | (first | refine tl_defer ?_ | refine tc_seq ?_ | refine tc_region ?_ | refine at_seq_normal ?_ | refine tl_nil ?_ | refine tl_cons ?_ | refine tl_cons_none ?_ | refine op_move ?_ | refine op_assign ?_ | refine op_load ?_ | refine op_load_agg ?_ | refine op_icmp ?_ | refine op_fcmp ?_ | refine op_iarith ?_ | refine op_bcmp ?_ | refine op_extract ?_ | refine op_makeInterface ?_ | refine op_ptr_nil ?_ | refine op_makeMeth ?_ | refine op_makeFunc ?_ | refine op_iquo ?_ | refine op_irem ?_ | refine op_ibits ?_ | refine op_slice_isnil ?_ | refine op_slice_notnil ?_ | refine op_shl ?_ | refine op_shr ?_ | (refine op_alloc ?_; intro _) | (refine op_farith ?_; intro _ _) | refine op_store0 ?_ | refine op_store1 ?_ | refine op_store2 ?_ | refine op_store3 ?_ | refine op_store4 ?_ | refine op_store5 ?_ | refine op_storeK rfl ?_ | refine op_loadK rfl ?_ | refine op_load_aggK rfl ?_ | refine tc_ret ?_ | refine at_seq_ret ?_ | fail)
                  | fail
                refine ret_door (m := 3) rfl rfl (.cons (rv_cell rfl) (.cons (rv_cell rfl) (.cons (rv_cell rfl) .nil))) rfl (List.Sublist.refl _) ?_
                exact .inl ⟨hge, av, cv, by rw [← hsub]; rfl, hF.mono ins, ExC.ex⟩
              · refine op_storeK rfl ?_
                refine ta_only 4 (by kernel_rfl) rfl (by decide) ?_
                refine op_iface_nilq ?_
                refine ta_only0 7 (by kernel_rfl) rfl ?_
                refine op_storeK rfl ?_
                refine ta_done (by kernel_rfl) ?_
                repeat' first
                  | (first | refine tl_defer ?_ | refine tc_seq ?_ | refine tc_region ?_ | refine at_seq_normal ?_ | refine tl_nil ?_ | refine tl_cons ?_ | refine tl_cons_none ?_ | refine op_move ?_ | refine op_assign ?_ | refine op_load ?_ | refine op_load_agg ?_ | refine op_icmp ?_ | refine op_fcmp ?_ | refine op_iarith ?_ | refine op_bcmp ?_ | refine op_extract ?_ | refine op_makeInterface ?_ | refine op_ptr_nil ?_ | refine op_makeMeth ?_ | refine op_makeFunc ?_ | refine op_iquo ?_ | refine op_irem ?_ | refine op_ibits ?_ | refine op_slice_isnil ?_ | refine op_slice_notnil ?_ | refine op_shl ?_ | refine op_shr ?_ | (refine op_alloc ?_; intro _) | (refine op_farith ?_; intro _ _) | refine op_store0 ?_ | refine op_store1 ?_ | refine op_store2 ?_ | refine op_store3 ?_ | refine op_store4 ?_ | refine op_store5 ?_ | refine op_storeK rfl ?_ | refine op_loadK rfl ?_ | refine op_load_aggK rfl ?_ | refine tc_ret ?_ | refine at_seq_ret ?_ | fail)
                  | fail
                refine ret_door (m := 3) rfl rfl (.cons (rv_cell rfl) (.cons (rv_cell rfl) (.cons (rv_cell rfl) .nil))) rfl (List.Sublist.refl _) ?_
                exact .inl ⟨hge, av, cv, by rw [← hsub]; rfl, hF.mono ins, ExC.ex⟩
          · refine op_storeK rfl ?_
            refine ta_two10 3 6 (by kernel_rfl) rfl (by decide) rfl ?_ ?_
            · refine op_move ?_
              refine ta_two10 4 6 (by kernel_rfl) rfl (by decide) rfl ?_ ?_
              · refine op_iface_nilq ?_
                refine ta_only0 6 (by kernel_rfl) rfl ?_
                refine op_storeK rfl ?_
                refine ta_only0 7 (by kernel_rfl) rfl ?_
                refine op_storeK rfl ?_
                refine ta_done (by kernel_rfl) ?_
                repeat' first
                  | (first | refine tl_defer ?_ | refine tc_seq ?_ | refine tc_region ?_ | refine at_seq_normal ?_ | refine tl_nil ?_ | refine tl_cons ?_ | refine tl_cons_none ?_ | refine op_move ?_ | refine op_assign ?_ | refine op_load ?_ | refine op_load_agg ?_ | refine op_icmp ?_ | refine op_fcmp ?_ | refine op_iarith ?_ | refine op_bcmp ?_ | refine op_extract ?_ | refine op_makeInterface ?_ | refine op_ptr_nil ?_ | refine op_makeMeth ?_ | refine op_makeFunc ?_ | refine op_iquo ?_ | refine op_irem ?_ | refine op_ibits ?_ | refine op_slice_isnil ?_ | refine op_slice_notnil ?_ | refine op_shl ?_ | refine op_shr ?_ | (refine op_alloc ?_; intro _) | (refine op_farith ?_; intro _ _) | refine op_store0 ?_ | refine op_store1 ?_ | refine op_store2 ?_ | refine op_store3 ?_ | refine op_store4 ?_ | refine op_store5 ?_ | refine op_storeK rfl ?_ | refine op_loadK rfl ?_ | refine op_load_aggK rfl ?_ | refine tc_ret ?_ | refine at_seq_ret ?_ | fail)
                  | fail
                refine ret_door (m := 3) rfl rfl (.cons (rv_cell rfl) (.cons (rv_cell rfl) (.cons (rv_cell rfl) .nil))) rfl (List.Sublist.refl _) ?_
                exact .inl ⟨hge, av, cv, by rw [← hsub]; rfl, hF.mono ins, ExC.ex⟩
              · refine op_storeK rfl ?_
                refine ta_only 4 (by kernel_rfl) rfl (by decide) ?_
                refine op_iface_nilq ?_
                refine ta_only0 7 (by kernel_rfl) rfl ?_
                refine op_storeK rfl ?_
                refine ta_done (by kernel_rfl) ?_
                repeat' first
                  | (first | refine tl_defer ?_ | refine tc_seq ?_ | refine tc_region ?_ | refine at_seq_normal ?_ | refine tl_nil ?_ | refine tl_cons ?_ | refine tl_cons_none ?_ | refine op_move ?_ | refine op_assign ?_ | refine op_load ?_ | refine op_load_agg ?_ | refine op_icmp ?_ | refine op_fcmp ?_ | refine op_iarith ?_ | refine op_bcmp ?_ | refine op_extract ?_ | refine op_makeInterface ?_ | refine op_ptr_nil ?_ | refine op_makeMeth ?_ | refine op_makeFunc ?_ | refine op_iquo ?_ | refine op_irem ?_ | refine op_ibits ?_ | refine op_slice_isnil ?_ | refine op_slice_notnil ?_ | refine op_shl ?_ | refine op_shr ?_ | (refine op_alloc ?_; intro _) | (refine op_farith ?_; intro _ _) | refine op_store0 ?_ | refine op_store1 ?_ | refine op_store2 ?_ | refine op_store3 ?_ | refine op_store4 ?_ | refine op_store5 ?_ | refine op_storeK rfl ?_ | refine op_loadK rfl ?_ | refine op_load_aggK rfl ?_ | refine tc_ret ?_ | refine at_seq_ret ?_ | fail)
                  | fail
                refine ret_door (m := 3) rfl rfl (.cons (rv_cell rfl) (.cons (rv_cell rfl) (.cons (rv_cell rfl) .nil))) rfl (List.Sublist.refl _) ?_
                exact .inl ⟨hge, av, cv, by rw [← hsub]; rfl, hF.mono ins, ExC.ex⟩
            · refine op_storeK rfl ?_
              refine ta_only 3 (by kernel_rfl) rfl (by decide) ?_
              refine op_move ?_
              refine ta_only 4 (by kernel_rfl) rfl (by decide) ?_
              refine op_iface_nilq ?_
              refine ta_only0 7 (by kernel_rfl) rfl ?_
              refine op_storeK rfl ?_
              refine ta_done (by kernel_rfl) ?_
              repeat' first
                | (first | refine tl_defer ?_ | refine tc_seq ?_ | refine tc_region ?_ | refine at_seq_normal ?_ | refine tl_nil ?_ | refine tl_cons ?_ | refine tl_cons_none ?_ | refine op_move ?_ | refine op_assign ?_ | refine op_load ?_ | refine op_load_agg ?_ | refine op_icmp ?_ | refine op_fcmp ?_ | refine op_iarith ?_ | refine op_bcmp ?_ | refine op_extract ?_ | refine op_makeInterface ?_ | refine op_ptr_nil ?_ | refine op_makeMeth ?_ | refine op_makeFunc ?_ | refine op_iquo ?_ | refine op_irem ?_ | refine op_ibits ?_ | refine op_slice_isnil ?_ | refine op_slice_notnil ?_ | refine op_shl ?_ | refine op_shr ?_ | (refine op_alloc ?_; intro _) | (refine op_farith ?_; intro _ _) | refine op_store0 ?_ | refine op_store1 ?_ | refine op_store2 ?_ | refine op_store3 ?_ | refine op_store4 ?_ | refine op_store5 ?_ | refine op_storeK rfl ?_ | refine op_loadK rfl ?_ | refine op_load_aggK rfl ?_ | refine tc_ret ?_ | refine at_seq_ret ?_ | fail)
                | fail
              refine ret_door (m := 3) rfl rfl (.cons (rv_cell rfl) (.cons (rv_cell rfl) (.cons (rv_cell rfl) .nil))) rfl (List.Sublist.refl _) ?_
              exact .inl ⟨hge, av, cv, by rw [← hsub]; rfl, hF.mono ins, ExC.ex⟩
        · refine op_move ?_
          refine ta_two 0 4 (by kernel_rfl) rfl (by decide) rfl (by decide) ?_ ?_
          · refine op_loadK rfl ?_
            refine ta_two10 4 5 (by kernel_rfl) rfl (by decide) rfl ?_ ?_
            · refine op_iface_nilq ?_
              refine ta_only0 5 (by kernel_rfl) rfl ?_
              refine op_storeK rfl ?_
              refine ta_only0 6 (by kernel_rfl) rfl ?_
              refine op_storeK rfl ?_
              refine ta_only0 7 (by kernel_rfl) rfl ?_
              refine op_storeK rfl ?_
              refine ta_done (by kernel_rfl) ?_
              repeat' first
                | (first | refine tl_defer ?_ | refine tc_seq ?_ | refine tc_region ?_ | refine at_seq_normal ?_ | refine tl_nil ?_ | refine tl_cons ?_ | refine tl_cons_none ?_ | refine op_move ?_ | refine op_assign ?_ | refine op_load ?_ | refine op_load_agg ?_ | refine op_icmp ?_ | refine op_fcmp ?_ | refine op_iarith ?_ | refine op_bcmp ?_ | refine op_extract ?_ | refine op_makeInterface ?_ | refine op_ptr_nil ?_ | refine op_makeMeth ?_ | refine op_makeFunc ?_ | refine op_iquo ?_ | refine op_irem ?_ | refine op_ibits ?_ | refine op_slice_isnil ?_ | refine op_slice_notnil ?_ | refine op_shl ?_ | refine op_shr ?_ | (refine op_alloc ?_; intro _) | (refine op_farith ?_; intro _ _) | refine op_store0 ?_ | refine op_store1 ?_ | refine op_store2 ?_ | refine op_store3 ?_ | refine op_store4 ?_ | refine op_store5 ?_ | refine op_storeK rfl ?_ | refine op_loadK rfl ?_ | refine op_load_aggK rfl ?_ | refine tc_ret ?_ | refine at_seq_ret ?_ | fail)
                | fail
              refine ret_door (m := 3) rfl rfl (.cons (rv_cell rfl) (.cons (rv_cell rfl) (.cons (rv_cell rfl) .nil))) rfl (List.Sublist.refl _) ?_
              exact .inl ⟨hge, av, cv, by rw [← hsub]; rfl, hF.mono ins, ExC.ex⟩
            · refine op_storeK rfl ?_
              refine ta_two10 4 6 (by kernel_rfl) rfl (by decide) rfl ?_ ?_
              · refine op_iface_nilq ?_
                refine ta_only0 6 (by kernel_rfl) rfl ?_
                refine op_storeK rfl ?_
                refine ta_only0 7 (by kernel_rfl) rfl ?_
                refine op_storeK rfl ?_
                refine ta_done (by kernel_rfl) ?_
                repeat' first
                  | (first | refine tl_defer ?_ | refine tc_seq ?_ | refine tc_region ?_ | refine at_seq_normal ?_ | refine tl_nil ?_ | refine tl_cons ?_ | refine tl_cons_none ?_ | refine op_move ?_ | refine op_assign ?_ | refine op_load ?_ | refine op_load_agg ?_ | refine op_icmp ?_ | refine op_fcmp ?_ | refine op_iarith ?_ | refine op_bcmp ?_ | refine op_extract ?_ | refine op_makeInterface ?_ | refine op_ptr_nil ?_ | refine op_makeMeth ?_ | refine op_makeFunc ?_ | refine op_iquo ?_ | refine op_irem ?_ | refine op_ibits ?_ | refine op_slice_isnil ?_ | refine op_slice_notnil ?_ | refine op_shl ?_ | refine op_shr ?_ | (refine op_alloc ?_; intro _) | (refine op_farith ?_; intro _ _) | refine op_store0 ?_ | refine op_store1 ?_ | refine op_store2 ?_ | refine op_store3 ?_ | refine op_store4 ?_ | refine op_store5 ?_ | refine op_storeK rfl ?_ | refine op_loadK rfl ?_ | refine op_load_aggK rfl ?_ | refine tc_ret ?_ | refine at_seq_ret ?_ | fail)
                  | fail
                refine ret_door (m := 3) rfl rfl (.cons (rv_cell rfl) (.cons (rv_cell rfl) (.cons (rv_cell rfl) .nil))) rfl (List.Sublist.refl _) ?_
                exact .inl ⟨hge, av, cv, by rw [← hsub]; rfl, hF.mono ins, ExC.ex⟩
              · refine op_storeK rfl ?_
                refine ta_only 4 (by kernel_rfl) rfl (by decide) ?_
                refine op_iface_nilq ?_
                refine ta_only0 7 (by kernel_rfl) rfl ?_
                refine op_storeK rfl ?_
                refine ta_done (by kernel_rfl) ?_
                repeat' first
                  | (first | refine tl_defer ?_ | refine tc_seq ?_ | refine tc_region ?_ | refine at_seq_normal ?_ | refine tl_nil ?_ | refine tl_cons ?_ | refine tl_cons_none ?_ | refine op_move ?_ | refine op_assign ?_ | refine op_load ?_ | refine op_load_agg ?_ | refine op_icmp ?_ | refine op_fcmp ?_ | refine op_iarith ?_ | refine op_bcmp ?_ | refine op_extract ?_ | refine op_makeInterface ?_ | refine op_ptr_nil ?_ | refine op_makeMeth ?_ | refine op_makeFunc ?_ | refine op_iquo ?_ | refine op_irem ?_ | refine op_ibits ?_ | refine op_slice_isnil ?_ | refine op_slice_notnil ?_ | refine op_shl ?_ | refine op_shr ?_ | (refine op_alloc ?_; intro _) | (refine op_farith ?_; intro _ _) | refine op_store0 ?_ | refine op_store1 ?_ | refine op_store2 ?_ | refine op_store3 ?_ | refine op_store4 ?_ | refine op_store5 ?_ | refine op_storeK rfl ?_ | refine op_loadK rfl ?_ | refine op_load_aggK rfl ?_ | refine tc_ret ?_ | refine at_seq_ret ?_ | fail)
                  | fail
                refine ret_door (m := 3) rfl rfl (.cons (rv_cell rfl) (.cons (rv_cell rfl) (.cons (rv_cell rfl) .nil))) rfl (List.Sublist.refl _) ?_
                exact .inl ⟨hge, av, cv, by rw [← hsub]; rfl, hF.mono ins, ExC.ex⟩
          · refine op_iface_nilq ?_
            refine ta_only 0 (by kernel_rfl) rfl (by decide) ?_
            refine op_loadK rfl ?_
            refine ta_only0 5 (by kernel_rfl) rfl ?_
            refine op_storeK rfl ?_
            refine ta_only0 6 (by kernel_rfl) rfl ?_
            refine op_storeK rfl ?_
            refine ta_only0 7 (by kernel_rfl) rfl ?_
            refine op_storeK rfl ?_
            refine ta_done (by kernel_rfl) ?_
            repeat' first
              | (first | refine tl_defer ?_ | refine tc_seq ?_ | refine tc_region ?_ | refine at_seq_normal ?_ | refine tl_nil ?_ | refine tl_cons ?_ | refine tl_cons_none ?_ | refine op_move ?_ | refine op_assign ?_ | refine op_load ?_ | refine op_load_agg ?_ | refine op_icmp ?_ | refine op_fcmp ?_ | refine op_iarith ?_ | refine op_bcmp ?_ | refine op_extract ?_ | refine op_makeInterface ?_ | refine op_ptr_nil ?_ | refine op_makeMeth ?_ | refine op_makeFunc ?_ | refine op_iquo ?_ | refine op_irem ?_ | refine op_ibits ?_ | refine op_slice_isnil ?_ | refine op_slice_notnil ?_ | refine op_shl ?_ | refine op_shr ?_ | (refine op_alloc ?_; intro _) | (refine op_farith ?_; intro _ _) | refine op_store0 ?_ | refine op_store1 ?_ | refine op_store2 ?_ | refine op_store3 ?_ | refine op_store4 ?_ | refine op_store5 ?_ | refine op_storeK rfl ?_ | refine op_loadK rfl ?_ | refine op_load_aggK rfl ?_ | refine tc_ret ?_ | refine at_seq_ret ?_ | fail)
              | fail
            refine ret_door (m := 3) rfl rfl (.cons (rv_cell rfl) (.cons (rv_cell rfl) (.cons (rv_cell rfl) .nil))) rfl (List.Sublist.refl _) ?_
            exact .inl ⟨hge, av, cv, by rw [← hsub]; rfl, hF.mono ins, ExC.ex⟩
      · refine op_move ?_
        refine ta_three 0 2 4 (by kernel_rfl) rfl (by decide) rfl (by decide) rfl (by decide) ?_ ?_ ?_
        · refine op_loadK rfl ?_
          refine ta_two 2 4 (by kernel_rfl) rfl (by decide) rfl (by decide) ?_ ?_
          · (refine op_call ((bufLen kb T a bs.length c _ _ _ (List.mem_cons_of_mem _ (List.mem_append_left _ m1))).mono ?_); rintro _ _ ⟨rfl, rfl⟩)
            refine ta_two10 4 5 (by kernel_rfl) rfl (by decide) rfl ?_ ?_
            · refine op_iface_nilq ?_
              refine ta_only0 5 (by kernel_rfl) rfl ?_
              refine op_storeK rfl ?_
              refine ta_only0 6 (by kernel_rfl) rfl ?_
              refine op_storeK rfl ?_
              refine ta_only0 7 (by kernel_rfl) rfl ?_
              refine op_storeK rfl ?_
              refine ta_done (by kernel_rfl) ?_
              repeat' first
                | (first | refine tl_defer ?_ | refine tc_seq ?_ | refine tc_region ?_ | refine at_seq_normal ?_ | refine tl_nil ?_ | refine tl_cons ?_ | refine tl_cons_none ?_ | refine op_move ?_ | refine op_assign ?_ | refine op_load ?_ | refine op_load_agg ?_ | refine op_icmp ?_ | refine op_fcmp ?_ | refine op_iarith ?_ | refine op_bcmp ?_ | refine op_extract ?_ | refine op_makeInterface ?_ | refine op_ptr_nil ?_ | refine op_makeMeth ?_ | refine op_makeFunc ?_ | refine op_iquo ?_ | refine op_irem ?_ | refine op_ibits ?_ | refine op_slice_isnil ?_ | refine op_slice_notnil ?_ | refine op_shl ?_ | refine op_shr ?_ | (refine op_alloc ?_; intro _) | (refine op_farith ?_; intro _ _) | refine op_store0 ?_ | refine op_store1 ?_ | refine op_store2 ?_ | refine op_store3 ?_ | refine op_store4 ?_ | refine op_store5 ?_ | refine op_storeK rfl ?_ | refine op_loadK rfl ?_ | refine op_load_aggK rfl ?_ | refine tc_ret ?_ | refine at_seq_ret ?_ | fail)
                | fail
              refine ret_door (m := 3) rfl rfl (.cons (rv_cell rfl) (.cons (rv_cell rfl) (.cons (rv_cell rfl) .nil))) rfl (List.Sublist.refl _) ?_
              exact .inl ⟨hge, av, cv, by rw [← hsub]; rfl, hF.mono ins, ExC.ex⟩
            · refine op_storeK rfl ?_
              refine ta_two10 4 6 (by kernel_rfl) rfl (by decide) rfl ?_ ?_
              · refine op_iface_nilq ?_
                refine ta_only0 6 (by kernel_rfl) rfl ?_
                refine op_storeK rfl ?_
                refine ta_only0 7 (by kernel_rfl) rfl ?_
                refine op_storeK rfl ?_
                refine ta_done (by kernel_rfl) ?_
                repeat' first
                  | (first | refine tl_defer ?_ | refine tc_seq ?_ | refine tc_region ?_ | refine at_seq_normal ?_ | refine tl_nil ?_ | refine tl_cons ?_ | refine tl_cons_none ?_ | refine op_move ?_ | refine op_assign ?_ | refine op_load ?_ | refine op_load_agg ?_ | refine op_icmp ?_ | refine op_fcmp ?_ | refine op_iarith ?_ | refine op_bcmp ?_ | refine op_extract ?_ | refine op_makeInterface ?_ | refine op_ptr_nil ?_ | refine op_makeMeth ?_ | refine op_makeFunc ?_ | refine op_iquo ?_ | refine op_irem ?_ | refine op_ibits ?_ | refine op_slice_isnil ?_ | refine op_slice_notnil ?_ | refine op_shl ?_ | refine op_shr ?_ | (refine op_alloc ?_; intro _) | (refine op_farith ?_; intro _ _) | refine op_store0 ?_ | refine op_store1 ?_ | refine op_store2 ?_ | refine op_store3 ?_ | refine op_store4 ?_ | refine op_store5 ?_ | refine op_storeK rfl ?_ | refine op_loadK rfl ?_ | refine op_load_aggK rfl ?_ | refine tc_ret ?_ | refine at_seq_ret ?_ | fail)
                  | fail
                refine ret_door (m := 3) rfl rfl (.cons (rv_cell rfl) (.cons (rv_cell rfl) (.cons (rv_cell rfl) .nil))) rfl (List.Sublist.refl _) ?_
                exact .inl ⟨hge, av, cv, by rw [← hsub]; rfl, hF.mono ins, ExC.ex⟩
              · refine op_storeK rfl ?_
                refine ta_only 4 (by kernel_rfl) rfl (by decide) ?_
                refine op_iface_nilq ?_
                refine ta_only0 7 (by kernel_rfl) rfl ?_
                refine op_storeK rfl ?_
                refine ta_done (by kernel_rfl) ?_
                repeat' first
                  | (first | refine tl_defer ?_ | refine tc_seq ?_ | refine tc_region ?_ | refine at_seq_normal ?_ | refine tl_nil ?_ | refine tl_cons ?_ | refine tl_cons_none ?_ | refine op_move ?_ | refine op_assign ?_ | refine op_load ?_ | refine op_load_agg ?_ | refine op_icmp ?_ | refine op_fcmp ?_ | refine op_iarith ?_ | refine op_bcmp ?_ | refine op_extract ?_ | refine op_makeInterface ?_ | refine op_ptr_nil ?_ | refine op_makeMeth ?_ | refine op_makeFunc ?_ | refine op_iquo ?_ | refine op_irem ?_ | refine op_ibits ?_ | refine op_slice_isnil ?_ | refine op_slice_notnil ?_ | refine op_shl ?_ | refine op_shr ?_ | (refine op_alloc ?_; intro _) | (refine op_farith ?_; intro _ _) | refine op_store0 ?_ | refine op_store1 ?_ | refine op_store2 ?_ | refine op_store3 ?_ | refine op_store4 ?_ | refine op_store5 ?_ | refine op_storeK rfl ?_ | refine op_loadK rfl ?_ | refine op_load_aggK rfl ?_ | refine tc_ret ?_ | refine at_seq_ret ?_ | fail)
                  | fail
                refine ret_door (m := 3) rfl rfl (.cons (rv_cell rfl) (.cons (rv_cell rfl) (.cons (rv_cell rfl) .nil))) rfl (List.Sublist.refl _) ?_
                exact .inl ⟨hge, av, cv, by rw [← hsub]; rfl, hF.mono ins, ExC.ex⟩
          · refine op_iface_nilq ?_
            refine ta_only 2 (by kernel_rfl) rfl (by decide) ?_
            (refine op_call ((bufLen kb T a bs.length c _ _ _ (List.mem_cons_of_mem _ (List.mem_append_left _ m1))).mono ?_); rintro _ _ ⟨rfl, rfl⟩)
            refine ta_only0 5 (by kernel_rfl) rfl ?_
            refine op_storeK rfl ?_
            refine ta_only0 6 (by kernel_rfl) rfl ?_
            refine op_storeK rfl ?_
            refine ta_only0 7 (by kernel_rfl) rfl ?_
            refine op_storeK rfl ?_
            refine ta_done (by kernel_rfl) ?_
            repeat' first
              | (first | refine tl_defer ?_ | refine tc_seq ?_ | refine tc_region ?_ | refine at_seq_normal ?_ | refine tl_nil ?_ | refine tl_cons ?_ | refine tl_cons_none ?_ | refine op_move ?_ | refine op_assign ?_ | refine op_load ?_ | refine op_load_agg ?_ | refine op_icmp ?_ | refine op_fcmp ?_ | refine op_iarith ?_ | refine op_bcmp ?_ | refine op_extract ?_ | refine op_makeInterface ?_ | refine op_ptr_nil ?_ | refine op_makeMeth ?_ | refine op_makeFunc ?_ | refine op_iquo ?_ | refine op_irem ?_ | refine op_ibits ?_ | refine op_slice_isnil ?_ | refine op_slice_notnil ?_ | refine op_shl ?_ | refine op_shr ?_ | (refine op_alloc ?_; intro _) | (refine op_farith ?_; intro _ _) | refine op_store0 ?_ | refine op_store1 ?_ | refine op_store2 ?_ | refine op_store3 ?_ | refine op_store4 ?_ | refine op_store5 ?_ | refine op_storeK rfl ?_ | refine op_loadK rfl ?_ | refine op_load_aggK rfl ?_ | refine tc_ret ?_ | refine at_seq_ret ?_ | fail)
              | fail
            refine ret_door (m := 3) rfl rfl (.cons (rv_cell rfl) (.cons (rv_cell rfl) (.cons (rv_cell rfl) .nil))) rfl (List.Sublist.refl _) ?_
            exact .inl ⟨hge, av, cv, by rw [← hsub]; rfl, hF.mono ins, ExC.ex⟩
        · (refine op_call ((bufLen kb T a bs.length c _ _ _ (List.mem_cons_of_mem _ (List.mem_append_left _ m1))).mono ?_); rintro _ _ ⟨rfl, rfl⟩)
          refine ta_two 0 4 (by kernel_rfl) rfl (by decide) rfl (by decide) ?_ ?_
          · refine op_loadK rfl ?_
            refine ta_two10 4 5 (by kernel_rfl) rfl (by decide) rfl ?_ ?_
            · refine op_iface_nilq ?_
              refine ta_only0 5 (by kernel_rfl) rfl ?_
              refine op_storeK rfl ?_
              refine ta_only0 6 (by kernel_rfl) rfl ?_
              refine op_storeK rfl ?_
              refine ta_only0 7 (by kernel_rfl) rfl ?_
              refine op_storeK rfl ?_
              refine ta_done (by kernel_rfl) ?_
              repeat' first
                | (first | refine tl_defer ?_ | refine tc_seq ?_ | refine tc_region ?_ | refine at_seq_normal ?_ | refine tl_nil ?_ | refine tl_cons ?_ | refine tl_cons_none ?_ | refine op_move ?_ | refine op_assign ?_ | refine op_load ?_ | refine op_load_agg ?_ | refine op_icmp ?_ | refine op_fcmp ?_ | refine op_iarith ?_ | refine op_bcmp ?_ | refine op_extract ?_ | refine op_makeInterface ?_ | refine op_ptr_nil ?_ | refine op_makeMeth ?_ | refine op_makeFunc ?_ | refine op_iquo ?_ | refine op_irem ?_ | refine op_ibits ?_ | refine op_slice_isnil ?_ | refine op_slice_notnil ?_ | refine op_shl ?_ | refine op_shr ?_ | (refine op_alloc ?_; intro _) | (refine op_farith ?_; intro _ _) | refine op_store0 ?_ | refine op_store1 ?_ | refine op_store2 ?_ | refine op_store3 ?_ | refine op_store4 ?_ | refine op_store5 ?_ | refine op_storeK rfl ?_ | refine op_loadK rfl ?_ | refine op_load_aggK rfl ?_ | refine tc_ret ?_ | refine at_seq_ret ?_ | fail)
                | fail
              refine ret_door (m := 3) rfl rfl (.cons (rv_cell rfl) (.cons (rv_cell rfl) (.cons (rv_cell rfl) .nil))) rfl (List.Sublist.refl _) ?_
              exact .inl ⟨hge, av, cv, by rw [← hsub]; rfl, hF.mono ins, ExC.ex⟩
            · refine op_storeK rfl ?_
              refine ta_two10 4 6 (by kernel_rfl) rfl (by decide) rfl ?_ ?_
              · refine op_iface_nilq ?_
                refine ta_only0 6 (by kernel_rfl) rfl ?_
                refine op_storeK rfl ?_
                refine ta_only0 7 (by kernel_rfl) rfl ?_
                refine op_storeK rfl ?_
                refine ta_done (by kernel_rfl) ?_
                repeat' first
                  | (first | refine tl_defer ?_ | refine tc_seq ?_ | refine tc_region ?_ | refine at_seq_normal ?_ | refine tl_nil ?_ | refine tl_cons ?_ | refine tl_cons_none ?_ | refine op_move ?_ | refine op_assign ?_ | refine op_load ?_ | refine op_load_agg ?_ | refine op_icmp ?_ | refine op_fcmp ?_ | refine op_iarith ?_ | refine op_bcmp ?_ | refine op_extract ?_ | refine op_makeInterface ?_ | refine op_ptr_nil ?_ | refine op_makeMeth ?_ | refine op_makeFunc ?_ | refine op_iquo ?_ | refine op_irem ?_ | refine op_ibits ?_ | refine op_slice_isnil ?_ | refine op_slice_notnil ?_ | refine op_shl ?_ | refine op_shr ?_ | (refine op_alloc ?_; intro _) | (refine op_farith ?_; intro _ _) | refine op_store0 ?_ | refine op_store1 ?_ | refine op_store2 ?_ | refine op_store3 ?_ | refine op_store4 ?_ | refine op_store5 ?_ | refine op_storeK rfl ?_ | refine op_loadK rfl ?_ | refine op_load_aggK rfl ?_ | refine tc_ret ?_ | refine at_seq_ret ?_ | fail)
                  | fail
                refine ret_door (m := 3) rfl rfl (.cons (rv_cell rfl) (.cons (rv_cell rfl) (.cons (rv_cell rfl) .nil))) rfl (List.Sublist.refl _) ?_
                exact .inl ⟨hge, av, cv, by rw [← hsub]; rfl, hF.mono ins, ExC.ex⟩
              · refine op_storeK rfl ?_
                refine ta_only 4 (by kernel_rfl) rfl (by decide) ?_
                refine op_iface_nilq ?_
                refine ta_only0 7 (by kernel_rfl) rfl ?_
                refine op_storeK rfl ?_
                refine ta_done (by kernel_rfl) ?_
                repeat' first
                  | (first | refine tl_defer ?_ | refine tc_seq ?_ | refine tc_region ?_ | refine at_seq_normal ?_ | refine tl_nil ?_ | refine tl_cons ?_ | refine tl_cons_none ?_ | refine op_move ?_ | refine op_assign ?_ | refine op_load ?_ | refine op_load_agg ?_ | refine op_icmp ?_ | refine op_fcmp ?_ | refine op_iarith ?_ | refine op_bcmp ?_ | refine op_extract ?_ | refine op_makeInterface ?_ | refine op_ptr_nil ?_ | refine op_makeMeth ?_ | refine op_makeFunc ?_ | refine op_iquo ?_ | refine op_irem ?_ | refine op_ibits ?_ | refine op_slice_isnil ?_ | refine op_slice_notnil ?_ | refine op_shl ?_ | refine op_shr ?_ | (refine op_alloc ?_; intro _) | (refine op_farith ?_; intro _ _) | refine op_store0 ?_ | refine op_store1 ?_ | refine op_store2 ?_ | refine op_store3 ?_ | refine op_store4 ?_ | refine op_store5 ?_ | refine op_storeK rfl ?_ | refine op_loadK rfl ?_ | refine op_load_aggK rfl ?_ | refine tc_ret ?_ | refine at_seq_ret ?_ | fail)
                  | fail
                refine ret_door (m := 3) rfl rfl (.cons (rv_cell rfl) (.cons (rv_cell rfl) (.cons (rv_cell rfl) .nil))) rfl (List.Sublist.refl _) ?_
                exact .inl ⟨hge, av, cv, by rw [← hsub]; rfl, hF.mono ins, ExC.ex⟩
          · refine op_iface_nilq ?_
            refine ta_only 0 (by kernel_rfl) rfl (by decide) ?_
            refine op_loadK rfl ?_
            refine ta_only0 5 (by kernel_rfl) rfl ?_
            refine op_storeK rfl ?_
            refine ta_only0 6 (by kernel_rfl) rfl ?_
            refine op_storeK rfl ?_
            refine ta_only0 7 (by kernel_rfl) rfl ?_
            refine op_storeK rfl ?_
            refine ta_done (by kernel_rfl) ?_
            repeat' first
              | (first | refine tl_defer ?_ | refine tc_seq ?_ | refine tc_region ?_ | refine at_seq_normal ?_ | refine tl_nil ?_ | refine tl_cons ?_ | refine tl_cons_none ?_ | refine op_move ?_ | refine op_assign ?_ | refine op_load ?_ | refine op_load_agg ?_ | refine op_icmp ?_ | refine op_fcmp ?_ | refine op_iarith ?_ | refine op_bcmp ?_ | refine op_extract ?_ | refine op_makeInterface ?_ | refine op_ptr_nil ?_ | refine op_makeMeth ?_ | refine op_makeFunc ?_ | refine op_iquo ?_ | refine op_irem ?_ | refine op_ibits ?_ | refine op_slice_isnil ?_ | refine op_slice_notnil ?_ | refine op_shl ?_ | refine op_shr ?_ | (refine op_alloc ?_; intro _) | (refine op_farith ?_; intro _ _) | refine op_store0 ?_ | refine op_store1 ?_ | refine op_store2 ?_ | refine op_store3 ?_ | refine op_store4 ?_ | refine op_store5 ?_ | refine op_storeK rfl ?_ | refine op_loadK rfl ?_ | refine op_load_aggK rfl ?_ | refine tc_ret ?_ | refine at_seq_ret ?_ | fail)
              | fail
            refine ret_door (m := 3) rfl rfl (.cons (rv_cell rfl) (.cons (rv_cell rfl) (.cons (rv_cell rfl) .nil))) rfl (List.Sublist.refl _) ?_
            exact .inl ⟨hge, av, cv, by rw [← hsub]; rfl, hF.mono ins, ExC.ex⟩
        · refine op_iface_nilq ?_
          refine ta_two 0 2 (by kernel_rfl) rfl (by decide) rfl (by decide) ?_ ?_
          · refine op_loadK rfl ?_
            refine ta_only 2 (by kernel_rfl) rfl (by decide) ?_
            (refine op_call ((bufLen kb T a bs.length c _ _ _ (List.mem_cons_of_mem _ (List.mem_append_left _ m1))).mono ?_); rintro _ _ ⟨rfl, rfl⟩)
            refine ta_only0 5 (by kernel_rfl) rfl ?_
            refine op_storeK rfl ?_
            refine ta_only0 6 (by kernel_rfl) rfl ?_
            refine op_storeK rfl ?_
            refine ta_only0 7 (by kernel_rfl) rfl ?_
            refine op_storeK rfl ?_
            refine ta_done (by kernel_rfl) ?_
            repeat' first
              | (first | refine tl_defer ?_ | refine tc_seq ?_ | refine tc_region ?_ | refine at_seq_normal ?_ | refine tl_nil ?_ | refine tl_cons ?_ | refine tl_cons_none ?_ | refine op_move ?_ | refine op_assign ?_ | refine op_load ?_ | refine op_load_agg ?_ | refine op_icmp ?_ | refine op_fcmp ?_ | refine op_iarith ?_ | refine op_bcmp ?_ | refine op_extract ?_ | refine op_makeInterface ?_ | refine op_ptr_nil ?_ | refine op_makeMeth ?_ | refine op_makeFunc ?_ | refine op_iquo ?_ | refine op_irem ?_ | refine op_ibits ?_ | refine op_slice_isnil ?_ | refine op_slice_notnil ?_ | refine op_shl ?_ | refine op_shr ?_ | (refine op_alloc ?_; intro _) | (refine op_farith ?_; intro _ _) | refine op_store0 ?_ | refine op_store1 ?_ | refine op_store2 ?_ | refine op_store3 ?_ | refine op_store4 ?_ | refine op_store5 ?_ | refine op_storeK rfl ?_ | refine op_loadK rfl ?_ | refine op_load_aggK rfl ?_ | refine tc_ret ?_ | refine at_seq_ret ?_ | fail)
              | fail
            refine ret_door (m := 3) rfl rfl (.cons (rv_cell rfl) (.cons (rv_cell rfl) (.cons (rv_cell rfl) .nil))) rfl (List.Sublist.refl _) ?_
            exact .inl ⟨hge, av, cv, by rw [← hsub]; rfl, hF.mono ins, ExC.ex⟩
          · (refine op_call ((bufLen kb T a bs.length c _ _ _ (List.mem_cons_of_mem _ (List.mem_append_left _ m1))).mono ?_); rintro _ _ ⟨rfl, rfl⟩)
            refine ta_only 0 (by kernel_rfl) rfl (by decide) ?_
            refine op_loadK rfl ?_
            refine ta_only0 5 (by kernel_rfl) rfl ?_
            refine op_storeK rfl ?_
            refine ta_only0 6 (by kernel_rfl) rfl ?_
            refine op_storeK rfl ?_
            refine ta_only0 7 (by kernel_rfl) rfl ?_
            refine op_storeK rfl ?_
            refine ta_done (by kernel_rfl) ?_
            repeat' first
              | (first | refine tl_defer ?_ | refine tc_seq ?_ | refine tc_region ?_ | refine at_seq_normal ?_ | refine tl_nil ?_ | refine tl_cons ?_ | refine tl_cons_none ?_ | refine op_move ?_ | refine op_assign ?_ | refine op_load ?_ | refine op_load_agg ?_ | refine op_icmp ?_ | refine op_fcmp ?_ | refine op_iarith ?_ | refine op_bcmp ?_ | refine op_extract ?_ | refine op_makeInterface ?_ | refine op_ptr_nil ?_ | refine op_makeMeth ?_ | refine op_makeFunc ?_ | refine op_iquo ?_ | refine op_irem ?_ | refine op_ibits ?_ | refine op_slice_isnil ?_ | refine op_slice_notnil ?_ | refine op_shl ?_ | refine op_shr ?_ | (refine op_alloc ?_; intro _) | (refine op_farith ?_; intro _ _) | refine op_store0 ?_ | refine op_store1 ?_ | refine op_store2 ?_ | refine op_store3 ?_ | refine op_store4 ?_ | refine op_store5 ?_ | refine op_storeK rfl ?_ | refine op_loadK rfl ?_ | refine op_load_aggK rfl ?_ | refine tc_ret ?_ | refine at_seq_ret ?_ | fail)
              | fail
            refine ret_door (m := 3) rfl rfl (.cons (rv_cell rfl) (.cons (rv_cell rfl) (.cons (rv_cell rfl) .nil))) rfl (List.Sublist.refl _) ?_
            exact .inl ⟨hge, av, cv, by rw [← hsub]; rfl, hF.mono ins, ExC.ex⟩
    · refine op_move ?_
      refine ta_three 0 1 4 (by kernel_rfl) rfl (by decide) rfl (by decide) rfl (by decide) ?_ ?_ ?_
      · refine op_loadK rfl ?_
        refine ta_two 1 4 (by kernel_rfl) rfl (by decide) rfl (by decide) ?_ ?_
        · refine op_move ?_
          refine ta_two 2 4 (by kernel_rfl) rfl (by decide) rfl (by decide) ?_ ?_
          · (refine op_call ((bufLen kb T a bs.length c _ _ _ (List.mem_cons_of_mem _ (List.mem_append_left _ m1))).mono ?_); rintro _ _ ⟨rfl, rfl⟩)
            refine ta_two10 4 5 (by kernel_rfl) rfl (by decide) rfl ?_ ?_
            · refine op_iface_nilq ?_
              refine ta_only0 5 (by kernel_rfl) rfl ?_
              refine op_storeK rfl ?_
              refine ta_only0 6 (by kernel_rfl) rfl ?_
              refine op_storeK rfl ?_
              refine ta_only0 7 (by kernel_rfl) rfl ?_
              refine op_storeK rfl ?_
              refine ta_done (by kernel_rfl) ?_
              repeat' first
                | (first | refine tl_defer ?_ | refine tc_seq ?_ | refine tc_region ?_ | refine at_seq_normal ?_ | refine tl_nil ?_ | refine tl_cons ?_ | refine tl_cons_none ?_ | refine op_move ?_ | refine op_assign ?_ | refine op_load ?_ | refine op_load_agg ?_ | refine op_icmp ?_ | refine op_fcmp ?_ | refine op_iarith ?_ | refine op_bcmp ?_ | refine op_extract ?_ | refine op_makeInterface ?_ | refine op_ptr_nil ?_ | refine op_makeMeth ?_ | refine op_makeFunc ?_ | refine op_iquo ?_ | refine op_irem ?_ | refine op_ibits ?_ | refine op_slice_isnil ?_ | refine op_slice_notnil ?_ | refine op_shl ?_ | refine op_shr ?_ | (refine op_alloc ?_; intro _) | (refine op_farith ?_; intro _ _) | refine op_store0 ?_ | refine op_store1 ?_ | refine op_store2 ?_ | refine op_store3 ?_ | refine op_store4 ?_ | refine op_store5 ?_ | refine op_storeK rfl ?_ | refine op_loadK rfl ?_ | refine op_load_aggK rfl ?_ | refine tc_ret ?_ | refine at_seq_ret ?_ | fail)
                | fail
              refine ret_door (m := 3) rfl rfl (.cons (rv_cell rfl) (.cons (rv_cell rfl) (.cons (rv_cell rfl) .nil))) rfl (List.Sublist.refl _) ?_
              exact .inl ⟨hge, av, cv, by rw [← hsub]; rfl, hF.mono ins, ExC.ex⟩
            · refine op_storeK rfl ?_
              refine ta_two10 4 6 (by kernel_rfl) rfl (by decide) rfl ?_ ?_
              · refine op_iface_nilq ?_
                refine ta_only0 6 (by kernel_rfl) rfl ?_
                refine op_storeK rfl ?_
                refine ta_only0 7 (by kernel_rfl) rfl ?_
                refine op_storeK rfl ?_
                refine ta_done (by kernel_rfl) ?_
                repeat' first
                  | (first | refine tl_defer ?_ | refine tc_seq ?_ | refine tc_region ?_ | refine at_seq_normal ?_ | refine tl_nil ?_ | refine tl_cons ?_ | refine tl_cons_none ?_ | refine op_move ?_ | refine op_assign ?_ | refine op_load ?_ | refine op_load_agg ?_ | refine op_icmp ?_ | refine op_fcmp ?_ | refine op_iarith ?_ | refine op_bcmp ?_ | refine op_extract ?_ | refine op_makeInterface ?_ | refine op_ptr_nil ?_ | refine op_makeMeth ?_ | refine op_makeFunc ?_ | refine op_iquo ?_ | refine op_irem ?_ | refine op_ibits ?_ | refine op_slice_isnil ?_ | refine op_slice_notnil ?_ | refine op_shl ?_ | refine op_shr ?_ | (refine op_alloc ?_; intro _) | (refine op_farith ?_; intro _ _) | refine op_store0 ?_ | refine op_store1 ?_ | refine op_store2 ?_ | refine op_store3 ?_ | refine op_store4 ?_ | refine op_store5 ?_ | refine op_storeK rfl ?_ | refine op_loadK rfl ?_ | refine op_load_aggK rfl ?_ | refine tc_ret ?_ | refine at_seq_ret ?_ | fail)
                  | fail
                refine ret_door (m := 3) rfl rfl (.cons (rv_cell rfl) (.cons (rv_cell rfl) (.cons (rv_cell rfl) .nil))) rfl (List.Sublist.refl _) ?_
                exact .inl ⟨hge, av, cv, by rw [← hsub]; rfl, hF.mono ins, ExC.ex⟩
              · refine op_storeK rfl ?_
                refine ta_only 4 (by kernel_rfl) rfl (by decide) ?_
                refine op_iface_nilq ?_
                refine ta_only0 7 (by kernel_rfl) rfl ?_
                refine op_storeK rfl ?_
                refine ta_done (by kernel_rfl) ?_
                repeat' first
                  | (first | refine tl_defer ?_ | refine tc_seq ?_ | refine tc_region ?_ | refine at_seq_normal ?_ | refine tl_nil ?_ | refine tl_cons ?_ | refine tl_cons_none ?_ | refine op_move ?_ | refine op_assign ?_ | refine op_load ?_ | refine op_load_agg ?_ | refine op_icmp ?_ | refine op_fcmp ?_ | refine op_iarith ?_ | refine op_bcmp ?_ | refine op_extract ?_ | refine op_makeInterface ?_ | refine op_ptr_nil ?_ | refine op_makeMeth ?_ | refine op_makeFunc ?_ | refine op_iquo ?_ | refine op_irem ?_ | refine op_ibits ?_ | refine op_slice_isnil ?_ | refine op_slice_notnil ?_ | refine op_shl ?_ | refine op_shr ?_ | (refine op_alloc ?_; intro _) | (refine op_farith ?_; intro _ _) | refine op_store0 ?_ | refine op_store1 ?_ | refine op_store2 ?_ | refine op_store3 ?_ | refine op_store4 ?_ | refine op_store5 ?_ | refine op_storeK rfl ?_ | refine op_loadK rfl ?_ | refine op_load_aggK rfl ?_ | refine tc_ret ?_ | refine at_seq_ret ?_ | fail)
                  | fail
                refine ret_door (m := 3) rfl rfl (.cons (rv_cell rfl) (.cons (rv_cell rfl) (.cons (rv_cell rfl) .nil))) rfl (List.Sublist.refl _) ?_
                exact .inl ⟨hge, av, cv, by rw [← hsub]; rfl, hF.mono ins, ExC.ex⟩
          · refine op_iface_nilq ?_
            refine ta_only 2 (by kernel_rfl) rfl (by decide) ?_
            (refine op_call ((bufLen kb T a bs.length c _ _ _ (List.mem_cons_of_mem _ (List.mem_append_left _ m1))).mono ?_); rintro _ _ ⟨rfl, rfl⟩)
            refine ta_only0 5 (by kernel_rfl) rfl ?_
            refine op_storeK rfl ?_
            refine ta_only0 6 (by kernel_rfl) rfl ?_
            refine op_storeK rfl ?_
            refine ta_only0 7 (by kernel_rfl) rfl ?_
            refine op_storeK rfl ?_
            refine ta_done (by kernel_rfl) ?_
            repeat' first
              | (first | refine tl_defer ?_ | refine tc_seq ?_ | refine tc_region ?_ | refine at_seq_normal ?_ | refine tl_nil ?_ | refine tl_cons ?_ | refine tl_cons_none ?_ | refine op_move ?_ | refine op_assign ?_ | refine op_load ?_ | refine op_load_agg ?_ | refine op_icmp ?_ | refine op_fcmp ?_ | refine op_iarith ?_ | refine op_bcmp ?_ | refine op_extract ?_ | refine op_makeInterface ?_ | refine op_ptr_nil ?_ | refine op_makeMeth ?_ | refine op_makeFunc ?_ | refine op_iquo ?_ | refine op_irem ?_ | refine op_ibits ?_ | refine op_slice_isnil ?_ | refine op_slice_notnil ?_ | refine op_shl ?_ | refine op_shr ?_ | (refine op_alloc ?_; intro _) | (refine op_farith ?_; intro _ _) | refine op_store0 ?_ | refine op_store1 ?_ | refine op_store2 ?_ | refine op_store3 ?_ | refine op_store4 ?_ | refine op_store5 ?_ | refine op_storeK rfl ?_ | refine op_loadK rfl ?_ | refine op_load_aggK rfl ?_ | refine tc_ret ?_ | refine at_seq_ret ?_ | fail)
              | fail
            refine ret_door (m := 3) rfl rfl (.cons (rv_cell rfl) (.cons (rv_cell rfl) (.cons (rv_cell rfl) .nil))) rfl (List.Sublist.refl _) ?_
            exact .inl ⟨hge, av, cv, by rw [← hsub]; rfl, hF.mono ins, ExC.ex⟩
        · refine op_iface_nilq ?_
          refine ta_only 1 (by kernel_rfl) rfl (by decide) ?_
          refine op_move ?_
          refine ta_only 2 (by kernel_rfl) rfl (by decide) ?_
          (refine op_call ((bufLen kb T a bs.length c _ _ _ (List.mem_cons_of_mem _ (List.mem_append_left _ m1))).mono ?_); rintro _ _ ⟨rfl, rfl⟩)
          refine ta_only0 5 (by kernel_rfl) rfl ?_
          refine op_storeK rfl ?_
          refine ta_only0 6 (by kernel_rfl) rfl ?_
          refine op_storeK rfl ?_
          refine ta_only0 7 (by kernel_rfl) rfl ?_
          refine op_storeK rfl ?_
          refine ta_done (by kernel_rfl) ?_
          repeat' first
            | (first | refine tl_defer ?_ | refine tc_seq ?_ | refine tc_region ?_ | refine at_seq_normal ?_ | refine tl_nil ?_ | refine tl_cons ?_ | refine tl_cons_none ?_ | refine op_move ?_ | refine op_assign ?_ | refine op_load ?_ | refine op_load_agg ?_ | refine op_icmp ?_ | refine op_fcmp ?_ | refine op_iarith ?_ | refine op_bcmp ?_ | refine op_extract ?_ | refine op_makeInterface ?_ | refine op_ptr_nil ?_ | refine op_makeMeth ?_ | refine op_makeFunc ?_ | refine op_iquo ?_ | refine op_irem ?_ | refine op_ibits ?_ | refine op_slice_isnil ?_ | refine op_slice_notnil ?_ | refine op_shl ?_ | refine op_shr ?_ | (refine op_alloc ?_; intro _) | (refine op_farith ?_; intro _ _) | refine op_store0 ?_ | refine op_store1 ?_ | refine op_store2 ?_ | refine op_store3 ?_ | refine op_store4 ?_ | refine op_store5 ?_ | refine op_storeK rfl ?_ | refine op_loadK rfl ?_ | refine op_load_aggK rfl ?_ | refine tc_ret ?_ | refine at_seq_ret ?_ | fail)
            | fail
          refine ret_door (m := 3) rfl rfl (.cons (rv_cell rfl) (.cons (rv_cell rfl) (.cons (rv_cell rfl) .nil))) rfl (List.Sublist.refl _) ?_
          exact .inl ⟨hge, av, cv, by rw [← hsub]; rfl, hF.mono ins, ExC.ex⟩
      · refine op_move ?_
        refine ta_three 0 2 4 (by kernel_rfl) rfl (by decide) rfl (by decide) rfl (by decide) ?_ ?_ ?_
        · refine op_loadK rfl ?_
          refine ta_two 2 4 (by kernel_rfl) rfl (by decide) rfl (by decide) ?_ ?_
          · (refine op_call ((bufLen kb T a bs.length c _ _ _ (List.mem_cons_of_mem _ (List.mem_append_left _ m1))).mono ?_); rintro _ _ ⟨rfl, rfl⟩)
            refine ta_two10 4 5 (by kernel_rfl) rfl (by decide) rfl ?_ ?_
            · refine op_iface_nilq ?_
              refine ta_only0 5 (by kernel_rfl) rfl ?_
              refine op_storeK rfl ?_
              refine ta_only0 6 (by kernel_rfl) rfl ?_
              refine op_storeK rfl ?_
              refine ta_only0 7 (by kernel_rfl) rfl ?_
              refine op_storeK rfl ?_
              refine ta_done (by kernel_rfl) ?_
              repeat' first
                | (first | refine tl_defer ?_ | refine tc_seq ?_ | refine tc_region ?_ | refine at_seq_normal ?_ | refine tl_nil ?_ | refine tl_cons ?_ | refine tl_cons_none ?_ | refine op_move ?_ | refine op_assign ?_ | refine op_load ?_ | refine op_load_agg ?_ | refine op_icmp ?_ | refine op_fcmp ?_ | refine op_iarith ?_ | refine op_bcmp ?_ | refine op_extract ?_ | refine op_makeInterface ?_ | refine op_ptr_nil ?_ | refine op_makeMeth ?_ | refine op_makeFunc ?_ | refine op_iquo ?_ | refine op_irem ?_ | refine op_ibits ?_ | refine op_slice_isnil ?_ | refine op_slice_notnil ?_ | refine op_shl ?_ | refine op_shr ?_ | (refine op_alloc ?_; intro _) | (refine op_farith ?_; intro _ _) | refine op_store0 ?_ | refine op_store1 ?_ | refine op_store2 ?_ | refine op_store3 ?_ | refine op_store4 ?_ | refine op_store5 ?_ | refine op_storeK rfl ?_ | refine op_loadK rfl ?_ | refine op_load_aggK rfl ?_ | refine tc_ret ?_ | refine at_seq_ret ?_ | fail)
                | fail
              refine ret_door (m := 3) rfl rfl (.cons (rv_cell rfl) (.cons (rv_cell rfl) (.cons (rv_cell rfl) .nil))) rfl (List.Sublist.refl _) ?_
              exact .inl ⟨hge, av, cv, by rw [← hsub]; rfl, hF.mono ins, ExC.ex⟩
            · refine op_storeK rfl ?_
              refine ta_two10 4 6 (by kernel_rfl) rfl (by decide) rfl ?_ ?_
              · refine op_iface_nilq ?_
                refine ta_only0 6 (by kernel_rfl) rfl ?_
                refine op_storeK rfl ?_
                refine ta_only0 7 (by kernel_rfl) rfl ?_
                refine op_storeK rfl ?_
                refine ta_done (by kernel_rfl) ?_
                repeat' first
                  | (first | refine tl_defer ?_ | refine tc_seq ?_ | refine tc_region ?_ | refine at_seq_normal ?_ | refine tl_nil ?_ | refine tl_cons ?_ | refine tl_cons_none ?_ | refine op_move ?_ | refine op_assign ?_ | refine op_load ?_ | refine op_load_agg ?_ | refine op_icmp ?_ | refine op_fcmp ?_ | refine op_iarith ?_ | refine op_bcmp ?_ | refine op_extract ?_ | refine op_makeInterface ?_ | refine op_ptr_nil ?_ | refine op_makeMeth ?_ | refine op_makeFunc ?_ | refine op_iquo ?_ | refine op_irem ?_ | refine op_ibits ?_ | refine op_slice_isnil ?_ | refine op_slice_notnil ?_ | refine op_shl ?_ | refine op_shr ?_ | (refine op_alloc ?_; intro _) | (refine op_farith ?_; intro _ _) | refine op_store0 ?_ | refine op_store1 ?_ | refine op_store2 ?_ | refine op_store3 ?_ | refine op_store4 ?_ | refine op_store5 ?_ | refine op_storeK rfl ?_ | refine op_loadK rfl ?_ | refine op_load_aggK rfl ?_ | refine tc_ret ?_ | refine at_seq_ret ?_ | fail)
                  | fail
                refine ret_door (m := 3) rfl rfl (.cons (rv_cell rfl) (.cons (rv_cell rfl) (.cons (rv_cell rfl) .nil))) rfl (List.Sublist.refl _) ?_
                exact .inl ⟨hge, av, cv, by rw [← hsub]; rfl, hF.mono ins, ExC.ex⟩
              · refine op_storeK rfl ?_
                refine ta_only 4 (by kernel_rfl) rfl (by decide) ?_
                refine op_iface_nilq ?_
                refine ta_only0 7 (by kernel_rfl) rfl ?_
                refine op_storeK rfl ?_
                refine ta_done (by kernel_rfl) ?_
                repeat' first
                  | (first | refine tl_defer ?_ | refine tc_seq ?_ | refine tc_region ?_ | refine at_seq_normal ?_ | refine tl_nil ?_ | refine tl_cons ?_ | refine tl_cons_none ?_ | refine op_move ?_ | refine op_assign ?_ | refine op_load ?_ | refine op_load_agg ?_ | refine op_icmp ?_ | refine op_fcmp ?_ | refine op_iarith ?_ | refine op_bcmp ?_ | refine op_extract ?_ | refine op_makeInterface ?_ | refine op_ptr_nil ?_ | refine op_makeMeth ?_ | refine op_makeFunc ?_ | refine op_iquo ?_ | refine op_irem ?_ | refine op_ibits ?_ | refine op_slice_isnil ?_ | refine op_slice_notnil ?_ | refine op_shl ?_ | refine op_shr ?_ | (refine op_alloc ?_; intro _) | (refine op_farith ?_; intro _ _) | refine op_store0 ?_ | refine op_store1 ?_ | refine op_store2 ?_ | refine op_store3 ?_ | refine op_store4 ?_ | refine op_store5 ?_ | refine op_storeK rfl ?_ | refine op_loadK rfl ?_ | refine op_load_aggK rfl ?_ | refine tc_ret ?_ | refine at_seq_ret ?_ | fail)
                  | fail
                refine ret_door (m := 3) rfl rfl (.cons (rv_cell rfl) (.cons (rv_cell rfl) (.cons (rv_cell rfl) .nil))) rfl (List.Sublist.refl _) ?_
                exact .inl ⟨hge, av, cv, by rw [← hsub]; rfl, hF.mono ins, ExC.ex⟩
          · refine op_iface_nilq ?_
            refine ta_only 2 (by kernel_rfl) rfl (by decide) ?_
            (refine op_call ((bufLen kb T a bs.length c _ _ _ (List.mem_cons_of_mem _ (List.mem_append_left _ m1))).mono ?_); rintro _ _ ⟨rfl, rfl⟩)
            refine ta_only0 5 (by kernel_rfl) rfl ?_
            refine op_storeK rfl ?_
            refine ta_only0 6 (by kernel_rfl) rfl ?_
            refine op_storeK rfl ?_
            refine ta_only0 7 (by kernel_rfl) rfl ?_
            refine op_storeK rfl ?_
            refine ta_done (by kernel_rfl) ?_
            repeat' first
              | (first | refine tl_defer ?_ | refine tc_seq ?_ | refine tc_region ?_ | refine at_seq_normal ?_ | refine tl_nil ?_ | refine tl_cons ?_ | refine tl_cons_none ?_ | refine op_move ?_ | refine op_assign ?_ | refine op_load ?_ | refine op_load_agg ?_ | refine op_icmp ?_ | refine op_fcmp ?_ | refine op_iarith ?_ | refine op_bcmp ?_ | refine op_extract ?_ | refine op_makeInterface ?_ | refine op_ptr_nil ?_ | refine op_makeMeth ?_ | refine op_makeFunc ?_ | refine op_iquo ?_ | refine op_irem ?_ | refine op_ibits ?_ | refine op_slice_isnil ?_ | refine op_slice_notnil ?_ | refine op_shl ?_ | refine op_shr ?_ | (refine op_alloc ?_; intro _) | (refine op_farith ?_; intro _ _) | refine op_store0 ?_ | refine op_store1 ?_ | refine op_store2 ?_ | refine op_store3 ?_ | refine op_store4 ?_ | refine op_store5 ?_ | refine op_storeK rfl ?_ | refine op_loadK rfl ?_ | refine op_load_aggK rfl ?_ | refine tc_ret ?_ | refine at_seq_ret ?_ | fail)
              | fail
            refine ret_door (m := 3) rfl rfl (.cons (rv_cell rfl) (.cons (rv_cell rfl) (.cons (rv_cell rfl) .nil))) rfl (List.Sublist.refl _) ?_
            exact .inl ⟨hge, av, cv, by rw [← hsub]; rfl, hF.mono ins, ExC.ex⟩
        · (refine op_call ((bufLen kb T a bs.length c _ _ _ (List.mem_cons_of_mem _ (List.mem_append_left _ m1))).mono ?_); rintro _ _ ⟨rfl, rfl⟩)
          refine ta_two 0 4 (by kernel_rfl) rfl (by decide) rfl (by decide) ?_ ?_
          · refine op_loadK rfl ?_
            refine ta_two10 4 5 (by kernel_rfl) rfl (by decide) rfl ?_ ?_
            · refine op_iface_nilq ?_
              refine ta_only0 5 (by kernel_rfl) rfl ?_
              refine op_storeK rfl ?_
              refine ta_only0 6 (by kernel_rfl) rfl ?_
              refine op_storeK rfl ?_
              refine ta_only0 7 (by kernel_rfl) rfl ?_
              refine op_storeK rfl ?_
              refine ta_done (by kernel_rfl) ?_
              repeat' first
                | (first | refine tl_defer ?_ | refine tc_seq ?_ | refine tc_region ?_ | refine at_seq_normal ?_ | refine tl_nil ?_ | refine tl_cons ?_ | refine tl_cons_none ?_ | refine op_move ?_ | refine op_assign ?_ | refine op_load ?_ | refine op_load_agg ?_ | refine op_icmp ?_ | refine op_fcmp ?_ | refine op_iarith ?_ | refine op_bcmp ?_ | refine op_extract ?_ | refine op_makeInterface ?_ | refine op_ptr_nil ?_ | refine op_makeMeth ?_ | refine op_makeFunc ?_ | refine op_iquo ?_ | refine op_irem ?_ | refine op_ibits ?_ | refine op_slice_isnil ?_ | refine op_slice_notnil ?_ | refine op_shl ?_ | refine op_shr ?_ | (refine op_alloc ?_; intro _) | (refine op_farith ?_; intro _ _) | refine op_store0 ?_ | refine op_store1 ?_ | refine op_store2 ?_ | refine op_store3 ?_ | refine op_store4 ?_ | refine op_store5 ?_ | refine op_storeK rfl ?_ | refine op_loadK rfl ?_ | refine op_load_aggK rfl ?_ | refine tc_ret ?_ | refine at_seq_ret ?_ | fail)
                | fail
              refine ret_door (m := 3) rfl rfl (.cons (rv_cell rfl) (.cons (rv_cell rfl) (.cons (rv_cell rfl) .nil))) rfl (List.Sublist.refl _) ?_
              exact .inl ⟨hge, av, cv, by rw [← hsub]; rfl, hF.mono ins, ExC.ex⟩
            · refine op_storeK rfl ?_
              refine ta_two10 4 6 (by kernel_rfl) rfl (by decide) rfl ?_ ?_
              · refine op_iface_nilq ?_
                refine ta_only0 6 (by kernel_rfl) rfl ?_
                refine op_storeK rfl ?_
                refine ta_only0 7 (by kernel_rfl) rfl ?_
                refine op_storeK rfl ?_
                refine ta_done (by kernel_rfl) ?_
                repeat' first
                  | (first | refine tl_defer ?_ | refine tc_seq ?_ | refine tc_region ?_ | refine at_seq_normal ?_ | refine tl_nil ?_ | refine tl_cons ?_ | refine tl_cons_none ?_ | refine op_move ?_ | refine op_assign ?_ | refine op_load ?_ | refine op_load_agg ?_ | refine op_icmp ?_ | refine op_fcmp ?_ | refine op_iarith ?_ | refine op_bcmp ?_ | refine op_extract ?_ | refine op_makeInterface ?_ | refine op_ptr_nil ?_ | refine op_makeMeth ?_ | refine op_makeFunc ?_ | refine op_iquo ?_ | refine op_irem ?_ | refine op_ibits ?_ | refine op_slice_isnil ?_ | refine op_slice_notnil ?_ | refine op_shl ?_ | refine op_shr ?_ | (refine op_alloc ?_; intro _) | (refine op_farith ?_; intro _ _) | refine op_store0 ?_ | refine op_store1 ?_ | refine op_store2 ?_ | refine op_store3 ?_ | refine op_store4 ?_ | refine op_store5 ?_ | refine op_storeK rfl ?_ | refine op_loadK rfl ?_ | refine op_load_aggK rfl ?_ | refine tc_ret ?_ | refine at_seq_ret ?_ | fail)
                  | fail
                refine ret_door (m := 3) rfl rfl (.cons (rv_cell rfl) (.cons (rv_cell rfl) (.cons (rv_cell rfl) .nil))) rfl (List.Sublist.refl _) ?_
                exact .inl ⟨hge, av, cv, by rw [← hsub]; rfl, hF.mono ins, ExC.ex⟩
              · refine op_storeK rfl ?_
                refine ta_only 4 (by kernel_rfl) rfl (by decide) ?_
                refine op_iface_nilq ?_
                refine ta_only0 7 (by kernel_rfl) rfl ?_
                refine op_storeK rfl ?_
                refine ta_done (by kernel_rfl) ?_
                repeat' first
                  | (first | refine tl_defer ?_ | refine tc_seq ?_ | refine tc_region ?_ | refine at_seq_normal ?_ | refine tl_nil ?_ | refine tl_cons ?_ | refine tl_cons_none ?_ | refine op_move ?_ | refine op_assign ?_ | refine op_load ?_ | refine op_load_agg ?_ | refine op_icmp ?_ | refine op_fcmp ?_ | refine op_iarith ?_ | refine op_bcmp ?_ | refine op_extract ?_ | refine op_makeInterface ?_ | refine op_ptr_nil ?_ | refine op_makeMeth ?_ | refine op_makeFunc ?_ | refine op_iquo ?_ | refine op_irem ?_ | refine op_ibits ?_ | refine op_slice_isnil ?_ | refine op_slice_notnil ?_ | refine op_shl ?_ | refine op_shr ?_ | (refine op_alloc ?_; intro _) | (refine op_farith ?_; intro _ _) | refine op_store0 ?_ | refine op_store1 ?_ | refine op_store2 ?_ | refine op_store3 ?_ | refine op_store4 ?_ | refine op_store5 ?_ | refine op_storeK rfl ?_ | refine op_loadK rfl ?_ | refine op_load_aggK rfl ?_ | refine tc_ret ?_ | refine at_seq_ret ?_ | fail)
                  | fail
                refine ret_door (m := 3) rfl rfl (.cons (rv_cell rfl) (.cons (rv_cell rfl) (.cons (rv_cell rfl) .nil))) rfl (List.Sublist.refl _) ?_
                exact .inl ⟨hge, av, cv, by rw [← hsub]; rfl, hF.mono ins, ExC.ex⟩
          · refine op_iface_nilq ?_
            refine ta_only 0 (by kernel_rfl) rfl (by decide) ?_
            refine op_loadK rfl ?_
            refine ta_only0 5 (by kernel_rfl) rfl ?_
            refine op_storeK rfl ?_
            refine ta_only0 6 (by kernel_rfl) rfl ?_
            refine op_storeK rfl ?_
            refine ta_only0 7 (by kernel_rfl) rfl ?_
            refine op_storeK rfl ?_
            refine ta_done (by kernel_rfl) ?_
            repeat' first
              | (first | refine tl_defer ?_ | refine tc_seq ?_ | refine tc_region ?_ | refine at_seq_normal ?_ | refine tl_nil ?_ | refine tl_cons ?_ | refine tl_cons_none ?_ | refine op_move ?_ | refine op_assign ?_ | refine op_load ?_ | refine op_load_agg ?_ | refine op_icmp ?_ | refine op_fcmp ?_ | refine op_iarith ?_ | refine op_bcmp ?_ | refine op_extract ?_ | refine op_makeInterface ?_ | refine op_ptr_nil ?_ | refine op_makeMeth ?_ | refine op_makeFunc ?_ | refine op_iquo ?_ | refine op_irem ?_ | refine op_ibits ?_ | refine op_slice_isnil ?_ | refine op_slice_notnil ?_ | refine op_shl ?_ | refine op_shr ?_ | (refine op_alloc ?_; intro _) | (refine op_farith ?_; intro _ _) | refine op_store0 ?_ | refine op_store1 ?_ | refine op_store2 ?_ | refine op_store3 ?_ | refine op_store4 ?_ | refine op_store5 ?_ | refine op_storeK rfl ?_ | refine op_loadK rfl ?_ | refine op_load_aggK rfl ?_ | refine tc_ret ?_ | refine at_seq_ret ?_ | fail)
              | fail
            refine ret_door (m := 3) rfl rfl (.cons (rv_cell rfl) (.cons (rv_cell rfl) (.cons (rv_cell rfl) .nil))) rfl (List.Sublist.refl _) ?_
            exact .inl ⟨hge, av, cv, by rw [← hsub]; rfl, hF.mono ins, ExC.ex⟩
        · refine op_iface_nilq ?_
          refine ta_two 0 2 (by kernel_rfl) rfl (by decide) rfl (by decide) ?_ ?_
          · refine op_loadK rfl ?_
            refine ta_only 2 (by kernel_rfl) rfl (by decide) ?_
            (refine op_call ((bufLen kb T a bs.length c _ _ _ (List.mem_cons_of_mem _ (List.mem_append_left _ m1))).mono ?_); rintro _ _ ⟨rfl, rfl⟩)
            refine ta_only0 5 (by kernel_rfl) rfl ?_
            refine op_storeK rfl ?_
            refine ta_only0 6 (by kernel_rfl) rfl ?_
            refine op_storeK rfl ?_
            refine ta_only0 7 (by kernel_rfl) rfl ?_
            refine op_storeK rfl ?_
            refine ta_done (by kernel_rfl) ?_
            repeat' first
              | (first | refine tl_defer ?_ | refine tc_seq ?_ | refine tc_region ?_ | refine at_seq_normal ?_ | refine tl_nil ?_ | refine tl_cons ?_ | refine tl_cons_none ?_ | refine op_move ?_ | refine op_assign ?_ | refine op_load ?_ | refine op_load_agg ?_ | refine op_icmp ?_ | refine op_fcmp ?_ | refine op_iarith ?_ | refine op_bcmp ?_ | refine op_extract ?_ | refine op_makeInterface ?_ | refine op_ptr_nil ?_ | refine op_makeMeth ?_ | refine op_makeFunc ?_ | refine op_iquo ?_ | refine op_irem ?_ | refine op_ibits ?_ | refine op_slice_isnil ?_ | refine op_slice_notnil ?_ | refine op_shl ?_ | refine op_shr ?_ | (refine op_alloc ?_; intro _) | (refine op_farith ?_; intro _ _) | refine op_store0 ?_ | refine op_store1 ?_ | refine op_store2 ?_ | refine op_store3 ?_ | refine op_store4 ?_ | refine op_store5 ?_ | refine op_storeK rfl ?_ | refine op_loadK rfl ?_ | refine op_load_aggK rfl ?_ | refine tc_ret ?_ | refine at_seq_ret ?_ | fail)
              | fail
            refine ret_door (m := 3) rfl rfl (.cons (rv_cell rfl) (.cons (rv_cell rfl) (.cons (rv_cell rfl) .nil))) rfl (List.Sublist.refl _) ?_
            exact .inl ⟨hge, av, cv, by rw [← hsub]; rfl, hF.mono ins, ExC.ex⟩
          · (refine op_call ((bufLen kb T a bs.length c _ _ _ (List.mem_cons_of_mem _ (List.mem_append_left _ m1))).mono ?_); rintro _ _ ⟨rfl, rfl⟩)
            refine ta_only 0 (by kernel_rfl) rfl (by decide) ?_
            refine op_loadK rfl ?_
            refine ta_only0 5 (by kernel_rfl) rfl ?_
            refine op_storeK rfl ?_
            refine ta_only0 6 (by kernel_rfl) rfl ?_
            refine op_storeK rfl ?_
            refine ta_only0 7 (by kernel_rfl) rfl ?_
            refine op_storeK rfl ?_
            refine ta_done (by kernel_rfl) ?_
            repeat' first
              | (first | refine tl_defer ?_ | refine tc_seq ?_ | refine tc_region ?_ | refine at_seq_normal ?_ | refine tl_nil ?_ | refine tl_cons ?_ | refine tl_cons_none ?_ | refine op_move ?_ | refine op_assign ?_ | refine op_load ?_ | refine op_load_agg ?_ | refine op_icmp ?_ | refine op_fcmp ?_ | refine op_iarith ?_ | refine op_bcmp ?_ | refine op_extract ?_ | refine op_makeInterface ?_ | refine op_ptr_nil ?_ | refine op_makeMeth ?_ | refine op_makeFunc ?_ | refine op_iquo ?_ | refine op_irem ?_ | refine op_ibits ?_ | refine op_slice_isnil ?_ | refine op_slice_notnil ?_ | refine op_shl ?_ | refine op_shr ?_ | (refine op_alloc ?_; intro _) | (refine op_farith ?_; intro _ _) | refine op_store0 ?_ | refine op_store1 ?_ | refine op_store2 ?_ | refine op_store3 ?_ | refine op_store4 ?_ | refine op_store5 ?_ | refine op_storeK rfl ?_ | refine op_loadK rfl ?_ | refine op_load_aggK rfl ?_ | refine tc_ret ?_ | refine at_seq_ret ?_ | fail)
              | fail
            refine ret_door (m := 3) rfl rfl (.cons (rv_cell rfl) (.cons (rv_cell rfl) (.cons (rv_cell rfl) .nil))) rfl (List.Sublist.refl _) ?_
            exact .inl ⟨hge, av, cv, by rw [← hsub]; rfl, hF.mono ins, ExC.ex⟩
      · refine op_iface_nilq ?_
        refine ta_two 0 1 (by kernel_rfl) rfl (by decide) rfl (by decide) ?_ ?_
        · refine op_loadK rfl ?_
          refine ta_only 1 (by kernel_rfl) rfl (by decide) ?_
          refine op_move ?_
          refine ta_only 2 (by kernel_rfl) rfl (by decide) ?_
          (refine op_call ((bufLen kb T a bs.length c _ _ _ (List.mem_cons_of_mem _ (List.mem_append_left _ m1))).mono ?_); rintro _ _ ⟨rfl, rfl⟩)
          refine ta_only0 5 (by kernel_rfl) rfl ?_
          refine op_storeK rfl ?_
          refine ta_only0 6 (by kernel_rfl) rfl ?_
          refine op_storeK rfl ?_
          refine ta_only0 7 (by kernel_rfl) rfl ?_
          refine op_storeK rfl ?_
          refine ta_done (by kernel_rfl) ?_
          repeat' first
            | (first | refine tl_defer ?_ | refine tc_seq ?_ | refine tc_region ?_ | refine at_seq_normal ?_ | refine tl_nil ?_ | refine tl_cons ?_ | refine tl_cons_none ?_ | refine op_move ?_ | refine op_assign ?_ | refine op_load ?_ | refine op_load_agg ?_ | refine op_icmp ?_ | refine op_fcmp ?_ | refine op_iarith ?_ | refine op_bcmp ?_ | refine op_extract ?_ | refine op_makeInterface ?_ | refine op_ptr_nil ?_ | refine op_makeMeth ?_ | refine op_makeFunc ?_ | refine op_iquo ?_ | refine op_irem ?_ | refine op_ibits ?_ | refine op_slice_isnil ?_ | refine op_slice_notnil ?_ | refine op_shl ?_ | refine op_shr ?_ | (refine op_alloc ?_; intro _) | (refine op_farith ?_; intro _ _) | refine op_store0 ?_ | refine op_store1 ?_ | refine op_store2 ?_ | refine op_store3 ?_ | refine op_store4 ?_ | refine op_store5 ?_ | refine op_storeK rfl ?_ | refine op_loadK rfl ?_ | refine op_load_aggK rfl ?_ | refine tc_ret ?_ | refine at_seq_ret ?_ | fail)
            | fail
          refine ret_door (m := 3) rfl rfl (.cons (rv_cell rfl) (.cons (rv_cell rfl) (.cons (rv_cell rfl) .nil))) rfl (List.Sublist.refl _) ?_
          exact .inl ⟨hge, av, cv, by rw [← hsub]; rfl, hF.mono ins, ExC.ex⟩
        · refine op_move ?_
          refine ta_two 0 2 (by kernel_rfl) rfl (by decide) rfl (by decide) ?_ ?_
          · refine op_loadK rfl ?_
            refine ta_only 2 (by kernel_rfl) rfl (by decide) ?_
            (refine op_call ((bufLen kb T a bs.length c _ _ _ (List.mem_cons_of_mem _ (List.mem_append_left _ m1))).mono ?_); rintro _ _ ⟨rfl, rfl⟩)
            refine ta_only0 5 (by kernel_rfl) rfl ?_
            refine op_storeK rfl ?_
            refine ta_only0 6 (by kernel_rfl) rfl ?_
            refine op_storeK rfl ?_
            refine ta_only0 7 (by kernel_rfl) rfl ?_
            refine op_storeK rfl ?_
            refine ta_done (by kernel_rfl) ?_
            repeat' first
              | (first | refine tl_defer ?_ | refine tc_seq ?_ | refine tc_region ?_ | refine at_seq_normal ?_ | refine tl_nil ?_ | refine tl_cons ?_ | refine tl_cons_none ?_ | refine op_move ?_ | refine op_assign ?_ | refine op_load ?_ | refine op_load_agg ?_ | refine op_icmp ?_ | refine op_fcmp ?_ | refine op_iarith ?_ | refine op_bcmp ?_ | refine op_extract ?_ | refine op_makeInterface ?_ | refine op_ptr_nil ?_ | refine op_makeMeth ?_ | refine op_makeFunc ?_ | refine op_iquo ?_ | refine op_irem ?_ | refine op_ibits ?_ | refine op_slice_isnil ?_ | refine op_slice_notnil ?_ | refine op_shl ?_ | refine op_shr ?_ | (refine op_alloc ?_; intro _) | (refine op_farith ?_; intro _ _) | refine op_store0 ?_ | refine op_store1 ?_ | refine op_store2 ?_ | refine op_store3 ?_ | refine op_store4 ?_ | refine op_store5 ?_ | refine op_storeK rfl ?_ | refine op_loadK rfl ?_ | refine op_load_aggK rfl ?_ | refine tc_ret ?_ | refine at_seq_ret ?_ | fail)
              | fail
            refine ret_door (m := 3) rfl rfl (.cons (rv_cell rfl) (.cons (rv_cell rfl) (.cons (rv_cell rfl) .nil))) rfl (List.Sublist.refl _) ?_
            exact .inl ⟨hge, av, cv, by rw [← hsub]; rfl, hF.mono ins, ExC.ex⟩
          · (refine op_call ((bufLen kb T a bs.length c _ _ _ (List.mem_cons_of_mem _ (List.mem_append_left _ m1))).mono ?_); rintro _ _ ⟨rfl, rfl⟩)
            refine ta_only 0 (by kernel_rfl) rfl (by decide) ?_
            refine op_loadK rfl ?_
            refine ta_only0 5 (by kernel_rfl) rfl ?_
            refine op_storeK rfl ?_
            refine ta_only0 6 (by kernel_rfl) rfl ?_
            refine op_storeK rfl ?_
            refine ta_only0 7 (by kernel_rfl) rfl ?_
            refine op_storeK rfl ?_
            refine ta_done (by kernel_rfl) ?_
            repeat' first
              | (first | refine tl_defer ?_ | refine tc_seq ?_ | refine tc_region ?_ | refine at_seq_normal ?_ | refine tl_nil ?_ | refine tl_cons ?_ | refine tl_cons_none ?_ | refine op_move ?_ | refine op_assign ?_ | refine op_load ?_ | refine op_load_agg ?_ | refine op_icmp ?_ | refine op_fcmp ?_ | refine op_iarith ?_ | refine op_bcmp ?_ | refine op_extract ?_ | refine op_makeInterface ?_ | refine op_ptr_nil ?_ | refine op_makeMeth ?_ | refine op_makeFunc ?_ | refine op_iquo ?_ | refine op_irem ?_ | refine op_ibits ?_ | refine op_slice_isnil ?_ | refine op_slice_notnil ?_ | refine op_shl ?_ | refine op_shr ?_ | (refine op_alloc ?_; intro _) | (refine op_farith ?_; intro _ _) | refine op_store0 ?_ | refine op_store1 ?_ | refine op_store2 ?_ | refine op_store3 ?_ | refine op_store4 ?_ | refine op_store5 ?_ | refine op_storeK rfl ?_ | refine op_loadK rfl ?_ | refine op_load_aggK rfl ?_ | refine tc_ret ?_ | refine at_seq_ret ?_ | fail)
              | fail
            refine ret_door (m := 3) rfl rfl (.cons (rv_cell rfl) (.cons (rv_cell rfl) (.cons (rv_cell rfl) .nil))) rfl (List.Sublist.refl _) ?_
            exact .inl ⟨hge, av, cv, by rw [← hsub]; rfl, hF.mono ins, ExC.ex⟩
  · skip
    refine tc_any mixed ?_
    refine ta_three 0 1 3 (by kernel_rfl) rfl (by decide) rfl (by decide) rfl (by decide) ?_ ?_ ?_
    · refine op_loadK rfl ?_
      refine ta_two 1 3 (by kernel_rfl) rfl (by decide) rfl (by decide) ?_ ?_
      · refine op_move ?_
        refine ta_two 2 3 (by kernel_rfl) rfl (by decide) rfl (by decide) ?_ ?_
        · (refine op_call ((bufLen kb T a 0 c _ _ _ (List.mem_cons_of_mem _ (List.mem_append_left _ m1))).mono ?_); rintro _ _ ⟨rfl, rfl⟩)
          refine ta_two10 3 5 (by kernel_rfl) rfl (by decide) rfl ?_ ?_
          · refine op_move ?_
            refine ta_two10 4 5 (by kernel_rfl) rfl (by decide) rfl ?_ ?_
            · refine op_iface_someq ?_
              refine ta_only0 5 (by kernel_rfl) rfl ?_
              refine op_storeK rfl ?_
              refine ta_only0 6 (by kernel_rfl) rfl ?_
              refine op_storeK rfl ?_
              refine ta_only0 7 (by kernel_rfl) rfl ?_
              refine op_storeK rfl ?_
              refine ta_done (by kernel_rfl) ?_
              repeat' first
                | (first | refine tl_defer ?_ | refine tc_seq ?_ | refine tc_region ?_ | refine at_seq_normal ?_ | refine tl_nil ?_ | refine tl_cons ?_ | refine tl_cons_none ?_ | refine op_move ?_ | refine op_assign ?_ | refine op_load ?_ | refine op_load_agg ?_ | refine op_icmp ?_ | refine op_fcmp ?_ | refine op_iarith ?_ | refine op_bcmp ?_ | refine op_extract ?_ | refine op_makeInterface ?_ | refine op_ptr_nil ?_ | refine op_makeMeth ?_ | refine op_makeFunc ?_ | refine op_iquo ?_ | refine op_irem ?_ | refine op_ibits ?_ | refine op_slice_isnil ?_ | refine op_slice_notnil ?_ | refine op_shl ?_ | refine op_shr ?_ | (refine op_alloc ?_; intro _) | (refine op_farith ?_; intro _ _) | refine op_store0 ?_ | refine op_store1 ?_ | refine op_store2 ?_ | refine op_store3 ?_ | refine op_store4 ?_ | refine op_store5 ?_ | refine op_storeK rfl ?_ | refine op_loadK rfl ?_ | refine op_load_aggK rfl ?_ | refine tc_ret ?_ | refine at_seq_ret ?_ | fail)
                | fail
              refine ret_door (m := 3) rfl rfl (.cons (rv_cell rfl) (.cons (rv_cell rfl) (.cons (rv_cell rfl) .nil))) rfl (List.Sublist.refl _) ?_
              exact .inr ⟨hlt, ⟨_, _, rfl⟩, ExC.ex⟩
            · refine op_storeK rfl ?_
              refine ta_two10 4 6 (by kernel_rfl) rfl (by decide) rfl ?_ ?_
              · refine op_iface_someq ?_
                refine ta_only0 6 (by kernel_rfl) rfl ?_
                refine op_storeK rfl ?_
                refine ta_only0 7 (by kernel_rfl) rfl ?_
                refine op_storeK rfl ?_
                refine ta_done (by kernel_rfl) ?_
                repeat' first
                  | (first | refine tl_defer ?_ | refine tc_seq ?_ | refine tc_region ?_ | refine at_seq_normal ?_ | refine tl_nil ?_ | refine tl_cons ?_ | refine tl_cons_none ?_ | refine op_move ?_ | refine op_assign ?_ | refine op_load ?_ | refine op_load_agg ?_ | refine op_icmp ?_ | refine op_fcmp ?_ | refine op_iarith ?_ | refine op_bcmp ?_ | refine op_extract ?_ | refine op_makeInterface ?_ | refine op_ptr_nil ?_ | refine op_makeMeth ?_ | refine op_makeFunc ?_ | refine op_iquo ?_ | refine op_irem ?_ | refine op_ibits ?_ | refine op_slice_isnil ?_ | refine op_slice_notnil ?_ | refine op_shl ?_ | refine op_shr ?_ | (refine op_alloc ?_; intro _) | (refine op_farith ?_; intro _ _) | refine op_store0 ?_ | refine op_store1 ?_ | refine op_store2 ?_ | refine op_store3 ?_ | refine op_store4 ?_ | refine op_store5 ?_ | refine op_storeK rfl ?_ | refine op_loadK rfl ?_ | refine op_load_aggK rfl ?_ | refine tc_ret ?_ | refine at_seq_ret ?_ | fail)
                  | fail
                refine ret_door (m := 3) rfl rfl (.cons (rv_cell rfl) (.cons (rv_cell rfl) (.cons (rv_cell rfl) .nil))) rfl (List.Sublist.refl _) ?_
                exact .inr ⟨hlt, ⟨_, _, rfl⟩, ExC.ex⟩
              · refine op_storeK rfl ?_
                refine ta_only 4 (by kernel_rfl) rfl (by decide) ?_
                refine op_iface_someq ?_
                refine ta_only0 7 (by kernel_rfl) rfl ?_
                refine op_storeK rfl ?_
                refine ta_done (by kernel_rfl) ?_
                repeat' first
                  | (first | refine tl_defer ?_ | refine tc_seq ?_ | refine tc_region ?_ | refine at_seq_normal ?_ | refine tl_nil ?_ | refine tl_cons ?_ | refine tl_cons_none ?_ | refine op_move ?_ | refine op_assign ?_ | refine op_load ?_ | refine op_load_agg ?_ | refine op_icmp ?_ | refine op_fcmp ?_ | refine op_iarith ?_ | refine op_bcmp ?_ | refine op_extract ?_ | refine op_makeInterface ?_ | refine op_ptr_nil ?_ | refine op_makeMeth ?_ | refine op_makeFunc ?_ | refine op_iquo ?_ | refine op_irem ?_ | refine op_ibits ?_ | refine op_slice_isnil ?_ | refine op_slice_notnil ?_ | refine op_shl ?_ | refine op_shr ?_ | (refine op_alloc ?_; intro _) | (refine op_farith ?_; intro _ _) | refine op_store0 ?_ | refine op_store1 ?_ | refine op_store2 ?_ | refine op_store3 ?_ | refine op_store4 ?_ | refine op_store5 ?_ | refine op_storeK rfl ?_ | refine op_loadK rfl ?_ | refine op_load_aggK rfl ?_ | refine tc_ret ?_ | refine at_seq_ret ?_ | fail)
                  | fail
                refine ret_door (m := 3) rfl rfl (.cons (rv_cell rfl) (.cons (rv_cell rfl) (.cons (rv_cell rfl) .nil))) rfl (List.Sublist.refl _) ?_
                exact .inr ⟨hlt, ⟨_, _, rfl⟩, ExC.ex⟩
          · refine op_storeK rfl ?_
            refine ta_two10 3 6 (by kernel_rfl) rfl (by decide) rfl ?_ ?_
            · refine op_move ?_
              refine ta_two10 4 6 (by kernel_rfl) rfl (by decide) rfl ?_ ?_
              · refine op_iface_someq ?_
                refine ta_only0 6 (by kernel_rfl) rfl ?_
                refine op_storeK rfl ?_
                refine ta_only0 7 (by kernel_rfl) rfl ?_
                refine op_storeK rfl ?_
                refine ta_done (by kernel_rfl) ?_
                repeat' first
                  | (first | refine tl_defer ?_ | refine tc_seq ?_ | refine tc_region ?_ | refine at_seq_normal ?_ | refine tl_nil ?_ | refine tl_cons ?_ | refine tl_cons_none ?_ | refine op_move ?_ | refine op_assign ?_ | refine op_load ?_ | refine op_load_agg ?_ | refine op_icmp ?_ | refine op_fcmp ?_ | refine op_iarith ?_ | refine op_bcmp ?_ | refine op_extract ?_ | refine op_makeInterface ?_ | refine op_ptr_nil ?_ | refine op_makeMeth ?_ | refine op_makeFunc ?_ | refine op_iquo ?_ | refine op_irem ?_ | refine op_ibits ?_ | refine op_slice_isnil ?_ | refine op_slice_notnil ?_ | refine op_shl ?_ | refine op_shr ?_ | (refine op_alloc ?_; intro _) | (refine op_farith ?_; intro _ _) | refine op_store0 ?_ | refine op_store1 ?_ | refine op_store2 ?_ | refine op_store3 ?_ | refine op_store4 ?_ | refine op_store5 ?_ | refine op_storeK rfl ?_ | refine op_loadK rfl ?_ | refine op_load_aggK rfl ?_ | refine tc_ret ?_ | refine at_seq_ret ?_ | fail)
                  | fail
                refine ret_door (m := 3) rfl rfl (.cons (rv_cell rfl) (.cons (rv_cell rfl) (.cons (rv_cell rfl) .nil))) rfl (List.Sublist.refl _) ?_
                exact .inr ⟨hlt, ⟨_, _, rfl⟩, ExC.ex⟩
              · refine op_storeK rfl ?_
                refine ta_only 4 (by kernel_rfl) rfl (by decide) ?_
                refine op_iface_someq ?_
                refine ta_only0 7 (by kernel_rfl) rfl ?_
                refine op_storeK rfl ?_
                refine ta_done (by kernel_rfl) ?_
                repeat' first
                  | (first | refine tl_defer ?_ | refine tc_seq ?_ | refine tc_region ?_ | refine at_seq_normal ?_ | refine tl_nil ?_ | refine tl_cons ?_ | refine tl_cons_none ?_ | refine op_move ?_ | refine op_assign ?_ | refine op_load ?_ | refine op_load_agg ?_ | refine op_icmp ?_ | refine op_fcmp ?_ | refine op_iarith ?_ | refine op_bcmp ?_ | refine op_extract ?_ | refine op_makeInterface ?_ | refine op_ptr_nil ?_ | refine op_makeMeth ?_ | refine op_makeFunc ?_ | refine op_iquo ?_ | refine op_irem ?_ | refine op_ibits ?_ | refine op_slice_isnil ?_ | refine op_slice_notnil ?_ | refine op_shl ?_ | refine op_shr ?_ | (refine op_alloc ?_; intro _) | (refine op_farith ?_; intro _ _) | refine op_store0 ?_ | refine op_store1 ?_ | refine op_store2 ?_ | refine op_store3 ?_ | refine op_store4 ?_ | refine op_store5 ?_ | refine op_storeK rfl ?_ | refine op_loadK rfl ?_ | refine op_load_aggK rfl ?_ | refine tc_ret ?_ | refine at_seq_ret ?_ | fail)
                  | fail
                refine ret_door (m := 3) rfl rfl (.cons (rv_cell rfl) (.cons (rv_cell rfl) (.cons (rv_cell rfl) .nil))) rfl (List.Sublist.refl _) ?_
                exact .inr ⟨hlt, ⟨_, _, rfl⟩, ExC.ex⟩
            · refine op_storeK rfl ?_
              refine ta_only 3 (by kernel_rfl) rfl (by decide) ?_
              refine op_move ?_
              refine ta_only 4 (by kernel_rfl) rfl (by decide) ?_
              refine op_iface_someq ?_
              refine ta_only0 7 (by kernel_rfl) rfl ?_
              refine op_storeK rfl ?_
              refine ta_done (by kernel_rfl) ?_
              repeat' first
                | (first | refine tl_defer ?_ | refine tc_seq ?_ | refine tc_region ?_ | refine at_seq_normal ?_ | refine tl_nil ?_ | refine tl_cons ?_ | refine tl_cons_none ?_ | refine op_move ?_ | refine op_assign ?_ | refine op_load ?_ | refine op_load_agg ?_ | refine op_icmp ?_ | refine op_fcmp ?_ | refine op_iarith ?_ | refine op_bcmp ?_ | refine op_extract ?_ | refine op_makeInterface ?_ | refine op_ptr_nil ?_ | refine op_makeMeth ?_ | refine op_makeFunc ?_ | refine op_iquo ?_ | refine op_irem ?_ | refine op_ibits ?_ | refine op_slice_isnil ?_ | refine op_slice_notnil ?_ | refine op_shl ?_ | refine op_shr ?_ | (refine op_alloc ?_; intro _) | (refine op_farith ?_; intro _ _) | refine op_store0 ?_ | refine op_store1 ?_ | refine op_store2 ?_ | refine op_store3 ?_ | refine op_store4 ?_ | refine op_store5 ?_ | refine op_storeK rfl ?_ | refine op_loadK rfl ?_ | refine op_load_aggK rfl ?_ | refine tc_ret ?_ | refine at_seq_ret ?_ | fail)
                | fail
              refine ret_door (m := 3) rfl rfl (.cons (rv_cell rfl) (.cons (rv_cell rfl) (.cons (rv_cell rfl) .nil))) rfl (List.Sublist.refl _) ?_
              exact .inr ⟨hlt, ⟨_, _, rfl⟩, ExC.ex⟩
        · refine op_move ?_
          refine ta_two 2 4 (by kernel_rfl) rfl (by decide) rfl (by decide) ?_ ?_
          · (refine op_call ((bufLen kb T a 0 c _ _ _ (List.mem_cons_of_mem _ (List.mem_append_left _ m1))).mono ?_); rintro _ _ ⟨rfl, rfl⟩)
            refine ta_two10 4 5 (by kernel_rfl) rfl (by decide) rfl ?_ ?_
            · refine op_iface_someq ?_
              refine ta_only0 5 (by kernel_rfl) rfl ?_
              refine op_storeK rfl ?_
              refine ta_only0 6 (by kernel_rfl) rfl ?_
              refine op_storeK rfl ?_
              refine ta_only0 7 (by kernel_rfl) rfl ?_
              refine op_storeK rfl ?_
              refine ta_done (by kernel_rfl) ?_
              repeat' first
                | (first | refine tl_defer ?_ | refine tc_seq ?_ | refine tc_region ?_ | refine at_seq_normal ?_ | refine tl_nil ?_ | refine tl_cons ?_ | refine tl_cons_none ?_ | refine op_move ?_ | refine op_assign ?_ | refine op_load ?_ | refine op_load_agg ?_ | refine op_icmp ?_ | refine op_fcmp ?_ | refine op_iarith ?_ | refine op_bcmp ?_ | refine op_extract ?_ | refine op_makeInterface ?_ | refine op_ptr_nil ?_ | refine op_makeMeth ?_ | refine op_makeFunc ?_ | refine op_iquo ?_ | refine op_irem ?_ | refine op_ibits ?_ | refine op_slice_isnil ?_ | refine op_slice_notnil ?_ | refine op_shl ?_ | refine op_shr ?_ | (refine op_alloc ?_; intro _) | (refine op_farith ?_; intro _ _) | refine op_store0 ?_ | refine op_store1 ?_ | refine op_store2 ?_ | refine op_store3 ?_ | refine op_store4 ?_ | refine op_store5 ?_ | refine op_storeK rfl ?_ | refine op_loadK rfl ?_ | refine op_load_aggK rfl ?_ | refine tc_ret ?_ | refine at_seq_ret ?_ | fail)
                | fail
              refine ret_door (m := 3) rfl rfl (.cons (rv_cell rfl) (.cons (rv_cell rfl) (.cons (rv_cell rfl) .nil))) rfl (List.Sublist.refl _) ?_
              exact .inr ⟨hlt, ⟨_, _, rfl⟩, ExC.ex⟩
            · refine op_storeK rfl ?_
              refine ta_two10 4 6 (by kernel_rfl) rfl (by decide) rfl ?_ ?_
              · refine op_iface_someq ?_
                refine ta_only0 6 (by kernel_rfl) rfl ?_
                refine op_storeK rfl ?_
                refine ta_only0 7 (by kernel_rfl) rfl ?_
                refine op_storeK rfl ?_
                refine ta_done (by kernel_rfl) ?_
                repeat' first
                  | (first | refine tl_defer ?_ | refine tc_seq ?_ | refine tc_region ?_ | refine at_seq_normal ?_ | refine tl_nil ?_ | refine tl_cons ?_ | refine tl_cons_none ?_ | refine op_move ?_ | refine op_assign ?_ | refine op_load ?_ | refine op_load_agg ?_ | refine op_icmp ?_ | refine op_fcmp ?_ | refine op_iarith ?_ | refine op_bcmp ?_ | refine op_extract ?_ | refine op_makeInterface ?_ | refine op_ptr_nil ?_ | refine op_makeMeth ?_ | refine op_makeFunc ?_ | refine op_iquo ?_ | refine op_irem ?_ | refine op_ibits ?_ | refine op_slice_isnil ?_ | refine op_slice_notnil ?_ | refine op_shl ?_ | refine op_shr ?_ | (refine op_alloc ?_; intro _) | (refine op_farith ?_; intro _ _) | refine op_store0 ?_ | refine op_store1 ?_ | refine op_store2 ?_ | refine op_store3 ?_ | refine op_store4 ?_ | refine op_store5 ?_ | refine op_storeK rfl ?_ | refine op_loadK rfl ?_ | refine op_load_aggK rfl ?_ | refine tc_ret ?_ | refine at_seq_ret ?_ | fail)
                  | fail
                refine ret_door (m := 3) rfl rfl (.cons (rv_cell rfl) (.cons (rv_cell rfl) (.cons (rv_cell rfl) .nil))) rfl (List.Sublist.refl _) ?_
                exact .inr ⟨hlt, ⟨_, _, rfl⟩, ExC.ex⟩
              · refine op_storeK rfl ?_
                refine ta_only 4 (by kernel_rfl) rfl (by decide) ?_
                refine op_iface_someq ?_
                refine ta_only0 7 (by kernel_rfl) rfl ?_
                refine op_storeK rfl ?_
                refine ta_done (by kernel_rfl) ?_
                repeat' first
                  | (first | refine tl_defer ?_ | refine tc_seq ?_ | refine tc_region ?_ | refine at_seq_normal ?_ | refine tl_nil ?_ | refine tl_cons ?_ | refine tl_cons_none ?_ | refine op_move ?_ | refine op_assign ?_ | refine op_load ?_ | refine op_load_agg ?_ | refine op_icmp ?_ | refine op_fcmp ?_ | refine op_iarith ?_ | refine op_bcmp ?_ | refine op_extract ?_ | refine op_makeInterface ?_ | refine op_ptr_nil ?_ | refine op_makeMeth ?_ | refine op_makeFunc ?_ | refine op_iquo ?_ | refine op_irem ?_ | refine op_ibits ?_ | refine op_slice_isnil ?_ | refine op_slice_notnil ?_ | refine op_shl ?_ | refine op_shr ?_ | (refine op_alloc ?_; intro _) | (refine op_farith ?_; intro _ _) | refine op_store0 ?_ | refine op_store1 ?_ | refine op_store2 ?_ | refine op_store3 ?_ | refine op_store4 ?_ | refine op_store5 ?_ | refine op_storeK rfl ?_ | refine op_loadK rfl ?_ | refine op_load_aggK rfl ?_ | refine tc_ret ?_ | refine at_seq_ret ?_ | fail)
                  | fail
                refine ret_door (m := 3) rfl rfl (.cons (rv_cell rfl) (.cons (rv_cell rfl) (.cons (rv_cell rfl) .nil))) rfl (List.Sublist.refl _) ?_
                exact .inr ⟨hlt, ⟨_, _, rfl⟩, ExC.ex⟩
          · refine op_iface_someq ?_
            refine ta_only 2 (by kernel_rfl) rfl (by decide) ?_
            (refine op_call ((bufLen kb T a 0 c _ _ _ (List.mem_cons_of_mem _ (List.mem_append_left _ m1))).mono ?_); rintro _ _ ⟨rfl, rfl⟩)
            refine ta_only0 5 (by kernel_rfl) rfl ?_
            refine op_storeK rfl ?_
            refine ta_only0 6 (by kernel_rfl) rfl ?_
            refine op_storeK rfl ?_
            refine ta_only0 7 (by kernel_rfl) rfl ?_
            refine op_storeK rfl ?_
            refine ta_done (by kernel_rfl) ?_
            repeat' first
              | (first | refine tl_defer ?_ | refine tc_seq ?_ | refine tc_region ?_ | refine at_seq_normal ?_ | refine tl_nil ?_ | refine tl_cons ?_ | refine tl_cons_none ?_ | refine op_move ?_ | refine op_assign ?_ | refine op_load ?_ | refine op_load_agg ?_ | refine op_icmp ?_ | refine op_fcmp ?_ | refine op_iarith ?_ | refine op_bcmp ?_ | refine op_extract ?_ | refine op_makeInterface ?_ | refine op_ptr_nil ?_ | refine op_makeMeth ?_ | refine op_makeFunc ?_ | refine op_iquo ?_ | refine op_irem ?_ | refine op_ibits ?_ | refine op_slice_isnil ?_ | refine op_slice_notnil ?_ | refine op_shl ?_ | refine op_shr ?_ | (refine op_alloc ?_; intro _) | (refine op_farith ?_; intro _ _) | refine op_store0 ?_ | refine op_store1 ?_ | refine op_store2 ?_ | refine op_store3 ?_ | refine op_store4 ?_ | refine op_store5 ?_ | refine op_storeK rfl ?_ | refine op_loadK rfl ?_ | refine op_load_aggK rfl ?_ | refine tc_ret ?_ | refine at_seq_ret ?_ | fail)
              | fail
            refine ret_door (m := 3) rfl rfl (.cons (rv_cell rfl) (.cons (rv_cell rfl) (.cons (rv_cell rfl) .nil))) rfl (List.Sublist.refl _) ?_
            exact .inr ⟨hlt, ⟨_, _, rfl⟩, ExC.ex⟩
      · refine op_move ?_
        refine ta_two 1 4 (by kernel_rfl) rfl (by decide) rfl (by decide) ?_ ?_
        · refine op_move ?_
          refine ta_two 2 4 (by kernel_rfl) rfl (by decide) rfl (by decide) ?_ ?_
          · (refine op_call ((bufLen kb T a 0 c _ _ _ (List.mem_cons_of_mem _ (List.mem_append_left _ m1))).mono ?_); rintro _ _ ⟨rfl, rfl⟩)
            refine ta_two10 4 5 (by kernel_rfl) rfl (by decide) rfl ?_ ?_
            · refine op_iface_someq ?_
              refine ta_only0 5 (by kernel_rfl) rfl ?_
              refine op_storeK rfl ?_
              refine ta_only0 6 (by kernel_rfl) rfl ?_
              refine op_storeK rfl ?_
              refine ta_only0 7 (by kernel_rfl) rfl ?_
              refine op_storeK rfl ?_
              refine ta_done (by kernel_rfl) ?_
              repeat' first
                | (first | refine tl_defer ?_ | refine tc_seq ?_ | refine tc_region ?_ | refine at_seq_normal ?_ | refine tl_nil ?_ | refine tl_cons ?_ | refine tl_cons_none ?_ | refine op_move ?_ | refine op_assign ?_ | refine op_load ?_ | refine op_load_agg ?_ | refine op_icmp ?_ | refine op_fcmp ?_ | refine op_iarith ?_ | refine op_bcmp ?_ | refine op_extract ?_ | refine op_makeInterface ?_ | refine op_ptr_nil ?_ | refine op_makeMeth ?_ | refine op_makeFunc ?_ | refine op_iquo ?_ | refine op_irem ?_ | refine op_ibits ?_ | refine op_slice_isnil ?_ | refine op_slice_notnil ?_ | refine op_shl ?_ | refine op_shr ?_ | (refine op_alloc ?_; intro _) | (refine op_farith ?_; intro _ _) | refine op_store0 ?_ | refine op_store1 ?_ | refine op_store2 ?_ | refine op_store3 ?_ | refine op_store4 ?_ | refine op_store5 ?_ | refine op_storeK rfl ?_ | refine op_loadK rfl ?_ | refine op_load_aggK rfl ?_ | refine tc_ret ?_ | refine at_seq_ret ?_ | fail)
                | fail
              refine ret_door (m := 3) rfl rfl (.cons (rv_cell rfl) (.cons (rv_cell rfl) (.cons (rv_cell rfl) .nil))) rfl (List.Sublist.refl _) ?_
              exact .inr ⟨hlt, ⟨_, _, rfl⟩, ExC.ex⟩
            · refine op_storeK rfl ?_
              refine ta_two10 4 6 (by kernel_rfl) rfl (by decide) rfl ?_ ?_
              · refine op_iface_someq ?_
                refine ta_only0 6 (by kernel_rfl) rfl ?_
                refine op_storeK rfl ?_
                refine ta_only0 7 (by kernel_rfl) rfl ?_
                refine op_storeK rfl ?_
                refine ta_done (by kernel_rfl) ?_
                repeat' first
                  | (first | refine tl_defer ?_ | refine tc_seq ?_ | refine tc_region ?_ | refine at_seq_normal ?_ | refine tl_nil ?_ | refine tl_cons ?_ | refine tl_cons_none ?_ | refine op_move ?_ | refine op_assign ?_ | refine op_load ?_ | refine op_load_agg ?_ | refine op_icmp ?_ | refine op_fcmp ?_ | refine op_iarith ?_ | refine op_bcmp ?_ | refine op_extract ?_ | refine op_makeInterface ?_ | refine op_ptr_nil ?_ | refine op_makeMeth ?_ | refine op_makeFunc ?_ | refine op_iquo ?_ | refine op_irem ?_ | refine op_ibits ?_ | refine op_slice_isnil ?_ | refine op_slice_notnil ?_ | refine op_shl ?_ | refine op_shr ?_ | (refine op_alloc ?_; intro _) | (refine op_farith ?_; intro _ _) | refine op_store0 ?_ | refine op_store1 ?_ | refine op_store2 ?_ | refine op_store3 ?_ | refine op_store4 ?_ | refine op_store5 ?_ | refine op_storeK rfl ?_ | refine op_loadK rfl ?_ | refine op_load_aggK rfl ?_ | refine tc_ret ?_ | refine at_seq_ret ?_ | fail)
                  | fail
                refine ret_door (m := 3) rfl rfl (.cons (rv_cell rfl) (.cons (rv_cell rfl) (.cons (rv_cell rfl) .nil))) rfl (List.Sublist.refl _) ?_
                exact .inr ⟨hlt, ⟨_, _, rfl⟩, ExC.ex⟩
              · refine op_storeK rfl ?_
                refine ta_only 4 (by kernel_rfl) rfl (by decide) ?_
                refine op_iface_someq ?_
                refine ta_only0 7 (by kernel_rfl) rfl ?_
                refine op_storeK rfl ?_
                refine ta_done (by kernel_rfl) ?_
                repeat' first
                  | (first | refine tl_defer ?_ | refine tc_seq ?_ | refine tc_region ?_ | refine at_seq_normal ?_ | refine tl_nil ?_ | refine tl_cons ?_ | refine tl_cons_none ?_ | refine op_move ?_ | refine op_assign ?_ | refine op_load ?_ | refine op_load_agg ?_ | refine op_icmp ?_ | refine op_fcmp ?_ | refine op_iarith ?_ | refine op_bcmp ?_ | refine op_extract ?_ | refine op_makeInterface ?_ | refine op_ptr_nil ?_ | refine op_makeMeth ?_ | refine op_makeFunc ?_ | refine op_iquo ?_ | refine op_irem ?_ | refine op_ibits ?_ | refine op_slice_isnil ?_ | refine op_slice_notnil ?_ | refine op_shl ?_ | refine op_shr ?_ | (refine op_alloc ?_; intro _) | (refine op_farith ?_; intro _ _) | refine op_store0 ?_ | refine op_store1 ?_ | refine op_store2 ?_ | refine op_store3 ?_ | refine op_store4 ?_ | refine op_store5 ?_ | refine op_storeK rfl ?_ | refine op_loadK rfl ?_ | refine op_load_aggK rfl ?_ | refine tc_ret ?_ | refine at_seq_ret ?_ | fail)
                  | fail
                refine ret_door (m := 3) rfl rfl (.cons (rv_cell rfl) (.cons (rv_cell rfl) (.cons (rv_cell rfl) .nil))) rfl (List.Sublist.refl _) ?_
                exact .inr ⟨hlt, ⟨_, _, rfl⟩, ExC.ex⟩
          · refine op_iface_someq ?_
            refine ta_only 2 (by kernel_rfl) rfl (by decide) ?_
            (refine op_call ((bufLen kb T a 0 c _ _ _ (List.mem_cons_of_mem _ (List.mem_append_left _ m1))).mono ?_); rintro _ _ ⟨rfl, rfl⟩)
            refine ta_only0 5 (by kernel_rfl) rfl ?_
            refine op_storeK rfl ?_
            refine ta_only0 6 (by kernel_rfl) rfl ?_
            refine op_storeK rfl ?_
            refine ta_only0 7 (by kernel_rfl) rfl ?_
            refine op_storeK rfl ?_
            refine ta_done (by kernel_rfl) ?_
            repeat' first
              | (first | refine tl_defer ?_ | refine tc_seq ?_ | refine tc_region ?_ | refine at_seq_normal ?_ | refine tl_nil ?_ | refine tl_cons ?_ | refine tl_cons_none ?_ | refine op_move ?_ | refine op_assign ?_ | refine op_load ?_ | refine op_load_agg ?_ | refine op_icmp ?_ | refine op_fcmp ?_ | refine op_iarith ?_ | refine op_bcmp ?_ | refine op_extract ?_ | refine op_makeInterface ?_ | refine op_ptr_nil ?_ | refine op_makeMeth ?_ | refine op_makeFunc ?_ | refine op_iquo ?_ | refine op_irem ?_ | refine op_ibits ?_ | refine op_slice_isnil ?_ | refine op_slice_notnil ?_ | refine op_shl ?_ | refine op_shr ?_ | (refine op_alloc ?_; intro _) | (refine op_farith ?_; intro _ _) | refine op_store0 ?_ | refine op_store1 ?_ | refine op_store2 ?_ | refine op_store3 ?_ | refine op_store4 ?_ | refine op_store5 ?_ | refine op_storeK rfl ?_ | refine op_loadK rfl ?_ | refine op_load_aggK rfl ?_ | refine tc_ret ?_ | refine at_seq_ret ?_ | fail)
              | fail
            refine ret_door (m := 3) rfl rfl (.cons (rv_cell rfl) (.cons (rv_cell rfl) (.cons (rv_cell rfl) .nil))) rfl (List.Sublist.refl _) ?_
            exact .inr ⟨hlt, ⟨_, _, rfl⟩, ExC.ex⟩
        · refine op_iface_someq ?_
          refine ta_only 1 (by kernel_rfl) rfl (by decide) ?_
          refine op_move ?_
          refine ta_only 2 (by kernel_rfl) rfl (by decide) ?_
          (refine op_call ((bufLen kb T a 0 c _ _ _ (List.mem_cons_of_mem _ (List.mem_append_left _ m1))).mono ?_); rintro _ _ ⟨rfl, rfl⟩)
          refine ta_only0 5 (by kernel_rfl) rfl ?_
          refine op_storeK rfl ?_
          refine ta_only0 6 (by kernel_rfl) rfl ?_
          refine op_storeK rfl ?_
          refine ta_only0 7 (by kernel_rfl) rfl ?_
          refine op_storeK rfl ?_
          refine ta_done (by kernel_rfl) ?_
          repeat' first
            | (first | refine tl_defer ?_ | refine tc_seq ?_ | refine tc_region ?_ | refine at_seq_normal ?_ | refine tl_nil ?_ | refine tl_cons ?_ | refine tl_cons_none ?_ | refine op_move ?_ | refine op_assign ?_ | refine op_load ?_ | refine op_load_agg ?_ | refine op_icmp ?_ | refine op_fcmp ?_ | refine op_iarith ?_ | refine op_bcmp ?_ | refine op_extract ?_ | refine op_makeInterface ?_ | refine op_ptr_nil ?_ | refine op_makeMeth ?_ | refine op_makeFunc ?_ | refine op_iquo ?_ | refine op_irem ?_ | refine op_ibits ?_ | refine op_slice_isnil ?_ | refine op_slice_notnil ?_ | refine op_shl ?_ | refine op_shr ?_ | (refine op_alloc ?_; intro _) | (refine op_farith ?_; intro _ _) | refine op_store0 ?_ | refine op_store1 ?_ | refine op_store2 ?_ | refine op_store3 ?_ | refine op_store4 ?_ | refine op_store5 ?_ | refine op_storeK rfl ?_ | refine op_loadK rfl ?_ | refine op_load_aggK rfl ?_ | refine tc_ret ?_ | refine at_seq_ret ?_ | fail)
            | fail
          refine ret_door (m := 3) rfl rfl (.cons (rv_cell rfl) (.cons (rv_cell rfl) (.cons (rv_cell rfl) .nil))) rfl (List.Sublist.refl _) ?_
          exact .inr ⟨hlt, ⟨_, _, rfl⟩, ExC.ex⟩
    · refine op_move ?_
      refine ta_three 0 2 3 (by kernel_rfl) rfl (by decide) rfl (by decide) rfl (by decide) ?_ ?_ ?_
      · refine op_loadK rfl ?_
        refine ta_two 2 3 (by kernel_rfl) rfl (by decide) rfl (by decide) ?_ ?_
        · (refine op_call ((bufLen kb T a 0 c _ _ _ (List.mem_cons_of_mem _ (List.mem_append_left _ m1))).mono ?_); rintro _ _ ⟨rfl, rfl⟩)
          refine ta_two10 3 5 (by kernel_rfl) rfl (by decide) rfl ?_ ?_
          · refine op_move ?_
            refine ta_two10 4 5 (by kernel_rfl) rfl (by decide) rfl ?_ ?_
            · refine op_iface_someq ?_
              refine ta_only0 5 (by kernel_rfl) rfl ?_
              refine op_storeK rfl ?_
              refine ta_only0 6 (by kernel_rfl) rfl ?_
              refine op_storeK rfl ?_
              refine ta_only0 7 (by kernel_rfl) rfl ?_
              refine op_storeK rfl ?_
              refine ta_done (by kernel_rfl) ?_
              repeat' first
                | (first | refine tl_defer ?_ | refine tc_seq ?_ | refine tc_region ?_ | refine at_seq_normal ?_ | refine tl_nil ?_ | refine tl_cons ?_ | refine tl_cons_none ?_ | refine op_move ?_ | refine op_assign ?_ | refine op_load ?_ | refine op_load_agg ?_ | refine op_icmp ?_ | refine op_fcmp ?_ | refine op_iarith ?_ | refine op_bcmp ?_ | refine op_extract ?_ | refine op_makeInterface ?_ | refine op_ptr_nil ?_ | refine op_makeMeth ?_ | refine op_makeFunc ?_ | refine op_iquo ?_ | refine op_irem ?_ | refine op_ibits ?_ | refine op_slice_isnil ?_ | refine op_slice_notnil ?_ | refine op_shl ?_ | refine op_shr ?_ | (refine op_alloc ?_; intro _) | (refine op_farith ?_; intro _ _) | refine op_store0 ?_ | refine op_store1 ?_ | refine op_store2 ?_ | refine op_store3 ?_ | refine op_store4 ?_ | refine op_store5 ?_ | refine op_storeK rfl ?_ | refine op_loadK rfl ?_ | refine op_load_aggK rfl ?_ | refine tc_ret ?_ | refine at_seq_ret ?_ | fail)
                | fail
              refine ret_door (m := 3) rfl rfl (.cons (rv_cell rfl) (.cons (rv_cell rfl) (.cons (rv_cell rfl) .nil))) rfl (List.Sublist.refl _) ?_
              exact .inr ⟨hlt, ⟨_, _, rfl⟩, ExC.ex⟩
            · refine op_storeK rfl ?_
              refine ta_two10 4 6 (by kernel_rfl) rfl (by decide) rfl ?_ ?_
              · refine op_iface_someq ?_
                refine ta_only0 6 (by kernel_rfl) rfl ?_
                refine op_storeK rfl ?_
                refine ta_only0 7 (by kernel_rfl) rfl ?_
                refine op_storeK rfl ?_
                refine ta_done (by kernel_rfl) ?_
                repeat' first
                  | (first | refine tl_defer ?_ | refine tc_seq ?_ | refine tc_region ?_ | refine at_seq_normal ?_ | refine tl_nil ?_ | refine tl_cons ?_ | refine tl_cons_none ?_ | refine op_move ?_ | refine op_assign ?_ | refine op_load ?_ | refine op_load_agg ?_ | refine op_icmp ?_ | refine op_fcmp ?_ | refine op_iarith ?_ | refine op_bcmp ?_ | refine op_extract ?_ | refine op_makeInterface ?_ | refine op_ptr_nil ?_ | refine op_makeMeth ?_ | refine op_makeFunc ?_ | refine op_iquo ?_ | refine op_irem ?_ | refine op_ibits ?_ | refine op_slice_isnil ?_ | refine op_slice_notnil ?_ | refine op_shl ?_ | refine op_shr ?_ | (refine op_alloc ?_; intro _) | (refine op_farith ?_; intro _ _) | refine op_store0 ?_ | refine op_store1 ?_ | refine op_store2 ?_ | refine op_store3 ?_ | refine op_store4 ?_ | refine op_store5 ?_ | refine op_storeK rfl ?_ | refine op_loadK rfl ?_ | refine op_load_aggK rfl ?_ | refine tc_ret ?_ | refine at_seq_ret ?_ | fail)
                  | fail
                refine ret_door (m := 3) rfl rfl (.cons (rv_cell rfl) (.cons (rv_cell rfl) (.cons (rv_cell rfl) .nil))) rfl (List.Sublist.refl _) ?_
                exact .inr ⟨hlt, ⟨_, _, rfl⟩, ExC.ex⟩
              · refine op_storeK rfl ?_
                refine ta_only 4 (by kernel_rfl) rfl (by decide) ?_
                refine op_iface_someq ?_
                refine ta_only0 7 (by kernel_rfl) rfl ?_
                refine op_storeK rfl ?_
                refine ta_done (by kernel_rfl) ?_
                repeat' first
                  | (first | refine tl_defer ?_ | refine tc_seq ?_ | refine tc_region ?_ | refine at_seq_normal ?_ | refine tl_nil ?_ | refine tl_cons ?_ | refine tl_cons_none ?_ | refine op_move ?_ | refine op_assign ?_ | refine op_load ?_ | refine op_load_agg ?_ | refine op_icmp ?_ | refine op_fcmp ?_ | refine op_iarith ?_ | refine op_bcmp ?_ | refine op_extract ?_ | refine op_makeInterface ?_ | refine op_ptr_nil ?_ | refine op_makeMeth ?_ | refine op_makeFunc ?_ | refine op_iquo ?_ | refine op_irem ?_ | refine op_ibits ?_ | refine op_slice_isnil ?_ | refine op_slice_notnil ?_ | refine op_shl ?_ | refine op_shr ?_ | (refine op_alloc ?_; intro _) | (refine op_farith ?_; intro _ _) | refine op_store0 ?_ | refine op_store1 ?_ | refine op_store2 ?_ | refine op_store3 ?_ | refine op_store4 ?_ | refine op_store5 ?_ | refine op_storeK rfl ?_ | refine op_loadK rfl ?_ | refine op_load_aggK rfl ?_ | refine tc_ret ?_ | refine at_seq_ret ?_ | fail)
                  | fail
                refine ret_door (m := 3) rfl rfl (.cons (rv_cell rfl) (.cons (rv_cell rfl) (.cons (rv_cell rfl) .nil))) rfl (List.Sublist.refl _) ?_
                exact .inr ⟨hlt, ⟨_, _, rfl⟩, ExC.ex⟩
          · refine op_storeK rfl ?_
            refine ta_two10 3 6 (by kernel_rfl) rfl (by decide) rfl ?_ ?_
            · refine op_move ?_
              refine ta_two10 4 6 (by kernel_rfl) rfl (by decide) rfl ?_ ?_
              · refine op_iface_someq ?_
                refine ta_only0 6 (by kernel_rfl) rfl ?_
                refine op_storeK rfl ?_
                refine ta_only0 7 (by kernel_rfl) rfl ?_
                refine op_storeK rfl ?_
                refine ta_done (by kernel_rfl) ?_
                repeat' first
                  | (first | refine tl_defer ?_ | refine tc_seq ?_ | refine tc_region ?_ | refine at_seq_normal ?_ | refine tl_nil ?_ | refine tl_cons ?_ | refine tl_cons_none ?_ | refine op_move ?_ | refine op_assign ?_ | refine op_load ?_ | refine op_load_agg ?_ | refine op_icmp ?_ | refine op_fcmp ?_ | refine op_iarith ?_ | refine op_bcmp ?_ | refine op_extract ?_ | refine op_makeInterface ?_ | refine op_ptr_nil ?_ | refine op_makeMeth ?_ | refine op_makeFunc ?_ | refine op_iquo ?_ | refine op_irem ?_ | refine op_ibits ?_ | refine op_slice_isnil ?_ | refine op_slice_notnil ?_ | refine op_shl ?_ | refine op_shr ?_ | (refine op_alloc ?_; intro _) | (refine op_farith ?_; intro _ _) | refine op_store0 ?_ | refine op_store1 ?_ | refine op_store2 ?_ | refine op_store3 ?_ | refine op_store4 ?_ | refine op_store5 ?_ | refine op_storeK rfl ?_ | refine op_loadK rfl ?_ | refine op_load_aggK rfl ?_ | refine tc_ret ?_ | refine at_seq_ret ?_ | fail)
                  | fail
                refine ret_door (m := 3) rfl rfl (.cons (rv_cell rfl) (.cons (rv_cell rfl) (.cons (rv_cell rfl) .nil))) rfl (List.Sublist.refl _) ?_
                exact .inr ⟨hlt, ⟨_, _, rfl⟩, ExC.ex⟩
              · refine op_storeK rfl ?_
                refine ta_only 4 (by kernel_rfl) rfl (by decide) ?_
                refine op_iface_someq ?_
                refine ta_only0 7 (by kernel_rfl) rfl ?_
                refine op_storeK rfl ?_
                refine ta_done (by kernel_rfl) ?_
                repeat' first
                  | (first | refine tl_defer ?_ | refine tc_seq ?_ | refine tc_region ?_ | refine at_seq_normal ?_ | refine tl_nil ?_ | refine tl_cons ?_ | refine tl_cons_none ?_ | refine op_move ?_ | refine op_assign ?_ | refine op_load ?_ | refine op_load_agg ?_ | refine op_icmp ?_ | refine op_fcmp ?_ | refine op_iarith ?_ | refine op_bcmp ?_ | refine op_extract ?_ | refine op_makeInterface ?_ | refine op_ptr_nil ?_ | refine op_makeMeth ?_ | refine op_makeFunc ?_ | refine op_iquo ?_ | refine op_irem ?_ | refine op_ibits ?_ | refine op_slice_isnil ?_ | refine op_slice_notnil ?_ | refine op_shl ?_ | refine op_shr ?_ | (refine op_alloc ?_; intro _) | (refine op_farith ?_; intro _ _) | refine op_store0 ?_ | refine op_store1 ?_ | refine op_store2 ?_ | refine op_store3 ?_ | refine op_store4 ?_ | refine op_store5 ?_ | refine op_storeK rfl ?_ | refine op_loadK rfl ?_ | refine op_load_aggK rfl ?_ | refine tc_ret ?_ | refine at_seq_ret ?_ | fail)
                  | fail
                refine ret_door (m := 3) rfl rfl (.cons (rv_cell rfl) (.cons (rv_cell rfl) (.cons (rv_cell rfl) .nil))) rfl (List.Sublist.refl _) ?_
                exact .inr ⟨hlt, ⟨_, _, rfl⟩, ExC.ex⟩
            · refine op_storeK rfl ?_
              refine ta_only 3 (by kernel_rfl) rfl (by decide) ?_
              refine op_move ?_
              refine ta_only 4 (by kernel_rfl) rfl (by decide) ?_
              refine op_iface_someq ?_
              refine ta_only0 7 (by kernel_rfl) rfl ?_
              refine op_storeK rfl ?_
              refine ta_done (by kernel_rfl) ?_
              repeat' first
                | (first | refine tl_defer ?_ | refine tc_seq ?_ | refine tc_region ?_ | refine at_seq_normal ?_ | refine tl_nil ?_ | refine tl_cons ?_ | refine tl_cons_none ?_ | refine op_move ?_ | refine op_assign ?_ | refine op_load ?_ | refine op_load_agg ?_ | refine op_icmp ?_ | refine op_fcmp ?_ | refine op_iarith ?_ | refine op_bcmp ?_ | refine op_extract ?_ | refine op_makeInterface ?_ | refine op_ptr_nil ?_ | refine op_makeMeth ?_ | refine op_makeFunc ?_ | refine op_iquo ?_ | refine op_irem ?_ | refine op_ibits ?_ | refine op_slice_isnil ?_ | refine op_slice_notnil ?_ | refine op_shl ?_ | refine op_shr ?_ | (refine op_alloc ?_; intro _) | (refine op_farith ?_; intro _ _) | refine op_store0 ?_ | refine op_store1 ?_ | refine op_store2 ?_ | refine op_store3 ?_ | refine op_store4 ?_ | refine op_store5 ?_ | refine op_storeK rfl ?_ | refine op_loadK rfl ?_ | refine op_load_aggK rfl ?_ | refine tc_ret ?_ | refine at_seq_ret ?_ | fail)
                | fail
              refine ret_door (m := 3) rfl rfl (.cons (rv_cell rfl) (.cons (rv_cell rfl) (.cons (rv_cell rfl) .nil))) rfl (List.Sublist.refl _) ?_
              exact .inr ⟨hlt, ⟨_, _, rfl⟩, ExC.ex⟩
        · refine op_move ?_
          refine ta_two 2 4 (by kernel_rfl) rfl (by decide) rfl (by decide) ?_ ?_
          · (refine op_call ((bufLen kb T a 0 c _ _ _ (List.mem_cons_of_mem _ (List.mem_append_left _ m1))).mono ?_); rintro _ _ ⟨rfl, rfl⟩)
            refine ta_two10 4 5 (by kernel_rfl) rfl (by decide) rfl ?_ ?_
            · refine op_iface_someq ?_
              refine ta_only0 5 (by kernel_rfl) rfl ?_
              refine op_storeK rfl ?_
              refine ta_only0 6 (by kernel_rfl) rfl ?_
              refine op_storeK rfl ?_
              refine ta_only0 7 (by kernel_rfl) rfl ?_
              refine op_storeK rfl ?_
              refine ta_done (by kernel_rfl) ?_
              repeat' first
                | (first | refine tl_defer ?_ | refine tc_seq ?_ | refine tc_region ?_ | refine at_seq_normal ?_ | refine tl_nil ?_ | refine tl_cons ?_ | refine tl_cons_none ?_ | refine op_move ?_ | refine op_assign ?_ | refine op_load ?_ | refine op_load_agg ?_ | refine op_icmp ?_ | refine op_fcmp ?_ | refine op_iarith ?_ | refine op_bcmp ?_ | refine op_extract ?_ | refine op_makeInterface ?_ | refine op_ptr_nil ?_ | refine op_makeMeth ?_ | refine op_makeFunc ?_ | refine op_iquo ?_ | refine op_irem ?_ | refine op_ibits ?_ | refine op_slice_isnil ?_ | refine op_slice_notnil ?_ | refine op_shl ?_ | refine op_shr ?_ | (refine op_alloc ?_; intro _) | (refine op_farith ?_; intro _ _) | refine op_store0 ?_ | refine op_store1 ?_ | refine op_store2 ?_ | refine op_store3 ?_ | refine op_store4 ?_ | refine op_store5 ?_ | refine op_storeK rfl ?_ | refine op_loadK rfl ?_ | refine op_load_aggK rfl ?_ | refine tc_ret ?_ | refine at_seq_ret ?_ | fail)
                | fail
              refine ret_door (m := 3) rfl rfl (.cons (rv_cell rfl) (.cons (rv_cell rfl) (.cons (rv_cell rfl) .nil))) rfl (List.Sublist.refl _) ?_
              exact .inr ⟨hlt, ⟨_, _, rfl⟩, ExC.ex⟩
            · refine op_storeK rfl ?_
              refine ta_two10 4 6 (by kernel_rfl) rfl (by decide) rfl ?_ ?_
              · refine op_iface_someq ?_
                refine ta_only0 6 (by kernel_rfl) rfl ?_
                refine op_storeK rfl ?_
                refine ta_only0 7 (by kernel_rfl) rfl ?_
                refine op_storeK rfl ?_
                refine ta_done (by kernel_rfl) ?_
                repeat' first
                  | (first | refine tl_defer ?_ | refine tc_seq ?_ | refine tc_region ?_ | refine at_seq_normal ?_ | refine tl_nil ?_ | refine tl_cons ?_ | refine tl_cons_none ?_ | refine op_move ?_ | refine op_assign ?_ | refine op_load ?_ | refine op_load_agg ?_ | refine op_icmp ?_ | refine op_fcmp ?_ | refine op_iarith ?_ | refine op_bcmp ?_ | refine op_extract ?_ | refine op_makeInterface ?_ | refine op_ptr_nil ?_ | refine op_makeMeth ?_ | refine op_makeFunc ?_ | refine op_iquo ?_ | refine op_irem ?_ | refine op_ibits ?_ | refine op_slice_isnil ?_ | refine op_slice_notnil ?_ | refine op_shl ?_ | refine op_shr ?_ | (refine op_alloc ?_; intro _) | (refine op_farith ?_; intro _ _) | refine op_store0 ?_ | refine op_store1 ?_ | refine op_store2 ?_ | refine op_store3 ?_ | refine op_store4 ?_ | refine op_store5 ?_ | refine op_storeK rfl ?_ | refine op_loadK rfl ?_ | refine op_load_aggK rfl ?_ | refine tc_ret ?_ | refine at_seq_ret ?_ | fail)
                  | fail
                refine ret_door (m := 3) rfl rfl (.cons (rv_cell rfl) (.cons (rv_cell rfl) (.cons (rv_cell rfl) .nil))) rfl (List.Sublist.refl _) ?_
                exact .inr ⟨hlt, ⟨_, _, rfl⟩, ExC.ex⟩
              · refine op_storeK rfl ?_
                refine ta_only 4 (by kernel_rfl) rfl (by decide) ?_
                refine op_iface_someq ?_
                refine ta_only0 7 (by kernel_rfl) rfl ?_
                refine op_storeK rfl ?_
                refine ta_done (by kernel_rfl) ?_
                repeat' first
                  | (first | refine tl_defer ?_ | refine tc_seq ?_ | refine tc_region ?_ | refine at_seq_normal ?_ | refine tl_nil ?_ | refine tl_cons ?_ | refine tl_cons_none ?_ | refine op_move ?_ | refine op_assign ?_ | refine op_load ?_ | refine op_load_agg ?_ | refine op_icmp ?_ | refine op_fcmp ?_ | refine op_iarith ?_ | refine op_bcmp ?_ | refine op_extract ?_ | refine op_makeInterface ?_ | refine op_ptr_nil ?_ | refine op_makeMeth ?_ | refine op_makeFunc ?_ | refine op_iquo ?_ | refine op_irem ?_ | refine op_ibits ?_ | refine op_slice_isnil ?_ | refine op_slice_notnil ?_ | refine op_shl ?_ | refine op_shr ?_ | (refine op_alloc ?_; intro _) | (refine op_farith ?_; intro _ _) | refine op_store0 ?_ | refine op_store1 ?_ | refine op_store2 ?_ | refine op_store3 ?_ | refine op_store4 ?_ | refine op_store5 ?_ | refine op_storeK rfl ?_ | refine op_loadK rfl ?_ | refine op_load_aggK rfl ?_ | refine tc_ret ?_ | refine at_seq_ret ?_ | fail)
                  | fail
                refine ret_door (m := 3) rfl rfl (.cons (rv_cell rfl) (.cons (rv_cell rfl) (.cons (rv_cell rfl) .nil))) rfl (List.Sublist.refl _) ?_
                exact .inr ⟨hlt, ⟨_, _, rfl⟩, ExC.ex⟩
          · refine op_iface_someq ?_
            refine ta_only 2 (by kernel_rfl) rfl (by decide) ?_
            (refine op_call ((bufLen kb T a 0 c _ _ _ (List.mem_cons_of_mem _ (List.mem_append_left _ m1))).mono ?_); rintro _ _ ⟨rfl, rfl⟩)
            refine ta_only0 5 (by kernel_rfl) rfl ?_
            refine op_storeK rfl ?_
            refine ta_only0 6 (by kernel_rfl) rfl ?_
            refine op_storeK rfl ?_
            refine ta_only0 7 (by kernel_rfl) rfl ?_
            refine op_storeK rfl ?_
            refine ta_done (by kernel_rfl) ?_
            repeat' first
              | (first | refine tl_defer ?_ | refine tc_seq ?_ | refine tc_region ?_ | refine at_seq_normal ?_ | refine tl_nil ?_ | refine tl_cons ?_ | refine tl_cons_none ?_ | refine op_move ?_ | refine op_assign ?_ | refine op_load ?_ | refine op_load_agg ?_ | refine op_icmp ?_ | refine op_fcmp ?_ | refine op_iarith ?_ | refine op_bcmp ?_ | refine op_extract ?_ | refine op_makeInterface ?_ | refine op_ptr_nil ?_ | refine op_makeMeth ?_ | refine op_makeFunc ?_ | refine op_iquo ?_ | refine op_irem ?_ | refine op_ibits ?_ | refine op_slice_isnil ?_ | refine op_slice_notnil ?_ | refine op_shl ?_ | refine op_shr ?_ | (refine op_alloc ?_; intro _) | (refine op_farith ?_; intro _ _) | refine op_store0 ?_ | refine op_store1 ?_ | refine op_store2 ?_ | refine op_store3 ?_ | refine op_store4 ?_ | refine op_store5 ?_ | refine op_storeK rfl ?_ | refine op_loadK rfl ?_ | refine op_load_aggK rfl ?_ | refine tc_ret ?_ | refine at_seq_ret ?_ | fail)
              | fail
            refine ret_door (m := 3) rfl rfl (.cons (rv_cell rfl) (.cons (rv_cell rfl) (.cons (rv_cell rfl) .nil))) rfl (List.Sublist.refl _) ?_
            exact .inr ⟨hlt, ⟨_, _, rfl⟩, ExC.ex⟩
      · (refine op_call ((bufLen kb T a 0 c _ _ _ (List.mem_cons_of_mem _ (List.mem_append_left _ m1))).mono ?_); rintro _ _ ⟨rfl, rfl⟩)
        refine ta_two 0 3 (by kernel_rfl) rfl (by decide) rfl (by decide) ?_ ?_
        · refine op_loadK rfl ?_
          refine ta_two10 3 5 (by kernel_rfl) rfl (by decide) rfl ?_ ?_
          · refine op_move ?_
            refine ta_two10 4 5 (by kernel_rfl) rfl (by decide) rfl ?_ ?_
            · refine op_iface_someq ?_
              refine ta_only0 5 (by kernel_rfl) rfl ?_
              refine op_storeK rfl ?_
              refine ta_only0 6 (by kernel_rfl) rfl ?_
              refine op_storeK rfl ?_
              refine ta_only0 7 (by kernel_rfl) rfl ?_
              refine op_storeK rfl ?_
              refine ta_done (by kernel_rfl) ?_
              repeat' first
                | (first | refine tl_defer ?_ | refine tc_seq ?_ | refine tc_region ?_ | refine at_seq_normal ?_ | refine tl_nil ?_ | refine tl_cons ?_ | refine tl_cons_none ?_ | refine op_move ?_ | refine op_assign ?_ | refine op_load ?_ | refine op_load_agg ?_ | refine op_icmp ?_ | refine op_fcmp ?_ | refine op_iarith ?_ | refine op_bcmp ?_ | refine op_extract ?_ | refine op_makeInterface ?_ | refine op_ptr_nil ?_ | refine op_makeMeth ?_ | refine op_makeFunc ?_ | refine op_iquo ?_ | refine op_irem ?_ | refine op_ibits ?_ | refine op_slice_isnil ?_ | refine op_slice_notnil ?_ | refine op_shl ?_ | refine op_shr ?_ | (refine op_alloc ?_; intro _) | (refine op_farith ?_; intro _ _) | refine op_store0 ?_ | refine op_store1 ?_ | refine op_store2 ?_ | refine op_store3 ?_ | refine op_store4 ?_ | refine op_store5 ?_ | refine op_storeK rfl ?_ | refine op_loadK rfl ?_ | refine op_load_aggK rfl ?_ | refine tc_ret ?_ | refine at_seq_ret ?_ | fail)
                | fail
              refine ret_door (m := 3) rfl rfl (.cons (rv_cell rfl) (.cons (rv_cell rfl) (.cons (rv_cell rfl) .nil))) rfl (List.Sublist.refl _) ?_
              exact .inr ⟨hlt, ⟨_, _, rfl⟩, ExC.ex⟩
            · refine op_storeK rfl ?_
              refine ta_two10 4 6 (by kernel_rfl) rfl (by decide) rfl ?_ ?_
              · refine op_iface_someq ?_
                refine ta_only0 6 (by kernel_rfl) rfl ?_
                refine op_storeK rfl ?_
                refine ta_only0 7 (by kernel_rfl) rfl ?_
                refine op_storeK rfl ?_
                refine ta_done (by kernel_rfl) ?_
                repeat' first
                  | (first | refine tl_defer ?_ | refine tc_seq ?_ | refine tc_region ?_ | refine at_seq_normal ?_ | refine tl_nil ?_ | refine tl_cons ?_ | refine tl_cons_none ?_ | refine op_move ?_ | refine op_assign ?_ | refine op_load ?_ | refine op_load_agg ?_ | refine op_icmp ?_ | refine op_fcmp ?_ | refine op_iarith ?_ | refine op_bcmp ?_ | refine op_extract ?_ | refine op_makeInterface ?_ | refine op_ptr_nil ?_ | refine op_makeMeth ?_ | refine op_makeFunc ?_ | refine op_iquo ?_ | refine op_irem ?_ | refine op_ibits ?_ | refine op_slice_isnil ?_ | refine op_slice_notnil ?_ | refine op_shl ?_ | refine op_shr ?_ | (refine op_alloc ?_; intro _) | (refine op_farith ?_; intro _ _) | refine op_store0 ?_ | refine op_store1 ?_ | refine op_store2 ?_ | refine op_store3 ?_ | refine op_store4 ?_ | refine op_store5 ?_ | refine op_storeK rfl ?_ | refine op_loadK rfl ?_ | refine op_load_aggK rfl ?_ | refine tc_ret ?_ | refine at_seq_ret ?_ | fail)
                  | fail
                refine ret_door (m := 3) rfl rfl (.cons (rv_cell rfl) (.cons (rv_cell rfl) (.cons (rv_cell rfl) .nil))) rfl (List.Sublist.refl _) ?_
                exact .inr ⟨hlt, ⟨_, _, rfl⟩, ExC.ex⟩
              · refine op_storeK rfl ?_
                refine ta_only 4 (by kernel_rfl) rfl (by decide) ?_
                refine op_iface_someq ?_
                refine ta_only0 7 (by kernel_rfl) rfl ?_
                refine op_storeK rfl ?_
                refine ta_done (by kernel_rfl) ?_
                repeat' first
                  | (first | refine tl_defer ?_ | refine tc_seq ?_ | refine tc_region ?_ | refine at_seq_normal ?_ | refine tl_nil ?_ | refine tl_cons ?_ | refine tl_cons_none ?_ | refine op_move ?_ | refine op_assign ?_ | refine op_load ?_ | refine op_load_agg ?_ | refine op_icmp ?_ | refine op_fcmp ?_ | refine op_iarith ?_ | refine op_bcmp ?_ | refine op_extract ?_ | refine op_makeInterface ?_ | refine op_ptr_nil ?_ | refine op_makeMeth ?_ | refine op_makeFunc ?_ | refine op_iquo ?_ | refine op_irem ?_ | refine op_ibits ?_ | refine op_slice_isnil ?_ | refine op_slice_notnil ?_ | refine op_shl ?_ | refine op_shr ?_ | (refine op_alloc ?_; intro _) | (refine op_farith ?_; intro _ _) | refine op_store0 ?_ | refine op_store1 ?_ | refine op_store2 ?_ | refine op_store3 ?_ | refine op_store4 ?_ | refine op_store5 ?_ | refine op_storeK rfl ?_ | refine op_loadK rfl ?_ | refine op_load_aggK rfl ?_ | refine tc_ret ?_ | refine at_seq_ret ?_ | fail)
                  | fail
                refine ret_door (m := 3) rfl rfl (.cons (rv_cell rfl) (.cons (rv_cell rfl) (.cons (rv_cell rfl) .nil))) rfl (List.Sublist.refl _) ?_
                exact .inr ⟨hlt, ⟨_, _, rfl⟩, ExC.ex⟩
          · refine op_storeK rfl ?_
            refine ta_two10 3 6 (by kernel_rfl) rfl (by decide) rfl ?_ ?_
            · refine op_move ?_
              refine ta_two10 4 6 (by kernel_rfl) rfl (by decide) rfl ?_ ?_
              · refine op_iface_someq ?_
                refine ta_only0 6 (by kernel_rfl) rfl ?_
                refine op_storeK rfl ?_
                refine ta_only0 7 (by kernel_rfl) rfl ?_
                refine op_storeK rfl ?_
                refine ta_done (by kernel_rfl) ?_
                repeat' first
                  | (first | refine tl_defer ?_ | refine tc_seq ?_ | refine tc_region ?_ | refine at_seq_normal ?_ | refine tl_nil ?_ | refine tl_cons ?_ | refine tl_cons_none ?_ | refine op_move ?_ | refine op_assign ?_ | refine op_load ?_ | refine op_load_agg ?_ | refine op_icmp ?_ | refine op_fcmp ?_ | refine op_iarith ?_ | refine op_bcmp ?_ | refine op_extract ?_ | refine op_makeInterface ?_ | refine op_ptr_nil ?_ | refine op_makeMeth ?_ | refine op_makeFunc ?_ | refine op_iquo ?_ | refine op_irem ?_ | refine op_ibits ?_ | refine op_slice_isnil ?_ | refine op_slice_notnil ?_ | refine op_shl ?_ | refine op_shr ?_ | (refine op_alloc ?_; intro _) | (refine op_farith ?_; intro _ _) | refine op_store0 ?_ | refine op_store1 ?_ | refine op_store2 ?_ | refine op_store3 ?_ | refine op_store4 ?_ | refine op_store5 ?_ | refine op_storeK rfl ?_ | refine op_loadK rfl ?_ | refine op_load_aggK rfl ?_ | refine tc_ret ?_ | refine at_seq_ret ?_ | fail)
                  | fail
                refine ret_door (m := 3) rfl rfl (.cons (rv_cell rfl) (.cons (rv_cell rfl) (.cons (rv_cell rfl) .nil))) rfl (List.Sublist.refl _) ?_
                exact .inr ⟨hlt, ⟨_, _, rfl⟩, ExC.ex⟩
              · refine op_storeK rfl ?_
                refine ta_only 4 (by kernel_rfl) rfl (by decide) ?_
                refine op_iface_someq ?_
                refine ta_only0 7 (by kernel_rfl) rfl ?_
                refine op_storeK rfl ?_
                refine ta_done (by kernel_rfl) ?_
                repeat' first
                  | (first | refine tl_defer ?_ | refine tc_seq ?_ | refine tc_region ?_ | refine at_seq_normal ?_ | refine tl_nil ?_ | refine tl_cons ?_ | refine tl_cons_none ?_ | refine op_move ?_ | refine op_assign ?_ | refine op_load ?_ | refine op_load_agg ?_ | refine op_icmp ?_ | refine op_fcmp ?_ | refine op_iarith ?_ | refine op_bcmp ?_ | refine op_extract ?_ | refine op_makeInterface ?_ | refine op_ptr_nil ?_ | refine op_makeMeth ?_ | refine op_makeFunc ?_ | refine op_iquo ?_ | refine op_irem ?_ | refine op_ibits ?_ | refine op_slice_isnil ?_ | refine op_slice_notnil ?_ | refine op_shl ?_ | refine op_shr ?_ | (refine op_alloc ?_; intro _) | (refine op_farith ?_; intro _ _) | refine op_store0 ?_ | refine op_store1 ?_ | refine op_store2 ?_ | refine op_store3 ?_ | refine op_store4 ?_ | refine op_store5 ?_ | refine op_storeK rfl ?_ | refine op_loadK rfl ?_ | refine op_load_aggK rfl ?_ | refine tc_ret ?_ | refine at_seq_ret ?_ | fail)
                  | fail
                refine ret_door (m := 3) rfl rfl (.cons (rv_cell rfl) (.cons (rv_cell rfl) (.cons (rv_cell rfl) .nil))) rfl (List.Sublist.refl _) ?_
                exact .inr ⟨hlt, ⟨_, _, rfl⟩, ExC.ex⟩
            · refine op_storeK rfl ?_
              refine ta_only 3 (by kernel_rfl) rfl (by decide) ?_
              refine op_move ?_
              refine ta_only 4 (by kernel_rfl) rfl (by decide) ?_
              refine op_iface_someq ?_
              refine ta_only0 7 (by kernel_rfl) rfl ?_
              refine op_storeK rfl ?_
              refine ta_done (by kernel_rfl) ?_
              repeat' first
                | (first | refine tl_defer ?_ | refine tc_seq ?_ | refine tc_region ?_ | refine at_seq_normal ?_ | refine tl_nil ?_ | refine tl_cons ?_ | refine tl_cons_none ?_ | refine op_move ?_ | refine op_assign ?_ | refine op_load ?_ | refine op_load_agg ?_ | refine op_icmp ?_ | refine op_fcmp ?_ | refine op_iarith ?_ | refine op_bcmp ?_ | refine op_extract ?_ | refine op_makeInterface ?_ | refine op_ptr_nil ?_ | refine op_makeMeth ?_ | refine op_makeFunc ?_ | refine op_iquo ?_ | refine op_irem ?_ | refine op_ibits ?_ | refine op_slice_isnil ?_ | refine op_slice_notnil ?_ | refine op_shl ?_ | refine op_shr ?_ | (refine op_alloc ?_; intro _) | (refine op_farith ?_; intro _ _) | refine op_store0 ?_ | refine op_store1 ?_ | refine op_store2 ?_ | refine op_store3 ?_ | refine op_store4 ?_ | refine op_store5 ?_ | refine op_storeK rfl ?_ | refine op_loadK rfl ?_ | refine op_load_aggK rfl ?_ | refine tc_ret ?_ | refine at_seq_ret ?_ | fail)
                | fail
              refine ret_door (m := 3) rfl rfl (.cons (rv_cell rfl) (.cons (rv_cell rfl) (.cons (rv_cell rfl) .nil))) rfl (List.Sublist.refl _) ?_
              exact .inr ⟨hlt, ⟨_, _, rfl⟩, ExC.ex⟩
        · refine op_move ?_
          refine ta_two 0 4 (by kernel_rfl) rfl (by decide) rfl (by decide) ?_ ?_
          · refine op_loadK rfl ?_
            refine ta_two10 4 5 (by kernel_rfl) rfl (by decide) rfl ?_ ?_
            · refine op_iface_someq ?_
              refine ta_only0 5 (by kernel_rfl) rfl ?_
              refine op_storeK rfl ?_
              refine ta_only0 6 (by kernel_rfl) rfl ?_
              refine op_storeK rfl ?_
              refine ta_only0 7 (by kernel_rfl) rfl ?_
              refine op_storeK rfl ?_
              refine ta_done (by kernel_rfl) ?_
              repeat' first
                | (first | refine tl_defer ?_ | refine tc_seq ?_ | refine tc_region ?_ | refine at_seq_normal ?_ | refine tl_nil ?_ | refine tl_cons ?_ | refine tl_cons_none ?_ | refine op_move ?_ | refine op_assign ?_ | refine op_load ?_ | refine op_load_agg ?_ | refine op_icmp ?_ | refine op_fcmp ?_ | refine op_iarith ?_ | refine op_bcmp ?_ | refine op_extract ?_ | refine op_makeInterface ?_ | refine op_ptr_nil ?_ | refine op_makeMeth ?_ | refine op_makeFunc ?_ | refine op_iquo ?_ | refine op_irem ?_ | refine op_ibits ?_ | refine op_slice_isnil ?_ | refine op_slice_notnil ?_ | refine op_shl ?_ | refine op_shr ?_ | (refine op_alloc ?_; intro _) | (refine op_farith ?_; intro _ _) | refine op_store0 ?_ | refine op_store1 ?_ | refine op_store2 ?_ | refine op_store3 ?_ | refine op_store4 ?_ | refine op_store5 ?_ | refine op_storeK rfl ?_ | refine op_loadK rfl ?_ | refine op_load_aggK rfl ?_ | refine tc_ret ?_ | refine at_seq_ret ?_ | fail)
                | fail
              refine ret_door (m := 3) rfl rfl (.cons (rv_cell rfl) (.cons (rv_cell rfl) (.cons (rv_cell rfl) .nil))) rfl (List.Sublist.refl _) ?_
              exact .inr ⟨hlt, ⟨_, _, rfl⟩, ExC.ex⟩
            · refine op_storeK rfl ?_
              refine ta_two10 4 6 (by kernel_rfl) rfl (by decide) rfl ?_ ?_
              · refine op_iface_someq ?_
                refine ta_only0 6 (by kernel_rfl) rfl ?_
                refine op_storeK rfl ?_
                refine ta_only0 7 (by kernel_rfl) rfl ?_
                refine op_storeK rfl ?_
                refine ta_done (by kernel_rfl) ?_
                repeat' first
                  | (first | refine tl_defer ?_ | refine tc_seq ?_ | refine tc_region ?_ | refine at_seq_normal ?_ | refine tl_nil ?_ | refine tl_cons ?_ | refine tl_cons_none ?_ | refine op_move ?_ | refine op_assign ?_ | refine op_load ?_ | refine op_load_agg ?_ | refine op_icmp ?_ | refine op_fcmp ?_ | refine op_iarith ?_ | refine op_bcmp ?_ | refine op_extract ?_ | refine op_makeInterface ?_ | refine op_ptr_nil ?_ | refine op_makeMeth ?_ | refine op_makeFunc ?_ | refine op_iquo ?_ | refine op_irem ?_ | refine op_ibits ?_ | refine op_slice_isnil ?_ | refine op_slice_notnil ?_ | refine op_shl ?_ | refine op_shr ?_ | (refine op_alloc ?_; intro _) | (refine op_farith ?_; intro _ _) | refine op_store0 ?_ | refine op_store1 ?_ | refine op_store2 ?_ | refine op_store3 ?_ | refine op_store4 ?_ | refine op_store5 ?_ | refine op_storeK rfl ?_ | refine op_loadK rfl ?_ | refine op_load_aggK rfl ?_ | refine tc_ret ?_ | refine at_seq_ret ?_ | fail)
                  | fail
                refine ret_door (m := 3) rfl rfl (.cons (rv_cell rfl) (.cons (rv_cell rfl) (.cons (rv_cell rfl) .nil))) rfl (List.Sublist.refl _) ?_
                exact .inr ⟨hlt, ⟨_, _, rfl⟩, ExC.ex⟩
              · refine op_storeK rfl ?_
                refine ta_only 4 (by kernel_rfl) rfl (by decide) ?_
                refine op_iface_someq ?_
                refine ta_only0 7 (by kernel_rfl) rfl ?_
                refine op_storeK rfl ?_
                refine ta_done (by kernel_rfl) ?_
                repeat' first
                  | (first | refine tl_defer ?_ | refine tc_seq ?_ | refine tc_region ?_ | refine at_seq_normal ?_ | refine tl_nil ?_ | refine tl_cons ?_ | refine tl_cons_none ?_ | refine op_move ?_ | refine op_assign ?_ | refine op_load ?_ | refine op_load_agg ?_ | refine op_icmp ?_ | refine op_fcmp ?_ | refine op_iarith ?_ | refine op_bcmp ?_ | refine op_extract ?_ | refine op_makeInterface ?_ | refine op_ptr_nil ?_ | refine op_makeMeth ?_ | refine op_makeFunc ?_ | refine op_iquo ?_ | refine op_irem ?_ | refine op_ibits ?_ | refine op_slice_isnil ?_ | refine op_slice_notnil ?_ | refine op_shl ?_ | refine op_shr ?_ | (refine op_alloc ?_; intro _) | (refine op_farith ?_; intro _ _) | refine op_store0 ?_ | refine op_store1 ?_ | refine op_store2 ?_ | refine op_store3 ?_ | refine op_store4 ?_ | refine op_store5 ?_ | refine op_storeK rfl ?_ | refine op_loadK rfl ?_ | refine op_load_aggK rfl ?_ | refine tc_ret ?_ | refine at_seq_ret ?_ | fail)
                  | fail
                refine ret_door (m := 3) rfl rfl (.cons (rv_cell rfl) (.cons (rv_cell rfl) (.cons (rv_cell rfl) .nil))) rfl (List.Sublist.refl _) ?_
                exact .inr ⟨hlt, ⟨_, _, rfl⟩, ExC.ex⟩
          · refine op_iface_someq ?_
            refine ta_only 0 (by kernel_rfl) rfl (by decide) ?_
            refine op_loadK rfl ?_
            refine ta_only0 5 (by kernel_rfl) rfl ?_
            refine op_storeK rfl ?_
            refine ta_only0 6 (by kernel_rfl) rfl ?_
            refine op_storeK rfl ?_
            refine ta_only0 7 (by kernel_rfl) rfl ?_
            refine op_storeK rfl ?_
            refine ta_done (by kernel_rfl) ?_
            repeat' first
              | (first | refine tl_defer ?_ | refine tc_seq ?_ | refine tc_region ?_ | refine at_seq_normal ?_ | refine tl_nil ?_ | refine tl_cons ?_ | refine tl_cons_none ?_ | refine op_move ?_ | refine op_assign ?_ | refine op_load ?_ | refine op_load_agg ?_ | refine op_icmp ?_ | refine op_fcmp ?_ | refine op_iarith ?_ | refine op_bcmp ?_ | refine op_extract ?_ | refine op_makeInterface ?_ | refine op_ptr_nil ?_ | refine op_makeMeth ?_ | refine op_makeFunc ?_ | refine op_iquo ?_ | refine op_irem ?_ | refine op_ibits ?_ | refine op_slice_isnil ?_ | refine op_slice_notnil ?_ | refine op_shl ?_ | refine op_shr ?_ | (refine op_alloc ?_; intro _) | (refine op_farith ?_; intro _ _) | refine op_store0 ?_ | refine op_store1 ?_ | refine op_store2 ?_ | refine op_store3 ?_ | refine op_store4 ?_ | refine op_store5 ?_ | refine op_storeK rfl ?_ | refine op_loadK rfl ?_ | refine op_load_aggK rfl ?_ | refine tc_ret ?_ | refine at_seq_ret ?_ | fail)
              | fail
            refine ret_door (m := 3) rfl rfl (.cons (rv_cell rfl) (.cons (rv_cell rfl) (.cons (rv_cell rfl) .nil))) rfl (List.Sublist.refl _) ?_
            exact .inr ⟨hlt, ⟨_, _, rfl⟩, ExC.ex⟩
      · refine op_move ?_
        refine ta_three 0 2 4 (by kernel_rfl) rfl (by decide) rfl (by decide) rfl (by decide) ?_ ?_ ?_
        · refine op_loadK rfl ?_
          refine ta_two 2 4 (by kernel_rfl) rfl (by decide) rfl (by decide) ?_ ?_
          · (refine op_call ((bufLen kb T a 0 c _ _ _ (List.mem_cons_of_mem _ (List.mem_append_left _ m1))).mono ?_); rintro _ _ ⟨rfl, rfl⟩)
            refine ta_two10 4 5 (by kernel_rfl) rfl (by decide) rfl ?_ ?_
            · refine op_iface_someq ?_
              refine ta_only0 5 (by kernel_rfl) rfl ?_
              refine op_storeK rfl ?_
              refine ta_only0 6 (by kernel_rfl) rfl ?_
              refine op_storeK rfl ?_
              refine ta_only0 7 (by kernel_rfl) rfl ?_
              refine op_storeK rfl ?_
              refine ta_done (by kernel_rfl) ?_
              repeat' first
                | (first | refine tl_defer ?_ | refine tc_seq ?_ | refine tc_region ?_ | refine at_seq_normal ?_ | refine tl_nil ?_ | refine tl_cons ?_ | refine tl_cons_none ?_ | refine op_move ?_ | refine op_assign ?_ | refine op_load ?_ | refine op_load_agg ?_ | refine op_icmp ?_ | refine op_fcmp ?_ | refine op_iarith ?_ | refine op_bcmp ?_ | refine op_extract ?_ | refine op_makeInterface ?_ | refine op_ptr_nil ?_ | refine op_makeMeth ?_ | refine op_makeFunc ?_ | refine op_iquo ?_ | refine op_irem ?_ | refine op_ibits ?_ | refine op_slice_isnil ?_ | refine op_slice_notnil ?_ | refine op_shl ?_ | refine op_shr ?_ | (refine op_alloc ?_; intro _) | (refine op_farith ?_; intro _ _) | refine op_store0 ?_ | refine op_store1 ?_ | refine op_store2 ?_ | refine op_store3 ?_ | refine op_store4 ?_ | refine op_store5 ?_ | refine op_storeK rfl ?_ | refine op_loadK rfl ?_ | refine op_load_aggK rfl ?_ | refine tc_ret ?_ | refine at_seq_ret ?_ | fail)
                | fail
              refine ret_door (m := 3) rfl rfl (.cons (rv_cell rfl) (.cons (rv_cell rfl) (.cons (rv_cell rfl) .nil))) rfl (List.Sublist.refl _) ?_
              exact .inr ⟨hlt, ⟨_, _, rfl⟩, ExC.ex⟩
            · refine op_storeK rfl ?_
              refine ta_two10 4 6 (by kernel_rfl) rfl (by decide) rfl ?_ ?_
              · refine op_iface_someq ?_
                refine ta_only0 6 (by kernel_rfl) rfl ?_
                refine op_storeK rfl ?_
                refine ta_only0 7 (by kernel_rfl) rfl ?_
                refine op_storeK rfl ?_
                refine ta_done (by kernel_rfl) ?_
                repeat' first
                  | (first | refine tl_defer ?_ | refine tc_seq ?_ | refine tc_region ?_ | refine at_seq_normal ?_ | refine tl_nil ?_ | refine tl_cons ?_ | refine tl_cons_none ?_ | refine op_move ?_ | refine op_assign ?_ | refine op_load ?_ | refine op_load_agg ?_ | refine op_icmp ?_ | refine op_fcmp ?_ | refine op_iarith ?_ | refine op_bcmp ?_ | refine op_extract ?_ | refine op_makeInterface ?_ | refine op_ptr_nil ?_ | refine op_makeMeth ?_ | refine op_makeFunc ?_ | refine op_iquo ?_ | refine op_irem ?_ | refine op_ibits ?_ | refine op_slice_isnil ?_ | refine op_slice_notnil ?_ | refine op_shl ?_ | refine op_shr ?_ | (refine op_alloc ?_; intro _) | (refine op_farith ?_; intro _ _) | refine op_store0 ?_ | refine op_store1 ?_ | refine op_store2 ?_ | refine op_store3 ?_ | refine op_store4 ?_ | refine op_store5 ?_ | refine op_storeK rfl ?_ | refine op_loadK rfl ?_ | refine op_load_aggK rfl ?_ | refine tc_ret ?_ | refine at_seq_ret ?_ | fail)
                  | fail
                refine ret_door (m := 3) rfl rfl (.cons (rv_cell rfl) (.cons (rv_cell rfl) (.cons (rv_cell rfl) .nil))) rfl (List.Sublist.refl _) ?_
                exact .inr ⟨hlt, ⟨_, _, rfl⟩, ExC.ex⟩
              · refine op_storeK rfl ?_
                refine ta_only 4 (by kernel_rfl) rfl (by decide) ?_
                refine op_iface_someq ?_
                refine ta_only0 7 (by kernel_rfl) rfl ?_
                refine op_storeK rfl ?_
                refine ta_done (by kernel_rfl) ?_
                repeat' first
                  | (first | refine tl_defer ?_ | refine tc_seq ?_ | refine tc_region ?_ | refine at_seq_normal ?_ | refine tl_nil ?_ | refine tl_cons ?_ | refine tl_cons_none ?_ | refine op_move ?_ | refine op_assign ?_ | refine op_load ?_ | refine op_load_agg ?_ | refine op_icmp ?_ | refine op_fcmp ?_ | refine op_iarith ?_ | refine op_bcmp ?_ | refine op_extract ?_ | refine op_makeInterface ?_ | refine op_ptr_nil ?_ | refine op_makeMeth ?_ | refine op_makeFunc ?_ | refine op_iquo ?_ | refine op_irem ?_ | refine op_ibits ?_ | refine op_slice_isnil ?_ | refine op_slice_notnil ?_ | refine op_shl ?_ | refine op_shr ?_ | (refine op_alloc ?_; intro _) | (refine op_farith ?_; intro _ _) | refine op_store0 ?_ | refine op_store1 ?_ | refine op_store2 ?_ | refine op_store3 ?_ | refine op_store4 ?_ | refine op_store5 ?_ | refine op_storeK rfl ?_ | refine op_loadK rfl ?_ | refine op_load_aggK rfl ?_ | refine tc_ret ?_ | refine at_seq_ret ?_ | fail)
                  | fail
                refine ret_door (m := 3) rfl rfl (.cons (rv_cell rfl) (.cons (rv_cell rfl) (.cons (rv_cell rfl) .nil))) rfl (List.Sublist.refl _) ?_
                exact .inr ⟨hlt, ⟨_, _, rfl⟩, ExC.ex⟩
          · refine op_iface_someq ?_
            refine ta_only 2 (by kernel_rfl) rfl (by decide) ?_
            (refine op_call ((bufLen kb T a 0 c _ _ _ (List.mem_cons_of_mem _ (List.mem_append_left _ m1))).mono ?_); rintro _ _ ⟨rfl, rfl⟩)
            refine ta_only0 5 (by kernel_rfl) rfl ?_
            refine op_storeK rfl ?_
            refine ta_only0 6 (by kernel_rfl) rfl ?_
            refine op_storeK rfl ?_
            refine ta_only0 7 (by kernel_rfl) rfl ?_
            refine op_storeK rfl ?_
            refine ta_done (by kernel_rfl) ?_
            repeat' first
              | (first | refine tl_defer ?_ | refine tc_seq ?_ | refine tc_region ?_ | refine at_seq_normal ?_ | refine tl_nil ?_ | refine tl_cons ?_ | refine tl_cons_none ?_ | refine op_move ?_ | refine op_assign ?_ | refine op_load ?_ | refine op_load_agg ?_ | refine op_icmp ?_ | refine op_fcmp ?_ | refine op_iarith ?_ | refine op_bcmp ?_ | refine op_extract ?_ | refine op_makeInterface ?_ | refine op_ptr_nil ?_ | refine op_makeMeth ?_ | refine op_makeFunc ?_ | refine op_iquo ?_ | refine op_irem ?_ | refine op_ibits ?_ | refine op_slice_isnil ?_ | refine op_slice_notnil ?_ | refine op_shl ?_ | refine op_shr ?_ | (refine op_alloc ?_; intro _) | (refine op_farith ?_; intro _ _) | refine op_store0 ?_ | refine op_store1 ?_ | refine op_store2 ?_ | refine op_store3 ?_ | refine op_store4 ?_ | refine op_store5 ?_ | refine op_storeK rfl ?_ | refine op_loadK rfl ?_ | refine op_load_aggK rfl ?_ | refine tc_ret ?_ | refine at_seq_ret ?_ | fail)
              | fail
            refine ret_door (m := 3) rfl rfl (.cons (rv_cell rfl) (.cons (rv_cell rfl) (.cons (rv_cell rfl) .nil))) rfl (List.Sublist.refl _) ?_
            exact .inr ⟨hlt, ⟨_, _, rfl⟩, ExC.ex⟩
        · (refine op_call ((bufLen kb T a 0 c _ _ _ (List.mem_cons_of_mem _ (List.mem_append_left _ m1))).mono ?_); rintro _ _ ⟨rfl, rfl⟩)
          refine ta_two 0 4 (by kernel_rfl) rfl (by decide) rfl (by decide) ?_ ?_
          · refine op_loadK rfl ?_
            refine ta_two10 4 5 (by kernel_rfl) rfl (by decide) rfl ?_ ?_
            · refine op_iface_someq ?_
              refine ta_only0 5 (by kernel_rfl) rfl ?_
              refine op_storeK rfl ?_
              refine ta_only0 6 (by kernel_rfl) rfl ?_
              refine op_storeK rfl ?_
              refine ta_only0 7 (by kernel_rfl) rfl ?_
              refine op_storeK rfl ?_
              refine ta_done (by kernel_rfl) ?_
              repeat' first
                | (first | refine tl_defer ?_ | refine tc_seq ?_ | refine tc_region ?_ | refine at_seq_normal ?_ | refine tl_nil ?_ | refine tl_cons ?_ | refine tl_cons_none ?_ | refine op_move ?_ | refine op_assign ?_ | refine op_load ?_ | refine op_load_agg ?_ | refine op_icmp ?_ | refine op_fcmp ?_ | refine op_iarith ?_ | refine op_bcmp ?_ | refine op_extract ?_ | refine op_makeInterface ?_ | refine op_ptr_nil ?_ | refine op_makeMeth ?_ | refine op_makeFunc ?_ | refine op_iquo ?_ | refine op_irem ?_ | refine op_ibits ?_ | refine op_slice_isnil ?_ | refine op_slice_notnil ?_ | refine op_shl ?_ | refine op_shr ?_ | (refine op_alloc ?_; intro _) | (refine op_farith ?_; intro _ _) | refine op_store0 ?_ | refine op_store1 ?_ | refine op_store2 ?_ | refine op_store3 ?_ | refine op_store4 ?_ | refine op_store5 ?_ | refine op_storeK rfl ?_ | refine op_loadK rfl ?_ | refine op_load_aggK rfl ?_ | refine tc_ret ?_ | refine at_seq_ret ?_ | fail)
                | fail
              refine ret_door (m := 3) rfl rfl (.cons (rv_cell rfl) (.cons (rv_cell rfl) (.cons (rv_cell rfl) .nil))) rfl (List.Sublist.refl _) ?_
              exact .inr ⟨hlt, ⟨_, _, rfl⟩, ExC.ex⟩
            · refine op_storeK rfl ?_
              refine ta_two10 4 6 (by kernel_rfl) rfl (by decide) rfl ?_ ?_
              · refine op_iface_someq ?_
                refine ta_only0 6 (by kernel_rfl) rfl ?_
                refine op_storeK rfl ?_
                refine ta_only0 7 (by kernel_rfl) rfl ?_
                refine op_storeK rfl ?_
                refine ta_done (by kernel_rfl) ?_
                repeat' first
                  | (first | refine tl_defer ?_ | refine tc_seq ?_ | refine tc_region ?_ | refine at_seq_normal ?_ | refine tl_nil ?_ | refine tl_cons ?_ | refine tl_cons_none ?_ | refine op_move ?_ | refine op_assign ?_ | refine op_load ?_ | refine op_load_agg ?_ | refine op_icmp ?_ | refine op_fcmp ?_ | refine op_iarith ?_ | refine op_bcmp ?_ | refine op_extract ?_ | refine op_makeInterface ?_ | refine op_ptr_nil ?_ | refine op_makeMeth ?_ | refine op_makeFunc ?_ | refine op_iquo ?_ | refine op_irem ?_ | refine op_ibits ?_ | refine op_slice_isnil ?_ | refine op_slice_notnil ?_ | refine op_shl ?_ | refine op_shr ?_ | (refine op_alloc ?_; intro _) | (refine op_farith ?_; intro _ _) | refine op_store0 ?_ | refine op_store1 ?_ | refine op_store2 ?_ | refine op_store3 ?_ | refine op_store4 ?_ | refine op_store5 ?_ | refine op_storeK rfl ?_ | refine op_loadK rfl ?_ | refine op_load_aggK rfl ?_ | refine tc_ret ?_ | refine at_seq_ret ?_ | fail)
                  | fail
                refine ret_door (m := 3) rfl rfl (.cons (rv_cell rfl) (.cons (rv_cell rfl) (.cons (rv_cell rfl) .nil))) rfl (List.Sublist.refl _) ?_
                exact .inr ⟨hlt, ⟨_, _, rfl⟩, ExC.ex⟩
              · refine op_storeK rfl ?_
                refine ta_only 4 (by kernel_rfl) rfl (by decide) ?_
                refine op_iface_someq ?_
                refine ta_only0 7 (by kernel_rfl) rfl ?_
                refine op_storeK rfl ?_
                refine ta_done (by kernel_rfl) ?_
                repeat' first
                  | (first | refine tl_defer ?_ | refine tc_seq ?_ | refine tc_region ?_ | refine at_seq_normal ?_ | refine tl_nil ?_ | refine tl_cons ?_ | refine tl_cons_none ?_ | refine op_move ?_ | refine op_assign ?_ | refine op_load ?_ | refine op_load_agg ?_ | refine op_icmp ?_ | refine op_fcmp ?_ | refine op_iarith ?_ | refine op_bcmp ?_ | refine op_extract ?_ | refine op_makeInterface ?_ | refine op_ptr_nil ?_ | refine op_makeMeth ?_ | refine op_makeFunc ?_ | refine op_iquo ?_ | refine op_irem ?_ | refine op_ibits ?_ | refine op_slice_isnil ?_ | refine op_slice_notnil ?_ | refine op_shl ?_ | refine op_shr ?_ | (refine op_alloc ?_; intro _) | (refine op_farith ?_; intro _ _) | refine op_store0 ?_ | refine op_store1 ?_ | refine op_store2 ?_ | refine op_store3 ?_ | refine op_store4 ?_ | refine op_store5 ?_ | refine op_storeK rfl ?_ | refine op_loadK rfl ?_ | refine op_load_aggK rfl ?_ | refine tc_ret ?_ | refine at_seq_ret ?_ | fail)
                  | fail
                refine ret_door (m := 3) rfl rfl (.cons (rv_cell rfl) (.cons (rv_cell rfl) (.cons (rv_cell rfl) .nil))) rfl (List.Sublist.refl _) ?_
                exact .inr ⟨hlt, ⟨_, _, rfl⟩, ExC.ex⟩
          · refine op_iface_someq ?_
            refine ta_only 0 (by kernel_rfl) rfl (by decide) ?_
            refine op_loadK rfl ?_
            refine ta_only0 5 (by kernel_rfl) rfl ?_
            refine op_storeK rfl ?_
            refine ta_only0 6 (by kernel_rfl) rfl ?_
            refine op_storeK rfl ?_
            refine ta_only0 7 (by kernel_rfl) rfl ?_
            refine op_storeK rfl ?_
            refine ta_done (by kernel_rfl) ?_
            repeat' first
              | (first | refine tl_defer ?_ | refine tc_seq ?_ | refine tc_region ?_ | refine at_seq_normal ?_ | refine tl_nil ?_ | refine tl_cons ?_ | refine tl_cons_none ?_ | refine op_move ?_ | refine op_assign ?_ | refine op_load ?_ | refine op_load_agg ?_ | refine op_icmp ?_ | refine op_fcmp ?_ | refine op_iarith ?_ | refine op_bcmp ?_ | refine op_extract ?_ | refine op_makeInterface ?_ | refine op_ptr_nil ?_ | refine op_makeMeth ?_ | refine op_makeFunc ?_ | refine op_iquo ?_ | refine op_irem ?_ | refine op_ibits ?_ | refine op_slice_isnil ?_ | refine op_slice_notnil ?_ | refine op_shl ?_ | refine op_shr ?_ | (refine op_alloc ?_; intro _) | (refine op_farith ?_; intro _ _) | refine op_store0 ?_ | refine op_store1 ?_ | refine op_store2 ?_ | refine op_store3 ?_ | refine op_store4 ?_ | refine op_store5 ?_ | refine op_storeK rfl ?_ | refine op_loadK rfl ?_ | refine op_load_aggK rfl ?_ | refine tc_ret ?_ | refine at_seq_ret ?_ | fail)
              | fail
            refine ret_door (m := 3) rfl rfl (.cons (rv_cell rfl) (.cons (rv_cell rfl) (.cons (rv_cell rfl) .nil))) rfl (List.Sublist.refl _) ?_
            exact .inr ⟨hlt, ⟨_, _, rfl⟩, ExC.ex⟩
        · refine op_iface_someq ?_
          refine ta_two 0 2 (by kernel_rfl) rfl (by decide) rfl (by decide) ?_ ?_
          · refine op_loadK rfl ?_
            refine ta_only 2 (by kernel_rfl) rfl (by decide) ?_
            (refine op_call ((bufLen kb T a 0 c _ _ _ (List.mem_cons_of_mem _ (List.mem_append_left _ m1))).mono ?_); rintro _ _ ⟨rfl, rfl⟩)
            refine ta_only0 5 (by kernel_rfl) rfl ?_
            refine op_storeK rfl ?_
            refine ta_only0 6 (by kernel_rfl) rfl ?_
            refine op_storeK rfl ?_
            refine ta_only0 7 (by kernel_rfl) rfl ?_
            refine op_storeK rfl ?_
            refine ta_done (by kernel_rfl) ?_
            repeat' first
              | (first | refine tl_defer ?_ | refine tc_seq ?_ | refine tc_region ?_ | refine at_seq_normal ?_ | refine tl_nil ?_ | refine tl_cons ?_ | refine tl_cons_none ?_ | refine op_move ?_ | refine op_assign ?_ | refine op_load ?_ | refine op_load_agg ?_ | refine op_icmp ?_ | refine op_fcmp ?_ | refine op_iarith ?_ | refine op_bcmp ?_ | refine op_extract ?_ | refine op_makeInterface ?_ | refine op_ptr_nil ?_ | refine op_makeMeth ?_ | refine op_makeFunc ?_ | refine op_iquo ?_ | refine op_irem ?_ | refine op_ibits ?_ | refine op_slice_isnil ?_ | refine op_slice_notnil ?_ | refine op_shl ?_ | refine op_shr ?_ | (refine op_alloc ?_; intro _) | (refine op_farith ?_; intro _ _) | refine op_store0 ?_ | refine op_store1 ?_ | refine op_store2 ?_ | refine op_store3 ?_ | refine op_store4 ?_ | refine op_store5 ?_ | refine op_storeK rfl ?_ | refine op_loadK rfl ?_ | refine op_load_aggK rfl ?_ | refine tc_ret ?_ | refine at_seq_ret ?_ | fail)
              | fail
            refine ret_door (m := 3) rfl rfl (.cons (rv_cell rfl) (.cons (rv_cell rfl) (.cons (rv_cell rfl) .nil))) rfl (List.Sublist.refl _) ?_
            exact .inr ⟨hlt, ⟨_, _, rfl⟩, ExC.ex⟩
          · (refine op_call ((bufLen kb T a 0 c _ _ _ (List.mem_cons_of_mem _ (List.mem_append_left _ m1))).mono ?_); rintro _ _ ⟨rfl, rfl⟩)
            refine ta_only 0 (by kernel_rfl) rfl (by decide) ?_
            refine op_loadK rfl ?_
            refine ta_only0 5 (by kernel_rfl) rfl ?_
            refine op_storeK rfl ?_
            refine ta_only0 6 (by kernel_rfl) rfl ?_
            refine op_storeK rfl ?_
            refine ta_only0 7 (by kernel_rfl) rfl ?_
            refine op_storeK rfl ?_
            refine ta_done (by kernel_rfl) ?_
            repeat' first
              | (first | refine tl_defer ?_ | refine tc_seq ?_ | refine tc_region ?_ | refine at_seq_normal ?_ | refine tl_nil ?_ | refine tl_cons ?_ | refine tl_cons_none ?_ | refine op_move ?_ | refine op_assign ?_ | refine op_load ?_ | refine op_load_agg ?_ | refine op_icmp ?_ | refine op_fcmp ?_ | refine op_iarith ?_ | refine op_bcmp ?_ | refine op_extract ?_ | refine op_makeInterface ?_ | refine op_ptr_nil ?_ | refine op_makeMeth ?_ | refine op_makeFunc ?_ | refine op_iquo ?_ | refine op_irem ?_ | refine op_ibits ?_ | refine op_slice_isnil ?_ | refine op_slice_notnil ?_ | refine op_shl ?_ | refine op_shr ?_ | (refine op_alloc ?_; intro _) | (refine op_farith ?_; intro _ _) | refine op_store0 ?_ | refine op_store1 ?_ | refine op_store2 ?_ | refine op_store3 ?_ | refine op_store4 ?_ | refine op_store5 ?_ | refine op_storeK rfl ?_ | refine op_loadK rfl ?_ | refine op_load_aggK rfl ?_ | refine tc_ret ?_ | refine at_seq_ret ?_ | fail)
              | fail
            refine ret_door (m := 3) rfl rfl (.cons (rv_cell rfl) (.cons (rv_cell rfl) (.cons (rv_cell rfl) .nil))) rfl (List.Sublist.refl _) ?_
            exact .inr ⟨hlt, ⟨_, _, rfl⟩, ExC.ex⟩
    · refine op_move ?_
      refine ta_three 0 1 4 (by kernel_rfl) rfl (by decide) rfl (by decide) rfl (by decide) ?_ ?_ ?_
      · refine op_loadK rfl ?_
        refine ta_two 1 4 (by kernel_rfl) rfl (by decide) rfl (by decide) ?_ ?_
        · refine op_move ?_
          refine ta_two 2 4 (by kernel_rfl) rfl (by decide) rfl (by decide) ?_ ?_
          · (refine op_call ((bufLen kb T a 0 c _ _ _ (List.mem_cons_of_mem _ (List.mem_append_left _ m1))).mono ?_); rintro _ _ ⟨rfl, rfl⟩)
            refine ta_two10 4 5 (by kernel_rfl) rfl (by decide) rfl ?_ ?_
            · refine op_iface_someq ?_
              refine ta_only0 5 (by kernel_rfl) rfl ?_
              refine op_storeK rfl ?_
              refine ta_only0 6 (by kernel_rfl) rfl ?_
              refine op_storeK rfl ?_
              refine ta_only0 7 (by kernel_rfl) rfl ?_
              refine op_storeK rfl ?_
              refine ta_done (by kernel_rfl) ?_
              repeat' first
                | (first | refine tl_defer ?_ | refine tc_seq ?_ | refine tc_region ?_ | refine at_seq_normal ?_ | refine tl_nil ?_ | refine tl_cons ?_ | refine tl_cons_none ?_ | refine op_move ?_ | refine op_assign ?_ | refine op_load ?_ | refine op_load_agg ?_ | refine op_icmp ?_ | refine op_fcmp ?_ | refine op_iarith ?_ | refine op_bcmp ?_ | refine op_extract ?_ | refine op_makeInterface ?_ | refine op_ptr_nil ?_ | refine op_makeMeth ?_ | refine op_makeFunc ?_ | refine op_iquo ?_ | refine op_irem ?_ | refine op_ibits ?_ | refine op_slice_isnil ?_ | refine op_slice_notnil ?_ | refine op_shl ?_ | refine op_shr ?_ | (refine op_alloc ?_; intro _) | (refine op_farith ?_; intro _ _) | refine op_store0 ?_ | refine op_store1 ?_ | refine op_store2 ?_ | refine op_store3 ?_ | refine op_store4 ?_ | refine op_store5 ?_ | refine op_storeK rfl ?_ | refine op_loadK rfl ?_ | refine op_load_aggK rfl ?_ | refine tc_ret ?_ | refine at_seq_ret ?_ | fail)
                | fail
              refine ret_door (m := 3) rfl rfl (.cons (rv_cell rfl) (.cons (rv_cell rfl) (.cons (rv_cell rfl) .nil))) rfl (List.Sublist.refl _) ?_
              exact .inr ⟨hlt, ⟨_, _, rfl⟩, ExC.ex⟩
            · refine op_storeK rfl ?_
              refine ta_two10 4 6 (by kernel_rfl) rfl (by decide) rfl ?_ ?_
              · refine op_iface_someq ?_
                refine ta_only0 6 (by kernel_rfl) rfl ?_
                refine op_storeK rfl ?_
                refine ta_only0 7 (by kernel_rfl) rfl ?_
                refine op_storeK rfl ?_
                refine ta_done (by kernel_rfl) ?_
                repeat' first
                  | (first | refine tl_defer ?_ | refine tc_seq ?_ | refine tc_region ?_ | refine at_seq_normal ?_ | refine tl_nil ?_ | refine tl_cons ?_ | refine tl_cons_none ?_ | refine op_move ?_ | refine op_assign ?_ | refine op_load ?_ | refine op_load_agg ?_ | refine op_icmp ?_ | refine op_fcmp ?_ | refine op_iarith ?_ | refine op_bcmp ?_ | refine op_extract ?_ | refine op_makeInterface ?_ | refine op_ptr_nil ?_ | refine op_makeMeth ?_ | refine op_makeFunc ?_ | refine op_iquo ?_ | refine op_irem ?_ | refine op_ibits ?_ | refine op_slice_isnil ?_ | refine op_slice_notnil ?_ | refine op_shl ?_ | refine op_shr ?_ | (refine op_alloc ?_; intro _) | (refine op_farith ?_; intro _ _) | refine op_store0 ?_ | refine op_store1 ?_ | refine op_store2 ?_ | refine op_store3 ?_ | refine op_store4 ?_ | refine op_store5 ?_ | refine op_storeK rfl ?_ | refine op_loadK rfl ?_ | refine op_load_aggK rfl ?_ | refine tc_ret ?_ | refine at_seq_ret ?_ | fail)
                  | fail
                refine ret_door (m := 3) rfl rfl (.cons (rv_cell rfl) (.cons (rv_cell rfl) (.cons (rv_cell rfl) .nil))) rfl (List.Sublist.refl _) ?_
                exact .inr ⟨hlt, ⟨_, _, rfl⟩, ExC.ex⟩
              · refine op_storeK rfl ?_
                refine ta_only 4 (by kernel_rfl) rfl (by decide) ?_
                refine op_iface_someq ?_
                refine ta_only0 7 (by kernel_rfl) rfl ?_
                refine op_storeK rfl ?_
                refine ta_done (by kernel_rfl) ?_
                repeat' first
                  | (first | refine tl_defer ?_ | refine tc_seq ?_ | refine tc_region ?_ | refine at_seq_normal ?_ | refine tl_nil ?_ | refine tl_cons ?_ | refine tl_cons_none ?_ | refine op_move ?_ | refine op_assign ?_ | refine op_load ?_ | refine op_load_agg ?_ | refine op_icmp ?_ | refine op_fcmp ?_ | refine op_iarith ?_ | refine op_bcmp ?_ | refine op_extract ?_ | refine op_makeInterface ?_ | refine op_ptr_nil ?_ | refine op_makeMeth ?_ | refine op_makeFunc ?_ | refine op_iquo ?_ | refine op_irem ?_ | refine op_ibits ?_ | refine op_slice_isnil ?_ | refine op_slice_notnil ?_ | refine op_shl ?_ | refine op_shr ?_ | (refine op_alloc ?_; intro _) | (refine op_farith ?_; intro _ _) | refine op_store0 ?_ | refine op_store1 ?_ | refine op_store2 ?_ | refine op_store3 ?_ | refine op_store4 ?_ | refine op_store5 ?_ | refine op_storeK rfl ?_ | refine op_loadK rfl ?_ | refine op_load_aggK rfl ?_ | refine tc_ret ?_ | refine at_seq_ret ?_ | fail)
                  | fail
                refine ret_door (m := 3) rfl rfl (.cons (rv_cell rfl) (.cons (rv_cell rfl) (.cons (rv_cell rfl) .nil))) rfl (List.Sublist.refl _) ?_
                exact .inr ⟨hlt, ⟨_, _, rfl⟩, ExC.ex⟩
          · refine op_iface_someq ?_
            refine ta_only 2 (by kernel_rfl) rfl (by decide) ?_
            (refine op_call ((bufLen kb T a 0 c _ _ _ (List.mem_cons_of_mem _ (List.mem_append_left _ m1))).mono ?_); rintro _ _ ⟨rfl, rfl⟩)
            refine ta_only0 5 (by kernel_rfl) rfl ?_
            refine op_storeK rfl ?_
            refine ta_only0 6 (by kernel_rfl) rfl ?_
            refine op_storeK rfl ?_
            refine ta_only0 7 (by kernel_rfl) rfl ?_
            refine op_storeK rfl ?_
            refine ta_done (by kernel_rfl) ?_
            repeat' first
              | (first | refine tl_defer ?_ | refine tc_seq ?_ | refine tc_region ?_ | refine at_seq_normal ?_ | refine tl_nil ?_ | refine tl_cons ?_ | refine tl_cons_none ?_ | refine op_move ?_ | refine op_assign ?_ | refine op_load ?_ | refine op_load_agg ?_ | refine op_icmp ?_ | refine op_fcmp ?_ | refine op_iarith ?_ | refine op_bcmp ?_ | refine op_extract ?_ | refine op_makeInterface ?_ | refine op_ptr_nil ?_ | refine op_makeMeth ?_ | refine op_makeFunc ?_ | refine op_iquo ?_ | refine op_irem ?_ | refine op_ibits ?_ | refine op_slice_isnil ?_ | refine op_slice_notnil ?_ | refine op_shl ?_ | refine op_shr ?_ | (refine op_alloc ?_; intro _) | (refine op_farith ?_; intro _ _) | refine op_store0 ?_ | refine op_store1 ?_ | refine op_store2 ?_ | refine op_store3 ?_ | refine op_store4 ?_ | refine op_store5 ?_ | refine op_storeK rfl ?_ | refine op_loadK rfl ?_ | refine op_load_aggK rfl ?_ | refine tc_ret ?_ | refine at_seq_ret ?_ | fail)
              | fail
            refine ret_door (m := 3) rfl rfl (.cons (rv_cell rfl) (.cons (rv_cell rfl) (.cons (rv_cell rfl) .nil))) rfl (List.Sublist.refl _) ?_
            exact .inr ⟨hlt, ⟨_, _, rfl⟩, ExC.ex⟩
        · refine op_iface_someq ?_
          refine ta_only 1 (by kernel_rfl) rfl (by decide) ?_
          refine op_move ?_
          refine ta_only 2 (by kernel_rfl) rfl (by decide) ?_
          (refine op_call ((bufLen kb T a 0 c _ _ _ (List.mem_cons_of_mem _ (List.mem_append_left _ m1))).mono ?_); rintro _ _ ⟨rfl, rfl⟩)
          refine ta_only0 5 (by kernel_rfl) rfl ?_
          refine op_storeK rfl ?_
          refine ta_only0 6 (by kernel_rfl) rfl ?_
          refine op_storeK rfl ?_
          refine ta_only0 7 (by kernel_rfl) rfl ?_
          refine op_storeK rfl ?_
          refine ta_done (by kernel_rfl) ?_
          repeat' first
            | (first | refine tl_defer ?_ | refine tc_seq ?_ | refine tc_region ?_ | refine at_seq_normal ?_ | refine tl_nil ?_ | refine tl_cons ?_ | refine tl_cons_none ?_ | refine op_move ?_ | refine op_assign ?_ | refine op_load ?_ | refine op_load_agg ?_ | refine op_icmp ?_ | refine op_fcmp ?_ | refine op_iarith ?_ | refine op_bcmp ?_ | refine op_extract ?_ | refine op_makeInterface ?_ | refine op_ptr_nil ?_ | refine op_makeMeth ?_ | refine op_makeFunc ?_ | refine op_iquo ?_ | refine op_irem ?_ | refine op_ibits ?_ | refine op_slice_isnil ?_ | refine op_slice_notnil ?_ | refine op_shl ?_ | refine op_shr ?_ | (refine op_alloc ?_; intro _) | (refine op_farith ?_; intro _ _) | refine op_store0 ?_ | refine op_store1 ?_ | refine op_store2 ?_ | refine op_store3 ?_ | refine op_store4 ?_ | refine op_store5 ?_ | refine op_storeK rfl ?_ | refine op_loadK rfl ?_ | refine op_load_aggK rfl ?_ | refine tc_ret ?_ | refine at_seq_ret ?_ | fail)
            | fail
          refine ret_door (m := 3) rfl rfl (.cons (rv_cell rfl) (.cons (rv_cell rfl) (.cons (rv_cell rfl) .nil))) rfl (List.Sublist.refl _) ?_
          exact .inr ⟨hlt, ⟨_, _, rfl⟩, ExC.ex⟩
      · refine op_move ?_
        refine ta_three 0 2 4 (by kernel_rfl) rfl (by decide) rfl (by decide) rfl (by decide) ?_ ?_ ?_
        · refine op_loadK rfl ?_
          refine ta_two 2 4 (by kernel_rfl) rfl (by decide) rfl (by decide) ?_ ?_
          · (refine op_call ((bufLen kb T a 0 c _ _ _ (List.mem_cons_of_mem _ (List.mem_append_left _ m1))).mono ?_); rintro _ _ ⟨rfl, rfl⟩)
            refine ta_two10 4 5 (by kernel_rfl) rfl (by decide) rfl ?_ ?_
            · refine op_iface_someq ?_
              refine ta_only0 5 (by kernel_rfl) rfl ?_
              refine op_storeK rfl ?_
              refine ta_only0 6 (by kernel_rfl) rfl ?_
              refine op_storeK rfl ?_
              refine ta_only0 7 (by kernel_rfl) rfl ?_
              refine op_storeK rfl ?_
              refine ta_done (by kernel_rfl) ?_
              repeat' first
                | (first | refine tl_defer ?_ | refine tc_seq ?_ | refine tc_region ?_ | refine at_seq_normal ?_ | refine tl_nil ?_ | refine tl_cons ?_ | refine tl_cons_none ?_ | refine op_move ?_ | refine op_assign ?_ | refine op_load ?_ | refine op_load_agg ?_ | refine op_icmp ?_ | refine op_fcmp ?_ | refine op_iarith ?_ | refine op_bcmp ?_ | refine op_extract ?_ | refine op_makeInterface ?_ | refine op_ptr_nil ?_ | refine op_makeMeth ?_ | refine op_makeFunc ?_ | refine op_iquo ?_ | refine op_irem ?_ | refine op_ibits ?_ | refine op_slice_isnil ?_ | refine op_slice_notnil ?_ | refine op_shl ?_ | refine op_shr ?_ | (refine op_alloc ?_; intro _) | (refine op_farith ?_; intro _ _) | refine op_store0 ?_ | refine op_store1 ?_ | refine op_store2 ?_ | refine op_store3 ?_ | refine op_store4 ?_ | refine op_store5 ?_ | refine op_storeK rfl ?_ | refine op_loadK rfl ?_ | refine op_load_aggK rfl ?_ | refine tc_ret ?_ | refine at_seq_ret ?_ | fail)
                | fail
              refine ret_door (m := 3) rfl rfl (.cons (rv_cell rfl) (.cons (rv_cell rfl) (.cons (rv_cell rfl) .nil))) rfl (List.Sublist.refl _) ?_
              exact .inr ⟨hlt, ⟨_, _, rfl⟩, ExC.ex⟩
            · refine op_storeK rfl ?_
              refine ta_two10 4 6 (by kernel_rfl) rfl (by decide) rfl ?_ ?_
              · refine op_iface_someq ?_
                refine ta_only0 6 (by kernel_rfl) rfl ?_
                refine op_storeK rfl ?_
                refine ta_only0 7 (by kernel_rfl) rfl ?_
                refine op_storeK rfl ?_
                refine ta_done (by kernel_rfl) ?_
                repeat' first
                  | (first | refine tl_defer ?_ | refine tc_seq ?_ | refine tc_region ?_ | refine at_seq_normal ?_ | refine tl_nil ?_ | refine tl_cons ?_ | refine tl_cons_none ?_ | refine op_move ?_ | refine op_assign ?_ | refine op_load ?_ | refine op_load_agg ?_ | refine op_icmp ?_ | refine op_fcmp ?_ | refine op_iarith ?_ | refine op_bcmp ?_ | refine op_extract ?_ | refine op_makeInterface ?_ | refine op_ptr_nil ?_ | refine op_makeMeth ?_ | refine op_makeFunc ?_ | refine op_iquo ?_ | refine op_irem ?_ | refine op_ibits ?_ | refine op_slice_isnil ?_ | refine op_slice_notnil ?_ | refine op_shl ?_ | refine op_shr ?_ | (refine op_alloc ?_; intro _) | (refine op_farith ?_; intro _ _) | refine op_store0 ?_ | refine op_store1 ?_ | refine op_store2 ?_ | refine op_store3 ?_ | refine op_store4 ?_ | refine op_store5 ?_ | refine op_storeK rfl ?_ | refine op_loadK rfl ?_ | refine op_load_aggK rfl ?_ | refine tc_ret ?_ | refine at_seq_ret ?_ | fail)
                  | fail
                refine ret_door (m := 3) rfl rfl (.cons (rv_cell rfl) (.cons (rv_cell rfl) (.cons (rv_cell rfl) .nil))) rfl (List.Sublist.refl _) ?_
                exact .inr ⟨hlt, ⟨_, _, rfl⟩, ExC.ex⟩
              · refine op_storeK rfl ?_
                refine ta_only 4 (by kernel_rfl) rfl (by decide) ?_
                refine op_iface_someq ?_
                refine ta_only0 7 (by kernel_rfl) rfl ?_
                refine op_storeK rfl ?_
                refine ta_done (by kernel_rfl) ?_
                repeat' first
                  | (first | refine tl_defer ?_ | refine tc_seq ?_ | refine tc_region ?_ | refine at_seq_normal ?_ | refine tl_nil ?_ | refine tl_cons ?_ | refine tl_cons_none ?_ | refine op_move ?_ | refine op_assign ?_ | refine op_load ?_ | refine op_load_agg ?_ | refine op_icmp ?_ | refine op_fcmp ?_ | refine op_iarith ?_ | refine op_bcmp ?_ | refine op_extract ?_ | refine op_makeInterface ?_ | refine op_ptr_nil ?_ | refine op_makeMeth ?_ | refine op_makeFunc ?_ | refine op_iquo ?_ | refine op_irem ?_ | refine op_ibits ?_ | refine op_slice_isnil ?_ | refine op_slice_notnil ?_ | refine op_shl ?_ | refine op_shr ?_ | (refine op_alloc ?_; intro _) | (refine op_farith ?_; intro _ _) | refine op_store0 ?_ | refine op_store1 ?_ | refine op_store2 ?_ | refine op_store3 ?_ | refine op_store4 ?_ | refine op_store5 ?_ | refine op_storeK rfl ?_ | refine op_loadK rfl ?_ | refine op_load_aggK rfl ?_ | refine tc_ret ?_ | refine at_seq_ret ?_ | fail)
                  | fail
                refine ret_door (m := 3) rfl rfl (.cons (rv_cell rfl) (.cons (rv_cell rfl) (.cons (rv_cell rfl) .nil))) rfl (List.Sublist.refl _) ?_
                exact .inr ⟨hlt, ⟨_, _, rfl⟩, ExC.ex⟩
          · refine op_iface_someq ?_
            refine ta_only 2 (by kernel_rfl) rfl (by decide) ?_
            (refine op_call ((bufLen kb T a 0 c _ _ _ (List.mem_cons_of_mem _ (List.mem_append_left _ m1))).mono ?_); rintro _ _ ⟨rfl, rfl⟩)
            refine ta_only0 5 (by kernel_rfl) rfl ?_
            refine op_storeK rfl ?_
            refine ta_only0 6 (by kernel_rfl) rfl ?_
            refine op_storeK rfl ?_
            refine ta_only0 7 (by kernel_rfl) rfl ?_
            refine op_storeK rfl ?_
            refine ta_done (by kernel_rfl) ?_
            repeat' first
              | (first | refine tl_defer ?_ | refine tc_seq ?_ | refine tc_region ?_ | refine at_seq_normal ?_ | refine tl_nil ?_ | refine tl_cons ?_ | refine tl_cons_none ?_ | refine op_move ?_ | refine op_assign ?_ | refine op_load ?_ | refine op_load_agg ?_ | refine op_icmp ?_ | refine op_fcmp ?_ | refine op_iarith ?_ | refine op_bcmp ?_ | refine op_extract ?_ | refine op_makeInterface ?_ | refine op_ptr_nil ?_ | refine op_makeMeth ?_ | refine op_makeFunc ?_ | refine op_iquo ?_ | refine op_irem ?_ | refine op_ibits ?_ | refine op_slice_isnil ?_ | refine op_slice_notnil ?_ | refine op_shl ?_ | refine op_shr ?_ | (refine op_alloc ?_; intro _) | (refine op_farith ?_; intro _ _) | refine op_store0 ?_ | refine op_store1 ?_ | refine op_store2 ?_ | refine op_store3 ?_ | refine op_store4 ?_ | refine op_store5 ?_ | refine op_storeK rfl ?_ | refine op_loadK rfl ?_ | refine op_load_aggK rfl ?_ | refine tc_ret ?_ | refine at_seq_ret ?_ | fail)
              | fail
            refine ret_door (m := 3) rfl rfl (.cons (rv_cell rfl) (.cons (rv_cell rfl) (.cons (rv_cell rfl) .nil))) rfl (List.Sublist.refl _) ?_
            exact .inr ⟨hlt, ⟨_, _, rfl⟩, ExC.ex⟩
        · (refine op_call ((bufLen kb T a 0 c _ _ _ (List.mem_cons_of_mem _ (List.mem_append_left _ m1))).mono ?_); rintro _ _ ⟨rfl, rfl⟩)
          refine ta_two 0 4 (by kernel_rfl) rfl (by decide) rfl (by decide) ?_ ?_
          · refine op_loadK rfl ?_
            refine ta_two10 4 5 (by kernel_rfl) rfl (by decide) rfl ?_ ?_
            · refine op_iface_someq ?_
              refine ta_only0 5 (by kernel_rfl) rfl ?_
              refine op_storeK rfl ?_
              refine ta_only0 6 (by kernel_rfl) rfl ?_
              refine op_storeK rfl ?_
              refine ta_only0 7 (by kernel_rfl) rfl ?_
              refine op_storeK rfl ?_
              refine ta_done (by kernel_rfl) ?_
              repeat' first
                | (first | refine tl_defer ?_ | refine tc_seq ?_ | refine tc_region ?_ | refine at_seq_normal ?_ | refine tl_nil ?_ | refine tl_cons ?_ | refine tl_cons_none ?_ | refine op_move ?_ | refine op_assign ?_ | refine op_load ?_ | refine op_load_agg ?_ | refine op_icmp ?_ | refine op_fcmp ?_ | refine op_iarith ?_ | refine op_bcmp ?_ | refine op_extract ?_ | refine op_makeInterface ?_ | refine op_ptr_nil ?_ | refine op_makeMeth ?_ | refine op_makeFunc ?_ | refine op_iquo ?_ | refine op_irem ?_ | refine op_ibits ?_ | refine op_slice_isnil ?_ | refine op_slice_notnil ?_ | refine op_shl ?_ | refine op_shr ?_ | (refine op_alloc ?_; intro _) | (refine op_farith ?_; intro _ _) | refine op_store0 ?_ | refine op_store1 ?_ | refine op_store2 ?_ | refine op_store3 ?_ | refine op_store4 ?_ | refine op_store5 ?_ | refine op_storeK rfl ?_ | refine op_loadK rfl ?_ | refine op_load_aggK rfl ?_ | refine tc_ret ?_ | refine at_seq_ret ?_ | fail)
                | fail
              refine ret_door (m := 3) rfl rfl (.cons (rv_cell rfl) (.cons (rv_cell rfl) (.cons (rv_cell rfl) .nil))) rfl (List.Sublist.refl _) ?_
              exact .inr ⟨hlt, ⟨_, _, rfl⟩, ExC.ex⟩
            · refine op_storeK rfl ?_
              refine ta_two10 4 6 (by kernel_rfl) rfl (by decide) rfl ?_ ?_
              · refine op_iface_someq ?_
                refine ta_only0 6 (by kernel_rfl) rfl ?_
                refine op_storeK rfl ?_
                refine ta_only0 7 (by kernel_rfl) rfl ?_
                refine op_storeK rfl ?_
                refine ta_done (by kernel_rfl) ?_
                repeat' first
                  | (first | refine tl_defer ?_ | refine tc_seq ?_ | refine tc_region ?_ | refine at_seq_normal ?_ | refine tl_nil ?_ | refine tl_cons ?_ | refine tl_cons_none ?_ | refine op_move ?_ | refine op_assign ?_ | refine op_load ?_ | refine op_load_agg ?_ | refine op_icmp ?_ | refine op_fcmp ?_ | refine op_iarith ?_ | refine op_bcmp ?_ | refine op_extract ?_ | refine op_makeInterface ?_ | refine op_ptr_nil ?_ | refine op_makeMeth ?_ | refine op_makeFunc ?_ | refine op_iquo ?_ | refine op_irem ?_ | refine op_ibits ?_ | refine op_slice_isnil ?_ | refine op_slice_notnil ?_ | refine op_shl ?_ | refine op_shr ?_ | (refine op_alloc ?_; intro _) | (refine op_farith ?_; intro _ _) | refine op_store0 ?_ | refine op_store1 ?_ | refine op_store2 ?_ | refine op_store3 ?_ | refine op_store4 ?_ | refine op_store5 ?_ | refine op_storeK rfl ?_ | refine op_loadK rfl ?_ | refine op_load_aggK rfl ?_ | refine tc_ret ?_ | refine at_seq_ret ?_ | fail)
                  | fail
                refine ret_door (m := 3) rfl rfl (.cons (rv_cell rfl) (.cons (rv_cell rfl) (.cons (rv_cell rfl) .nil))) rfl (List.Sublist.refl _) ?_
                exact .inr ⟨hlt, ⟨_, _, rfl⟩, ExC.ex⟩
              · refine op_storeK rfl ?_
                refine ta_only 4 (by kernel_rfl) rfl (by decide) ?_
                refine op_iface_someq ?_
                refine ta_only0 7 (by kernel_rfl) rfl ?_
                refine op_storeK rfl ?_
                refine ta_done (by kernel_rfl) ?_
                repeat' first
                  | (first | refine tl_defer ?_ | refine tc_seq ?_ | refine tc_region ?_ | refine at_seq_normal ?_ | refine tl_nil ?_ | refine tl_cons ?_ | refine tl_cons_none ?_ | refine op_move ?_ | refine op_assign ?_ | refine op_load ?_ | refine op_load_agg ?_ | refine op_icmp ?_ | refine op_fcmp ?_ | refine op_iarith ?_ | refine op_bcmp ?_ | refine op_extract ?_ | refine op_makeInterface ?_ | refine op_ptr_nil ?_ | refine op_makeMeth ?_ | refine op_makeFunc ?_ | refine op_iquo ?_ | refine op_irem ?_ | refine op_ibits ?_ | refine op_slice_isnil ?_ | refine op_slice_notnil ?_ | refine op_shl ?_ | refine op_shr ?_ | (refine op_alloc ?_; intro _) | (refine op_farith ?_; intro _ _) | refine op_store0 ?_ | refine op_store1 ?_ | refine op_store2 ?_ | refine op_store3 ?_ | refine op_store4 ?_ | refine op_store5 ?_ | refine op_storeK rfl ?_ | refine op_loadK rfl ?_ | refine op_load_aggK rfl ?_ | refine tc_ret ?_ | refine at_seq_ret ?_ | fail)
                  | fail
                refine ret_door (m := 3) rfl rfl (.cons (rv_cell rfl) (.cons (rv_cell rfl) (.cons (rv_cell rfl) .nil))) rfl (List.Sublist.refl _) ?_
                exact .inr ⟨hlt, ⟨_, _, rfl⟩, ExC.ex⟩
          · refine op_iface_someq ?_
            refine ta_only 0 (by kernel_rfl) rfl (by decide) ?_
            refine op_loadK rfl ?_
            refine ta_only0 5 (by kernel_rfl) rfl ?_
            refine op_storeK rfl ?_
            refine ta_only0 6 (by kernel_rfl) rfl ?_
            refine op_storeK rfl ?_
            refine ta_only0 7 (by kernel_rfl) rfl ?_
            refine op_storeK rfl ?_
            refine ta_done (by kernel_rfl) ?_
            repeat' first
              | (first | refine tl_defer ?_ | refine tc_seq ?_ | refine tc_region ?_ | refine at_seq_normal ?_ | refine tl_nil ?_ | refine tl_cons ?_ | refine tl_cons_none ?_ | refine op_move ?_ | refine op_assign ?_ | refine op_load ?_ | refine op_load_agg ?_ | refine op_icmp ?_ | refine op_fcmp ?_ | refine op_iarith ?_ | refine op_bcmp ?_ | refine op_extract ?_ | refine op_makeInterface ?_ | refine op_ptr_nil ?_ | refine op_makeMeth ?_ | refine op_makeFunc ?_ | refine op_iquo ?_ | refine op_irem ?_ | refine op_ibits ?_ | refine op_slice_isnil ?_ | refine op_slice_notnil ?_ | refine op_shl ?_ | refine op_shr ?_ | (refine op_alloc ?_; intro _) | (refine op_farith ?_; intro _ _) | refine op_store0 ?_ | refine op_store1 ?_ | refine op_store2 ?_ | refine op_store3 ?_ | refine op_store4 ?_ | refine op_store5 ?_ | refine op_storeK rfl ?_ | refine op_loadK rfl ?_ | refine op_load_aggK rfl ?_ | refine tc_ret ?_ | refine at_seq_ret ?_ | fail)
              | fail
            refine ret_door (m := 3) rfl rfl (.cons (rv_cell rfl) (.cons (rv_cell rfl) (.cons (rv_cell rfl) .nil))) rfl (List.Sublist.refl _) ?_
            exact .inr ⟨hlt, ⟨_, _, rfl⟩, ExC.ex⟩
        · refine op_iface_someq ?_
          refine ta_two 0 2 (by kernel_rfl) rfl (by decide) rfl (by decide) ?_ ?_
          · refine op_loadK rfl ?_
            refine ta_only 2 (by kernel_rfl) rfl (by decide) ?_
            (refine op_call ((bufLen kb T a 0 c _ _ _ (List.mem_cons_of_mem _ (List.mem_append_left _ m1))).mono ?_); rintro _ _ ⟨rfl, rfl⟩)
            refine ta_only0 5 (by kernel_rfl) rfl ?_
            refine op_storeK rfl ?_
            refine ta_only0 6 (by kernel_rfl) rfl ?_
            refine op_storeK rfl ?_
            refine ta_only0 7 (by kernel_rfl) rfl ?_
            refine op_storeK rfl ?_
            refine ta_done (by kernel_rfl) ?_
            repeat' first
              | (first | refine tl_defer ?_ | refine tc_seq ?_ | refine tc_region ?_ | refine at_seq_normal ?_ | refine tl_nil ?_ | refine tl_cons ?_ | refine tl_cons_none ?_ | refine op_move ?_ | refine op_assign ?_ | refine op_load ?_ | refine op_load_agg ?_ | refine op_icmp ?_ | refine op_fcmp ?_ | refine op_iarith ?_ | refine op_bcmp ?_ | refine op_extract ?_ | refine op_makeInterface ?_ | refine op_ptr_nil ?_ | refine op_makeMeth ?_ | refine op_makeFunc ?_ | refine op_iquo ?_ | refine op_irem ?_ | refine op_ibits ?_ | refine op_slice_isnil ?_ | refine op_slice_notnil ?_ | refine op_shl ?_ | refine op_shr ?_ | (refine op_alloc ?_; intro _) | (refine op_farith ?_; intro _ _) | refine op_store0 ?_ | refine op_store1 ?_ | refine op_store2 ?_ | refine op_store3 ?_ | refine op_store4 ?_ | refine op_store5 ?_ | refine op_storeK rfl ?_ | refine op_loadK rfl ?_ | refine op_load_aggK rfl ?_ | refine tc_ret ?_ | refine at_seq_ret ?_ | fail)
              | fail
            refine ret_door (m := 3) rfl rfl (.cons (rv_cell rfl) (.cons (rv_cell rfl) (.cons (rv_cell rfl) .nil))) rfl (List.Sublist.refl _) ?_
            exact .inr ⟨hlt, ⟨_, _, rfl⟩, ExC.ex⟩
          · (refine op_call ((bufLen kb T a 0 c _ _ _ (List.mem_cons_of_mem _ (List.mem_append_left _ m1))).mono ?_); rintro _ _ ⟨rfl, rfl⟩)
            refine ta_only 0 (by kernel_rfl) rfl (by decide) ?_
            refine op_loadK rfl ?_
            refine ta_only0 5 (by kernel_rfl) rfl ?_
            refine op_storeK rfl ?_
            refine ta_only0 6 (by kernel_rfl) rfl ?_
            refine op_storeK rfl ?_
            refine ta_only0 7 (by kernel_rfl) rfl ?_
            refine op_storeK rfl ?_
            refine ta_done (by kernel_rfl) ?_
            repeat' first
              | (first | refine tl_defer ?_ | refine tc_seq ?_ | refine tc_region ?_ | refine at_seq_normal ?_ | refine tl_nil ?_ | refine tl_cons ?_ | refine tl_cons_none ?_ | refine op_move ?_ | refine op_assign ?_ | refine op_load ?_ | refine op_load_agg ?_ | refine op_icmp ?_ | refine op_fcmp ?_ | refine op_iarith ?_ | refine op_bcmp ?_ | refine op_extract ?_ | refine op_makeInterface ?_ | refine op_ptr_nil ?_ | refine op_makeMeth ?_ | refine op_makeFunc ?_ | refine op_iquo ?_ | refine op_irem ?_ | refine op_ibits ?_ | refine op_slice_isnil ?_ | refine op_slice_notnil ?_ | refine op_shl ?_ | refine op_shr ?_ | (refine op_alloc ?_; intro _) | (refine op_farith ?_; intro _ _) | refine op_store0 ?_ | refine op_store1 ?_ | refine op_store2 ?_ | refine op_store3 ?_ | refine op_store4 ?_ | refine op_store5 ?_ | refine op_storeK rfl ?_ | refine op_loadK rfl ?_ | refine op_load_aggK rfl ?_ | refine tc_ret ?_ | refine at_seq_ret ?_ | fail)
              | fail
            refine ret_door (m := 3) rfl rfl (.cons (rv_cell rfl) (.cons (rv_cell rfl) (.cons (rv_cell rfl) .nil))) rfl (List.Sublist.refl _) ?_
            exact .inr ⟨hlt, ⟨_, _, rfl⟩, ExC.ex⟩
      · refine op_iface_someq ?_
        refine ta_two 0 1 (by kernel_rfl) rfl (by decide) rfl (by decide) ?_ ?_
        · refine op_loadK rfl ?_
          refine ta_only 1 (by kernel_rfl) rfl (by decide) ?_
          refine op_move ?_
          refine ta_only 2 (by kernel_rfl) rfl (by decide) ?_
          (refine op_call ((bufLen kb T a 0 c _ _ _ (List.mem_cons_of_mem _ (List.mem_append_left _ m1))).mono ?_); rintro _ _ ⟨rfl, rfl⟩)
          refine ta_only0 5 (by kernel_rfl) rfl ?_
          refine op_storeK rfl ?_
          refine ta_only0 6 (by kernel_rfl) rfl ?_
          refine op_storeK rfl ?_
          refine ta_only0 7 (by kernel_rfl) rfl ?_
          refine op_storeK rfl ?_
          refine ta_done (by kernel_rfl) ?_
          repeat' first
            | (first | refine tl_defer ?_ | refine tc_seq ?_ | refine tc_region ?_ | refine at_seq_normal ?_ | refine tl_nil ?_ | refine tl_cons ?_ | refine tl_cons_none ?_ | refine op_move ?_ | refine op_assign ?_ | refine op_load ?_ | refine op_load_agg ?_ | refine op_icmp ?_ | refine op_fcmp ?_ | refine op_iarith ?_ | refine op_bcmp ?_ | refine op_extract ?_ | refine op_makeInterface ?_ | refine op_ptr_nil ?_ | refine op_makeMeth ?_ | refine op_makeFunc ?_ | refine op_iquo ?_ | refine op_irem ?_ | refine op_ibits ?_ | refine op_slice_isnil ?_ | refine op_slice_notnil ?_ | refine op_shl ?_ | refine op_shr ?_ | (refine op_alloc ?_; intro _) | (refine op_farith ?_; intro _ _) | refine op_store0 ?_ | refine op_store1 ?_ | refine op_store2 ?_ | refine op_store3 ?_ | refine op_store4 ?_ | refine op_store5 ?_ | refine op_storeK rfl ?_ | refine op_loadK rfl ?_ | refine op_load_aggK rfl ?_ | refine tc_ret ?_ | refine at_seq_ret ?_ | fail)
            | fail
          refine ret_door (m := 3) rfl rfl (.cons (rv_cell rfl) (.cons (rv_cell rfl) (.cons (rv_cell rfl) .nil))) rfl (List.Sublist.refl _) ?_
          exact .inr ⟨hlt, ⟨_, _, rfl⟩, ExC.ex⟩
        · refine op_move ?_
          refine ta_two 0 2 (by kernel_rfl) rfl (by decide) rfl (by decide) ?_ ?_
          · refine op_loadK rfl ?_
            refine ta_only 2 (by kernel_rfl) rfl (by decide) ?_
            (refine op_call ((bufLen kb T a 0 c _ _ _ (List.mem_cons_of_mem _ (List.mem_append_left _ m1))).mono ?_); rintro _ _ ⟨rfl, rfl⟩)
            refine ta_only0 5 (by kernel_rfl) rfl ?_
            refine op_storeK rfl ?_
            refine ta_only0 6 (by kernel_rfl) rfl ?_
            refine op_storeK rfl ?_
            refine ta_only0 7 (by kernel_rfl) rfl ?_
            refine op_storeK rfl ?_
            refine ta_done (by kernel_rfl) ?_
            repeat' first
              | (first | refine tl_defer ?_ | refine tc_seq ?_ | refine tc_region ?_ | refine at_seq_normal ?_ | refine tl_nil ?_ | refine tl_cons ?_ | refine tl_cons_none ?_ | refine op_move ?_ | refine op_assign ?_ | refine op_load ?_ | refine op_load_agg ?_ | refine op_icmp ?_ | refine op_fcmp ?_ | refine op_iarith ?_ | refine op_bcmp ?_ | refine op_extract ?_ | refine op_makeInterface ?_ | refine op_ptr_nil ?_ | refine op_makeMeth ?_ | refine op_makeFunc ?_ | refine op_iquo ?_ | refine op_irem ?_ | refine op_ibits ?_ | refine op_slice_isnil ?_ | refine op_slice_notnil ?_ | refine op_shl ?_ | refine op_shr ?_ | (refine op_alloc ?_; intro _) | (refine op_farith ?_; intro _ _) | refine op_store0 ?_ | refine op_store1 ?_ | refine op_store2 ?_ | refine op_store3 ?_ | refine op_store4 ?_ | refine op_store5 ?_ | refine op_storeK rfl ?_ | refine op_loadK rfl ?_ | refine op_load_aggK rfl ?_ | refine tc_ret ?_ | refine at_seq_ret ?_ | fail)
              | fail
            refine ret_door (m := 3) rfl rfl (.cons (rv_cell rfl) (.cons (rv_cell rfl) (.cons (rv_cell rfl) .nil))) rfl (List.Sublist.refl _) ?_
            exact .inr ⟨hlt, ⟨_, _, rfl⟩, ExC.ex⟩
          · (refine op_call ((bufLen kb T a 0 c _ _ _ (List.mem_cons_of_mem _ (List.mem_append_left _ m1))).mono ?_); rintro _ _ ⟨rfl, rfl⟩)
            refine ta_only 0 (by kernel_rfl) rfl (by decide) ?_
            refine op_loadK rfl ?_
            refine ta_only0 5 (by kernel_rfl) rfl ?_
            refine op_storeK rfl ?_
            refine ta_only0 6 (by kernel_rfl) rfl ?_
            refine op_storeK rfl ?_
            refine ta_only0 7 (by kernel_rfl) rfl ?_
            refine op_storeK rfl ?_
            refine ta_done (by kernel_rfl) ?_
            repeat' first
              | (first | refine tl_defer ?_ | refine tc_seq ?_ | refine tc_region ?_ | refine at_seq_normal ?_ | refine tl_nil ?_ | refine tl_cons ?_ | refine tl_cons_none ?_ | refine op_move ?_ | refine op_assign ?_ | refine op_load ?_ | refine op_load_agg ?_ | refine op_icmp ?_ | refine op_fcmp ?_ | refine op_iarith ?_ | refine op_bcmp ?_ | refine op_extract ?_ | refine op_makeInterface ?_ | refine op_ptr_nil ?_ | refine op_makeMeth ?_ | refine op_makeFunc ?_ | refine op_iquo ?_ | refine op_irem ?_ | refine op_ibits ?_ | refine op_slice_isnil ?_ | refine op_slice_notnil ?_ | refine op_shl ?_ | refine op_shr ?_ | (refine op_alloc ?_; intro _) | (refine op_farith ?_; intro _ _) | refine op_store0 ?_ | refine op_store1 ?_ | refine op_store2 ?_ | refine op_store3 ?_ | refine op_store4 ?_ | refine op_store5 ?_ | refine op_storeK rfl ?_ | refine op_loadK rfl ?_ | refine op_load_aggK rfl ?_ | refine tc_ret ?_ | refine at_seq_ret ?_ | fail)
              | fail
            refine ret_door (m := 3) rfl rfl (.cons (rv_cell rfl) (.cons (rv_cell rfl) (.cons (rv_cell rfl) .nil))) rfl (List.Sublist.refl _) ?_
            exact .inr ⟨hlt, ⟨_, _, rfl⟩, ExC.ex⟩
end Go.Proofs.YtddpdmmikheoeaaDoor.Byt

set_option linter.unusedVariables false
set_option linter.unusedSimpArgs false
namespace Go.Proofs.YtddpdmmikheoeaaDoor.Flat
open Go.Lg

theorem bits (x : Nat) (H : Heap) : Does Tryd.prog 21 [.float .f64 x] H fun v H' => v = .int .u64 (x : Int) ∧ H' = H :=
  does_bits Tryd.func21 rfl rfl (by kernel_rfl) (by kernel_rfl)

theorem getD_of {l : List Nat} {i x : Nat} (h : l[i]? = some x) : l.getD i 0 = x := by rw [List.getD_eq_getElem?_getD, h]; rfl
theorem take_eq_snoc {l m : List Nat} {j : Nat} {x : Nat} (h : l.take j = m.take j) (h1 : l[j]? = some x) (h2 : m[j]? = some x) : l.take (j + 1) = m.take (j + 1) := by
  rw [List.take_add_one, List.take_add_one, h, h1, h2]

set_option maxHeartbeats 8000000 in
theorem sameFloats (a1 a2 : Option Addr) (c1 c2 : Nat) (xs ys : List Nat) (H : Heap) (h1 : FS H (.slice a1 xs.length c1) xs) (h2 : FS H (.slice a2 ys.length c2) ys) (hb : xs.length < 2 ^ 40) :
    Does Tryd.prog 8 [.slice a1 xs.length c1, .slice a2 ys.length c2] H fun w H' => w = .bool (decide (xs = ys)) ∧ H' = H := by
  refine fn_enter 28 Tryd.func8 fun W => ?_
  by_cases hl : xs.length = ys.length
  rotate_left
  · have hc : icmp .neq (xs.length : Int) (ys.length : Int) = true := by simp only [icmp, bne_iff_ne]; omega
    repeat' first
      | refine tc_seq ?_ | refine tc_region ?_ | refine at_seq_normal ?_ | refine tl_nil ?_ | refine tl_cons ?_ | refine op_move ?_ | refine op_assign ?_ | refine op_load ?_ | refine op_load_agg ?_ | refine op_indexC ?_
      | refine op_indexAddr1 ?_ | refine op_indexAddr ?_ | refine op_icmp ?_ | refine op_iarith ?_ | refine op_len_slice ?_ | refine op_loadK rfl ?_ | refine op_load_aggK rfl ?_ | refine tc_cond_t ?_ | refine tc_cond_f ?_ | refine tc_cond (fun _ => ?_) (fun _ => ?_)
      | refine tc_block ?_ | refine tc_skip ?_ | refine tc_ret ?_ | refine tc_exit ?_ | refine at_seq_ret ?_ | refine at_seq_exit ?_ | refine at_block_normal ?_ | refine at_block_ret ?_ | refine at_block_exit_self ?_ | refine at_block_exit_ne ?_
      | refine at_loop_ret ?_ | refine at_loop_exit ?_
    exact ret_tmp (hk := ⟨congrArg Value.bool (by rw [eq_comm, decide_eq_false_iff_not]; intro h; rw [h] at hl; exact hl rfl), rfl⟩)
  have hc : icmp .neq (xs.length : Int) (ys.length : Int) = false := by simp only [icmp, bne_eq_false_iff_eq]; omega
  repeat' first
    | refine tc_seq ?_ | refine tc_region ?_ | refine at_seq_normal ?_ | refine tl_nil ?_ | refine tl_cons ?_ | refine op_move ?_ | refine op_assign ?_ | refine op_load ?_ | refine op_load_agg ?_ | refine op_indexC ?_
    | refine op_indexAddr1 ?_ | refine op_indexAddr ?_ | refine op_icmp ?_ | refine op_iarith ?_ | refine op_len_slice ?_ | refine op_loadK rfl ?_ | refine op_load_aggK rfl ?_ | refine tc_cond_t ?_ | refine tc_cond_f ?_ | refine tc_cond (fun _ => ?_) (fun _ => ?_)
    | refine tc_block ?_ | refine tc_skip ?_ | refine tc_ret ?_ | refine tc_exit ?_ | refine at_seq_ret ?_ | refine at_seq_exit ?_ | refine at_block_normal ?_ | refine at_block_ret ?_ | refine at_block_exit_self ?_ | refine at_block_exit_ne ?_
    | refine at_loop_ret ?_ | refine at_loop_exit ?_
  refine tc_loopH [(1, _), (12, _), (13, _)] (by repeat (first | exact trivial | refine ⟨rfl, ?_⟩)) (fun j : Nat => [(14, .int .i64 (j : Int))]) (fun j => j ≤ xs.length ∧ xs.take j = ys.take j) (fun j => xs.length - j) 0 ⟨Nat.zero_le _, by simp⟩ ⟨rfl, trivial⟩ ?_
  rintro j ⟨hj, hok⟩
  by_cases hlt : j < xs.length
  · have hbb : icmp .lss (j : Int) (xs.length : Int) = true := by rw [lss_nat]; simpa using hlt
    have t1 : xs[j]? = some xs[j] := List.getElem?_eq_getElem hlt
    have t2 : ys[j]? = some ys[j] := List.getElem?_eq_getElem (by omega)
    obtain ⟨k1, o1, l1, T1, z1, _, u1, mm1, ll1, lt1⟩ := h1.at t1
    cases u1
    obtain ⟨k2, o2, l2, T2, z2, _, u2, mm2, ll2, lt2⟩ := h2.at t2
    cases u2
    generalize xs[j] = x at *
    generalize ys[j] = y at *
    repeat' first
      | refine tc_seq ?_ | refine tc_region ?_ | refine at_seq_normal ?_ | refine tl_nil ?_ | refine tl_cons ?_ | refine op_move ?_ | refine op_assign ?_ | refine op_load ?_ | refine op_load_agg ?_ | refine op_indexC ?_
      | refine op_indexAddr1 ?_ | refine op_indexAddr ?_ | refine op_icmp ?_ | refine op_iarith ?_ | refine op_len_slice ?_ | refine op_loadK rfl ?_ | refine op_load_aggK rfl ?_ | refine tc_cond_t ?_ | refine tc_cond_f ?_ | refine tc_cond (fun _ => ?_) (fun _ => ?_)
      | refine tc_block ?_ | refine tc_skip ?_ | refine tc_ret ?_ | refine tc_exit ?_ | refine at_seq_ret ?_ | refine at_seq_exit ?_ | refine at_block_normal ?_ | refine at_block_ret ?_ | refine at_block_exit_self ?_ | refine at_block_exit_ne ?_
      | refine at_loop_ret ?_ | refine at_loop_exit ?_
    apply fun hole0 hole1 hole2 hole3 hole4 hole5 hole6 hole7 hE hD hml hdl hpr prem fin => tc_drawn 8 [is hole0, is hole1, is hole2, is hole3, is hole4, is hole5, is hole6, is hole7]
      [some 19, some 20, some 21, some 22, some 23, some 24, some 25, some 26] [[], [0], [], [], [2, 3], [4], [5, 1], [1, 6]] mixed ⟨(is_mono _), (is_mono _), (is_mono _), (is_mono _), (is_mono _), (is_mono _), (is_mono _), (is_mono _), trivial⟩ prem fin hE hD rfl hml hdl hpr
    rotate_left 9
    · first | kernel_rfl | exact rfl
    · first | kernel_rfl | exact rfl
    · exact Nat.le_of_ble_eq_true rfl
    · first | kernel_rfl | exact rfl
    · first | kernel_rfl | exact rfl
    refine ⟨fun G hG => ?_, fun G hG => ?_, fun G hG => ?_, fun G hG => ?_, fun G hG => ?_, fun G hG => ?_, fun G hG => ?_, fun G hG => ?_, trivial⟩
    · simp only [with2, Step2, nthDst, putO]
      (refine op_move ?_; exact ⟨[], rfl, rfl, rfl⟩)
    · rintro _ _ ⟨rfl, rfl⟩ -
      simp only [with2, Step2, nthDst, putO]
      (first | (refine op_call ((bits _ _).mono ?_); rintro _ _ ⟨rfl, rfl⟩; exact ⟨[], rfl, rfl, rfl⟩) | (first | ((first | refine op_move ?_ | refine op_assign ?_ | refine op_fieldAddr ?_ | refine op_load ?_ | refine op_load_agg ?_ | refine op_indexC ?_ | refine op_indexAddr1 ?_ | refine op_indexAddr ?_ | refine op_icmp ?_ | refine op_fcmp ?_ | refine op_iarith ?_ | refine op_bcmp ?_ | refine op_unop_not ?_ | refine op_unop_neg_float ?_ | refine op_unop_neg_int ?_ | refine op_len_slice ?_ | refine op_pick_true ?_ | refine op_pick_false ?_ | refine op_pick_true' ?_ | refine op_pick_false' ?_ | refine op_build ?_ | refine op_extract ?_ | refine op_makeInterface ?_ | refine op_typeAssert ?_ | refine op_ptr_nil ?_ | refine op_nilCheck_ptr ?_ | refine op_nilCheck_meth ?_ | refine op_makeMeth ?_ | refine op_makeFunc ?_ | refine op_itof ?_ | refine op_itoi ?_ | refine op_ftoi ?_ | refine op_iquo ?_ | refine op_irem ?_ | refine op_ibits ?_ | refine op_slice_isnil ?_ | refine op_slice_notnil ?_ | refine op_imax ?_ | refine op_imin ?_ | refine op_shl ?_ | refine op_shr ?_ | refine op_load ?_ (hm := Sub.mem (by assumption) (by (repeat (apply List.mem_cons_of_mem)); assumption)) | refine op_load_agg ?_ (hm := Sub.mem (by assumption) (by (repeat (apply List.mem_cons_of_mem)); assumption))); exact ⟨[], rfl, rfl, rfl⟩) | (refine op_alloc ?_; intro _; exact ⟨[(_, _)], rfl, ⟨_, rfl, rfl⟩⟩) | (refine op_box ?_; intro _; exact ⟨[(_, _)], rfl, ⟨_, rfl, rfl⟩⟩) | (refine op_buildSlice ?_; intro _; exact ⟨[(_, _)], rfl, ⟨_, rfl, rfl⟩⟩) | (refine op_farith ?_; intro _ h; exact ⟨[], rfl, ⟨_, h, rfl⟩, rfl⟩)))
    · simp only [with2, Step2, nthDst, putO]
      (refine op_move ?_; exact ⟨[], rfl, rfl, rfl⟩)
    · simp only [with2, Step2, nthDst, putO]
      (refine op_move ?_; exact ⟨[], rfl, rfl, rfl⟩)
    · rintro _ _ ⟨rfl, rfl⟩ - _ _ ⟨rfl, rfl⟩ -
      simp only [with2, Step2, nthDst, putO]
      ((first | refine op_indexC ?_ | refine op_indexAddr1 ?_ | refine op_indexAddr ?_); exact ⟨[], rfl, rfl, rfl⟩)
    · rintro _ _ ⟨rfl, rfl⟩ -
      simp only [with2, Step2, nthDst, putO]
      ((first | refine op_load ?_ | refine op_load_agg ?_ | refine op_load ?_ (hm := Sub.mem (by assumption) (by (repeat (apply List.mem_cons_of_mem)); assumption)) | refine op_load_agg ?_ (hm := Sub.mem (by assumption) (by (repeat (apply List.mem_cons_of_mem)); assumption)) | refine op_loadH hG rfl ?_ | refine op_load_aggH hG rfl ?_); exact ⟨[], rfl, rfl, rfl⟩)
    · rintro _ _ ⟨rfl, rfl⟩ - _ _ ⟨rfl, rfl⟩ -
      simp only [with2, Step2, nthDst, putO]
      (first | (refine op_call ((bits _ _).mono ?_); rintro _ _ ⟨rfl, rfl⟩; exact ⟨[], rfl, rfl, rfl⟩) | (first | ((first | refine op_move ?_ | refine op_assign ?_ | refine op_fieldAddr ?_ | refine op_load ?_ | refine op_load_agg ?_ | refine op_indexC ?_ | refine op_indexAddr1 ?_ | refine op_indexAddr ?_ | refine op_icmp ?_ | refine op_fcmp ?_ | refine op_iarith ?_ | refine op_bcmp ?_ | refine op_unop_not ?_ | refine op_unop_neg_float ?_ | refine op_unop_neg_int ?_ | refine op_len_slice ?_ | refine op_pick_true ?_ | refine op_pick_false ?_ | refine op_pick_true' ?_ | refine op_pick_false' ?_ | refine op_build ?_ | refine op_extract ?_ | refine op_makeInterface ?_ | refine op_typeAssert ?_ | refine op_ptr_nil ?_ | refine op_nilCheck_ptr ?_ | refine op_nilCheck_meth ?_ | refine op_makeMeth ?_ | refine op_makeFunc ?_ | refine op_itof ?_ | refine op_itoi ?_ | refine op_ftoi ?_ | refine op_iquo ?_ | refine op_irem ?_ | refine op_ibits ?_ | refine op_slice_isnil ?_ | refine op_slice_notnil ?_ | refine op_imax ?_ | refine op_imin ?_ | refine op_shl ?_ | refine op_shr ?_ | refine op_load ?_ (hm := Sub.mem (by assumption) (by (repeat (apply List.mem_cons_of_mem)); assumption)) | refine op_load_agg ?_ (hm := Sub.mem (by assumption) (by (repeat (apply List.mem_cons_of_mem)); assumption))); exact ⟨[], rfl, rfl, rfl⟩) | (refine op_alloc ?_; intro _; exact ⟨[(_, _)], rfl, ⟨_, rfl, rfl⟩⟩) | (refine op_box ?_; intro _; exact ⟨[(_, _)], rfl, ⟨_, rfl, rfl⟩⟩) | (refine op_buildSlice ?_; intro _; exact ⟨[(_, _)], rfl, ⟨_, rfl, rfl⟩⟩) | (refine op_farith ?_; intro _ h; exact ⟨[], rfl, ⟨_, h, rfl⟩, rfl⟩)))
    · rintro _ _ ⟨rfl, rfl⟩ - _ _ ⟨rfl, rfl⟩ -
      simp only [with2, Step2, nthDst, putO]
      (refine op_icmp ?_; exact ⟨[], rfl, rfl, rfl⟩)
    · rintro _ _ _ _ _ _ _ _ _ _ _ _ _ _ _ _ ⟨⟨rfl, rfl⟩, ⟨rfl, rfl⟩, ⟨rfl, rfl⟩, ⟨rfl, rfl⟩, ⟨rfl, rfl⟩, ⟨rfl, rfl⟩, ⟨rfl, rfl⟩, ⟨rfl, rfl⟩, _⟩
      simp only [List.nil_append, List.cons_append, List.append_nil, List.drop_succ_cons, List.drop_zero, nthDst, putO]
      by_cases hxy : x = y
      · have hn : icmp .neq (x : Int) (y : Int) = false := by simp only [icmp, bne_eq_false_iff_eq]; omega
        repeat' first
          | refine tc_seq ?_ | refine tc_region ?_ | refine at_seq_normal ?_ | refine tl_nil ?_ | refine tl_cons ?_ | refine op_move ?_ | refine op_assign ?_ | refine op_load ?_ | refine op_load_agg ?_ | refine op_indexC ?_
          | refine op_indexAddr1 ?_ | refine op_indexAddr ?_ | refine op_icmp ?_ | refine op_iarith ?_ | refine op_len_slice ?_ | refine op_loadK rfl ?_ | refine op_load_aggK rfl ?_ | refine tc_cond_t ?_ | refine tc_cond_f ?_ | refine tc_cond (fun _ => ?_) (fun _ => ?_)
          | refine tc_block ?_ | refine tc_skip ?_ | refine tc_ret ?_ | refine tc_exit ?_ | refine at_seq_ret ?_ | refine at_seq_exit ?_ | refine at_block_normal ?_ | refine at_block_ret ?_ | refine at_block_exit_self ?_ | refine at_block_exit_ne ?_
          | refine at_loop_ret ?_ | refine at_loop_exit ?_
        exact at_loop_normal (j + 1) ⟨hlt, take_eq_snoc hok t1 (hxy ▸ t2)⟩ (by omega) (Incl.get ⟨next_nat (by omega), (by repeat (first | exact trivial | refine ⟨rfl, ?_⟩))⟩) (by (repeat (first | exact List.Sublist.refl _ | apply List.Sublist.cons_cons | apply List.Sublist.cons | refine List.Sublist.trans ?_ (List.sublist_append_right _ _))))
      · have hn : icmp .neq (x : Int) (y : Int) = true := by simp only [icmp, bne_iff_ne]; omega
        repeat' first
          | refine tc_seq ?_ | refine tc_region ?_ | refine at_seq_normal ?_ | refine tl_nil ?_ | refine tl_cons ?_ | refine op_move ?_ | refine op_assign ?_ | refine op_load ?_ | refine op_load_agg ?_ | refine op_indexC ?_
          | refine op_indexAddr1 ?_ | refine op_indexAddr ?_ | refine op_icmp ?_ | refine op_iarith ?_ | refine op_len_slice ?_ | refine op_loadK rfl ?_ | refine op_load_aggK rfl ?_ | refine tc_cond_t ?_ | refine tc_cond_f ?_ | refine tc_cond (fun _ => ?_) (fun _ => ?_)
          | refine tc_block ?_ | refine tc_skip ?_ | refine tc_ret ?_ | refine tc_exit ?_ | refine at_seq_ret ?_ | refine at_seq_exit ?_ | refine at_block_normal ?_ | refine at_block_ret ?_ | refine at_block_exit_self ?_ | refine at_block_exit_ne ?_
          | refine at_loop_ret ?_ | refine at_loop_exit ?_
        exact ret_tmp (hk := ⟨congrArg Value.bool (by rw [eq_comm, decide_eq_false_iff_not]; rintro rfl; rw [t1] at t2; cases t2; exact hxy rfl), rfl⟩)
  · have hbb : icmp .lss (j : Int) (xs.length : Int) = false := by rw [lss_nat]; simpa using hlt
    repeat' first
      | refine tc_seq ?_ | refine tc_region ?_ | refine at_seq_normal ?_ | refine tl_nil ?_ | refine tl_cons ?_ | refine op_move ?_ | refine op_assign ?_ | refine op_load ?_ | refine op_load_agg ?_ | refine op_indexC ?_
      | refine op_indexAddr1 ?_ | refine op_indexAddr ?_ | refine op_icmp ?_ | refine op_iarith ?_ | refine op_len_slice ?_ | refine op_loadK rfl ?_ | refine op_load_aggK rfl ?_ | refine tc_cond_t ?_ | refine tc_cond_f ?_ | refine tc_cond (fun _ => ?_) (fun _ => ?_)
      | refine tc_block ?_ | refine tc_skip ?_ | refine tc_ret ?_ | refine tc_exit ?_ | refine at_seq_ret ?_ | refine at_seq_exit ?_ | refine at_block_normal ?_ | refine at_block_ret ?_ | refine at_block_exit_self ?_ | refine at_block_exit_ne ?_
      | refine at_loop_ret ?_ | refine at_loop_exit ?_
    exact ret_tmp (hk := ⟨congrArg Value.bool (by rw [List.take_of_length_le (by omega), List.take_of_length_le (by omega)] at hok; simp [hok]), rfl⟩)
end Go.Proofs.YtddpdmmikheoeaaDoor.Flat

set_option linter.unusedVariables false
set_option linter.unusedSimpArgs false
namespace Go.Lg
open Go.ChangeShapes Go.WideShapes Go.RowKit Go.Deep
section rd
variable {H : Type} {enc : TypeId × Value → H} {P : Program} {W : World} {sp : Nat → Bool} {hd : Bool} {r : Reach} {b0 : Nat} {t : TypeId} {v : Value}
theorem wf_u8 {n : Int} (h : (Lit.int .u8 n).wf = true) : 0 ≤ n ∧ n < 256 := by
  simp [Lit.wf, IntKind.min, IntKind.max, IntKind.signed, IntKind.bits] at h
  omega
theorem all_bytes : ∀ {ws : List Value}, (∀ y ∈ ws, ∃ b : Int, y = .int .u8 b ∧ 0 ≤ b ∧ b < 256) → ∃ xs : List Nat, ws = xs.map bv ∧ ∀ x ∈ xs, x < 256
  | [], _ => ⟨[], rfl, fun x h => by cases h⟩
  | w :: ws, h => by
    obtain ⟨b, rfl, h0, h1⟩ := h w List.mem_cons_self
    obtain ⟨xs, rfl, hx⟩ := all_bytes fun y hy => h y (List.mem_cons_of_mem _ hy)
    refine ⟨b.toNat :: xs, ?_, fun x hx' => ?_⟩
    · rw [List.map_cons, bv, Int.toNat_of_nonneg h0]
    · rcases List.mem_cons.1 hx' with rfl | hx'
      · omega
      · exact hx x hx'
theorem open_bytes {e d p} (ht : P.underlying t = some (.slice e)) (he : P.cellsOf e = 1) (hf : P.underlying e = some (.int .u8)) (hv : Value.okWide P W r b0 t v) (h : DataW.Trod enc P W 0 sp hd t v d p) :
    ∃ xs, BS (all W) v xs ∧ xs.length ≤ 9223372036854775807 ∧ ∀ x ∈ xs, x < 256 := by
  obtain ⟨a, len, cap, rfl⟩ := okWide_slice ht hv
  obtain ⟨n, hn⟩ := h
  obtain ⟨ws, h1, h2, h3⟩ := trod_slice ht he (show DataW.trod enc P W 0 sp hd n t [.slice a len cap] = _ from hn)
  obtain ⟨xs, rfl, hx⟩ := all_bytes (ws := ws) fun y hy => by
    obtain ⟨m, z, hm⟩ := h3 y hy
    obtain ⟨b, rfl, hw⟩ := trod_int hf hm
    exact ⟨b, rfl, wf_u8 hw⟩
  exact ⟨xs, h1, by simpa using h2, hx⟩
end rd
end Go.Lg
