/-
  The check of ends of polygons and multi line strings, by way of the thin package. No conditions.
-/
import Derived.Test.YtmilmnedgadidaaDoorVfy
set_option linter.unusedVariables false
set_option linter.unusedSimpArgs false
namespace Go.Proofs.YtmilmnedgadidaaDoor.Gm
open Go.Lg Go.Proofs.YtmilmnedgadidaaDoor.Geom

theorem memE {g : Nat} {G G' : Heap} (h : ∃ u v T fz, (g, Obj.cells ⟨[.iface u v]⟩ T fz) ∈ G) (hs : ∀ e ∈ G, e ∈ G') : ∃ u v T fz, (g, Obj.cells ⟨[.iface u v]⟩ T fz) ∈ G' := by
  obtain ⟨u, v, T, fz, h⟩ := h
  exact ⟨u, v, T, fz, hs _ h⟩
instance anPolygonPoint : AssertNo Tryd.prog 58 45 where
  eq := fun v w xt => by kernel_rfl
instance anPolygonLineString : AssertNo Tryd.prog 58 52 where
  eq := fun v w xt => by kernel_rfl
instance anPolygonLinearRing : AssertNo Tryd.prog 58 56 where
  eq := fun v w xt => by kernel_rfl
instance ayPolygon : AssertYes Tryd.prog 58 where
  eq := fun v w xt => by kernel_rfl
instance anMultiLineStringPoint : AssertNo Tryd.prog 65 45 where
  eq := fun v w xt => by kernel_rfl
instance anMultiLineStringLineString : AssertNo Tryd.prog 65 52 where
  eq := fun v w xt => by kernel_rfl
instance anMultiLineStringLinearRing : AssertNo Tryd.prog 65 56 where
  eq := fun v w xt => by kernel_rfl
instance anMultiLineStringPolygon : AssertNo Tryd.prog 65 58 where
  eq := fun v w xt => by kernel_rfl
instance anMultiLineStringMultiPoint : AssertNo Tryd.prog 65 63 where
  eq := fun v w xt => by kernel_rfl
instance ayMultiLineString : AssertYes Tryd.prog 65 where
  eq := fun v w xt => by kernel_rfl
set_option maxRecDepth 100000 in
instance idle11 : IdleD Tryd.prog 11 2 where
  idle := fun cap w hl => by
    match cap, hl with
    | [p, q], _ =>
    have h0 : ∀ w : World, (eqGuard .neq 20 (.tmp 2) (.const .nilIface) .nilIface .nilIface).run Tryd.prog w = .ok () w := fun _ => rfl
    have h1 : ∀ w : World, (binOp .neq 20 .nilIface .nilIface).run Tryd.prog w = .ok (.bool false) w := fun w => by
      first
        | rfl
        | simp [binOp, Op.equal, Op.equalIn, go_sem]
    refine callsD_of_wpS Tryd.func11 rfl fun c₀ cs hu => ?_
    apply wpS_seq
    apply wpS_region
    simp [wpOpsS, go_sem, recoverD, hu, Tryd.ntmps11, Exit.thenS, h1]
    refine wpS_cond (t := false) (by simp [Act.eval, Array.replicate]) ?_
    simp only [Bool.false_eq_true, if_false]
    refine wpS_of_wp (wp_skip ?_)
    cases c₀
    simp_all [bodyPostS, results, Tryd.results11]
set_option maxHeartbeats 4000000 in
theorem doorVerifyPolygon (kp : Nat) (T : TypeId) (l s : Int) (a : Option Addr) (c : Nat) (ae : Option Addr) (ce : Nat) (L : Nat) (es : List Int) (S : Nat) (H : Heap) (hm : (kp, Obj.cells ⟨row5 l (strideI l) (.slice a L c) s (.slice ae es.length ce)⟩ T (0, 0)) ∈ H)
    (he : IS H (.slice ae es.length ce) es) (hl : 1 ≤ l) (hS : strideI l = (S : Int)) (hS0 : 0 < S) (hnr : Near es S L) (hbe : es.length ≤ 2000) (hL : L ≤ 2000)
    (hE5 : ∃ u v T fz, (5, Obj.cells ⟨[.iface u v]⟩ T fz) ∈ H) (hE6 : ∃ u v T fz, (6, Obj.cells ⟨[.iface u v]⟩ T fz) ∈ H) :
    Does Tryd.prog 12 [.iface 58 (.pointer (some ⟨kp, 0, none⟩))] H fun w H' => ((w = .nilIface ∧ Fine es L) ∨ ((∃ u v, w = .iface u v) ∧ ¬ Fine es L)) ∧ H' = H := by
  refine fn_enter 60 Tryd.func12 fun W => ?_
  repeat' first
    | refine op_assertYes (t := 58) ?_
    | refine op_assertNo ?_
    | (refine op_call ((verify2 kp T l s a c ae ce L es S _ hm he hl hS hS0 hnr hbe hL hE5 hE6).mono ?_); rintro w _ ⟨hw, rfl⟩)
    | (first | refine tc_seq ?_ | refine tc_region ?_ | refine at_seq_normal ?_ | refine tl_nil ?_ | refine tl_cons ?_ | refine op_move ?_ | refine op_assign ?_ | refine op_fieldAddr ?_ | refine op_extract ?_ | refine op_typeAssert ?_ | refine op_nilCheck_ptr ?_ | refine op_nilCheck_meth ?_ | refine tc_cond_t ?_ | refine tc_cond_f ?_ | refine tc_cond (fun _ => ?_) (fun _ => ?_) | refine tc_block ?_ | refine tc_skip ?_ | refine tc_ret ?_ | refine at_seq_ret ?_ | refine at_block_normal ?_ | refine at_block_ret ?_ | fail)
    | fail
  exact ret_tmp (hk := ⟨hw, rfl⟩)
set_option maxHeartbeats 4000000 in
theorem implVerifyPolygon (l s : Int) (vf ve vee vk : Value) (f : List Nat) (e : List Int) (S : Nat) (H : Heap) (hl : 1 ≤ l) (hf : FS H vf f) (he : IS H ve e) (hS : strideI l = (S : Int)) (hS0 : 0 < S) (hnr : Near e S f.length) (hbe : e.length ≤ 2000) (hL : f.length ≤ 2000)
    (hE5 : ∃ u v T fz, (5, Obj.cells ⟨[.iface u v]⟩ T fz) ∈ H) (hE6 : ∃ u v T fz, (6, Obj.cells ⟨[.iface u v]⟩ T fz) ∈ H) :
    Does Tryd.prog 7 [.agg ⟨[.int .i64 3, .int .i64 l, .int .i64 s, vf, ve, vee, vk]⟩] H fun w H' => ∃ b, w = .tuple #[.bool b, .bool true] ∧ (b = true ↔ Fine e f.length) ∧ ∃ ex, H' = ex ++ H := by
  refine fn_enter_d 9 Tryd.func7 fun W => ?_
  repeat' first
    | (refine op_call ((geometryPolygon l s _ _ _ _ f e _ hl (hf.mono exs) (he.mono exs) (by omega) (by omega)).mono ?_); rintro _ _ ⟨kp, T, a, c, ae, ce, R, rfl, rfl, hfs, hes, ex, rfl⟩)
    | (refine op_call ((doorVerifyPolygon kp T l s a c ae ce f.length e S _ mem0 (hes.mono fun z hz => List.mem_cons_of_mem _ hz) hl hS hS0 hnr hbe hL (memE hE5 exs) (memE hE6 exs)).mono ?_); rintro w _ ⟨⟨rfl, hfi⟩ | ⟨⟨u, v, rfl⟩, hfi⟩, rfl⟩)
    | refine op_iface_nilq ?_
    | refine op_iface_someq ?_
    | refine op_storeK rfl ?_
    | (first | refine tl_defer ?_ | refine tc_seq ?_ | refine tc_region ?_ | refine at_seq_normal ?_ | refine tl_nil ?_ | refine tl_cons ?_ | refine tl_cons_none ?_ | refine op_load ?_ | refine op_load_agg ?_ | refine op_icmp ?_ | refine op_fcmp ?_ | refine op_iarith ?_ | refine op_bcmp ?_ | refine op_ptr_nil ?_ | refine op_makeMeth ?_ | refine op_makeFunc ?_ | refine op_iquo ?_ | refine op_irem ?_ | refine op_ibits ?_ | refine op_slice_isnil ?_ | refine op_slice_notnil ?_ | refine op_shl ?_ | refine op_shr ?_ | (refine op_alloc ?_; intro _) | (refine op_box ?_; intro _) | (refine op_farith ?_; intro _ _) | refine op_store0 ?_ | refine op_store1 ?_ | refine op_store2 ?_ | refine op_store3 ?_ | refine op_store4 ?_ | refine op_store5 ?_ | refine op_storeK rfl ?_ | refine op_loadK rfl ?_ | refine op_load_aggK rfl ?_ | refine tc_ret ?_ | refine at_seq_ret ?_ | fail)
    | fail
  · exact ret_door (m := 2) rfl rfl (.cons (rv_cell rfl) (.cons (rv_cell rfl) .nil)) rfl (List.Sublist.refl _) ⟨true, rfl, ⟨fun _ => hfi, fun _ => rfl⟩, ExC.ex⟩
  · exact ret_door (m := 2) rfl rfl (.cons (rv_cell rfl) (.cons (rv_cell rfl) .nil)) rfl (List.Sublist.refl _) ⟨false, rfl, ⟨(fun h => by cases h), fun h => absurd h hfi⟩, ExC.ex⟩
set_option maxHeartbeats 4000000 in
theorem doorVerifyMultiLineString (kp : Nat) (T : TypeId) (l s : Int) (a : Option Addr) (c : Nat) (ae : Option Addr) (ce : Nat) (L : Nat) (es : List Int) (S : Nat) (H : Heap) (hm : (kp, Obj.cells ⟨row5 l (strideI l) (.slice a L c) s (.slice ae es.length ce)⟩ T (0, 0)) ∈ H)
    (he : IS H (.slice ae es.length ce) es) (hl : 1 ≤ l) (hS : strideI l = (S : Int)) (hS0 : 0 < S) (hnr : Near es S L) (hbe : es.length ≤ 2000) (hL : L ≤ 2000)
    (hE5 : ∃ u v T fz, (5, Obj.cells ⟨[.iface u v]⟩ T fz) ∈ H) (hE6 : ∃ u v T fz, (6, Obj.cells ⟨[.iface u v]⟩ T fz) ∈ H) :
    Does Tryd.prog 12 [.iface 65 (.pointer (some ⟨kp, 0, none⟩))] H fun w H' => ((w = .nilIface ∧ Fine es L) ∨ ((∃ u v, w = .iface u v) ∧ ¬ Fine es L)) ∧ H' = H := by
  refine fn_enter 60 Tryd.func12 fun W => ?_
  repeat' first
    | refine op_assertYes (t := 65) ?_
    | refine op_assertNo ?_
    | (refine op_call ((verify2 kp T l s a c ae ce L es S _ hm he hl hS hS0 hnr hbe hL hE5 hE6).mono ?_); rintro w _ ⟨hw, rfl⟩)
    | (first | refine tc_seq ?_ | refine tc_region ?_ | refine at_seq_normal ?_ | refine tl_nil ?_ | refine tl_cons ?_ | refine op_move ?_ | refine op_assign ?_ | refine op_fieldAddr ?_ | refine op_extract ?_ | refine op_typeAssert ?_ | refine op_nilCheck_ptr ?_ | refine op_nilCheck_meth ?_ | refine tc_cond_t ?_ | refine tc_cond_f ?_ | refine tc_cond (fun _ => ?_) (fun _ => ?_) | refine tc_block ?_ | refine tc_skip ?_ | refine tc_ret ?_ | refine at_seq_ret ?_ | refine at_block_normal ?_ | refine at_block_ret ?_ | fail)
    | fail
  exact ret_tmp (hk := ⟨hw, rfl⟩)
set_option maxHeartbeats 4000000 in
theorem implVerifyMultiLineString (l s : Int) (vf ve vee vk : Value) (f : List Nat) (e : List Int) (S : Nat) (H : Heap) (hl : 1 ≤ l) (hf : FS H vf f) (he : IS H ve e) (hS : strideI l = (S : Int)) (hS0 : 0 < S) (hnr : Near e S f.length) (hbe : e.length ≤ 2000) (hL : f.length ≤ 2000)
    (hE5 : ∃ u v T fz, (5, Obj.cells ⟨[.iface u v]⟩ T fz) ∈ H) (hE6 : ∃ u v T fz, (6, Obj.cells ⟨[.iface u v]⟩ T fz) ∈ H) :
    Does Tryd.prog 7 [.agg ⟨[.int .i64 5, .int .i64 l, .int .i64 s, vf, ve, vee, vk]⟩] H fun w H' => ∃ b, w = .tuple #[.bool b, .bool true] ∧ (b = true ↔ Fine e f.length) ∧ ∃ ex, H' = ex ++ H := by
  refine fn_enter_d 9 Tryd.func7 fun W => ?_
  repeat' first
    | (refine op_call ((geometryMultiLineString l s _ _ _ _ f e _ hl (hf.mono exs) (he.mono exs) (by omega) (by omega)).mono ?_); rintro _ _ ⟨kp, T, a, c, ae, ce, R, rfl, rfl, hfs, hes, ex, rfl⟩)
    | (refine op_call ((doorVerifyMultiLineString kp T l s a c ae ce f.length e S _ mem0 (hes.mono fun z hz => List.mem_cons_of_mem _ hz) hl hS hS0 hnr hbe hL (memE hE5 exs) (memE hE6 exs)).mono ?_); rintro w _ ⟨⟨rfl, hfi⟩ | ⟨⟨u, v, rfl⟩, hfi⟩, rfl⟩)
    | refine op_iface_nilq ?_
    | refine op_iface_someq ?_
    | refine op_storeK rfl ?_
    | (first | refine tl_defer ?_ | refine tc_seq ?_ | refine tc_region ?_ | refine at_seq_normal ?_ | refine tl_nil ?_ | refine tl_cons ?_ | refine tl_cons_none ?_ | refine op_load ?_ | refine op_load_agg ?_ | refine op_icmp ?_ | refine op_fcmp ?_ | refine op_iarith ?_ | refine op_bcmp ?_ | refine op_ptr_nil ?_ | refine op_makeMeth ?_ | refine op_makeFunc ?_ | refine op_iquo ?_ | refine op_irem ?_ | refine op_ibits ?_ | refine op_slice_isnil ?_ | refine op_slice_notnil ?_ | refine op_shl ?_ | refine op_shr ?_ | (refine op_alloc ?_; intro _) | (refine op_box ?_; intro _) | (refine op_farith ?_; intro _ _) | refine op_store0 ?_ | refine op_store1 ?_ | refine op_store2 ?_ | refine op_store3 ?_ | refine op_store4 ?_ | refine op_store5 ?_ | refine op_storeK rfl ?_ | refine op_loadK rfl ?_ | refine op_load_aggK rfl ?_ | refine tc_ret ?_ | refine at_seq_ret ?_ | fail)
    | fail
  · exact ret_door (m := 2) rfl rfl (.cons (rv_cell rfl) (.cons (rv_cell rfl) .nil)) rfl (List.Sublist.refl _) ⟨true, rfl, ⟨fun _ => hfi, fun _ => rfl⟩, ExC.ex⟩
  · exact ret_door (m := 2) rfl rfl (.cons (rv_cell rfl) (.cons (rv_cell rfl) .nil)) rfl (List.Sublist.refl _) ⟨false, rfl, ⟨(fun h => by cases h), fun h => absurd h hfi⟩, ExC.ex⟩
end Go.Proofs.YtmilmnedgadidaaDoor.Gm
