/-
  Methods of geometries behind interfaces. No conditions.
-/
import Derived.Test.YtckjanekjmfanaaGm1
import Derived.Test.YtckjanekjmfanaaLg19
set_option linter.unusedVariables false
set_option linter.unusedSimpArgs false
namespace Go.Proofs.Ytckjanekjmfanaa.Gm
open Go.Lg
instance ayPoint : AssertYes Try.prog 76 where
  eq := fun v w xt => by kernel_rfl
instance ayLineString : AssertYes Try.prog 84 where
  eq := fun v w xt => by kernel_rfl
instance ayLinearRing : AssertYes Try.prog 134 where
  eq := fun v w xt => by kernel_rfl
instance anPointLineString : AssertNo Try.prog 76 84 where
  eq := fun v w xt => by kernel_rfl
instance anPointLinearRing : AssertNo Try.prog 76 134 where
  eq := fun v w xt => by kernel_rfl
instance anLineStringPoint : AssertNo Try.prog 84 76 where
  eq := fun v w xt => by kernel_rfl
instance anLineStringLinearRing : AssertNo Try.prog 84 134 where
  eq := fun v w xt => by kernel_rfl
instance anLinearRingPoint : AssertNo Try.prog 134 76 where
  eq := fun v w xt => by kernel_rfl
instance anLinearRingLineString : AssertNo Try.prog 134 84 where
  eq := fun v w xt => by kernel_rfl
set_option maxRecDepth 20000 in
instance mSRIDPoint : MethP Try.prog 76 "SRID" 161 0 where
  eq := fun k off args w => by kernel_rfl
set_option maxRecDepth 20000 in
instance mLayoutPoint : MethP Try.prog 76 "Layout" 160 0 where
  eq := fun k off args w => by kernel_rfl
set_option maxRecDepth 20000 in
instance mFlatCoordsPoint : MethP Try.prog 76 "FlatCoords" 159 0 where
  eq := fun k off args w => by kernel_rfl
set_option maxRecDepth 20000 in
instance mEndsPoint : MethP Try.prog 76 "Ends" 157 0 where
  eq := fun k off args w => by kernel_rfl
set_option maxRecDepth 20000 in
instance mEndssPoint : MethP Try.prog 76 "Endss" 158 0 where
  eq := fun k off args w => by kernel_rfl
set_option maxRecDepth 20000 in
instance mSRIDLineString : MethP Try.prog 84 "SRID" 161 0 where
  eq := fun k off args w => by kernel_rfl
set_option maxRecDepth 20000 in
instance mLayoutLineString : MethP Try.prog 84 "Layout" 160 0 where
  eq := fun k off args w => by kernel_rfl
set_option maxRecDepth 20000 in
instance mFlatCoordsLineString : MethP Try.prog 84 "FlatCoords" 159 0 where
  eq := fun k off args w => by kernel_rfl
set_option maxRecDepth 20000 in
instance mEndsLineString : MethP Try.prog 84 "Ends" 157 0 where
  eq := fun k off args w => by kernel_rfl
set_option maxRecDepth 20000 in
instance mEndssLineString : MethP Try.prog 84 "Endss" 158 0 where
  eq := fun k off args w => by kernel_rfl
set_option maxRecDepth 20000 in
instance mSRIDLinearRing : MethP Try.prog 134 "SRID" 161 0 where
  eq := fun k off args w => by kernel_rfl
set_option maxRecDepth 20000 in
instance mLayoutLinearRing : MethP Try.prog 134 "Layout" 160 0 where
  eq := fun k off args w => by kernel_rfl
set_option maxRecDepth 20000 in
instance mFlatCoordsLinearRing : MethP Try.prog 134 "FlatCoords" 159 0 where
  eq := fun k off args w => by kernel_rfl
set_option maxRecDepth 20000 in
instance mEndsLinearRing : MethP Try.prog 134 "Ends" 157 0 where
  eq := fun k off args w => by kernel_rfl
set_option maxRecDepth 20000 in
instance mEndssLinearRing : MethP Try.prog 134 "Endss" 158 0 where
  eq := fun k off args w => by kernel_rfl
theorem gSRID (kp : Nat) (T : TypeId) (l r s : Int) (v : Value) (H : Heap) (hm : (kp, Obj.cells ⟨row4 l r v s⟩ T (0, 0)) ∈ H) : Does Try.prog 161 [.pointer (some ⟨kp, 0 + 0, none⟩)] H fun w H' => w = .int .i64 s ∧ H' = H := by
  refine fn_enter 7 Try.func161 fun W => ?_
  repeat' first
    | (first | refine tl_defer ?_ | refine tc_seq ?_ | refine tc_region ?_ | refine at_seq_normal ?_ | refine tl_nil ?_ | refine tl_cons ?_ | refine tl_cons_none ?_ | refine op_move ?_ | refine op_assign ?_ | refine op_fieldAddr ?_ | refine op_load ?_ | refine op_load_agg ?_ | refine op_indexC ?_ | refine op_indexAddr1 ?_ | refine op_indexAddr ?_ | refine op_icmp ?_ | refine op_fcmp ?_ | refine op_iarith ?_ | refine op_bcmp ?_ | refine op_unop_not ?_ | refine op_unop_neg_float ?_ | refine op_unop_neg_int ?_ | refine op_len_slice ?_ | refine op_pick_true ?_ | refine op_pick_false ?_ | refine op_pick_true' ?_ | refine op_pick_false' ?_ | refine op_build ?_ | refine op_extract ?_ | refine op_makeInterface ?_ | refine op_typeAssert ?_ | refine op_ptr_nil ?_ | refine op_nilCheck_ptr ?_ | refine op_nilCheck_meth ?_ | refine op_makeMeth ?_ | refine op_makeFunc ?_ | refine op_itof ?_ | refine op_itoi ?_ | refine op_ftoi ?_ | refine op_iquo ?_ | refine op_irem ?_ | refine op_ibits ?_ | refine op_slice_isnil ?_ | refine op_slice_notnil ?_ | refine op_imax ?_ | refine op_imin ?_ | refine op_shl ?_ | refine op_shr ?_ | (refine op_alloc ?_; intro _) | (refine op_box ?_; intro _) | (refine op_buildSlice ?_; intro _) | (refine op_farith ?_; intro _ _) | refine op_store0 ?_ | refine op_store1 ?_ | refine op_store2 ?_ | refine op_store3 ?_ | refine op_store4 ?_ | refine op_store5 ?_ | refine op_storeK rfl ?_ | refine op_loadK rfl ?_ | refine op_load_aggK rfl ?_ | refine tc_cond_t ?_ | refine tc_cond_f ?_ | refine tc_cond (fun _ => ?_) (fun _ => ?_) | refine tc_block ?_ | refine tc_skip ?_ | refine tc_ret ?_ | refine tc_exit ?_ | refine tc_label ?_ | refine at_seq_ret ?_ | refine at_seq_exit ?_ | refine at_block_normal ?_ | refine at_block_ret ?_ | refine at_block_exit_self ?_ | refine at_block_exit_ne ?_ | refine at_loop_ret ?_ | refine at_loop_exit ?_ | refine at_loop_goto ?_ | refine tl_guard_yes ?_ | refine tl_guard_no ?_ | refine tl_guard_yes' ?_ | refine tl_guard_no' ?_ | refine tl_guard_undef ?_ | refine tl_guard_split (fun _ => ?_) (fun _ => ?_))
    | fail
  exact ret_tmp (hk := ⟨rfl, rfl⟩)
theorem gLayout (kp : Nat) (T : TypeId) (l r s : Int) (v : Value) (H : Heap) (hm : (kp, Obj.cells ⟨row4 l r v s⟩ T (0, 0)) ∈ H) : Does Try.prog 160 [.pointer (some ⟨kp, 0 + 0, none⟩)] H fun w H' => w = .int .i64 l ∧ H' = H := by
  refine fn_enter 7 Try.func160 fun W => ?_
  repeat' first
    | (first | refine tl_defer ?_ | refine tc_seq ?_ | refine tc_region ?_ | refine at_seq_normal ?_ | refine tl_nil ?_ | refine tl_cons ?_ | refine tl_cons_none ?_ | refine op_move ?_ | refine op_assign ?_ | refine op_fieldAddr ?_ | refine op_load ?_ | refine op_load_agg ?_ | refine op_indexC ?_ | refine op_indexAddr1 ?_ | refine op_indexAddr ?_ | refine op_icmp ?_ | refine op_fcmp ?_ | refine op_iarith ?_ | refine op_bcmp ?_ | refine op_unop_not ?_ | refine op_unop_neg_float ?_ | refine op_unop_neg_int ?_ | refine op_len_slice ?_ | refine op_pick_true ?_ | refine op_pick_false ?_ | refine op_pick_true' ?_ | refine op_pick_false' ?_ | refine op_build ?_ | refine op_extract ?_ | refine op_makeInterface ?_ | refine op_typeAssert ?_ | refine op_ptr_nil ?_ | refine op_nilCheck_ptr ?_ | refine op_nilCheck_meth ?_ | refine op_makeMeth ?_ | refine op_makeFunc ?_ | refine op_itof ?_ | refine op_itoi ?_ | refine op_ftoi ?_ | refine op_iquo ?_ | refine op_irem ?_ | refine op_ibits ?_ | refine op_slice_isnil ?_ | refine op_slice_notnil ?_ | refine op_imax ?_ | refine op_imin ?_ | refine op_shl ?_ | refine op_shr ?_ | (refine op_alloc ?_; intro _) | (refine op_box ?_; intro _) | (refine op_buildSlice ?_; intro _) | (refine op_farith ?_; intro _ _) | refine op_store0 ?_ | refine op_store1 ?_ | refine op_store2 ?_ | refine op_store3 ?_ | refine op_store4 ?_ | refine op_store5 ?_ | refine op_storeK rfl ?_ | refine op_loadK rfl ?_ | refine op_load_aggK rfl ?_ | refine tc_cond_t ?_ | refine tc_cond_f ?_ | refine tc_cond (fun _ => ?_) (fun _ => ?_) | refine tc_block ?_ | refine tc_skip ?_ | refine tc_ret ?_ | refine tc_exit ?_ | refine tc_label ?_ | refine at_seq_ret ?_ | refine at_seq_exit ?_ | refine at_block_normal ?_ | refine at_block_ret ?_ | refine at_block_exit_self ?_ | refine at_block_exit_ne ?_ | refine at_loop_ret ?_ | refine at_loop_exit ?_ | refine at_loop_goto ?_ | refine tl_guard_yes ?_ | refine tl_guard_no ?_ | refine tl_guard_yes' ?_ | refine tl_guard_no' ?_ | refine tl_guard_undef ?_ | refine tl_guard_split (fun _ => ?_) (fun _ => ?_))
    | fail
  exact ret_tmp (hk := ⟨rfl, rfl⟩)
theorem gFlatCoords (kp : Nat) (T : TypeId) (l r s : Int) (v : Value) (H : Heap) (hm : (kp, Obj.cells ⟨row4 l r v s⟩ T (0, 0)) ∈ H) : Does Try.prog 159 [.pointer (some ⟨kp, 0 + 0, none⟩)] H fun w H' => w = v ∧ H' = H := by
  refine fn_enter 7 Try.func159 fun W => ?_
  repeat' first
    | (first | refine tl_defer ?_ | refine tc_seq ?_ | refine tc_region ?_ | refine at_seq_normal ?_ | refine tl_nil ?_ | refine tl_cons ?_ | refine tl_cons_none ?_ | refine op_move ?_ | refine op_assign ?_ | refine op_fieldAddr ?_ | refine op_load ?_ | refine op_load_agg ?_ | refine op_indexC ?_ | refine op_indexAddr1 ?_ | refine op_indexAddr ?_ | refine op_icmp ?_ | refine op_fcmp ?_ | refine op_iarith ?_ | refine op_bcmp ?_ | refine op_unop_not ?_ | refine op_unop_neg_float ?_ | refine op_unop_neg_int ?_ | refine op_len_slice ?_ | refine op_pick_true ?_ | refine op_pick_false ?_ | refine op_pick_true' ?_ | refine op_pick_false' ?_ | refine op_build ?_ | refine op_extract ?_ | refine op_makeInterface ?_ | refine op_typeAssert ?_ | refine op_ptr_nil ?_ | refine op_nilCheck_ptr ?_ | refine op_nilCheck_meth ?_ | refine op_makeMeth ?_ | refine op_makeFunc ?_ | refine op_itof ?_ | refine op_itoi ?_ | refine op_ftoi ?_ | refine op_iquo ?_ | refine op_irem ?_ | refine op_ibits ?_ | refine op_slice_isnil ?_ | refine op_slice_notnil ?_ | refine op_imax ?_ | refine op_imin ?_ | refine op_shl ?_ | refine op_shr ?_ | (refine op_alloc ?_; intro _) | (refine op_box ?_; intro _) | (refine op_buildSlice ?_; intro _) | (refine op_farith ?_; intro _ _) | refine op_store0 ?_ | refine op_store1 ?_ | refine op_store2 ?_ | refine op_store3 ?_ | refine op_store4 ?_ | refine op_store5 ?_ | refine op_storeK rfl ?_ | refine op_loadK rfl ?_ | refine op_load_aggK rfl ?_ | refine tc_cond_t ?_ | refine tc_cond_f ?_ | refine tc_cond (fun _ => ?_) (fun _ => ?_) | refine tc_block ?_ | refine tc_skip ?_ | refine tc_ret ?_ | refine tc_exit ?_ | refine tc_label ?_ | refine at_seq_ret ?_ | refine at_seq_exit ?_ | refine at_block_normal ?_ | refine at_block_ret ?_ | refine at_block_exit_self ?_ | refine at_block_exit_ne ?_ | refine at_loop_ret ?_ | refine at_loop_exit ?_ | refine at_loop_goto ?_ | refine tl_guard_yes ?_ | refine tl_guard_no ?_ | refine tl_guard_yes' ?_ | refine tl_guard_no' ?_ | refine tl_guard_undef ?_ | refine tl_guard_split (fun _ => ?_) (fun _ => ?_))
    | fail
  exact ret_tmp (hk := ⟨rfl, rfl⟩)
theorem gEnds (kp : Nat) (T : TypeId) (l r s : Int) (v : Value) (H : Heap) (hm : (kp, Obj.cells ⟨row4 l r v s⟩ T (0, 0)) ∈ H) : Does Try.prog 157 [.pointer (some ⟨kp, 0 + 0, none⟩)] H fun w H' => w = .slice none 0 0 ∧ H' = H := by
  refine fn_enter 3 Try.func157 fun W => ?_
  repeat' first
    | (first | refine tl_defer ?_ | refine tc_seq ?_ | refine tc_region ?_ | refine at_seq_normal ?_ | refine tl_nil ?_ | refine tl_cons ?_ | refine tl_cons_none ?_ | refine op_move ?_ | refine op_assign ?_ | refine op_fieldAddr ?_ | refine op_load ?_ | refine op_load_agg ?_ | refine op_indexC ?_ | refine op_indexAddr1 ?_ | refine op_indexAddr ?_ | refine op_icmp ?_ | refine op_fcmp ?_ | refine op_iarith ?_ | refine op_bcmp ?_ | refine op_unop_not ?_ | refine op_unop_neg_float ?_ | refine op_unop_neg_int ?_ | refine op_len_slice ?_ | refine op_pick_true ?_ | refine op_pick_false ?_ | refine op_pick_true' ?_ | refine op_pick_false' ?_ | refine op_build ?_ | refine op_extract ?_ | refine op_makeInterface ?_ | refine op_typeAssert ?_ | refine op_ptr_nil ?_ | refine op_nilCheck_ptr ?_ | refine op_nilCheck_meth ?_ | refine op_makeMeth ?_ | refine op_makeFunc ?_ | refine op_itof ?_ | refine op_itoi ?_ | refine op_ftoi ?_ | refine op_iquo ?_ | refine op_irem ?_ | refine op_ibits ?_ | refine op_slice_isnil ?_ | refine op_slice_notnil ?_ | refine op_imax ?_ | refine op_imin ?_ | refine op_shl ?_ | refine op_shr ?_ | (refine op_alloc ?_; intro _) | (refine op_box ?_; intro _) | (refine op_buildSlice ?_; intro _) | (refine op_farith ?_; intro _ _) | refine op_store0 ?_ | refine op_store1 ?_ | refine op_store2 ?_ | refine op_store3 ?_ | refine op_store4 ?_ | refine op_store5 ?_ | refine op_storeK rfl ?_ | refine op_loadK rfl ?_ | refine op_load_aggK rfl ?_ | refine tc_cond_t ?_ | refine tc_cond_f ?_ | refine tc_cond (fun _ => ?_) (fun _ => ?_) | refine tc_block ?_ | refine tc_skip ?_ | refine tc_ret ?_ | refine tc_exit ?_ | refine tc_label ?_ | refine at_seq_ret ?_ | refine at_seq_exit ?_ | refine at_block_normal ?_ | refine at_block_ret ?_ | refine at_block_exit_self ?_ | refine at_block_exit_ne ?_ | refine at_loop_ret ?_ | refine at_loop_exit ?_ | refine at_loop_goto ?_ | refine tl_guard_yes ?_ | refine tl_guard_no ?_ | refine tl_guard_yes' ?_ | refine tl_guard_no' ?_ | refine tl_guard_undef ?_ | refine tl_guard_split (fun _ => ?_) (fun _ => ?_))
    | fail
  exact ret_tmp (hk := ⟨rfl, rfl⟩)
theorem gEndss (kp : Nat) (T : TypeId) (l r s : Int) (v : Value) (H : Heap) (hm : (kp, Obj.cells ⟨row4 l r v s⟩ T (0, 0)) ∈ H) : Does Try.prog 158 [.pointer (some ⟨kp, 0 + 0, none⟩)] H fun w H' => w = .slice none 0 0 ∧ H' = H := by
  refine fn_enter 3 Try.func158 fun W => ?_
  repeat' first
    | (first | refine tl_defer ?_ | refine tc_seq ?_ | refine tc_region ?_ | refine at_seq_normal ?_ | refine tl_nil ?_ | refine tl_cons ?_ | refine tl_cons_none ?_ | refine op_move ?_ | refine op_assign ?_ | refine op_fieldAddr ?_ | refine op_load ?_ | refine op_load_agg ?_ | refine op_indexC ?_ | refine op_indexAddr1 ?_ | refine op_indexAddr ?_ | refine op_icmp ?_ | refine op_fcmp ?_ | refine op_iarith ?_ | refine op_bcmp ?_ | refine op_unop_not ?_ | refine op_unop_neg_float ?_ | refine op_unop_neg_int ?_ | refine op_len_slice ?_ | refine op_pick_true ?_ | refine op_pick_false ?_ | refine op_pick_true' ?_ | refine op_pick_false' ?_ | refine op_build ?_ | refine op_extract ?_ | refine op_makeInterface ?_ | refine op_typeAssert ?_ | refine op_ptr_nil ?_ | refine op_nilCheck_ptr ?_ | refine op_nilCheck_meth ?_ | refine op_makeMeth ?_ | refine op_makeFunc ?_ | refine op_itof ?_ | refine op_itoi ?_ | refine op_ftoi ?_ | refine op_iquo ?_ | refine op_irem ?_ | refine op_ibits ?_ | refine op_slice_isnil ?_ | refine op_slice_notnil ?_ | refine op_imax ?_ | refine op_imin ?_ | refine op_shl ?_ | refine op_shr ?_ | (refine op_alloc ?_; intro _) | (refine op_box ?_; intro _) | (refine op_buildSlice ?_; intro _) | (refine op_farith ?_; intro _ _) | refine op_store0 ?_ | refine op_store1 ?_ | refine op_store2 ?_ | refine op_store3 ?_ | refine op_store4 ?_ | refine op_store5 ?_ | refine op_storeK rfl ?_ | refine op_loadK rfl ?_ | refine op_load_aggK rfl ?_ | refine tc_cond_t ?_ | refine tc_cond_f ?_ | refine tc_cond (fun _ => ?_) (fun _ => ?_) | refine tc_block ?_ | refine tc_skip ?_ | refine tc_ret ?_ | refine tc_exit ?_ | refine tc_label ?_ | refine at_seq_ret ?_ | refine at_seq_exit ?_ | refine at_block_normal ?_ | refine at_block_ret ?_ | refine at_block_exit_self ?_ | refine at_block_exit_ne ?_ | refine at_loop_ret ?_ | refine at_loop_exit ?_ | refine at_loop_goto ?_ | refine tl_guard_yes ?_ | refine tl_guard_no ?_ | refine tl_guard_yes' ?_ | refine tl_guard_no' ?_ | refine tl_guard_undef ?_ | refine tl_guard_split (fun _ => ?_) (fun _ => ?_))
    | fail
  exact ret_tmp (hk := ⟨rfl, rfl⟩)
end Go.Proofs.Ytckjanekjmfanaa.Gm
