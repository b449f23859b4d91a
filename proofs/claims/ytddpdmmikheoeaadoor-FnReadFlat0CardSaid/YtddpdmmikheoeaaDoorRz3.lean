/-
  bytes.Buffer: Len, empty, Reset, Read of a buffer that is at its end. No conditions.
-/
import Derived.Test.YtddpdmmikheoeaaDoorRz1
import Derived.Test.YtddpdmmikheoeaaDoorRz2
set_option linter.unusedVariables false
set_option linter.unusedSimpArgs false
namespace Go.Proofs.YtddpdmmikheoeaaDoor.Byt
open Go.Lg

def bo (v : Value) (o : Int) (lr : Int) : List Value := [v, .int .i64 o, .int .i8 lr]
theorem bufLen (k : Nat) (T : TypeId) (a : Option Addr) (n c : Nat) (o lr : Int) (H : Heap) (hm : (k, Obj.cells ⟨bo (.slice a n c) o lr⟩ T (0, 0)) ∈ H) :
    Does Tryd.prog 20 [.pointer (some ⟨k, 0, none⟩)] H fun w H' => w = .int .i64 (IntKind.i64.wrap (iarith .sub (n : Int) o)) ∧ H' = H := by
  unfold bo at hm
  refine fn_enter 13 Tryd.func20 fun W => ?_
  repeat' first
    | refine tc_seq ?_ | refine tc_region ?_ | refine at_seq_normal ?_ | refine tl_nil ?_ | refine tl_cons ?_ | refine op_move ?_ | refine op_assign ?_ | refine op_fieldAddr ?_ | refine op_load ?_ | refine op_load_agg ?_
    | refine op_iarith ?_ | refine op_len_slice ?_ | refine op_nilCheck_ptr ?_ | refine op_nilCheck_meth ?_ | refine op_loadK rfl ?_ | refine op_load_aggK rfl ?_ | refine tc_ret ?_ | refine at_seq_ret ?_
  apply fun hole0 hole1 hole2 hole3 hole4 hole5 hole6 hole7 hole8 hole9 hE hD hml hdl hpr prem fin => tc_drawnD 10 [PhiD.is hole0, PhiD.is hole1, PhiD.is hole2, PhiD.is hole3, PhiD.is hole4, PhiD.is hole5, PhiD.is hole6, PhiD.is hole7, PhiD.is hole8, PhiD.is hole9]
    [some 3, some 4, some 5, some 6, some 7, some 8, some 9, some 10, some 11, some 12, some 2] [[], [0], [1], [2], [3], [], [5], [6], [7], [4, 8]] mixed trivial prem fin hE hD rfl hml hdl hpr
  rotate_left 11
  · first | kernel_rfl | exact rfl
  · first | kernel_rfl | exact rfl
  · exact Nat.le_of_ble_eq_true rfl
  · first | kernel_rfl | exact rfl
  · first | kernel_rfl | exact rfl
  refine ⟨fun G hG => ?_, fun G hG => ?_, fun G hG => ?_, fun G hG => ?_, fun G hG => ?_, fun G hG => ?_, fun G hG => ?_, fun G hG => ?_, fun G hG => ?_, fun G hG => ?_, trivial⟩
  · simp only [withD, nthD, Step2, nthDst, putO, postD]
    (refine op_move ?_; exact ⟨[], rfl, rfl, rfl⟩)
  · simp only [withD, nthD, Step2, nthDst, putO, postD]
    ((first | refine op_nilCheck_ptr ?_ | refine op_nilCheck_meth ?_); exact ⟨[], rfl, rfl, rfl⟩)
  · simp only [withD, nthD, Step2, nthDst, putO, postD]
    (refine op_fieldAddr ?_; exact ⟨[], rfl, rfl, rfl⟩)
  · simp only [withD, nthD, Step2, nthDst, putO, postD]
    ((first | refine op_load ?_ | refine op_load_agg ?_ | refine op_load ?_ (hm := Sub.mem (by assumption) (by (repeat (apply List.mem_cons_of_mem)); assumption)) | refine op_load_agg ?_ (hm := Sub.mem (by assumption) (by (repeat (apply List.mem_cons_of_mem)); assumption)) | refine op_loadH hG rfl ?_ | refine op_load_aggH hG rfl ?_); exact ⟨[], rfl, rfl, rfl⟩)
  · simp only [withD, nthD, Step2, nthDst, putO, postD]
    (refine op_len_slice ?_; exact ⟨[], rfl, rfl, rfl⟩)
  · simp only [withD, nthD, Step2, nthDst, putO, postD]
    (refine op_move ?_; exact ⟨[], rfl, rfl, rfl⟩)
  · simp only [withD, nthD, Step2, nthDst, putO, postD]
    ((first | refine op_nilCheck_ptr ?_ | refine op_nilCheck_meth ?_); exact ⟨[], rfl, rfl, rfl⟩)
  · simp only [withD, nthD, Step2, nthDst, putO, postD]
    (refine op_fieldAddr ?_; exact ⟨[], rfl, rfl, rfl⟩)
  · simp only [withD, nthD, Step2, nthDst, putO, postD]
    ((first | refine op_load ?_ | refine op_load_agg ?_ | refine op_load ?_ (hm := Sub.mem (by assumption) (by (repeat (apply List.mem_cons_of_mem)); assumption)) | refine op_load_agg ?_ (hm := Sub.mem (by assumption) (by (repeat (apply List.mem_cons_of_mem)); assumption)) | refine op_loadH hG rfl ?_ | refine op_load_aggH hG rfl ?_); exact ⟨[], rfl, rfl, rfl⟩)
  · simp only [withD, nthD, Step2, nthDst, putO, postD]
    (refine op_iarith ?_; exact ⟨[], rfl, rfl, rfl⟩)
  simp only [FinalsD, nthDst, putO, List.drop_succ_cons, List.drop_zero]
  rintro -
  repeat' first
    | refine tc_seq ?_ | refine tc_region ?_ | refine at_seq_normal ?_ | refine tl_nil ?_ | refine tl_cons ?_ | refine op_move ?_ | refine op_assign ?_ | refine op_fieldAddr ?_ | refine op_load ?_ | refine op_load_agg ?_
    | refine op_iarith ?_ | refine op_len_slice ?_ | refine op_nilCheck_ptr ?_ | refine op_nilCheck_meth ?_ | refine op_loadK rfl ?_ | refine op_load_aggK rfl ?_ | refine tc_ret ?_ | refine at_seq_ret ?_
  exact ret_tmp (hk := ⟨rfl, rfl⟩)
theorem bufEmpty (k : Nat) (T : TypeId) (a : Option Addr) (n c : Nat) (o lr : Int) (H : Heap) (hm : (k, Obj.cells ⟨bo (.slice a n c) o lr⟩ T (0, 0)) ∈ H) :
    Does Tryd.prog 69 [.pointer (some ⟨k, 0, none⟩)] H fun w H' => w = .bool (icmp .leq (n : Int) o) ∧ H' = H := by
  unfold bo at hm
  refine fn_enter 13 Tryd.func69 fun W => ?_
  repeat' first
    | refine tc_seq ?_ | refine tc_region ?_ | refine at_seq_normal ?_ | refine tl_nil ?_ | refine tl_cons ?_ | refine op_move ?_ | refine op_assign ?_ | refine op_fieldAddr ?_ | refine op_load ?_ | refine op_load_agg ?_
    | refine op_icmp ?_ | refine op_len_slice ?_ | refine op_nilCheck_ptr ?_ | refine op_nilCheck_meth ?_ | refine op_loadK rfl ?_ | refine op_load_aggK rfl ?_ | refine tc_ret ?_ | refine at_seq_ret ?_
  apply fun hole0 hole1 hole2 hole3 hole4 hole5 hole6 hole7 hole8 hole9 hE hD hml hdl hpr prem fin => tc_drawnD 10 [PhiD.is hole0, PhiD.is hole1, PhiD.is hole2, PhiD.is hole3, PhiD.is hole4, PhiD.is hole5, PhiD.is hole6, PhiD.is hole7, PhiD.is hole8, PhiD.is hole9]
    [some 3, some 4, some 5, some 6, some 7, some 8, some 9, some 10, some 11, some 12, some 2] [[], [0], [1], [2], [3], [], [5], [6], [7], [4, 8]] mixed trivial prem fin hE hD rfl hml hdl hpr
  rotate_left 11
  · first | kernel_rfl | exact rfl
  · first | kernel_rfl | exact rfl
  · exact Nat.le_of_ble_eq_true rfl
  · first | kernel_rfl | exact rfl
  · first | kernel_rfl | exact rfl
  refine ⟨fun G hG => ?_, fun G hG => ?_, fun G hG => ?_, fun G hG => ?_, fun G hG => ?_, fun G hG => ?_, fun G hG => ?_, fun G hG => ?_, fun G hG => ?_, fun G hG => ?_, trivial⟩
  · simp only [withD, nthD, Step2, nthDst, putO, postD]
    (refine op_move ?_; exact ⟨[], rfl, rfl, rfl⟩)
  · simp only [withD, nthD, Step2, nthDst, putO, postD]
    ((first | refine op_nilCheck_ptr ?_ | refine op_nilCheck_meth ?_); exact ⟨[], rfl, rfl, rfl⟩)
  · simp only [withD, nthD, Step2, nthDst, putO, postD]
    (refine op_fieldAddr ?_; exact ⟨[], rfl, rfl, rfl⟩)
  · simp only [withD, nthD, Step2, nthDst, putO, postD]
    ((first | refine op_load ?_ | refine op_load_agg ?_ | refine op_load ?_ (hm := Sub.mem (by assumption) (by (repeat (apply List.mem_cons_of_mem)); assumption)) | refine op_load_agg ?_ (hm := Sub.mem (by assumption) (by (repeat (apply List.mem_cons_of_mem)); assumption)) | refine op_loadH hG rfl ?_ | refine op_load_aggH hG rfl ?_); exact ⟨[], rfl, rfl, rfl⟩)
  · simp only [withD, nthD, Step2, nthDst, putO, postD]
    (refine op_len_slice ?_; exact ⟨[], rfl, rfl, rfl⟩)
  · simp only [withD, nthD, Step2, nthDst, putO, postD]
    (refine op_move ?_; exact ⟨[], rfl, rfl, rfl⟩)
  · simp only [withD, nthD, Step2, nthDst, putO, postD]
    ((first | refine op_nilCheck_ptr ?_ | refine op_nilCheck_meth ?_); exact ⟨[], rfl, rfl, rfl⟩)
  · simp only [withD, nthD, Step2, nthDst, putO, postD]
    (refine op_fieldAddr ?_; exact ⟨[], rfl, rfl, rfl⟩)
  · simp only [withD, nthD, Step2, nthDst, putO, postD]
    ((first | refine op_load ?_ | refine op_load_agg ?_ | refine op_load ?_ (hm := Sub.mem (by assumption) (by (repeat (apply List.mem_cons_of_mem)); assumption)) | refine op_load_agg ?_ (hm := Sub.mem (by assumption) (by (repeat (apply List.mem_cons_of_mem)); assumption)) | refine op_loadH hG rfl ?_ | refine op_load_aggH hG rfl ?_); exact ⟨[], rfl, rfl, rfl⟩)
  · simp only [withD, nthD, Step2, nthDst, putO, postD]
    (refine op_icmp ?_; exact ⟨[], rfl, rfl, rfl⟩)
  simp only [FinalsD, nthDst, putO, List.drop_succ_cons, List.drop_zero]
  rintro -
  repeat' first
    | refine tc_seq ?_ | refine tc_region ?_ | refine at_seq_normal ?_ | refine tl_nil ?_ | refine tl_cons ?_ | refine op_move ?_ | refine op_assign ?_ | refine op_fieldAddr ?_ | refine op_load ?_ | refine op_load_agg ?_
    | refine op_icmp ?_ | refine op_len_slice ?_ | refine op_nilCheck_ptr ?_ | refine op_nilCheck_meth ?_ | refine op_loadK rfl ?_ | refine op_load_aggK rfl ?_ | refine tc_ret ?_ | refine at_seq_ret ?_
  exact ret_tmp (hk := ⟨rfl, rfl⟩)
theorem bufReset (k : Nat) (T : TypeId) (a : Option Addr) (n c : Nat) (o lr : Int) (R : Heap) :
    Does Tryd.prog 66 [.pointer (some ⟨k, 0, none⟩)] ((k, Obj.cells ⟨bo (.slice a n c) o lr⟩ T (0, 0)) :: R) fun w H' => H' = (k, Obj.cells ⟨bo (.slice a 0 c) 0 0⟩ T (0, 0)) :: R := by
  unfold bo
  refine fn_enter 16 Tryd.func66 fun W => ?_
  repeat' first
    | (refine op_slice_h (h := 0) ?_; rw [slAt_self])
    | (first | refine tc_seq ?_ | refine tc_region ?_ | refine at_seq_normal ?_ | refine tl_nil ?_ | refine tl_cons ?_ | refine tl_cons_none ?_ | refine op_move ?_ | refine op_assign ?_ | refine op_fieldAddr ?_ | refine op_load ?_ | refine op_load_agg ?_ | refine op_indexC ?_ | refine op_indexAddr1 ?_ | refine op_indexAddr ?_ | refine op_icmp ?_ | refine op_fcmp ?_ | refine op_iarith ?_ | refine op_bcmp ?_ | refine op_unop_not ?_ | refine op_unop_neg_float ?_ | refine op_unop_neg_int ?_ | refine op_len_slice ?_ | refine op_pick_true ?_ | refine op_pick_false ?_ | refine op_pick_true' ?_ | refine op_pick_false' ?_ | refine op_build ?_ | refine op_extract ?_ | refine op_makeInterface ?_ | refine op_typeAssert ?_ | refine op_ptr_nil ?_ | refine op_nilCheck_ptr ?_ | refine op_nilCheck_meth ?_ | refine op_makeMeth ?_ | refine op_makeFunc ?_ | refine op_itof ?_ | refine op_itoi ?_ | refine op_ftoi ?_ | refine op_iquo ?_ | refine op_irem ?_ | refine op_ibits ?_ | refine op_slice_isnil ?_ | refine op_slice_notnil ?_ | refine op_imax ?_ | refine op_imin ?_ | refine op_shl ?_ | refine op_shr ?_ | (refine op_alloc ?_; intro _) | (refine op_box ?_; intro _) | (refine op_buildSlice ?_; intro _) | (refine op_farith ?_; intro _ _) | refine op_store0 ?_ | refine op_store1 ?_ | refine op_store2 ?_ | refine op_store3 ?_ | refine op_store4 ?_ | refine op_store5 ?_ | refine op_storeK rfl ?_ | refine op_loadK rfl ?_ | refine op_load_aggK rfl ?_ | fail)
    | fail
  exact ret_list rfl .nil rfl (List.Sublist.refl _) rfl (.inr rfl)
set_option maxHeartbeats 4000000 in
theorem readEnd (k : Nat) (T : TypeId) (a : Option Addr) (n c : Nat) (o lr : Int) (b : Option Addr) (m d : Nat) (ev : Value) (Te : TypeId) (fze : Nat × Nat) (R : Heap) (hn : (n : Int) ≤ o) (hm : 0 < m) (he : (5, Obj.cells ⟨[ev]⟩ Te fze) ∈ R) :
    Does Tryd.prog 65 [.pointer (some ⟨k, 0, none⟩), .slice b m d] ((k, Obj.cells ⟨bo (.slice a n c) o lr⟩ T (0, 0)) :: R) fun w H' => w = .tuple #[.int .i64 0, ev] ∧ H' = (k, Obj.cells ⟨bo (.slice a 0 c) 0 0⟩ T (0, 0)) :: R := by
  have hc : icmp .leq (n : Int) o = true := by simp only [icmp]; exact decide_eq_true hn
  have hc2 : icmp .eql (m : Int) 0 = false := by simp only [icmp]; exact beq_false_of_ne (by omega)
  refine fn_enter 42 Tryd.func65 fun W => ?_
  repeat' first
    | (refine op_call ((bufEmpty k T a n c o 0 _ List.mem_cons_self).mono ?_); rintro _ _ ⟨rfl, rfl⟩; rw [hc])
    | (refine op_call ((bufReset k T a n c o 0 R).mono ?_); rintro _ _ rfl)
    | (unfold bo; (first | refine tc_seq ?_ | refine tc_region ?_ | refine at_seq_normal ?_ | refine tl_nil ?_ | refine tl_cons ?_ | refine tl_cons_none ?_ | refine op_move ?_ | refine op_assign ?_ | refine op_fieldAddr ?_ | refine op_load ?_ | refine op_load_agg ?_ | refine op_indexC ?_ | refine op_indexAddr1 ?_ | refine op_indexAddr ?_ | refine op_icmp ?_ | refine op_fcmp ?_ | refine op_iarith ?_ | refine op_bcmp ?_ | refine op_unop_not ?_ | refine op_unop_neg_float ?_ | refine op_unop_neg_int ?_ | refine op_len_slice ?_ | refine op_pick_true ?_ | refine op_pick_false ?_ | refine op_pick_true' ?_ | refine op_pick_false' ?_ | refine op_build ?_ | refine op_extract ?_ | refine op_makeInterface ?_ | refine op_typeAssert ?_ | refine op_ptr_nil ?_ | refine op_nilCheck_ptr ?_ | refine op_nilCheck_meth ?_ | refine op_makeMeth ?_ | refine op_makeFunc ?_ | refine op_itof ?_ | refine op_itoi ?_ | refine op_ftoi ?_ | refine op_iquo ?_ | refine op_irem ?_ | refine op_ibits ?_ | refine op_slice_isnil ?_ | refine op_slice_notnil ?_ | refine op_imax ?_ | refine op_imin ?_ | refine op_shl ?_ | refine op_shr ?_ | (refine op_alloc ?_; intro _) | (refine op_box ?_; intro _) | (refine op_buildSlice ?_; intro _) | (refine op_farith ?_; intro _ _) | refine op_store0 ?_ | refine op_store1 ?_ | refine op_store2 ?_ | refine op_store3 ?_ | refine op_store4 ?_ | refine op_store5 ?_ | refine op_storeK rfl ?_ | refine op_loadK rfl ?_ | refine op_load_aggK rfl ?_ | refine tc_cond_t ?_ | refine tc_cond_f ?_ | refine tc_cond (fun _ => ?_) (fun _ => ?_) | refine tc_skip ?_ | refine tc_ret ?_ | refine at_seq_ret ?_ | fail))
    | (first | refine tc_seq ?_ | refine tc_region ?_ | refine at_seq_normal ?_ | refine tl_nil ?_ | refine tl_cons ?_ | refine tl_cons_none ?_ | refine op_move ?_ | refine op_assign ?_ | refine op_fieldAddr ?_ | refine op_load ?_ | refine op_load_agg ?_ | refine op_indexC ?_ | refine op_indexAddr1 ?_ | refine op_indexAddr ?_ | refine op_icmp ?_ | refine op_fcmp ?_ | refine op_iarith ?_ | refine op_bcmp ?_ | refine op_unop_not ?_ | refine op_unop_neg_float ?_ | refine op_unop_neg_int ?_ | refine op_len_slice ?_ | refine op_pick_true ?_ | refine op_pick_false ?_ | refine op_pick_true' ?_ | refine op_pick_false' ?_ | refine op_build ?_ | refine op_extract ?_ | refine op_makeInterface ?_ | refine op_typeAssert ?_ | refine op_ptr_nil ?_ | refine op_nilCheck_ptr ?_ | refine op_nilCheck_meth ?_ | refine op_makeMeth ?_ | refine op_makeFunc ?_ | refine op_itof ?_ | refine op_itoi ?_ | refine op_ftoi ?_ | refine op_iquo ?_ | refine op_irem ?_ | refine op_ibits ?_ | refine op_slice_isnil ?_ | refine op_slice_notnil ?_ | refine op_imax ?_ | refine op_imin ?_ | refine op_shl ?_ | refine op_shr ?_ | (refine op_alloc ?_; intro _) | (refine op_box ?_; intro _) | (refine op_buildSlice ?_; intro _) | (refine op_farith ?_; intro _ _) | refine op_store0 ?_ | refine op_store1 ?_ | refine op_store2 ?_ | refine op_store3 ?_ | refine op_store4 ?_ | refine op_store5 ?_ | refine op_storeK rfl ?_ | refine op_loadK rfl ?_ | refine op_load_aggK rfl ?_ | refine tc_cond_t ?_ | refine tc_cond_f ?_ | refine tc_cond (fun _ => ?_) (fun _ => ?_) | refine tc_skip ?_ | refine tc_ret ?_ | refine at_seq_ret ?_ | fail)
    | fail
  refine tc_anyQ mixed (by repeat (first | refine pq_seq ?_ | refine pq_block ?_ | refine pq_loop ?_ | exact pq_body)) fun hpq => ?_
  refine ta_take 1 rfl (by kernel_rfl) (by kernel_rfl) (by kernel_rfl) hpq rfl rfl (by decide) (by exact y_assign) ?_
  refine ta_only 0 (by kernel_rfl) rfl (by decide) ?_
  refine op_load ?_ (k := 5) (off := 0) (l := [ev]) (hm := List.mem_cons_of_mem _ he) (hv := rfl)
  refine ta_take 2 rfl (by kernel_rfl) (by kernel_rfl) (by kernel_rfl) hpq rfl rfl (by decide) (by exact y_assign) ?_
  refine ta_done (by kernel_rfl) ?_
  repeat' first
    | refine tc_seq ?_ | refine tc_region ?_ | refine at_seq_normal ?_ | refine tl_nil ?_ | refine tl_cons ?_ | refine tl_cons_none ?_ | refine op_move ?_ | refine op_assign ?_ | refine op_fieldAddr ?_ | refine op_load ?_
    | refine op_load_agg ?_ | refine op_indexC ?_ | refine op_indexAddr1 ?_ | refine op_indexAddr ?_ | refine op_icmp ?_ | refine op_fcmp ?_ | refine op_iarith ?_ | refine op_bcmp ?_ | refine op_unop_not ?_ | refine op_unop_neg_float ?_
    | refine op_unop_neg_int ?_ | refine op_len_slice ?_ | refine op_pick_true ?_ | refine op_pick_false ?_ | refine op_pick_true' ?_ | refine op_pick_false' ?_ | refine op_build ?_ | refine op_extract ?_ | refine op_makeInterface ?_ | refine op_typeAssert ?_
    | refine op_ptr_nil ?_ | refine op_nilCheck_ptr ?_ | refine op_nilCheck_meth ?_ | refine op_makeMeth ?_ | refine op_makeFunc ?_ | refine op_itof ?_ | refine op_itoi ?_ | refine op_ftoi ?_ | refine op_iquo ?_ | refine op_irem ?_
    | refine op_ibits ?_ | refine op_slice_isnil ?_ | refine op_slice_notnil ?_ | refine op_imax ?_ | refine op_imin ?_ | refine op_shl ?_ | refine op_shr ?_ | (refine op_alloc ?_; intro _) | (refine op_box ?_; intro _) | (refine op_buildSlice ?_; intro _)
    | (refine op_farith ?_; intro _ _) | refine op_store0 ?_ | refine op_store1 ?_ | refine op_store2 ?_ | refine op_store3 ?_ | refine op_store4 ?_ | refine op_store5 ?_ | refine op_storeK rfl ?_ | refine op_loadK rfl ?_ | refine op_load_aggK rfl ?_
    | refine tc_cond_t ?_ | refine tc_cond_f ?_ | refine tc_cond (fun _ => ?_) (fun _ => ?_) | refine tc_skip ?_ | refine tc_ret ?_ | refine at_seq_ret ?_
  exact ret_list rfl (.cons (.tmp rfl) (.cons (.tmp rfl) .nil)) rfl (List.Sublist.refl _) ⟨rfl, rfl⟩ (.inl rfl)
end Go.Proofs.YtddpdmmikheoeaaDoor.Byt

set_option linter.unusedVariables false
set_option linter.unusedSimpArgs false
namespace Go.Proofs.YtddpdmmikheoeaaDoor.Byt
open Go.Lg

set_option maxHeartbeats 8000000 in
theorem readSome (k : Nat) (T : TypeId) (a : Option Addr) (c : Nat) (bs : List Nat) (lr : Int) (kp : Nat) (Tp : TypeId) (zs : List Value) (m d : Nat) (R : Heap) (hv : BS R (.slice a bs.length c) bs) (hn : 0 < bs.length) (hm : 0 < m) (hz : zs.length = m) (hb : bs.length ≤ 1048576) :
    Does Tryd.prog 65 [.pointer (some ⟨k, 0, none⟩), .slice (some ⟨kp, 0, none⟩) m d] ((k, Obj.cells ⟨bo (.slice a bs.length c) 0 lr⟩ T (0, 0)) :: (kp, Obj.cells ⟨zs⟩ Tp (0, 0)) :: R) fun w H' => w = .tuple #[.int .i64 ((min bs.length m : Nat) : Int), .nilIface] ∧ H' = (k, Obj.cells ⟨bo (.slice a bs.length c) ((min bs.length m : Nat) : Int) (-1)⟩ T (0, 0)) :: (kp, Obj.cells ⟨spliceAt zs 0 ((bs.map bv).take (min bs.length m))⟩ Tp (0, 0)) :: R := by
  have hc : icmp .leq (bs.length : Int) 0 = false := by simp only [icmp]; exact decide_eq_false (by omega)
  have hw : IntKind.i64.wrap (iarith .add 0 ((min bs.length m : Nat) : Int)) = ((min bs.length m : Nat) : Int) := by rw [wrap_add (by omega) (by omega)]; omega
  have hc3 : icmp .gtr ((min bs.length m : Nat) : Int) 0 = true := by simp only [icmp]; exact decide_eq_true (by omega)
  refine fn_enter 42 Tryd.func65 fun W => ?_
  repeat' first
    | (refine op_call ((bufEmpty k T a bs.length c 0 0 _ List.mem_cons_self).mono ?_); rintro _ _ ⟨rfl, rfl⟩; rw [hc])
    | (unfold bo; (first | refine tc_seq ?_ | refine tc_region ?_ | refine at_seq_normal ?_ | refine tl_nil ?_ | refine tl_cons ?_ | refine tl_cons_none ?_ | refine op_move ?_ | refine op_assign ?_ | refine op_fieldAddr ?_ | refine op_load ?_ | refine op_load_agg ?_ | refine op_indexC ?_ | refine op_indexAddr1 ?_ | refine op_indexAddr ?_ | refine op_icmp ?_ | refine op_fcmp ?_ | refine op_iarith ?_ | refine op_bcmp ?_ | refine op_unop_not ?_ | refine op_unop_neg_float ?_ | refine op_unop_neg_int ?_ | refine op_len_slice ?_ | refine op_pick_true ?_ | refine op_pick_false ?_ | refine op_pick_true' ?_ | refine op_pick_false' ?_ | refine op_build ?_ | refine op_extract ?_ | refine op_makeInterface ?_ | refine op_typeAssert ?_ | refine op_ptr_nil ?_ | refine op_nilCheck_ptr ?_ | refine op_nilCheck_meth ?_ | refine op_makeMeth ?_ | refine op_makeFunc ?_ | refine op_itof ?_ | refine op_itoi ?_ | refine op_ftoi ?_ | refine op_iquo ?_ | refine op_irem ?_ | refine op_ibits ?_ | refine op_slice_isnil ?_ | refine op_slice_notnil ?_ | refine op_imax ?_ | refine op_imin ?_ | refine op_shl ?_ | refine op_shr ?_ | (refine op_alloc ?_; intro _) | (refine op_box ?_; intro _) | (refine op_buildSlice ?_; intro _) | (refine op_farith ?_; intro _ _) | refine op_store0 ?_ | refine op_store1 ?_ | refine op_store2 ?_ | refine op_store3 ?_ | refine op_store4 ?_ | refine op_store5 ?_ | refine op_storeK rfl ?_ | refine op_loadK rfl ?_ | refine op_load_aggK rfl ?_ | refine tc_cond_t ?_ | refine tc_cond_f ?_ | refine tc_cond (fun _ => ?_) (fun _ => ?_) | refine tc_skip ?_ | refine tc_ret ?_ | refine at_seq_ret ?_ | fail))
    | (first | refine tc_seq ?_ | refine tc_region ?_ | refine at_seq_normal ?_ | refine tl_nil ?_ | refine tl_cons ?_ | refine tl_cons_none ?_ | refine op_move ?_ | refine op_assign ?_ | refine op_fieldAddr ?_ | refine op_load ?_ | refine op_load_agg ?_ | refine op_indexC ?_ | refine op_indexAddr1 ?_ | refine op_indexAddr ?_ | refine op_icmp ?_ | refine op_fcmp ?_ | refine op_iarith ?_ | refine op_bcmp ?_ | refine op_unop_not ?_ | refine op_unop_neg_float ?_ | refine op_unop_neg_int ?_ | refine op_len_slice ?_ | refine op_pick_true ?_ | refine op_pick_false ?_ | refine op_pick_true' ?_ | refine op_pick_false' ?_ | refine op_build ?_ | refine op_extract ?_ | refine op_makeInterface ?_ | refine op_typeAssert ?_ | refine op_ptr_nil ?_ | refine op_nilCheck_ptr ?_ | refine op_nilCheck_meth ?_ | refine op_makeMeth ?_ | refine op_makeFunc ?_ | refine op_itof ?_ | refine op_itoi ?_ | refine op_ftoi ?_ | refine op_iquo ?_ | refine op_irem ?_ | refine op_ibits ?_ | refine op_slice_isnil ?_ | refine op_slice_notnil ?_ | refine op_imax ?_ | refine op_imin ?_ | refine op_shl ?_ | refine op_shr ?_ | (refine op_alloc ?_; intro _) | (refine op_box ?_; intro _) | (refine op_buildSlice ?_; intro _) | (refine op_farith ?_; intro _ _) | refine op_store0 ?_ | refine op_store1 ?_ | refine op_store2 ?_ | refine op_store3 ?_ | refine op_store4 ?_ | refine op_store5 ?_ | refine op_storeK rfl ?_ | refine op_loadK rfl ?_ | refine op_load_aggK rfl ?_ | refine tc_cond_t ?_ | refine tc_cond_f ?_ | refine tc_cond (fun _ => ?_) (fun _ => ?_) | refine tc_skip ?_ | refine tc_ret ?_ | refine at_seq_ret ?_ | fail)
    | fail
  refine tc_anyQ mixed (by repeat (first | refine pq_seq ?_ | refine pq_block ?_ | refine pq_loop ?_ | exact pq_body)) fun hpq => ?_
  refine ta_take 0 rfl (by kernel_rfl) (by kernel_rfl) (by kernel_rfl) hpq rfl rfl (by decide) (by exact y_move) ?_
  refine ta_take 1 rfl (by kernel_rfl) (by kernel_rfl) (by kernel_rfl) hpq rfl rfl (by decide) (by exact y_move) ?_
  refine ta_take 5 rfl (by kernel_rfl) (by kernel_rfl) (by kernel_rfl) hpq rfl rfl (by decide) (by exact y_move) ?_
  refine ta_two 2 6 (by kernel_rfl) rfl (by decide) rfl (by decide) ?_ ?_
  · refine op_nilCheck_ptr ?_
    refine ta_take 3 rfl (by kernel_rfl) (by kernel_rfl) (by kernel_rfl) hpq rfl rfl (by decide) (by exact y_fieldAddr) ?_
    refine ta_two 4 6 (by kernel_rfl) rfl (by decide) rfl (by decide) ?_ ?_
    · refine op_loadK rfl ?_
      refine ta_only 6 (by kernel_rfl) rfl (by decide) ?_
      refine op_nilCheck_ptr ?_
      refine ta_take 7 rfl (by kernel_rfl) (by kernel_rfl) (by kernel_rfl) hpq rfl rfl (by decide) (by exact y_fieldAddr) ?_
      refine ta_only 8 (by kernel_rfl) rfl (by decide) ?_
      refine op_loadK rfl ?_
      refine ta_only 9 (by kernel_rfl) rfl (by decide) ?_
      (refine op_slice_l (l := 0) ?_; rw [slAt_self])
      refine ta_only 10 (by kernel_rfl) rfl (by decide) ?_
      refine op_copy (A := [_]) ?_ ((BS.toN hv).mono fun e he => List.mem_cons_of_mem _ (List.mem_cons_of_mem _ he)) (oneCell_bv _)
      refine ta_take 11 rfl (by kernel_rfl) (by kernel_rfl) (by kernel_rfl) hpq rfl rfl (by decide) (by exact y_assign) ?_
      refine ta_done (by kernel_rfl) ?_
      repeat' first
        | (refine op_iarith ?_; rw [hw])
        | (first | refine tc_seq ?_ | refine tc_region ?_ | refine at_seq_normal ?_ | refine tl_nil ?_ | refine tl_cons ?_ | refine tl_cons_none ?_ | refine op_move ?_ | refine op_assign ?_ | refine op_fieldAddr ?_ | refine op_load ?_ | refine op_load_agg ?_ | refine op_indexC ?_ | refine op_indexAddr1 ?_ | refine op_indexAddr ?_ | refine op_icmp ?_ | refine op_fcmp ?_ | refine op_iarith ?_ | refine op_bcmp ?_ | refine op_unop_not ?_ | refine op_unop_neg_float ?_ | refine op_unop_neg_int ?_ | refine op_len_slice ?_ | refine op_pick_true ?_ | refine op_pick_false ?_ | refine op_pick_true' ?_ | refine op_pick_false' ?_ | refine op_build ?_ | refine op_extract ?_ | refine op_makeInterface ?_ | refine op_typeAssert ?_ | refine op_ptr_nil ?_ | refine op_nilCheck_ptr ?_ | refine op_nilCheck_meth ?_ | refine op_makeMeth ?_ | refine op_makeFunc ?_ | refine op_itof ?_ | refine op_itoi ?_ | refine op_ftoi ?_ | refine op_iquo ?_ | refine op_irem ?_ | refine op_ibits ?_ | refine op_slice_isnil ?_ | refine op_slice_notnil ?_ | refine op_imax ?_ | refine op_imin ?_ | refine op_shl ?_ | refine op_shr ?_ | (refine op_alloc ?_; intro _) | (refine op_box ?_; intro _) | (refine op_buildSlice ?_; intro _) | (refine op_farith ?_; intro _ _) | refine op_store0 ?_ | refine op_store1 ?_ | refine op_store2 ?_ | refine op_store3 ?_ | refine op_store4 ?_ | refine op_store5 ?_ | refine op_storeK rfl ?_ | refine op_loadK rfl ?_ | refine op_load_aggK rfl ?_ | refine tc_cond_t ?_ | refine tc_cond_f ?_ | refine tc_cond (fun _ => ?_) (fun _ => ?_) | refine tc_skip ?_ | refine tc_ret ?_ | refine at_seq_ret ?_ | fail)
        | fail
      exact ret_list rfl (.cons (.tmp rfl) (.cons (.tmp rfl) .nil)) rfl (List.Sublist.refl _) ⟨rfl, rfl⟩ (.inl rfl)
    · refine op_nilCheck_ptr ?_
      refine ta_take 7 rfl (by kernel_rfl) (by kernel_rfl) (by kernel_rfl) hpq rfl rfl (by decide) (by exact y_fieldAddr) ?_
      refine ta_two 4 8 (by kernel_rfl) rfl (by decide) rfl (by decide) ?_ ?_
      · refine op_loadK rfl ?_
        refine ta_only 8 (by kernel_rfl) rfl (by decide) ?_
        refine op_loadK rfl ?_
        refine ta_only 9 (by kernel_rfl) rfl (by decide) ?_
        (refine op_slice_l (l := 0) ?_; rw [slAt_self])
        refine ta_only 10 (by kernel_rfl) rfl (by decide) ?_
        refine op_copy (A := [_]) ?_ ((BS.toN hv).mono fun e he => List.mem_cons_of_mem _ (List.mem_cons_of_mem _ he)) (oneCell_bv _)
        refine ta_take 11 rfl (by kernel_rfl) (by kernel_rfl) (by kernel_rfl) hpq rfl rfl (by decide) (by exact y_assign) ?_
        refine ta_done (by kernel_rfl) ?_
        repeat' first
          | (refine op_iarith ?_; rw [hw])
          | (first | refine tc_seq ?_ | refine tc_region ?_ | refine at_seq_normal ?_ | refine tl_nil ?_ | refine tl_cons ?_ | refine tl_cons_none ?_ | refine op_move ?_ | refine op_assign ?_ | refine op_fieldAddr ?_ | refine op_load ?_ | refine op_load_agg ?_ | refine op_indexC ?_ | refine op_indexAddr1 ?_ | refine op_indexAddr ?_ | refine op_icmp ?_ | refine op_fcmp ?_ | refine op_iarith ?_ | refine op_bcmp ?_ | refine op_unop_not ?_ | refine op_unop_neg_float ?_ | refine op_unop_neg_int ?_ | refine op_len_slice ?_ | refine op_pick_true ?_ | refine op_pick_false ?_ | refine op_pick_true' ?_ | refine op_pick_false' ?_ | refine op_build ?_ | refine op_extract ?_ | refine op_makeInterface ?_ | refine op_typeAssert ?_ | refine op_ptr_nil ?_ | refine op_nilCheck_ptr ?_ | refine op_nilCheck_meth ?_ | refine op_makeMeth ?_ | refine op_makeFunc ?_ | refine op_itof ?_ | refine op_itoi ?_ | refine op_ftoi ?_ | refine op_iquo ?_ | refine op_irem ?_ | refine op_ibits ?_ | refine op_slice_isnil ?_ | refine op_slice_notnil ?_ | refine op_imax ?_ | refine op_imin ?_ | refine op_shl ?_ | refine op_shr ?_ | (refine op_alloc ?_; intro _) | (refine op_box ?_; intro _) | (refine op_buildSlice ?_; intro _) | (refine op_farith ?_; intro _ _) | refine op_store0 ?_ | refine op_store1 ?_ | refine op_store2 ?_ | refine op_store3 ?_ | refine op_store4 ?_ | refine op_store5 ?_ | refine op_storeK rfl ?_ | refine op_loadK rfl ?_ | refine op_load_aggK rfl ?_ | refine tc_cond_t ?_ | refine tc_cond_f ?_ | refine tc_cond (fun _ => ?_) (fun _ => ?_) | refine tc_skip ?_ | refine tc_ret ?_ | refine at_seq_ret ?_ | fail)
          | fail
        exact ret_list rfl (.cons (.tmp rfl) (.cons (.tmp rfl) .nil)) rfl (List.Sublist.refl _) ⟨rfl, rfl⟩ (.inl rfl)
      · refine op_loadK rfl ?_
        refine ta_only 4 (by kernel_rfl) rfl (by decide) ?_
        refine op_loadK rfl ?_
        refine ta_only 9 (by kernel_rfl) rfl (by decide) ?_
        (refine op_slice_l (l := 0) ?_; rw [slAt_self])
        refine ta_only 10 (by kernel_rfl) rfl (by decide) ?_
        refine op_copy (A := [_]) ?_ ((BS.toN hv).mono fun e he => List.mem_cons_of_mem _ (List.mem_cons_of_mem _ he)) (oneCell_bv _)
        refine ta_take 11 rfl (by kernel_rfl) (by kernel_rfl) (by kernel_rfl) hpq rfl rfl (by decide) (by exact y_assign) ?_
        refine ta_done (by kernel_rfl) ?_
        repeat' first
          | (refine op_iarith ?_; rw [hw])
          | (first | refine tc_seq ?_ | refine tc_region ?_ | refine at_seq_normal ?_ | refine tl_nil ?_ | refine tl_cons ?_ | refine tl_cons_none ?_ | refine op_move ?_ | refine op_assign ?_ | refine op_fieldAddr ?_ | refine op_load ?_ | refine op_load_agg ?_ | refine op_indexC ?_ | refine op_indexAddr1 ?_ | refine op_indexAddr ?_ | refine op_icmp ?_ | refine op_fcmp ?_ | refine op_iarith ?_ | refine op_bcmp ?_ | refine op_unop_not ?_ | refine op_unop_neg_float ?_ | refine op_unop_neg_int ?_ | refine op_len_slice ?_ | refine op_pick_true ?_ | refine op_pick_false ?_ | refine op_pick_true' ?_ | refine op_pick_false' ?_ | refine op_build ?_ | refine op_extract ?_ | refine op_makeInterface ?_ | refine op_typeAssert ?_ | refine op_ptr_nil ?_ | refine op_nilCheck_ptr ?_ | refine op_nilCheck_meth ?_ | refine op_makeMeth ?_ | refine op_makeFunc ?_ | refine op_itof ?_ | refine op_itoi ?_ | refine op_ftoi ?_ | refine op_iquo ?_ | refine op_irem ?_ | refine op_ibits ?_ | refine op_slice_isnil ?_ | refine op_slice_notnil ?_ | refine op_imax ?_ | refine op_imin ?_ | refine op_shl ?_ | refine op_shr ?_ | (refine op_alloc ?_; intro _) | (refine op_box ?_; intro _) | (refine op_buildSlice ?_; intro _) | (refine op_farith ?_; intro _ _) | refine op_store0 ?_ | refine op_store1 ?_ | refine op_store2 ?_ | refine op_store3 ?_ | refine op_store4 ?_ | refine op_store5 ?_ | refine op_storeK rfl ?_ | refine op_loadK rfl ?_ | refine op_load_aggK rfl ?_ | refine tc_cond_t ?_ | refine tc_cond_f ?_ | refine tc_cond (fun _ => ?_) (fun _ => ?_) | refine tc_skip ?_ | refine tc_ret ?_ | refine at_seq_ret ?_ | fail)
          | fail
        exact ret_list rfl (.cons (.tmp rfl) (.cons (.tmp rfl) .nil)) rfl (List.Sublist.refl _) ⟨rfl, rfl⟩ (.inl rfl)
  · refine op_nilCheck_ptr ?_
    refine ta_take 7 rfl (by kernel_rfl) (by kernel_rfl) (by kernel_rfl) hpq rfl rfl (by decide) (by exact y_fieldAddr) ?_
    refine ta_two 2 8 (by kernel_rfl) rfl (by decide) rfl (by decide) ?_ ?_
    · refine op_nilCheck_ptr ?_
      refine ta_take 3 rfl (by kernel_rfl) (by kernel_rfl) (by kernel_rfl) hpq rfl rfl (by decide) (by exact y_fieldAddr) ?_
      refine ta_two 4 8 (by kernel_rfl) rfl (by decide) rfl (by decide) ?_ ?_
      · refine op_loadK rfl ?_
        refine ta_only 8 (by kernel_rfl) rfl (by decide) ?_
        refine op_loadK rfl ?_
        refine ta_only 9 (by kernel_rfl) rfl (by decide) ?_
        (refine op_slice_l (l := 0) ?_; rw [slAt_self])
        refine ta_only 10 (by kernel_rfl) rfl (by decide) ?_
        refine op_copy (A := [_]) ?_ ((BS.toN hv).mono fun e he => List.mem_cons_of_mem _ (List.mem_cons_of_mem _ he)) (oneCell_bv _)
        refine ta_take 11 rfl (by kernel_rfl) (by kernel_rfl) (by kernel_rfl) hpq rfl rfl (by decide) (by exact y_assign) ?_
        refine ta_done (by kernel_rfl) ?_
        repeat' first
          | (refine op_iarith ?_; rw [hw])
          | (first | refine tc_seq ?_ | refine tc_region ?_ | refine at_seq_normal ?_ | refine tl_nil ?_ | refine tl_cons ?_ | refine tl_cons_none ?_ | refine op_move ?_ | refine op_assign ?_ | refine op_fieldAddr ?_ | refine op_load ?_ | refine op_load_agg ?_ | refine op_indexC ?_ | refine op_indexAddr1 ?_ | refine op_indexAddr ?_ | refine op_icmp ?_ | refine op_fcmp ?_ | refine op_iarith ?_ | refine op_bcmp ?_ | refine op_unop_not ?_ | refine op_unop_neg_float ?_ | refine op_unop_neg_int ?_ | refine op_len_slice ?_ | refine op_pick_true ?_ | refine op_pick_false ?_ | refine op_pick_true' ?_ | refine op_pick_false' ?_ | refine op_build ?_ | refine op_extract ?_ | refine op_makeInterface ?_ | refine op_typeAssert ?_ | refine op_ptr_nil ?_ | refine op_nilCheck_ptr ?_ | refine op_nilCheck_meth ?_ | refine op_makeMeth ?_ | refine op_makeFunc ?_ | refine op_itof ?_ | refine op_itoi ?_ | refine op_ftoi ?_ | refine op_iquo ?_ | refine op_irem ?_ | refine op_ibits ?_ | refine op_slice_isnil ?_ | refine op_slice_notnil ?_ | refine op_imax ?_ | refine op_imin ?_ | refine op_shl ?_ | refine op_shr ?_ | (refine op_alloc ?_; intro _) | (refine op_box ?_; intro _) | (refine op_buildSlice ?_; intro _) | (refine op_farith ?_; intro _ _) | refine op_store0 ?_ | refine op_store1 ?_ | refine op_store2 ?_ | refine op_store3 ?_ | refine op_store4 ?_ | refine op_store5 ?_ | refine op_storeK rfl ?_ | refine op_loadK rfl ?_ | refine op_load_aggK rfl ?_ | refine tc_cond_t ?_ | refine tc_cond_f ?_ | refine tc_cond (fun _ => ?_) (fun _ => ?_) | refine tc_skip ?_ | refine tc_ret ?_ | refine at_seq_ret ?_ | fail)
          | fail
        exact ret_list rfl (.cons (.tmp rfl) (.cons (.tmp rfl) .nil)) rfl (List.Sublist.refl _) ⟨rfl, rfl⟩ (.inl rfl)
      · refine op_loadK rfl ?_
        refine ta_only 4 (by kernel_rfl) rfl (by decide) ?_
        refine op_loadK rfl ?_
        refine ta_only 9 (by kernel_rfl) rfl (by decide) ?_
        (refine op_slice_l (l := 0) ?_; rw [slAt_self])
        refine ta_only 10 (by kernel_rfl) rfl (by decide) ?_
        refine op_copy (A := [_]) ?_ ((BS.toN hv).mono fun e he => List.mem_cons_of_mem _ (List.mem_cons_of_mem _ he)) (oneCell_bv _)
        refine ta_take 11 rfl (by kernel_rfl) (by kernel_rfl) (by kernel_rfl) hpq rfl rfl (by decide) (by exact y_assign) ?_
        refine ta_done (by kernel_rfl) ?_
        repeat' first
          | (refine op_iarith ?_; rw [hw])
          | (first | refine tc_seq ?_ | refine tc_region ?_ | refine at_seq_normal ?_ | refine tl_nil ?_ | refine tl_cons ?_ | refine tl_cons_none ?_ | refine op_move ?_ | refine op_assign ?_ | refine op_fieldAddr ?_ | refine op_load ?_ | refine op_load_agg ?_ | refine op_indexC ?_ | refine op_indexAddr1 ?_ | refine op_indexAddr ?_ | refine op_icmp ?_ | refine op_fcmp ?_ | refine op_iarith ?_ | refine op_bcmp ?_ | refine op_unop_not ?_ | refine op_unop_neg_float ?_ | refine op_unop_neg_int ?_ | refine op_len_slice ?_ | refine op_pick_true ?_ | refine op_pick_false ?_ | refine op_pick_true' ?_ | refine op_pick_false' ?_ | refine op_build ?_ | refine op_extract ?_ | refine op_makeInterface ?_ | refine op_typeAssert ?_ | refine op_ptr_nil ?_ | refine op_nilCheck_ptr ?_ | refine op_nilCheck_meth ?_ | refine op_makeMeth ?_ | refine op_makeFunc ?_ | refine op_itof ?_ | refine op_itoi ?_ | refine op_ftoi ?_ | refine op_iquo ?_ | refine op_irem ?_ | refine op_ibits ?_ | refine op_slice_isnil ?_ | refine op_slice_notnil ?_ | refine op_imax ?_ | refine op_imin ?_ | refine op_shl ?_ | refine op_shr ?_ | (refine op_alloc ?_; intro _) | (refine op_box ?_; intro _) | (refine op_buildSlice ?_; intro _) | (refine op_farith ?_; intro _ _) | refine op_store0 ?_ | refine op_store1 ?_ | refine op_store2 ?_ | refine op_store3 ?_ | refine op_store4 ?_ | refine op_store5 ?_ | refine op_storeK rfl ?_ | refine op_loadK rfl ?_ | refine op_load_aggK rfl ?_ | refine tc_cond_t ?_ | refine tc_cond_f ?_ | refine tc_cond (fun _ => ?_) (fun _ => ?_) | refine tc_skip ?_ | refine tc_ret ?_ | refine at_seq_ret ?_ | fail)
          | fail
        exact ret_list rfl (.cons (.tmp rfl) (.cons (.tmp rfl) .nil)) rfl (List.Sublist.refl _) ⟨rfl, rfl⟩ (.inl rfl)
    · refine op_loadK rfl ?_
      refine ta_only 2 (by kernel_rfl) rfl (by decide) ?_
      refine op_nilCheck_ptr ?_
      refine ta_take 3 rfl (by kernel_rfl) (by kernel_rfl) (by kernel_rfl) hpq rfl rfl (by decide) (by exact y_fieldAddr) ?_
      refine ta_only 4 (by kernel_rfl) rfl (by decide) ?_
      refine op_loadK rfl ?_
      refine ta_only 9 (by kernel_rfl) rfl (by decide) ?_
      (refine op_slice_l (l := 0) ?_; rw [slAt_self])
      refine ta_only 10 (by kernel_rfl) rfl (by decide) ?_
      refine op_copy (A := [_]) ?_ ((BS.toN hv).mono fun e he => List.mem_cons_of_mem _ (List.mem_cons_of_mem _ he)) (oneCell_bv _)
      refine ta_take 11 rfl (by kernel_rfl) (by kernel_rfl) (by kernel_rfl) hpq rfl rfl (by decide) (by exact y_assign) ?_
      refine ta_done (by kernel_rfl) ?_
      repeat' first
        | (refine op_iarith ?_; rw [hw])
        | (first | refine tc_seq ?_ | refine tc_region ?_ | refine at_seq_normal ?_ | refine tl_nil ?_ | refine tl_cons ?_ | refine tl_cons_none ?_ | refine op_move ?_ | refine op_assign ?_ | refine op_fieldAddr ?_ | refine op_load ?_ | refine op_load_agg ?_ | refine op_indexC ?_ | refine op_indexAddr1 ?_ | refine op_indexAddr ?_ | refine op_icmp ?_ | refine op_fcmp ?_ | refine op_iarith ?_ | refine op_bcmp ?_ | refine op_unop_not ?_ | refine op_unop_neg_float ?_ | refine op_unop_neg_int ?_ | refine op_len_slice ?_ | refine op_pick_true ?_ | refine op_pick_false ?_ | refine op_pick_true' ?_ | refine op_pick_false' ?_ | refine op_build ?_ | refine op_extract ?_ | refine op_makeInterface ?_ | refine op_typeAssert ?_ | refine op_ptr_nil ?_ | refine op_nilCheck_ptr ?_ | refine op_nilCheck_meth ?_ | refine op_makeMeth ?_ | refine op_makeFunc ?_ | refine op_itof ?_ | refine op_itoi ?_ | refine op_ftoi ?_ | refine op_iquo ?_ | refine op_irem ?_ | refine op_ibits ?_ | refine op_slice_isnil ?_ | refine op_slice_notnil ?_ | refine op_imax ?_ | refine op_imin ?_ | refine op_shl ?_ | refine op_shr ?_ | (refine op_alloc ?_; intro _) | (refine op_box ?_; intro _) | (refine op_buildSlice ?_; intro _) | (refine op_farith ?_; intro _ _) | refine op_store0 ?_ | refine op_store1 ?_ | refine op_store2 ?_ | refine op_store3 ?_ | refine op_store4 ?_ | refine op_store5 ?_ | refine op_storeK rfl ?_ | refine op_loadK rfl ?_ | refine op_load_aggK rfl ?_ | refine tc_cond_t ?_ | refine tc_cond_f ?_ | refine tc_cond (fun _ => ?_) (fun _ => ?_) | refine tc_skip ?_ | refine tc_ret ?_ | refine at_seq_ret ?_ | fail)
        | fail
      exact ret_list rfl (.cons (.tmp rfl) (.cons (.tmp rfl) .nil)) rfl (List.Sublist.refl _) ⟨rfl, rfl⟩ (.inl rfl)
end Go.Proofs.YtddpdmmikheoeaaDoor.Byt

set_option linter.unusedVariables false
set_option linter.unusedSimpArgs false
namespace Go.Lg
class Cmp (P : Program) (u : TypeId) : Prop where
  eq : (P.info? u).map (·.comparable) = some true
class MethPn (P : Program) (t : TypeId) (name : String) : Prop where
  no : ∀ (k off : Nat) (w : World), (nilAhead (P.types.size + Made.depth) t (.pointer (some ⟨k, off, none⟩)) name).run P w = .ok (some false) w
section
variable {P : Program} {W : World} {n : Nat} {ds : List Deferred} {dst : Option Tmp} {ty : TypeId} {pos : String} {af : Array Edge} {g : Option (Nat × Bool)} {E : Env} {G : Heap} {K : Value → Heap → Prop}
theorem run_typeInfoI {u : TypeId} {i : TypeInfo} (h : P.info? u = some i) (w : World) : (typeInfo u).run P w = .ok i w := by
  unfold typeInfo
  refine (sem_run_bind P _ _ w P w rfl).trans ?_
  rw [h]; rfl
theorem run_equalIn_ptr {t u e ms s b z} [hU : Und P t (.interface ms)] [hp : Und P u (.pointer e)] [hc : Cmp P u] [hI : Inf P e s b z] (hs : s ≠ 0) (a : Addr) (w : World) : (Op.equalIn Op.maxDepth t (.iface u (.pointer (some a))) (.iface u (.pointer (some a)))).run P w = .ok true w := by
  obtain ⟨i, hi, hci⟩ := Option.map_eq_some_iff.1 hc.eq
  show (Op.equalIn (9999 + 1) t _ _).run P w = _
  rw [Op.equalIn]
  refine (sem_run_bind P _ _ w _ w (run_underlying (t := t) w)).trans ?_
  simp only [ne_eq, not_true, if_false, ite_not, if_true]
  refine (sem_run_bind P _ _ w i w (run_typeInfoI hi w)).trans ?_
  simp only [hci, Bool.not_true, Bool.false_eq_true, if_false]
  show (Op.equalIn (9998 + 1) u _ _).run P w = _
  rw [Op.equalIn]
  refine (sem_run_bind P _ _ w _ w (run_underlying (t := u) w)).trans ?_
  refine (sem_run_bind P _ _ w s w (run_sizeOf (t := e) w)).trans ?_
  rw [if_pos hs]
  simp [sameAddr]
theorem op_iface_eqp {t t2 x y u e ms s b z a} [hU : Und P t (.interface ms)] [hp : Und P u (.pointer e)] [hc : Cmp P u] [hI : Inf P e s b z] (hk : K (.bool true) G) (hx : evalE E x = some (.iface u (.pointer (some a))) := by exact rfl) (hy : evalE E y = some (.iface u (.pointer (some a))) := by exact rfl) (hs : s ≠ 0 := by decide) : OpT P W n ds ⟨dst, .binOp .eql t x y t2, ty, pos, af, g⟩ E G K :=
  op_of_run (fun a w ho _ => by
    simp only [execOp, ho.eval hx, ho.eval hy]
    refine run_v ?_
    refine (sem_run_bind P _ _ w () w rfl).trans ?_
    exact (sem_run_bind P _ _ w true w (run_equalIn_ptr (t := t) hs _ w)).trans rfl) hk
theorem op_nilCheck_methP {x nm t k off} [h : MethPn P t nm] (hk : K (.func (.method nm) #[.iface t (.pointer (some ⟨k, off, none⟩))] #[]) G) (hx : evalE E x = some (.func (.method nm) #[.iface t (.pointer (some ⟨k, off, none⟩))] #[]) := by exact rfl) :
    OpT P W n ds ⟨dst, .nilCheck x, ty, pos, af, g⟩ E G K :=
  op_of_run (fun a' w ho _ => by
    simp only [execOp, ho.eval hx]
    refine (sem_run_bind P _ _ w P w rfl).trans ?_
    refine (sem_run_bind P _ _ w (some false) w (h.no k off w)).trans ?_
    rfl) hk
end
end Go.Lg

set_option linter.unusedVariables false
set_option linter.unusedSimpArgs false
namespace Go.Proofs.YtddpdmmikheoeaaDoor.Byt
open Go.Lg

set_option maxRecDepth 20000 in
instance mRead : MethP Tryd.prog 47 "Read" 65 0 where
  eq := fun k off args w => by kernel_rfl
set_option maxRecDepth 20000 in
instance mReadn : MethPn Tryd.prog 47 "Read" where
  no := fun k off w => by kernel_rfl
instance cmpE : Cmp Tryd.prog 109 where
  eq := by kernel_rfl
/-- The errors of reading lie in the memory. -/
def Ends (R : Heap) : Prop := (∃ a T fz, (5, Obj.cells ⟨[.iface 109 (.pointer (some a))]⟩ T fz) ∈ R) ∧ ∃ u v T fz, (6, Obj.cells ⟨[.iface u v]⟩ T fz) ∈ R
theorem Ends.mono {R R' : Heap} (h : Ends R) (hs : ∀ e ∈ R, e ∈ R') : Ends R' :=
  let ⟨⟨a, T, fz, h1⟩, u, v, T2, fz2, h2⟩ := h; ⟨⟨a, T, fz, hs _ h1⟩, u, v, T2, fz2, hs _ h2⟩
set_option maxHeartbeats 16000000 in
theorem readAtLeast (kb : Nat) (T : TypeId) (a : Option Addr) (c : Nat) (bs : List Nat) (kp : Nat) (Tp : TypeId) (zs : List Value) (m : Nat) (R : Heap) (hv : BS R (.slice a bs.length c) bs) (hm : 0 < m) (hmb : m ≤ 1048576) (hz : zs.length = m) (hb : bs.length ≤ 1048576) (hE : Ends R) :
    Does Tryd.prog 47 [.iface 47 (.pointer (some ⟨kb, 0, none⟩)), .slice (some ⟨kp, 0, none⟩) m m, .int .i64 (m : Int)] ((kb, Obj.cells ⟨bo (.slice a bs.length c) 0 0⟩ T (0, 0)) :: (kp, Obj.cells ⟨zs⟩ Tp (0, 0)) :: R) fun w H' => (m ≤ bs.length ∧ w = .tuple #[.int .i64 (m : Int), .nilIface] ∧ H' = (kb, Obj.cells ⟨bo (.slice a bs.length c) (m : Int) (-1)⟩ T (0, 0)) :: (kp, Obj.cells ⟨spliceAt zs 0 ((bs.map bv).take m)⟩ Tp (0, 0)) :: R) ∨
      (bs.length < m ∧ ∃ x u v dc, w = .tuple #[x, .iface u v] ∧ H' = (kb, Obj.cells ⟨bo (.slice a 0 c) 0 0⟩ T (0, 0)) :: (kp, Obj.cells ⟨dc⟩ Tp (0, 0)) :: R) := by
  obtain ⟨⟨ea, Te, fze, he⟩, eu, evv, Te2, fze2, he2⟩ := hE
  have hc0 : icmp .lss (m : Int) (m : Int) = false := by simp only [icmp]; exact decide_eq_false (by omega)
  refine fn_enter 46 Tryd.func47 fun W => ?_
  repeat' first
    | refine tc_seq ?_ | refine tc_region ?_ | refine at_seq_normal ?_ | refine tl_nil ?_ | refine tl_cons ?_ | refine op_move ?_ | refine op_assign ?_ | refine op_fieldAddr ?_ | refine op_load ?_ | refine op_load_agg ?_
    | refine op_indexC ?_ | refine op_indexAddr1 ?_ | refine op_indexAddr ?_ | refine op_icmp ?_ | refine op_fcmp ?_ | refine op_iarith ?_ | refine op_bcmp ?_ | refine op_unop_not ?_ | refine op_unop_neg_float ?_ | refine op_unop_neg_int ?_
    | refine op_len_slice ?_ | refine op_pick_true ?_ | refine op_pick_false ?_ | refine op_pick_true' ?_ | refine op_pick_false' ?_ | refine op_build ?_ | refine op_extract ?_ | refine op_makeInterface ?_ | refine op_typeAssert ?_ | refine op_ptr_nil ?_
    | refine op_nilCheck_ptr ?_ | refine op_nilCheck_meth ?_ | refine op_makeMeth ?_ | refine op_makeFunc ?_ | refine op_itof ?_ | refine op_itoi ?_ | refine op_ftoi ?_ | refine op_iquo ?_ | refine op_irem ?_ | refine op_ibits ?_
    | refine op_slice_isnil ?_ | refine op_slice_notnil ?_ | refine op_imax ?_ | refine op_imin ?_ | refine op_shl ?_ | refine op_shr ?_ | (refine op_alloc ?_; intro _) | (refine op_box ?_; intro _) | (refine op_buildSlice ?_; intro _) | (refine op_farith ?_; intro _ _)
    | refine op_store0 ?_ | refine op_store1 ?_ | refine op_store2 ?_ | refine op_store3 ?_ | refine op_store4 ?_ | refine op_store5 ?_ | refine op_storeK rfl ?_ | refine op_loadK rfl ?_ | refine op_load_aggK rfl ?_ | refine tc_cond_t ?_
    | refine tc_cond_f ?_ | refine tc_cond (fun _ => ?_) (fun _ => ?_) | refine tc_block ?_ | refine tc_skip ?_ | refine tc_ret ?_ | refine tc_exit ?_ | refine at_seq_ret ?_ | refine at_seq_exit ?_ | refine at_block_normal ?_ | refine at_block_ret ?_
    | refine at_block_exit_self ?_ | refine at_block_exit_ne ?_ | refine at_loop_ret ?_ | refine at_loop_exit ?_ | refine tl_guard_yes ?_ | refine tl_guard_no ?_ | refine tl_guard_yes' ?_ | refine tl_guard_no' ?_ | refine tl_guard_undef ?_ | refine tl_guard_split (fun _ => ?_) (fun _ => ?_)
  refine tc_loopK [(0, _), (1, _), (2, _)] (by repeat (first | exact trivial | refine ⟨rfl, ?_⟩)) (fun p : Nat × Nat × Value × List Value × List Value => [(6, .int .i64 (p.2.1 : Int)), (7, p.2.2.1)]) (fun p => (kb, Obj.cells ⟨p.2.2.2.1⟩ T (0, 0)) :: (kp, Obj.cells ⟨p.2.2.2.2⟩ Tp (0, 0)) :: R)
    (fun p => p = (0, 0, .nilIface, bo (.slice a bs.length c) 0 0, zs) ∨ (0 < bs.length ∧ p = (1, min bs.length m, .nilIface, bo (.slice a bs.length c) ((min bs.length m : Nat) : Int) (-1), spliceAt zs 0 ((bs.map bv).take (min bs.length m)))) ∨ (bs.length < m ∧ ∃ dc, p = (2, bs.length, .iface 109 (.pointer (some ea)), bo (.slice a 0 c) 0 0, dc))) (fun p => 2 - p.1) (0, 0, .nilIface, bo (.slice a bs.length c) 0 0, zs) (.inl rfl) ⟨rfl, rfl, trivial⟩ (List.Sublist.refl _) ?_
  rintro p (rfl | ⟨hn, rfl⟩ | ⟨hlt, dc, rfl⟩)
  · have hc : icmp .lss ((0 : Nat) : Int) (m : Int) = true := by simp only [icmp]; exact decide_eq_true (by omega)
    simp only
    by_cases hn : 0 < bs.length
    · have hw : IntKind.i64.wrap (iarith .add ((0 : Nat) : Int) ((min bs.length m : Nat) : Int)) = ((min bs.length m : Nat) : Int) := by rw [wrap_add (by omega) (by omega)]; omega
      repeat' first
        | refine op_iface_nilq ?_
        | (first | refine tc_seq ?_ | refine tc_region ?_ | refine at_seq_normal ?_ | refine tl_nil ?_ | refine tl_cons ?_ | refine op_move ?_ | refine op_assign ?_ | refine op_fieldAddr ?_ | refine op_load ?_ | refine op_load_agg ?_ | refine op_indexC ?_ | refine op_indexAddr1 ?_ | refine op_indexAddr ?_ | refine op_icmp ?_ | refine op_fcmp ?_ | refine op_iarith ?_ | refine op_bcmp ?_ | refine op_unop_not ?_ | refine op_unop_neg_float ?_ | refine op_unop_neg_int ?_ | refine op_len_slice ?_ | refine op_pick_true ?_ | refine op_pick_false ?_ | refine op_pick_true' ?_ | refine op_pick_false' ?_ | refine op_build ?_ | refine op_extract ?_ | refine op_makeInterface ?_ | refine op_typeAssert ?_ | refine op_ptr_nil ?_ | refine op_nilCheck_ptr ?_ | refine op_nilCheck_meth ?_ | refine op_makeMeth ?_ | refine op_makeFunc ?_ | refine op_itof ?_ | refine op_itoi ?_ | refine op_ftoi ?_ | refine op_iquo ?_ | refine op_irem ?_ | refine op_ibits ?_ | refine op_slice_isnil ?_ | refine op_slice_notnil ?_ | refine op_imax ?_ | refine op_imin ?_ | refine op_shl ?_ | refine op_shr ?_ | (refine op_alloc ?_; intro _) | (refine op_box ?_; intro _) | (refine op_buildSlice ?_; intro _) | (refine op_farith ?_; intro _ _) | refine op_store0 ?_ | refine op_store1 ?_ | refine op_store2 ?_ | refine op_store3 ?_ | refine op_store4 ?_ | refine op_store5 ?_ | refine op_storeK rfl ?_ | refine op_loadK rfl ?_ | refine op_load_aggK rfl ?_ | refine tc_cond_t ?_ | refine tc_cond_f ?_ | refine tc_cond (fun _ => ?_) (fun _ => ?_) | refine tc_block ?_ | refine tc_skip ?_ | refine tc_ret ?_ | refine tc_exit ?_ | refine at_seq_ret ?_ | refine at_seq_exit ?_ | refine at_block_normal ?_ | refine at_block_ret ?_ | refine at_block_exit_self ?_ | refine at_block_exit_ne ?_ | refine at_loop_ret ?_ | refine at_loop_exit ?_ | refine tl_guard_yes ?_ | refine tl_guard_no ?_ | refine tl_guard_yes' ?_ | refine tl_guard_no' ?_ | refine tl_guard_undef ?_ | refine tl_guard_split (fun _ => ?_) (fun _ => ?_) | fail)
        | fail
      refine tc_anyQ mixed (by repeat (first | refine pq_seq ?_ | refine pq_block ?_ | refine pq_loop ?_ | exact pq_body)) fun hpq => ?_
      refine ta_take 0 rfl (by kernel_rfl) (by kernel_rfl) (by kernel_rfl) hpq rfl rfl (by decide) (by exact y_move) ?_
      refine ta_take 1 rfl (by kernel_rfl) (by kernel_rfl) (by kernel_rfl) hpq rfl rfl (by decide) (by exact y_move) ?_
      refine ta_take 2 rfl (by kernel_rfl) (by kernel_rfl) (by kernel_rfl) hpq rfl rfl (by decide) (by exact y_move) ?_
      refine ta_two 3 4 (by kernel_rfl) rfl (by decide) rfl (by decide) ?_ ?_
      · (refine op_slice_l (l := 0) ?_ (h1 := by omega); rw [slAt_self])
        refine ta_only 4 (by kernel_rfl) rfl (by decide) ?_
        refine op_makeMeth ?_
        refine ta_only 5 (by kernel_rfl) rfl (by decide) ?_
        refine op_nilCheck_methP ?_
        refine ta_take 6 rfl (by kernel_rfl) (by kernel_rfl) (by kernel_rfl) hpq rfl rfl (by decide) (by exact y_move) ?_
        refine ta_only 7 (by kernel_rfl) rfl (by decide) ?_
        (refine op_invokeP (t := 47) (k := kb) (off := 0) (o := 0) ((readSome kb T a c bs 0 kp Tp zs m m R hv hn hm hz hb).mono ?_); rintro _ _ ⟨rfl, rfl⟩)
        refine ta_take 8 rfl (by kernel_rfl) (by kernel_rfl) (by kernel_rfl) hpq rfl rfl (by decide) (by exact y_move) ?_
        refine ta_two 9 10 (by kernel_rfl) rfl (by decide) rfl (by decide) ?_ ?_
        · refine op_extract ?_
          refine ta_take 11 rfl (by kernel_rfl) (by kernel_rfl) (by kernel_rfl) hpq rfl rfl (by decide) (by exact y_assign) ?_
          refine ta_only 10 (by kernel_rfl) rfl (by decide) ?_
          refine op_extract ?_
          refine ta_take 12 rfl (by kernel_rfl) (by kernel_rfl) (by kernel_rfl) hpq rfl rfl (by decide) (by exact y_assign) ?_
          refine ta_done (by kernel_rfl) ?_
          repeat' first
            | (refine op_iarith ?_; rw [hw])
            | (first | refine tc_seq ?_ | refine tc_region ?_ | refine at_seq_normal ?_ | refine tl_nil ?_ | refine tl_cons ?_ | refine op_move ?_ | refine op_assign ?_ | refine op_fieldAddr ?_ | refine op_load ?_ | refine op_load_agg ?_ | refine op_indexC ?_ | refine op_indexAddr1 ?_ | refine op_indexAddr ?_ | refine op_icmp ?_ | refine op_fcmp ?_ | refine op_iarith ?_ | refine op_bcmp ?_ | refine op_unop_not ?_ | refine op_unop_neg_float ?_ | refine op_unop_neg_int ?_ | refine op_len_slice ?_ | refine op_pick_true ?_ | refine op_pick_false ?_ | refine op_pick_true' ?_ | refine op_pick_false' ?_ | refine op_build ?_ | refine op_extract ?_ | refine op_makeInterface ?_ | refine op_typeAssert ?_ | refine op_ptr_nil ?_ | refine op_nilCheck_ptr ?_ | refine op_nilCheck_meth ?_ | refine op_makeMeth ?_ | refine op_makeFunc ?_ | refine op_itof ?_ | refine op_itoi ?_ | refine op_ftoi ?_ | refine op_iquo ?_ | refine op_irem ?_ | refine op_ibits ?_ | refine op_slice_isnil ?_ | refine op_slice_notnil ?_ | refine op_imax ?_ | refine op_imin ?_ | refine op_shl ?_ | refine op_shr ?_ | (refine op_alloc ?_; intro _) | (refine op_box ?_; intro _) | (refine op_buildSlice ?_; intro _) | (refine op_farith ?_; intro _ _) | refine op_store0 ?_ | refine op_store1 ?_ | refine op_store2 ?_ | refine op_store3 ?_ | refine op_store4 ?_ | refine op_store5 ?_ | refine op_storeK rfl ?_ | refine op_loadK rfl ?_ | refine op_load_aggK rfl ?_ | refine tc_cond_t ?_ | refine tc_cond_f ?_ | refine tc_cond (fun _ => ?_) (fun _ => ?_) | refine tc_block ?_ | refine tc_skip ?_ | refine tc_ret ?_ | refine tc_exit ?_ | refine at_seq_ret ?_ | refine at_seq_exit ?_ | refine at_block_normal ?_ | refine at_block_ret ?_ | refine at_block_exit_self ?_ | refine at_block_exit_ne ?_ | refine at_loop_ret ?_ | refine at_loop_exit ?_ | refine tl_guard_yes ?_ | refine tl_guard_no ?_ | refine tl_guard_yes' ?_ | refine tl_guard_no' ?_ | refine tl_guard_undef ?_ | refine tl_guard_split (fun _ => ?_) (fun _ => ?_) | fail)
            | fail
          exact at_loopK (1, _, _, _, _) (.inr (.inl ⟨hn, rfl⟩)) (by simp only; omega) ⟨rfl, rfl, trivial⟩ (by repeat (first | exact trivial | refine ⟨rfl, ?_⟩)) (List.Sublist.refl _)
        · refine op_extract ?_
          refine ta_only 9 (by kernel_rfl) rfl (by decide) ?_
          refine op_extract ?_
          refine ta_take 11 rfl (by kernel_rfl) (by kernel_rfl) (by kernel_rfl) hpq rfl rfl (by decide) (by exact y_assign) ?_
          refine ta_take 12 rfl (by kernel_rfl) (by kernel_rfl) (by kernel_rfl) hpq rfl rfl (by decide) (by exact y_assign) ?_
          refine ta_done (by kernel_rfl) ?_
          repeat' first
            | (refine op_iarith ?_; rw [hw])
            | (first | refine tc_seq ?_ | refine tc_region ?_ | refine at_seq_normal ?_ | refine tl_nil ?_ | refine tl_cons ?_ | refine op_move ?_ | refine op_assign ?_ | refine op_fieldAddr ?_ | refine op_load ?_ | refine op_load_agg ?_ | refine op_indexC ?_ | refine op_indexAddr1 ?_ | refine op_indexAddr ?_ | refine op_icmp ?_ | refine op_fcmp ?_ | refine op_iarith ?_ | refine op_bcmp ?_ | refine op_unop_not ?_ | refine op_unop_neg_float ?_ | refine op_unop_neg_int ?_ | refine op_len_slice ?_ | refine op_pick_true ?_ | refine op_pick_false ?_ | refine op_pick_true' ?_ | refine op_pick_false' ?_ | refine op_build ?_ | refine op_extract ?_ | refine op_makeInterface ?_ | refine op_typeAssert ?_ | refine op_ptr_nil ?_ | refine op_nilCheck_ptr ?_ | refine op_nilCheck_meth ?_ | refine op_makeMeth ?_ | refine op_makeFunc ?_ | refine op_itof ?_ | refine op_itoi ?_ | refine op_ftoi ?_ | refine op_iquo ?_ | refine op_irem ?_ | refine op_ibits ?_ | refine op_slice_isnil ?_ | refine op_slice_notnil ?_ | refine op_imax ?_ | refine op_imin ?_ | refine op_shl ?_ | refine op_shr ?_ | (refine op_alloc ?_; intro _) | (refine op_box ?_; intro _) | (refine op_buildSlice ?_; intro _) | (refine op_farith ?_; intro _ _) | refine op_store0 ?_ | refine op_store1 ?_ | refine op_store2 ?_ | refine op_store3 ?_ | refine op_store4 ?_ | refine op_store5 ?_ | refine op_storeK rfl ?_ | refine op_loadK rfl ?_ | refine op_load_aggK rfl ?_ | refine tc_cond_t ?_ | refine tc_cond_f ?_ | refine tc_cond (fun _ => ?_) (fun _ => ?_) | refine tc_block ?_ | refine tc_skip ?_ | refine tc_ret ?_ | refine tc_exit ?_ | refine at_seq_ret ?_ | refine at_seq_exit ?_ | refine at_block_normal ?_ | refine at_block_ret ?_ | refine at_block_exit_self ?_ | refine at_block_exit_ne ?_ | refine at_loop_ret ?_ | refine at_loop_exit ?_ | refine tl_guard_yes ?_ | refine tl_guard_no ?_ | refine tl_guard_yes' ?_ | refine tl_guard_no' ?_ | refine tl_guard_undef ?_ | refine tl_guard_split (fun _ => ?_) (fun _ => ?_) | fail)
            | fail
          exact at_loopK (1, _, _, _, _) (.inr (.inl ⟨hn, rfl⟩)) (by simp only; omega) ⟨rfl, rfl, trivial⟩ (by repeat (first | exact trivial | refine ⟨rfl, ?_⟩)) (List.Sublist.refl _)
      · refine op_makeMeth ?_
        refine ta_two 3 5 (by kernel_rfl) rfl (by decide) rfl (by decide) ?_ ?_
        · (refine op_slice_l (l := 0) ?_ (h1 := by omega); rw [slAt_self])
          refine ta_only 5 (by kernel_rfl) rfl (by decide) ?_
          refine op_nilCheck_methP ?_
          refine ta_take 6 rfl (by kernel_rfl) (by kernel_rfl) (by kernel_rfl) hpq rfl rfl (by decide) (by exact y_move) ?_
          refine ta_only 7 (by kernel_rfl) rfl (by decide) ?_
          (refine op_invokeP (t := 47) (k := kb) (off := 0) (o := 0) ((readSome kb T a c bs 0 kp Tp zs m m R hv hn hm hz hb).mono ?_); rintro _ _ ⟨rfl, rfl⟩)
          refine ta_take 8 rfl (by kernel_rfl) (by kernel_rfl) (by kernel_rfl) hpq rfl rfl (by decide) (by exact y_move) ?_
          refine ta_two 9 10 (by kernel_rfl) rfl (by decide) rfl (by decide) ?_ ?_
          · refine op_extract ?_
            refine ta_take 11 rfl (by kernel_rfl) (by kernel_rfl) (by kernel_rfl) hpq rfl rfl (by decide) (by exact y_assign) ?_
            refine ta_only 10 (by kernel_rfl) rfl (by decide) ?_
            refine op_extract ?_
            refine ta_take 12 rfl (by kernel_rfl) (by kernel_rfl) (by kernel_rfl) hpq rfl rfl (by decide) (by exact y_assign) ?_
            refine ta_done (by kernel_rfl) ?_
            repeat' first
              | (refine op_iarith ?_; rw [hw])
              | (first | refine tc_seq ?_ | refine tc_region ?_ | refine at_seq_normal ?_ | refine tl_nil ?_ | refine tl_cons ?_ | refine op_move ?_ | refine op_assign ?_ | refine op_fieldAddr ?_ | refine op_load ?_ | refine op_load_agg ?_ | refine op_indexC ?_ | refine op_indexAddr1 ?_ | refine op_indexAddr ?_ | refine op_icmp ?_ | refine op_fcmp ?_ | refine op_iarith ?_ | refine op_bcmp ?_ | refine op_unop_not ?_ | refine op_unop_neg_float ?_ | refine op_unop_neg_int ?_ | refine op_len_slice ?_ | refine op_pick_true ?_ | refine op_pick_false ?_ | refine op_pick_true' ?_ | refine op_pick_false' ?_ | refine op_build ?_ | refine op_extract ?_ | refine op_makeInterface ?_ | refine op_typeAssert ?_ | refine op_ptr_nil ?_ | refine op_nilCheck_ptr ?_ | refine op_nilCheck_meth ?_ | refine op_makeMeth ?_ | refine op_makeFunc ?_ | refine op_itof ?_ | refine op_itoi ?_ | refine op_ftoi ?_ | refine op_iquo ?_ | refine op_irem ?_ | refine op_ibits ?_ | refine op_slice_isnil ?_ | refine op_slice_notnil ?_ | refine op_imax ?_ | refine op_imin ?_ | refine op_shl ?_ | refine op_shr ?_ | (refine op_alloc ?_; intro _) | (refine op_box ?_; intro _) | (refine op_buildSlice ?_; intro _) | (refine op_farith ?_; intro _ _) | refine op_store0 ?_ | refine op_store1 ?_ | refine op_store2 ?_ | refine op_store3 ?_ | refine op_store4 ?_ | refine op_store5 ?_ | refine op_storeK rfl ?_ | refine op_loadK rfl ?_ | refine op_load_aggK rfl ?_ | refine tc_cond_t ?_ | refine tc_cond_f ?_ | refine tc_cond (fun _ => ?_) (fun _ => ?_) | refine tc_block ?_ | refine tc_skip ?_ | refine tc_ret ?_ | refine tc_exit ?_ | refine at_seq_ret ?_ | refine at_seq_exit ?_ | refine at_block_normal ?_ | refine at_block_ret ?_ | refine at_block_exit_self ?_ | refine at_block_exit_ne ?_ | refine at_loop_ret ?_ | refine at_loop_exit ?_ | refine tl_guard_yes ?_ | refine tl_guard_no ?_ | refine tl_guard_yes' ?_ | refine tl_guard_no' ?_ | refine tl_guard_undef ?_ | refine tl_guard_split (fun _ => ?_) (fun _ => ?_) | fail)
              | fail
            exact at_loopK (1, _, _, _, _) (.inr (.inl ⟨hn, rfl⟩)) (by simp only; omega) ⟨rfl, rfl, trivial⟩ (by repeat (first | exact trivial | refine ⟨rfl, ?_⟩)) (List.Sublist.refl _)
          · refine op_extract ?_
            refine ta_only 9 (by kernel_rfl) rfl (by decide) ?_
            refine op_extract ?_
            refine ta_take 11 rfl (by kernel_rfl) (by kernel_rfl) (by kernel_rfl) hpq rfl rfl (by decide) (by exact y_assign) ?_
            refine ta_take 12 rfl (by kernel_rfl) (by kernel_rfl) (by kernel_rfl) hpq rfl rfl (by decide) (by exact y_assign) ?_
            refine ta_done (by kernel_rfl) ?_
            repeat' first
              | (refine op_iarith ?_; rw [hw])
              | (first | refine tc_seq ?_ | refine tc_region ?_ | refine at_seq_normal ?_ | refine tl_nil ?_ | refine tl_cons ?_ | refine op_move ?_ | refine op_assign ?_ | refine op_fieldAddr ?_ | refine op_load ?_ | refine op_load_agg ?_ | refine op_indexC ?_ | refine op_indexAddr1 ?_ | refine op_indexAddr ?_ | refine op_icmp ?_ | refine op_fcmp ?_ | refine op_iarith ?_ | refine op_bcmp ?_ | refine op_unop_not ?_ | refine op_unop_neg_float ?_ | refine op_unop_neg_int ?_ | refine op_len_slice ?_ | refine op_pick_true ?_ | refine op_pick_false ?_ | refine op_pick_true' ?_ | refine op_pick_false' ?_ | refine op_build ?_ | refine op_extract ?_ | refine op_makeInterface ?_ | refine op_typeAssert ?_ | refine op_ptr_nil ?_ | refine op_nilCheck_ptr ?_ | refine op_nilCheck_meth ?_ | refine op_makeMeth ?_ | refine op_makeFunc ?_ | refine op_itof ?_ | refine op_itoi ?_ | refine op_ftoi ?_ | refine op_iquo ?_ | refine op_irem ?_ | refine op_ibits ?_ | refine op_slice_isnil ?_ | refine op_slice_notnil ?_ | refine op_imax ?_ | refine op_imin ?_ | refine op_shl ?_ | refine op_shr ?_ | (refine op_alloc ?_; intro _) | (refine op_box ?_; intro _) | (refine op_buildSlice ?_; intro _) | (refine op_farith ?_; intro _ _) | refine op_store0 ?_ | refine op_store1 ?_ | refine op_store2 ?_ | refine op_store3 ?_ | refine op_store4 ?_ | refine op_store5 ?_ | refine op_storeK rfl ?_ | refine op_loadK rfl ?_ | refine op_load_aggK rfl ?_ | refine tc_cond_t ?_ | refine tc_cond_f ?_ | refine tc_cond (fun _ => ?_) (fun _ => ?_) | refine tc_block ?_ | refine tc_skip ?_ | refine tc_ret ?_ | refine tc_exit ?_ | refine at_seq_ret ?_ | refine at_seq_exit ?_ | refine at_block_normal ?_ | refine at_block_ret ?_ | refine at_block_exit_self ?_ | refine at_block_exit_ne ?_ | refine at_loop_ret ?_ | refine at_loop_exit ?_ | refine tl_guard_yes ?_ | refine tl_guard_no ?_ | refine tl_guard_yes' ?_ | refine tl_guard_no' ?_ | refine tl_guard_undef ?_ | refine tl_guard_split (fun _ => ?_) (fun _ => ?_) | fail)
              | fail
            exact at_loopK (1, _, _, _, _) (.inr (.inl ⟨hn, rfl⟩)) (by simp only; omega) ⟨rfl, rfl, trivial⟩ (by repeat (first | exact trivial | refine ⟨rfl, ?_⟩)) (List.Sublist.refl _)
        · refine op_nilCheck_methP ?_
          refine ta_take 6 rfl (by kernel_rfl) (by kernel_rfl) (by kernel_rfl) hpq rfl rfl (by decide) (by exact y_move) ?_
          refine ta_only 3 (by kernel_rfl) rfl (by decide) ?_
          (refine op_slice_l (l := 0) ?_ (h1 := by omega); rw [slAt_self])
          refine ta_only 7 (by kernel_rfl) rfl (by decide) ?_
          (refine op_invokeP (t := 47) (k := kb) (off := 0) (o := 0) ((readSome kb T a c bs 0 kp Tp zs m m R hv hn hm hz hb).mono ?_); rintro _ _ ⟨rfl, rfl⟩)
          refine ta_take 8 rfl (by kernel_rfl) (by kernel_rfl) (by kernel_rfl) hpq rfl rfl (by decide) (by exact y_move) ?_
          refine ta_two 9 10 (by kernel_rfl) rfl (by decide) rfl (by decide) ?_ ?_
          · refine op_extract ?_
            refine ta_take 11 rfl (by kernel_rfl) (by kernel_rfl) (by kernel_rfl) hpq rfl rfl (by decide) (by exact y_assign) ?_
            refine ta_only 10 (by kernel_rfl) rfl (by decide) ?_
            refine op_extract ?_
            refine ta_take 12 rfl (by kernel_rfl) (by kernel_rfl) (by kernel_rfl) hpq rfl rfl (by decide) (by exact y_assign) ?_
            refine ta_done (by kernel_rfl) ?_
            repeat' first
              | (refine op_iarith ?_; rw [hw])
              | (first | refine tc_seq ?_ | refine tc_region ?_ | refine at_seq_normal ?_ | refine tl_nil ?_ | refine tl_cons ?_ | refine op_move ?_ | refine op_assign ?_ | refine op_fieldAddr ?_ | refine op_load ?_ | refine op_load_agg ?_ | refine op_indexC ?_ | refine op_indexAddr1 ?_ | refine op_indexAddr ?_ | refine op_icmp ?_ | refine op_fcmp ?_ | refine op_iarith ?_ | refine op_bcmp ?_ | refine op_unop_not ?_ | refine op_unop_neg_float ?_ | refine op_unop_neg_int ?_ | refine op_len_slice ?_ | refine op_pick_true ?_ | refine op_pick_false ?_ | refine op_pick_true' ?_ | refine op_pick_false' ?_ | refine op_build ?_ | refine op_extract ?_ | refine op_makeInterface ?_ | refine op_typeAssert ?_ | refine op_ptr_nil ?_ | refine op_nilCheck_ptr ?_ | refine op_nilCheck_meth ?_ | refine op_makeMeth ?_ | refine op_makeFunc ?_ | refine op_itof ?_ | refine op_itoi ?_ | refine op_ftoi ?_ | refine op_iquo ?_ | refine op_irem ?_ | refine op_ibits ?_ | refine op_slice_isnil ?_ | refine op_slice_notnil ?_ | refine op_imax ?_ | refine op_imin ?_ | refine op_shl ?_ | refine op_shr ?_ | (refine op_alloc ?_; intro _) | (refine op_box ?_; intro _) | (refine op_buildSlice ?_; intro _) | (refine op_farith ?_; intro _ _) | refine op_store0 ?_ | refine op_store1 ?_ | refine op_store2 ?_ | refine op_store3 ?_ | refine op_store4 ?_ | refine op_store5 ?_ | refine op_storeK rfl ?_ | refine op_loadK rfl ?_ | refine op_load_aggK rfl ?_ | refine tc_cond_t ?_ | refine tc_cond_f ?_ | refine tc_cond (fun _ => ?_) (fun _ => ?_) | refine tc_block ?_ | refine tc_skip ?_ | refine tc_ret ?_ | refine tc_exit ?_ | refine at_seq_ret ?_ | refine at_seq_exit ?_ | refine at_block_normal ?_ | refine at_block_ret ?_ | refine at_block_exit_self ?_ | refine at_block_exit_ne ?_ | refine at_loop_ret ?_ | refine at_loop_exit ?_ | refine tl_guard_yes ?_ | refine tl_guard_no ?_ | refine tl_guard_yes' ?_ | refine tl_guard_no' ?_ | refine tl_guard_undef ?_ | refine tl_guard_split (fun _ => ?_) (fun _ => ?_) | fail)
              | fail
            exact at_loopK (1, _, _, _, _) (.inr (.inl ⟨hn, rfl⟩)) (by simp only; omega) ⟨rfl, rfl, trivial⟩ (by repeat (first | exact trivial | refine ⟨rfl, ?_⟩)) (List.Sublist.refl _)
          · refine op_extract ?_
            refine ta_only 9 (by kernel_rfl) rfl (by decide) ?_
            refine op_extract ?_
            refine ta_take 11 rfl (by kernel_rfl) (by kernel_rfl) (by kernel_rfl) hpq rfl rfl (by decide) (by exact y_assign) ?_
            refine ta_take 12 rfl (by kernel_rfl) (by kernel_rfl) (by kernel_rfl) hpq rfl rfl (by decide) (by exact y_assign) ?_
            refine ta_done (by kernel_rfl) ?_
            repeat' first
              | (refine op_iarith ?_; rw [hw])
              | (first | refine tc_seq ?_ | refine tc_region ?_ | refine at_seq_normal ?_ | refine tl_nil ?_ | refine tl_cons ?_ | refine op_move ?_ | refine op_assign ?_ | refine op_fieldAddr ?_ | refine op_load ?_ | refine op_load_agg ?_ | refine op_indexC ?_ | refine op_indexAddr1 ?_ | refine op_indexAddr ?_ | refine op_icmp ?_ | refine op_fcmp ?_ | refine op_iarith ?_ | refine op_bcmp ?_ | refine op_unop_not ?_ | refine op_unop_neg_float ?_ | refine op_unop_neg_int ?_ | refine op_len_slice ?_ | refine op_pick_true ?_ | refine op_pick_false ?_ | refine op_pick_true' ?_ | refine op_pick_false' ?_ | refine op_build ?_ | refine op_extract ?_ | refine op_makeInterface ?_ | refine op_typeAssert ?_ | refine op_ptr_nil ?_ | refine op_nilCheck_ptr ?_ | refine op_nilCheck_meth ?_ | refine op_makeMeth ?_ | refine op_makeFunc ?_ | refine op_itof ?_ | refine op_itoi ?_ | refine op_ftoi ?_ | refine op_iquo ?_ | refine op_irem ?_ | refine op_ibits ?_ | refine op_slice_isnil ?_ | refine op_slice_notnil ?_ | refine op_imax ?_ | refine op_imin ?_ | refine op_shl ?_ | refine op_shr ?_ | (refine op_alloc ?_; intro _) | (refine op_box ?_; intro _) | (refine op_buildSlice ?_; intro _) | (refine op_farith ?_; intro _ _) | refine op_store0 ?_ | refine op_store1 ?_ | refine op_store2 ?_ | refine op_store3 ?_ | refine op_store4 ?_ | refine op_store5 ?_ | refine op_storeK rfl ?_ | refine op_loadK rfl ?_ | refine op_load_aggK rfl ?_ | refine tc_cond_t ?_ | refine tc_cond_f ?_ | refine tc_cond (fun _ => ?_) (fun _ => ?_) | refine tc_block ?_ | refine tc_skip ?_ | refine tc_ret ?_ | refine tc_exit ?_ | refine at_seq_ret ?_ | refine at_seq_exit ?_ | refine at_block_normal ?_ | refine at_block_ret ?_ | refine at_block_exit_self ?_ | refine at_block_exit_ne ?_ | refine at_loop_ret ?_ | refine at_loop_exit ?_ | refine tl_guard_yes ?_ | refine tl_guard_no ?_ | refine tl_guard_yes' ?_ | refine tl_guard_no' ?_ | refine tl_guard_undef ?_ | refine tl_guard_split (fun _ => ?_) (fun _ => ?_) | fail)
              | fail
            exact at_loopK (1, _, _, _, _) (.inr (.inl ⟨hn, rfl⟩)) (by simp only; omega) ⟨rfl, rfl, trivial⟩ (by repeat (first | exact trivial | refine ⟨rfl, ?_⟩)) (List.Sublist.refl _)
    · have hn0 : bs.length = 0 := by omega
      have hw : IntKind.i64.wrap (iarith .add ((0 : Nat) : Int) 0) = ((bs.length : Nat) : Int) := by rw [wrap_add (by omega) (by omega), hn0]; rfl
      repeat' first
        | refine op_iface_nilq ?_
        | (first | refine tc_seq ?_ | refine tc_region ?_ | refine at_seq_normal ?_ | refine tl_nil ?_ | refine tl_cons ?_ | refine op_move ?_ | refine op_assign ?_ | refine op_fieldAddr ?_ | refine op_load ?_ | refine op_load_agg ?_ | refine op_indexC ?_ | refine op_indexAddr1 ?_ | refine op_indexAddr ?_ | refine op_icmp ?_ | refine op_fcmp ?_ | refine op_iarith ?_ | refine op_bcmp ?_ | refine op_unop_not ?_ | refine op_unop_neg_float ?_ | refine op_unop_neg_int ?_ | refine op_len_slice ?_ | refine op_pick_true ?_ | refine op_pick_false ?_ | refine op_pick_true' ?_ | refine op_pick_false' ?_ | refine op_build ?_ | refine op_extract ?_ | refine op_makeInterface ?_ | refine op_typeAssert ?_ | refine op_ptr_nil ?_ | refine op_nilCheck_ptr ?_ | refine op_nilCheck_meth ?_ | refine op_makeMeth ?_ | refine op_makeFunc ?_ | refine op_itof ?_ | refine op_itoi ?_ | refine op_ftoi ?_ | refine op_iquo ?_ | refine op_irem ?_ | refine op_ibits ?_ | refine op_slice_isnil ?_ | refine op_slice_notnil ?_ | refine op_imax ?_ | refine op_imin ?_ | refine op_shl ?_ | refine op_shr ?_ | (refine op_alloc ?_; intro _) | (refine op_box ?_; intro _) | (refine op_buildSlice ?_; intro _) | (refine op_farith ?_; intro _ _) | refine op_store0 ?_ | refine op_store1 ?_ | refine op_store2 ?_ | refine op_store3 ?_ | refine op_store4 ?_ | refine op_store5 ?_ | refine op_storeK rfl ?_ | refine op_loadK rfl ?_ | refine op_load_aggK rfl ?_ | refine tc_cond_t ?_ | refine tc_cond_f ?_ | refine tc_cond (fun _ => ?_) (fun _ => ?_) | refine tc_block ?_ | refine tc_skip ?_ | refine tc_ret ?_ | refine tc_exit ?_ | refine at_seq_ret ?_ | refine at_seq_exit ?_ | refine at_block_normal ?_ | refine at_block_ret ?_ | refine at_block_exit_self ?_ | refine at_block_exit_ne ?_ | refine at_loop_ret ?_ | refine at_loop_exit ?_ | refine tl_guard_yes ?_ | refine tl_guard_no ?_ | refine tl_guard_yes' ?_ | refine tl_guard_no' ?_ | refine tl_guard_undef ?_ | refine tl_guard_split (fun _ => ?_) (fun _ => ?_) | fail)
        | fail
      refine tc_anyQ mixed (by repeat (first | refine pq_seq ?_ | refine pq_block ?_ | refine pq_loop ?_ | exact pq_body)) fun hpq => ?_
      refine ta_take 0 rfl (by kernel_rfl) (by kernel_rfl) (by kernel_rfl) hpq rfl rfl (by decide) (by exact y_move) ?_
      refine ta_take 1 rfl (by kernel_rfl) (by kernel_rfl) (by kernel_rfl) hpq rfl rfl (by decide) (by exact y_move) ?_
      refine ta_take 2 rfl (by kernel_rfl) (by kernel_rfl) (by kernel_rfl) hpq rfl rfl (by decide) (by exact y_move) ?_
      refine ta_two 3 4 (by kernel_rfl) rfl (by decide) rfl (by decide) ?_ ?_
      · (refine op_slice_l (l := 0) ?_ (h1 := by omega); rw [slAt_self])
        refine ta_only 4 (by kernel_rfl) rfl (by decide) ?_
        refine op_makeMeth ?_
        refine ta_only 5 (by kernel_rfl) rfl (by decide) ?_
        refine op_nilCheck_methP ?_
        refine ta_take 6 rfl (by kernel_rfl) (by kernel_rfl) (by kernel_rfl) hpq rfl rfl (by decide) (by exact y_move) ?_
        refine ta_only 7 (by kernel_rfl) rfl (by decide) ?_
        (refine op_invokeP (t := 47) (k := kb) (off := 0) (o := 0) ((readEnd kb T a bs.length c 0 0 (some ⟨kp, 0, none⟩) m m _ Te fze _ (by omega) hm (List.mem_cons_of_mem _ he)).mono ?_); rintro _ _ ⟨rfl, rfl⟩)
        refine ta_take 8 rfl (by kernel_rfl) (by kernel_rfl) (by kernel_rfl) hpq rfl rfl (by decide) (by exact y_move) ?_
        refine ta_two 9 10 (by kernel_rfl) rfl (by decide) rfl (by decide) ?_ ?_
        · refine op_extract ?_
          refine ta_take 11 rfl (by kernel_rfl) (by kernel_rfl) (by kernel_rfl) hpq rfl rfl (by decide) (by exact y_assign) ?_
          refine ta_only 10 (by kernel_rfl) rfl (by decide) ?_
          refine op_extract ?_
          refine ta_take 12 rfl (by kernel_rfl) (by kernel_rfl) (by kernel_rfl) hpq rfl rfl (by decide) (by exact y_assign) ?_
          refine ta_done (by kernel_rfl) ?_
          repeat' first
            | (refine op_iarith ?_; rw [hw])
            | (first | refine tc_seq ?_ | refine tc_region ?_ | refine at_seq_normal ?_ | refine tl_nil ?_ | refine tl_cons ?_ | refine op_move ?_ | refine op_assign ?_ | refine op_fieldAddr ?_ | refine op_load ?_ | refine op_load_agg ?_ | refine op_indexC ?_ | refine op_indexAddr1 ?_ | refine op_indexAddr ?_ | refine op_icmp ?_ | refine op_fcmp ?_ | refine op_iarith ?_ | refine op_bcmp ?_ | refine op_unop_not ?_ | refine op_unop_neg_float ?_ | refine op_unop_neg_int ?_ | refine op_len_slice ?_ | refine op_pick_true ?_ | refine op_pick_false ?_ | refine op_pick_true' ?_ | refine op_pick_false' ?_ | refine op_build ?_ | refine op_extract ?_ | refine op_makeInterface ?_ | refine op_typeAssert ?_ | refine op_ptr_nil ?_ | refine op_nilCheck_ptr ?_ | refine op_nilCheck_meth ?_ | refine op_makeMeth ?_ | refine op_makeFunc ?_ | refine op_itof ?_ | refine op_itoi ?_ | refine op_ftoi ?_ | refine op_iquo ?_ | refine op_irem ?_ | refine op_ibits ?_ | refine op_slice_isnil ?_ | refine op_slice_notnil ?_ | refine op_imax ?_ | refine op_imin ?_ | refine op_shl ?_ | refine op_shr ?_ | (refine op_alloc ?_; intro _) | (refine op_box ?_; intro _) | (refine op_buildSlice ?_; intro _) | (refine op_farith ?_; intro _ _) | refine op_store0 ?_ | refine op_store1 ?_ | refine op_store2 ?_ | refine op_store3 ?_ | refine op_store4 ?_ | refine op_store5 ?_ | refine op_storeK rfl ?_ | refine op_loadK rfl ?_ | refine op_load_aggK rfl ?_ | refine tc_cond_t ?_ | refine tc_cond_f ?_ | refine tc_cond (fun _ => ?_) (fun _ => ?_) | refine tc_block ?_ | refine tc_skip ?_ | refine tc_ret ?_ | refine tc_exit ?_ | refine at_seq_ret ?_ | refine at_seq_exit ?_ | refine at_block_normal ?_ | refine at_block_ret ?_ | refine at_block_exit_self ?_ | refine at_block_exit_ne ?_ | refine at_loop_ret ?_ | refine at_loop_exit ?_ | refine tl_guard_yes ?_ | refine tl_guard_no ?_ | refine tl_guard_yes' ?_ | refine tl_guard_no' ?_ | refine tl_guard_undef ?_ | refine tl_guard_split (fun _ => ?_) (fun _ => ?_) | fail)
            | fail
          exact at_loopK (2, bs.length, _, _, _) (.inr (.inr ⟨by omega, _, rfl⟩)) (by simp only; omega) ⟨rfl, rfl, trivial⟩ (by repeat (first | exact trivial | refine ⟨rfl, ?_⟩)) (List.Sublist.refl _)
        · refine op_extract ?_
          refine ta_only 9 (by kernel_rfl) rfl (by decide) ?_
          refine op_extract ?_
          refine ta_take 11 rfl (by kernel_rfl) (by kernel_rfl) (by kernel_rfl) hpq rfl rfl (by decide) (by exact y_assign) ?_
          refine ta_take 12 rfl (by kernel_rfl) (by kernel_rfl) (by kernel_rfl) hpq rfl rfl (by decide) (by exact y_assign) ?_
          refine ta_done (by kernel_rfl) ?_
          repeat' first
            | (refine op_iarith ?_; rw [hw])
            | (first | refine tc_seq ?_ | refine tc_region ?_ | refine at_seq_normal ?_ | refine tl_nil ?_ | refine tl_cons ?_ | refine op_move ?_ | refine op_assign ?_ | refine op_fieldAddr ?_ | refine op_load ?_ | refine op_load_agg ?_ | refine op_indexC ?_ | refine op_indexAddr1 ?_ | refine op_indexAddr ?_ | refine op_icmp ?_ | refine op_fcmp ?_ | refine op_iarith ?_ | refine op_bcmp ?_ | refine op_unop_not ?_ | refine op_unop_neg_float ?_ | refine op_unop_neg_int ?_ | refine op_len_slice ?_ | refine op_pick_true ?_ | refine op_pick_false ?_ | refine op_pick_true' ?_ | refine op_pick_false' ?_ | refine op_build ?_ | refine op_extract ?_ | refine op_makeInterface ?_ | refine op_typeAssert ?_ | refine op_ptr_nil ?_ | refine op_nilCheck_ptr ?_ | refine op_nilCheck_meth ?_ | refine op_makeMeth ?_ | refine op_makeFunc ?_ | refine op_itof ?_ | refine op_itoi ?_ | refine op_ftoi ?_ | refine op_iquo ?_ | refine op_irem ?_ | refine op_ibits ?_ | refine op_slice_isnil ?_ | refine op_slice_notnil ?_ | refine op_imax ?_ | refine op_imin ?_ | refine op_shl ?_ | refine op_shr ?_ | (refine op_alloc ?_; intro _) | (refine op_box ?_; intro _) | (refine op_buildSlice ?_; intro _) | (refine op_farith ?_; intro _ _) | refine op_store0 ?_ | refine op_store1 ?_ | refine op_store2 ?_ | refine op_store3 ?_ | refine op_store4 ?_ | refine op_store5 ?_ | refine op_storeK rfl ?_ | refine op_loadK rfl ?_ | refine op_load_aggK rfl ?_ | refine tc_cond_t ?_ | refine tc_cond_f ?_ | refine tc_cond (fun _ => ?_) (fun _ => ?_) | refine tc_block ?_ | refine tc_skip ?_ | refine tc_ret ?_ | refine tc_exit ?_ | refine at_seq_ret ?_ | refine at_seq_exit ?_ | refine at_block_normal ?_ | refine at_block_ret ?_ | refine at_block_exit_self ?_ | refine at_block_exit_ne ?_ | refine at_loop_ret ?_ | refine at_loop_exit ?_ | refine tl_guard_yes ?_ | refine tl_guard_no ?_ | refine tl_guard_yes' ?_ | refine tl_guard_no' ?_ | refine tl_guard_undef ?_ | refine tl_guard_split (fun _ => ?_) (fun _ => ?_) | fail)
            | fail
          exact at_loopK (2, bs.length, _, _, _) (.inr (.inr ⟨by omega, _, rfl⟩)) (by simp only; omega) ⟨rfl, rfl, trivial⟩ (by repeat (first | exact trivial | refine ⟨rfl, ?_⟩)) (List.Sublist.refl _)
      · refine op_makeMeth ?_
        refine ta_two 3 5 (by kernel_rfl) rfl (by decide) rfl (by decide) ?_ ?_
        · (refine op_slice_l (l := 0) ?_ (h1 := by omega); rw [slAt_self])
          refine ta_only 5 (by kernel_rfl) rfl (by decide) ?_
          refine op_nilCheck_methP ?_
          refine ta_take 6 rfl (by kernel_rfl) (by kernel_rfl) (by kernel_rfl) hpq rfl rfl (by decide) (by exact y_move) ?_
          refine ta_only 7 (by kernel_rfl) rfl (by decide) ?_
          (refine op_invokeP (t := 47) (k := kb) (off := 0) (o := 0) ((readEnd kb T a bs.length c 0 0 (some ⟨kp, 0, none⟩) m m _ Te fze _ (by omega) hm (List.mem_cons_of_mem _ he)).mono ?_); rintro _ _ ⟨rfl, rfl⟩)
          refine ta_take 8 rfl (by kernel_rfl) (by kernel_rfl) (by kernel_rfl) hpq rfl rfl (by decide) (by exact y_move) ?_
          refine ta_two 9 10 (by kernel_rfl) rfl (by decide) rfl (by decide) ?_ ?_
          · refine op_extract ?_
            refine ta_take 11 rfl (by kernel_rfl) (by kernel_rfl) (by kernel_rfl) hpq rfl rfl (by decide) (by exact y_assign) ?_
            refine ta_only 10 (by kernel_rfl) rfl (by decide) ?_
            refine op_extract ?_
            refine ta_take 12 rfl (by kernel_rfl) (by kernel_rfl) (by kernel_rfl) hpq rfl rfl (by decide) (by exact y_assign) ?_
            refine ta_done (by kernel_rfl) ?_
            repeat' first
              | (refine op_iarith ?_; rw [hw])
              | (first | refine tc_seq ?_ | refine tc_region ?_ | refine at_seq_normal ?_ | refine tl_nil ?_ | refine tl_cons ?_ | refine op_move ?_ | refine op_assign ?_ | refine op_fieldAddr ?_ | refine op_load ?_ | refine op_load_agg ?_ | refine op_indexC ?_ | refine op_indexAddr1 ?_ | refine op_indexAddr ?_ | refine op_icmp ?_ | refine op_fcmp ?_ | refine op_iarith ?_ | refine op_bcmp ?_ | refine op_unop_not ?_ | refine op_unop_neg_float ?_ | refine op_unop_neg_int ?_ | refine op_len_slice ?_ | refine op_pick_true ?_ | refine op_pick_false ?_ | refine op_pick_true' ?_ | refine op_pick_false' ?_ | refine op_build ?_ | refine op_extract ?_ | refine op_makeInterface ?_ | refine op_typeAssert ?_ | refine op_ptr_nil ?_ | refine op_nilCheck_ptr ?_ | refine op_nilCheck_meth ?_ | refine op_makeMeth ?_ | refine op_makeFunc ?_ | refine op_itof ?_ | refine op_itoi ?_ | refine op_ftoi ?_ | refine op_iquo ?_ | refine op_irem ?_ | refine op_ibits ?_ | refine op_slice_isnil ?_ | refine op_slice_notnil ?_ | refine op_imax ?_ | refine op_imin ?_ | refine op_shl ?_ | refine op_shr ?_ | (refine op_alloc ?_; intro _) | (refine op_box ?_; intro _) | (refine op_buildSlice ?_; intro _) | (refine op_farith ?_; intro _ _) | refine op_store0 ?_ | refine op_store1 ?_ | refine op_store2 ?_ | refine op_store3 ?_ | refine op_store4 ?_ | refine op_store5 ?_ | refine op_storeK rfl ?_ | refine op_loadK rfl ?_ | refine op_load_aggK rfl ?_ | refine tc_cond_t ?_ | refine tc_cond_f ?_ | refine tc_cond (fun _ => ?_) (fun _ => ?_) | refine tc_block ?_ | refine tc_skip ?_ | refine tc_ret ?_ | refine tc_exit ?_ | refine at_seq_ret ?_ | refine at_seq_exit ?_ | refine at_block_normal ?_ | refine at_block_ret ?_ | refine at_block_exit_self ?_ | refine at_block_exit_ne ?_ | refine at_loop_ret ?_ | refine at_loop_exit ?_ | refine tl_guard_yes ?_ | refine tl_guard_no ?_ | refine tl_guard_yes' ?_ | refine tl_guard_no' ?_ | refine tl_guard_undef ?_ | refine tl_guard_split (fun _ => ?_) (fun _ => ?_) | fail)
              | fail
            exact at_loopK (2, bs.length, _, _, _) (.inr (.inr ⟨by omega, _, rfl⟩)) (by simp only; omega) ⟨rfl, rfl, trivial⟩ (by repeat (first | exact trivial | refine ⟨rfl, ?_⟩)) (List.Sublist.refl _)
          · refine op_extract ?_
            refine ta_only 9 (by kernel_rfl) rfl (by decide) ?_
            refine op_extract ?_
            refine ta_take 11 rfl (by kernel_rfl) (by kernel_rfl) (by kernel_rfl) hpq rfl rfl (by decide) (by exact y_assign) ?_
            refine ta_take 12 rfl (by kernel_rfl) (by kernel_rfl) (by kernel_rfl) hpq rfl rfl (by decide) (by exact y_assign) ?_
            refine ta_done (by kernel_rfl) ?_
            repeat' first
              | (refine op_iarith ?_; rw [hw])
              | (first | refine tc_seq ?_ | refine tc_region ?_ | refine at_seq_normal ?_ | refine tl_nil ?_ | refine tl_cons ?_ | refine op_move ?_ | refine op_assign ?_ | refine op_fieldAddr ?_ | refine op_load ?_ | refine op_load_agg ?_ | refine op_indexC ?_ | refine op_indexAddr1 ?_ | refine op_indexAddr ?_ | refine op_icmp ?_ | refine op_fcmp ?_ | refine op_iarith ?_ | refine op_bcmp ?_ | refine op_unop_not ?_ | refine op_unop_neg_float ?_ | refine op_unop_neg_int ?_ | refine op_len_slice ?_ | refine op_pick_true ?_ | refine op_pick_false ?_ | refine op_pick_true' ?_ | refine op_pick_false' ?_ | refine op_build ?_ | refine op_extract ?_ | refine op_makeInterface ?_ | refine op_typeAssert ?_ | refine op_ptr_nil ?_ | refine op_nilCheck_ptr ?_ | refine op_nilCheck_meth ?_ | refine op_makeMeth ?_ | refine op_makeFunc ?_ | refine op_itof ?_ | refine op_itoi ?_ | refine op_ftoi ?_ | refine op_iquo ?_ | refine op_irem ?_ | refine op_ibits ?_ | refine op_slice_isnil ?_ | refine op_slice_notnil ?_ | refine op_imax ?_ | refine op_imin ?_ | refine op_shl ?_ | refine op_shr ?_ | (refine op_alloc ?_; intro _) | (refine op_box ?_; intro _) | (refine op_buildSlice ?_; intro _) | (refine op_farith ?_; intro _ _) | refine op_store0 ?_ | refine op_store1 ?_ | refine op_store2 ?_ | refine op_store3 ?_ | refine op_store4 ?_ | refine op_store5 ?_ | refine op_storeK rfl ?_ | refine op_loadK rfl ?_ | refine op_load_aggK rfl ?_ | refine tc_cond_t ?_ | refine tc_cond_f ?_ | refine tc_cond (fun _ => ?_) (fun _ => ?_) | refine tc_block ?_ | refine tc_skip ?_ | refine tc_ret ?_ | refine tc_exit ?_ | refine at_seq_ret ?_ | refine at_seq_exit ?_ | refine at_block_normal ?_ | refine at_block_ret ?_ | refine at_block_exit_self ?_ | refine at_block_exit_ne ?_ | refine at_loop_ret ?_ | refine at_loop_exit ?_ | refine tl_guard_yes ?_ | refine tl_guard_no ?_ | refine tl_guard_yes' ?_ | refine tl_guard_no' ?_ | refine tl_guard_undef ?_ | refine tl_guard_split (fun _ => ?_) (fun _ => ?_) | fail)
              | fail
            exact at_loopK (2, bs.length, _, _, _) (.inr (.inr ⟨by omega, _, rfl⟩)) (by simp only; omega) ⟨rfl, rfl, trivial⟩ (by repeat (first | exact trivial | refine ⟨rfl, ?_⟩)) (List.Sublist.refl _)
        · refine op_nilCheck_methP ?_
          refine ta_take 6 rfl (by kernel_rfl) (by kernel_rfl) (by kernel_rfl) hpq rfl rfl (by decide) (by exact y_move) ?_
          refine ta_only 3 (by kernel_rfl) rfl (by decide) ?_
          (refine op_slice_l (l := 0) ?_ (h1 := by omega); rw [slAt_self])
          refine ta_only 7 (by kernel_rfl) rfl (by decide) ?_
          (refine op_invokeP (t := 47) (k := kb) (off := 0) (o := 0) ((readEnd kb T a bs.length c 0 0 (some ⟨kp, 0, none⟩) m m _ Te fze _ (by omega) hm (List.mem_cons_of_mem _ he)).mono ?_); rintro _ _ ⟨rfl, rfl⟩)
          refine ta_take 8 rfl (by kernel_rfl) (by kernel_rfl) (by kernel_rfl) hpq rfl rfl (by decide) (by exact y_move) ?_
          refine ta_two 9 10 (by kernel_rfl) rfl (by decide) rfl (by decide) ?_ ?_
          · refine op_extract ?_
            refine ta_take 11 rfl (by kernel_rfl) (by kernel_rfl) (by kernel_rfl) hpq rfl rfl (by decide) (by exact y_assign) ?_
            refine ta_only 10 (by kernel_rfl) rfl (by decide) ?_
            refine op_extract ?_
            refine ta_take 12 rfl (by kernel_rfl) (by kernel_rfl) (by kernel_rfl) hpq rfl rfl (by decide) (by exact y_assign) ?_
            refine ta_done (by kernel_rfl) ?_
            repeat' first
              | (refine op_iarith ?_; rw [hw])
              | (first | refine tc_seq ?_ | refine tc_region ?_ | refine at_seq_normal ?_ | refine tl_nil ?_ | refine tl_cons ?_ | refine op_move ?_ | refine op_assign ?_ | refine op_fieldAddr ?_ | refine op_load ?_ | refine op_load_agg ?_ | refine op_indexC ?_ | refine op_indexAddr1 ?_ | refine op_indexAddr ?_ | refine op_icmp ?_ | refine op_fcmp ?_ | refine op_iarith ?_ | refine op_bcmp ?_ | refine op_unop_not ?_ | refine op_unop_neg_float ?_ | refine op_unop_neg_int ?_ | refine op_len_slice ?_ | refine op_pick_true ?_ | refine op_pick_false ?_ | refine op_pick_true' ?_ | refine op_pick_false' ?_ | refine op_build ?_ | refine op_extract ?_ | refine op_makeInterface ?_ | refine op_typeAssert ?_ | refine op_ptr_nil ?_ | refine op_nilCheck_ptr ?_ | refine op_nilCheck_meth ?_ | refine op_makeMeth ?_ | refine op_makeFunc ?_ | refine op_itof ?_ | refine op_itoi ?_ | refine op_ftoi ?_ | refine op_iquo ?_ | refine op_irem ?_ | refine op_ibits ?_ | refine op_slice_isnil ?_ | refine op_slice_notnil ?_ | refine op_imax ?_ | refine op_imin ?_ | refine op_shl ?_ | refine op_shr ?_ | (refine op_alloc ?_; intro _) | (refine op_box ?_; intro _) | (refine op_buildSlice ?_; intro _) | (refine op_farith ?_; intro _ _) | refine op_store0 ?_ | refine op_store1 ?_ | refine op_store2 ?_ | refine op_store3 ?_ | refine op_store4 ?_ | refine op_store5 ?_ | refine op_storeK rfl ?_ | refine op_loadK rfl ?_ | refine op_load_aggK rfl ?_ | refine tc_cond_t ?_ | refine tc_cond_f ?_ | refine tc_cond (fun _ => ?_) (fun _ => ?_) | refine tc_block ?_ | refine tc_skip ?_ | refine tc_ret ?_ | refine tc_exit ?_ | refine at_seq_ret ?_ | refine at_seq_exit ?_ | refine at_block_normal ?_ | refine at_block_ret ?_ | refine at_block_exit_self ?_ | refine at_block_exit_ne ?_ | refine at_loop_ret ?_ | refine at_loop_exit ?_ | refine tl_guard_yes ?_ | refine tl_guard_no ?_ | refine tl_guard_yes' ?_ | refine tl_guard_no' ?_ | refine tl_guard_undef ?_ | refine tl_guard_split (fun _ => ?_) (fun _ => ?_) | fail)
              | fail
            exact at_loopK (2, bs.length, _, _, _) (.inr (.inr ⟨by omega, _, rfl⟩)) (by simp only; omega) ⟨rfl, rfl, trivial⟩ (by repeat (first | exact trivial | refine ⟨rfl, ?_⟩)) (List.Sublist.refl _)
          · refine op_extract ?_
            refine ta_only 9 (by kernel_rfl) rfl (by decide) ?_
            refine op_extract ?_
            refine ta_take 11 rfl (by kernel_rfl) (by kernel_rfl) (by kernel_rfl) hpq rfl rfl (by decide) (by exact y_assign) ?_
            refine ta_take 12 rfl (by kernel_rfl) (by kernel_rfl) (by kernel_rfl) hpq rfl rfl (by decide) (by exact y_assign) ?_
            refine ta_done (by kernel_rfl) ?_
            repeat' first
              | (refine op_iarith ?_; rw [hw])
              | (first | refine tc_seq ?_ | refine tc_region ?_ | refine at_seq_normal ?_ | refine tl_nil ?_ | refine tl_cons ?_ | refine op_move ?_ | refine op_assign ?_ | refine op_fieldAddr ?_ | refine op_load ?_ | refine op_load_agg ?_ | refine op_indexC ?_ | refine op_indexAddr1 ?_ | refine op_indexAddr ?_ | refine op_icmp ?_ | refine op_fcmp ?_ | refine op_iarith ?_ | refine op_bcmp ?_ | refine op_unop_not ?_ | refine op_unop_neg_float ?_ | refine op_unop_neg_int ?_ | refine op_len_slice ?_ | refine op_pick_true ?_ | refine op_pick_false ?_ | refine op_pick_true' ?_ | refine op_pick_false' ?_ | refine op_build ?_ | refine op_extract ?_ | refine op_makeInterface ?_ | refine op_typeAssert ?_ | refine op_ptr_nil ?_ | refine op_nilCheck_ptr ?_ | refine op_nilCheck_meth ?_ | refine op_makeMeth ?_ | refine op_makeFunc ?_ | refine op_itof ?_ | refine op_itoi ?_ | refine op_ftoi ?_ | refine op_iquo ?_ | refine op_irem ?_ | refine op_ibits ?_ | refine op_slice_isnil ?_ | refine op_slice_notnil ?_ | refine op_imax ?_ | refine op_imin ?_ | refine op_shl ?_ | refine op_shr ?_ | (refine op_alloc ?_; intro _) | (refine op_box ?_; intro _) | (refine op_buildSlice ?_; intro _) | (refine op_farith ?_; intro _ _) | refine op_store0 ?_ | refine op_store1 ?_ | refine op_store2 ?_ | refine op_store3 ?_ | refine op_store4 ?_ | refine op_store5 ?_ | refine op_storeK rfl ?_ | refine op_loadK rfl ?_ | refine op_load_aggK rfl ?_ | refine tc_cond_t ?_ | refine tc_cond_f ?_ | refine tc_cond (fun _ => ?_) (fun _ => ?_) | refine tc_block ?_ | refine tc_skip ?_ | refine tc_ret ?_ | refine tc_exit ?_ | refine at_seq_ret ?_ | refine at_seq_exit ?_ | refine at_block_normal ?_ | refine at_block_ret ?_ | refine at_block_exit_self ?_ | refine at_block_exit_ne ?_ | refine at_loop_ret ?_ | refine at_loop_exit ?_ | refine tl_guard_yes ?_ | refine tl_guard_no ?_ | refine tl_guard_yes' ?_ | refine tl_guard_no' ?_ | refine tl_guard_undef ?_ | refine tl_guard_split (fun _ => ?_) (fun _ => ?_) | fail)
              | fail
            exact at_loopK (2, bs.length, _, _, _) (.inr (.inr ⟨by omega, _, rfl⟩)) (by simp only; omega) ⟨rfl, rfl, trivial⟩ (by repeat (first | exact trivial | refine ⟨rfl, ?_⟩)) (List.Sublist.refl _)
  · simp only
    by_cases hge : m ≤ bs.length
    · rw [Nat.min_eq_right hge]
      have hg : icmp .geq (m : Int) (m : Int) = true := by simp only [icmp]; exact decide_eq_true (by omega)
      repeat' first
        | refine op_iface_nilq ?_
        | (first | refine tc_seq ?_ | refine tc_region ?_ | refine at_seq_normal ?_ | refine tl_nil ?_ | refine tl_cons ?_ | refine op_move ?_ | refine op_assign ?_ | refine op_fieldAddr ?_ | refine op_load ?_ | refine op_load_agg ?_ | refine op_indexC ?_ | refine op_indexAddr1 ?_ | refine op_indexAddr ?_ | refine op_icmp ?_ | refine op_fcmp ?_ | refine op_iarith ?_ | refine op_bcmp ?_ | refine op_unop_not ?_ | refine op_unop_neg_float ?_ | refine op_unop_neg_int ?_ | refine op_len_slice ?_ | refine op_pick_true ?_ | refine op_pick_false ?_ | refine op_pick_true' ?_ | refine op_pick_false' ?_ | refine op_build ?_ | refine op_extract ?_ | refine op_makeInterface ?_ | refine op_typeAssert ?_ | refine op_ptr_nil ?_ | refine op_nilCheck_ptr ?_ | refine op_nilCheck_meth ?_ | refine op_makeMeth ?_ | refine op_makeFunc ?_ | refine op_itof ?_ | refine op_itoi ?_ | refine op_ftoi ?_ | refine op_iquo ?_ | refine op_irem ?_ | refine op_ibits ?_ | refine op_slice_isnil ?_ | refine op_slice_notnil ?_ | refine op_imax ?_ | refine op_imin ?_ | refine op_shl ?_ | refine op_shr ?_ | (refine op_alloc ?_; intro _) | (refine op_box ?_; intro _) | (refine op_buildSlice ?_; intro _) | (refine op_farith ?_; intro _ _) | refine op_store0 ?_ | refine op_store1 ?_ | refine op_store2 ?_ | refine op_store3 ?_ | refine op_store4 ?_ | refine op_store5 ?_ | refine op_storeK rfl ?_ | refine op_loadK rfl ?_ | refine op_load_aggK rfl ?_ | refine tc_cond_t ?_ | refine tc_cond_f ?_ | refine tc_cond (fun _ => ?_) (fun _ => ?_) | refine tc_block ?_ | refine tc_skip ?_ | refine tc_ret ?_ | refine tc_exit ?_ | refine at_seq_ret ?_ | refine at_seq_exit ?_ | refine at_block_normal ?_ | refine at_block_ret ?_ | refine at_block_exit_self ?_ | refine at_block_exit_ne ?_ | refine at_loop_ret ?_ | refine at_loop_exit ?_ | refine tl_guard_yes ?_ | refine tl_guard_no ?_ | refine tl_guard_yes' ?_ | refine tl_guard_no' ?_ | refine tl_guard_undef ?_ | refine tl_guard_split (fun _ => ?_) (fun _ => ?_) | fail)
        | fail
      exact ret_list rfl (.cons (.tmp rfl) (.cons (.tmp rfl) .nil)) rfl (List.Sublist.refl _) (.inl ⟨hge, rfl, rfl⟩) (.inl rfl)
    · rw [Nat.min_eq_left (by omega)]
      have hc : icmp .lss (bs.length : Int) (m : Int) = true := by simp only [icmp]; exact decide_eq_true (by omega)
      have hw : IntKind.i64.wrap (iarith .add ((bs.length : Nat) : Int) 0) = ((bs.length : Nat) : Int) := by rw [wrap_add (by omega) (by omega)]; omega
      obtain ⟨ps, hps⟩ := slAt_form (some ⟨kp, 0, none⟩) bs.length m m
      repeat' first
        | refine op_iface_nilq ?_
        | (first | refine tc_seq ?_ | refine tc_region ?_ | refine at_seq_normal ?_ | refine tl_nil ?_ | refine tl_cons ?_ | refine op_move ?_ | refine op_assign ?_ | refine op_fieldAddr ?_ | refine op_load ?_ | refine op_load_agg ?_ | refine op_indexC ?_ | refine op_indexAddr1 ?_ | refine op_indexAddr ?_ | refine op_icmp ?_ | refine op_fcmp ?_ | refine op_iarith ?_ | refine op_bcmp ?_ | refine op_unop_not ?_ | refine op_unop_neg_float ?_ | refine op_unop_neg_int ?_ | refine op_len_slice ?_ | refine op_pick_true ?_ | refine op_pick_false ?_ | refine op_pick_true' ?_ | refine op_pick_false' ?_ | refine op_build ?_ | refine op_extract ?_ | refine op_makeInterface ?_ | refine op_typeAssert ?_ | refine op_ptr_nil ?_ | refine op_nilCheck_ptr ?_ | refine op_nilCheck_meth ?_ | refine op_makeMeth ?_ | refine op_makeFunc ?_ | refine op_itof ?_ | refine op_itoi ?_ | refine op_ftoi ?_ | refine op_iquo ?_ | refine op_irem ?_ | refine op_ibits ?_ | refine op_slice_isnil ?_ | refine op_slice_notnil ?_ | refine op_imax ?_ | refine op_imin ?_ | refine op_shl ?_ | refine op_shr ?_ | (refine op_alloc ?_; intro _) | (refine op_box ?_; intro _) | (refine op_buildSlice ?_; intro _) | (refine op_farith ?_; intro _ _) | refine op_store0 ?_ | refine op_store1 ?_ | refine op_store2 ?_ | refine op_store3 ?_ | refine op_store4 ?_ | refine op_store5 ?_ | refine op_storeK rfl ?_ | refine op_loadK rfl ?_ | refine op_load_aggK rfl ?_ | refine tc_cond_t ?_ | refine tc_cond_f ?_ | refine tc_cond (fun _ => ?_) (fun _ => ?_) | refine tc_block ?_ | refine tc_skip ?_ | refine tc_ret ?_ | refine tc_exit ?_ | refine at_seq_ret ?_ | refine at_seq_exit ?_ | refine at_block_normal ?_ | refine at_block_ret ?_ | refine at_block_exit_self ?_ | refine at_block_exit_ne ?_ | refine at_loop_ret ?_ | refine at_loop_exit ?_ | refine tl_guard_yes ?_ | refine tl_guard_no ?_ | refine tl_guard_yes' ?_ | refine tl_guard_no' ?_ | refine tl_guard_undef ?_ | refine tl_guard_split (fun _ => ?_) (fun _ => ?_) | fail)
        | fail
      refine tc_anyQ mixed (by repeat (first | refine pq_seq ?_ | refine pq_block ?_ | refine pq_loop ?_ | exact pq_body)) fun hpq => ?_
      refine ta_take 0 rfl (by kernel_rfl) (by kernel_rfl) (by kernel_rfl) hpq rfl rfl (by decide) (by exact y_move) ?_
      refine ta_take 1 rfl (by kernel_rfl) (by kernel_rfl) (by kernel_rfl) hpq rfl rfl (by decide) (by exact y_move) ?_
      refine ta_take 2 rfl (by kernel_rfl) (by kernel_rfl) (by kernel_rfl) hpq rfl rfl (by decide) (by exact y_move) ?_
      refine ta_two 3 4 (by kernel_rfl) rfl (by decide) rfl (by decide) ?_ ?_
      · (refine op_slice_l (l := bs.length) ?_ (h1 := by omega); rw [hps])
        refine ta_only 4 (by kernel_rfl) rfl (by decide) ?_
        refine op_makeMeth ?_
        refine ta_only 5 (by kernel_rfl) rfl (by decide) ?_
        refine op_nilCheck_methP ?_
        refine ta_take 6 rfl (by kernel_rfl) (by kernel_rfl) (by kernel_rfl) hpq rfl rfl (by decide) (by exact y_move) ?_
        refine ta_only 7 (by kernel_rfl) rfl (by decide) ?_
        (refine op_invokeP (t := 47) (k := kb) (off := 0) (o := 0) ((readEnd kb T a bs.length c ((bs.length : Nat) : Int) (-1) ps (m - bs.length) (m - bs.length) _ Te fze _ (Int.le_refl _) (by omega) (List.mem_cons_of_mem _ he)).mono ?_); rintro _ _ ⟨rfl, rfl⟩)
        refine ta_take 8 rfl (by kernel_rfl) (by kernel_rfl) (by kernel_rfl) hpq rfl rfl (by decide) (by exact y_move) ?_
        refine ta_two 9 10 (by kernel_rfl) rfl (by decide) rfl (by decide) ?_ ?_
        · refine op_extract ?_
          refine ta_take 11 rfl (by kernel_rfl) (by kernel_rfl) (by kernel_rfl) hpq rfl rfl (by decide) (by exact y_assign) ?_
          refine ta_only 10 (by kernel_rfl) rfl (by decide) ?_
          refine op_extract ?_
          refine ta_take 12 rfl (by kernel_rfl) (by kernel_rfl) (by kernel_rfl) hpq rfl rfl (by decide) (by exact y_assign) ?_
          refine ta_done (by kernel_rfl) ?_
          repeat' first
            | (refine op_iarith ?_; rw [hw])
            | (first | refine tc_seq ?_ | refine tc_region ?_ | refine at_seq_normal ?_ | refine tl_nil ?_ | refine tl_cons ?_ | refine op_move ?_ | refine op_assign ?_ | refine op_fieldAddr ?_ | refine op_load ?_ | refine op_load_agg ?_ | refine op_indexC ?_ | refine op_indexAddr1 ?_ | refine op_indexAddr ?_ | refine op_icmp ?_ | refine op_fcmp ?_ | refine op_iarith ?_ | refine op_bcmp ?_ | refine op_unop_not ?_ | refine op_unop_neg_float ?_ | refine op_unop_neg_int ?_ | refine op_len_slice ?_ | refine op_pick_true ?_ | refine op_pick_false ?_ | refine op_pick_true' ?_ | refine op_pick_false' ?_ | refine op_build ?_ | refine op_extract ?_ | refine op_makeInterface ?_ | refine op_typeAssert ?_ | refine op_ptr_nil ?_ | refine op_nilCheck_ptr ?_ | refine op_nilCheck_meth ?_ | refine op_makeMeth ?_ | refine op_makeFunc ?_ | refine op_itof ?_ | refine op_itoi ?_ | refine op_ftoi ?_ | refine op_iquo ?_ | refine op_irem ?_ | refine op_ibits ?_ | refine op_slice_isnil ?_ | refine op_slice_notnil ?_ | refine op_imax ?_ | refine op_imin ?_ | refine op_shl ?_ | refine op_shr ?_ | (refine op_alloc ?_; intro _) | (refine op_box ?_; intro _) | (refine op_buildSlice ?_; intro _) | (refine op_farith ?_; intro _ _) | refine op_store0 ?_ | refine op_store1 ?_ | refine op_store2 ?_ | refine op_store3 ?_ | refine op_store4 ?_ | refine op_store5 ?_ | refine op_storeK rfl ?_ | refine op_loadK rfl ?_ | refine op_load_aggK rfl ?_ | refine tc_cond_t ?_ | refine tc_cond_f ?_ | refine tc_cond (fun _ => ?_) (fun _ => ?_) | refine tc_block ?_ | refine tc_skip ?_ | refine tc_ret ?_ | refine tc_exit ?_ | refine at_seq_ret ?_ | refine at_seq_exit ?_ | refine at_block_normal ?_ | refine at_block_ret ?_ | refine at_block_exit_self ?_ | refine at_block_exit_ne ?_ | refine at_loop_ret ?_ | refine at_loop_exit ?_ | refine tl_guard_yes ?_ | refine tl_guard_no ?_ | refine tl_guard_yes' ?_ | refine tl_guard_no' ?_ | refine tl_guard_undef ?_ | refine tl_guard_split (fun _ => ?_) (fun _ => ?_) | fail)
            | fail
          exact at_loopK (2, bs.length, _, _, _) (.inr (.inr ⟨by omega, _, rfl⟩)) (by simp only; omega) ⟨rfl, rfl, trivial⟩ (by repeat (first | exact trivial | refine ⟨rfl, ?_⟩)) (List.Sublist.refl _)
        · refine op_extract ?_
          refine ta_only 9 (by kernel_rfl) rfl (by decide) ?_
          refine op_extract ?_
          refine ta_take 11 rfl (by kernel_rfl) (by kernel_rfl) (by kernel_rfl) hpq rfl rfl (by decide) (by exact y_assign) ?_
          refine ta_take 12 rfl (by kernel_rfl) (by kernel_rfl) (by kernel_rfl) hpq rfl rfl (by decide) (by exact y_assign) ?_
          refine ta_done (by kernel_rfl) ?_
          repeat' first
            | (refine op_iarith ?_; rw [hw])
            | (first | refine tc_seq ?_ | refine tc_region ?_ | refine at_seq_normal ?_ | refine tl_nil ?_ | refine tl_cons ?_ | refine op_move ?_ | refine op_assign ?_ | refine op_fieldAddr ?_ | refine op_load ?_ | refine op_load_agg ?_ | refine op_indexC ?_ | refine op_indexAddr1 ?_ | refine op_indexAddr ?_ | refine op_icmp ?_ | refine op_fcmp ?_ | refine op_iarith ?_ | refine op_bcmp ?_ | refine op_unop_not ?_ | refine op_unop_neg_float ?_ | refine op_unop_neg_int ?_ | refine op_len_slice ?_ | refine op_pick_true ?_ | refine op_pick_false ?_ | refine op_pick_true' ?_ | refine op_pick_false' ?_ | refine op_build ?_ | refine op_extract ?_ | refine op_makeInterface ?_ | refine op_typeAssert ?_ | refine op_ptr_nil ?_ | refine op_nilCheck_ptr ?_ | refine op_nilCheck_meth ?_ | refine op_makeMeth ?_ | refine op_makeFunc ?_ | refine op_itof ?_ | refine op_itoi ?_ | refine op_ftoi ?_ | refine op_iquo ?_ | refine op_irem ?_ | refine op_ibits ?_ | refine op_slice_isnil ?_ | refine op_slice_notnil ?_ | refine op_imax ?_ | refine op_imin ?_ | refine op_shl ?_ | refine op_shr ?_ | (refine op_alloc ?_; intro _) | (refine op_box ?_; intro _) | (refine op_buildSlice ?_; intro _) | (refine op_farith ?_; intro _ _) | refine op_store0 ?_ | refine op_store1 ?_ | refine op_store2 ?_ | refine op_store3 ?_ | refine op_store4 ?_ | refine op_store5 ?_ | refine op_storeK rfl ?_ | refine op_loadK rfl ?_ | refine op_load_aggK rfl ?_ | refine tc_cond_t ?_ | refine tc_cond_f ?_ | refine tc_cond (fun _ => ?_) (fun _ => ?_) | refine tc_block ?_ | refine tc_skip ?_ | refine tc_ret ?_ | refine tc_exit ?_ | refine at_seq_ret ?_ | refine at_seq_exit ?_ | refine at_block_normal ?_ | refine at_block_ret ?_ | refine at_block_exit_self ?_ | refine at_block_exit_ne ?_ | refine at_loop_ret ?_ | refine at_loop_exit ?_ | refine tl_guard_yes ?_ | refine tl_guard_no ?_ | refine tl_guard_yes' ?_ | refine tl_guard_no' ?_ | refine tl_guard_undef ?_ | refine tl_guard_split (fun _ => ?_) (fun _ => ?_) | fail)
            | fail
          exact at_loopK (2, bs.length, _, _, _) (.inr (.inr ⟨by omega, _, rfl⟩)) (by simp only; omega) ⟨rfl, rfl, trivial⟩ (by repeat (first | exact trivial | refine ⟨rfl, ?_⟩)) (List.Sublist.refl _)
      · refine op_makeMeth ?_
        refine ta_two 3 5 (by kernel_rfl) rfl (by decide) rfl (by decide) ?_ ?_
        · (refine op_slice_l (l := bs.length) ?_ (h1 := by omega); rw [hps])
          refine ta_only 5 (by kernel_rfl) rfl (by decide) ?_
          refine op_nilCheck_methP ?_
          refine ta_take 6 rfl (by kernel_rfl) (by kernel_rfl) (by kernel_rfl) hpq rfl rfl (by decide) (by exact y_move) ?_
          refine ta_only 7 (by kernel_rfl) rfl (by decide) ?_
          (refine op_invokeP (t := 47) (k := kb) (off := 0) (o := 0) ((readEnd kb T a bs.length c ((bs.length : Nat) : Int) (-1) ps (m - bs.length) (m - bs.length) _ Te fze _ (Int.le_refl _) (by omega) (List.mem_cons_of_mem _ he)).mono ?_); rintro _ _ ⟨rfl, rfl⟩)
          refine ta_take 8 rfl (by kernel_rfl) (by kernel_rfl) (by kernel_rfl) hpq rfl rfl (by decide) (by exact y_move) ?_
          refine ta_two 9 10 (by kernel_rfl) rfl (by decide) rfl (by decide) ?_ ?_
          · refine op_extract ?_
            refine ta_take 11 rfl (by kernel_rfl) (by kernel_rfl) (by kernel_rfl) hpq rfl rfl (by decide) (by exact y_assign) ?_
            refine ta_only 10 (by kernel_rfl) rfl (by decide) ?_
            refine op_extract ?_
            refine ta_take 12 rfl (by kernel_rfl) (by kernel_rfl) (by kernel_rfl) hpq rfl rfl (by decide) (by exact y_assign) ?_
            refine ta_done (by kernel_rfl) ?_
            repeat' first
              | (refine op_iarith ?_; rw [hw])
              | (first | refine tc_seq ?_ | refine tc_region ?_ | refine at_seq_normal ?_ | refine tl_nil ?_ | refine tl_cons ?_ | refine op_move ?_ | refine op_assign ?_ | refine op_fieldAddr ?_ | refine op_load ?_ | refine op_load_agg ?_ | refine op_indexC ?_ | refine op_indexAddr1 ?_ | refine op_indexAddr ?_ | refine op_icmp ?_ | refine op_fcmp ?_ | refine op_iarith ?_ | refine op_bcmp ?_ | refine op_unop_not ?_ | refine op_unop_neg_float ?_ | refine op_unop_neg_int ?_ | refine op_len_slice ?_ | refine op_pick_true ?_ | refine op_pick_false ?_ | refine op_pick_true' ?_ | refine op_pick_false' ?_ | refine op_build ?_ | refine op_extract ?_ | refine op_makeInterface ?_ | refine op_typeAssert ?_ | refine op_ptr_nil ?_ | refine op_nilCheck_ptr ?_ | refine op_nilCheck_meth ?_ | refine op_makeMeth ?_ | refine op_makeFunc ?_ | refine op_itof ?_ | refine op_itoi ?_ | refine op_ftoi ?_ | refine op_iquo ?_ | refine op_irem ?_ | refine op_ibits ?_ | refine op_slice_isnil ?_ | refine op_slice_notnil ?_ | refine op_imax ?_ | refine op_imin ?_ | refine op_shl ?_ | refine op_shr ?_ | (refine op_alloc ?_; intro _) | (refine op_box ?_; intro _) | (refine op_buildSlice ?_; intro _) | (refine op_farith ?_; intro _ _) | refine op_store0 ?_ | refine op_store1 ?_ | refine op_store2 ?_ | refine op_store3 ?_ | refine op_store4 ?_ | refine op_store5 ?_ | refine op_storeK rfl ?_ | refine op_loadK rfl ?_ | refine op_load_aggK rfl ?_ | refine tc_cond_t ?_ | refine tc_cond_f ?_ | refine tc_cond (fun _ => ?_) (fun _ => ?_) | refine tc_block ?_ | refine tc_skip ?_ | refine tc_ret ?_ | refine tc_exit ?_ | refine at_seq_ret ?_ | refine at_seq_exit ?_ | refine at_block_normal ?_ | refine at_block_ret ?_ | refine at_block_exit_self ?_ | refine at_block_exit_ne ?_ | refine at_loop_ret ?_ | refine at_loop_exit ?_ | refine tl_guard_yes ?_ | refine tl_guard_no ?_ | refine tl_guard_yes' ?_ | refine tl_guard_no' ?_ | refine tl_guard_undef ?_ | refine tl_guard_split (fun _ => ?_) (fun _ => ?_) | fail)
              | fail
            exact at_loopK (2, bs.length, _, _, _) (.inr (.inr ⟨by omega, _, rfl⟩)) (by simp only; omega) ⟨rfl, rfl, trivial⟩ (by repeat (first | exact trivial | refine ⟨rfl, ?_⟩)) (List.Sublist.refl _)
          · refine op_extract ?_
            refine ta_only 9 (by kernel_rfl) rfl (by decide) ?_
            refine op_extract ?_
            refine ta_take 11 rfl (by kernel_rfl) (by kernel_rfl) (by kernel_rfl) hpq rfl rfl (by decide) (by exact y_assign) ?_
            refine ta_take 12 rfl (by kernel_rfl) (by kernel_rfl) (by kernel_rfl) hpq rfl rfl (by decide) (by exact y_assign) ?_
            refine ta_done (by kernel_rfl) ?_
            repeat' first
              | (refine op_iarith ?_; rw [hw])
              | (first | refine tc_seq ?_ | refine tc_region ?_ | refine at_seq_normal ?_ | refine tl_nil ?_ | refine tl_cons ?_ | refine op_move ?_ | refine op_assign ?_ | refine op_fieldAddr ?_ | refine op_load ?_ | refine op_load_agg ?_ | refine op_indexC ?_ | refine op_indexAddr1 ?_ | refine op_indexAddr ?_ | refine op_icmp ?_ | refine op_fcmp ?_ | refine op_iarith ?_ | refine op_bcmp ?_ | refine op_unop_not ?_ | refine op_unop_neg_float ?_ | refine op_unop_neg_int ?_ | refine op_len_slice ?_ | refine op_pick_true ?_ | refine op_pick_false ?_ | refine op_pick_true' ?_ | refine op_pick_false' ?_ | refine op_build ?_ | refine op_extract ?_ | refine op_makeInterface ?_ | refine op_typeAssert ?_ | refine op_ptr_nil ?_ | refine op_nilCheck_ptr ?_ | refine op_nilCheck_meth ?_ | refine op_makeMeth ?_ | refine op_makeFunc ?_ | refine op_itof ?_ | refine op_itoi ?_ | refine op_ftoi ?_ | refine op_iquo ?_ | refine op_irem ?_ | refine op_ibits ?_ | refine op_slice_isnil ?_ | refine op_slice_notnil ?_ | refine op_imax ?_ | refine op_imin ?_ | refine op_shl ?_ | refine op_shr ?_ | (refine op_alloc ?_; intro _) | (refine op_box ?_; intro _) | (refine op_buildSlice ?_; intro _) | (refine op_farith ?_; intro _ _) | refine op_store0 ?_ | refine op_store1 ?_ | refine op_store2 ?_ | refine op_store3 ?_ | refine op_store4 ?_ | refine op_store5 ?_ | refine op_storeK rfl ?_ | refine op_loadK rfl ?_ | refine op_load_aggK rfl ?_ | refine tc_cond_t ?_ | refine tc_cond_f ?_ | refine tc_cond (fun _ => ?_) (fun _ => ?_) | refine tc_block ?_ | refine tc_skip ?_ | refine tc_ret ?_ | refine tc_exit ?_ | refine at_seq_ret ?_ | refine at_seq_exit ?_ | refine at_block_normal ?_ | refine at_block_ret ?_ | refine at_block_exit_self ?_ | refine at_block_exit_ne ?_ | refine at_loop_ret ?_ | refine at_loop_exit ?_ | refine tl_guard_yes ?_ | refine tl_guard_no ?_ | refine tl_guard_yes' ?_ | refine tl_guard_no' ?_ | refine tl_guard_undef ?_ | refine tl_guard_split (fun _ => ?_) (fun _ => ?_) | fail)
              | fail
            exact at_loopK (2, bs.length, _, _, _) (.inr (.inr ⟨by omega, _, rfl⟩)) (by simp only; omega) ⟨rfl, rfl, trivial⟩ (by repeat (first | exact trivial | refine ⟨rfl, ?_⟩)) (List.Sublist.refl _)
        · refine op_nilCheck_methP ?_
          refine ta_take 6 rfl (by kernel_rfl) (by kernel_rfl) (by kernel_rfl) hpq rfl rfl (by decide) (by exact y_move) ?_
          refine ta_only 3 (by kernel_rfl) rfl (by decide) ?_
          (refine op_slice_l (l := bs.length) ?_ (h1 := by omega); rw [hps])
          refine ta_only 7 (by kernel_rfl) rfl (by decide) ?_
          (refine op_invokeP (t := 47) (k := kb) (off := 0) (o := 0) ((readEnd kb T a bs.length c ((bs.length : Nat) : Int) (-1) ps (m - bs.length) (m - bs.length) _ Te fze _ (Int.le_refl _) (by omega) (List.mem_cons_of_mem _ he)).mono ?_); rintro _ _ ⟨rfl, rfl⟩)
          refine ta_take 8 rfl (by kernel_rfl) (by kernel_rfl) (by kernel_rfl) hpq rfl rfl (by decide) (by exact y_move) ?_
          refine ta_two 9 10 (by kernel_rfl) rfl (by decide) rfl (by decide) ?_ ?_
          · refine op_extract ?_
            refine ta_take 11 rfl (by kernel_rfl) (by kernel_rfl) (by kernel_rfl) hpq rfl rfl (by decide) (by exact y_assign) ?_
            refine ta_only 10 (by kernel_rfl) rfl (by decide) ?_
            refine op_extract ?_
            refine ta_take 12 rfl (by kernel_rfl) (by kernel_rfl) (by kernel_rfl) hpq rfl rfl (by decide) (by exact y_assign) ?_
            refine ta_done (by kernel_rfl) ?_
            repeat' first
              | (refine op_iarith ?_; rw [hw])
              | (first | refine tc_seq ?_ | refine tc_region ?_ | refine at_seq_normal ?_ | refine tl_nil ?_ | refine tl_cons ?_ | refine op_move ?_ | refine op_assign ?_ | refine op_fieldAddr ?_ | refine op_load ?_ | refine op_load_agg ?_ | refine op_indexC ?_ | refine op_indexAddr1 ?_ | refine op_indexAddr ?_ | refine op_icmp ?_ | refine op_fcmp ?_ | refine op_iarith ?_ | refine op_bcmp ?_ | refine op_unop_not ?_ | refine op_unop_neg_float ?_ | refine op_unop_neg_int ?_ | refine op_len_slice ?_ | refine op_pick_true ?_ | refine op_pick_false ?_ | refine op_pick_true' ?_ | refine op_pick_false' ?_ | refine op_build ?_ | refine op_extract ?_ | refine op_makeInterface ?_ | refine op_typeAssert ?_ | refine op_ptr_nil ?_ | refine op_nilCheck_ptr ?_ | refine op_nilCheck_meth ?_ | refine op_makeMeth ?_ | refine op_makeFunc ?_ | refine op_itof ?_ | refine op_itoi ?_ | refine op_ftoi ?_ | refine op_iquo ?_ | refine op_irem ?_ | refine op_ibits ?_ | refine op_slice_isnil ?_ | refine op_slice_notnil ?_ | refine op_imax ?_ | refine op_imin ?_ | refine op_shl ?_ | refine op_shr ?_ | (refine op_alloc ?_; intro _) | (refine op_box ?_; intro _) | (refine op_buildSlice ?_; intro _) | (refine op_farith ?_; intro _ _) | refine op_store0 ?_ | refine op_store1 ?_ | refine op_store2 ?_ | refine op_store3 ?_ | refine op_store4 ?_ | refine op_store5 ?_ | refine op_storeK rfl ?_ | refine op_loadK rfl ?_ | refine op_load_aggK rfl ?_ | refine tc_cond_t ?_ | refine tc_cond_f ?_ | refine tc_cond (fun _ => ?_) (fun _ => ?_) | refine tc_block ?_ | refine tc_skip ?_ | refine tc_ret ?_ | refine tc_exit ?_ | refine at_seq_ret ?_ | refine at_seq_exit ?_ | refine at_block_normal ?_ | refine at_block_ret ?_ | refine at_block_exit_self ?_ | refine at_block_exit_ne ?_ | refine at_loop_ret ?_ | refine at_loop_exit ?_ | refine tl_guard_yes ?_ | refine tl_guard_no ?_ | refine tl_guard_yes' ?_ | refine tl_guard_no' ?_ | refine tl_guard_undef ?_ | refine tl_guard_split (fun _ => ?_) (fun _ => ?_) | fail)
              | fail
            exact at_loopK (2, bs.length, _, _, _) (.inr (.inr ⟨by omega, _, rfl⟩)) (by simp only; omega) ⟨rfl, rfl, trivial⟩ (by repeat (first | exact trivial | refine ⟨rfl, ?_⟩)) (List.Sublist.refl _)
          · refine op_extract ?_
            refine ta_only 9 (by kernel_rfl) rfl (by decide) ?_
            refine op_extract ?_
            refine ta_take 11 rfl (by kernel_rfl) (by kernel_rfl) (by kernel_rfl) hpq rfl rfl (by decide) (by exact y_assign) ?_
            refine ta_take 12 rfl (by kernel_rfl) (by kernel_rfl) (by kernel_rfl) hpq rfl rfl (by decide) (by exact y_assign) ?_
            refine ta_done (by kernel_rfl) ?_
            repeat' first
              | (refine op_iarith ?_; rw [hw])
              | (first | refine tc_seq ?_ | refine tc_region ?_ | refine at_seq_normal ?_ | refine tl_nil ?_ | refine tl_cons ?_ | refine op_move ?_ | refine op_assign ?_ | refine op_fieldAddr ?_ | refine op_load ?_ | refine op_load_agg ?_ | refine op_indexC ?_ | refine op_indexAddr1 ?_ | refine op_indexAddr ?_ | refine op_icmp ?_ | refine op_fcmp ?_ | refine op_iarith ?_ | refine op_bcmp ?_ | refine op_unop_not ?_ | refine op_unop_neg_float ?_ | refine op_unop_neg_int ?_ | refine op_len_slice ?_ | refine op_pick_true ?_ | refine op_pick_false ?_ | refine op_pick_true' ?_ | refine op_pick_false' ?_ | refine op_build ?_ | refine op_extract ?_ | refine op_makeInterface ?_ | refine op_typeAssert ?_ | refine op_ptr_nil ?_ | refine op_nilCheck_ptr ?_ | refine op_nilCheck_meth ?_ | refine op_makeMeth ?_ | refine op_makeFunc ?_ | refine op_itof ?_ | refine op_itoi ?_ | refine op_ftoi ?_ | refine op_iquo ?_ | refine op_irem ?_ | refine op_ibits ?_ | refine op_slice_isnil ?_ | refine op_slice_notnil ?_ | refine op_imax ?_ | refine op_imin ?_ | refine op_shl ?_ | refine op_shr ?_ | (refine op_alloc ?_; intro _) | (refine op_box ?_; intro _) | (refine op_buildSlice ?_; intro _) | (refine op_farith ?_; intro _ _) | refine op_store0 ?_ | refine op_store1 ?_ | refine op_store2 ?_ | refine op_store3 ?_ | refine op_store4 ?_ | refine op_store5 ?_ | refine op_storeK rfl ?_ | refine op_loadK rfl ?_ | refine op_load_aggK rfl ?_ | refine tc_cond_t ?_ | refine tc_cond_f ?_ | refine tc_cond (fun _ => ?_) (fun _ => ?_) | refine tc_block ?_ | refine tc_skip ?_ | refine tc_ret ?_ | refine tc_exit ?_ | refine at_seq_ret ?_ | refine at_seq_exit ?_ | refine at_block_normal ?_ | refine at_block_ret ?_ | refine at_block_exit_self ?_ | refine at_block_exit_ne ?_ | refine at_loop_ret ?_ | refine at_loop_exit ?_ | refine tl_guard_yes ?_ | refine tl_guard_no ?_ | refine tl_guard_yes' ?_ | refine tl_guard_no' ?_ | refine tl_guard_undef ?_ | refine tl_guard_split (fun _ => ?_) (fun _ => ?_) | fail)
              | fail
            exact at_loopK (2, bs.length, _, _, _) (.inr (.inr ⟨by omega, _, rfl⟩)) (by simp only; omega) ⟨rfl, rfl, trivial⟩ (by repeat (first | exact trivial | refine ⟨rfl, ?_⟩)) (List.Sublist.refl _)
  · simp only
    have hc : icmp .lss (bs.length : Int) (m : Int) = true := by simp only [icmp]; exact decide_eq_true (by omega)
    have hg : icmp .geq (bs.length : Int) (m : Int) = false := by simp only [icmp]; exact decide_eq_false (by omega)
    by_cases hn : 0 < bs.length
    · have hg0 : icmp .gtr (bs.length : Int) 0 = true := by simp only [icmp]; exact decide_eq_true (by omega)
      repeat' first
        | refine op_iface_someq ?_
        | (refine op_load ?_ (k := 5) (off := 0) (l := [.iface 109 (.pointer (some ea))]) (hm := List.mem_cons_of_mem _ (List.mem_cons_of_mem _ he)) (hv := rfl))
        | (refine op_load ?_ (k := 6) (off := 0) (l := [.iface eu evv]) (hm := List.mem_cons_of_mem _ (List.mem_cons_of_mem _ he2)) (hv := rfl))
        | refine op_iface_eqp (u := 109) ?_
        | (first | refine tc_seq ?_ | refine tc_region ?_ | refine at_seq_normal ?_ | refine tl_nil ?_ | refine tl_cons ?_ | refine op_move ?_ | refine op_assign ?_ | refine op_fieldAddr ?_ | refine op_load ?_ | refine op_load_agg ?_ | refine op_indexC ?_ | refine op_indexAddr1 ?_ | refine op_indexAddr ?_ | refine op_icmp ?_ | refine op_fcmp ?_ | refine op_iarith ?_ | refine op_bcmp ?_ | refine op_unop_not ?_ | refine op_unop_neg_float ?_ | refine op_unop_neg_int ?_ | refine op_len_slice ?_ | refine op_pick_true ?_ | refine op_pick_false ?_ | refine op_pick_true' ?_ | refine op_pick_false' ?_ | refine op_build ?_ | refine op_extract ?_ | refine op_makeInterface ?_ | refine op_typeAssert ?_ | refine op_ptr_nil ?_ | refine op_nilCheck_ptr ?_ | refine op_nilCheck_meth ?_ | refine op_makeMeth ?_ | refine op_makeFunc ?_ | refine op_itof ?_ | refine op_itoi ?_ | refine op_ftoi ?_ | refine op_iquo ?_ | refine op_irem ?_ | refine op_ibits ?_ | refine op_slice_isnil ?_ | refine op_slice_notnil ?_ | refine op_imax ?_ | refine op_imin ?_ | refine op_shl ?_ | refine op_shr ?_ | (refine op_alloc ?_; intro _) | (refine op_box ?_; intro _) | (refine op_buildSlice ?_; intro _) | (refine op_farith ?_; intro _ _) | refine op_store0 ?_ | refine op_store1 ?_ | refine op_store2 ?_ | refine op_store3 ?_ | refine op_store4 ?_ | refine op_store5 ?_ | refine op_storeK rfl ?_ | refine op_loadK rfl ?_ | refine op_load_aggK rfl ?_ | refine tc_cond_t ?_ | refine tc_cond_f ?_ | refine tc_cond (fun _ => ?_) (fun _ => ?_) | refine tc_block ?_ | refine tc_skip ?_ | refine tc_ret ?_ | refine tc_exit ?_ | refine at_seq_ret ?_ | refine at_seq_exit ?_ | refine at_block_normal ?_ | refine at_block_ret ?_ | refine at_block_exit_self ?_ | refine at_block_exit_ne ?_ | refine at_loop_ret ?_ | refine at_loop_exit ?_ | refine tl_guard_yes ?_ | refine tl_guard_no ?_ | refine tl_guard_yes' ?_ | refine tl_guard_no' ?_ | refine tl_guard_undef ?_ | refine tl_guard_split (fun _ => ?_) (fun _ => ?_) | fail)
        | fail
      exact ret_list rfl (.cons (.tmp rfl) (.cons (.tmp rfl) .nil)) rfl (List.Sublist.refl _) (.inr ⟨hlt, _, _, _, _, rfl, rfl⟩) (.inl rfl)
    · have hg0 : icmp .gtr (bs.length : Int) 0 = false := by simp only [icmp]; exact decide_eq_false (by omega)
      repeat' first
        | refine op_iface_someq ?_
        | (first | refine tc_seq ?_ | refine tc_region ?_ | refine at_seq_normal ?_ | refine tl_nil ?_ | refine tl_cons ?_ | refine op_move ?_ | refine op_assign ?_ | refine op_fieldAddr ?_ | refine op_load ?_ | refine op_load_agg ?_ | refine op_indexC ?_ | refine op_indexAddr1 ?_ | refine op_indexAddr ?_ | refine op_icmp ?_ | refine op_fcmp ?_ | refine op_iarith ?_ | refine op_bcmp ?_ | refine op_unop_not ?_ | refine op_unop_neg_float ?_ | refine op_unop_neg_int ?_ | refine op_len_slice ?_ | refine op_pick_true ?_ | refine op_pick_false ?_ | refine op_pick_true' ?_ | refine op_pick_false' ?_ | refine op_build ?_ | refine op_extract ?_ | refine op_makeInterface ?_ | refine op_typeAssert ?_ | refine op_ptr_nil ?_ | refine op_nilCheck_ptr ?_ | refine op_nilCheck_meth ?_ | refine op_makeMeth ?_ | refine op_makeFunc ?_ | refine op_itof ?_ | refine op_itoi ?_ | refine op_ftoi ?_ | refine op_iquo ?_ | refine op_irem ?_ | refine op_ibits ?_ | refine op_slice_isnil ?_ | refine op_slice_notnil ?_ | refine op_imax ?_ | refine op_imin ?_ | refine op_shl ?_ | refine op_shr ?_ | (refine op_alloc ?_; intro _) | (refine op_box ?_; intro _) | (refine op_buildSlice ?_; intro _) | (refine op_farith ?_; intro _ _) | refine op_store0 ?_ | refine op_store1 ?_ | refine op_store2 ?_ | refine op_store3 ?_ | refine op_store4 ?_ | refine op_store5 ?_ | refine op_storeK rfl ?_ | refine op_loadK rfl ?_ | refine op_load_aggK rfl ?_ | refine tc_cond_t ?_ | refine tc_cond_f ?_ | refine tc_cond (fun _ => ?_) (fun _ => ?_) | refine tc_block ?_ | refine tc_skip ?_ | refine tc_ret ?_ | refine tc_exit ?_ | refine at_seq_ret ?_ | refine at_seq_exit ?_ | refine at_block_normal ?_ | refine at_block_ret ?_ | refine at_block_exit_self ?_ | refine at_block_exit_ne ?_ | refine at_loop_ret ?_ | refine at_loop_exit ?_ | refine tl_guard_yes ?_ | refine tl_guard_no ?_ | refine tl_guard_yes' ?_ | refine tl_guard_no' ?_ | refine tl_guard_undef ?_ | refine tl_guard_split (fun _ => ?_) (fun _ => ?_) | fail)
        | fail
      exact ret_list rfl (.cons (.tmp rfl) (.cons (.tmp rfl) .nil)) rfl (List.Sublist.refl _) (.inr ⟨hlt, _, _, _, _, rfl, rfl⟩) (.inl rfl)
end Go.Proofs.YtddpdmmikheoeaaDoor.Byt

set_option linter.unusedVariables false
set_option linter.unusedSimpArgs false
namespace Go.Lg
section
variable {P : Program} {W : World} {n : Nat} {ds : List Deferred} {dst : Option Tmp} {ty : TypeId} {pos : String} {af : Array Edge} {g : Option (Nat × Bool)} {E : Env} {G : Heap} {K : Value → Heap → Prop}
theorem op_load_none {t d b z x k off} [Und P t d] [Inf P t 0 b z] (hk : K (.agg ⟨[]⟩) G) (hx : evalE E x = some (.pointer (some ⟨k, off, none⟩)) := by exact rfl) (hd : TypeDesc.isAgg d = true := by exact rfl) : OpT P W n ds ⟨dst, .load t x, ty, pos, af, g⟩ E G K :=
  op_of_run (fun a w ho hs => by
    simp only [execOp, ho.eval hx]
    refine run_v ?_
    exact run_loadVar_agg hd rfl (fun j v hj => by simp at hj)) hk
end
end Go.Lg

set_option linter.unusedVariables false
set_option linter.unusedSimpArgs false
namespace Go.Proofs.YtddpdmmikheoeaaDoor.Byt
open Go.Lg

instance concBE : Conc Tryd.prog 79 where
  eq := by kernel_rfl
instance concLE : Conc Tryd.prog 80 where
  eq := by kernel_rfl
instance mBE : MethA Tryd.prog 79 "Uint64" 81 where
  eq := fun cs args w => by kernel_rfl
instance mLE : MethA Tryd.prog 80 "Uint64" 89 where
  eq := fun cs args w => by kernel_rfl
/-- The order of bytes, as0 an interface holds it. -/
def ord (big : Bool) : Value := .iface (if big then 79 else 80) (.agg ⟨[]⟩)
theorem doorOrder (big : Bool) (H : Heap) : Does Tryd.prog 19 [.bool big] H fun w H' => w = ord big ∧ H' = H := by
  cases big <;>
  · refine fn_enter 8 Tryd.func19 fun W => ?_
    repeat' first
      | refine op_load_none ?_
      | (first | refine tc_seq ?_ | refine tc_region ?_ | refine at_seq_normal ?_ | refine tl_nil ?_ | refine tl_cons ?_ | refine op_move ?_ | refine op_assign ?_ | refine op_load ?_ | refine op_load_agg ?_ | refine op_makeInterface ?_ | refine op_loadK rfl ?_ | refine op_load_aggK rfl ?_ | refine tc_cond_t ?_ | refine tc_cond_f ?_ | refine tc_cond (fun _ => ?_) (fun _ => ?_) | refine tc_skip ?_ | refine tc_ret ?_ | refine at_seq_ret ?_ | fail)
      | fail
    exact ret_tmp (hk := ⟨rfl, rfl⟩)
theorem readFloat (big : Bool) (a : Option Addr) (n c : Nat) (bs : List Nat) (H : Heap) (hv : BS H (.slice a n c) bs) (h8 : 8 ≤ n) (hb : ∀ x ∈ bs, x < 256) :
    Does Tryd.prog 40 [.slice a n c, ord big] H fun w H' => w = .float .f64 (w8 (gb big bs)) ∧ ∃ ex, H' = ex ++ H := by
  cases big with
  | true =>
    refine fn_enter 11 Tryd.func40 fun W => ?_
    repeat' first
      | (refine op_invokeA (t := 79) (cs := []) ((be64 _ a n c bs H hv h8 hb).mono ?_); rintro _ _ ⟨rfl, ex, rfl⟩)
      | (refine op_call ((frombits _ _).mono ?_); rintro _ _ ⟨rfl, rfl⟩)
      | (first | refine tc_seq ?_ | refine tc_region ?_ | refine at_seq_normal ?_ | refine tl_nil ?_ | refine tl_cons ?_ | refine op_move ?_ | refine op_assign ?_ | refine tc_ret ?_ | refine at_seq_ret ?_ | fail)
      | fail
    exact ret_tmp (hG := List.Sublist.refl _) (hk := ⟨rfl, ex, rfl⟩)
  | false =>
    refine fn_enter 11 Tryd.func40 fun W => ?_
    repeat' first
      | (refine op_invokeA (t := 80) (cs := []) ((le64 _ a n c bs H hv h8 hb).mono ?_); rintro _ _ ⟨rfl, ex, rfl⟩)
      | (refine op_call ((frombits _ _).mono ?_); rintro _ _ ⟨rfl, rfl⟩)
      | (first | refine tc_seq ?_ | refine tc_region ?_ | refine at_seq_normal ?_ | refine tl_nil ?_ | refine tl_cons ?_ | refine op_move ?_ | refine op_assign ?_ | refine tc_ret ?_ | refine at_seq_ret ?_ | fail)
      | fail
    exact ret_tmp (hG := List.Sublist.refl _) (hk := ⟨rfl, ex, rfl⟩)
theorem newBuffer (v : Value) (a : Option Addr) (n c : Nat) (hv : v = .slice a n c) (H : Heap) : Does Tryd.prog 17 [.slice a n c] H fun w H' => ∃ k T, w = .pointer (some ⟨k, 0, none⟩) ∧ H' = (k, Obj.cells ⟨bo (.slice a n c) 0 0⟩ T (0, 0)) :: H := by
  refine fn_enter 6 Tryd.func17 fun W => ?_
  repeat' first
    | refine tc_seq ?_ | refine tc_region ?_ | refine at_seq_normal ?_ | refine tl_nil ?_ | refine tl_cons ?_ | refine op_move ?_ | refine op_assign ?_ | refine op_build ?_ | (refine op_box ?_; intro _) | refine tc_ret ?_
    | refine at_seq_ret ?_
  exact ret_tmp (hk := ⟨_, _, rfl, rfl⟩)
set_option maxHeartbeats 4000000 in
theorem readFull (kb : Nat) (T : TypeId) (a : Option Addr) (c : Nat) (bs : List Nat) (kp : Nat) (Tp : TypeId) (zs : List Value) (m : Nat) (R : Heap) (hv : BS R (.slice a bs.length c) bs) (hm : 0 < m) (hmb : m ≤ 1048576) (hz : zs.length = m) (hb : bs.length ≤ 1048576) (hE : Ends R) :
    Does Tryd.prog 39 [.iface 47 (.pointer (some ⟨kb, 0, none⟩)), .slice (some ⟨kp, 0, none⟩) m m] ((kb, Obj.cells ⟨bo (.slice a bs.length c) 0 0⟩ T (0, 0)) :: (kp, Obj.cells ⟨zs⟩ Tp (0, 0)) :: R) fun w H' => (m ≤ bs.length ∧ w = .tuple #[.int .i64 (m : Int), .nilIface] ∧ H' = (kb, Obj.cells ⟨bo (.slice a bs.length c) (m : Int) (-1)⟩ T (0, 0)) :: (kp, Obj.cells ⟨spliceAt zs 0 ((bs.map bv).take m)⟩ Tp (0, 0)) :: R) ∨
      (bs.length < m ∧ ∃ x u v dc, w = .tuple #[x, .iface u v] ∧ H' = (kb, Obj.cells ⟨bo (.slice a 0 c) 0 0⟩ T (0, 0)) :: (kp, Obj.cells ⟨dc⟩ Tp (0, 0)) :: R) := by
  refine fn_enter 13 Tryd.func39 fun W => ?_
  repeat' first
    | (refine op_call ((readAtLeast kb T a c bs kp Tp zs m R hv hm hmb hz hb hE).mono ?_); rintro _ _ (⟨h1, rfl, rfl⟩ | ⟨h1, x, u, v, dc, rfl, rfl⟩))
    | (first | refine tc_seq ?_ | refine tc_region ?_ | refine at_seq_normal ?_ | refine tl_nil ?_ | refine tl_cons ?_ | refine op_move ?_ | refine op_assign ?_ | refine op_len_slice ?_ | refine op_extract ?_ | refine tc_ret ?_ | refine at_seq_ret ?_ | fail)
    | fail
  · exact ret_list rfl (.cons (.tmp rfl) (.cons (.tmp rfl) .nil)) rfl (List.Sublist.refl _) (.inl ⟨h1, rfl, rfl⟩) (.inl rfl)
  · exact ret_list rfl (.cons (.tmp rfl) (.cons (.tmp rfl) .nil)) rfl (List.Sublist.refl _) (.inr ⟨h1, _, _, _, _, rfl, rfl⟩) (.inl rfl)
end Go.Proofs.YtddpdmmikheoeaaDoor.Byt

set_option linter.unusedVariables false
set_option linter.unusedSimpArgs false
namespace Go.Proofs.YtddpdmmikheoeaaDoor.Byt
open Go.Lg

theorem splice_all {zs : List Value} {bs : List Nat} {m : Nat} (hz : zs.length = m) (hm : m ≤ bs.length) : spliceAt zs 0 ((bs.map bv).take m) = (bs.take m).map bv := by
  unfold spliceAt
  rw [List.take_zero, List.nil_append, List.drop_eq_nil_of_le (by rw [List.length_take, List.length_map]; omega), List.append_nil, List.map_take]
theorem bs_made {G : Heap} {k : Nat} {T : TypeId} {fz : Nat × Nat} {bs : List Nat} {m : Nat} (hm : m ≤ bs.length) (h : (k, Obj.cells ⟨(bs.take m).map bv⟩ T fz) ∈ G) : BS G (.slice (some ⟨k, 0, none⟩) m m) (bs.take m) := by
  have hl : ((bs.take m).map bv).length = m := by rw [List.length_map, List.length_take]; omega
  refine ⟨some ⟨k, 0, none⟩, m, by rw [hl], by rw [hl]; exact Nat.le_refl _, fun _ => ⟨k, 0, _, T, fz, rfl, h, by rw [List.drop_zero, List.take_length]⟩⟩
theorem word_cut {big : Bool} {bs : List Nat} {m i : Nat} (h : 8 * i + 8 ≤ m) : w8 (gb big ((bs.take m).drop (8 * i))) = word big bs i := by
  unfold word
  have key : ∀ j, j < 8 → ((bs.take m).drop (8 * i)).getD j 0 = (bs.drop (8 * i)).getD j 0 := fun j hj => by
    rw [List.getD_eq_getElem?_getD, List.getD_eq_getElem?_getD, List.getElem?_drop, List.getElem?_drop, List.getElem?_take, if_pos (by omega)]
  have k2 : ∀ j, j < 8 → gb big ((bs.take m).drop (8 * i)) j = gb big (bs.drop (8 * i)) j := fun j hj => by
    unfold gb
    split
    · exact key _ (by omega)
    · exact key _ hj
  unfold w8
  rw [k2 0 (by omega), k2 1 (by omega), k2 2 (by omega), k2 3 (by omega), k2 4 (by omega), k2 5 (by omega), k2 6 (by omega), k2 7 (by omega)]
theorem set_next {A : List Value} {s i : Nat} {z v : Value} (hA : A.length = i) (hi : i < s) : setCells (A ++ List.replicate (s - i) z) (0 + i) [v] = (A ++ [v]) ++ List.replicate (s - (i + 1)) z := by
  rw [setCells_one, Nat.zero_add, List.set_append_right _ _ (by omega), hA, Nat.sub_self]
  obtain ⟨q, hq⟩ : ∃ q, s - i = q + 1 := ⟨s - i - 1, by omega⟩
  rw [hq, List.replicate_succ, List.set_cons_zero, show s - (i + 1) = q by omega, List.append_assoc]; rfl
set_option maxHeartbeats 8000000 in
theorem readFloatArray (kb : Nat) (T : TypeId) (a : Option Addr) (c : Nat) (bs : List Nat) (kf : Nat) (Tf : TypeId) (big : Bool) (s : Nat) (R : Heap) (hv : BS R (.slice a bs.length c) bs) (hx : ∀ x ∈ bs, x < 256) (hs : 0 < s) (hs2 : s ≤ 1000) (hb : bs.length ≤ 1048576) (hE : Ends R) :
    Does Tryd.prog 33 [.iface 47 (.pointer (some ⟨kb, 0, none⟩)), ord big, .slice (some ⟨kf, 0, none⟩) s s] ((kf, Obj.cells ⟨List.replicate s (fl 0)⟩ Tf (0, 0)) :: (kb, Obj.cells ⟨bo (.slice a bs.length c) 0 0⟩ T (0, 0)) :: R) fun w H' =>
      (8 * s ≤ bs.length ∧ w = .nilIface ∧ ∃ ex, H' = ex ++ R ∧ (kf, Obj.cells ⟨(words big bs s).map fl⟩ Tf (0, 0)) ∈ ex ∧ (kb, Obj.cells ⟨bo (.slice a bs.length c) ((8 * s : Nat) : Int) (-1)⟩ T (0, 0)) ∈ ex) ∨
      (bs.length < 8 * s ∧ ∃ u v, w = .iface u v ∧ ∃ ex, H' = ex ++ R ∧ (kb, Obj.cells ⟨bo (.slice a 0 c) 0 0⟩ T (0, 0)) ∈ ex) := by
  have hw8 : IntKind.i64.wrap (iarith .mul 8 (s : Int)) = ((8 * s : Nat) : Int) := by rw [wrap_mul (by omega) (by omega)]; omega
  refine fn_enter 39 Tryd.func33 fun W => ?_
  repeat' first
    | (refine op_iarith ?_; rw [hw8])
    | (refine op_makeSlice (l := 8 * s) (c := 8 * s) (fun kp => ?_) (by omega) (by omega) (by omega))
    | (refine op_mid kb ?_
       refine op_call ((readFull kb T a c bs kp _ _ (8 * s) _ (hv.mono fun e he => by simp [he]) (by omega) (by omega) (by simp) hb (hE.mono fun e he => by simp [he])).mono ?_)
       rintro _ _ (⟨hge, rfl, rfl⟩ | ⟨hlt, x, u, v, dc, rfl, rfl⟩))
    | refine op_iface_nil ?_
    | refine op_iface_some ?_
    | (first | refine tc_seq ?_ | refine tc_region ?_ | refine at_seq_normal ?_ | refine tl_nil ?_ | refine tl_cons ?_ | refine tl_cons_none ?_ | refine op_move ?_ | refine op_assign ?_ | refine op_fieldAddr ?_ | refine op_load ?_ | refine op_load_agg ?_ | refine op_indexC ?_ | refine op_indexAddr1 ?_ | refine op_indexAddr ?_ | refine op_icmp ?_ | refine op_fcmp ?_ | refine op_iarith ?_ | refine op_bcmp ?_ | refine op_unop_not ?_ | refine op_unop_neg_float ?_ | refine op_unop_neg_int ?_ | refine op_len_slice ?_ | refine op_pick_true ?_ | refine op_pick_false ?_ | refine op_pick_true' ?_ | refine op_pick_false' ?_ | refine op_build ?_ | refine op_extract ?_ | refine op_makeInterface ?_ | refine op_typeAssert ?_ | refine op_ptr_nil ?_ | refine op_nilCheck_ptr ?_ | refine op_nilCheck_meth ?_ | refine op_makeMeth ?_ | refine op_makeFunc ?_ | refine op_itof ?_ | refine op_itoi ?_ | refine op_ftoi ?_ | refine op_iquo ?_ | refine op_irem ?_ | refine op_ibits ?_ | refine op_slice_isnil ?_ | refine op_slice_notnil ?_ | refine op_imax ?_ | refine op_imin ?_ | refine op_shl ?_ | refine op_shr ?_ | (refine op_alloc ?_; intro _) | (refine op_box ?_; intro _) | (refine op_buildSlice ?_; intro _) | (refine op_farith ?_; intro _ _) | refine op_store0 ?_ | refine op_store1 ?_ | refine op_store2 ?_ | refine op_store3 ?_ | refine op_store4 ?_ | refine op_store5 ?_ | refine op_storeK rfl ?_ | refine op_loadK rfl ?_ | refine op_load_aggK rfl ?_ | refine tc_cond_t ?_ | refine tc_cond_f ?_ | refine tc_cond (fun _ => ?_) (fun _ => ?_) | refine tc_block ?_ | refine tc_skip ?_ | refine tc_ret ?_ | refine tc_exit ?_ | refine at_seq_ret ?_ | refine at_seq_exit ?_ | refine at_block_normal ?_ | refine at_block_ret ?_ | refine at_block_exit_self ?_ | refine at_block_exit_ne ?_ | refine at_loop_ret ?_ | refine at_loop_exit ?_ | fail)
    | fail
  · rw [splice_all (by simp) hge]
    refine tc_perm (G' := (kf, Obj.cells ⟨List.replicate s (fl 0)⟩ Tf (0, 0)) :: (kb, Obj.cells ⟨bo (.slice a bs.length c) ((8 * s : Nat) : Int) (-1)⟩ T (0, 0)) :: (kp, Obj.cells ⟨(bs.take (8 * s)).map bv⟩ 5 (0, 0)) :: R) ((List.Perm.swap _ _ _).trans (List.Perm.cons _ (List.Perm.swap _ _ _))) ?_
    refine tc_loopK [(1, _), (2, _), (6, _), (7, _), (25, _)] (by repeat (first | exact trivial | refine ⟨rfl, ?_⟩)) (fun i : Nat => [(26, .int .i64 (i : Int))]) (fun i => (kf, Obj.cells ⟨(words big bs i).map fl ++ List.replicate (s - i) (fl 0)⟩ Tf (0, 0)) :: (kb, Obj.cells ⟨bo (.slice a bs.length c) ((8 * s : Nat) : Int) (-1)⟩ T (0, 0)) :: (kp, Obj.cells ⟨(bs.take (8 * s)).map bv⟩ 5 (0, 0)) :: R) (fun i => i ≤ s) (fun i => s - i) 0 (Nat.zero_le _) ⟨rfl, trivial⟩ (List.Sublist.refl _) ?_
    intro i hi
    by_cases hlt : i < s
    · have hbb : icmp .lss (i : Int) (s : Int) = true := by rw [lss_nat]; simpa using hlt
      have hi8 : IntKind.i64.wrap (iarith .mul 8 (i : Int)) = ((8 * i : Nat) : Int) := by rw [wrap_mul (by omega) (by omega)]; omega
      obtain ⟨ps, hps⟩ := slAt_form (some ⟨kp, 0, none⟩) (8 * i) (8 * s) (8 * s)
      have hB := BS.cut (bs_made (G := (kf, Obj.cells ⟨(words big bs i).map fl ++ List.replicate (s - i) (fl 0)⟩ Tf (0, 0)) :: (kb, Obj.cells ⟨bo (.slice a bs.length c) ((8 * s : Nat) : Int) (-1)⟩ T (0, 0)) :: (kp, Obj.cells ⟨(bs.take (8 * s)).map bv⟩ 5 (0, 0)) :: R) hge (List.mem_cons_of_mem _ (List.mem_cons_of_mem _ List.mem_cons_self))) (l := 8 * i) (by omega)
      rw [hps] at hB
      have hxx : ∀ x ∈ (bs.take (8 * s)).drop (8 * i), x < 256 := fun x h => hx x (List.mem_of_mem_take (List.mem_of_mem_drop h))
      repeat' first
        | (refine op_iarith ?_; rw [hi8])
        | (refine op_slice_l (l := 8 * i) ?_ (h1 := by omega); rw [hps])
        | (refine op_call ((readFloat big ps _ _ _ _ hB (by omega) hxx).mono ?_); rintro _ _ ⟨rfl, ex, rfl⟩; rw [word_cut (by omega)])
        | (refine op_storeK rfl ?_ (hroom := by simp [words_len]; omega) (hnew := set_next (A := (words big bs i).map fl) (by simp [words_len]) hlt))
        | (first | refine tc_seq ?_ | refine tc_region ?_ | refine at_seq_normal ?_ | refine tl_nil ?_ | refine tl_cons ?_ | refine tl_cons_none ?_ | refine op_move ?_ | refine op_assign ?_ | refine op_fieldAddr ?_ | refine op_load ?_ | refine op_load_agg ?_ | refine op_indexC ?_ | refine op_indexAddr1 ?_ | refine op_indexAddr ?_ | refine op_icmp ?_ | refine op_fcmp ?_ | refine op_iarith ?_ | refine op_bcmp ?_ | refine op_unop_not ?_ | refine op_unop_neg_float ?_ | refine op_unop_neg_int ?_ | refine op_len_slice ?_ | refine op_pick_true ?_ | refine op_pick_false ?_ | refine op_pick_true' ?_ | refine op_pick_false' ?_ | refine op_build ?_ | refine op_extract ?_ | refine op_makeInterface ?_ | refine op_typeAssert ?_ | refine op_ptr_nil ?_ | refine op_nilCheck_ptr ?_ | refine op_nilCheck_meth ?_ | refine op_makeMeth ?_ | refine op_makeFunc ?_ | refine op_itof ?_ | refine op_itoi ?_ | refine op_ftoi ?_ | refine op_iquo ?_ | refine op_irem ?_ | refine op_ibits ?_ | refine op_slice_isnil ?_ | refine op_slice_notnil ?_ | refine op_imax ?_ | refine op_imin ?_ | refine op_shl ?_ | refine op_shr ?_ | (refine op_alloc ?_; intro _) | (refine op_box ?_; intro _) | (refine op_buildSlice ?_; intro _) | (refine op_farith ?_; intro _ _) | refine op_store0 ?_ | refine op_store1 ?_ | refine op_store2 ?_ | refine op_store3 ?_ | refine op_store4 ?_ | refine op_store5 ?_ | refine op_storeK rfl ?_ | refine op_loadK rfl ?_ | refine op_load_aggK rfl ?_ | refine tc_cond_t ?_ | refine tc_cond_f ?_ | refine tc_cond (fun _ => ?_) (fun _ => ?_) | refine tc_block ?_ | refine tc_skip ?_ | refine tc_ret ?_ | refine tc_exit ?_ | refine at_seq_ret ?_ | refine at_seq_exit ?_ | refine at_block_normal ?_ | refine at_block_ret ?_ | refine at_block_exit_self ?_ | refine at_block_exit_ne ?_ | refine at_loop_ret ?_ | refine at_loop_exit ?_ | fail)
        | fail
      refine at_loopK (i + 1) hlt (by omega) ⟨next_nat (by omega), trivial⟩ (by repeat (first | exact trivial | refine ⟨rfl, ?_⟩)) ?_
      rw [words_succ, List.map_append]
      exact (List.sublist_append_right _ _).cons_cons _
    · obtain rfl : i = s := by omega
      have hbb : icmp .lss (i : Int) (i : Int) = false := by rw [lss_nat]; simp
      rw [Nat.sub_self, List.replicate_zero, List.append_nil]
      repeat' first
        | refine tc_seq ?_ | refine tc_region ?_ | refine at_seq_normal ?_ | refine tl_nil ?_ | refine tl_cons ?_ | refine tl_cons_none ?_ | refine op_move ?_ | refine op_assign ?_ | refine op_fieldAddr ?_ | refine op_load ?_
        | refine op_load_agg ?_ | refine op_indexC ?_ | refine op_indexAddr1 ?_ | refine op_indexAddr ?_ | refine op_icmp ?_ | refine op_fcmp ?_ | refine op_iarith ?_ | refine op_bcmp ?_ | refine op_unop_not ?_ | refine op_unop_neg_float ?_
        | refine op_unop_neg_int ?_ | refine op_len_slice ?_ | refine op_pick_true ?_ | refine op_pick_false ?_ | refine op_pick_true' ?_ | refine op_pick_false' ?_ | refine op_build ?_ | refine op_extract ?_ | refine op_makeInterface ?_ | refine op_typeAssert ?_
        | refine op_ptr_nil ?_ | refine op_nilCheck_ptr ?_ | refine op_nilCheck_meth ?_ | refine op_makeMeth ?_ | refine op_makeFunc ?_ | refine op_itof ?_ | refine op_itoi ?_ | refine op_ftoi ?_ | refine op_iquo ?_ | refine op_irem ?_
        | refine op_ibits ?_ | refine op_slice_isnil ?_ | refine op_slice_notnil ?_ | refine op_imax ?_ | refine op_imin ?_ | refine op_shl ?_ | refine op_shr ?_ | (refine op_alloc ?_; intro _) | (refine op_box ?_; intro _) | (refine op_buildSlice ?_; intro _)
        | (refine op_farith ?_; intro _ _) | refine op_store0 ?_ | refine op_store1 ?_ | refine op_store2 ?_ | refine op_store3 ?_ | refine op_store4 ?_ | refine op_store5 ?_ | refine op_storeK rfl ?_ | refine op_loadK rfl ?_ | refine op_load_aggK rfl ?_
        | refine tc_cond_t ?_ | refine tc_cond_f ?_ | refine tc_cond (fun _ => ?_) (fun _ => ?_) | refine tc_block ?_ | refine tc_skip ?_ | refine tc_ret ?_ | refine tc_exit ?_ | refine at_seq_ret ?_ | refine at_seq_exit ?_ | refine at_block_normal ?_
        | refine at_block_ret ?_ | refine at_block_exit_self ?_ | refine at_block_exit_ne ?_ | refine at_loop_ret ?_ | refine at_loop_exit ?_
      exact ret_tmp (hG := List.Sublist.refl _) (hk := .inl ⟨hge, rfl, [_, _, _], rfl, by simp, by simp⟩)
  · exact ret_tmp (hG := List.Sublist.refl _) (hk := .inr ⟨hlt, u, v, rfl, [_, _, _], rfl, by simp⟩)
set_option maxHeartbeats 8000000 in
theorem readFlatCoords0 (kb : Nat) (T : TypeId) (a : Option Addr) (c : Nat) (bs : List Nat) (big : Bool) (s : Nat) (R : Heap) (hv : BS R (.slice a bs.length c) bs) (hx : ∀ x ∈ bs, x < 256) (hs : 0 < s) (hs2 : s ≤ 1000) (hb : bs.length ≤ 1048576) (hE : Ends R) :
    Does Tryd.prog 18 [.iface 47 (.pointer (some ⟨kb, 0, none⟩)), ord big, .int .i64 (s : Int)] ((kb, Obj.cells ⟨bo (.slice a bs.length c) 0 0⟩ T (0, 0)) :: R) fun w H' =>
      (8 * s ≤ bs.length ∧ ∃ av cv, w = .tuple #[.slice av s cv, .nilIface] ∧ ∃ ex, H' = ex ++ R ∧ FS ex (.slice av s cv) (words big bs s) ∧ (kb, Obj.cells ⟨bo (.slice a bs.length c) ((8 * s : Nat) : Int) (-1)⟩ T (0, 0)) ∈ ex) ∨
      (bs.length < 8 * s ∧ ∃ u v, w = .tuple #[.slice none 0 0, .iface u v] ∧ ∃ ex, H' = ex ++ R ∧ (kb, Obj.cells ⟨bo (.slice a 0 c) 0 0⟩ T (0, 0)) ∈ ex) := by
  refine fn_enter 20 Tryd.func18 fun W => ?_
  repeat' first
    | (refine op_makeSlice (l := s) (c := s) (fun kf => ?_) (by omega) (by omega) (by omega); rw [made_one])
    | (refine op_call ((readFloatArray kb T a c bs kf _ big s R hv hx hs hs2 hb hE).mono ?_)
       rintro _ _ (⟨hge, rfl, ex, rfl, m1, m2⟩ | ⟨hlt, u, v, rfl, ex, rfl, m1⟩))
    | refine op_iface_nil ?_
    | refine op_iface_some ?_
    | (first | refine tc_seq ?_ | refine tc_region ?_ | refine at_seq_normal ?_ | refine tl_nil ?_ | refine tl_cons ?_ | refine op_move ?_ | refine op_assign ?_ | refine op_fieldAddr ?_ | refine op_load ?_ | refine op_load_agg ?_ | refine op_indexC ?_ | refine op_indexAddr1 ?_ | refine op_indexAddr ?_ | refine op_icmp ?_ | refine op_fcmp ?_ | refine op_iarith ?_ | refine op_bcmp ?_ | refine op_unop_not ?_ | refine op_unop_neg_float ?_ | refine op_unop_neg_int ?_ | refine op_len_slice ?_ | refine op_pick_true ?_ | refine op_pick_false ?_ | refine op_pick_true' ?_ | refine op_pick_false' ?_ | refine op_build ?_ | refine op_extract ?_ | refine op_makeInterface ?_ | refine op_typeAssert ?_ | refine op_ptr_nil ?_ | refine op_nilCheck_ptr ?_ | refine op_nilCheck_meth ?_ | refine op_makeMeth ?_ | refine op_makeFunc ?_ | refine op_itof ?_ | refine op_itoi ?_ | refine op_ftoi ?_ | refine op_iquo ?_ | refine op_irem ?_ | refine op_ibits ?_ | refine op_slice_isnil ?_ | refine op_slice_notnil ?_ | refine op_imax ?_ | refine op_imin ?_ | refine op_shl ?_ | refine op_shr ?_ | (refine op_alloc ?_; intro _) | (refine op_box ?_; intro _) | (refine op_buildSlice ?_; intro _) | (refine op_farith ?_; intro _ _) | refine op_store0 ?_ | refine op_store1 ?_ | refine op_store2 ?_ | refine op_store3 ?_ | refine op_store4 ?_ | refine op_store5 ?_ | refine op_storeK rfl ?_ | refine op_loadK rfl ?_ | refine op_load_aggK rfl ?_ | refine tc_cond_t ?_ | refine tc_cond_f ?_ | refine tc_cond (fun _ => ?_) (fun _ => ?_) | refine tc_skip ?_ | refine tc_ret ?_ | refine at_seq_ret ?_ | fail)
    | fail
  · exact ret_list rfl (.cons (.tmp rfl) (.cons (.tmp rfl) .nil)) rfl (List.Sublist.refl _) (.inl ⟨hge, some ⟨kf, 0, none⟩, s, rfl, ex, rfl, ⟨some ⟨kf, 0, none⟩, s, by simp [words_len], by simp [words_len], fun _ => ⟨kf, 0, _, _, _, rfl, m1, by rw [List.drop_zero, List.take_length]⟩⟩, m2⟩) (.inl rfl)
  · exact ret_list rfl (.cons (.tmp rfl) (.cons (.tmp rfl) .nil)) rfl (List.Sublist.refl _) (.inr ⟨hlt, u, v, rfl, ex, rfl, m1⟩) (.inl rfl)
end Go.Proofs.YtddpdmmikheoeaaDoor.Byt

set_option linter.unusedVariables false
set_option linter.unusedSimpArgs false
namespace Go.Lg
section
variable {P : Program} {W : World} {n : Nat} {ds : List Deferred} {ops : List Oper} {Q : Exit → Act → World → Prop} {E : Env} {G : Heap} {listed : List Bool} {fuel : Nat}
variable {ty : TypeId} {pos : String} {af : Array Edge} {d : Tmp}
theorem ta_three (i j l : Nat) {op op2 op3 : Op} {ty2 pos2 af2 ty3 pos3 af3} {d2 d3 : Tmp} (hr : Region.ready .any ops.toArray ⟨listed⟩ = [i, j, l])
    (hi : ops[i]? = some ⟨some d, op, ty, pos, af, none⟩) (hd : d < n) (hj : ops[j]? = some ⟨some d2, op2, ty2, pos2, af2, none⟩) (hd2 : d2 < n) (hl : ops[l]? = some ⟨some d3, op3, ty3, pos3, af3, none⟩) (hd3 : d3 < n)
    (h1 : OpT P W n ds ⟨some d, op, ty, pos, af, none⟩ E G (fun v G' => TA P W n ds ops Q fuel (listed.set i true) ((d, v) :: E) G'))
    (h2 : OpT P W n ds ⟨some d2, op2, ty2, pos2, af2, none⟩ E G (fun v G' => TA P W n ds ops Q fuel (listed.set j true) ((d2, v) :: E) G'))
    (h3 : OpT P W n ds ⟨some d3, op3, ty3, pos3, af3, none⟩ E G (fun v G' => TA P W n ds ops Q fuel (listed.set l true) ((d3, v) :: E) G')) : TA P W n ds ops Q (fuel + 1) listed E G :=
  ⟨fun a w hok hsw => wpAny_all hr (by simp) fun k hk => by
    simp only [List.mem_cons, List.not_mem_nil, or_false] at hk
    rcases hk with rfl | rfl | rfl
    · exact ta_step (op := op) _ hi rfl h1 (fun v G' a w hk hs hok => hk.run _ _ (hok.put hd v) hs) a w hok hsw
    · exact ta_step (op := op2) _ hj rfl h2 (fun v G' a w hk hs hok => hk.run _ _ (hok.put hd2 v) hs) a w hok hsw
    · exact ta_step (op := op3) _ hl rfl h3 (fun v G' a w hk hs hok => hk.run _ _ (hok.put hd3 v) hs) a w hok hsw⟩
end
end Go.Lg
