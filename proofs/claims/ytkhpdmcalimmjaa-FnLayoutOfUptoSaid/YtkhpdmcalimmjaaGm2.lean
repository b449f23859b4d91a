/-
  Multi points made of plain data. No conditions.
-/
import Derived.Test.YtkhpdmcalimmjaaGm1
import Derived.Test.YtkhpdmcalimmjaaMpA
import Derived.Test.YtkhpdmcalimmjaaLg20
import Derived.Test.YtkhpdmcalimmjaaLg23
set_option linter.unusedVariables false
set_option linter.unusedSimpArgs false
namespace Go.Proofs.Ytkhpdmcalimmjaa.Gm
open Go.Lg Go.Proofs.Ytkhpdmcalimmjaa.Geom

theorem ints (v : Value) (xs : List Int) (H : Heap) (hv : IS H v xs) (hb : xs.length < 2 ^ 40) : Does Try.prog 26 [v] H
    fun w H' => ∃ ex a c, w = .slice a xs.length c ∧ H' = ex ++ H ∧ IS ex w xs ∧ (a.isNone = true → xs = []) := by
  refine fn_enter 5 Try.func26 fun W => ?_
  repeat' first
    | (first | refine tc_seq ?_ | refine tc_region ?_ | refine at_seq_normal ?_ | refine tl_nil ?_ | refine tl_cons ?_ | refine op_move ?_ | refine op_assign ?_ | refine tc_ret ?_ | refine at_seq_ret ?_ | fail)
    | (refine op_appendS (H' := H) none 0 [] (xs.map iv) (m := xs.length) ⟨rfl, rfl⟩ (fun buf' hok' hbn => ?_) (IS.toN hv) (by exact rfl) (by exact rfl) (List.Sublist.refl _) (oneCell_iv xs) (by simp only [maxLen]; omega) (by omega))
    | fail
  simp only [Nat.zero_add, List.nil_append] at *
  have hs := sl_buf (e := 3) (H := []) (n := xs.length) hok'
  cases buf' with
  | none =>
    obtain ⟨h1, h2⟩ := hok'
    rw [List.map_eq_nil_iff] at h2
    refine ret_tmp (hk := ⟨[], none, 0, ?_, rfl, hs, fun _ => h2⟩)
    rw [h2]; rfl
  | some b =>
    obtain ⟨k, cap, sp⟩ := b
    exact ret_tmp (hk := ⟨[_], some ⟨k, 0, none⟩, cap, rfl, rfl, hs, fun h => by cases h⟩)
/-- The cells of a geometry of one row with ends. -/
abbrev row5 (l s : Int) (v : Value) (r : Int) (ve : Value) : List Value := [.int .i64 l, .int .i64 s, v, .int .i64 r, ve]
theorem optEnds (a : Option Addr) (m c : Nat) (H : Heap) : Does Try.prog 29 [.slice a m c] H fun w H' => ∃ k T, w = .func (.func 41) #[] ⟨[.pointer (some ⟨k, 0, none⟩)]⟩ ∧ H' = (k, .cells ⟨[.slice a m c]⟩ T (0, 0)) :: H := by
  refine fn_enter 4 Try.func29 fun W => ?_
  repeat' first
    | (first | refine tc_seq ?_ | refine tc_region ?_ | refine at_seq_normal ?_ | refine tl_nil ?_ | refine tl_cons ?_ | refine op_assign ?_ | refine op_makeMeth ?_ | refine op_makeFunc ?_ | (refine op_box ?_; intro _) | refine tc_ret ?_ | refine at_seq_ret ?_ | fail)
    | fail
  exact ret_tmp (hk := ⟨_, _, rfl, rfl⟩)
theorem optRun (kp k : Nat) (T Tk : TypeId) (l s r : Int) (v ve0 : Value) (a : Option Addr) (m c : Nat) (R : Heap) (hk : (k, Obj.cells ⟨[.slice a m c]⟩ Tk (0, 0)) ∈ R) :
    Does Try.prog 41 [.pointer (some ⟨kp, 0, none⟩), .pointer (some ⟨k, 0, none⟩)] ((kp, .cells ⟨row5 l s v r ve0⟩ T (0, 0)) :: R) fun w H' => H' = (kp, .cells ⟨row5 l s v r (.slice a m c)⟩ T (0, 0)) :: R := by
  refine fn_enter 8 Try.func41 fun W => ?_
  repeat' first
    | (refine op_load ?_ (hm := List.mem_cons_of_mem _ hk))
    | (first | refine tc_region ?_ | refine tl_nil ?_ | refine tl_cons ?_ | refine tl_cons_none ?_ | refine op_move ?_ | refine op_fieldAddr ?_ | refine op_load ?_ | refine op_load_agg ?_ | refine op_nilCheck_ptr ?_ | refine op_nilCheck_meth ?_ | refine op_store0 ?_ | refine op_store1 ?_ | refine op_store2 ?_ | refine op_store3 ?_ | refine op_store4 ?_ | refine op_store5 ?_ | refine op_storeK rfl ?_ | refine op_loadK rfl ?_ | refine op_load_aggK rfl ?_ | fail)
    | fail
  exact ret_none (hk := rfl)
set_option maxHeartbeats 4000000 in
theorem newMultiPoint (n : Int) (h : 1 ≤ n) (a : Option Addr) (m c : Nat) (ks k : Nat) (Ts Tk : TypeId) (ae : Option Addr) (me ce : Nat) (H : Heap) (hs : (ks, Obj.cells ⟨[.func (.func 41) #[] ⟨[.pointer (some ⟨k, 0, none⟩)]⟩]⟩ Ts (0, 0)) ∈ H) (hk : (k, Obj.cells ⟨[.slice ae me ce]⟩ Tk (0, 0)) ∈ H) (hne : ae.isNone = true → m = 0) :
    Does Try.prog 28 [.int .i64 n, .slice a m c, .slice (some ⟨ks, 0, none⟩) 1 1] H fun w H' => ∃ kp T, w = .pointer (some ⟨kp, 0, none⟩) ∧ H' = (kp, Obj.cells ⟨row5 n (strideI n) (.slice a m c) 0 (.slice ae me ce)⟩ T (0, 0)) :: H := by
  refine fn_enter 109 Try.func28 fun W => ?_
  repeat' first
    | (refine op_call ((stride n h _).mono ?_); rintro _ _ ⟨rfl, rfl⟩)
    | (first | refine tc_seq ?_ | refine tc_region ?_ | refine at_seq_normal ?_ | refine tl_nil ?_ | refine tl_cons ?_ | refine tl_cons_none ?_ | refine op_move ?_ | refine op_assign ?_ | refine op_fieldAddr ?_ | refine op_load ?_ | refine op_load_agg ?_ | refine op_indexC ?_ | refine op_indexAddr1 ?_ | refine op_indexAddr ?_ | refine op_icmp ?_ | refine op_fcmp ?_ | refine op_iarith ?_ | refine op_bcmp ?_ | refine op_unop_not ?_ | refine op_unop_neg_float ?_ | refine op_unop_neg_int ?_ | refine op_len_slice ?_ | refine op_pick_true ?_ | refine op_pick_false ?_ | refine op_pick_true' ?_ | refine op_pick_false' ?_ | refine op_build ?_ | refine op_extract ?_ | refine op_makeInterface ?_ | refine op_typeAssert ?_ | refine op_ptr_nil ?_ | refine op_nilCheck_ptr ?_ | refine op_nilCheck_meth ?_ | refine op_makeMeth ?_ | refine op_makeFunc ?_ | refine op_itof ?_ | refine op_itoi ?_ | refine op_ftoi ?_ | refine op_iquo ?_ | refine op_irem ?_ | refine op_ibits ?_ | refine op_slice_isnil ?_ | refine op_slice_notnil ?_ | refine op_imax ?_ | refine op_imin ?_ | refine op_shl ?_ | refine op_shr ?_ | (refine op_alloc ?_; intro _) | (refine op_box ?_; intro _) | (refine op_buildSlice ?_; intro _) | (refine op_farith ?_; intro _ _) | refine op_store0 ?_ | refine op_store1 ?_ | refine op_store2 ?_ | refine op_store3 ?_ | refine op_store4 ?_ | refine op_store5 ?_ | refine op_storeK rfl ?_ | refine op_loadK rfl ?_ | refine op_load_aggK rfl ?_ | refine tc_cond_t ?_ | refine tc_cond_f ?_ | refine tc_cond (fun _ => ?_) (fun _ => ?_) | refine tc_block ?_ | refine tc_skip ?_ | refine tc_ret ?_ | refine tc_exit ?_ | refine at_seq_ret ?_ | refine at_seq_exit ?_ | refine at_block_normal ?_ | refine at_block_ret ?_ | refine at_block_exit_self ?_ | refine at_block_exit_ne ?_ | refine at_loop_ret ?_ | refine at_loop_exit ?_ | refine tl_guard_yes ?_ | refine tl_guard_no ?_ | refine tl_guard_yes' ?_ | refine tl_guard_no' ?_ | refine tl_guard_undef ?_ | refine tl_guard_split (fun _ => ?_) (fun _ => ?_) | fail)
    | fail
  rename_i kp
  refine tc_loopK [(1, _), (6, _), (7, _), (35, _), (36, _)] (by repeat (first | exact trivial | refine ⟨rfl, ?_⟩)) (fun j : Nat => [(37, .int .i64 (j : Int))]) (fun j => (kp, Obj.cells ⟨row5 n (strideI n) (.slice a m c) 0 (if j = 0 then .slice none 0 0 else .slice ae me ce)⟩ _ (0, 0)) :: H) (fun j => j ≤ 1) (fun j => 1 - j) 0 (Nat.zero_le _) ⟨rfl, trivial⟩ (List.Sublist.refl _) ?_
  rintro j hj
  by_cases hlt : j < 1
  · obtain rfl : j = 0 := by omega
    repeat' first
      | (refine op_indexC ?_)
      | (refine op_load ?_ (hm := List.mem_cons_of_mem _ hs))
      | (refine op_callcap ((optRun kp k _ Tk n (strideI n) 0 (.slice a m c) _ ae me ce H hk).mono ?_); rintro _ _ rfl)
      | (first | refine tc_seq ?_ | refine tc_region ?_ | refine at_seq_normal ?_ | refine tl_nil ?_ | refine tl_cons ?_ | refine tl_cons_none ?_ | refine op_move ?_ | refine op_assign ?_ | refine op_fieldAddr ?_ | refine op_load ?_ | refine op_load_agg ?_ | refine op_indexC ?_ | refine op_indexAddr1 ?_ | refine op_indexAddr ?_ | refine op_icmp ?_ | refine op_fcmp ?_ | refine op_iarith ?_ | refine op_bcmp ?_ | refine op_unop_not ?_ | refine op_unop_neg_float ?_ | refine op_unop_neg_int ?_ | refine op_len_slice ?_ | refine op_pick_true ?_ | refine op_pick_false ?_ | refine op_pick_true' ?_ | refine op_pick_false' ?_ | refine op_build ?_ | refine op_extract ?_ | refine op_makeInterface ?_ | refine op_typeAssert ?_ | refine op_ptr_nil ?_ | refine op_nilCheck_ptr ?_ | refine op_nilCheck_meth ?_ | refine op_makeMeth ?_ | refine op_makeFunc ?_ | refine op_itof ?_ | refine op_itoi ?_ | refine op_ftoi ?_ | refine op_iquo ?_ | refine op_irem ?_ | refine op_ibits ?_ | refine op_slice_isnil ?_ | refine op_slice_notnil ?_ | refine op_imax ?_ | refine op_imin ?_ | refine op_shl ?_ | refine op_shr ?_ | (refine op_alloc ?_; intro _) | (refine op_box ?_; intro _) | (refine op_buildSlice ?_; intro _) | (refine op_farith ?_; intro _ _) | refine op_store0 ?_ | refine op_store1 ?_ | refine op_store2 ?_ | refine op_store3 ?_ | refine op_store4 ?_ | refine op_store5 ?_ | refine op_storeK rfl ?_ | refine op_loadK rfl ?_ | refine op_load_aggK rfl ?_ | refine tc_cond_t ?_ | refine tc_cond_f ?_ | refine tc_cond (fun _ => ?_) (fun _ => ?_) | refine tc_block ?_ | refine tc_skip ?_ | refine tc_ret ?_ | refine tc_exit ?_ | refine at_seq_ret ?_ | refine at_seq_exit ?_ | refine at_block_normal ?_ | refine at_block_ret ?_ | refine at_block_exit_self ?_ | refine at_block_exit_ne ?_ | refine at_loop_ret ?_ | refine at_loop_exit ?_ | refine tl_guard_yes ?_ | refine tl_guard_no ?_ | refine tl_guard_yes' ?_ | refine tl_guard_no' ?_ | refine tl_guard_undef ?_ | refine tl_guard_split (fun _ => ?_) (fun _ => ?_) | fail)
      | fail
    exact at_loopK 1 (Nat.le_refl _) (by omega) ⟨rfl, trivial⟩ (by repeat (first | exact trivial | refine ⟨rfl, ?_⟩)) (List.Sublist.refl _)
  · obtain rfl : j = 1 := by omega
    cases hn : ae.isNone with
    | true =>
      have hm0 := hne hn
      subst hm0
      have hc : icmp .gtr (0 : Int) 0 = false := rfl
      repeat' first
        | (refine op_slice_isnil ?_; rw [hn])
        | (first | refine tc_seq ?_ | refine tc_region ?_ | refine at_seq_normal ?_ | refine tl_nil ?_ | refine tl_cons ?_ | refine tl_cons_none ?_ | refine op_move ?_ | refine op_assign ?_ | refine op_fieldAddr ?_ | refine op_load ?_ | refine op_load_agg ?_ | refine op_indexC ?_ | refine op_indexAddr1 ?_ | refine op_indexAddr ?_ | refine op_icmp ?_ | refine op_fcmp ?_ | refine op_iarith ?_ | refine op_bcmp ?_ | refine op_unop_not ?_ | refine op_unop_neg_float ?_ | refine op_unop_neg_int ?_ | refine op_len_slice ?_ | refine op_pick_true ?_ | refine op_pick_false ?_ | refine op_pick_true' ?_ | refine op_pick_false' ?_ | refine op_build ?_ | refine op_extract ?_ | refine op_makeInterface ?_ | refine op_typeAssert ?_ | refine op_ptr_nil ?_ | refine op_nilCheck_ptr ?_ | refine op_nilCheck_meth ?_ | refine op_makeMeth ?_ | refine op_makeFunc ?_ | refine op_itof ?_ | refine op_itoi ?_ | refine op_ftoi ?_ | refine op_iquo ?_ | refine op_irem ?_ | refine op_ibits ?_ | refine op_slice_isnil ?_ | refine op_slice_notnil ?_ | refine op_imax ?_ | refine op_imin ?_ | refine op_shl ?_ | refine op_shr ?_ | (refine op_alloc ?_; intro _) | (refine op_box ?_; intro _) | (refine op_buildSlice ?_; intro _) | (refine op_farith ?_; intro _ _) | refine op_store0 ?_ | refine op_store1 ?_ | refine op_store2 ?_ | refine op_store3 ?_ | refine op_store4 ?_ | refine op_store5 ?_ | refine op_storeK rfl ?_ | refine op_loadK rfl ?_ | refine op_load_aggK rfl ?_ | refine tc_cond_t ?_ | refine tc_cond_f ?_ | refine tc_cond (fun _ => ?_) (fun _ => ?_) | refine tc_block ?_ | refine tc_skip ?_ | refine tc_ret ?_ | refine tc_exit ?_ | refine at_seq_ret ?_ | refine at_seq_exit ?_ | refine at_block_normal ?_ | refine at_block_ret ?_ | refine at_block_exit_self ?_ | refine at_block_exit_ne ?_ | refine at_loop_ret ?_ | refine at_loop_exit ?_ | refine tl_guard_yes ?_ | refine tl_guard_no ?_ | refine tl_guard_yes' ?_ | refine tl_guard_no' ?_ | refine tl_guard_undef ?_ | refine tl_guard_split (fun _ => ?_) (fun _ => ?_) | fail)
        | fail
      exact ret_tmp (hG := List.Sublist.refl _) (hk := ⟨kp, _, rfl, rfl⟩)
    | false =>
      repeat' first
        | (refine op_slice_isnil ?_; rw [hn])
        | (first | refine tc_seq ?_ | refine tc_region ?_ | refine at_seq_normal ?_ | refine tl_nil ?_ | refine tl_cons ?_ | refine tl_cons_none ?_ | refine op_move ?_ | refine op_assign ?_ | refine op_fieldAddr ?_ | refine op_load ?_ | refine op_load_agg ?_ | refine op_indexC ?_ | refine op_indexAddr1 ?_ | refine op_indexAddr ?_ | refine op_icmp ?_ | refine op_fcmp ?_ | refine op_iarith ?_ | refine op_bcmp ?_ | refine op_unop_not ?_ | refine op_unop_neg_float ?_ | refine op_unop_neg_int ?_ | refine op_len_slice ?_ | refine op_pick_true ?_ | refine op_pick_false ?_ | refine op_pick_true' ?_ | refine op_pick_false' ?_ | refine op_build ?_ | refine op_extract ?_ | refine op_makeInterface ?_ | refine op_typeAssert ?_ | refine op_ptr_nil ?_ | refine op_nilCheck_ptr ?_ | refine op_nilCheck_meth ?_ | refine op_makeMeth ?_ | refine op_makeFunc ?_ | refine op_itof ?_ | refine op_itoi ?_ | refine op_ftoi ?_ | refine op_iquo ?_ | refine op_irem ?_ | refine op_ibits ?_ | refine op_slice_isnil ?_ | refine op_slice_notnil ?_ | refine op_imax ?_ | refine op_imin ?_ | refine op_shl ?_ | refine op_shr ?_ | (refine op_alloc ?_; intro _) | (refine op_box ?_; intro _) | (refine op_buildSlice ?_; intro _) | (refine op_farith ?_; intro _ _) | refine op_store0 ?_ | refine op_store1 ?_ | refine op_store2 ?_ | refine op_store3 ?_ | refine op_store4 ?_ | refine op_store5 ?_ | refine op_storeK rfl ?_ | refine op_loadK rfl ?_ | refine op_load_aggK rfl ?_ | refine tc_cond_t ?_ | refine tc_cond_f ?_ | refine tc_cond (fun _ => ?_) (fun _ => ?_) | refine tc_block ?_ | refine tc_skip ?_ | refine tc_ret ?_ | refine tc_exit ?_ | refine at_seq_ret ?_ | refine at_seq_exit ?_ | refine at_block_normal ?_ | refine at_block_ret ?_ | refine at_block_exit_self ?_ | refine at_block_exit_ne ?_ | refine at_loop_ret ?_ | refine at_loop_exit ?_ | refine tl_guard_yes ?_ | refine tl_guard_no ?_ | refine tl_guard_yes' ?_ | refine tl_guard_no' ?_ | refine tl_guard_undef ?_ | refine tl_guard_split (fun _ => ?_) (fun _ => ?_) | fail)
        | fail
      exact ret_tmp (hG := List.Sublist.refl _) (hk := ⟨kp, _, rfl, rfl⟩)
instance concMultiPoint : Conc Try.prog 58 where
  eq := by kernel_rfl
theorem sridMultiPoint (k : Nat) (T : TypeId) (n s : Int) (v ve : Value) (r r' : Int) (H : Heap) : Does Try.prog 30 [.pointer (some ⟨k, 0, none⟩), .int .i64 r'] ((k, Obj.cells ⟨row5 n s v r ve⟩ T (0, 0)) :: H) fun w H' => w = .pointer (some ⟨k, 0, none⟩) ∧ H' = (k, Obj.cells ⟨row5 n s v r' ve⟩ T (0, 0)) :: H := by
  refine fn_enter 13 Try.func30 fun W => ?_
  repeat' first
    | (first | refine tc_seq ?_ | refine tc_region ?_ | refine at_seq_normal ?_ | refine tl_nil ?_ | refine tl_cons ?_ | refine tl_cons_none ?_ | refine op_move ?_ | refine op_assign ?_ | refine op_fieldAddr ?_ | refine op_nilCheck_ptr ?_ | refine op_nilCheck_meth ?_ | refine op_store0 ?_ | refine op_store1 ?_ | refine op_store2 ?_ | refine op_store3 ?_ | refine op_store4 ?_ | refine op_store5 ?_ | refine op_storeK rfl ?_ | refine tc_ret ?_ | refine at_seq_ret ?_ | fail)
    | fail
  exact ret_tmp (hk := ⟨rfl, rfl⟩)
/-- A pointer to a new multi point behind an interface. -/
def IsMP (l s : Int) (f : List Nat) (e : List Int) (H : Heap) (w : Value) (H' : Heap) : Prop := ∃ kp T a c ae ce R, w = .iface 58 (.pointer (some ⟨kp, 0, none⟩)) ∧ H' = (kp, Obj.cells ⟨row5 l (strideI l) (.slice a f.length c) s (.slice ae e.length ce)⟩ T (0, 0)) :: R ∧ FS R (.slice a f.length c) f ∧ IS R (.slice ae e.length ce) e ∧ ∃ ex, R = ex ++ H
set_option maxHeartbeats 8000000 in
theorem geometryMultiPoint (l s : Int) (vf ve vee vk : Value) (f : List Nat) (e : List Int) (H : Heap) (hl : 1 ≤ l) (hf : FS H vf f) (he : IS H ve e) (hb : f.length < 2 ^ 40) (hbe : e.length < 2 ^ 40) (hfe : e = [] → f.length = 0) :
    Does Try.prog 12 [.agg ⟨[.int .i64 4, .int .i64 l, .int .i64 s, vf, ve, vee, vk]⟩] H fun w H' => IsMP l s f e H w H' := by
  refine fn_enter 116 Try.func12 fun W => ?_
  repeat' first
    | refine tc_seq ?_ | refine tc_region ?_ | refine at_seq_normal ?_ | refine tl_nil ?_ | refine tl_cons ?_ | refine tl_cons_none ?_ | refine op_move ?_ | refine op_assign ?_ | refine op_fieldAddr ?_ | refine op_load ?_
    | refine op_load_agg ?_ | refine op_indexC ?_ | refine op_indexAddr1 ?_ | refine op_indexAddr ?_ | refine op_icmp ?_ | refine op_fcmp ?_ | refine op_iarith ?_ | refine op_bcmp ?_ | refine op_unop_not ?_ | refine op_unop_neg_float ?_
    | refine op_unop_neg_int ?_ | refine op_len_slice ?_ | refine op_pick_true ?_ | refine op_pick_false ?_ | refine op_pick_true' ?_ | refine op_pick_false' ?_ | refine op_build ?_ | refine op_extract ?_ | refine op_makeInterface ?_ | refine op_typeAssert ?_
    | refine op_ptr_nil ?_ | refine op_nilCheck_ptr ?_ | refine op_nilCheck_meth ?_ | refine op_makeMeth ?_ | refine op_makeFunc ?_ | refine op_itof ?_ | refine op_itoi ?_ | refine op_ftoi ?_ | refine op_iquo ?_ | refine op_irem ?_
    | refine op_ibits ?_ | refine op_slice_isnil ?_ | refine op_slice_notnil ?_ | refine op_imax ?_ | refine op_imin ?_ | refine op_shl ?_ | refine op_shr ?_ | (refine op_alloc ?_; intro _) | (refine op_box ?_; intro _) | (refine op_buildSlice ?_; intro _)
    | (refine op_farith ?_; intro _ _) | refine op_store0 ?_ | refine op_store1 ?_ | refine op_store2 ?_ | refine op_store3 ?_ | refine op_store4 ?_ | refine op_store5 ?_ | refine op_storeK rfl ?_ | refine op_loadK rfl ?_ | refine op_load_aggK rfl ?_
    | refine tc_cond_t ?_ | refine tc_cond_f ?_ | refine tc_cond (fun _ => ?_) (fun _ => ?_) | refine tc_block ?_ | refine tc_skip ?_ | refine tc_ret ?_ | refine tc_exit ?_ | refine at_seq_ret ?_ | refine at_seq_exit ?_ | refine at_block_normal ?_
    | refine at_block_ret ?_ | refine at_block_exit_self ?_ | refine at_block_exit_ne ?_ | refine at_loop_ret ?_ | refine at_loop_exit ?_
  apply fun hole0 hole1 hole2 hole3 hE hD hml hdl hpr prem fin => tc_drawn 5 [is hole0, is hole1, is hole2, is hole3, (fun w ex G => ∃ a c, w = .slice a f.length c ∧ FS G (.slice a f.length c) f)]
    [some 8, some 9, some 10, some 11, some 12, some 3, some 4] [[], [0], [], [2], [3]] mixed ⟨(is_mono _), (is_mono _), (is_mono _), (is_mono _), (fun _ _ _ _ ⟨a, c, h1, h2⟩ hs => ⟨a, c, h1, h2.mono fun e he => hs _ he⟩), trivial⟩ prem fin hE hD rfl hml hdl hpr
  rotate_left 5
  · first | kernel_rfl | exact rfl
  · first | kernel_rfl | exact rfl
  · exact Nat.le_of_ble_eq_true rfl
  · first | kernel_rfl | exact rfl
  · first | kernel_rfl | exact rfl
  refine ⟨fun G hG => ?_, fun G hG => ?_, fun G hG => ?_, fun G hG => ?_, fun G hG => ?_, trivial⟩
  · simp only [with2, Step2, nthDst, putO]
    (refine op_fieldAddr ?_; exact ⟨[], rfl, rfl, rfl⟩)
  · rintro _ _ ⟨rfl, rfl⟩ -
    simp only [with2, Step2, nthDst, putO]
    ((first | refine op_load ?_ | refine op_load_agg ?_ | refine op_load ?_ (hm := Sub.mem (by assumption) (by (repeat (apply List.mem_cons_of_mem)); assumption)) | refine op_load_agg ?_ (hm := Sub.mem (by assumption) (by (repeat (apply List.mem_cons_of_mem)); assumption)) | refine op_loadH hG rfl ?_ | refine op_load_aggH hG rfl ?_); exact ⟨[], rfl, rfl, rfl⟩)
  · simp only [with2, Step2, nthDst, putO]
    (refine op_fieldAddr ?_; exact ⟨[], rfl, rfl, rfl⟩)
  · rintro _ _ ⟨rfl, rfl⟩ -
    simp only [with2, Step2, nthDst, putO]
    ((first | refine op_load ?_ | refine op_load_agg ?_ | refine op_load ?_ (hm := Sub.mem (by assumption) (by (repeat (apply List.mem_cons_of_mem)); assumption)) | refine op_load_agg ?_ (hm := Sub.mem (by assumption) (by (repeat (apply List.mem_cons_of_mem)); assumption)) | refine op_loadH hG rfl ?_ | refine op_load_aggH hG rfl ?_); exact ⟨[], rfl, rfl, rfl⟩)
  · rintro _ _ ⟨rfl, rfl⟩ -
    simp only [with2, Step2, nthDst, putO]
    (refine op_call ((Flat.floatsF _ _ _ (hf.mono fun e he => hG e (by simp [he])) hb).mono ?_); rintro _ _ ⟨ex, a, c, rfl, rfl, h1, -, -⟩; exact ⟨ex, rfl, a, c, rfl, h1.mono fun e he => List.mem_append_left _ he⟩)
  · rintro _ _ _ _ _ _ _ _ _ _ ⟨⟨a, c, rfl, hfs⟩, ⟨rfl, rfl⟩, ⟨rfl, rfl⟩, ⟨rfl, rfl⟩, ⟨rfl, rfl⟩, _⟩
    simp only [List.nil_append, List.cons_append, List.append_nil, List.drop_succ_cons, List.drop_zero, nthDst, putO]
    simp only [List.nil_append] at hfs
    repeat' first
      | (first | refine tc_seq ?_ | refine tc_region ?_ | refine at_seq_normal ?_ | refine tl_nil ?_ | refine tl_cons ?_ | refine tl_cons_none ?_ | refine op_move ?_ | refine op_assign ?_ | refine op_fieldAddr ?_ | refine op_load ?_ | refine op_load_agg ?_ | refine op_indexC ?_ | refine op_indexAddr1 ?_ | refine op_indexAddr ?_ | refine op_icmp ?_ | refine op_fcmp ?_ | refine op_iarith ?_ | refine op_bcmp ?_ | refine op_unop_not ?_ | refine op_unop_neg_float ?_ | refine op_unop_neg_int ?_ | refine op_len_slice ?_ | refine op_pick_true ?_ | refine op_pick_false ?_ | refine op_pick_true' ?_ | refine op_pick_false' ?_ | refine op_build ?_ | refine op_extract ?_ | refine op_makeInterface ?_ | refine op_typeAssert ?_ | refine op_ptr_nil ?_ | refine op_nilCheck_ptr ?_ | refine op_nilCheck_meth ?_ | refine op_makeMeth ?_ | refine op_makeFunc ?_ | refine op_itof ?_ | refine op_itoi ?_ | refine op_ftoi ?_ | refine op_iquo ?_ | refine op_irem ?_ | refine op_ibits ?_ | refine op_slice_isnil ?_ | refine op_slice_notnil ?_ | refine op_imax ?_ | refine op_imin ?_ | refine op_shl ?_ | refine op_shr ?_ | (refine op_alloc ?_; intro _) | (refine op_box ?_; intro _) | (refine op_buildSlice ?_; intro _) | (refine op_farith ?_; intro _ _) | refine op_store0 ?_ | refine op_store1 ?_ | refine op_store2 ?_ | refine op_store3 ?_ | refine op_store4 ?_ | refine op_store5 ?_ | refine op_storeK rfl ?_ | refine op_loadK rfl ?_ | refine op_load_aggK rfl ?_ | refine tc_cond_t ?_ | refine tc_cond_f ?_ | refine tc_cond (fun _ => ?_) (fun _ => ?_) | refine tc_block ?_ | refine tc_skip ?_ | refine tc_ret ?_ | refine tc_exit ?_ | refine at_seq_ret ?_ | refine at_seq_exit ?_ | refine at_block_normal ?_ | refine at_block_ret ?_ | refine at_block_exit_self ?_ | refine at_block_exit_ne ?_ | refine at_loop_ret ?_ | refine at_loop_exit ?_ | fail)
      | refine op_loadK rfl ?_
      | fail
    refine tc_anyQ mixed (by repeat (first | refine pq_seq ?_ | refine pq_block ?_ | refine pq_loop ?_ | exact pq_body)) fun hpq => ?_
    refine ta_take 0 rfl (by kernel_rfl) (by kernel_rfl) (by kernel_rfl) hpq rfl rfl (by decide) (by exact y_move) ?_
    refine ta_take 1 rfl (by kernel_rfl) (by kernel_rfl) (by kernel_rfl) hpq rfl rfl (by decide) (by exact y_move) ?_
    refine ta_take 2 rfl (by kernel_rfl) (by kernel_rfl) (by kernel_rfl) hpq rfl rfl (by decide) (by exact y_fieldAddr) ?_
    refine ta_take 8 rfl (by kernel_rfl) (by kernel_rfl) (by kernel_rfl) hpq rfl rfl (by decide) (by exact y_fieldAddr) ?_
    refine ta_two 3 9 (by kernel_rfl) rfl (by decide) rfl (by decide) ?_ ?_
    · refine op_loadK rfl ?_
      refine ta_two 4 9 (by kernel_rfl) rfl (by decide) rfl (by decide) ?_ ?_
      · (refine op_call ((ints _ e _ (he.mono exs) hbe).mono ?_); rintro _ _ ⟨ex4, ae, ce, rfl, rfl, hes, hen⟩)
        refine ta_two 5 9 (by kernel_rfl) rfl (by decide) rfl (by decide) ?_ ?_
        · (refine op_call ((optEnds ae e.length ce _).mono ?_); rintro _ _ ⟨ko, To, rfl, rfl⟩)
          refine ta_two 6 9 (by kernel_rfl) rfl (by decide) rfl (by decide) ?_ ?_
          · (refine op_buildSlice ?_; intro ks)
            refine ta_two 7 9 (by kernel_rfl) rfl (by decide) rfl (by decide) ?_ ?_
            · (refine op_call ((newMultiPoint l hl a f.length c ks ko _ To ae e.length ce _ mem0 mem1 (fun h => hfe (hen h))).mono ?_); rintro _ _ ⟨kp, T, rfl, rfl⟩)
              refine ta_only 9 (by kernel_rfl) rfl (by decide) ?_
              refine op_loadK rfl ?_
              refine ta_only 10 (by kernel_rfl) rfl (by decide) ?_
              (refine op_call ((sridMultiPoint _ _ _ _ _ _ _ _ _).mono ?_); rintro _ _ ⟨rfl, rfl⟩)
              refine ta_only 11 (by kernel_rfl) rfl (by decide) ?_
              refine op_makeInterface ?_
              refine ta_take 12 rfl (by kernel_rfl) (by kernel_rfl) (by kernel_rfl) hpq rfl rfl (by decide) (by exact y_assign) ?_
              refine ta_done (by kernel_rfl) ?_
              repeat' first
                | (first | refine tc_seq ?_ | refine tc_region ?_ | refine at_seq_normal ?_ | refine tl_nil ?_ | refine tl_cons ?_ | refine tl_cons_none ?_ | refine op_move ?_ | refine op_assign ?_ | refine op_fieldAddr ?_ | refine op_load ?_ | refine op_load_agg ?_ | refine op_indexC ?_ | refine op_indexAddr1 ?_ | refine op_indexAddr ?_ | refine op_icmp ?_ | refine op_fcmp ?_ | refine op_iarith ?_ | refine op_bcmp ?_ | refine op_unop_not ?_ | refine op_unop_neg_float ?_ | refine op_unop_neg_int ?_ | refine op_len_slice ?_ | refine op_pick_true ?_ | refine op_pick_false ?_ | refine op_pick_true' ?_ | refine op_pick_false' ?_ | refine op_build ?_ | refine op_extract ?_ | refine op_makeInterface ?_ | refine op_typeAssert ?_ | refine op_ptr_nil ?_ | refine op_nilCheck_ptr ?_ | refine op_nilCheck_meth ?_ | refine op_makeMeth ?_ | refine op_makeFunc ?_ | refine op_itof ?_ | refine op_itoi ?_ | refine op_ftoi ?_ | refine op_iquo ?_ | refine op_irem ?_ | refine op_ibits ?_ | refine op_slice_isnil ?_ | refine op_slice_notnil ?_ | refine op_imax ?_ | refine op_imin ?_ | refine op_shl ?_ | refine op_shr ?_ | (refine op_alloc ?_; intro _) | (refine op_box ?_; intro _) | (refine op_buildSlice ?_; intro _) | (refine op_farith ?_; intro _ _) | refine op_store0 ?_ | refine op_store1 ?_ | refine op_store2 ?_ | refine op_store3 ?_ | refine op_store4 ?_ | refine op_store5 ?_ | refine op_storeK rfl ?_ | refine op_loadK rfl ?_ | refine op_load_aggK rfl ?_ | refine tc_cond_t ?_ | refine tc_cond_f ?_ | refine tc_cond (fun _ => ?_) (fun _ => ?_) | refine tc_block ?_ | refine tc_skip ?_ | refine tc_ret ?_ | refine tc_exit ?_ | refine at_seq_ret ?_ | refine at_seq_exit ?_ | refine at_block_normal ?_ | refine at_block_ret ?_ | refine at_block_exit_self ?_ | refine at_block_exit_ne ?_ | refine at_loop_ret ?_ | refine at_loop_exit ?_ | fail)
                | fail
              exact ret_tmp (hG := List.Sublist.refl _) (hk := ⟨_, _, _, _, _, _, _, rfl, rfl, hfs.mono ins, hes.mono ins, ExC.ex⟩)
            · refine op_loadK rfl ?_
              refine ta_only 7 (by kernel_rfl) rfl (by decide) ?_
              (refine op_call ((newMultiPoint l hl a f.length c ks ko _ To ae e.length ce _ mem0 mem1 (fun h => hfe (hen h))).mono ?_); rintro _ _ ⟨kp, T, rfl, rfl⟩)
              refine ta_only 10 (by kernel_rfl) rfl (by decide) ?_
              (refine op_call ((sridMultiPoint _ _ _ _ _ _ _ _ _).mono ?_); rintro _ _ ⟨rfl, rfl⟩)
              refine ta_only 11 (by kernel_rfl) rfl (by decide) ?_
              refine op_makeInterface ?_
              refine ta_take 12 rfl (by kernel_rfl) (by kernel_rfl) (by kernel_rfl) hpq rfl rfl (by decide) (by exact y_assign) ?_
              refine ta_done (by kernel_rfl) ?_
              repeat' first
                | (first | refine tc_seq ?_ | refine tc_region ?_ | refine at_seq_normal ?_ | refine tl_nil ?_ | refine tl_cons ?_ | refine tl_cons_none ?_ | refine op_move ?_ | refine op_assign ?_ | refine op_fieldAddr ?_ | refine op_load ?_ | refine op_load_agg ?_ | refine op_indexC ?_ | refine op_indexAddr1 ?_ | refine op_indexAddr ?_ | refine op_icmp ?_ | refine op_fcmp ?_ | refine op_iarith ?_ | refine op_bcmp ?_ | refine op_unop_not ?_ | refine op_unop_neg_float ?_ | refine op_unop_neg_int ?_ | refine op_len_slice ?_ | refine op_pick_true ?_ | refine op_pick_false ?_ | refine op_pick_true' ?_ | refine op_pick_false' ?_ | refine op_build ?_ | refine op_extract ?_ | refine op_makeInterface ?_ | refine op_typeAssert ?_ | refine op_ptr_nil ?_ | refine op_nilCheck_ptr ?_ | refine op_nilCheck_meth ?_ | refine op_makeMeth ?_ | refine op_makeFunc ?_ | refine op_itof ?_ | refine op_itoi ?_ | refine op_ftoi ?_ | refine op_iquo ?_ | refine op_irem ?_ | refine op_ibits ?_ | refine op_slice_isnil ?_ | refine op_slice_notnil ?_ | refine op_imax ?_ | refine op_imin ?_ | refine op_shl ?_ | refine op_shr ?_ | (refine op_alloc ?_; intro _) | (refine op_box ?_; intro _) | (refine op_buildSlice ?_; intro _) | (refine op_farith ?_; intro _ _) | refine op_store0 ?_ | refine op_store1 ?_ | refine op_store2 ?_ | refine op_store3 ?_ | refine op_store4 ?_ | refine op_store5 ?_ | refine op_storeK rfl ?_ | refine op_loadK rfl ?_ | refine op_load_aggK rfl ?_ | refine tc_cond_t ?_ | refine tc_cond_f ?_ | refine tc_cond (fun _ => ?_) (fun _ => ?_) | refine tc_block ?_ | refine tc_skip ?_ | refine tc_ret ?_ | refine tc_exit ?_ | refine at_seq_ret ?_ | refine at_seq_exit ?_ | refine at_block_normal ?_ | refine at_block_ret ?_ | refine at_block_exit_self ?_ | refine at_block_exit_ne ?_ | refine at_loop_ret ?_ | refine at_loop_exit ?_ | fail)
                | fail
              exact ret_tmp (hG := List.Sublist.refl _) (hk := ⟨_, _, _, _, _, _, _, rfl, rfl, hfs.mono ins, hes.mono ins, ExC.ex⟩)
          · refine op_loadK rfl ?_
            refine ta_only 6 (by kernel_rfl) rfl (by decide) ?_
            (refine op_buildSlice ?_; intro ks)
            refine ta_only 7 (by kernel_rfl) rfl (by decide) ?_
            (refine op_call ((newMultiPoint l hl a f.length c ks ko _ To ae e.length ce _ mem0 mem1 (fun h => hfe (hen h))).mono ?_); rintro _ _ ⟨kp, T, rfl, rfl⟩)
            refine ta_only 10 (by kernel_rfl) rfl (by decide) ?_
            (refine op_call ((sridMultiPoint _ _ _ _ _ _ _ _ _).mono ?_); rintro _ _ ⟨rfl, rfl⟩)
            refine ta_only 11 (by kernel_rfl) rfl (by decide) ?_
            refine op_makeInterface ?_
            refine ta_take 12 rfl (by kernel_rfl) (by kernel_rfl) (by kernel_rfl) hpq rfl rfl (by decide) (by exact y_assign) ?_
            refine ta_done (by kernel_rfl) ?_
            repeat' first
              | (first | refine tc_seq ?_ | refine tc_region ?_ | refine at_seq_normal ?_ | refine tl_nil ?_ | refine tl_cons ?_ | refine tl_cons_none ?_ | refine op_move ?_ | refine op_assign ?_ | refine op_fieldAddr ?_ | refine op_load ?_ | refine op_load_agg ?_ | refine op_indexC ?_ | refine op_indexAddr1 ?_ | refine op_indexAddr ?_ | refine op_icmp ?_ | refine op_fcmp ?_ | refine op_iarith ?_ | refine op_bcmp ?_ | refine op_unop_not ?_ | refine op_unop_neg_float ?_ | refine op_unop_neg_int ?_ | refine op_len_slice ?_ | refine op_pick_true ?_ | refine op_pick_false ?_ | refine op_pick_true' ?_ | refine op_pick_false' ?_ | refine op_build ?_ | refine op_extract ?_ | refine op_makeInterface ?_ | refine op_typeAssert ?_ | refine op_ptr_nil ?_ | refine op_nilCheck_ptr ?_ | refine op_nilCheck_meth ?_ | refine op_makeMeth ?_ | refine op_makeFunc ?_ | refine op_itof ?_ | refine op_itoi ?_ | refine op_ftoi ?_ | refine op_iquo ?_ | refine op_irem ?_ | refine op_ibits ?_ | refine op_slice_isnil ?_ | refine op_slice_notnil ?_ | refine op_imax ?_ | refine op_imin ?_ | refine op_shl ?_ | refine op_shr ?_ | (refine op_alloc ?_; intro _) | (refine op_box ?_; intro _) | (refine op_buildSlice ?_; intro _) | (refine op_farith ?_; intro _ _) | refine op_store0 ?_ | refine op_store1 ?_ | refine op_store2 ?_ | refine op_store3 ?_ | refine op_store4 ?_ | refine op_store5 ?_ | refine op_storeK rfl ?_ | refine op_loadK rfl ?_ | refine op_load_aggK rfl ?_ | refine tc_cond_t ?_ | refine tc_cond_f ?_ | refine tc_cond (fun _ => ?_) (fun _ => ?_) | refine tc_block ?_ | refine tc_skip ?_ | refine tc_ret ?_ | refine tc_exit ?_ | refine at_seq_ret ?_ | refine at_seq_exit ?_ | refine at_block_normal ?_ | refine at_block_ret ?_ | refine at_block_exit_self ?_ | refine at_block_exit_ne ?_ | refine at_loop_ret ?_ | refine at_loop_exit ?_ | fail)
              | fail
            exact ret_tmp (hG := List.Sublist.refl _) (hk := ⟨_, _, _, _, _, _, _, rfl, rfl, hfs.mono ins, hes.mono ins, ExC.ex⟩)
        · refine op_loadK rfl ?_
          refine ta_only 5 (by kernel_rfl) rfl (by decide) ?_
          (refine op_call ((optEnds ae e.length ce _).mono ?_); rintro _ _ ⟨ko, To, rfl, rfl⟩)
          refine ta_only 6 (by kernel_rfl) rfl (by decide) ?_
          (refine op_buildSlice ?_; intro ks)
          refine ta_only 7 (by kernel_rfl) rfl (by decide) ?_
          (refine op_call ((newMultiPoint l hl a f.length c ks ko _ To ae e.length ce _ mem0 mem1 (fun h => hfe (hen h))).mono ?_); rintro _ _ ⟨kp, T, rfl, rfl⟩)
          refine ta_only 10 (by kernel_rfl) rfl (by decide) ?_
          (refine op_call ((sridMultiPoint _ _ _ _ _ _ _ _ _).mono ?_); rintro _ _ ⟨rfl, rfl⟩)
          refine ta_only 11 (by kernel_rfl) rfl (by decide) ?_
          refine op_makeInterface ?_
          refine ta_take 12 rfl (by kernel_rfl) (by kernel_rfl) (by kernel_rfl) hpq rfl rfl (by decide) (by exact y_assign) ?_
          refine ta_done (by kernel_rfl) ?_
          repeat' first
            | (first | refine tc_seq ?_ | refine tc_region ?_ | refine at_seq_normal ?_ | refine tl_nil ?_ | refine tl_cons ?_ | refine tl_cons_none ?_ | refine op_move ?_ | refine op_assign ?_ | refine op_fieldAddr ?_ | refine op_load ?_ | refine op_load_agg ?_ | refine op_indexC ?_ | refine op_indexAddr1 ?_ | refine op_indexAddr ?_ | refine op_icmp ?_ | refine op_fcmp ?_ | refine op_iarith ?_ | refine op_bcmp ?_ | refine op_unop_not ?_ | refine op_unop_neg_float ?_ | refine op_unop_neg_int ?_ | refine op_len_slice ?_ | refine op_pick_true ?_ | refine op_pick_false ?_ | refine op_pick_true' ?_ | refine op_pick_false' ?_ | refine op_build ?_ | refine op_extract ?_ | refine op_makeInterface ?_ | refine op_typeAssert ?_ | refine op_ptr_nil ?_ | refine op_nilCheck_ptr ?_ | refine op_nilCheck_meth ?_ | refine op_makeMeth ?_ | refine op_makeFunc ?_ | refine op_itof ?_ | refine op_itoi ?_ | refine op_ftoi ?_ | refine op_iquo ?_ | refine op_irem ?_ | refine op_ibits ?_ | refine op_slice_isnil ?_ | refine op_slice_notnil ?_ | refine op_imax ?_ | refine op_imin ?_ | refine op_shl ?_ | refine op_shr ?_ | (refine op_alloc ?_; intro _) | (refine op_box ?_; intro _) | (refine op_buildSlice ?_; intro _) | (refine op_farith ?_; intro _ _) | refine op_store0 ?_ | refine op_store1 ?_ | refine op_store2 ?_ | refine op_store3 ?_ | refine op_store4 ?_ | refine op_store5 ?_ | refine op_storeK rfl ?_ | refine op_loadK rfl ?_ | refine op_load_aggK rfl ?_ | refine tc_cond_t ?_ | refine tc_cond_f ?_ | refine tc_cond (fun _ => ?_) (fun _ => ?_) | refine tc_block ?_ | refine tc_skip ?_ | refine tc_ret ?_ | refine tc_exit ?_ | refine at_seq_ret ?_ | refine at_seq_exit ?_ | refine at_block_normal ?_ | refine at_block_ret ?_ | refine at_block_exit_self ?_ | refine at_block_exit_ne ?_ | refine at_loop_ret ?_ | refine at_loop_exit ?_ | fail)
            | fail
          exact ret_tmp (hG := List.Sublist.refl _) (hk := ⟨_, _, _, _, _, _, _, rfl, rfl, hfs.mono ins, hes.mono ins, ExC.ex⟩)
      · refine op_loadK rfl ?_
        refine ta_only 4 (by kernel_rfl) rfl (by decide) ?_
        (refine op_call ((ints _ e _ (he.mono exs) hbe).mono ?_); rintro _ _ ⟨ex4, ae, ce, rfl, rfl, hes, hen⟩)
        refine ta_only 5 (by kernel_rfl) rfl (by decide) ?_
        (refine op_call ((optEnds ae e.length ce _).mono ?_); rintro _ _ ⟨ko, To, rfl, rfl⟩)
        refine ta_only 6 (by kernel_rfl) rfl (by decide) ?_
        (refine op_buildSlice ?_; intro ks)
        refine ta_only 7 (by kernel_rfl) rfl (by decide) ?_
        (refine op_call ((newMultiPoint l hl a f.length c ks ko _ To ae e.length ce _ mem0 mem1 (fun h => hfe (hen h))).mono ?_); rintro _ _ ⟨kp, T, rfl, rfl⟩)
        refine ta_only 10 (by kernel_rfl) rfl (by decide) ?_
        (refine op_call ((sridMultiPoint _ _ _ _ _ _ _ _ _).mono ?_); rintro _ _ ⟨rfl, rfl⟩)
        refine ta_only 11 (by kernel_rfl) rfl (by decide) ?_
        refine op_makeInterface ?_
        refine ta_take 12 rfl (by kernel_rfl) (by kernel_rfl) (by kernel_rfl) hpq rfl rfl (by decide) (by exact y_assign) ?_
        refine ta_done (by kernel_rfl) ?_
        repeat' first
          | (first | refine tc_seq ?_ | refine tc_region ?_ | refine at_seq_normal ?_ | refine tl_nil ?_ | refine tl_cons ?_ | refine tl_cons_none ?_ | refine op_move ?_ | refine op_assign ?_ | refine op_fieldAddr ?_ | refine op_load ?_ | refine op_load_agg ?_ | refine op_indexC ?_ | refine op_indexAddr1 ?_ | refine op_indexAddr ?_ | refine op_icmp ?_ | refine op_fcmp ?_ | refine op_iarith ?_ | refine op_bcmp ?_ | refine op_unop_not ?_ | refine op_unop_neg_float ?_ | refine op_unop_neg_int ?_ | refine op_len_slice ?_ | refine op_pick_true ?_ | refine op_pick_false ?_ | refine op_pick_true' ?_ | refine op_pick_false' ?_ | refine op_build ?_ | refine op_extract ?_ | refine op_makeInterface ?_ | refine op_typeAssert ?_ | refine op_ptr_nil ?_ | refine op_nilCheck_ptr ?_ | refine op_nilCheck_meth ?_ | refine op_makeMeth ?_ | refine op_makeFunc ?_ | refine op_itof ?_ | refine op_itoi ?_ | refine op_ftoi ?_ | refine op_iquo ?_ | refine op_irem ?_ | refine op_ibits ?_ | refine op_slice_isnil ?_ | refine op_slice_notnil ?_ | refine op_imax ?_ | refine op_imin ?_ | refine op_shl ?_ | refine op_shr ?_ | (refine op_alloc ?_; intro _) | (refine op_box ?_; intro _) | (refine op_buildSlice ?_; intro _) | (refine op_farith ?_; intro _ _) | refine op_store0 ?_ | refine op_store1 ?_ | refine op_store2 ?_ | refine op_store3 ?_ | refine op_store4 ?_ | refine op_store5 ?_ | refine op_storeK rfl ?_ | refine op_loadK rfl ?_ | refine op_load_aggK rfl ?_ | refine tc_cond_t ?_ | refine tc_cond_f ?_ | refine tc_cond (fun _ => ?_) (fun _ => ?_) | refine tc_block ?_ | refine tc_skip ?_ | refine tc_ret ?_ | refine tc_exit ?_ | refine at_seq_ret ?_ | refine at_seq_exit ?_ | refine at_block_normal ?_ | refine at_block_ret ?_ | refine at_block_exit_self ?_ | refine at_block_exit_ne ?_ | refine at_loop_ret ?_ | refine at_loop_exit ?_ | fail)
          | fail
        exact ret_tmp (hG := List.Sublist.refl _) (hk := ⟨_, _, _, _, _, _, _, rfl, rfl, hfs.mono ins, hes.mono ins, ExC.ex⟩)
    · refine op_loadK rfl ?_
      refine ta_only 3 (by kernel_rfl) rfl (by decide) ?_
      refine op_loadK rfl ?_
      refine ta_only 4 (by kernel_rfl) rfl (by decide) ?_
      (refine op_call ((ints _ e _ (he.mono exs) hbe).mono ?_); rintro _ _ ⟨ex4, ae, ce, rfl, rfl, hes, hen⟩)
      refine ta_only 5 (by kernel_rfl) rfl (by decide) ?_
      (refine op_call ((optEnds ae e.length ce _).mono ?_); rintro _ _ ⟨ko, To, rfl, rfl⟩)
      refine ta_only 6 (by kernel_rfl) rfl (by decide) ?_
      (refine op_buildSlice ?_; intro ks)
      refine ta_only 7 (by kernel_rfl) rfl (by decide) ?_
      (refine op_call ((newMultiPoint l hl a f.length c ks ko _ To ae e.length ce _ mem0 mem1 (fun h => hfe (hen h))).mono ?_); rintro _ _ ⟨kp, T, rfl, rfl⟩)
      refine ta_only 10 (by kernel_rfl) rfl (by decide) ?_
      (refine op_call ((sridMultiPoint _ _ _ _ _ _ _ _ _).mono ?_); rintro _ _ ⟨rfl, rfl⟩)
      refine ta_only 11 (by kernel_rfl) rfl (by decide) ?_
      refine op_makeInterface ?_
      refine ta_take 12 rfl (by kernel_rfl) (by kernel_rfl) (by kernel_rfl) hpq rfl rfl (by decide) (by exact y_assign) ?_
      refine ta_done (by kernel_rfl) ?_
      repeat' first
        | (first | refine tc_seq ?_ | refine tc_region ?_ | refine at_seq_normal ?_ | refine tl_nil ?_ | refine tl_cons ?_ | refine tl_cons_none ?_ | refine op_move ?_ | refine op_assign ?_ | refine op_fieldAddr ?_ | refine op_load ?_ | refine op_load_agg ?_ | refine op_indexC ?_ | refine op_indexAddr1 ?_ | refine op_indexAddr ?_ | refine op_icmp ?_ | refine op_fcmp ?_ | refine op_iarith ?_ | refine op_bcmp ?_ | refine op_unop_not ?_ | refine op_unop_neg_float ?_ | refine op_unop_neg_int ?_ | refine op_len_slice ?_ | refine op_pick_true ?_ | refine op_pick_false ?_ | refine op_pick_true' ?_ | refine op_pick_false' ?_ | refine op_build ?_ | refine op_extract ?_ | refine op_makeInterface ?_ | refine op_typeAssert ?_ | refine op_ptr_nil ?_ | refine op_nilCheck_ptr ?_ | refine op_nilCheck_meth ?_ | refine op_makeMeth ?_ | refine op_makeFunc ?_ | refine op_itof ?_ | refine op_itoi ?_ | refine op_ftoi ?_ | refine op_iquo ?_ | refine op_irem ?_ | refine op_ibits ?_ | refine op_slice_isnil ?_ | refine op_slice_notnil ?_ | refine op_imax ?_ | refine op_imin ?_ | refine op_shl ?_ | refine op_shr ?_ | (refine op_alloc ?_; intro _) | (refine op_box ?_; intro _) | (refine op_buildSlice ?_; intro _) | (refine op_farith ?_; intro _ _) | refine op_store0 ?_ | refine op_store1 ?_ | refine op_store2 ?_ | refine op_store3 ?_ | refine op_store4 ?_ | refine op_store5 ?_ | refine op_storeK rfl ?_ | refine op_loadK rfl ?_ | refine op_load_aggK rfl ?_ | refine tc_cond_t ?_ | refine tc_cond_f ?_ | refine tc_cond (fun _ => ?_) (fun _ => ?_) | refine tc_block ?_ | refine tc_skip ?_ | refine tc_ret ?_ | refine tc_exit ?_ | refine at_seq_ret ?_ | refine at_seq_exit ?_ | refine at_block_normal ?_ | refine at_block_ret ?_ | refine at_block_exit_self ?_ | refine at_block_exit_ne ?_ | refine at_loop_ret ?_ | refine at_loop_exit ?_ | fail)
        | fail
      exact ret_tmp (hG := List.Sublist.refl _) (hk := ⟨_, _, _, _, _, _, _, rfl, rfl, hfs.mono ins, hes.mono ins, ExC.ex⟩)
end Go.Proofs.Ytkhpdmcalimmjaa.Gm
