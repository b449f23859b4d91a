/-
  The places of a multi point: Coords. No conditions.
-/
import Derived.Test.YtgjbnfkinckpmaaGm3
import Derived.Test.YtgjbnfkinckpmaaInfl
set_option linter.unusedVariables false
set_option linter.unusedSimpArgs false
namespace Go.Proofs.Ytgjbnfkinckpmaa.Gm
open Go.Lg Go.Proofs.Ytgjbnfkinckpmaa.Geom Go.Proofs.Ytgjbnfkinckpmaa.Flat

theorem mp_take {f : List Nat} {a S : Nat} : cutN f a (a + S) = (f.drop a).take S := by unfold cutN; rw [Nat.add_sub_cancel_left]
set_option maxHeartbeats 16000000 in
theorem mpCoords (kp : Nat) (T : TypeId) (l s : Int) (a : Option Addr) (c : Nat) (ae : Option Addr) (ce : Nat) (f : List Nat) (e : List Int) (S : Nat) (H : Heap) (hm : (kp, Obj.cells ⟨row5 l (strideI l) (.slice a f.length c) s (.slice ae e.length ce)⟩ T (0, 0)) ∈ H)
    (hf : FS H (.slice a f.length c) f) (he : IS H (.slice ae e.length ce) e) (hS : strideI l = (S : Int)) (hok : MpOk e S f.length) (hb : f.length < 2 ^ 40) (hbe : e.length ≤ 2000) (hS9 : S ≤ 9) :
    Does Try.prog 97 [.pointer (some ⟨kp, 0, none⟩)] H fun w H' => ∃ ex, H' = ex ++ H ∧ SN H' w (mpAll f e e.length) := by
  rw [hS] at hm
  refine fn_enter 69 Try.func97 fun W => ?_
  repeat' first
    | (refine op_load ?_ (hm := List.mem_cons_of_mem _ hm))
    | (refine op_makeSlice (l := e.length) (c := e.length) (fun kc => ?_) (Nat.le_refl _) (by omega) (by omega); rw [made_rep])
    | (first | refine tc_seq ?_ | refine tc_region ?_ | refine at_seq_normal ?_ | refine tl_nil ?_ | refine tl_cons ?_ | refine tl_cons_none ?_ | refine op_move ?_ | refine op_assign ?_ | refine op_fieldAddr ?_ | refine op_load ?_ | refine op_load_agg ?_ | refine op_indexC ?_ | refine op_indexAddr1 ?_ | refine op_indexAddr ?_ | refine op_icmp ?_ | refine op_fcmp ?_ | refine op_iarith ?_ | refine op_bcmp ?_ | refine op_unop_not ?_ | refine op_unop_neg_float ?_ | refine op_unop_neg_int ?_ | refine op_len_slice ?_ | refine op_pick_true ?_ | refine op_pick_false ?_ | refine op_pick_true' ?_ | refine op_pick_false' ?_ | refine op_build ?_ | refine op_extract ?_ | refine op_makeInterface ?_ | refine op_typeAssert ?_ | refine op_ptr_nil ?_ | refine op_nilCheck_ptr ?_ | refine op_nilCheck_meth ?_ | refine op_makeMeth ?_ | refine op_makeFunc ?_ | refine op_itof ?_ | refine op_itoi ?_ | refine op_ftoi ?_ | refine op_iquo ?_ | refine op_irem ?_ | refine op_ibits ?_ | refine op_slice_isnil ?_ | refine op_slice_notnil ?_ | refine op_imax ?_ | refine op_imin ?_ | refine op_shl ?_ | refine op_shr ?_ | (refine op_alloc ?_; intro _) | (refine op_box ?_; intro _) | (refine op_buildSlice ?_; intro _) | (refine op_farith ?_; intro _ _) | refine op_store0 ?_ | refine op_store1 ?_ | refine op_store2 ?_ | refine op_store3 ?_ | refine op_store4 ?_ | refine op_store5 ?_ | refine op_storeK rfl ?_ | refine op_loadK rfl ?_ | refine op_load_aggK rfl ?_ | refine tc_cond_t ?_ | refine tc_cond_f ?_ | refine tc_cond (fun _ => ?_) (fun _ => ?_) | refine tc_block ?_ | refine tc_skip ?_ | refine tc_ret ?_ | refine tc_exit ?_ | refine at_seq_ret ?_ | refine at_seq_exit ?_ | refine at_block_normal ?_ | refine at_block_ret ?_ | refine at_block_exit_self ?_ | refine at_block_exit_ne ?_ | refine at_loop_ret ?_ | refine at_loop_exit ?_ | fail)
    | fail
  refine tc_loopK [(0, _), (2, _), (3, _), (19, _), (20, _)] (by repeat (first | exact trivial | refine ⟨rfl, ?_⟩)) (fun p : Nat × Heap × List Value => [(21, .int .i64 (p.1 : Int)), (4, .int .i64 ((en e p.1 : Nat) : Int)), (5, .int .i64 ((en e p.1 : Nat) : Int))])
    (fun p => p.2.1 ++ (kc, Obj.cells ⟨p.2.2 ++ List.replicate (e.length - p.1) (.slice none 0 0)⟩ 54 (0, 0)) :: H)
    (fun p => p.1 ≤ e.length ∧ p.2.2.length = p.1 ∧ All2 (RN (p.2.1 ++ H)) p.2.2 (mpAll f e p.1)) (fun p => e.length - p.1) (0, [], []) ⟨Nat.zero_le _, rfl, trivial⟩ ⟨rfl, rfl, rfl, trivial⟩ (by simp) ?_
  rintro ⟨j, pre, ws⟩ ⟨hj, hwl, hws⟩
  simp only at hj hwl hws ⊢
  by_cases hlt : j < e.length
  · have hlb : icmp .lss (j : Int) (e.length : Int) = true := by rw [lss_nat]; simpa using hlt
    obtain ⟨ke, oe, le, Te, ze, rfl, hme, hge⟩ := is_block he (by intro h; rw [h] at hlt; simp at hlt)
    have g1 := hge j _ (hok.get j hlt)
    have hle := hok.le (j + 1) hlt
    have hst := hok.step j hlt
    have hin : ∀ z ∈ H, z ∈ pre ++ (kc, Obj.cells ⟨ws ++ List.replicate (e.length - j) (.slice none 0 0)⟩ 54 (0, 0)) :: H := fun z hz => by simp [hz]
    have hrep : List.replicate (e.length - j) (Value.slice none 0 0) = .slice none 0 0 :: List.replicate (e.length - (j + 1)) (.slice none 0 0) := by
      rw [show e.length - j = (e.length - (j + 1)) + 1 by omega]; rfl
    by_cases hq : en e (j + 1) = en e j
    · have hA : mpAt f e j = none := by unfold mpAt; rw [if_pos hq]
      have c1 : icmp .neq ((en e (j + 1) : Nat) : Int) ((en e j : Nat) : Int) = false := by rw [hq]; simp [icmp]
      repeat' first
        | (refine op_indexAddr1 (j := j) ?_ (hj := hlt))
        | (refine op_load ?_ (hm := hin _ hme) (hv := g1))
        | (first | refine tc_seq ?_ | refine tc_region ?_ | refine at_seq_normal ?_ | refine tl_nil ?_ | refine tl_cons ?_ | refine tl_cons_none ?_ | refine op_move ?_ | refine op_assign ?_ | refine op_fieldAddr ?_ | refine op_load ?_ | refine op_load_agg ?_ | refine op_indexC ?_ | refine op_indexAddr1 ?_ | refine op_indexAddr ?_ | refine op_icmp ?_ | refine op_fcmp ?_ | refine op_iarith ?_ | refine op_bcmp ?_ | refine op_unop_not ?_ | refine op_unop_neg_float ?_ | refine op_unop_neg_int ?_ | refine op_len_slice ?_ | refine op_pick_true ?_ | refine op_pick_false ?_ | refine op_pick_true' ?_ | refine op_pick_false' ?_ | refine op_build ?_ | refine op_extract ?_ | refine op_makeInterface ?_ | refine op_typeAssert ?_ | refine op_ptr_nil ?_ | refine op_nilCheck_ptr ?_ | refine op_nilCheck_meth ?_ | refine op_makeMeth ?_ | refine op_makeFunc ?_ | refine op_itof ?_ | refine op_itoi ?_ | refine op_ftoi ?_ | refine op_iquo ?_ | refine op_irem ?_ | refine op_ibits ?_ | refine op_slice_isnil ?_ | refine op_slice_notnil ?_ | refine op_imax ?_ | refine op_imin ?_ | refine op_shl ?_ | refine op_shr ?_ | (refine op_alloc ?_; intro _) | (refine op_box ?_; intro _) | (refine op_buildSlice ?_; intro _) | (refine op_farith ?_; intro _ _) | refine op_store0 ?_ | refine op_store1 ?_ | refine op_store2 ?_ | refine op_store3 ?_ | refine op_store4 ?_ | refine op_store5 ?_ | refine op_storeK rfl ?_ | refine op_loadK rfl ?_ | refine op_load_aggK rfl ?_ | refine tc_cond_t ?_ | refine tc_cond_f ?_ | refine tc_block ?_ | refine tc_skip ?_ | refine tc_ret ?_ | refine tc_exit ?_ | refine at_seq_ret ?_ | refine at_seq_exit ?_ | refine at_block_normal ?_ | refine at_block_ret ?_ | refine at_block_exit_self ?_ | refine at_block_exit_ne ?_ | refine at_loop_ret ?_ | refine at_loop_exit ?_ | fail)
        | fail
      have e1 : ws ++ List.replicate (e.length - j) (Value.slice none 0 0) = (ws ++ [.slice none 0 0]) ++ List.replicate (e.length - (j + 1)) (.slice none 0 0) := by rw [hrep]; simp
      refine at_loopK (j + 1, pre, ws ++ [.slice none 0 0]) ⟨hlt, by simp [hwl], ?_⟩ (by simp only; omega) ⟨next_nat (by omega), geti rfl (by rw [hq]), rfl, trivial⟩ (by repeat (first | exact trivial | refine ⟨rfl, ?_⟩)) (by rw [e1]; exact List.Sublist.refl _)
      simp only
      rw [mpAll_succ, hA]
      exact All2.snoc hws rfl
    · have hA := mpAt_cut (f := f) hq
      have c1 : icmp .neq ((en e (j + 1) : Nat) : Int) ((en e j : Nat) : Int) = true := by simp only [icmp, bne_iff_ne]; omega
      have w1 : IntKind.i64.wrap (iarith .add ((en e j : Nat) : Int) (S : Int)) = ((en e j + S : Nat) : Int) := wrap_addN (by omega)
      repeat' first
        | (refine op_indexAddr1 (j := j) ?_ (hj := hlt))
        | (refine op_load ?_ (hm := hin _ hme) (hv := g1))
        | (first | refine tc_seq ?_ | refine tc_region ?_ | refine at_seq_normal ?_ | refine tl_nil ?_ | refine tl_cons ?_ | refine tl_cons_none ?_ | refine op_move ?_ | refine op_assign ?_ | refine op_fieldAddr ?_ | refine op_load ?_ | refine op_load_agg ?_ | refine op_indexC ?_ | refine op_indexAddr1 ?_ | refine op_indexAddr ?_ | refine op_icmp ?_ | refine op_fcmp ?_ | refine op_iarith ?_ | refine op_bcmp ?_ | refine op_unop_not ?_ | refine op_unop_neg_float ?_ | refine op_unop_neg_int ?_ | refine op_len_slice ?_ | refine op_pick_true ?_ | refine op_pick_false ?_ | refine op_pick_true' ?_ | refine op_pick_false' ?_ | refine op_build ?_ | refine op_extract ?_ | refine op_makeInterface ?_ | refine op_typeAssert ?_ | refine op_ptr_nil ?_ | refine op_nilCheck_ptr ?_ | refine op_nilCheck_meth ?_ | refine op_makeMeth ?_ | refine op_makeFunc ?_ | refine op_itof ?_ | refine op_itoi ?_ | refine op_ftoi ?_ | refine op_iquo ?_ | refine op_irem ?_ | refine op_ibits ?_ | refine op_slice_isnil ?_ | refine op_slice_notnil ?_ | refine op_imax ?_ | refine op_imin ?_ | refine op_shl ?_ | refine op_shr ?_ | (refine op_alloc ?_; intro _) | (refine op_box ?_; intro _) | (refine op_buildSlice ?_; intro _) | (refine op_farith ?_; intro _ _) | refine op_store0 ?_ | refine op_store1 ?_ | refine op_store2 ?_ | refine op_store3 ?_ | refine op_store4 ?_ | refine op_store5 ?_ | refine op_storeK rfl ?_ | refine op_loadK rfl ?_ | refine op_load_aggK rfl ?_ | refine tc_cond_t ?_ | refine tc_cond_f ?_ | refine tc_block ?_ | refine tc_skip ?_ | refine tc_ret ?_ | refine tc_exit ?_ | refine at_seq_ret ?_ | refine at_seq_exit ?_ | refine at_block_normal ?_ | refine at_block_ret ?_ | refine at_block_exit_self ?_ | refine at_block_exit_ne ?_ | refine at_loop_ret ?_ | refine at_loop_exit ?_ | fail)
        | fail
      have hst2 : en e (j + 1) = en e j + S := by omega
      apply fun hole0 hole1 hole2 hole3 hole4 hole5 hole6 hole7 hole8 hole9 hole10 hole11 hole12 hole13 hole14 hole15 hole16 hole17 hole18 hole19 hole20 hole21 hole22 hole23 hole24 hE hD hml hdl hpr prem fin => tc_drawnD 27 [PhiD.is hole0, PhiD.is hole1, PhiD.is hole2, PhiD.is hole3, PhiD.is hole4, PhiD.is hole5, PhiD.is hole6, PhiD.is hole7, PhiD.is hole8, PhiD.is hole9, PhiD.is hole10, PhiD.is hole11, PhiD.is hole12, PhiD.is hole13, PhiD.is hole14, PhiD.is hole15, PhiD.is hole16, PhiD.is hole17, PhiD.is (.int .i64 ((en e j + S : Nat) : Int)), PhiD.is hole18, PhiD.is hole19, PhiD.is hole20, PhiD.is hole21, PhiD.is hole22, PhiD.is hole23, PhiD.is hole24, PhiD.gen (some' (fun w ex => ∃ kn, w = .slice (some ⟨kn, 0, none⟩) S S ∧ ex = [(kn, .cells ⟨((f.drop (en e j)).take S).map fl⟩ 93 (0, 0))]))]
        [some 29, some 30, some 31, some 32, some 33, some 34, some 35, some 36, some 37, some 38, some 39, some 40, some 41, some 42, some 43, some 44, some 45, some 46, some 47, some 48, some 49, some 50, some 51, some 52, some 53, some 54, some 55, some 56, none] [[], [], [], [2], [3], [4], [5], [6], [7], [], [], [], [11], [12], [13], [14], [15], [16], [10, 17], [], [19], [20], [21], [22], [23], [24], [8, 9, 18, 25]] mixed ⟨(some_mono _), trivial⟩ prem fin hE hD rfl hml hdl hpr
      rotate_left 26
      · first | kernel_rfl | exact rfl
      · first | kernel_rfl | exact rfl
      · exact Nat.le_of_ble_eq_true rfl
      · first | kernel_rfl | exact rfl
      · first | kernel_rfl | exact rfl
      refine ⟨fun G hG => ?_, fun G hG => ?_, fun G hG => ?_, fun G hG => ?_, fun G hG => ?_, fun G hG => ?_, fun G hG => ?_, fun G hG => ?_, fun G hG => ?_, fun G hG => ?_, fun G hG => ?_, fun G hG => ?_, fun G hG => ?_, fun G hG => ?_, fun G hG => ?_, fun G hG => ?_, fun G hG => ?_, fun G hG => ?_, fun G hG => ?_, fun G hG => ?_, fun G hG => ?_, fun G hG => ?_, fun G hG => ?_, fun G hG => ?_, fun G hG => ?_, fun G hG => ?_, fun G hG => ?_, trivial⟩
      · simp only [withD, nthD, Step2, nthDst, putO, postD]
        (refine op_move ?_; exact ⟨[], rfl, rfl, rfl⟩)
      · simp only [withD, nthD, Step2, nthDst, putO, postD]
        (refine op_move ?_; exact ⟨[], rfl, rfl, rfl⟩)
      · simp only [withD, nthD, Step2, nthDst, putO, postD]
        (refine op_move ?_; exact ⟨[], rfl, rfl, rfl⟩)
      · simp only [withD, nthD, Step2, nthDst, putO, postD]
        ((first | refine op_nilCheck_ptr ?_ | refine op_nilCheck_meth ?_); exact ⟨[], rfl, rfl, rfl⟩)
      · simp only [withD, nthD, Step2, nthDst, putO, postD]
        (refine op_fieldAddr ?_; exact ⟨[], rfl, rfl, rfl⟩)
      · simp only [withD, nthD, Step2, nthDst, putO, postD]
        (refine op_fieldAddr ?_; exact ⟨[], rfl, rfl, rfl⟩)
      · simp only [withD, nthD, Step2, nthDst, putO, postD]
        (refine op_fieldAddr ?_; exact ⟨[], rfl, rfl, rfl⟩)
      · simp only [withD, nthD, Step2, nthDst, putO, postD]
        (refine op_fieldAddr ?_; exact ⟨[], rfl, rfl, rfl⟩)
      · simp only [withD, nthD, Step2, nthDst, putO, postD]
        (refine op_load ?_ (hm := hG _ (hin _ hm)); exact ⟨[], rfl, rfl, rfl⟩)
      · simp only [withD, nthD, Step2, nthDst, putO, postD]
        (refine op_move ?_; exact ⟨[], rfl, rfl, rfl⟩)
      · simp only [withD, nthD, Step2, nthDst, putO, postD]
        (refine op_move ?_; exact ⟨[], rfl, rfl, rfl⟩)
      · simp only [withD, nthD, Step2, nthDst, putO, postD]
        (refine op_move ?_; exact ⟨[], rfl, rfl, rfl⟩)
      · simp only [withD, nthD, Step2, nthDst, putO, postD]
        ((first | refine op_nilCheck_ptr ?_ | refine op_nilCheck_meth ?_); exact ⟨[], rfl, rfl, rfl⟩)
      · simp only [withD, nthD, Step2, nthDst, putO, postD]
        (refine op_fieldAddr ?_; exact ⟨[], rfl, rfl, rfl⟩)
      · simp only [withD, nthD, Step2, nthDst, putO, postD]
        (refine op_fieldAddr ?_; exact ⟨[], rfl, rfl, rfl⟩)
      · simp only [withD, nthD, Step2, nthDst, putO, postD]
        (refine op_fieldAddr ?_; exact ⟨[], rfl, rfl, rfl⟩)
      · simp only [withD, nthD, Step2, nthDst, putO, postD]
        (refine op_fieldAddr ?_; exact ⟨[], rfl, rfl, rfl⟩)
      · simp only [withD, nthD, Step2, nthDst, putO, postD]
        (refine op_load ?_ (hm := hG _ (hin _ hm)); exact ⟨[], rfl, rfl, rfl⟩)
      · simp only [withD, nthD, Step2, nthDst, putO, postD]
        (refine op_iarith ?_; rw [w1]; exact ⟨[], rfl, rfl, rfl⟩)
      · simp only [withD, nthD, Step2, nthDst, putO, postD]
        (refine op_move ?_; exact ⟨[], rfl, rfl, rfl⟩)
      · simp only [withD, nthD, Step2, nthDst, putO, postD]
        ((first | refine op_nilCheck_ptr ?_ | refine op_nilCheck_meth ?_); exact ⟨[], rfl, rfl, rfl⟩)
      · simp only [withD, nthD, Step2, nthDst, putO, postD]
        (refine op_fieldAddr ?_; exact ⟨[], rfl, rfl, rfl⟩)
      · simp only [withD, nthD, Step2, nthDst, putO, postD]
        (refine op_fieldAddr ?_; exact ⟨[], rfl, rfl, rfl⟩)
      · simp only [withD, nthD, Step2, nthDst, putO, postD]
        (refine op_fieldAddr ?_; exact ⟨[], rfl, rfl, rfl⟩)
      · simp only [withD, nthD, Step2, nthDst, putO, postD]
        (refine op_fieldAddr ?_; exact ⟨[], rfl, rfl, rfl⟩)
      · simp only [withD, nthD, Step2, nthDst, putO, postD]
        (refine op_load ?_ (hm := hG _ (hin _ hm)); exact ⟨[], rfl, rfl, rfl⟩)
      · simp only [withD, nthD, Step2, nthDst, putO, postD]
        (refine op_call ((inflate0 a c f (en e j) S _ (hf.mono fun z hz => hG _ (hin z hz)) (by omega) hb).mono ?_); rintro _ _ ⟨kn, rfl, rfl⟩; exact ⟨[_], rfl, kn, rfl, rfl⟩)
      simp only [FinalsD, nthDst, putO, List.drop_succ_cons, List.drop_zero]
      rintro _ _ ⟨⟨kn, rfl, rfl⟩, -⟩
      try simp only [List.nil_append]
      have hcl : ((f.drop (en e j)).take S).length = S := by simp; omega
      have hm3 : (kp, Obj.cells ⟨row5 l (S : Int) (.slice a f.length c) s (.slice (some ⟨ke, oe, none⟩) e.length ce)⟩ T (0, 0)) ∈ (kn, Obj.cells ⟨((f.drop (en e j)).take S).map fl⟩ 93 (0, 0)) :: pre ++ (kc, Obj.cells ⟨(ws ++ [.slice (some ⟨kn, 0, none⟩) S S]) ++ List.replicate (e.length - (j + 1)) (.slice none 0 0)⟩ 54 (0, 0)) :: H := by simp [hm]
      repeat' first
        | (refine op_indexAddr1 (j := j) ?_ (hj := hlt))
        | (refine op_store (A := (_, _) :: pre) (l' := (ws ++ [_]) ++ List.replicate (e.length - (j + 1)) (.slice none 0 0)) ?_ (hroom := by simp; omega) (hnew := by simp only [setCells, Nat.zero_add]; rw [← hwl, show e.length - ws.length = (e.length - (ws.length + 1)) + 1 by omega, set_snoc, hwl]))
        | (refine op_load ?_ (hm := hm3))
        | (refine op_iarith ?_; rw [w1])
        | (first | refine tc_seq ?_ | refine tc_region ?_ | refine at_seq_normal ?_ | refine tl_nil ?_ | refine tl_cons ?_ | refine tl_cons_none ?_ | refine op_move ?_ | refine op_assign ?_ | refine op_fieldAddr ?_ | refine op_load ?_ | refine op_load_agg ?_ | refine op_indexC ?_ | refine op_indexAddr1 ?_ | refine op_indexAddr ?_ | refine op_icmp ?_ | refine op_fcmp ?_ | refine op_iarith ?_ | refine op_bcmp ?_ | refine op_unop_not ?_ | refine op_unop_neg_float ?_ | refine op_unop_neg_int ?_ | refine op_len_slice ?_ | refine op_pick_true ?_ | refine op_pick_false ?_ | refine op_pick_true' ?_ | refine op_pick_false' ?_ | refine op_build ?_ | refine op_extract ?_ | refine op_makeInterface ?_ | refine op_typeAssert ?_ | refine op_ptr_nil ?_ | refine op_nilCheck_ptr ?_ | refine op_nilCheck_meth ?_ | refine op_makeMeth ?_ | refine op_makeFunc ?_ | refine op_itof ?_ | refine op_itoi ?_ | refine op_ftoi ?_ | refine op_iquo ?_ | refine op_irem ?_ | refine op_ibits ?_ | refine op_slice_isnil ?_ | refine op_slice_notnil ?_ | refine op_imax ?_ | refine op_imin ?_ | refine op_shl ?_ | refine op_shr ?_ | (refine op_alloc ?_; intro _) | (refine op_box ?_; intro _) | (refine op_buildSlice ?_; intro _) | (refine op_farith ?_; intro _ _) | refine op_store0 ?_ | refine op_store1 ?_ | refine op_store2 ?_ | refine op_store3 ?_ | refine op_store4 ?_ | refine op_store5 ?_ | refine op_storeK rfl ?_ | refine op_loadK rfl ?_ | refine op_load_aggK rfl ?_ | refine tc_cond_t ?_ | refine tc_cond_f ?_ | refine tc_block ?_ | refine tc_skip ?_ | refine tc_ret ?_ | refine tc_exit ?_ | refine at_seq_ret ?_ | refine at_seq_exit ?_ | refine at_block_normal ?_ | refine at_block_ret ?_ | refine at_block_exit_self ?_ | refine at_block_exit_ne ?_ | refine at_loop_ret ?_ | refine at_loop_exit ?_ | fail)
        | fail
      refine at_loopK (j + 1, (_, _) :: pre, ws ++ [_]) ⟨hlt, by simp [hwl], ?_⟩ (by simp only; omega) ⟨next_nat (by omega), geti rfl (by rw [hst2]), rfl, trivial⟩ (by repeat (first | exact trivial | refine ⟨rfl, ?_⟩)) (List.Sublist.refl _)
      simp only
      rw [mpAll_succ, hA, hst2, Nat.add_sub_cancel_left]
      refine All2.snoc (hws.mono fun _ _ h => h.mono fun z hz => List.mem_cons_of_mem _ hz) ⟨some ⟨_, 0, none⟩, S, by rw [hcl], by simp, ?_⟩
      have := fs_new (k := kn) (G := (kn, Obj.cells ⟨((f.drop (en e j)).take S).map fl⟩ 93 (0, 0)) :: pre ++ H) ((f.drop (en e j)).take S) List.mem_cons_self
      rw [hcl] at this
      exact this
  · have hlb : icmp .lss (j : Int) (e.length : Int) = false := by rw [lss_nat]; simpa using hlt
    obtain rfl : j = e.length := by omega
    repeat' first
      | refine tc_seq ?_ | refine tc_region ?_ | refine at_seq_normal ?_ | refine tl_nil ?_ | refine tl_cons ?_ | refine tl_cons_none ?_ | refine op_move ?_ | refine op_assign ?_ | refine op_fieldAddr ?_ | refine op_load ?_
      | refine op_load_agg ?_ | refine op_indexC ?_ | refine op_indexAddr1 ?_ | refine op_indexAddr ?_ | refine op_icmp ?_ | refine op_fcmp ?_ | refine op_iarith ?_ | refine op_bcmp ?_ | refine op_unop_not ?_ | refine op_unop_neg_float ?_
      | refine op_unop_neg_int ?_ | refine op_len_slice ?_ | refine op_pick_true ?_ | refine op_pick_false ?_ | refine op_pick_true' ?_ | refine op_pick_false' ?_ | refine op_build ?_ | refine op_extract ?_ | refine op_makeInterface ?_ | refine op_typeAssert ?_
      | refine op_ptr_nil ?_ | refine op_nilCheck_ptr ?_ | refine op_nilCheck_meth ?_ | refine op_makeMeth ?_ | refine op_makeFunc ?_ | refine op_itof ?_ | refine op_itoi ?_ | refine op_ftoi ?_ | refine op_iquo ?_ | refine op_irem ?_
      | refine op_ibits ?_ | refine op_slice_isnil ?_ | refine op_slice_notnil ?_ | refine op_imax ?_ | refine op_imin ?_ | refine op_shl ?_ | refine op_shr ?_ | (refine op_alloc ?_; intro _) | (refine op_box ?_; intro _) | (refine op_buildSlice ?_; intro _)
      | (refine op_farith ?_; intro _ _) | refine op_store0 ?_ | refine op_store1 ?_ | refine op_store2 ?_ | refine op_store3 ?_ | refine op_store4 ?_ | refine op_store5 ?_ | refine op_storeK rfl ?_ | refine op_loadK rfl ?_ | refine op_load_aggK rfl ?_
      | refine tc_cond_t ?_ | refine tc_cond_f ?_ | refine tc_cond (fun _ => ?_) (fun _ => ?_) | refine tc_block ?_ | refine tc_skip ?_ | refine tc_ret ?_ | refine tc_exit ?_ | refine at_seq_ret ?_ | refine at_seq_exit ?_ | refine at_block_normal ?_
      | refine at_block_ret ?_ | refine at_block_exit_self ?_ | refine at_block_exit_ne ?_ | refine at_loop_ret ?_ | refine at_loop_exit ?_
    refine ret_tmp (hG := List.Sublist.refl _) (hk := ⟨pre ++ [(kc, Obj.cells ⟨ws ++ List.replicate (e.length - e.length) (.slice none 0 0)⟩ 54 (0, 0))], by simp, ws, ?_, hws.mono fun _ _ h => h.mono fun z hz => by rcases List.mem_append.1 hz with h | h <;> simp [h]⟩)
    rw [Nat.sub_self, List.replicate_zero, List.append_nil]
    exact ⟨_, e.length, by rw [hwl], by omega, fun _ => ⟨kc, 0, ws, 54, (0, 0), rfl, by simp, by rw [List.drop_zero, List.take_length]⟩⟩
end Go.Proofs.Ytgjbnfkinckpmaa.Gm
