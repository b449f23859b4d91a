/-
  FnFlatLength1: the length of a row whose segments run along the axes is the sum of theirs. No conditions beyond the statement's own.
-/
import Derived.Test.YtefipfiajnepiaaRows
import Derived.Test.YtefipfiajnepiaaFRow2
import Derived.Test.YtefipfiajnepiaaAlong2
import Derived.Test.YtefipfiajnepiaaLen1
set_option linter.unusedVariables false
set_option linter.unusedSimpArgs false
namespace Go.Proofs.Ytefipfiajnepiaa.fnFlatLength1
open Go.Lg Go.Proofs.Ytefipfiajnepiaa.Geom Go.Proofs.Ytefipfiajnepiaa.Flat Go.Proofs.Ytefipfiajnepiaa.Whl
open Go.ChangeShapes Go.WideShapes Go.RowKit

set_option maxHeartbeats 8000000 in
theorem law {H : Heap} (v : Value) (xs : List Nat) (hv : FS H v xs) (hl : xs.length ≤ 9223372036854775807) (s : Int) (hw : -9223372036854775808 ≤ s ∧ s ≤ 9223372036854775807) :
    Does Try.prog 6 [v, .int .i64 s] H fun w H' => w = .bool true ∧ H' = H := by
  obtain ⟨a, c, rfl⟩ := hv.val
  refine fn_enter 49 Try.func6 fun W => ?_
  by_cases hbig : xs.length > 2147483647
  · have hc : icmp .gtr (xs.length : Int) 2147483647 = true := by simp only [icmp, decide_eq_true_eq]; omega
    repeat'
      first
        | refine tl_defer ?_ | refine tc_seq ?_ | refine tc_region ?_ | refine at_seq_normal ?_ | refine tl_nil ?_ | refine tl_cons ?_ | refine tl_cons_none ?_ | refine op_move ?_
        | refine op_assign ?_ | refine op_fieldAddr ?_ | refine op_load ?_ | refine op_load_agg ?_ | refine op_indexC ?_ | refine op_indexAddr1 ?_ | refine op_indexAddr ?_ | refine op_icmp ?_
        | refine op_fcmp ?_ | refine op_iarith ?_ | refine op_bcmp ?_ | refine op_unop_not ?_ | refine op_unop_neg_float ?_ | refine op_unop_neg_int ?_ | refine op_len_slice ?_ | refine op_pick_true ?_
        | refine op_pick_false ?_ | refine op_pick_true' ?_ | refine op_pick_false' ?_ | refine op_build ?_ | refine op_extract ?_ | refine op_makeInterface ?_ | refine op_typeAssert ?_ | refine op_ptr_nil ?_
        | refine op_nilCheck_ptr ?_ | refine op_nilCheck_meth ?_ | refine op_makeMeth ?_ | refine op_makeFunc ?_ | refine op_itof ?_ | refine op_itoi ?_ | refine op_ftoi ?_ | refine op_iquo ?_
        | refine op_irem ?_ | refine op_ibits ?_ | refine op_slice_isnil ?_ | refine op_slice_notnil ?_ | refine op_imax ?_ | refine op_imin ?_ | refine op_shl ?_ | refine op_shr ?_
        | (refine op_alloc ?_; intro _) | (refine op_box ?_; intro _) | (refine op_buildSlice ?_; intro _) | (refine op_farith ?_; intro _ _) | refine op_store0 ?_ | refine op_store1 ?_ | refine op_store2 ?_ | refine op_store3 ?_
        | refine op_store4 ?_ | refine op_store5 ?_ | refine tc_cond_t ?_ | refine tc_cond_f ?_ | refine tc_cond (fun _ => ?_) (fun _ => ?_) | refine tc_block ?_ | refine tc_skip ?_ | refine tc_ret ?_
        | refine tc_exit ?_ | refine tc_label ?_ | refine at_seq_ret ?_ | refine at_seq_exit ?_ | refine at_block_normal ?_ | refine at_block_ret ?_ | refine at_block_exit_self ?_ | refine at_block_exit_ne ?_
        | refine at_loop_ret ?_ | refine at_loop_exit ?_ | refine at_loop_goto ?_ | refine tl_guard_yes ?_ | refine tl_guard_no ?_ | refine tl_guard_yes' ?_ | refine tl_guard_no' ?_ | refine tl_guard_undef ?_
        | refine tl_guard_split (fun _ => ?_) (fun _ => ?_)
    exact ret_tmp (hk := ⟨rfl, rfl⟩)
  have hc : icmp .gtr (xs.length : Int) 2147483647 = false := by simp only [icmp, decide_eq_false_iff_not]; omega
  repeat' first
    | (first | refine tl_defer ?_ | refine tc_seq ?_ | refine tc_region ?_ | refine at_seq_normal ?_ | refine tl_nil ?_ | refine tl_cons ?_ | refine tl_cons_none ?_ | refine op_move ?_ | refine op_assign ?_ | refine op_fieldAddr ?_ | refine op_load ?_ | refine op_load_agg ?_ | refine op_indexC ?_ | refine op_indexAddr1 ?_ | refine op_indexAddr ?_ | refine op_icmp ?_ | refine op_fcmp ?_ | refine op_iarith ?_ | refine op_bcmp ?_ | refine op_unop_not ?_ | refine op_unop_neg_float ?_ | refine op_unop_neg_int ?_ | refine op_len_slice ?_ | refine op_pick_true ?_ | refine op_pick_false ?_ | refine op_pick_true' ?_ | refine op_pick_false' ?_ | refine op_build ?_ | refine op_extract ?_ | refine op_makeInterface ?_ | refine op_typeAssert ?_ | refine op_ptr_nil ?_ | refine op_nilCheck_ptr ?_ | refine op_nilCheck_meth ?_ | refine op_makeMeth ?_ | refine op_makeFunc ?_ | refine op_itof ?_ | refine op_itoi ?_ | refine op_ftoi ?_ | refine op_iquo ?_ | refine op_irem ?_ | refine op_ibits ?_ | refine op_slice_isnil ?_ | refine op_slice_notnil ?_ | refine op_imax ?_ | refine op_imin ?_ | refine op_shl ?_ | refine op_shr ?_ | (refine op_alloc ?_; intro _) | (refine op_box ?_; intro _) | (refine op_buildSlice ?_; intro _) | (refine op_farith ?_; intro _ _) | refine op_store0 ?_ | refine op_store1 ?_ | refine op_store2 ?_ | refine op_store3 ?_ | refine op_store4 ?_ | refine op_store5 ?_ | refine tc_cond_t ?_ | refine tc_cond_f ?_ | refine tc_cond (fun _ => ?_) (fun _ => ?_) | refine tc_block ?_ | refine tc_skip ?_ | refine tc_ret ?_ | refine tc_exit ?_ | refine tc_label ?_ | refine at_seq_ret ?_ | refine at_seq_exit ?_ | refine at_block_normal ?_ | refine at_block_ret ?_ | refine at_block_exit_self ?_ | refine at_block_exit_ne ?_ | refine at_loop_ret ?_ | refine at_loop_exit ?_ | refine at_loop_goto ?_ | refine tl_guard_yes ?_ | refine tl_guard_no ?_ | refine tl_guard_yes' ?_ | refine tl_guard_no' ?_ | refine tl_guard_undef ?_ | refine tl_guard_split (fun _ => ?_) (fun _ => ?_))
    | (refine op_call ((fRow2 a c xs s _ hv (by omega)).mono ?_); rintro _ _ ⟨rfl | ⟨b, rfl, s2, s9, hb⟩, rfl⟩)
    | (obtain ⟨m, rfl⟩ : ∃ m : Nat, s = (m : Int) := ⟨s.toNat, by omega⟩; refine op_call ((gAlong (fLay m) 0 a c xs m _ (fLay_stride s2 s9) (hv.mono fun e he => by simp [he]) (by omega) (by omega) (by omega)).mono ?_); rintro _ _ ⟨n, b2, rfl, rfl, hn⟩)
    | (refine op_call ((gEach 8 _ 0 a c xs _ _ _ (hv.mono fun e he => by simp [he]) (by omega)).mono ?_); rintro _ _ ⟨b3, rfl, rfl, hb3⟩)
    | (refine op_call ((gAlongZero _).mono ?_); rintro _ _ ⟨rfl, rfl⟩)
    | fail
  all_goals first
    | exact ret_tmp (hk := ⟨rfl, rfl⟩)
    | skip
  rename_i G0 k5 e1 e2 e3
  have hbt : b = true := by simpa using e1
  have hb3t : b3 = true := by simpa using e2
  have hb2t : b2 = true := by simpa using e3
  have hwh := hb3 hb3t
  obtain ⟨hn1, hal⟩ := hn hwh hb2t
  obtain ⟨hwt, _, hgood⟩ := goodAll_one (hb hbt)
  simp only [rowG, Geo.wt, List.map_nil, List.sum_nil, List.length_nil] at hwt
  rw [rowG, Geo.Good] at hgood
  have hst := fLay_stride s2 s9
  rw [hst] at hgood
  have hdiv : ∃ q, xs.length = q * m := by
    rcases hgood with h | ⟨_, _, h, _⟩
    · exact absurd h.1 (by decide)
    · refine ⟨xs.length / m, ?_⟩
      have h2 : ((xs.length % m : Nat) : Int) = 0 := by rw [← h]; exact (Int.ofNat_tmod _ _)
      have := Nat.div_add_mod xs.length m
      rw [Nat.mul_comm]; omega
  obtain ⟨q, hq⟩ := hdiv
  have hnd : xs.length / m = q := by rw [hq, Nat.mul_div_cancel _ (by omega)]
  rw [hnd] at hn1 hal
  have hql : q ≤ xs.length := by rw [hq]; exact Nat.le_mul_of_pos_right q (by omega)
  have hbd : 0 ≤ lenS xs m (q - 1) ∧ lenS xs m (q - 1) ≤ 2 ^ 50 := by
    by_cases h0 : q = 0
    · subst h0; exact ⟨by simp [lenS], by simp [lenS]⟩
    · have := lenS_bound (s := m) (m := q) hwh (by omega) (by omega) (q - 1) (by omega)
      exact ⟨this.1, by omega⟩
  have hfn := fv_ofInt (n := n) (by rw [hn1]; omega) (by rw [hn1]; omega)
  repeat' first
    | (refine op_call ((implLength1 a c xs m q _ (hv.mono fun e he => by simp [he]) (by omega) (by omega) hq (by omega) hwh hal).mono ?_); rintro _ _ ⟨r, rfl, ⟨ex, rfl⟩, hr⟩)
    | (first | refine tl_defer ?_ | refine tc_seq ?_ | refine tc_region ?_ | refine at_seq_normal ?_ | refine tl_nil ?_ | refine tl_cons ?_ | refine tl_cons_none ?_ | refine op_move ?_ | refine op_assign ?_ | refine op_fieldAddr ?_ | refine op_load ?_ | refine op_load_agg ?_ | refine op_indexC ?_ | refine op_indexAddr1 ?_ | refine op_indexAddr ?_ | refine op_icmp ?_ | refine op_fcmp ?_ | refine op_iarith ?_ | refine op_bcmp ?_ | refine op_unop_not ?_ | refine op_unop_neg_float ?_ | refine op_unop_neg_int ?_ | refine op_len_slice ?_ | refine op_pick_true ?_ | refine op_pick_false ?_ | refine op_pick_true' ?_ | refine op_pick_false' ?_ | refine op_build ?_ | refine op_extract ?_ | refine op_makeInterface ?_ | refine op_typeAssert ?_ | refine op_ptr_nil ?_ | refine op_nilCheck_ptr ?_ | refine op_nilCheck_meth ?_ | refine op_makeMeth ?_ | refine op_makeFunc ?_ | refine op_itof ?_ | refine op_itoi ?_ | refine op_ftoi ?_ | refine op_iquo ?_ | refine op_irem ?_ | refine op_ibits ?_ | refine op_slice_isnil ?_ | refine op_slice_notnil ?_ | refine op_imax ?_ | refine op_imin ?_ | refine op_shl ?_ | refine op_shr ?_ | (refine op_alloc ?_; intro _) | (refine op_box ?_; intro _) | (refine op_buildSlice ?_; intro _) | (refine op_farith ?_; intro _ _) | refine op_store0 ?_ | refine op_store1 ?_ | refine op_store2 ?_ | refine op_store3 ?_ | refine op_store4 ?_ | refine op_store5 ?_ | refine tc_cond_t ?_ | refine tc_cond_f ?_ | refine tc_cond (fun _ => ?_) (fun _ => ?_) | refine tc_block ?_ | refine tc_skip ?_ | refine tc_ret ?_ | refine tc_exit ?_ | refine tc_label ?_ | refine at_seq_ret ?_ | refine at_seq_exit ?_ | refine at_block_normal ?_ | refine at_block_ret ?_ | refine at_block_exit_self ?_ | refine at_block_exit_ne ?_ | refine at_loop_ret ?_ | refine at_loop_exit ?_ | refine at_loop_goto ?_ | refine tl_guard_yes ?_ | refine tl_guard_no ?_ | refine tl_guard_yes' ?_ | refine tl_guard_no' ?_ | refine tl_guard_undef ?_ | refine tl_guard_split (fun _ => ?_) (fun _ => ?_))
    | fail
  rw [← hn1] at hr
  exact ret_tmp (hG := by (repeat (first | exact List.Sublist.refl _ | apply List.Sublist.cons_cons | apply List.Sublist.cons | refine List.Sublist.trans ?_ (List.sublist_append_right _ _)))) (hk := ⟨congrArg Value.bool (by rw [fcmp_eql hr hfn]; simp), rfl⟩)
theorem own : ownKnob Try.prog.godebug = none := by kernel_rfl
theorem laid : laidOutB Try.prog = true := by kernel_rfl
set_option maxRecDepth 100000 in
theorem lifted (os : Os) (started : os.Started) (H : Type) (enc : TypeId × Value → H) :
    ReturnsInHanded {} Try.checked os 6 .any (Rows.fnFlatLength1Spec.pre6 enc Try.prog Try.f6 Rows.fnFlatLength1Row.domain false) (Rows.fnFlatLength1Spec.post enc Try.prog Try.f6 false true false false) := by
  refine returnsInHanded_of_change (C := Try.checked) own started (by kernel_rfl) Try.func6
    (ChangeSpec.witness6 (enc := enc) (C := Try.checked) false ⟨#[], #[.slice none 0 0, .int .i64 0], []⟩ 8 (by kernel_rfl) (by kernel_rfl) (by kernel_rfl) (by kernel_rfl)) ?_
  intro W base args ds gs before hval0 hW hcnd _
  have hval : ∀ (j : Nat) t v, Try.f6.params[j]? = some t → args[j]? = some v → Value.okWide Try.prog W .any base t v := hval0
  have hW' := hW
  obtain ⟨p, q, hA0, hV, rfl, hfz, hnd⟩ := hW
  have hA : DataW.TrodAll enc Try.prog W 0 (fun _ => true) true Try.f6.params.toList args.toList ds p := hA0
  rw [Try.params6] at hA hval
  obtain ⟨v0, vs0, d0, ds0, p0, q0, hargs, rfl, rfl, h0, r0⟩ := trodAll_cons hA
  obtain ⟨v1, vs1, d1, ds1, p1, q1, rfl, rfl, rfl, h1, r1⟩ := trodAll_cons r0
  obtain ⟨rfl, rfl, rfl⟩ := trodAll_nil r1
  obtain rfl : args = #[v0, v1] := by cases args; simp_all
  obtain ⟨rfl, rfl⟩ := trodVars_none hV
  obtain ⟨xs0, hs0, hl0, hb0⟩ := open_floats Try.underlying22 (by kernel_rfl) Try.underlying35 (hval 0 22 v0 rfl rfl) h0
  obtain ⟨n1, rfl, rfl, rfl, wn1⟩ := open_int Try.underlying3 (hval 1 3 v1 rfl rfl) h1
  clear hA0 hval0
  refine (calls_of_does (law (H := all W) v0 xs0 hs0 hl0 n1 (wf_i64 wn1)) (sees_all W)).mono fun e W' ⟨v, H', he, hs, hv, hH⟩ => ?_
  subst he
  subst hv
  subst hH
  exact ⟨_, rfl, post_law laid (of_decide_eq_true (by kernel_rfl)) rfl hW' rfl rfl Try.underlying4 hs.below⟩
theorem over : Rows.fnFlatLength1Row.holds Try.pinned (OpenSpec.ofChange Rows.fnFlatLength1Spec) :=
  OpenClaim.holds_of_wide 6 Try.f6 rfl rfl rfl rfl rfl rfl rfl ⟨rfl, rfl, rfl, rfl, rfl⟩ rfl rfl rfl rfl rfl (by kernel_rfl) Try.func6 (by kernel_rfl)
    (of_decide_eq_true (by kernel_rfl)) (by unfold Func.isWrapper; first | (rw [if_pos (by decide +kernel)]; kernel_rfl) | (rw [if_neg (by decide +kernel)]; exact ⟨rfl, rfl⟩))
    (fun os started H enc _ => lifted os started H enc)
/-- The statement. -/
theorem proved : Rows.FnFlatLength1Said := over
#print axioms proved
end Go.Proofs.Ytefipfiajnepiaa.fnFlatLength1
