/-
  FnReadFlat0: reading a place of bytes gives its numbers, in either order, bit by bit, and leaves the others; an error if there are fewer. No conditions beyond the statement's own.
-/
import Derived.Test.YtddpdmmikheoeaaDoorRows
import Derived.Test.YtddpdmmikheoeaaDoorCards
import Derived.Test.YtddpdmmikheoeaaDoorTie
import Derived.Deep.DeepHandedRow
import Derived.LaidMore
import Derived.Stop.LaidErr
import Derived.Test.YtddpdmmikheoeaaDoorRz1
import Derived.Test.YtddpdmmikheoeaaDoorRz4
set_option linter.unusedVariables false
set_option linter.unusedSimpArgs false
namespace Go.Proofs.YtddpdmmikheoeaaDoor.fnReadFlat0
open Go.Lg Go.Proofs.YtddpdmmikheoeaaDoor.Byt Go.Proofs.YtddpdmmikheoeaaDoor.Flat
open Go.ChangeShapes Go.WideShapes Go.RowKit Go.ChangeAt

theorem exsub {G H : Heap} [h : ExC G H] : List.Sublist H G := by
  obtain ⟨ex, rfl⟩ := h.ex
  exact List.sublist_append_right _ _
theorem fStride (s : Int) (H : Heap) : Does Tryd.prog 5 [.int .i64 s] H fun w H' => w = .bool (decide (2 ≤ s) && decide (s ≤ 9)) ∧ H' = H := by
  refine fn_enter 9 Tryd.func5 fun W => ?_
  repeat' first
    | refine tc_seq ?_ | refine tc_region ?_ | refine at_seq_normal ?_ | refine tl_nil ?_ | refine tl_cons ?_ | refine op_move ?_ | refine op_assign ?_ | refine op_icmp ?_ | refine op_pick_true ?_ | refine op_pick_false ?_
    | refine op_pick_true' ?_ | refine op_pick_false' ?_ | refine tc_ret ?_ | refine at_seq_ret ?_ | refine tl_guard_yes ?_ | refine tl_guard_no ?_ | refine tl_guard_yes' ?_ | refine tl_guard_no' ?_ | refine tl_guard_undef ?_ | refine tl_guard_split (fun _ => ?_) (fun _ => ?_)
  all_goals exact ret_tmp (hk := ⟨by simp only [icmp] at *; simp [*], rfl⟩)
theorem sameW (a1 a2 : Option Addr) (c1 c2 n : Nat) (xs : List Nat) (H : Heap) (hn : xs.length = n) (h1 : FS H (.slice a1 n c1) xs) (h2 : FS H (.slice a2 n c2) xs) (hb : n < 2 ^ 40) :
    Does Tryd.prog 8 [.slice a1 n c1, .slice a2 n c2] H fun w H' => w = .bool true ∧ H' = H := by
  subst hn
  refine (sameFloats a1 a2 c1 c2 xs xs H h1 h2 hb).mono ?_
  rintro _ _ ⟨rfl, rfl⟩
  exact ⟨by rw [decide_eq_true rfl], rfl⟩
theorem zero16 {G : Heap} {k : Nat} {T : TypeId} {fz : Nat × Nat} (h : (k, Obj.cells ⟨List.replicate 16 (.int .u8 0)⟩ T fz) ∈ G) : BS G (.slice (some ⟨k, 0, none⟩) (List.replicate 16 0).length 16) (List.replicate 16 0) :=
  ⟨some ⟨k, 0, none⟩, 16, rfl, Nat.le_refl _, fun _ => ⟨k, 0, _, T, fz, rfl, h, rfl⟩⟩
set_option maxHeartbeats 16000000 in
theorem law {H : Heap} (v : Value) (bs : List Nat) (hv : BS H v bs) (hl : bs.length ≤ 9223372036854775807) (hb : ∀ x ∈ bs, x < 256) (big : Bool) (s : Int) (hs : -9223372036854775808 ≤ s ∧ s ≤ 9223372036854775807) (hE : Byt.Ends H) :
    Does Tryd.prog 3 [v, .bool big, .int .i64 s] H fun w H' => w = .bool true ∧ H' = H := by
  obtain ⟨a, c, rfl⟩ := hv.val
  refine fn_enter 70 Tryd.func3 fun W => ?_
  by_cases h0 : bs.length > 2147483647
  · have e0 : icmp .gtr (bs.length : Int) 2147483647 = true := by simp only [icmp, decide_eq_true_eq]; omega
    repeat' first
      | refine tc_seq ?_ | refine tc_region ?_ | refine at_seq_normal ?_ | refine tl_nil ?_ | refine tl_cons ?_ | refine op_move ?_ | refine op_assign ?_ | refine op_fieldAddr ?_ | refine op_load ?_ | refine op_load_agg ?_
      | refine op_indexC ?_ | refine op_indexAddr1 ?_ | refine op_indexAddr ?_ | refine op_icmp ?_ | refine op_fcmp ?_ | refine op_iarith ?_ | refine op_bcmp ?_ | refine op_unop_not ?_ | refine op_unop_neg_float ?_ | refine op_unop_neg_int ?_
      | refine op_len_slice ?_ | refine op_pick_true ?_ | refine op_pick_false ?_ | refine op_pick_true' ?_ | refine op_pick_false' ?_ | refine op_build ?_ | refine op_extract ?_ | refine op_makeInterface ?_ | refine op_typeAssert ?_ | refine op_ptr_nil ?_
      | refine op_nilCheck_ptr ?_ | refine op_nilCheck_meth ?_ | refine op_makeMeth ?_ | refine op_makeFunc ?_ | refine op_itof ?_ | refine op_itoi ?_ | refine op_ftoi ?_ | refine op_iquo ?_ | refine op_irem ?_ | refine op_ibits ?_
      | refine op_slice_isnil ?_ | refine op_slice_notnil ?_ | refine op_imax ?_ | refine op_imin ?_ | refine op_shl ?_ | refine op_shr ?_ | (refine op_alloc ?_; intro _) | (refine op_box ?_; intro _) | (refine op_buildSlice ?_; intro _) | (refine op_farith ?_; intro _ _)
      | refine op_store0 ?_ | refine op_store1 ?_ | refine op_store2 ?_ | refine op_store3 ?_ | refine op_store4 ?_ | refine op_store5 ?_ | refine op_storeK rfl ?_ | refine op_loadK rfl ?_ | refine op_load_aggK rfl ?_ | refine tc_cond_t ?_
      | refine tc_cond_f ?_ | refine tc_cond (fun _ => ?_) (fun _ => ?_) | refine tc_skip ?_ | refine tc_ret ?_ | refine at_seq_ret ?_ | refine tl_guard_yes ?_ | refine tl_guard_no ?_ | refine tl_guard_yes' ?_ | refine tl_guard_no' ?_ | refine tl_guard_undef ?_
      | refine tl_guard_split (fun _ => ?_) (fun _ => ?_)
    exact ret_tmp (hk := ⟨rfl, rfl⟩)
  have e0 : icmp .gtr (bs.length : Int) 2147483647 = false := by simp only [icmp, decide_eq_false_iff_not]; omega
  by_cases h1 : bs.length > 2000
  · have e1 : icmp .gtr (bs.length : Int) 2000 = true := by simp only [icmp, decide_eq_true_eq]; omega
    repeat' first
      | refine tc_seq ?_ | refine tc_region ?_ | refine at_seq_normal ?_ | refine tl_nil ?_ | refine tl_cons ?_ | refine op_move ?_ | refine op_assign ?_ | refine op_fieldAddr ?_ | refine op_load ?_ | refine op_load_agg ?_
      | refine op_indexC ?_ | refine op_indexAddr1 ?_ | refine op_indexAddr ?_ | refine op_icmp ?_ | refine op_fcmp ?_ | refine op_iarith ?_ | refine op_bcmp ?_ | refine op_unop_not ?_ | refine op_unop_neg_float ?_ | refine op_unop_neg_int ?_
      | refine op_len_slice ?_ | refine op_pick_true ?_ | refine op_pick_false ?_ | refine op_pick_true' ?_ | refine op_pick_false' ?_ | refine op_build ?_ | refine op_extract ?_ | refine op_makeInterface ?_ | refine op_typeAssert ?_ | refine op_ptr_nil ?_
      | refine op_nilCheck_ptr ?_ | refine op_nilCheck_meth ?_ | refine op_makeMeth ?_ | refine op_makeFunc ?_ | refine op_itof ?_ | refine op_itoi ?_ | refine op_ftoi ?_ | refine op_iquo ?_ | refine op_irem ?_ | refine op_ibits ?_
      | refine op_slice_isnil ?_ | refine op_slice_notnil ?_ | refine op_imax ?_ | refine op_imin ?_ | refine op_shl ?_ | refine op_shr ?_ | (refine op_alloc ?_; intro _) | (refine op_box ?_; intro _) | (refine op_buildSlice ?_; intro _) | (refine op_farith ?_; intro _ _)
      | refine op_store0 ?_ | refine op_store1 ?_ | refine op_store2 ?_ | refine op_store3 ?_ | refine op_store4 ?_ | refine op_store5 ?_ | refine op_storeK rfl ?_ | refine op_loadK rfl ?_ | refine op_load_aggK rfl ?_ | refine tc_cond_t ?_
      | refine tc_cond_f ?_ | refine tc_cond (fun _ => ?_) (fun _ => ?_) | refine tc_skip ?_ | refine tc_ret ?_ | refine at_seq_ret ?_ | refine tl_guard_yes ?_ | refine tl_guard_no ?_ | refine tl_guard_yes' ?_ | refine tl_guard_no' ?_ | refine tl_guard_undef ?_
      | refine tl_guard_split (fun _ => ?_) (fun _ => ?_)
    exact ret_tmp (hk := ⟨rfl, rfl⟩)
  have e1 : icmp .gtr (bs.length : Int) 2000 = false := by simp only [icmp, decide_eq_false_iff_not]; omega
  by_cases hst : 2 ≤ s ∧ s ≤ 9
  rotate_left
  · have e2 : (decide (2 ≤ s) && decide (s ≤ 9)) = false := by
      by_cases h2 : 2 ≤ s
      · rw [decide_eq_false (p := s ≤ 9) (fun h => hst ⟨h2, h⟩), Bool.and_false]
      · rw [decide_eq_false h2, Bool.false_and]
    repeat' first
      | (refine op_call ((fStride s _).mono ?_); rintro _ _ ⟨rfl, rfl⟩; rw [e2])
      | (first | refine tc_seq ?_ | refine tc_region ?_ | refine at_seq_normal ?_ | refine tl_nil ?_ | refine tl_cons ?_ | refine op_move ?_ | refine op_assign ?_ | refine op_fieldAddr ?_ | refine op_load ?_ | refine op_load_agg ?_ | refine op_indexC ?_ | refine op_indexAddr1 ?_ | refine op_indexAddr ?_ | refine op_icmp ?_ | refine op_fcmp ?_ | refine op_iarith ?_ | refine op_bcmp ?_ | refine op_unop_not ?_ | refine op_unop_neg_float ?_ | refine op_unop_neg_int ?_ | refine op_len_slice ?_ | refine op_pick_true ?_ | refine op_pick_false ?_ | refine op_pick_true' ?_ | refine op_pick_false' ?_ | refine op_build ?_ | refine op_extract ?_ | refine op_makeInterface ?_ | refine op_typeAssert ?_ | refine op_ptr_nil ?_ | refine op_nilCheck_ptr ?_ | refine op_nilCheck_meth ?_ | refine op_makeMeth ?_ | refine op_makeFunc ?_ | refine op_itof ?_ | refine op_itoi ?_ | refine op_ftoi ?_ | refine op_iquo ?_ | refine op_irem ?_ | refine op_ibits ?_ | refine op_slice_isnil ?_ | refine op_slice_notnil ?_ | refine op_imax ?_ | refine op_imin ?_ | refine op_shl ?_ | refine op_shr ?_ | (refine op_alloc ?_; intro _) | (refine op_box ?_; intro _) | (refine op_buildSlice ?_; intro _) | (refine op_farith ?_; intro _ _) | refine op_store0 ?_ | refine op_store1 ?_ | refine op_store2 ?_ | refine op_store3 ?_ | refine op_store4 ?_ | refine op_store5 ?_ | refine op_storeK rfl ?_ | refine op_loadK rfl ?_ | refine op_load_aggK rfl ?_ | refine tc_cond_t ?_ | refine tc_cond_f ?_ | refine tc_cond (fun _ => ?_) (fun _ => ?_) | refine tc_skip ?_ | refine tc_ret ?_ | refine at_seq_ret ?_ | refine tl_guard_yes ?_ | refine tl_guard_no ?_ | refine tl_guard_yes' ?_ | refine tl_guard_no' ?_ | refine tl_guard_undef ?_ | refine tl_guard_split (fun _ => ?_) (fun _ => ?_) | fail)
      | fail
    exact ret_tmp (hk := ⟨rfl, rfl⟩)
  have e2 : (decide (2 ≤ s) && decide (s ≤ 9)) = true := by rw [decide_eq_true hst.1, decide_eq_true hst.2]; rfl
  obtain ⟨S, rfl⟩ : ∃ S : Nat, s = (S : Int) := ⟨s.toNat, by omega⟩
  have hS2 : 2 ≤ S := by omega
  have hS9 : S ≤ 9 := by omega
  have heq : icmp .eql ((bs.length - 8 * S : Nat) : Int) ((bs.length - 8 * S : Nat) : Int) = true := by simp [icmp]
  repeat' first
    | (refine op_call ((fStride _ _).mono ?_); rintro _ H0 ⟨rfl, rfl⟩; rw [e2])
    | (refine op_call ((takeFloats a bs.length c bs big S _ (hv.mono ins) hb (by omega) (by omega)).mono ?_); rintro _ _ ⟨ex1, rfl, (⟨g1, a1, c1, rfl, F1⟩ | ⟨g1, v1, l1, rfl⟩)⟩)
    | (refine op_call ((implReadFlat0 a c bs big S _ (hv.mono ins) hb (by omega) (by omega) (by omega) (hE.mono ins)).mono ?_); rintro _ _ (⟨g2, a2, c2, rfl, F2, ex2, rfl⟩ | ⟨g2, ⟨v2, l2, rfl⟩, ex2, rfl⟩))
    | (refine op_makeSlice (l := 16) (c := 16) (fun kz => ?_) (by omega) (by omega) (by omega); rw [made_one])
    | (refine op_call ((implReadFlat0 (some ⟨kz, 0, none⟩) 16 (List.replicate 16 0) big 2 _ (zero16 mem0) (fun x hx => by rw [List.eq_of_mem_replicate hx]; decide) (by decide) (by decide) (by decide) (hE.mono ins)).mono ?_); rintro _ _ (⟨g3, a3, c3, rfl, F3, ex3, rfl⟩ | ⟨g3, -, -⟩); rotate_left; exact absurd g3 (by decide))
    | (refine op_call ((sameW _ _ _ _ S (words big bs S) _ (words_len _ _ _) (F2.mono ins) (F1.mono ins) (by omega)).mono ?_); rintro _ _ ⟨rfl, rfl⟩)
    | (first | refine tc_seq ?_ | refine tc_region ?_ | refine at_seq_normal ?_ | refine tl_nil ?_ | refine tl_cons ?_ | refine op_move ?_ | refine op_assign ?_ | refine op_fieldAddr ?_ | refine op_load ?_ | refine op_load_agg ?_ | refine op_indexC ?_ | refine op_indexAddr1 ?_ | refine op_indexAddr ?_ | refine op_icmp ?_ | refine op_fcmp ?_ | refine op_iarith ?_ | refine op_bcmp ?_ | refine op_unop_not ?_ | refine op_unop_neg_float ?_ | refine op_unop_neg_int ?_ | refine op_len_slice ?_ | refine op_pick_true ?_ | refine op_pick_false ?_ | refine op_pick_true' ?_ | refine op_pick_false' ?_ | refine op_build ?_ | refine op_extract ?_ | refine op_makeInterface ?_ | refine op_typeAssert ?_ | refine op_ptr_nil ?_ | refine op_nilCheck_ptr ?_ | refine op_nilCheck_meth ?_ | refine op_makeMeth ?_ | refine op_makeFunc ?_ | refine op_itof ?_ | refine op_itoi ?_ | refine op_ftoi ?_ | refine op_iquo ?_ | refine op_irem ?_ | refine op_ibits ?_ | refine op_slice_isnil ?_ | refine op_slice_notnil ?_ | refine op_imax ?_ | refine op_imin ?_ | refine op_shl ?_ | refine op_shr ?_ | (refine op_alloc ?_; intro _) | (refine op_box ?_; intro _) | (refine op_buildSlice ?_; intro _) | (refine op_farith ?_; intro _ _) | refine op_store0 ?_ | refine op_store1 ?_ | refine op_store2 ?_ | refine op_store3 ?_ | refine op_store4 ?_ | refine op_store5 ?_ | refine op_storeK rfl ?_ | refine op_loadK rfl ?_ | refine op_load_aggK rfl ?_ | refine tc_cond_t ?_ | refine tc_cond_f ?_ | refine tc_cond (fun _ => ?_) (fun _ => ?_) | refine tc_skip ?_ | refine tc_ret ?_ | refine at_seq_ret ?_ | refine tl_guard_yes ?_ | refine tl_guard_no ?_ | refine tl_guard_yes' ?_ | refine tl_guard_no' ?_ | refine tl_guard_undef ?_ | refine tl_guard_split (fun _ => ?_) (fun _ => ?_) | fail)
    | fail
  all_goals first
    | omega
    | exact ret_tmp (hG := exsub) (hk := ⟨congrArg Value.bool heq, rfl⟩)
    | exact ret_tmp (hG := exsub) (hk := ⟨rfl, rfl⟩)
    | skip
theorem row109 (u : TypeId) (h : Tryd.prog.typeName? 3 u = some "*errors.errorString") : u = 109 :=
  typeName_ptr_named (nm := "errors.errorString") (by kernel_rfl) (by kernel_rfl) (by decide) u h
theorem var_mem {W : World} {n : String} {g : Nat} {x : Value} (hg : Tryd.prog.globalNamed n = some g) (h : W.var? Tryd.prog n = some #[x]) : ∃ T fz, (g, Obj.cells ⟨[x]⟩ T fz) ∈ all W := by
  unfold World.var? at h
  rw [hg] at h
  simp only [Option.bind_some] at h
  split at h
  · rename_i cs' T fz heq
    cases h
    exact ⟨T, fz, mem_all.2 heq⟩
  · cases h
theorem laidE {W : World} (h : laidMetH Tryd.prog Rows.fnReadFlat0Row.laid W) : Byt.Ends (all W) := by
  have h' : laidMet Tryd.prog Rows.fnReadFlat0Row.laid W := h
  obtain ⟨a, s, hv, -, -, -⟩ := laid_sentinel h'.tail (g := 5) (ti := 50) (tp := 109) (te := 132) (by kernel_rfl) (by kernel_rfl) Tryd.underlying50 row109 Tryd.underlying109 Tryd.underlying132 rfl rfl Tryd.underlying9 (by kernel_rfl) (by kernel_rfl)
  obtain ⟨a2, s2, hv2, -, -, -⟩ := laid_sentinel h'.tail.tail (g := 6) (ti := 50) (tp := 109) (te := 132) (by kernel_rfl) (by kernel_rfl) Tryd.underlying50 row109 Tryd.underlying109 Tryd.underlying132 rfl rfl Tryd.underlying9 (by kernel_rfl) (by kernel_rfl)
  obtain ⟨T, fz, m⟩ := var_mem (g := 5) (by kernel_rfl) hv
  obtain ⟨T2, fz2, m2⟩ := var_mem (g := 6) (by kernel_rfl) hv2
  exact ⟨⟨a, T, fz, m⟩, _, _, T2, fz2, m2⟩
theorem own : ownKnob Tryd.prog.godebug = none := by kernel_rfl
theorem laid : laidOutB Tryd.prog = true := by kernel_rfl
noncomputable def laidWorld (os : Os) : World := World.doorLaid Tryd.prog 400 os
theorem laid_met (os : Os) : laidMet Tryd.prog Rows.fnReadFlat0Row.laid ((laidWorld os).forCall (fun _ _ => 0) ⟨#[], #[.slice none 0 0, .bool false, .int .i64 0], []⟩).memory :=
  laidMet_of_run' 8 (by kernel_rfl) (by kernel_rfl)
theorem reads (os : Os) {H : Type} (enc : TypeId × Value → H) : ∃ places, DataW.whole enc Tryd.prog ((laidWorld os).forCall (fun _ _ => 0) ⟨#[], #[.slice none 0 0, .bool false, .int .i64 0], []⟩).memory Tryd.f3.params.toList Rows.fnReadFlat0Spec.vars false (#[.slice none 0 0, .bool false, .int .i64 0] : Array Value).toList 8 = some ([.nil, .lit (.bool false), .lit (.int .i64 0)], [], places) :=
  ⟨[], by kernel_rfl⟩
set_option maxRecDepth 100000 in
theorem lifted (os : Os) (started : os.Started) (H : Type) (enc : TypeId × Value → H) (F : Stop.Interp) :
    ReturnsInHanded {} Tryd.checked os 3 .any ((OpenSpec.ofChange Rows.fnReadFlat0Spec).preRow enc Tryd.prog Tryd.f3 Rows.fnReadFlat0Row.domain false Rows.fnReadFlat0Row.laid) (((OpenSpec.ofChange Rows.fnReadFlat0Spec).at F).post enc Tryd.prog Tryd.f3 false true false false) := by
  obtain ⟨places, hx⟩ := reads os enc
  refine returnsInHanded_of_row (C := Tryd.checked) (s := OpenSpec.ofChange Rows.fnReadFlat0Spec) own started (by kernel_rfl) Tryd.func3
    (witness_row_at (enc := enc) (C := Tryd.checked) false (laidWorld os) #[.slice none 0 0, .bool false, .int .i64 0] rfl (by kernel_rfl) (by kernel_rfl) (by kernel_rfl)
      (OpenSpec.preRow_of_cond 8 hx (by kernel_rfl) (fun k hk => by cases hk) (by kernel_rfl) (laid_met os))) ?_
  intro W base args ds gs before hval0 hW _ hcond _ hL _ _
  have hval : ∀ (j : Nat) t v, Tryd.f3.params[j]? = some t → args[j]? = some v → Value.okWide Tryd.prog W .any base t v := hval0
  have hW' := hW
  obtain ⟨p, q, hA0, hV, rfl, hfz, hnd⟩ := hW'
  have hA : DataW.TrodAll enc Tryd.prog W 0 (fun _ => true) true Tryd.f3.params.toList args.toList ds p := hA0
  rw [Tryd.params3] at hA hval
  obtain ⟨v0, vs0, d0, ds0, p0, q0, hargs, rfl, rfl, h0, r0⟩ := trodAll_cons hA
  obtain ⟨v1, vs1, d1, ds1, p1, q1, rfl, rfl, rfl, h1, r1⟩ := trodAll_cons r0
  obtain ⟨v2, vs2, d2, ds2, p2, q2, rfl, rfl, rfl, h2, r2⟩ := trodAll_cons r1
  obtain ⟨rfl, rfl, rfl⟩ := trodAll_nil r2
  obtain rfl : args = #[v0, v1, v2] := by cases args; simp_all
  obtain ⟨rfl, rfl⟩ := trodVars_none hV
  obtain ⟨xs0, hs0, hl0, hb0⟩ := open_bytes Tryd.underlying22 (by kernel_rfl) Tryd.underlying5 (hval 0 22 v0 rfl rfl) h0
  obtain ⟨b1, rfl, rfl, rfl⟩ := open_bool Tryd.underlying4 (hval 1 4 v1 rfl rfl) h1
  obtain ⟨n2, rfl, rfl, rfl, wn2⟩ := open_int Tryd.underlying3 (hval 2 3 v2 rfl rfl) h2
  clear hA0 hval0
  refine (calls_of_does (law (H := all W) v0 xs0 hs0 hl0 hb0 b1 n2 (wf_i64 wn2) (laidE hL)) (sees_all W)).mono fun e W' ⟨v, H', he, hs, hv, hH⟩ => ?_
  subst he
  subst hv
  subst hH
  exact ⟨_, rfl, post_law laid (of_decide_eq_true (by kernel_rfl)) rfl hW rfl rfl Tryd.underlying4 hs.below⟩
theorem said : Rows.FnReadFlat0Said :=
  OpenClaim.holds_of_cond 3 Tryd.f3 rfl rfl rfl rfl rfl rfl rfl ⟨rfl, rfl, rfl, rfl, rfl⟩ rfl rfl rfl rfl rfl (by kernel_rfl) Tryd.func3 (by kernel_rfl)
    (of_decide_eq_true (by kernel_rfl)) (by unfold Func.isWrapper; first | (rw [if_pos (by decide +kernel)]; kernel_rfl) | (rw [if_neg (by decide +kernel)]; exact ⟨rfl, rfl⟩))
    (fun os started H enc _ F => by rw [OpenClaim.pre_eq_preRow]; exact lifted os started H enc F)
theorem plain (f : FuncId) (fn : Func) (hf : Tryd.pinned.checked.prog.funcNamed "pub-orthodrome/laws.FnReadFlat0" = some f) (hfn : Tryd.pinned.checked.prog.funcs[f]? = some fn) :
    true = Tryd.pinned.checked.prog.looks [] ∧ ∀ (j : Nat) t, fn.params[j]? = some t → Tryd.pinned.checked.prog.wantsStandIn t = false := by
  obtain rfl : f = 3 := Option.some.inj ((show Tryd.prog.funcNamed "pub-orthodrome/laws.FnReadFlat0" = some 3 by kernel_rfl).symm.trans hf) |>.symm
  obtain rfl : fn = Tryd.f3 := (Option.some.inj (Tryd.func3.symm.trans hfn)).symm
  refine ⟨by kernel_rfl, fun j t ht => ?_⟩
  rw [Tryd.params3] at ht
  have hm := Array.mem_of_getElem? ht
  simp only [List.mem_toArray, List.mem_cons, List.not_mem_nil, or_false] at hm
  rcases hm with rfl | rfl | rfl
  · exact (show Tryd.prog.wantsStandIn 22 = false by kernel_rfl)
  · exact (show Tryd.prog.wantsStandIn 4 = false by kernel_rfl)
  · exact (show Tryd.prog.wantsStandIn 3 = false by kernel_rfl)
/-- The card. -/
theorem proved : Rows.FnReadFlat0CardSaid :=
  Claim7.holds_tied_plain_at .later [] _ _ _ _ said (fun _ h => by cases h) (by kernel_rfl) (fun _ h => by cases h) fnReadFlat0_row_tie rfl ⟨rfl, rfl⟩ (by kernel_rfl) rfl plain (by kernel_rfl)
#print axioms proved
end Go.Proofs.YtddpdmmikheoeaaDoor.fnReadFlat0
