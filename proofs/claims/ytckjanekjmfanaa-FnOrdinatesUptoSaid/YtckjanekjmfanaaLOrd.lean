/-
  FnOrdinates: a point has X and Y, and Z and M as far as its layout has them. Of the second form (arguments of bulk at most 1048576). No conditions beyond the statement's own.
-/
import Derived.Test.YtckjanekjmfanaaRows
import Derived.Test.YtckjanekjmfanaaGeor
import Derived.Test.YtckjanekjmfanaaGeo4
import Derived.Test.YtckjanekjmfanaaFits
import Derived.Test.YtckjanekjmfanaaOrdi
set_option linter.unusedVariables false
set_option linter.unusedSimpArgs false
namespace Go.Proofs.Ytckjanekjmfanaa.fnOrdinates
open Go.Lg Go.Proofs.Ytckjanekjmfanaa.Geom Go.Proofs.Ytckjanekjmfanaa.Gm
open Go.ChangeShapes Go.WideShapes Go.RowKit

theorem sl_one7 {G : Heap} {k : Nat} {T : TypeId} {fz : Nat × Nat} {cs : List Value} (hl : cs.length = 7) (hm : (k, Obj.cells ⟨cs⟩ T fz) ∈ G) : SlN 7 G (.slice (some ⟨k, 0, none⟩) 1 1) 1 ([cs].flatten) :=
  ⟨by simpa using hl, some ⟨k, 0, none⟩, 1, rfl, Nat.le_refl _, fun _ => ⟨k, 0, cs, T, fz, rfl, hm, by simp [← hl]⟩⟩
theorem fs_block {G : Heap} {a : Option Addr} {n c : Nat} {zs : List Nat} (h : FS G (.slice a n c) zs) (hn : zs ≠ []) :
    ∃ k off l T fz, a = some ⟨k, off, none⟩ ∧ (k, Obj.cells ⟨l⟩ T fz) ∈ G ∧ ∀ i, i < zs.length → l[off + i]? = some (.float .f64 (zs.getD i 0)) := by
  obtain ⟨a', cap, h1, h0, h2⟩ := h
  obtain ⟨k, off, l, T, fz, h3, h4, h5⟩ := h2 (by simpa using hn)
  cases h1
  refine ⟨k, off, l, T, fz, h3, h4, fun i hi => cut_get h5 ?_⟩
  rw [List.getElem?_map, get_of hi]; rfl
theorem point_len {l s : Int} {f : List Nat} {e : List Int} {ee : List (List Int)} {ks : List Geo} (h : (Geo.mk 1 l s f e ee ks).wt ≤ 2000 ∧ (Geo.mk 1 l s f e ee ks).Lay 9 ∧ (Geo.mk 1 l s f e ee ks).Good) (h0 : f.length ≠ 0) : (f.length : Int) = strideI l ∧ 1 ≤ l := by
  obtain ⟨_, h2, h3⟩ := h
  unfold Geo.Lay at h2
  unfold Geo.Good at h3
  have hl : 1 ≤ l := by rcases h2.2.2 with h | h <;> omega
  refine ⟨?_, hl⟩
  rcases h3 with h | ⟨_, _, hm, _, _, hk⟩
  · omega
  have h2 := strideI_two hl
  have hle : (f.length : Int) ≤ strideI l := by
    unfold Kd at hk
    rcases hk with h | h | h | h <;> omega
  rcases Int.lt_or_eq_of_le hle with h | h
  · exfalso
    rw [Int.tmod_eq_of_lt (by omega) h] at hm
    omega
  · exact h
set_option maxHeartbeats 16000000 in
theorem law {H : Heap} (g : Geo) (cs : List Value) (hg : IsG H g cs) (hw : g.wt ≤ 1048576) : Does Try.prog 3 [.agg ⟨cs⟩] H fun w H' => w = .bool true ∧ H' = H := by
  have hg0 := hg
  match g, hg, hw, hg0 with
  | .mk k l s f e ee ks, hg, hw, hg0 =>
  obtain ⟨vf, ve, vee, vk, rows, rfl, hf, he, hee, hk, hx1, hx2, hx3⟩ := hg
  obtain ⟨af, cf, rfl⟩ := hf.val
  have hwt : Geo.wts [Geo.mk k l s f e ee ks] < 2 ^ 61 := by simp only [Geo.wts]; omega
  cases hgd : goodAll [Geo.mk k l s f e ee ks]
  · refine fn_enter 82 Try.func3 fun W => ?_
    repeat' first
      | (first | refine tl_defer ?_ | refine tc_seq ?_ | refine tc_region ?_ | refine at_seq_normal ?_ | refine tl_nil ?_ | refine tl_cons ?_ | refine tl_cons_none ?_ | refine op_move ?_ | refine op_assign ?_ | refine op_fieldAddr ?_ | refine op_load ?_ | refine op_load_agg ?_ | refine op_indexC ?_ | refine op_indexAddr1 ?_ | refine op_indexAddr ?_ | refine op_icmp ?_ | refine op_fcmp ?_ | refine op_iarith ?_ | refine op_bcmp ?_ | refine op_unop_not ?_ | refine op_unop_neg_float ?_ | refine op_unop_neg_int ?_ | refine op_len_slice ?_ | refine op_pick_true ?_ | refine op_pick_false ?_ | refine op_pick_true' ?_ | refine op_pick_false' ?_ | refine op_build ?_ | refine op_extract ?_ | refine op_makeInterface ?_ | refine op_typeAssert ?_ | refine op_ptr_nil ?_ | refine op_nilCheck_ptr ?_ | refine op_nilCheck_meth ?_ | refine op_makeMeth ?_ | refine op_makeFunc ?_ | refine op_itof ?_ | refine op_itoi ?_ | refine op_ftoi ?_ | refine op_iquo ?_ | refine op_irem ?_ | refine op_ibits ?_ | refine op_slice_isnil ?_ | refine op_slice_notnil ?_ | refine op_imax ?_ | refine op_imin ?_ | refine op_shl ?_ | refine op_shr ?_ | (refine op_alloc ?_; intro _) | (refine op_box ?_; intro _) | (refine op_buildSlice ?_; intro _) | (refine op_farith ?_; intro _ _) | refine op_store0 ?_ | refine op_store1 ?_ | refine op_store2 ?_ | refine op_store3 ?_ | refine op_store4 ?_ | refine op_store5 ?_ | refine tc_cond_t ?_ | refine tc_cond_f ?_ | refine tc_cond (fun _ => ?_) (fun _ => ?_) | refine tc_block ?_ | refine tc_skip ?_ | refine tc_ret ?_ | refine tc_exit ?_ | refine tc_label ?_ | refine at_seq_ret ?_ | refine at_seq_exit ?_ | refine at_block_normal ?_ | refine at_block_ret ?_ | refine at_block_exit_self ?_ | refine at_block_exit_ne ?_ | refine at_loop_ret ?_ | refine at_loop_exit ?_ | refine at_loop_goto ?_ | refine tl_guard_yes ?_ | refine tl_guard_no ?_ | refine tl_guard_yes' ?_ | refine tl_guard_no' ?_ | refine tl_guard_undef ?_ | refine tl_guard_split (fun _ => ?_) (fun _ => ?_))
      | (refine op_call ((zzFits2 _ _ _ (IsG.mono (fun e he => by simp [he]) hg0) hw).mono ?_); rintro _ _ ⟨⟨b, rfl⟩, rfl⟩)
      | (refine op_call ((gGood [Geo.mk k l s f e ee ks] _ _ _ _ hwt (sl_one7 rfl mem0) ⟨IsG.mono (fun e he => by simp [he]) hg0, trivial⟩).mono ?_); rintro _ _ ⟨rfl, rfl⟩; rw [hgd])
      | fail
    all_goals exact ret_tmp (hG := by (repeat (first | exact List.Sublist.refl _ | apply List.Sublist.cons_cons | apply List.Sublist.cons | refine List.Sublist.trans ?_ (List.sublist_append_right _ _)))) (hk := ⟨rfl, rfl⟩)
  by_cases hk1 : k = 1
  rotate_left
  · have hc1 : icmp .neq k 1 = true := by simp only [icmp, bne_iff_ne]; exact hk1
    refine fn_enter 82 Try.func3 fun W => ?_
    repeat' first
      | (first | refine tl_defer ?_ | refine tc_seq ?_ | refine tc_region ?_ | refine at_seq_normal ?_ | refine tl_nil ?_ | refine tl_cons ?_ | refine tl_cons_none ?_ | refine op_move ?_ | refine op_assign ?_ | refine op_fieldAddr ?_ | refine op_load ?_ | refine op_load_agg ?_ | refine op_indexC ?_ | refine op_indexAddr1 ?_ | refine op_indexAddr ?_ | refine op_icmp ?_ | refine op_fcmp ?_ | refine op_iarith ?_ | refine op_bcmp ?_ | refine op_unop_not ?_ | refine op_unop_neg_float ?_ | refine op_unop_neg_int ?_ | refine op_len_slice ?_ | refine op_pick_true ?_ | refine op_pick_false ?_ | refine op_pick_true' ?_ | refine op_pick_false' ?_ | refine op_build ?_ | refine op_extract ?_ | refine op_makeInterface ?_ | refine op_typeAssert ?_ | refine op_ptr_nil ?_ | refine op_nilCheck_ptr ?_ | refine op_nilCheck_meth ?_ | refine op_makeMeth ?_ | refine op_makeFunc ?_ | refine op_itof ?_ | refine op_itoi ?_ | refine op_ftoi ?_ | refine op_iquo ?_ | refine op_irem ?_ | refine op_ibits ?_ | refine op_slice_isnil ?_ | refine op_slice_notnil ?_ | refine op_imax ?_ | refine op_imin ?_ | refine op_shl ?_ | refine op_shr ?_ | (refine op_alloc ?_; intro _) | (refine op_box ?_; intro _) | (refine op_buildSlice ?_; intro _) | (refine op_farith ?_; intro _ _) | refine op_store0 ?_ | refine op_store1 ?_ | refine op_store2 ?_ | refine op_store3 ?_ | refine op_store4 ?_ | refine op_store5 ?_ | refine tc_cond_t ?_ | refine tc_cond_f ?_ | refine tc_cond (fun _ => ?_) (fun _ => ?_) | refine tc_block ?_ | refine tc_skip ?_ | refine tc_ret ?_ | refine tc_exit ?_ | refine tc_label ?_ | refine at_seq_ret ?_ | refine at_seq_exit ?_ | refine at_block_normal ?_ | refine at_block_ret ?_ | refine at_block_exit_self ?_ | refine at_block_exit_ne ?_ | refine at_loop_ret ?_ | refine at_loop_exit ?_ | refine at_loop_goto ?_ | refine tl_guard_yes ?_ | refine tl_guard_no ?_ | refine tl_guard_yes' ?_ | refine tl_guard_no' ?_ | refine tl_guard_undef ?_ | refine tl_guard_split (fun _ => ?_) (fun _ => ?_))
      | (refine op_call ((zzFits2 _ _ _ (IsG.mono (fun e he => by simp [he]) hg0) hw).mono ?_); rintro _ _ ⟨⟨b, rfl⟩, rfl⟩)
      | (refine op_call ((gGood [Geo.mk k l s f e ee ks] _ _ _ _ hwt (sl_one7 rfl mem0) ⟨IsG.mono (fun e he => by simp [he]) hg0, trivial⟩).mono ?_); rintro _ _ ⟨rfl, rfl⟩; rw [hgd])
      | fail
    all_goals exact ret_tmp (hG := by (repeat (first | exact List.Sublist.refl _ | apply List.Sublist.cons_cons | apply List.Sublist.cons | refine List.Sublist.trans ?_ (List.sublist_append_right _ _)))) (hk := ⟨rfl, rfl⟩)
  subst hk1
  by_cases hf0 : f.length = 0
  · have hc1 : icmp .eql (f.length : Int) 0 = true := by simp only [icmp, beq_iff_eq]; omega
    refine fn_enter 82 Try.func3 fun W => ?_
    repeat' first
      | (first | refine tl_defer ?_ | refine tc_seq ?_ | refine tc_region ?_ | refine at_seq_normal ?_ | refine tl_nil ?_ | refine tl_cons ?_ | refine tl_cons_none ?_ | refine op_move ?_ | refine op_assign ?_ | refine op_fieldAddr ?_ | refine op_load ?_ | refine op_load_agg ?_ | refine op_indexC ?_ | refine op_indexAddr1 ?_ | refine op_indexAddr ?_ | refine op_icmp ?_ | refine op_fcmp ?_ | refine op_iarith ?_ | refine op_bcmp ?_ | refine op_unop_not ?_ | refine op_unop_neg_float ?_ | refine op_unop_neg_int ?_ | refine op_len_slice ?_ | refine op_pick_true ?_ | refine op_pick_false ?_ | refine op_pick_true' ?_ | refine op_pick_false' ?_ | refine op_build ?_ | refine op_extract ?_ | refine op_makeInterface ?_ | refine op_typeAssert ?_ | refine op_ptr_nil ?_ | refine op_nilCheck_ptr ?_ | refine op_nilCheck_meth ?_ | refine op_makeMeth ?_ | refine op_makeFunc ?_ | refine op_itof ?_ | refine op_itoi ?_ | refine op_ftoi ?_ | refine op_iquo ?_ | refine op_irem ?_ | refine op_ibits ?_ | refine op_slice_isnil ?_ | refine op_slice_notnil ?_ | refine op_imax ?_ | refine op_imin ?_ | refine op_shl ?_ | refine op_shr ?_ | (refine op_alloc ?_; intro _) | (refine op_box ?_; intro _) | (refine op_buildSlice ?_; intro _) | (refine op_farith ?_; intro _ _) | refine op_store0 ?_ | refine op_store1 ?_ | refine op_store2 ?_ | refine op_store3 ?_ | refine op_store4 ?_ | refine op_store5 ?_ | refine tc_cond_t ?_ | refine tc_cond_f ?_ | refine tc_cond (fun _ => ?_) (fun _ => ?_) | refine tc_block ?_ | refine tc_skip ?_ | refine tc_ret ?_ | refine tc_exit ?_ | refine tc_label ?_ | refine at_seq_ret ?_ | refine at_seq_exit ?_ | refine at_block_normal ?_ | refine at_block_ret ?_ | refine at_block_exit_self ?_ | refine at_block_exit_ne ?_ | refine at_loop_ret ?_ | refine at_loop_exit ?_ | refine at_loop_goto ?_ | refine tl_guard_yes ?_ | refine tl_guard_no ?_ | refine tl_guard_yes' ?_ | refine tl_guard_no' ?_ | refine tl_guard_undef ?_ | refine tl_guard_split (fun _ => ?_) (fun _ => ?_))
      | (refine op_call ((zzFits2 _ _ _ (IsG.mono (fun e he => by simp [he]) hg0) hw).mono ?_); rintro _ _ ⟨⟨b, rfl⟩, rfl⟩)
      | (refine op_call ((gGood [Geo.mk 1 l s f e ee ks] _ _ _ _ hwt (sl_one7 rfl mem0) ⟨IsG.mono (fun e he => by simp [he]) hg0, trivial⟩).mono ?_); rintro _ _ ⟨rfl, rfl⟩; rw [hgd])
      | fail
    all_goals exact ret_tmp (hG := by (repeat (first | exact List.Sublist.refl _ | apply List.Sublist.cons_cons | apply List.Sublist.cons | refine List.Sublist.trans ?_ (List.sublist_append_right _ _)))) (hk := ⟨rfl, rfl⟩)
  have hcf : icmp .eql (f.length : Int) 0 = false := by simp only [icmp, beq_eq_false_iff_ne]; omega
  obtain ⟨hlen, hl1⟩ := point_len (goodAll_one hgd) hf0
  have h2 := strideI_two hl1
  obtain ⟨kf, off, lf, Tf, zf, rfl, hmf, hcut⟩ := fs_block hf (by intro h; rw [h] at hf0; exact hf0 rfl)
  have g0 := hcut 0 (by omega)
  have g1 := hcut 1 (by omega)
  have hq0 : 0 < f.length := by omega
  have hq1 : 1 < f.length := by omega
  rcases (show l = 1 ∨ l = 2 ∨ l = 3 ∨ 4 ≤ l by omega) with hlc | hlc | hlc | hlc
  · have ceql2 : icmp .eql l 2 = false := by simp only [icmp, beq_eq_false_iff_ne]; omega
    have cgeq4 : icmp .geq l 4 = false := by simp only [icmp, decide_eq_false_iff_not]; omega
    have ceql3 : icmp .eql l 3 = false := by simp only [icmp, beq_eq_false_iff_ne]; omega
    have hz : zOf l f = 0 := by unfold zOf; rw [if_pos (by omega)]
    have hm : mOf l f = 0 := by unfold mOf; rw [if_pos (by omega)]
    refine fn_enter 82 Try.func3 fun W => ?_
    repeat' first
      | (first | refine tl_defer ?_ | refine tc_seq ?_ | refine tc_region ?_ | refine at_seq_normal ?_ | refine tl_nil ?_ | refine tl_cons ?_ | refine tl_cons_none ?_ | refine op_move ?_ | refine op_assign ?_ | refine op_fieldAddr ?_ | refine op_load ?_ | refine op_load_agg ?_ | refine op_indexC ?_ | refine op_indexAddr1 ?_ | refine op_indexAddr ?_ | refine op_icmp ?_ | refine op_fcmp ?_ | refine op_iarith ?_ | refine op_bcmp ?_ | refine op_unop_not ?_ | refine op_unop_neg_float ?_ | refine op_unop_neg_int ?_ | refine op_len_slice ?_ | refine op_pick_true ?_ | refine op_pick_false ?_ | refine op_pick_true' ?_ | refine op_pick_false' ?_ | refine op_build ?_ | refine op_extract ?_ | refine op_makeInterface ?_ | refine op_typeAssert ?_ | refine op_ptr_nil ?_ | refine op_nilCheck_ptr ?_ | refine op_nilCheck_meth ?_ | refine op_makeMeth ?_ | refine op_makeFunc ?_ | refine op_itof ?_ | refine op_itoi ?_ | refine op_ftoi ?_ | refine op_iquo ?_ | refine op_irem ?_ | refine op_ibits ?_ | refine op_slice_isnil ?_ | refine op_slice_notnil ?_ | refine op_imax ?_ | refine op_imin ?_ | refine op_shl ?_ | refine op_shr ?_ | (refine op_alloc ?_; intro _) | (refine op_box ?_; intro _) | (refine op_buildSlice ?_; intro _) | (refine op_farith ?_; intro _ _) | refine op_store0 ?_ | refine op_store1 ?_ | refine op_store2 ?_ | refine op_store3 ?_ | refine op_store4 ?_ | refine op_store5 ?_ | refine tc_cond_t ?_ | refine tc_cond_f ?_ | refine tc_cond (fun _ => ?_) (fun _ => ?_) | refine tc_block ?_ | refine tc_skip ?_ | refine tc_ret ?_ | refine tc_exit ?_ | refine tc_label ?_ | refine at_seq_ret ?_ | refine at_seq_exit ?_ | refine at_block_normal ?_ | refine at_block_ret ?_ | refine at_block_exit_self ?_ | refine at_block_exit_ne ?_ | refine at_loop_ret ?_ | refine at_loop_exit ?_ | refine at_loop_goto ?_ | refine tl_guard_yes ?_ | refine tl_guard_no ?_ | refine tl_guard_yes' ?_ | refine tl_guard_no' ?_ | refine tl_guard_undef ?_ | refine tl_guard_split (fun _ => ?_) (fun _ => ?_))
      | (refine op_call ((zzFits2 _ _ _ (IsG.mono (fun e he => by simp [he]) hg0) hw).mono ?_); rintro _ _ ⟨⟨b, rfl⟩, rfl⟩)
      | (refine op_call ((gGood [Geo.mk 1 l s f e ee ks] _ _ _ _ hwt (sl_one7 rfl mem0) ⟨IsG.mono (fun e he => by simp [he]) hg0, trivial⟩).mono ?_); rintro _ _ ⟨rfl, rfl⟩; rw [hgd])
      | (refine op_call ((implOrd l s _ _ _ _ f _ hl1 (hf.mono fun e he => by simp [he]) (by unfold Geo.wt at hw; omega) hlen).mono ?_); rintro _ _ ⟨rfl, ex, rfl⟩)
      | fail
    · exact ret_tmp (hG := by (repeat (first | exact List.Sublist.refl _ | apply List.Sublist.cons_cons | apply List.Sublist.cons | refine List.Sublist.trans ?_ (List.sublist_append_right _ _)))) (hk := ⟨rfl, rfl⟩)
    refine tc_weak (fun _ _ h => h) (List.sublist_append_right _ _) ?_
    apply fun hole0 hole1 hole2 hole3 hole4 hole5 hole6 hole7 hole8 hole9 hole10 hole11 hole12 hole13 hole14 hole15 hole16 hE hD hml hdl hpr prem fin => tc_drawn 20 [is hole0, is hole1, is hole2, is hole3, is hole4, is hole5, (fun w ex G => ∃ k, w = .slice (some ⟨k, 0, none⟩) 4 4 ∧ (k, Obj.cells ⟨[.float .f64 (f.getD 0 0), .float .f64 (f.getD 1 0), .float .f64 (zOf l f), .float .f64 (mOf l f)]⟩ 30 (0, 0)) ∈ G), is hole6, is hole7, is hole8, is hole9, is hole10, is hole11, is hole12, is hole13, is hole14, is hole15, (fun w ex G => ∃ k, w = .slice (some ⟨k, 0, none⟩) 4 4 ∧ (k, Obj.cells ⟨[.float .f64 (f.getD 0 0), .float .f64 (f.getD 1 0), .float .f64 (0), .float .f64 (0)]⟩ 30 (0, 0)) ∈ G), (is (.bool true)), is hole16]
      [some 62, some 63, some 64, some 65, some 66, some 67, some 68, some 69, some 70, some 71, some 72, some 73, some 74, some 75, some 76, some 77, some 78, some 79, some 80, some 81, some 2] [[], [0], [1], [1], [1], [1], [2, 3, 4, 5, 1], [1], [7, 1], [8, 1], [9, 1], [1], [11, 1], [12, 1], [13, 1], [1], [1], [10, 14, 15, 16, 1], [6, 17, 1], [1, 18]] mixed ⟨(is_mono _), (is_mono _), (is_mono _), (is_mono _), (is_mono _), (is_mono _), (fun _ _ _ _ ⟨k, h1, h2⟩ hs => ⟨k, h1, hs _ h2⟩), (is_mono _), (is_mono _), (is_mono _), (is_mono _), (is_mono _), (is_mono _), (is_mono _), (is_mono _), (is_mono _), (is_mono _), (fun _ _ _ _ ⟨k, h1, h2⟩ hs => ⟨k, h1, hs _ h2⟩), (some_mono _), (is_mono _), trivial⟩ prem fin hE hD rfl hml hdl hpr
    rotate_left 18
    · exact rfl
    · exact rfl
    · exact Nat.le_of_ble_eq_true rfl
    · exact rfl
    · exact rfl
    refine ⟨fun G hG => ?_, fun G hG => ?_, fun G hG => ?_, fun G hG => ?_, fun G hG => ?_, fun G hG => ?_, fun G hG => ?_, fun G hG => ?_, fun G hG => ?_, fun G hG => ?_, fun G hG => ?_, fun G hG => ?_, fun G hG => ?_, fun G hG => ?_, fun G hG => ?_, fun G hG => ?_, fun G hG => ?_, fun G hG => ?_, fun G hG => ?_, fun G hG => ?_, trivial⟩
    · simp only [with2, Step2, nthDst, putO]
      (refine op_move ?_; exact ⟨[], rfl, rfl, rfl⟩)
    · rintro _ _ ⟨rfl, rfl⟩ -
      simp only [with2, Step2, nthDst, putO]
      (refine op_move ?_; exact ⟨[], rfl, rfl, rfl⟩)
    · rintro _ _ ⟨rfl, rfl⟩ -
      simp only [with2, Step2, nthDst, putO]
      (first | refine .inr ⟨_, rfl, rfl, [], rfl, rfl, rfl⟩ | refine .inl ⟨_, _, rfl, rfl, fun _ => ?_, fun h => absurd h (by first | decide | (refine ne_not ?_; assumption))⟩ | refine .inl ⟨_, _, rfl, rfl, (fun h => absurd h (by first | decide | (refine ne_not2 ?_; assumption))), fun _ => ⟨[], rfl, rfl, rfl⟩⟩)
      (all_goals (refine op_move ?_; exact ⟨[], rfl, rfl, rfl⟩))
    · rintro _ _ ⟨rfl, rfl⟩ -
      simp only [with2, Step2, nthDst, putO]
      (first | refine .inr ⟨_, rfl, rfl, [], rfl, rfl, rfl⟩ | refine .inl ⟨_, _, rfl, rfl, fun _ => ?_, fun h => absurd h (by first | decide | (refine ne_not ?_; assumption))⟩ | refine .inl ⟨_, _, rfl, rfl, (fun h => absurd h (by first | decide | (refine ne_not2 ?_; assumption))), fun _ => ⟨[], rfl, rfl, rfl⟩⟩)
      (all_goals (refine op_move ?_; exact ⟨[], rfl, rfl, rfl⟩))
    · rintro _ _ ⟨rfl, rfl⟩ -
      simp only [with2, Step2, nthDst, putO]
      (first | refine .inr ⟨_, rfl, rfl, [], rfl, rfl, rfl⟩ | refine .inl ⟨_, _, rfl, rfl, fun _ => ?_, fun h => absurd h (by first | decide | (refine ne_not ?_; assumption))⟩ | refine .inl ⟨_, _, rfl, rfl, (fun h => absurd h (by first | decide | (refine ne_not2 ?_; assumption))), fun _ => ⟨[], rfl, rfl, rfl⟩⟩)
      (all_goals (refine op_move ?_; exact ⟨[], rfl, rfl, rfl⟩))
    · rintro _ _ ⟨rfl, rfl⟩ -
      simp only [with2, Step2, nthDst, putO]
      (first | refine .inr ⟨_, rfl, rfl, [], rfl, rfl, rfl⟩ | refine .inl ⟨_, _, rfl, rfl, fun _ => ?_, fun h => absurd h (by first | decide | (refine ne_not ?_; assumption))⟩ | refine .inl ⟨_, _, rfl, rfl, (fun h => absurd h (by first | decide | (refine ne_not2 ?_; assumption))), fun _ => ⟨[], rfl, rfl, rfl⟩⟩)
      (all_goals (refine op_move ?_; exact ⟨[], rfl, rfl, rfl⟩))
    · rintro _ _ ⟨rfl, rfl⟩ - _ _ ⟨rfl, rfl⟩ - _ _ ⟨rfl, rfl⟩ - _ _ ⟨rfl, rfl⟩ - _ _ ⟨rfl, rfl⟩ -
      simp only [with2, Step2, nthDst, putO]
      (first | refine .inr ⟨_, rfl, rfl, [], rfl, rfl, rfl⟩ | refine .inl ⟨_, _, rfl, rfl, fun _ => ?_, fun h => absurd h (by first | decide | (refine ne_not ?_; assumption))⟩ | refine .inl ⟨_, _, rfl, rfl, (fun h => absurd h (by first | decide | (refine ne_not2 ?_; assumption))), fun _ => ⟨[], rfl, rfl, rfl⟩⟩)
      (all_goals ((refine op_buildSlice (fun k => ?_); exact ⟨[_], rfl, k, rfl, mem0⟩)))
    · rintro _ _ ⟨rfl, rfl⟩ -
      simp only [with2, Step2, nthDst, putO]
      (first | refine .inr ⟨_, rfl, rfl, [], rfl, rfl, rfl⟩ | refine .inl ⟨_, _, rfl, rfl, fun _ => ?_, fun h => absurd h (by first | decide | (refine ne_not ?_; assumption))⟩ | refine .inl ⟨_, _, rfl, rfl, (fun h => absurd h (by first | decide | (refine ne_not2 ?_; assumption))), fun _ => ⟨[], rfl, rfl, rfl⟩⟩)
      (all_goals (refine op_fieldAddr ?_; exact ⟨[], rfl, rfl, rfl⟩))
    · rintro _ _ ⟨rfl, rfl⟩ - _ _ ⟨rfl, rfl⟩ -
      simp only [with2, Step2, nthDst, putO]
      (first | refine .inr ⟨_, rfl, rfl, [], rfl, rfl, rfl⟩ | refine .inl ⟨_, _, rfl, rfl, fun _ => ?_, fun h => absurd h (by first | decide | (refine ne_not ?_; assumption))⟩ | refine .inl ⟨_, _, rfl, rfl, (fun h => absurd h (by first | decide | (refine ne_not2 ?_; assumption))), fun _ => ⟨[], rfl, rfl, rfl⟩⟩)
      (all_goals ((first | refine op_load ?_ | refine op_load_agg ?_ | refine op_load ?_ (hm := Sub.mem (by assumption) (by (repeat (apply List.mem_cons_of_mem)); assumption)) | refine op_load_agg ?_ (hm := Sub.mem (by assumption) (by (repeat (apply List.mem_cons_of_mem)); assumption))); exact ⟨[], rfl, rfl, rfl⟩))
    · rintro _ _ ⟨rfl, rfl⟩ - _ _ ⟨rfl, rfl⟩ -
      simp only [with2, Step2, nthDst, putO]
      (first | refine .inr ⟨_, rfl, rfl, [], rfl, rfl, rfl⟩ | refine .inl ⟨_, _, rfl, rfl, fun _ => ?_, fun h => absurd h (by first | decide | (refine ne_not ?_; assumption))⟩ | refine .inl ⟨_, _, rfl, rfl, (fun h => absurd h (by first | decide | (refine ne_not2 ?_; assumption))), fun _ => ⟨[], rfl, rfl, rfl⟩⟩)
      (all_goals ((first | refine op_indexC ?_ | refine op_indexAddr1 ?_ | refine op_indexAddr ?_); exact ⟨[], rfl, rfl, rfl⟩))
    · rintro _ _ ⟨rfl, rfl⟩ - _ _ ⟨rfl, rfl⟩ -
      simp only [with2, Step2, nthDst, putO]
      (first | refine .inr ⟨_, rfl, rfl, [], rfl, rfl, rfl⟩ | refine .inl ⟨_, _, rfl, rfl, fun _ => ?_, fun h => absurd h (by first | decide | (refine ne_not ?_; assumption))⟩ | refine .inl ⟨_, _, rfl, rfl, (fun h => absurd h (by first | decide | (refine ne_not2 ?_; assumption))), fun _ => ⟨[], rfl, rfl, rfl⟩⟩)
      (all_goals ((first | refine op_load ?_ | refine op_load_agg ?_ | refine op_load ?_ (hm := Sub.mem (by assumption) (by (repeat (apply List.mem_cons_of_mem)); assumption)) | refine op_load_agg ?_ (hm := Sub.mem (by assumption) (by (repeat (apply List.mem_cons_of_mem)); assumption))); exact ⟨[], rfl, rfl, rfl⟩))
    · rintro _ _ ⟨rfl, rfl⟩ -
      simp only [with2, Step2, nthDst, putO]
      (first | refine .inr ⟨_, rfl, rfl, [], rfl, rfl, rfl⟩ | refine .inl ⟨_, _, rfl, rfl, fun _ => ?_, fun h => absurd h (by first | decide | (refine ne_not ?_; assumption))⟩ | refine .inl ⟨_, _, rfl, rfl, (fun h => absurd h (by first | decide | (refine ne_not2 ?_; assumption))), fun _ => ⟨[], rfl, rfl, rfl⟩⟩)
      (all_goals (refine op_fieldAddr ?_; exact ⟨[], rfl, rfl, rfl⟩))
    · rintro _ _ ⟨rfl, rfl⟩ - _ _ ⟨rfl, rfl⟩ -
      simp only [with2, Step2, nthDst, putO]
      (first | refine .inr ⟨_, rfl, rfl, [], rfl, rfl, rfl⟩ | refine .inl ⟨_, _, rfl, rfl, fun _ => ?_, fun h => absurd h (by first | decide | (refine ne_not ?_; assumption))⟩ | refine .inl ⟨_, _, rfl, rfl, (fun h => absurd h (by first | decide | (refine ne_not2 ?_; assumption))), fun _ => ⟨[], rfl, rfl, rfl⟩⟩)
      (all_goals ((first | refine op_load ?_ | refine op_load_agg ?_ | refine op_load ?_ (hm := Sub.mem (by assumption) (by (repeat (apply List.mem_cons_of_mem)); assumption)) | refine op_load_agg ?_ (hm := Sub.mem (by assumption) (by (repeat (apply List.mem_cons_of_mem)); assumption))); exact ⟨[], rfl, rfl, rfl⟩))
    · rintro _ _ ⟨rfl, rfl⟩ - _ _ ⟨rfl, rfl⟩ -
      simp only [with2, Step2, nthDst, putO]
      (first | refine .inr ⟨_, rfl, rfl, [], rfl, rfl, rfl⟩ | refine .inl ⟨_, _, rfl, rfl, fun _ => ?_, fun h => absurd h (by first | decide | (refine ne_not ?_; assumption))⟩ | refine .inl ⟨_, _, rfl, rfl, (fun h => absurd h (by first | decide | (refine ne_not2 ?_; assumption))), fun _ => ⟨[], rfl, rfl, rfl⟩⟩)
      (all_goals ((first | refine op_indexC ?_ | refine op_indexAddr1 ?_ | refine op_indexAddr ?_); exact ⟨[], rfl, rfl, rfl⟩))
    · rintro _ _ ⟨rfl, rfl⟩ - _ _ ⟨rfl, rfl⟩ -
      simp only [with2, Step2, nthDst, putO]
      (first | refine .inr ⟨_, rfl, rfl, [], rfl, rfl, rfl⟩ | refine .inl ⟨_, _, rfl, rfl, fun _ => ?_, fun h => absurd h (by first | decide | (refine ne_not ?_; assumption))⟩ | refine .inl ⟨_, _, rfl, rfl, (fun h => absurd h (by first | decide | (refine ne_not2 ?_; assumption))), fun _ => ⟨[], rfl, rfl, rfl⟩⟩)
      (all_goals ((first | refine op_load ?_ | refine op_load_agg ?_ | refine op_load ?_ (hm := Sub.mem (by assumption) (by (repeat (apply List.mem_cons_of_mem)); assumption)) | refine op_load_agg ?_ (hm := Sub.mem (by assumption) (by (repeat (apply List.mem_cons_of_mem)); assumption))); exact ⟨[], rfl, rfl, rfl⟩))
    · rintro _ _ ⟨rfl, rfl⟩ -
      simp only [with2, Step2, nthDst, putO]
      (first | refine .inr ⟨_, rfl, rfl, [], rfl, rfl, rfl⟩ | refine .inl ⟨_, _, rfl, rfl, fun _ => ?_, fun h => absurd h (by first | decide | (refine ne_not ?_; assumption))⟩ | refine .inl ⟨_, _, rfl, rfl, (fun h => absurd h (by first | decide | (refine ne_not2 ?_; assumption))), fun _ => ⟨[], rfl, rfl, rfl⟩⟩)
      (all_goals (refine op_move ?_; exact ⟨[], rfl, rfl, rfl⟩))
    · rintro _ _ ⟨rfl, rfl⟩ -
      simp only [with2, Step2, nthDst, putO]
      (first | refine .inr ⟨_, rfl, rfl, [], rfl, rfl, rfl⟩ | refine .inl ⟨_, _, rfl, rfl, fun _ => ?_, fun h => absurd h (by first | decide | (refine ne_not ?_; assumption))⟩ | refine .inl ⟨_, _, rfl, rfl, (fun h => absurd h (by first | decide | (refine ne_not2 ?_; assumption))), fun _ => ⟨[], rfl, rfl, rfl⟩⟩)
      (all_goals (refine op_move ?_; exact ⟨[], rfl, rfl, rfl⟩))
    · rintro _ _ ⟨rfl, rfl⟩ - _ _ ⟨rfl, rfl⟩ - _ _ ⟨rfl, rfl⟩ - _ _ ⟨rfl, rfl⟩ - _ _ ⟨rfl, rfl⟩ -
      simp only [with2, Step2, nthDst, putO]
      (first | refine .inr ⟨_, rfl, rfl, [], rfl, rfl, rfl⟩ | refine .inl ⟨_, _, rfl, rfl, fun _ => ?_, fun h => absurd h (by first | decide | (refine ne_not ?_; assumption))⟩ | refine .inl ⟨_, _, rfl, rfl, (fun h => absurd h (by first | decide | (refine ne_not2 ?_; assumption))), fun _ => ⟨[], rfl, rfl, rfl⟩⟩)
      (all_goals ((refine op_buildSlice (fun k => ?_); exact ⟨[_], rfl, k, rfl, mem0⟩)))
    · rintro _ _ ⟨ka, rfl, ma⟩ - _ _ ⟨kb, rfl, mb⟩ - _ _ ⟨rfl, rfl⟩ -
      simp only [with2, Step2, nthDst, putO]
      (first | refine .inr ⟨_, rfl, rfl, [], rfl, rfl, rfl⟩ | refine .inl ⟨_, _, rfl, rfl, fun _ => ?_, fun h => absurd h (by first | decide | (refine ne_not ?_; assumption))⟩ | refine .inl ⟨_, _, rfl, rfl, (fun h => absurd h (by first | decide | (refine ne_not2 ?_; assumption))), fun _ => ⟨[], rfl, rfl, rfl⟩⟩)
      (all_goals ((refine op_call ((Flat.sameFloats _ _ _ _ [f.getD 0 0, f.getD 1 0, zOf l f, mOf l f] [f.getD 0 0, f.getD 1 0, 0, 0] _ (fs_new [f.getD 0 0, f.getD 1 0, zOf l f, mOf l f] ma) (fs_new [f.getD 0 0, f.getD 1 0, 0, 0] mb) (by simp)).mono ?_); rintro _ _ ⟨rfl, rfl⟩; exact ⟨[], rfl, congrArg Value.bool (decide_eq_true (by rw [hz, hm])), rfl⟩)))
    · rintro _ _ ⟨rfl, rfl⟩ - _ _ ⟨rfl, rfl⟩ -
      simp only [with2, Step2, nthDst, putO]
      ((first | refine op_pick_true ?_ | refine op_pick_false ?_ | refine op_pick_true' ?_ | refine op_pick_false' ?_); exact ⟨[], rfl, rfl, rfl⟩)
    · rintro _ _ _ _ _ _ _ _ _ _ _ _ _ _ _ _ _ _ _ _ _ _ _ _ _ _ _ _ _ _ _ _ _ _ _ _ _ _ _ _ ⟨⟨rfl, rfl⟩, ⟨rfl, rfl⟩, ⟨kb, rfl, mb⟩, ⟨rfl, rfl⟩, ⟨rfl, rfl⟩, ⟨rfl, rfl⟩, ⟨rfl, rfl⟩, ⟨rfl, rfl⟩, ⟨rfl, rfl⟩, ⟨rfl, rfl⟩, ⟨rfl, rfl⟩, ⟨rfl, rfl⟩, ⟨rfl, rfl⟩, ⟨ka, rfl, ma⟩, ⟨rfl, rfl⟩, ⟨rfl, rfl⟩, ⟨rfl, rfl⟩, ⟨rfl, rfl⟩, ⟨rfl, rfl⟩, ⟨rfl, rfl⟩, _⟩
      simp only [List.nil_append, List.cons_append, List.append_nil, List.drop_succ_cons, List.drop_zero, nthDst, putO]
      repeat'
        first
          | refine tl_defer ?_ | refine tc_seq ?_ | refine tc_region ?_ | refine at_seq_normal ?_ | refine tl_nil ?_ | refine tl_cons ?_ | refine tl_cons_none ?_ | refine op_move ?_
          | refine op_assign ?_ | refine op_fieldAddr ?_ | refine op_load ?_ | refine op_load_agg ?_ | refine op_indexC ?_ | refine op_indexAddr1 ?_ | refine op_indexAddr ?_ | refine op_icmp ?_
          | refine op_fcmp ?_ | refine op_iarith ?_ | refine op_bcmp ?_ | refine op_unop_not ?_ | refine op_unop_neg_float ?_ | refine op_unop_neg_int ?_ | refine op_len_slice ?_ | refine op_pick_true ?_
          | refine op_pick_false ?_ | refine op_pick_true' ?_ | refine op_pick_false' ?_ | refine op_build ?_ | refine op_extract ?_ | refine op_makeInterface ?_ | refine op_typeAssert ?_ | refine op_ptr_nil ?_
          | refine op_nilCheck_ptr ?_ | refine op_nilCheck_meth ?_ | refine op_makeMeth ?_ | refine op_makeFunc ?_ | refine op_itof ?_ | refine op_itoi ?_ | refine op_ftoi ?_ | refine op_iquo ?_
          | refine op_irem ?_ | refine op_ibits ?_ | refine op_slice_isnil ?_ | refine op_slice_notnil ?_ | refine op_imax ?_ | refine op_imin ?_ | refine op_shl ?_ | refine op_shr ?_
          | (refine op_alloc ?_; intro _) | (refine op_box ?_; intro _) | (refine op_buildSlice ?_; intro _) | (refine op_farith ?_; intro _ _) | refine op_store0 ?_ | refine op_store1 ?_ | refine op_store2 ?_ | refine op_store3 ?_
          | refine op_store4 ?_ | refine op_store5 ?_ | refine tc_cond_t ?_ | refine tc_cond_f ?_ | refine tc_cond (fun _ => ?_) (fun _ => ?_) | refine tc_block ?_ | refine tc_skip ?_ | refine tc_ret ?_
          | refine tc_exit ?_ | refine tc_label ?_ | refine at_seq_ret ?_ | refine at_seq_exit ?_ | refine at_block_normal ?_ | refine at_block_ret ?_ | refine at_block_exit_self ?_ | refine at_block_exit_ne ?_
          | refine at_loop_ret ?_ | refine at_loop_exit ?_ | refine at_loop_goto ?_ | refine tl_guard_yes ?_ | refine tl_guard_no ?_ | refine tl_guard_yes' ?_ | refine tl_guard_no' ?_ | refine tl_guard_undef ?_
          | refine tl_guard_split (fun _ => ?_) (fun _ => ?_)
      exact ret_tmp (hG := by (repeat (first | exact List.Sublist.refl _ | apply List.Sublist.cons_cons | apply List.Sublist.cons | refine List.Sublist.trans ?_ (List.sublist_append_right _ _)))) (hk := ⟨rfl, rfl⟩)
  · have ceql2 : icmp .eql l 2 = true := by simp only [icmp, beq_iff_eq]; omega
    have ceql3 : icmp .eql l 3 = false := by simp only [icmp, beq_eq_false_iff_ne]; omega
    have cgeq4 : icmp .geq l 4 = false := by simp only [icmp, decide_eq_false_iff_not]; omega
    have hz : zOf l f = f.getD 2 0 := by unfold zOf; rw [if_neg (by omega)]
    have hm : mOf l f = 0 := by unfold mOf; rw [if_pos (by omega)]
    have hln : 3 ≤ f.length := by unfold strideI at hlen; (repeat' split at hlen) <;> omega
    have g2 := hcut 2 (by omega)
    refine fn_enter 82 Try.func3 fun W => ?_
    repeat' first
      | (first | refine tl_defer ?_ | refine tc_seq ?_ | refine tc_region ?_ | refine at_seq_normal ?_ | refine tl_nil ?_ | refine tl_cons ?_ | refine tl_cons_none ?_ | refine op_move ?_ | refine op_assign ?_ | refine op_fieldAddr ?_ | refine op_load ?_ | refine op_load_agg ?_ | refine op_indexC ?_ | refine op_indexAddr1 ?_ | refine op_indexAddr ?_ | refine op_icmp ?_ | refine op_fcmp ?_ | refine op_iarith ?_ | refine op_bcmp ?_ | refine op_unop_not ?_ | refine op_unop_neg_float ?_ | refine op_unop_neg_int ?_ | refine op_len_slice ?_ | refine op_pick_true ?_ | refine op_pick_false ?_ | refine op_pick_true' ?_ | refine op_pick_false' ?_ | refine op_build ?_ | refine op_extract ?_ | refine op_makeInterface ?_ | refine op_typeAssert ?_ | refine op_ptr_nil ?_ | refine op_nilCheck_ptr ?_ | refine op_nilCheck_meth ?_ | refine op_makeMeth ?_ | refine op_makeFunc ?_ | refine op_itof ?_ | refine op_itoi ?_ | refine op_ftoi ?_ | refine op_iquo ?_ | refine op_irem ?_ | refine op_ibits ?_ | refine op_slice_isnil ?_ | refine op_slice_notnil ?_ | refine op_imax ?_ | refine op_imin ?_ | refine op_shl ?_ | refine op_shr ?_ | (refine op_alloc ?_; intro _) | (refine op_box ?_; intro _) | (refine op_buildSlice ?_; intro _) | (refine op_farith ?_; intro _ _) | refine op_store0 ?_ | refine op_store1 ?_ | refine op_store2 ?_ | refine op_store3 ?_ | refine op_store4 ?_ | refine op_store5 ?_ | refine tc_cond_t ?_ | refine tc_cond_f ?_ | refine tc_cond (fun _ => ?_) (fun _ => ?_) | refine tc_block ?_ | refine tc_skip ?_ | refine tc_ret ?_ | refine tc_exit ?_ | refine tc_label ?_ | refine at_seq_ret ?_ | refine at_seq_exit ?_ | refine at_block_normal ?_ | refine at_block_ret ?_ | refine at_block_exit_self ?_ | refine at_block_exit_ne ?_ | refine at_loop_ret ?_ | refine at_loop_exit ?_ | refine at_loop_goto ?_ | refine tl_guard_yes ?_ | refine tl_guard_no ?_ | refine tl_guard_yes' ?_ | refine tl_guard_no' ?_ | refine tl_guard_undef ?_ | refine tl_guard_split (fun _ => ?_) (fun _ => ?_))
      | (refine op_call ((zzFits2 _ _ _ (IsG.mono (fun e he => by simp [he]) hg0) hw).mono ?_); rintro _ _ ⟨⟨b, rfl⟩, rfl⟩)
      | (refine op_call ((gGood [Geo.mk 1 l s f e ee ks] _ _ _ _ hwt (sl_one7 rfl mem0) ⟨IsG.mono (fun e he => by simp [he]) hg0, trivial⟩).mono ?_); rintro _ _ ⟨rfl, rfl⟩; rw [hgd])
      | (refine op_call ((implOrd l s _ _ _ _ f _ hl1 (hf.mono fun e he => by simp [he]) (by unfold Geo.wt at hw; omega) hlen).mono ?_); rintro _ _ ⟨rfl, ex, rfl⟩)
      | fail
    · exact ret_tmp (hG := by (repeat (first | exact List.Sublist.refl _ | apply List.Sublist.cons_cons | apply List.Sublist.cons | refine List.Sublist.trans ?_ (List.sublist_append_right _ _)))) (hk := ⟨rfl, rfl⟩)
    refine tc_weak (fun _ _ h => h) (List.sublist_append_right _ _) ?_
    apply fun hole0 hole1 hole2 hole3 hole4 hole5 hole6 hole7 hole8 hole9 hole10 hole11 hole12 hole13 hole14 hole15 hole16 hE hD hml hdl hpr prem fin => tc_drawn 20 [is hole0, is hole1, is hole2, is hole3, is hole4, is hole5, (fun w ex G => ∃ k, w = .slice (some ⟨k, 0, none⟩) 4 4 ∧ (k, Obj.cells ⟨[.float .f64 (f.getD 0 0), .float .f64 (f.getD 1 0), .float .f64 (zOf l f), .float .f64 (mOf l f)]⟩ 30 (0, 0)) ∈ G), is hole6, is hole7, is hole8, is hole9, is hole10, is hole11, is hole12, is hole13, is hole14, is hole15, (fun w ex G => ∃ k, w = .slice (some ⟨k, 0, none⟩) 4 4 ∧ (k, Obj.cells ⟨[.float .f64 (f.getD 0 0), .float .f64 (f.getD 1 0), .float .f64 (f.getD 2 0), .float .f64 (0)]⟩ 30 (0, 0)) ∈ G), (is (.bool true)), is hole16]
      [some 62, some 63, some 64, some 65, some 66, some 67, some 68, some 69, some 70, some 71, some 72, some 73, some 74, some 75, some 76, some 77, some 78, some 79, some 80, some 81, some 2] [[], [0], [1], [1], [1], [1], [2, 3, 4, 5, 1], [1], [7, 1], [8, 1], [9, 1], [1], [11, 1], [12, 1], [13, 1], [1], [1], [10, 14, 15, 16, 1], [6, 17, 1], [1, 18]] mixed ⟨(is_mono _), (is_mono _), (is_mono _), (is_mono _), (is_mono _), (is_mono _), (fun _ _ _ _ ⟨k, h1, h2⟩ hs => ⟨k, h1, hs _ h2⟩), (is_mono _), (is_mono _), (is_mono _), (is_mono _), (is_mono _), (is_mono _), (is_mono _), (is_mono _), (is_mono _), (is_mono _), (fun _ _ _ _ ⟨k, h1, h2⟩ hs => ⟨k, h1, hs _ h2⟩), (some_mono _), (is_mono _), trivial⟩ prem fin hE hD rfl hml hdl hpr
    rotate_left 18
    · exact rfl
    · exact rfl
    · exact Nat.le_of_ble_eq_true rfl
    · exact rfl
    · exact rfl
    refine ⟨fun G hG => ?_, fun G hG => ?_, fun G hG => ?_, fun G hG => ?_, fun G hG => ?_, fun G hG => ?_, fun G hG => ?_, fun G hG => ?_, fun G hG => ?_, fun G hG => ?_, fun G hG => ?_, fun G hG => ?_, fun G hG => ?_, fun G hG => ?_, fun G hG => ?_, fun G hG => ?_, fun G hG => ?_, fun G hG => ?_, fun G hG => ?_, fun G hG => ?_, trivial⟩
    · simp only [with2, Step2, nthDst, putO]
      (refine op_move ?_; exact ⟨[], rfl, rfl, rfl⟩)
    · rintro _ _ ⟨rfl, rfl⟩ -
      simp only [with2, Step2, nthDst, putO]
      (refine op_move ?_; exact ⟨[], rfl, rfl, rfl⟩)
    · rintro _ _ ⟨rfl, rfl⟩ -
      simp only [with2, Step2, nthDst, putO]
      (first | refine .inr ⟨_, rfl, rfl, [], rfl, rfl, rfl⟩ | refine .inl ⟨_, _, rfl, rfl, fun _ => ?_, fun h => absurd h (by first | decide | (refine ne_not ?_; assumption))⟩ | refine .inl ⟨_, _, rfl, rfl, (fun h => absurd h (by first | decide | (refine ne_not2 ?_; assumption))), fun _ => ⟨[], rfl, rfl, rfl⟩⟩)
      (all_goals (refine op_move ?_; exact ⟨[], rfl, rfl, rfl⟩))
    · rintro _ _ ⟨rfl, rfl⟩ -
      simp only [with2, Step2, nthDst, putO]
      (first | refine .inr ⟨_, rfl, rfl, [], rfl, rfl, rfl⟩ | refine .inl ⟨_, _, rfl, rfl, fun _ => ?_, fun h => absurd h (by first | decide | (refine ne_not ?_; assumption))⟩ | refine .inl ⟨_, _, rfl, rfl, (fun h => absurd h (by first | decide | (refine ne_not2 ?_; assumption))), fun _ => ⟨[], rfl, rfl, rfl⟩⟩)
      (all_goals (refine op_move ?_; exact ⟨[], rfl, rfl, rfl⟩))
    · rintro _ _ ⟨rfl, rfl⟩ -
      simp only [with2, Step2, nthDst, putO]
      (first | refine .inr ⟨_, rfl, rfl, [], rfl, rfl, rfl⟩ | refine .inl ⟨_, _, rfl, rfl, fun _ => ?_, fun h => absurd h (by first | decide | (refine ne_not ?_; assumption))⟩ | refine .inl ⟨_, _, rfl, rfl, (fun h => absurd h (by first | decide | (refine ne_not2 ?_; assumption))), fun _ => ⟨[], rfl, rfl, rfl⟩⟩)
      (all_goals (refine op_move ?_; exact ⟨[], rfl, rfl, rfl⟩))
    · rintro _ _ ⟨rfl, rfl⟩ -
      simp only [with2, Step2, nthDst, putO]
      (first | refine .inr ⟨_, rfl, rfl, [], rfl, rfl, rfl⟩ | refine .inl ⟨_, _, rfl, rfl, fun _ => ?_, fun h => absurd h (by first | decide | (refine ne_not ?_; assumption))⟩ | refine .inl ⟨_, _, rfl, rfl, (fun h => absurd h (by first | decide | (refine ne_not2 ?_; assumption))), fun _ => ⟨[], rfl, rfl, rfl⟩⟩)
      (all_goals (refine op_move ?_; exact ⟨[], rfl, rfl, rfl⟩))
    · rintro _ _ ⟨rfl, rfl⟩ - _ _ ⟨rfl, rfl⟩ - _ _ ⟨rfl, rfl⟩ - _ _ ⟨rfl, rfl⟩ - _ _ ⟨rfl, rfl⟩ -
      simp only [with2, Step2, nthDst, putO]
      (first | refine .inr ⟨_, rfl, rfl, [], rfl, rfl, rfl⟩ | refine .inl ⟨_, _, rfl, rfl, fun _ => ?_, fun h => absurd h (by first | decide | (refine ne_not ?_; assumption))⟩ | refine .inl ⟨_, _, rfl, rfl, (fun h => absurd h (by first | decide | (refine ne_not2 ?_; assumption))), fun _ => ⟨[], rfl, rfl, rfl⟩⟩)
      (all_goals ((refine op_buildSlice (fun k => ?_); exact ⟨[_], rfl, k, rfl, mem0⟩)))
    · rintro _ _ ⟨rfl, rfl⟩ -
      simp only [with2, Step2, nthDst, putO]
      (first | refine .inr ⟨_, rfl, rfl, [], rfl, rfl, rfl⟩ | refine .inl ⟨_, _, rfl, rfl, fun _ => ?_, fun h => absurd h (by first | decide | (refine ne_not ?_; assumption))⟩ | refine .inl ⟨_, _, rfl, rfl, (fun h => absurd h (by first | decide | (refine ne_not2 ?_; assumption))), fun _ => ⟨[], rfl, rfl, rfl⟩⟩)
      (all_goals (refine op_fieldAddr ?_; exact ⟨[], rfl, rfl, rfl⟩))
    · rintro _ _ ⟨rfl, rfl⟩ - _ _ ⟨rfl, rfl⟩ -
      simp only [with2, Step2, nthDst, putO]
      (first | refine .inr ⟨_, rfl, rfl, [], rfl, rfl, rfl⟩ | refine .inl ⟨_, _, rfl, rfl, fun _ => ?_, fun h => absurd h (by first | decide | (refine ne_not ?_; assumption))⟩ | refine .inl ⟨_, _, rfl, rfl, (fun h => absurd h (by first | decide | (refine ne_not2 ?_; assumption))), fun _ => ⟨[], rfl, rfl, rfl⟩⟩)
      (all_goals ((first | refine op_load ?_ | refine op_load_agg ?_ | refine op_load ?_ (hm := Sub.mem (by assumption) (by (repeat (apply List.mem_cons_of_mem)); assumption)) | refine op_load_agg ?_ (hm := Sub.mem (by assumption) (by (repeat (apply List.mem_cons_of_mem)); assumption))); exact ⟨[], rfl, rfl, rfl⟩))
    · rintro _ _ ⟨rfl, rfl⟩ - _ _ ⟨rfl, rfl⟩ -
      simp only [with2, Step2, nthDst, putO]
      (first | refine .inr ⟨_, rfl, rfl, [], rfl, rfl, rfl⟩ | refine .inl ⟨_, _, rfl, rfl, fun _ => ?_, fun h => absurd h (by first | decide | (refine ne_not ?_; assumption))⟩ | refine .inl ⟨_, _, rfl, rfl, (fun h => absurd h (by first | decide | (refine ne_not2 ?_; assumption))), fun _ => ⟨[], rfl, rfl, rfl⟩⟩)
      (all_goals ((first | refine op_indexC ?_ | refine op_indexAddr1 ?_ | refine op_indexAddr ?_); exact ⟨[], rfl, rfl, rfl⟩))
    · rintro _ _ ⟨rfl, rfl⟩ - _ _ ⟨rfl, rfl⟩ -
      simp only [with2, Step2, nthDst, putO]
      (first | refine .inr ⟨_, rfl, rfl, [], rfl, rfl, rfl⟩ | refine .inl ⟨_, _, rfl, rfl, fun _ => ?_, fun h => absurd h (by first | decide | (refine ne_not ?_; assumption))⟩ | refine .inl ⟨_, _, rfl, rfl, (fun h => absurd h (by first | decide | (refine ne_not2 ?_; assumption))), fun _ => ⟨[], rfl, rfl, rfl⟩⟩)
      (all_goals ((first | refine op_load ?_ | refine op_load_agg ?_ | refine op_load ?_ (hm := Sub.mem (by assumption) (by (repeat (apply List.mem_cons_of_mem)); assumption)) | refine op_load_agg ?_ (hm := Sub.mem (by assumption) (by (repeat (apply List.mem_cons_of_mem)); assumption))); exact ⟨[], rfl, rfl, rfl⟩))
    · rintro _ _ ⟨rfl, rfl⟩ -
      simp only [with2, Step2, nthDst, putO]
      (first | refine .inr ⟨_, rfl, rfl, [], rfl, rfl, rfl⟩ | refine .inl ⟨_, _, rfl, rfl, fun _ => ?_, fun h => absurd h (by first | decide | (refine ne_not ?_; assumption))⟩ | refine .inl ⟨_, _, rfl, rfl, (fun h => absurd h (by first | decide | (refine ne_not2 ?_; assumption))), fun _ => ⟨[], rfl, rfl, rfl⟩⟩)
      (all_goals (refine op_fieldAddr ?_; exact ⟨[], rfl, rfl, rfl⟩))
    · rintro _ _ ⟨rfl, rfl⟩ - _ _ ⟨rfl, rfl⟩ -
      simp only [with2, Step2, nthDst, putO]
      (first | refine .inr ⟨_, rfl, rfl, [], rfl, rfl, rfl⟩ | refine .inl ⟨_, _, rfl, rfl, fun _ => ?_, fun h => absurd h (by first | decide | (refine ne_not ?_; assumption))⟩ | refine .inl ⟨_, _, rfl, rfl, (fun h => absurd h (by first | decide | (refine ne_not2 ?_; assumption))), fun _ => ⟨[], rfl, rfl, rfl⟩⟩)
      (all_goals ((first | refine op_load ?_ | refine op_load_agg ?_ | refine op_load ?_ (hm := Sub.mem (by assumption) (by (repeat (apply List.mem_cons_of_mem)); assumption)) | refine op_load_agg ?_ (hm := Sub.mem (by assumption) (by (repeat (apply List.mem_cons_of_mem)); assumption))); exact ⟨[], rfl, rfl, rfl⟩))
    · rintro _ _ ⟨rfl, rfl⟩ - _ _ ⟨rfl, rfl⟩ -
      simp only [with2, Step2, nthDst, putO]
      (first | refine .inr ⟨_, rfl, rfl, [], rfl, rfl, rfl⟩ | refine .inl ⟨_, _, rfl, rfl, fun _ => ?_, fun h => absurd h (by first | decide | (refine ne_not ?_; assumption))⟩ | refine .inl ⟨_, _, rfl, rfl, (fun h => absurd h (by first | decide | (refine ne_not2 ?_; assumption))), fun _ => ⟨[], rfl, rfl, rfl⟩⟩)
      (all_goals ((first | refine op_indexC ?_ | refine op_indexAddr1 ?_ | refine op_indexAddr ?_); exact ⟨[], rfl, rfl, rfl⟩))
    · rintro _ _ ⟨rfl, rfl⟩ - _ _ ⟨rfl, rfl⟩ -
      simp only [with2, Step2, nthDst, putO]
      (first | refine .inr ⟨_, rfl, rfl, [], rfl, rfl, rfl⟩ | refine .inl ⟨_, _, rfl, rfl, fun _ => ?_, fun h => absurd h (by first | decide | (refine ne_not ?_; assumption))⟩ | refine .inl ⟨_, _, rfl, rfl, (fun h => absurd h (by first | decide | (refine ne_not2 ?_; assumption))), fun _ => ⟨[], rfl, rfl, rfl⟩⟩)
      (all_goals ((first | refine op_load ?_ | refine op_load_agg ?_ | refine op_load ?_ (hm := Sub.mem (by assumption) (by (repeat (apply List.mem_cons_of_mem)); assumption)) | refine op_load_agg ?_ (hm := Sub.mem (by assumption) (by (repeat (apply List.mem_cons_of_mem)); assumption))); exact ⟨[], rfl, rfl, rfl⟩))
    · rintro _ _ ⟨rfl, rfl⟩ -
      simp only [with2, Step2, nthDst, putO]
      (first | refine .inr ⟨_, rfl, rfl, [], rfl, rfl, rfl⟩ | refine .inl ⟨_, _, rfl, rfl, fun _ => ?_, fun h => absurd h (by first | decide | (refine ne_not ?_; assumption))⟩ | refine .inl ⟨_, _, rfl, rfl, (fun h => absurd h (by first | decide | (refine ne_not2 ?_; assumption))), fun _ => ⟨[], rfl, rfl, rfl⟩⟩)
      (all_goals (refine op_move ?_; exact ⟨[], rfl, rfl, rfl⟩))
    · rintro _ _ ⟨rfl, rfl⟩ -
      simp only [with2, Step2, nthDst, putO]
      (first | refine .inr ⟨_, rfl, rfl, [], rfl, rfl, rfl⟩ | refine .inl ⟨_, _, rfl, rfl, fun _ => ?_, fun h => absurd h (by first | decide | (refine ne_not ?_; assumption))⟩ | refine .inl ⟨_, _, rfl, rfl, (fun h => absurd h (by first | decide | (refine ne_not2 ?_; assumption))), fun _ => ⟨[], rfl, rfl, rfl⟩⟩)
      (all_goals (refine op_move ?_; exact ⟨[], rfl, rfl, rfl⟩))
    · rintro _ _ ⟨rfl, rfl⟩ - _ _ ⟨rfl, rfl⟩ - _ _ ⟨rfl, rfl⟩ - _ _ ⟨rfl, rfl⟩ - _ _ ⟨rfl, rfl⟩ -
      simp only [with2, Step2, nthDst, putO]
      (first | refine .inr ⟨_, rfl, rfl, [], rfl, rfl, rfl⟩ | refine .inl ⟨_, _, rfl, rfl, fun _ => ?_, fun h => absurd h (by first | decide | (refine ne_not ?_; assumption))⟩ | refine .inl ⟨_, _, rfl, rfl, (fun h => absurd h (by first | decide | (refine ne_not2 ?_; assumption))), fun _ => ⟨[], rfl, rfl, rfl⟩⟩)
      (all_goals ((refine op_buildSlice (fun k => ?_); exact ⟨[_], rfl, k, rfl, mem0⟩)))
    · rintro _ _ ⟨ka, rfl, ma⟩ - _ _ ⟨kb, rfl, mb⟩ - _ _ ⟨rfl, rfl⟩ -
      simp only [with2, Step2, nthDst, putO]
      (first | refine .inr ⟨_, rfl, rfl, [], rfl, rfl, rfl⟩ | refine .inl ⟨_, _, rfl, rfl, fun _ => ?_, fun h => absurd h (by first | decide | (refine ne_not ?_; assumption))⟩ | refine .inl ⟨_, _, rfl, rfl, (fun h => absurd h (by first | decide | (refine ne_not2 ?_; assumption))), fun _ => ⟨[], rfl, rfl, rfl⟩⟩)
      (all_goals ((refine op_call ((Flat.sameFloats _ _ _ _ [f.getD 0 0, f.getD 1 0, zOf l f, mOf l f] [f.getD 0 0, f.getD 1 0, f.getD 2 0, 0] _ (fs_new [f.getD 0 0, f.getD 1 0, zOf l f, mOf l f] ma) (fs_new [f.getD 0 0, f.getD 1 0, f.getD 2 0, 0] mb) (by simp)).mono ?_); rintro _ _ ⟨rfl, rfl⟩; exact ⟨[], rfl, congrArg Value.bool (decide_eq_true (by rw [hz, hm])), rfl⟩)))
    · rintro _ _ ⟨rfl, rfl⟩ - _ _ ⟨rfl, rfl⟩ -
      simp only [with2, Step2, nthDst, putO]
      ((first | refine op_pick_true ?_ | refine op_pick_false ?_ | refine op_pick_true' ?_ | refine op_pick_false' ?_); exact ⟨[], rfl, rfl, rfl⟩)
    · rintro _ _ _ _ _ _ _ _ _ _ _ _ _ _ _ _ _ _ _ _ _ _ _ _ _ _ _ _ _ _ _ _ _ _ _ _ _ _ _ _ ⟨⟨rfl, rfl⟩, ⟨rfl, rfl⟩, ⟨kb, rfl, mb⟩, ⟨rfl, rfl⟩, ⟨rfl, rfl⟩, ⟨rfl, rfl⟩, ⟨rfl, rfl⟩, ⟨rfl, rfl⟩, ⟨rfl, rfl⟩, ⟨rfl, rfl⟩, ⟨rfl, rfl⟩, ⟨rfl, rfl⟩, ⟨rfl, rfl⟩, ⟨ka, rfl, ma⟩, ⟨rfl, rfl⟩, ⟨rfl, rfl⟩, ⟨rfl, rfl⟩, ⟨rfl, rfl⟩, ⟨rfl, rfl⟩, ⟨rfl, rfl⟩, _⟩
      simp only [List.nil_append, List.cons_append, List.append_nil, List.drop_succ_cons, List.drop_zero, nthDst, putO]
      repeat'
        first
          | refine tl_defer ?_ | refine tc_seq ?_ | refine tc_region ?_ | refine at_seq_normal ?_ | refine tl_nil ?_ | refine tl_cons ?_ | refine tl_cons_none ?_ | refine op_move ?_
          | refine op_assign ?_ | refine op_fieldAddr ?_ | refine op_load ?_ | refine op_load_agg ?_ | refine op_indexC ?_ | refine op_indexAddr1 ?_ | refine op_indexAddr ?_ | refine op_icmp ?_
          | refine op_fcmp ?_ | refine op_iarith ?_ | refine op_bcmp ?_ | refine op_unop_not ?_ | refine op_unop_neg_float ?_ | refine op_unop_neg_int ?_ | refine op_len_slice ?_ | refine op_pick_true ?_
          | refine op_pick_false ?_ | refine op_pick_true' ?_ | refine op_pick_false' ?_ | refine op_build ?_ | refine op_extract ?_ | refine op_makeInterface ?_ | refine op_typeAssert ?_ | refine op_ptr_nil ?_
          | refine op_nilCheck_ptr ?_ | refine op_nilCheck_meth ?_ | refine op_makeMeth ?_ | refine op_makeFunc ?_ | refine op_itof ?_ | refine op_itoi ?_ | refine op_ftoi ?_ | refine op_iquo ?_
          | refine op_irem ?_ | refine op_ibits ?_ | refine op_slice_isnil ?_ | refine op_slice_notnil ?_ | refine op_imax ?_ | refine op_imin ?_ | refine op_shl ?_ | refine op_shr ?_
          | (refine op_alloc ?_; intro _) | (refine op_box ?_; intro _) | (refine op_buildSlice ?_; intro _) | (refine op_farith ?_; intro _ _) | refine op_store0 ?_ | refine op_store1 ?_ | refine op_store2 ?_ | refine op_store3 ?_
          | refine op_store4 ?_ | refine op_store5 ?_ | refine tc_cond_t ?_ | refine tc_cond_f ?_ | refine tc_cond (fun _ => ?_) (fun _ => ?_) | refine tc_block ?_ | refine tc_skip ?_ | refine tc_ret ?_
          | refine tc_exit ?_ | refine tc_label ?_ | refine at_seq_ret ?_ | refine at_seq_exit ?_ | refine at_block_normal ?_ | refine at_block_ret ?_ | refine at_block_exit_self ?_ | refine at_block_exit_ne ?_
          | refine at_loop_ret ?_ | refine at_loop_exit ?_ | refine at_loop_goto ?_ | refine tl_guard_yes ?_ | refine tl_guard_no ?_ | refine tl_guard_yes' ?_ | refine tl_guard_no' ?_ | refine tl_guard_undef ?_
          | refine tl_guard_split (fun _ => ?_) (fun _ => ?_)
      exact ret_tmp (hG := by (repeat (first | exact List.Sublist.refl _ | apply List.Sublist.cons_cons | apply List.Sublist.cons | refine List.Sublist.trans ?_ (List.sublist_append_right _ _)))) (hk := ⟨rfl, rfl⟩)
  · have ceql2 : icmp .eql l 2 = false := by simp only [icmp, beq_eq_false_iff_ne]; omega
    have cgeq4 : icmp .geq l 4 = false := by simp only [icmp, decide_eq_false_iff_not]; omega
    have ceql3 : icmp .eql l 3 = true := by simp only [icmp, beq_iff_eq]; omega
    have hz : zOf l f = 0 := by unfold zOf; rw [if_pos (by omega)]
    have hm : mOf l f = f.getD 2 0 := by unfold mOf; rw [if_neg (by omega), if_pos (by omega)]
    have hln : 3 ≤ f.length := by unfold strideI at hlen; (repeat' split at hlen) <;> omega
    have g2 := hcut 2 (by omega)
    refine fn_enter 82 Try.func3 fun W => ?_
    repeat' first
      | (first | refine tl_defer ?_ | refine tc_seq ?_ | refine tc_region ?_ | refine at_seq_normal ?_ | refine tl_nil ?_ | refine tl_cons ?_ | refine tl_cons_none ?_ | refine op_move ?_ | refine op_assign ?_ | refine op_fieldAddr ?_ | refine op_load ?_ | refine op_load_agg ?_ | refine op_indexC ?_ | refine op_indexAddr1 ?_ | refine op_indexAddr ?_ | refine op_icmp ?_ | refine op_fcmp ?_ | refine op_iarith ?_ | refine op_bcmp ?_ | refine op_unop_not ?_ | refine op_unop_neg_float ?_ | refine op_unop_neg_int ?_ | refine op_len_slice ?_ | refine op_pick_true ?_ | refine op_pick_false ?_ | refine op_pick_true' ?_ | refine op_pick_false' ?_ | refine op_build ?_ | refine op_extract ?_ | refine op_makeInterface ?_ | refine op_typeAssert ?_ | refine op_ptr_nil ?_ | refine op_nilCheck_ptr ?_ | refine op_nilCheck_meth ?_ | refine op_makeMeth ?_ | refine op_makeFunc ?_ | refine op_itof ?_ | refine op_itoi ?_ | refine op_ftoi ?_ | refine op_iquo ?_ | refine op_irem ?_ | refine op_ibits ?_ | refine op_slice_isnil ?_ | refine op_slice_notnil ?_ | refine op_imax ?_ | refine op_imin ?_ | refine op_shl ?_ | refine op_shr ?_ | (refine op_alloc ?_; intro _) | (refine op_box ?_; intro _) | (refine op_buildSlice ?_; intro _) | (refine op_farith ?_; intro _ _) | refine op_store0 ?_ | refine op_store1 ?_ | refine op_store2 ?_ | refine op_store3 ?_ | refine op_store4 ?_ | refine op_store5 ?_ | refine tc_cond_t ?_ | refine tc_cond_f ?_ | refine tc_cond (fun _ => ?_) (fun _ => ?_) | refine tc_block ?_ | refine tc_skip ?_ | refine tc_ret ?_ | refine tc_exit ?_ | refine tc_label ?_ | refine at_seq_ret ?_ | refine at_seq_exit ?_ | refine at_block_normal ?_ | refine at_block_ret ?_ | refine at_block_exit_self ?_ | refine at_block_exit_ne ?_ | refine at_loop_ret ?_ | refine at_loop_exit ?_ | refine at_loop_goto ?_ | refine tl_guard_yes ?_ | refine tl_guard_no ?_ | refine tl_guard_yes' ?_ | refine tl_guard_no' ?_ | refine tl_guard_undef ?_ | refine tl_guard_split (fun _ => ?_) (fun _ => ?_))
      | (refine op_call ((zzFits2 _ _ _ (IsG.mono (fun e he => by simp [he]) hg0) hw).mono ?_); rintro _ _ ⟨⟨b, rfl⟩, rfl⟩)
      | (refine op_call ((gGood [Geo.mk 1 l s f e ee ks] _ _ _ _ hwt (sl_one7 rfl mem0) ⟨IsG.mono (fun e he => by simp [he]) hg0, trivial⟩).mono ?_); rintro _ _ ⟨rfl, rfl⟩; rw [hgd])
      | (refine op_call ((implOrd l s _ _ _ _ f _ hl1 (hf.mono fun e he => by simp [he]) (by unfold Geo.wt at hw; omega) hlen).mono ?_); rintro _ _ ⟨rfl, ex, rfl⟩)
      | fail
    · exact ret_tmp (hG := by (repeat (first | exact List.Sublist.refl _ | apply List.Sublist.cons_cons | apply List.Sublist.cons | refine List.Sublist.trans ?_ (List.sublist_append_right _ _)))) (hk := ⟨rfl, rfl⟩)
    refine tc_weak (fun _ _ h => h) (List.sublist_append_right _ _) ?_
    apply fun hole0 hole1 hole2 hole3 hole4 hole5 hole6 hole7 hole8 hole9 hole10 hole11 hole12 hole13 hole14 hole15 hole16 hE hD hml hdl hpr prem fin => tc_drawn 20 [is hole0, is hole1, is hole2, is hole3, is hole4, is hole5, (fun w ex G => ∃ k, w = .slice (some ⟨k, 0, none⟩) 4 4 ∧ (k, Obj.cells ⟨[.float .f64 (f.getD 0 0), .float .f64 (f.getD 1 0), .float .f64 (zOf l f), .float .f64 (mOf l f)]⟩ 30 (0, 0)) ∈ G), is hole6, is hole7, is hole8, is hole9, is hole10, is hole11, is hole12, is hole13, is hole14, is hole15, (fun w ex G => ∃ k, w = .slice (some ⟨k, 0, none⟩) 4 4 ∧ (k, Obj.cells ⟨[.float .f64 (f.getD 0 0), .float .f64 (f.getD 1 0), .float .f64 (0), .float .f64 (f.getD 2 0)]⟩ 30 (0, 0)) ∈ G), (is (.bool true)), is hole16]
      [some 62, some 63, some 64, some 65, some 66, some 67, some 68, some 69, some 70, some 71, some 72, some 73, some 74, some 75, some 76, some 77, some 78, some 79, some 80, some 81, some 2] [[], [0], [1], [1], [1], [1], [2, 3, 4, 5, 1], [1], [7, 1], [8, 1], [9, 1], [1], [11, 1], [12, 1], [13, 1], [1], [1], [10, 14, 15, 16, 1], [6, 17, 1], [1, 18]] mixed ⟨(is_mono _), (is_mono _), (is_mono _), (is_mono _), (is_mono _), (is_mono _), (fun _ _ _ _ ⟨k, h1, h2⟩ hs => ⟨k, h1, hs _ h2⟩), (is_mono _), (is_mono _), (is_mono _), (is_mono _), (is_mono _), (is_mono _), (is_mono _), (is_mono _), (is_mono _), (is_mono _), (fun _ _ _ _ ⟨k, h1, h2⟩ hs => ⟨k, h1, hs _ h2⟩), (some_mono _), (is_mono _), trivial⟩ prem fin hE hD rfl hml hdl hpr
    rotate_left 18
    · exact rfl
    · exact rfl
    · exact Nat.le_of_ble_eq_true rfl
    · exact rfl
    · exact rfl
    refine ⟨fun G hG => ?_, fun G hG => ?_, fun G hG => ?_, fun G hG => ?_, fun G hG => ?_, fun G hG => ?_, fun G hG => ?_, fun G hG => ?_, fun G hG => ?_, fun G hG => ?_, fun G hG => ?_, fun G hG => ?_, fun G hG => ?_, fun G hG => ?_, fun G hG => ?_, fun G hG => ?_, fun G hG => ?_, fun G hG => ?_, fun G hG => ?_, fun G hG => ?_, trivial⟩
    · simp only [with2, Step2, nthDst, putO]
      (refine op_move ?_; exact ⟨[], rfl, rfl, rfl⟩)
    · rintro _ _ ⟨rfl, rfl⟩ -
      simp only [with2, Step2, nthDst, putO]
      (refine op_move ?_; exact ⟨[], rfl, rfl, rfl⟩)
    · rintro _ _ ⟨rfl, rfl⟩ -
      simp only [with2, Step2, nthDst, putO]
      (first | refine .inr ⟨_, rfl, rfl, [], rfl, rfl, rfl⟩ | refine .inl ⟨_, _, rfl, rfl, fun _ => ?_, fun h => absurd h (by first | decide | (refine ne_not ?_; assumption))⟩ | refine .inl ⟨_, _, rfl, rfl, (fun h => absurd h (by first | decide | (refine ne_not2 ?_; assumption))), fun _ => ⟨[], rfl, rfl, rfl⟩⟩)
      (all_goals (refine op_move ?_; exact ⟨[], rfl, rfl, rfl⟩))
    · rintro _ _ ⟨rfl, rfl⟩ -
      simp only [with2, Step2, nthDst, putO]
      (first | refine .inr ⟨_, rfl, rfl, [], rfl, rfl, rfl⟩ | refine .inl ⟨_, _, rfl, rfl, fun _ => ?_, fun h => absurd h (by first | decide | (refine ne_not ?_; assumption))⟩ | refine .inl ⟨_, _, rfl, rfl, (fun h => absurd h (by first | decide | (refine ne_not2 ?_; assumption))), fun _ => ⟨[], rfl, rfl, rfl⟩⟩)
      (all_goals (refine op_move ?_; exact ⟨[], rfl, rfl, rfl⟩))
    · rintro _ _ ⟨rfl, rfl⟩ -
      simp only [with2, Step2, nthDst, putO]
      (first | refine .inr ⟨_, rfl, rfl, [], rfl, rfl, rfl⟩ | refine .inl ⟨_, _, rfl, rfl, fun _ => ?_, fun h => absurd h (by first | decide | (refine ne_not ?_; assumption))⟩ | refine .inl ⟨_, _, rfl, rfl, (fun h => absurd h (by first | decide | (refine ne_not2 ?_; assumption))), fun _ => ⟨[], rfl, rfl, rfl⟩⟩)
      (all_goals (refine op_move ?_; exact ⟨[], rfl, rfl, rfl⟩))
    · rintro _ _ ⟨rfl, rfl⟩ -
      simp only [with2, Step2, nthDst, putO]
      (first | refine .inr ⟨_, rfl, rfl, [], rfl, rfl, rfl⟩ | refine .inl ⟨_, _, rfl, rfl, fun _ => ?_, fun h => absurd h (by first | decide | (refine ne_not ?_; assumption))⟩ | refine .inl ⟨_, _, rfl, rfl, (fun h => absurd h (by first | decide | (refine ne_not2 ?_; assumption))), fun _ => ⟨[], rfl, rfl, rfl⟩⟩)
      (all_goals (refine op_move ?_; exact ⟨[], rfl, rfl, rfl⟩))
    · rintro _ _ ⟨rfl, rfl⟩ - _ _ ⟨rfl, rfl⟩ - _ _ ⟨rfl, rfl⟩ - _ _ ⟨rfl, rfl⟩ - _ _ ⟨rfl, rfl⟩ -
      simp only [with2, Step2, nthDst, putO]
      (first | refine .inr ⟨_, rfl, rfl, [], rfl, rfl, rfl⟩ | refine .inl ⟨_, _, rfl, rfl, fun _ => ?_, fun h => absurd h (by first | decide | (refine ne_not ?_; assumption))⟩ | refine .inl ⟨_, _, rfl, rfl, (fun h => absurd h (by first | decide | (refine ne_not2 ?_; assumption))), fun _ => ⟨[], rfl, rfl, rfl⟩⟩)
      (all_goals ((refine op_buildSlice (fun k => ?_); exact ⟨[_], rfl, k, rfl, mem0⟩)))
    · rintro _ _ ⟨rfl, rfl⟩ -
      simp only [with2, Step2, nthDst, putO]
      (first | refine .inr ⟨_, rfl, rfl, [], rfl, rfl, rfl⟩ | refine .inl ⟨_, _, rfl, rfl, fun _ => ?_, fun h => absurd h (by first | decide | (refine ne_not ?_; assumption))⟩ | refine .inl ⟨_, _, rfl, rfl, (fun h => absurd h (by first | decide | (refine ne_not2 ?_; assumption))), fun _ => ⟨[], rfl, rfl, rfl⟩⟩)
      (all_goals (refine op_fieldAddr ?_; exact ⟨[], rfl, rfl, rfl⟩))
    · rintro _ _ ⟨rfl, rfl⟩ - _ _ ⟨rfl, rfl⟩ -
      simp only [with2, Step2, nthDst, putO]
      (first | refine .inr ⟨_, rfl, rfl, [], rfl, rfl, rfl⟩ | refine .inl ⟨_, _, rfl, rfl, fun _ => ?_, fun h => absurd h (by first | decide | (refine ne_not ?_; assumption))⟩ | refine .inl ⟨_, _, rfl, rfl, (fun h => absurd h (by first | decide | (refine ne_not2 ?_; assumption))), fun _ => ⟨[], rfl, rfl, rfl⟩⟩)
      (all_goals ((first | refine op_load ?_ | refine op_load_agg ?_ | refine op_load ?_ (hm := Sub.mem (by assumption) (by (repeat (apply List.mem_cons_of_mem)); assumption)) | refine op_load_agg ?_ (hm := Sub.mem (by assumption) (by (repeat (apply List.mem_cons_of_mem)); assumption))); exact ⟨[], rfl, rfl, rfl⟩))
    · rintro _ _ ⟨rfl, rfl⟩ - _ _ ⟨rfl, rfl⟩ -
      simp only [with2, Step2, nthDst, putO]
      (first | refine .inr ⟨_, rfl, rfl, [], rfl, rfl, rfl⟩ | refine .inl ⟨_, _, rfl, rfl, fun _ => ?_, fun h => absurd h (by first | decide | (refine ne_not ?_; assumption))⟩ | refine .inl ⟨_, _, rfl, rfl, (fun h => absurd h (by first | decide | (refine ne_not2 ?_; assumption))), fun _ => ⟨[], rfl, rfl, rfl⟩⟩)
      (all_goals ((first | refine op_indexC ?_ | refine op_indexAddr1 ?_ | refine op_indexAddr ?_); exact ⟨[], rfl, rfl, rfl⟩))
    · rintro _ _ ⟨rfl, rfl⟩ - _ _ ⟨rfl, rfl⟩ -
      simp only [with2, Step2, nthDst, putO]
      (first | refine .inr ⟨_, rfl, rfl, [], rfl, rfl, rfl⟩ | refine .inl ⟨_, _, rfl, rfl, fun _ => ?_, fun h => absurd h (by first | decide | (refine ne_not ?_; assumption))⟩ | refine .inl ⟨_, _, rfl, rfl, (fun h => absurd h (by first | decide | (refine ne_not2 ?_; assumption))), fun _ => ⟨[], rfl, rfl, rfl⟩⟩)
      (all_goals ((first | refine op_load ?_ | refine op_load_agg ?_ | refine op_load ?_ (hm := Sub.mem (by assumption) (by (repeat (apply List.mem_cons_of_mem)); assumption)) | refine op_load_agg ?_ (hm := Sub.mem (by assumption) (by (repeat (apply List.mem_cons_of_mem)); assumption))); exact ⟨[], rfl, rfl, rfl⟩))
    · rintro _ _ ⟨rfl, rfl⟩ -
      simp only [with2, Step2, nthDst, putO]
      (first | refine .inr ⟨_, rfl, rfl, [], rfl, rfl, rfl⟩ | refine .inl ⟨_, _, rfl, rfl, fun _ => ?_, fun h => absurd h (by first | decide | (refine ne_not ?_; assumption))⟩ | refine .inl ⟨_, _, rfl, rfl, (fun h => absurd h (by first | decide | (refine ne_not2 ?_; assumption))), fun _ => ⟨[], rfl, rfl, rfl⟩⟩)
      (all_goals (refine op_fieldAddr ?_; exact ⟨[], rfl, rfl, rfl⟩))
    · rintro _ _ ⟨rfl, rfl⟩ - _ _ ⟨rfl, rfl⟩ -
      simp only [with2, Step2, nthDst, putO]
      (first | refine .inr ⟨_, rfl, rfl, [], rfl, rfl, rfl⟩ | refine .inl ⟨_, _, rfl, rfl, fun _ => ?_, fun h => absurd h (by first | decide | (refine ne_not ?_; assumption))⟩ | refine .inl ⟨_, _, rfl, rfl, (fun h => absurd h (by first | decide | (refine ne_not2 ?_; assumption))), fun _ => ⟨[], rfl, rfl, rfl⟩⟩)
      (all_goals ((first | refine op_load ?_ | refine op_load_agg ?_ | refine op_load ?_ (hm := Sub.mem (by assumption) (by (repeat (apply List.mem_cons_of_mem)); assumption)) | refine op_load_agg ?_ (hm := Sub.mem (by assumption) (by (repeat (apply List.mem_cons_of_mem)); assumption))); exact ⟨[], rfl, rfl, rfl⟩))
    · rintro _ _ ⟨rfl, rfl⟩ - _ _ ⟨rfl, rfl⟩ -
      simp only [with2, Step2, nthDst, putO]
      (first | refine .inr ⟨_, rfl, rfl, [], rfl, rfl, rfl⟩ | refine .inl ⟨_, _, rfl, rfl, fun _ => ?_, fun h => absurd h (by first | decide | (refine ne_not ?_; assumption))⟩ | refine .inl ⟨_, _, rfl, rfl, (fun h => absurd h (by first | decide | (refine ne_not2 ?_; assumption))), fun _ => ⟨[], rfl, rfl, rfl⟩⟩)
      (all_goals ((first | refine op_indexC ?_ | refine op_indexAddr1 ?_ | refine op_indexAddr ?_); exact ⟨[], rfl, rfl, rfl⟩))
    · rintro _ _ ⟨rfl, rfl⟩ - _ _ ⟨rfl, rfl⟩ -
      simp only [with2, Step2, nthDst, putO]
      (first | refine .inr ⟨_, rfl, rfl, [], rfl, rfl, rfl⟩ | refine .inl ⟨_, _, rfl, rfl, fun _ => ?_, fun h => absurd h (by first | decide | (refine ne_not ?_; assumption))⟩ | refine .inl ⟨_, _, rfl, rfl, (fun h => absurd h (by first | decide | (refine ne_not2 ?_; assumption))), fun _ => ⟨[], rfl, rfl, rfl⟩⟩)
      (all_goals ((first | refine op_load ?_ | refine op_load_agg ?_ | refine op_load ?_ (hm := Sub.mem (by assumption) (by (repeat (apply List.mem_cons_of_mem)); assumption)) | refine op_load_agg ?_ (hm := Sub.mem (by assumption) (by (repeat (apply List.mem_cons_of_mem)); assumption))); exact ⟨[], rfl, rfl, rfl⟩))
    · rintro _ _ ⟨rfl, rfl⟩ -
      simp only [with2, Step2, nthDst, putO]
      (first | refine .inr ⟨_, rfl, rfl, [], rfl, rfl, rfl⟩ | refine .inl ⟨_, _, rfl, rfl, fun _ => ?_, fun h => absurd h (by first | decide | (refine ne_not ?_; assumption))⟩ | refine .inl ⟨_, _, rfl, rfl, (fun h => absurd h (by first | decide | (refine ne_not2 ?_; assumption))), fun _ => ⟨[], rfl, rfl, rfl⟩⟩)
      (all_goals (refine op_move ?_; exact ⟨[], rfl, rfl, rfl⟩))
    · rintro _ _ ⟨rfl, rfl⟩ -
      simp only [with2, Step2, nthDst, putO]
      (first | refine .inr ⟨_, rfl, rfl, [], rfl, rfl, rfl⟩ | refine .inl ⟨_, _, rfl, rfl, fun _ => ?_, fun h => absurd h (by first | decide | (refine ne_not ?_; assumption))⟩ | refine .inl ⟨_, _, rfl, rfl, (fun h => absurd h (by first | decide | (refine ne_not2 ?_; assumption))), fun _ => ⟨[], rfl, rfl, rfl⟩⟩)
      (all_goals (refine op_move ?_; exact ⟨[], rfl, rfl, rfl⟩))
    · rintro _ _ ⟨rfl, rfl⟩ - _ _ ⟨rfl, rfl⟩ - _ _ ⟨rfl, rfl⟩ - _ _ ⟨rfl, rfl⟩ - _ _ ⟨rfl, rfl⟩ -
      simp only [with2, Step2, nthDst, putO]
      (first | refine .inr ⟨_, rfl, rfl, [], rfl, rfl, rfl⟩ | refine .inl ⟨_, _, rfl, rfl, fun _ => ?_, fun h => absurd h (by first | decide | (refine ne_not ?_; assumption))⟩ | refine .inl ⟨_, _, rfl, rfl, (fun h => absurd h (by first | decide | (refine ne_not2 ?_; assumption))), fun _ => ⟨[], rfl, rfl, rfl⟩⟩)
      (all_goals ((refine op_buildSlice (fun k => ?_); exact ⟨[_], rfl, k, rfl, mem0⟩)))
    · rintro _ _ ⟨ka, rfl, ma⟩ - _ _ ⟨kb, rfl, mb⟩ - _ _ ⟨rfl, rfl⟩ -
      simp only [with2, Step2, nthDst, putO]
      (first | refine .inr ⟨_, rfl, rfl, [], rfl, rfl, rfl⟩ | refine .inl ⟨_, _, rfl, rfl, fun _ => ?_, fun h => absurd h (by first | decide | (refine ne_not ?_; assumption))⟩ | refine .inl ⟨_, _, rfl, rfl, (fun h => absurd h (by first | decide | (refine ne_not2 ?_; assumption))), fun _ => ⟨[], rfl, rfl, rfl⟩⟩)
      (all_goals ((refine op_call ((Flat.sameFloats _ _ _ _ [f.getD 0 0, f.getD 1 0, zOf l f, mOf l f] [f.getD 0 0, f.getD 1 0, 0, f.getD 2 0] _ (fs_new [f.getD 0 0, f.getD 1 0, zOf l f, mOf l f] ma) (fs_new [f.getD 0 0, f.getD 1 0, 0, f.getD 2 0] mb) (by simp)).mono ?_); rintro _ _ ⟨rfl, rfl⟩; exact ⟨[], rfl, congrArg Value.bool (decide_eq_true (by rw [hz, hm])), rfl⟩)))
    · rintro _ _ ⟨rfl, rfl⟩ - _ _ ⟨rfl, rfl⟩ -
      simp only [with2, Step2, nthDst, putO]
      ((first | refine op_pick_true ?_ | refine op_pick_false ?_ | refine op_pick_true' ?_ | refine op_pick_false' ?_); exact ⟨[], rfl, rfl, rfl⟩)
    · rintro _ _ _ _ _ _ _ _ _ _ _ _ _ _ _ _ _ _ _ _ _ _ _ _ _ _ _ _ _ _ _ _ _ _ _ _ _ _ _ _ ⟨⟨rfl, rfl⟩, ⟨rfl, rfl⟩, ⟨kb, rfl, mb⟩, ⟨rfl, rfl⟩, ⟨rfl, rfl⟩, ⟨rfl, rfl⟩, ⟨rfl, rfl⟩, ⟨rfl, rfl⟩, ⟨rfl, rfl⟩, ⟨rfl, rfl⟩, ⟨rfl, rfl⟩, ⟨rfl, rfl⟩, ⟨rfl, rfl⟩, ⟨ka, rfl, ma⟩, ⟨rfl, rfl⟩, ⟨rfl, rfl⟩, ⟨rfl, rfl⟩, ⟨rfl, rfl⟩, ⟨rfl, rfl⟩, ⟨rfl, rfl⟩, _⟩
      simp only [List.nil_append, List.cons_append, List.append_nil, List.drop_succ_cons, List.drop_zero, nthDst, putO]
      repeat'
        first
          | refine tl_defer ?_ | refine tc_seq ?_ | refine tc_region ?_ | refine at_seq_normal ?_ | refine tl_nil ?_ | refine tl_cons ?_ | refine tl_cons_none ?_ | refine op_move ?_
          | refine op_assign ?_ | refine op_fieldAddr ?_ | refine op_load ?_ | refine op_load_agg ?_ | refine op_indexC ?_ | refine op_indexAddr1 ?_ | refine op_indexAddr ?_ | refine op_icmp ?_
          | refine op_fcmp ?_ | refine op_iarith ?_ | refine op_bcmp ?_ | refine op_unop_not ?_ | refine op_unop_neg_float ?_ | refine op_unop_neg_int ?_ | refine op_len_slice ?_ | refine op_pick_true ?_
          | refine op_pick_false ?_ | refine op_pick_true' ?_ | refine op_pick_false' ?_ | refine op_build ?_ | refine op_extract ?_ | refine op_makeInterface ?_ | refine op_typeAssert ?_ | refine op_ptr_nil ?_
          | refine op_nilCheck_ptr ?_ | refine op_nilCheck_meth ?_ | refine op_makeMeth ?_ | refine op_makeFunc ?_ | refine op_itof ?_ | refine op_itoi ?_ | refine op_ftoi ?_ | refine op_iquo ?_
          | refine op_irem ?_ | refine op_ibits ?_ | refine op_slice_isnil ?_ | refine op_slice_notnil ?_ | refine op_imax ?_ | refine op_imin ?_ | refine op_shl ?_ | refine op_shr ?_
          | (refine op_alloc ?_; intro _) | (refine op_box ?_; intro _) | (refine op_buildSlice ?_; intro _) | (refine op_farith ?_; intro _ _) | refine op_store0 ?_ | refine op_store1 ?_ | refine op_store2 ?_ | refine op_store3 ?_
          | refine op_store4 ?_ | refine op_store5 ?_ | refine tc_cond_t ?_ | refine tc_cond_f ?_ | refine tc_cond (fun _ => ?_) (fun _ => ?_) | refine tc_block ?_ | refine tc_skip ?_ | refine tc_ret ?_
          | refine tc_exit ?_ | refine tc_label ?_ | refine at_seq_ret ?_ | refine at_seq_exit ?_ | refine at_block_normal ?_ | refine at_block_ret ?_ | refine at_block_exit_self ?_ | refine at_block_exit_ne ?_
          | refine at_loop_ret ?_ | refine at_loop_exit ?_ | refine at_loop_goto ?_ | refine tl_guard_yes ?_ | refine tl_guard_no ?_ | refine tl_guard_yes' ?_ | refine tl_guard_no' ?_ | refine tl_guard_undef ?_
          | refine tl_guard_split (fun _ => ?_) (fun _ => ?_)
      exact ret_tmp (hG := by (repeat (first | exact List.Sublist.refl _ | apply List.Sublist.cons_cons | apply List.Sublist.cons | refine List.Sublist.trans ?_ (List.sublist_append_right _ _)))) (hk := ⟨rfl, rfl⟩)
  · have ceql2 : icmp .eql l 2 = false := by simp only [icmp, beq_eq_false_iff_ne]; omega
    have cgeq4 : icmp .geq l 4 = true := by simp only [icmp, decide_eq_true_eq]; omega
    have ceql3 : icmp .eql l 3 = false := by simp only [icmp, beq_eq_false_iff_ne]; omega
    have hz : zOf l f = f.getD 2 0 := by unfold zOf; rw [if_neg (by omega)]
    have hm : mOf l f = f.getD 3 0 := by unfold mOf; rw [if_neg (by omega), if_neg (by omega)]
    have hln : 4 ≤ f.length := by unfold strideI at hlen; (repeat' split at hlen) <;> omega
    have g2 := hcut 2 (by omega)
    have g3 := hcut 3 (by omega)
    have hl2 : 2 < f.length := by omega
    have hl3 : 3 < f.length := by omega
    refine fn_enter 82 Try.func3 fun W => ?_
    repeat' first
      | (first | refine tl_defer ?_ | refine tc_seq ?_ | refine tc_region ?_ | refine at_seq_normal ?_ | refine tl_nil ?_ | refine tl_cons ?_ | refine tl_cons_none ?_ | refine op_move ?_ | refine op_assign ?_ | refine op_fieldAddr ?_ | refine op_load ?_ | refine op_load_agg ?_ | refine op_indexC ?_ | refine op_indexAddr1 ?_ | refine op_indexAddr ?_ | refine op_icmp ?_ | refine op_fcmp ?_ | refine op_iarith ?_ | refine op_bcmp ?_ | refine op_unop_not ?_ | refine op_unop_neg_float ?_ | refine op_unop_neg_int ?_ | refine op_len_slice ?_ | refine op_pick_true ?_ | refine op_pick_false ?_ | refine op_pick_true' ?_ | refine op_pick_false' ?_ | refine op_build ?_ | refine op_extract ?_ | refine op_makeInterface ?_ | refine op_typeAssert ?_ | refine op_ptr_nil ?_ | refine op_nilCheck_ptr ?_ | refine op_nilCheck_meth ?_ | refine op_makeMeth ?_ | refine op_makeFunc ?_ | refine op_itof ?_ | refine op_itoi ?_ | refine op_ftoi ?_ | refine op_iquo ?_ | refine op_irem ?_ | refine op_ibits ?_ | refine op_slice_isnil ?_ | refine op_slice_notnil ?_ | refine op_imax ?_ | refine op_imin ?_ | refine op_shl ?_ | refine op_shr ?_ | (refine op_alloc ?_; intro _) | (refine op_box ?_; intro _) | (refine op_buildSlice ?_; intro _) | (refine op_farith ?_; intro _ _) | refine op_store0 ?_ | refine op_store1 ?_ | refine op_store2 ?_ | refine op_store3 ?_ | refine op_store4 ?_ | refine op_store5 ?_ | refine tc_cond_t ?_ | refine tc_cond_f ?_ | refine tc_cond (fun _ => ?_) (fun _ => ?_) | refine tc_block ?_ | refine tc_skip ?_ | refine tc_ret ?_ | refine tc_exit ?_ | refine tc_label ?_ | refine at_seq_ret ?_ | refine at_seq_exit ?_ | refine at_block_normal ?_ | refine at_block_ret ?_ | refine at_block_exit_self ?_ | refine at_block_exit_ne ?_ | refine at_loop_ret ?_ | refine at_loop_exit ?_ | refine at_loop_goto ?_ | refine tl_guard_yes ?_ | refine tl_guard_no ?_ | refine tl_guard_yes' ?_ | refine tl_guard_no' ?_ | refine tl_guard_undef ?_ | refine tl_guard_split (fun _ => ?_) (fun _ => ?_))
      | (refine op_call ((zzFits2 _ _ _ (IsG.mono (fun e he => by simp [he]) hg0) hw).mono ?_); rintro _ _ ⟨⟨b, rfl⟩, rfl⟩)
      | (refine op_call ((gGood [Geo.mk 1 l s f e ee ks] _ _ _ _ hwt (sl_one7 rfl mem0) ⟨IsG.mono (fun e he => by simp [he]) hg0, trivial⟩).mono ?_); rintro _ _ ⟨rfl, rfl⟩; rw [hgd])
      | (refine op_call ((implOrd l s _ _ _ _ f _ hl1 (hf.mono fun e he => by simp [he]) (by unfold Geo.wt at hw; omega) hlen).mono ?_); rintro _ _ ⟨rfl, ex, rfl⟩)
      | fail
    · exact ret_tmp (hG := by (repeat (first | exact List.Sublist.refl _ | apply List.Sublist.cons_cons | apply List.Sublist.cons | refine List.Sublist.trans ?_ (List.sublist_append_right _ _)))) (hk := ⟨rfl, rfl⟩)
    refine tc_weak (fun _ _ h => h) (List.sublist_append_right _ _) ?_
    apply fun hole0 hole1 hole2 hole3 hole4 hole5 hole6 hole7 hole8 hole9 hole10 hole11 hole12 hole13 hole14 hole15 hole16 hE hD hml hdl hpr prem fin => tc_drawn 20 [is hole0, is hole1, is hole2, is hole3, is hole4, is hole5, (fun w ex G => ∃ k, w = .slice (some ⟨k, 0, none⟩) 4 4 ∧ (k, Obj.cells ⟨[.float .f64 (f.getD 0 0), .float .f64 (f.getD 1 0), .float .f64 (zOf l f), .float .f64 (mOf l f)]⟩ 30 (0, 0)) ∈ G), is hole6, is hole7, is hole8, is hole9, is hole10, is hole11, is hole12, is hole13, is hole14, is hole15, (fun w ex G => ∃ k, w = .slice (some ⟨k, 0, none⟩) 4 4 ∧ (k, Obj.cells ⟨[.float .f64 (f.getD 0 0), .float .f64 (f.getD 1 0), .float .f64 (f.getD 2 0), .float .f64 (f.getD 3 0)]⟩ 30 (0, 0)) ∈ G), (is (.bool true)), is hole16]
      [some 62, some 63, some 64, some 65, some 66, some 67, some 68, some 69, some 70, some 71, some 72, some 73, some 74, some 75, some 76, some 77, some 78, some 79, some 80, some 81, some 2] [[], [0], [1], [1], [1], [1], [2, 3, 4, 5, 1], [1], [7, 1], [8, 1], [9, 1], [1], [11, 1], [12, 1], [13, 1], [1], [1], [10, 14, 15, 16, 1], [6, 17, 1], [1, 18]] mixed ⟨(is_mono _), (is_mono _), (is_mono _), (is_mono _), (is_mono _), (is_mono _), (fun _ _ _ _ ⟨k, h1, h2⟩ hs => ⟨k, h1, hs _ h2⟩), (is_mono _), (is_mono _), (is_mono _), (is_mono _), (is_mono _), (is_mono _), (is_mono _), (is_mono _), (is_mono _), (is_mono _), (fun _ _ _ _ ⟨k, h1, h2⟩ hs => ⟨k, h1, hs _ h2⟩), (some_mono _), (is_mono _), trivial⟩ prem fin hE hD rfl hml hdl hpr
    rotate_left 18
    · exact rfl
    · exact rfl
    · exact Nat.le_of_ble_eq_true rfl
    · exact rfl
    · exact rfl
    refine ⟨fun G hG => ?_, fun G hG => ?_, fun G hG => ?_, fun G hG => ?_, fun G hG => ?_, fun G hG => ?_, fun G hG => ?_, fun G hG => ?_, fun G hG => ?_, fun G hG => ?_, fun G hG => ?_, fun G hG => ?_, fun G hG => ?_, fun G hG => ?_, fun G hG => ?_, fun G hG => ?_, fun G hG => ?_, fun G hG => ?_, fun G hG => ?_, fun G hG => ?_, trivial⟩
    · simp only [with2, Step2, nthDst, putO]
      (refine op_move ?_; exact ⟨[], rfl, rfl, rfl⟩)
    · rintro _ _ ⟨rfl, rfl⟩ -
      simp only [with2, Step2, nthDst, putO]
      (refine op_move ?_; exact ⟨[], rfl, rfl, rfl⟩)
    · rintro _ _ ⟨rfl, rfl⟩ -
      simp only [with2, Step2, nthDst, putO]
      (first | refine .inr ⟨_, rfl, rfl, [], rfl, rfl, rfl⟩ | refine .inl ⟨_, _, rfl, rfl, fun _ => ?_, fun h => absurd h (by first | decide | (refine ne_not ?_; assumption))⟩ | refine .inl ⟨_, _, rfl, rfl, (fun h => absurd h (by first | decide | (refine ne_not2 ?_; assumption))), fun _ => ⟨[], rfl, rfl, rfl⟩⟩)
      (all_goals (refine op_move ?_; exact ⟨[], rfl, rfl, rfl⟩))
    · rintro _ _ ⟨rfl, rfl⟩ -
      simp only [with2, Step2, nthDst, putO]
      (first | refine .inr ⟨_, rfl, rfl, [], rfl, rfl, rfl⟩ | refine .inl ⟨_, _, rfl, rfl, fun _ => ?_, fun h => absurd h (by first | decide | (refine ne_not ?_; assumption))⟩ | refine .inl ⟨_, _, rfl, rfl, (fun h => absurd h (by first | decide | (refine ne_not2 ?_; assumption))), fun _ => ⟨[], rfl, rfl, rfl⟩⟩)
      (all_goals (refine op_move ?_; exact ⟨[], rfl, rfl, rfl⟩))
    · rintro _ _ ⟨rfl, rfl⟩ -
      simp only [with2, Step2, nthDst, putO]
      (first | refine .inr ⟨_, rfl, rfl, [], rfl, rfl, rfl⟩ | refine .inl ⟨_, _, rfl, rfl, fun _ => ?_, fun h => absurd h (by first | decide | (refine ne_not ?_; assumption))⟩ | refine .inl ⟨_, _, rfl, rfl, (fun h => absurd h (by first | decide | (refine ne_not2 ?_; assumption))), fun _ => ⟨[], rfl, rfl, rfl⟩⟩)
      (all_goals (refine op_move ?_; exact ⟨[], rfl, rfl, rfl⟩))
    · rintro _ _ ⟨rfl, rfl⟩ -
      simp only [with2, Step2, nthDst, putO]
      (first | refine .inr ⟨_, rfl, rfl, [], rfl, rfl, rfl⟩ | refine .inl ⟨_, _, rfl, rfl, fun _ => ?_, fun h => absurd h (by first | decide | (refine ne_not ?_; assumption))⟩ | refine .inl ⟨_, _, rfl, rfl, (fun h => absurd h (by first | decide | (refine ne_not2 ?_; assumption))), fun _ => ⟨[], rfl, rfl, rfl⟩⟩)
      (all_goals (refine op_move ?_; exact ⟨[], rfl, rfl, rfl⟩))
    · rintro _ _ ⟨rfl, rfl⟩ - _ _ ⟨rfl, rfl⟩ - _ _ ⟨rfl, rfl⟩ - _ _ ⟨rfl, rfl⟩ - _ _ ⟨rfl, rfl⟩ -
      simp only [with2, Step2, nthDst, putO]
      (first | refine .inr ⟨_, rfl, rfl, [], rfl, rfl, rfl⟩ | refine .inl ⟨_, _, rfl, rfl, fun _ => ?_, fun h => absurd h (by first | decide | (refine ne_not ?_; assumption))⟩ | refine .inl ⟨_, _, rfl, rfl, (fun h => absurd h (by first | decide | (refine ne_not2 ?_; assumption))), fun _ => ⟨[], rfl, rfl, rfl⟩⟩)
      (all_goals ((refine op_buildSlice (fun k => ?_); exact ⟨[_], rfl, k, rfl, mem0⟩)))
    · rintro _ _ ⟨rfl, rfl⟩ -
      simp only [with2, Step2, nthDst, putO]
      (first | refine .inr ⟨_, rfl, rfl, [], rfl, rfl, rfl⟩ | refine .inl ⟨_, _, rfl, rfl, fun _ => ?_, fun h => absurd h (by first | decide | (refine ne_not ?_; assumption))⟩ | refine .inl ⟨_, _, rfl, rfl, (fun h => absurd h (by first | decide | (refine ne_not2 ?_; assumption))), fun _ => ⟨[], rfl, rfl, rfl⟩⟩)
      (all_goals (refine op_fieldAddr ?_; exact ⟨[], rfl, rfl, rfl⟩))
    · rintro _ _ ⟨rfl, rfl⟩ - _ _ ⟨rfl, rfl⟩ -
      simp only [with2, Step2, nthDst, putO]
      (first | refine .inr ⟨_, rfl, rfl, [], rfl, rfl, rfl⟩ | refine .inl ⟨_, _, rfl, rfl, fun _ => ?_, fun h => absurd h (by first | decide | (refine ne_not ?_; assumption))⟩ | refine .inl ⟨_, _, rfl, rfl, (fun h => absurd h (by first | decide | (refine ne_not2 ?_; assumption))), fun _ => ⟨[], rfl, rfl, rfl⟩⟩)
      (all_goals ((first | refine op_load ?_ | refine op_load_agg ?_ | refine op_load ?_ (hm := Sub.mem (by assumption) (by (repeat (apply List.mem_cons_of_mem)); assumption)) | refine op_load_agg ?_ (hm := Sub.mem (by assumption) (by (repeat (apply List.mem_cons_of_mem)); assumption))); exact ⟨[], rfl, rfl, rfl⟩))
    · rintro _ _ ⟨rfl, rfl⟩ - _ _ ⟨rfl, rfl⟩ -
      simp only [with2, Step2, nthDst, putO]
      (first | refine .inr ⟨_, rfl, rfl, [], rfl, rfl, rfl⟩ | refine .inl ⟨_, _, rfl, rfl, fun _ => ?_, fun h => absurd h (by first | decide | (refine ne_not ?_; assumption))⟩ | refine .inl ⟨_, _, rfl, rfl, (fun h => absurd h (by first | decide | (refine ne_not2 ?_; assumption))), fun _ => ⟨[], rfl, rfl, rfl⟩⟩)
      (all_goals ((first | refine op_indexC ?_ | refine op_indexAddr1 ?_ | refine op_indexAddr ?_); exact ⟨[], rfl, rfl, rfl⟩))
    · rintro _ _ ⟨rfl, rfl⟩ - _ _ ⟨rfl, rfl⟩ -
      simp only [with2, Step2, nthDst, putO]
      (first | refine .inr ⟨_, rfl, rfl, [], rfl, rfl, rfl⟩ | refine .inl ⟨_, _, rfl, rfl, fun _ => ?_, fun h => absurd h (by first | decide | (refine ne_not ?_; assumption))⟩ | refine .inl ⟨_, _, rfl, rfl, (fun h => absurd h (by first | decide | (refine ne_not2 ?_; assumption))), fun _ => ⟨[], rfl, rfl, rfl⟩⟩)
      (all_goals ((first | refine op_load ?_ | refine op_load_agg ?_ | refine op_load ?_ (hm := Sub.mem (by assumption) (by (repeat (apply List.mem_cons_of_mem)); assumption)) | refine op_load_agg ?_ (hm := Sub.mem (by assumption) (by (repeat (apply List.mem_cons_of_mem)); assumption))); exact ⟨[], rfl, rfl, rfl⟩))
    · rintro _ _ ⟨rfl, rfl⟩ -
      simp only [with2, Step2, nthDst, putO]
      (first | refine .inr ⟨_, rfl, rfl, [], rfl, rfl, rfl⟩ | refine .inl ⟨_, _, rfl, rfl, fun _ => ?_, fun h => absurd h (by first | decide | (refine ne_not ?_; assumption))⟩ | refine .inl ⟨_, _, rfl, rfl, (fun h => absurd h (by first | decide | (refine ne_not2 ?_; assumption))), fun _ => ⟨[], rfl, rfl, rfl⟩⟩)
      (all_goals (refine op_fieldAddr ?_; exact ⟨[], rfl, rfl, rfl⟩))
    · rintro _ _ ⟨rfl, rfl⟩ - _ _ ⟨rfl, rfl⟩ -
      simp only [with2, Step2, nthDst, putO]
      (first | refine .inr ⟨_, rfl, rfl, [], rfl, rfl, rfl⟩ | refine .inl ⟨_, _, rfl, rfl, fun _ => ?_, fun h => absurd h (by first | decide | (refine ne_not ?_; assumption))⟩ | refine .inl ⟨_, _, rfl, rfl, (fun h => absurd h (by first | decide | (refine ne_not2 ?_; assumption))), fun _ => ⟨[], rfl, rfl, rfl⟩⟩)
      (all_goals ((first | refine op_load ?_ | refine op_load_agg ?_ | refine op_load ?_ (hm := Sub.mem (by assumption) (by (repeat (apply List.mem_cons_of_mem)); assumption)) | refine op_load_agg ?_ (hm := Sub.mem (by assumption) (by (repeat (apply List.mem_cons_of_mem)); assumption))); exact ⟨[], rfl, rfl, rfl⟩))
    · rintro _ _ ⟨rfl, rfl⟩ - _ _ ⟨rfl, rfl⟩ -
      simp only [with2, Step2, nthDst, putO]
      (first | refine .inr ⟨_, rfl, rfl, [], rfl, rfl, rfl⟩ | refine .inl ⟨_, _, rfl, rfl, fun _ => ?_, fun h => absurd h (by first | decide | (refine ne_not ?_; assumption))⟩ | refine .inl ⟨_, _, rfl, rfl, (fun h => absurd h (by first | decide | (refine ne_not2 ?_; assumption))), fun _ => ⟨[], rfl, rfl, rfl⟩⟩)
      (all_goals ((first | refine op_indexC ?_ | refine op_indexAddr1 ?_ | refine op_indexAddr ?_); exact ⟨[], rfl, rfl, rfl⟩))
    · rintro _ _ ⟨rfl, rfl⟩ - _ _ ⟨rfl, rfl⟩ -
      simp only [with2, Step2, nthDst, putO]
      (first | refine .inr ⟨_, rfl, rfl, [], rfl, rfl, rfl⟩ | refine .inl ⟨_, _, rfl, rfl, fun _ => ?_, fun h => absurd h (by first | decide | (refine ne_not ?_; assumption))⟩ | refine .inl ⟨_, _, rfl, rfl, (fun h => absurd h (by first | decide | (refine ne_not2 ?_; assumption))), fun _ => ⟨[], rfl, rfl, rfl⟩⟩)
      (all_goals ((first | refine op_load ?_ | refine op_load_agg ?_ | refine op_load ?_ (hm := Sub.mem (by assumption) (by (repeat (apply List.mem_cons_of_mem)); assumption)) | refine op_load_agg ?_ (hm := Sub.mem (by assumption) (by (repeat (apply List.mem_cons_of_mem)); assumption))); exact ⟨[], rfl, rfl, rfl⟩))
    · rintro _ _ ⟨rfl, rfl⟩ -
      simp only [with2, Step2, nthDst, putO]
      (first | refine .inr ⟨_, rfl, rfl, [], rfl, rfl, rfl⟩ | refine .inl ⟨_, _, rfl, rfl, fun _ => ?_, fun h => absurd h (by first | decide | (refine ne_not ?_; assumption))⟩ | refine .inl ⟨_, _, rfl, rfl, (fun h => absurd h (by first | decide | (refine ne_not2 ?_; assumption))), fun _ => ⟨[], rfl, rfl, rfl⟩⟩)
      (all_goals (refine op_move ?_; exact ⟨[], rfl, rfl, rfl⟩))
    · rintro _ _ ⟨rfl, rfl⟩ -
      simp only [with2, Step2, nthDst, putO]
      (first | refine .inr ⟨_, rfl, rfl, [], rfl, rfl, rfl⟩ | refine .inl ⟨_, _, rfl, rfl, fun _ => ?_, fun h => absurd h (by first | decide | (refine ne_not ?_; assumption))⟩ | refine .inl ⟨_, _, rfl, rfl, (fun h => absurd h (by first | decide | (refine ne_not2 ?_; assumption))), fun _ => ⟨[], rfl, rfl, rfl⟩⟩)
      (all_goals (refine op_move ?_; exact ⟨[], rfl, rfl, rfl⟩))
    · rintro _ _ ⟨rfl, rfl⟩ - _ _ ⟨rfl, rfl⟩ - _ _ ⟨rfl, rfl⟩ - _ _ ⟨rfl, rfl⟩ - _ _ ⟨rfl, rfl⟩ -
      simp only [with2, Step2, nthDst, putO]
      (first | refine .inr ⟨_, rfl, rfl, [], rfl, rfl, rfl⟩ | refine .inl ⟨_, _, rfl, rfl, fun _ => ?_, fun h => absurd h (by first | decide | (refine ne_not ?_; assumption))⟩ | refine .inl ⟨_, _, rfl, rfl, (fun h => absurd h (by first | decide | (refine ne_not2 ?_; assumption))), fun _ => ⟨[], rfl, rfl, rfl⟩⟩)
      (all_goals ((refine op_buildSlice (fun k => ?_); exact ⟨[_], rfl, k, rfl, mem0⟩)))
    · rintro _ _ ⟨ka, rfl, ma⟩ - _ _ ⟨kb, rfl, mb⟩ - _ _ ⟨rfl, rfl⟩ -
      simp only [with2, Step2, nthDst, putO]
      (first | refine .inr ⟨_, rfl, rfl, [], rfl, rfl, rfl⟩ | refine .inl ⟨_, _, rfl, rfl, fun _ => ?_, fun h => absurd h (by first | decide | (refine ne_not ?_; assumption))⟩ | refine .inl ⟨_, _, rfl, rfl, (fun h => absurd h (by first | decide | (refine ne_not2 ?_; assumption))), fun _ => ⟨[], rfl, rfl, rfl⟩⟩)
      (all_goals ((refine op_call ((Flat.sameFloats _ _ _ _ [f.getD 0 0, f.getD 1 0, zOf l f, mOf l f] [f.getD 0 0, f.getD 1 0, f.getD 2 0, f.getD 3 0] _ (fs_new [f.getD 0 0, f.getD 1 0, zOf l f, mOf l f] ma) (fs_new [f.getD 0 0, f.getD 1 0, f.getD 2 0, f.getD 3 0] mb) (by simp)).mono ?_); rintro _ _ ⟨rfl, rfl⟩; exact ⟨[], rfl, congrArg Value.bool (decide_eq_true (by rw [hz, hm])), rfl⟩)))
    · rintro _ _ ⟨rfl, rfl⟩ - _ _ ⟨rfl, rfl⟩ -
      simp only [with2, Step2, nthDst, putO]
      ((first | refine op_pick_true ?_ | refine op_pick_false ?_ | refine op_pick_true' ?_ | refine op_pick_false' ?_); exact ⟨[], rfl, rfl, rfl⟩)
    · rintro _ _ _ _ _ _ _ _ _ _ _ _ _ _ _ _ _ _ _ _ _ _ _ _ _ _ _ _ _ _ _ _ _ _ _ _ _ _ _ _ ⟨⟨rfl, rfl⟩, ⟨rfl, rfl⟩, ⟨kb, rfl, mb⟩, ⟨rfl, rfl⟩, ⟨rfl, rfl⟩, ⟨rfl, rfl⟩, ⟨rfl, rfl⟩, ⟨rfl, rfl⟩, ⟨rfl, rfl⟩, ⟨rfl, rfl⟩, ⟨rfl, rfl⟩, ⟨rfl, rfl⟩, ⟨rfl, rfl⟩, ⟨ka, rfl, ma⟩, ⟨rfl, rfl⟩, ⟨rfl, rfl⟩, ⟨rfl, rfl⟩, ⟨rfl, rfl⟩, ⟨rfl, rfl⟩, ⟨rfl, rfl⟩, _⟩
      simp only [List.nil_append, List.cons_append, List.append_nil, List.drop_succ_cons, List.drop_zero, nthDst, putO]
      repeat'
        first
          | refine tl_defer ?_ | refine tc_seq ?_ | refine tc_region ?_ | refine at_seq_normal ?_ | refine tl_nil ?_ | refine tl_cons ?_ | refine tl_cons_none ?_ | refine op_move ?_
          | refine op_assign ?_ | refine op_fieldAddr ?_ | refine op_load ?_ | refine op_load_agg ?_ | refine op_indexC ?_ | refine op_indexAddr1 ?_ | refine op_indexAddr ?_ | refine op_icmp ?_
          | refine op_fcmp ?_ | refine op_iarith ?_ | refine op_bcmp ?_ | refine op_unop_not ?_ | refine op_unop_neg_float ?_ | refine op_unop_neg_int ?_ | refine op_len_slice ?_ | refine op_pick_true ?_
          | refine op_pick_false ?_ | refine op_pick_true' ?_ | refine op_pick_false' ?_ | refine op_build ?_ | refine op_extract ?_ | refine op_makeInterface ?_ | refine op_typeAssert ?_ | refine op_ptr_nil ?_
          | refine op_nilCheck_ptr ?_ | refine op_nilCheck_meth ?_ | refine op_makeMeth ?_ | refine op_makeFunc ?_ | refine op_itof ?_ | refine op_itoi ?_ | refine op_ftoi ?_ | refine op_iquo ?_
          | refine op_irem ?_ | refine op_ibits ?_ | refine op_slice_isnil ?_ | refine op_slice_notnil ?_ | refine op_imax ?_ | refine op_imin ?_ | refine op_shl ?_ | refine op_shr ?_
          | (refine op_alloc ?_; intro _) | (refine op_box ?_; intro _) | (refine op_buildSlice ?_; intro _) | (refine op_farith ?_; intro _ _) | refine op_store0 ?_ | refine op_store1 ?_ | refine op_store2 ?_ | refine op_store3 ?_
          | refine op_store4 ?_ | refine op_store5 ?_ | refine tc_cond_t ?_ | refine tc_cond_f ?_ | refine tc_cond (fun _ => ?_) (fun _ => ?_) | refine tc_block ?_ | refine tc_skip ?_ | refine tc_ret ?_
          | refine tc_exit ?_ | refine tc_label ?_ | refine at_seq_ret ?_ | refine at_seq_exit ?_ | refine at_block_normal ?_ | refine at_block_ret ?_ | refine at_block_exit_self ?_ | refine at_block_exit_ne ?_
          | refine at_loop_ret ?_ | refine at_loop_exit ?_ | refine at_loop_goto ?_ | refine tl_guard_yes ?_ | refine tl_guard_no ?_ | refine tl_guard_yes' ?_ | refine tl_guard_no' ?_ | refine tl_guard_undef ?_
          | refine tl_guard_split (fun _ => ?_) (fun _ => ?_)
      exact ret_tmp (hG := by (repeat (first | exact List.Sublist.refl _ | apply List.Sublist.cons_cons | apply List.Sublist.cons | refine List.Sublist.trans ?_ (List.sublist_append_right _ _)))) (hk := ⟨rfl, rfl⟩)
theorem own : ownKnob Try.prog.godebug = none := by kernel_rfl
theorem laid : laidOutB Try.prog = true := by kernel_rfl
set_option maxRecDepth 100000 in
theorem lifted (os : Os) (started : os.Started) (H : Type) (enc : TypeId × Value → H) (F : Stop.Interp) :
    ReturnsInHanded {} Try.checked os 3 .any ((Rows.OpenSpec.upto Rows.fnOrdinatesSpec).pre6 enc Try.prog Try.f3 Rows.fnOrdinatesUptoRow.domain false) (((Rows.OpenSpec.upto Rows.fnOrdinatesSpec).at F).post enc Try.prog Try.f3 false true false false) := by
  refine returnsInHanded_of_cond (C := Try.checked) (s := Rows.OpenSpec.upto Rows.fnOrdinatesSpec) (k := Rows.uptoSmall) rfl own started (by kernel_rfl) Try.func3
    (OpenSpec.witness (enc := enc) (C := Try.checked) (s := Rows.OpenSpec.upto Rows.fnOrdinatesSpec) (k := Rows.uptoSmall) rfl false ⟨#[], #[.agg #[.int .i64 0, .int .i64 0, .int .i64 0, .slice none 0 0, .slice none 0 0, .slice none 0 0, .slice none 0 0]], []⟩ 8 (by kernel_rfl) (by kernel_rfl) (by kernel_rfl)
      (x := ([.agg [.lit (.int .i64 0), .lit (.int .i64 0), .lit (.int .i64 0), .nil, .nil, .nil, .nil]], [], [])) (by kernel_rfl) rfl (by kernel_rfl)) ?_
  intro W base args ds gs before hval0 hW hcnd hk _
  have hval : ∀ (j : Nat) t v, Try.f3.params[j]? = some t → args[j]? = some v → Value.okWide Try.prog W .any base t v := hval0
  have hW' := hW
  obtain ⟨p, q, hA0, hV, rfl, hfz, hnd⟩ := hW
  have hA : DataW.TrodAll enc Try.prog W 0 (fun _ => true) true Try.f3.params.toList args.toList ds p := hA0
  rw [Try.params3] at hA hval
  obtain ⟨v0, vs0, d0, ds0, p0, q0, hargs, rfl, rfl, h0, r0⟩ := trodAll_cons hA
  obtain ⟨rfl, rfl, rfl⟩ := trodAll_nil r0
  obtain rfl : args = #[v0] := by cases args; simp_all
  obtain ⟨rfl, rfl⟩ := trodVars_none hV
  have hb := of_decide_eq_true hk
  simp only [List.append_nil, List.cons_append, List.nil_append, Rows.uptoBulkAll] at hb
  obtain ⟨g0, cs0, rfl, hg0, hw0⟩ := Go.Proofs.Ytckjanekjmfanaa.Geom.open_geom (hval 0 27 v0 rfl rfl) h0
  clear hA0 hval0
  refine (calls_of_does (law (H := all W) g0 cs0 hg0 (Nat.le_trans hw0 (by omega))) (sees_all W)).mono fun e W' ⟨v, H', he, hs, hv, hH⟩ => ?_
  subst he
  subst hv
  subst hH
  exact ⟨_, rfl, post_law laid (of_decide_eq_true (by kernel_rfl)) rfl hW' rfl rfl Try.underlying4 hs.below⟩
theorem over : Rows.fnOrdinatesUptoRow.holds Try.pinned (Rows.OpenSpec.upto Rows.fnOrdinatesSpec) :=
  OpenClaim.holds_of_cond 3 Try.f3 rfl rfl rfl rfl rfl rfl rfl ⟨rfl, rfl, rfl, rfl, rfl⟩ rfl rfl rfl rfl rfl (by kernel_rfl) Try.func3 (by kernel_rfl)
    (of_decide_eq_true (by kernel_rfl)) (by unfold Func.isWrapper; first | (rw [if_pos (by decide +kernel)]; kernel_rfl) | (rw [if_neg (by decide +kernel)]; exact ⟨rfl, rfl⟩))
    (fun os started H enc _ F => lifted os started H enc F)
/-- The statement, of the second form. -/
theorem proved : Rows.FnOrdinatesUptoSaid := over
#print axioms proved
end Go.Proofs.Ytckjanekjmfanaa.fnOrdinates
