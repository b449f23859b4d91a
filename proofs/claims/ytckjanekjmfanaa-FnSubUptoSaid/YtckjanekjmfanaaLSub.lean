/-
  FnSub: the part of a line string from a place to another one has the places between. Of the second form (arguments of bulk at most 1048576). No conditions beyond the statement's own.
-/
import Derived.Test.YtckjanekjmfanaaRows
import Derived.Test.YtckjanekjmfanaaGeor
import Derived.Test.YtckjanekjmfanaaGeo4
import Derived.Test.YtckjanekjmfanaaFits
import Derived.Test.YtckjanekjmfanaaSubl
set_option linter.unusedVariables false
set_option linter.unusedSimpArgs false
namespace Go.Proofs.Ytckjanekjmfanaa.fnSub
open Go.Lg Go.Proofs.Ytckjanekjmfanaa.Geom Go.Proofs.Ytckjanekjmfanaa.Gm
open Go.ChangeShapes Go.WideShapes Go.RowKit

theorem sl_one7 {G : Heap} {k : Nat} {T : TypeId} {fz : Nat × Nat} {cs : List Value} (hl : cs.length = 7) (hm : (k, Obj.cells ⟨cs⟩ T fz) ∈ G) : SlN 7 G (.slice (some ⟨k, 0, none⟩) 1 1) 1 ([cs].flatten) :=
  ⟨by simpa using hl, some ⟨k, 0, none⟩, 1, rfl, Nat.le_refl _, fun _ => ⟨k, 0, cs, T, fz, rfl, hm, by simp [← hl]⟩⟩
theorem line_good {l s : Int} {f : List Nat} {e : List Int} {ee : List (List Int)} {ks : List Geo} (h : (Geo.mk 2 l s f e ee ks).wt ≤ 2000 ∧ (Geo.mk 2 l s f e ee ks).Lay 9 ∧ (Geo.mk 2 l s f e ee ks).Good) : 1 ≤ l ∧ f.length ≤ 2000 ∧ ∃ S : Nat, strideI l = (S : Int) ∧ 0 < S ∧ S ≤ 9 := by
  obtain ⟨h1, h2, h3⟩ := h
  unfold Geo.Lay at h2
  unfold Geo.wt at h1
  have hl : 1 ≤ l := by rcases h2.2.2 with h | h <;> omega
  have h2 := strideI_two hl
  refine ⟨hl, by omega, (strideI l).toNat, by omega, by omega, ?_⟩
  have : strideI l ≤ 9 := by unfold strideI; (repeat' split) <;> omega
  omega
theorem same2 {G : Heap} {a b : Option Addr} {n c d : Nat} {xs : List Nat} (hn : xs.length = n) (h9 : n < 2 ^ 40) (h1 : FS G (.slice a n c) xs) (h2 : FS G (.slice b n d) xs) : Does Try.prog 15 [.slice a n c, .slice b n d] G fun w H' => w = .bool true ∧ H' = G := by
  subst hn
  refine (Flat.sameFloats _ _ _ _ xs xs _ h1 h2 h9).mono ?_
  rintro _ _ ⟨rfl, rfl⟩
  exact ⟨by simp, rfl⟩
set_option maxHeartbeats 16000000 in
theorem law {H : Heap} (g : Geo) (cs : List Value) (hg : IsG H g cs) (hw : g.wt ≤ 1048576) (a : Int) (ha : -9223372036854775808 ≤ a ∧ a ≤ 9223372036854775807) (b : Int) (hb : -9223372036854775808 ≤ b ∧ b ≤ 9223372036854775807) : Does Try.prog 4 [.agg ⟨cs⟩, .int .i64 a, .int .i64 b] H fun w H' => w = .bool true ∧ H' = H := by
  have hg0 := hg
  match g, hg, hw, hg0 with
  | .mk k l s f e ee ks, hg, hw, hg0 =>
  obtain ⟨vf, ve, vee, vk, rows, rfl, hf, he, hee, hk, hx1, hx2, hx3⟩ := hg
  obtain ⟨af, cf, rfl⟩ := hf.val
  have hwt : Geo.wts [Geo.mk k l s f e ee ks] < 2 ^ 61 := by simp only [Geo.wts]; omega
  refine fn_enter 75 Try.func4 fun W => ?_
  repeat' first
    | (first | refine tl_defer ?_ | refine tc_seq ?_ | refine tc_region ?_ | refine at_seq_normal ?_ | refine tl_nil ?_ | refine tl_cons ?_ | refine tl_cons_none ?_ | refine op_move ?_ | refine op_assign ?_ | refine op_fieldAddr ?_ | refine op_load ?_ | refine op_load_agg ?_ | refine op_indexC ?_ | refine op_indexAddr1 ?_ | refine op_indexAddr ?_ | refine op_icmp ?_ | refine op_fcmp ?_ | refine op_iarith ?_ | refine op_bcmp ?_ | refine op_unop_not ?_ | refine op_unop_neg_float ?_ | refine op_unop_neg_int ?_ | refine op_len_slice ?_ | refine op_pick_true ?_ | refine op_pick_false ?_ | refine op_pick_true' ?_ | refine op_pick_false' ?_ | refine op_build ?_ | refine op_extract ?_ | refine op_makeInterface ?_ | refine op_typeAssert ?_ | refine op_ptr_nil ?_ | refine op_nilCheck_ptr ?_ | refine op_nilCheck_meth ?_ | refine op_makeMeth ?_ | refine op_makeFunc ?_ | refine op_itof ?_ | refine op_itoi ?_ | refine op_ftoi ?_ | refine op_iquo ?_ | refine op_irem ?_ | refine op_ibits ?_ | refine op_slice_isnil ?_ | refine op_slice_notnil ?_ | refine op_imax ?_ | refine op_imin ?_ | refine op_shl ?_ | refine op_shr ?_ | (refine op_alloc ?_; intro _) | (refine op_box ?_; intro _) | (refine op_buildSlice ?_; intro _) | (refine op_farith ?_; intro _ _) | refine op_store0 ?_ | refine op_store1 ?_ | refine op_store2 ?_ | refine op_store3 ?_ | refine op_store4 ?_ | refine op_store5 ?_ | refine op_storeK rfl ?_ | refine op_loadK rfl ?_ | refine op_load_aggK rfl ?_ | refine tc_cond_t ?_ | refine tc_cond_f ?_ | refine tc_cond (fun _ => ?_) (fun _ => ?_) | refine tc_block ?_ | refine tc_skip ?_ | refine tc_ret ?_ | refine tc_exit ?_ | refine tc_label ?_ | refine at_seq_ret ?_ | refine at_seq_exit ?_ | refine at_block_normal ?_ | refine at_block_ret ?_ | refine at_block_exit_self ?_ | refine at_block_exit_ne ?_ | refine at_loop_ret ?_ | refine at_loop_exit ?_ | refine at_loop_goto ?_ | refine tl_guard_yes ?_ | refine tl_guard_no ?_ | refine tl_guard_yes' ?_ | refine tl_guard_no' ?_ | refine tl_guard_undef ?_ | refine tl_guard_split (fun _ => ?_) (fun _ => ?_))
    | (refine op_call ((zzFits2 _ _ _ (IsG.mono exs hg0) hw).mono ?_); rintro _ _ ⟨⟨bz, rfl⟩, rfl⟩)
    | (refine op_call ((gGood [Geo.mk k l s f e ee ks] _ _ _ _ hwt (sl_one7 rfl mem0) ⟨IsG.mono exs hg0, trivial⟩).mono ?_); rintro _ _ ⟨rfl, rfl⟩)
    | fail
  all_goals first
    | exact ret_tmp (hG := by (repeat (first | exact List.Sublist.refl _ | apply List.Sublist.cons_cons | apply List.Sublist.cons | refine List.Sublist.trans ?_ (List.sublist_append_right _ _)))) (hk := ⟨rfl, rfl⟩)
    | skip
  have hgd : goodAll [Geo.mk k l s f e ee ks] = true := by simpa using ‹(!goodAll [Geo.mk k l s f e ee ks]) = false›
  have hk2 : k = 2 := by simpa [icmp] using ‹icmp .neq k 2 = false›
  subst hk2
  obtain ⟨hl1, hfl, S, hS, hS0, hS9⟩ := line_good (goodAll_one hgd)
  have hSne : (S : Int) ≠ 0 := by omega
  have hdv : IntKind.i64.wrap ((f.length : Int).tdiv (S : Int)) = ((f.length / S : Nat) : Int) := by
    rw [show (f.length : Int).tdiv (S : Int) = ((f.length / S : Nat) : Int) from rfl]
    have := Nat.div_le_self f.length S
    generalize f.length / S = q at *
    exact wrap_in (by omega) (by omega)
  repeat' first
    | (first | refine tl_defer ?_ | refine tc_seq ?_ | refine tc_region ?_ | refine at_seq_normal ?_ | refine tl_nil ?_ | refine tl_cons ?_ | refine tl_cons_none ?_ | refine op_move ?_ | refine op_assign ?_ | refine op_fieldAddr ?_ | refine op_load ?_ | refine op_load_agg ?_ | refine op_indexC ?_ | refine op_indexAddr1 ?_ | refine op_indexAddr ?_ | refine op_icmp ?_ | refine op_fcmp ?_ | refine op_iarith ?_ | refine op_bcmp ?_ | refine op_unop_not ?_ | refine op_unop_neg_float ?_ | refine op_unop_neg_int ?_ | refine op_len_slice ?_ | refine op_pick_true ?_ | refine op_pick_false ?_ | refine op_pick_true' ?_ | refine op_pick_false' ?_ | refine op_build ?_ | refine op_extract ?_ | refine op_makeInterface ?_ | refine op_typeAssert ?_ | refine op_ptr_nil ?_ | refine op_nilCheck_ptr ?_ | refine op_nilCheck_meth ?_ | refine op_makeMeth ?_ | refine op_makeFunc ?_ | refine op_itof ?_ | refine op_itoi ?_ | refine op_ftoi ?_ | refine op_iquo ?_ | refine op_irem ?_ | refine op_ibits ?_ | refine op_slice_isnil ?_ | refine op_slice_notnil ?_ | refine op_imax ?_ | refine op_imin ?_ | refine op_shl ?_ | refine op_shr ?_ | (refine op_alloc ?_; intro _) | (refine op_box ?_; intro _) | (refine op_buildSlice ?_; intro _) | (refine op_farith ?_; intro _ _) | refine op_store0 ?_ | refine op_store1 ?_ | refine op_store2 ?_ | refine op_store3 ?_ | refine op_store4 ?_ | refine op_store5 ?_ | refine op_storeK rfl ?_ | refine op_loadK rfl ?_ | refine op_load_aggK rfl ?_ | refine tc_cond_t ?_ | refine tc_cond_f ?_ | refine tc_cond (fun _ => ?_) (fun _ => ?_) | refine tc_block ?_ | refine tc_skip ?_ | refine tc_ret ?_ | refine tc_exit ?_ | refine tc_label ?_ | refine at_seq_ret ?_ | refine at_seq_exit ?_ | refine at_block_normal ?_ | refine at_block_ret ?_ | refine at_block_exit_self ?_ | refine at_block_exit_ne ?_ | refine at_loop_ret ?_ | refine at_loop_exit ?_ | refine at_loop_goto ?_ | refine tl_guard_yes ?_ | refine tl_guard_no ?_ | refine tl_guard_yes' ?_ | refine tl_guard_no' ?_ | refine tl_guard_undef ?_ | refine tl_guard_split (fun _ => ?_) (fun _ => ?_))
    | (refine op_call ((Geom.stride l _).mono ?_); rintro _ _ ⟨rfl, rfl⟩; rw [hS])
    | fail
  all_goals first
    | exact ret_tmp (hG := by (repeat (first | exact List.Sublist.refl _ | apply List.Sublist.cons_cons | apply List.Sublist.cons | refine List.Sublist.trans ?_ (List.sublist_append_right _ _)))) (hk := ⟨rfl, rfl⟩)
    | skip
  have r1 : ¬ a < 0 := of_decide_eq_false ‹icmp .lss a 0 = false›
  have r2 : ¬ b < a := of_decide_eq_false ‹icmp .lss b a = false›
  have r3 : ¬ b > IntKind.i64.wrap ((f.length : Int).tdiv (S : Int)) := of_decide_eq_false ‹icmp .gtr b (IntKind.i64.wrap ((f.length : Int).tdiv (S : Int))) = false›
  rw [hdv] at r3
  obtain ⟨i, rfl⟩ : ∃ i : Nat, a = (i : Int) := ⟨a.toNat, by omega⟩
  obtain ⟨j, rfl⟩ : ∃ j : Nat, b = (j : Int) := ⟨b.toNat, by omega⟩
  have hijn : i ≤ j := by omega
  have hjn : j ≤ f.length / S := by omega
  have hij : i * S ≤ j * S := Nat.mul_le_mul_right _ hijn
  have hj : j * S ≤ f.length := Nat.le_trans (Nat.mul_le_mul_right _ hjn) (Nat.div_mul_le_self _ _)
  have hcl := cutOf_len (a := i * S) hj
  have w1 := wrap_mulN (i := i) (s := S) (by omega)
  have w2 := wrap_mulN (i := j) (s := S) (by omega)
  have c4 : icmp .eql l l = true := by simp only [icmp, beq_self_eq_true]
  repeat' first
    | (first | refine tl_defer ?_ | refine tc_seq ?_ | refine tc_region ?_ | refine at_seq_normal ?_ | refine tl_nil ?_ | refine tl_cons ?_ | refine tl_cons_none ?_ | refine op_move ?_ | refine op_assign ?_ | refine op_fieldAddr ?_ | refine op_load ?_ | refine op_load_agg ?_ | refine op_indexC ?_ | refine op_indexAddr1 ?_ | refine op_indexAddr ?_ | refine op_icmp ?_ | refine op_fcmp ?_ | refine op_iarith ?_ | refine op_bcmp ?_ | refine op_unop_not ?_ | refine op_unop_neg_float ?_ | refine op_unop_neg_int ?_ | refine op_len_slice ?_ | refine op_pick_true ?_ | refine op_pick_false ?_ | refine op_pick_true' ?_ | refine op_pick_false' ?_ | refine op_build ?_ | refine op_extract ?_ | refine op_makeInterface ?_ | refine op_typeAssert ?_ | refine op_ptr_nil ?_ | refine op_nilCheck_ptr ?_ | refine op_nilCheck_meth ?_ | refine op_makeMeth ?_ | refine op_makeFunc ?_ | refine op_itof ?_ | refine op_itoi ?_ | refine op_ftoi ?_ | refine op_iquo ?_ | refine op_irem ?_ | refine op_ibits ?_ | refine op_slice_isnil ?_ | refine op_slice_notnil ?_ | refine op_imax ?_ | refine op_imin ?_ | refine op_shl ?_ | refine op_shr ?_ | (refine op_alloc ?_; intro _) | (refine op_box ?_; intro _) | (refine op_buildSlice ?_; intro _) | (refine op_farith ?_; intro _ _) | refine op_store0 ?_ | refine op_store1 ?_ | refine op_store2 ?_ | refine op_store3 ?_ | refine op_store4 ?_ | refine op_store5 ?_ | refine op_storeK rfl ?_ | refine op_loadK rfl ?_ | refine op_load_aggK rfl ?_ | refine tc_cond_t ?_ | refine tc_cond_f ?_ | refine tc_cond (fun _ => ?_) (fun _ => ?_) | refine tc_block ?_ | refine tc_skip ?_ | refine tc_ret ?_ | refine tc_exit ?_ | refine tc_label ?_ | refine at_seq_ret ?_ | refine at_seq_exit ?_ | refine at_block_normal ?_ | refine at_block_ret ?_ | refine at_block_exit_self ?_ | refine at_block_exit_ne ?_ | refine at_loop_ret ?_ | refine at_loop_exit ?_ | refine at_loop_goto ?_ | refine tl_guard_yes ?_ | refine tl_guard_no ?_ | refine tl_guard_yes' ?_ | refine tl_guard_no' ?_ | refine tl_guard_undef ?_ | refine tl_guard_split (fun _ => ?_) (fun _ => ?_))
    | (refine op_call ((implSub l s _ _ _ _ f i j S _ hl1 (hf.mono exs) (by omega) hS hij hj).mono ?_); rintro _ _ ⟨a2, c2, rfl, hf2, ex, rfl⟩)
    | fail
  apply fun hole0 hole1 hole2 hole3 hole4 hole5 hole6 hole7 hole8 hole9 hole10 hole11 hole12 hole13 hole14 hole15 hole16 hole17 hole18 hole19 hole20 hole21 hole22 hole23 hE hD hml hdl hpr prem fin => tc_drawn 27 [is hole0, is hole1, is hole2, is hole3, (is (.bool true)), is hole4, is hole5, is hole6, is hole7, is hole8, is hole9, (is (.bool true)), is hole10, is hole11, is hole12, is hole13, is hole14, is hole15, is hole16, is hole17, is hole18, is hole19, is hole20, is hole21, is hole22, (is (.bool true)), is hole23]
    [some 48, some 49, some 50, some 51, some 52, some 53, some 54, some 55, some 56, some 57, some 58, some 59, some 60, some 61, some 62, some 63, some 64, some 65, some 66, some 67, some 68, some 69, some 70, some 71, some 72, some 73, some 74, some 6] [[], [0], [1], [2, 1], [3, 1], [1, 4], [5, 1], [6], [7, 6], [6], [9, 6], [8, 10, 6], [6, 11], [12, 6], [13], [14, 13], [13], [16, 13], [13], [13], [18, 19, 13], [13], [13], [21, 22, 13], [17, 20, 23, 13], [15, 24, 13], [13, 25]] mixed ⟨(is_mono _), (is_mono _), (is_mono _), (is_mono _), (some_mono _), (is_mono _), (is_mono _), (is_mono _), (is_mono _), (is_mono _), (is_mono _), (some_mono _), (is_mono _), (is_mono _), (is_mono _), (is_mono _), (is_mono _), (is_mono _), (is_mono _), (is_mono _), (is_mono _), (is_mono _), (is_mono _), (is_mono _), (is_mono _), (some_mono _), (is_mono _), trivial⟩ prem fin hE hD rfl hml hdl hpr
  rotate_left 25
  · exact rfl
  · exact rfl
  · exact Nat.le_of_ble_eq_true rfl
  · exact rfl
  · exact rfl
  refine ⟨fun G hG => ?_, fun G hG => ?_, fun G hG => ?_, fun G hG => ?_, fun G hG => ?_, fun G hG => ?_, fun G hG => ?_, fun G hG => ?_, fun G hG => ?_, fun G hG => ?_, fun G hG => ?_, fun G hG => ?_, fun G hG => ?_, fun G hG => ?_, fun G hG => ?_, fun G hG => ?_, fun G hG => ?_, fun G hG => ?_, fun G hG => ?_, fun G hG => ?_, fun G hG => ?_, fun G hG => ?_, fun G hG => ?_, fun G hG => ?_, fun G hG => ?_, fun G hG => ?_, fun G hG => ?_, trivial⟩
  · simp only [with2, Step2, nthDst, putO]
    (refine op_move ?_; exact ⟨[], rfl, rfl, rfl⟩)
  · rintro _ _ ⟨rfl, rfl⟩ -
    simp only [with2, Step2, nthDst, putO]
    (refine op_move ?_; exact ⟨[], rfl, rfl, rfl⟩)
  · rintro _ _ ⟨rfl, rfl⟩ -
    simp only [with2, Step2, nthDst, putO]
    (first | refine .inr ⟨_, rfl, rfl, [], rfl, rfl, rfl⟩ | refine .inl ⟨_, _, rfl, rfl, fun _ => ?_, fun h => absurd h (by first | decide | (refine ne_not ?_; assumption))⟩ | refine .inl ⟨_, _, rfl, rfl, (fun h => absurd h (by first | decide | (refine ne_not2 ?_; assumption))), fun _ => ⟨[], rfl, rfl, rfl⟩⟩)
    (all_goals (refine op_fieldAddr ?_; exact ⟨[], rfl, rfl, rfl⟩))
  · rintro _ _ ⟨rfl, rfl⟩ - _ _ ⟨rfl, rfl⟩ -
    simp only [with2, Step2, nthDst, putO]
    (first | refine .inr ⟨_, rfl, rfl, [], rfl, rfl, rfl⟩ | refine .inl ⟨_, _, rfl, rfl, fun _ => ?_, fun h => absurd h (by first | decide | (refine ne_not ?_; assumption))⟩ | refine .inl ⟨_, _, rfl, rfl, (fun h => absurd h (by first | decide | (refine ne_not2 ?_; assumption))), fun _ => ⟨[], rfl, rfl, rfl⟩⟩)
    (all_goals ((first | refine op_load ?_ | refine op_load_agg ?_ | refine op_load ?_ (hm := Sub.mem (by assumption) (by (repeat (apply List.mem_cons_of_mem)); assumption)) | refine op_load_agg ?_ (hm := Sub.mem (by assumption) (by (repeat (apply List.mem_cons_of_mem)); assumption)) | refine op_loadH hG rfl ?_ | refine op_load_aggH hG rfl ?_); exact ⟨[], rfl, rfl, rfl⟩))
  · rintro _ _ ⟨rfl, rfl⟩ - _ _ ⟨rfl, rfl⟩ -
    simp only [with2, Step2, nthDst, putO]
    (first | refine .inr ⟨_, rfl, rfl, [], rfl, rfl, rfl⟩ | refine .inl ⟨_, _, rfl, rfl, fun _ => ?_, fun h => absurd h (by first | decide | (refine ne_not ?_; assumption))⟩ | refine .inl ⟨_, _, rfl, rfl, (fun h => absurd h (by first | decide | (refine ne_not2 ?_; assumption))), fun _ => ⟨[], rfl, rfl, rfl⟩⟩)
    (all_goals ((refine op_icmp ?_; exact ⟨[], rfl, rfl, rfl⟩)))
  · rintro _ _ ⟨rfl, rfl⟩ - _ _ ⟨rfl, rfl⟩ -
    simp only [with2, Step2, nthDst, putO]
    ((first | refine op_pick_true ?_ | refine op_pick_false ?_ | refine op_pick_true' ?_ | refine op_pick_false' ?_); exact ⟨[], rfl, rfl, rfl⟩)
  · rintro _ _ ⟨rfl, rfl⟩ - _ _ ⟨rfl, rfl⟩ -
    simp only [with2, Step2, nthDst, putO]
    (refine op_move ?_; exact ⟨[], rfl, rfl, rfl⟩)
  · rintro _ _ ⟨rfl, rfl⟩ -
    simp only [with2, Step2, nthDst, putO]
    (first | refine .inr ⟨_, rfl, rfl, [], rfl, rfl, rfl⟩ | refine .inl ⟨_, _, rfl, rfl, fun _ => ?_, fun h => absurd h (by first | decide | (refine ne_not ?_; assumption))⟩ | refine .inl ⟨_, _, rfl, rfl, (fun h => absurd h (by first | decide | (refine ne_not2 ?_; assumption))), fun _ => ⟨[], rfl, rfl, rfl⟩⟩)
    (all_goals (refine op_fieldAddr ?_; exact ⟨[], rfl, rfl, rfl⟩))
  · rintro _ _ ⟨rfl, rfl⟩ - _ _ ⟨rfl, rfl⟩ -
    simp only [with2, Step2, nthDst, putO]
    (first | refine .inr ⟨_, rfl, rfl, [], rfl, rfl, rfl⟩ | refine .inl ⟨_, _, rfl, rfl, fun _ => ?_, fun h => absurd h (by first | decide | (refine ne_not ?_; assumption))⟩ | refine .inl ⟨_, _, rfl, rfl, (fun h => absurd h (by first | decide | (refine ne_not2 ?_; assumption))), fun _ => ⟨[], rfl, rfl, rfl⟩⟩)
    (all_goals ((first | refine op_load ?_ | refine op_load_agg ?_ | refine op_load ?_ (hm := Sub.mem (by assumption) (by (repeat (apply List.mem_cons_of_mem)); assumption)) | refine op_load_agg ?_ (hm := Sub.mem (by assumption) (by (repeat (apply List.mem_cons_of_mem)); assumption)) | refine op_loadH hG rfl ?_ | refine op_load_aggH hG rfl ?_); exact ⟨[], rfl, rfl, rfl⟩))
  · rintro _ _ ⟨rfl, rfl⟩ -
    simp only [with2, Step2, nthDst, putO]
    (first | refine .inr ⟨_, rfl, rfl, [], rfl, rfl, rfl⟩ | refine .inl ⟨_, _, rfl, rfl, fun _ => ?_, fun h => absurd h (by first | decide | (refine ne_not ?_; assumption))⟩ | refine .inl ⟨_, _, rfl, rfl, (fun h => absurd h (by first | decide | (refine ne_not2 ?_; assumption))), fun _ => ⟨[], rfl, rfl, rfl⟩⟩)
    (all_goals (refine op_fieldAddr ?_; exact ⟨[], rfl, rfl, rfl⟩))
  · rintro _ _ ⟨rfl, rfl⟩ - _ _ ⟨rfl, rfl⟩ -
    simp only [with2, Step2, nthDst, putO]
    (first | refine .inr ⟨_, rfl, rfl, [], rfl, rfl, rfl⟩ | refine .inl ⟨_, _, rfl, rfl, fun _ => ?_, fun h => absurd h (by first | decide | (refine ne_not ?_; assumption))⟩ | refine .inl ⟨_, _, rfl, rfl, (fun h => absurd h (by first | decide | (refine ne_not2 ?_; assumption))), fun _ => ⟨[], rfl, rfl, rfl⟩⟩)
    (all_goals ((first | refine op_load ?_ | refine op_load_agg ?_ | refine op_load ?_ (hm := Sub.mem (by assumption) (by (repeat (apply List.mem_cons_of_mem)); assumption)) | refine op_load_agg ?_ (hm := Sub.mem (by assumption) (by (repeat (apply List.mem_cons_of_mem)); assumption)) | refine op_loadH hG rfl ?_ | refine op_load_aggH hG rfl ?_); exact ⟨[], rfl, rfl, rfl⟩))
  · rintro _ _ ⟨rfl, rfl⟩ - _ _ ⟨rfl, rfl⟩ - _ _ ⟨rfl, rfl⟩ -
    simp only [with2, Step2, nthDst, putO]
    (first | refine .inr ⟨_, rfl, rfl, [], rfl, rfl, rfl⟩ | refine .inl ⟨_, _, rfl, rfl, fun _ => ?_, fun h => absurd h (by first | decide | (refine ne_not ?_; assumption))⟩ | refine .inl ⟨_, _, rfl, rfl, (fun h => absurd h (by first | decide | (refine ne_not2 ?_; assumption))), fun _ => ⟨[], rfl, rfl, rfl⟩⟩)
    (all_goals ((refine op_icmp ?_; exact ⟨[], rfl, congrArg Value.bool c4, rfl⟩)))
  · rintro _ _ ⟨rfl, rfl⟩ - _ _ ⟨rfl, rfl⟩ -
    simp only [with2, Step2, nthDst, putO]
    ((first | refine op_pick_true ?_ | refine op_pick_false ?_ | refine op_pick_true' ?_ | refine op_pick_false' ?_); exact ⟨[], rfl, rfl, rfl⟩)
  · rintro _ _ ⟨rfl, rfl⟩ - _ _ ⟨rfl, rfl⟩ -
    simp only [with2, Step2, nthDst, putO]
    (refine op_move ?_; exact ⟨[], rfl, rfl, rfl⟩)
  · rintro _ _ ⟨rfl, rfl⟩ -
    simp only [with2, Step2, nthDst, putO]
    (first | refine .inr ⟨_, rfl, rfl, [], rfl, rfl, rfl⟩ | refine .inl ⟨_, _, rfl, rfl, fun _ => ?_, fun h => absurd h (by first | decide | (refine ne_not ?_; assumption))⟩ | refine .inl ⟨_, _, rfl, rfl, (fun h => absurd h (by first | decide | (refine ne_not2 ?_; assumption))), fun _ => ⟨[], rfl, rfl, rfl⟩⟩)
    (all_goals (refine op_fieldAddr ?_; exact ⟨[], rfl, rfl, rfl⟩))
  · rintro _ _ ⟨rfl, rfl⟩ - _ _ ⟨rfl, rfl⟩ -
    simp only [with2, Step2, nthDst, putO]
    (first | refine .inr ⟨_, rfl, rfl, [], rfl, rfl, rfl⟩ | refine .inl ⟨_, _, rfl, rfl, fun _ => ?_, fun h => absurd h (by first | decide | (refine ne_not ?_; assumption))⟩ | refine .inl ⟨_, _, rfl, rfl, (fun h => absurd h (by first | decide | (refine ne_not2 ?_; assumption))), fun _ => ⟨[], rfl, rfl, rfl⟩⟩)
    (all_goals ((first | refine op_load ?_ | refine op_load_agg ?_ | refine op_load ?_ (hm := Sub.mem (by assumption) (by (repeat (apply List.mem_cons_of_mem)); assumption)) | refine op_load_agg ?_ (hm := Sub.mem (by assumption) (by (repeat (apply List.mem_cons_of_mem)); assumption)) | refine op_loadH hG rfl ?_ | refine op_load_aggH hG rfl ?_); exact ⟨[], rfl, rfl, rfl⟩))
  · rintro _ _ ⟨rfl, rfl⟩ -
    simp only [with2, Step2, nthDst, putO]
    (first | refine .inr ⟨_, rfl, rfl, [], rfl, rfl, rfl⟩ | refine .inl ⟨_, _, rfl, rfl, fun _ => ?_, fun h => absurd h (by first | decide | (refine ne_not ?_; assumption))⟩ | refine .inl ⟨_, _, rfl, rfl, (fun h => absurd h (by first | decide | (refine ne_not2 ?_; assumption))), fun _ => ⟨[], rfl, rfl, rfl⟩⟩)
    (all_goals (refine op_fieldAddr ?_; exact ⟨[], rfl, rfl, rfl⟩))
  · rintro _ _ ⟨rfl, rfl⟩ - _ _ ⟨rfl, rfl⟩ -
    simp only [with2, Step2, nthDst, putO]
    (first | refine .inr ⟨_, rfl, rfl, [], rfl, rfl, rfl⟩ | refine .inl ⟨_, _, rfl, rfl, fun _ => ?_, fun h => absurd h (by first | decide | (refine ne_not ?_; assumption))⟩ | refine .inl ⟨_, _, rfl, rfl, (fun h => absurd h (by first | decide | (refine ne_not2 ?_; assumption))), fun _ => ⟨[], rfl, rfl, rfl⟩⟩)
    (all_goals ((first | refine op_load ?_ | refine op_load_agg ?_ | refine op_load ?_ (hm := Sub.mem (by assumption) (by (repeat (apply List.mem_cons_of_mem)); assumption)) | refine op_load_agg ?_ (hm := Sub.mem (by assumption) (by (repeat (apply List.mem_cons_of_mem)); assumption)) | refine op_loadH hG rfl ?_ | refine op_load_aggH hG rfl ?_); exact ⟨[], rfl, rfl, rfl⟩))
  · rintro _ _ ⟨rfl, rfl⟩ -
    simp only [with2, Step2, nthDst, putO]
    (first | refine .inr ⟨_, rfl, rfl, [], rfl, rfl, rfl⟩ | refine .inl ⟨_, _, rfl, rfl, fun _ => ?_, fun h => absurd h (by first | decide | (refine ne_not ?_; assumption))⟩ | refine .inl ⟨_, _, rfl, rfl, (fun h => absurd h (by first | decide | (refine ne_not2 ?_; assumption))), fun _ => ⟨[], rfl, rfl, rfl⟩⟩)
    (all_goals (refine op_move ?_; exact ⟨[], rfl, rfl, rfl⟩))
  · rintro _ _ ⟨rfl, rfl⟩ -
    simp only [with2, Step2, nthDst, putO]
    (first | refine .inr ⟨_, rfl, rfl, [], rfl, rfl, rfl⟩ | refine .inl ⟨_, _, rfl, rfl, fun _ => ?_, fun h => absurd h (by first | decide | (refine ne_not ?_; assumption))⟩ | refine .inl ⟨_, _, rfl, rfl, (fun h => absurd h (by first | decide | (refine ne_not2 ?_; assumption))), fun _ => ⟨[], rfl, rfl, rfl⟩⟩)
    (all_goals (refine op_move ?_; exact ⟨[], rfl, rfl, rfl⟩))
  · rintro _ _ ⟨rfl, rfl⟩ - _ _ ⟨rfl, rfl⟩ - _ _ ⟨rfl, rfl⟩ -
    simp only [with2, Step2, nthDst, putO]
    (first | refine .inr ⟨_, rfl, rfl, [], rfl, rfl, rfl⟩ | refine .inl ⟨_, _, rfl, rfl, fun _ => ?_, fun h => absurd h (by first | decide | (refine ne_not ?_; assumption))⟩ | refine .inl ⟨_, _, rfl, rfl, (fun h => absurd h (by first | decide | (refine ne_not2 ?_; assumption))), fun _ => ⟨[], rfl, rfl, rfl⟩⟩)
    (all_goals (refine op_iarith ?_; exact ⟨[], rfl, rfl, rfl⟩))
  · rintro _ _ ⟨rfl, rfl⟩ -
    simp only [with2, Step2, nthDst, putO]
    (first | refine .inr ⟨_, rfl, rfl, [], rfl, rfl, rfl⟩ | refine .inl ⟨_, _, rfl, rfl, fun _ => ?_, fun h => absurd h (by first | decide | (refine ne_not ?_; assumption))⟩ | refine .inl ⟨_, _, rfl, rfl, (fun h => absurd h (by first | decide | (refine ne_not2 ?_; assumption))), fun _ => ⟨[], rfl, rfl, rfl⟩⟩)
    (all_goals (refine op_move ?_; exact ⟨[], rfl, rfl, rfl⟩))
  · rintro _ _ ⟨rfl, rfl⟩ -
    simp only [with2, Step2, nthDst, putO]
    (first | refine .inr ⟨_, rfl, rfl, [], rfl, rfl, rfl⟩ | refine .inl ⟨_, _, rfl, rfl, fun _ => ?_, fun h => absurd h (by first | decide | (refine ne_not ?_; assumption))⟩ | refine .inl ⟨_, _, rfl, rfl, (fun h => absurd h (by first | decide | (refine ne_not2 ?_; assumption))), fun _ => ⟨[], rfl, rfl, rfl⟩⟩)
    (all_goals (refine op_move ?_; exact ⟨[], rfl, rfl, rfl⟩))
  · rintro _ _ ⟨rfl, rfl⟩ - _ _ ⟨rfl, rfl⟩ - _ _ ⟨rfl, rfl⟩ -
    simp only [with2, Step2, nthDst, putO]
    (first | refine .inr ⟨_, rfl, rfl, [], rfl, rfl, rfl⟩ | refine .inl ⟨_, _, rfl, rfl, fun _ => ?_, fun h => absurd h (by first | decide | (refine ne_not ?_; assumption))⟩ | refine .inl ⟨_, _, rfl, rfl, (fun h => absurd h (by first | decide | (refine ne_not2 ?_; assumption))), fun _ => ⟨[], rfl, rfl, rfl⟩⟩)
    (all_goals (refine op_iarith ?_; exact ⟨[], rfl, rfl, rfl⟩))
  · rintro _ _ ⟨rfl, rfl⟩ - _ _ ⟨rfl, rfl⟩ - _ _ ⟨rfl, rfl⟩ - _ _ ⟨rfl, rfl⟩ -
    simp only [with2, Step2, nthDst, putO]
    (first | refine .inr ⟨_, rfl, rfl, [], rfl, rfl, rfl⟩ | refine .inl ⟨_, _, rfl, rfl, fun _ => ?_, fun h => absurd h (by first | decide | (refine ne_not ?_; assumption))⟩ | refine .inl ⟨_, _, rfl, rfl, (fun h => absurd h (by first | decide | (refine ne_not2 ?_; assumption))), fun _ => ⟨[], rfl, rfl, rfl⟩⟩)
    (all_goals ((refine op_slice_lh (l := i * S) (h := j * S) ?_ (hy := gete (by exact rfl) w1) (hz := gete (by exact rfl) w2) (h1 := hij) (h2 := Nat.le_trans hj hf.cap); exact ⟨[], rfl, rfl, rfl⟩)))
  · rintro _ _ ⟨rfl, rfl⟩ - _ _ ⟨rfl, rfl⟩ - _ _ ⟨rfl, rfl⟩ -
    simp only [with2, Step2, nthDst, putO]
    (first | refine .inr ⟨_, rfl, rfl, [], rfl, rfl, rfl⟩ | refine .inl ⟨_, _, rfl, rfl, fun _ => ?_, fun h => absurd h (by first | decide | (refine ne_not ?_; assumption))⟩ | refine .inl ⟨_, _, rfl, rfl, (fun h => absurd h (by first | decide | (refine ne_not2 ?_; assumption))), fun _ => ⟨[], rfl, rfl, rfl⟩⟩)
    (all_goals ((refine op_call ((same2 hcl (by omega) (hf2.mono fun e he => hG e (ins e he)) ((hf.mono fun e he => hG e (ins e he)).cut hij hj)).mono ?_); rintro _ _ ⟨rfl, rfl⟩; exact ⟨[], rfl, rfl, rfl⟩)))
  · rintro _ _ ⟨rfl, rfl⟩ - _ _ ⟨rfl, rfl⟩ -
    simp only [with2, Step2, nthDst, putO]
    ((first | refine op_pick_true ?_ | refine op_pick_false ?_ | refine op_pick_true' ?_ | refine op_pick_false' ?_); exact ⟨[], rfl, rfl, rfl⟩)
  rintro _ _ _ _ _ _ _ _ _ _ _ _ _ _ _ _ _ _ _ _ _ _ _ _ _ _ _ _ _ _ _ _ _ _ _ _ _ _ _ _ _ _ _ _ _ _ _ _ _ _ _ _ _ _ ⟨⟨rfl, rfl⟩, ⟨rfl, rfl⟩, ⟨rfl, rfl⟩, ⟨rfl, rfl⟩, ⟨rfl, rfl⟩, ⟨rfl, rfl⟩, ⟨rfl, rfl⟩, ⟨rfl, rfl⟩, ⟨rfl, rfl⟩, ⟨rfl, rfl⟩, ⟨rfl, rfl⟩, ⟨rfl, rfl⟩, ⟨rfl, rfl⟩, ⟨rfl, rfl⟩, ⟨rfl, rfl⟩, ⟨rfl, rfl⟩, ⟨rfl, rfl⟩, ⟨rfl, rfl⟩, ⟨rfl, rfl⟩, ⟨rfl, rfl⟩, ⟨rfl, rfl⟩, ⟨rfl, rfl⟩, ⟨rfl, rfl⟩, ⟨rfl, rfl⟩, ⟨rfl, rfl⟩, ⟨rfl, rfl⟩, ⟨rfl, rfl⟩, _⟩
  simp only [List.nil_append, List.cons_append, List.append_nil, List.drop_succ_cons, List.drop_zero, nthDst, putO]
  repeat'
    first
      | refine tl_defer ?_ | refine tc_seq ?_ | refine tc_region ?_ | refine at_seq_normal ?_ | refine tl_nil ?_ | refine tl_cons ?_ | refine tl_cons_none ?_ | refine op_move ?_
      | refine op_assign ?_ | refine op_fieldAddr ?_ | refine op_load ?_ | refine op_load_agg ?_ | refine op_indexC ?_ | refine op_indexAddr1 ?_ | refine op_indexAddr ?_ | refine op_icmp ?_
      | refine op_fcmp ?_ | refine op_iarith ?_ | refine op_bcmp ?_ | refine op_unop_not ?_ | refine op_unop_neg_float ?_ | refine op_unop_neg_int ?_ | refine op_len_slice ?_ | refine op_pick_true ?_
      | refine op_pick_false ?_ | refine op_pick_true' ?_ | refine op_pick_false' ?_ | refine op_build ?_ | refine op_extract ?_ | refine op_makeInterface ?_ | refine op_typeAssert ?_ | refine op_ptr_nil ?_
      | refine op_nilCheck_ptr ?_ | refine op_nilCheck_meth ?_ | refine op_makeMeth ?_ | refine op_makeFunc ?_ | refine op_itof ?_ | refine op_itoi ?_ | refine op_ftoi ?_ | refine op_iquo ?_
      | refine op_irem ?_ | refine op_ibits ?_ | refine op_slice_isnil ?_ | refine op_slice_notnil ?_ | refine op_imax ?_ | refine op_imin ?_ | refine op_shl ?_ | refine op_shr ?_
      | (refine op_alloc ?_; intro _) | (refine op_box ?_; intro _) | (refine op_buildSlice ?_; intro _) | (refine op_farith ?_; intro _ _) | refine op_store0 ?_ | refine op_store1 ?_ | refine op_store2 ?_ | refine op_store3 ?_
      | refine op_store4 ?_ | refine op_store5 ?_ | refine tc_cond_t ?_ | refine tc_cond_f ?_ | refine tc_cond (fun _ => ?_) (fun _ => ?_) | refine tc_block ?_ | refine tc_skip ?_ | refine tc_ret ?_
      | refine tc_exit ?_ | refine tc_label ?_ | refine at_seq_ret ?_ | refine at_seq_exit ?_ | refine at_block_normal ?_ | refine at_block_ret ?_ | refine at_block_exit_self ?_ | refine at_block_exit_ne ?_
      | refine at_loop_ret ?_ | refine at_loop_exit ?_ | refine at_loop_goto ?_ | refine tl_guard_yes ?_ | refine tl_guard_no ?_ | refine tl_guard_yes' ?_ | refine tl_guard_no' ?_ | refine tl_guard_undef ?_
      | refine tl_guard_split (fun _ => ?_) (fun _ => ?_)
  exact ret_tmp (hG := by (repeat (first | exact List.Sublist.refl _ | apply List.Sublist.cons_cons | apply List.Sublist.cons | refine List.Sublist.trans ?_ (List.sublist_append_right _ _)))) (hk := ⟨rfl, rfl⟩)
theorem own : ownKnob Try.prog.godebug = none := by kernel_rfl
theorem laid : laidOutB Try.prog = true := by kernel_rfl
set_option maxRecDepth 100000 in
theorem lifted (os : Os) (started : os.Started) (H : Type) (enc : TypeId × Value → H) (F : Stop.Interp) :
    ReturnsInHanded {} Try.checked os 4 .any ((Rows.OpenSpec.upto Rows.fnSubSpec).pre6 enc Try.prog Try.f4 Rows.fnSubUptoRow.domain false) (((Rows.OpenSpec.upto Rows.fnSubSpec).at F).post enc Try.prog Try.f4 false true false false) := by
  refine returnsInHanded_of_cond (C := Try.checked) (s := Rows.OpenSpec.upto Rows.fnSubSpec) (k := Rows.uptoSmall) rfl own started (by kernel_rfl) Try.func4
    (OpenSpec.witness (enc := enc) (C := Try.checked) (s := Rows.OpenSpec.upto Rows.fnSubSpec) (k := Rows.uptoSmall) rfl false ⟨#[], #[.agg #[.int .i64 0, .int .i64 0, .int .i64 0, .slice none 0 0, .slice none 0 0, .slice none 0 0, .slice none 0 0], .int .i64 0, .int .i64 0], []⟩ 8 (by kernel_rfl) (by kernel_rfl) (by kernel_rfl)
      (x := ([.agg [.lit (.int .i64 0), .lit (.int .i64 0), .lit (.int .i64 0), .nil, .nil, .nil, .nil], .lit (.int .i64 0), .lit (.int .i64 0)], [], [])) (by kernel_rfl) rfl (by kernel_rfl)) ?_
  intro W base args ds gs before hval0 hW hcnd hk _
  have hval : ∀ (j : Nat) t v, Try.f4.params[j]? = some t → args[j]? = some v → Value.okWide Try.prog W .any base t v := hval0
  have hW' := hW
  obtain ⟨p, q, hA0, hV, rfl, hfz, hnd⟩ := hW
  have hA : DataW.TrodAll enc Try.prog W 0 (fun _ => true) true Try.f4.params.toList args.toList ds p := hA0
  rw [Try.params4] at hA hval
  obtain ⟨v0, vs0, d0, ds0, p0, q0, hargs, rfl, rfl, h0, r0⟩ := trodAll_cons hA
  obtain ⟨v1, vs1, d1, ds1, p1, q1, rfl, rfl, rfl, h1, r1⟩ := trodAll_cons r0
  obtain ⟨v2, vs2, d2, ds2, p2, q2, rfl, rfl, rfl, h2, r2⟩ := trodAll_cons r1
  obtain ⟨rfl, rfl, rfl⟩ := trodAll_nil r2
  obtain rfl : args = #[v0, v1, v2] := by cases args; simp_all
  obtain ⟨rfl, rfl⟩ := trodVars_none hV
  have hb := of_decide_eq_true hk
  simp only [List.append_nil, List.cons_append, List.nil_append, Rows.uptoBulkAll] at hb
  obtain ⟨g0, cs0, rfl, hg0, hw0⟩ := Go.Proofs.Ytckjanekjmfanaa.Geom.open_geom (hval 0 27 v0 rfl rfl) h0
  obtain ⟨n1, rfl, rfl, rfl, wn1⟩ := open_int Try.underlying3 (hval 1 3 v1 rfl rfl) h1
  obtain ⟨n2, rfl, rfl, rfl, wn2⟩ := open_int Try.underlying3 (hval 2 3 v2 rfl rfl) h2
  clear hA0 hval0
  refine (calls_of_does (law (H := all W) g0 cs0 hg0 (Nat.le_trans hw0 (by omega)) n1 (wf_i64 wn1) n2 (wf_i64 wn2)) (sees_all W)).mono fun e W' ⟨v, H', he, hs, hv, hH⟩ => ?_
  subst he
  subst hv
  subst hH
  exact ⟨_, rfl, post_law laid (of_decide_eq_true (by kernel_rfl)) rfl hW' rfl rfl Try.underlying4 hs.below⟩
theorem over : Rows.fnSubUptoRow.holds Try.pinned (Rows.OpenSpec.upto Rows.fnSubSpec) :=
  OpenClaim.holds_of_cond 4 Try.f4 rfl rfl rfl rfl rfl rfl rfl ⟨rfl, rfl, rfl, rfl, rfl⟩ rfl rfl rfl rfl rfl (by kernel_rfl) Try.func4 (by kernel_rfl)
    (of_decide_eq_true (by kernel_rfl)) (by unfold Func.isWrapper; first | (rw [if_pos (by decide +kernel)]; kernel_rfl) | (rw [if_neg (by decide +kernel)]; exact ⟨rfl, rfl⟩))
    (fun os started H enc _ F => lifted os started H enc F)
/-- The statement, of the second form. -/
theorem proved : Rows.FnSubUptoSaid := over
#print axioms proved
end Go.Proofs.Ytckjanekjmfanaa.fnSub
