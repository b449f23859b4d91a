/-
  Hilbert curves: impl.HCoord, impl.HPos. Printed by gen_hil7.py. No conditions.
-/
import Derived.Test.YtjalgjeibnjinaaDoorHil6
set_option linter.unusedVariables false
set_option linter.unusedSimpArgs false
namespace Go.Proofs.YtjalgjeibnjinaaDoor.Hil
open Go.Lg

def toI (xs : List Nat) : List Int := xs.map fun (x : Nat) => (x : Int)
theorem toI_iv (xs : List Nat) : (toI xs).map iv = xs.map nv := by simp only [toI, List.map_map]; rfl
theorem toI_len (xs : List Nat) : (toI xs).length = xs.length := by simp [toI]
theorem is_of {G : Heap} {k : Nat} {T : TypeId} {xs : List Nat} {sp : List Value} {n cap : Nat} (hl : xs.length = n) (hc : n ≤ cap) (hm : (k, Obj.cells ⟨xs.map nv ++ sp⟩ T (0, 0)) ∈ G) : IS G (.slice (some ⟨k, 0, none⟩) n cap) (toI xs) := by
  subst hl
  refine ⟨_, cap, by simp [toI], by simpa [toI] using hc, fun _ => ⟨k, 0, _, T, _, rfl, hm, ?_⟩⟩
  rw [toI_iv, List.drop_zero]
  have : xs.length = (xs.map nv).length := by simp
  simp only [List.length_map, toI]
  rw [List.take_append_of_le_length (by simp), List.take_of_length_le (by simp)]
/-- A copy of whole numbers. -/
theorem intsX (v : Value) (xs : List Nat) (H : Heap) (hv : IS H v (toI xs)) (hn : xs ≠ []) (hb : xs.length < 2 ^ 40) : Does Tryd.prog 42 [v] H
    fun w H' => ∃ k cap sp, w = .slice (some ⟨k, 0, none⟩) xs.length cap ∧ H' = (k, Obj.cells ⟨xs.map nv ++ sp⟩ 3 (0, 0)) :: H := by
  refine fn_enter 5 Tryd.func42 fun W => ?_
  have hl : (toI xs).length = xs.length := toI_len xs
  have ht := IS.toN hv
  rw [hl, toI_iv] at ht
  repeat' first
    | (first | refine tl_defer ?_ | refine tc_seq ?_ | refine tc_region ?_ | refine at_seq_normal ?_ | refine tl_nil ?_ | refine tl_cons ?_ | refine tl_cons_none ?_ | refine op_move ?_ | refine op_assign ?_ | refine op_fieldAddr ?_ | refine op_load ?_ | refine op_load_agg ?_ | refine op_indexC ?_ | refine op_indexAddr1 ?_ | refine op_indexAddr ?_ | refine op_icmp ?_ | refine op_fcmp ?_ | refine op_iarith ?_ | refine op_bcmp ?_ | refine op_unop_not ?_ | refine op_unop_neg_float ?_ | refine op_unop_neg_int ?_ | refine op_len_slice ?_ | refine op_pick_true ?_ | refine op_pick_false ?_ | refine op_pick_true' ?_ | refine op_pick_false' ?_ | refine op_build ?_ | refine op_extract ?_ | refine op_makeInterface ?_ | refine op_typeAssert ?_ | refine op_ptr_nil ?_ | refine op_nilCheck_ptr ?_ | refine op_nilCheck_meth ?_ | refine op_makeMeth ?_ | refine op_makeFunc ?_ | refine op_itof ?_ | refine op_itoi ?_ | refine op_ftoi ?_ | refine op_iquo ?_ | refine op_irem ?_ | refine op_ibits ?_ | refine op_slice_isnil ?_ | refine op_slice_notnil ?_ | refine op_imax ?_ | refine op_imin ?_ | refine op_shl ?_ | refine op_shr ?_ | (refine op_alloc ?_; intro _) | (refine op_box ?_; intro _) | (refine op_buildSlice ?_; intro _) | (refine op_farith ?_; intro _ _) | refine op_store0 ?_ | refine op_store1 ?_ | refine op_store2 ?_ | refine op_store3 ?_ | refine op_store4 ?_ | refine op_store5 ?_ | refine op_storeK rfl ?_ | refine op_loadK rfl ?_ | refine op_load_aggK rfl ?_ | refine tc_cond_t ?_ | refine tc_cond_f ?_ | refine tc_cond (fun _ => ?_) (fun _ => ?_) | refine tc_block ?_ | refine tc_skip ?_ | refine tc_ret ?_ | refine tc_exit ?_ | refine tc_label ?_ | refine at_seq_ret ?_ | refine at_seq_exit ?_ | refine at_block_normal ?_ | refine at_block_ret ?_ | refine at_block_exit_self ?_ | refine at_block_exit_ne ?_ | refine at_loop_ret ?_ | refine at_loop_exit ?_ | refine at_loop_goto ?_ | refine tl_guard_yes ?_ | refine tl_guard_no ?_ | refine tl_guard_yes' ?_ | refine tl_guard_no' ?_ | refine tl_guard_undef ?_ | refine tl_guard_split (fun _ => ?_) (fun _ => ?_))
    | (refine op_appendS (H' := H) none 0 [] (xs.map nv) (m := xs.length) ⟨rfl, rfl⟩ (fun buf' hok' hbn => ?_) ht (by exact rfl) (by exact rfl) (List.Sublist.refl _) (by rw [← toI_iv]; exact oneCell_iv _) (by simp only [maxLen]; omega) (by omega))
    | fail
  simp only [Nat.zero_add, List.nil_append] at *
  match buf', hok' with
  | none, hok' => exact absurd (List.map_eq_nil_iff.1 hok'.2) hn
  | some (k, cap, sp), hok' => exact ret_tmp (hk := ⟨k, cap, sp, rfl, rfl⟩)
theorem sameInts (v1 v2 : Value) (xs : List Int) (H : Heap) (h1 : IS H v1 xs) (h2 : IS H v2 xs) (hb : xs.length < 2 ^ 40) : Does Tryd.prog 14 [v1, v2] H fun w H' => w = .bool true ∧ H' = H := by
  obtain ⟨a1, c1, rfl⟩ := h1.val
  obtain ⟨a2, c2, rfl⟩ := h2.val
  have hc : icmp .neq (xs.length : Int) (xs.length : Int) = false := by simp only [icmp, bne_eq_false_iff_eq]
  refine fn_enter 26 Tryd.func14 fun W => ?_
  repeat'
    first
      | refine tl_defer ?_ | refine tc_seq ?_ | refine tc_region ?_ | refine at_seq_normal ?_ | refine tl_nil ?_ | refine tl_cons ?_ | refine tl_cons_none ?_ | refine op_move ?_
      | refine op_assign ?_ | refine op_fieldAddr ?_ | refine op_load ?_ | refine op_load_agg ?_ | refine op_indexC ?_ | refine op_indexAddr1 ?_ | refine op_indexAddr ?_ | refine op_icmp ?_
      | refine op_fcmp ?_ | refine op_iarith ?_ | refine op_bcmp ?_ | refine op_unop_not ?_ | refine op_unop_neg_float ?_ | refine op_unop_neg_int ?_ | refine op_len_slice ?_ | refine op_pick_true ?_
      | refine op_pick_false ?_ | refine op_pick_true' ?_ | refine op_pick_false' ?_ | refine op_build ?_ | refine op_extract ?_ | refine op_makeInterface ?_ | refine op_typeAssert ?_ | refine op_ptr_nil ?_
      | refine op_nilCheck_ptr ?_ | refine op_nilCheck_meth ?_ | refine op_makeMeth ?_ | refine op_makeFunc ?_ | refine op_itof ?_ | refine op_itoi ?_ | refine op_ftoi ?_ | refine op_iquo ?_
      | refine op_irem ?_ | refine op_ibits ?_ | refine op_slice_isnil ?_ | refine op_slice_notnil ?_ | refine op_imax ?_ | refine op_imin ?_ | refine op_shl ?_ | refine op_shr ?_
      | (refine op_alloc ?_; intro _) | (refine op_box ?_; intro _) | (refine op_buildSlice ?_; intro _) | (refine op_farith ?_; intro _ _) | refine op_store0 ?_ | refine op_store1 ?_ | refine op_store2 ?_ | refine op_store3 ?_
      | refine op_store4 ?_ | refine op_store5 ?_ | refine tc_cond_t ?_ | refine tc_cond_f ?_ | refine tc_cond (fun _ => ?_) (fun _ => ?_) | refine tc_block ?_ | refine tc_skip ?_ | refine tc_ret ?_
      | refine tc_exit ?_ | refine tc_label ?_ | refine at_seq_ret ?_ | refine at_seq_exit ?_ | refine at_block_normal ?_ | refine at_block_ret ?_ | refine at_block_exit_self ?_ | refine at_block_exit_ne ?_
      | refine at_loop_ret ?_ | refine at_loop_exit ?_ | refine at_loop_goto ?_ | refine tl_guard_yes ?_ | refine tl_guard_no ?_ | refine tl_guard_yes' ?_ | refine tl_guard_no' ?_ | refine tl_guard_undef ?_
      | refine tl_guard_split (fun _ => ?_) (fun _ => ?_)
  refine tc_loopH [(1, _), (12, _), (13, _)] (by repeat (first | exact trivial | refine ⟨rfl, ?_⟩)) (fun j : Nat => [(14, .int .i64 (j : Int))]) (fun j => j ≤ xs.length) (fun j => xs.length - j) 0 (Nat.zero_le _) ⟨rfl, trivial⟩ ?_
  rintro j hj
  by_cases hlt : j < xs.length
  · have hbb : icmp .lss (j : Int) (xs.length : Int) = true := by rw [lss_nat]; simpa using hlt
    have hget : xs[j]? = some xs[j] := List.getElem?_eq_getElem hlt
    obtain ⟨k, off, l, T, fz, cap2, he, hm, hcut, _⟩ := h1.at hget
    obtain ⟨k', off', l', T', fz', cap2', he', hm', hcut', _⟩ := h2.at hget
    cases he
    cases he'
    have hq : icmp .neq xs[j] xs[j] = false := by simp only [icmp, bne_eq_false_iff_eq]
    repeat'
      first
        | refine tl_defer ?_ | refine tc_seq ?_ | refine tc_region ?_ | refine at_seq_normal ?_ | refine tl_nil ?_ | refine tl_cons ?_ | refine tl_cons_none ?_ | refine op_move ?_
        | refine op_assign ?_ | refine op_fieldAddr ?_ | refine op_load ?_ | refine op_load_agg ?_ | refine op_indexC ?_ | refine op_indexAddr1 ?_ | refine op_indexAddr ?_ | refine op_icmp ?_
        | refine op_fcmp ?_ | refine op_iarith ?_ | refine op_bcmp ?_ | refine op_unop_not ?_ | refine op_unop_neg_float ?_ | refine op_unop_neg_int ?_ | refine op_len_slice ?_ | refine op_pick_true ?_
        | refine op_pick_false ?_ | refine op_pick_true' ?_ | refine op_pick_false' ?_ | refine op_build ?_ | refine op_extract ?_ | refine op_makeInterface ?_ | refine op_typeAssert ?_ | refine op_ptr_nil ?_
        | refine op_nilCheck_ptr ?_ | refine op_nilCheck_meth ?_ | refine op_makeMeth ?_ | refine op_makeFunc ?_ | refine op_itof ?_ | refine op_itoi ?_ | refine op_ftoi ?_ | refine op_iquo ?_
        | refine op_irem ?_ | refine op_ibits ?_ | refine op_slice_isnil ?_ | refine op_slice_notnil ?_ | refine op_imax ?_ | refine op_imin ?_ | refine op_shl ?_ | refine op_shr ?_
        | (refine op_alloc ?_; intro _) | (refine op_box ?_; intro _) | (refine op_buildSlice ?_; intro _) | (refine op_farith ?_; intro _ _) | refine op_store0 ?_ | refine op_store1 ?_ | refine op_store2 ?_ | refine op_store3 ?_
        | refine op_store4 ?_ | refine op_store5 ?_ | refine tc_cond_t ?_ | refine tc_cond_f ?_ | refine tc_cond (fun _ => ?_) (fun _ => ?_) | refine tc_block ?_ | refine tc_skip ?_ | refine tc_ret ?_
        | refine tc_exit ?_ | refine tc_label ?_ | refine at_seq_ret ?_ | refine at_seq_exit ?_ | refine at_block_normal ?_ | refine at_block_ret ?_ | refine at_block_exit_self ?_ | refine at_block_exit_ne ?_
        | refine at_loop_ret ?_ | refine at_loop_exit ?_ | refine at_loop_goto ?_ | refine tl_guard_yes ?_ | refine tl_guard_no ?_ | refine tl_guard_yes' ?_ | refine tl_guard_no' ?_ | refine tl_guard_undef ?_
        | refine tl_guard_split (fun _ => ?_) (fun _ => ?_)
    exact at_loopK (j + 1) hlt (by omega) ⟨next_nat (by omega), trivial⟩ (by repeat (first | exact trivial | refine ⟨rfl, ?_⟩)) (by (repeat (first | exact List.Sublist.refl _ | apply List.Sublist.cons_cons | apply List.Sublist.cons | refine List.Sublist.trans ?_ (List.sublist_append_right _ _))))
  · have hbb : icmp .lss (j : Int) (xs.length : Int) = false := by rw [lss_nat]; simpa using hlt
    repeat'
      first
        | refine tl_defer ?_ | refine tc_seq ?_ | refine tc_region ?_ | refine at_seq_normal ?_ | refine tl_nil ?_ | refine tl_cons ?_ | refine tl_cons_none ?_ | refine op_move ?_
        | refine op_assign ?_ | refine op_fieldAddr ?_ | refine op_load ?_ | refine op_load_agg ?_ | refine op_indexC ?_ | refine op_indexAddr1 ?_ | refine op_indexAddr ?_ | refine op_icmp ?_
        | refine op_fcmp ?_ | refine op_iarith ?_ | refine op_bcmp ?_ | refine op_unop_not ?_ | refine op_unop_neg_float ?_ | refine op_unop_neg_int ?_ | refine op_len_slice ?_ | refine op_pick_true ?_
        | refine op_pick_false ?_ | refine op_pick_true' ?_ | refine op_pick_false' ?_ | refine op_build ?_ | refine op_extract ?_ | refine op_makeInterface ?_ | refine op_typeAssert ?_ | refine op_ptr_nil ?_
        | refine op_nilCheck_ptr ?_ | refine op_nilCheck_meth ?_ | refine op_makeMeth ?_ | refine op_makeFunc ?_ | refine op_itof ?_ | refine op_itoi ?_ | refine op_ftoi ?_ | refine op_iquo ?_
        | refine op_irem ?_ | refine op_ibits ?_ | refine op_slice_isnil ?_ | refine op_slice_notnil ?_ | refine op_imax ?_ | refine op_imin ?_ | refine op_shl ?_ | refine op_shr ?_
        | (refine op_alloc ?_; intro _) | (refine op_box ?_; intro _) | (refine op_buildSlice ?_; intro _) | (refine op_farith ?_; intro _ _) | refine op_store0 ?_ | refine op_store1 ?_ | refine op_store2 ?_ | refine op_store3 ?_
        | refine op_store4 ?_ | refine op_store5 ?_ | refine tc_cond_t ?_ | refine tc_cond_f ?_ | refine tc_cond (fun _ => ?_) (fun _ => ?_) | refine tc_block ?_ | refine tc_skip ?_ | refine tc_ret ?_
        | refine tc_exit ?_ | refine tc_label ?_ | refine at_seq_ret ?_ | refine at_seq_exit ?_ | refine at_block_normal ?_ | refine at_block_ret ?_ | refine at_block_exit_self ?_ | refine at_block_exit_ne ?_
        | refine at_loop_ret ?_ | refine at_loop_exit ?_ | refine at_loop_goto ?_ | refine tl_guard_yes ?_ | refine tl_guard_no ?_ | refine tl_guard_yes' ?_ | refine tl_guard_no' ?_ | refine tl_guard_undef ?_
        | refine tl_guard_split (fun _ => ?_) (fun _ => ?_)
    exact ret_tmp (hk := ⟨rfl, rfl⟩)
theorem hasNumber (v : Value) (xs : List Int) (m : Int) (H : Heap) (h1 : IS H v xs) (hm : m ∈ xs) (hb : xs.length < 2 ^ 40) : Does Tryd.prog 12 [v, .int .i64 m] H fun w H' => w = .bool true ∧ H' = H := by
  obtain ⟨a1, c1, rfl⟩ := h1.val
  refine fn_enter 17 Tryd.func12 fun W => ?_
  repeat'
    first
      | refine tl_defer ?_ | refine tc_seq ?_ | refine tc_region ?_ | refine at_seq_normal ?_ | refine tl_nil ?_ | refine tl_cons ?_ | refine tl_cons_none ?_ | refine op_move ?_
      | refine op_assign ?_ | refine op_fieldAddr ?_ | refine op_load ?_ | refine op_load_agg ?_ | refine op_indexC ?_ | refine op_indexAddr1 ?_ | refine op_indexAddr ?_ | refine op_icmp ?_
      | refine op_fcmp ?_ | refine op_iarith ?_ | refine op_bcmp ?_ | refine op_unop_not ?_ | refine op_unop_neg_float ?_ | refine op_unop_neg_int ?_ | refine op_len_slice ?_ | refine op_pick_true ?_
      | refine op_pick_false ?_ | refine op_pick_true' ?_ | refine op_pick_false' ?_ | refine op_build ?_ | refine op_extract ?_ | refine op_makeInterface ?_ | refine op_typeAssert ?_ | refine op_ptr_nil ?_
      | refine op_nilCheck_ptr ?_ | refine op_nilCheck_meth ?_ | refine op_makeMeth ?_ | refine op_makeFunc ?_ | refine op_itof ?_ | refine op_itoi ?_ | refine op_ftoi ?_ | refine op_iquo ?_
      | refine op_irem ?_ | refine op_ibits ?_ | refine op_slice_isnil ?_ | refine op_slice_notnil ?_ | refine op_imax ?_ | refine op_imin ?_ | refine op_shl ?_ | refine op_shr ?_
      | (refine op_alloc ?_; intro _) | (refine op_box ?_; intro _) | (refine op_buildSlice ?_; intro _) | (refine op_farith ?_; intro _ _) | refine op_store0 ?_ | refine op_store1 ?_ | refine op_store2 ?_ | refine op_store3 ?_
      | refine op_store4 ?_ | refine op_store5 ?_ | refine tc_cond_t ?_ | refine tc_cond_f ?_ | refine tc_cond (fun _ => ?_) (fun _ => ?_) | refine tc_block ?_ | refine tc_skip ?_ | refine tc_ret ?_
      | refine tc_exit ?_ | refine tc_label ?_ | refine at_seq_ret ?_ | refine at_seq_exit ?_ | refine at_block_normal ?_ | refine at_block_ret ?_ | refine at_block_exit_self ?_ | refine at_block_exit_ne ?_
      | refine at_loop_ret ?_ | refine at_loop_exit ?_ | refine at_loop_goto ?_ | refine tl_guard_yes ?_ | refine tl_guard_no ?_ | refine tl_guard_yes' ?_ | refine tl_guard_no' ?_ | refine tl_guard_undef ?_
      | refine tl_guard_split (fun _ => ?_) (fun _ => ?_)
  refine tc_loopH [(1, _), (7, _), (8, _)] (by repeat (first | exact trivial | refine ⟨rfl, ?_⟩)) (fun j : Nat => [(9, .int .i64 (j : Int))]) (fun j => j ≤ xs.length ∧ ∀ y ∈ xs.take j, y ≠ m) (fun j => xs.length - j) 0 ⟨Nat.zero_le _, by simp⟩ ⟨rfl, trivial⟩ ?_
  rintro j ⟨hj, hne⟩
  by_cases hlt : j < xs.length
  · have hbb : icmp .lss (j : Int) (xs.length : Int) = true := by rw [lss_nat]; simpa using hlt
    have hget : xs[j]? = some xs[j] := List.getElem?_eq_getElem hlt
    obtain ⟨k, off, l, T, fz, cap2, he, hm2, hcut, _⟩ := h1.at hget
    cases he
    by_cases hx : xs[j] = m
    · have hq : icmp .eql xs[j] m = true := by simp only [icmp, beq_iff_eq]; exact hx
      repeat'
        first
          | refine tl_defer ?_ | refine tc_seq ?_ | refine tc_region ?_ | refine at_seq_normal ?_ | refine tl_nil ?_ | refine tl_cons ?_ | refine tl_cons_none ?_ | refine op_move ?_
          | refine op_assign ?_ | refine op_fieldAddr ?_ | refine op_load ?_ | refine op_load_agg ?_ | refine op_indexC ?_ | refine op_indexAddr1 ?_ | refine op_indexAddr ?_ | refine op_icmp ?_
          | refine op_fcmp ?_ | refine op_iarith ?_ | refine op_bcmp ?_ | refine op_unop_not ?_ | refine op_unop_neg_float ?_ | refine op_unop_neg_int ?_ | refine op_len_slice ?_ | refine op_pick_true ?_
          | refine op_pick_false ?_ | refine op_pick_true' ?_ | refine op_pick_false' ?_ | refine op_build ?_ | refine op_extract ?_ | refine op_makeInterface ?_ | refine op_typeAssert ?_ | refine op_ptr_nil ?_
          | refine op_nilCheck_ptr ?_ | refine op_nilCheck_meth ?_ | refine op_makeMeth ?_ | refine op_makeFunc ?_ | refine op_itof ?_ | refine op_itoi ?_ | refine op_ftoi ?_ | refine op_iquo ?_
          | refine op_irem ?_ | refine op_ibits ?_ | refine op_slice_isnil ?_ | refine op_slice_notnil ?_ | refine op_imax ?_ | refine op_imin ?_ | refine op_shl ?_ | refine op_shr ?_
          | (refine op_alloc ?_; intro _) | (refine op_box ?_; intro _) | (refine op_buildSlice ?_; intro _) | (refine op_farith ?_; intro _ _) | refine op_store0 ?_ | refine op_store1 ?_ | refine op_store2 ?_ | refine op_store3 ?_
          | refine op_store4 ?_ | refine op_store5 ?_ | refine tc_cond_t ?_ | refine tc_cond_f ?_ | refine tc_cond (fun _ => ?_) (fun _ => ?_) | refine tc_block ?_ | refine tc_skip ?_ | refine tc_ret ?_
          | refine tc_exit ?_ | refine tc_label ?_ | refine at_seq_ret ?_ | refine at_seq_exit ?_ | refine at_block_normal ?_ | refine at_block_ret ?_ | refine at_block_exit_self ?_ | refine at_block_exit_ne ?_
          | refine at_loop_ret ?_ | refine at_loop_exit ?_ | refine at_loop_goto ?_ | refine tl_guard_yes ?_ | refine tl_guard_no ?_ | refine tl_guard_yes' ?_ | refine tl_guard_no' ?_ | refine tl_guard_undef ?_
          | refine tl_guard_split (fun _ => ?_) (fun _ => ?_)
      exact ret_tmp (hk := ⟨rfl, rfl⟩)
    · have hq : icmp .eql xs[j] m = false := by simp only [icmp, beq_eq_false_iff_ne]; exact hx
      repeat'
        first
          | refine tl_defer ?_ | refine tc_seq ?_ | refine tc_region ?_ | refine at_seq_normal ?_ | refine tl_nil ?_ | refine tl_cons ?_ | refine tl_cons_none ?_ | refine op_move ?_
          | refine op_assign ?_ | refine op_fieldAddr ?_ | refine op_load ?_ | refine op_load_agg ?_ | refine op_indexC ?_ | refine op_indexAddr1 ?_ | refine op_indexAddr ?_ | refine op_icmp ?_
          | refine op_fcmp ?_ | refine op_iarith ?_ | refine op_bcmp ?_ | refine op_unop_not ?_ | refine op_unop_neg_float ?_ | refine op_unop_neg_int ?_ | refine op_len_slice ?_ | refine op_pick_true ?_
          | refine op_pick_false ?_ | refine op_pick_true' ?_ | refine op_pick_false' ?_ | refine op_build ?_ | refine op_extract ?_ | refine op_makeInterface ?_ | refine op_typeAssert ?_ | refine op_ptr_nil ?_
          | refine op_nilCheck_ptr ?_ | refine op_nilCheck_meth ?_ | refine op_makeMeth ?_ | refine op_makeFunc ?_ | refine op_itof ?_ | refine op_itoi ?_ | refine op_ftoi ?_ | refine op_iquo ?_
          | refine op_irem ?_ | refine op_ibits ?_ | refine op_slice_isnil ?_ | refine op_slice_notnil ?_ | refine op_imax ?_ | refine op_imin ?_ | refine op_shl ?_ | refine op_shr ?_
          | (refine op_alloc ?_; intro _) | (refine op_box ?_; intro _) | (refine op_buildSlice ?_; intro _) | (refine op_farith ?_; intro _ _) | refine op_store0 ?_ | refine op_store1 ?_ | refine op_store2 ?_ | refine op_store3 ?_
          | refine op_store4 ?_ | refine op_store5 ?_ | refine tc_cond_t ?_ | refine tc_cond_f ?_ | refine tc_cond (fun _ => ?_) (fun _ => ?_) | refine tc_block ?_ | refine tc_skip ?_ | refine tc_ret ?_
          | refine tc_exit ?_ | refine tc_label ?_ | refine at_seq_ret ?_ | refine at_seq_exit ?_ | refine at_block_normal ?_ | refine at_block_ret ?_ | refine at_block_exit_self ?_ | refine at_block_exit_ne ?_
          | refine at_loop_ret ?_ | refine at_loop_exit ?_ | refine at_loop_goto ?_ | refine tl_guard_yes ?_ | refine tl_guard_no ?_ | refine tl_guard_yes' ?_ | refine tl_guard_no' ?_ | refine tl_guard_undef ?_
          | refine tl_guard_split (fun _ => ?_) (fun _ => ?_)
      exact at_loopK (j + 1) ⟨hlt, take_one_mem hget hne hx⟩ (by omega) ⟨next_nat (by omega), trivial⟩ (by repeat (first | exact trivial | refine ⟨rfl, ?_⟩)) (by (repeat (first | exact List.Sublist.refl _ | apply List.Sublist.cons_cons | apply List.Sublist.cons | refine List.Sublist.trans ?_ (List.sublist_append_right _ _))))
  · exact absurd rfl (hne m (by rw [List.take_of_length_le (by omega)]; exact hm))
set_option maxRecDepth 100000 in
instance idle33 : IdleD Tryd.prog 33 2 where
  idle := fun cap w hl => by
    match cap, hl with
    | [p, q], _ =>
    have h0 : ∀ w : World, (eqGuard .neq 20 (.tmp 2) (.const .nilIface) .nilIface .nilIface).run Tryd.prog w = .ok () w := fun _ => rfl
    have h1 : ∀ w : World, (binOp .neq 20 .nilIface .nilIface).run Tryd.prog w = .ok (.bool false) w := fun w => by
      first
        | rfl
        | simp [binOp, Op.equal, Op.equalIn, go_sem]
    refine callsD_of_wpS Tryd.func33 rfl fun c₀ cs hu => ?_
    apply wpS_seq
    apply wpS_region
    simp [wpOpsS, go_sem, recoverD, hu, Tryd.ntmps33, Exit.thenS, h1]
    refine wpS_cond (t := false) (by simp [Act.eval, Array.replicate]) ?_
    simp only [Bool.false_eq_true, if_false]
    refine wpS_of_wp (wp_skip ?_)
    cases c₀
    simp_all [bodyPostS, results, Tryd.results33]
set_option maxRecDepth 100000 in
instance idle40 : IdleD Tryd.prog 40 2 where
  idle := fun cap w hl => by
    match cap, hl with
    | [p, q], _ =>
    have h0 : ∀ w : World, (eqGuard .neq 20 (.tmp 2) (.const .nilIface) .nilIface .nilIface).run Tryd.prog w = .ok () w := fun _ => rfl
    have h1 : ∀ w : World, (binOp .neq 20 .nilIface .nilIface).run Tryd.prog w = .ok (.bool false) w := fun w => by
      first
        | rfl
        | simp [binOp, Op.equal, Op.equalIn, go_sem]
    refine callsD_of_wpS Tryd.func40 rfl fun c₀ cs hu => ?_
    apply wpS_seq
    apply wpS_region
    simp [wpOpsS, go_sem, recoverD, hu, Tryd.ntmps40, Exit.thenS, h1]
    refine wpS_cond (t := false) (by simp [Act.eval, Array.replicate]) ?_
    simp only [Bool.false_eq_true, if_false]
    refine wpS_of_wp (wp_skip ?_)
    cases c₀
    simp_all [bodyPostS, results, Tryd.results40]

theorem new2 (ord : Nat) (h1 : 1 ≤ ord) (h2 : ord ≤ 31) (H : Heap) : Does Tryd.prog 34 [.int .i64 (ord : Int)] H fun w H' => w = .tuple #[.agg ⟨[.int .i64 (ord : Int)]⟩, .nilIface] ∧ H' = H := by
  have c1 : icmp .lss (ord : Int) 1 = false := by simp only [icmp, decide_eq_false_iff_not]; omega
  have hm : IntKind.i64.wrap (iarith .mul (ord : Int) 2) = ((ord * 2 : Nat) : Int) := wrap_mulN (i := ord) (s := 2) (by omega)
  have c2 : icmp .geq ((ord * 2 : Nat) : Int) 64 = false := by simp only [icmp, decide_eq_false_iff_not]; omega
  refine fn_enter 17 Tryd.func34 fun W => ?_
  repeat' first
    | (refine op_iarith ?_; rw [hm])
    | (first | refine tl_defer ?_ | refine tc_seq ?_ | refine tc_region ?_ | refine at_seq_normal ?_ | refine tl_nil ?_ | refine tl_cons ?_ | refine tl_cons_none ?_ | refine op_move ?_ | refine op_assign ?_ | refine op_fieldAddr ?_ | refine op_load ?_ | refine op_load_agg ?_ | refine op_indexC ?_ | refine op_indexAddr1 ?_ | refine op_indexAddr ?_ | refine op_icmp ?_ | refine op_fcmp ?_ | refine op_iarith ?_ | refine op_bcmp ?_ | refine op_unop_not ?_ | refine op_unop_neg_float ?_ | refine op_unop_neg_int ?_ | refine op_len_slice ?_ | refine op_pick_true ?_ | refine op_pick_false ?_ | refine op_pick_true' ?_ | refine op_pick_false' ?_ | refine op_build ?_ | refine op_extract ?_ | refine op_makeInterface ?_ | refine op_typeAssert ?_ | refine op_ptr_nil ?_ | refine op_nilCheck_ptr ?_ | refine op_nilCheck_meth ?_ | refine op_makeMeth ?_ | refine op_makeFunc ?_ | refine op_itof ?_ | refine op_itoi ?_ | refine op_ftoi ?_ | refine op_iquo ?_ | refine op_irem ?_ | refine op_ibits ?_ | refine op_slice_isnil ?_ | refine op_slice_notnil ?_ | refine op_imax ?_ | refine op_imin ?_ | refine op_shl ?_ | refine op_shr ?_ | (refine op_alloc ?_; intro _) | (refine op_box ?_; intro _) | (refine op_buildSlice ?_; intro _) | (refine op_farith ?_; intro _ _) | refine op_store0 ?_ | refine op_store1 ?_ | refine op_store2 ?_ | refine op_store3 ?_ | refine op_store4 ?_ | refine op_store5 ?_ | refine op_storeK rfl ?_ | refine op_loadK rfl ?_ | refine op_load_aggK rfl ?_ | refine tc_cond_t ?_ | refine tc_cond_f ?_ | refine tc_cond (fun _ => ?_) (fun _ => ?_) | refine tc_block ?_ | refine tc_skip ?_ | refine tc_ret ?_ | refine tc_exit ?_ | refine tc_label ?_ | refine at_seq_ret ?_ | refine at_seq_exit ?_ | refine at_block_normal ?_ | refine at_block_ret ?_ | refine at_block_exit_self ?_ | refine at_block_exit_ne ?_ | refine at_loop_ret ?_ | refine at_loop_exit ?_ | refine at_loop_goto ?_ | refine tl_guard_yes ?_ | refine tl_guard_no ?_ | refine tl_guard_yes' ?_ | refine tl_guard_no' ?_ | refine tl_guard_undef ?_ | refine tl_guard_split (fun _ => ?_) (fun _ => ?_))
    | fail
  exact ret_list rfl (.cons (rv_agg rfl) (.cons (.tmp rfl) .nil)) rfl (List.Sublist.cons _ (List.Sublist.cons _ (List.Sublist.refl _))) ⟨rfl, rfl⟩ (.inl rfl)
set_option maxHeartbeats 4000000 in
theorem hcoord2 (ord pos : Nat) (h1 : 1 ≤ ord) (h2 : ord ≤ 31) (hp : pos < 2 ^ (2 * ord)) (H : Heap) : Does Tryd.prog 10 [.int .i64 2, .int .i64 (ord : Int), .int .i64 (pos : Int)] H fun w H' => ∃ k T ex, w = .tuple #[.slice (some ⟨k, 0, none⟩) 2 2, .bool true] ∧ H' = ex ++ H ∧ (k, Obj.cells ⟨(cst 2 rot2 pos ord).1.map nv ++ []⟩ T (0, 0)) ∈ ex := by
  refine fn_enter_d 52 Tryd.func10 fun W => ?_
  repeat' first
    | (refine op_call ((new2 ord h1 h2 _).mono ?_); rintro _ _ ⟨rfl, rfl⟩)
    | refine op_iface_nil ?_
    | (refine op_call ((coord2 ord pos _ h2 hp).mono ?_); rintro _ _ ⟨kr, Tr, rfl, rfl⟩)
    | (first | refine tl_defer ?_ | refine tc_seq ?_ | refine tc_region ?_ | refine at_seq_normal ?_ | refine tl_nil ?_ | refine tl_cons ?_ | refine tl_cons_none ?_ | refine op_move ?_ | refine op_assign ?_ | refine op_fieldAddr ?_ | refine op_load ?_ | refine op_load_agg ?_ | refine op_indexC ?_ | refine op_indexAddr1 ?_ | refine op_indexAddr ?_ | refine op_icmp ?_ | refine op_fcmp ?_ | refine op_iarith ?_ | refine op_bcmp ?_ | refine op_unop_not ?_ | refine op_unop_neg_float ?_ | refine op_unop_neg_int ?_ | refine op_len_slice ?_ | refine op_pick_true ?_ | refine op_pick_false ?_ | refine op_pick_true' ?_ | refine op_pick_false' ?_ | refine op_build ?_ | refine op_extract ?_ | refine op_makeInterface ?_ | refine op_typeAssert ?_ | refine op_ptr_nil ?_ | refine op_nilCheck_ptr ?_ | refine op_nilCheck_meth ?_ | refine op_makeMeth ?_ | refine op_makeFunc ?_ | refine op_itof ?_ | refine op_itoi ?_ | refine op_ftoi ?_ | refine op_iquo ?_ | refine op_irem ?_ | refine op_ibits ?_ | refine op_slice_isnil ?_ | refine op_slice_notnil ?_ | refine op_imax ?_ | refine op_imin ?_ | refine op_shl ?_ | refine op_shr ?_ | (refine op_alloc ?_; intro _) | (refine op_box ?_; intro _) | (refine op_buildSlice ?_; intro _) | (refine op_farith ?_; intro _ _) | refine op_store0 ?_ | refine op_store1 ?_ | refine op_store2 ?_ | refine op_store3 ?_ | refine op_store4 ?_ | refine op_store5 ?_ | refine op_storeK rfl ?_ | refine op_loadK rfl ?_ | refine op_load_aggK rfl ?_ | refine tc_cond_t ?_ | refine tc_cond_f ?_ | refine tc_cond (fun _ => ?_) (fun _ => ?_) | refine tc_block ?_ | refine tc_skip ?_ | refine tc_ret ?_ | refine tc_exit ?_ | refine tc_label ?_ | refine at_seq_ret ?_ | refine at_seq_exit ?_ | refine at_block_normal ?_ | refine at_block_ret ?_ | refine at_block_exit_self ?_ | refine at_block_exit_ne ?_ | refine at_loop_ret ?_ | refine at_loop_exit ?_ | refine at_loop_goto ?_ | refine tl_guard_yes ?_ | refine tl_guard_no ?_ | refine tl_guard_yes' ?_ | refine tl_guard_no' ?_ | refine tl_guard_undef ?_ | refine tl_guard_split (fun _ => ?_) (fun _ => ?_))
    | fail
  refine ret_door (m := 2) rfl rfl (.cons (rv_cell rfl) (.cons (rv_cell rfl) .nil)) rfl (List.Sublist.refl _) ?_
  refine ⟨kr, Tr, [_, _, _, _], rfl, rfl, ?_⟩
  rw [List.append_nil]
  simp
set_option maxHeartbeats 4000000 in
theorem hpos2 (ord : Nat) (v : Value) (v0 : List Nat) (h1 : 1 ≤ ord) (h2 : ord ≤ 31) (hl : v0.length = 2) (hbel : Below ord v0) (H : Heap) (hv : IS H v (toI v0)) : Does Tryd.prog 13 [.int .i64 2, .int .i64 (ord : Int), v] H fun w H' => w = .tuple #[.int .i64 (((pst 2 rot2 ord v0 ord).2 : Nat) : Int), .bool true] ∧ ∃ ex, H' = ex ++ H := by
  refine fn_enter_d 55 Tryd.func13 fun W => ?_
  repeat' first
    | (refine op_call ((new2 ord h1 h2 _).mono ?_); rintro _ _ ⟨rfl, rfl⟩)
    | refine op_iface_nil ?_
    | (first | refine tl_defer ?_ | refine tc_seq ?_ | refine tc_region ?_ | refine at_seq_normal ?_ | refine tl_nil ?_ | refine tl_cons ?_ | refine tl_cons_none ?_ | refine op_move ?_ | refine op_assign ?_ | refine op_fieldAddr ?_ | refine op_load ?_ | refine op_load_agg ?_ | refine op_indexC ?_ | refine op_indexAddr1 ?_ | refine op_indexAddr ?_ | refine op_icmp ?_ | refine op_fcmp ?_ | refine op_iarith ?_ | refine op_bcmp ?_ | refine op_unop_not ?_ | refine op_unop_neg_float ?_ | refine op_unop_neg_int ?_ | refine op_len_slice ?_ | refine op_pick_true ?_ | refine op_pick_false ?_ | refine op_pick_true' ?_ | refine op_pick_false' ?_ | refine op_build ?_ | refine op_extract ?_ | refine op_makeInterface ?_ | refine op_typeAssert ?_ | refine op_ptr_nil ?_ | refine op_nilCheck_ptr ?_ | refine op_nilCheck_meth ?_ | refine op_makeMeth ?_ | refine op_makeFunc ?_ | refine op_itof ?_ | refine op_itoi ?_ | refine op_ftoi ?_ | refine op_iquo ?_ | refine op_irem ?_ | refine op_ibits ?_ | refine op_slice_isnil ?_ | refine op_slice_notnil ?_ | refine op_imax ?_ | refine op_imin ?_ | refine op_shl ?_ | refine op_shr ?_ | (refine op_alloc ?_; intro _) | (refine op_box ?_; intro _) | (refine op_buildSlice ?_; intro _) | (refine op_farith ?_; intro _ _) | refine op_store0 ?_ | refine op_store1 ?_ | refine op_store2 ?_ | refine op_store3 ?_ | refine op_store4 ?_ | refine op_store5 ?_ | refine op_storeK rfl ?_ | refine op_loadK rfl ?_ | refine op_load_aggK rfl ?_ | refine tc_cond_t ?_ | refine tc_cond_f ?_ | refine tc_cond (fun _ => ?_) (fun _ => ?_) | refine tc_block ?_ | refine tc_skip ?_ | refine tc_ret ?_ | refine tc_exit ?_ | refine tc_label ?_ | refine at_seq_ret ?_ | refine at_seq_exit ?_ | refine at_block_normal ?_ | refine at_block_ret ?_ | refine at_block_exit_self ?_ | refine at_block_exit_ne ?_ | refine at_loop_ret ?_ | refine at_loop_exit ?_ | refine at_loop_goto ?_ | refine tl_guard_yes ?_ | refine tl_guard_no ?_ | refine tl_guard_yes' ?_ | refine tl_guard_no' ?_ | refine tl_guard_undef ?_ | refine tl_guard_split (fun _ => ?_) (fun _ => ?_))
    | fail
  apply fun hole0 hole1 hE hD hml hdl hpr prem fin => tc_drawn 3 [is hole0, is hole1, (fun w ex G => ∃ k cap sp, w = .slice (some ⟨k, 0, none⟩) 2 cap ∧ ex = [(k, Obj.cells ⟨v0.map nv ++ sp⟩ 3 (0, 0))])]
    [some 25, some 26, some 27, some 28, none, none] [[], [], [1]] mixed ⟨(is_mono _), (is_mono _), (fun _ _ _ _ h _ => h), trivial⟩ prem fin hE hD rfl hml hdl hpr
  rotate_left 3
  · exact rfl
  · exact rfl
  · exact Nat.le_of_ble_eq_true rfl
  · exact rfl
  · exact rfl
  refine ⟨fun G hG => ?_, fun G hG => ?_, fun G hG => ?_, trivial⟩
  · simp only [with2, Step2, nthDst, putO]
    ((first | refine op_load ?_ | refine op_load_agg ?_ | refine op_load ?_ (hm := Sub.mem (by assumption) (by (repeat (apply List.mem_cons_of_mem)); assumption)) | refine op_load_agg ?_ (hm := Sub.mem (by assumption) (by (repeat (apply List.mem_cons_of_mem)); assumption)) | refine op_loadH hG rfl ?_ | refine op_load_aggH hG rfl ?_); exact ⟨[], rfl, rfl, rfl⟩)
  · simp only [with2, Step2, nthDst, putO]
    (refine op_move ?_; exact ⟨[], rfl, rfl, rfl⟩)
  · rintro _ _ ⟨rfl, rfl⟩ -
    simp only [with2, Step2, nthDst, putO]
    (refine op_call ((intsX _ v0 _ (hv.mono fun e he => hG e (ins e he)) (by intro h; rw [h] at hl; cases hl) (by omega)).mono ?_); rintro _ _ ⟨k, cap, sp, rfl, rfl⟩; exact ⟨[_], rfl, k, cap, sp, by rw [hl], rfl⟩)
  rintro _ _ _ _ _ _ ⟨⟨kq, cap, sp, rfl, rfl⟩, ⟨rfl, rfl⟩, ⟨rfl, rfl⟩, _⟩
  simp only [List.nil_append, List.cons_append, List.append_nil, List.drop_succ_cons, List.drop_zero, nthDst, putO]
  repeat' first
    | (refine op_mid kq ?_; refine op_call ((pos2 ord kq cap _ v0 sp _ h2 hl hbel).mono ?_); rintro _ _ ⟨rfl, rfl⟩)
    | (first | refine tl_defer ?_ | refine tc_seq ?_ | refine tc_region ?_ | refine at_seq_normal ?_ | refine tl_nil ?_ | refine tl_cons ?_ | refine tl_cons_none ?_ | refine op_move ?_ | refine op_assign ?_ | refine op_fieldAddr ?_ | refine op_load ?_ | refine op_load_agg ?_ | refine op_indexC ?_ | refine op_indexAddr1 ?_ | refine op_indexAddr ?_ | refine op_icmp ?_ | refine op_fcmp ?_ | refine op_iarith ?_ | refine op_bcmp ?_ | refine op_unop_not ?_ | refine op_unop_neg_float ?_ | refine op_unop_neg_int ?_ | refine op_len_slice ?_ | refine op_pick_true ?_ | refine op_pick_false ?_ | refine op_pick_true' ?_ | refine op_pick_false' ?_ | refine op_build ?_ | refine op_extract ?_ | refine op_makeInterface ?_ | refine op_typeAssert ?_ | refine op_ptr_nil ?_ | refine op_nilCheck_ptr ?_ | refine op_nilCheck_meth ?_ | refine op_makeMeth ?_ | refine op_makeFunc ?_ | refine op_itof ?_ | refine op_itoi ?_ | refine op_ftoi ?_ | refine op_iquo ?_ | refine op_irem ?_ | refine op_ibits ?_ | refine op_slice_isnil ?_ | refine op_slice_notnil ?_ | refine op_imax ?_ | refine op_imin ?_ | refine op_shl ?_ | refine op_shr ?_ | (refine op_alloc ?_; intro _) | (refine op_box ?_; intro _) | (refine op_buildSlice ?_; intro _) | (refine op_farith ?_; intro _ _) | refine op_store0 ?_ | refine op_store1 ?_ | refine op_store2 ?_ | refine op_store3 ?_ | refine op_store4 ?_ | refine op_store5 ?_ | refine op_storeK rfl ?_ | refine op_loadK rfl ?_ | refine op_load_aggK rfl ?_ | refine tc_cond_t ?_ | refine tc_cond_f ?_ | refine tc_cond (fun _ => ?_) (fun _ => ?_) | refine tc_block ?_ | refine tc_skip ?_ | refine tc_ret ?_ | refine tc_exit ?_ | refine tc_label ?_ | refine at_seq_ret ?_ | refine at_seq_exit ?_ | refine at_block_normal ?_ | refine at_block_ret ?_ | refine at_block_exit_self ?_ | refine at_block_exit_ne ?_ | refine at_loop_ret ?_ | refine at_loop_exit ?_ | refine at_loop_goto ?_ | refine tl_guard_yes ?_ | refine tl_guard_no ?_ | refine tl_guard_yes' ?_ | refine tl_guard_no' ?_ | refine tl_guard_undef ?_ | refine tl_guard_split (fun _ => ?_) (fun _ => ?_))
    | fail
  refine ret_door (m := 2) rfl rfl (.cons (rv_cell rfl) (.cons (rv_cell rfl) .nil)) rfl (List.Sublist.refl _) ?_
  exact ⟨rfl, ExC.ex⟩
theorem new3 (ord : Nat) (h1 : 1 ≤ ord) (h2 : ord ≤ 20) (H : Heap) : Does Tryd.prog 36 [.int .i64 (ord : Int)] H fun w H' => w = .tuple #[.agg ⟨[.int .i64 (ord : Int)]⟩, .nilIface] ∧ H' = H := by
  have c1 : icmp .lss (ord : Int) 1 = false := by simp only [icmp, decide_eq_false_iff_not]; omega
  have hm : IntKind.i64.wrap (iarith .mul (ord : Int) 3) = ((ord * 3 : Nat) : Int) := wrap_mulN (i := ord) (s := 3) (by omega)
  have c2 : icmp .geq ((ord * 3 : Nat) : Int) 64 = false := by simp only [icmp, decide_eq_false_iff_not]; omega
  refine fn_enter 17 Tryd.func36 fun W => ?_
  repeat' first
    | (refine op_iarith ?_; rw [hm])
    | (first | refine tl_defer ?_ | refine tc_seq ?_ | refine tc_region ?_ | refine at_seq_normal ?_ | refine tl_nil ?_ | refine tl_cons ?_ | refine tl_cons_none ?_ | refine op_move ?_ | refine op_assign ?_ | refine op_fieldAddr ?_ | refine op_load ?_ | refine op_load_agg ?_ | refine op_indexC ?_ | refine op_indexAddr1 ?_ | refine op_indexAddr ?_ | refine op_icmp ?_ | refine op_fcmp ?_ | refine op_iarith ?_ | refine op_bcmp ?_ | refine op_unop_not ?_ | refine op_unop_neg_float ?_ | refine op_unop_neg_int ?_ | refine op_len_slice ?_ | refine op_pick_true ?_ | refine op_pick_false ?_ | refine op_pick_true' ?_ | refine op_pick_false' ?_ | refine op_build ?_ | refine op_extract ?_ | refine op_makeInterface ?_ | refine op_typeAssert ?_ | refine op_ptr_nil ?_ | refine op_nilCheck_ptr ?_ | refine op_nilCheck_meth ?_ | refine op_makeMeth ?_ | refine op_makeFunc ?_ | refine op_itof ?_ | refine op_itoi ?_ | refine op_ftoi ?_ | refine op_iquo ?_ | refine op_irem ?_ | refine op_ibits ?_ | refine op_slice_isnil ?_ | refine op_slice_notnil ?_ | refine op_imax ?_ | refine op_imin ?_ | refine op_shl ?_ | refine op_shr ?_ | (refine op_alloc ?_; intro _) | (refine op_box ?_; intro _) | (refine op_buildSlice ?_; intro _) | (refine op_farith ?_; intro _ _) | refine op_store0 ?_ | refine op_store1 ?_ | refine op_store2 ?_ | refine op_store3 ?_ | refine op_store4 ?_ | refine op_store5 ?_ | refine op_storeK rfl ?_ | refine op_loadK rfl ?_ | refine op_load_aggK rfl ?_ | refine tc_cond_t ?_ | refine tc_cond_f ?_ | refine tc_cond (fun _ => ?_) (fun _ => ?_) | refine tc_block ?_ | refine tc_skip ?_ | refine tc_ret ?_ | refine tc_exit ?_ | refine tc_label ?_ | refine at_seq_ret ?_ | refine at_seq_exit ?_ | refine at_block_normal ?_ | refine at_block_ret ?_ | refine at_block_exit_self ?_ | refine at_block_exit_ne ?_ | refine at_loop_ret ?_ | refine at_loop_exit ?_ | refine at_loop_goto ?_ | refine tl_guard_yes ?_ | refine tl_guard_no ?_ | refine tl_guard_yes' ?_ | refine tl_guard_no' ?_ | refine tl_guard_undef ?_ | refine tl_guard_split (fun _ => ?_) (fun _ => ?_))
    | fail
  exact ret_list rfl (.cons (rv_agg rfl) (.cons (.tmp rfl) .nil)) rfl (List.Sublist.cons _ (List.Sublist.cons _ (List.Sublist.refl _))) ⟨rfl, rfl⟩ (.inl rfl)
set_option maxHeartbeats 4000000 in
theorem hcoord3 (ord pos : Nat) (h1 : 1 ≤ ord) (h2 : ord ≤ 20) (hp : pos < 2 ^ (3 * ord)) (H : Heap) : Does Tryd.prog 10 [.int .i64 3, .int .i64 (ord : Int), .int .i64 (pos : Int)] H fun w H' => ∃ k T ex, w = .tuple #[.slice (some ⟨k, 0, none⟩) 3 3, .bool true] ∧ H' = ex ++ H ∧ (k, Obj.cells ⟨(cst 3 rot3 pos ord).1.map nv ++ []⟩ T (0, 0)) ∈ ex := by
  refine fn_enter_d 52 Tryd.func10 fun W => ?_
  repeat' first
    | (refine op_call ((new3 ord h1 h2 _).mono ?_); rintro _ _ ⟨rfl, rfl⟩)
    | refine op_iface_nil ?_
    | (refine op_call ((coord3 ord pos _ h2 hp).mono ?_); rintro _ _ ⟨kr, Tr, rfl, rfl⟩)
    | (first | refine tl_defer ?_ | refine tc_seq ?_ | refine tc_region ?_ | refine at_seq_normal ?_ | refine tl_nil ?_ | refine tl_cons ?_ | refine tl_cons_none ?_ | refine op_move ?_ | refine op_assign ?_ | refine op_fieldAddr ?_ | refine op_load ?_ | refine op_load_agg ?_ | refine op_indexC ?_ | refine op_indexAddr1 ?_ | refine op_indexAddr ?_ | refine op_icmp ?_ | refine op_fcmp ?_ | refine op_iarith ?_ | refine op_bcmp ?_ | refine op_unop_not ?_ | refine op_unop_neg_float ?_ | refine op_unop_neg_int ?_ | refine op_len_slice ?_ | refine op_pick_true ?_ | refine op_pick_false ?_ | refine op_pick_true' ?_ | refine op_pick_false' ?_ | refine op_build ?_ | refine op_extract ?_ | refine op_makeInterface ?_ | refine op_typeAssert ?_ | refine op_ptr_nil ?_ | refine op_nilCheck_ptr ?_ | refine op_nilCheck_meth ?_ | refine op_makeMeth ?_ | refine op_makeFunc ?_ | refine op_itof ?_ | refine op_itoi ?_ | refine op_ftoi ?_ | refine op_iquo ?_ | refine op_irem ?_ | refine op_ibits ?_ | refine op_slice_isnil ?_ | refine op_slice_notnil ?_ | refine op_imax ?_ | refine op_imin ?_ | refine op_shl ?_ | refine op_shr ?_ | (refine op_alloc ?_; intro _) | (refine op_box ?_; intro _) | (refine op_buildSlice ?_; intro _) | (refine op_farith ?_; intro _ _) | refine op_store0 ?_ | refine op_store1 ?_ | refine op_store2 ?_ | refine op_store3 ?_ | refine op_store4 ?_ | refine op_store5 ?_ | refine op_storeK rfl ?_ | refine op_loadK rfl ?_ | refine op_load_aggK rfl ?_ | refine tc_cond_t ?_ | refine tc_cond_f ?_ | refine tc_cond (fun _ => ?_) (fun _ => ?_) | refine tc_block ?_ | refine tc_skip ?_ | refine tc_ret ?_ | refine tc_exit ?_ | refine tc_label ?_ | refine at_seq_ret ?_ | refine at_seq_exit ?_ | refine at_block_normal ?_ | refine at_block_ret ?_ | refine at_block_exit_self ?_ | refine at_block_exit_ne ?_ | refine at_loop_ret ?_ | refine at_loop_exit ?_ | refine at_loop_goto ?_ | refine tl_guard_yes ?_ | refine tl_guard_no ?_ | refine tl_guard_yes' ?_ | refine tl_guard_no' ?_ | refine tl_guard_undef ?_ | refine tl_guard_split (fun _ => ?_) (fun _ => ?_))
    | fail
  refine ret_door (m := 2) rfl rfl (.cons (rv_cell rfl) (.cons (rv_cell rfl) .nil)) rfl (List.Sublist.refl _) ?_
  refine ⟨kr, Tr, [_, _, _, _], rfl, rfl, ?_⟩
  rw [List.append_nil]
  simp
set_option maxHeartbeats 4000000 in
theorem hpos3 (ord : Nat) (v : Value) (v0 : List Nat) (h1 : 1 ≤ ord) (h2 : ord ≤ 20) (hl : v0.length = 3) (hbel : Below ord v0) (H : Heap) (hv : IS H v (toI v0)) : Does Tryd.prog 13 [.int .i64 3, .int .i64 (ord : Int), v] H fun w H' => w = .tuple #[.int .i64 (((pst 3 rot3 ord v0 ord).2 : Nat) : Int), .bool true] ∧ ∃ ex, H' = ex ++ H := by
  refine fn_enter_d 55 Tryd.func13 fun W => ?_
  repeat' first
    | (refine op_call ((new3 ord h1 h2 _).mono ?_); rintro _ _ ⟨rfl, rfl⟩)
    | refine op_iface_nil ?_
    | (first | refine tl_defer ?_ | refine tc_seq ?_ | refine tc_region ?_ | refine at_seq_normal ?_ | refine tl_nil ?_ | refine tl_cons ?_ | refine tl_cons_none ?_ | refine op_move ?_ | refine op_assign ?_ | refine op_fieldAddr ?_ | refine op_load ?_ | refine op_load_agg ?_ | refine op_indexC ?_ | refine op_indexAddr1 ?_ | refine op_indexAddr ?_ | refine op_icmp ?_ | refine op_fcmp ?_ | refine op_iarith ?_ | refine op_bcmp ?_ | refine op_unop_not ?_ | refine op_unop_neg_float ?_ | refine op_unop_neg_int ?_ | refine op_len_slice ?_ | refine op_pick_true ?_ | refine op_pick_false ?_ | refine op_pick_true' ?_ | refine op_pick_false' ?_ | refine op_build ?_ | refine op_extract ?_ | refine op_makeInterface ?_ | refine op_typeAssert ?_ | refine op_ptr_nil ?_ | refine op_nilCheck_ptr ?_ | refine op_nilCheck_meth ?_ | refine op_makeMeth ?_ | refine op_makeFunc ?_ | refine op_itof ?_ | refine op_itoi ?_ | refine op_ftoi ?_ | refine op_iquo ?_ | refine op_irem ?_ | refine op_ibits ?_ | refine op_slice_isnil ?_ | refine op_slice_notnil ?_ | refine op_imax ?_ | refine op_imin ?_ | refine op_shl ?_ | refine op_shr ?_ | (refine op_alloc ?_; intro _) | (refine op_box ?_; intro _) | (refine op_buildSlice ?_; intro _) | (refine op_farith ?_; intro _ _) | refine op_store0 ?_ | refine op_store1 ?_ | refine op_store2 ?_ | refine op_store3 ?_ | refine op_store4 ?_ | refine op_store5 ?_ | refine op_storeK rfl ?_ | refine op_loadK rfl ?_ | refine op_load_aggK rfl ?_ | refine tc_cond_t ?_ | refine tc_cond_f ?_ | refine tc_cond (fun _ => ?_) (fun _ => ?_) | refine tc_block ?_ | refine tc_skip ?_ | refine tc_ret ?_ | refine tc_exit ?_ | refine tc_label ?_ | refine at_seq_ret ?_ | refine at_seq_exit ?_ | refine at_block_normal ?_ | refine at_block_ret ?_ | refine at_block_exit_self ?_ | refine at_block_exit_ne ?_ | refine at_loop_ret ?_ | refine at_loop_exit ?_ | refine at_loop_goto ?_ | refine tl_guard_yes ?_ | refine tl_guard_no ?_ | refine tl_guard_yes' ?_ | refine tl_guard_no' ?_ | refine tl_guard_undef ?_ | refine tl_guard_split (fun _ => ?_) (fun _ => ?_))
    | fail
  apply fun hole0 hole1 hE hD hml hdl hpr prem fin => tc_drawn 3 [is hole0, is hole1, (fun w ex G => ∃ k cap sp, w = .slice (some ⟨k, 0, none⟩) 3 cap ∧ ex = [(k, Obj.cells ⟨v0.map nv ++ sp⟩ 3 (0, 0))])]
    [some 38, some 39, some 40, some 41, none, none] [[], [], [1]] mixed ⟨(is_mono _), (is_mono _), (fun _ _ _ _ h _ => h), trivial⟩ prem fin hE hD rfl hml hdl hpr
  rotate_left 3
  · exact rfl
  · exact rfl
  · exact Nat.le_of_ble_eq_true rfl
  · exact rfl
  · exact rfl
  refine ⟨fun G hG => ?_, fun G hG => ?_, fun G hG => ?_, trivial⟩
  · simp only [with2, Step2, nthDst, putO]
    ((first | refine op_load ?_ | refine op_load_agg ?_ | refine op_load ?_ (hm := Sub.mem (by assumption) (by (repeat (apply List.mem_cons_of_mem)); assumption)) | refine op_load_agg ?_ (hm := Sub.mem (by assumption) (by (repeat (apply List.mem_cons_of_mem)); assumption)) | refine op_loadH hG rfl ?_ | refine op_load_aggH hG rfl ?_); exact ⟨[], rfl, rfl, rfl⟩)
  · simp only [with2, Step2, nthDst, putO]
    (refine op_move ?_; exact ⟨[], rfl, rfl, rfl⟩)
  · rintro _ _ ⟨rfl, rfl⟩ -
    simp only [with2, Step2, nthDst, putO]
    (refine op_call ((intsX _ v0 _ (hv.mono fun e he => hG e (ins e he)) (by intro h; rw [h] at hl; cases hl) (by omega)).mono ?_); rintro _ _ ⟨k, cap, sp, rfl, rfl⟩; exact ⟨[_], rfl, k, cap, sp, by rw [hl], rfl⟩)
  rintro _ _ _ _ _ _ ⟨⟨kq, cap, sp, rfl, rfl⟩, ⟨rfl, rfl⟩, ⟨rfl, rfl⟩, _⟩
  simp only [List.nil_append, List.cons_append, List.append_nil, List.drop_succ_cons, List.drop_zero, nthDst, putO]
  repeat' first
    | (refine op_mid kq ?_; refine op_call ((pos3 ord kq cap _ v0 sp _ h2 hl hbel).mono ?_); rintro _ _ ⟨rfl, rfl⟩)
    | (first | refine tl_defer ?_ | refine tc_seq ?_ | refine tc_region ?_ | refine at_seq_normal ?_ | refine tl_nil ?_ | refine tl_cons ?_ | refine tl_cons_none ?_ | refine op_move ?_ | refine op_assign ?_ | refine op_fieldAddr ?_ | refine op_load ?_ | refine op_load_agg ?_ | refine op_indexC ?_ | refine op_indexAddr1 ?_ | refine op_indexAddr ?_ | refine op_icmp ?_ | refine op_fcmp ?_ | refine op_iarith ?_ | refine op_bcmp ?_ | refine op_unop_not ?_ | refine op_unop_neg_float ?_ | refine op_unop_neg_int ?_ | refine op_len_slice ?_ | refine op_pick_true ?_ | refine op_pick_false ?_ | refine op_pick_true' ?_ | refine op_pick_false' ?_ | refine op_build ?_ | refine op_extract ?_ | refine op_makeInterface ?_ | refine op_typeAssert ?_ | refine op_ptr_nil ?_ | refine op_nilCheck_ptr ?_ | refine op_nilCheck_meth ?_ | refine op_makeMeth ?_ | refine op_makeFunc ?_ | refine op_itof ?_ | refine op_itoi ?_ | refine op_ftoi ?_ | refine op_iquo ?_ | refine op_irem ?_ | refine op_ibits ?_ | refine op_slice_isnil ?_ | refine op_slice_notnil ?_ | refine op_imax ?_ | refine op_imin ?_ | refine op_shl ?_ | refine op_shr ?_ | (refine op_alloc ?_; intro _) | (refine op_box ?_; intro _) | (refine op_buildSlice ?_; intro _) | (refine op_farith ?_; intro _ _) | refine op_store0 ?_ | refine op_store1 ?_ | refine op_store2 ?_ | refine op_store3 ?_ | refine op_store4 ?_ | refine op_store5 ?_ | refine op_storeK rfl ?_ | refine op_loadK rfl ?_ | refine op_load_aggK rfl ?_ | refine tc_cond_t ?_ | refine tc_cond_f ?_ | refine tc_cond (fun _ => ?_) (fun _ => ?_) | refine tc_block ?_ | refine tc_skip ?_ | refine tc_ret ?_ | refine tc_exit ?_ | refine tc_label ?_ | refine at_seq_ret ?_ | refine at_seq_exit ?_ | refine at_block_normal ?_ | refine at_block_ret ?_ | refine at_block_exit_self ?_ | refine at_block_exit_ne ?_ | refine at_loop_ret ?_ | refine at_loop_exit ?_ | refine at_loop_goto ?_ | refine tl_guard_yes ?_ | refine tl_guard_no ?_ | refine tl_guard_yes' ?_ | refine tl_guard_no' ?_ | refine tl_guard_undef ?_ | refine tl_guard_split (fun _ => ?_) (fun _ => ?_))
    | fail
  refine ret_door (m := 2) rfl rfl (.cons (rv_cell rfl) (.cons (rv_cell rfl) .nil)) rfl (List.Sublist.refl _) ?_
  exact ⟨rfl, ExC.ex⟩
theorem new4 (ord : Nat) (h1 : 1 ≤ ord) (h2 : ord ≤ 15) (H : Heap) : Does Tryd.prog 38 [.int .i64 (ord : Int)] H fun w H' => w = .tuple #[.agg ⟨[.int .i64 (ord : Int)]⟩, .nilIface] ∧ H' = H := by
  have c1 : icmp .lss (ord : Int) 1 = false := by simp only [icmp, decide_eq_false_iff_not]; omega
  have hm : IntKind.i64.wrap (iarith .mul (ord : Int) 4) = ((ord * 4 : Nat) : Int) := wrap_mulN (i := ord) (s := 4) (by omega)
  have c2 : icmp .geq ((ord * 4 : Nat) : Int) 64 = false := by simp only [icmp, decide_eq_false_iff_not]; omega
  refine fn_enter 17 Tryd.func38 fun W => ?_
  repeat' first
    | (refine op_iarith ?_; rw [hm])
    | (first | refine tl_defer ?_ | refine tc_seq ?_ | refine tc_region ?_ | refine at_seq_normal ?_ | refine tl_nil ?_ | refine tl_cons ?_ | refine tl_cons_none ?_ | refine op_move ?_ | refine op_assign ?_ | refine op_fieldAddr ?_ | refine op_load ?_ | refine op_load_agg ?_ | refine op_indexC ?_ | refine op_indexAddr1 ?_ | refine op_indexAddr ?_ | refine op_icmp ?_ | refine op_fcmp ?_ | refine op_iarith ?_ | refine op_bcmp ?_ | refine op_unop_not ?_ | refine op_unop_neg_float ?_ | refine op_unop_neg_int ?_ | refine op_len_slice ?_ | refine op_pick_true ?_ | refine op_pick_false ?_ | refine op_pick_true' ?_ | refine op_pick_false' ?_ | refine op_build ?_ | refine op_extract ?_ | refine op_makeInterface ?_ | refine op_typeAssert ?_ | refine op_ptr_nil ?_ | refine op_nilCheck_ptr ?_ | refine op_nilCheck_meth ?_ | refine op_makeMeth ?_ | refine op_makeFunc ?_ | refine op_itof ?_ | refine op_itoi ?_ | refine op_ftoi ?_ | refine op_iquo ?_ | refine op_irem ?_ | refine op_ibits ?_ | refine op_slice_isnil ?_ | refine op_slice_notnil ?_ | refine op_imax ?_ | refine op_imin ?_ | refine op_shl ?_ | refine op_shr ?_ | (refine op_alloc ?_; intro _) | (refine op_box ?_; intro _) | (refine op_buildSlice ?_; intro _) | (refine op_farith ?_; intro _ _) | refine op_store0 ?_ | refine op_store1 ?_ | refine op_store2 ?_ | refine op_store3 ?_ | refine op_store4 ?_ | refine op_store5 ?_ | refine op_storeK rfl ?_ | refine op_loadK rfl ?_ | refine op_load_aggK rfl ?_ | refine tc_cond_t ?_ | refine tc_cond_f ?_ | refine tc_cond (fun _ => ?_) (fun _ => ?_) | refine tc_block ?_ | refine tc_skip ?_ | refine tc_ret ?_ | refine tc_exit ?_ | refine tc_label ?_ | refine at_seq_ret ?_ | refine at_seq_exit ?_ | refine at_block_normal ?_ | refine at_block_ret ?_ | refine at_block_exit_self ?_ | refine at_block_exit_ne ?_ | refine at_loop_ret ?_ | refine at_loop_exit ?_ | refine at_loop_goto ?_ | refine tl_guard_yes ?_ | refine tl_guard_no ?_ | refine tl_guard_yes' ?_ | refine tl_guard_no' ?_ | refine tl_guard_undef ?_ | refine tl_guard_split (fun _ => ?_) (fun _ => ?_))
    | fail
  exact ret_list rfl (.cons (rv_agg rfl) (.cons (.tmp rfl) .nil)) rfl (List.Sublist.cons _ (List.Sublist.cons _ (List.Sublist.refl _))) ⟨rfl, rfl⟩ (.inl rfl)
set_option maxHeartbeats 4000000 in
theorem hcoord4 (ord pos : Nat) (h1 : 1 ≤ ord) (h2 : ord ≤ 15) (hp : pos < 2 ^ (4 * ord)) (H : Heap) : Does Tryd.prog 10 [.int .i64 4, .int .i64 (ord : Int), .int .i64 (pos : Int)] H fun w H' => ∃ k T ex, w = .tuple #[.slice (some ⟨k, 0, none⟩) 4 4, .bool true] ∧ H' = ex ++ H ∧ (k, Obj.cells ⟨(cst 4 rot4 pos ord).1.map nv ++ []⟩ T (0, 0)) ∈ ex := by
  refine fn_enter_d 52 Tryd.func10 fun W => ?_
  repeat' first
    | (refine op_call ((new4 ord h1 h2 _).mono ?_); rintro _ _ ⟨rfl, rfl⟩)
    | refine op_iface_nil ?_
    | (refine op_call ((coord4 ord pos _ h2 hp).mono ?_); rintro _ _ ⟨kr, Tr, rfl, rfl⟩)
    | (first | refine tl_defer ?_ | refine tc_seq ?_ | refine tc_region ?_ | refine at_seq_normal ?_ | refine tl_nil ?_ | refine tl_cons ?_ | refine tl_cons_none ?_ | refine op_move ?_ | refine op_assign ?_ | refine op_fieldAddr ?_ | refine op_load ?_ | refine op_load_agg ?_ | refine op_indexC ?_ | refine op_indexAddr1 ?_ | refine op_indexAddr ?_ | refine op_icmp ?_ | refine op_fcmp ?_ | refine op_iarith ?_ | refine op_bcmp ?_ | refine op_unop_not ?_ | refine op_unop_neg_float ?_ | refine op_unop_neg_int ?_ | refine op_len_slice ?_ | refine op_pick_true ?_ | refine op_pick_false ?_ | refine op_pick_true' ?_ | refine op_pick_false' ?_ | refine op_build ?_ | refine op_extract ?_ | refine op_makeInterface ?_ | refine op_typeAssert ?_ | refine op_ptr_nil ?_ | refine op_nilCheck_ptr ?_ | refine op_nilCheck_meth ?_ | refine op_makeMeth ?_ | refine op_makeFunc ?_ | refine op_itof ?_ | refine op_itoi ?_ | refine op_ftoi ?_ | refine op_iquo ?_ | refine op_irem ?_ | refine op_ibits ?_ | refine op_slice_isnil ?_ | refine op_slice_notnil ?_ | refine op_imax ?_ | refine op_imin ?_ | refine op_shl ?_ | refine op_shr ?_ | (refine op_alloc ?_; intro _) | (refine op_box ?_; intro _) | (refine op_buildSlice ?_; intro _) | (refine op_farith ?_; intro _ _) | refine op_store0 ?_ | refine op_store1 ?_ | refine op_store2 ?_ | refine op_store3 ?_ | refine op_store4 ?_ | refine op_store5 ?_ | refine op_storeK rfl ?_ | refine op_loadK rfl ?_ | refine op_load_aggK rfl ?_ | refine tc_cond_t ?_ | refine tc_cond_f ?_ | refine tc_cond (fun _ => ?_) (fun _ => ?_) | refine tc_block ?_ | refine tc_skip ?_ | refine tc_ret ?_ | refine tc_exit ?_ | refine tc_label ?_ | refine at_seq_ret ?_ | refine at_seq_exit ?_ | refine at_block_normal ?_ | refine at_block_ret ?_ | refine at_block_exit_self ?_ | refine at_block_exit_ne ?_ | refine at_loop_ret ?_ | refine at_loop_exit ?_ | refine at_loop_goto ?_ | refine tl_guard_yes ?_ | refine tl_guard_no ?_ | refine tl_guard_yes' ?_ | refine tl_guard_no' ?_ | refine tl_guard_undef ?_ | refine tl_guard_split (fun _ => ?_) (fun _ => ?_))
    | fail
  refine ret_door (m := 2) rfl rfl (.cons (rv_cell rfl) (.cons (rv_cell rfl) .nil)) rfl (List.Sublist.refl _) ?_
  refine ⟨kr, Tr, [_, _, _, _], rfl, rfl, ?_⟩
  rw [List.append_nil]
  simp
set_option maxHeartbeats 4000000 in
theorem hpos4 (ord : Nat) (v : Value) (v0 : List Nat) (h1 : 1 ≤ ord) (h2 : ord ≤ 15) (hl : v0.length = 4) (hbel : Below ord v0) (H : Heap) (hv : IS H v (toI v0)) : Does Tryd.prog 13 [.int .i64 4, .int .i64 (ord : Int), v] H fun w H' => w = .tuple #[.int .i64 (((pst 4 rot4 ord v0 ord).2 : Nat) : Int), .bool true] ∧ ∃ ex, H' = ex ++ H := by
  refine fn_enter_d 55 Tryd.func13 fun W => ?_
  repeat' first
    | (refine op_call ((new4 ord h1 h2 _).mono ?_); rintro _ _ ⟨rfl, rfl⟩)
    | refine op_iface_nil ?_
    | (first | refine tl_defer ?_ | refine tc_seq ?_ | refine tc_region ?_ | refine at_seq_normal ?_ | refine tl_nil ?_ | refine tl_cons ?_ | refine tl_cons_none ?_ | refine op_move ?_ | refine op_assign ?_ | refine op_fieldAddr ?_ | refine op_load ?_ | refine op_load_agg ?_ | refine op_indexC ?_ | refine op_indexAddr1 ?_ | refine op_indexAddr ?_ | refine op_icmp ?_ | refine op_fcmp ?_ | refine op_iarith ?_ | refine op_bcmp ?_ | refine op_unop_not ?_ | refine op_unop_neg_float ?_ | refine op_unop_neg_int ?_ | refine op_len_slice ?_ | refine op_pick_true ?_ | refine op_pick_false ?_ | refine op_pick_true' ?_ | refine op_pick_false' ?_ | refine op_build ?_ | refine op_extract ?_ | refine op_makeInterface ?_ | refine op_typeAssert ?_ | refine op_ptr_nil ?_ | refine op_nilCheck_ptr ?_ | refine op_nilCheck_meth ?_ | refine op_makeMeth ?_ | refine op_makeFunc ?_ | refine op_itof ?_ | refine op_itoi ?_ | refine op_ftoi ?_ | refine op_iquo ?_ | refine op_irem ?_ | refine op_ibits ?_ | refine op_slice_isnil ?_ | refine op_slice_notnil ?_ | refine op_imax ?_ | refine op_imin ?_ | refine op_shl ?_ | refine op_shr ?_ | (refine op_alloc ?_; intro _) | (refine op_box ?_; intro _) | (refine op_buildSlice ?_; intro _) | (refine op_farith ?_; intro _ _) | refine op_store0 ?_ | refine op_store1 ?_ | refine op_store2 ?_ | refine op_store3 ?_ | refine op_store4 ?_ | refine op_store5 ?_ | refine op_storeK rfl ?_ | refine op_loadK rfl ?_ | refine op_load_aggK rfl ?_ | refine tc_cond_t ?_ | refine tc_cond_f ?_ | refine tc_cond (fun _ => ?_) (fun _ => ?_) | refine tc_block ?_ | refine tc_skip ?_ | refine tc_ret ?_ | refine tc_exit ?_ | refine tc_label ?_ | refine at_seq_ret ?_ | refine at_seq_exit ?_ | refine at_block_normal ?_ | refine at_block_ret ?_ | refine at_block_exit_self ?_ | refine at_block_exit_ne ?_ | refine at_loop_ret ?_ | refine at_loop_exit ?_ | refine at_loop_goto ?_ | refine tl_guard_yes ?_ | refine tl_guard_no ?_ | refine tl_guard_yes' ?_ | refine tl_guard_no' ?_ | refine tl_guard_undef ?_ | refine tl_guard_split (fun _ => ?_) (fun _ => ?_))
    | fail
  apply fun hole0 hole1 hE hD hml hdl hpr prem fin => tc_drawn 3 [is hole0, is hole1, (fun w ex G => ∃ k cap sp, w = .slice (some ⟨k, 0, none⟩) 4 cap ∧ ex = [(k, Obj.cells ⟨v0.map nv ++ sp⟩ 3 (0, 0))])]
    [some 51, some 52, some 53, some 54, none, none] [[], [], [1]] mixed ⟨(is_mono _), (is_mono _), (fun _ _ _ _ h _ => h), trivial⟩ prem fin hE hD rfl hml hdl hpr
  rotate_left 3
  · exact rfl
  · exact rfl
  · exact Nat.le_of_ble_eq_true rfl
  · exact rfl
  · exact rfl
  refine ⟨fun G hG => ?_, fun G hG => ?_, fun G hG => ?_, trivial⟩
  · simp only [with2, Step2, nthDst, putO]
    ((first | refine op_load ?_ | refine op_load_agg ?_ | refine op_load ?_ (hm := Sub.mem (by assumption) (by (repeat (apply List.mem_cons_of_mem)); assumption)) | refine op_load_agg ?_ (hm := Sub.mem (by assumption) (by (repeat (apply List.mem_cons_of_mem)); assumption)) | refine op_loadH hG rfl ?_ | refine op_load_aggH hG rfl ?_); exact ⟨[], rfl, rfl, rfl⟩)
  · simp only [with2, Step2, nthDst, putO]
    (refine op_move ?_; exact ⟨[], rfl, rfl, rfl⟩)
  · rintro _ _ ⟨rfl, rfl⟩ -
    simp only [with2, Step2, nthDst, putO]
    (refine op_call ((intsX _ v0 _ (hv.mono fun e he => hG e (ins e he)) (by intro h; rw [h] at hl; cases hl) (by omega)).mono ?_); rintro _ _ ⟨k, cap, sp, rfl, rfl⟩; exact ⟨[_], rfl, k, cap, sp, by rw [hl], rfl⟩)
  rintro _ _ _ _ _ _ ⟨⟨kq, cap, sp, rfl, rfl⟩, ⟨rfl, rfl⟩, ⟨rfl, rfl⟩, _⟩
  simp only [List.nil_append, List.cons_append, List.append_nil, List.drop_succ_cons, List.drop_zero, nthDst, putO]
  repeat' first
    | (refine op_mid kq ?_; refine op_call ((pos4 ord kq cap _ v0 sp _ h2 hl hbel).mono ?_); rintro _ _ ⟨rfl, rfl⟩)
    | (first | refine tl_defer ?_ | refine tc_seq ?_ | refine tc_region ?_ | refine at_seq_normal ?_ | refine tl_nil ?_ | refine tl_cons ?_ | refine tl_cons_none ?_ | refine op_move ?_ | refine op_assign ?_ | refine op_fieldAddr ?_ | refine op_load ?_ | refine op_load_agg ?_ | refine op_indexC ?_ | refine op_indexAddr1 ?_ | refine op_indexAddr ?_ | refine op_icmp ?_ | refine op_fcmp ?_ | refine op_iarith ?_ | refine op_bcmp ?_ | refine op_unop_not ?_ | refine op_unop_neg_float ?_ | refine op_unop_neg_int ?_ | refine op_len_slice ?_ | refine op_pick_true ?_ | refine op_pick_false ?_ | refine op_pick_true' ?_ | refine op_pick_false' ?_ | refine op_build ?_ | refine op_extract ?_ | refine op_makeInterface ?_ | refine op_typeAssert ?_ | refine op_ptr_nil ?_ | refine op_nilCheck_ptr ?_ | refine op_nilCheck_meth ?_ | refine op_makeMeth ?_ | refine op_makeFunc ?_ | refine op_itof ?_ | refine op_itoi ?_ | refine op_ftoi ?_ | refine op_iquo ?_ | refine op_irem ?_ | refine op_ibits ?_ | refine op_slice_isnil ?_ | refine op_slice_notnil ?_ | refine op_imax ?_ | refine op_imin ?_ | refine op_shl ?_ | refine op_shr ?_ | (refine op_alloc ?_; intro _) | (refine op_box ?_; intro _) | (refine op_buildSlice ?_; intro _) | (refine op_farith ?_; intro _ _) | refine op_store0 ?_ | refine op_store1 ?_ | refine op_store2 ?_ | refine op_store3 ?_ | refine op_store4 ?_ | refine op_store5 ?_ | refine op_storeK rfl ?_ | refine op_loadK rfl ?_ | refine op_load_aggK rfl ?_ | refine tc_cond_t ?_ | refine tc_cond_f ?_ | refine tc_cond (fun _ => ?_) (fun _ => ?_) | refine tc_block ?_ | refine tc_skip ?_ | refine tc_ret ?_ | refine tc_exit ?_ | refine tc_label ?_ | refine at_seq_ret ?_ | refine at_seq_exit ?_ | refine at_block_normal ?_ | refine at_block_ret ?_ | refine at_block_exit_self ?_ | refine at_block_exit_ne ?_ | refine at_loop_ret ?_ | refine at_loop_exit ?_ | refine at_loop_goto ?_ | refine tl_guard_yes ?_ | refine tl_guard_no ?_ | refine tl_guard_yes' ?_ | refine tl_guard_no' ?_ | refine tl_guard_undef ?_ | refine tl_guard_split (fun _ => ?_) (fun _ => ?_))
    | fail
  refine ret_door (m := 2) rfl rfl (.cons (rv_cell rfl) (.cons (rv_cell rfl) .nil)) rfl (List.Sublist.refl _) ?_
  exact ⟨rfl, ExC.ex⟩
end Go.Proofs.YtjalgjeibnjinaaDoor.Hil
