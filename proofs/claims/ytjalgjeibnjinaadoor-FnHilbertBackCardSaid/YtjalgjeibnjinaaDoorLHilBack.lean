/-
  FnHilbertBack: at the position of any place of the cube a Hilbert curve is at that place, and the position is one of the curve's. The tied card, of the first form. No conditions beyond the statement's own.
-/
import Derived.Test.YtjalgjeibnjinaaDoorCards
import Derived.Test.YtjalgjeibnjinaaDoorTie
import Derived.Test.YtjalgjeibnjinaaDoorLg5
import Derived.Test.YtjalgjeibnjinaaDoorHil7
import Derived.Test.YtjalgjeibnjinaaDoorHil8
import Derived.Deep.DeepHandedRow
import Derived.LaidMore
set_option linter.unusedVariables false
set_option linter.unusedSimpArgs false
namespace Go.Proofs.YtjalgjeibnjinaaDoor.fnHilbertBack
open Go.Lg Go.Proofs.YtjalgjeibnjinaaDoor.Hil
open Go.ChangeShapes Go.WideShapes Go.ChangeAt Go.RowKit

theorem nats_of {n : Nat} {xs : List Int} (h : ∀ x ∈ xs, 0 ≤ x ∧ x < 2 ^ n) : ∃ v0 : List Nat, xs = toI v0 ∧ Below n v0 := by
  refine ⟨xs.map Int.toNat, ?_, ?_⟩
  · unfold toI
    rw [List.map_map]
    refine (List.map_id _).symm.trans (List.map_congr_left fun x hx => ?_)
    have := (h x hx).1
    simp only [id_eq, Function.comp]
    omega
  · intro y hy
    obtain ⟨x, hx, rfl⟩ := List.mem_map.1 hy
    have h1 := h x hx
    have hp : ((2 ^ n : Nat) : Int) = 2 ^ n := by push_cast; rfl
    omega
set_option maxHeartbeats 16000000 in
theorem law2 {H : Heap} (n : Nat) (a : Option Addr) (c : Nat) (v0 : List Nat) (h1 : 1 ≤ n) (h2 : n ≤ 31) (hlen : v0.length = 2) (hbel : Below n v0) (hcell : cellP 2 n (toI v0)) (hv : IS H (.slice a v0.length c) (toI v0)) :
    Does Tryd.prog 4 [.int .i64 2, .int .i64 (n : Int), .slice a v0.length c] H fun w H' => w = .bool true ∧ H' = H := by
  have hd : decide (cellP 2 n (toI v0)) = true := decide_eq_true hcell
  have hc : icmp .gtr (v0.length : Int) 2147483647 = false := by simp only [icmp, decide_eq_false_iff_not]; omega
  have htl : (toI v0).length < 2 ^ 40 := by rw [toI_len]; omega
  have hpl := pos_lt (D := 2) (rot := rot2) (ord := n) hlen
  have hbk := back (D := 2) (rot := rot2) (ord := n) hlen hbel
  have h63 : 2 ^ (2 * n) < 2 ^ 63 := Nat.pow_lt_pow_right (by decide) (by omega)
  have hmul : IntKind.i64.wrap (iarith .mul 2 (n : Int)) = ((2 * n : Nat) : Int) := wrap_mulN (i := 2) (s := n) (by omega)
  have hshl : IntKind.i64.wrap (1 * 2 ^ min (Int.toNat ((2 * n : Nat) : Int)) IntKind.i64.bits) = ((2 ^ (2 * n) : Nat) : Int) := by
    have := shl_nat (a := 1) (n := 2 * n) (by omega) (by omega)
    rw [Nat.one_mul] at this; exact this
  generalize hP : (pst 2 rot2 n v0 n).2 = P at hpl hbk
  have c1 : icmp .lss (P : Int) 0 = false := by simp only [icmp, decide_eq_false_iff_not]; omega
  have c2 : icmp .geq (P : Int) ((2 ^ (2 * n) : Nat) : Int) = false := by simp only [icmp, decide_eq_false_iff_not]; omega
  have hne : v0 ≠ [] := by intro h; rw [h] at hlen; cases hlen
  have ht := IS.toN hv
  rw [toI_len, toI_iv] at ht
  refine fn_enter 55 Tryd.func4 fun W => ?_
  repeat' first
    | (refine op_call ((cell 2 n _ _ _ hv htl).mono ?_); rintro _ _ ⟨rfl, rfl⟩; rw [hd])
    | (refine op_buildSlice0 (fun kb => ?_))
    | (first | refine tl_defer ?_ | refine tc_seq ?_ | refine tc_region ?_ | refine at_seq_normal ?_ | refine tl_nil ?_ | refine tl_cons ?_ | refine tl_cons_none ?_ | refine op_move ?_ | refine op_assign ?_ | refine op_fieldAddr ?_ | refine op_load ?_ | refine op_load_agg ?_ | refine op_indexC ?_ | refine op_indexAddr1 ?_ | refine op_indexAddr ?_ | refine op_icmp ?_ | refine op_fcmp ?_ | refine op_iarith ?_ | refine op_bcmp ?_ | refine op_unop_not ?_ | refine op_unop_neg_float ?_ | refine op_unop_neg_int ?_ | refine op_len_slice ?_ | refine op_pick_true ?_ | refine op_pick_false ?_ | refine op_pick_true' ?_ | refine op_pick_false' ?_ | refine op_build ?_ | refine op_extract ?_ | refine op_makeInterface ?_ | refine op_typeAssert ?_ | refine op_ptr_nil ?_ | refine op_nilCheck_ptr ?_ | refine op_nilCheck_meth ?_ | refine op_makeMeth ?_ | refine op_makeFunc ?_ | refine op_itof ?_ | refine op_itoi ?_ | refine op_ftoi ?_ | refine op_iquo ?_ | refine op_irem ?_ | refine op_ibits ?_ | refine op_slice_isnil ?_ | refine op_slice_notnil ?_ | refine op_imax ?_ | refine op_imin ?_ | refine op_shl ?_ | refine op_shr ?_ | (refine op_alloc ?_; intro _) | (refine op_box ?_; intro _) | (refine op_buildSlice ?_; intro _) | (refine op_farith ?_; intro _ _) | refine op_store0 ?_ | refine op_store1 ?_ | refine op_store2 ?_ | refine op_store3 ?_ | refine op_store4 ?_ | refine op_store5 ?_ | refine op_storeK rfl ?_ | refine op_loadK rfl ?_ | refine op_load_aggK rfl ?_ | refine tc_cond_t ?_ | refine tc_cond_f ?_ | refine tc_cond (fun _ => ?_) (fun _ => ?_) | refine tc_block ?_ | refine tc_skip ?_ | refine tc_ret ?_ | refine tc_exit ?_ | refine tc_label ?_ | refine at_seq_ret ?_ | refine at_seq_exit ?_ | refine at_block_normal ?_ | refine at_block_ret ?_ | refine at_block_exit_self ?_ | refine at_block_exit_ne ?_ | refine at_loop_ret ?_ | refine at_loop_exit ?_ | refine at_loop_goto ?_ | refine tl_guard_yes ?_ | refine tl_guard_no ?_ | refine tl_guard_yes' ?_ | refine tl_guard_no' ?_ | refine tl_guard_undef ?_ | refine tl_guard_split (fun _ => ?_) (fun _ => ?_))
    | (refine op_appendS (some (kb, 0, [])) 0 [] (v0.map nv) (m := v0.length) ⟨Nat.le_refl _, Nat.zero_le _, rfl, rfl⟩ (fun buf' hok' _ => ?_) (ht.mono ins) (by exact rfl) (by exact rfl) (List.Sublist.refl _) (by rw [← toI_iv]; exact oneCell_iv _) (by simp only [maxLen]; omega) (by omega))
    | fail
  match buf', hok' with
  | none, hok' => exact absurd (List.map_eq_nil_iff.1 hok'.2) hne
  | some (k', cap', sp'), hok' =>
  obtain ⟨hk1, hk2, hk3, hk4⟩ := hok'
  simp only [Nat.zero_add, List.nil_append] at hk1 ⊢
  repeat' first
    | (refine op_call ((hpos2 n (.slice (some ⟨k', 0, none⟩) v0.length cap') v0 h1 h2 hlen hbel _ (is_of rfl hk1 mem0)).mono ?_); rintro _ _ ⟨rfl, ex1, rfl⟩; rw [hP])
    | (refine op_iarith ?_; rw [hmul])
    | (refine op_shl (v := ((2 * n : Nat) : Int)) ?_; rw [hshl])
    | (refine op_call ((hcoord2 n P h1 h2 hpl _).mono ?_); rintro _ _ ⟨kr, Tr, ex2, rfl, rfl, hr⟩; rw [hbk] at hr)
    | (refine op_call ((sameInts _ _ (toI v0) _ ((is_of hlen (Nat.le_refl _) hr).mono ins) (hv.mono ins) htl).mono ?_); rintro _ _ ⟨rfl, rfl⟩)
    | (first | refine tl_defer ?_ | refine tc_seq ?_ | refine tc_region ?_ | refine at_seq_normal ?_ | refine tl_nil ?_ | refine tl_cons ?_ | refine tl_cons_none ?_ | refine op_move ?_ | refine op_assign ?_ | refine op_fieldAddr ?_ | refine op_load ?_ | refine op_load_agg ?_ | refine op_indexC ?_ | refine op_indexAddr1 ?_ | refine op_indexAddr ?_ | refine op_icmp ?_ | refine op_fcmp ?_ | refine op_iarith ?_ | refine op_bcmp ?_ | refine op_unop_not ?_ | refine op_unop_neg_float ?_ | refine op_unop_neg_int ?_ | refine op_len_slice ?_ | refine op_pick_true ?_ | refine op_pick_false ?_ | refine op_pick_true' ?_ | refine op_pick_false' ?_ | refine op_build ?_ | refine op_extract ?_ | refine op_makeInterface ?_ | refine op_typeAssert ?_ | refine op_ptr_nil ?_ | refine op_nilCheck_ptr ?_ | refine op_nilCheck_meth ?_ | refine op_makeMeth ?_ | refine op_makeFunc ?_ | refine op_itof ?_ | refine op_itoi ?_ | refine op_ftoi ?_ | refine op_iquo ?_ | refine op_irem ?_ | refine op_ibits ?_ | refine op_slice_isnil ?_ | refine op_slice_notnil ?_ | refine op_imax ?_ | refine op_imin ?_ | refine op_shl ?_ | refine op_shr ?_ | (refine op_alloc ?_; intro _) | (refine op_box ?_; intro _) | (refine op_buildSlice ?_; intro _) | (refine op_farith ?_; intro _ _) | refine op_store0 ?_ | refine op_store1 ?_ | refine op_store2 ?_ | refine op_store3 ?_ | refine op_store4 ?_ | refine op_store5 ?_ | refine op_storeK rfl ?_ | refine op_loadK rfl ?_ | refine op_load_aggK rfl ?_ | refine tc_cond_t ?_ | refine tc_cond_f ?_ | refine tc_cond (fun _ => ?_) (fun _ => ?_) | refine tc_block ?_ | refine tc_skip ?_ | refine tc_ret ?_ | refine tc_exit ?_ | refine tc_label ?_ | refine at_seq_ret ?_ | refine at_seq_exit ?_ | refine at_block_normal ?_ | refine at_block_ret ?_ | refine at_block_exit_self ?_ | refine at_block_exit_ne ?_ | refine at_loop_ret ?_ | refine at_loop_exit ?_ | refine at_loop_goto ?_ | refine tl_guard_yes ?_ | refine tl_guard_no ?_ | refine tl_guard_yes' ?_ | refine tl_guard_no' ?_ | refine tl_guard_undef ?_ | refine tl_guard_split (fun _ => ?_) (fun _ => ?_))
    | fail
  exact ret_tmp (hG := by (repeat (first | exact List.Sublist.refl _ | apply List.Sublist.cons_cons | apply List.Sublist.cons | refine List.Sublist.trans ?_ (List.sublist_append_right _ _)))) (hk := ⟨rfl, rfl⟩)
set_option maxHeartbeats 16000000 in
theorem law3 {H : Heap} (n : Nat) (a : Option Addr) (c : Nat) (v0 : List Nat) (h1 : 1 ≤ n) (h2 : n ≤ 20) (hlen : v0.length = 3) (hbel : Below n v0) (hcell : cellP 3 n (toI v0)) (hv : IS H (.slice a v0.length c) (toI v0)) :
    Does Tryd.prog 4 [.int .i64 3, .int .i64 (n : Int), .slice a v0.length c] H fun w H' => w = .bool true ∧ H' = H := by
  have hd : decide (cellP 3 n (toI v0)) = true := decide_eq_true hcell
  have hc : icmp .gtr (v0.length : Int) 2147483647 = false := by simp only [icmp, decide_eq_false_iff_not]; omega
  have htl : (toI v0).length < 2 ^ 40 := by rw [toI_len]; omega
  have hpl := pos_lt (D := 3) (rot := rot3) (ord := n) hlen
  have hbk := back (D := 3) (rot := rot3) (ord := n) hlen hbel
  have h63 : 2 ^ (3 * n) < 2 ^ 63 := Nat.pow_lt_pow_right (by decide) (by omega)
  have hmul : IntKind.i64.wrap (iarith .mul 3 (n : Int)) = ((3 * n : Nat) : Int) := wrap_mulN (i := 3) (s := n) (by omega)
  have hshl : IntKind.i64.wrap (1 * 2 ^ min (Int.toNat ((3 * n : Nat) : Int)) IntKind.i64.bits) = ((2 ^ (3 * n) : Nat) : Int) := by
    have := shl_nat (a := 1) (n := 3 * n) (by omega) (by omega)
    rw [Nat.one_mul] at this; exact this
  generalize hP : (pst 3 rot3 n v0 n).2 = P at hpl hbk
  have c1 : icmp .lss (P : Int) 0 = false := by simp only [icmp, decide_eq_false_iff_not]; omega
  have c2 : icmp .geq (P : Int) ((2 ^ (3 * n) : Nat) : Int) = false := by simp only [icmp, decide_eq_false_iff_not]; omega
  have hne : v0 ≠ [] := by intro h; rw [h] at hlen; cases hlen
  have ht := IS.toN hv
  rw [toI_len, toI_iv] at ht
  refine fn_enter 55 Tryd.func4 fun W => ?_
  repeat' first
    | (refine op_call ((cell 3 n _ _ _ hv htl).mono ?_); rintro _ _ ⟨rfl, rfl⟩; rw [hd])
    | (refine op_buildSlice0 (fun kb => ?_))
    | (first | refine tl_defer ?_ | refine tc_seq ?_ | refine tc_region ?_ | refine at_seq_normal ?_ | refine tl_nil ?_ | refine tl_cons ?_ | refine tl_cons_none ?_ | refine op_move ?_ | refine op_assign ?_ | refine op_fieldAddr ?_ | refine op_load ?_ | refine op_load_agg ?_ | refine op_indexC ?_ | refine op_indexAddr1 ?_ | refine op_indexAddr ?_ | refine op_icmp ?_ | refine op_fcmp ?_ | refine op_iarith ?_ | refine op_bcmp ?_ | refine op_unop_not ?_ | refine op_unop_neg_float ?_ | refine op_unop_neg_int ?_ | refine op_len_slice ?_ | refine op_pick_true ?_ | refine op_pick_false ?_ | refine op_pick_true' ?_ | refine op_pick_false' ?_ | refine op_build ?_ | refine op_extract ?_ | refine op_makeInterface ?_ | refine op_typeAssert ?_ | refine op_ptr_nil ?_ | refine op_nilCheck_ptr ?_ | refine op_nilCheck_meth ?_ | refine op_makeMeth ?_ | refine op_makeFunc ?_ | refine op_itof ?_ | refine op_itoi ?_ | refine op_ftoi ?_ | refine op_iquo ?_ | refine op_irem ?_ | refine op_ibits ?_ | refine op_slice_isnil ?_ | refine op_slice_notnil ?_ | refine op_imax ?_ | refine op_imin ?_ | refine op_shl ?_ | refine op_shr ?_ | (refine op_alloc ?_; intro _) | (refine op_box ?_; intro _) | (refine op_buildSlice ?_; intro _) | (refine op_farith ?_; intro _ _) | refine op_store0 ?_ | refine op_store1 ?_ | refine op_store2 ?_ | refine op_store3 ?_ | refine op_store4 ?_ | refine op_store5 ?_ | refine op_storeK rfl ?_ | refine op_loadK rfl ?_ | refine op_load_aggK rfl ?_ | refine tc_cond_t ?_ | refine tc_cond_f ?_ | refine tc_cond (fun _ => ?_) (fun _ => ?_) | refine tc_block ?_ | refine tc_skip ?_ | refine tc_ret ?_ | refine tc_exit ?_ | refine tc_label ?_ | refine at_seq_ret ?_ | refine at_seq_exit ?_ | refine at_block_normal ?_ | refine at_block_ret ?_ | refine at_block_exit_self ?_ | refine at_block_exit_ne ?_ | refine at_loop_ret ?_ | refine at_loop_exit ?_ | refine at_loop_goto ?_ | refine tl_guard_yes ?_ | refine tl_guard_no ?_ | refine tl_guard_yes' ?_ | refine tl_guard_no' ?_ | refine tl_guard_undef ?_ | refine tl_guard_split (fun _ => ?_) (fun _ => ?_))
    | (refine op_appendS (some (kb, 0, [])) 0 [] (v0.map nv) (m := v0.length) ⟨Nat.le_refl _, Nat.zero_le _, rfl, rfl⟩ (fun buf' hok' _ => ?_) (ht.mono ins) (by exact rfl) (by exact rfl) (List.Sublist.refl _) (by rw [← toI_iv]; exact oneCell_iv _) (by simp only [maxLen]; omega) (by omega))
    | fail
  match buf', hok' with
  | none, hok' => exact absurd (List.map_eq_nil_iff.1 hok'.2) hne
  | some (k', cap', sp'), hok' =>
  obtain ⟨hk1, hk2, hk3, hk4⟩ := hok'
  simp only [Nat.zero_add, List.nil_append] at hk1 ⊢
  repeat' first
    | (refine op_call ((hpos3 n (.slice (some ⟨k', 0, none⟩) v0.length cap') v0 h1 h2 hlen hbel _ (is_of rfl hk1 mem0)).mono ?_); rintro _ _ ⟨rfl, ex1, rfl⟩; rw [hP])
    | (refine op_iarith ?_; rw [hmul])
    | (refine op_shl (v := ((3 * n : Nat) : Int)) ?_; rw [hshl])
    | (refine op_call ((hcoord3 n P h1 h2 hpl _).mono ?_); rintro _ _ ⟨kr, Tr, ex2, rfl, rfl, hr⟩; rw [hbk] at hr)
    | (refine op_call ((sameInts _ _ (toI v0) _ ((is_of hlen (Nat.le_refl _) hr).mono ins) (hv.mono ins) htl).mono ?_); rintro _ _ ⟨rfl, rfl⟩)
    | (first | refine tl_defer ?_ | refine tc_seq ?_ | refine tc_region ?_ | refine at_seq_normal ?_ | refine tl_nil ?_ | refine tl_cons ?_ | refine tl_cons_none ?_ | refine op_move ?_ | refine op_assign ?_ | refine op_fieldAddr ?_ | refine op_load ?_ | refine op_load_agg ?_ | refine op_indexC ?_ | refine op_indexAddr1 ?_ | refine op_indexAddr ?_ | refine op_icmp ?_ | refine op_fcmp ?_ | refine op_iarith ?_ | refine op_bcmp ?_ | refine op_unop_not ?_ | refine op_unop_neg_float ?_ | refine op_unop_neg_int ?_ | refine op_len_slice ?_ | refine op_pick_true ?_ | refine op_pick_false ?_ | refine op_pick_true' ?_ | refine op_pick_false' ?_ | refine op_build ?_ | refine op_extract ?_ | refine op_makeInterface ?_ | refine op_typeAssert ?_ | refine op_ptr_nil ?_ | refine op_nilCheck_ptr ?_ | refine op_nilCheck_meth ?_ | refine op_makeMeth ?_ | refine op_makeFunc ?_ | refine op_itof ?_ | refine op_itoi ?_ | refine op_ftoi ?_ | refine op_iquo ?_ | refine op_irem ?_ | refine op_ibits ?_ | refine op_slice_isnil ?_ | refine op_slice_notnil ?_ | refine op_imax ?_ | refine op_imin ?_ | refine op_shl ?_ | refine op_shr ?_ | (refine op_alloc ?_; intro _) | (refine op_box ?_; intro _) | (refine op_buildSlice ?_; intro _) | (refine op_farith ?_; intro _ _) | refine op_store0 ?_ | refine op_store1 ?_ | refine op_store2 ?_ | refine op_store3 ?_ | refine op_store4 ?_ | refine op_store5 ?_ | refine op_storeK rfl ?_ | refine op_loadK rfl ?_ | refine op_load_aggK rfl ?_ | refine tc_cond_t ?_ | refine tc_cond_f ?_ | refine tc_cond (fun _ => ?_) (fun _ => ?_) | refine tc_block ?_ | refine tc_skip ?_ | refine tc_ret ?_ | refine tc_exit ?_ | refine tc_label ?_ | refine at_seq_ret ?_ | refine at_seq_exit ?_ | refine at_block_normal ?_ | refine at_block_ret ?_ | refine at_block_exit_self ?_ | refine at_block_exit_ne ?_ | refine at_loop_ret ?_ | refine at_loop_exit ?_ | refine at_loop_goto ?_ | refine tl_guard_yes ?_ | refine tl_guard_no ?_ | refine tl_guard_yes' ?_ | refine tl_guard_no' ?_ | refine tl_guard_undef ?_ | refine tl_guard_split (fun _ => ?_) (fun _ => ?_))
    | fail
  exact ret_tmp (hG := by (repeat (first | exact List.Sublist.refl _ | apply List.Sublist.cons_cons | apply List.Sublist.cons | refine List.Sublist.trans ?_ (List.sublist_append_right _ _)))) (hk := ⟨rfl, rfl⟩)
set_option maxHeartbeats 16000000 in
theorem law4 {H : Heap} (n : Nat) (a : Option Addr) (c : Nat) (v0 : List Nat) (h1 : 1 ≤ n) (h2 : n ≤ 15) (hlen : v0.length = 4) (hbel : Below n v0) (hcell : cellP 4 n (toI v0)) (hv : IS H (.slice a v0.length c) (toI v0)) :
    Does Tryd.prog 4 [.int .i64 4, .int .i64 (n : Int), .slice a v0.length c] H fun w H' => w = .bool true ∧ H' = H := by
  have hd : decide (cellP 4 n (toI v0)) = true := decide_eq_true hcell
  have hc : icmp .gtr (v0.length : Int) 2147483647 = false := by simp only [icmp, decide_eq_false_iff_not]; omega
  have htl : (toI v0).length < 2 ^ 40 := by rw [toI_len]; omega
  have hpl := pos_lt (D := 4) (rot := rot4) (ord := n) hlen
  have hbk := back (D := 4) (rot := rot4) (ord := n) hlen hbel
  have h63 : 2 ^ (4 * n) < 2 ^ 63 := Nat.pow_lt_pow_right (by decide) (by omega)
  have hmul : IntKind.i64.wrap (iarith .mul 4 (n : Int)) = ((4 * n : Nat) : Int) := wrap_mulN (i := 4) (s := n) (by omega)
  have hshl : IntKind.i64.wrap (1 * 2 ^ min (Int.toNat ((4 * n : Nat) : Int)) IntKind.i64.bits) = ((2 ^ (4 * n) : Nat) : Int) := by
    have := shl_nat (a := 1) (n := 4 * n) (by omega) (by omega)
    rw [Nat.one_mul] at this; exact this
  generalize hP : (pst 4 rot4 n v0 n).2 = P at hpl hbk
  have c1 : icmp .lss (P : Int) 0 = false := by simp only [icmp, decide_eq_false_iff_not]; omega
  have c2 : icmp .geq (P : Int) ((2 ^ (4 * n) : Nat) : Int) = false := by simp only [icmp, decide_eq_false_iff_not]; omega
  have hne : v0 ≠ [] := by intro h; rw [h] at hlen; cases hlen
  have ht := IS.toN hv
  rw [toI_len, toI_iv] at ht
  refine fn_enter 55 Tryd.func4 fun W => ?_
  repeat' first
    | (refine op_call ((cell 4 n _ _ _ hv htl).mono ?_); rintro _ _ ⟨rfl, rfl⟩; rw [hd])
    | (refine op_buildSlice0 (fun kb => ?_))
    | (first | refine tl_defer ?_ | refine tc_seq ?_ | refine tc_region ?_ | refine at_seq_normal ?_ | refine tl_nil ?_ | refine tl_cons ?_ | refine tl_cons_none ?_ | refine op_move ?_ | refine op_assign ?_ | refine op_fieldAddr ?_ | refine op_load ?_ | refine op_load_agg ?_ | refine op_indexC ?_ | refine op_indexAddr1 ?_ | refine op_indexAddr ?_ | refine op_icmp ?_ | refine op_fcmp ?_ | refine op_iarith ?_ | refine op_bcmp ?_ | refine op_unop_not ?_ | refine op_unop_neg_float ?_ | refine op_unop_neg_int ?_ | refine op_len_slice ?_ | refine op_pick_true ?_ | refine op_pick_false ?_ | refine op_pick_true' ?_ | refine op_pick_false' ?_ | refine op_build ?_ | refine op_extract ?_ | refine op_makeInterface ?_ | refine op_typeAssert ?_ | refine op_ptr_nil ?_ | refine op_nilCheck_ptr ?_ | refine op_nilCheck_meth ?_ | refine op_makeMeth ?_ | refine op_makeFunc ?_ | refine op_itof ?_ | refine op_itoi ?_ | refine op_ftoi ?_ | refine op_iquo ?_ | refine op_irem ?_ | refine op_ibits ?_ | refine op_slice_isnil ?_ | refine op_slice_notnil ?_ | refine op_imax ?_ | refine op_imin ?_ | refine op_shl ?_ | refine op_shr ?_ | (refine op_alloc ?_; intro _) | (refine op_box ?_; intro _) | (refine op_buildSlice ?_; intro _) | (refine op_farith ?_; intro _ _) | refine op_store0 ?_ | refine op_store1 ?_ | refine op_store2 ?_ | refine op_store3 ?_ | refine op_store4 ?_ | refine op_store5 ?_ | refine op_storeK rfl ?_ | refine op_loadK rfl ?_ | refine op_load_aggK rfl ?_ | refine tc_cond_t ?_ | refine tc_cond_f ?_ | refine tc_cond (fun _ => ?_) (fun _ => ?_) | refine tc_block ?_ | refine tc_skip ?_ | refine tc_ret ?_ | refine tc_exit ?_ | refine tc_label ?_ | refine at_seq_ret ?_ | refine at_seq_exit ?_ | refine at_block_normal ?_ | refine at_block_ret ?_ | refine at_block_exit_self ?_ | refine at_block_exit_ne ?_ | refine at_loop_ret ?_ | refine at_loop_exit ?_ | refine at_loop_goto ?_ | refine tl_guard_yes ?_ | refine tl_guard_no ?_ | refine tl_guard_yes' ?_ | refine tl_guard_no' ?_ | refine tl_guard_undef ?_ | refine tl_guard_split (fun _ => ?_) (fun _ => ?_))
    | (refine op_appendS (some (kb, 0, [])) 0 [] (v0.map nv) (m := v0.length) ⟨Nat.le_refl _, Nat.zero_le _, rfl, rfl⟩ (fun buf' hok' _ => ?_) (ht.mono ins) (by exact rfl) (by exact rfl) (List.Sublist.refl _) (by rw [← toI_iv]; exact oneCell_iv _) (by simp only [maxLen]; omega) (by omega))
    | fail
  match buf', hok' with
  | none, hok' => exact absurd (List.map_eq_nil_iff.1 hok'.2) hne
  | some (k', cap', sp'), hok' =>
  obtain ⟨hk1, hk2, hk3, hk4⟩ := hok'
  simp only [Nat.zero_add, List.nil_append] at hk1 ⊢
  repeat' first
    | (refine op_call ((hpos4 n (.slice (some ⟨k', 0, none⟩) v0.length cap') v0 h1 h2 hlen hbel _ (is_of rfl hk1 mem0)).mono ?_); rintro _ _ ⟨rfl, ex1, rfl⟩; rw [hP])
    | (refine op_iarith ?_; rw [hmul])
    | (refine op_shl (v := ((4 * n : Nat) : Int)) ?_; rw [hshl])
    | (refine op_call ((hcoord4 n P h1 h2 hpl _).mono ?_); rintro _ _ ⟨kr, Tr, ex2, rfl, rfl, hr⟩; rw [hbk] at hr)
    | (refine op_call ((sameInts _ _ (toI v0) _ ((is_of hlen (Nat.le_refl _) hr).mono ins) (hv.mono ins) htl).mono ?_); rintro _ _ ⟨rfl, rfl⟩)
    | (first | refine tl_defer ?_ | refine tc_seq ?_ | refine tc_region ?_ | refine at_seq_normal ?_ | refine tl_nil ?_ | refine tl_cons ?_ | refine tl_cons_none ?_ | refine op_move ?_ | refine op_assign ?_ | refine op_fieldAddr ?_ | refine op_load ?_ | refine op_load_agg ?_ | refine op_indexC ?_ | refine op_indexAddr1 ?_ | refine op_indexAddr ?_ | refine op_icmp ?_ | refine op_fcmp ?_ | refine op_iarith ?_ | refine op_bcmp ?_ | refine op_unop_not ?_ | refine op_unop_neg_float ?_ | refine op_unop_neg_int ?_ | refine op_len_slice ?_ | refine op_pick_true ?_ | refine op_pick_false ?_ | refine op_pick_true' ?_ | refine op_pick_false' ?_ | refine op_build ?_ | refine op_extract ?_ | refine op_makeInterface ?_ | refine op_typeAssert ?_ | refine op_ptr_nil ?_ | refine op_nilCheck_ptr ?_ | refine op_nilCheck_meth ?_ | refine op_makeMeth ?_ | refine op_makeFunc ?_ | refine op_itof ?_ | refine op_itoi ?_ | refine op_ftoi ?_ | refine op_iquo ?_ | refine op_irem ?_ | refine op_ibits ?_ | refine op_slice_isnil ?_ | refine op_slice_notnil ?_ | refine op_imax ?_ | refine op_imin ?_ | refine op_shl ?_ | refine op_shr ?_ | (refine op_alloc ?_; intro _) | (refine op_box ?_; intro _) | (refine op_buildSlice ?_; intro _) | (refine op_farith ?_; intro _ _) | refine op_store0 ?_ | refine op_store1 ?_ | refine op_store2 ?_ | refine op_store3 ?_ | refine op_store4 ?_ | refine op_store5 ?_ | refine op_storeK rfl ?_ | refine op_loadK rfl ?_ | refine op_load_aggK rfl ?_ | refine tc_cond_t ?_ | refine tc_cond_f ?_ | refine tc_cond (fun _ => ?_) (fun _ => ?_) | refine tc_block ?_ | refine tc_skip ?_ | refine tc_ret ?_ | refine tc_exit ?_ | refine tc_label ?_ | refine at_seq_ret ?_ | refine at_seq_exit ?_ | refine at_block_normal ?_ | refine at_block_ret ?_ | refine at_block_exit_self ?_ | refine at_block_exit_ne ?_ | refine at_loop_ret ?_ | refine at_loop_exit ?_ | refine at_loop_goto ?_ | refine tl_guard_yes ?_ | refine tl_guard_no ?_ | refine tl_guard_yes' ?_ | refine tl_guard_no' ?_ | refine tl_guard_undef ?_ | refine tl_guard_split (fun _ => ?_) (fun _ => ?_))
    | fail
  exact ret_tmp (hG := by (repeat (first | exact List.Sublist.refl _ | apply List.Sublist.cons_cons | apply List.Sublist.cons | refine List.Sublist.trans ?_ (List.sublist_append_right _ _)))) (hk := ⟨rfl, rfl⟩)
set_option maxHeartbeats 16000000 in
theorem law {H : Heap} (D : Int) (hD : -9223372036854775808 ≤ D ∧ D ≤ 9223372036854775807) (ord : Int) (ho : -9223372036854775808 ≤ ord ∧ ord ≤ 9223372036854775807) (v : Value) (xs : List Int) (hv : IS H v xs) (hl : xs.length ≤ 9223372036854775807) (hb : ∀ y ∈ xs, -9223372036854775808 ≤ y ∧ y ≤ 9223372036854775807) :
    Does Tryd.prog 4 [.int .i64 D, .int .i64 ord, v] H fun w H' => w = .bool true ∧ H' = H := by
  obtain ⟨a, c, rfl⟩ := hv.val
  by_cases hbig : xs.length > 2147483647
  · have hc : icmp .gtr (xs.length : Int) 2147483647 = true := by simp only [icmp, decide_eq_true_eq]; omega
    refine fn_enter 55 Tryd.func4 fun W => ?_
    repeat'
      first
        | refine tl_defer ?_ | refine tc_seq ?_ | refine tc_region ?_ | refine at_seq_normal ?_ | refine tl_nil ?_ | refine tl_cons ?_ | refine tl_cons_none ?_ | refine op_move ?_
        | refine op_assign ?_ | refine op_fieldAddr ?_ | refine op_load ?_ | refine op_load_agg ?_ | refine op_indexC ?_ | refine op_indexAddr1 ?_ | refine op_indexAddr ?_ | refine op_icmp ?_
        | refine op_fcmp ?_ | refine op_iarith ?_ | refine op_bcmp ?_ | refine op_unop_not ?_ | refine op_unop_neg_float ?_ | refine op_unop_neg_int ?_ | refine op_len_slice ?_ | refine op_pick_true ?_
        | refine op_pick_false ?_ | refine op_pick_true' ?_ | refine op_pick_false' ?_ | refine op_build ?_ | refine op_extract ?_ | refine op_makeInterface ?_ | refine op_typeAssert ?_ | refine op_ptr_nil ?_
        | refine op_nilCheck_ptr ?_ | refine op_nilCheck_meth ?_ | refine op_makeMeth ?_ | refine op_makeFunc ?_ | refine op_itof ?_ | refine op_itoi ?_ | refine op_ftoi ?_ | refine op_iquo ?_
        | refine op_irem ?_ | refine op_ibits ?_ | refine op_slice_isnil ?_ | refine op_slice_notnil ?_ | refine op_imax ?_ | refine op_imin ?_ | refine op_shl ?_ | refine op_shr ?_
        | (refine op_alloc ?_; intro _) | (refine op_box ?_; intro _) | (refine op_buildSlice ?_; intro _) | (refine op_farith ?_; intro _ _) | refine op_store0 ?_ | refine op_store1 ?_ | refine op_store2 ?_ | refine op_store3 ?_
        | refine op_store4 ?_ | refine op_store5 ?_ | refine tc_cond_t ?_ | refine tc_cond_f ?_ | refine tc_cond (fun _ => ?_) (fun _ => ?_) | refine tc_block ?_ | refine tc_skip ?_ | refine tc_ret ?_
        | refine tc_exit ?_ | refine tc_label ?_ | refine at_seq_ret ?_ | refine at_seq_exit ?_ | refine at_block_normal ?_ | refine at_block_ret ?_ | refine at_block_exit_self ?_ | refine at_block_exit_ne ?_
        | refine at_loop_ret ?_ | refine at_loop_exit ?_ | refine at_loop_goto ?_ | refine tl_guard_yes ?_ | refine tl_guard_no ?_ | refine tl_guard_yes' ?_ | refine tl_guard_no' ?_ | refine tl_guard_undef ?_
        | refine tl_guard_split (fun _ => ?_) (fun _ => ?_)
    exact ret_tmp (hk := ⟨rfl, rfl⟩)
  have hc : icmp .gtr (xs.length : Int) 2147483647 = false := by simp only [icmp, decide_eq_false_iff_not]; omega
  by_cases hcell : cellP D ord xs
  rotate_left
  · have hd : decide (cellP D ord xs) = false := decide_eq_false hcell
    refine fn_enter 55 Tryd.func4 fun W => ?_
    repeat' first
      | (refine op_call ((cell D ord _ xs _ hv (by omega)).mono ?_); rintro _ _ ⟨rfl, rfl⟩; rw [hd])
      | (first | refine tl_defer ?_ | refine tc_seq ?_ | refine tc_region ?_ | refine at_seq_normal ?_ | refine tl_nil ?_ | refine tl_cons ?_ | refine tl_cons_none ?_ | refine op_move ?_ | refine op_assign ?_ | refine op_fieldAddr ?_ | refine op_load ?_ | refine op_load_agg ?_ | refine op_indexC ?_ | refine op_indexAddr1 ?_ | refine op_indexAddr ?_ | refine op_icmp ?_ | refine op_fcmp ?_ | refine op_iarith ?_ | refine op_bcmp ?_ | refine op_unop_not ?_ | refine op_unop_neg_float ?_ | refine op_unop_neg_int ?_ | refine op_len_slice ?_ | refine op_pick_true ?_ | refine op_pick_false ?_ | refine op_pick_true' ?_ | refine op_pick_false' ?_ | refine op_build ?_ | refine op_extract ?_ | refine op_makeInterface ?_ | refine op_typeAssert ?_ | refine op_ptr_nil ?_ | refine op_nilCheck_ptr ?_ | refine op_nilCheck_meth ?_ | refine op_makeMeth ?_ | refine op_makeFunc ?_ | refine op_itof ?_ | refine op_itoi ?_ | refine op_ftoi ?_ | refine op_iquo ?_ | refine op_irem ?_ | refine op_ibits ?_ | refine op_slice_isnil ?_ | refine op_slice_notnil ?_ | refine op_imax ?_ | refine op_imin ?_ | refine op_shl ?_ | refine op_shr ?_ | (refine op_alloc ?_; intro _) | (refine op_box ?_; intro _) | (refine op_buildSlice ?_; intro _) | (refine op_farith ?_; intro _ _) | refine op_store0 ?_ | refine op_store1 ?_ | refine op_store2 ?_ | refine op_store3 ?_ | refine op_store4 ?_ | refine op_store5 ?_ | refine op_storeK rfl ?_ | refine op_loadK rfl ?_ | refine op_load_aggK rfl ?_ | refine tc_cond_t ?_ | refine tc_cond_f ?_ | refine tc_cond (fun _ => ?_) (fun _ => ?_) | refine tc_block ?_ | refine tc_skip ?_ | refine tc_ret ?_ | refine tc_exit ?_ | refine tc_label ?_ | refine at_seq_ret ?_ | refine at_seq_exit ?_ | refine at_block_normal ?_ | refine at_block_ret ?_ | refine at_block_exit_self ?_ | refine at_block_exit_ne ?_ | refine at_loop_ret ?_ | refine at_loop_exit ?_ | refine at_loop_goto ?_ | refine tl_guard_yes ?_ | refine tl_guard_no ?_ | refine tl_guard_yes' ?_ | refine tl_guard_no' ?_ | refine tl_guard_undef ?_ | refine tl_guard_split (fun _ => ?_) (fun _ => ?_))
      | fail
    exact ret_tmp (hk := ⟨rfl, rfl⟩)
  obtain ⟨hcv, hlen, hin⟩ := id hcell
  obtain ⟨n, rfl, hn1, hn2⟩ := hcv.nat
  rw [Int.toNat_natCast] at hin
  obtain ⟨v0, rfl, hbel⟩ := nats_of hin
  rw [toI_len] at hlen hc
  have hvl : (toI v0).length = v0.length := toI_len v0
  rw [hvl] at hv ⊢
  rcases hcv with ⟨rfl, _, hm⟩ | ⟨rfl, _, hm⟩ | ⟨rfl, _, hm⟩
  · exact law2 n a c v0 (by omega) (by omega) (by omega) hbel hcell hv
  · exact law3 n a c v0 (by omega) (by omega) (by omega) hbel hcell hv
  · exact law4 n a c v0 (by omega) (by omega) (by omega) hbel hcell hv
theorem own : ownKnob Tryd.prog.godebug = none := by kernel_rfl
theorem laid : laidOutB Tryd.prog = true := by kernel_rfl
noncomputable def laidWorld (os : Os) : World := World.doorLaid Tryd.prog 400 os
theorem laid_met (os : Os) : laidMet Tryd.prog Rows.fnHilbertBackRow.laid ((laidWorld os).forCall (fun _ _ => 0) ⟨#[], #[.int .i64 0, .int .i64 0, .slice none 0 0], []⟩).memory :=
  laidMet_of_run' 8 (by kernel_rfl) (by kernel_rfl)
theorem reads (os : Os) {H : Type} (enc : TypeId × Value → H) : ∃ places, DataW.whole enc Tryd.prog ((laidWorld os).forCall (fun _ _ => 0) ⟨#[], #[.int .i64 0, .int .i64 0, .slice none 0 0], []⟩).memory Tryd.f4.params.toList Rows.fnHilbertBackSpec.vars false (#[.int .i64 0, .int .i64 0, .slice none 0 0] : Array Value).toList 8 = some ([.lit (.int .i64 0), .lit (.int .i64 0), .nil], [], places) :=
  ⟨[], by kernel_rfl⟩
set_option maxRecDepth 100000 in
theorem lifted (os : Os) (started : os.Started) (H : Type) (enc : TypeId × Value → H) (F : Stop.Interp) :
    ReturnsInHanded {} Tryd.checked os 4 .any ((OpenSpec.ofChange Rows.fnHilbertBackSpec).preRow enc Tryd.prog Tryd.f4 Rows.fnHilbertBackRow.domain false Rows.fnHilbertBackRow.laid) (((OpenSpec.ofChange Rows.fnHilbertBackSpec).at F).post enc Tryd.prog Tryd.f4 false true false false) := by
  obtain ⟨places, hx⟩ := reads os enc
  refine returnsInHanded_of_row (C := Tryd.checked) (s := OpenSpec.ofChange Rows.fnHilbertBackSpec) own started (by kernel_rfl) Tryd.func4
    (witness_row_at (enc := enc) (C := Tryd.checked) false (laidWorld os) #[.int .i64 0, .int .i64 0, .slice none 0 0] rfl (by kernel_rfl) (by kernel_rfl) (by kernel_rfl)
      (OpenSpec.preRow_of_cond 8 hx (by kernel_rfl) (fun k hk => by cases hk) (by kernel_rfl) (laid_met os))) ?_
  intro W base args ds gs before hval0 hW _ _ hcond hL _ _
  have hval : ∀ (j : Nat) t v, Tryd.f4.params[j]? = some t → args[j]? = some v → Value.okWide Tryd.prog W .any base t v := hval0
  have hW' := hW
  obtain ⟨p, q, hA0, hV, rfl, hfz, hnd⟩ := hW'
  have hA : DataW.TrodAll enc Tryd.prog W 0 (fun _ => true) true Tryd.f4.params.toList args.toList ds p := hA0
  rw [Tryd.params4] at hA hval
  obtain ⟨v0, vs0, d0, ds0, p0, q0, hargs, rfl, rfl, h0, r0⟩ := trodAll_cons hA
  obtain ⟨v1, vs1, d1, ds1, p1, q1, rfl, rfl, rfl, h1, r1⟩ := trodAll_cons r0
  obtain ⟨v2, vs2, d2, ds2, p2, q2, rfl, rfl, rfl, h2, r2⟩ := trodAll_cons r1
  obtain ⟨rfl, rfl, rfl⟩ := trodAll_nil r2
  obtain rfl : args = #[v0, v1, v2] := by cases args; simp_all
  obtain ⟨rfl, rfl⟩ := trodVars_none hV
  obtain ⟨n0, rfl, rfl, rfl, wn0⟩ := open_int Tryd.underlying3 (hval 0 3 v0 rfl rfl) h0
  obtain ⟨n1, rfl, rfl, rfl, wn1⟩ := open_int Tryd.underlying3 (hval 1 3 v1 rfl rfl) h1
  obtain ⟨ns2, hs2, hl2, hb2⟩ := open_ints Tryd.underlying23 (by kernel_rfl) Tryd.underlying3 (hval 2 23 v2 rfl rfl) h2
  clear hA0 hval0
  refine (calls_of_does (law (H := all W) n0 (wf_i64 wn0) n1 (wf_i64 wn1) v2 ns2 hs2 hl2 hb2) (sees_all W)).mono fun e W' ⟨v, H', he, hs, hv, hH⟩ => ?_
  subst he
  subst hv
  subst hH
  exact ⟨_, rfl, post_law laid (of_decide_eq_true (by kernel_rfl)) rfl hW rfl rfl Tryd.underlying4 hs.below⟩
theorem said : Rows.FnHilbertBackSaid :=
  OpenClaim.holds_of_cond 4 Tryd.f4 rfl rfl rfl rfl rfl rfl rfl ⟨rfl, rfl, rfl, rfl, rfl⟩ rfl rfl rfl rfl rfl (by kernel_rfl) Tryd.func4 (by kernel_rfl)
    (of_decide_eq_true (by kernel_rfl)) (by unfold Func.isWrapper; first | (rw [if_pos (by decide +kernel)]; kernel_rfl) | (rw [if_neg (by decide +kernel)]; exact ⟨rfl, rfl⟩))
    (fun os started H enc _ F => by rw [OpenClaim.pre_eq_preRow]; exact lifted os started H enc F)
theorem plain (f : FuncId) (fn : Func) (hf : Tryd.pinned.checked.prog.funcNamed "pub-orthodrome/laws.FnHilbertBack" = some f) (hfn : Tryd.pinned.checked.prog.funcs[f]? = some fn) :
    true = Tryd.pinned.checked.prog.looks [] ∧ ∀ (j : Nat) t, fn.params[j]? = some t → Tryd.pinned.checked.prog.wantsStandIn t = false := by
  obtain rfl : f = 4 := Option.some.inj ((show Tryd.prog.funcNamed "pub-orthodrome/laws.FnHilbertBack" = some 4 by kernel_rfl).symm.trans hf) |>.symm
  obtain rfl : fn = Tryd.f4 := (Option.some.inj (Tryd.func4.symm.trans hfn)).symm
  refine ⟨by kernel_rfl, fun j t ht => ?_⟩
  rw [Tryd.params4] at ht
  have hm := Array.mem_of_getElem? ht
  simp only [List.mem_toArray, List.mem_cons, List.not_mem_nil, or_false] at hm
  rcases hm with rfl | rfl | rfl
  · exact (show Tryd.prog.wantsStandIn 3 = false by kernel_rfl)
  · exact (show Tryd.prog.wantsStandIn 3 = false by kernel_rfl)
  · exact (show Tryd.prog.wantsStandIn 23 = false by kernel_rfl)
/-- The card. -/
theorem proved : Rows.FnHilbertBackCardSaid :=
  Claim7.holds_tied_plain_at .later [] _ _ _ _ said (fun _ h => by cases h) (by kernel_rfl) (fun _ h => by cases h) fnHilbertBack_row_tie rfl ⟨rfl, rfl⟩ (by kernel_rfl) rfl plain (by kernel_rfl)
#print axioms proved
end Go.Proofs.YtjalgjeibnjinaaDoor.fnHilbertBack
