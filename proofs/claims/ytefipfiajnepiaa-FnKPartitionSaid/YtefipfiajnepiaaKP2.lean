/-
  Partition of a list of numbers, and by way of the thin package. No conditions.
-/
import Derived.Test.YtefipfiajnepiaaKP
set_option linter.unusedVariables false
set_option linter.unusedSimpArgs false
namespace Go.Proofs.Ytefipfiajnepiaa.Ord
open Go.Lg Go.Proofs.Ytefipfiajnepiaa.Flat

/-- Parted at a place. -/
def Parted (ys : List Nat) (k : Nat) : Prop := k < ys.length ∧ (∀ t, t < k → val (ys.getD t 0) ≤ val (ys.getD k 0)) ∧ (∀ t, k < t → t < ys.length → val (ys.getD k 0) < val (ys.getD t 0))

set_option maxHeartbeats 8000000 in
theorem partition (kb cap : Nat) (xs : List Nat) (sp : List Value) (T : TypeId) (p : Nat) (H : Heap) (hp : p < xs.length) (hf : ∀ x ∈ xs, Fin' x) (hb : xs.length < 2 ^ 40) :
    Does Try.prog 32 [.iface 69 (.slice (some ⟨kb, 0, none⟩) xs.length cap), .int .i64 (p : Int)] ((kb, .cells ⟨xs.map fl ++ sp⟩ T (0, 0)) :: H)
      fun w H' => ∃ ys k, w = .int .i64 ((k : Nat) : Int) ∧ H' = (kb, .cells ⟨ys.map fl ++ sp⟩ T (0, 0)) :: H ∧ List.Perm ys xs ∧ Parted ys k ∧ ys.getD k 0 = xs.getD p 0 := by
  obtain ⟨last, hlast⟩ : ∃ l, xs.length = l + 1 := ⟨xs.length - 1, by omega⟩
  have hw0 : IntKind.i64.wrap (iarith .sub (xs.length : Int) 1) = ((last : Nat) : Int) := by rw [wrap_sub (by omega) (by omega)]; omega
  have hneg : icmp .lss (IntKind.i64.wrap (iarith .sub (xs.length : Int) 1)) 0 = false := by rw [hw0]; simp only [icmp, decide_eq_false_iff_not]; omega
  have hls : last < xs.length := by omega
  have hsl := swp_len xs p last
  have hsp := swp_perm hp hls
  have hsk : (swp xs p last).getD last 0 = xs.getD p 0 := by rw [swp_get hp hls, if_pos rfl]
  have hswap : ∀ (zs : List Nat) (hz : zs.length = xs.length) (a b : Nat), a < xs.length → b < xs.length → Does Try.prog 99 [.slice (some ⟨kb, 0, none⟩) xs.length cap, .int .i64 (a : Int), .int .i64 (b : Int)] ((kb, .cells ⟨zs.map fl ++ sp⟩ T (0, 0)) :: H)
      fun w H' => w = .tuple #[] ∧ H' = (kb, .cells ⟨(swp zs a b).map fl ++ sp⟩ T (0, 0)) :: H := fun zs hz a b ha hb => by
    rw [← hz] at ha hb ⊢; exact swapF kb cap zs sp T a b H ha hb
  have hless : ∀ (zs : List Nat) (hz : zs.length = xs.length) (hf : ∀ x ∈ zs, Fin' x) (a b : Nat), a < xs.length → b < xs.length → Does Try.prog 97 [.slice (some ⟨kb, 0, none⟩) xs.length cap, .int .i64 (a : Int), .int .i64 (b : Int)] ((kb, .cells ⟨zs.map fl ++ sp⟩ T (0, 0)) :: H)
      fun w H' => w = .bool (decide (val (zs.getD a 0) < val (zs.getD b 0))) ∧ H' = (kb, .cells ⟨zs.map fl ++ sp⟩ T (0, 0)) :: H := fun zs hz hf a b ha hb => by
    rw [← hz] at ha hb ⊢; exact lessF kb cap zs sp T a b H ha hb hf
  refine fn_enter 38 Try.func32 fun W => ?_
  repeat' first
    | (first | refine tl_defer ?_ | refine tc_seq ?_ | refine tc_region ?_ | refine at_seq_normal ?_ | refine tl_nil ?_ | refine tl_cons ?_ | refine tl_cons_none ?_ | refine op_move ?_ | refine op_assign ?_ | refine op_fieldAddr ?_ | refine op_load ?_ | refine op_load_agg ?_ | refine op_indexC ?_ | refine op_indexAddr1 ?_ | refine op_indexAddr ?_ | refine op_icmp ?_ | refine op_fcmp ?_ | refine op_iarith ?_ | refine op_bcmp ?_ | refine op_unop_not ?_ | refine op_unop_neg_float ?_ | refine op_unop_neg_int ?_ | refine op_len_slice ?_ | refine op_pick_true ?_ | refine op_pick_false ?_ | refine op_pick_true' ?_ | refine op_pick_false' ?_ | refine op_build ?_ | refine op_extract ?_ | refine op_makeInterface ?_ | refine op_typeAssert ?_ | refine op_ptr_nil ?_ | refine op_nilCheck_ptr ?_ | refine op_nilCheck_meth ?_ | refine op_makeMeth ?_ | refine op_makeFunc ?_ | refine op_itof ?_ | refine op_itoi ?_ | refine op_ftoi ?_ | refine op_iquo ?_ | refine op_irem ?_ | refine op_ibits ?_ | refine op_slice_isnil ?_ | refine op_slice_notnil ?_ | refine op_imax ?_ | refine op_imin ?_ | refine op_shl ?_ | refine op_shr ?_ | (refine op_alloc ?_; intro _) | (refine op_box ?_; intro _) | (refine op_buildSlice ?_; intro _) | (refine op_farith ?_; intro _ _) | refine op_store0 ?_ | refine op_store1 ?_ | refine op_store2 ?_ | refine op_store3 ?_ | refine op_store4 ?_ | refine op_store5 ?_ | refine tc_cond_t ?_ | refine tc_cond_f ?_ | refine tc_cond (fun _ => ?_) (fun _ => ?_) | refine tc_block ?_ | refine tc_skip ?_ | refine tc_ret ?_ | refine tc_exit ?_ | refine tc_label ?_ | refine at_seq_ret ?_ | refine at_seq_exit ?_ | refine at_block_normal ?_ | refine at_block_ret ?_ | refine at_block_exit_self ?_ | refine at_block_exit_ne ?_ | refine at_loop_ret ?_ | refine at_loop_exit ?_ | refine at_loop_goto ?_ | refine tl_guard_yes ?_ | refine tl_guard_no ?_ | refine tl_guard_yes' ?_ | refine tl_guard_no' ?_ | refine tl_guard_undef ?_ | refine tl_guard_split (fun _ => ?_) (fun _ => ?_))
    | (refine op_invoke ((lenF _ _ _ _).mono ?_); rintro _ _ ⟨rfl, rfl⟩)
    | (refine op_invoke ((hswap xs rfl p last hp hls).mono ?_) (hv := by rw [hw0]; exact rfl); rintro _ _ ⟨rfl, rfl⟩)
  refine tc_loopK [(0, _), (4, _), (6, _)] (by repeat (first | exact trivial | refine ⟨rfl, ?_⟩)) (fun q : Nat × Nat × List Nat => [(7, .int .i64 (q.1 : Int)), (5, .int .i64 (q.2.1 : Int))]) (fun q => (kb, Obj.cells ⟨q.2.2.map fl ++ sp⟩ T (0, 0)) :: H)
    (fun q => q.1 ≤ last ∧ q.2.1 ≤ q.1 ∧ q.2.2.length = xs.length ∧ List.Perm q.2.2 xs ∧ q.2.2.getD last 0 = xs.getD p 0 ∧ (∀ t, t < q.2.1 → val (q.2.2.getD t 0) ≤ val (xs.getD p 0)) ∧ (∀ t, q.2.1 ≤ t → t < q.1 → val (xs.getD p 0) < val (q.2.2.getD t 0))) (fun q => last - q.1)
    (0, 0, swp xs p last) ⟨Nat.zero_le _, Nat.le_refl _, hsl, hsp, hsk, fun t h => absurd h (Nat.not_lt_zero _), fun t _ h => absurd h (Nat.not_lt_zero _)⟩ ⟨rfl, rfl, trivial⟩ (List.Sublist.refl _) ?_
  rintro ⟨i, k, zs⟩ ⟨h1, h2, h3, h4, h5, h6, h7⟩
  simp only at h1 h2 h3 h4 h5 h6 h7 ⊢
  have hfz : ∀ x ∈ zs, Fin' x := fun x hx => hf x (h4.subset hx)
  by_cases hlt : i < last
  · have hbb : icmp .lss (i : Int) (IntKind.i64.wrap (iarith .sub (xs.length : Int) 1)) = true := by rw [hw0, lss_nat]; simpa using hlt
    have hl := hless zs h3 hfz last i hls (by omega)
    have hs := hswap zs h3 k i (by omega) (by omega)
    have e1 := swp_len zs k i
    have e2 := swp_perm (zs := zs) (p := k) (q := i) (by omega) (by omega)
    have e3 := swp_get (zs := zs) (p := k) (q := i) (by omega) (by omega)
    generalize hyz : swp zs k i = yz at hs e1 e2 e3
    by_cases hc : val (zs.getD last 0) < val (zs.getD i 0)
    · have hcb : (!decide (val (zs.getD last 0) < val (zs.getD i 0))) = false := by simpa using hc
      repeat' first
        | (first | refine tl_defer ?_ | refine tc_seq ?_ | refine tc_region ?_ | refine at_seq_normal ?_ | refine tl_nil ?_ | refine tl_cons ?_ | refine tl_cons_none ?_ | refine op_move ?_ | refine op_assign ?_ | refine op_fieldAddr ?_ | refine op_load ?_ | refine op_load_agg ?_ | refine op_indexC ?_ | refine op_indexAddr1 ?_ | refine op_indexAddr ?_ | refine op_icmp ?_ | refine op_fcmp ?_ | refine op_iarith ?_ | refine op_bcmp ?_ | refine op_unop_not ?_ | refine op_unop_neg_float ?_ | refine op_unop_neg_int ?_ | refine op_len_slice ?_ | refine op_pick_true ?_ | refine op_pick_false ?_ | refine op_pick_true' ?_ | refine op_pick_false' ?_ | refine op_build ?_ | refine op_extract ?_ | refine op_makeInterface ?_ | refine op_typeAssert ?_ | refine op_ptr_nil ?_ | refine op_nilCheck_ptr ?_ | refine op_nilCheck_meth ?_ | refine op_makeMeth ?_ | refine op_makeFunc ?_ | refine op_itof ?_ | refine op_itoi ?_ | refine op_ftoi ?_ | refine op_iquo ?_ | refine op_irem ?_ | refine op_ibits ?_ | refine op_slice_isnil ?_ | refine op_slice_notnil ?_ | refine op_imax ?_ | refine op_imin ?_ | refine op_shl ?_ | refine op_shr ?_ | (refine op_alloc ?_; intro _) | (refine op_box ?_; intro _) | (refine op_buildSlice ?_; intro _) | (refine op_farith ?_; intro _ _) | refine op_store0 ?_ | refine op_store1 ?_ | refine op_store2 ?_ | refine op_store3 ?_ | refine op_store4 ?_ | refine op_store5 ?_ | refine tc_cond_t ?_ | refine tc_cond_f ?_ | refine tc_cond (fun _ => ?_) (fun _ => ?_) | refine tc_block ?_ | refine tc_skip ?_ | refine tc_ret ?_ | refine tc_exit ?_ | refine tc_label ?_ | refine at_seq_ret ?_ | refine at_seq_exit ?_ | refine at_block_normal ?_ | refine at_block_ret ?_ | refine at_block_exit_self ?_ | refine at_block_exit_ne ?_ | refine at_loop_ret ?_ | refine at_loop_exit ?_ | refine at_loop_goto ?_ | refine tl_guard_yes ?_ | refine tl_guard_no ?_ | refine tl_guard_yes' ?_ | refine tl_guard_no' ?_ | refine tl_guard_undef ?_ | refine tl_guard_split (fun _ => ?_) (fun _ => ?_))
        | (refine op_invoke (hl.mono ?_) (hv := by rw [hw0]; exact rfl); rintro _ _ ⟨rfl, rfl⟩)
      refine at_loopK (i + 1, k, zs) ⟨hlt, by simp only; omega, h3, h4, h5, h6, fun t ht1 ht2 => ?_⟩ (by simp only; omega) ⟨next_nat (by omega), rfl, trivial⟩ (by repeat (first | exact trivial | refine ⟨rfl, ?_⟩)) (List.Sublist.refl _)
      by_cases e : t = i
      · subst e; rw [← h5]; exact hc
      · exact h7 t ht1 (by simp only at ht2; omega)
    · have hcb : (!decide (val (zs.getD last 0) < val (zs.getD i 0))) = true := by simpa using hc
      repeat' first
        | (first | refine tl_defer ?_ | refine tc_seq ?_ | refine tc_region ?_ | refine at_seq_normal ?_ | refine tl_nil ?_ | refine tl_cons ?_ | refine tl_cons_none ?_ | refine op_move ?_ | refine op_assign ?_ | refine op_fieldAddr ?_ | refine op_load ?_ | refine op_load_agg ?_ | refine op_indexC ?_ | refine op_indexAddr1 ?_ | refine op_indexAddr ?_ | refine op_icmp ?_ | refine op_fcmp ?_ | refine op_iarith ?_ | refine op_bcmp ?_ | refine op_unop_not ?_ | refine op_unop_neg_float ?_ | refine op_unop_neg_int ?_ | refine op_len_slice ?_ | refine op_pick_true ?_ | refine op_pick_false ?_ | refine op_pick_true' ?_ | refine op_pick_false' ?_ | refine op_build ?_ | refine op_extract ?_ | refine op_makeInterface ?_ | refine op_typeAssert ?_ | refine op_ptr_nil ?_ | refine op_nilCheck_ptr ?_ | refine op_nilCheck_meth ?_ | refine op_makeMeth ?_ | refine op_makeFunc ?_ | refine op_itof ?_ | refine op_itoi ?_ | refine op_ftoi ?_ | refine op_iquo ?_ | refine op_irem ?_ | refine op_ibits ?_ | refine op_slice_isnil ?_ | refine op_slice_notnil ?_ | refine op_imax ?_ | refine op_imin ?_ | refine op_shl ?_ | refine op_shr ?_ | (refine op_alloc ?_; intro _) | (refine op_box ?_; intro _) | (refine op_buildSlice ?_; intro _) | (refine op_farith ?_; intro _ _) | refine op_store0 ?_ | refine op_store1 ?_ | refine op_store2 ?_ | refine op_store3 ?_ | refine op_store4 ?_ | refine op_store5 ?_ | refine tc_cond_t ?_ | refine tc_cond_f ?_ | refine tc_cond (fun _ => ?_) (fun _ => ?_) | refine tc_block ?_ | refine tc_skip ?_ | refine tc_ret ?_ | refine tc_exit ?_ | refine tc_label ?_ | refine at_seq_ret ?_ | refine at_seq_exit ?_ | refine at_block_normal ?_ | refine at_block_ret ?_ | refine at_block_exit_self ?_ | refine at_block_exit_ne ?_ | refine at_loop_ret ?_ | refine at_loop_exit ?_ | refine at_loop_goto ?_ | refine tl_guard_yes ?_ | refine tl_guard_no ?_ | refine tl_guard_yes' ?_ | refine tl_guard_no' ?_ | refine tl_guard_undef ?_ | refine tl_guard_split (fun _ => ?_) (fun _ => ?_))
        | (refine op_invoke (hl.mono ?_) (hv := by rw [hw0]; exact rfl); rintro _ _ ⟨rfl, rfl⟩)
        | (refine op_invoke (hs.mono ?_); rintro _ _ ⟨rfl, rfl⟩)
      refine at_loopK (i + 1, k + 1, yz) ⟨hlt, by simp only; omega, by simp only; omega, e2.trans h4, ?_, fun t ht => ?_, fun t ht1 ht2 => ?_⟩ (by simp only; omega) ⟨next_nat (by omega), next_nat (by omega), trivial⟩ (by repeat (first | exact trivial | refine ⟨rfl, ?_⟩)) (List.Sublist.refl _)
      · simp only; rw [e3, if_neg (by omega), if_neg (by omega)]; exact h5
      · simp only at ht ⊢
        rw [e3]
        by_cases c1 : t = i
        · rw [if_pos c1]
          by_cases c2 : k = i
          · rw [c2, ← h5]; exact Rat.not_lt.1 hc
          · exact absurd c1 (by omega)
        · rw [if_neg c1]
          by_cases c2 : t = k
          · rw [if_pos c2, ← h5]; exact Rat.not_lt.1 hc
          · rw [if_neg c2]; exact h6 t (by omega)
      · simp only at ht1 ht2 ⊢
        rw [e3]
        by_cases c1 : t = i
        · rw [if_pos c1]; exact h7 k (Nat.le_refl _) (by omega)
        · rw [if_neg c1, if_neg (by omega)]; exact h7 t (by omega) (by omega)
  · have hbb : icmp .lss (i : Int) (IntKind.i64.wrap (iarith .sub (xs.length : Int) 1)) = false := by rw [hw0, lss_nat]; simpa using hlt
    obtain rfl : i = last := by omega
    have hs := hswap zs h3 i k hls (by omega)
    have e1 := swp_len zs i k
    have e2 := swp_perm (zs := zs) (p := i) (q := k) (by omega) (by omega)
    have e3 := swp_get (zs := zs) (p := i) (q := k) (by omega) (by omega)
    generalize hyz : swp zs i k = yz at hs e1 e2 e3
    repeat' first
      | (first | refine tl_defer ?_ | refine tc_seq ?_ | refine tc_region ?_ | refine at_seq_normal ?_ | refine tl_nil ?_ | refine tl_cons ?_ | refine tl_cons_none ?_ | refine op_move ?_ | refine op_assign ?_ | refine op_fieldAddr ?_ | refine op_load ?_ | refine op_load_agg ?_ | refine op_indexC ?_ | refine op_indexAddr1 ?_ | refine op_indexAddr ?_ | refine op_icmp ?_ | refine op_fcmp ?_ | refine op_iarith ?_ | refine op_bcmp ?_ | refine op_unop_not ?_ | refine op_unop_neg_float ?_ | refine op_unop_neg_int ?_ | refine op_len_slice ?_ | refine op_pick_true ?_ | refine op_pick_false ?_ | refine op_pick_true' ?_ | refine op_pick_false' ?_ | refine op_build ?_ | refine op_extract ?_ | refine op_makeInterface ?_ | refine op_typeAssert ?_ | refine op_ptr_nil ?_ | refine op_nilCheck_ptr ?_ | refine op_nilCheck_meth ?_ | refine op_makeMeth ?_ | refine op_makeFunc ?_ | refine op_itof ?_ | refine op_itoi ?_ | refine op_ftoi ?_ | refine op_iquo ?_ | refine op_irem ?_ | refine op_ibits ?_ | refine op_slice_isnil ?_ | refine op_slice_notnil ?_ | refine op_imax ?_ | refine op_imin ?_ | refine op_shl ?_ | refine op_shr ?_ | (refine op_alloc ?_; intro _) | (refine op_box ?_; intro _) | (refine op_buildSlice ?_; intro _) | (refine op_farith ?_; intro _ _) | refine op_store0 ?_ | refine op_store1 ?_ | refine op_store2 ?_ | refine op_store3 ?_ | refine op_store4 ?_ | refine op_store5 ?_ | refine tc_cond_t ?_ | refine tc_cond_f ?_ | refine tc_cond (fun _ => ?_) (fun _ => ?_) | refine tc_block ?_ | refine tc_skip ?_ | refine tc_ret ?_ | refine tc_exit ?_ | refine tc_label ?_ | refine at_seq_ret ?_ | refine at_seq_exit ?_ | refine at_block_normal ?_ | refine at_block_ret ?_ | refine at_block_exit_self ?_ | refine at_block_exit_ne ?_ | refine at_loop_ret ?_ | refine at_loop_exit ?_ | refine at_loop_goto ?_ | refine tl_guard_yes ?_ | refine tl_guard_no ?_ | refine tl_guard_yes' ?_ | refine tl_guard_no' ?_ | refine tl_guard_undef ?_ | refine tl_guard_split (fun _ => ?_) (fun _ => ?_))
      | (refine op_invoke (hs.mono ?_) (hv := by rw [hw0]; exact rfl); rintro _ _ ⟨rfl, rfl⟩)
    have ek : yz.getD k 0 = xs.getD p 0 := by rw [e3, if_pos rfl]; exact h5
    refine ret_tmp (hG := List.Sublist.refl _) (hk := ⟨yz, k, rfl, rfl, e2.trans h4, ⟨by omega, fun t ht => ?_, fun t ht1 ht2 => ?_⟩, ek⟩)
    · rw [ek, e3, if_neg (by omega), if_neg (by omega)]; exact h6 t ht
    · rw [ek, e3, if_neg (by omega)]
      by_cases c2 : t = i
      · rw [if_pos c2]; exact h7 k (Nat.le_refl _) (by omega)
      · rw [if_neg c2]; exact h7 t (by omega) (by omega)
end Go.Proofs.Ytefipfiajnepiaa.Ord
