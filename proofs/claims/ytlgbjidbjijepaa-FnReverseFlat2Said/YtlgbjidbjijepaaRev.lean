/-
  A row turned about in place. No conditions.
-/
import Derived.Test.YtlgbjidbjijepaaFlat
import Derived.Test.YtlgbjidbjijepaaLg10
set_option linter.unusedVariables false
set_option linter.unusedSimpArgs false
namespace Go.Proofs.Ytlgbjidbjijepaa.Rev
open Go.Lg Go.Proofs.Ytlgbjidbjijepaa.Flat

/-- The first k numbers of the rows at p and at q change places. -/
def swapSeg (zs : List Nat) (p q : Nat) : Nat → List Nat
  | 0 => zs
  | k + 1 => let z := swapSeg zs p q k; (z.set (p + k) (z.getD (q + k) 0)).set (q + k) (z.getD (p + k) 0)
theorem swapSeg_len (zs : List Nat) (p q : Nat) : ∀ k, (swapSeg zs p q k).length = zs.length
  | 0 => rfl
  | k + 1 => by simp [swapSeg, swapSeg_len zs p q k]
/-- What the loop makes of a row. -/
def revLoop (s : Nat) : Nat → List Nat → Nat → Nat → List Nat
  | 0, zs, _, _ => zs
  | f + 1, zs, i, j => if i ≤ j then revLoop s f (swapSeg zs (i - s) (j - s) s) (i + s) (j - s) else zs

theorem set_row {zs : List Nat} {sp : List Value} {p v : Nat} (h : p < zs.length) : setCells (zs.map fl ++ sp) (0 + p) [.float .f64 v] = (zs.set p v).map fl ++ sp := by
  simp only [setCells, Nat.zero_add]
  rw [List.set_append_left _ _ (by simpa using h), List.map_set]; rfl
theorem get_row {zs : List Nat} {sp : List Value} {p : Nat} (h : p < zs.length) : (zs.map fl ++ sp)[0 + p]? = some (.float .f64 (zs.getD p 0)) := by
  rw [Nat.zero_add, List.getElem?_append_left (by simpa using h), List.getElem?_map, List.getElem?_eq_getElem h, List.getD_eq_getElem?_getD, List.getElem?_eq_getElem h]; rfl

set_option maxHeartbeats 16000000 in
theorem reverse1 (kb cap : Nat) (xs : List Nat) (sp : List Value) (T : TypeId) (off en s : Nat) (H : Heap) (hs : 0 < s) (he : en ≤ xs.length) (ho : off ≤ en) (hb : xs.length < 2 ^ 40) (hs2 : s < 2 ^ 40) :
    Does Try.prog 67 [.slice (some ⟨kb, 0, none⟩) xs.length cap, .int .i64 (off : Int), .int .i64 (en : Int), .int .i64 (s : Int)] ((kb, .cells ⟨xs.map fl ++ sp⟩ T (0, 0)) :: H)
      fun w H' => w = .tuple #[] ∧ H' = (kb, .cells ⟨(revLoop s (en + 1) xs (off + s) en).map fl ++ sp⟩ T (0, 0)) :: H := by
  have hw0 := wrap_add (a := (off : Int)) (b := (s : Int)) (by omega) (by omega)
  refine fn_enter 59 Try.func67 fun W => ?_
  repeat'
    first
      | refine tl_defer ?_ | refine tc_seq ?_ | refine tc_region ?_ | refine at_seq_normal ?_ | refine tl_nil ?_ | refine tl_cons ?_ | refine tl_cons_none ?_ | refine op_move ?_
      | refine op_assign ?_ | refine op_fieldAddr ?_ | refine op_load ?_ | refine op_load_agg ?_ | refine op_indexC ?_ | refine op_indexAddr1 ?_ | refine op_indexAddr ?_ | refine op_icmp ?_
      | refine op_fcmp ?_ | refine op_iarith ?_ | refine op_bcmp ?_ | refine op_unop_not ?_ | refine op_unop_neg_float ?_ | refine op_unop_neg_int ?_ | refine op_len_slice ?_ | refine op_pick_true ?_
      | refine op_pick_false ?_ | refine op_pick_true' ?_ | refine op_pick_false' ?_ | refine op_build ?_ | refine op_extract ?_ | refine op_makeInterface ?_ | refine op_typeAssert ?_ | refine op_ptr_nil ?_
      | refine op_nilCheck_ptr ?_ | refine op_nilCheck_meth ?_ | refine op_makeMeth ?_ | refine op_makeFunc ?_ | refine op_itof ?_ | refine op_itoi ?_ | refine op_ftoi ?_ | refine op_iquo ?_
      | refine op_irem ?_ | refine op_ibits ?_ | refine op_slice_isnil ?_ | refine op_slice_notnil ?_ | refine op_imax ?_ | refine op_imin ?_ | refine op_shl ?_ | refine op_shr ?_
      | (refine op_alloc ?_; intro _) | (refine op_box ?_; intro _) | (refine op_buildSlice ?_; intro _) | (refine op_farith ?_; intro _ _) | refine op_store0 ?_ | refine op_store1 ?_ | refine op_store2 ?_ | refine op_store3 ?_
      | refine op_store4 ?_ | refine op_store5 ?_ | refine tc_cond_t ?_ | refine tc_cond_f ?_ | refine tc_cond (fun _ => ?_) (fun _ => ?_) | refine tc_block ?_ | refine tc_skip ?_ | refine tc_ret ?_
      | refine tc_exit ?_ | refine tc_label ?_ | refine at_seq_ret ?_ | refine at_seq_exit ?_ | refine at_block_normal ?_ | refine at_block_ret ?_ | refine at_block_exit_self ?_ | refine at_block_exit_ne ?_
      | refine at_loop_ret ?_ | refine at_loop_exit ?_ | refine at_loop_goto ?_ | refine tl_guard_yes ?_ | refine tl_guard_no ?_ | refine tl_guard_yes' ?_ | refine tl_guard_no' ?_ | refine tl_guard_undef ?_
      | refine tl_guard_split (fun _ => ?_) (fun _ => ?_)
  refine tc_loopK [(0, _), (3, _)] (by repeat (first | exact trivial | refine ⟨rfl, ?_⟩)) (fun p : Nat × Nat × Nat × List Nat => [(8, .int .i64 (p.2.1 : Int)), (9, .int .i64 (p.2.2.1 : Int))]) (fun p => (kb, Obj.cells ⟨p.2.2.2.map fl ++ sp⟩ T (0, 0)) :: H)
    (fun p => p.2.1 ≤ 2 ^ 42 ∧ s ≤ p.2.1 ∧ p.2.2.1 ≤ en ∧ p.2.2.2.length = xs.length ∧ p.2.2.1 < p.1 ∧ revLoop s p.1 p.2.2.2 p.2.1 p.2.2.1 = revLoop s (en + 1) xs (off + s) en) (fun p => p.1)
    (en + 1, off + s, en, xs) ⟨by simp only; omega, by simp only; omega, Nat.le_refl _, rfl, by simp only; omega, rfl⟩ ⟨geti rfl (by rw [hw0]; exact (Int.natCast_add off s).symm), rfl, trivial⟩ (List.Sublist.refl _) ?_
  rintro ⟨f, i, j, zs⟩ ⟨h1, h2, h3, h4, h5, h6⟩
  simp only at h1 h2 h3 h4 h5 h6 ⊢
  by_cases hij : i ≤ j
  · have hc : icmp .leq (i : Int) (j : Int) = true := by simp only [icmp, decide_eq_true_eq]; omega
    obtain ⟨f, rfl⟩ : ∃ g, f = g + 1 := ⟨f - 1, by omega⟩
    rw [revLoop, if_pos hij] at h6
    have wi := wrap_sub (a := (i : Int)) (b := (s : Int)) (by omega) (by omega)
    have wj := wrap_sub (a := (j : Int)) (b := (s : Int)) (by omega) (by omega)
    have wi2 := wrap_add (a := (i : Int)) (b := (s : Int)) (by omega) (by omega)
    repeat'
      first
        | refine tl_defer ?_ | refine tc_seq ?_ | refine tc_region ?_ | refine at_seq_normal ?_ | refine tl_nil ?_ | refine tl_cons ?_ | refine tl_cons_none ?_ | refine op_move ?_
        | refine op_assign ?_ | refine op_fieldAddr ?_ | refine op_load ?_ | refine op_load_agg ?_ | refine op_indexC ?_ | refine op_indexAddr1 ?_ | refine op_indexAddr ?_ | refine op_icmp ?_
        | refine op_fcmp ?_ | refine op_iarith ?_ | refine op_bcmp ?_ | refine op_unop_not ?_ | refine op_unop_neg_float ?_ | refine op_unop_neg_int ?_ | refine op_len_slice ?_ | refine op_pick_true ?_
        | refine op_pick_false ?_ | refine op_pick_true' ?_ | refine op_pick_false' ?_ | refine op_build ?_ | refine op_extract ?_ | refine op_makeInterface ?_ | refine op_typeAssert ?_ | refine op_ptr_nil ?_
        | refine op_nilCheck_ptr ?_ | refine op_nilCheck_meth ?_ | refine op_makeMeth ?_ | refine op_makeFunc ?_ | refine op_itof ?_ | refine op_itoi ?_ | refine op_ftoi ?_ | refine op_iquo ?_
        | refine op_irem ?_ | refine op_ibits ?_ | refine op_slice_isnil ?_ | refine op_slice_notnil ?_ | refine op_imax ?_ | refine op_imin ?_ | refine op_shl ?_ | refine op_shr ?_
        | (refine op_alloc ?_; intro _) | (refine op_box ?_; intro _) | (refine op_buildSlice ?_; intro _) | (refine op_farith ?_; intro _ _) | refine op_store0 ?_ | refine op_store1 ?_ | refine op_store2 ?_ | refine op_store3 ?_
        | refine op_store4 ?_ | refine op_store5 ?_ | refine tc_cond_t ?_ | refine tc_cond_f ?_ | refine tc_cond (fun _ => ?_) (fun _ => ?_) | refine tc_block ?_ | refine tc_skip ?_ | refine tc_ret ?_
        | refine tc_exit ?_ | refine tc_label ?_ | refine at_seq_ret ?_ | refine at_seq_exit ?_ | refine at_block_normal ?_ | refine at_block_ret ?_ | refine at_block_exit_self ?_ | refine at_block_exit_ne ?_
        | refine at_loop_ret ?_ | refine at_loop_exit ?_ | refine at_loop_goto ?_ | refine tl_guard_yes ?_ | refine tl_guard_no ?_ | refine tl_guard_yes' ?_ | refine tl_guard_no' ?_ | refine tl_guard_undef ?_
        | refine tl_guard_split (fun _ => ?_) (fun _ => ?_)
    refine tc_loopK [(0, _), (3, _), (8, _), (9, _), (15, _), (16, _), (17, _), (24, _)] (by repeat (first | exact trivial | refine ⟨rfl, ?_⟩)) (fun k : Nat => [(25, .int .i64 (k : Int))]) (fun k => (kb, Obj.cells ⟨(swapSeg zs (i - s) (j - s) k).map fl ++ sp⟩ T (0, 0)) :: H)
      (fun k => k ≤ s) (fun k => s - k) 0 (Nat.zero_le _) ⟨rfl, trivial⟩ (List.Sublist.refl _) ?_
    intro k hk
    by_cases hlt : k < s
    · have hbb : icmp .lss (k : Int) (s : Int) = true := by rw [lss_nat]; simpa using hlt
      have hzl := swapSeg_len zs (i - s) (j - s) k
      have hi : IntKind.i64.wrap (iarith .add (IntKind.i64.wrap (iarith .sub (i : Int) (s : Int))) (k : Int)) = ((i - s + k : Nat) : Int) := by
        rw [wi, wrap_add (by omega) (by omega)]; omega
      have hj : IntKind.i64.wrap (iarith .add (IntKind.i64.wrap (iarith .sub (j : Int) (s : Int))) (k : Int)) = ((j - s + k : Nat) : Int) := by
        rw [wj, wrap_add (by omega) (by omega)]; omega
      have gp := get_row (zs := swapSeg zs (i - s) (j - s) k) (sp := sp) (p := i - s + k) (by omega)
      have gq := get_row (zs := swapSeg zs (i - s) (j - s) k) (sp := sp) (p := j - s + k) (by omega)
      generalize hz : swapSeg zs (i - s) (j - s) k = z at *
      repeat'
        first
          | refine tl_defer ?_ | refine tc_seq ?_ | refine tc_region ?_ | refine at_seq_normal ?_ | refine tl_nil ?_ | refine tl_cons ?_ | refine tl_cons_none ?_ | refine op_move ?_
          | refine op_assign ?_ | refine op_fieldAddr ?_ | refine op_load ?_ | refine op_load_agg ?_ | refine op_indexC ?_ | refine op_indexAddr1 ?_ | refine op_indexAddr ?_ | refine op_icmp ?_
          | refine op_fcmp ?_ | refine op_iarith ?_ | refine op_bcmp ?_ | refine op_unop_not ?_ | refine op_unop_neg_float ?_ | refine op_unop_neg_int ?_ | refine op_len_slice ?_ | refine op_pick_true ?_
          | refine op_pick_false ?_ | refine op_pick_true' ?_ | refine op_pick_false' ?_ | refine op_build ?_ | refine op_extract ?_ | refine op_makeInterface ?_ | refine op_typeAssert ?_ | refine op_ptr_nil ?_
          | refine op_nilCheck_ptr ?_ | refine op_nilCheck_meth ?_ | refine op_makeMeth ?_ | refine op_makeFunc ?_ | refine op_itof ?_ | refine op_itoi ?_ | refine op_ftoi ?_ | refine op_iquo ?_
          | refine op_irem ?_ | refine op_ibits ?_ | refine op_slice_isnil ?_ | refine op_slice_notnil ?_ | refine op_imax ?_ | refine op_imin ?_ | refine op_shl ?_ | refine op_shr ?_
          | (refine op_alloc ?_; intro _) | (refine op_box ?_; intro _) | (refine op_buildSlice ?_; intro _) | (refine op_farith ?_; intro _ _) | refine op_store0 ?_ | refine op_store1 ?_ | refine op_store2 ?_ | refine op_store3 ?_
          | refine op_store4 ?_ | refine op_store5 ?_ | refine tc_cond_t ?_ | refine tc_cond_f ?_ | refine tc_cond (fun _ => ?_) (fun _ => ?_) | refine tc_block ?_ | refine tc_skip ?_ | refine tc_ret ?_
          | refine tc_exit ?_ | refine tc_label ?_ | refine at_seq_ret ?_ | refine at_seq_exit ?_ | refine at_block_normal ?_ | refine at_block_ret ?_ | refine at_block_exit_self ?_ | refine at_block_exit_ne ?_
          | refine at_loop_ret ?_ | refine at_loop_exit ?_ | refine at_loop_goto ?_ | refine tl_guard_yes ?_ | refine tl_guard_no ?_ | refine tl_guard_yes' ?_ | refine tl_guard_no' ?_ | refine tl_guard_undef ?_
          | refine tl_guard_split (fun _ => ?_) (fun _ => ?_)
      refine tc_any mixed ?_
      refine ta_take 0 rfl (by kernel_rfl) (by kernel_rfl) (by kernel_rfl) (by repeat (first | exact pq_body | refine pq_seq ?_ | refine pq_block ?_ | refine pq_loop ?_)) rfl rfl (by decide) (by exact y_move) ?_
      refine ta_take 1 rfl (by kernel_rfl) (by kernel_rfl) (by kernel_rfl) (by repeat (first | exact pq_body | refine pq_seq ?_ | refine pq_block ?_ | refine pq_loop ?_)) rfl rfl (by decide) (by exact y_move) ?_
      refine ta_take 2 rfl (by kernel_rfl) (by kernel_rfl) (by kernel_rfl) (by repeat (first | exact pq_body | refine pq_seq ?_ | refine pq_block ?_ | refine pq_loop ?_)) rfl rfl (by decide) (by exact y_move) ?_
      refine ta_take 3 rfl (by kernel_rfl) (by kernel_rfl) (by kernel_rfl) (by repeat (first | exact pq_body | refine pq_seq ?_ | refine pq_block ?_ | refine pq_loop ?_)) rfl rfl (by decide) (by exact y_iarith) ?_
      refine ta_take 4 rfl (by kernel_rfl) (by kernel_rfl) (by kernel_rfl) (by repeat (first | exact pq_body | refine pq_seq ?_ | refine pq_block ?_ | refine pq_loop ?_)) rfl rfl (by decide) (by exact y_move) ?_
      refine ta_take 5 rfl (by kernel_rfl) (by kernel_rfl) (by kernel_rfl) (by repeat (first | exact pq_body | refine pq_seq ?_ | refine pq_block ?_ | refine pq_loop ?_)) rfl rfl (by decide) (by exact y_iarith) ?_
      refine ta_take 6 rfl (by kernel_rfl) (by kernel_rfl) (by kernel_rfl) (by repeat (first | exact pq_body | refine pq_seq ?_ | refine pq_block ?_ | refine pq_loop ?_)) rfl rfl (by decide) (by exact y_move) ?_
      refine ta_take 7 rfl (by kernel_rfl) (by kernel_rfl) (by kernel_rfl) (by repeat (first | exact pq_body | refine pq_seq ?_ | refine pq_block ?_ | refine pq_loop ?_)) rfl rfl (by decide) (by exact y_move) ?_
      refine ta_take 8 rfl (by kernel_rfl) (by kernel_rfl) (by kernel_rfl) (by repeat (first | exact pq_body | refine pq_seq ?_ | refine pq_block ?_ | refine pq_loop ?_)) rfl rfl (by decide) (by exact y_move) ?_
      refine ta_take 9 rfl (by kernel_rfl) (by kernel_rfl) (by kernel_rfl) (by repeat (first | exact pq_body | refine pq_seq ?_ | refine pq_block ?_ | refine pq_loop ?_)) rfl rfl (by decide) (by exact y_iarith) ?_
      refine ta_take 10 rfl (by kernel_rfl) (by kernel_rfl) (by kernel_rfl) (by repeat (first | exact pq_body | refine pq_seq ?_ | refine pq_block ?_ | refine pq_loop ?_)) rfl rfl (by decide) (by exact y_move) ?_
      refine ta_take 11 rfl (by kernel_rfl) (by kernel_rfl) (by kernel_rfl) (by repeat (first | exact pq_body | refine pq_seq ?_ | refine pq_block ?_ | refine pq_loop ?_)) rfl rfl (by decide) (by exact y_iarith) ?_
      refine ta_take 12 rfl (by kernel_rfl) (by kernel_rfl) (by kernel_rfl) (by repeat (first | exact pq_body | refine pq_seq ?_ | refine pq_block ?_ | refine pq_loop ?_)) rfl rfl (by decide) (by exact y_move) ?_
      refine ta_take 13 rfl (by kernel_rfl) (by kernel_rfl) (by kernel_rfl) (by repeat (first | exact pq_body | refine pq_seq ?_ | refine pq_block ?_ | refine pq_loop ?_)) rfl rfl (by decide) (by exact y_move) ?_
      refine ta_take 14 rfl (by kernel_rfl) (by kernel_rfl) (by kernel_rfl) (by repeat (first | exact pq_body | refine pq_seq ?_ | refine pq_block ?_ | refine pq_loop ?_)) rfl rfl (by decide) (by exact y_move) ?_
      refine ta_take 15 rfl (by kernel_rfl) (by kernel_rfl) (by kernel_rfl) (by repeat (first | exact pq_body | refine pq_seq ?_ | refine pq_block ?_ | refine pq_loop ?_)) rfl rfl (by decide) (by exact y_iarith) ?_
      refine ta_take 16 rfl (by kernel_rfl) (by kernel_rfl) (by kernel_rfl) (by repeat (first | exact pq_body | refine pq_seq ?_ | refine pq_block ?_ | refine pq_loop ?_)) rfl rfl (by decide) (by exact y_move) ?_
      refine ta_take 17 rfl (by kernel_rfl) (by kernel_rfl) (by kernel_rfl) (by repeat (first | exact pq_body | refine pq_seq ?_ | refine pq_block ?_ | refine pq_loop ?_)) rfl rfl (by decide) (by exact y_iarith) ?_
      refine ta_take 18 rfl (by kernel_rfl) (by kernel_rfl) (by kernel_rfl) (by repeat (first | exact pq_body | refine pq_seq ?_ | refine pq_block ?_ | refine pq_loop ?_)) rfl rfl (by decide) (y_indexAddr1 (j := j - s + k) (hy := gete (by exact rfl) hj) (hj := by omega)) ?_
      refine ta_take 20 rfl (by kernel_rfl) (by kernel_rfl) (by kernel_rfl) (by repeat (first | exact pq_body | refine pq_seq ?_ | refine pq_block ?_ | refine pq_loop ?_)) rfl rfl (by decide) (by exact y_move) ?_
      refine ta_take 21 rfl (by kernel_rfl) (by kernel_rfl) (by kernel_rfl) (by repeat (first | exact pq_body | refine pq_seq ?_ | refine pq_block ?_ | refine pq_loop ?_)) rfl rfl (by decide) (by exact y_move) ?_
      refine ta_take 22 rfl (by kernel_rfl) (by kernel_rfl) (by kernel_rfl) (by repeat (first | exact pq_body | refine pq_seq ?_ | refine pq_block ?_ | refine pq_loop ?_)) rfl rfl (by decide) (by exact y_move) ?_
      refine ta_take 23 rfl (by kernel_rfl) (by kernel_rfl) (by kernel_rfl) (by repeat (first | exact pq_body | refine pq_seq ?_ | refine pq_block ?_ | refine pq_loop ?_)) rfl rfl (by decide) (by exact y_iarith) ?_
      refine ta_take 24 rfl (by kernel_rfl) (by kernel_rfl) (by kernel_rfl) (by repeat (first | exact pq_body | refine pq_seq ?_ | refine pq_block ?_ | refine pq_loop ?_)) rfl rfl (by decide) (by exact y_move) ?_
      refine ta_take 25 rfl (by kernel_rfl) (by kernel_rfl) (by kernel_rfl) (by repeat (first | exact pq_body | refine pq_seq ?_ | refine pq_block ?_ | refine pq_loop ?_)) rfl rfl (by decide) (by exact y_iarith) ?_
      refine ta_take 26 rfl (by kernel_rfl) (by kernel_rfl) (by kernel_rfl) (by repeat (first | exact pq_body | refine pq_seq ?_ | refine pq_block ?_ | refine pq_loop ?_)) rfl rfl (by decide) (y_indexAddr1 (j := i - s + k) (hy := gete (by exact rfl) hi) (hj := by omega)) ?_
      refine ta_two 19 27 (by kernel_rfl) rfl (by decide) rfl (by decide) ?_ ?_
      · (first | refine op_load ?_ | refine op_load_agg ?_ | refine op_store0 ?_ | refine op_store1 ?_ | refine op_store2 ?_ | refine op_store3 ?_)
        refine ta_only 27 (by kernel_rfl) rfl (by decide) ?_
        (first | refine op_load ?_ | refine op_load_agg ?_ | refine op_store0 ?_ | refine op_store1 ?_ | refine op_store2 ?_ | refine op_store3 ?_)
        refine ta_take 28 rfl (by kernel_rfl) (by kernel_rfl) (by kernel_rfl) (by repeat (first | exact pq_body | refine pq_seq ?_ | refine pq_block ?_ | refine pq_loop ?_)) rfl rfl (by decide) (y_indexAddr1 (j := i - s + k) (hy := gete (by exact rfl) hi) (hj := by omega)) ?_
        refine ta_only0 29 (by kernel_rfl) rfl ?_
        refine op_store0 (l' := (z.set (i - s + k) (z.getD (j - s + k) 0)).map fl ++ sp) ?_ (hroom := by simp; omega) (hnew := set_row (by omega))
        refine ta_take 30 rfl (by kernel_rfl) (by kernel_rfl) (by kernel_rfl) (by repeat (first | exact pq_body | refine pq_seq ?_ | refine pq_block ?_ | refine pq_loop ?_)) rfl rfl (by decide) (y_indexAddr1 (j := j - s + k) (hy := gete (by exact rfl) hj) (hj := by omega)) ?_
        refine ta_only0 31 (by kernel_rfl) rfl ?_
        refine op_store0 (l' := ((z.set (i - s + k) (z.getD (j - s + k) 0)).set (j - s + k) (z.getD (i - s + k) 0)).map fl ++ sp) ?_ (hroom := by simp; omega) (hnew := set_row (by simp; omega))
        refine ta_done (by kernel_rfl) ?_
        repeat'
          first
            | refine tl_defer ?_ | refine tc_seq ?_ | refine tc_region ?_ | refine at_seq_normal ?_ | refine tl_nil ?_ | refine tl_cons ?_ | refine tl_cons_none ?_ | refine op_move ?_
            | refine op_assign ?_ | refine op_fieldAddr ?_ | refine op_load ?_ | refine op_load_agg ?_ | refine op_indexC ?_ | refine op_indexAddr1 ?_ | refine op_indexAddr ?_ | refine op_icmp ?_
            | refine op_fcmp ?_ | refine op_iarith ?_ | refine op_bcmp ?_ | refine op_unop_not ?_ | refine op_unop_neg_float ?_ | refine op_unop_neg_int ?_ | refine op_len_slice ?_ | refine op_pick_true ?_
            | refine op_pick_false ?_ | refine op_pick_true' ?_ | refine op_pick_false' ?_ | refine op_build ?_ | refine op_extract ?_ | refine op_makeInterface ?_ | refine op_typeAssert ?_ | refine op_ptr_nil ?_
            | refine op_nilCheck_ptr ?_ | refine op_nilCheck_meth ?_ | refine op_makeMeth ?_ | refine op_makeFunc ?_ | refine op_itof ?_ | refine op_itoi ?_ | refine op_ftoi ?_ | refine op_iquo ?_
            | refine op_irem ?_ | refine op_ibits ?_ | refine op_slice_isnil ?_ | refine op_slice_notnil ?_ | refine op_imax ?_ | refine op_imin ?_ | refine op_shl ?_ | refine op_shr ?_
            | (refine op_alloc ?_; intro _) | (refine op_box ?_; intro _) | (refine op_buildSlice ?_; intro _) | (refine op_farith ?_; intro _ _) | refine op_store0 ?_ | refine op_store1 ?_ | refine op_store2 ?_ | refine op_store3 ?_
            | refine op_store4 ?_ | refine op_store5 ?_ | refine tc_cond_t ?_ | refine tc_cond_f ?_ | refine tc_cond (fun _ => ?_) (fun _ => ?_) | refine tc_block ?_ | refine tc_skip ?_ | refine tc_ret ?_
            | refine tc_exit ?_ | refine tc_label ?_ | refine at_seq_ret ?_ | refine at_seq_exit ?_ | refine at_block_normal ?_ | refine at_block_ret ?_ | refine at_block_exit_self ?_ | refine at_block_exit_ne ?_
            | refine at_loop_ret ?_ | refine at_loop_exit ?_ | refine at_loop_goto ?_ | refine tl_guard_yes ?_ | refine tl_guard_no ?_ | refine tl_guard_yes' ?_ | refine tl_guard_no' ?_ | refine tl_guard_undef ?_
            | refine tl_guard_split (fun _ => ?_) (fun _ => ?_)
        exact at_loopK (k + 1) hlt (by omega) ⟨next_nat (by omega), trivial⟩ (by repeat (first | exact trivial | refine ⟨rfl, ?_⟩)) (by simp only [swapSeg, hz]; exact List.Sublist.refl _)
      · (first | refine op_load ?_ | refine op_load_agg ?_ | refine op_store0 ?_ | refine op_store1 ?_ | refine op_store2 ?_ | refine op_store3 ?_)
        refine ta_only 19 (by kernel_rfl) rfl (by decide) ?_
        (first | refine op_load ?_ | refine op_load_agg ?_ | refine op_store0 ?_ | refine op_store1 ?_ | refine op_store2 ?_ | refine op_store3 ?_)
        refine ta_take 28 rfl (by kernel_rfl) (by kernel_rfl) (by kernel_rfl) (by repeat (first | exact pq_body | refine pq_seq ?_ | refine pq_block ?_ | refine pq_loop ?_)) rfl rfl (by decide) (y_indexAddr1 (j := i - s + k) (hy := gete (by exact rfl) hi) (hj := by omega)) ?_
        refine ta_only0 29 (by kernel_rfl) rfl ?_
        refine op_store0 (l' := (z.set (i - s + k) (z.getD (j - s + k) 0)).map fl ++ sp) ?_ (hroom := by simp; omega) (hnew := set_row (by omega))
        refine ta_take 30 rfl (by kernel_rfl) (by kernel_rfl) (by kernel_rfl) (by repeat (first | exact pq_body | refine pq_seq ?_ | refine pq_block ?_ | refine pq_loop ?_)) rfl rfl (by decide) (y_indexAddr1 (j := j - s + k) (hy := gete (by exact rfl) hj) (hj := by omega)) ?_
        refine ta_only0 31 (by kernel_rfl) rfl ?_
        refine op_store0 (l' := ((z.set (i - s + k) (z.getD (j - s + k) 0)).set (j - s + k) (z.getD (i - s + k) 0)).map fl ++ sp) ?_ (hroom := by simp; omega) (hnew := set_row (by simp; omega))
        refine ta_done (by kernel_rfl) ?_
        repeat'
          first
            | refine tl_defer ?_ | refine tc_seq ?_ | refine tc_region ?_ | refine at_seq_normal ?_ | refine tl_nil ?_ | refine tl_cons ?_ | refine tl_cons_none ?_ | refine op_move ?_
            | refine op_assign ?_ | refine op_fieldAddr ?_ | refine op_load ?_ | refine op_load_agg ?_ | refine op_indexC ?_ | refine op_indexAddr1 ?_ | refine op_indexAddr ?_ | refine op_icmp ?_
            | refine op_fcmp ?_ | refine op_iarith ?_ | refine op_bcmp ?_ | refine op_unop_not ?_ | refine op_unop_neg_float ?_ | refine op_unop_neg_int ?_ | refine op_len_slice ?_ | refine op_pick_true ?_
            | refine op_pick_false ?_ | refine op_pick_true' ?_ | refine op_pick_false' ?_ | refine op_build ?_ | refine op_extract ?_ | refine op_makeInterface ?_ | refine op_typeAssert ?_ | refine op_ptr_nil ?_
            | refine op_nilCheck_ptr ?_ | refine op_nilCheck_meth ?_ | refine op_makeMeth ?_ | refine op_makeFunc ?_ | refine op_itof ?_ | refine op_itoi ?_ | refine op_ftoi ?_ | refine op_iquo ?_
            | refine op_irem ?_ | refine op_ibits ?_ | refine op_slice_isnil ?_ | refine op_slice_notnil ?_ | refine op_imax ?_ | refine op_imin ?_ | refine op_shl ?_ | refine op_shr ?_
            | (refine op_alloc ?_; intro _) | (refine op_box ?_; intro _) | (refine op_buildSlice ?_; intro _) | (refine op_farith ?_; intro _ _) | refine op_store0 ?_ | refine op_store1 ?_ | refine op_store2 ?_ | refine op_store3 ?_
            | refine op_store4 ?_ | refine op_store5 ?_ | refine tc_cond_t ?_ | refine tc_cond_f ?_ | refine tc_cond (fun _ => ?_) (fun _ => ?_) | refine tc_block ?_ | refine tc_skip ?_ | refine tc_ret ?_
            | refine tc_exit ?_ | refine tc_label ?_ | refine at_seq_ret ?_ | refine at_seq_exit ?_ | refine at_block_normal ?_ | refine at_block_ret ?_ | refine at_block_exit_self ?_ | refine at_block_exit_ne ?_
            | refine at_loop_ret ?_ | refine at_loop_exit ?_ | refine at_loop_goto ?_ | refine tl_guard_yes ?_ | refine tl_guard_no ?_ | refine tl_guard_yes' ?_ | refine tl_guard_no' ?_ | refine tl_guard_undef ?_
            | refine tl_guard_split (fun _ => ?_) (fun _ => ?_)
        exact at_loopK (k + 1) hlt (by omega) ⟨next_nat (by omega), trivial⟩ (by repeat (first | exact trivial | refine ⟨rfl, ?_⟩)) (by simp only [swapSeg, hz]; exact List.Sublist.refl _)
    · have hbb : icmp .lss (k : Int) (s : Int) = false := by rw [lss_nat]; simpa using hlt
      have hks : k = s := by omega
      subst hks
      repeat'
        first
          | refine tl_defer ?_ | refine tc_seq ?_ | refine tc_region ?_ | refine at_seq_normal ?_ | refine tl_nil ?_ | refine tl_cons ?_ | refine tl_cons_none ?_ | refine op_move ?_
          | refine op_assign ?_ | refine op_fieldAddr ?_ | refine op_load ?_ | refine op_load_agg ?_ | refine op_indexC ?_ | refine op_indexAddr1 ?_ | refine op_indexAddr ?_ | refine op_icmp ?_
          | refine op_fcmp ?_ | refine op_iarith ?_ | refine op_bcmp ?_ | refine op_unop_not ?_ | refine op_unop_neg_float ?_ | refine op_unop_neg_int ?_ | refine op_len_slice ?_ | refine op_pick_true ?_
          | refine op_pick_false ?_ | refine op_pick_true' ?_ | refine op_pick_false' ?_ | refine op_build ?_ | refine op_extract ?_ | refine op_makeInterface ?_ | refine op_typeAssert ?_ | refine op_ptr_nil ?_
          | refine op_nilCheck_ptr ?_ | refine op_nilCheck_meth ?_ | refine op_makeMeth ?_ | refine op_makeFunc ?_ | refine op_itof ?_ | refine op_itoi ?_ | refine op_ftoi ?_ | refine op_iquo ?_
          | refine op_irem ?_ | refine op_ibits ?_ | refine op_slice_isnil ?_ | refine op_slice_notnil ?_ | refine op_imax ?_ | refine op_imin ?_ | refine op_shl ?_ | refine op_shr ?_
          | (refine op_alloc ?_; intro _) | (refine op_box ?_; intro _) | (refine op_buildSlice ?_; intro _) | (refine op_farith ?_; intro _ _) | refine op_store0 ?_ | refine op_store1 ?_ | refine op_store2 ?_ | refine op_store3 ?_
          | refine op_store4 ?_ | refine op_store5 ?_ | refine tc_cond_t ?_ | refine tc_cond_f ?_ | refine tc_cond (fun _ => ?_) (fun _ => ?_) | refine tc_block ?_ | refine tc_skip ?_ | refine tc_ret ?_
          | refine tc_exit ?_ | refine tc_label ?_ | refine at_seq_ret ?_ | refine at_seq_exit ?_ | refine at_block_normal ?_ | refine at_block_ret ?_ | refine at_block_exit_self ?_ | refine at_block_exit_ne ?_
          | refine at_loop_ret ?_ | refine at_loop_exit ?_ | refine at_loop_goto ?_ | refine tl_guard_yes ?_ | refine tl_guard_no ?_ | refine tl_guard_yes' ?_ | refine tl_guard_no' ?_ | refine tl_guard_undef ?_
          | refine tl_guard_split (fun _ => ?_) (fun _ => ?_)
      exact at_loopK (f, i + k, j - k, swapSeg zs (i - k) (j - k) k) ⟨by simp only; omega, by simp only; omega, by simp only; omega, by simp only; rw [swapSeg_len]; exact h4, by simp only; omega, h6⟩ (by simp only; omega) ⟨geti rfl (by rw [wi2]; exact (Int.natCast_add _ _).symm), geti rfl (by rw [wj]; exact (Int.natCast_sub (by omega)).symm), trivial⟩ (by repeat (first | exact trivial | refine ⟨rfl, ?_⟩)) (List.Sublist.refl _)
  · have hc : icmp .leq (i : Int) (j : Int) = false := by simp only [icmp, decide_eq_false_iff_not]; omega
    have hz : zs = revLoop s (en + 1) xs (off + s) en := by
      rw [← h6]
      obtain ⟨f, rfl⟩ : ∃ g, f = g + 1 := ⟨f - 1, by omega⟩
      rw [revLoop, if_neg hij]
    repeat'
      first
        | refine tl_defer ?_ | refine tc_seq ?_ | refine tc_region ?_ | refine at_seq_normal ?_ | refine tl_nil ?_ | refine tl_cons ?_ | refine tl_cons_none ?_ | refine op_move ?_
        | refine op_assign ?_ | refine op_fieldAddr ?_ | refine op_load ?_ | refine op_load_agg ?_ | refine op_indexC ?_ | refine op_indexAddr1 ?_ | refine op_indexAddr ?_ | refine op_icmp ?_
        | refine op_fcmp ?_ | refine op_iarith ?_ | refine op_bcmp ?_ | refine op_unop_not ?_ | refine op_unop_neg_float ?_ | refine op_unop_neg_int ?_ | refine op_len_slice ?_ | refine op_pick_true ?_
        | refine op_pick_false ?_ | refine op_pick_true' ?_ | refine op_pick_false' ?_ | refine op_build ?_ | refine op_extract ?_ | refine op_makeInterface ?_ | refine op_typeAssert ?_ | refine op_ptr_nil ?_
        | refine op_nilCheck_ptr ?_ | refine op_nilCheck_meth ?_ | refine op_makeMeth ?_ | refine op_makeFunc ?_ | refine op_itof ?_ | refine op_itoi ?_ | refine op_ftoi ?_ | refine op_iquo ?_
        | refine op_irem ?_ | refine op_ibits ?_ | refine op_slice_isnil ?_ | refine op_slice_notnil ?_ | refine op_imax ?_ | refine op_imin ?_ | refine op_shl ?_ | refine op_shr ?_
        | (refine op_alloc ?_; intro _) | (refine op_box ?_; intro _) | (refine op_buildSlice ?_; intro _) | (refine op_farith ?_; intro _ _) | refine op_store0 ?_ | refine op_store1 ?_ | refine op_store2 ?_ | refine op_store3 ?_
        | refine op_store4 ?_ | refine op_store5 ?_ | refine tc_cond_t ?_ | refine tc_cond_f ?_ | refine tc_cond (fun _ => ?_) (fun _ => ?_) | refine tc_block ?_ | refine tc_skip ?_ | refine tc_ret ?_
        | refine tc_exit ?_ | refine tc_label ?_ | refine at_seq_ret ?_ | refine at_seq_exit ?_ | refine at_block_normal ?_ | refine at_block_ret ?_ | refine at_block_exit_self ?_ | refine at_block_exit_ne ?_
        | refine at_loop_ret ?_ | refine at_loop_exit ?_ | refine at_loop_goto ?_ | refine tl_guard_yes ?_ | refine tl_guard_no ?_ | refine tl_guard_yes' ?_ | refine tl_guard_no' ?_ | refine tl_guard_undef ?_
        | refine tl_guard_split (fun _ => ?_) (fun _ => ?_)
    exact ret_none (hk := ⟨rfl, by rw [hz]⟩) (hG := List.Sublist.refl _)

/-- Ends that ascend by whole places. -/
def AscN (s : Nat) : Nat → List Nat → Nat → Prop
  | a, [], b => a = b
  | a, e :: es, b => a ≤ e ∧ s ∣ e - a ∧ AscN s e es b
theorem AscN.le {s : Nat} : ∀ {es : List Nat} {a b}, AscN s a es b → a ≤ b
  | [], a, b, h => by cases h; exact Nat.le_refl _
  | e :: es, a, b, h => by have := AscN.le h.2.2; have := h.1; omega
def revEnds (s : Nat) : List Nat → Nat → List Nat → List Nat
  | xs, _, [] => xs
  | xs, off, e :: es => revEnds s (revLoop s (e + 1) xs (off + s) e) e es
theorem revLoop_len (s : Nat) : ∀ (f : Nat) (xs : List Nat) (i j : Nat), (revLoop s f xs i j).length = xs.length
  | 0, _, _, _ => rfl
  | f + 1, xs, i, j => by
    rw [revLoop]; split
    · rw [revLoop_len, swapSeg_len]
    · rfl
theorem AscN.drop {s : Nat} : ∀ {es : List Nat} {a b j : Nat} {e : Nat}, AscN s a es b → es[j]? = some e → e ≤ b
  | [], a, b, j, e, h, he => by simp at he
  | x :: es, a, b, 0, e, h, he => by simp at he; subst he; exact h.2.2.le
  | x :: es, a, b, j + 1, e, h, he => AscN.drop h.2.2 (by simpa using he)

theorem reverse2 (kb cap : Nat) (xs : List Nat) (sp : List Value) (T : TypeId) (ae : Option Addr) (ce : Nat) (es : List Nat) (s : Nat) (H : Heap) (hs : 0 < s) (hie : IS H (.slice ae (es.map Int.ofNat).length ce) (es.map Int.ofNat))
    (hasc : AscN s 0 es xs.length) (hb : xs.length < 2 ^ 40) (hs2 : s < 2 ^ 40) (hbe : es.length < 2 ^ 40) :
    Does Try.prog 51 [.slice (some ⟨kb, 0, none⟩) xs.length cap, .int .i64 0, .slice ae (es.map Int.ofNat).length ce, .int .i64 (s : Int)] ((kb, .cells ⟨xs.map fl ++ sp⟩ T (0, 0)) :: H)
      fun w H' => w = .tuple #[] ∧ H' = (kb, .cells ⟨(revEnds s xs 0 es).map fl ++ sp⟩ T (0, 0)) :: H := by
  refine fn_enter 23 Try.func51 fun W => ?_
  repeat'
    first
      | refine tl_defer ?_ | refine tc_seq ?_ | refine tc_region ?_ | refine at_seq_normal ?_ | refine tl_nil ?_ | refine tl_cons ?_ | refine tl_cons_none ?_ | refine op_move ?_
      | refine op_assign ?_ | refine op_fieldAddr ?_ | refine op_load ?_ | refine op_load_agg ?_ | refine op_indexC ?_ | refine op_indexAddr1 ?_ | refine op_indexAddr ?_ | refine op_icmp ?_
      | refine op_fcmp ?_ | refine op_iarith ?_ | refine op_bcmp ?_ | refine op_unop_not ?_ | refine op_unop_neg_float ?_ | refine op_unop_neg_int ?_ | refine op_len_slice ?_ | refine op_pick_true ?_
      | refine op_pick_false ?_ | refine op_pick_true' ?_ | refine op_pick_false' ?_ | refine op_build ?_ | refine op_extract ?_ | refine op_makeInterface ?_ | refine op_typeAssert ?_ | refine op_ptr_nil ?_
      | refine op_nilCheck_ptr ?_ | refine op_nilCheck_meth ?_ | refine op_makeMeth ?_ | refine op_makeFunc ?_ | refine op_itof ?_ | refine op_itoi ?_ | refine op_ftoi ?_ | refine op_iquo ?_
      | refine op_irem ?_ | refine op_ibits ?_ | refine op_slice_isnil ?_ | refine op_slice_notnil ?_ | refine op_imax ?_ | refine op_imin ?_ | refine op_shl ?_ | refine op_shr ?_
      | (refine op_alloc ?_; intro _) | (refine op_box ?_; intro _) | (refine op_buildSlice ?_; intro _) | (refine op_farith ?_; intro _ _) | refine op_store0 ?_ | refine op_store1 ?_ | refine op_store2 ?_ | refine op_store3 ?_
      | refine op_store4 ?_ | refine op_store5 ?_ | refine tc_cond_t ?_ | refine tc_cond_f ?_ | refine tc_cond (fun _ => ?_) (fun _ => ?_) | refine tc_block ?_ | refine tc_skip ?_ | refine tc_ret ?_
      | refine tc_exit ?_ | refine tc_label ?_ | refine at_seq_ret ?_ | refine at_seq_exit ?_ | refine at_block_normal ?_ | refine at_block_ret ?_ | refine at_block_exit_self ?_ | refine at_block_exit_ne ?_
      | refine at_loop_ret ?_ | refine at_loop_exit ?_ | refine at_loop_goto ?_ | refine tl_guard_yes ?_ | refine tl_guard_no ?_ | refine tl_guard_yes' ?_ | refine tl_guard_no' ?_ | refine tl_guard_undef ?_
      | refine tl_guard_split (fun _ => ?_) (fun _ => ?_)
  rw [List.length_map] at *
  refine tc_loopK [(0, _), (3, _), (10, _), (11, _)] (by repeat (first | exact trivial | refine ⟨rfl, ?_⟩)) (fun p : Nat × Nat × List Nat => [(12, .int .i64 (p.1 : Int)), (1, .int .i64 (p.2.1 : Int))]) (fun p => (kb, Obj.cells ⟨p.2.2.map fl ++ sp⟩ T (0, 0)) :: H)
    (fun p => p.1 ≤ es.length ∧ p.2.2.length = xs.length ∧ AscN s p.2.1 (es.drop p.1) xs.length ∧ revEnds s p.2.2 p.2.1 (es.drop p.1) = revEnds s xs 0 es) (fun p => es.length - p.1)
    (0, 0, xs) ⟨Nat.zero_le _, rfl, hasc, rfl⟩ ⟨rfl, rfl, trivial⟩ (List.Sublist.refl _) ?_
  rintro ⟨j, off, zs⟩ ⟨h1, h2, h3, h4⟩
  simp only at h1 h2 h3 h4 ⊢
  by_cases hlt : j < es.length
  · have hbb : icmp .lss (j : Int) (es.length : Int) = true := by rw [lss_nat]; simpa using hlt
    have hget : es[j]? = some es[j] := List.getElem?_eq_getElem hlt
    rw [List.drop_eq_getElem_cons hlt] at h3 h4
    obtain ⟨ho, hd, h3⟩ := h3
    rw [revEnds] at h4
    have hel := h3.le
    obtain ⟨kk, o, L, T2, fz, cp, e1, hm, hcut, _⟩ := hie.at (i := j) (x := (es[j] : Int)) (by rw [List.getElem?_map, hget]; rfl)
    rw [List.length_map] at e1
    generalize es[j] = e at *
    cases e1
    repeat' first
      | (first | refine tl_defer ?_ | refine tc_seq ?_ | refine tc_region ?_ | refine at_seq_normal ?_ | refine tl_nil ?_ | refine tl_cons ?_ | refine tl_cons_none ?_ | refine op_move ?_ | refine op_assign ?_ | refine op_fieldAddr ?_ | refine op_load ?_ | refine op_load_agg ?_ | refine op_indexC ?_ | refine op_indexAddr1 ?_ | refine op_indexAddr ?_ | refine op_icmp ?_ | refine op_fcmp ?_ | refine op_iarith ?_ | refine op_bcmp ?_ | refine op_unop_not ?_ | refine op_unop_neg_float ?_ | refine op_unop_neg_int ?_ | refine op_len_slice ?_ | refine op_pick_true ?_ | refine op_pick_false ?_ | refine op_pick_true' ?_ | refine op_pick_false' ?_ | refine op_build ?_ | refine op_extract ?_ | refine op_makeInterface ?_ | refine op_typeAssert ?_ | refine op_ptr_nil ?_ | refine op_nilCheck_ptr ?_ | refine op_nilCheck_meth ?_ | refine op_makeMeth ?_ | refine op_makeFunc ?_ | refine op_itof ?_ | refine op_itoi ?_ | refine op_ftoi ?_ | refine op_iquo ?_ | refine op_irem ?_ | refine op_ibits ?_ | refine op_slice_isnil ?_ | refine op_slice_notnil ?_ | refine op_imax ?_ | refine op_imin ?_ | refine op_shl ?_ | refine op_shr ?_ | (refine op_alloc ?_; intro _) | (refine op_box ?_; intro _) | (refine op_buildSlice ?_; intro _) | (refine op_farith ?_; intro _ _) | refine op_store0 ?_ | refine op_store1 ?_ | refine op_store2 ?_ | refine op_store3 ?_ | refine op_store4 ?_ | refine op_store5 ?_ | refine tc_cond_t ?_ | refine tc_cond_f ?_ | refine tc_cond (fun _ => ?_) (fun _ => ?_) | refine tc_block ?_ | refine tc_skip ?_ | refine tc_ret ?_ | refine tc_exit ?_ | refine tc_label ?_ | refine at_seq_ret ?_ | refine at_seq_exit ?_ | refine at_block_normal ?_ | refine at_block_ret ?_ | refine at_block_exit_self ?_ | refine at_block_exit_ne ?_ | refine at_loop_ret ?_ | refine at_loop_exit ?_ | refine at_loop_goto ?_ | refine tl_guard_yes ?_ | refine tl_guard_no ?_ | refine tl_guard_yes' ?_ | refine tl_guard_no' ?_ | refine tl_guard_undef ?_ | refine tl_guard_split (fun _ => ?_) (fun _ => ?_))
      | (rw [← h2]; refine op_call ((reverse1 kb cap zs sp T off e s H hs (by omega) ho (by omega) hs2).mono ?_); rintro _ _ ⟨rfl, rfl⟩)
    exact at_loopK (j + 1, e, revLoop s (e + 1) zs (off + s) e) ⟨hlt, by simp only [revLoop_len, h2], by simp only [h2]; exact h3, h4⟩ (by simp only; omega) ⟨next_nat (by omega), rfl, trivial⟩ (by repeat (first | exact trivial | refine ⟨rfl, ?_⟩)) (List.Sublist.refl _)
  · have hbb : icmp .lss (j : Int) (es.length : Int) = false := by rw [lss_nat]; simpa using hlt
    rw [List.drop_of_length_le (by omega), revEnds] at h4
    repeat'
      first
        | refine tl_defer ?_ | refine tc_seq ?_ | refine tc_region ?_ | refine at_seq_normal ?_ | refine tl_nil ?_ | refine tl_cons ?_ | refine tl_cons_none ?_ | refine op_move ?_
        | refine op_assign ?_ | refine op_fieldAddr ?_ | refine op_load ?_ | refine op_load_agg ?_ | refine op_indexC ?_ | refine op_indexAddr1 ?_ | refine op_indexAddr ?_ | refine op_icmp ?_
        | refine op_fcmp ?_ | refine op_iarith ?_ | refine op_bcmp ?_ | refine op_unop_not ?_ | refine op_unop_neg_float ?_ | refine op_unop_neg_int ?_ | refine op_len_slice ?_ | refine op_pick_true ?_
        | refine op_pick_false ?_ | refine op_pick_true' ?_ | refine op_pick_false' ?_ | refine op_build ?_ | refine op_extract ?_ | refine op_makeInterface ?_ | refine op_typeAssert ?_ | refine op_ptr_nil ?_
        | refine op_nilCheck_ptr ?_ | refine op_nilCheck_meth ?_ | refine op_makeMeth ?_ | refine op_makeFunc ?_ | refine op_itof ?_ | refine op_itoi ?_ | refine op_ftoi ?_ | refine op_iquo ?_
        | refine op_irem ?_ | refine op_ibits ?_ | refine op_slice_isnil ?_ | refine op_slice_notnil ?_ | refine op_imax ?_ | refine op_imin ?_ | refine op_shl ?_ | refine op_shr ?_
        | (refine op_alloc ?_; intro _) | (refine op_box ?_; intro _) | (refine op_buildSlice ?_; intro _) | (refine op_farith ?_; intro _ _) | refine op_store0 ?_ | refine op_store1 ?_ | refine op_store2 ?_ | refine op_store3 ?_
        | refine op_store4 ?_ | refine op_store5 ?_ | refine tc_cond_t ?_ | refine tc_cond_f ?_ | refine tc_cond (fun _ => ?_) (fun _ => ?_) | refine tc_block ?_ | refine tc_skip ?_ | refine tc_ret ?_
        | refine tc_exit ?_ | refine tc_label ?_ | refine at_seq_ret ?_ | refine at_seq_exit ?_ | refine at_block_normal ?_ | refine at_block_ret ?_ | refine at_block_exit_self ?_ | refine at_block_exit_ne ?_
        | refine at_loop_ret ?_ | refine at_loop_exit ?_ | refine at_loop_goto ?_ | refine tl_guard_yes ?_ | refine tl_guard_no ?_ | refine tl_guard_yes' ?_ | refine tl_guard_no' ?_ | refine tl_guard_undef ?_
        | refine tl_guard_split (fun _ => ?_) (fun _ => ?_)
    exact ret_none (hk := ⟨rfl, by rw [h4]⟩) (hG := List.Sublist.refl _)

theorem doorReverse2 (kb cap : Nat) (xs : List Nat) (sp : List Value) (T : TypeId) (ae : Option Addr) (ce : Nat) (es : List Nat) (s : Nat) (H : Heap) (hs : 0 < s) (hie : IS H (.slice ae (es.map Int.ofNat).length ce) (es.map Int.ofNat))
    (hasc : AscN s 0 es xs.length) (hb : xs.length < 2 ^ 40) (hs2 : s < 2 ^ 40) (hbe : es.length < 2 ^ 40) :
    Does Try.prog 29 [.slice (some ⟨kb, 0, none⟩) xs.length cap, .slice ae (es.map Int.ofNat).length ce, .int .i64 (s : Int)] ((kb, .cells ⟨xs.map fl ++ sp⟩ T (0, 0)) :: H)
      fun w H' => w = .tuple #[] ∧ H' = (kb, .cells ⟨(revEnds s xs 0 es).map fl ++ sp⟩ T (0, 0)) :: H := by
  refine fn_enter 10 Try.func29 fun W => ?_
  repeat' first
    | (first | refine tl_defer ?_ | refine tc_seq ?_ | refine tc_region ?_ | refine at_seq_normal ?_ | refine tl_nil ?_ | refine tl_cons ?_ | refine tl_cons_none ?_ | refine op_move ?_ | refine op_assign ?_ | refine op_fieldAddr ?_ | refine op_load ?_ | refine op_load_agg ?_ | refine op_indexC ?_ | refine op_indexAddr1 ?_ | refine op_indexAddr ?_ | refine op_icmp ?_ | refine op_fcmp ?_ | refine op_iarith ?_ | refine op_bcmp ?_ | refine op_unop_not ?_ | refine op_unop_neg_float ?_ | refine op_unop_neg_int ?_ | refine op_len_slice ?_ | refine op_pick_true ?_ | refine op_pick_false ?_ | refine op_pick_true' ?_ | refine op_pick_false' ?_ | refine op_build ?_ | refine op_extract ?_ | refine op_makeInterface ?_ | refine op_typeAssert ?_ | refine op_ptr_nil ?_ | refine op_nilCheck_ptr ?_ | refine op_nilCheck_meth ?_ | refine op_makeMeth ?_ | refine op_makeFunc ?_ | refine op_itof ?_ | refine op_itoi ?_ | refine op_ftoi ?_ | refine op_iquo ?_ | refine op_irem ?_ | refine op_ibits ?_ | refine op_slice_isnil ?_ | refine op_slice_notnil ?_ | refine op_imax ?_ | refine op_imin ?_ | refine op_shl ?_ | refine op_shr ?_ | (refine op_alloc ?_; intro _) | (refine op_box ?_; intro _) | (refine op_buildSlice ?_; intro _) | (refine op_farith ?_; intro _ _) | refine op_store0 ?_ | refine op_store1 ?_ | refine op_store2 ?_ | refine op_store3 ?_ | refine op_store4 ?_ | refine op_store5 ?_ | refine tc_cond_t ?_ | refine tc_cond_f ?_ | refine tc_cond (fun _ => ?_) (fun _ => ?_) | refine tc_block ?_ | refine tc_skip ?_ | refine tc_ret ?_ | refine tc_exit ?_ | refine tc_label ?_ | refine at_seq_ret ?_ | refine at_seq_exit ?_ | refine at_block_normal ?_ | refine at_block_ret ?_ | refine at_block_exit_self ?_ | refine at_block_exit_ne ?_ | refine at_loop_ret ?_ | refine at_loop_exit ?_ | refine at_loop_goto ?_ | refine tl_guard_yes ?_ | refine tl_guard_no ?_ | refine tl_guard_yes' ?_ | refine tl_guard_no' ?_ | refine tl_guard_undef ?_ | refine tl_guard_split (fun _ => ?_) (fun _ => ?_))
    | (refine op_call ((reverse2 kb cap xs sp T ae ce es s H hs hie hasc hb hs2 hbe).mono ?_); rintro _ _ ⟨rfl, rfl⟩)
  exact ret_none (hk := ⟨rfl, rfl⟩) (hG := List.Sublist.refl _)
end Go.Proofs.Ytlgbjidbjijepaa.Rev
