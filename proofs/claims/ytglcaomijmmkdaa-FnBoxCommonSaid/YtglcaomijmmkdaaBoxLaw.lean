/-
  FnBoxCommon: two boxes of one layout from XY to 9 (no NaN, none of them empty) overlap just if the place of the greater one of their least numbers on each axis is in both. No conditions beyond the statement's own.
-/
import Derived.Test.YtglcaomijmmkdaaBoxCommon
set_option linter.unusedVariables false
set_option linter.unusedSimpArgs false
namespace Go.Proofs.Ytglcaomijmmkdaa.fnBoxCommon
open Go.Lg Go.Proofs.Ytglcaomijmmkdaa.Bxs Go.Proofs.Ytglcaomijmmkdaa.Bxs2
open Go.ChangeShapes Go.WideShapes Go.RowKit

theorem pair_in {b c : Bx} {p : Bx → Prop} (h : ∀ x ∈ [b, c], p x) : p b ∧ p c := ⟨h b (by simp), h c (by simp)⟩
theorem of_pair {b c : Bx} {p : Bx → Prop} (h1 : p b) (h2 : p c) : ∀ x ∈ [b, c], p x := by
  intro x hx
  simp only [List.mem_cons, List.not_mem_nil, or_false] at hx
  rcases hx with rfl | rfl
  · exact h1
  · exact h2

set_option maxHeartbeats 8000000 in
theorem law {H : Heap} (n1 : Int) (vl1 vh1 : Value) (lo1 hi1 : List Nat) (f1 : FS H vl1 lo1) (g1 : FS H vh1 hi1) (n2 : Int) (vl2 vh2 : Value) (lo2 hi2 : List Nat) (f2 : FS H vl2 lo2) (g2 : FS H vh2 hi2) :
    Does Try.prog 4 [.agg #[.int .i64 n1, vl1, vh1], .agg #[.int .i64 n2, vl2, vh2]] H fun w H' => w = .bool true ∧ H' = H := by
  refine fn_enter 104 Try.func4 fun W => ?_
  repeat' first
    | (first | refine tl_defer ?_ | refine tc_seq ?_ | refine tc_region ?_ | refine at_seq_normal ?_ | refine tl_nil ?_ | refine tl_cons ?_ | refine tl_cons_none ?_ | refine op_move ?_ | refine op_assign ?_ | refine op_fieldAddr ?_ | refine op_load ?_ | refine op_load_agg ?_ | refine op_indexC ?_ | refine op_indexAddr1 ?_ | refine op_indexAddr ?_ | refine op_icmp ?_ | refine op_fcmp ?_ | refine op_iarith ?_ | refine op_bcmp ?_ | refine op_unop_not ?_ | refine op_unop_neg_float ?_ | refine op_unop_neg_int ?_ | refine op_len_slice ?_ | refine op_pick_true ?_ | refine op_pick_false ?_ | refine op_pick_true' ?_ | refine op_pick_false' ?_ | refine op_build ?_ | refine op_extract ?_ | refine op_makeInterface ?_ | refine op_typeAssert ?_ | refine op_ptr_nil ?_ | refine op_nilCheck_ptr ?_ | refine op_nilCheck_meth ?_ | refine op_makeMeth ?_ | refine op_makeFunc ?_ | refine op_itof ?_ | refine op_itoi ?_ | refine op_ftoi ?_ | (refine op_alloc ?_; intro _) | (refine op_box ?_; intro _) | (refine op_buildSlice ?_; intro _) | (refine op_farith ?_; intro _ _) | refine op_store0 ?_ | refine op_store1 ?_ | refine op_store2 ?_ | refine op_store3 ?_ | refine op_store4 ?_ | refine op_store5 ?_ | refine tc_cond_t ?_ | refine tc_cond_f ?_ | refine tc_cond (fun _ => ?_) (fun _ => ?_) | refine tc_block ?_ | refine tc_skip ?_ | refine tc_ret ?_ | refine tc_exit ?_ | refine tc_label ?_ | refine at_seq_ret ?_ | refine at_seq_exit ?_ | refine at_block_normal ?_ | refine at_block_ret ?_ | refine at_block_exit_self ?_ | refine at_block_exit_ne ?_ | refine at_loop_ret ?_ | refine at_loop_exit ?_ | refine tl_guard_yes ?_ | refine tl_guard_no ?_ | refine tl_guard_yes' ?_ | refine tl_guard_no' ?_ | refine tl_guard_split (fun _ => ?_) (fun _ => ?_))
    | (refine op_call ((zzFits1 ⟨n1, vl1, vh1, lo1, hi1⟩ _ ⟨f1.mono fun e he => by simp [he], g1.mono fun e he => by simp [he]⟩).mono ?_); rintro _ _ ⟨⟨c1, rfl, s1⟩, rfl⟩; rcases c1 with _ | _)
    | (refine op_call ((zzFits1 ⟨n2, vl2, vh2, lo2, hi2⟩ _ ⟨f2.mono fun e he => by simp [he], g2.mono fun e he => by simp [he]⟩).mono ?_); rintro _ _ ⟨⟨c2, rfl, s2⟩, rfl⟩; rcases c2 with _ | _)
    | (refine op_call ((bBox _ [⟨n1, vl1, vh1, lo1, hi1⟩, ⟨n2, vl2, vh2, lo2, hi2⟩] _ _ _ (by simp) (of_pair ⟨f1.mono fun e he => by simp [he], g1.mono fun e he => by simp [he]⟩ ⟨f2.mono fun e he => by simp [he], g2.mono fun e he => by simp [he]⟩)
        (of_pair (by have := s1 rfl; simp only at this ⊢; omega) (by have := s2 rfl; simp only at this ⊢; omega)) (by (first | exact mem0 | exact mem1 | exact mem2 | exact mem3 | exact mem4 | exact mem5 | exact mem6 | exact mem7 | exact mem8 | exact mem9 | assumption | (refine Sub.mem (by assumption) ?_; first | exact mem0 | exact mem1 | exact mem2 | exact mem3 | exact mem4 | exact mem5 | exact mem6 | exact mem7 | exact mem8 | exact mem9 | assumption) | ((repeat (apply List.mem_cons_of_mem)); first | assumption | (refine Sub.mem (by assumption) ?_; assumption))))).mono ?_); rintro _ _ ⟨⟨c3, rfl, s3⟩, rfl⟩; rcases c3 with _ | _)
    | (refine op_call ((bFull _ [⟨n1, vl1, vh1, lo1, hi1⟩, ⟨n2, vl2, vh2, lo2, hi2⟩] _ _ _ (by simp) (of_pair ⟨f1.mono fun e he => by simp [he], g1.mono fun e he => by simp [he]⟩ ⟨f2.mono fun e he => by simp [he], g2.mono fun e he => by simp [he]⟩)
        (of_pair (by have := s1 rfl; have := (pair_in (s3 rfl)).1.2.2.2.1; simp only at *; omega) (by have := s2 rfl; have := (pair_in (s3 rfl)).2.2.2.2.1; simp only at *; omega)) (by (first | exact mem0 | exact mem1 | exact mem2 | exact mem3 | exact mem4 | exact mem5 | exact mem6 | exact mem7 | exact mem8 | exact mem9 | assumption | (refine Sub.mem (by assumption) ?_; first | exact mem0 | exact mem1 | exact mem2 | exact mem3 | exact mem4 | exact mem5 | exact mem6 | exact mem7 | exact mem8 | exact mem9 | assumption) | ((repeat (apply List.mem_cons_of_mem)); first | assumption | (refine Sub.mem (by assumption) ?_; assumption))))).mono ?_); rintro _ _ ⟨⟨c4, rfl, s4⟩, rfl⟩; rcases c4 with _ | _)
  all_goals first
    | exact ret_tmp (hk := ⟨rfl, rfl⟩)
    | skip
  rename_i kb ka _ _ w1 w0
  obtain ⟨G1, G2⟩ := pair_in (s3 rfl)
  obtain ⟨F1, F2⟩ := pair_in (s4 rfl)
  have hn : n1 = n2 := by simpa [icmp] using w1
  have hn1 : 1 ≤ n1 := by simp only [icmp, decide_eq_false_iff_not] at w0; omega
  subst hn
  have L1 := (s1 rfl).1
  have e2 := G1.2.2.2.1
  have e3 : lo2.length = lo1.length := by have h1 := G1.2.2.1; have h2 := G2.2.2.1; simp only at h1 h2; omega
  have e4 := G2.2.2.2.1
  have hs : strideG n1 = (lo1.length : Int) := by rw [strideG_eq hn1]; exact G1.2.2.1.symm
  have hd0 : 0 < lo1.length ∧ lo1.length < 1000000 := by
    have h1 := G1.2.2.1; have h2 := G1.2.1; simp only at h1 h2
    unfold strideI at h1
    split at h1 <;> (repeat' split at h1) <;> omega
  simp only at L1 e2 e4
  obtain ⟨a1, q1, rfl⟩ := f1.val
  obtain ⟨a2, q2, rfl⟩ := f2.val
  repeat'
    first
      | refine tl_defer ?_ | refine tc_seq ?_ | refine tc_region ?_ | refine at_seq_normal ?_ | refine tl_nil ?_ | refine tl_cons ?_ | refine tl_cons_none ?_ | refine op_move ?_
      | refine op_assign ?_ | refine op_fieldAddr ?_ | refine op_load ?_ | refine op_load_agg ?_ | refine op_indexC ?_ | refine op_indexAddr1 ?_ | refine op_indexAddr ?_ | refine op_icmp ?_
      | refine op_fcmp ?_ | refine op_iarith ?_ | refine op_bcmp ?_ | refine op_unop_not ?_ | refine op_unop_neg_float ?_ | refine op_unop_neg_int ?_ | refine op_len_slice ?_ | refine op_pick_true ?_
      | refine op_pick_false ?_ | refine op_pick_true' ?_ | refine op_pick_false' ?_ | refine op_build ?_ | refine op_extract ?_ | refine op_makeInterface ?_ | refine op_typeAssert ?_ | refine op_ptr_nil ?_
      | refine op_nilCheck_ptr ?_ | refine op_nilCheck_meth ?_ | refine op_makeMeth ?_ | refine op_makeFunc ?_ | refine op_itof ?_ | refine op_itoi ?_ | refine op_ftoi ?_ | (refine op_alloc ?_; intro _)
      | (refine op_box ?_; intro _) | (refine op_buildSlice ?_; intro _) | (refine op_farith ?_; intro _ _) | refine op_store0 ?_ | refine op_store1 ?_ | refine op_store2 ?_ | refine op_store3 ?_ | refine op_store4 ?_
      | refine op_store5 ?_ | refine tc_cond_t ?_ | refine tc_cond_f ?_ | refine tc_cond (fun _ => ?_) (fun _ => ?_) | refine tc_block ?_ | refine tc_skip ?_ | refine tc_ret ?_ | refine tc_exit ?_
      | refine tc_label ?_ | refine at_seq_ret ?_ | refine at_seq_exit ?_ | refine at_block_normal ?_ | refine at_block_ret ?_ | refine at_block_exit_self ?_ | refine at_block_exit_ne ?_ | refine at_loop_ret ?_
      | refine at_loop_exit ?_ | refine tl_guard_yes ?_ | refine tl_guard_no ?_ | refine tl_guard_yes' ?_ | refine tl_guard_no' ?_ | refine tl_guard_split (fun _ => ?_) (fun _ => ?_)
  refine tc_loop (fun j : Nat × Buf × List Nat => [(2, .pointer (some ⟨kb, 0, none⟩)), (3, .pointer (some ⟨ka, 0, none⟩)), (5, bufV j.2.1 j.1), (47, .slice a1 lo1.length q1), (48, .int .i64 lo1.length), (49, .int .i64 (j.1 : Int))])
    (fun j => bufH 32 j.2.1 (j.2.2.map fl) ((ka, Obj.cells ⟨[.int .i64 n1, .slice a2 lo2.length q2, vh2]⟩ 29 (0, 0)) :: (kb, Obj.cells ⟨[.int .i64 n1, .slice a1 lo1.length q1, vh1]⟩ 29 (0, 0)) :: H))
    (fun j => j.1 ≤ lo1.length ∧ bufOk 1 j.2.1 j.1 (j.2.2.map fl) ∧ j.2.2.length = j.1 ∧ ∀ i, i < j.1 → Kx (j.2.2.getD i 0) (rmax (kk (lo1.getD i 0)) (kk (lo2.getD i 0)))) (fun j => lo1.length - j.1) (0, none, []) ⟨Nat.zero_le _, ⟨rfl, rfl⟩, rfl, fun i h => by simp only at h; omega⟩
    (Incl.get ⟨rfl, rfl, rfl, rfl, rfl, rfl, trivial⟩) (by (repeat (first | exact List.Sublist.refl _ | apply List.Sublist.cons_cons | apply List.Sublist.cons))) ?_
  rintro ⟨j, buf, ps⟩ ⟨hj, hok, hpl, hpk⟩
  simp only at hj hok hpl hpk ⊢
  by_cases hlt : j < lo1.length
  · have hb : icmp .lss (j : Int) (lo1.length : Int) = true := by rw [lss_nat]; simpa using hlt
    have t1 : lo1[j]? = some lo1[j] := List.getElem?_eq_getElem hlt
    have t2 : lo2[j]? = some lo2[j] := List.getElem?_eq_getElem (by omega)
    have r1 := getD_of t1
    have r2 := getD_of t2
    have kx1 : Kx lo1[j] (kk (lo1.getD j 0)) := by rw [← r1]; exact kk_spec (G1.2.2.2.2 j hlt).1
    have kx2 : Kx lo2[j] (kk (lo2.getD j 0)) := by rw [← r2]; exact kk_spec (G2.2.2.2.2 j (by simp only; omega)).1
    have hka : (ka, Obj.cells ⟨[.int .i64 n1, .slice a2 lo2.length q2, vh2]⟩ 29 (0, 0)) ∈ bufH 32 buf (ps.map fl) ((ka, Obj.cells ⟨[.int .i64 n1, .slice a2 lo2.length q2, vh2]⟩ 29 (0, 0)) :: (kb, Obj.cells ⟨[.int .i64 n1, .slice a1 lo1.length q1, vh1]⟩ 29 (0, 0)) :: H) := (bufH_sub _ _ _ _).subset (by simp)
    obtain ⟨k1, o1, l1, T1, z1, _, u1, mm1, ll1, lt1⟩ := f1.at t1
    cases u1
    obtain ⟨k2, o2, l2, T2, z2, _, u2, mm2, ll2, lt2⟩ := f2.at t2
    cases u2
    have hm1 := (bufH_sub 32 buf (ps.map fl) ((ka, Obj.cells ⟨[.int .i64 n1, .slice (some ⟨k2, o2, none⟩) lo2.length q2, vh2]⟩ 29 (0, 0)) :: (kb, Obj.cells ⟨[.int .i64 n1, .slice (some ⟨k1, o1, none⟩) lo1.length q1, vh1]⟩ 29 (0, 0)) :: H)).subset (List.mem_cons_of_mem _ (List.mem_cons_of_mem _ mm1))
    have hm2 := (bufH_sub 32 buf (ps.map fl) ((ka, Obj.cells ⟨[.int .i64 n1, .slice (some ⟨k2, o2, none⟩) lo2.length q2, vh2]⟩ 29 (0, 0)) :: (kb, Obj.cells ⟨[.int .i64 n1, .slice (some ⟨k1, o1, none⟩) lo1.length q1, vh1]⟩ 29 (0, 0)) :: H)).subset (List.mem_cons_of_mem _ (List.mem_cons_of_mem _ mm2))
    repeat' first
      | (first | refine tl_defer ?_ | refine tc_seq ?_ | refine tc_region ?_ | refine at_seq_normal ?_ | refine tl_nil ?_ | refine tl_cons ?_ | refine tl_cons_none ?_ | refine op_move ?_ | refine op_assign ?_ | refine op_fieldAddr ?_ | refine op_load ?_ | refine op_load_agg ?_ | refine op_indexC ?_ | refine op_indexAddr1 ?_ | refine op_indexAddr ?_ | refine op_icmp ?_ | refine op_fcmp ?_ | refine op_iarith ?_ | refine op_bcmp ?_ | refine op_unop_not ?_ | refine op_unop_neg_float ?_ | refine op_unop_neg_int ?_ | refine op_len_slice ?_ | refine op_pick_true ?_ | refine op_pick_false ?_ | refine op_pick_true' ?_ | refine op_pick_false' ?_ | refine op_build ?_ | refine op_extract ?_ | refine op_makeInterface ?_ | refine op_typeAssert ?_ | refine op_ptr_nil ?_ | refine op_nilCheck_ptr ?_ | refine op_nilCheck_meth ?_ | refine op_makeMeth ?_ | refine op_makeFunc ?_ | refine op_itof ?_ | refine op_itoi ?_ | refine op_ftoi ?_ | (refine op_alloc ?_; intro _) | (refine op_box ?_; intro _) | (refine op_buildSlice ?_; intro _) | (refine op_farith ?_; intro _ _) | refine op_store0 ?_ | refine op_store1 ?_ | refine op_store2 ?_ | refine op_store3 ?_ | refine op_store4 ?_ | refine op_store5 ?_ | refine tc_cond_t ?_ | refine tc_cond_f ?_ | refine tc_cond (fun _ => ?_) (fun _ => ?_) | refine tc_block ?_ | refine tc_skip ?_ | refine tc_ret ?_ | refine tc_exit ?_ | refine tc_label ?_ | refine at_seq_ret ?_ | refine at_seq_exit ?_ | refine at_block_normal ?_ | refine at_block_ret ?_ | refine at_block_exit_self ?_ | refine at_block_exit_ne ?_ | refine at_loop_ret ?_ | refine at_loop_exit ?_ | refine tl_guard_yes ?_ | refine tl_guard_no ?_ | refine tl_guard_yes' ?_ | refine tl_guard_no' ?_ | refine tl_guard_split (fun _ => ?_) (fun _ => ?_))
      | (refine op_kmax ?_; intro r hr)
      | (refine op_append buf j (ps.map fl) [.float .f64 _] (m := 1) hok (fun buf' hok' => ?_) (by exact rfl) (by exact rfl) (List.sublist_cons_self _ _) List.mem_cons_self rfl rfl (by simp [Value.oneCell']) (by decide) (by simp only [maxLen]; omega) (by omega))
    refine at_loop_normal (j + 1, buf', ps ++ [r]) ⟨hlt, by rw [List.map_append]; exact hok', by simp [hpl], fun i hi => ?_⟩ (by show _ - _ < _ - _; omega) (Incl.get ⟨rfl, rfl, rfl, rfl, rfl, next_nat (by omega), trivial⟩) (by rw [List.map_append]; exact List.Sublist.refl _)
    simp only at hi ⊢
    by_cases hij : i < j
    · have := hpk i hij
      rw [List.getD_eq_getElem?_getD, List.getElem?_append_left (by omega), ← List.getD_eq_getElem?_getD]; exact this
    · have hij' : i = ps.length := by omega
      subst hij'
      rw [List.getD_eq_getElem?_getD, List.getElem?_append_right (by omega)]
      simp only [Nat.sub_self, List.getElem?_cons_zero, Option.getD_some]
      rw [hpl]; exact hr
  · have hb : icmp .lss (j : Int) (lo1.length : Int) = false := by rw [lss_nat]; simpa using hlt
    have hjl : j = lo1.length := by omega
    subst hjl
    have hfs := fs_buf (e := 32) (H := (ka, Obj.cells ⟨[.int .i64 n1, .slice a2 lo2.length q2, vh2]⟩ 29 (0, 0)) :: (kb, Obj.cells ⟨[.int .i64 n1, .slice a1 lo1.length q1, vh1]⟩ 29 (0, 0)) :: H) hok
    have hka := (bufH_sub 32 buf (ps.map fl) ((ka, Obj.cells ⟨[.int .i64 n1, .slice a2 lo2.length q2, vh2]⟩ 29 (0, 0)) :: (kb, Obj.cells ⟨[.int .i64 n1, .slice a1 lo1.length q1, vh1]⟩ 29 (0, 0)) :: H)).subset (List.mem_cons_self)
    have hkb := (bufH_sub 32 buf (ps.map fl) ((ka, Obj.cells ⟨[.int .i64 n1, .slice a2 lo2.length q2, vh2]⟩ 29 (0, 0)) :: (kb, Obj.cells ⟨[.int .i64 n1, .slice a1 lo1.length q1, vh1]⟩ 29 (0, 0)) :: H)).subset (List.mem_cons_of_mem _ List.mem_cons_self)
    have c1 := common G1 G2 F1 F2 rfl e3 hpk
    repeat' first
      | (first | refine tl_defer ?_ | refine tc_seq ?_ | refine tc_region ?_ | refine at_seq_normal ?_ | refine tl_nil ?_ | refine tl_cons ?_ | refine tl_cons_none ?_ | refine op_move ?_ | refine op_assign ?_ | refine op_fieldAddr ?_ | refine op_load ?_ | refine op_load_agg ?_ | refine op_indexC ?_ | refine op_indexAddr1 ?_ | refine op_indexAddr ?_ | refine op_icmp ?_ | refine op_fcmp ?_ | refine op_iarith ?_ | refine op_bcmp ?_ | refine op_unop_not ?_ | refine op_unop_neg_float ?_ | refine op_unop_neg_int ?_ | refine op_len_slice ?_ | refine op_pick_true ?_ | refine op_pick_false ?_ | refine op_pick_true' ?_ | refine op_pick_false' ?_ | refine op_build ?_ | refine op_extract ?_ | refine op_makeInterface ?_ | refine op_typeAssert ?_ | refine op_ptr_nil ?_ | refine op_nilCheck_ptr ?_ | refine op_nilCheck_meth ?_ | refine op_makeMeth ?_ | refine op_makeFunc ?_ | refine op_itof ?_ | refine op_itoi ?_ | refine op_ftoi ?_ | (refine op_alloc ?_; intro _) | (refine op_box ?_; intro _) | (refine op_buildSlice ?_; intro _) | (refine op_farith ?_; intro _ _) | refine op_store0 ?_ | refine op_store1 ?_ | refine op_store2 ?_ | refine op_store3 ?_ | refine op_store4 ?_ | refine op_store5 ?_ | refine tc_cond_t ?_ | refine tc_cond_f ?_ | refine tc_cond (fun _ => ?_) (fun _ => ?_) | refine tc_block ?_ | refine tc_skip ?_ | refine tc_ret ?_ | refine tc_exit ?_ | refine tc_label ?_ | refine at_seq_ret ?_ | refine at_seq_exit ?_ | refine at_block_normal ?_ | refine at_block_ret ?_ | refine at_block_exit_self ?_ | refine at_block_exit_ne ?_ | refine at_loop_ret ?_ | refine at_loop_exit ?_ | refine tl_guard_yes ?_ | refine tl_guard_no ?_ | refine tl_guard_yes' ?_ | refine tl_guard_no' ?_ | refine tl_guard_split (fun _ => ?_) (fun _ => ?_))
      | (refine op_call ((boxOverlaps n1 lo1.length hs ⟨n1, _, vh1, lo1, hi1⟩ ⟨n1, _, vh2, lo2, hi2⟩ _ ⟨f1.mono fun e he => (bufH_sub _ _ _ _).subset (by simp [he]), g1.mono fun e he => (bufH_sub _ _ _ _).subset (by simp [he])⟩ ⟨f2.mono fun e he => (bufH_sub _ _ _ _).subset (by simp [he]), g2.mono fun e he => (bufH_sub _ _ _ _).subset (by simp [he])⟩ rfl e2 e3 (by simp only; omega) hd0.1 hd0.2).mono ?_); rintro _ _ ⟨rfl, rfl⟩)
      | (refine op_call ((boxOverlapsPoint n1 lo1.length hs ⟨n1, _, vh1, lo1, hi1⟩ _ ps _ ⟨f1.mono fun e he => (bufH_sub _ _ _ _).subset (by simp [he]), g1.mono fun e he => (bufH_sub _ _ _ _).subset (by simp [he])⟩ hfs rfl e2 hpl hd0.1 hd0.2).mono ?_); rintro _ _ ⟨rfl, rfl⟩)
      | (refine op_call ((boxOverlapsPoint n1 lo1.length hs ⟨n1, _, vh2, lo2, hi2⟩ _ ps _ ⟨f2.mono fun e he => (bufH_sub _ _ _ _).subset (by simp [he]), g2.mono fun e he => (bufH_sub _ _ _ _).subset (by simp [he])⟩ hfs e3 (by simp only; omega) hpl hd0.1 hd0.2).mono ?_); rintro _ _ ⟨rfl, rfl⟩)
    all_goals (first | exact ret_tmp (hG := ((List.sublist_cons_self _ _).trans (List.sublist_cons_self _ _)).trans (bufH_sub _ _ _ _)) (hk := ⟨congrArg Value.bool (by simp_all [bcmp]), rfl⟩))
theorem own : ownKnob Try.prog.godebug = none := by kernel_rfl
theorem laid : laidOutB Try.prog = true := by kernel_rfl
set_option maxRecDepth 100000 in
theorem lifted (os : Os) (started : os.Started) (H : Type) (enc : TypeId × Value → H) :
    ReturnsInHanded {} Try.checked os 4 .any (Rows.fnBoxCommonSpec.pre6 enc Try.prog Try.f4 Rows.fnBoxCommonRow.domain false) (Rows.fnBoxCommonSpec.post enc Try.prog Try.f4 false true false false) := by
  refine returnsInHanded_of_change (C := Try.checked) own started (by kernel_rfl) Try.func4
    (ChangeSpec.witness6 (enc := enc) (C := Try.checked) false ⟨#[], #[.agg #[.int .i64 0, .slice none 0 0, .slice none 0 0], .agg #[.int .i64 0, .slice none 0 0, .slice none 0 0]], []⟩ 8 (by kernel_rfl) (by kernel_rfl) (by kernel_rfl) (by kernel_rfl)) ?_
  intro W base args ds gs before hval0 hW hcnd _
  have hval : ∀ (j : Nat) t v, Try.f4.params[j]? = some t → args[j]? = some v → Value.okWide Try.prog W .any base t v := hval0
  have hW' := hW
  obtain ⟨p, q, hA0, hV, rfl, hfz, hnd⟩ := hW
  have hA : DataW.TrodAll enc Try.prog W 0 (fun _ => true) true Try.f4.params.toList args.toList ds p := hA0
  rw [Try.params4] at hA hval
  obtain ⟨v0, vs0, d0, ds0, p0, q0, hargs, rfl, rfl, h0, r0⟩ := trodAll_cons hA
  obtain ⟨v1, vs1, d1, ds1, p1, q1, rfl, rfl, rfl, h1, r1⟩ := trodAll_cons r0
  obtain ⟨rfl, rfl, rfl⟩ := trodAll_nil r1
  obtain rfl : args = #[v0, v1] := by cases args; simp_all
  obtain ⟨rfl, rfl⟩ := trodVars_none hV
  obtain ⟨n0, vl0, vh0, lo0, hi0, rfl, fl0, fh0⟩ := open_box Try.underlying29 (by kernel_rfl) (by kernel_rfl) Try.underlying3 Try.underlying22 rfl (by kernel_rfl) Try.underlying32 (hval 0 29 v0 rfl rfl) h0
  obtain ⟨n1, vl1, vh1, lo1, hi1, rfl, fl1, fh1⟩ := open_box Try.underlying29 (by kernel_rfl) (by kernel_rfl) Try.underlying3 Try.underlying22 rfl (by kernel_rfl) Try.underlying32 (hval 1 29 v1 rfl rfl) h1
  clear hA0 hval0
  refine (calls_of_does (law (H := all W) n0 vl0 vh0 lo0 hi0 fl0 fh0 n1 vl1 vh1 lo1 hi1 fl1 fh1) (sees_all W)).mono fun e W' ⟨v, H', he, hs, hv, hH⟩ => ?_
  subst he
  subst hv
  subst hH
  exact ⟨_, rfl, post_law laid (of_decide_eq_true (by kernel_rfl)) rfl hW' rfl rfl Try.underlying4 hs.below⟩
theorem over : Rows.fnBoxCommonRow.holds Try.pinned (OpenSpec.ofChange Rows.fnBoxCommonSpec) :=
  OpenClaim.holds_of_wide 4 Try.f4 rfl rfl rfl rfl rfl rfl rfl ⟨rfl, rfl, rfl, rfl, rfl⟩ rfl rfl rfl rfl rfl (by kernel_rfl) Try.func4 (by kernel_rfl)
    (of_decide_eq_true (by kernel_rfl)) (by unfold Func.isWrapper; first | (rw [if_pos (by decide +kernel)]; kernel_rfl) | (rw [if_neg (by decide +kernel)]; exact ⟨rfl, rfl⟩))
    (fun os started H enc _ => lifted os started H enc)
/-- The statement. -/
theorem proved : Rows.FnBoxCommonSaid := over
#print axioms proved
end Go.Proofs.Ytglcaomijmmkdaa.fnBoxCommon
