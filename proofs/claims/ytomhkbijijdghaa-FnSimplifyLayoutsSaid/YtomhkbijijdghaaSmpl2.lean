/-
  Simplification of a line: the code's search for the places that are kept. No conditions.
-/
import Derived.Test.YtomhkbijijdghaaSmpl
import Derived.Test.YtomhkbijijdghaaLg11
import Derived.Test.YtomhkbijijdghaaLg20
set_option linter.unusedVariables false
set_option linter.unusedSimpArgs false
namespace Go.Proofs.Ytomhkbijijdghaa.Smpl
open Go.Lg Go.Lg.Smp Go.Proofs.Ytomhkbijijdghaa.Pl

theorem stk_get (s e : Nat) (st : List (Nat × Nat)) (sp : List Value) : ((stk ((s, e) :: st)).map iv ++ sp)[0 + 2 * st.length]? = some (.int .i64 s) ∧ ((stk ((s, e) :: st)).map iv ++ sp)[0 + (2 * st.length + 1)]? = some (.int .i64 e) := by
  have hl : ((stk st).map iv).length = 2 * st.length := by rw [List.length_map, stk_len]
  simp only [stk, List.map_append, List.append_assoc, Nat.zero_add]
  constructor
  · rw [List.getElem?_append_right (by omega), hl, Nat.sub_self]; rfl
  · rw [List.getElem?_append_right (by omega), hl, Nat.add_sub_cancel_left]; rfl
theorem len_wt {n : Nat} : ∀ {st : List (Nat × Nat)}, Smp.Ok n st → st.length ≤ wt st
  | [], _ => Nat.le_refl _
  | p :: st, h => by
    have h1 := (h p List.mem_cons_self).1
    have h2 := len_wt (st := st) fun q hq => h q (List.mem_cons_of_mem _ hq)
    simp only [wt, List.length_cons]; omega
set_option maxHeartbeats 16000000 in
theorem worker (n stp : Nat) (X Y : Nat → Nat) (km k o cf cm : Nat) (L : List Value) (T Tm : TypeId) (fz : Nat × Nat) (m : List Nat) (thr : Nat) (H : Heap) (hm : (k, Obj.cells ⟨L⟩ T fz) ∈ H) (hn3 : 3 ≤ n) (hn : n ≤ 60) (hs2 : 2 ≤ stp) (hs8 : stp ≤ 8) (hc : n * stp ≤ cf)
    (hXY : ∀ i, i < n → L[o + i * stp]? = some (.float .f64 (X i)) ∧ L[o + i * stp + 1]? = some (.float .f64 (Y i))) (hW : ∀ i, i < n → (∃ z, FI 8192 (X i) z) ∧ ∃ z, FI 8192 (Y i) z)
    (hml : m.length = n) (hmc : n ≤ cm) (hthr : FB .mul thr thr) (h0 : fcmp .gtr 0 (fop .mul thr thr) = false) :
    Does Try.prog 113 [.slice (some ⟨k, o, none⟩) (n * stp) cf, .float .f64 thr, .slice (some ⟨km, 0, none⟩) n cm, .int .i64 (stp : Int)] ((km, .cells ⟨m.map bv⟩ Tm (0, 0)) :: H) fun w H' =>
      ∃ fd : Nat, w = .int .i64 (fd : Int) ∧ fd ≤ 200 ∧ H' = (km, .cells ⟨(fin (fun s e i => dsq (X s) (Y s) (X e) (Y e) (X i) (Y i)) (fop .mul thr thr) (wt [(0, n - 1)]) [(0, n - 1)] m).map bv⟩ Tm (0, 0)) :: H := by
  generalize hD : (fun s e i => dsq (X s) (Y s) (X e) (Y e) (X i) (Y i)) = D
  generalize hF : fin D (fop .mul thr thr) (wt [(0, n - 1)]) [(0, n - 1)] m = F
  have hdiv : IntKind.i64.wrap (((n * stp : Nat) : Int).tdiv (stp : Int)) = (n : Int) := by
    have e : ((n * stp : Nat) : Int).tdiv (stp : Int) = ((n * stp / stp : Nat) : Int) := (Int.ofNat_tdiv _ _).symm
    rw [e, Nat.mul_div_cancel _ (by omega)]
    exact wrap_in (by omega) (by omega)
  have hsne : ((stp : Nat) : Int) ≠ 0 := by omega
  have hn1 : IntKind.i64.wrap (iarith .sub (n : Int) 1) = ((n - 1 : Nat) : Int) := by rw [wrap_sub (by omega) (by omega)]; omega
  refine fn_enter 116 Try.func113 fun W => ?_
  repeat' first
    | (refine op_iquo ?_; rw [hdiv])
    | (refine op_iarith ?_; rw [hn1])
    | (refine op_append none 0 [] [iv 0, iv ((n - 1 : Nat) : Int)] (m := 2) ⟨rfl, rfl⟩ (fun buf0 hok0 => ?_) (by exact rfl) (by exact rfl) (H' := (km, .cells ⟨m.map bv⟩ Tm (0, 0)) :: H) (List.sublist_cons_self _ _) mem0 rfl rfl (by intro u hu; simp only [List.mem_cons, List.not_mem_nil, or_false] at hu; rcases hu with rfl | rfl <;> rfl) (by decide) (by decide) (by decide))
    | (first | refine tl_defer ?_ | refine tc_seq ?_ | refine tc_region ?_ | refine at_seq_normal ?_ | refine tl_nil ?_ | refine tl_cons ?_ | refine tl_cons_none ?_ | refine op_move ?_ | refine op_assign ?_ | refine op_fieldAddr ?_ | refine op_load ?_ | refine op_load_agg ?_ | refine op_indexC ?_ | refine op_indexAddr1 ?_ | refine op_indexAddr ?_ | refine op_icmp ?_ | refine op_fcmp ?_ | refine op_iarith ?_ | refine op_bcmp ?_ | refine op_unop_not ?_ | refine op_unop_neg_float ?_ | refine op_unop_neg_int ?_ | refine op_len_slice ?_ | refine op_pick_true ?_ | refine op_pick_false ?_ | refine op_pick_true' ?_ | refine op_pick_false' ?_ | refine op_build ?_ | refine op_extract ?_ | refine op_makeInterface ?_ | refine op_typeAssert ?_ | refine op_ptr_nil ?_ | refine op_nilCheck_ptr ?_ | refine op_nilCheck_meth ?_ | refine op_makeMeth ?_ | refine op_makeFunc ?_ | refine op_itof ?_ | refine op_itoi ?_ | refine op_ftoi ?_ | refine op_iquo ?_ | refine op_irem ?_ | refine op_ibits ?_ | refine op_slice_isnil ?_ | refine op_slice_notnil ?_ | refine op_imax ?_ | refine op_imin ?_ | refine op_shl ?_ | refine op_shr ?_ | (refine op_alloc ?_; intro _) | (refine op_box ?_; intro _) | (refine op_buildSlice ?_; intro _) | (refine op_farith ?_; intro _ _) | refine op_store0 ?_ | refine op_store1 ?_ | refine op_store2 ?_ | refine op_store3 ?_ | refine op_store4 ?_ | refine op_store5 ?_ | refine op_storeK rfl ?_ | refine op_loadK rfl ?_ | refine op_load_aggK rfl ?_ | refine tc_cond_t ?_ | refine tc_cond_f ?_ | refine tc_cond (fun _ => ?_) (fun _ => ?_) | refine tc_block ?_ | refine tc_skip ?_ | refine tc_ret ?_ | refine tc_exit ?_ | refine tc_label ?_ | refine at_seq_ret ?_ | refine at_seq_exit ?_ | refine at_block_normal ?_ | refine at_block_ret ?_ | refine at_block_exit_self ?_ | refine at_block_exit_ne ?_ | refine at_loop_ret ?_ | refine at_loop_exit ?_ | refine at_loop_goto ?_ | refine tl_guard_yes ?_ | refine tl_guard_no ?_ | refine tl_guard_yes' ?_ | refine tl_guard_no' ?_ | refine tl_guard_undef ?_ | refine tl_guard_split (fun _ => ?_) (fun _ => ?_))
    | fail
  match buf0, hok0 with
  | none, hok0 => exact absurd hok0.1 (by decide)
  | some (kb, cap, sp), hok0 =>
  simp only [bufV, bufH, Nat.zero_add, List.nil_append]
  repeat'
    first
      | refine tl_defer ?_ | refine tc_seq ?_ | refine tc_region ?_ | refine at_seq_normal ?_ | refine tl_nil ?_ | refine tl_cons ?_ | refine tl_cons_none ?_ | refine op_move ?_
      | refine op_assign ?_ | refine op_fieldAddr ?_ | refine op_load ?_ | refine op_load_agg ?_ | refine op_indexC ?_ | refine op_indexAddr1 ?_ | refine op_indexAddr ?_ | refine op_icmp ?_
      | refine op_fcmp ?_ | refine op_iarith ?_ | refine op_bcmp ?_ | refine op_unop_not ?_ | refine op_unop_neg_float ?_ | refine op_unop_neg_int ?_ | refine op_len_slice ?_ | refine op_pick_true ?_
      | refine op_pick_false ?_ | refine op_pick_true' ?_ | refine op_pick_false' ?_ | refine op_build ?_ | refine op_extract ?_ | refine op_makeInterface ?_ | refine op_typeAssert ?_ | refine op_ptr_nil ?_
      | refine op_nilCheck_ptr ?_ | refine op_nilCheck_meth ?_ | refine op_makeMeth ?_ | refine op_makeFunc ?_ | refine op_itof ?_ | refine op_itoi ?_ | refine op_ftoi ?_ | refine op_iquo ?_
      | refine op_irem ?_ | refine op_ibits ?_ | refine op_slice_isnil ?_ | refine op_slice_notnil ?_ | refine op_imax ?_ | refine op_imin ?_ | refine op_shl ?_ | refine op_shr ?_
      | (refine op_alloc ?_; intro _) | (refine op_box ?_; intro _) | (refine op_buildSlice ?_; intro _) | (refine op_farith ?_; intro _ _) | refine op_store0 ?_ | refine op_store1 ?_ | refine op_store2 ?_ | refine op_store3 ?_
      | refine op_store4 ?_ | refine op_store5 ?_ | refine tc_cond_t ?_ | refine tc_cond_f ?_ | refine tc_cond (fun _ => ?_) (fun _ => ?_) | refine tc_block ?_ | refine tc_skip ?_ | refine tc_ret ?_
      | refine tc_exit ?_ | refine tc_label ?_ | refine at_seq_ret ?_ | refine at_seq_exit ?_ | refine at_block_normal ?_ | refine at_block_ret ?_ | refine at_block_exit_self ?_ | refine at_block_exit_ne ?_
      | refine at_loop_ret ?_ | refine at_loop_exit ?_ | refine at_loop_goto ?_ | refine tl_guard_yes ?_ | refine tl_guard_no ?_ | refine tl_guard_yes' ?_ | refine tl_guard_no' ?_ | refine tl_guard_undef ?_
      | refine tl_guard_split (fun _ => ?_) (fun _ => ?_)
  refine tc_loopK [(0, _), (1, _), (2, _), (3, _), (8, _)] (by repeat (first | exact trivial | refine ⟨rfl, ?_⟩)) (fun (g : Nat × List (Nat × Nat) × List Nat × Buf × Nat) => [(9, .int .i64 (g.2.2.2.2 : Int)), (10, bufV g.2.2.2.1 (2 * g.2.1.length)), (11, .int .i64 ((2 * g.2.1.length : Nat) : Int))])
    (fun g => bufH 3 g.2.2.2.1 ((stk g.2.1).map iv) ((km, .cells ⟨g.2.2.1.map bv⟩ Tm (0, 0)) :: H))
    (fun g => Smp.Ok n g.2.1 ∧ wt g.2.1 ≤ g.1 ∧ fin D (fop .mul thr thr) g.1 g.2.1 g.2.2.1 = F ∧ bufOk 1 g.2.2.2.1 (2 * g.2.1.length) ((stk g.2.1).map iv) ∧ g.2.2.1.length = n ∧ g.2.2.2.2 + g.1 ≤ 2 + wt [(0, n - 1)])
    (fun g => g.1) (wt [(0, n - 1)], [(0, n - 1)], m, some (kb, cap, sp), 2) ⟨?_, Nat.le_refl _, hF, hok0, hml, Nat.le_refl _⟩ ⟨rfl, rfl, rfl, trivial⟩ (List.Sublist.refl _) ?_
  · intro p hp
    simp only [List.mem_singleton] at hp
    subst hp
    exact ⟨by simp only []; omega, by simp only []; omega⟩
  have hF0 : wt [(0, n - 1)] ≤ 120 := by simp only [wt]; omega
  generalize wt [(0, n - 1)] = F0 at *
  clear hF hok0 kb cap sp
  rintro ⟨f, st, mk, buf, fd⟩ ⟨hok, hwt, hF, hbuf, hmk, hfd⟩
  simp only at hok hwt hF hbuf hmk hfd ⊢
  have hsl := Nat.le_trans (len_wt hok) hwt
  match st, hok, hwt, hF, hbuf, hsl with
  | [], hok, hwt, hF, hbuf, hsl =>
    have hc0 : icmp .gtr ((2 * ([] : List (Nat × Nat)).length : Nat) : Int) 0 = false := rfl
    repeat'
      first
        | refine tl_defer ?_ | refine tc_seq ?_ | refine tc_region ?_ | refine at_seq_normal ?_ | refine tl_nil ?_ | refine tl_cons ?_ | refine tl_cons_none ?_ | refine op_move ?_
        | refine op_assign ?_ | refine op_fieldAddr ?_ | refine op_load ?_ | refine op_load_agg ?_ | refine op_indexC ?_ | refine op_indexAddr1 ?_ | refine op_indexAddr ?_ | refine op_icmp ?_
        | refine op_fcmp ?_ | refine op_iarith ?_ | refine op_bcmp ?_ | refine op_unop_not ?_ | refine op_unop_neg_float ?_ | refine op_unop_neg_int ?_ | refine op_len_slice ?_ | refine op_pick_true ?_
        | refine op_pick_false ?_ | refine op_pick_true' ?_ | refine op_pick_false' ?_ | refine op_build ?_ | refine op_extract ?_ | refine op_makeInterface ?_ | refine op_typeAssert ?_ | refine op_ptr_nil ?_
        | refine op_nilCheck_ptr ?_ | refine op_nilCheck_meth ?_ | refine op_makeMeth ?_ | refine op_makeFunc ?_ | refine op_itof ?_ | refine op_itoi ?_ | refine op_ftoi ?_ | refine op_iquo ?_
        | refine op_irem ?_ | refine op_ibits ?_ | refine op_slice_isnil ?_ | refine op_slice_notnil ?_ | refine op_imax ?_ | refine op_imin ?_ | refine op_shl ?_ | refine op_shr ?_
        | (refine op_alloc ?_; intro _) | (refine op_box ?_; intro _) | (refine op_buildSlice ?_; intro _) | (refine op_farith ?_; intro _ _) | refine op_store0 ?_ | refine op_store1 ?_ | refine op_store2 ?_ | refine op_store3 ?_
        | refine op_store4 ?_ | refine op_store5 ?_ | refine tc_cond_t ?_ | refine tc_cond_f ?_ | refine tc_cond (fun _ => ?_) (fun _ => ?_) | refine tc_block ?_ | refine tc_skip ?_ | refine tc_ret ?_
        | refine tc_exit ?_ | refine tc_label ?_ | refine at_seq_ret ?_ | refine at_seq_exit ?_ | refine at_block_normal ?_ | refine at_block_ret ?_ | refine at_block_exit_self ?_ | refine at_block_exit_ne ?_
        | refine at_loop_ret ?_ | refine at_loop_exit ?_ | refine at_loop_goto ?_ | refine tl_guard_yes ?_ | refine tl_guard_no ?_ | refine tl_guard_yes' ?_ | refine tl_guard_no' ?_ | refine tl_guard_undef ?_
        | refine tl_guard_split (fun _ => ?_) (fun _ => ?_)
    rw [fin_nil] at hF
    subst hF
    exact ret_tmp (hG := bufH_sub _ _ _ _) (hk := ⟨fd, rfl, by omega, rfl⟩)
  | (s, e) :: st, hok, hwt, hF, hbuf, hsl =>
    obtain ⟨hse, hen⟩ := hok (s, e) List.mem_cons_self
    simp only at hse hen
    have hok' : Smp.Ok n st := fun p hp => hok p (List.mem_cons_of_mem _ hp)
    obtain ⟨f, rfl⟩ : ∃ f', f = f' + 1 := ⟨f - 1, by simp only [wt] at hwt; omega⟩
    simp only [List.length_cons] at hsl hbuf ⊢
    match buf, hbuf with
    | none, hbuf => exact absurd hbuf.1 (by omega)
    | some (kb, cap, sp), hbuf =>
    obtain ⟨hb1, hb2, hb3, hb4⟩ := hbuf
    obtain ⟨gs, ge⟩ := stk_get s e st sp
    have hlc : 2 * (st.length + 1) - 2 = 2 * st.length := by omega
    have hc0 : icmp .gtr ((2 * (st.length + 1) : Nat) : Int) 0 = true := by simp only [icmp, decide_eq_true_eq]; omega
    have w1 : IntKind.i64.wrap (iarith .sub ((2 * (st.length + 1) : Nat) : Int) 2) = ((2 * st.length : Nat) : Int) := by rw [wrap_sub (by omega) (by omega)]; omega
    have w2 : IntKind.i64.wrap (iarith .sub ((2 * (st.length + 1) : Nat) : Int) 1) = ((2 * st.length + 1 : Nat) : Int) := by rw [wrap_sub (by omega) (by omega)]; omega
    have m1 : ∀ i, i < n → i * stp ≤ 60 * 8 := fun i hi => Nat.mul_le_mul (by omega) hs8
    have m2 : ∀ i, i < n → (i + 1) * stp ≤ n * stp := fun i hi => Nat.mul_le_mul_right _ hi
    have m3 : ∀ i, i < n → IntKind.i64.wrap (iarith .mul (i : Int) (stp : Int)) = ((i * stp : Nat) : Int) := fun i hi => wrap_mulN (by have := m1 i hi; omega)
    have m4 : ∀ i, i < n → IntKind.i64.wrap (iarith .add ((i * stp : Nat) : Int) (stp : Int)) = (((i + 1) * stp : Nat) : Int) := fun i hi => by
      rw [wrap_addN (by have := m1 i hi; omega), Nat.add_mul, Nat.one_mul]
    have m5 : ∀ i, i < n → slAt (some ⟨k, o, none⟩) (i * stp) 1 ((i + 1) * stp) cf = .slice (some ⟨k, o + i * stp, none⟩) stp (cf - i * stp) := fun i hi => by
      have := m2 i hi
      have e : (i + 1) * stp = i * stp + stp := by rw [Nat.add_mul, Nat.one_mul]
      exact slAt_le (by omega) (by omega)
    have m6 : ∀ i, i < n → i * stp ≤ (i + 1) * stp := fun i hi => Nat.mul_le_mul_right _ (by omega)
    simp only [bufV, bufH]
    repeat' first
      | (refine op_iarith ?_; first | rw [w1] | rw [w2] | rw [m3 s (by omega)] | rw [m3 e (by omega)] | rw [m4 s (by omega)] | rw [m4 e (by omega)])
      | (refine op_indexAddr1 (j := 2 * st.length) ?_ (hj := by omega))
      | (refine op_indexAddr1 (j := 2 * st.length + 1) ?_ (hj := by omega))
      | (refine op_slice_lh (l := s * stp) (h := (s + 1) * stp) ?_ (h1 := m6 s (by omega)) (h2 := Nat.le_trans (m2 s (by omega)) hc); rw [m5 s (by omega)])
      | (refine op_slice_lh (l := e * stp) (h := (e + 1) * stp) ?_ (h1 := m6 e (by omega)) (h2 := Nat.le_trans (m2 e (by omega)) hc); rw [m5 e (by omega)])
      | (first | refine tl_defer ?_ | refine tc_seq ?_ | refine tc_region ?_ | refine at_seq_normal ?_ | refine tl_nil ?_ | refine tl_cons ?_ | refine tl_cons_none ?_ | refine op_move ?_ | refine op_assign ?_ | refine op_fieldAddr ?_ | refine op_load ?_ | refine op_load_agg ?_ | refine op_indexC ?_ | refine op_indexAddr1 ?_ | refine op_indexAddr ?_ | refine op_icmp ?_ | refine op_fcmp ?_ | refine op_iarith ?_ | refine op_bcmp ?_ | refine op_unop_not ?_ | refine op_unop_neg_float ?_ | refine op_unop_neg_int ?_ | refine op_len_slice ?_ | refine op_pick_true ?_ | refine op_pick_false ?_ | refine op_pick_true' ?_ | refine op_pick_false' ?_ | refine op_build ?_ | refine op_extract ?_ | refine op_makeInterface ?_ | refine op_typeAssert ?_ | refine op_ptr_nil ?_ | refine op_nilCheck_ptr ?_ | refine op_nilCheck_meth ?_ | refine op_makeMeth ?_ | refine op_makeFunc ?_ | refine op_itof ?_ | refine op_itoi ?_ | refine op_ftoi ?_ | refine op_iquo ?_ | refine op_irem ?_ | refine op_ibits ?_ | refine op_slice_isnil ?_ | refine op_slice_notnil ?_ | refine op_imax ?_ | refine op_imin ?_ | refine op_shl ?_ | refine op_shr ?_ | (refine op_alloc ?_; intro _) | (refine op_box ?_; intro _) | (refine op_buildSlice ?_; intro _) | (refine op_farith ?_; intro _ _) | refine op_store0 ?_ | refine op_store1 ?_ | refine op_store2 ?_ | refine op_store3 ?_ | refine op_store4 ?_ | refine op_store5 ?_ | refine op_storeK rfl ?_ | refine op_loadK rfl ?_ | refine op_load_aggK rfl ?_ | refine tc_cond_t ?_ | refine tc_cond_f ?_ | refine tc_cond (fun _ => ?_) (fun _ => ?_) | refine tc_block ?_ | refine tc_skip ?_ | refine tc_ret ?_ | refine tc_exit ?_ | refine tc_label ?_ | refine at_seq_ret ?_ | refine at_seq_exit ?_ | refine at_block_normal ?_ | refine at_block_ret ?_ | refine at_block_exit_self ?_ | refine at_block_exit_ne ?_ | refine at_loop_ret ?_ | refine at_loop_exit ?_ | refine at_loop_goto ?_ | refine tl_guard_yes ?_ | refine tl_guard_no ?_ | refine tl_guard_yes' ?_ | refine tl_guard_no' ?_ | refine tl_guard_undef ?_ | refine tl_guard_split (fun _ => ?_) (fun _ => ?_))
      | fail
    refine tc_loopK [(0, _), (1, _), (2, _), (3, _), (8, _), (9, _), (10, _), (11, _), (12, _), (13, _), (16, _), (17, _), (31, _), (32, _), (33, _), (34, _), (35, _), (36, _), (37, _), (38, _), (39, _), (40, _), (41, _), (42, _), (43, _), (44, _), (45, _), (46, _), (47, _), (48, _), (49, _), (50, _), (51, _), (52, _), (53, _), (54, _), (55, _), (56, _), (57, _), (58, _), (59, _), (60, _), (61, _), (62, _), (63, _), (64, _)] (by repeat (first | exact trivial | refine ⟨rfl, ?_⟩)) (fun (c : Nat) => [(14, .float .f64 (far (D s e) s c).1), (15, .int .i64 ((far (D s e) s c).2 : Int)), (18, .int .i64 ((s + 1 + c : Nat) : Int))])
      (fun _ => (kb, .cells ⟨(stk ((s, e) :: st)).map iv ++ sp⟩ 3 (0, 0)) :: (km, .cells ⟨mk.map bv⟩ Tm (0, 0)) :: H) (fun c => s + 1 + c ≤ e) (fun c => e - (s + 1 + c)) 0 (by omega) ⟨rfl, rfl, geti rfl (by rw [wrap_add (by omega) (by omega)]; omega), trivial⟩ (List.Sublist.refl _) ?_
    intro c hce
    by_cases hlt : s + 1 + c < e
    · have hb : icmp .lss ((s + 1 + c : Nat) : Int) (e : Int) = true := by rw [lss_nat]; simpa using hlt
      obtain ⟨⟨z1, g1⟩, z2, g2⟩ := hW s (by omega)
      obtain ⟨⟨z3, g3⟩, z4, g4⟩ := hW e (by omega)
      obtain ⟨⟨z5, g5⟩, z6, g6⟩ := hW (s + 1 + c) (by omega)
      obtain ⟨x1, x2⟩ := hXY s (by omega)
      obtain ⟨x3, x4⟩ := hXY e (by omega)
      obtain ⟨x5, x6⟩ := hXY (s + 1 + c) (by omega)
      have hd : D s e (s + 1 + c) = dsq (X s) (Y s) (X e) (Y e) (X (s + 1 + c)) (Y (s + 1 + c)) := by rw [← hD]
      have hi : s + 1 + c < n := by omega
      have hnx : IntKind.i64.wrap (iarith .add ((s + 1 + c : Nat) : Int) 1) = ((s + 1 + (c + 1) : Nat) : Int) := by rw [wrap_add (by omega) (by omega)]; omega
      have hfar : far (D s e) s (c + 1) = if fcmp .gtr (D s e (s + 1 + c)) (far (D s e) s c).1 = true then (D s e (s + 1 + c), s + 1 + c) else far (D s e) s c := rfl
      generalize hiq : s + 1 + c = i at *
      generalize far (D s e) s c = r at *
      repeat' first
        | (refine op_iarith ?_; first | rw [m3 i hi] | rw [m4 i hi] | rw [hnx])
        | (refine op_slice_lh (l := i * stp) (h := (i + 1) * stp) ?_ (h1 := m6 i (by omega)) (h2 := Nat.le_trans (m2 i (by omega)) hc); rw [m5 i (by omega)])
        | (refine op_call ((dist k L T fz _ _ _ stp stp stp _ _ _ _ _ _ _ _ _ z1 z2 z3 z4 z5 z6 _ (by simp [hm]) hs2 hs2 hs2 x1 x2 x3 x4 x5 x6 g1 g2 g3 g4 g5 g6).mono ?_); rintro _ _ ⟨rfl, rfl⟩; rw [← hd])
        | (first | refine tl_defer ?_ | refine tc_seq ?_ | refine tc_region ?_ | refine at_seq_normal ?_ | refine tl_nil ?_ | refine tl_cons ?_ | refine tl_cons_none ?_ | refine op_move ?_ | refine op_assign ?_ | refine op_fieldAddr ?_ | refine op_load ?_ | refine op_load_agg ?_ | refine op_indexC ?_ | refine op_indexAddr1 ?_ | refine op_indexAddr ?_ | refine op_icmp ?_ | refine op_fcmp ?_ | refine op_iarith ?_ | refine op_bcmp ?_ | refine op_unop_not ?_ | refine op_unop_neg_float ?_ | refine op_unop_neg_int ?_ | refine op_len_slice ?_ | refine op_pick_true ?_ | refine op_pick_false ?_ | refine op_pick_true' ?_ | refine op_pick_false' ?_ | refine op_build ?_ | refine op_extract ?_ | refine op_makeInterface ?_ | refine op_typeAssert ?_ | refine op_ptr_nil ?_ | refine op_nilCheck_ptr ?_ | refine op_nilCheck_meth ?_ | refine op_makeMeth ?_ | refine op_makeFunc ?_ | refine op_itof ?_ | refine op_itoi ?_ | refine op_ftoi ?_ | refine op_iquo ?_ | refine op_irem ?_ | refine op_ibits ?_ | refine op_slice_isnil ?_ | refine op_slice_notnil ?_ | refine op_imax ?_ | refine op_imin ?_ | refine op_shl ?_ | refine op_shr ?_ | (refine op_alloc ?_; intro _) | (refine op_box ?_; intro _) | (refine op_buildSlice ?_; intro _) | (refine op_farith ?_; intro _ _) | refine op_store0 ?_ | refine op_store1 ?_ | refine op_store2 ?_ | refine op_store3 ?_ | refine op_store4 ?_ | refine op_store5 ?_ | refine op_storeK rfl ?_ | refine op_loadK rfl ?_ | refine op_load_aggK rfl ?_ | refine tc_cond_t ?_ | refine tc_cond_f ?_ | refine tc_cond (fun _ => ?_) (fun _ => ?_) | refine tc_block ?_ | refine tc_skip ?_ | refine tc_ret ?_ | refine tc_exit ?_ | refine tc_label ?_ | refine at_seq_ret ?_ | refine at_seq_exit ?_ | refine at_block_normal ?_ | refine at_block_ret ?_ | refine at_block_exit_self ?_ | refine at_block_exit_ne ?_ | refine at_loop_ret ?_ | refine at_loop_exit ?_ | refine at_loop_goto ?_ | refine tl_guard_yes ?_ | refine tl_guard_no ?_ | refine tl_guard_yes' ?_ | refine tl_guard_no' ?_ | refine tl_guard_undef ?_ | refine tl_guard_split (fun _ => ?_) (fun _ => ?_))
        | fail
      · have hf2 : far (D s e) s (c + 1) = (D s e i, i) := by rw [hfar, if_pos (by assumption)]
        exact at_loopK (c + 1) (by omega) (by omega) ⟨congrArg (fun q : Nat × Nat => some (Value.float .f64 q.1)) hf2.symm, congrArg (fun q : Nat × Nat => some (Value.int .i64 (q.2 : Int))) hf2.symm, rfl, trivial⟩ (by repeat (first | exact trivial | refine ⟨rfl, ?_⟩)) (List.Sublist.refl _)
      · have hf2 : far (D s e) s (c + 1) = r := by
          rw [hfar, if_neg]
          have : fcmp .gtr (D s e i) r.1 = false := by assumption
          rw [this]; decide
        exact at_loopK (c + 1) (by omega) (by omega) ⟨congrArg (fun q : Nat × Nat => some (Value.float .f64 q.1)) hf2.symm, congrArg (fun q : Nat × Nat => some (Value.int .i64 (q.2 : Int))) hf2.symm, rfl, trivial⟩ (by repeat (first | exact trivial | refine ⟨rfl, ?_⟩)) (List.Sublist.refl _)
    · have hb : icmp .lss ((s + 1 + c : Nat) : Int) (e : Int) = false := by rw [lss_nat]; simpa using hlt
      obtain rfl : c = e - s - 1 := by omega
      have hin := @far_in (D s e) s e (fop .mul thr thr) hse h0
      have hfin : fin D (fop .mul thr thr) (f + 1) ((s, e) :: st) mk = if fcmp .gtr (far (D s e) s (e - s - 1)).1 (fop .mul thr thr) = true then fin D (fop .mul thr thr) f (((far (D s e) s (e - s - 1)).2, e) :: (s, (far (D s e) s (e - s - 1)).2) :: st) (mk.set (far (D s e) s (e - s - 1)).2 1)
        else fin D (fop .mul thr thr) f st mk := rfl
      rw [hF] at hfin
      generalize far (D s e) s (e - s - 1) = r at *
      obtain ⟨rd, ri⟩ := r
      simp only at hin hfin
      have hrl : ∀ hri : ri < n, (mk.map bv).set ri (.int .u8 1) = (mk.set ri 1).map bv := fun _ => set_map_bv
      by_cases hgt : fcmp .gtr rd (fop .mul thr thr) = true
      · obtain ⟨hr1, hr2⟩ := hin hgt
        rw [if_pos hgt] at hfin
        have hst2 : ((stk ((s, e) :: st)).map iv ++ sp).set (2 * st.length + 1) (.int .i64 (ri : Int)) = (stk ((s, ri) :: st)).map iv ++ sp := by
          have hl : ((stk st).map iv).length = 2 * st.length := by rw [List.length_map, stk_len]
          simp only [stk, List.map_append, List.append_assoc]
          rw [List.set_append_right _ _ (by omega), hl, Nat.add_sub_cancel_left]; rfl
        have hb5 : bufOk 1 (some (kb, cap, sp)) (2 * (st.length + 1)) ((stk ((s, ri) :: st)).map iv) := by
          refine ⟨hb1, hb2, ?_, ?_⟩
          · rw [List.length_map, stk_len, List.length_cons]; omega
          · rw [← hb4]; simp [stk]
        repeat' first
          | (refine op_farithF ?_)
          | (refine op_iarith ?_; rw [w2])
          | (refine op_indexAddr1 (j := ri) ?_ (hj := by omega))
          | (refine op_indexAddr1 (j := 2 * st.length + 1) ?_ (hj := by omega))
          | (refine op_storeK (k := km) (off := 0 + ri) (l' := (mk.set ri 1).map bv) rfl ?_ (hroom := by rw [List.length_map]; omega) (hnew := by rw [Nat.zero_add]; exact hrl (by omega)))
          | (refine op_storeK (k := kb) (off := 0 + (2 * st.length + 1)) (l' := (stk ((s, ri) :: st)).map iv ++ sp) rfl ?_ (hroom := by rw [hb4]; omega) (hnew := by rw [Nat.zero_add]; exact hst2))
          | (first | refine tl_defer ?_ | refine tc_seq ?_ | refine tc_region ?_ | refine at_seq_normal ?_ | refine tl_nil ?_ | refine tl_cons ?_ | refine tl_cons_none ?_ | refine op_move ?_ | refine op_assign ?_ | refine op_fieldAddr ?_ | refine op_load ?_ | refine op_load_agg ?_ | refine op_indexC ?_ | refine op_indexAddr1 ?_ | refine op_indexAddr ?_ | refine op_icmp ?_ | refine op_fcmp ?_ | refine op_iarith ?_ | refine op_bcmp ?_ | refine op_unop_not ?_ | refine op_unop_neg_float ?_ | refine op_unop_neg_int ?_ | refine op_len_slice ?_ | refine op_pick_true ?_ | refine op_pick_false ?_ | refine op_pick_true' ?_ | refine op_pick_false' ?_ | refine op_build ?_ | refine op_extract ?_ | refine op_makeInterface ?_ | refine op_typeAssert ?_ | refine op_ptr_nil ?_ | refine op_nilCheck_ptr ?_ | refine op_nilCheck_meth ?_ | refine op_makeMeth ?_ | refine op_makeFunc ?_ | refine op_itof ?_ | refine op_itoi ?_ | refine op_ftoi ?_ | refine op_iquo ?_ | refine op_irem ?_ | refine op_ibits ?_ | refine op_slice_isnil ?_ | refine op_slice_notnil ?_ | refine op_imax ?_ | refine op_imin ?_ | refine op_shl ?_ | refine op_shr ?_ | (refine op_alloc ?_; intro _) | (refine op_box ?_; intro _) | (refine op_buildSlice ?_; intro _) | (refine op_farith ?_; intro _ _) | refine op_store0 ?_ | refine op_store1 ?_ | refine op_store2 ?_ | refine op_store3 ?_ | refine op_store4 ?_ | refine op_store5 ?_ | refine op_storeK rfl ?_ | refine op_loadK rfl ?_ | refine op_load_aggK rfl ?_ | refine tc_cond_t ?_ | refine tc_cond_f ?_ | refine tc_cond (fun _ => ?_) (fun _ => ?_) | refine tc_block ?_ | refine tc_skip ?_ | refine tc_ret ?_ | refine tc_exit ?_ | refine tc_label ?_ | refine at_seq_ret ?_ | refine at_seq_exit ?_ | refine at_block_normal ?_ | refine at_block_ret ?_ | refine at_block_exit_self ?_ | refine at_block_exit_ne ?_ | refine at_loop_ret ?_ | refine at_loop_exit ?_ | refine at_loop_goto ?_ | refine tl_guard_yes ?_ | refine tl_guard_no ?_ | refine tl_guard_yes' ?_ | refine tl_guard_no' ?_ | refine tl_guard_undef ?_ | refine tl_guard_split (fun _ => ?_) (fun _ => ?_))
          | fail
        refine op_append (some (kb, cap, sp)) (2 * (st.length + 1)) ((stk ((s, ri) :: st)).map iv) [.int .i64 (ri : Int), .int .i64 (e : Int)] (m := 2) hb5 (fun buf' hokb => ?_) (by exact rfl) (by exact rfl) (H' := (km, .cells ⟨(mk.set ri 1).map bv⟩ Tm (0, 0)) :: H) (List.sublist_cons_self _ _) mem0 rfl rfl (by intro u hu; simp only [List.mem_cons, List.not_mem_nil, or_false] at hu; rcases hu with rfl | rfl <;> rfl) (by decide) (by simp only [maxLen]; omega) (by omega)
        match buf', hokb with
        | none, hokb => exact absurd hokb.1 (by omega)
        | some (kb', cap', sp'), hokb =>
        simp only [bufV, bufH]
        repeat'
          first
            | refine tl_defer ?_ | refine tc_seq ?_ | refine tc_region ?_ | refine at_seq_normal ?_ | refine tl_nil ?_ | refine tl_cons ?_ | refine tl_cons_none ?_ | refine op_move ?_
            | refine op_assign ?_ | refine op_fieldAddr ?_ | refine op_load ?_ | refine op_load_agg ?_ | refine op_indexC ?_ | refine op_indexAddr1 ?_ | refine op_indexAddr ?_ | refine op_icmp ?_
            | refine op_fcmp ?_ | refine op_iarith ?_ | refine op_bcmp ?_ | refine op_unop_not ?_ | refine op_unop_neg_float ?_ | refine op_unop_neg_int ?_ | refine op_len_slice ?_ | refine op_pick_true ?_
            | refine op_pick_false ?_ | refine op_pick_true' ?_ | refine op_pick_false' ?_ | refine op_build ?_ | refine op_extract ?_ | refine op_makeInterface ?_ | refine op_typeAssert ?_ | refine op_ptr_nil ?_
            | refine op_nilCheck_ptr ?_ | refine op_nilCheck_meth ?_ | refine op_makeMeth ?_ | refine op_makeFunc ?_ | refine op_itof ?_ | refine op_itoi ?_ | refine op_ftoi ?_ | refine op_iquo ?_
            | refine op_irem ?_ | refine op_ibits ?_ | refine op_slice_isnil ?_ | refine op_slice_notnil ?_ | refine op_imax ?_ | refine op_imin ?_ | refine op_shl ?_ | refine op_shr ?_
            | (refine op_alloc ?_; intro _) | (refine op_box ?_; intro _) | (refine op_buildSlice ?_; intro _) | (refine op_farith ?_; intro _ _) | refine op_store0 ?_ | refine op_store1 ?_ | refine op_store2 ?_ | refine op_store3 ?_
            | refine op_store4 ?_ | refine op_store5 ?_ | refine tc_cond_t ?_ | refine tc_cond_f ?_ | refine tc_cond (fun _ => ?_) (fun _ => ?_) | refine tc_block ?_ | refine tc_skip ?_ | refine tc_ret ?_
            | refine tc_exit ?_ | refine tc_label ?_ | refine at_seq_ret ?_ | refine at_seq_exit ?_ | refine at_block_normal ?_ | refine at_block_ret ?_ | refine at_block_exit_self ?_ | refine at_block_exit_ne ?_
            | refine at_loop_ret ?_ | refine at_loop_exit ?_ | refine at_loop_goto ?_ | refine tl_guard_yes ?_ | refine tl_guard_no ?_ | refine tl_guard_yes' ?_ | refine tl_guard_no' ?_ | refine tl_guard_undef ?_
            | refine tl_guard_split (fun _ => ?_) (fun _ => ?_)
        refine at_loopK (f, (ri, e) :: (s, ri) :: st, mk.set ri 1, some (kb', cap', sp'), fd + 1) ⟨?_, ?_, hfin.symm, ?_, ?_, ?_⟩ (by simp only []; omega) ⟨next_nat (by omega), rfl, rfl, trivial⟩ (by repeat (first | exact trivial | refine ⟨rfl, ?_⟩)) (by simp only [stk, List.map_append, List.append_assoc]; exact List.Sublist.refl _)
        · intro p hp
          rcases List.mem_cons.1 hp with rfl | hp
          · exact ⟨hr2, hen⟩
          · rcases List.mem_cons.1 hp with rfl | hp
            · exact ⟨hr1, by simp only []; omega⟩
            · exact hok' p hp
        · simp only [wt] at hwt ⊢; omega
        · simpa [stk, iv, Nat.mul_add] using hokb
        · simp only [List.length_set]; exact hmk
        · simp only []; omega
      · have hgt' : fcmp .gtr rd (fop .mul thr thr) = false := by simpa using hgt
        rw [if_neg hgt] at hfin
        repeat' first
          | (refine op_farithF ?_)
          | (refine op_iarith ?_; rw [w1])
          | (refine op_slice_h (h := 2 * st.length) ?_; rw [slAt_zero (by omega)])
          | (first | refine tl_defer ?_ | refine tc_seq ?_ | refine tc_region ?_ | refine at_seq_normal ?_ | refine tl_nil ?_ | refine tl_cons ?_ | refine tl_cons_none ?_ | refine op_move ?_ | refine op_assign ?_ | refine op_fieldAddr ?_ | refine op_load ?_ | refine op_load_agg ?_ | refine op_indexC ?_ | refine op_indexAddr1 ?_ | refine op_indexAddr ?_ | refine op_icmp ?_ | refine op_fcmp ?_ | refine op_iarith ?_ | refine op_bcmp ?_ | refine op_unop_not ?_ | refine op_unop_neg_float ?_ | refine op_unop_neg_int ?_ | refine op_len_slice ?_ | refine op_pick_true ?_ | refine op_pick_false ?_ | refine op_pick_true' ?_ | refine op_pick_false' ?_ | refine op_build ?_ | refine op_extract ?_ | refine op_makeInterface ?_ | refine op_typeAssert ?_ | refine op_ptr_nil ?_ | refine op_nilCheck_ptr ?_ | refine op_nilCheck_meth ?_ | refine op_makeMeth ?_ | refine op_makeFunc ?_ | refine op_itof ?_ | refine op_itoi ?_ | refine op_ftoi ?_ | refine op_iquo ?_ | refine op_irem ?_ | refine op_ibits ?_ | refine op_slice_isnil ?_ | refine op_slice_notnil ?_ | refine op_imax ?_ | refine op_imin ?_ | refine op_shl ?_ | refine op_shr ?_ | (refine op_alloc ?_; intro _) | (refine op_box ?_; intro _) | (refine op_buildSlice ?_; intro _) | (refine op_farith ?_; intro _ _) | refine op_store0 ?_ | refine op_store1 ?_ | refine op_store2 ?_ | refine op_store3 ?_ | refine op_store4 ?_ | refine op_store5 ?_ | refine op_storeK rfl ?_ | refine op_loadK rfl ?_ | refine op_load_aggK rfl ?_ | refine tc_cond_t ?_ | refine tc_cond_f ?_ | refine tc_cond (fun _ => ?_) (fun _ => ?_) | refine tc_block ?_ | refine tc_skip ?_ | refine tc_ret ?_ | refine tc_exit ?_ | refine tc_label ?_ | refine at_seq_ret ?_ | refine at_seq_exit ?_ | refine at_block_normal ?_ | refine at_block_ret ?_ | refine at_block_exit_self ?_ | refine at_block_exit_ne ?_ | refine at_loop_ret ?_ | refine at_loop_exit ?_ | refine at_loop_goto ?_ | refine tl_guard_yes ?_ | refine tl_guard_no ?_ | refine tl_guard_yes' ?_ | refine tl_guard_no' ?_ | refine tl_guard_undef ?_ | refine tl_guard_split (fun _ => ?_) (fun _ => ?_))
          | fail
        exact at_loopK (f, st, mk, some (kb, cap, [.int .i64 (s : Int), .int .i64 (e : Int)] ++ sp), fd) ⟨hok', (by simp only [wt] at hwt ⊢; omega), hfin.symm, ⟨(by simp only []; omega), hb2, by rw [List.length_map, stk_len]; omega, by rw [← hb4]; simp [stk]⟩, hmk, (by simp only []; omega)⟩ (by simp only []; omega) ⟨rfl, rfl, rfl, trivial⟩ (by repeat (first | exact trivial | refine ⟨rfl, ?_⟩)) (by simp only [bufH, stk, List.map_append, List.append_assoc]; exact List.Sublist.refl _)

theorem isort {buf : Buf} {n : Nat} {xs : List Int} {e : TypeId} {H : Heap} (h : bufOk 1 buf n (xs.map iv)) : IS (bufH e buf (xs.map iv) H) (bufV buf n) xs := sl_buf h
set_option maxHeartbeats 16000000 in
theorem simplify (n stp : Nat) (X Y : Nat → Nat) (k o cf : Nat) (L : List Value) (T : TypeId) (fz : Nat × Nat) (thr : Nat) (H : Heap) (hm : (k, Obj.cells ⟨L⟩ T fz) ∈ H) (hn1 : 1 ≤ n) (hn : n ≤ 60) (hs2 : 2 ≤ stp) (hs8 : stp ≤ 8) (hc : n * stp ≤ cf)
    (hXY : ∀ i, i < n → L[o + i * stp]? = some (.float .f64 (X i)) ∧ L[o + i * stp + 1]? = some (.float .f64 (Y i))) (hW : ∀ i, i < n → (∃ z, FI 8192 (X i) z) ∧ ∃ z, FI 8192 (Y i) z)
    (hthr : FB .mul thr thr) (h0 : fcmp .gtr 0 (fop .mul thr thr) = false) :
    Does Try.prog 66 [.slice (some ⟨k, o, none⟩) (n * stp) cf, .float .f64 thr, .int .i64 (stp : Int)] H fun w H' =>
      IS H' w (kept n (fun s e i => dsq (X s) (Y s) (X e) (Y e) (X i) (Y i)) (fop .mul thr thr)) ∧ ∃ ex, H' = ex ++ H := by
  have hdiv : IntKind.i64.wrap (((n * stp : Nat) : Int).tdiv (stp : Int)) = (n : Int) := by
    have e : ((n * stp : Nat) : Int).tdiv (stp : Int) = ((n * stp / stp : Nat) : Int) := (Int.ofNat_tdiv _ _).symm
    rw [e, Nat.mul_div_cancel _ (by omega)]
    exact wrap_in (by omega) (by omega)
  have hsne : ((stp : Nat) : Int) ≠ 0 := by omega
  have hl1 : IntKind.i64.wrap (iarith .sub (n : Int) 1) = ((n - 1 : Nat) : Int) := by rw [wrap_sub (by omega) (by omega)]; omega
  have hz : (List.range (n * 1)).map (fun i => [Value.int .u8 0][i % [Value.int .u8 0].length]!) = (List.replicate n 0).map bv := by rw [made_one, List.map_replicate]; rfl
  have hzi : (List.range (n * 1)).map (fun i => [Value.int .i64 0][i % [Value.int .i64 0].length]!) = (List.replicate n 0).map iv := by rw [made_one, List.map_replicate]; rfl
  refine fn_enter 64 Try.func66 fun W => ?_
  by_cases h3 : n < 3
  · have hk : ∀ D t, kept n D t = (List.range n).map Int.ofNat := fun D t => by unfold kept; rw [if_pos h3]
    have hc3 : icmp .lss (n : Int) 3 = true := by simp only [icmp, decide_eq_true_eq]; omega
    rw [hk]
    repeat' first
      | (refine op_iquo ?_; rw [hdiv])
      | (refine op_makeSlice (l := n) (c := n) (fun kr => ?_) (Nat.le_refl _) (by omega) (by omega); rw [hzi])
      | (first | refine tl_defer ?_ | refine tc_seq ?_ | refine tc_region ?_ | refine at_seq_normal ?_ | refine tl_nil ?_ | refine tl_cons ?_ | refine tl_cons_none ?_ | refine op_move ?_ | refine op_assign ?_ | refine op_fieldAddr ?_ | refine op_load ?_ | refine op_load_agg ?_ | refine op_indexC ?_ | refine op_indexAddr1 ?_ | refine op_indexAddr ?_ | refine op_icmp ?_ | refine op_fcmp ?_ | refine op_iarith ?_ | refine op_bcmp ?_ | refine op_unop_not ?_ | refine op_unop_neg_float ?_ | refine op_unop_neg_int ?_ | refine op_len_slice ?_ | refine op_pick_true ?_ | refine op_pick_false ?_ | refine op_pick_true' ?_ | refine op_pick_false' ?_ | refine op_build ?_ | refine op_extract ?_ | refine op_makeInterface ?_ | refine op_typeAssert ?_ | refine op_ptr_nil ?_ | refine op_nilCheck_ptr ?_ | refine op_nilCheck_meth ?_ | refine op_makeMeth ?_ | refine op_makeFunc ?_ | refine op_itof ?_ | refine op_itoi ?_ | refine op_ftoi ?_ | refine op_iquo ?_ | refine op_irem ?_ | refine op_ibits ?_ | refine op_slice_isnil ?_ | refine op_slice_notnil ?_ | refine op_imax ?_ | refine op_imin ?_ | refine op_shl ?_ | refine op_shr ?_ | (refine op_alloc ?_; intro _) | (refine op_box ?_; intro _) | (refine op_buildSlice ?_; intro _) | (refine op_farith ?_; intro _ _) | refine op_store0 ?_ | refine op_store1 ?_ | refine op_store2 ?_ | refine op_store3 ?_ | refine op_store4 ?_ | refine op_store5 ?_ | refine op_storeK rfl ?_ | refine op_loadK rfl ?_ | refine op_load_aggK rfl ?_ | refine tc_cond_t ?_ | refine tc_cond_f ?_ | refine tc_cond (fun _ => ?_) (fun _ => ?_) | refine tc_block ?_ | refine tc_skip ?_ | refine tc_ret ?_ | refine tc_exit ?_ | refine tc_label ?_ | refine at_seq_ret ?_ | refine at_seq_exit ?_ | refine at_block_normal ?_ | refine at_block_ret ?_ | refine at_block_exit_self ?_ | refine at_block_exit_ne ?_ | refine at_loop_ret ?_ | refine at_loop_exit ?_ | refine at_loop_goto ?_ | refine tl_guard_yes ?_ | refine tl_guard_no ?_ | refine tl_guard_yes' ?_ | refine tl_guard_no' ?_ | refine tl_guard_undef ?_ | refine tl_guard_split (fun _ => ?_) (fun _ => ?_))
      | fail
    refine tc_loopK [(0, _), (1, _), (2, _), (6, _), (7, _), (8, _), (23, _)] (by repeat (first | exact trivial | refine ⟨rfl, ?_⟩)) (fun (j : Nat) => [(24, .int .i64 (j : Int))]) (fun j => (kr, .cells ⟨((List.range j).map Int.ofNat ++ List.replicate (n - j) 0).map iv⟩ 3 (0, 0)) :: H) (fun j => j ≤ n) (fun j => n - j) 0 (Nat.zero_le _) ⟨rfl, trivial⟩ (List.Sublist.refl _) ?_
    intro j hj
    by_cases hlt : j < n
    · have hb : icmp .lss (j : Int) (n : Int) = true := by rw [lss_nat]; simpa using hlt
      have hset : (((List.range j).map Int.ofNat ++ List.replicate (n - j) 0).map iv).set (0 + j) (.int .i64 (j : Int)) = ((List.range (j + 1)).map Int.ofNat ++ List.replicate (n - (j + 1)) 0).map iv := by
        rw [Nat.zero_add, show Value.int .i64 (j : Int) = iv (j : Int) from rfl, ← List.map_set, List.set_append_right _ _ (by simp), List.range_succ]
        obtain ⟨q, hq⟩ : ∃ q, n - j = q + 1 := ⟨n - j - 1, by omega⟩
        rw [hq, show n - (j + 1) = q by omega]
        simp [List.replicate_succ]
      repeat' first
        | (refine op_indexAddr1 (j := j) ?_ (hj := hlt))
        | (refine op_storeK (k := kr) (off := 0 + j) (l' := ((List.range (j + 1)).map Int.ofNat ++ List.replicate (n - (j + 1)) 0).map iv) rfl ?_ (hroom := by simp only [List.length_map, List.length_append, List.length_replicate, List.length_range, List.length_set]; omega) (hnew := by exact hset))
        | (first | refine tl_defer ?_ | refine tc_seq ?_ | refine tc_region ?_ | refine at_seq_normal ?_ | refine tl_nil ?_ | refine tl_cons ?_ | refine tl_cons_none ?_ | refine op_move ?_ | refine op_assign ?_ | refine op_fieldAddr ?_ | refine op_load ?_ | refine op_load_agg ?_ | refine op_indexC ?_ | refine op_indexAddr1 ?_ | refine op_indexAddr ?_ | refine op_icmp ?_ | refine op_fcmp ?_ | refine op_iarith ?_ | refine op_bcmp ?_ | refine op_unop_not ?_ | refine op_unop_neg_float ?_ | refine op_unop_neg_int ?_ | refine op_len_slice ?_ | refine op_pick_true ?_ | refine op_pick_false ?_ | refine op_pick_true' ?_ | refine op_pick_false' ?_ | refine op_build ?_ | refine op_extract ?_ | refine op_makeInterface ?_ | refine op_typeAssert ?_ | refine op_ptr_nil ?_ | refine op_nilCheck_ptr ?_ | refine op_nilCheck_meth ?_ | refine op_makeMeth ?_ | refine op_makeFunc ?_ | refine op_itof ?_ | refine op_itoi ?_ | refine op_ftoi ?_ | refine op_iquo ?_ | refine op_irem ?_ | refine op_ibits ?_ | refine op_slice_isnil ?_ | refine op_slice_notnil ?_ | refine op_imax ?_ | refine op_imin ?_ | refine op_shl ?_ | refine op_shr ?_ | (refine op_alloc ?_; intro _) | (refine op_box ?_; intro _) | (refine op_buildSlice ?_; intro _) | (refine op_farith ?_; intro _ _) | refine op_store0 ?_ | refine op_store1 ?_ | refine op_store2 ?_ | refine op_store3 ?_ | refine op_store4 ?_ | refine op_store5 ?_ | refine op_storeK rfl ?_ | refine op_loadK rfl ?_ | refine op_load_aggK rfl ?_ | refine tc_cond_t ?_ | refine tc_cond_f ?_ | refine tc_cond (fun _ => ?_) (fun _ => ?_) | refine tc_block ?_ | refine tc_skip ?_ | refine tc_ret ?_ | refine tc_exit ?_ | refine tc_label ?_ | refine at_seq_ret ?_ | refine at_seq_exit ?_ | refine at_block_normal ?_ | refine at_block_ret ?_ | refine at_block_exit_self ?_ | refine at_block_exit_ne ?_ | refine at_loop_ret ?_ | refine at_loop_exit ?_ | refine at_loop_goto ?_ | refine tl_guard_yes ?_ | refine tl_guard_no ?_ | refine tl_guard_yes' ?_ | refine tl_guard_no' ?_ | refine tl_guard_undef ?_ | refine tl_guard_split (fun _ => ?_) (fun _ => ?_))
        | fail
      exact at_loopK (j + 1) hlt (by omega) ⟨next_nat (by omega), trivial⟩ (by repeat (first | exact trivial | refine ⟨rfl, ?_⟩)) (List.Sublist.refl _)
    · have hb : icmp .lss (j : Int) (n : Int) = false := by rw [lss_nat]; simpa using hlt
      obtain rfl : j = n := by omega
      repeat'
        first
          | refine tl_defer ?_ | refine tc_seq ?_ | refine tc_region ?_ | refine at_seq_normal ?_ | refine tl_nil ?_ | refine tl_cons ?_ | refine tl_cons_none ?_ | refine op_move ?_
          | refine op_assign ?_ | refine op_fieldAddr ?_ | refine op_load ?_ | refine op_load_agg ?_ | refine op_indexC ?_ | refine op_indexAddr1 ?_ | refine op_indexAddr ?_ | refine op_icmp ?_
          | refine op_fcmp ?_ | refine op_iarith ?_ | refine op_bcmp ?_ | refine op_unop_not ?_ | refine op_unop_neg_float ?_ | refine op_unop_neg_int ?_ | refine op_len_slice ?_ | refine op_pick_true ?_
          | refine op_pick_false ?_ | refine op_pick_true' ?_ | refine op_pick_false' ?_ | refine op_build ?_ | refine op_extract ?_ | refine op_makeInterface ?_ | refine op_typeAssert ?_ | refine op_ptr_nil ?_
          | refine op_nilCheck_ptr ?_ | refine op_nilCheck_meth ?_ | refine op_makeMeth ?_ | refine op_makeFunc ?_ | refine op_itof ?_ | refine op_itoi ?_ | refine op_ftoi ?_ | refine op_iquo ?_
          | refine op_irem ?_ | refine op_ibits ?_ | refine op_slice_isnil ?_ | refine op_slice_notnil ?_ | refine op_imax ?_ | refine op_imin ?_ | refine op_shl ?_ | refine op_shr ?_
          | (refine op_alloc ?_; intro _) | (refine op_box ?_; intro _) | (refine op_buildSlice ?_; intro _) | (refine op_farith ?_; intro _ _) | refine op_store0 ?_ | refine op_store1 ?_ | refine op_store2 ?_ | refine op_store3 ?_
          | refine op_store4 ?_ | refine op_store5 ?_ | refine tc_cond_t ?_ | refine tc_cond_f ?_ | refine tc_cond (fun _ => ?_) (fun _ => ?_) | refine tc_block ?_ | refine tc_skip ?_ | refine tc_ret ?_
          | refine tc_exit ?_ | refine tc_label ?_ | refine at_seq_ret ?_ | refine at_seq_exit ?_ | refine at_block_normal ?_ | refine at_block_ret ?_ | refine at_block_exit_self ?_ | refine at_block_exit_ne ?_
          | refine at_loop_ret ?_ | refine at_loop_exit ?_ | refine at_loop_goto ?_ | refine tl_guard_yes ?_ | refine tl_guard_no ?_ | refine tl_guard_yes' ?_ | refine tl_guard_no' ?_ | refine tl_guard_undef ?_
          | refine tl_guard_split (fun _ => ?_) (fun _ => ?_)
      refine ret_tmp (hG := List.Sublist.refl _) (hk := ⟨?_, ⟨[_], rfl⟩⟩)
      rw [Nat.sub_self, List.replicate_zero, List.append_nil]
      exact ⟨some ⟨kr, 0, none⟩, j, by simp, by simp, fun _ => ⟨kr, 0, _, _, _, rfl, List.mem_cons_self, by rw [List.drop_zero]; exact List.take_length⟩⟩
  have hk : ∀ D t, kept n D t = idx (fin D t (wt [(0, n - 1)]) [(0, n - 1)] (mask0 n)) n := fun D t => by unfold kept; rw [if_neg h3]
  have hc3 : icmp .lss (n : Int) 3 = false := by simp only [icmp, decide_eq_false_iff_not]; omega
  rw [hk]
  have hml : (mask0 n).length = n := by simp [mask0]
  have s1 : ((List.replicate n 0).map bv).set (0 + 0) (.int .u8 1) = ((List.replicate n 0).set 0 1).map bv := set_map_bv
  have s2 : (((List.replicate n 0).set 0 1).map bv).set (0 + (n - 1)) (.int .u8 1) = (mask0 n).map bv := by rw [Nat.zero_add]; exact set_map_bv
  have hFl : (fin (fun s e i => dsq (X s) (Y s) (X e) (Y e) (X i) (Y i)) (fop .mul thr thr) (wt [(0, n - 1)]) [(0, n - 1)] (mask0 n)).length = n := by rw [fin_len, hml]
  repeat' first
    | (refine op_iquo ?_; rw [hdiv])
    | (refine op_iarith ?_; rw [hl1])
    | (refine op_makeSlice (t := 178) (l := n) (c := n) (fun km => ?_) (Nat.le_refl _) (by omega) (by omega); rw [hz])
    | (refine op_indexAddr1 (j := 0) ?_ (hj := by omega))
    | (refine op_indexAddr1 (j := n - 1) ?_ (hj := by omega))
    | (refine op_storeK (k := km) (off := 0 + 0) (l' := ((List.replicate n 0).set 0 1).map bv) rfl ?_ (hroom := by simp only [List.length_map, List.length_append, List.length_replicate, List.length_range, List.length_set]; omega) (hnew := by exact s1))
    | (refine op_storeK (k := km) (off := 0 + (n - 1)) (l' := (mask0 n).map bv) rfl ?_ (hroom := by simp only [List.length_map, List.length_append, List.length_replicate, List.length_range, List.length_set]; omega) (hnew := by exact s2))
    | (refine op_call ((worker n stp X Y km k o cf n L T _ fz (mask0 n) thr H hm (by omega) hn hs2 hs8 hc hXY hW hml (Nat.le_refl _) hthr h0).mono ?_); rintro _ _ ⟨fd, rfl, hfd, rfl⟩)
    | (refine op_makeSlice (t := 27) (l := 0) (c := fd) (fun kr => ?_) (Nat.zero_le _) (by omega) (by omega))
    | (first | refine tl_defer ?_ | refine tc_seq ?_ | refine tc_region ?_ | refine at_seq_normal ?_ | refine tl_nil ?_ | refine tl_cons ?_ | refine tl_cons_none ?_ | refine op_move ?_ | refine op_assign ?_ | refine op_fieldAddr ?_ | refine op_load ?_ | refine op_load_agg ?_ | refine op_indexC ?_ | refine op_indexAddr1 ?_ | refine op_indexAddr ?_ | refine op_icmp ?_ | refine op_fcmp ?_ | refine op_iarith ?_ | refine op_bcmp ?_ | refine op_unop_not ?_ | refine op_unop_neg_float ?_ | refine op_unop_neg_int ?_ | refine op_len_slice ?_ | refine op_pick_true ?_ | refine op_pick_false ?_ | refine op_pick_true' ?_ | refine op_pick_false' ?_ | refine op_build ?_ | refine op_extract ?_ | refine op_makeInterface ?_ | refine op_typeAssert ?_ | refine op_ptr_nil ?_ | refine op_nilCheck_ptr ?_ | refine op_nilCheck_meth ?_ | refine op_makeMeth ?_ | refine op_makeFunc ?_ | refine op_itof ?_ | refine op_itoi ?_ | refine op_ftoi ?_ | refine op_iquo ?_ | refine op_irem ?_ | refine op_ibits ?_ | refine op_slice_isnil ?_ | refine op_slice_notnil ?_ | refine op_imax ?_ | refine op_imin ?_ | refine op_shl ?_ | refine op_shr ?_ | (refine op_alloc ?_; intro _) | (refine op_box ?_; intro _) | (refine op_buildSlice ?_; intro _) | (refine op_farith ?_; intro _ _) | refine op_store0 ?_ | refine op_store1 ?_ | refine op_store2 ?_ | refine op_store3 ?_ | refine op_store4 ?_ | refine op_store5 ?_ | refine op_storeK rfl ?_ | refine op_loadK rfl ?_ | refine op_load_aggK rfl ?_ | refine tc_cond_t ?_ | refine tc_cond_f ?_ | refine tc_cond (fun _ => ?_) (fun _ => ?_) | refine tc_block ?_ | refine tc_skip ?_ | refine tc_ret ?_ | refine tc_exit ?_ | refine tc_label ?_ | refine at_seq_ret ?_ | refine at_seq_exit ?_ | refine at_block_normal ?_ | refine at_block_ret ?_ | refine at_block_exit_self ?_ | refine at_block_exit_ne ?_ | refine at_loop_ret ?_ | refine at_loop_exit ?_ | refine at_loop_goto ?_ | refine tl_guard_yes ?_ | refine tl_guard_no ?_ | refine tl_guard_yes' ?_ | refine tl_guard_no' ?_ | refine tl_guard_undef ?_ | refine tl_guard_split (fun _ => ?_) (fun _ => ?_))
    | fail
  generalize fin (fun s e i => dsq (X s) (Y s) (X e) (Y e) (X i) (Y i)) (fop .mul thr thr) (wt [(0, n - 1)]) [(0, n - 1)] (mask0 n) = F at *
  have hsp : ((List.range (fd * 1)).map (fun i => [Value.int .i64 0][i % [Value.int .i64 0].length]!)).length = fd := by simp
  generalize (List.range (fd * 1)).map (fun i => [Value.int .i64 0][i % [Value.int .i64 0].length]!) = sp0 at *
  refine tc_loopK [(6, _), (49, _), (50, _)] (by repeat (first | exact trivial | refine ⟨rfl, ?_⟩)) (fun (g : Nat × Buf) => [(12, bufV g.2 (idx F g.1).length), (51, .int .i64 (g.1 : Int))])
    (fun g => bufH 3 g.2 ((idx F g.1).map iv) ((km, .cells ⟨F.map bv⟩ 5 (0, 0)) :: H)) (fun g => g.1 ≤ n ∧ bufOk 1 g.2 (idx F g.1).length ((idx F g.1).map iv)) (fun g => n - g.1) (0, some (kr, fd, sp0)) ⟨Nat.zero_le _, Nat.zero_le _, (by simp only [maxLen]; omega), rfl, (by rw [Nat.mul_one]; exact hsp)⟩ ⟨rfl, rfl, trivial⟩ (List.Sublist.refl _) ?_
  rintro ⟨j, buf⟩ ⟨hj, hbuf⟩
  simp only at hj hbuf ⊢
  by_cases hlt : j < n
  · have hb : icmp .lss (j : Int) (n : Int) = true := by rw [lss_nat]; simpa using hlt
    have hix : idx F (j + 1) = if F.getD j 0 = 1 then idx F j ++ [(j : Int)] else idx F j := rfl
    have hget : (F.map bv)[0 + j]? = some (.int .u8 ((F.getD j 0 : Nat) : Int)) := by
      rw [Nat.zero_add, List.getElem?_map, List.getElem?_eq_getElem (by omega), getD_in (by omega)]; rfl
    have hlen := idx_len F j
    generalize F.getD j 0 = x at *
    by_cases hx : x = 1
    · subst hx
      rw [if_pos rfl] at hix
      repeat' first
        | (refine op_indexAddr1 (j := j) ?_ (hj := by omega))
        | (refine op_load ?_ (hm := (bufH_sub _ _ _ _).subset List.mem_cons_self) (hv := hget))
        | (first | refine tl_defer ?_ | refine tc_seq ?_ | refine tc_region ?_ | refine at_seq_normal ?_ | refine tl_nil ?_ | refine tl_cons ?_ | refine tl_cons_none ?_ | refine op_move ?_ | refine op_assign ?_ | refine op_fieldAddr ?_ | refine op_load ?_ | refine op_load_agg ?_ | refine op_indexC ?_ | refine op_indexAddr1 ?_ | refine op_indexAddr ?_ | refine op_icmp ?_ | refine op_fcmp ?_ | refine op_iarith ?_ | refine op_bcmp ?_ | refine op_unop_not ?_ | refine op_unop_neg_float ?_ | refine op_unop_neg_int ?_ | refine op_len_slice ?_ | refine op_pick_true ?_ | refine op_pick_false ?_ | refine op_pick_true' ?_ | refine op_pick_false' ?_ | refine op_build ?_ | refine op_extract ?_ | refine op_makeInterface ?_ | refine op_typeAssert ?_ | refine op_ptr_nil ?_ | refine op_nilCheck_ptr ?_ | refine op_nilCheck_meth ?_ | refine op_makeMeth ?_ | refine op_makeFunc ?_ | refine op_itof ?_ | refine op_itoi ?_ | refine op_ftoi ?_ | refine op_iquo ?_ | refine op_irem ?_ | refine op_ibits ?_ | refine op_slice_isnil ?_ | refine op_slice_notnil ?_ | refine op_imax ?_ | refine op_imin ?_ | refine op_shl ?_ | refine op_shr ?_ | (refine op_alloc ?_; intro _) | (refine op_box ?_; intro _) | (refine op_buildSlice ?_; intro _) | (refine op_farith ?_; intro _ _) | refine op_store0 ?_ | refine op_store1 ?_ | refine op_store2 ?_ | refine op_store3 ?_ | refine op_store4 ?_ | refine op_store5 ?_ | refine op_storeK rfl ?_ | refine op_loadK rfl ?_ | refine op_load_aggK rfl ?_ | refine tc_cond_t ?_ | refine tc_cond_f ?_ | refine tc_cond (fun _ => ?_) (fun _ => ?_) | refine tc_block ?_ | refine tc_skip ?_ | refine tc_ret ?_ | refine tc_exit ?_ | refine tc_label ?_ | refine at_seq_ret ?_ | refine at_seq_exit ?_ | refine at_block_normal ?_ | refine at_block_ret ?_ | refine at_block_exit_self ?_ | refine at_block_exit_ne ?_ | refine at_loop_ret ?_ | refine at_loop_exit ?_ | refine at_loop_goto ?_ | refine tl_guard_yes ?_ | refine tl_guard_no ?_ | refine tl_guard_yes' ?_ | refine tl_guard_no' ?_ | refine tl_guard_undef ?_ | refine tl_guard_split (fun _ => ?_) (fun _ => ?_))
        | fail
      refine op_append buf (idx F j).length ((idx F j).map iv) [.int .i64 (j : Int)] (m := 1) hbuf (fun buf' hokb => ?_) (by exact rfl) (by exact rfl) (H' := (km, .cells ⟨F.map bv⟩ 5 (0, 0)) :: H) (List.sublist_cons_self _ _) mem0 rfl rfl (by intro u hu; simp only [List.mem_cons, List.not_mem_nil, or_false] at hu; rcases hu with rfl; rfl) (by decide) (by simp only [maxLen]; omega) (by omega)
      have hl1 : (idx F (j + 1)).length = (idx F j).length + 1 := by rw [hix]; simp
      have hmp : (idx F (j + 1)).map iv = (idx F j).map iv ++ [.int .i64 (j : Int)] := by rw [hix, List.map_append]; rfl
      rw [← hmp, ← hl1] at hokb ⊢
      repeat'
        first
          | refine tl_defer ?_ | refine tc_seq ?_ | refine tc_region ?_ | refine at_seq_normal ?_ | refine tl_nil ?_ | refine tl_cons ?_ | refine tl_cons_none ?_ | refine op_move ?_
          | refine op_assign ?_ | refine op_fieldAddr ?_ | refine op_load ?_ | refine op_load_agg ?_ | refine op_indexC ?_ | refine op_indexAddr1 ?_ | refine op_indexAddr ?_ | refine op_icmp ?_
          | refine op_fcmp ?_ | refine op_iarith ?_ | refine op_bcmp ?_ | refine op_unop_not ?_ | refine op_unop_neg_float ?_ | refine op_unop_neg_int ?_ | refine op_len_slice ?_ | refine op_pick_true ?_
          | refine op_pick_false ?_ | refine op_pick_true' ?_ | refine op_pick_false' ?_ | refine op_build ?_ | refine op_extract ?_ | refine op_makeInterface ?_ | refine op_typeAssert ?_ | refine op_ptr_nil ?_
          | refine op_nilCheck_ptr ?_ | refine op_nilCheck_meth ?_ | refine op_makeMeth ?_ | refine op_makeFunc ?_ | refine op_itof ?_ | refine op_itoi ?_ | refine op_ftoi ?_ | refine op_iquo ?_
          | refine op_irem ?_ | refine op_ibits ?_ | refine op_slice_isnil ?_ | refine op_slice_notnil ?_ | refine op_imax ?_ | refine op_imin ?_ | refine op_shl ?_ | refine op_shr ?_
          | (refine op_alloc ?_; intro _) | (refine op_box ?_; intro _) | (refine op_buildSlice ?_; intro _) | (refine op_farith ?_; intro _ _) | refine op_store0 ?_ | refine op_store1 ?_ | refine op_store2 ?_ | refine op_store3 ?_
          | refine op_store4 ?_ | refine op_store5 ?_ | refine tc_cond_t ?_ | refine tc_cond_f ?_ | refine tc_cond (fun _ => ?_) (fun _ => ?_) | refine tc_block ?_ | refine tc_skip ?_ | refine tc_ret ?_
          | refine tc_exit ?_ | refine tc_label ?_ | refine at_seq_ret ?_ | refine at_seq_exit ?_ | refine at_block_normal ?_ | refine at_block_ret ?_ | refine at_block_exit_self ?_ | refine at_block_exit_ne ?_
          | refine at_loop_ret ?_ | refine at_loop_exit ?_ | refine at_loop_goto ?_ | refine tl_guard_yes ?_ | refine tl_guard_no ?_ | refine tl_guard_yes' ?_ | refine tl_guard_no' ?_ | refine tl_guard_undef ?_
          | refine tl_guard_split (fun _ => ?_) (fun _ => ?_)
      exact at_loopK (j + 1, buf') ⟨hlt, hokb⟩ (by simp only []; omega) ⟨rfl, next_nat (by omega), trivial⟩ (by repeat (first | exact trivial | refine ⟨rfl, ?_⟩)) (List.Sublist.refl _)
    · rw [if_neg hx] at hix
      have hce : icmp .eql (x : Int) 1 = false := by simp only [icmp, beq_eq_false_iff_ne]; omega
      repeat' first
        | (refine op_indexAddr1 (j := j) ?_ (hj := by omega))
        | (refine op_load ?_ (hm := (bufH_sub _ _ _ _).subset List.mem_cons_self) (hv := hget))
        | (first | refine tl_defer ?_ | refine tc_seq ?_ | refine tc_region ?_ | refine at_seq_normal ?_ | refine tl_nil ?_ | refine tl_cons ?_ | refine tl_cons_none ?_ | refine op_move ?_ | refine op_assign ?_ | refine op_fieldAddr ?_ | refine op_load ?_ | refine op_load_agg ?_ | refine op_indexC ?_ | refine op_indexAddr1 ?_ | refine op_indexAddr ?_ | refine op_icmp ?_ | refine op_fcmp ?_ | refine op_iarith ?_ | refine op_bcmp ?_ | refine op_unop_not ?_ | refine op_unop_neg_float ?_ | refine op_unop_neg_int ?_ | refine op_len_slice ?_ | refine op_pick_true ?_ | refine op_pick_false ?_ | refine op_pick_true' ?_ | refine op_pick_false' ?_ | refine op_build ?_ | refine op_extract ?_ | refine op_makeInterface ?_ | refine op_typeAssert ?_ | refine op_ptr_nil ?_ | refine op_nilCheck_ptr ?_ | refine op_nilCheck_meth ?_ | refine op_makeMeth ?_ | refine op_makeFunc ?_ | refine op_itof ?_ | refine op_itoi ?_ | refine op_ftoi ?_ | refine op_iquo ?_ | refine op_irem ?_ | refine op_ibits ?_ | refine op_slice_isnil ?_ | refine op_slice_notnil ?_ | refine op_imax ?_ | refine op_imin ?_ | refine op_shl ?_ | refine op_shr ?_ | (refine op_alloc ?_; intro _) | (refine op_box ?_; intro _) | (refine op_buildSlice ?_; intro _) | (refine op_farith ?_; intro _ _) | refine op_store0 ?_ | refine op_store1 ?_ | refine op_store2 ?_ | refine op_store3 ?_ | refine op_store4 ?_ | refine op_store5 ?_ | refine op_storeK rfl ?_ | refine op_loadK rfl ?_ | refine op_load_aggK rfl ?_ | refine tc_cond_t ?_ | refine tc_cond_f ?_ | refine tc_cond (fun _ => ?_) (fun _ => ?_) | refine tc_block ?_ | refine tc_skip ?_ | refine tc_ret ?_ | refine tc_exit ?_ | refine tc_label ?_ | refine at_seq_ret ?_ | refine at_seq_exit ?_ | refine at_block_normal ?_ | refine at_block_ret ?_ | refine at_block_exit_self ?_ | refine at_block_exit_ne ?_ | refine at_loop_ret ?_ | refine at_loop_exit ?_ | refine at_loop_goto ?_ | refine tl_guard_yes ?_ | refine tl_guard_no ?_ | refine tl_guard_yes' ?_ | refine tl_guard_no' ?_ | refine tl_guard_undef ?_ | refine tl_guard_split (fun _ => ?_) (fun _ => ?_))
        | fail
      refine at_loopK (j + 1, buf) ⟨hlt, by rw [hix]; exact hbuf⟩ (by simp only []; omega) ⟨(by simp only []; rw [hix]; rfl), next_nat (by omega), trivial⟩ (by repeat (first | exact trivial | refine ⟨rfl, ?_⟩)) (by simp only []; rw [hix]; exact List.Sublist.refl _)
  · have hb : icmp .lss (j : Int) (n : Int) = false := by rw [lss_nat]; simpa using hlt
    obtain rfl : j = n := by omega
    repeat'
      first
        | refine tl_defer ?_ | refine tc_seq ?_ | refine tc_region ?_ | refine at_seq_normal ?_ | refine tl_nil ?_ | refine tl_cons ?_ | refine tl_cons_none ?_ | refine op_move ?_
        | refine op_assign ?_ | refine op_fieldAddr ?_ | refine op_load ?_ | refine op_load_agg ?_ | refine op_indexC ?_ | refine op_indexAddr1 ?_ | refine op_indexAddr ?_ | refine op_icmp ?_
        | refine op_fcmp ?_ | refine op_iarith ?_ | refine op_bcmp ?_ | refine op_unop_not ?_ | refine op_unop_neg_float ?_ | refine op_unop_neg_int ?_ | refine op_len_slice ?_ | refine op_pick_true ?_
        | refine op_pick_false ?_ | refine op_pick_true' ?_ | refine op_pick_false' ?_ | refine op_build ?_ | refine op_extract ?_ | refine op_makeInterface ?_ | refine op_typeAssert ?_ | refine op_ptr_nil ?_
        | refine op_nilCheck_ptr ?_ | refine op_nilCheck_meth ?_ | refine op_makeMeth ?_ | refine op_makeFunc ?_ | refine op_itof ?_ | refine op_itoi ?_ | refine op_ftoi ?_ | refine op_iquo ?_
        | refine op_irem ?_ | refine op_ibits ?_ | refine op_slice_isnil ?_ | refine op_slice_notnil ?_ | refine op_imax ?_ | refine op_imin ?_ | refine op_shl ?_ | refine op_shr ?_
        | (refine op_alloc ?_; intro _) | (refine op_box ?_; intro _) | (refine op_buildSlice ?_; intro _) | (refine op_farith ?_; intro _ _) | refine op_store0 ?_ | refine op_store1 ?_ | refine op_store2 ?_ | refine op_store3 ?_
        | refine op_store4 ?_ | refine op_store5 ?_ | refine tc_cond_t ?_ | refine tc_cond_f ?_ | refine tc_cond (fun _ => ?_) (fun _ => ?_) | refine tc_block ?_ | refine tc_skip ?_ | refine tc_ret ?_
        | refine tc_exit ?_ | refine tc_label ?_ | refine at_seq_ret ?_ | refine at_seq_exit ?_ | refine at_block_normal ?_ | refine at_block_ret ?_ | refine at_block_exit_self ?_ | refine at_block_exit_ne ?_
        | refine at_loop_ret ?_ | refine at_loop_exit ?_ | refine at_loop_goto ?_ | refine tl_guard_yes ?_ | refine tl_guard_no ?_ | refine tl_guard_yes' ?_ | refine tl_guard_no' ?_ | refine tl_guard_undef ?_
        | refine tl_guard_split (fun _ => ?_) (fun _ => ?_)
    have hs := isort hbuf (e := 3) (H := (km, .cells ⟨F.map bv⟩ 5 (0, 0)) :: H)
    refine ret_tmp (hG := List.Sublist.refl _) (hk := ⟨hs, ?_⟩)
    cases buf with
    | none => exact ⟨[_], rfl⟩
    | some b => exact ⟨[_, _], rfl⟩

set_option maxRecDepth 100000 in
instance idle64 : IdleD Try.prog 64 2 where
  idle := fun cap w hl => by
    match cap, hl with
    | [p, q], _ =>
    have h0 : ∀ w : World, (eqGuard .neq 20 (.tmp 2) (.const .nilIface) .nilIface .nilIface).run Try.prog w = .ok () w := fun _ => rfl
    have h1 : ∀ w : World, (binOp .neq 20 .nilIface .nilIface).run Try.prog w = .ok (.bool false) w := fun w => by
      first
        | rfl
        | simp [binOp, Op.equal, Op.equalIn, go_sem]
    refine callsD_of_wpS Try.func64 rfl fun c₀ cs hu => ?_
    apply wpS_seq
    apply wpS_region
    simp [wpOpsS, go_sem, recoverD, hu, Try.ntmps64, Exit.thenS, h1]
    refine wpS_cond (t := false) (by simp [Act.eval, Array.replicate]) ?_
    simp only [Bool.false_eq_true, if_false]
    refine wpS_of_wp (wp_skip ?_)
    cases c₀
    simp_all [bodyPostS, results, Try.results64]

theorem intsC (u : Value) (xs : List Int) (H : Heap) (hu : IS H u xs) (hb : xs.length < 2 ^ 40) : Does Try.prog 65 [u] H fun w H' => ∃ buf, w = bufV buf xs.length ∧ bufOk 1 buf xs.length (xs.map iv) ∧ H' = bufH 3 buf (xs.map iv) H := by
  refine fn_enter 5 Try.func65 fun W => ?_
  repeat' first
    | (first | refine tl_defer ?_ | refine tc_seq ?_ | refine tc_region ?_ | refine at_seq_normal ?_ | refine tl_nil ?_ | refine tl_cons ?_ | refine tl_cons_none ?_ | refine op_move ?_ | refine op_assign ?_ | refine op_fieldAddr ?_ | refine op_load ?_ | refine op_load_agg ?_ | refine op_indexC ?_ | refine op_indexAddr1 ?_ | refine op_indexAddr ?_ | refine op_icmp ?_ | refine op_fcmp ?_ | refine op_iarith ?_ | refine op_bcmp ?_ | refine op_unop_not ?_ | refine op_unop_neg_float ?_ | refine op_unop_neg_int ?_ | refine op_len_slice ?_ | refine op_pick_true ?_ | refine op_pick_false ?_ | refine op_pick_true' ?_ | refine op_pick_false' ?_ | refine op_build ?_ | refine op_extract ?_ | refine op_makeInterface ?_ | refine op_typeAssert ?_ | refine op_ptr_nil ?_ | refine op_nilCheck_ptr ?_ | refine op_nilCheck_meth ?_ | refine op_makeMeth ?_ | refine op_makeFunc ?_ | refine op_itof ?_ | refine op_itoi ?_ | refine op_ftoi ?_ | refine op_iquo ?_ | refine op_irem ?_ | refine op_ibits ?_ | refine op_slice_isnil ?_ | refine op_slice_notnil ?_ | refine op_imax ?_ | refine op_imin ?_ | refine op_shl ?_ | refine op_shr ?_ | (refine op_alloc ?_; intro _) | (refine op_box ?_; intro _) | (refine op_buildSlice ?_; intro _) | (refine op_farith ?_; intro _ _) | refine op_store0 ?_ | refine op_store1 ?_ | refine op_store2 ?_ | refine op_store3 ?_ | refine op_store4 ?_ | refine op_store5 ?_ | refine op_storeK rfl ?_ | refine op_loadK rfl ?_ | refine op_load_aggK rfl ?_ | refine tc_cond_t ?_ | refine tc_cond_f ?_ | refine tc_cond (fun _ => ?_) (fun _ => ?_) | refine tc_block ?_ | refine tc_skip ?_ | refine tc_ret ?_ | refine tc_exit ?_ | refine tc_label ?_ | refine at_seq_ret ?_ | refine at_seq_exit ?_ | refine at_block_normal ?_ | refine at_block_ret ?_ | refine at_block_exit_self ?_ | refine at_block_exit_ne ?_ | refine at_loop_ret ?_ | refine at_loop_exit ?_ | refine at_loop_goto ?_ | refine tl_guard_yes ?_ | refine tl_guard_no ?_ | refine tl_guard_yes' ?_ | refine tl_guard_no' ?_ | refine tl_guard_undef ?_ | refine tl_guard_split (fun _ => ?_) (fun _ => ?_))
    | (refine op_appendS none 0 [] (xs.map iv) (m := xs.length) ⟨rfl, rfl⟩ (fun buf' hok' _ => ?_) hu.toN (by exact rfl) (by exact rfl) (List.Sublist.refl _) (oneCell_iv _) (by simp only [maxLen]; omega) (by omega))
    | fail
  rw [List.nil_append, Nat.zero_add] at hok'
  simp only [Nat.zero_add, List.nil_append]
  repeat'
    first
      | refine tl_defer ?_ | refine tc_seq ?_ | refine tc_region ?_ | refine at_seq_normal ?_ | refine tl_nil ?_ | refine tl_cons ?_ | refine tl_cons_none ?_ | refine op_move ?_
      | refine op_assign ?_ | refine op_fieldAddr ?_ | refine op_load ?_ | refine op_load_agg ?_ | refine op_indexC ?_ | refine op_indexAddr1 ?_ | refine op_indexAddr ?_ | refine op_icmp ?_
      | refine op_fcmp ?_ | refine op_iarith ?_ | refine op_bcmp ?_ | refine op_unop_not ?_ | refine op_unop_neg_float ?_ | refine op_unop_neg_int ?_ | refine op_len_slice ?_ | refine op_pick_true ?_
      | refine op_pick_false ?_ | refine op_pick_true' ?_ | refine op_pick_false' ?_ | refine op_build ?_ | refine op_extract ?_ | refine op_makeInterface ?_ | refine op_typeAssert ?_ | refine op_ptr_nil ?_
      | refine op_nilCheck_ptr ?_ | refine op_nilCheck_meth ?_ | refine op_makeMeth ?_ | refine op_makeFunc ?_ | refine op_itof ?_ | refine op_itoi ?_ | refine op_ftoi ?_ | refine op_iquo ?_
      | refine op_irem ?_ | refine op_ibits ?_ | refine op_slice_isnil ?_ | refine op_slice_notnil ?_ | refine op_imax ?_ | refine op_imin ?_ | refine op_shl ?_ | refine op_shr ?_
      | (refine op_alloc ?_; intro _) | (refine op_box ?_; intro _) | (refine op_buildSlice ?_; intro _) | (refine op_farith ?_; intro _ _) | refine op_store0 ?_ | refine op_store1 ?_ | refine op_store2 ?_ | refine op_store3 ?_
      | refine op_store4 ?_ | refine op_store5 ?_ | refine tc_cond_t ?_ | refine tc_cond_f ?_ | refine tc_cond (fun _ => ?_) (fun _ => ?_) | refine tc_block ?_ | refine tc_skip ?_ | refine tc_ret ?_
      | refine tc_exit ?_ | refine tc_label ?_ | refine at_seq_ret ?_ | refine at_seq_exit ?_ | refine at_block_normal ?_ | refine at_block_ret ?_ | refine at_block_exit_self ?_ | refine at_block_exit_ne ?_
      | refine at_loop_ret ?_ | refine at_loop_exit ?_ | refine at_loop_goto ?_ | refine tl_guard_yes ?_ | refine tl_guard_no ?_ | refine tl_guard_yes' ?_ | refine tl_guard_no' ?_ | refine tl_guard_undef ?_
      | refine tl_guard_split (fun _ => ?_) (fun _ => ?_)
  exact ret_tmp (hG := List.Sublist.refl _) (hk := ⟨buf', rfl, hok', rfl⟩)

set_option maxHeartbeats 16000000 in
theorem implSimplify (n stp : Nat) (X Y : Nat → Nat) (k o cf : Nat) (L : List Value) (T : TypeId) (fz : Nat × Nat) (thr : Nat) (H : Heap) (hm : (k, Obj.cells ⟨L⟩ T fz) ∈ H) (hn1 : 1 ≤ n) (hn : n ≤ 60) (hs2 : 2 ≤ stp) (hs8 : stp ≤ 8) (hc : n * stp ≤ cf)
    (hXY : ∀ i, i < n → L[o + i * stp]? = some (.float .f64 (X i)) ∧ L[o + i * stp + 1]? = some (.float .f64 (Y i))) (hW : ∀ i, i < n → (∃ z, FI 8192 (X i) z) ∧ ∃ z, FI 8192 (Y i) z)
    (hthr : FB .mul thr thr) (h0 : fcmp .gtr 0 (fop .mul thr thr) = false) (N : Nat) (hN : N = n * stp) (ks : List Int) (hks : ks = kept n (fun s e i => dsq (X s) (Y s) (X e) (Y e) (X i) (Y i)) (fop .mul thr thr)) :
    Does Try.prog 17 [.slice (some ⟨k, o, none⟩) N cf, .float .f64 thr, .int .i64 (stp : Int)] H fun w H' => ∃ a c, w = .tuple #[.slice a ks.length c, .bool true] ∧ IS H' (.slice a ks.length c) ks ∧ ∃ ex, H' = ex ++ H := by
  subst hN
  have hkl := @kept_len n (fun s e i => dsq (X s) (Y s) (X e) (Y e) (X i) (Y i)) (fop .mul thr thr)
  rw [← hks] at hkl
  refine fn_enter_d 14 Try.func17 fun W => ?_
  repeat' first
    | (first | refine tl_defer ?_ | refine tc_seq ?_ | refine tc_region ?_ | refine at_seq_normal ?_ | refine tl_nil ?_ | refine tl_cons ?_ | refine tl_cons_none ?_ | refine op_move ?_ | refine op_assign ?_ | refine op_fieldAddr ?_ | refine op_load ?_ | refine op_load_agg ?_ | refine op_indexC ?_ | refine op_indexAddr1 ?_ | refine op_indexAddr ?_ | refine op_icmp ?_ | refine op_fcmp ?_ | refine op_iarith ?_ | refine op_bcmp ?_ | refine op_unop_not ?_ | refine op_unop_neg_float ?_ | refine op_unop_neg_int ?_ | refine op_len_slice ?_ | refine op_pick_true ?_ | refine op_pick_false ?_ | refine op_pick_true' ?_ | refine op_pick_false' ?_ | refine op_build ?_ | refine op_extract ?_ | refine op_makeInterface ?_ | refine op_typeAssert ?_ | refine op_ptr_nil ?_ | refine op_nilCheck_ptr ?_ | refine op_nilCheck_meth ?_ | refine op_makeMeth ?_ | refine op_makeFunc ?_ | refine op_itof ?_ | refine op_itoi ?_ | refine op_ftoi ?_ | refine op_iquo ?_ | refine op_irem ?_ | refine op_ibits ?_ | refine op_slice_isnil ?_ | refine op_slice_notnil ?_ | refine op_imax ?_ | refine op_imin ?_ | refine op_shl ?_ | refine op_shr ?_ | (refine op_alloc ?_; intro _) | (refine op_box ?_; intro _) | (refine op_buildSlice ?_; intro _) | (refine op_farith ?_; intro _ _) | refine op_store0 ?_ | refine op_store1 ?_ | refine op_store2 ?_ | refine op_store3 ?_ | refine op_store4 ?_ | refine op_store5 ?_ | refine op_storeK rfl ?_ | refine op_loadK rfl ?_ | refine op_load_aggK rfl ?_ | refine tc_cond_t ?_ | refine tc_cond_f ?_ | refine tc_cond (fun _ => ?_) (fun _ => ?_) | refine tc_block ?_ | refine tc_skip ?_ | refine tc_ret ?_ | refine tc_exit ?_ | refine tc_label ?_ | refine at_seq_ret ?_ | refine at_seq_exit ?_ | refine at_block_normal ?_ | refine at_block_ret ?_ | refine at_block_exit_self ?_ | refine at_block_exit_ne ?_ | refine at_loop_ret ?_ | refine at_loop_exit ?_ | refine at_loop_goto ?_ | refine tl_guard_yes ?_ | refine tl_guard_no ?_ | refine tl_guard_yes' ?_ | refine tl_guard_no' ?_ | refine tl_guard_undef ?_ | refine tl_guard_split (fun _ => ?_) (fun _ => ?_))
    | (refine op_call ((simplify n stp X Y k o cf L T fz thr _ (by simp [hm]) hn1 hn hs2 hs8 hc hXY hW hthr h0).mono ?_); rw [← hks]; rintro u _ ⟨hu, ex1, rfl⟩; obtain ⟨a1, c1, rfl⟩ := hu.val)
    | (refine op_call ((intsC _ _ _ hu (by omega)).mono ?_); rintro _ _ ⟨buf, rfl, hbuf, rfl⟩)
    | fail
  match buf, hbuf with
  | none, hbuf =>
    simp only [bufV, bufH]
    repeat' first
      | refine op_storeK rfl ?_
      | (first | refine tl_defer ?_ | refine tc_seq ?_ | refine tc_region ?_ | refine at_seq_normal ?_ | refine tl_nil ?_ | refine tl_cons ?_ | refine tl_cons_none ?_ | refine op_move ?_ | refine op_assign ?_ | refine op_fieldAddr ?_ | refine op_load ?_ | refine op_load_agg ?_ | refine op_indexC ?_ | refine op_indexAddr1 ?_ | refine op_indexAddr ?_ | refine op_icmp ?_ | refine op_fcmp ?_ | refine op_iarith ?_ | refine op_bcmp ?_ | refine op_unop_not ?_ | refine op_unop_neg_float ?_ | refine op_unop_neg_int ?_ | refine op_len_slice ?_ | refine op_pick_true ?_ | refine op_pick_false ?_ | refine op_pick_true' ?_ | refine op_pick_false' ?_ | refine op_build ?_ | refine op_extract ?_ | refine op_makeInterface ?_ | refine op_typeAssert ?_ | refine op_ptr_nil ?_ | refine op_nilCheck_ptr ?_ | refine op_nilCheck_meth ?_ | refine op_makeMeth ?_ | refine op_makeFunc ?_ | refine op_itof ?_ | refine op_itoi ?_ | refine op_ftoi ?_ | refine op_iquo ?_ | refine op_irem ?_ | refine op_ibits ?_ | refine op_slice_isnil ?_ | refine op_slice_notnil ?_ | refine op_imax ?_ | refine op_imin ?_ | refine op_shl ?_ | refine op_shr ?_ | (refine op_alloc ?_; intro _) | (refine op_box ?_; intro _) | (refine op_buildSlice ?_; intro _) | (refine op_farith ?_; intro _ _) | refine op_store0 ?_ | refine op_store1 ?_ | refine op_store2 ?_ | refine op_store3 ?_ | refine op_store4 ?_ | refine op_store5 ?_ | refine op_storeK rfl ?_ | refine op_loadK rfl ?_ | refine op_load_aggK rfl ?_ | refine tc_cond_t ?_ | refine tc_cond_f ?_ | refine tc_cond (fun _ => ?_) (fun _ => ?_) | refine tc_block ?_ | refine tc_skip ?_ | refine tc_ret ?_ | refine tc_exit ?_ | refine tc_label ?_ | refine at_seq_ret ?_ | refine at_seq_exit ?_ | refine at_block_normal ?_ | refine at_block_ret ?_ | refine at_block_exit_self ?_ | refine at_block_exit_ne ?_ | refine at_loop_ret ?_ | refine at_loop_exit ?_ | refine at_loop_goto ?_ | refine tl_guard_yes ?_ | refine tl_guard_no ?_ | refine tl_guard_yes' ?_ | refine tl_guard_no' ?_ | refine tl_guard_undef ?_ | refine tl_guard_split (fun _ => ?_) (fun _ => ?_))
      | fail
    have hz : ks.length = 0 := hbuf.1
    rw [List.length_eq_zero_iff.1 hz]
    refine ret_door (m := 2) rfl rfl (.cons (rv_cell rfl) (.cons (rv_cell rfl) .nil)) rfl (List.Sublist.refl _) ?_
    exact ⟨none, 0, rfl, IS.nil, ExC.ex⟩
  | some (kb, cap, sp), hbuf =>
    simp only [bufV, bufH]
    repeat' first
      | refine op_storeK rfl ?_
      | (first | refine tl_defer ?_ | refine tc_seq ?_ | refine tc_region ?_ | refine at_seq_normal ?_ | refine tl_nil ?_ | refine tl_cons ?_ | refine tl_cons_none ?_ | refine op_move ?_ | refine op_assign ?_ | refine op_fieldAddr ?_ | refine op_load ?_ | refine op_load_agg ?_ | refine op_indexC ?_ | refine op_indexAddr1 ?_ | refine op_indexAddr ?_ | refine op_icmp ?_ | refine op_fcmp ?_ | refine op_iarith ?_ | refine op_bcmp ?_ | refine op_unop_not ?_ | refine op_unop_neg_float ?_ | refine op_unop_neg_int ?_ | refine op_len_slice ?_ | refine op_pick_true ?_ | refine op_pick_false ?_ | refine op_pick_true' ?_ | refine op_pick_false' ?_ | refine op_build ?_ | refine op_extract ?_ | refine op_makeInterface ?_ | refine op_typeAssert ?_ | refine op_ptr_nil ?_ | refine op_nilCheck_ptr ?_ | refine op_nilCheck_meth ?_ | refine op_makeMeth ?_ | refine op_makeFunc ?_ | refine op_itof ?_ | refine op_itoi ?_ | refine op_ftoi ?_ | refine op_iquo ?_ | refine op_irem ?_ | refine op_ibits ?_ | refine op_slice_isnil ?_ | refine op_slice_notnil ?_ | refine op_imax ?_ | refine op_imin ?_ | refine op_shl ?_ | refine op_shr ?_ | (refine op_alloc ?_; intro _) | (refine op_box ?_; intro _) | (refine op_buildSlice ?_; intro _) | (refine op_farith ?_; intro _ _) | refine op_store0 ?_ | refine op_store1 ?_ | refine op_store2 ?_ | refine op_store3 ?_ | refine op_store4 ?_ | refine op_store5 ?_ | refine op_storeK rfl ?_ | refine op_loadK rfl ?_ | refine op_load_aggK rfl ?_ | refine tc_cond_t ?_ | refine tc_cond_f ?_ | refine tc_cond (fun _ => ?_) (fun _ => ?_) | refine tc_block ?_ | refine tc_skip ?_ | refine tc_ret ?_ | refine tc_exit ?_ | refine tc_label ?_ | refine at_seq_ret ?_ | refine at_seq_exit ?_ | refine at_block_normal ?_ | refine at_block_ret ?_ | refine at_block_exit_self ?_ | refine at_block_exit_ne ?_ | refine at_loop_ret ?_ | refine at_loop_exit ?_ | refine at_loop_goto ?_ | refine tl_guard_yes ?_ | refine tl_guard_no ?_ | refine tl_guard_yes' ?_ | refine tl_guard_no' ?_ | refine tl_guard_undef ?_ | refine tl_guard_split (fun _ => ?_) (fun _ => ?_))
      | fail
    refine ret_door (m := 2) rfl rfl (.cons (rv_cell rfl) (.cons (rv_cell rfl) .nil)) rfl (List.Sublist.refl _) ?_
    refine ⟨some ⟨kb, 0, none⟩, cap, rfl, ?_, ExC.ex⟩
    exact ⟨_, cap, by simp, by have := hbuf.1; simpa using this, fun _ => ⟨kb, 0, _, _, _, rfl, MidC.mem inferInstance, by rw [List.drop_zero]; exact List.take_left⟩⟩
end Go.Proofs.Ytomhkbijijdghaa.Smpl
