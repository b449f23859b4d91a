/-
  Flat coordinates as places, with their tests (flatTo); closed lines (shut). No conditions.
-/
import Derived.Test.YtomhkbijijdghaaZL7
import Derived.Test.YtomhkbijijdghaaZL9
import Derived.Test.YtomhkbijijdghaaZL10
set_option linter.unusedVariables false
set_option linter.unusedSimpArgs false
namespace Go.Proofs.Ytomhkbijijdghaa.Rno
open Go.Lg Go.Proofs.Ytomhkbijijdghaa.Pl Go.Proofs.Ytomhkbijijdghaa.Sd Ieee

theorem sln_buf {e : TypeId} {s : Nat} {buf : Buf} {n : Nat} {ws : List Value} {H : Heap} (h : bufOk s buf n ws) : SlN s (bufH e buf ws H) (bufV buf n) n ws := by
  cases buf with
  | none =>
    obtain ⟨rfl, rfl⟩ := h
    exact SlN.nil
  | some b =>
    obtain ⟨k, cap, sp⟩ := b
    obtain ⟨h1, h2, h3, h4⟩ := h
    exact ⟨h3, some ⟨k, 0, none⟩, cap, rfl, h1, fun _ => ⟨k, 0, _, e, (0, 0), rfl, List.mem_cons_self, by rw [List.drop_zero, ← h3, List.take_left]⟩⟩
theorem bufV_val (buf : Buf) (n : Nat) (s : Nat) (ws : List Value) (h : bufOk s buf n ws) : ∃ a c, bufV buf n = .slice a n c := by
  cases buf with
  | none => obtain ⟨rfl, _⟩ := h; exact ⟨none, 0, rfl⟩
  | some b => exact ⟨_, _, rfl⟩
theorem strideS (n : Int) (H : Heap) : Does Try.prog 104 [.int .i64 n] H fun w H' => w = .int .i64 (strideI n) ∧ H' = H := by
  refine fn_enter 17 Try.func104 fun W => ?_
  repeat' first
    | refine tc_seq ?_ | refine tc_region ?_ | refine at_seq_normal ?_ | refine tl_nil ?_ | refine tl_cons ?_ | refine op_move ?_ | refine op_assign ?_ | refine op_icmp ?_ | refine op_pick_true ?_ | refine op_pick_false ?_
    | refine op_pick_true' ?_ | refine op_pick_false' ?_ | refine tc_cond_t ?_ | refine tc_cond_f ?_ | refine tc_cond (fun _ => ?_) (fun _ => ?_) | refine tc_block ?_ | refine tc_skip ?_ | refine tc_ret ?_ | refine at_seq_ret ?_ | refine at_block_normal ?_
    | refine at_block_ret ?_ | refine tl_guard_yes ?_ | refine tl_guard_no ?_ | refine tl_guard_yes' ?_ | refine tl_guard_no' ?_ | refine tl_guard_undef ?_ | refine tl_guard_split (fun _ => ?_) (fun _ => ?_)
  all_goals (first | exact ret_tmp (hk := ⟨congrArg (Value.int .i64) (by simp only [icmp, decide_eq_true_eq, decide_eq_false_iff_not, beq_iff_eq, beq_eq_false_iff_ne, ne_eq] at *; unfold strideI; (repeat' split) <;> omega), rfl⟩))
def prs (xs : List Nat) (stp n : Nat) : List (Nat × Nat) := (List.range n).map fun i => (xs.getD (i * stp) 0, xs.getD (i * stp + 1) 0)
theorem prs_succ (xs : List Nat) (stp n : Nat) : prs xs stp (n + 1) = prs xs stp n ++ [(xs.getD (n * stp) 0, xs.getD (n * stp + 1) 0)] := by simp [prs, List.range_succ]
theorem prs_len (xs : List Nat) (stp n : Nat) : (prs xs stp n).length = n := by simp [prs]
theorem prs_get {xs : List Nat} {stp n i : Nat} (h : i < n) : (prs xs stp n)[i]? = some (xs.getD (i * stp) 0, xs.getD (i * stp + 1) 0) := by simp [prs, h]
theorem fv24 : Fv 4715268809856909312 ((16777216 : Nat) : Rat) := ⟨false, 4503599627370496, -28, rfl, by
  unfold sgn p2; simp; grind⟩
/-- The row has whole places of this layout. -/
def RowR (xs : List Nat) (l : Int) (stp n : Nat) : Prop := 1 ≤ l ∧ l ≤ 8 ∧ strideI l = (stp : Int) ∧ 2 ≤ stp ∧ stp ≤ 8 ∧ xs.length = n * stp ∧ n ≤ 200
set_option maxHeartbeats 16000000 in
theorem flatTo (a : Option Addr) (c : Nat) (l : Int) (xs : List Nat) (H : Heap) (hv : FS H (.slice a xs.length c) xs) (hl : xs.length ≤ 2147483647) :
    Does Try.prog 44 [.int .i64 l, .slice a xs.length c, .float .f64 4715268809856909312, .int .i64 200] H fun w H' => ∃ v b, w = .tuple #[v, .bool b] ∧ (∃ a m c, v = .slice a m c) ∧
      (b = true → ∃ stp n, RowR xs l stp n ∧ SlN 2 H' v n ((pairs (prs xs stp n)).map fl) ∧ ∀ p ∈ prs xs stp n, Wh 16777216 p.1 ∧ Wh 16777216 p.2) ∧ ∃ ex, H' = ex ++ H := by
  refine fn_enter 57 Try.func44 fun W => ?_
  by_cases hs : 1 ≤ l ∧ l ≤ 8
  rotate_left
  · by_cases h2 : l < 1
    · have c1 : icmp .lss l 1 = true := by simp only [icmp, decide_eq_true_eq]; omega
      repeat' first
        | refine tc_seq ?_ | refine tc_region ?_ | refine at_seq_normal ?_ | refine tl_nil ?_ | refine tl_cons ?_ | refine op_move ?_ | refine op_assign ?_ | refine op_load ?_ | refine op_load_agg ?_ | refine op_indexC ?_
        | refine op_indexAddr1 ?_ | refine op_indexAddr ?_ | refine op_icmp ?_ | refine op_iarith ?_ | refine op_len_slice ?_ | refine op_pick_true ?_ | refine op_pick_false ?_ | refine op_pick_true' ?_ | refine op_pick_false' ?_ | refine op_build ?_
        | refine op_irem ?_ | (refine op_buildSlice ?_; intro _) | refine op_loadK rfl ?_ | refine op_load_aggK rfl ?_ | refine tc_cond_t ?_ | refine tc_cond_f ?_ | refine tc_cond (fun _ => ?_) (fun _ => ?_) | refine tc_block ?_ | refine tc_skip ?_ | refine tc_ret ?_
        | refine tc_exit ?_ | refine at_seq_ret ?_ | refine at_seq_exit ?_ | refine at_block_normal ?_ | refine at_block_ret ?_ | refine at_block_exit_self ?_ | refine at_block_exit_ne ?_ | refine at_loop_ret ?_ | refine at_loop_exit ?_ | refine tl_guard_yes ?_
        | refine tl_guard_no ?_ | refine tl_guard_yes' ?_ | refine tl_guard_no' ?_ | refine tl_guard_undef ?_ | refine tl_guard_split (fun _ => ?_) (fun _ => ?_)
      exact ret_two (.tmp rfl) (.tmp rfl) (hG := List.Sublist.refl _) (hk := ⟨_, false, rfl, ⟨_, _, _, rfl⟩, (fun h => by cases h), [], rfl⟩)
    · have c1 : icmp .lss l 1 = false := by simp only [icmp, decide_eq_false_iff_not]; omega
      have c2 : icmp .gtr l 8 = true := by simp only [icmp, decide_eq_true_eq]; omega
      repeat' first
        | refine tc_seq ?_ | refine tc_region ?_ | refine at_seq_normal ?_ | refine tl_nil ?_ | refine tl_cons ?_ | refine op_move ?_ | refine op_assign ?_ | refine op_load ?_ | refine op_load_agg ?_ | refine op_indexC ?_
        | refine op_indexAddr1 ?_ | refine op_indexAddr ?_ | refine op_icmp ?_ | refine op_iarith ?_ | refine op_len_slice ?_ | refine op_pick_true ?_ | refine op_pick_false ?_ | refine op_pick_true' ?_ | refine op_pick_false' ?_ | refine op_build ?_
        | refine op_irem ?_ | (refine op_buildSlice ?_; intro _) | refine op_loadK rfl ?_ | refine op_load_aggK rfl ?_ | refine tc_cond_t ?_ | refine tc_cond_f ?_ | refine tc_cond (fun _ => ?_) (fun _ => ?_) | refine tc_block ?_ | refine tc_skip ?_ | refine tc_ret ?_
        | refine tc_exit ?_ | refine at_seq_ret ?_ | refine at_seq_exit ?_ | refine at_block_normal ?_ | refine at_block_ret ?_ | refine at_block_exit_self ?_ | refine at_block_exit_ne ?_ | refine at_loop_ret ?_ | refine at_loop_exit ?_ | refine tl_guard_yes ?_
        | refine tl_guard_no ?_ | refine tl_guard_yes' ?_ | refine tl_guard_no' ?_ | refine tl_guard_undef ?_ | refine tl_guard_split (fun _ => ?_) (fun _ => ?_)
      exact ret_two (.tmp rfl) (.tmp rfl) (hG := List.Sublist.refl _) (hk := ⟨_, false, rfl, ⟨_, _, _, rfl⟩, (fun h => by cases h), [], rfl⟩)
  obtain ⟨hl1, hl8⟩ := hs
  obtain ⟨stp, hst⟩ : ∃ t : Nat, strideI l = (t : Int) := ⟨(strideI l).toNat, by unfold strideI; (repeat' split) <;> omega⟩
  have hst2 : 2 ≤ stp ∧ stp ≤ 8 := by
    unfold strideI at hst
    (repeat' split at hst) <;> omega
  obtain ⟨hs2, hs8⟩ := hst2
  have c1 : icmp .lss l 1 = false := by simp only [icmp, decide_eq_false_iff_not]; omega
  have c2 : icmp .gtr l 8 = false := by simp only [icmp, decide_eq_false_iff_not]; omega
  have hsne : ((stp : Nat) : Int) ≠ 0 := by omega
  have hrem : Int.tmod (xs.length : Int) (stp : Int) = ((xs.length % stp : Nat) : Int) := (Int.ofNat_tmod _ _).symm
  have h60 : IntKind.i64.wrap (iarith .mul (stp : Int) 200) = ((stp * 200 : Nat) : Int) := by rw [wrap_mul (by omega) (by omega)]; omega
  by_cases hr0 : xs.length % stp = 0
  rotate_left
  · have c3 : icmp .neq ((xs.length % stp : Nat) : Int) 0 = true := by simp only [icmp, bne_iff_ne]; omega
    repeat' first
      | (refine op_call ((strideS l _).mono ?_); rintro _ _ ⟨rfl, rfl⟩; rw [hst])
      | (refine op_irem ?_; rw [hrem])
      | (first | refine tc_seq ?_ | refine tc_region ?_ | refine at_seq_normal ?_ | refine tl_nil ?_ | refine tl_cons ?_ | refine op_move ?_ | refine op_assign ?_ | refine op_load ?_ | refine op_load_agg ?_ | refine op_indexC ?_ | refine op_indexAddr1 ?_ | refine op_indexAddr ?_ | refine op_icmp ?_ | refine op_iarith ?_ | refine op_len_slice ?_ | refine op_pick_true ?_ | refine op_pick_false ?_ | refine op_pick_true' ?_ | refine op_pick_false' ?_ | refine op_build ?_ | refine op_irem ?_ | (refine op_buildSlice ?_; intro _) | refine op_loadK rfl ?_ | refine op_load_aggK rfl ?_ | refine tc_cond_t ?_ | refine tc_cond_f ?_ | refine tc_cond (fun _ => ?_) (fun _ => ?_) | refine tc_block ?_ | refine tc_skip ?_ | refine tc_ret ?_ | refine tc_exit ?_ | refine at_seq_ret ?_ | refine at_seq_exit ?_ | refine at_block_normal ?_ | refine at_block_ret ?_ | refine at_block_exit_self ?_ | refine at_block_exit_ne ?_ | refine at_loop_ret ?_ | refine at_loop_exit ?_ | refine tl_guard_yes ?_ | refine tl_guard_no ?_ | refine tl_guard_yes' ?_ | refine tl_guard_no' ?_ | refine tl_guard_undef ?_ | refine tl_guard_split (fun _ => ?_) (fun _ => ?_) | fail)
      | fail
    exact ret_two (.tmp rfl) (.tmp rfl) (hG := List.Sublist.refl _) (hk := ⟨_, false, rfl, ⟨_, _, _, rfl⟩, (fun h => by cases h), [], rfl⟩)
  have c3 : icmp .neq ((xs.length % stp : Nat) : Int) 0 = false := by rw [hr0]; rfl
  by_cases h6 : xs.length > stp * 200
  · have c4 : icmp .gtr (xs.length : Int) ((stp * 200 : Nat) : Int) = true := by simp only [icmp, decide_eq_true_eq]; omega
    repeat' first
      | (refine op_call ((strideS l _).mono ?_); rintro _ _ ⟨rfl, rfl⟩; rw [hst])
      | (refine op_irem ?_; rw [hrem])
      | (refine op_iarith ?_; rw [h60])
      | (first | refine tc_seq ?_ | refine tc_region ?_ | refine at_seq_normal ?_ | refine tl_nil ?_ | refine tl_cons ?_ | refine op_move ?_ | refine op_assign ?_ | refine op_load ?_ | refine op_load_agg ?_ | refine op_indexC ?_ | refine op_indexAddr1 ?_ | refine op_indexAddr ?_ | refine op_icmp ?_ | refine op_iarith ?_ | refine op_len_slice ?_ | refine op_pick_true ?_ | refine op_pick_false ?_ | refine op_pick_true' ?_ | refine op_pick_false' ?_ | refine op_build ?_ | refine op_irem ?_ | (refine op_buildSlice ?_; intro _) | refine op_loadK rfl ?_ | refine op_load_aggK rfl ?_ | refine tc_cond_t ?_ | refine tc_cond_f ?_ | refine tc_cond (fun _ => ?_) (fun _ => ?_) | refine tc_block ?_ | refine tc_skip ?_ | refine tc_ret ?_ | refine tc_exit ?_ | refine at_seq_ret ?_ | refine at_seq_exit ?_ | refine at_block_normal ?_ | refine at_block_ret ?_ | refine at_block_exit_self ?_ | refine at_block_exit_ne ?_ | refine at_loop_ret ?_ | refine at_loop_exit ?_ | refine tl_guard_yes ?_ | refine tl_guard_no ?_ | refine tl_guard_yes' ?_ | refine tl_guard_no' ?_ | refine tl_guard_undef ?_ | refine tl_guard_split (fun _ => ?_) (fun _ => ?_) | fail)
      | fail
    exact ret_two (.tmp rfl) (.tmp rfl) (hG := List.Sublist.refl _) (hk := ⟨_, false, rfl, ⟨_, _, _, rfl⟩, (fun h => by cases h), [], rfl⟩)
  have c4 : icmp .gtr (xs.length : Int) ((stp * 200 : Nat) : Int) = false := by simp only [icmp, decide_eq_false_iff_not]; omega
  obtain ⟨n, hn⟩ : ∃ n, xs.length = n * stp := ⟨xs.length / stp, (Nat.div_mul_cancel (Nat.dvd_of_mod_eq_zero hr0)).symm⟩
  have hn200 : n ≤ 200 := by
    rcases Nat.lt_or_ge 200 n with h | h
    · exfalso
      have := Nat.mul_le_mul_right stp h
      omega
    · exact h
  repeat' first
    | (refine op_call ((strideS l _).mono ?_); rintro _ _ ⟨rfl, rfl⟩; rw [hst])
    | (refine op_irem ?_; rw [hrem])
    | (refine op_iarith ?_; rw [h60])
    | (first | refine tc_seq ?_ | refine tc_region ?_ | refine at_seq_normal ?_ | refine tl_nil ?_ | refine tl_cons ?_ | refine op_move ?_ | refine op_assign ?_ | refine op_load ?_ | refine op_load_agg ?_ | refine op_indexC ?_ | refine op_indexAddr1 ?_ | refine op_indexAddr ?_ | refine op_icmp ?_ | refine op_iarith ?_ | refine op_len_slice ?_ | refine op_pick_true ?_ | refine op_pick_false ?_ | refine op_pick_true' ?_ | refine op_pick_false' ?_ | refine op_build ?_ | refine op_irem ?_ | (refine op_buildSlice ?_; intro _) | refine op_loadK rfl ?_ | refine op_load_aggK rfl ?_ | refine tc_cond_t ?_ | refine tc_cond_f ?_ | refine tc_cond (fun _ => ?_) (fun _ => ?_) | refine tc_block ?_ | refine tc_skip ?_ | refine tc_ret ?_ | refine tc_exit ?_ | refine at_seq_ret ?_ | refine at_seq_exit ?_ | refine at_block_normal ?_ | refine at_block_ret ?_ | refine at_block_exit_self ?_ | refine at_block_exit_ne ?_ | refine at_loop_ret ?_ | refine at_loop_exit ?_ | refine tl_guard_yes ?_ | refine tl_guard_no ?_ | refine tl_guard_yes' ?_ | refine tl_guard_no' ?_ | refine tl_guard_undef ?_ | refine tl_guard_split (fun _ => ?_) (fun _ => ?_) | fail)
    | fail
  rename_i H
  refine tc_loopK [(1, _), (2, _), (9, _), (10, _)] (by repeat (first | exact trivial | refine ⟨rfl, ?_⟩)) (fun (g : Nat × Buf) => [(8, bufV g.2 g.1), (11, .int .i64 ((g.1 * stp : Nat) : Int))]) (fun g => bufH 57 g.2 ((pairs (prs xs stp g.1)).map fl) H) (fun g => g.1 ≤ n ∧ bufOk 2 g.2 g.1 ((pairs (prs xs stp g.1)).map fl)) (fun g => n - g.1) (0, none) ⟨Nat.zero_le _, rfl, rfl⟩ ⟨rfl, (by simp only [Nat.zero_mul]; rfl), trivial⟩ (List.Sublist.refl _) ?_
  rintro ⟨j, buf⟩ ⟨hj, hbuf⟩
  simp only at hj hbuf ⊢
  have hjs : j * stp ≤ 200 * 8 := Nat.mul_le_mul (by omega) hs8
  have w1 : IntKind.i64.wrap (iarith .add ((j * stp : Nat) : Int) (stp : Int)) = (((j + 1) * stp : Nat) : Int) := by
    rw [wrap_addN (by omega), Nat.add_mul, Nat.one_mul]
  by_cases hlt : j < n
  · have hle : (j + 1) * stp ≤ n * stp := Nat.mul_le_mul_right _ hlt
    have hjl : j * stp + stp ≤ xs.length := by rw [hn]; rw [Nat.add_mul, Nat.one_mul] at hle; exact hle
    have hb : icmp .lss ((j * stp : Nat) : Int) (xs.length : Int) = true := by simp only [icmp, decide_eq_true_eq]; omega
    have w2 : IntKind.i64.wrap (iarith .add ((j * stp : Nat) : Int) 1) = ((j * stp + 1 : Nat) : Int) := wrap_addN (s := 1) (by omega)
    obtain ⟨k, o, L, T, fz, rfl, hm, _, hcap, hget⟩ := hv.block (by intro e; rw [e] at hjl; simp at hjl; omega)
    have g1 := hget (j * stp) (by omega)
    have g2 := hget (j * stp + 1) (by omega)
    have hps := prs_succ xs stp j
    generalize xs.getD (j * stp) 0 = x at *
    generalize xs.getD (j * stp + 1) 0 = y at *
    have hws : (pairs (prs xs stp (j + 1))).map fl = (pairs (prs xs stp j)).map fl ++ [.float .f64 x, .float .f64 y] := by
      rw [hps, pairs_app, List.map_append]; rfl
    have hmem : (k, Obj.cells ⟨L⟩ T fz) ∈ bufH 57 buf ((pairs (prs xs stp j)).map fl) H := (bufH_sub _ _ _ _).subset hm
    repeat' first
      | (refine op_iarith ?_; first | rw [w1] | rw [w2])
      | (first | refine tc_seq ?_ | refine tc_region ?_ | refine at_seq_normal ?_ | refine tl_nil ?_ | refine tl_cons ?_ | refine op_move ?_ | refine op_assign ?_ | refine op_load ?_ | refine op_load_agg ?_ | refine op_indexC ?_ | refine op_indexAddr1 ?_ | refine op_indexAddr ?_ | refine op_icmp ?_ | refine op_iarith ?_ | refine op_len_slice ?_ | refine op_pick_true ?_ | refine op_pick_false ?_ | refine op_pick_true' ?_ | refine op_pick_false' ?_ | refine op_build ?_ | refine op_irem ?_ | (refine op_buildSlice ?_; intro _) | refine op_loadK rfl ?_ | refine op_load_aggK rfl ?_ | refine tc_cond_t ?_ | refine tc_cond_f ?_ | refine tc_cond (fun _ => ?_) (fun _ => ?_) | refine tc_block ?_ | refine tc_skip ?_ | refine tc_ret ?_ | refine tc_exit ?_ | refine at_seq_ret ?_ | refine at_seq_exit ?_ | refine at_block_normal ?_ | refine at_block_ret ?_ | refine at_block_exit_self ?_ | refine at_block_exit_ne ?_ | refine at_loop_ret ?_ | refine at_loop_exit ?_ | refine tl_guard_yes ?_ | refine tl_guard_no ?_ | refine tl_guard_yes' ?_ | refine tl_guard_no' ?_ | refine tl_guard_undef ?_ | refine tl_guard_split (fun _ => ?_) (fun _ => ?_) | fail)
      | fail
    apply fun hole0 hole1 hole2 hole3 hole4 hole5 hole6 hole7 hole8 hole9 hE hD hml hdl hpr prem fin => tc_drawnD 12 [PhiD.is hole0, PhiD.is hole1, PhiD.is hole2, PhiD.is hole3, PhiD.is hole4, PhiD.is hole5, PhiD.is hole6, PhiD.is (.int .i64 ((j * stp + 1 : Nat) : Int)), PhiD.is hole7, PhiD.is hole8, PhiD.is hole9, PhiD.gen (some' (fun w ex => ∃ kn, w = .slice (some ⟨kn, 0, none⟩) 1 1 ∧ ex = [(kn, .cells ⟨[.float .f64 x, .float .f64 y]⟩ 57 (0, 0))]))]
      [some 40, some 41, some 42, some 43, some 44, some 45, some 46, some 47, some 48, some 49, some 50, some 51, some 52, some 8] [[], [], [], [1, 2], [3], [], [], [6], [5, 7], [8], [4, 9], [10]] mixed ⟨(some_mono _), trivial⟩ prem fin hE hD rfl hml hdl hpr
    rotate_left 11
    · first | kernel_rfl | exact rfl
    · first | kernel_rfl | exact rfl
    · exact Nat.le_of_ble_eq_true rfl
    · first | kernel_rfl | exact rfl
    · first | kernel_rfl | exact rfl
    refine ⟨fun G hG => ?_, fun G hG => ?_, fun G hG => ?_, fun G hG => ?_, fun G hG => ?_, fun G hG => ?_, fun G hG => ?_, fun G hG => ?_, fun G hG => ?_, fun G hG => ?_, fun G hG => ?_, fun G hG => ?_, trivial⟩
    · simp only [withD, nthD, Step2, nthDst, putO, postD]
      (refine op_move ?_; exact ⟨[], rfl, rfl, rfl⟩)
    · simp only [withD, nthD, Step2, nthDst, putO, postD]
      (refine op_move ?_; exact ⟨[], rfl, rfl, rfl⟩)
    · simp only [withD, nthD, Step2, nthDst, putO, postD]
      (refine op_move ?_; exact ⟨[], rfl, rfl, rfl⟩)
    · simp only [withD, nthD, Step2, nthDst, putO, postD]
      (refine op_indexAddr1 (j := j * stp) ?_ (hj := by omega); exact ⟨[], rfl, rfl, rfl⟩)
    · simp only [withD, nthD, Step2, nthDst, putO, postD]
      (refine op_load ?_ (hm := hG _ hmem) (hv := g1); exact ⟨[], rfl, rfl, rfl⟩)
    · simp only [withD, nthD, Step2, nthDst, putO, postD]
      (refine op_move ?_; exact ⟨[], rfl, rfl, rfl⟩)
    · simp only [withD, nthD, Step2, nthDst, putO, postD]
      (refine op_move ?_; exact ⟨[], rfl, rfl, rfl⟩)
    · simp only [withD, nthD, Step2, nthDst, putO, postD]
      (refine op_iarith ?_; rw [w2]; exact ⟨[], rfl, rfl, rfl⟩)
    · simp only [withD, nthD, Step2, nthDst, putO, postD]
      (refine op_indexAddr1 (j := j * stp + 1) ?_ (hj := by omega); exact ⟨[], rfl, rfl, rfl⟩)
    · simp only [withD, nthD, Step2, nthDst, putO, postD]
      (refine op_load ?_ (hm := hG _ hmem) (hv := g2); exact ⟨[], rfl, rfl, rfl⟩)
    · simp only [withD, nthD, Step2, nthDst, putO, postD]
      (refine op_build ?_; exact ⟨[], rfl, rfl, rfl⟩)
    · simp only [withD, nthD, Step2, nthDst, putO, postD]
      (refine op_buildSlice ?_; intro kq; exact ⟨[_], rfl, kq, rfl, rfl⟩)
    simp only [FinalsD, nthDst, putO, List.drop_succ_cons, List.drop_zero]
    rintro _ _ ⟨⟨kn, rfl, rfl⟩, -⟩
    try simp only [List.nil_append]
    refine tl_cons ?_
    refine op_append buf j ((pairs (prs xs stp j)).map fl) [.float .f64 x, .float .f64 y] (m := 1) (s := 2) hbuf (fun buf' hokb => ?_) (by exact rfl) (by exact rfl) (H' := H) (List.Sublist.cons _ (List.Sublist.refl _)) mem0 rfl rfl (by intro u hu; simp only [List.mem_cons, List.not_mem_nil, or_false] at hu; rcases hu with rfl | rfl <;> rfl) (by decide) (by simp only [maxLen]; omega) (by omega)
    rw [← hws] at hokb ⊢
    repeat' first
      | (refine op_iarith ?_; first | rw [w1] | rw [w2])
      | (first | refine tc_seq ?_ | refine tc_region ?_ | refine at_seq_normal ?_ | refine tl_nil ?_ | refine tl_cons ?_ | refine op_move ?_ | refine op_assign ?_ | refine op_load ?_ | refine op_load_agg ?_ | refine op_indexC ?_ | refine op_indexAddr1 ?_ | refine op_indexAddr ?_ | refine op_icmp ?_ | refine op_iarith ?_ | refine op_len_slice ?_ | refine op_pick_true ?_ | refine op_pick_false ?_ | refine op_pick_true' ?_ | refine op_pick_false' ?_ | refine op_build ?_ | refine op_irem ?_ | (refine op_buildSlice ?_; intro _) | refine op_loadK rfl ?_ | refine op_load_aggK rfl ?_ | refine tc_cond_t ?_ | refine tc_cond_f ?_ | refine tc_cond (fun _ => ?_) (fun _ => ?_) | refine tc_block ?_ | refine tc_skip ?_ | refine tc_ret ?_ | refine tc_exit ?_ | refine at_seq_ret ?_ | refine at_seq_exit ?_ | refine at_block_normal ?_ | refine at_block_ret ?_ | refine at_block_exit_self ?_ | refine at_block_exit_ne ?_ | refine at_loop_ret ?_ | refine at_loop_exit ?_ | refine tl_guard_yes ?_ | refine tl_guard_no ?_ | refine tl_guard_yes' ?_ | refine tl_guard_no' ?_ | refine tl_guard_undef ?_ | refine tl_guard_split (fun _ => ?_) (fun _ => ?_) | fail)
      | fail
    exact at_loopK (j + 1, buf') ⟨hlt, hokb⟩ (by simp only []; omega) ⟨rfl, rfl, trivial⟩ (by repeat (first | exact trivial | refine ⟨rfl, ?_⟩)) (List.Sublist.refl _)
  · obtain rfl : j = n := by omega
    have hb : icmp .lss ((j * stp : Nat) : Int) (xs.length : Int) = false := by simp only [icmp, decide_eq_false_iff_not]; omega
    have hsl := sln_buf (e := 57) (H := H) hbuf
    have hpl := prs_len xs stp j
    obtain ⟨av, cv, hval⟩ := bufV_val buf j 2 _ hbuf
    repeat' first
      | (refine op_iarith ?_; first | rw [w1])
      | (refine op_call ((planeToB _ (prs xs stp j) 4715268809856909312 _ (by rw [hpl]; omega) (by rw [hpl]; exact hsl)).mono ?_); rintro _ _ ⟨rfl, ex, rfl⟩)
      | (first | refine tc_seq ?_ | refine tc_region ?_ | refine at_seq_normal ?_ | refine tl_nil ?_ | refine tl_cons ?_ | refine op_move ?_ | refine op_assign ?_ | refine op_load ?_ | refine op_load_agg ?_ | refine op_indexC ?_ | refine op_indexAddr1 ?_ | refine op_indexAddr ?_ | refine op_icmp ?_ | refine op_iarith ?_ | refine op_len_slice ?_ | refine op_pick_true ?_ | refine op_pick_false ?_ | refine op_pick_true' ?_ | refine op_pick_false' ?_ | refine op_build ?_ | refine op_irem ?_ | (refine op_buildSlice ?_; intro _) | refine op_loadK rfl ?_ | refine op_load_aggK rfl ?_ | refine tc_cond_t ?_ | refine tc_cond_f ?_ | refine tc_cond (fun _ => ?_) (fun _ => ?_) | refine tc_block ?_ | refine tc_skip ?_ | refine tc_ret ?_ | refine tc_exit ?_ | refine at_seq_ret ?_ | refine at_seq_exit ?_ | refine at_block_normal ?_ | refine at_block_ret ?_ | refine at_block_exit_self ?_ | refine at_block_exit_ne ?_ | refine at_loop_ret ?_ | refine at_loop_exit ?_ | refine tl_guard_yes ?_ | refine tl_guard_no ?_ | refine tl_guard_yes' ?_ | refine tl_guard_no' ?_ | refine tl_guard_undef ?_ | refine tl_guard_split (fun _ => ?_) (fun _ => ?_) | fail)
      | fail
    refine ret_two (.tmp rfl) (.tmp rfl) (hG := List.Sublist.refl _) (hk := ⟨_, _, rfl, ⟨_, _, _, hval⟩, (fun h => ⟨stp, j, ⟨hl1, hl8, hst, hs2, hs8, hn, hn200⟩, hsl.mono (fun e he => List.mem_append_right _ he), fun p hp => pB_wh fv24 (by decide) (List.all_eq_true.1 h p hp)⟩), ?_⟩)
    cases buf with
    | none => exact ⟨_, rfl⟩
    | some b => exact ⟨ex ++ [_], by rw [List.append_assoc]; rfl⟩
end Go.Proofs.Ytomhkbijijdghaa.Rno

set_option linter.unusedVariables false
set_option linter.unusedSimpArgs false
namespace Go.Proofs.Ytomhkbijijdghaa.Sd
open Go.Lg

/-- A place on a segment. -/
def OnI (a b x1 y1 x2 y2 : Int) : Prop := (x2 - x1) * (b - y1) - (y2 - y1) * (a - x1) = 0 ∧ ((x1 ≤ a ∧ a ≤ x2) ∨ (x2 ≤ a ∧ a ≤ x1)) ∧ ((y1 ≤ b ∧ b ≤ y2) ∨ (y2 ≤ b ∧ b ≤ y1))
instance (a b x1 y1 x2 y2 : Int) : Decidable (OnI a b x1 y1 x2 y2) := by unfold OnI; infer_instance
theorem turn_neg (a b p1 q1 p2 q2 : Int) : (p1 - p2) * (b - q2) - (q1 - q2) * (a - p2) = -((p1 - a) * (q2 - b) - (q1 - b) * (p2 - a)) := by grind
theorem sgn_mix {u1 u2 v1 v2 : Int} (h : u1 * v2 - v1 * u2 = 0) (hv : (0 < v1 ∧ v2 ≤ 0) ∨ (0 < v2 ∧ v1 ≤ 0)) : (u1 ≤ 0 ∧ 0 ≤ u2) ∨ (0 ≤ u1 ∧ u2 ≤ 0) := by
  rcases (show (0 < u1 ∧ 0 < u2) ∨ (u1 < 0 ∧ u2 < 0) ∨ ((u1 ≤ 0 ∧ 0 ≤ u2) ∨ (0 ≤ u1 ∧ u2 ≤ 0)) by omega) with ⟨h1, h2⟩ | ⟨h1, h2⟩ | h1
  · exfalso
    rcases hv with ⟨h3, h4⟩ | ⟨h3, h4⟩
    · have a1 := Int.mul_pos h3 h2
      have a2 := Int.mul_nonneg (Int.le_of_lt h1) (show 0 ≤ -v2 by omega)
      grind
    · have a1 := Int.mul_pos h1 h3
      have a2 := Int.mul_nonneg (show 0 ≤ -v1 by omega) (Int.le_of_lt h2)
      grind
  · exfalso
    rcases hv with ⟨h3, h4⟩ | ⟨h3, h4⟩
    · have a1 := Int.mul_pos h3 (show 0 < -u2 by omega)
      have a2 := Int.mul_nonneg (show 0 ≤ -u1 by omega) (show 0 ≤ -v2 by omega)
      grind
    · have a1 := Int.mul_pos (show 0 < -u1 by omega) h3
      have a2 := Int.mul_nonneg (show 0 ≤ -v1 by omega) (show 0 ≤ -u2 by omega)
      grind
  · exact h1
theorem seg_on {a b p1 q1 p2 q2 : Int} (h : (seg a b p1 q1 p2 q2).1 = true) : OnI a b p2 q2 p1 q1 := by
  have hT := turn_neg a b p1 q1 p2 q2
  unfold OnI
  rw [hT]
  unfold seg at h
  by_cases k0 : p1 < a ∧ p2 < a
  · rw [if_pos k0] at h; cases h
  rw [if_neg k0] at h
  by_cases k1 : a = p2 ∧ b = q2
  · obtain ⟨rfl, rfl⟩ := k1
    refine ⟨by simp, by omega, by omega⟩
  rw [if_neg k1] at h
  by_cases k2 : q1 = b ∧ q2 = b
  · rw [if_pos k2] at h
    have h' := of_decide_eq_true h
    obtain ⟨rfl, rfl⟩ := k2
    refine ⟨by simp, by omega, by omega⟩
  rw [if_neg k2] at h
  by_cases k3 : (b < q1 ∧ q2 ≤ b) ∨ (b < q2 ∧ q1 ≤ b)
  · rw [if_pos k3] at h
    by_cases k4 : (p1 - a) * (q2 - b) - (q1 - b) * (p2 - a) = 0
    · have := sgn_mix k4 (by omega)
      refine ⟨by rw [k4]; rfl, by omega, by omega⟩
    · rw [if_neg k4] at h; cases h
  · rw [if_neg k3] at h; cases h
theorem seg_end {a b p1 q1 p2 q2 : Int} (h : (seg a b p1 q1 p2 q2).1 = false) (ho : OnI a b p2 q2 p1 q1) : a = p1 ∧ b = q1 := by
  have hT := turn_neg a b p1 q1 p2 q2
  unfold OnI at ho
  rw [hT] at ho
  obtain ⟨o1, o2, o3⟩ := ho
  have k4 : (p1 - a) * (q2 - b) - (q1 - b) * (p2 - a) = 0 := by omega
  unfold seg at h
  rw [if_neg (show ¬ (p1 < a ∧ p2 < a) by omega)] at h
  by_cases k1 : a = p2 ∧ b = q2
  · rw [if_pos k1] at h; cases h
  rw [if_neg k1] at h
  by_cases k2 : q1 = b ∧ q2 = b
  · rw [if_pos k2] at h
    have h' := of_decide_eq_false h
    omega
  rw [if_neg k2] at h
  by_cases k3 : (b < q1 ∧ q2 ≤ b) ∨ (b < q2 ∧ q1 ≤ b)
  · rw [if_pos k3, if_pos k4] at h; cases h
  · rcases o3 with o3 | o3
    · have e : q1 = b := by omega
      rw [e, Int.sub_self, Int.zero_mul, Int.sub_zero] at k4
      rcases Int.mul_eq_zero.1 k4 with k5 | k5 <;> omega
    · have e : q2 = b := by omega
      rw [e, Int.sub_self, Int.mul_zero, Int.zero_sub] at k4
      rcases Int.mul_eq_zero.1 (show (q1 - b) * (p2 - a) = 0 by omega) with k5 | k5 <;> omega
/-- Whether a segment leads over a level ray to the right, as0 the exact law has it. -/
def crosses (a b x1 y1 x2 y2 : Int) : Bool := (decide (b < y1) != decide (b < y2)) && (decide (0 < (x2 - x1) * (b - y1) - (y2 - y1) * (a - x1)) == decide (b < y2))
theorem seg_cross {a b p1 q1 p2 q2 : Int} (h : (seg a b p1 q1 p2 q2).1 = false) (ho : ¬ OnI a b p2 q2 p1 q1) : (seg a b p1 q1 p2 q2).2 = crosses a b p2 q2 p1 q1 := by
  have hT := turn_neg a b p1 q1 p2 q2
  unfold crosses
  rw [hT]
  obtain ⟨D, hD⟩ : ∃ D, D = (p1 - a) * (q2 - b) - (q1 - b) * (p2 - a) := ⟨_, rfl⟩
  unfold seg at h ⊢
  rw [← hD] at h ⊢
  by_cases k0 : p1 < a ∧ p2 < a
  · rw [if_pos k0]
    by_cases c1 : b < q2
    · by_cases c2 : b < q1
      · simp [c1, c2]
      · have a1 := Int.mul_pos (show 0 < -(p1 - a) by omega) (show 0 < q2 - b by omega)
        have a2 := Int.mul_nonneg (show 0 ≤ -(q1 - b) by omega) (show 0 ≤ -(p2 - a) by omega)
        have : D < 0 := by grind
        have e : decide (0 < -D) = true := decide_eq_true (by omega)
        rw [e]; simp [c1, c2]
    · by_cases c2 : b < q1
      · have a1 := Int.mul_nonneg (show 0 ≤ -(p1 - a) by omega) (show 0 ≤ -(q2 - b) by omega)
        have a2 := Int.mul_pos (show 0 < q1 - b by omega) (show 0 < -(p2 - a) by omega)
        have : 0 < D := by grind
        have e : decide (0 < -D) = false := decide_eq_false (by omega)
        rw [e]; simp [c1, c2]
      · simp [c1, c2]
  rw [if_neg k0] at h ⊢
  by_cases k1 : a = p2 ∧ b = q2
  · rw [if_pos k1] at h; cases h
  rw [if_neg k1] at h ⊢
  by_cases k2 : q1 = b ∧ q2 = b
  · rw [if_pos k2, decide_eq_false (show ¬ b < q2 by omega), decide_eq_false (show ¬ b < q1 by omega)]; rfl
  rw [if_neg k2] at h ⊢
  by_cases k3 : (b < q1 ∧ q2 ≤ b) ∨ (b < q2 ∧ q1 ≤ b)
  · rw [if_pos k3] at h ⊢
    by_cases k4 : D = 0
    · rw [if_pos k4] at h; cases h
    rw [if_neg k4]
    rcases k3 with ⟨c1, c2⟩ | ⟨c1, c2⟩
    · rw [if_pos (by omega), decide_eq_true c1, decide_eq_false (show ¬ b < q2 by omega)]
      rcases Int.lt_or_gt_of_ne k4 with h1 | h1
      · rw [Int.sign_eq_neg_one_of_neg h1, decide_eq_true (show 0 < -D by omega)]; rfl
      · rw [Int.sign_eq_one_of_pos h1, decide_eq_false (show ¬ 0 < -D by omega)]; rfl
    · rw [if_neg (by omega), decide_eq_true c1, decide_eq_false (show ¬ b < q1 by omega)]
      rcases Int.lt_or_gt_of_ne k4 with h1 | h1
      · rw [Int.sign_eq_neg_one_of_neg h1, decide_eq_true (show 0 < -D by omega)]; rfl
      · rw [Int.sign_eq_one_of_pos h1, decide_eq_false (show ¬ 0 < -D by omega)]; rfl
  · rw [if_neg k3]
    by_cases c1 : b < q2
    · rw [decide_eq_true c1, decide_eq_true (show b < q1 by omega)]; rfl
    · rw [decide_eq_false c1, decide_eq_false (show ¬ b < q1 by omega)]; rfl
/-- The counter over a ring: what it tells from here on. -/
def mloop (a b : Int) : Int × Int → List (Int × Int) → Int → Int
  | _, [], n => if n % 2 = 1 then 0 else 2
  | p, q :: qs, n => if (seg a b q.1 q.2 p.1 p.2).1 then 1 else mloop a b q qs (n + if (seg a b q.1 q.2 p.1 p.2).2 then 1 else 0)
/-- The exact law over a line. -/
def sloop (a b : Int) : Int × Int → List (Int × Int) → Bool → Int
  | _, [], odd => if odd then 0 else 2
  | p, q :: qs, odd => if OnI a b p.1 p.2 q.1 q.2 then 1 else sloop a b q qs (if crosses a b p.1 p.2 q.1 q.2 then !odd else odd)
theorem loops (a b : Int) : ∀ (qs : List (Int × Int)) (p : Int × Int) (n : Int) (odd : Bool), 0 ≤ n → odd = decide (n % 2 = 1) → (∀ z, (p :: qs).getLast? = some z → z ≠ (a, b)) → mloop a b p qs n = sloop a b p qs odd
  | [], p, n, odd, hn, ho, hl => by subst ho; unfold mloop sloop; simp
  | q :: qs, p, n, odd, hn, ho, hl => by
    have hl' : ∀ z, (q :: qs).getLast? = some z → z ≠ (a, b) := fun z hz => hl z (by rw [List.getLast?_cons_cons]; exact hz)
    unfold mloop sloop
    by_cases k1 : (seg a b q.1 q.2 p.1 p.2).1 = true
    · rw [if_pos k1, if_pos (seg_on k1)]
    · have k1' : (seg a b q.1 q.2 p.1 p.2).1 = false := by simpa using k1
      rw [if_neg k1]
      by_cases k2 : OnI a b p.1 p.2 q.1 q.2
      · obtain ⟨e1, e2⟩ := seg_end k1' k2
        rw [if_pos k2]
        cases qs with
        | nil => exact (hl' q rfl (by rw [e1, e2])).elim
        | cons r rs =>
          unfold mloop
          rw [if_pos]
          unfold seg
          rw [if_neg (by omega), if_pos ⟨e1, e2⟩]
      · rw [if_neg k2, ← seg_cross k1' k2]
        refine loops a b qs q _ _ (by split <;> omega) ?_ hl'
        by_cases k3 : (seg a b q.1 q.2 p.1 p.2).2 = true
        · rw [if_pos k3, if_pos k3, ho]
          by_cases k4 : n % 2 = 1
          · rw [decide_eq_true k4, decide_eq_false (by omega)]; rfl
          · rw [decide_eq_false k4, decide_eq_true (by omega)]; rfl
        · rw [if_neg k3, if_neg k3, Int.add_zero]; exact ho
/-- A place that is the first one of a line of two and more. -/
theorem loops_first (a b : Int) (p : Int × Int) (q : Int × Int) (qs : List (Int × Int)) (n : Int) (odd : Bool) (hp : p = (a, b)) : mloop a b p (q :: qs) n = sloop a b p (q :: qs) odd := by
  subst hp
  have k1 : (seg a b q.1 q.2 a b).1 = true := by unfold seg; rw [if_neg (by simp), if_pos ⟨rfl, rfl⟩]
  unfold mloop sloop
  rw [if_pos k1, if_pos (seg_on k1)]
theorem rings (a b : Int) (p : Int × Int) (qs : List (Int × Int)) (hne : qs ≠ []) (h : (p :: qs).getLast? = some p ∨ (p :: qs).getLast? ≠ some (a, b)) : mloop a b p qs 0 = sloop a b p qs false := by
  by_cases hl : (p :: qs).getLast? = some (a, b)
  · rcases h with h | h
    · rw [h] at hl
      cases qs with
      | nil => exact (hne rfl).elim
      | cons q qs => exact loops_first a b p q qs 0 false (Option.some.inj hl)
    · exact (h hl).elim
  · exact loops a b qs p 0 false (Int.le_refl 0) rfl fun z hz he => hl (by rw [hz, he])
end Go.Proofs.Ytomhkbijijdghaa.Sd
