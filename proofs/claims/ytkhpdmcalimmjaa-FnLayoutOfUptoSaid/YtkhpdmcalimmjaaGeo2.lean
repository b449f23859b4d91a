/-
  What the test 'good data' finds out of a geometry. No conditions.
-/
import Derived.Test.YtkhpdmcalimmjaaGeo
set_option linter.unusedVariables false
set_option linter.unusedSimpArgs false
namespace Go.Proofs.Ytkhpdmcalimmjaa.Geom
open Go.Lg

theorem asc_snoc {s : Int} {sg : Bool} {e : Int} : ∀ {l : List Int} {a b : Int}, Asc s sg a l b → b ≤ e → (e - b).tmod s = 0 → (sg = true → e - b ≤ s) → Asc s sg a (l ++ [e]) e
  | [], a, b, h, h1, h2, h3 => by cases h; exact ⟨h1, h2, h3, rfl⟩
  | x :: l, a, b, h, h1, h2, h3 => ⟨h.1, h.2.1, h.2.2.1, asc_snoc h.2.2.2 h1 h2 h3⟩
theorem ascS_snoc {s : Int} {x : List Int} {c : Int} : ∀ {l : List (List Int)} {a b : Int}, AscS s a l b → Asc s false b x c → AscS s a (l ++ [x]) c
  | [], a, b, h, h1 => by cases h; exact ⟨c, h1, rfl⟩
  | y :: l, a, b, h, h1 => by obtain ⟨m, h2, h3⟩ := h; exact ⟨m, h2, ascS_snoc h3 h1⟩
theorem take_snoc {α : Type} {l : List α} {j : Nat} {x : α} (h : l[j]? = some x) : l.take (j + 1) = l.take j ++ [x] := by
  rw [List.take_add_one, h]; rfl

theorem stride (n : Int) (H : Heap) : Does Try.prog 16 [.int .i64 n] H fun w H' => w = .int .i64 (strideI n) ∧ H' = H := by
  refine fn_enter 17 Try.func16 fun W => ?_
  repeat' first
    | refine tc_seq ?_ | refine tc_region ?_ | refine at_seq_normal ?_ | refine tl_nil ?_ | refine tl_cons ?_ | refine op_move ?_ | refine op_assign ?_ | refine op_icmp ?_ | refine op_pick_true ?_ | refine op_pick_false ?_
    | refine op_pick_true' ?_ | refine op_pick_false' ?_ | refine tc_cond_t ?_ | refine tc_cond_f ?_ | refine tc_cond (fun _ => ?_) (fun _ => ?_) | refine tc_block ?_ | refine tc_skip ?_ | refine tc_ret ?_ | refine at_seq_ret ?_ | refine at_block_normal ?_
    | refine at_block_ret ?_ | refine tl_guard_yes ?_ | refine tl_guard_no ?_ | refine tl_guard_yes' ?_ | refine tl_guard_no' ?_ | refine tl_guard_undef ?_ | refine tl_guard_split (fun _ => ?_) (fun _ => ?_)
  all_goals (first | exact ret_tmp (hk := ⟨congrArg (Value.int .i64) (by simp only [icmp, decide_eq_true_eq, decide_eq_false_iff_not, beq_iff_eq, beq_eq_false_iff_ne, ne_eq] at *; unfold strideI; (repeat' split) <;> omega), rfl⟩))
theorem strideI_pos {n : Int} (h : strideI n ≠ 0) : 0 < strideI n := by
  unfold strideI at *
  (repeat' split at h) <;> (repeat' split) <;> omega
theorem strideI_le {n : Int} {m : Int} (h : n ≤ m) (h3 : 3 ≤ m) : strideI n ≤ m := by
  unfold strideI
  (repeat' split) <;> omega

set_option maxHeartbeats 8000000 in
theorem goodEnds (ae : Option Addr) (ce : Nat) (es : List Int) (a s : Int) (sg : Bool) (H : Heap) (he : IS H (.slice ae es.length ce) es) (hb : ∀ x ∈ es, x < 9223372036854775808) (ha : 0 ≤ a) (hs : s ≠ 0) (hlen : es.length < 2 ^ 62) :
    Does Try.prog 17 [.slice ae es.length ce, .int .i64 a, .int .i64 s, .bool sg] H fun w H' => (w = .tuple #[.int .i64 (gE s sg a es).1, .bool (gE s sg a es).2] ∧ 0 ≤ (gE s sg a es).1) ∧ H' = H := by
  refine fn_enter 43 Try.func17 fun W => ?_
  repeat' first
    | refine tc_seq ?_ | refine tc_region ?_ | refine at_seq_normal ?_ | refine tl_nil ?_ | refine tl_cons ?_ | refine op_move ?_ | refine op_assign ?_ | refine op_load ?_ | refine op_load_agg ?_ | refine op_indexC ?_
    | refine op_indexAddr1 ?_ | refine op_indexAddr ?_ | refine op_icmp ?_ | refine op_iarith ?_ | refine op_len_slice ?_ | refine op_pick_true ?_ | refine op_pick_false ?_ | refine op_pick_true' ?_ | refine op_pick_false' ?_ | refine op_irem ?_
    | refine op_loadK rfl ?_ | refine op_load_aggK rfl ?_ | refine tc_cond_t ?_ | refine tc_cond_f ?_ | refine tc_cond (fun _ => ?_) (fun _ => ?_) | refine tc_block ?_ | refine tc_skip ?_ | refine tc_ret ?_ | refine tc_exit ?_ | refine at_seq_ret ?_
    | refine at_seq_exit ?_ | refine at_block_normal ?_ | refine at_block_ret ?_ | refine at_block_exit_self ?_ | refine at_block_exit_ne ?_ | refine at_loop_ret ?_ | refine at_loop_exit ?_ | refine tl_guard_yes ?_ | refine tl_guard_no ?_ | refine tl_guard_yes' ?_
    | refine tl_guard_no' ?_ | refine tl_guard_undef ?_ | refine tl_guard_split (fun _ => ?_) (fun _ => ?_)
  refine tc_loopH [(2, _), (3, _), (12, _), (13, _)] (by repeat (first | exact trivial | refine ⟨rfl, ?_⟩)) (fun p : Nat × Int => [(14, .int .i64 (p.1 : Int)), (1, .int .i64 p.2)]) (fun p => p.1 ≤ es.length ∧ 0 ≤ p.2 ∧ gE s sg p.2 (es.drop p.1) = gE s sg a es) (fun p => es.length - p.1) (0, a) ⟨Nat.zero_le _, ha, rfl⟩ ⟨rfl, rfl, trivial⟩ ?_
  rintro ⟨j, r⟩ ⟨hj, h1, h2⟩
  simp only at hj h1 h2 ⊢
  by_cases hlt : j < es.length
  · have hbb : icmp .lss (j : Int) (es.length : Int) = true := by rw [lss_nat]; simpa using hlt
    have hget : es[j]? = some es[j] := List.getElem?_eq_getElem hlt
    have hx := hb _ (List.getElem_mem hlt)
    obtain ⟨kk, off, L, T, fz, cap, e1, hm, hcut, _⟩ := he.at hget
    rw [List.drop_eq_getElem_cons hlt, gE] at h2
    generalize es[j] = x at *
    cases e1
    by_cases hrx : r ≤ x
    · have hw := wrap_sub (a := x) (b := r) (by omega) (by omega)
      repeat' first
        | refine tc_seq ?_ | refine tc_region ?_ | refine at_seq_normal ?_ | refine tl_nil ?_ | refine tl_cons ?_ | refine op_move ?_ | refine op_assign ?_ | refine op_load ?_ | refine op_load_agg ?_ | refine op_indexC ?_
        | refine op_indexAddr1 ?_ | refine op_indexAddr ?_ | refine op_icmp ?_ | refine op_iarith ?_ | refine op_len_slice ?_ | refine op_pick_true ?_ | refine op_pick_false ?_ | refine op_pick_true' ?_ | refine op_pick_false' ?_ | refine op_irem ?_
        | refine op_loadK rfl ?_ | refine op_load_aggK rfl ?_ | refine tc_cond_t ?_ | refine tc_cond_f ?_ | refine tc_cond (fun _ => ?_) (fun _ => ?_) | refine tc_block ?_ | refine tc_skip ?_ | refine tc_ret ?_ | refine tc_exit ?_ | refine at_seq_ret ?_
        | refine at_seq_exit ?_ | refine at_block_normal ?_ | refine at_block_ret ?_ | refine at_block_exit_self ?_ | refine at_block_exit_ne ?_ | refine at_loop_ret ?_ | refine at_loop_exit ?_ | refine tl_guard_yes ?_ | refine tl_guard_no ?_ | refine tl_guard_yes' ?_
        | refine tl_guard_no' ?_ | refine tl_guard_undef ?_ | refine tl_guard_split (fun _ => ?_) (fun _ => ?_)
      all_goals rw [hw] at *
      all_goals first
        | exact ret_two (.tmp rfl) (.tmp rfl) (hk := ⟨by rw [← h2, if_pos (by simp only [icmp, decide_eq_true_eq, decide_eq_false_iff_not, bne_iff_ne, bne_eq_false_iff_eq] at *; simp_all)]; exact ⟨rfl, h1⟩, rfl⟩)
        | skip
      all_goals
        refine at_loopK (j + 1, x) ⟨hlt, by simp only; omega, ?_⟩ (by show _ - _ < _ - _; omega) ⟨next_nat (by omega), rfl, trivial⟩ (by repeat (first | exact trivial | refine ⟨rfl, ?_⟩)) (by (repeat (first | exact List.Sublist.refl _ | apply List.Sublist.cons_cons | apply List.Sublist.cons | refine List.Sublist.trans ?_ (List.sublist_append_right _ _))))
        rw [← h2, if_neg (by simp only [icmp, decide_eq_true_eq, decide_eq_false_iff_not, bne_iff_ne, bne_eq_false_iff_eq] at *; simp_all)]
    · have hc : icmp .lss x r = true := by simp only [icmp, decide_eq_true_eq]; omega
      repeat' first
        | refine tc_seq ?_ | refine tc_region ?_ | refine at_seq_normal ?_ | refine tl_nil ?_ | refine tl_cons ?_ | refine op_move ?_ | refine op_assign ?_ | refine op_load ?_ | refine op_load_agg ?_ | refine op_indexC ?_
        | refine op_indexAddr1 ?_ | refine op_indexAddr ?_ | refine op_icmp ?_ | refine op_iarith ?_ | refine op_len_slice ?_ | refine op_pick_true ?_ | refine op_pick_false ?_ | refine op_pick_true' ?_ | refine op_pick_false' ?_ | refine op_irem ?_
        | refine op_loadK rfl ?_ | refine op_load_aggK rfl ?_ | refine tc_cond_t ?_ | refine tc_cond_f ?_ | refine tc_cond (fun _ => ?_) (fun _ => ?_) | refine tc_block ?_ | refine tc_skip ?_ | refine tc_ret ?_ | refine tc_exit ?_ | refine at_seq_ret ?_
        | refine at_seq_exit ?_ | refine at_block_normal ?_ | refine at_block_ret ?_ | refine at_block_exit_self ?_ | refine at_block_exit_ne ?_ | refine at_loop_ret ?_ | refine at_loop_exit ?_ | refine tl_guard_yes ?_ | refine tl_guard_no ?_ | refine tl_guard_yes' ?_
        | refine tl_guard_no' ?_ | refine tl_guard_undef ?_ | refine tl_guard_split (fun _ => ?_) (fun _ => ?_)
      exact ret_two (.tmp rfl) (.tmp rfl) (hk := ⟨by rw [← h2, if_pos (.inl (by omega))]; exact ⟨rfl, h1⟩, rfl⟩)
  · have hbb : icmp .lss (j : Int) (es.length : Int) = false := by rw [lss_nat]; simpa using hlt
    rw [List.drop_of_length_le (by omega)] at h2
    repeat' first
      | refine tc_seq ?_ | refine tc_region ?_ | refine at_seq_normal ?_ | refine tl_nil ?_ | refine tl_cons ?_ | refine op_move ?_ | refine op_assign ?_ | refine op_load ?_ | refine op_load_agg ?_ | refine op_indexC ?_
      | refine op_indexAddr1 ?_ | refine op_indexAddr ?_ | refine op_icmp ?_ | refine op_iarith ?_ | refine op_len_slice ?_ | refine op_pick_true ?_ | refine op_pick_false ?_ | refine op_pick_true' ?_ | refine op_pick_false' ?_ | refine op_irem ?_
      | refine op_loadK rfl ?_ | refine op_load_aggK rfl ?_ | refine tc_cond_t ?_ | refine tc_cond_f ?_ | refine tc_cond (fun _ => ?_) (fun _ => ?_) | refine tc_block ?_ | refine tc_skip ?_ | refine tc_ret ?_ | refine tc_exit ?_ | refine at_seq_ret ?_
      | refine at_seq_exit ?_ | refine at_block_normal ?_ | refine at_block_ret ?_ | refine at_block_exit_self ?_ | refine at_block_exit_ne ?_ | refine at_loop_ret ?_ | refine at_loop_exit ?_ | refine tl_guard_yes ?_ | refine tl_guard_no ?_ | refine tl_guard_yes' ?_
      | refine tl_guard_no' ?_ | refine tl_guard_undef ?_ | refine tl_guard_split (fun _ => ?_) (fun _ => ?_)
    exact ret_two (.tmp rfl) (.tmp rfl) (hk := ⟨by rw [← h2]; exact ⟨rfl, h1⟩, rfl⟩)
end Go.Proofs.Ytkhpdmcalimmjaa.Geom
