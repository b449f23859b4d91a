/-
  FnUnique: the unique coordinates of places in a row are those places that no place ahead of them equals, in their order. No conditions beyond the statement's own.
-/
import Derived.Test.YtcajankinofomaaRows
import Derived.Test.YtcajankinofomaaUqi
import Derived.Test.YtcajankinofomaaLg13
set_option linter.unusedVariables false
set_option linter.unusedSimpArgs false
namespace Go.Proofs.Ytcajankinofomaa.fnUnique
open Go.Lg Go.Proofs.Ytcajankinofomaa.Uq Go.Proofs.Ytcajankinofomaa.Flat
open Go.ChangeShapes Go.WideShapes Go.RowKit

def strideI (n : Int) : Int := if n < 1 then 0 else if n = 1 then 2 else if n = 2 then 3 else if n = 3 then 3 else n
theorem stride (n : Int) (H : Heap) : Does Try.prog 9 [.int .i64 n] H fun w H' => w = .int .i64 (strideI n) ∧ H' = H := by
  refine fn_enter 17 Try.func9 fun W => ?_
  repeat' first
    | refine tc_seq ?_ | refine tc_region ?_ | refine at_seq_normal ?_ | refine tl_nil ?_ | refine tl_cons ?_ | refine op_move ?_ | refine op_assign ?_ | refine op_icmp ?_ | refine op_pick_true ?_ | refine op_pick_false ?_
    | refine op_pick_true' ?_ | refine op_pick_false' ?_ | refine tc_cond_t ?_ | refine tc_cond_f ?_ | refine tc_cond (fun _ => ?_) (fun _ => ?_) | refine tc_block ?_ | refine tc_skip ?_ | refine tc_ret ?_ | refine at_seq_ret ?_ | refine at_block_normal ?_
    | refine at_block_ret ?_ | refine tl_guard_yes ?_ | refine tl_guard_no ?_ | refine tl_guard_yes' ?_ | refine tl_guard_no' ?_ | refine tl_guard_undef ?_ | refine tl_guard_split (fun _ => ?_) (fun _ => ?_)
  all_goals (first | exact ret_tmp (hk := ⟨congrArg (Value.int .i64) (by simp only [icmp, decide_eq_true_eq, decide_eq_false_iff_not, beq_iff_eq, beq_eq_false_iff_ne, ne_eq] at *; unfold strideI; (repeat' split) <;> omega), rfl⟩))
theorem strideG_eq {n : Int} (h : 1 ≤ n) : strideG n = strideI n := by unfold strideG strideI; (repeat' split) <;> omega
theorem stride_ge {n : Int} (h : 1 ≤ n) : 2 ≤ strideI n := by unfold strideI; (repeat' split) <;> omega
theorem stride_le {n : Int} (h : 1 ≤ n) (h9 : n ≤ 9) : strideI n ≤ 9 := by unfold strideI; (repeat' split) <;> omega
theorem gNumber (x : Nat) (H : Heap) : Does Try.prog 18 [.float .f64 x] H fun w H' => w = .bool (fcmp .eql x x) ∧ H' = H := by
  refine fn_enter 6 Try.func18 fun W => ?_
  repeat' first
    | refine tc_seq ?_ | refine tc_region ?_ | refine at_seq_normal ?_ | refine tl_nil ?_ | refine tl_cons ?_ | refine op_move ?_ | refine op_assign ?_ | refine op_fcmp ?_ | refine tc_ret ?_ | refine at_seq_ret ?_
  first | exact ret_tmp (hk := ⟨rfl, rfl⟩) | exact ret_cell (hr := rfl) (hk := ⟨rfl, rfl⟩) | exact ret_agg (hr := rfl) (hk := ⟨rfl, rfl⟩)
set_option maxHeartbeats 8000000 in
theorem gEach (k l r : Int) (a : Option Addr) (c : Nat) (xs : List Nat) (ve vee : Value) (H : Heap) (hf : FS H (.slice a xs.length c) xs) (hb : xs.length < 2 ^ 40) :
    Does Try.prog 17 [.agg ⟨[.int .i64 k, .int .i64 l, .int .i64 r, .slice a xs.length c, ve, vee, .slice none 0 0]⟩, .func (.func 18) #[] #[]] H
      fun w H' => ∃ b, w = .bool b ∧ H' = H ∧ (b = true → ∀ x ∈ xs, fcmp .eql x x = true) := by
  refine fn_enter 33 Try.func17 fun W => ?_
  repeat' first
    | refine tc_seq ?_ | refine tc_region ?_ | refine at_seq_normal ?_ | refine tl_nil ?_ | refine tl_cons ?_ | refine tl_cons_none ?_ | refine op_move ?_ | refine op_assign ?_ | refine op_fieldAddr ?_ | refine op_load ?_
    | refine op_load_agg ?_ | refine op_indexC ?_ | refine op_indexAddr1 ?_ | refine op_indexAddr ?_ | refine op_icmp ?_ | refine op_iarith ?_ | refine op_unop_not ?_ | refine op_len_slice ?_ | (refine op_alloc ?_; intro _) | (refine op_box ?_; intro _)
    | refine op_store0 ?_ | refine op_store1 ?_ | refine op_store2 ?_ | refine op_store3 ?_ | refine op_store4 ?_ | refine op_store5 ?_ | refine op_storeK rfl ?_ | refine op_loadK rfl ?_ | refine op_load_aggK rfl ?_ | refine tc_cond_t ?_
    | refine tc_cond_f ?_ | refine tc_cond (fun _ => ?_) (fun _ => ?_) | refine tc_block ?_ | refine tc_skip ?_ | refine tc_ret ?_ | refine tc_exit ?_ | refine at_seq_ret ?_ | refine at_seq_exit ?_ | refine at_block_normal ?_ | refine at_block_ret ?_
    | refine at_block_exit_self ?_ | refine at_block_exit_ne ?_ | refine at_loop_ret ?_ | refine at_loop_exit ?_
  rename_i k2
  refine tc_loopK [(1, _), (2, _), (10, _), (11, _)] (by repeat (first | exact trivial | refine ⟨rfl, ?_⟩)) (fun j : Nat => [(4, .bool false), (12, .int .i64 (j : Int))]) (fun _ => (k2, _) :: H) (fun j => j ≤ xs.length ∧ ∀ x ∈ xs.take j, fcmp .eql x x = true) (fun j => xs.length - j) 0 ⟨Nat.zero_le _, by simp⟩ ⟨rfl, rfl, trivial⟩ (List.Sublist.refl _) ?_
  rintro j ⟨hj, hg⟩
  by_cases hlt : j < xs.length
  · have hbb : icmp .lss (j : Int) (xs.length : Int) = true := by rw [lss_nat]; simpa using hlt
    have hget : xs[j]? = some xs[j] := List.getElem?_eq_getElem hlt
    obtain ⟨kx, off, L, T, fz, cap, he, hm, hl', _⟩ := hf.at hget
    cases he
    have hm2 : (kx, Obj.cells ⟨L⟩ T fz) ∈ (k2, Obj.cells ⟨[.int .i64 k, .int .i64 l, .int .i64 r, .slice (some ⟨kx, off, none⟩) xs.length c, ve, vee, .slice none 0 0]⟩ 43 (0, 0)) :: H := List.mem_cons_of_mem _ hm
    generalize hx : xs[j] = x at *
    repeat' first
      | (first | refine tc_seq ?_ | refine tc_region ?_ | refine at_seq_normal ?_ | refine tl_nil ?_ | refine tl_cons ?_ | refine tl_cons_none ?_ | refine op_move ?_ | refine op_assign ?_ | refine op_fieldAddr ?_ | refine op_load ?_ | refine op_load_agg ?_ | refine op_indexC ?_ | refine op_indexAddr1 ?_ | refine op_indexAddr ?_ | refine op_icmp ?_ | refine op_iarith ?_ | refine op_unop_not ?_ | refine op_len_slice ?_ | (refine op_alloc ?_; intro _) | (refine op_box ?_; intro _) | refine op_store0 ?_ | refine op_store1 ?_ | refine op_store2 ?_ | refine op_store3 ?_ | refine op_store4 ?_ | refine op_store5 ?_ | refine op_storeK rfl ?_ | refine op_loadK rfl ?_ | refine op_load_aggK rfl ?_ | refine tc_cond_t ?_ | refine tc_cond_f ?_ | refine tc_cond (fun _ => ?_) (fun _ => ?_) | refine tc_block ?_ | refine tc_skip ?_ | refine tc_ret ?_ | refine tc_exit ?_ | refine at_seq_ret ?_ | refine at_seq_exit ?_ | refine at_block_normal ?_ | refine at_block_ret ?_ | refine at_block_exit_self ?_ | refine at_block_exit_ne ?_ | refine at_loop_ret ?_ | refine at_loop_exit ?_ | fail)
      | (refine op_callv ((gNumber _ _).mono ?_); rintro _ _ ⟨rfl, rfl⟩)
    all_goals first
      | exact ret_tmp (hk := ⟨false, rfl, rfl, fun h => by cases h⟩) (hG := List.sublist_cons_self _ _)
      | skip
    refine at_loopK (j + 1) ⟨hlt, ?_⟩ (by omega) ⟨rfl, next_nat (by omega), trivial⟩ (by repeat (first | exact trivial | refine ⟨rfl, ?_⟩)) (List.Sublist.refl _)
    intro y hy
    rw [List.take_add_one, hget] at hy
    simp only [Option.toList_some, List.mem_append, List.mem_singleton] at hy
    rcases hy with hy | rfl
    · exact hg y hy
    · simpa using ‹(!fcmp .eql y y) = false›
  · have hbb : icmp .lss (j : Int) (xs.length : Int) = false := by rw [lss_nat]; simpa using hlt
    repeat' first
      | refine tc_seq ?_ | refine tc_region ?_ | refine at_seq_normal ?_ | refine tl_nil ?_ | refine tl_cons ?_ | refine tl_cons_none ?_ | refine op_move ?_ | refine op_assign ?_ | refine op_fieldAddr ?_ | refine op_load ?_
      | refine op_load_agg ?_ | refine op_indexC ?_ | refine op_indexAddr1 ?_ | refine op_indexAddr ?_ | refine op_icmp ?_ | refine op_iarith ?_ | refine op_unop_not ?_ | refine op_len_slice ?_ | (refine op_alloc ?_; intro _) | (refine op_box ?_; intro _)
      | refine op_store0 ?_ | refine op_store1 ?_ | refine op_store2 ?_ | refine op_store3 ?_ | refine op_store4 ?_ | refine op_store5 ?_ | refine op_storeK rfl ?_ | refine op_loadK rfl ?_ | refine op_load_aggK rfl ?_ | refine tc_cond_t ?_
      | refine tc_cond_f ?_ | refine tc_cond (fun _ => ?_) (fun _ => ?_) | refine tc_block ?_ | refine tc_skip ?_ | refine tc_ret ?_ | refine tc_exit ?_ | refine at_seq_ret ?_ | refine at_seq_exit ?_ | refine at_block_normal ?_ | refine at_block_ret ?_
      | refine at_block_exit_self ?_ | refine at_block_exit_ne ?_ | refine at_loop_ret ?_ | refine at_loop_exit ?_
    rw [List.take_of_length_le (by omega)] at hg
    refine tc_loopK [(1, _), (22, _), (23, _)] (by repeat (first | exact trivial | refine ⟨rfl, ?_⟩)) (fun _ : Nat => [(24, .int .i64 0)]) (fun _ => (k2, _) :: H) (fun _ => True) (fun _ => 0) 0 trivial ⟨rfl, trivial⟩ (List.Sublist.refl _) ?_
    intro _ _
    repeat' first
      | refine tc_seq ?_ | refine tc_region ?_ | refine at_seq_normal ?_ | refine tl_nil ?_ | refine tl_cons ?_ | refine tl_cons_none ?_ | refine op_move ?_ | refine op_assign ?_ | refine op_fieldAddr ?_ | refine op_load ?_
      | refine op_load_agg ?_ | refine op_indexC ?_ | refine op_indexAddr1 ?_ | refine op_indexAddr ?_ | refine op_icmp ?_ | refine op_iarith ?_ | refine op_unop_not ?_ | refine op_len_slice ?_ | (refine op_alloc ?_; intro _) | (refine op_box ?_; intro _)
      | refine op_store0 ?_ | refine op_store1 ?_ | refine op_store2 ?_ | refine op_store3 ?_ | refine op_store4 ?_ | refine op_store5 ?_ | refine op_storeK rfl ?_ | refine op_loadK rfl ?_ | refine op_load_aggK rfl ?_ | refine tc_cond_t ?_
      | refine tc_cond_f ?_ | refine tc_cond (fun _ => ?_) (fun _ => ?_) | refine tc_block ?_ | refine tc_skip ?_ | refine tc_ret ?_ | refine tc_exit ?_ | refine at_seq_ret ?_ | refine at_seq_exit ?_ | refine at_block_normal ?_ | refine at_block_ret ?_
      | refine at_block_exit_self ?_ | refine at_block_exit_ne ?_ | refine at_loop_ret ?_ | refine at_loop_exit ?_
    exact ret_tmp (hk := ⟨true, rfl, rfl, fun _ => hg⟩) (hG := List.sublist_cons_self _ _)
/-- Whole places of a layout, none of their numbers NaN. -/
def IsRow (n : Int) (xs : List Nat) : Prop := 1 ≤ n ∧ n ≤ 9 ∧ xs.length ≤ 1000 ∧ (xs.length : Int).tmod (strideI n) = 0 ∧ ∀ x ∈ xs, fcmp .eql x x = true
theorem sRow (n : Int) (a : Option Addr) (c : Nat) (xs : List Nat) (H : Heap) (hf : FS H (.slice a xs.length c) xs) (hb : xs.length < 2 ^ 40) :
    Does Try.prog 5 [.int .i64 n, .slice a xs.length c] H fun w H' => (∃ b, w = .bool b ∧ (b = true → IsRow n xs)) ∧ H' = H := by
  by_cases h1 : 1 ≤ n
  · have hc : icmp .geq n 1 = true := by simpa [icmp] using h1
    have hz : strideI n ≠ 0 := by have := stride_ge h1; omega
    refine fn_enter 31 Try.func5 fun W => ?_
    repeat' first
      | (refine op_call ((stride n _).mono ?_); rintro _ _ ⟨rfl, rfl⟩)
      | (refine op_call ((gEach 0 0 0 a c xs _ _ _ hf hb).mono ?_); rintro _ _ ⟨b, rfl, rfl, hbb⟩)
      | (first | refine tc_seq ?_ | refine tc_region ?_ | refine at_seq_normal ?_ | refine tl_nil ?_ | refine tl_cons ?_ | refine op_move ?_ | refine op_assign ?_ | refine op_icmp ?_ | refine op_len_slice ?_ | refine op_pick_true ?_ | refine op_pick_false ?_ | refine op_pick_true' ?_ | refine op_pick_false' ?_ | refine op_build ?_ | refine op_irem ?_ | refine tc_ret ?_ | refine at_seq_ret ?_ | refine tl_guard_yes ?_ | refine tl_guard_no ?_ | refine tl_guard_yes' ?_ | refine tl_guard_no' ?_ | refine tl_guard_undef ?_ | refine tl_guard_split (fun _ => ?_) (fun _ => ?_) | fail)
      | fail
    all_goals first
      | exact ret_tmp (hk := ⟨⟨false, rfl, fun h => by cases h⟩, rfl⟩)
      | skip
    rename_i h9 hle hrem Hx
    exact ret_tmp (hk := ⟨⟨b, rfl, fun h => ⟨h1, by simpa [icmp] using h9, by simp only [icmp, decide_eq_true_eq] at hle; omega, by simpa [icmp] using hrem, hbb h⟩⟩, rfl⟩)
  · have hc : icmp .geq n 1 = false := by simp only [icmp]; exact decide_eq_false h1
    refine fn_enter 31 Try.func5 fun W => ?_
    repeat' first
      | (refine op_call ((stride n _).mono ?_); rintro _ _ ⟨rfl, rfl⟩)
      | (first | refine tc_seq ?_ | refine tc_region ?_ | refine at_seq_normal ?_ | refine tl_nil ?_ | refine tl_cons ?_ | refine op_move ?_ | refine op_assign ?_ | refine op_icmp ?_ | refine op_len_slice ?_ | refine op_pick_true ?_ | refine op_pick_false ?_ | refine op_pick_true' ?_ | refine op_pick_false' ?_ | refine op_build ?_ | refine op_irem ?_ | refine tc_ret ?_ | refine at_seq_ret ?_ | refine tl_guard_yes ?_ | refine tl_guard_no ?_ | refine tl_guard_yes' ?_ | refine tl_guard_no' ?_ | refine tl_guard_undef ?_ | refine tl_guard_split (fun _ => ?_) (fun _ => ?_) | fail)
      | fail
    all_goals exact ret_tmp (hk := ⟨⟨false, rfl, fun h => by cases h⟩, rfl⟩)
theorem sOrder (o : Int) (H : Heap) : Does Try.prog 6 [.int .i64 o] H fun w H' => w = .bool (decide (0 ≤ o) && decide (o ≤ 3)) ∧ H' = H := by
  refine fn_enter 9 Try.func6 fun W => ?_
  repeat' first
    | refine tc_seq ?_ | refine tc_region ?_ | refine at_seq_normal ?_ | refine tl_nil ?_ | refine tl_cons ?_ | refine op_move ?_ | refine op_assign ?_ | refine op_icmp ?_ | refine op_pick_true ?_ | refine op_pick_false ?_
    | refine op_pick_true' ?_ | refine op_pick_false' ?_ | refine tc_ret ?_ | refine at_seq_ret ?_ | refine tl_guard_yes ?_ | refine tl_guard_no ?_ | refine tl_guard_yes' ?_ | refine tl_guard_no' ?_ | refine tl_guard_undef ?_ | refine tl_guard_split (fun _ => ?_) (fun _ => ?_)
  all_goals exact ret_tmp (hk := ⟨by simp only [icmp] at *; simp [*], rfl⟩)
theorem firsts_mem (how : Int) (s : Nat) : ∀ (rs : List (List Nat)) (out : List (List Nat)), (rs.foldl (first how s) out).length ≤ out.length + rs.length ∧ ∀ r ∈ rs.foldl (first how s) out, r ∈ out ∨ r ∈ rs
  | [], out => ⟨by simp, fun r h => .inl h⟩
  | p :: rs, out => by
    obtain ⟨h1, h2⟩ := firsts_mem how s rs (first how s out p)
    rw [List.foldl_cons]
    have e : first how s out p = out ∨ first how s out p = out ++ [p] := by unfold first; split; exact .inl rfl; exact .inr rfl
    refine ⟨?_, fun r hr => ?_⟩
    · rcases e with e | e <;> rw [e] at h1 ⊢ <;> simp at h1 ⊢ <;> omega
    · rcases h2 r hr with h | h
      · rcases e with e | e
        · rw [e] at h; exact .inl h
        · rw [e] at h
          rcases List.mem_append.1 h with h | h
          · exact .inl h
          · exact .inr (by rw [List.mem_singleton.1 h]; exact List.mem_cons_self)
      · exact .inr (List.mem_cons_of_mem _ h)
theorem flat_len {s : Nat} : ∀ {l : List (List Nat)}, (∀ r ∈ l, r.length = s) → l.flatten.length = l.length * s
  | [], _ => by simp
  | x :: l, h => by
    rw [List.flatten_cons, List.length_append, h x List.mem_cons_self, flat_len fun r hr => h r (List.mem_cons_of_mem _ hr), List.length_cons, Nat.add_mul, Nat.one_mul, Nat.add_comm]
set_option maxHeartbeats 16000000 in
theorem law {H : Heap} (n : Int) (hwn : -9223372036854775808 ≤ n ∧ n ≤ 9223372036854775807) (o : Int) (hwo : -9223372036854775808 ≤ o ∧ o ≤ 9223372036854775807) (v : Value) (xs : List Nat) (hv : FS H v xs) (hl : xs.length ≤ 9223372036854775807) :
    Does Try.prog 3 [.int .i64 n, .int .i64 o, v] H fun w H' => w = .bool true ∧ H' = H := by
  obtain ⟨a, c, rfl⟩ := hv.val
  refine fn_enter 52 Try.func3 fun W => ?_
  by_cases hbig : xs.length < 2147483648
  rotate_left
  · have hc : icmp .gtr (xs.length : Int) 2147483647 = true := by simp only [icmp, decide_eq_true_eq]; omega
    repeat' first
      | refine tc_seq ?_ | refine tc_region ?_ | refine at_seq_normal ?_ | refine tl_nil ?_ | refine tl_cons ?_ | refine op_move ?_ | refine op_assign ?_ | refine op_load ?_ | refine op_load_agg ?_ | refine op_indexC ?_
      | refine op_indexAddr1 ?_ | refine op_indexAddr ?_ | refine op_icmp ?_ | refine op_iarith ?_ | refine op_unop_not ?_ | refine op_len_slice ?_ | refine op_pick_true ?_ | refine op_pick_false ?_ | refine op_pick_true' ?_ | refine op_pick_false' ?_
      | refine op_extract ?_ | refine op_loadK rfl ?_ | refine op_load_aggK rfl ?_ | refine tc_cond_t ?_ | refine tc_cond_f ?_ | refine tc_cond (fun _ => ?_) (fun _ => ?_) | refine tc_block ?_ | refine tc_skip ?_ | refine tc_ret ?_ | refine tc_exit ?_
      | refine at_seq_ret ?_ | refine at_seq_exit ?_ | refine at_block_normal ?_ | refine at_block_ret ?_ | refine at_block_exit_self ?_ | refine at_block_exit_ne ?_ | refine at_loop_ret ?_ | refine at_loop_exit ?_ | refine tl_guard_yes ?_ | refine tl_guard_no ?_
      | refine tl_guard_yes' ?_ | refine tl_guard_no' ?_ | refine tl_guard_undef ?_ | refine tl_guard_split (fun _ => ?_) (fun _ => ?_)
    exact ret_tmp (hk := ⟨rfl, rfl⟩)
  have hc : icmp .gtr (xs.length : Int) 2147483647 = false := by simp only [icmp, decide_eq_false_iff_not]; omega
  repeat' first
    | (refine op_call ((sRow n a c xs _ hv (by omega)).mono ?_); rintro _ _ ⟨⟨b, rfl, hb⟩, rfl⟩)
    | (refine op_call ((sOrder o _).mono ?_); rintro _ _ ⟨rfl, rfl⟩)
    | (first | refine tc_seq ?_ | refine tc_region ?_ | refine at_seq_normal ?_ | refine tl_nil ?_ | refine tl_cons ?_ | refine op_move ?_ | refine op_assign ?_ | refine op_load ?_ | refine op_load_agg ?_ | refine op_indexC ?_ | refine op_indexAddr1 ?_ | refine op_indexAddr ?_ | refine op_icmp ?_ | refine op_iarith ?_ | refine op_unop_not ?_ | refine op_len_slice ?_ | refine op_pick_true ?_ | refine op_pick_false ?_ | refine op_pick_true' ?_ | refine op_pick_false' ?_ | refine op_extract ?_ | refine op_loadK rfl ?_ | refine op_load_aggK rfl ?_ | refine tc_cond_t ?_ | refine tc_cond_f ?_ | refine tc_cond (fun _ => ?_) (fun _ => ?_) | refine tc_block ?_ | refine tc_skip ?_ | refine tc_ret ?_ | refine tc_exit ?_ | refine at_seq_ret ?_ | refine at_seq_exit ?_ | refine at_block_normal ?_ | refine at_block_ret ?_ | refine at_block_exit_self ?_ | refine at_block_exit_ne ?_ | refine at_loop_ret ?_ | refine at_loop_exit ?_ | refine tl_guard_yes ?_ | refine tl_guard_no ?_ | refine tl_guard_yes' ?_ | refine tl_guard_no' ?_ | refine tl_guard_undef ?_ | refine tl_guard_split (fun _ => ?_) (fun _ => ?_) | fail)
    | fail
  · exact ret_tmp (hk := ⟨rfl, rfl⟩)
  · exact ret_tmp (hk := ⟨rfl, rfl⟩)
  rename_i hnb H1 hno
  obtain ⟨h1, h9, hle, hrem, hnum⟩ := hb (by simpa using hnb)
  have ho : 0 ≤ o ∧ o ≤ 3 := by simpa using hno
  obtain ⟨s, hs⟩ : ∃ s : Nat, strideI n = (s : Int) := ⟨(strideI n).toNat, by have := stride_ge h1; omega⟩
  have hs2 : 2 ≤ s := by have := stride_ge h1; omega
  have hs9 : s ≤ 9 := by have := stride_le h1 h9; omega
  have hsg : strideG n = (s : Int) := by rw [strideG_eq h1, hs]
  obtain ⟨m, hm⟩ : ∃ m, m = xs.length / s := ⟨_, rfl⟩
  have hlm : xs.length = m * s := by
    rw [hs, Int.tmod_eq_emod_of_nonneg (by omega)] at hrem
    have h2 : xs.length % s = 0 := by exact_mod_cast hrem
    rw [hm]; have := Nat.div_add_mod xs.length s; rw [Nat.mul_comm] at this; omega
  have hmle : m ≤ 1000 := by have := Nat.le_mul_of_pos_right m (show 0 < s by omega); omega
  obtain ⟨fs, hfs⟩ : ∃ fs, fs = firsts o s (chunks s m xs) := ⟨_, rfl⟩
  have hfm := firsts_mem o s (chunks s m xs) []
  have hcn : ∀ r ∈ chunks s m xs, Num s r := fun r hr => by
    obtain ⟨i, hi, rfl⟩ := List.mem_map.1 hr
    exact chunk_num hlm hnum (List.mem_range.1 hi)
  have hfn : ∀ r ∈ fs, Num s r := fun r hr => by
    rw [hfs] at hr
    rcases hfm.2 r hr with h | h
    · cases h
    · exact hcn r h
  have hfl : fs.length ≤ m := by have := hfm.1; rw [chunks_len] at this; rw [hfs]; unfold firsts; simpa using this
  have hflat : fs.flatten.length ≤ 1000 := by
    rw [flat_len fun r hr => (hfn r hr).1]
    exact Nat.le_trans (Nat.mul_le_mul_right s hfl) (by omega)
  repeat' first
    | (refine op_call ((stride n _).mono ?_); rw [hs]; rintro _ H1 ⟨rfl, rfl⟩)
    | (refine op_call ((rows a c xs s _ hv (by omega) (by omega) (by omega)).mono ?_); rw [← hm]; rintro w1 _ ⟨ex1, rfl, hsn1⟩)
    | (refine op_call ((firstsW o s _ (chunks s m xs) _ hsn1 hs2 hs9 hcn (by rw [chunks_len]; exact hmle) ho).mono ?_); rw [← hfs]; rintro w2 _ ⟨ex2, rfl, hsn2⟩; obtain ⟨a2, c2, rfl⟩ := hsn2.val)
    | (first | refine tc_seq ?_ | refine tc_region ?_ | refine at_seq_normal ?_ | refine tl_nil ?_ | refine tl_cons ?_ | refine op_move ?_ | refine op_assign ?_ | refine op_load ?_ | refine op_load_agg ?_ | refine op_indexC ?_ | refine op_indexAddr1 ?_ | refine op_indexAddr ?_ | refine op_icmp ?_ | refine op_iarith ?_ | refine op_unop_not ?_ | refine op_len_slice ?_ | refine op_pick_true ?_ | refine op_pick_false ?_ | refine op_pick_true' ?_ | refine op_pick_false' ?_ | refine op_extract ?_ | refine op_loadK rfl ?_ | refine op_load_aggK rfl ?_ | refine tc_cond_t ?_ | refine tc_cond_f ?_ | refine tc_cond (fun _ => ?_) (fun _ => ?_) | refine tc_block ?_ | refine tc_skip ?_ | refine tc_ret ?_ | refine tc_exit ?_ | refine at_seq_ret ?_ | refine at_seq_exit ?_ | refine at_block_normal ?_ | refine at_block_ret ?_ | refine at_block_exit_self ?_ | refine at_block_exit_ne ?_ | refine at_loop_ret ?_ | refine at_loop_exit ?_ | refine tl_guard_yes ?_ | refine tl_guard_no ?_ | refine tl_guard_yes' ?_ | refine tl_guard_no' ?_ | refine tl_guard_undef ?_ | refine tl_guard_split (fun _ => ?_) (fun _ => ?_) | fail)
    | fail
  rw [List.length_map] at hsn2 ⊢
  have hlen1 : fs.length ≤ 1000 := by omega
  refine tc_loopK [(0, _), (1, _), (2, _), (6, _), (29, _), (30, _)] (by repeat (first | exact trivial | refine ⟨rfl, ?_⟩)) (fun p : Nat × Buf => [(31, .int .i64 (p.1 : Int)), (7, bufV p.2 ((fs.take p.1).flatten.length))]) (fun p => bufH 46 p.2 ((fs.take p.1).flatten.map fl) (ex2 ++ (ex1 ++ H1)))
    (fun p => p.1 ≤ fs.length ∧ bufOk 1 p.2 ((fs.take p.1).flatten.length) ((fs.take p.1).flatten.map fl)) (fun p => fs.length - p.1) (0, none) ⟨Nat.zero_le _, ⟨rfl, rfl⟩⟩ ⟨rfl, rfl, trivial⟩ (List.Sublist.refl _) ?_
  rintro ⟨i, buf⟩ ⟨hi, hok⟩
  simp only at hi hok ⊢
  by_cases hlt : i < fs.length
  · have hlb : icmp .lss (i : Int) (fs.length : Int) = true := by rw [lss_nat]; simpa using hlt
    have t1 : (fs.map some)[i]? = some (some fs[i]) := by rw [List.getElem?_map, List.getElem?_eq_getElem hlt]; rfl
    obtain ⟨k1, o1, l1, T1, z1, _, x1, u1, mm1H, ll1, r1, lt1⟩ := hsn2.at t1
    rw [List.length_map] at u1
    cases u1
    have mm1 : (k1, Obj.cells ⟨l1⟩ T1 z1) ∈ bufH 46 buf ((fs.take i).flatten.map fl) (ex2 ++ (ex1 ++ H1)) := (bufH_sub _ _ _ _).subset mm1H
    have htk : (fs.take (i + 1)).flatten = (fs.take i).flatten ++ fs[i] := by
      rw [List.take_add_one, List.getElem?_eq_getElem hlt]
      show (fs.take i ++ [fs[i]]).flatten = _
      exact flat_snoc _ _
    have hnr := hfn _ (List.getElem_mem hlt)
    have hpl : (fs.take i).flatten.length ≤ 9000 := by
      rw [flat_len fun r hr => (hfn r (List.mem_of_mem_take hr)).1]
      exact Nat.le_trans (Nat.mul_le_mul (Nat.le_trans (by rw [List.length_take]; omega) hlen1) hs9) (by decide)
    obtain ⟨row, hrow⟩ : ∃ row, row = fs[i] := ⟨_, rfl⟩
    rw [← hrow] at r1 htk hnr
    obtain ⟨a3, c3, rfl, f3, -⟩ := r1.fs
    simp only [Option.getD_some] at ll1 r1 f3
    have hf3 : FS (bufH 46 buf ((fs.take i).flatten.map fl) (ex2 ++ (ex1 ++ H1))) (.slice a3 row.length c3) row := f3.mono fun e he => (bufH_sub _ _ _ _).subset he
    have hr9 : row.length ≤ 9 := by rw [hnr.1]; exact hs9
    repeat' first
      | (refine op_appendS (H' := ex2 ++ (ex1 ++ H1)) buf ((fs.take i).flatten.length) ((fs.take i).flatten.map fl) (row.map fl) (m := row.length) hok (fun buf' hok' _ => ?_) (FS.toN hf3) (by exact rfl) (by exact rfl) (List.Sublist.refl _) (oneCell_fl row) (by simp only [maxLen]; omega) (by omega))
      | (first | refine tc_seq ?_ | refine tc_region ?_ | refine at_seq_normal ?_ | refine tl_nil ?_ | refine tl_cons ?_ | refine op_move ?_ | refine op_assign ?_ | refine op_load ?_ | refine op_load_agg ?_ | refine op_indexC ?_ | refine op_indexAddr1 ?_ | refine op_indexAddr ?_ | refine op_icmp ?_ | refine op_iarith ?_ | refine op_unop_not ?_ | refine op_len_slice ?_ | refine op_pick_true ?_ | refine op_pick_false ?_ | refine op_pick_true' ?_ | refine op_pick_false' ?_ | refine op_extract ?_ | refine op_loadK rfl ?_ | refine op_load_aggK rfl ?_ | refine tc_cond_t ?_ | refine tc_cond_f ?_ | refine tc_cond (fun _ => ?_) (fun _ => ?_) | refine tc_block ?_ | refine tc_skip ?_ | refine tc_ret ?_ | refine tc_exit ?_ | refine at_seq_ret ?_ | refine at_seq_exit ?_ | refine at_block_normal ?_ | refine at_block_ret ?_ | refine at_block_exit_self ?_ | refine at_block_exit_ne ?_ | refine at_loop_ret ?_ | refine at_loop_exit ?_ | refine tl_guard_yes ?_ | refine tl_guard_no ?_ | refine tl_guard_yes' ?_ | refine tl_guard_no' ?_ | refine tl_guard_undef ?_ | refine tl_guard_split (fun _ => ?_) (fun _ => ?_) | fail)
      | fail
    refine at_loopK (i + 1, buf') ?_ (by simp only; omega) ?_ (by repeat (first | exact trivial | refine ⟨rfl, ?_⟩)) ?_
    · simp only
      rw [htk, List.length_append, List.map_append]
      exact ⟨by omega, hok'⟩
    · simp only
      rw [htk, List.length_append]
      exact ⟨next_nat (by omega), rfl, trivial⟩
    · simp only
      rw [htk, List.map_append]
      exact List.Sublist.refl _
  · have hlb : icmp .lss (i : Int) (fs.length : Int) = false := by rw [lss_nat]; simpa using hlt
    rw [List.take_of_length_le (by omega)] at hok ⊢
    have hfb := fun H => fs_buf (e := 46) (H := H) hok
    obtain ⟨a4, c4, hbv⟩ := bufV_val hok
    rw [hbv] at hfb ⊢
    have hun := fun G (hG : ∀ e ∈ H1, e ∈ G) => implUnique n o s m a c xs G hsg hs2 hs9 (hv.mono hG) hlm hle hnum (by rw [← hfs]; exact hflat)
    rw [← hfs] at hun
    repeat' first
      | (refine op_call ((hun _ (fun e he => (bufH_sub _ _ _ _).subset (by simp [he]))).mono ?_); rintro _ _ ⟨a5, c5, rfl, hf5, ex5, rfl⟩)
      | (refine op_call ((sameFloats a5 a4 c5 c4 fs.flatten fs.flatten _ hf5 ((hfb _).mono fun e he => List.mem_append_right _ he) (by omega)).mono ?_); rintro _ _ ⟨rfl, rfl⟩)
      | (first | refine tc_seq ?_ | refine tc_region ?_ | refine at_seq_normal ?_ | refine tl_nil ?_ | refine tl_cons ?_ | refine op_move ?_ | refine op_assign ?_ | refine op_load ?_ | refine op_load_agg ?_ | refine op_indexC ?_ | refine op_indexAddr1 ?_ | refine op_indexAddr ?_ | refine op_icmp ?_ | refine op_iarith ?_ | refine op_unop_not ?_ | refine op_len_slice ?_ | refine op_pick_true ?_ | refine op_pick_false ?_ | refine op_pick_true' ?_ | refine op_pick_false' ?_ | refine op_extract ?_ | refine op_loadK rfl ?_ | refine op_load_aggK rfl ?_ | refine tc_cond_t ?_ | refine tc_cond_f ?_ | refine tc_cond (fun _ => ?_) (fun _ => ?_) | refine tc_block ?_ | refine tc_skip ?_ | refine tc_ret ?_ | refine tc_exit ?_ | refine at_seq_ret ?_ | refine at_seq_exit ?_ | refine at_block_normal ?_ | refine at_block_ret ?_ | refine at_block_exit_self ?_ | refine at_block_exit_ne ?_ | refine at_loop_ret ?_ | refine at_loop_exit ?_ | refine tl_guard_yes ?_ | refine tl_guard_no ?_ | refine tl_guard_yes' ?_ | refine tl_guard_no' ?_ | refine tl_guard_undef ?_ | refine tl_guard_split (fun _ => ?_) (fun _ => ?_) | fail)
      | fail
    exact ret_tmp (hG := List.Sublist.trans (List.Sublist.trans (List.Sublist.trans (List.sublist_append_right _ _) (List.sublist_append_right _ _)) (bufH_sub _ _ _ _)) (List.sublist_append_right _ _)) (hk := ⟨congrArg Value.bool (by simp), rfl⟩)
theorem own : ownKnob Try.prog.godebug = none := by kernel_rfl
theorem laid : laidOutB Try.prog = true := by kernel_rfl
set_option maxRecDepth 100000 in
theorem lifted (os : Os) (started : os.Started) (H : Type) (enc : TypeId × Value → H) :
    ReturnsInHanded {} Try.checked os 3 .any (Rows.fnUniqueSpec.pre6 enc Try.prog Try.f3 Rows.fnUniqueRow.domain false) (Rows.fnUniqueSpec.post enc Try.prog Try.f3 false true false false) := by
  refine returnsInHanded_of_change (C := Try.checked) own started (by kernel_rfl) Try.func3
    (ChangeSpec.witness6 (enc := enc) (C := Try.checked) false ⟨#[], #[.int .i64 0, .int .i64 0, .slice none 0 0], []⟩ 8 (by kernel_rfl) (by kernel_rfl) (by kernel_rfl) (by kernel_rfl)) ?_
  intro W base args ds gs before hval0 hW hcnd _
  have hval : ∀ (j : Nat) t v, Try.f3.params[j]? = some t → args[j]? = some v → Value.okWide Try.prog W .any base t v := hval0
  have hW' := hW
  obtain ⟨p, q, hA0, hV, rfl, hfz, hnd⟩ := hW
  have hA : DataW.TrodAll enc Try.prog W 0 (fun _ => true) true Try.f3.params.toList args.toList ds p := hA0
  rw [Try.params3] at hA hval
  obtain ⟨v0, vs0, d0, ds0, p0, q0, hargs, rfl, rfl, h0, r0⟩ := trodAll_cons hA
  obtain ⟨v1, vs1, d1, ds1, p1, q1, rfl, rfl, rfl, h1, r1⟩ := trodAll_cons r0
  obtain ⟨v2, vs2, d2, ds2, p2, q2, rfl, rfl, rfl, h2, r2⟩ := trodAll_cons r1
  obtain ⟨rfl, rfl, rfl⟩ := trodAll_nil r2
  obtain rfl : args = #[v0, v1, v2] := by cases args; simp_all
  obtain ⟨rfl, rfl⟩ := trodVars_none hV
  obtain ⟨n0, rfl, rfl, rfl, wn0⟩ := open_int Try.underlying3 (hval 0 3 v0 rfl rfl) h0
  obtain ⟨n1, rfl, rfl, rfl, wn1⟩ := open_int Try.underlying3 (hval 1 3 v1 rfl rfl) h1
  obtain ⟨xs2, hs2, hl2, hb2⟩ := open_floats Try.underlying22 (by kernel_rfl) Try.underlying46 (hval 2 22 v2 rfl rfl) h2
  clear hA0 hval0
  refine (calls_of_does (law (H := all W) n0 (wf_i64 wn0) n1 (wf_i64 wn1) v2 xs2 hs2 hl2) (sees_all W)).mono fun e W' ⟨v, H', he, hs, hv, hH⟩ => ?_
  subst he
  subst hv
  subst hH
  exact ⟨_, rfl, post_law laid (of_decide_eq_true (by kernel_rfl)) rfl hW' rfl rfl Try.underlying4 hs.below⟩
theorem over : Rows.fnUniqueRow.holds Try.pinned (OpenSpec.ofChange Rows.fnUniqueSpec) :=
  OpenClaim.holds_of_wide 3 Try.f3 rfl rfl rfl rfl rfl rfl rfl ⟨rfl, rfl, rfl, rfl, rfl⟩ rfl rfl rfl rfl rfl (by kernel_rfl) Try.func3 (by kernel_rfl)
    (of_decide_eq_true (by kernel_rfl)) (by unfold Func.isWrapper; first | (rw [if_pos (by decide +kernel)]; kernel_rfl) | (rw [if_neg (by decide +kernel)]; exact ⟨rfl, rfl⟩))
    (fun os started H enc _ => lifted os started H enc)
/-- The statement. -/
theorem proved : Rows.FnUniqueSaid := over
#print axioms proved
end Go.Proofs.Ytcajankinofomaa.fnUnique
