/-
  Places of whole numbers: laws.planeTo and what it calls; math.Abs. No conditions.
-/
import Derived.Test.YthafjfgmbmpfoaaTy
import Derived.Test.YthafjfgmbmpfoaaFlat
import Derived.Test.YthafjfgmbmpfoaaFl7
set_option linter.unusedVariables false
set_option linter.unusedSimpArgs false
namespace Go.Proofs.Ythafjfgmbmpfoaa.Pl
open Go.Lg

theorem archTrunc (x : Nat) (H : Heap) : Does Try.prog 40 [.float .f64 x] H fun v H' => (∃ r, v = .float .f64 r ∧ TruncR x r) ∧ H' = H :=
  does_trunc Try.func40 rfl rfl (by kernel_rfl) (by kernel_rfl)
theorem trunc (x : Nat) (H : Heap) : Does Try.prog 31 [.float .f64 x] H fun v H' => (∃ r, v = .float .f64 r ∧ TruncR x r) ∧ H' = H := by
  refine fn_enter 7 Try.func31 fun W => ?_
  repeat' first
    | (first | refine tc_seq ?_ | refine tc_region ?_ | refine at_seq_normal ?_ | refine tl_nil ?_ | refine tl_cons ?_ | refine op_move ?_ | refine op_assign ?_ | refine tc_cond_t ?_ | refine tc_cond_f ?_ | refine tc_cond (fun _ => ?_) (fun _ => ?_) | refine tc_skip ?_ | refine tc_ret ?_ | refine at_seq_ret ?_ | fail)
    | (refine op_call ((archTrunc _ _).mono ?_); rintro _ _ ⟨⟨r, rfl, hr⟩, rfl⟩)
  exact ret_tmp (hk := ⟨⟨r, rfl, hr⟩, rfl⟩)
theorem frombits (x : Nat) (H : Heap) : Does Try.prog 43 [.int .u64 ((x : Nat) : Int)] H fun v H' => v = .float .f64 x ∧ H' = H :=
  does_frombits Try.func43 rfl rfl (by kernel_rfl) (by kernel_rfl)
theorem abs (x : Nat) (H : Heap) : Does Try.prog 35 [.float .f64 x] H fun v H' => v = .float .f64 (x % 9223372036854775808) ∧ H' = H := by
  have e1 := ibits_abs x
  refine fn_enter 7 Try.func35 fun W => ?_
  repeat' first
    | (first | refine tc_seq ?_ | refine tc_region ?_ | refine at_seq_normal ?_ | refine tl_nil ?_ | refine tl_cons ?_ | refine op_move ?_ | refine op_assign ?_ | refine op_ibits ?_ | refine tc_ret ?_ | refine at_seq_ret ?_ | fail)
    | (refine op_call ((Flat.bits _ _).mono ?_); rintro _ _ ⟨rfl, rfl⟩)
    | (rw [e1]; refine op_call ((frombits _ _).mono ?_); rintro _ _ ⟨rfl, rfl⟩)
  exact ret_tmp (hk := ⟨rfl, rfl⟩)

/-- Whole numbers from -M to M. -/
def Wh (M : Nat) (x : Nat) : Prop := ∃ n : Int, Fv x (n : Rat) ∧ -(M : Int) ≤ n ∧ n ≤ M
theorem wholeTo (v : Value) (xs : List Nat) (most M : Nat) (H : Heap) (hM : Fv most (M : Rat)) (hMb : M ≤ 9007199254740992) (hl : xs.length < 2 ^ 62) (hx : ∀ x ∈ xs, x < 18446744073709551616) (hv : FS H v xs) :
    Does Try.prog 25 [.float .f64 most, v] H fun u H' => (∃ b, u = .bool b ∧ (b = true → ∀ x ∈ xs, Wh M x)) ∧ H' = H := by
  obtain ⟨a0, cap0, rfl⟩ := hv.val
  refine fn_enter 24 Try.func25 fun W => ?_
  repeat' first
    | refine tc_seq ?_ | refine tc_region ?_ | refine at_seq_normal ?_ | refine tl_nil ?_ | refine tl_cons ?_ | refine op_move ?_ | refine op_assign ?_ | refine op_load ?_ | refine op_load_agg ?_ | refine op_indexC ?_
    | refine op_indexAddr1 ?_ | refine op_indexAddr ?_ | refine op_icmp ?_ | refine op_fcmp ?_ | refine op_iarith ?_ | refine op_len_slice ?_ | refine op_pick_true ?_ | refine op_pick_false ?_ | refine op_pick_true' ?_ | refine op_pick_false' ?_
    | refine op_loadK rfl ?_ | refine op_load_aggK rfl ?_ | refine tc_cond_t ?_ | refine tc_cond_f ?_ | refine tc_cond (fun _ => ?_) (fun _ => ?_) | refine tc_block ?_ | refine tc_skip ?_ | refine tc_ret ?_ | refine tc_exit ?_ | refine at_seq_ret ?_
    | refine at_seq_exit ?_ | refine at_block_normal ?_ | refine at_block_ret ?_ | refine at_block_exit_self ?_ | refine at_block_exit_ne ?_ | refine at_loop_ret ?_ | refine at_loop_exit ?_ | refine tl_guard_yes ?_ | refine tl_guard_no ?_ | refine tl_guard_yes' ?_
    | refine tl_guard_no' ?_ | refine tl_guard_undef ?_ | refine tl_guard_split (fun _ => ?_) (fun _ => ?_)
  refine tc_loopH [(0, _), (7, _), (8, _)] (by repeat (first | exact trivial | refine ⟨rfl, ?_⟩)) (fun j : Nat => [(9, .int .i64 (j : Int))]) (fun j => j ≤ xs.length ∧ ∀ x ∈ xs.take j, Wh M x) (fun j => xs.length - j) 0 ⟨Nat.zero_le _, by simp⟩ ⟨rfl, trivial⟩ ?_
  rintro j ⟨hj, hg⟩
  by_cases hlt : j < xs.length
  · have hb : icmp .lss (j : Int) (xs.length : Int) = true := by rw [lss_nat]; simpa using hlt
    have hget : xs[j]? = some xs[j] := List.getElem?_eq_getElem hlt
    have hxb := hx _ (List.getElem_mem hlt)
    obtain ⟨k, off, l, T, fz, cap, he, hm, hl', hlt'⟩ := hv.at hget
    cases he
    generalize xs[j] = x at *
    repeat' first
      | (first | refine tc_seq ?_ | refine tc_region ?_ | refine at_seq_normal ?_ | refine tl_nil ?_ | refine tl_cons ?_ | refine op_move ?_ | refine op_assign ?_ | refine op_load ?_ | refine op_load_agg ?_ | refine op_indexC ?_ | refine op_indexAddr1 ?_ | refine op_indexAddr ?_ | refine op_icmp ?_ | refine op_fcmp ?_ | refine op_iarith ?_ | refine op_len_slice ?_ | refine op_pick_true ?_ | refine op_pick_false ?_ | refine op_pick_true' ?_ | refine op_pick_false' ?_ | refine op_loadK rfl ?_ | refine op_load_aggK rfl ?_ | refine tc_cond_t ?_ | refine tc_cond_f ?_ | refine tc_cond (fun _ => ?_) (fun _ => ?_) | refine tc_block ?_ | refine tc_skip ?_ | refine tc_ret ?_ | refine tc_exit ?_ | refine at_seq_ret ?_ | refine at_seq_exit ?_ | refine at_block_normal ?_ | refine at_block_ret ?_ | refine at_block_exit_self ?_ | refine at_block_exit_ne ?_ | refine at_loop_ret ?_ | refine at_loop_exit ?_ | refine tl_guard_yes ?_ | refine tl_guard_no ?_ | refine tl_guard_yes' ?_ | refine tl_guard_no' ?_ | refine tl_guard_undef ?_ | refine tl_guard_split (fun _ => ?_) (fun _ => ?_) | fail)
      | (refine op_call ((trunc _ _).mono ?_); rintro _ _ ⟨⟨r, rfl, hr⟩, rfl⟩)
      | (refine op_call ((abs _ _).mono ?_); rintro _ _ ⟨rfl, rfl⟩)
    all_goals first
      | exact ret_tmp (hk := ⟨⟨false, rfl, fun h => by cases h⟩, rfl⟩)
      | skip
    refine at_loopK (j + 1) ⟨hlt, ?_⟩ (by omega) ⟨next_nat (by omega), trivial⟩ (by repeat (first | exact trivial | refine ⟨rfl, ?_⟩)) (by (repeat (first | exact List.Sublist.refl _ | apply List.Sublist.cons_cons | apply List.Sublist.cons | refine List.Sublist.trans ?_ (List.sublist_append_right _ _))))
    intro y hy
    rw [List.take_add_one, hget] at hy
    simp only [Option.toList_some, List.mem_append, List.mem_singleton] at hy
    rcases hy with hy | rfl
    · exact hg y hy
    · exact whole_abs hM hMb hr (by assumption) (by assumption)
  · have hb : icmp .lss (j : Int) (xs.length : Int) = false := by rw [lss_nat]; simpa using hlt
    repeat' first
      | refine tc_seq ?_ | refine tc_region ?_ | refine at_seq_normal ?_ | refine tl_nil ?_ | refine tl_cons ?_ | refine op_move ?_ | refine op_assign ?_ | refine op_load ?_ | refine op_load_agg ?_ | refine op_indexC ?_
      | refine op_indexAddr1 ?_ | refine op_indexAddr ?_ | refine op_icmp ?_ | refine op_fcmp ?_ | refine op_iarith ?_ | refine op_len_slice ?_ | refine op_pick_true ?_ | refine op_pick_false ?_ | refine op_pick_true' ?_ | refine op_pick_false' ?_
      | refine op_loadK rfl ?_ | refine op_load_aggK rfl ?_ | refine tc_cond_t ?_ | refine tc_cond_f ?_ | refine tc_cond (fun _ => ?_) (fun _ => ?_) | refine tc_block ?_ | refine tc_skip ?_ | refine tc_ret ?_ | refine tc_exit ?_ | refine at_seq_ret ?_
      | refine at_seq_exit ?_ | refine at_block_normal ?_ | refine at_block_ret ?_ | refine at_block_exit_self ?_ | refine at_block_exit_ne ?_ | refine at_loop_ret ?_ | refine at_loop_exit ?_ | refine tl_guard_yes ?_ | refine tl_guard_no ?_ | refine tl_guard_yes' ?_
      | refine tl_guard_no' ?_ | refine tl_guard_undef ?_ | refine tl_guard_split (fun _ => ?_) (fun _ => ?_)
    rw [List.take_of_length_le (by omega)] at hg
    exact ret_tmp (hk := ⟨⟨true, rfl, fun _ => hg⟩, rfl⟩)
/-- Pairs, cell by cell. -/
def pairs : List (Nat × Nat) → List Nat
  | [] => []
  | (x, y) :: ps => x :: y :: pairs ps
theorem pairs_len : ∀ ps, (pairs ps).length = 2 * ps.length
  | [] => rfl
  | (x, y) :: ps => by simp [pairs, pairs_len ps]; omega
theorem pairs_app : ∀ ps qs, pairs (ps ++ qs) = pairs ps ++ pairs qs
  | [], qs => rfl
  | (x, y) :: ps, qs => by simp [pairs, pairs_app ps qs]
theorem pairs_cut : ∀ (ps : List (Nat × Nat)) (j : Nat) (x y : Nat), ps[j]? = some (x, y) → (((pairs ps).map fl).drop (0 + j * 2)).take 2 = [.float .f64 x, .float .f64 y]
  | [], j, x, y, h => by cases h
  | (a, b) :: ps, 0, x, y, h => by simp at h; obtain ⟨rfl, rfl⟩ := h; rfl
  | (a, b) :: ps, j + 1, x, y, h => by
    have := pairs_cut ps j x y (by simpa using h)
    rw [show 0 + (j + 1) * 2 = (0 + j * 2) + 2 by omega]
    simpa [pairs] using this
theorem planeTo (k : Nat) (ps : List (Nat × Nat)) (T : TypeId) (fz : Nat × Nat) (cap : Nat) (most M : Nat) (H : Heap) (hM : Fv most (M : Rat)) (hMb : M ≤ 9007199254740992) (hl : ps.length < 2 ^ 62) (hx : ∀ p ∈ ps, p.1 < 18446744073709551616 ∧ p.2 < 18446744073709551616) (hm : (k, Obj.cells ⟨(pairs ps).map fl⟩ T fz) ∈ H) :
    Does Try.prog 10 [.float .f64 most, .slice (some ⟨k, 0, none⟩) ps.length cap] H fun u H' => (∃ b, u = .bool b ∧ (b = true → ∀ p ∈ ps, Wh M p.1 ∧ Wh M p.2)) ∧ ∃ ex, H' = ex ++ H := by
  refine fn_enter 22 Try.func10 fun W => ?_
  repeat' first
    | refine tc_seq ?_ | refine tc_region ?_ | refine at_seq_normal ?_ | refine tl_nil ?_ | refine tl_cons ?_ | refine tl_cons_none ?_ | refine op_move ?_ | refine op_assign ?_ | refine op_fieldAddr ?_ | refine op_load ?_
    | refine op_load_agg ?_ | refine op_indexC ?_ | refine op_indexAddr1 ?_ | refine op_indexAddr ?_ | refine op_icmp ?_ | refine op_iarith ?_ | refine op_unop_not ?_ | refine op_len_slice ?_ | (refine op_alloc ?_; intro _) | (refine op_buildSlice ?_; intro _)
    | refine op_store0 ?_ | refine op_store1 ?_ | refine op_store2 ?_ | refine op_store3 ?_ | refine op_store4 ?_ | refine op_store5 ?_ | refine op_storeK rfl ?_ | refine op_loadK rfl ?_ | refine op_load_aggK rfl ?_ | refine tc_cond_t ?_
    | refine tc_cond_f ?_ | refine tc_cond (fun _ => ?_) (fun _ => ?_) | refine tc_block ?_ | refine tc_skip ?_ | refine tc_ret ?_ | refine tc_exit ?_ | refine at_seq_ret ?_ | refine at_seq_exit ?_ | refine at_block_normal ?_ | refine at_block_ret ?_
    | refine at_block_exit_self ?_ | refine at_block_exit_ne ?_ | refine at_loop_ret ?_ | refine at_loop_exit ?_
  refine tc_loopH [(0, _), (7, _), (8, _)] (by repeat (first | exact trivial | refine ⟨rfl, ?_⟩)) (fun j : Nat => [(9, .int .i64 (j : Int))]) (fun j => j ≤ ps.length ∧ ∀ p ∈ ps.take j, Wh M p.1 ∧ Wh M p.2) (fun j => ps.length - j) 0 ⟨Nat.zero_le _, by simp⟩ ⟨rfl, trivial⟩ ?_
  rintro j ⟨hj, hg⟩
  by_cases hlt : j < ps.length
  · have hb : icmp .lss (j : Int) (ps.length : Int) = true := by rw [lss_nat]; simpa using hlt
    have hget : ps[j]? = some ps[j] := List.getElem?_eq_getElem hlt
    have hxb := hx _ (List.getElem_mem hlt)
    generalize ps[j] = p at *
    obtain ⟨x, y⟩ := p
    have hcut := pairs_cut ps j x y hget
    repeat' first
      | (first | refine tc_seq ?_ | refine tc_region ?_ | refine at_seq_normal ?_ | refine tl_nil ?_ | refine tl_cons ?_ | refine tl_cons_none ?_ | refine op_move ?_ | refine op_assign ?_ | refine op_fieldAddr ?_ | refine op_load ?_ | refine op_load_agg ?_ | refine op_indexC ?_ | refine op_indexAddr1 ?_ | refine op_indexAddr ?_ | refine op_icmp ?_ | refine op_iarith ?_ | refine op_unop_not ?_ | refine op_len_slice ?_ | (refine op_alloc ?_; intro _) | (refine op_buildSlice ?_; intro _) | refine op_store0 ?_ | refine op_store1 ?_ | refine op_store2 ?_ | refine op_store3 ?_ | refine op_store4 ?_ | refine op_store5 ?_ | refine op_storeK rfl ?_ | refine op_loadK rfl ?_ | refine op_load_aggK rfl ?_ | refine tc_cond_t ?_ | refine tc_cond_f ?_ | refine tc_cond (fun _ => ?_) (fun _ => ?_) | refine tc_block ?_ | refine tc_skip ?_ | refine tc_ret ?_ | refine tc_exit ?_ | refine at_seq_ret ?_ | refine at_seq_exit ?_ | refine at_block_normal ?_ | refine at_block_ret ?_ | refine at_block_exit_self ?_ | refine at_block_exit_ne ?_ | refine at_loop_ret ?_ | refine at_loop_exit ?_ | fail)
      | (refine op_call ((wholeTo _ [x, y] most M _ hM hMb (by simp) (by intro z hz; simp only [List.mem_cons, List.not_mem_nil, or_false] at hz; rcases hz with rfl | rfl; exact hxb.1; exact hxb.2) (fs_new [x, y] List.mem_cons_self)).mono ?_); rintro _ _ ⟨⟨b, rfl, hb'⟩, rfl⟩)
    all_goals first
      | exact ret_tmp (hG := List.Sublist.refl _) (hk := ⟨⟨false, rfl, fun h => by cases h⟩, ⟨[_, _], rfl⟩⟩)
      | skip
    rename_i h1
    refine at_loopK (j + 1) ⟨hlt, ?_⟩ (by omega) ⟨next_nat (by omega), trivial⟩ (by repeat (first | exact trivial | refine ⟨rfl, ?_⟩)) (by (repeat (first | exact List.Sublist.refl _ | apply List.Sublist.cons_cons | apply List.Sublist.cons | refine List.Sublist.trans ?_ (List.sublist_append_right _ _))))
    intro z hz
    rw [List.take_add_one, hget] at hz
    simp only [Option.toList_some, List.mem_append, List.mem_singleton] at hz
    rcases hz with hz | rfl
    · exact hg z hz
    · have := hb' (by simpa using h1)
      exact ⟨this x (by simp), this y (by simp)⟩
  · have hb : icmp .lss (j : Int) (ps.length : Int) = false := by rw [lss_nat]; simpa using hlt
    repeat' first
      | refine tc_seq ?_ | refine tc_region ?_ | refine at_seq_normal ?_ | refine tl_nil ?_ | refine tl_cons ?_ | refine tl_cons_none ?_ | refine op_move ?_ | refine op_assign ?_ | refine op_fieldAddr ?_ | refine op_load ?_
      | refine op_load_agg ?_ | refine op_indexC ?_ | refine op_indexAddr1 ?_ | refine op_indexAddr ?_ | refine op_icmp ?_ | refine op_iarith ?_ | refine op_unop_not ?_ | refine op_len_slice ?_ | (refine op_alloc ?_; intro _) | (refine op_buildSlice ?_; intro _)
      | refine op_store0 ?_ | refine op_store1 ?_ | refine op_store2 ?_ | refine op_store3 ?_ | refine op_store4 ?_ | refine op_store5 ?_ | refine op_storeK rfl ?_ | refine op_loadK rfl ?_ | refine op_load_aggK rfl ?_ | refine tc_cond_t ?_
      | refine tc_cond_f ?_ | refine tc_cond (fun _ => ?_) (fun _ => ?_) | refine tc_block ?_ | refine tc_skip ?_ | refine tc_ret ?_ | refine tc_exit ?_ | refine at_seq_ret ?_ | refine at_seq_exit ?_ | refine at_block_normal ?_ | refine at_block_ret ?_
      | refine at_block_exit_self ?_ | refine at_block_exit_ne ?_ | refine at_loop_ret ?_ | refine at_loop_exit ?_
    rw [List.take_of_length_le (by omega)] at hg
    exact ret_tmp (hk := ⟨⟨true, rfl, fun _ => hg⟩, ⟨[], rfl⟩⟩)
theorem coord (x y : Nat) (H : Heap) : Does Try.prog 28 [.agg ⟨[.float .f64 x, .float .f64 y]⟩] H
    fun v H' => ∃ k, v = .slice (some ⟨k, 0, none⟩) 2 2 ∧ H' = (k, .cells ⟨[.float .f64 x, .float .f64 y]⟩ 36 (0, 0)) :: H := by
  refine fn_enter 8 Try.func28 fun W => ?_
  repeat' first
    | refine tc_seq ?_ | refine tc_region ?_ | refine at_seq_normal ?_ | refine tl_nil ?_ | refine tl_cons ?_ | refine op_assign ?_ | refine op_fieldAddr ?_ | refine op_load ?_ | refine op_load_agg ?_ | (refine op_box ?_; intro _)
    | (refine op_buildSlice ?_; intro _) | refine op_loadK rfl ?_ | refine op_load_aggK rfl ?_ | refine tc_ret ?_ | refine at_seq_ret ?_
  first | exact ret_tmp (hk := ⟨_, rfl, rfl⟩) | exact ret_cell (hr := rfl) (hk := ⟨_, rfl, rfl⟩) | exact ret_agg (hr := rfl) (hk := ⟨_, rfl, rfl⟩)
end Go.Proofs.Ythafjfgmbmpfoaa.Pl
