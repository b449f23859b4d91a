/-
  The test of whole places, exactly; the rows of places. No conditions.
-/
import Derived.Test.YthafjfgmbmpfoaaPl
import Derived.Test.YthafjfgmbmpfoaaLg30
set_option linter.unusedVariables false
set_option linter.unusedSimpArgs false
namespace Go.Proofs.Ythafjfgmbmpfoaa.Pl
open Go.Lg Ieee

def tw (x : Nat) : Nat := Ieee.double.write ((Ieee.double.read x).integral .zero)
theorem neq_tw {x r : Nat} (h : TruncR x r) : fcmp .neq x r = fcmp .neq x (tw x) := by
  rcases h with ⟨h1, h2⟩ | ⟨h1, rfl⟩
  · cases hd : double.read x with
    | nan s t => simp [fcmp_def, fcmp0, Format.order, hd, Datum.order]
    | number => rw [hd] at h1; cases h1
    | infinity => rw [hd] at h1; cases h1
  · rfl
theorem neq_nan {x y : Nat} (h : (double.read x).isNaN = true) : fcmp .neq x y = true := by
  cases hd : double.read x with
  | nan s t => simp [fcmp_def, fcmp0, Format.order, hd, Datum.order]
  | number => rw [hd] at h; cases h
  | infinity => rw [hd] at h; cases h
/-- The test of one number. -/
noncomputable def wB (most x : Nat) : Bool := !(fcmp .neq x (tw x)) && !(fcmp .gtr (x % 9223372036854775808) most)
theorem wB_wh {most M x : Nat} (hM : Fv most (M : Rat)) (hMb : M ≤ 9007199254740992) (h : wB most x = true) : Wh M x := by
  unfold wB at h
  simp only [Bool.and_eq_true, Bool.not_eq_true'] at h
  by_cases hn : (double.read x).isNaN = true
  · rw [neq_nan hn] at h; exact (by simp at h)
  · exact whole_abs hM hMb (.inr ⟨by simpa using hn, rfl⟩) h.1 h.2
theorem all_no {α : Type} {p : α → Bool} {l : List α} {j : Nat} {x : α} (h : l[j]? = some x) (hp : p x = false) : l.all p = false := by
  rw [List.all_eq_false]
  exact ⟨x, List.mem_of_getElem? h, by simp [hp]⟩
theorem all_snoc {α : Type} {p : α → Bool} {l : List α} {j : Nat} {x : α} (h : l[j]? = some x) (hp : p x = true) (hl : ∀ y ∈ l.take j, p y = true) : ∀ y ∈ l.take (j + 1), p y = true := by
  intro y hy
  rw [List.take_add_one, h] at hy
  simp only [Option.toList_some, List.mem_append, List.mem_singleton] at hy
  rcases hy with hy | rfl
  · exact hl y hy
  · exact hp
theorem wholeToB (v : Value) (xs : List Nat) (most : Nat) (H : Heap) (hl : xs.length < 2 ^ 62) (hv : FS H v xs) :
    Does Try.prog 25 [.float .f64 most, v] H fun u H' => u = .bool (xs.all (wB most)) ∧ H' = H := by
  obtain ⟨a0, cap0, rfl⟩ := hv.val
  refine fn_enter 24 Try.func25 fun W => ?_
  repeat' first
    | refine tc_seq ?_ | refine tc_region ?_ | refine at_seq_normal ?_ | refine tl_nil ?_ | refine tl_cons ?_ | refine op_move ?_ | refine op_assign ?_ | refine op_load ?_ | refine op_load_agg ?_ | refine op_indexC ?_
    | refine op_indexAddr1 ?_ | refine op_indexAddr ?_ | refine op_icmp ?_ | refine op_fcmp ?_ | refine op_iarith ?_ | refine op_len_slice ?_ | refine op_pick_true ?_ | refine op_pick_false ?_ | refine op_pick_true' ?_ | refine op_pick_false' ?_
    | refine op_loadK rfl ?_ | refine op_load_aggK rfl ?_ | refine tc_cond_t ?_ | refine tc_cond_f ?_ | refine tc_cond (fun _ => ?_) (fun _ => ?_) | refine tc_block ?_ | refine tc_skip ?_ | refine tc_ret ?_ | refine tc_exit ?_ | refine at_seq_ret ?_
    | refine at_seq_exit ?_ | refine at_block_normal ?_ | refine at_block_ret ?_ | refine at_block_exit_self ?_ | refine at_block_exit_ne ?_ | refine at_loop_ret ?_ | refine at_loop_exit ?_ | refine tl_guard_yes ?_ | refine tl_guard_no ?_ | refine tl_guard_yes' ?_
    | refine tl_guard_no' ?_ | refine tl_guard_undef ?_ | refine tl_guard_split (fun _ => ?_) (fun _ => ?_)
  refine tc_loopH [(0, _), (7, _), (8, _)] (by repeat (first | exact trivial | refine ⟨rfl, ?_⟩)) (fun j : Nat => [(9, .int .i64 (j : Int))]) (fun j => j ≤ xs.length ∧ ∀ x ∈ xs.take j, wB most x = true) (fun j => xs.length - j) 0 ⟨Nat.zero_le _, by simp⟩ ⟨rfl, trivial⟩ ?_
  rintro j ⟨hj, hg⟩
  by_cases hlt : j < xs.length
  · have hb : icmp .lss (j : Int) (xs.length : Int) = true := by rw [lss_nat]; simpa using hlt
    have hget : xs[j]? = some xs[j] := List.getElem?_eq_getElem hlt
    obtain ⟨k, off, l, T, fz, cap, he, hm, hl', hlt'⟩ := hv.at hget
    cases he
    generalize xs[j] = x at *
    by_cases e1 : fcmp .neq x (tw x) = true
    · repeat' first
        | (refine op_fcmp ?_; rw [neq_tw hr, e1])
        | (first | refine tc_seq ?_ | refine tc_region ?_ | refine at_seq_normal ?_ | refine tl_nil ?_ | refine tl_cons ?_ | refine op_move ?_ | refine op_assign ?_ | refine op_load ?_ | refine op_load_agg ?_ | refine op_indexC ?_ | refine op_indexAddr1 ?_ | refine op_indexAddr ?_ | refine op_icmp ?_ | refine op_fcmp ?_ | refine op_iarith ?_ | refine op_len_slice ?_ | refine op_pick_true ?_ | refine op_pick_false ?_ | refine op_pick_true' ?_ | refine op_pick_false' ?_ | refine op_loadK rfl ?_ | refine op_load_aggK rfl ?_ | refine tc_cond_t ?_ | refine tc_cond_f ?_ | refine tc_block ?_ | refine tc_skip ?_ | refine tc_ret ?_ | refine tc_exit ?_ | refine at_seq_ret ?_ | refine at_seq_exit ?_ | refine at_block_normal ?_ | refine at_block_ret ?_ | refine at_block_exit_self ?_ | refine at_block_exit_ne ?_ | refine at_loop_ret ?_ | refine at_loop_exit ?_ | refine tl_guard_yes ?_ | refine tl_guard_no ?_ | refine tl_guard_yes' ?_ | refine tl_guard_no' ?_ | refine tl_guard_undef ?_ | fail)
        | (refine op_call ((trunc _ _).mono ?_); rintro _ _ ⟨⟨r, rfl, hr⟩, rfl⟩)
        | (refine op_call ((abs _ _).mono ?_); rintro _ _ ⟨rfl, rfl⟩)
        | fail
      exact ret_tmp (hk := ⟨congrArg Value.bool (all_no hget (by unfold wB; rw [e1]; rfl)).symm, rfl⟩)
    · have e1 : fcmp .neq x (tw x) = false := by simpa using e1
      by_cases e2 : fcmp .gtr (x % 9223372036854775808) most = true
      · repeat' first
          | (refine op_fcmp ?_; rw [neq_tw hr, e1])
          | (first | refine tc_seq ?_ | refine tc_region ?_ | refine at_seq_normal ?_ | refine tl_nil ?_ | refine tl_cons ?_ | refine op_move ?_ | refine op_assign ?_ | refine op_load ?_ | refine op_load_agg ?_ | refine op_indexC ?_ | refine op_indexAddr1 ?_ | refine op_indexAddr ?_ | refine op_icmp ?_ | refine op_fcmp ?_ | refine op_iarith ?_ | refine op_len_slice ?_ | refine op_pick_true ?_ | refine op_pick_false ?_ | refine op_pick_true' ?_ | refine op_pick_false' ?_ | refine op_loadK rfl ?_ | refine op_load_aggK rfl ?_ | refine tc_cond_t ?_ | refine tc_cond_f ?_ | refine tc_block ?_ | refine tc_skip ?_ | refine tc_ret ?_ | refine tc_exit ?_ | refine at_seq_ret ?_ | refine at_seq_exit ?_ | refine at_block_normal ?_ | refine at_block_ret ?_ | refine at_block_exit_self ?_ | refine at_block_exit_ne ?_ | refine at_loop_ret ?_ | refine at_loop_exit ?_ | refine tl_guard_yes ?_ | refine tl_guard_no ?_ | refine tl_guard_yes' ?_ | refine tl_guard_no' ?_ | refine tl_guard_undef ?_ | fail)
          | (refine op_call ((trunc _ _).mono ?_); rintro _ _ ⟨⟨r, rfl, hr⟩, rfl⟩)
          | (refine op_call ((abs _ _).mono ?_); rintro _ _ ⟨rfl, rfl⟩)
          | fail
        exact ret_tmp (hk := ⟨congrArg Value.bool (all_no hget (by unfold wB; rw [e1, e2]; rfl)).symm, rfl⟩)
      · have e2 : fcmp .gtr (x % 9223372036854775808) most = false := by simpa using e2
        repeat' first
          | (refine op_fcmp ?_; rw [neq_tw hr, e1])
          | (first | refine tc_seq ?_ | refine tc_region ?_ | refine at_seq_normal ?_ | refine tl_nil ?_ | refine tl_cons ?_ | refine op_move ?_ | refine op_assign ?_ | refine op_load ?_ | refine op_load_agg ?_ | refine op_indexC ?_ | refine op_indexAddr1 ?_ | refine op_indexAddr ?_ | refine op_icmp ?_ | refine op_fcmp ?_ | refine op_iarith ?_ | refine op_len_slice ?_ | refine op_pick_true ?_ | refine op_pick_false ?_ | refine op_pick_true' ?_ | refine op_pick_false' ?_ | refine op_loadK rfl ?_ | refine op_load_aggK rfl ?_ | refine tc_cond_t ?_ | refine tc_cond_f ?_ | refine tc_block ?_ | refine tc_skip ?_ | refine tc_ret ?_ | refine tc_exit ?_ | refine at_seq_ret ?_ | refine at_seq_exit ?_ | refine at_block_normal ?_ | refine at_block_ret ?_ | refine at_block_exit_self ?_ | refine at_block_exit_ne ?_ | refine at_loop_ret ?_ | refine at_loop_exit ?_ | refine tl_guard_yes ?_ | refine tl_guard_no ?_ | refine tl_guard_yes' ?_ | refine tl_guard_no' ?_ | refine tl_guard_undef ?_ | fail)
          | (refine op_call ((trunc _ _).mono ?_); rintro _ _ ⟨⟨r, rfl, hr⟩, rfl⟩)
          | (refine op_call ((abs _ _).mono ?_); rintro _ _ ⟨rfl, rfl⟩)
          | fail
        exact at_loopK (j + 1) ⟨hlt, all_snoc hget (by unfold wB; rw [e1, e2]; rfl) hg⟩ (by omega) ⟨next_nat (by omega), trivial⟩ (by repeat (first | exact trivial | refine ⟨rfl, ?_⟩)) (by (repeat (first | exact List.Sublist.refl _ | apply List.Sublist.cons_cons | apply List.Sublist.cons | refine List.Sublist.trans ?_ (List.sublist_append_right _ _))))
  · have hb : icmp .lss (j : Int) (xs.length : Int) = false := by rw [lss_nat]; simpa using hlt
    repeat' first
      | refine tc_seq ?_ | refine tc_region ?_ | refine at_seq_normal ?_ | refine tl_nil ?_ | refine tl_cons ?_ | refine op_move ?_ | refine op_assign ?_ | refine op_load ?_ | refine op_load_agg ?_ | refine op_indexC ?_
      | refine op_indexAddr1 ?_ | refine op_indexAddr ?_ | refine op_icmp ?_ | refine op_fcmp ?_ | refine op_iarith ?_ | refine op_len_slice ?_ | refine op_pick_true ?_ | refine op_pick_false ?_ | refine op_pick_true' ?_ | refine op_pick_false' ?_
      | refine op_loadK rfl ?_ | refine op_load_aggK rfl ?_ | refine tc_cond_t ?_ | refine tc_cond_f ?_ | refine tc_cond (fun _ => ?_) (fun _ => ?_) | refine tc_block ?_ | refine tc_skip ?_ | refine tc_ret ?_ | refine tc_exit ?_ | refine at_seq_ret ?_
      | refine at_seq_exit ?_ | refine at_block_normal ?_ | refine at_block_ret ?_ | refine at_block_exit_self ?_ | refine at_block_exit_ne ?_ | refine at_loop_ret ?_ | refine at_loop_exit ?_ | refine tl_guard_yes ?_ | refine tl_guard_no ?_ | refine tl_guard_yes' ?_
      | refine tl_guard_no' ?_ | refine tl_guard_undef ?_ | refine tl_guard_split (fun _ => ?_) (fun _ => ?_)
    rw [List.take_of_length_le (by omega)] at hg
    exact ret_tmp (hk := ⟨congrArg Value.bool (List.all_eq_true.2 hg).symm, rfl⟩)
noncomputable def pB (most : Nat) (p : Nat × Nat) : Bool := wB most p.1 && wB most p.2
theorem pB_wh {most M : Nat} {p : Nat × Nat} (hM : Fv most (M : Rat)) (hMb : M ≤ 9007199254740992) (h : pB most p = true) : Wh M p.1 ∧ Wh M p.2 := by
  unfold pB at h
  simp only [Bool.and_eq_true] at h
  exact ⟨wB_wh hM hMb h.1, wB_wh hM hMb h.2⟩
theorem SlN.cutPairs {G v n} {ps : List (Nat × Nat)} (h : SlN 2 G v n ((pairs ps).map fl)) {j : Nat} {x y : Nat} (hj : ps[j]? = some (x, y)) :
    ∃ k off l T fz cap, v = .slice (some ⟨k, off, none⟩) n cap ∧ (k, Obj.cells ⟨l⟩ T fz) ∈ G ∧ (l.drop (off + j * 2)).take 2 = [.float .f64 x, .float .f64 y] := by
  have hlen := h.1
  rw [List.length_map, pairs_len] at hlen
  have hj' := (List.getElem?_eq_some_iff.1 hj).1
  obtain ⟨k, off, l, T, fz, cap, h1, h2, h3⟩ := h.at (j := j) (by omega)
  refine ⟨k, off, l, T, fz, cap, h1, h2, h3.trans ?_⟩
  have := pairs_cut ps j x y hj
  rwa [Nat.zero_add] at this
theorem planeToB (v : Value) (ps : List (Nat × Nat)) (most : Nat) (H : Heap) (hl : ps.length < 2 ^ 62) (hv : SlN 2 H v ps.length ((pairs ps).map fl)) :
    Does Try.prog 10 [.float .f64 most, v] H fun u H' => u = .bool (ps.all (pB most)) ∧ ∃ ex, H' = ex ++ H := by
  obtain ⟨a0, cap0, rfl, _⟩ := hv.val
  refine fn_enter 22 Try.func10 fun W => ?_
  repeat' first
    | refine tc_seq ?_ | refine tc_region ?_ | refine at_seq_normal ?_ | refine tl_nil ?_ | refine tl_cons ?_ | refine tl_cons_none ?_ | refine op_move ?_ | refine op_assign ?_ | refine op_fieldAddr ?_ | refine op_load ?_
    | refine op_load_agg ?_ | refine op_indexC ?_ | refine op_indexAddr1 ?_ | refine op_indexAddr ?_ | refine op_icmp ?_ | refine op_iarith ?_ | refine op_unop_not ?_ | refine op_len_slice ?_ | (refine op_alloc ?_; intro _) | (refine op_buildSlice ?_; intro _)
    | refine op_store0 ?_ | refine op_store1 ?_ | refine op_store2 ?_ | refine op_store3 ?_ | refine op_store4 ?_ | refine op_store5 ?_ | refine op_storeK rfl ?_ | refine op_loadK rfl ?_ | refine op_load_aggK rfl ?_ | refine tc_cond_t ?_
    | refine tc_cond_f ?_ | refine tc_cond (fun _ => ?_) (fun _ => ?_) | refine tc_block ?_ | refine tc_skip ?_ | refine tc_ret ?_ | refine tc_exit ?_ | refine at_seq_ret ?_ | refine at_seq_exit ?_ | refine at_block_normal ?_ | refine at_block_ret ?_
    | refine at_block_exit_self ?_ | refine at_block_exit_ne ?_ | refine at_loop_ret ?_ | refine at_loop_exit ?_
  refine tc_loopH [(0, _), (7, _), (8, _)] (by repeat (first | exact trivial | refine ⟨rfl, ?_⟩)) (fun j : Nat => [(9, .int .i64 (j : Int))]) (fun j => j ≤ ps.length ∧ ∀ p ∈ ps.take j, pB most p = true) (fun j => ps.length - j) 0 ⟨Nat.zero_le _, by simp⟩ ⟨rfl, trivial⟩ ?_
  rintro j ⟨hj, hg⟩
  by_cases hlt : j < ps.length
  · have hb : icmp .lss (j : Int) (ps.length : Int) = true := by rw [lss_nat]; simpa using hlt
    have hget : ps[j]? = some ps[j] := List.getElem?_eq_getElem hlt
    generalize ps[j] = p at *
    obtain ⟨x, y⟩ := p
    obtain ⟨k, off, l, T, fz, cap, he, hm, hcut⟩ := SlN.cutPairs hv hget
    cases he
    by_cases e1 : pB most (x, y) = true
    · have e2 : ([x, y].all (wB most)) = true := by simpa [pB] using e1
      repeat' first
        | (first | refine tc_seq ?_ | refine tc_region ?_ | refine at_seq_normal ?_ | refine tl_nil ?_ | refine tl_cons ?_ | refine tl_cons_none ?_ | refine op_move ?_ | refine op_assign ?_ | refine op_fieldAddr ?_ | refine op_load ?_ | refine op_load_agg ?_ | refine op_indexC ?_ | refine op_indexAddr1 ?_ | refine op_indexAddr ?_ | refine op_icmp ?_ | refine op_iarith ?_ | refine op_unop_not ?_ | refine op_len_slice ?_ | (refine op_alloc ?_; intro _) | (refine op_buildSlice ?_; intro _) | refine op_store0 ?_ | refine op_store1 ?_ | refine op_store2 ?_ | refine op_store3 ?_ | refine op_store4 ?_ | refine op_store5 ?_ | refine op_storeK rfl ?_ | refine op_loadK rfl ?_ | refine op_load_aggK rfl ?_ | refine tc_cond_t ?_ | refine tc_cond_f ?_ | refine tc_block ?_ | refine tc_skip ?_ | refine tc_ret ?_ | refine tc_exit ?_ | refine at_seq_ret ?_ | refine at_seq_exit ?_ | refine at_block_normal ?_ | refine at_block_ret ?_ | refine at_block_exit_self ?_ | refine at_block_exit_ne ?_ | refine at_loop_ret ?_ | refine at_loop_exit ?_ | fail)
        | (refine op_call ((wholeToB _ [x, y] most _ (by simp) (fs_new [x, y] List.mem_cons_self)).mono ?_); rintro _ _ ⟨rfl, rfl⟩; rw [e2])
        | fail
      exact at_loopK (j + 1) ⟨hlt, all_snoc hget e1 hg⟩ (by omega) ⟨next_nat (by omega), trivial⟩ (by repeat (first | exact trivial | refine ⟨rfl, ?_⟩)) (by (repeat (first | exact List.Sublist.refl _ | apply List.Sublist.cons_cons | apply List.Sublist.cons | refine List.Sublist.trans ?_ (List.sublist_append_right _ _))))
    · have e1 : pB most (x, y) = false := by simpa using e1
      have e2 : ([x, y].all (wB most)) = false := by simpa [pB] using e1
      repeat' first
        | (first | refine tc_seq ?_ | refine tc_region ?_ | refine at_seq_normal ?_ | refine tl_nil ?_ | refine tl_cons ?_ | refine tl_cons_none ?_ | refine op_move ?_ | refine op_assign ?_ | refine op_fieldAddr ?_ | refine op_load ?_ | refine op_load_agg ?_ | refine op_indexC ?_ | refine op_indexAddr1 ?_ | refine op_indexAddr ?_ | refine op_icmp ?_ | refine op_iarith ?_ | refine op_unop_not ?_ | refine op_len_slice ?_ | (refine op_alloc ?_; intro _) | (refine op_buildSlice ?_; intro _) | refine op_store0 ?_ | refine op_store1 ?_ | refine op_store2 ?_ | refine op_store3 ?_ | refine op_store4 ?_ | refine op_store5 ?_ | refine op_storeK rfl ?_ | refine op_loadK rfl ?_ | refine op_load_aggK rfl ?_ | refine tc_cond_t ?_ | refine tc_cond_f ?_ | refine tc_block ?_ | refine tc_skip ?_ | refine tc_ret ?_ | refine tc_exit ?_ | refine at_seq_ret ?_ | refine at_seq_exit ?_ | refine at_block_normal ?_ | refine at_block_ret ?_ | refine at_block_exit_self ?_ | refine at_block_exit_ne ?_ | refine at_loop_ret ?_ | refine at_loop_exit ?_ | fail)
        | (refine op_call ((wholeToB _ [x, y] most _ (by simp) (fs_new [x, y] List.mem_cons_self)).mono ?_); rintro _ _ ⟨rfl, rfl⟩; rw [e2])
        | fail
      exact ret_tmp (hG := List.Sublist.refl _) (hk := ⟨congrArg Value.bool (all_no hget e1).symm, ⟨[_, _], rfl⟩⟩)
  · have hb : icmp .lss (j : Int) (ps.length : Int) = false := by rw [lss_nat]; simpa using hlt
    repeat' first
      | refine tc_seq ?_ | refine tc_region ?_ | refine at_seq_normal ?_ | refine tl_nil ?_ | refine tl_cons ?_ | refine tl_cons_none ?_ | refine op_move ?_ | refine op_assign ?_ | refine op_fieldAddr ?_ | refine op_load ?_
      | refine op_load_agg ?_ | refine op_indexC ?_ | refine op_indexAddr1 ?_ | refine op_indexAddr ?_ | refine op_icmp ?_ | refine op_iarith ?_ | refine op_unop_not ?_ | refine op_len_slice ?_ | (refine op_alloc ?_; intro _) | (refine op_buildSlice ?_; intro _)
      | refine op_store0 ?_ | refine op_store1 ?_ | refine op_store2 ?_ | refine op_store3 ?_ | refine op_store4 ?_ | refine op_store5 ?_ | refine op_storeK rfl ?_ | refine op_loadK rfl ?_ | refine op_load_aggK rfl ?_ | refine tc_cond_t ?_
      | refine tc_cond_f ?_ | refine tc_cond (fun _ => ?_) (fun _ => ?_) | refine tc_block ?_ | refine tc_skip ?_ | refine tc_ret ?_ | refine tc_exit ?_ | refine at_seq_ret ?_ | refine at_seq_exit ?_ | refine at_block_normal ?_ | refine at_block_ret ?_
      | refine at_block_exit_self ?_ | refine at_block_exit_ne ?_ | refine at_loop_ret ?_ | refine at_loop_exit ?_
    rw [List.take_of_length_le (by omega)] at hg
    exact ret_tmp (hk := ⟨congrArg Value.bool (List.all_eq_true.2 hg).symm, ⟨[], rfl⟩⟩)
end Go.Proofs.Ythafjfgmbmpfoaa.Pl
