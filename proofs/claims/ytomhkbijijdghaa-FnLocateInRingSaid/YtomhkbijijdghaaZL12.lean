/-
  Whole numbers of any size as lists of 32-bit numbers: what the lists stand for; zeros taken away; comparison. No conditions.
-/
import Derived.Test.YtomhkbijijdghaaZL4
import Derived.Test.YtomhkbijijdghaaZL7
set_option linter.unusedVariables false
set_option linter.unusedSimpArgs false
namespace Go.Proofs.Ytomhkbijijdghaa.Lmb
open Go.Lg

def lv : List Nat → Nat
  | [] => 0
  | x :: xs => x + 4294967296 * lv xs
def Lm (xs : List Nat) : Prop := ∀ x ∈ xs, x < 4294967296
/-- No zero at the end. -/
def Nrm (xs : List Nat) : Prop := xs ≠ [] → xs.getD (xs.length - 1) 0 ≠ 0

theorem lv_app (xs ys : List Nat) : lv (xs ++ ys) = lv xs + 4294967296 ^ xs.length * lv ys := by
  induction xs with
  | nil => simp [lv]
  | cons x xs ih =>
    simp only [List.cons_append, lv, ih, List.length_cons, Nat.pow_succ]
    rw [Nat.mul_add, ← Nat.mul_assoc, Nat.mul_comm 4294967296 (4294967296 ^ xs.length)]; omega
theorem lv_take (xs : List Nat) (i : Nat) : lv (xs.take (i + 1)) = lv (xs.take i) + 4294967296 ^ i * xs.getD i 0 := by
  by_cases h : i < xs.length
  · rw [List.take_add_one, List.getElem?_eq_getElem h, getD_in h, lv_app]
    simp only [Option.toList_some, lv, List.length_take, Nat.min_eq_left (Nat.le_of_lt h)]
    simp
  · rw [List.take_of_length_le (by omega), List.take_of_length_le (by omega), List.getD_eq_getElem?_getD, List.getElem?_eq_none (by omega)]
    simp
theorem lv_lt {xs : List Nat} (h : Lm xs) : lv xs < 4294967296 ^ xs.length := by
  induction xs with
  | nil => simp [lv]
  | cons x xs ih =>
    have h1 := h x (by simp)
    have h2 := ih (fun y hy => h y (by simp [hy]))
    simp only [lv, List.length_cons, Nat.pow_succ]
    have : 4294967296 * (lv xs + 1) ≤ 4294967296 * 4294967296 ^ xs.length := Nat.mul_le_mul_left _ h2
    rw [Nat.mul_add, Nat.mul_comm 4294967296 (4294967296 ^ _)] at this
    omega
theorem getD_lt {xs : List Nat} (h : Lm xs) (i : Nat) : xs.getD i 0 < 4294967296 := by
  by_cases hi : i < xs.length
  · rw [getD_in hi]; exact h _ (List.getElem_mem hi)
  · rw [List.getD_eq_getElem?_getD, List.getElem?_eq_none (by omega)]; decide
theorem lv_ge {xs : List Nat} (hn : Nrm xs) (h : xs ≠ []) : 4294967296 ^ (xs.length - 1) ≤ lv xs := by
  have hpos : 0 < xs.length := List.length_pos_iff.2 h
  have h1 := lv_take xs (xs.length - 1)
  rw [Nat.sub_add_cancel hpos, List.take_of_length_le (Nat.le_refl _)] at h1
  have h2 := hn h
  have : 4294967296 ^ (xs.length - 1) * 1 ≤ 4294967296 ^ (xs.length - 1) * xs.getD (xs.length - 1) 0 := Nat.mul_le_mul_left _ (by omega)
  omega
theorem Lm.take {xs : List Nat} (h : Lm xs) (n : Nat) : Lm (xs.take n) := fun x hx => h x (List.mem_of_mem_take hx)
theorem nrm_zero {xs : List Nat} (hn : Nrm xs) : lv xs = 0 ↔ xs = [] := by
  constructor
  · intro h
    by_cases hx : xs = []
    · exact hx
    · have := lv_ge hn hx
      have := Nat.pow_pos (n := xs.length - 1) (show 0 < 4294967296 by decide)
      omega
  · rintro rfl; rfl

set_option maxHeartbeats 4000000 in
theorem trim (a : Option Addr) (c : Nat) (xs : List Nat) (H : Heap) (hv : US H (.slice a xs.length c) xs) (hb : xs.length < 2 ^ 40) :
    Does Try.prog 127 [.slice a xs.length c] H fun w H' => ∃ n, w = .slice a n c ∧ H' = H ∧ n ≤ xs.length ∧ Nrm (xs.take n) ∧ lv (xs.take n) = lv xs := by
  obtain ⟨_, hcap⟩ := hv.cap
  refine fn_enter 21 Try.func127 fun W => ?_
  repeat' first
    | refine tc_seq ?_ | refine tc_region ?_ | refine at_seq_normal ?_ | refine tl_nil ?_ | refine tl_cons ?_ | refine op_move ?_ | refine op_assign ?_ | refine op_fieldAddr ?_ | refine op_load ?_ | refine op_load_agg ?_
    | refine op_indexC ?_ | refine op_indexAddr1 ?_ | refine op_indexAddr ?_ | refine op_icmp ?_ | refine op_fcmp ?_ | refine op_iarith ?_ | refine op_bcmp ?_ | refine op_unop_not ?_ | refine op_unop_neg_float ?_ | refine op_unop_neg_int ?_
    | refine op_len_slice ?_ | refine op_pick_true ?_ | refine op_pick_false ?_ | refine op_pick_true' ?_ | refine op_pick_false' ?_ | refine op_build ?_ | refine op_extract ?_ | refine op_makeInterface ?_ | refine op_typeAssert ?_ | refine op_ptr_nil ?_
    | refine op_nilCheck_ptr ?_ | refine op_nilCheck_meth ?_ | refine op_makeMeth ?_ | refine op_makeFunc ?_ | refine op_itof ?_ | refine op_itoi ?_ | refine op_ftoi ?_ | refine op_iquo ?_ | refine op_irem ?_ | refine op_ibits ?_
    | refine op_slice_isnil ?_ | refine op_slice_notnil ?_ | refine op_imax ?_ | refine op_imin ?_ | refine op_shl ?_ | refine op_shr ?_ | (refine op_alloc ?_; intro _) | (refine op_box ?_; intro _) | (refine op_buildSlice ?_; intro _) | (refine op_farith ?_; intro _ _)
    | refine op_store0 ?_ | refine op_store1 ?_ | refine op_store2 ?_ | refine op_store3 ?_ | refine op_store4 ?_ | refine op_store5 ?_ | refine op_storeK rfl ?_ | refine op_loadK rfl ?_ | refine op_load_aggK rfl ?_ | refine tc_cond_t ?_
    | refine tc_cond_f ?_ | refine tc_cond (fun _ => ?_) (fun _ => ?_) | refine tc_block ?_ | refine tc_skip ?_ | refine tc_ret ?_ | refine tc_exit ?_ | refine at_seq_ret ?_ | refine at_seq_exit ?_ | refine at_block_normal ?_ | refine at_block_ret ?_
    | refine at_block_exit_self ?_ | refine at_block_exit_ne ?_ | refine at_loop_ret ?_ | refine at_loop_exit ?_ | refine tl_guard_yes ?_ | refine tl_guard_no ?_ | refine tl_guard_yes' ?_ | refine tl_guard_no' ?_ | refine tl_guard_undef ?_ | refine tl_guard_split (fun _ => ?_) (fun _ => ?_)
  refine tc_loopH [(2, _)] (by repeat (first | exact trivial | refine ⟨rfl, ?_⟩)) (fun n : Nat => [(0, .slice a n c)]) (fun n => n ≤ xs.length ∧ lv (xs.take n) = lv xs) (fun n => n) xs.length ⟨Nat.le_refl _, by rw [List.take_of_length_le (Nat.le_refl _)]⟩ ⟨rfl, trivial⟩ ?_
  rintro n ⟨h1, h2⟩
  by_cases hn0 : n = 0
  · have hc : icmp .gtr (n : Int) 0 = false := by simp only [icmp, decide_eq_false_iff_not]; omega
    repeat' first
      | refine tc_seq ?_ | refine tc_region ?_ | refine at_seq_normal ?_ | refine tl_nil ?_ | refine tl_cons ?_ | refine op_move ?_ | refine op_assign ?_ | refine op_fieldAddr ?_ | refine op_load ?_ | refine op_load_agg ?_
      | refine op_indexC ?_ | refine op_indexAddr1 ?_ | refine op_indexAddr ?_ | refine op_icmp ?_ | refine op_fcmp ?_ | refine op_iarith ?_ | refine op_bcmp ?_ | refine op_unop_not ?_ | refine op_unop_neg_float ?_ | refine op_unop_neg_int ?_
      | refine op_len_slice ?_ | refine op_pick_true ?_ | refine op_pick_false ?_ | refine op_pick_true' ?_ | refine op_pick_false' ?_ | refine op_build ?_ | refine op_extract ?_ | refine op_makeInterface ?_ | refine op_typeAssert ?_ | refine op_ptr_nil ?_
      | refine op_nilCheck_ptr ?_ | refine op_nilCheck_meth ?_ | refine op_makeMeth ?_ | refine op_makeFunc ?_ | refine op_itof ?_ | refine op_itoi ?_ | refine op_ftoi ?_ | refine op_iquo ?_ | refine op_irem ?_ | refine op_ibits ?_
      | refine op_slice_isnil ?_ | refine op_slice_notnil ?_ | refine op_imax ?_ | refine op_imin ?_ | refine op_shl ?_ | refine op_shr ?_ | (refine op_alloc ?_; intro _) | (refine op_box ?_; intro _) | (refine op_buildSlice ?_; intro _) | (refine op_farith ?_; intro _ _)
      | refine op_store0 ?_ | refine op_store1 ?_ | refine op_store2 ?_ | refine op_store3 ?_ | refine op_store4 ?_ | refine op_store5 ?_ | refine op_storeK rfl ?_ | refine op_loadK rfl ?_ | refine op_load_aggK rfl ?_ | refine tc_cond_t ?_
      | refine tc_cond_f ?_ | refine tc_cond (fun _ => ?_) (fun _ => ?_) | refine tc_block ?_ | refine tc_skip ?_ | refine tc_ret ?_ | refine tc_exit ?_ | refine at_seq_ret ?_ | refine at_seq_exit ?_ | refine at_block_normal ?_ | refine at_block_ret ?_
      | refine at_block_exit_self ?_ | refine at_block_exit_ne ?_ | refine at_loop_ret ?_ | refine at_loop_exit ?_ | refine tl_guard_yes ?_ | refine tl_guard_no ?_ | refine tl_guard_yes' ?_ | refine tl_guard_no' ?_ | refine tl_guard_undef ?_ | refine tl_guard_split (fun _ => ?_) (fun _ => ?_)
    exact ret_tmp (hk := ⟨n, rfl, rfl, h1, fun h => by subst hn0; simp at h, h2⟩)
  have hc : icmp .gtr (n : Int) 0 = true := by simp only [icmp, decide_eq_true_eq]; omega
  obtain ⟨m, rfl⟩ : ∃ m, n = m + 1 := ⟨n - 1, by omega⟩
  obtain ⟨k, off, L, T, fz, rfl, hm, hall⟩ := us_block hv (fun e => by subst e; simp at h1)
  have hl := hall m (by omega)
  have hw1 : IntKind.i64.wrap (iarith .sub ((m + 1 : Nat) : Int) 1) = ((m : Nat) : Int) := by rw [wrap_sub (by omega) (by omega)]; omega
  by_cases hz : xs.getD m 0 = 0
  · have hce : icmp .eql ((xs.getD m 0 : Nat) : Int) 0 = true := by rw [hz]; rfl
    have hlv : lv (xs.take m) = lv xs := by rw [← h2, lv_take, hz, Nat.mul_zero, Nat.add_zero]
    generalize xs.getD m 0 = x at *
    repeat' first
      | refine op_indexAddr1 (j := m) ?_ (hy := gete (by exact rfl) hw1) (hj := by omega)
      | (refine op_slice_h (h := m) ?_ (hz := gete (by exact rfl) hw1); rw [slAt_zero (by omega)])
      | (first | refine tc_seq ?_ | refine tc_region ?_ | refine at_seq_normal ?_ | refine tl_nil ?_ | refine tl_cons ?_ | refine op_move ?_ | refine op_assign ?_ | refine op_fieldAddr ?_ | refine op_load ?_ | refine op_load_agg ?_ | refine op_indexC ?_ | refine op_indexAddr1 ?_ | refine op_indexAddr ?_ | refine op_icmp ?_ | refine op_fcmp ?_ | refine op_iarith ?_ | refine op_bcmp ?_ | refine op_unop_not ?_ | refine op_unop_neg_float ?_ | refine op_unop_neg_int ?_ | refine op_len_slice ?_ | refine op_pick_true ?_ | refine op_pick_false ?_ | refine op_pick_true' ?_ | refine op_pick_false' ?_ | refine op_build ?_ | refine op_extract ?_ | refine op_makeInterface ?_ | refine op_typeAssert ?_ | refine op_ptr_nil ?_ | refine op_nilCheck_ptr ?_ | refine op_nilCheck_meth ?_ | refine op_makeMeth ?_ | refine op_makeFunc ?_ | refine op_itof ?_ | refine op_itoi ?_ | refine op_ftoi ?_ | refine op_iquo ?_ | refine op_irem ?_ | refine op_ibits ?_ | refine op_slice_isnil ?_ | refine op_slice_notnil ?_ | refine op_imax ?_ | refine op_imin ?_ | refine op_shl ?_ | refine op_shr ?_ | (refine op_alloc ?_; intro _) | (refine op_box ?_; intro _) | (refine op_buildSlice ?_; intro _) | (refine op_farith ?_; intro _ _) | refine op_store0 ?_ | refine op_store1 ?_ | refine op_store2 ?_ | refine op_store3 ?_ | refine op_store4 ?_ | refine op_store5 ?_ | refine op_storeK rfl ?_ | refine op_loadK rfl ?_ | refine op_load_aggK rfl ?_ | refine tc_cond_t ?_ | refine tc_cond_f ?_ | refine tc_cond (fun _ => ?_) (fun _ => ?_) | refine tc_block ?_ | refine tc_skip ?_ | refine tc_ret ?_ | refine tc_exit ?_ | refine at_seq_ret ?_ | refine at_seq_exit ?_ | refine at_block_normal ?_ | refine at_block_ret ?_ | refine at_block_exit_self ?_ | refine at_block_exit_ne ?_ | refine at_loop_ret ?_ | refine at_loop_exit ?_ | refine tl_guard_yes ?_ | refine tl_guard_no ?_ | refine tl_guard_yes' ?_ | refine tl_guard_no' ?_ | refine tl_guard_undef ?_ | refine tl_guard_split (fun _ => ?_) (fun _ => ?_) | fail)
      | fail
    exact at_loopK m ⟨by omega, hlv⟩ (by omega) ⟨rfl, trivial⟩ (by repeat (first | exact trivial | refine ⟨rfl, ?_⟩)) (List.Sublist.refl _)
  · have hce : icmp .eql ((xs.getD m 0 : Nat) : Int) 0 = false := by simp only [icmp, beq_eq_false_iff_ne]; omega
    have hN : Nrm (xs.take (m + 1)) := fun _ => by
      rw [List.length_take, Nat.min_eq_left h1, Nat.add_sub_cancel, List.getD_eq_getElem?_getD, List.getElem?_take, if_pos (by omega), ← List.getD_eq_getElem?_getD]; exact hz
    generalize xs.getD m 0 = x at *
    repeat' first
      | refine op_indexAddr1 (j := m) ?_ (hy := gete (by exact rfl) hw1) (hj := by omega)
      | (first | refine tc_seq ?_ | refine tc_region ?_ | refine at_seq_normal ?_ | refine tl_nil ?_ | refine tl_cons ?_ | refine op_move ?_ | refine op_assign ?_ | refine op_fieldAddr ?_ | refine op_load ?_ | refine op_load_agg ?_ | refine op_indexC ?_ | refine op_indexAddr1 ?_ | refine op_indexAddr ?_ | refine op_icmp ?_ | refine op_fcmp ?_ | refine op_iarith ?_ | refine op_bcmp ?_ | refine op_unop_not ?_ | refine op_unop_neg_float ?_ | refine op_unop_neg_int ?_ | refine op_len_slice ?_ | refine op_pick_true ?_ | refine op_pick_false ?_ | refine op_pick_true' ?_ | refine op_pick_false' ?_ | refine op_build ?_ | refine op_extract ?_ | refine op_makeInterface ?_ | refine op_typeAssert ?_ | refine op_ptr_nil ?_ | refine op_nilCheck_ptr ?_ | refine op_nilCheck_meth ?_ | refine op_makeMeth ?_ | refine op_makeFunc ?_ | refine op_itof ?_ | refine op_itoi ?_ | refine op_ftoi ?_ | refine op_iquo ?_ | refine op_irem ?_ | refine op_ibits ?_ | refine op_slice_isnil ?_ | refine op_slice_notnil ?_ | refine op_imax ?_ | refine op_imin ?_ | refine op_shl ?_ | refine op_shr ?_ | (refine op_alloc ?_; intro _) | (refine op_box ?_; intro _) | (refine op_buildSlice ?_; intro _) | (refine op_farith ?_; intro _ _) | refine op_store0 ?_ | refine op_store1 ?_ | refine op_store2 ?_ | refine op_store3 ?_ | refine op_store4 ?_ | refine op_store5 ?_ | refine op_storeK rfl ?_ | refine op_loadK rfl ?_ | refine op_load_aggK rfl ?_ | refine tc_cond_t ?_ | refine tc_cond_f ?_ | refine tc_cond (fun _ => ?_) (fun _ => ?_) | refine tc_block ?_ | refine tc_skip ?_ | refine tc_ret ?_ | refine tc_exit ?_ | refine at_seq_ret ?_ | refine at_seq_exit ?_ | refine at_block_normal ?_ | refine at_block_ret ?_ | refine at_block_exit_self ?_ | refine at_block_exit_ne ?_ | refine at_loop_ret ?_ | refine at_loop_exit ?_ | refine tl_guard_yes ?_ | refine tl_guard_no ?_ | refine tl_guard_yes' ?_ | refine tl_guard_no' ?_ | refine tl_guard_undef ?_ | refine tl_guard_split (fun _ => ?_) (fun _ => ?_) | fail)
      | fail
    exact ret_tmp (hk := ⟨m + 1, rfl, rfl, h1, hN, h2⟩)

/-- How two lists stand to each other, from the last number on. -/
def cmpFrom (xs ys : List Nat) : Nat → Int
  | 0 => 0
  | n + 1 => if xs.getD n 0 = ys.getD n 0 then cmpFrom xs ys n else if xs.getD n 0 < ys.getD n 0 then -1 else 1
theorem cmpFrom_spec {xs ys : List Nat} (hx : Lm xs) (hy : Lm ys) : ∀ n, n ≤ xs.length → n ≤ ys.length →
    cmpFrom xs ys n = if lv (xs.take n) < lv (ys.take n) then -1 else if lv (xs.take n) = lv (ys.take n) then 0 else 1
  | 0, _, _ => by simp [cmpFrom, lv]
  | n + 1, h1, h2 => by
    have ih := cmpFrom_spec hx hy n (by omega) (by omega)
    have ex := lv_take xs n
    have ey := lv_take ys n
    have bx := lv_lt (hx.take n)
    have bY := lv_lt (hy.take n)
    rw [List.length_take, Nat.min_eq_left (by omega)] at bx bY
    unfold cmpFrom
    rw [ex, ey]
    generalize xs.getD n 0 = u at *
    generalize ys.getD n 0 = v at *
    generalize lv (xs.take n) = p at *
    generalize lv (ys.take n) = q at *
    generalize 4294967296 ^ n = w at *
    by_cases h : u = v
    · subst h
      rw [if_pos rfl, ih]
      by_cases c1 : p < q
      · rw [if_pos c1, if_pos (by omega)]
      · by_cases c2 : p = q
        · rw [if_neg c1, if_pos c2, if_neg (by omega), if_pos (by omega)]
        · rw [if_neg c1, if_neg c2, if_neg (by omega), if_neg (by omega)]
    · rw [if_neg h]
      by_cases c : u < v
      · have := Nat.mul_le_mul_left w (show u + 1 ≤ v by omega)
        rw [Nat.mul_add] at this
        rw [if_pos c, if_pos (by omega)]
      · have := Nat.mul_le_mul_left w (show v + 1 ≤ u by omega)
        rw [Nat.mul_add] at this
        rw [if_neg c, if_neg (by omega), if_neg (by omega)]

def cmpI (p q : Nat) : Int := if p < q then -1 else if p = q then 0 else 1

set_option maxHeartbeats 4000000 in
theorem cmpLimbs (a1 a2 : Option Addr) (c1 c2 : Nat) (xs ys : List Nat) (H : Heap) (hv : US H (.slice a1 xs.length c1) xs) (hu : US H (.slice a2 ys.length c2) ys) (hx : Lm xs) (hy : Lm ys) (nx : Nrm xs) (ny : Nrm ys) (hb : xs.length < 2 ^ 40) (hb2 : ys.length < 2 ^ 40) :
    Does Try.prog 141 [.slice a1 xs.length c1, .slice a2 ys.length c2] H fun w H' => w = .int .i64 (cmpI (lv xs) (lv ys)) ∧ H' = H := by
  refine fn_enter 41 Try.func141 fun W => ?_
  by_cases hl : xs.length = ys.length
  rotate_left
  · have hc : icmp .neq (xs.length : Int) (ys.length : Int) = true := by simp only [icmp, bne_iff_ne]; omega
    by_cases hlt : xs.length < ys.length
    · have hc2 : icmp .lss (xs.length : Int) (ys.length : Int) = true := by rw [lss_nat]; simpa using hlt
      have hlv : lv xs < lv ys := by
        have h1 := lv_lt hx
        have h2 := lv_ge ny (fun e => by subst e; simp at hlt)
        have h3 := Nat.pow_le_pow_right (show 0 < 4294967296 by decide) (show xs.length ≤ ys.length - 1 by omega)
        omega
      repeat' first
        | refine tc_seq ?_ | refine tc_region ?_ | refine at_seq_normal ?_ | refine tl_nil ?_ | refine tl_cons ?_ | refine op_move ?_ | refine op_assign ?_ | refine op_load ?_ | refine op_load_agg ?_ | refine op_indexC ?_
        | refine op_indexAddr1 ?_ | refine op_indexAddr ?_ | refine op_icmp ?_ | refine op_iarith ?_ | refine op_len_slice ?_ | refine op_loadK rfl ?_ | refine op_load_aggK rfl ?_ | refine tc_cond_t ?_ | refine tc_cond_f ?_ | refine tc_cond (fun _ => ?_) (fun _ => ?_)
        | refine tc_block ?_ | refine tc_skip ?_ | refine tc_ret ?_ | refine tc_exit ?_ | refine at_seq_ret ?_ | refine at_seq_exit ?_ | refine at_block_normal ?_ | refine at_block_ret ?_ | refine at_block_exit_self ?_ | refine at_block_exit_ne ?_
        | refine at_loop_ret ?_ | refine at_loop_exit ?_
      exact ret_tmp (hk := ⟨by rw [cmpI, if_pos hlv], rfl⟩)
    · have hc2 : icmp .lss (xs.length : Int) (ys.length : Int) = false := by rw [lss_nat]; simpa using hlt
      have hlv : lv ys < lv xs := by
        have h1 := lv_lt hy
        have h2 := lv_ge nx (fun e => by rw [e] at hl hlt; simp only [List.length_nil] at hl hlt; omega)
        have h3 := Nat.pow_le_pow_right (show 0 < 4294967296 by decide) (show ys.length ≤ xs.length - 1 by omega)
        omega
      repeat' first
        | refine tc_seq ?_ | refine tc_region ?_ | refine at_seq_normal ?_ | refine tl_nil ?_ | refine tl_cons ?_ | refine op_move ?_ | refine op_assign ?_ | refine op_load ?_ | refine op_load_agg ?_ | refine op_indexC ?_
        | refine op_indexAddr1 ?_ | refine op_indexAddr ?_ | refine op_icmp ?_ | refine op_iarith ?_ | refine op_len_slice ?_ | refine op_loadK rfl ?_ | refine op_load_aggK rfl ?_ | refine tc_cond_t ?_ | refine tc_cond_f ?_ | refine tc_cond (fun _ => ?_) (fun _ => ?_)
        | refine tc_block ?_ | refine tc_skip ?_ | refine tc_ret ?_ | refine tc_exit ?_ | refine at_seq_ret ?_ | refine at_seq_exit ?_ | refine at_block_normal ?_ | refine at_block_ret ?_ | refine at_block_exit_self ?_ | refine at_block_exit_ne ?_
        | refine at_loop_ret ?_ | refine at_loop_exit ?_
      exact ret_tmp (hk := ⟨by rw [cmpI, if_neg (by omega), if_neg (by omega)], rfl⟩)
  have hc : icmp .neq (xs.length : Int) (ys.length : Int) = false := by simp only [icmp, bne_eq_false_iff_eq]; omega
  have hw0 := wrap_sub (a := (xs.length : Int)) (b := 1) (by omega) (by omega)
  repeat' first
    | refine tc_seq ?_ | refine tc_region ?_ | refine at_seq_normal ?_ | refine tl_nil ?_ | refine tl_cons ?_ | refine op_move ?_ | refine op_assign ?_ | refine op_load ?_ | refine op_load_agg ?_ | refine op_indexC ?_
    | refine op_indexAddr1 ?_ | refine op_indexAddr ?_ | refine op_icmp ?_ | refine op_iarith ?_ | refine op_len_slice ?_ | refine op_loadK rfl ?_ | refine op_load_aggK rfl ?_ | refine tc_cond_t ?_ | refine tc_cond_f ?_ | refine tc_cond (fun _ => ?_) (fun _ => ?_)
    | refine tc_block ?_ | refine tc_skip ?_ | refine tc_ret ?_ | refine tc_exit ?_ | refine at_seq_ret ?_ | refine at_seq_exit ?_ | refine at_block_normal ?_ | refine at_block_ret ?_ | refine at_block_exit_self ?_ | refine at_block_exit_ne ?_
    | refine at_loop_ret ?_ | refine at_loop_exit ?_
  refine tc_loopH [(0, _), (1, _)] (by repeat (first | exact trivial | refine ⟨rfl, ?_⟩)) (fun n : Nat => [(5, .int .i64 ((n : Int) - 1))]) (fun n => n ≤ xs.length ∧ cmpFrom xs ys n = cmpFrom xs ys xs.length) (fun n => n) xs.length ⟨Nat.le_refl _, rfl⟩ ⟨geti rfl hw0, trivial⟩ ?_
  rintro n ⟨h1, h2⟩
  have hspec := cmpFrom_spec hx hy xs.length (Nat.le_refl _) (by omega)
  rw [List.take_of_length_le (Nat.le_refl _), List.take_of_length_le (by omega)] at hspec
  rw [hspec] at h2
  by_cases hn0 : n = 0
  · subst hn0
    have hc2 : icmp .geq (((0 : Nat) : Int) - 1) 0 = false := by decide
    repeat' first
      | refine tc_seq ?_ | refine tc_region ?_ | refine at_seq_normal ?_ | refine tl_nil ?_ | refine tl_cons ?_ | refine op_move ?_ | refine op_assign ?_ | refine op_load ?_ | refine op_load_agg ?_ | refine op_indexC ?_
      | refine op_indexAddr1 ?_ | refine op_indexAddr ?_ | refine op_icmp ?_ | refine op_iarith ?_ | refine op_len_slice ?_ | refine op_loadK rfl ?_ | refine op_load_aggK rfl ?_ | refine tc_cond_t ?_ | refine tc_cond_f ?_ | refine tc_cond (fun _ => ?_) (fun _ => ?_)
      | refine tc_block ?_ | refine tc_skip ?_ | refine tc_ret ?_ | refine tc_exit ?_ | refine at_seq_ret ?_ | refine at_seq_exit ?_ | refine at_block_normal ?_ | refine at_block_ret ?_ | refine at_block_exit_self ?_ | refine at_block_exit_ne ?_
      | refine at_loop_ret ?_ | refine at_loop_exit ?_
    exact ret_tmp (hk := ⟨by rw [cmpI, ← h2]; rfl, rfl⟩)
  obtain ⟨m, rfl⟩ : ∃ m, n = m + 1 := ⟨n - 1, by omega⟩
  have hi : (((m + 1 : Nat) : Int) - 1) = ((m : Nat) : Int) := by omega
  rw [hi]
  have hc2 : icmp .geq ((m : Nat) : Int) 0 = true := by simp only [icmp, decide_eq_true_eq]; omega
  have hw1 := wrap_sub (a := (m : Int)) (b := 1) (by omega) (by omega)
  obtain ⟨k1, o1, L1, T1, z1, rfl, m1, hall1⟩ := us_block hv (fun e => by subst e; simp at h1)
  obtain ⟨k2, o2, L2, T2, z2, rfl, m2, hall2⟩ := us_block hu (fun e => by rw [e] at hl; simp only [List.length_nil] at hl; omega)
  have l1 := hall1 m (by omega)
  have l2 := hall2 m (by omega)
  have i1 : m < xs.length := by omega
  have i2 : m < ys.length := by omega
  unfold cmpFrom at h2
  generalize xs.getD m 0 = x at *
  generalize ys.getD m 0 = y at *
  clear hall1 hall2
  by_cases he : x = y
  · rw [if_pos he] at h2
    have hne : icmp .neq (x : Int) (y : Int) = false := by simp only [icmp, bne_eq_false_iff_eq]; omega
    repeat' first
      | refine tc_seq ?_ | refine tc_region ?_ | refine at_seq_normal ?_ | refine tl_nil ?_ | refine tl_cons ?_ | refine op_move ?_ | refine op_assign ?_ | refine op_load ?_ | refine op_load_agg ?_ | refine op_indexC ?_
      | refine op_indexAddr1 ?_ | refine op_indexAddr ?_ | refine op_icmp ?_ | refine op_iarith ?_ | refine op_len_slice ?_ | refine op_loadK rfl ?_ | refine op_load_aggK rfl ?_ | refine tc_cond_t ?_ | refine tc_cond_f ?_ | refine tc_cond (fun _ => ?_) (fun _ => ?_)
      | refine tc_block ?_ | refine tc_skip ?_ | refine tc_ret ?_ | refine tc_exit ?_ | refine at_seq_ret ?_ | refine at_seq_exit ?_ | refine at_block_normal ?_ | refine at_block_ret ?_ | refine at_block_exit_self ?_ | refine at_block_exit_ne ?_
      | refine at_loop_ret ?_ | refine at_loop_exit ?_
    apply fun hole0 hole1 hole2 hole3 hole4 hole5 hole6 hole7 hE hD hml hdl hpr prem fin => tc_drawn 9 [is hole0, is hole1, is hole2, is hole3, is hole4, is hole5, is hole6, is hole7, (is (.bool false))]
      [some 23, some 24, some 25, some 26, some 27, some 28, some 29, some 30, some 31] [[], [], [0, 1], [2], [], [], [4, 5], [6], [3, 7]] mixed ⟨(is_mono _), (is_mono _), (is_mono _), (is_mono _), (is_mono _), (is_mono _), (is_mono _), (is_mono _), (some_mono _), trivial⟩ prem fin hE hD rfl hml hdl hpr
    rotate_left 9
    · first | kernel_rfl | exact rfl
    · first | kernel_rfl | exact rfl
    · exact Nat.le_of_ble_eq_true rfl
    · first | kernel_rfl | exact rfl
    · first | kernel_rfl | exact rfl
    refine ⟨fun G hG => ?_, fun G hG => ?_, fun G hG => ?_, fun G hG => ?_, fun G hG => ?_, fun G hG => ?_, fun G hG => ?_, fun G hG => ?_, fun G hG => ?_, trivial⟩
    · simp only [with2, Step2, nthDst, putO]
      (refine op_move ?_; exact ⟨[], rfl, rfl, rfl⟩)
    · simp only [with2, Step2, nthDst, putO]
      (refine op_move ?_; exact ⟨[], rfl, rfl, rfl⟩)
    · rintro _ _ ⟨rfl, rfl⟩ - _ _ ⟨rfl, rfl⟩ -
      simp only [with2, Step2, nthDst, putO]
      ((first | refine op_indexC ?_ | refine op_indexAddr1 ?_ | refine op_indexAddr ?_); exact ⟨[], rfl, rfl, rfl⟩)
    · rintro _ _ ⟨rfl, rfl⟩ -
      simp only [with2, Step2, nthDst, putO]
      ((first | refine op_load ?_ | refine op_load_agg ?_ | refine op_load ?_ (hm := Sub.mem (by assumption) (by (repeat (apply List.mem_cons_of_mem)); assumption)) | refine op_load_agg ?_ (hm := Sub.mem (by assumption) (by (repeat (apply List.mem_cons_of_mem)); assumption)) | refine op_loadH hG rfl ?_ | refine op_load_aggH hG rfl ?_); exact ⟨[], rfl, rfl, rfl⟩)
    · simp only [with2, Step2, nthDst, putO]
      (refine op_move ?_; exact ⟨[], rfl, rfl, rfl⟩)
    · simp only [with2, Step2, nthDst, putO]
      (refine op_move ?_; exact ⟨[], rfl, rfl, rfl⟩)
    · rintro _ _ ⟨rfl, rfl⟩ - _ _ ⟨rfl, rfl⟩ -
      simp only [with2, Step2, nthDst, putO]
      ((first | refine op_indexC ?_ | refine op_indexAddr1 ?_ | refine op_indexAddr ?_); exact ⟨[], rfl, rfl, rfl⟩)
    · rintro _ _ ⟨rfl, rfl⟩ -
      simp only [with2, Step2, nthDst, putO]
      ((first | refine op_load ?_ | refine op_load_agg ?_ | refine op_load ?_ (hm := Sub.mem (by assumption) (by (repeat (apply List.mem_cons_of_mem)); assumption)) | refine op_load_agg ?_ (hm := Sub.mem (by assumption) (by (repeat (apply List.mem_cons_of_mem)); assumption)) | refine op_loadH hG rfl ?_ | refine op_load_aggH hG rfl ?_); exact ⟨[], rfl, rfl, rfl⟩)
    · rintro _ _ ⟨rfl, rfl⟩ - _ _ ⟨rfl, rfl⟩ -
      simp only [with2, Step2, nthDst, putO]
      (refine op_icmp ?_; exact ⟨[], rfl, congrArg Value.bool hne, rfl⟩)
    · rintro _ _ _ _ _ _ _ _ _ _ _ _ _ _ _ _ _ _ ⟨⟨rfl, rfl⟩, ⟨rfl, rfl⟩, ⟨rfl, rfl⟩, ⟨rfl, rfl⟩, ⟨rfl, rfl⟩, ⟨rfl, rfl⟩, ⟨rfl, rfl⟩, ⟨rfl, rfl⟩, ⟨rfl, rfl⟩, _⟩
      simp only [List.nil_append, List.cons_append, List.append_nil, List.drop_succ_cons, List.drop_zero, nthDst, putO]
      repeat' first
        | refine tc_seq ?_ | refine tc_region ?_ | refine at_seq_normal ?_ | refine tl_nil ?_ | refine tl_cons ?_ | refine op_move ?_ | refine op_assign ?_ | refine op_load ?_ | refine op_load_agg ?_ | refine op_indexC ?_
        | refine op_indexAddr1 ?_ | refine op_indexAddr ?_ | refine op_icmp ?_ | refine op_iarith ?_ | refine op_len_slice ?_ | refine op_loadK rfl ?_ | refine op_load_aggK rfl ?_ | refine tc_cond_t ?_ | refine tc_cond_f ?_ | refine tc_cond (fun _ => ?_) (fun _ => ?_)
        | refine tc_block ?_ | refine tc_skip ?_ | refine tc_ret ?_ | refine tc_exit ?_ | refine at_seq_ret ?_ | refine at_seq_exit ?_ | refine at_block_normal ?_ | refine at_block_ret ?_ | refine at_block_exit_self ?_ | refine at_block_exit_ne ?_
        | refine at_loop_ret ?_ | refine at_loop_exit ?_
      exact at_loop_normal m ⟨by omega, by rw [h2, hspec]⟩ (Nat.lt_succ_self _) (Incl.get ⟨geti rfl hw1, (by repeat (first | exact trivial | refine ⟨rfl, ?_⟩))⟩) (List.Sublist.refl _)
  · rw [if_neg he] at h2
    have hne : icmp .neq (x : Int) (y : Int) = true := by simp only [icmp, bne_iff_ne]; omega
    by_cases hlt : x < y
    · rw [if_pos hlt] at h2
      have hls : icmp .lss (x : Int) (y : Int) = true := by rw [lss_nat]; simpa using hlt
      repeat' first
        | refine tc_seq ?_ | refine tc_region ?_ | refine at_seq_normal ?_ | refine tl_nil ?_ | refine tl_cons ?_ | refine op_move ?_ | refine op_assign ?_ | refine op_load ?_ | refine op_load_agg ?_ | refine op_indexC ?_
        | refine op_indexAddr1 ?_ | refine op_indexAddr ?_ | refine op_icmp ?_ | refine op_iarith ?_ | refine op_len_slice ?_ | refine op_loadK rfl ?_ | refine op_load_aggK rfl ?_ | refine tc_cond_t ?_ | refine tc_cond_f ?_ | refine tc_cond (fun _ => ?_) (fun _ => ?_)
        | refine tc_block ?_ | refine tc_skip ?_ | refine tc_ret ?_ | refine tc_exit ?_ | refine at_seq_ret ?_ | refine at_seq_exit ?_ | refine at_block_normal ?_ | refine at_block_ret ?_ | refine at_block_exit_self ?_ | refine at_block_exit_ne ?_
        | refine at_loop_ret ?_ | refine at_loop_exit ?_
      apply fun hole0 hole1 hole2 hole3 hole4 hole5 hole6 hole7 hE hD hml hdl hpr prem fin => tc_drawn 9 [is hole0, is hole1, is hole2, is hole3, is hole4, is hole5, is hole6, is hole7, (is (.bool true))]
        [some 23, some 24, some 25, some 26, some 27, some 28, some 29, some 30, some 31] [[], [], [0, 1], [2], [], [], [4, 5], [6], [3, 7]] mixed ⟨(is_mono _), (is_mono _), (is_mono _), (is_mono _), (is_mono _), (is_mono _), (is_mono _), (is_mono _), (some_mono _), trivial⟩ prem fin hE hD rfl hml hdl hpr
      rotate_left 9
      · first | kernel_rfl | exact rfl
      · first | kernel_rfl | exact rfl
      · exact Nat.le_of_ble_eq_true rfl
      · first | kernel_rfl | exact rfl
      · first | kernel_rfl | exact rfl
      refine ⟨fun G hG => ?_, fun G hG => ?_, fun G hG => ?_, fun G hG => ?_, fun G hG => ?_, fun G hG => ?_, fun G hG => ?_, fun G hG => ?_, fun G hG => ?_, trivial⟩
      · simp only [with2, Step2, nthDst, putO]
        (refine op_move ?_; exact ⟨[], rfl, rfl, rfl⟩)
      · simp only [with2, Step2, nthDst, putO]
        (refine op_move ?_; exact ⟨[], rfl, rfl, rfl⟩)
      · rintro _ _ ⟨rfl, rfl⟩ - _ _ ⟨rfl, rfl⟩ -
        simp only [with2, Step2, nthDst, putO]
        ((first | refine op_indexC ?_ | refine op_indexAddr1 ?_ | refine op_indexAddr ?_); exact ⟨[], rfl, rfl, rfl⟩)
      · rintro _ _ ⟨rfl, rfl⟩ -
        simp only [with2, Step2, nthDst, putO]
        ((first | refine op_load ?_ | refine op_load_agg ?_ | refine op_load ?_ (hm := Sub.mem (by assumption) (by (repeat (apply List.mem_cons_of_mem)); assumption)) | refine op_load_agg ?_ (hm := Sub.mem (by assumption) (by (repeat (apply List.mem_cons_of_mem)); assumption)) | refine op_loadH hG rfl ?_ | refine op_load_aggH hG rfl ?_); exact ⟨[], rfl, rfl, rfl⟩)
      · simp only [with2, Step2, nthDst, putO]
        (refine op_move ?_; exact ⟨[], rfl, rfl, rfl⟩)
      · simp only [with2, Step2, nthDst, putO]
        (refine op_move ?_; exact ⟨[], rfl, rfl, rfl⟩)
      · rintro _ _ ⟨rfl, rfl⟩ - _ _ ⟨rfl, rfl⟩ -
        simp only [with2, Step2, nthDst, putO]
        ((first | refine op_indexC ?_ | refine op_indexAddr1 ?_ | refine op_indexAddr ?_); exact ⟨[], rfl, rfl, rfl⟩)
      · rintro _ _ ⟨rfl, rfl⟩ -
        simp only [with2, Step2, nthDst, putO]
        ((first | refine op_load ?_ | refine op_load_agg ?_ | refine op_load ?_ (hm := Sub.mem (by assumption) (by (repeat (apply List.mem_cons_of_mem)); assumption)) | refine op_load_agg ?_ (hm := Sub.mem (by assumption) (by (repeat (apply List.mem_cons_of_mem)); assumption)) | refine op_loadH hG rfl ?_ | refine op_load_aggH hG rfl ?_); exact ⟨[], rfl, rfl, rfl⟩)
      · rintro _ _ ⟨rfl, rfl⟩ - _ _ ⟨rfl, rfl⟩ -
        simp only [with2, Step2, nthDst, putO]
        (refine op_icmp ?_; exact ⟨[], rfl, congrArg Value.bool hne, rfl⟩)
      · rintro _ _ _ _ _ _ _ _ _ _ _ _ _ _ _ _ _ _ ⟨⟨rfl, rfl⟩, ⟨rfl, rfl⟩, ⟨rfl, rfl⟩, ⟨rfl, rfl⟩, ⟨rfl, rfl⟩, ⟨rfl, rfl⟩, ⟨rfl, rfl⟩, ⟨rfl, rfl⟩, ⟨rfl, rfl⟩, _⟩
        simp only [List.nil_append, List.cons_append, List.append_nil, List.drop_succ_cons, List.drop_zero, nthDst, putO]
        repeat' first
          | refine tc_seq ?_ | refine tc_region ?_ | refine at_seq_normal ?_ | refine tl_nil ?_ | refine tl_cons ?_ | refine op_move ?_ | refine op_assign ?_ | refine op_load ?_ | refine op_load_agg ?_ | refine op_indexC ?_
          | refine op_indexAddr1 ?_ | refine op_indexAddr ?_ | refine op_icmp ?_ | refine op_iarith ?_ | refine op_len_slice ?_ | refine op_loadK rfl ?_ | refine op_load_aggK rfl ?_ | refine tc_cond_t ?_ | refine tc_cond_f ?_ | refine tc_cond (fun _ => ?_) (fun _ => ?_)
          | refine tc_block ?_ | refine tc_skip ?_ | refine tc_ret ?_ | refine tc_exit ?_ | refine at_seq_ret ?_ | refine at_seq_exit ?_ | refine at_block_normal ?_ | refine at_block_ret ?_ | refine at_block_exit_self ?_ | refine at_block_exit_ne ?_
          | refine at_loop_ret ?_ | refine at_loop_exit ?_
        apply fun hole0 hole1 hole2 hole3 hole4 hole5 hole6 hole7 hE hD hml hdl hpr prem fin => tc_drawn 9 [is hole0, is hole1, is hole2, is hole3, is hole4, is hole5, is hole6, is hole7, (is (.bool true))]
          [some 32, some 33, some 34, some 35, some 36, some 37, some 38, some 39, some 40] [[], [], [0, 1], [2], [], [], [4, 5], [6], [3, 7]] mixed ⟨(is_mono _), (is_mono _), (is_mono _), (is_mono _), (is_mono _), (is_mono _), (is_mono _), (is_mono _), (some_mono _), trivial⟩ prem fin hE hD rfl hml hdl hpr
        rotate_left 9
        · first | kernel_rfl | exact rfl
        · first | kernel_rfl | exact rfl
        · exact Nat.le_of_ble_eq_true rfl
        · first | kernel_rfl | exact rfl
        · first | kernel_rfl | exact rfl
        refine ⟨fun G hG => ?_, fun G hG => ?_, fun G hG => ?_, fun G hG => ?_, fun G hG => ?_, fun G hG => ?_, fun G hG => ?_, fun G hG => ?_, fun G hG => ?_, trivial⟩
        · simp only [with2, Step2, nthDst, putO]
          (refine op_move ?_; exact ⟨[], rfl, rfl, rfl⟩)
        · simp only [with2, Step2, nthDst, putO]
          (refine op_move ?_; exact ⟨[], rfl, rfl, rfl⟩)
        · rintro _ _ ⟨rfl, rfl⟩ - _ _ ⟨rfl, rfl⟩ -
          simp only [with2, Step2, nthDst, putO]
          ((first | refine op_indexC ?_ | refine op_indexAddr1 ?_ | refine op_indexAddr ?_); exact ⟨[], rfl, rfl, rfl⟩)
        · rintro _ _ ⟨rfl, rfl⟩ -
          simp only [with2, Step2, nthDst, putO]
          ((first | refine op_load ?_ | refine op_load_agg ?_ | refine op_load ?_ (hm := Sub.mem (by assumption) (by (repeat (apply List.mem_cons_of_mem)); assumption)) | refine op_load_agg ?_ (hm := Sub.mem (by assumption) (by (repeat (apply List.mem_cons_of_mem)); assumption)) | refine op_loadH hG rfl ?_ | refine op_load_aggH hG rfl ?_); exact ⟨[], rfl, rfl, rfl⟩)
        · simp only [with2, Step2, nthDst, putO]
          (refine op_move ?_; exact ⟨[], rfl, rfl, rfl⟩)
        · simp only [with2, Step2, nthDst, putO]
          (refine op_move ?_; exact ⟨[], rfl, rfl, rfl⟩)
        · rintro _ _ ⟨rfl, rfl⟩ - _ _ ⟨rfl, rfl⟩ -
          simp only [with2, Step2, nthDst, putO]
          ((first | refine op_indexC ?_ | refine op_indexAddr1 ?_ | refine op_indexAddr ?_); exact ⟨[], rfl, rfl, rfl⟩)
        · rintro _ _ ⟨rfl, rfl⟩ -
          simp only [with2, Step2, nthDst, putO]
          ((first | refine op_load ?_ | refine op_load_agg ?_ | refine op_load ?_ (hm := Sub.mem (by assumption) (by (repeat (apply List.mem_cons_of_mem)); assumption)) | refine op_load_agg ?_ (hm := Sub.mem (by assumption) (by (repeat (apply List.mem_cons_of_mem)); assumption)) | refine op_loadH hG rfl ?_ | refine op_load_aggH hG rfl ?_); exact ⟨[], rfl, rfl, rfl⟩)
        · rintro _ _ ⟨rfl, rfl⟩ - _ _ ⟨rfl, rfl⟩ -
          simp only [with2, Step2, nthDst, putO]
          (refine op_icmp ?_; exact ⟨[], rfl, congrArg Value.bool hls, rfl⟩)
        · rintro _ _ _ _ _ _ _ _ _ _ _ _ _ _ _ _ _ _ ⟨⟨rfl, rfl⟩, ⟨rfl, rfl⟩, ⟨rfl, rfl⟩, ⟨rfl, rfl⟩, ⟨rfl, rfl⟩, ⟨rfl, rfl⟩, ⟨rfl, rfl⟩, ⟨rfl, rfl⟩, ⟨rfl, rfl⟩, _⟩
          simp only [List.nil_append, List.cons_append, List.append_nil, List.drop_succ_cons, List.drop_zero, nthDst, putO]
          repeat' first
            | refine tc_seq ?_ | refine tc_region ?_ | refine at_seq_normal ?_ | refine tl_nil ?_ | refine tl_cons ?_ | refine op_move ?_ | refine op_assign ?_ | refine op_load ?_ | refine op_load_agg ?_ | refine op_indexC ?_
            | refine op_indexAddr1 ?_ | refine op_indexAddr ?_ | refine op_icmp ?_ | refine op_iarith ?_ | refine op_len_slice ?_ | refine op_loadK rfl ?_ | refine op_load_aggK rfl ?_ | refine tc_cond_t ?_ | refine tc_cond_f ?_ | refine tc_cond (fun _ => ?_) (fun _ => ?_)
            | refine tc_block ?_ | refine tc_skip ?_ | refine tc_ret ?_ | refine tc_exit ?_ | refine at_seq_ret ?_ | refine at_seq_exit ?_ | refine at_block_normal ?_ | refine at_block_ret ?_ | refine at_block_exit_self ?_ | refine at_block_exit_ne ?_
            | refine at_loop_ret ?_ | refine at_loop_exit ?_
          exact ret_tmp (hk := ⟨by rw [cmpI, ← h2], rfl⟩)
    · rw [if_neg hlt] at h2
      have hls : icmp .lss (x : Int) (y : Int) = false := by rw [lss_nat]; simpa using hlt
      repeat' first
        | refine tc_seq ?_ | refine tc_region ?_ | refine at_seq_normal ?_ | refine tl_nil ?_ | refine tl_cons ?_ | refine op_move ?_ | refine op_assign ?_ | refine op_load ?_ | refine op_load_agg ?_ | refine op_indexC ?_
        | refine op_indexAddr1 ?_ | refine op_indexAddr ?_ | refine op_icmp ?_ | refine op_iarith ?_ | refine op_len_slice ?_ | refine op_loadK rfl ?_ | refine op_load_aggK rfl ?_ | refine tc_cond_t ?_ | refine tc_cond_f ?_ | refine tc_cond (fun _ => ?_) (fun _ => ?_)
        | refine tc_block ?_ | refine tc_skip ?_ | refine tc_ret ?_ | refine tc_exit ?_ | refine at_seq_ret ?_ | refine at_seq_exit ?_ | refine at_block_normal ?_ | refine at_block_ret ?_ | refine at_block_exit_self ?_ | refine at_block_exit_ne ?_
        | refine at_loop_ret ?_ | refine at_loop_exit ?_
      apply fun hole0 hole1 hole2 hole3 hole4 hole5 hole6 hole7 hE hD hml hdl hpr prem fin => tc_drawn 9 [is hole0, is hole1, is hole2, is hole3, is hole4, is hole5, is hole6, is hole7, (is (.bool true))]
        [some 23, some 24, some 25, some 26, some 27, some 28, some 29, some 30, some 31] [[], [], [0, 1], [2], [], [], [4, 5], [6], [3, 7]] mixed ⟨(is_mono _), (is_mono _), (is_mono _), (is_mono _), (is_mono _), (is_mono _), (is_mono _), (is_mono _), (some_mono _), trivial⟩ prem fin hE hD rfl hml hdl hpr
      rotate_left 9
      · first | kernel_rfl | exact rfl
      · first | kernel_rfl | exact rfl
      · exact Nat.le_of_ble_eq_true rfl
      · first | kernel_rfl | exact rfl
      · first | kernel_rfl | exact rfl
      refine ⟨fun G hG => ?_, fun G hG => ?_, fun G hG => ?_, fun G hG => ?_, fun G hG => ?_, fun G hG => ?_, fun G hG => ?_, fun G hG => ?_, fun G hG => ?_, trivial⟩
      · simp only [with2, Step2, nthDst, putO]
        (refine op_move ?_; exact ⟨[], rfl, rfl, rfl⟩)
      · simp only [with2, Step2, nthDst, putO]
        (refine op_move ?_; exact ⟨[], rfl, rfl, rfl⟩)
      · rintro _ _ ⟨rfl, rfl⟩ - _ _ ⟨rfl, rfl⟩ -
        simp only [with2, Step2, nthDst, putO]
        ((first | refine op_indexC ?_ | refine op_indexAddr1 ?_ | refine op_indexAddr ?_); exact ⟨[], rfl, rfl, rfl⟩)
      · rintro _ _ ⟨rfl, rfl⟩ -
        simp only [with2, Step2, nthDst, putO]
        ((first | refine op_load ?_ | refine op_load_agg ?_ | refine op_load ?_ (hm := Sub.mem (by assumption) (by (repeat (apply List.mem_cons_of_mem)); assumption)) | refine op_load_agg ?_ (hm := Sub.mem (by assumption) (by (repeat (apply List.mem_cons_of_mem)); assumption)) | refine op_loadH hG rfl ?_ | refine op_load_aggH hG rfl ?_); exact ⟨[], rfl, rfl, rfl⟩)
      · simp only [with2, Step2, nthDst, putO]
        (refine op_move ?_; exact ⟨[], rfl, rfl, rfl⟩)
      · simp only [with2, Step2, nthDst, putO]
        (refine op_move ?_; exact ⟨[], rfl, rfl, rfl⟩)
      · rintro _ _ ⟨rfl, rfl⟩ - _ _ ⟨rfl, rfl⟩ -
        simp only [with2, Step2, nthDst, putO]
        ((first | refine op_indexC ?_ | refine op_indexAddr1 ?_ | refine op_indexAddr ?_); exact ⟨[], rfl, rfl, rfl⟩)
      · rintro _ _ ⟨rfl, rfl⟩ -
        simp only [with2, Step2, nthDst, putO]
        ((first | refine op_load ?_ | refine op_load_agg ?_ | refine op_load ?_ (hm := Sub.mem (by assumption) (by (repeat (apply List.mem_cons_of_mem)); assumption)) | refine op_load_agg ?_ (hm := Sub.mem (by assumption) (by (repeat (apply List.mem_cons_of_mem)); assumption)) | refine op_loadH hG rfl ?_ | refine op_load_aggH hG rfl ?_); exact ⟨[], rfl, rfl, rfl⟩)
      · rintro _ _ ⟨rfl, rfl⟩ - _ _ ⟨rfl, rfl⟩ -
        simp only [with2, Step2, nthDst, putO]
        (refine op_icmp ?_; exact ⟨[], rfl, congrArg Value.bool hne, rfl⟩)
      · rintro _ _ _ _ _ _ _ _ _ _ _ _ _ _ _ _ _ _ ⟨⟨rfl, rfl⟩, ⟨rfl, rfl⟩, ⟨rfl, rfl⟩, ⟨rfl, rfl⟩, ⟨rfl, rfl⟩, ⟨rfl, rfl⟩, ⟨rfl, rfl⟩, ⟨rfl, rfl⟩, ⟨rfl, rfl⟩, _⟩
        simp only [List.nil_append, List.cons_append, List.append_nil, List.drop_succ_cons, List.drop_zero, nthDst, putO]
        repeat' first
          | refine tc_seq ?_ | refine tc_region ?_ | refine at_seq_normal ?_ | refine tl_nil ?_ | refine tl_cons ?_ | refine op_move ?_ | refine op_assign ?_ | refine op_load ?_ | refine op_load_agg ?_ | refine op_indexC ?_
          | refine op_indexAddr1 ?_ | refine op_indexAddr ?_ | refine op_icmp ?_ | refine op_iarith ?_ | refine op_len_slice ?_ | refine op_loadK rfl ?_ | refine op_load_aggK rfl ?_ | refine tc_cond_t ?_ | refine tc_cond_f ?_ | refine tc_cond (fun _ => ?_) (fun _ => ?_)
          | refine tc_block ?_ | refine tc_skip ?_ | refine tc_ret ?_ | refine tc_exit ?_ | refine at_seq_ret ?_ | refine at_seq_exit ?_ | refine at_block_normal ?_ | refine at_block_ret ?_ | refine at_block_exit_self ?_ | refine at_block_exit_ne ?_
          | refine at_loop_ret ?_ | refine at_loop_exit ?_
        apply fun hole0 hole1 hole2 hole3 hole4 hole5 hole6 hole7 hE hD hml hdl hpr prem fin => tc_drawn 9 [is hole0, is hole1, is hole2, is hole3, is hole4, is hole5, is hole6, is hole7, (is (.bool false))]
          [some 32, some 33, some 34, some 35, some 36, some 37, some 38, some 39, some 40] [[], [], [0, 1], [2], [], [], [4, 5], [6], [3, 7]] mixed ⟨(is_mono _), (is_mono _), (is_mono _), (is_mono _), (is_mono _), (is_mono _), (is_mono _), (is_mono _), (some_mono _), trivial⟩ prem fin hE hD rfl hml hdl hpr
        rotate_left 9
        · first | kernel_rfl | exact rfl
        · first | kernel_rfl | exact rfl
        · exact Nat.le_of_ble_eq_true rfl
        · first | kernel_rfl | exact rfl
        · first | kernel_rfl | exact rfl
        refine ⟨fun G hG => ?_, fun G hG => ?_, fun G hG => ?_, fun G hG => ?_, fun G hG => ?_, fun G hG => ?_, fun G hG => ?_, fun G hG => ?_, fun G hG => ?_, trivial⟩
        · simp only [with2, Step2, nthDst, putO]
          (refine op_move ?_; exact ⟨[], rfl, rfl, rfl⟩)
        · simp only [with2, Step2, nthDst, putO]
          (refine op_move ?_; exact ⟨[], rfl, rfl, rfl⟩)
        · rintro _ _ ⟨rfl, rfl⟩ - _ _ ⟨rfl, rfl⟩ -
          simp only [with2, Step2, nthDst, putO]
          ((first | refine op_indexC ?_ | refine op_indexAddr1 ?_ | refine op_indexAddr ?_); exact ⟨[], rfl, rfl, rfl⟩)
        · rintro _ _ ⟨rfl, rfl⟩ -
          simp only [with2, Step2, nthDst, putO]
          ((first | refine op_load ?_ | refine op_load_agg ?_ | refine op_load ?_ (hm := Sub.mem (by assumption) (by (repeat (apply List.mem_cons_of_mem)); assumption)) | refine op_load_agg ?_ (hm := Sub.mem (by assumption) (by (repeat (apply List.mem_cons_of_mem)); assumption)) | refine op_loadH hG rfl ?_ | refine op_load_aggH hG rfl ?_); exact ⟨[], rfl, rfl, rfl⟩)
        · simp only [with2, Step2, nthDst, putO]
          (refine op_move ?_; exact ⟨[], rfl, rfl, rfl⟩)
        · simp only [with2, Step2, nthDst, putO]
          (refine op_move ?_; exact ⟨[], rfl, rfl, rfl⟩)
        · rintro _ _ ⟨rfl, rfl⟩ - _ _ ⟨rfl, rfl⟩ -
          simp only [with2, Step2, nthDst, putO]
          ((first | refine op_indexC ?_ | refine op_indexAddr1 ?_ | refine op_indexAddr ?_); exact ⟨[], rfl, rfl, rfl⟩)
        · rintro _ _ ⟨rfl, rfl⟩ -
          simp only [with2, Step2, nthDst, putO]
          ((first | refine op_load ?_ | refine op_load_agg ?_ | refine op_load ?_ (hm := Sub.mem (by assumption) (by (repeat (apply List.mem_cons_of_mem)); assumption)) | refine op_load_agg ?_ (hm := Sub.mem (by assumption) (by (repeat (apply List.mem_cons_of_mem)); assumption)) | refine op_loadH hG rfl ?_ | refine op_load_aggH hG rfl ?_); exact ⟨[], rfl, rfl, rfl⟩)
        · rintro _ _ ⟨rfl, rfl⟩ - _ _ ⟨rfl, rfl⟩ -
          simp only [with2, Step2, nthDst, putO]
          (refine op_icmp ?_; exact ⟨[], rfl, congrArg Value.bool hls, rfl⟩)
        · rintro _ _ _ _ _ _ _ _ _ _ _ _ _ _ _ _ _ _ ⟨⟨rfl, rfl⟩, ⟨rfl, rfl⟩, ⟨rfl, rfl⟩, ⟨rfl, rfl⟩, ⟨rfl, rfl⟩, ⟨rfl, rfl⟩, ⟨rfl, rfl⟩, ⟨rfl, rfl⟩, ⟨rfl, rfl⟩, _⟩
          simp only [List.nil_append, List.cons_append, List.append_nil, List.drop_succ_cons, List.drop_zero, nthDst, putO]
          repeat' first
            | refine tc_seq ?_ | refine tc_region ?_ | refine at_seq_normal ?_ | refine tl_nil ?_ | refine tl_cons ?_ | refine op_move ?_ | refine op_assign ?_ | refine op_load ?_ | refine op_load_agg ?_ | refine op_indexC ?_
            | refine op_indexAddr1 ?_ | refine op_indexAddr ?_ | refine op_icmp ?_ | refine op_iarith ?_ | refine op_len_slice ?_ | refine op_loadK rfl ?_ | refine op_load_aggK rfl ?_ | refine tc_cond_t ?_ | refine tc_cond_f ?_ | refine tc_cond (fun _ => ?_) (fun _ => ?_)
            | refine tc_block ?_ | refine tc_skip ?_ | refine tc_ret ?_ | refine tc_exit ?_ | refine at_seq_ret ?_ | refine at_seq_exit ?_ | refine at_block_normal ?_ | refine at_block_ret ?_ | refine at_block_exit_self ?_ | refine at_block_exit_ne ?_
            | refine at_loop_ret ?_ | refine at_loop_exit ?_
          exact ret_tmp (hk := ⟨by rw [cmpI, ← h2], rfl⟩)
end Go.Proofs.Ytomhkbijijdghaa.Lmb
