/-
  Finite numbers in order; two places exchanged. No conditions.
-/
import Derived.Test.YtefipfiajnepiaaFlat
import Derived.Test.YtefipfiajnepiaaFl4
import Derived.Test.YtefipfiajnepiaaLg12
set_option linter.unusedVariables false
set_option linter.unusedSimpArgs false
namespace Go.Proofs.Ytefipfiajnepiaa.Ord
open Go.Lg

def Fin' (x : Nat) : Prop := ∃ a, Fv x a
open Classical in
noncomputable def val (x : Nat) : Rat := if h : Fin' x then h.choose else 0
theorem val_spec {x : Nat} (h : Fin' x) : Fv x (val x) := by
  have := h.choose_spec
  unfold val; rw [dif_pos h]; exact this
theorem zeroR : Rep (0 : Rat) := by have := rep_int (n := 0) (by decide) (by decide); simpa using this
theorem fv_zero : Fv 0 (0 : Rat) := by
  have h := fv_ofInt (n := 0) (by decide) (by decide)
  have : floatOfInt .f64 0 = 0 := by decide +kernel
  rw [this] at h
  simpa using h
theorem finite_eq {x r : Nat} (h : FAr .sub x x r) (hx : Fin' x) : fcmp .eql r 0 = true := by
  obtain ⟨a, ha⟩ := hx
  obtain ⟨c, hc, hr⟩ := far_sub h ha ha (by rw [Rat.sub_self]; exact p2_pos _) (by rw [Rat.sub_self]; exact p2_pos _)
  rw [Rat.sub_self] at hr
  have := hr.exact zeroR
  subst this
  rw [fcmp_eql hc fv_zero]; simp

def swp (zs : List Nat) (p q : Nat) : List Nat := (zs.set p (zs.getD q 0)).set q (zs.getD p 0)
theorem swp_len (zs : List Nat) (p q : Nat) : (swp zs p q).length = zs.length := by simp [swp]
theorem getD_get {zs : List Nat} {t : Nat} (h : t < zs.length) : zs.getD t 0 = zs[t] := by rw [List.getD_eq_getElem?_getD, List.getElem?_eq_getElem h]; rfl
theorem swp_perm {zs : List Nat} {p q : Nat} (hp : p < zs.length) (hq : q < zs.length) : List.Perm (swp zs p q) zs := by
  unfold swp
  rw [getD_get hp, getD_get hq]
  exact List.set_set_perm hp hq
theorem getD_set (l : List Nat) (i t v : Nat) : (l.set i v).getD t 0 = if t = i ∧ i < l.length then v else l.getD t 0 := by
  simp only [List.getD_eq_getElem?_getD, List.getElem?_set]
  by_cases h : i = t
  · subst h
    by_cases h2 : i < l.length
    · simp [h2]
    · simp only [if_true, h2, if_false, and_false]
      rw [List.getElem?_eq_none (by omega)]
  · rw [if_neg h, if_neg (by omega)]
theorem swp_get {zs : List Nat} {p q : Nat} (hp : p < zs.length) (hq : q < zs.length) (t : Nat) : (swp zs p q).getD t 0 = if t = q then zs.getD p 0 else if t = p then zs.getD q 0 else zs.getD t 0 := by
  unfold swp
  rw [getD_set, getD_set, List.length_set]
  by_cases h : t = q
  · rw [if_pos ⟨h, hq⟩, if_pos h]
  · rw [if_neg (fun e => h e.1), if_neg h]
    by_cases h2 : t = p
    · rw [if_pos ⟨h2, hp⟩, if_pos h2]
    · rw [if_neg (fun e => h2 e.1), if_neg h2]
theorem set_row {zs : List Nat} {sp : List Value} {p v : Nat} (h : p < zs.length) : setCells (zs.map fl ++ sp) (0 + p) [.float .f64 v] = (zs.set p v).map fl ++ sp := by
  simp only [setCells, Nat.zero_add]
  rw [List.set_append_left _ _ (by simpa using h), List.map_set]; rfl
theorem get_row {zs : List Nat} {sp : List Value} {p : Nat} (h : p < zs.length) : (zs.map fl ++ sp)[0 + p]? = some (.float .f64 (zs.getD p 0)) := by
  rw [Nat.zero_add, List.getElem?_append_left (by simpa using h), List.getElem?_map, List.getElem?_eq_getElem h, List.getD_eq_getElem?_getD, List.getElem?_eq_getElem h]; rfl
theorem fin_get {zs : List Nat} {p : Nat} (h : p < zs.length) (hf : ∀ x ∈ zs, Fin' x) : Fin' (zs.getD p 0) := by rw [getD_get h]; exact hf _ (List.getElem_mem h)

theorem finite (x : Nat) (H : Heap) : Does Try.prog 29 [.float .f64 x] H fun v H' => (∃ b, v = .bool b ∧ (b = true ↔ Fin' x)) ∧ H' = H := by
  refine fn_enter 7 Try.func29 fun W => ?_
  repeat'
    first
      | refine tl_defer ?_ | refine tc_seq ?_ | refine tc_region ?_ | refine at_seq_normal ?_ | refine tl_nil ?_ | refine tl_cons ?_ | refine tl_cons_none ?_ | refine op_move ?_
      | refine op_assign ?_ | refine op_fieldAddr ?_ | refine op_load ?_ | refine op_load_agg ?_ | refine op_indexC ?_ | refine op_indexAddr1 ?_ | refine op_indexAddr ?_ | refine op_icmp ?_
      | refine op_fcmp ?_ | refine op_iarith ?_ | refine op_bcmp ?_ | refine op_unop_not ?_ | refine op_unop_neg_float ?_ | refine op_unop_neg_int ?_ | refine op_len_slice ?_ | refine op_pick_true ?_
      | refine op_pick_false ?_ | refine op_pick_true' ?_ | refine op_pick_false' ?_ | refine op_build ?_ | refine op_extract ?_ | refine op_makeInterface ?_ | refine op_typeAssert ?_ | refine op_ptr_nil ?_
      | refine op_nilCheck_ptr ?_ | refine op_nilCheck_meth ?_ | refine op_makeMeth ?_ | refine op_makeFunc ?_ | refine op_itof ?_ | refine op_itoi ?_ | refine op_ftoi ?_ | refine op_iquo ?_
      | refine op_irem ?_ | refine op_ibits ?_ | refine op_slice_isnil ?_ | refine op_slice_notnil ?_ | refine op_imax ?_ | refine op_imin ?_ | refine op_shl ?_ | refine op_shr ?_
      | (refine op_alloc ?_; intro _) | (refine op_box ?_; intro _) | (refine op_buildSlice ?_; intro _) | (refine op_farith ?_; intro _ _) | refine op_store0 ?_ | refine op_store1 ?_ | refine op_store2 ?_ | refine op_store3 ?_
      | refine op_store4 ?_ | refine op_store5 ?_ | refine tc_cond_t ?_ | refine tc_cond_f ?_ | refine tc_cond (fun _ => ?_) (fun _ => ?_) | refine tc_block ?_ | refine tc_skip ?_ | refine tc_ret ?_
      | refine tc_exit ?_ | refine tc_label ?_ | refine at_seq_ret ?_ | refine at_seq_exit ?_ | refine at_block_normal ?_ | refine at_block_ret ?_ | refine at_block_exit_self ?_ | refine at_block_exit_ne ?_
      | refine at_loop_ret ?_ | refine at_loop_exit ?_ | refine at_loop_goto ?_ | refine tl_guard_yes ?_ | refine tl_guard_no ?_ | refine tl_guard_yes' ?_ | refine tl_guard_no' ?_ | refine tl_guard_undef ?_
      | refine tl_guard_split (fun _ => ?_) (fun _ => ?_)
  rename_i r hr
  first | exact ret_tmp (hk := ⟨⟨_, rfl, fun h => finite_of hr h, fun h => finite_eq hr h⟩, rfl⟩) | exact ret_cell (hr := rfl) (hk := ⟨⟨_, rfl, fun h => finite_of hr h, fun h => finite_eq hr h⟩, rfl⟩) | exact ret_agg (hr := rfl) (hk := ⟨⟨_, rfl, fun h => finite_of hr h, fun h => finite_eq hr h⟩, rfl⟩)

/-- One block for all places of a row. -/
theorem fs_block {G : Heap} {a : Option Addr} {n c : Nat} {zs : List Nat} (h : FS G (.slice a n c) zs) (hn : zs ≠ []) :
    ∃ k off l T fz, a = some ⟨k, off, none⟩ ∧ (k, Obj.cells ⟨l⟩ T fz) ∈ G ∧ ∀ i, i < zs.length → l[off + i]? = some (.float .f64 (zs.getD i 0)) := by
  obtain ⟨a', cap, h1, h0, h2⟩ := h
  obtain ⟨k, off, l, T, fz, h3, h4, h5⟩ := h2 (by simpa using hn)
  cases h1
  refine ⟨k, off, l, T, fz, h3, h4, fun i hi => cut_get h5 ?_⟩
  rw [List.getElem?_map, List.getElem?_eq_getElem hi, getD_get hi]; rfl

/-- In order. -/
def Srt (zs : List Nat) : Prop := ∀ a b, a < b → b < zs.length → val (zs.getD a 0) ≤ val (zs.getD b 0)
theorem srt_unique {ys zs : List Nat} (h : List.Perm ys zs) (h1 : Srt ys) (h2 : Srt zs) : ys.map val = zs.map val := by
  have pw : ∀ {l : List Nat}, Srt l → List.Pairwise (· ≤ ·) (l.map val) := by
    intro l hl
    rw [List.pairwise_iff_getElem]
    intro i j hi hj hij
    rw [List.length_map] at hi hj
    have := hl i j hij hj
    rw [getD_get hi, getD_get hj] at this
    simpa using this
  exact List.Perm.eq_of_pairwise (fun a b _ _ h1 h2 => Rat.le_antisymm h1 h2) (pw h1) (pw h2) (h.map val)
end Go.Proofs.Ytefipfiajnepiaa.Ord
