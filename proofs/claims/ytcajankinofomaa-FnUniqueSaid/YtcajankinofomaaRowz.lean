/-
  Lists of rows: sameness, copies, cuts of a row into places. No conditions.
-/
import Derived.Test.YtcajankinofomaaFlat
set_option linter.unusedVariables false
set_option linter.unusedSimpArgs false
namespace Go.Proofs.Ytcajankinofomaa.Flat
open Go.Lg

/-- A row that may be nil. -/
def RN (G : Heap) (u : Value) : Option (List Nat) → Prop
  | none => u = .slice none 0 0
  | some xs => ∃ a c, u = .slice a xs.length c ∧ a ≠ none ∧ FS G u xs
def SN (G : Heap) (v : Value) (rs : List (Option (List Nat))) : Prop := ∃ ws, Sl G v ws ∧ All2 (RN G) ws rs
theorem RN.mono {G G' u r} (h : RN G u r) (hG : ∀ e ∈ G, e ∈ G') : RN G' u r := by
  cases r with
  | none => exact h
  | some xs => obtain ⟨a, c, h1, h2, h3⟩ := h; exact ⟨a, c, h1, h2, h3.mono hG⟩
theorem SN.mono {G G' v rs} (h : SN G v rs) (hG : ∀ e ∈ G, e ∈ G') : SN G' v rs :=
  let ⟨ws, h1, h2⟩ := h; ⟨ws, h1.mono hG, h2.mono fun _ _ h => h.mono hG⟩
theorem RN.fs {G u r} (h : RN G u r) : ∃ a c, u = .slice a (r.getD []).length c ∧ FS G u (r.getD []) ∧ (a.isNone = r.isNone) := by
  cases r with
  | none => cases h; exact ⟨none, 0, rfl, FS.nil, rfl⟩
  | some xs => obtain ⟨a, c, h1, h2, h3⟩ := h; exact ⟨a, c, h1, h3, by cases a <;> simp_all⟩
theorem SN.val {G v rs} (h : SN G v rs) : ∃ a cap, v = .slice a rs.length cap := by
  obtain ⟨ws, ⟨a, cap, h1, _⟩, h2⟩ := h
  exact ⟨a, cap, by rw [h1, h2.len]⟩
theorem SN.at {G v rs} (h : SN G v rs) {i : Nat} {r} (hx : rs[i]? = some r) :
    ∃ k off l T fz cap u, v = .slice (some ⟨k, off, none⟩) rs.length cap ∧ (k, Obj.cells ⟨l⟩ T fz) ∈ G ∧ l[off + i]? = some u ∧ RN G u r ∧ i < rs.length := by
  obtain ⟨ws, h1, h2⟩ := h
  obtain ⟨u, hu, hf⟩ := h2.get hx
  obtain ⟨k, off, l, T, fz, cap, h3, h4, h5, h6⟩ := h1.at hu
  exact ⟨k, off, l, T, fz, cap, u, by rw [h3, h2.len], h4, h5, hf, by rw [← h2.len]; exact h6⟩

theorem RN.cut {H a c xs} (hf : FS H (.slice a xs.length c) xs) {l h : Nat} (hl : l < h) (hh : h ≤ xs.length) : RN H (slAt a l 1 h c) (some ((xs.drop l).take (h - l))) := by
  have hcap := hf.cap
  have hcut := FS.cut hf (Nat.le_of_lt hl) hh
  obtain ⟨k0, o0, l0, T0, fz0, cp0, e0, _⟩ := hf.at (i := l) (x := xs[l]'(by omega)) (List.getElem?_eq_getElem (by omega))
  cases e0
  refine ⟨some ⟨k0, o0 + l, none⟩, c - l, ?_, by simp, hcut⟩
  have : ((xs.drop l).take (h - l)).length = h - l := by simp; omega
  unfold slAt
  rw [this, if_neg (by omega)]
  simp [addr_add]

theorem rows_step {s i L : Nat} (h : ¬ i * s + s ≤ L) (hs : 0 < s) : L / s ≤ i := by
  have h1 : L < (i + 1) * s := by rw [Nat.add_mul, Nat.one_mul]; omega
  have := Nat.div_lt_of_lt_mul (by rwa [Nat.mul_comm] at h1)
  omega

set_option maxHeartbeats 8000000 in
theorem rows (a : Option Addr) (c : Nat) (xs : List Nat) (s : Nat) (H : Heap) (hf : FS H (.slice a xs.length c) xs) (hs : 0 < s) (hs2 : s < 2 ^ 40) (hb : xs.length < 2 ^ 40) :
    Does Try.prog 8 [.slice a xs.length c, .int .i64 (s : Int)] H fun w H' => ∃ ex, H' = ex ++ H ∧ SN H' w ((chunks s (xs.length / s) xs).map some) := by
  have hcap := hf.cap
  have hgs : icmp .gtr (s : Int) 0 = true := by simp only [icmp, decide_eq_true_eq]; omega
  refine fn_enter 30 Try.func8 fun W => ?_
  repeat' first
    | refine tc_seq ?_ | refine tc_region ?_ | refine at_seq_normal ?_ | refine tl_nil ?_ | refine tl_cons ?_ | refine op_move ?_ | refine op_assign ?_ | refine op_fieldAddr ?_ | refine op_load ?_ | refine op_load_agg ?_
    | refine op_indexC ?_ | refine op_indexAddr1 ?_ | refine op_indexAddr ?_ | refine op_icmp ?_ | refine op_fcmp ?_ | refine op_iarith ?_ | refine op_bcmp ?_ | refine op_unop_not ?_ | refine op_unop_neg_float ?_ | refine op_unop_neg_int ?_
    | refine op_len_slice ?_ | refine op_pick_true ?_ | refine op_pick_false ?_ | refine op_pick_true' ?_ | refine op_pick_false' ?_ | refine op_build ?_ | refine op_extract ?_ | refine op_makeInterface ?_ | refine op_typeAssert ?_ | refine op_ptr_nil ?_
    | refine op_nilCheck_ptr ?_ | refine op_nilCheck_meth ?_ | refine op_makeMeth ?_ | refine op_makeFunc ?_ | refine op_itof ?_ | refine op_itoi ?_ | refine op_ftoi ?_ | refine op_iquo ?_ | refine op_irem ?_ | refine op_ibits ?_
    | refine op_slice_isnil ?_ | refine op_slice_notnil ?_ | refine op_imax ?_ | refine op_imin ?_ | refine op_shl ?_ | refine op_shr ?_ | (refine op_alloc ?_; intro _) | (refine op_box ?_; intro _) | (refine op_buildSlice ?_; intro _) | (refine op_farith ?_; intro _ _)
    | refine op_store0 ?_ | refine op_store1 ?_ | refine op_store2 ?_ | refine op_store3 ?_ | refine op_store4 ?_ | refine op_store5 ?_ | refine op_storeK rfl ?_ | refine op_loadK rfl ?_ | refine op_load_aggK rfl ?_ | refine tc_cond_t ?_
    | refine tc_cond_f ?_ | refine tc_cond (fun _ => ?_) (fun _ => ?_) | refine tc_block ?_ | refine tc_skip ?_ | refine tc_ret ?_ | refine tc_exit ?_ | refine at_seq_ret ?_ | refine at_seq_exit ?_ | refine at_block_normal ?_ | refine at_block_ret ?_
    | refine at_block_exit_self ?_ | refine at_block_exit_ne ?_ | refine at_loop_ret ?_ | refine at_loop_exit ?_ | refine tl_guard_yes ?_ | refine tl_guard_no ?_ | refine tl_guard_yes' ?_ | refine tl_guard_no' ?_ | refine tl_guard_undef ?_ | refine tl_guard_split (fun _ => ?_) (fun _ => ?_)
  refine tc_loopK [(0, _), (1, _), (4, _)] (by repeat (first | exact trivial | refine ⟨rfl, ?_⟩)) (fun p : Nat × Buf × List Value => [(6, .int .i64 ((p.1 * s : Nat) : Int)), (5, bufV p.2.1 p.1)]) (fun p => bufH 22 p.2.1 p.2.2 H)
    (fun p => p.1 * s ≤ xs.length ∧ bufOk 1 p.2.1 p.1 p.2.2 ∧ All2 (RN H) p.2.2 ((chunks s p.1 xs).map some)) (fun p => xs.length + 1 - p.1 * s) (0, none, []) ⟨by omega, ⟨rfl, rfl⟩, trivial⟩ ⟨geti rfl (by simp), rfl, trivial⟩ (List.Sublist.refl _) ?_
  rintro ⟨i, buf, ws⟩ ⟨hi, hok, hws⟩
  simp only at hi hok hws ⊢
  have hw := wrap_add (a := ((i * s : Nat) : Int)) (b := (s : Int)) (by omega) (by omega)
  by_cases hlt : i * s + s ≤ xs.length
  · have hc1 : icmp .leq (IntKind.i64.wrap (iarith .add ((i * s : Nat) : Int) (s : Int))) (xs.length : Int) = true := by rw [hw]; simp only [icmp, decide_eq_true_eq]; omega
    have hcut := FS.cut hf (l := i * s) (h := i * s + s) (by omega) hlt
    rw [show i * s + s - i * s = s by omega] at hcut
    have hne : c ≠ i * s := by omega
    have hw2 : IntKind.i64.wrap (iarith .add ((i * s : Nat) : Int) (s : Int)) = ((i * s + s : Nat) : Int) := by rw [hw]; omega
    have hrow := RN.cut hf (l := i * s) (h := i * s + s) (by omega) hlt
    rw [show i * s + s - i * s = s by omega] at hrow
    repeat' first
      | (first | refine tc_seq ?_ | refine tc_region ?_ | refine at_seq_normal ?_ | refine tl_nil ?_ | refine tl_cons ?_ | refine op_move ?_ | refine op_assign ?_ | refine op_fieldAddr ?_ | refine op_load ?_ | refine op_load_agg ?_ | refine op_indexC ?_ | refine op_indexAddr1 ?_ | refine op_indexAddr ?_ | refine op_icmp ?_ | refine op_fcmp ?_ | refine op_iarith ?_ | refine op_bcmp ?_ | refine op_unop_not ?_ | refine op_unop_neg_float ?_ | refine op_unop_neg_int ?_ | refine op_len_slice ?_ | refine op_pick_true ?_ | refine op_pick_false ?_ | refine op_pick_true' ?_ | refine op_pick_false' ?_ | refine op_build ?_ | refine op_extract ?_ | refine op_makeInterface ?_ | refine op_typeAssert ?_ | refine op_ptr_nil ?_ | refine op_nilCheck_ptr ?_ | refine op_nilCheck_meth ?_ | refine op_makeMeth ?_ | refine op_makeFunc ?_ | refine op_itof ?_ | refine op_itoi ?_ | refine op_ftoi ?_ | refine op_iquo ?_ | refine op_irem ?_ | refine op_ibits ?_ | refine op_slice_isnil ?_ | refine op_slice_notnil ?_ | refine op_imax ?_ | refine op_imin ?_ | refine op_shl ?_ | refine op_shr ?_ | (refine op_alloc ?_; intro _) | (refine op_box ?_; intro _) | (refine op_buildSlice ?_; intro _) | (refine op_farith ?_; intro _ _) | refine op_store0 ?_ | refine op_store1 ?_ | refine op_store2 ?_ | refine op_store3 ?_ | refine op_store4 ?_ | refine op_store5 ?_ | refine op_storeK rfl ?_ | refine op_loadK rfl ?_ | refine op_load_aggK rfl ?_ | refine tc_cond_t ?_ | refine tc_cond_f ?_ | refine tc_cond (fun _ => ?_) (fun _ => ?_) | refine tc_block ?_ | refine tc_skip ?_ | refine tc_ret ?_ | refine tc_exit ?_ | refine at_seq_ret ?_ | refine at_seq_exit ?_ | refine at_block_normal ?_ | refine at_block_ret ?_ | refine at_block_exit_self ?_ | refine at_block_exit_ne ?_ | refine at_loop_ret ?_ | refine at_loop_exit ?_ | refine tl_guard_yes ?_ | refine tl_guard_no ?_ | refine tl_guard_yes' ?_ | refine tl_guard_no' ?_ | refine tl_guard_undef ?_ | refine tl_guard_split (fun _ => ?_) (fun _ => ?_) | fail)
      | (refine op_slice_lh (l := i * s) (h := i * s + s) ?_ (hz := gete (by exact rfl) hw2))
      | (refine op_append (H' := H) buf i ws [slAt a (i * s) 1 (i * s + s) c] (m := 1) hok (fun buf' hok' => ?_) (by exact rfl) (by exact rfl) (List.sublist_cons_self _ _) List.mem_cons_self rfl rfl (by simp [Value.oneCell', slAt]) (by decide) (by simp only [maxLen]; have := Nat.le_mul_of_pos_right i hs; omega) (by have := Nat.le_mul_of_pos_right i hs; omega))
    refine at_loopK (i + 1, buf', ws ++ [_]) ⟨by simp only; rw [Nat.add_mul]; omega, hok', ?_⟩ (by simp only; rw [Nat.add_mul]; omega) ⟨geti rfl (by rw [hw2, Nat.add_mul, Nat.one_mul]), rfl, trivial⟩ (by repeat (first | exact trivial | refine ⟨rfl, ?_⟩)) (List.Sublist.refl _)
    simp only
    rw [chunks_succ, List.map_append]
    exact All2.snoc hws hrow
  · have hc1 : icmp .leq (IntKind.i64.wrap (iarith .add ((i * s : Nat) : Int) (s : Int))) (xs.length : Int) = false := by rw [hw]; simp only [icmp, decide_eq_false_iff_not]; omega
    have hi2 : i = xs.length / s := by
      have h1 := rows_step hlt hs
      have h2 : i ≤ xs.length / s := (Nat.le_div_iff_mul_le hs).2 hi
      omega
    have hsl := sl_buf (e := 22) (H := H) hok
    repeat' first
      | refine tc_seq ?_ | refine tc_region ?_ | refine at_seq_normal ?_ | refine tl_nil ?_ | refine tl_cons ?_ | refine op_move ?_ | refine op_assign ?_ | refine op_fieldAddr ?_ | refine op_load ?_ | refine op_load_agg ?_
      | refine op_indexC ?_ | refine op_indexAddr1 ?_ | refine op_indexAddr ?_ | refine op_icmp ?_ | refine op_fcmp ?_ | refine op_iarith ?_ | refine op_bcmp ?_ | refine op_unop_not ?_ | refine op_unop_neg_float ?_ | refine op_unop_neg_int ?_
      | refine op_len_slice ?_ | refine op_pick_true ?_ | refine op_pick_false ?_ | refine op_pick_true' ?_ | refine op_pick_false' ?_ | refine op_build ?_ | refine op_extract ?_ | refine op_makeInterface ?_ | refine op_typeAssert ?_ | refine op_ptr_nil ?_
      | refine op_nilCheck_ptr ?_ | refine op_nilCheck_meth ?_ | refine op_makeMeth ?_ | refine op_makeFunc ?_ | refine op_itof ?_ | refine op_itoi ?_ | refine op_ftoi ?_ | refine op_iquo ?_ | refine op_irem ?_ | refine op_ibits ?_
      | refine op_slice_isnil ?_ | refine op_slice_notnil ?_ | refine op_imax ?_ | refine op_imin ?_ | refine op_shl ?_ | refine op_shr ?_ | (refine op_alloc ?_; intro _) | (refine op_box ?_; intro _) | (refine op_buildSlice ?_; intro _) | (refine op_farith ?_; intro _ _)
      | refine op_store0 ?_ | refine op_store1 ?_ | refine op_store2 ?_ | refine op_store3 ?_ | refine op_store4 ?_ | refine op_store5 ?_ | refine op_storeK rfl ?_ | refine op_loadK rfl ?_ | refine op_load_aggK rfl ?_ | refine tc_cond_t ?_
      | refine tc_cond_f ?_ | refine tc_cond (fun _ => ?_) (fun _ => ?_) | refine tc_block ?_ | refine tc_skip ?_ | refine tc_ret ?_ | refine tc_exit ?_ | refine at_seq_ret ?_ | refine at_seq_exit ?_ | refine at_block_normal ?_ | refine at_block_ret ?_
      | refine at_block_exit_self ?_ | refine at_block_exit_ne ?_ | refine at_loop_ret ?_ | refine at_loop_exit ?_ | refine tl_guard_yes ?_ | refine tl_guard_no ?_ | refine tl_guard_yes' ?_ | refine tl_guard_no' ?_ | refine tl_guard_undef ?_ | refine tl_guard_split (fun _ => ?_) (fun _ => ?_)
    refine ret_tmp (hG := List.Sublist.refl _) (hk := ?_)
    refine ⟨(bufH 22 buf ws []), ?_, ws, hsl, ?_⟩
    · cases buf <;> rfl
    · rw [← hi2]; exact hws.mono fun _ _ h => h.mono (bufH_sub _ _ _ _).subset
end Go.Proofs.Ytcajankinofomaa.Flat
