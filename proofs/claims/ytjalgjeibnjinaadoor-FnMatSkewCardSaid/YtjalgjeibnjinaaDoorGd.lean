/-
  spec.Grid and what it calls. No conditions.
-/
import Derived.Test.YtjalgjeibnjinaaDoorTy
import Derived.Test.YtjalgjeibnjinaaDoorLg4
set_option linter.unusedVariables false
set_option linter.unusedSimpArgs false
namespace Go.Proofs.YtjalgjeibnjinaaDoor.Gd
open Go.Lg
theorem archTrunc (x : Nat) (H : Heap) : Does Tryd.prog 100 [.float .f64 x] H fun v H' => (∃ r, v = .float .f64 r ∧ TruncR x r) ∧ H' = H :=
  does_trunc Tryd.func100 rfl rfl (by kernel_rfl) (by kernel_rfl)
theorem trunc (x : Nat) (H : Heap) : Does Tryd.prog 82 [.float .f64 x] H fun v H' => (∃ r, v = .float .f64 r ∧ TruncR x r) ∧ H' = H := by
  refine fn_enter 7 Tryd.func82 fun W => ?_
  repeat' first
    | (first | refine tl_defer ?_ | refine tc_seq ?_ | refine tc_region ?_ | refine at_seq_normal ?_ | refine tl_nil ?_ | refine tl_cons ?_ | refine tl_cons_none ?_ | refine op_move ?_ | refine op_assign ?_ | refine op_fieldAddr ?_ | refine op_load ?_ | refine op_load_agg ?_ | refine op_indexC ?_ | refine op_indexAddr1 ?_ | refine op_indexAddr ?_ | refine op_icmp ?_ | refine op_fcmp ?_ | refine op_iarith ?_ | refine op_bcmp ?_ | refine op_unop_not ?_ | refine op_unop_neg_float ?_ | refine op_unop_neg_int ?_ | refine op_len_slice ?_ | refine op_pick_true ?_ | refine op_pick_false ?_ | refine op_pick_true' ?_ | refine op_pick_false' ?_ | refine op_build ?_ | refine op_extract ?_ | refine op_makeInterface ?_ | refine op_typeAssert ?_ | refine op_ptr_nil ?_ | refine op_nilCheck_ptr ?_ | refine op_nilCheck_meth ?_ | refine op_makeMeth ?_ | refine op_makeFunc ?_ | refine op_itof ?_ | refine op_itoi ?_ | refine op_ftoi ?_ | refine op_iquo ?_ | refine op_irem ?_ | refine op_ibits ?_ | refine op_slice_isnil ?_ | refine op_slice_notnil ?_ | refine op_imax ?_ | refine op_imin ?_ | refine op_shl ?_ | refine op_shr ?_ | (refine op_alloc ?_; intro _) | (refine op_box ?_; intro _) | (refine op_buildSlice ?_; intro _) | (refine op_farith ?_; intro _ _) | refine op_store0 ?_ | refine op_store1 ?_ | refine op_store2 ?_ | refine op_store3 ?_ | refine op_store4 ?_ | refine op_store5 ?_ | refine op_storeK rfl ?_ | refine op_loadK rfl ?_ | refine op_load_aggK rfl ?_ | refine tc_cond_t ?_ | refine tc_cond_f ?_ | refine tc_cond (fun _ => ?_) (fun _ => ?_) | refine tc_block ?_ | refine tc_skip ?_ | refine tc_ret ?_ | refine tc_exit ?_ | refine tc_label ?_ | refine at_seq_ret ?_ | refine at_seq_exit ?_ | refine at_block_normal ?_ | refine at_block_ret ?_ | refine at_block_exit_self ?_ | refine at_block_exit_ne ?_ | refine at_loop_ret ?_ | refine at_loop_exit ?_ | refine at_loop_goto ?_ | refine tl_guard_yes ?_ | refine tl_guard_no ?_ | refine tl_guard_yes' ?_ | refine tl_guard_no' ?_ | refine tl_guard_undef ?_ | refine tl_guard_split (fun _ => ?_) (fun _ => ?_))
    | (refine op_call ((archTrunc _ _).mono ?_); rintro _ _ ⟨⟨r, rfl, hr⟩, rfl⟩)
  first | exact ret_tmp (hk := ⟨⟨r, rfl, hr⟩, rfl⟩) | exact ret_cell (hr := rfl) (hk := ⟨⟨r, rfl, hr⟩, rfl⟩) | exact ret_agg (hr := rfl) (hk := ⟨⟨r, rfl, hr⟩, rfl⟩)

/-- A whole number from -most to most. -/
noncomputable def okNum (most x : Nat) : Bool := fcmp .geq x (Op.negFloat .f64 most) && fcmp .leq x most && fcmp .eql x (Ieee.double.write ((Ieee.double.read x).integral .zero))
noncomputable def gridB (pts : List (List Nat)) (dims : Nat) (most : Nat) : Bool := pts.all fun p => p.length == dims && p.all (okNum most)

theorem okNum_trunc {most x r : Nat} (h1 : fcmp .geq x (Op.negFloat .f64 most) = true) (h2 : fcmp .leq x most = true) (hr : TruncR x r) : okNum most x = !(fcmp .neq x r) := by
  have hn : (Ieee.double.read x).isNaN = false := by
    cases hd : Ieee.double.read x with
    | nan s t => simp [fcmp_def, fcmp0, Ieee.Format.order, hd, Ieee.Datum.order] at h2
    | number => rfl
    | infinity => rfl
  rcases hr with ⟨h, _⟩ | ⟨_, rfl⟩
  · rw [hn] at h; cases h
  · have e : okNum most x = fcmp .eql x (Ieee.double.write ((Ieee.double.read x).integral .zero)) := by unfold okNum; rw [h1, h2]; rfl
    rw [e]; simp [fcmp_def, fcmp0, bne]

theorem bad1 {most x : Nat} (h : fcmp .geq x (Op.negFloat .f64 most) = false) : okNum most x = false := by unfold okNum; rw [h]; rfl
theorem bad2 {most x : Nat} (h : (!fcmp .leq x most) = true) : okNum most x = false := by
  have h' : fcmp .leq x most = false := by simpa using h
  unfold okNum; rw [h']; simp
theorem bad3 {most x r : Nat} (h1 : fcmp .geq x (Op.negFloat .f64 most) = true) (h2 : (!fcmp .leq x most) = false) (hr : TruncR x r) (h : fcmp .neq x r = true) : okNum most x = false := by
  rw [okNum_trunc h1 (by simpa using h2) hr, h]; rfl
theorem good {most x r : Nat} (h1 : fcmp .geq x (Op.negFloat .f64 most) = true) (h2 : (!fcmp .leq x most) = false) (hr : TruncR x r) (h : fcmp .neq x r = false) : okNum most x = true := by
  rw [okNum_trunc h1 (by simpa using h2) hr, h]; rfl
theorem bad_at {p : List Nat} {i most dims x : Nat} (hx : p[i]? = some x) (hb : okNum most x = false) : (p.length == dims && p.all (okNum most)) = false := by
  have : p.all (okNum most) = false := List.all_eq_false.2 ⟨x, List.mem_of_getElem? hx, by simpa using hb⟩
  rw [this, Bool.and_false]
theorem take_snoc {p : List Nat} {i most x : Nat} (h : (p.take i).all (okNum most) = true) (hx : p[i]? = some x) (hb : okNum most x = true) : (p.take (i + 1)).all (okNum most) = true := by
  rw [List.take_add_one, List.all_append, h, hx]; simp [hb]

theorem gridB_bad {pts : List (List Nat)} {j dims most : Nat} {p : List Nat} (h : pts[j]? = some p) (hb : (p.length == dims && p.all (okNum most)) = false) : gridB pts dims most = false := by
  unfold gridB
  rw [List.all_eq_false]
  exact ⟨p, List.mem_of_getElem? h, by simpa using hb⟩
theorem gridB_snoc {pts : List (List Nat)} {j dims most : Nat} {p : List Nat} (hg : gridB (pts.take j) dims most = true) (h : pts[j]? = some p) (hl : p.length = dims) (ha : p.all (okNum most) = true) :
    gridB (pts.take (j + 1)) dims most = true := by
  unfold gridB at *
  rw [List.take_add_one, List.all_append, hg, h]
  simp [hl, ha]

theorem grid (v : Value) (pts : List (List Nat)) (dims most : Nat) (H : Heap) (hd : 0 < dims) (hdl : dims < 2 ^ 62) (hpl : pts.length < 2 ^ 62) (hpp : ∀ p ∈ pts, p.length < 2 ^ 62) (hss : SS H v pts) :
    Does Tryd.prog 61 [v, .int .i64 dims, .float .f64 most] H fun u H' => u = .bool (gridB pts dims most) ∧ H' = H := by
  obtain ⟨a0, cap0, hv⟩ := hss.val
  refine fn_enter 47 Tryd.func61 fun W => ?_
  have hlen : evalE [(11, v)] (.tmp 11) = some (.slice a0 pts.length cap0) := by rw [hv]; rfl
  subst hv
  repeat'
    first
      | refine tl_defer ?_ | refine tc_seq ?_ | refine tc_region ?_ | refine at_seq_normal ?_ | refine tl_nil ?_ | refine tl_cons ?_ | refine tl_cons_none ?_ | refine op_move ?_
      | refine op_assign ?_ | refine op_fieldAddr ?_ | refine op_load ?_ | refine op_load_agg ?_ | refine op_indexC ?_ | refine op_indexAddr1 ?_ | refine op_indexAddr ?_ | refine op_icmp ?_
      | refine op_fcmp ?_ | refine op_iarith ?_ | refine op_bcmp ?_ | refine op_unop_not ?_ | refine op_unop_neg_float ?_ | refine op_unop_neg_int ?_ | refine op_len_slice ?_ | refine op_pick_true ?_
      | refine op_pick_false ?_ | refine op_pick_true' ?_ | refine op_pick_false' ?_ | refine op_build ?_ | refine op_extract ?_ | refine op_makeInterface ?_ | refine op_typeAssert ?_ | refine op_ptr_nil ?_
      | refine op_nilCheck_ptr ?_ | refine op_nilCheck_meth ?_ | refine op_makeMeth ?_ | refine op_makeFunc ?_ | refine op_itof ?_ | refine op_itoi ?_ | refine op_ftoi ?_ | refine op_iquo ?_
      | refine op_irem ?_ | refine op_ibits ?_ | refine op_slice_isnil ?_ | refine op_slice_notnil ?_ | refine op_imax ?_ | refine op_imin ?_ | refine op_shl ?_ | refine op_shr ?_
      | (refine op_alloc ?_; intro _) | (refine op_box ?_; intro _) | (refine op_buildSlice ?_; intro _) | (refine op_farith ?_; intro _ _) | refine op_store0 ?_ | refine op_store1 ?_ | refine op_store2 ?_ | refine op_store3 ?_
      | refine op_store4 ?_ | refine op_store5 ?_ | refine tc_cond_t ?_ | refine tc_cond_f ?_ | refine tc_cond (fun _ => ?_) (fun _ => ?_) | refine tc_block ?_ | refine tc_skip ?_ | refine tc_ret ?_
      | refine tc_exit ?_ | refine tc_label ?_ | refine at_seq_ret ?_ | refine at_seq_exit ?_ | refine at_block_normal ?_ | refine at_block_ret ?_ | refine at_block_exit_self ?_ | refine at_block_exit_ne ?_
      | refine at_loop_ret ?_ | refine at_loop_exit ?_ | refine at_loop_goto ?_ | refine tl_guard_yes ?_ | refine tl_guard_no ?_ | refine tl_guard_yes' ?_ | refine tl_guard_no' ?_ | refine tl_guard_undef ?_
      | refine tl_guard_split (fun _ => ?_) (fun _ => ?_)
  refine tc_loop (fun j : Nat => [(0, .slice a0 pts.length cap0), (1, .int .i64 dims), (2, .float .f64 most), (11, .slice a0 pts.length cap0), (12, .int .i64 pts.length), (13, .int .i64 (j : Int))]) (fun _ => H)
    (fun j => j ≤ pts.length ∧ gridB (pts.take j) dims most = true) (fun j => pts.length - j) 0 ⟨Nat.zero_le _, rfl⟩ (Incl.get ⟨rfl, rfl, rfl, rfl, rfl, rfl, trivial⟩) (List.Sublist.refl _) ?_
  rintro j ⟨hj, hg⟩
  by_cases hlt : j < pts.length
  · have hb : icmp .lss (j : Int) (pts.length : Int) = true := by rw [lss_nat]; simpa using hlt
    have hget : pts[j]? = some pts[j] := List.getElem?_eq_getElem hlt
    obtain ⟨k, off, l, T, fz, cap, u, he, hm, hl, hu, hlt'⟩ := hss.at hget
    obtain ⟨a1, cap1, rfl⟩ := hu.val
    cases he
    repeat'
      first
        | refine tl_defer ?_ | refine tc_seq ?_ | refine tc_region ?_ | refine at_seq_normal ?_ | refine tl_nil ?_ | refine tl_cons ?_ | refine tl_cons_none ?_ | refine op_move ?_
        | refine op_assign ?_ | refine op_fieldAddr ?_ | refine op_load ?_ | refine op_load_agg ?_ | refine op_indexC ?_ | refine op_indexAddr1 ?_ | refine op_indexAddr ?_ | refine op_icmp ?_
        | refine op_fcmp ?_ | refine op_iarith ?_ | refine op_bcmp ?_ | refine op_unop_not ?_ | refine op_unop_neg_float ?_ | refine op_unop_neg_int ?_ | refine op_len_slice ?_ | refine op_pick_true ?_
        | refine op_pick_false ?_ | refine op_pick_true' ?_ | refine op_pick_false' ?_ | refine op_build ?_ | refine op_extract ?_ | refine op_makeInterface ?_ | refine op_typeAssert ?_ | refine op_ptr_nil ?_
        | refine op_nilCheck_ptr ?_ | refine op_nilCheck_meth ?_ | refine op_makeMeth ?_ | refine op_makeFunc ?_ | refine op_itof ?_ | refine op_itoi ?_ | refine op_ftoi ?_ | refine op_iquo ?_
        | refine op_irem ?_ | refine op_ibits ?_ | refine op_slice_isnil ?_ | refine op_slice_notnil ?_ | refine op_imax ?_ | refine op_imin ?_ | refine op_shl ?_ | refine op_shr ?_
        | (refine op_alloc ?_; intro _) | (refine op_box ?_; intro _) | (refine op_buildSlice ?_; intro _) | (refine op_farith ?_; intro _ _) | refine op_store0 ?_ | refine op_store1 ?_ | refine op_store2 ?_ | refine op_store3 ?_
        | refine op_store4 ?_ | refine op_store5 ?_ | refine tc_cond_t ?_ | refine tc_cond_f ?_ | refine tc_cond (fun _ => ?_) (fun _ => ?_) | refine tc_block ?_ | refine tc_skip ?_ | refine tc_ret ?_
        | refine tc_exit ?_ | refine tc_label ?_ | refine at_seq_ret ?_ | refine at_seq_exit ?_ | refine at_block_normal ?_ | refine at_block_ret ?_ | refine at_block_exit_self ?_ | refine at_block_exit_ne ?_
        | refine at_loop_ret ?_ | refine at_loop_exit ?_ | refine at_loop_goto ?_ | refine tl_guard_yes ?_ | refine tl_guard_no ?_ | refine tl_guard_yes' ?_ | refine tl_guard_no' ?_ | refine tl_guard_undef ?_
        | refine tl_guard_split (fun _ => ?_) (fun _ => ?_)
    · rename_i hne
      first | exact ret_tmp (hk := ⟨by rw [gridB_bad hget (by simp only [icmp, bne_iff_ne, ne_eq] at hne; simp; omega)], rfl⟩) | exact ret_cell (hr := rfl) (hk := ⟨by rw [gridB_bad hget (by simp only [icmp, bne_iff_ne, ne_eq] at hne; simp; omega)], rfl⟩) | exact ret_agg (hr := rfl) (hk := ⟨by rw [gridB_bad hget (by simp only [icmp, bne_iff_ne, ne_eq] at hne; simp; omega)], rfl⟩)
    rename_i hne
    have hpl' : pts[j].length = dims := by simp [icmp] at hne; omega
    clear hlen
    refine tc_loop (fun i : Nat => [(0, .slice (some ⟨k, off, none⟩) pts.length cap0), (1, .int .i64 dims), (2, .float .f64 most), (11, .slice (some ⟨k, off, none⟩) pts.length cap0), (12, .int .i64 pts.length), (13, .int .i64 (j : Int)), (21, .slice a1 pts[j].length cap1), (22, .int .i64 pts[j].length), (23, .int .i64 (i : Int))]) (fun _ => H)
      (fun i => i ≤ pts[j].length ∧ (pts[j].take i).all (okNum most) = true) (fun i => pts[j].length - i) 0 ⟨Nat.zero_le _, rfl⟩ (Incl.get ⟨rfl, rfl, rfl, rfl, rfl, rfl, rfl, rfl, rfl, trivial⟩) (List.Sublist.refl _) ?_
    rintro i ⟨hi, hgi⟩
    by_cases hil : i < pts[j].length
    · have hb2 : icmp .lss (i : Int) (pts[j].length : Int) = true := by rw [lss_nat]; simpa using hil
      have hget2 : pts[j][i]? = some pts[j][i] := List.getElem?_eq_getElem hil
      obtain ⟨k2, off2, l2, T2, fz2, cap2, he2, hm2, hl2, hil'⟩ := hu.at hget2
      cases he2
      generalize hx : pts[j][i] = x at *
      repeat' first
        | (first | refine tl_defer ?_ | refine tc_seq ?_ | refine tc_region ?_ | refine at_seq_normal ?_ | refine tl_nil ?_ | refine tl_cons ?_ | refine tl_cons_none ?_ | refine op_move ?_ | refine op_assign ?_ | refine op_fieldAddr ?_ | refine op_load ?_ | refine op_load_agg ?_ | refine op_indexC ?_ | refine op_indexAddr1 ?_ | refine op_indexAddr ?_ | refine op_icmp ?_ | refine op_fcmp ?_ | refine op_iarith ?_ | refine op_bcmp ?_ | refine op_unop_not ?_ | refine op_unop_neg_float ?_ | refine op_unop_neg_int ?_ | refine op_len_slice ?_ | refine op_pick_true ?_ | refine op_pick_false ?_ | refine op_pick_true' ?_ | refine op_pick_false' ?_ | refine op_build ?_ | refine op_extract ?_ | refine op_makeInterface ?_ | refine op_typeAssert ?_ | refine op_ptr_nil ?_ | refine op_nilCheck_ptr ?_ | refine op_nilCheck_meth ?_ | refine op_makeMeth ?_ | refine op_makeFunc ?_ | refine op_itof ?_ | refine op_itoi ?_ | refine op_ftoi ?_ | refine op_iquo ?_ | refine op_irem ?_ | refine op_ibits ?_ | refine op_slice_isnil ?_ | refine op_slice_notnil ?_ | refine op_imax ?_ | refine op_imin ?_ | refine op_shl ?_ | refine op_shr ?_ | (refine op_alloc ?_; intro _) | (refine op_box ?_; intro _) | (refine op_buildSlice ?_; intro _) | (refine op_farith ?_; intro _ _) | refine op_store0 ?_ | refine op_store1 ?_ | refine op_store2 ?_ | refine op_store3 ?_ | refine op_store4 ?_ | refine op_store5 ?_ | refine op_storeK rfl ?_ | refine op_loadK rfl ?_ | refine op_load_aggK rfl ?_ | refine tc_cond_t ?_ | refine tc_cond_f ?_ | refine tc_cond (fun _ => ?_) (fun _ => ?_) | refine tc_block ?_ | refine tc_skip ?_ | refine tc_ret ?_ | refine tc_exit ?_ | refine tc_label ?_ | refine at_seq_ret ?_ | refine at_seq_exit ?_ | refine at_block_normal ?_ | refine at_block_ret ?_ | refine at_block_exit_self ?_ | refine at_block_exit_ne ?_ | refine at_loop_ret ?_ | refine at_loop_exit ?_ | refine at_loop_goto ?_ | refine tl_guard_yes ?_ | refine tl_guard_no ?_ | refine tl_guard_yes' ?_ | refine tl_guard_no' ?_ | refine tl_guard_undef ?_ | refine tl_guard_split (fun _ => ?_) (fun _ => ?_))
        | (refine op_call ((trunc _ _).mono ?_); rintro _ _ ⟨⟨r, rfl, hr⟩, rfl⟩)
      all_goals first
        | (first | exact ret_tmp (hk := ⟨by rw [gridB_bad hget (bad_at hget2 (by first | exact bad1 (by assumption) | exact bad2 (by assumption) | exact bad3 (by assumption) (by assumption) hr (by assumption)))], rfl⟩) | exact ret_cell (hk := ⟨by rw [gridB_bad hget (bad_at hget2 (by first | exact bad1 (by assumption) | exact bad2 (by assumption) | exact bad3 (by assumption) (by assumption) hr (by assumption)))], rfl⟩))
        | (refine at_loop_normal (i + 1) ⟨hil, ?_⟩ (by omega) (Incl.get ⟨rfl, rfl, rfl, rfl, rfl, rfl, rfl, rfl, next_nat (by omega), trivial⟩) (List.Sublist.refl _)
           exact take_snoc hgi hget2 (good (by assumption) (by assumption) hr (by assumption)))
    · have hb2 : icmp .lss (i : Int) (pts[j].length : Int) = false := by rw [lss_nat]; simpa using hil
      repeat'
        first
          | refine tl_defer ?_ | refine tc_seq ?_ | refine tc_region ?_ | refine at_seq_normal ?_ | refine tl_nil ?_ | refine tl_cons ?_ | refine tl_cons_none ?_ | refine op_move ?_
          | refine op_assign ?_ | refine op_fieldAddr ?_ | refine op_load ?_ | refine op_load_agg ?_ | refine op_indexC ?_ | refine op_indexAddr1 ?_ | refine op_indexAddr ?_ | refine op_icmp ?_
          | refine op_fcmp ?_ | refine op_iarith ?_ | refine op_bcmp ?_ | refine op_unop_not ?_ | refine op_unop_neg_float ?_ | refine op_unop_neg_int ?_ | refine op_len_slice ?_ | refine op_pick_true ?_
          | refine op_pick_false ?_ | refine op_pick_true' ?_ | refine op_pick_false' ?_ | refine op_build ?_ | refine op_extract ?_ | refine op_makeInterface ?_ | refine op_typeAssert ?_ | refine op_ptr_nil ?_
          | refine op_nilCheck_ptr ?_ | refine op_nilCheck_meth ?_ | refine op_makeMeth ?_ | refine op_makeFunc ?_ | refine op_itof ?_ | refine op_itoi ?_ | refine op_ftoi ?_ | refine op_iquo ?_
          | refine op_irem ?_ | refine op_ibits ?_ | refine op_slice_isnil ?_ | refine op_slice_notnil ?_ | refine op_imax ?_ | refine op_imin ?_ | refine op_shl ?_ | refine op_shr ?_
          | (refine op_alloc ?_; intro _) | (refine op_box ?_; intro _) | (refine op_buildSlice ?_; intro _) | (refine op_farith ?_; intro _ _) | refine op_store0 ?_ | refine op_store1 ?_ | refine op_store2 ?_ | refine op_store3 ?_
          | refine op_store4 ?_ | refine op_store5 ?_ | refine tc_cond_t ?_ | refine tc_cond_f ?_ | refine tc_cond (fun _ => ?_) (fun _ => ?_) | refine tc_block ?_ | refine tc_skip ?_ | refine tc_ret ?_
          | refine tc_exit ?_ | refine tc_label ?_ | refine at_seq_ret ?_ | refine at_seq_exit ?_ | refine at_block_normal ?_ | refine at_block_ret ?_ | refine at_block_exit_self ?_ | refine at_block_exit_ne ?_
          | refine at_loop_ret ?_ | refine at_loop_exit ?_ | refine at_loop_goto ?_ | refine tl_guard_yes ?_ | refine tl_guard_no ?_ | refine tl_guard_yes' ?_ | refine tl_guard_no' ?_ | refine tl_guard_undef ?_
          | refine tl_guard_split (fun _ => ?_) (fun _ => ?_)
      refine at_loop_normal (j + 1) ⟨hlt, ?_⟩ (by omega) (Incl.get ⟨rfl, rfl, rfl, rfl, rfl, next_nat (by omega), trivial⟩) (List.Sublist.refl _)
      rw [List.take_of_length_le (by omega)] at hgi
      exact gridB_snoc hg hget (by omega) hgi
  · have hb : icmp .lss (j : Int) (pts.length : Int) = false := by rw [lss_nat]; simpa using hlt
    repeat'
      first
        | refine tl_defer ?_ | refine tc_seq ?_ | refine tc_region ?_ | refine at_seq_normal ?_ | refine tl_nil ?_ | refine tl_cons ?_ | refine tl_cons_none ?_ | refine op_move ?_
        | refine op_assign ?_ | refine op_fieldAddr ?_ | refine op_load ?_ | refine op_load_agg ?_ | refine op_indexC ?_ | refine op_indexAddr1 ?_ | refine op_indexAddr ?_ | refine op_icmp ?_
        | refine op_fcmp ?_ | refine op_iarith ?_ | refine op_bcmp ?_ | refine op_unop_not ?_ | refine op_unop_neg_float ?_ | refine op_unop_neg_int ?_ | refine op_len_slice ?_ | refine op_pick_true ?_
        | refine op_pick_false ?_ | refine op_pick_true' ?_ | refine op_pick_false' ?_ | refine op_build ?_ | refine op_extract ?_ | refine op_makeInterface ?_ | refine op_typeAssert ?_ | refine op_ptr_nil ?_
        | refine op_nilCheck_ptr ?_ | refine op_nilCheck_meth ?_ | refine op_makeMeth ?_ | refine op_makeFunc ?_ | refine op_itof ?_ | refine op_itoi ?_ | refine op_ftoi ?_ | refine op_iquo ?_
        | refine op_irem ?_ | refine op_ibits ?_ | refine op_slice_isnil ?_ | refine op_slice_notnil ?_ | refine op_imax ?_ | refine op_imin ?_ | refine op_shl ?_ | refine op_shr ?_
        | (refine op_alloc ?_; intro _) | (refine op_box ?_; intro _) | (refine op_buildSlice ?_; intro _) | (refine op_farith ?_; intro _ _) | refine op_store0 ?_ | refine op_store1 ?_ | refine op_store2 ?_ | refine op_store3 ?_
        | refine op_store4 ?_ | refine op_store5 ?_ | refine tc_cond_t ?_ | refine tc_cond_f ?_ | refine tc_cond (fun _ => ?_) (fun _ => ?_) | refine tc_block ?_ | refine tc_skip ?_ | refine tc_ret ?_
        | refine tc_exit ?_ | refine tc_label ?_ | refine at_seq_ret ?_ | refine at_seq_exit ?_ | refine at_block_normal ?_ | refine at_block_ret ?_ | refine at_block_exit_self ?_ | refine at_block_exit_ne ?_
        | refine at_loop_ret ?_ | refine at_loop_exit ?_ | refine at_loop_goto ?_ | refine tl_guard_yes ?_ | refine tl_guard_no ?_ | refine tl_guard_yes' ?_ | refine tl_guard_no' ?_ | refine tl_guard_undef ?_
        | refine tl_guard_split (fun _ => ?_) (fun _ => ?_)
    rw [List.take_of_length_le (by omega)] at hg
    first | exact ret_tmp (hk := ⟨by rw [hg]; simp [icmp]; omega, rfl⟩) | exact ret_cell (hr := rfl) (hk := ⟨by rw [hg]; simp [icmp]; omega, rfl⟩) | exact ret_agg (hr := rfl) (hk := ⟨by rw [hg]; simp [icmp]; omega, rfl⟩)
end Go.Proofs.YtjalgjeibnjinaaDoor.Gd
