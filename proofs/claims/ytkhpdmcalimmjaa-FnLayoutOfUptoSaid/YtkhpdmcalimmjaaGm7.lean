/-
  Multi polygons made of plain data. No conditions.
-/
import Derived.Test.YtkhpdmcalimmjaaGm2
set_option linter.unusedVariables false
set_option linter.unusedSimpArgs false
namespace Go.Proofs.Ytkhpdmcalimmjaa.Gm
open Go.Lg Go.Proofs.Ytkhpdmcalimmjaa.Geom

theorem take_snocI {α : Type} {l : List α} {j : Nat} {x : α} (h : l[j]? = some x) : l.take (j + 1) = l.take j ++ [x] := by
  rw [List.take_add_one, h]; rfl
set_option maxHeartbeats 8000000 in
theorem intss (v : Value) (ee : List (List Int)) (H : Heap) (hv : ISS H v ee) (hb : ee.length < 2 ^ 40) (hbb : ∀ e ∈ ee, e.length < 2 ^ 40) :
    Does Try.prog 34 [v] H fun w H' => ∃ ex a c, w = .slice a ee.length c ∧ H' = ex ++ H ∧ ISS ex w ee := by
  obtain ⟨a1, c1, rfl⟩ := hv.val
  refine fn_enter 19 Try.func34 fun W => ?_
  repeat' first
    | refine tc_seq ?_ | refine tc_region ?_ | refine at_seq_normal ?_ | refine tl_nil ?_ | refine tl_cons ?_ | refine op_move ?_ | refine op_assign ?_ | refine op_load ?_ | refine op_load_agg ?_ | refine op_indexC ?_
    | refine op_indexAddr1 ?_ | refine op_indexAddr ?_ | refine op_icmp ?_ | refine op_iarith ?_ | refine op_len_slice ?_ | (refine op_buildSlice ?_; intro _) | refine op_loadK rfl ?_ | refine op_load_aggK rfl ?_ | refine tc_cond_t ?_ | refine tc_cond_f ?_
    | refine tc_cond (fun _ => ?_) (fun _ => ?_) | refine tc_block ?_ | refine tc_skip ?_ | refine tc_ret ?_ | refine tc_exit ?_ | refine at_seq_ret ?_ | refine at_seq_exit ?_ | refine at_block_normal ?_ | refine at_block_ret ?_ | refine at_block_exit_self ?_
    | refine at_block_exit_ne ?_ | refine at_loop_ret ?_ | refine at_loop_exit ?_
  refine tc_loopK [(2, _), (6, _), (7, _)] (by repeat (first | exact trivial | refine ⟨rfl, ?_⟩)) (fun p : Nat × Buf × List Value × Heap => [(8, .int .i64 (p.1 : Int)), (3, bufV p.2.1 p.1)]) (fun p => bufH 23 p.2.1 p.2.2.1 (p.2.2.2 ++ H))
    (fun p => p.1 ≤ ee.length ∧ bufOk 1 p.2.1 p.1 p.2.2.1 ∧ All2 (IS p.2.2.2) p.2.2.1 (ee.take p.1)) (fun p => ee.length - p.1) (0, none, [], []) ⟨Nat.zero_le _, ⟨rfl, rfl⟩, by simp [All2]⟩ ⟨rfl, rfl, trivial⟩ (List.Sublist.refl _) ?_
  rintro ⟨j, buf, ws, pre⟩ ⟨hj, hok, hws⟩
  simp only at hj hok hws ⊢
  by_cases hlt : j < ee.length
  · have hlb : icmp .lss (j : Int) (ee.length : Int) = true := by rw [lss_nat]; simpa using hlt
    have t1 : ee[j]? = some ee[j] := List.getElem?_eq_getElem hlt
    have hbj := hbb _ (List.getElem_mem hlt)
    have hv2 := hv.mono (G' := bufH 23 buf ws (pre ++ H)) fun e he => (bufH_sub _ _ _ _).subset (by simp [he])
    obtain ⟨k1, o1, l1, T1, z1, _, x1, u1, mm1, ll1, r1, lt1⟩ := hv2.at t1
    cases u1
    generalize hr : ee[j] = r at *
    obtain ⟨a2, c2, rfl⟩ := r1.val
    repeat' first
      | (first | refine tc_seq ?_ | refine tc_region ?_ | refine at_seq_normal ?_ | refine tl_nil ?_ | refine tl_cons ?_ | refine op_move ?_ | refine op_assign ?_ | refine op_load ?_ | refine op_load_agg ?_ | refine op_indexC ?_ | refine op_indexAddr1 ?_ | refine op_indexAddr ?_ | refine op_icmp ?_ | refine op_iarith ?_ | refine op_len_slice ?_ | (refine op_buildSlice ?_; intro _) | refine op_loadK rfl ?_ | refine op_load_aggK rfl ?_ | refine tc_cond_t ?_ | refine tc_cond_f ?_ | refine tc_cond (fun _ => ?_) (fun _ => ?_) | refine tc_block ?_ | refine tc_skip ?_ | refine tc_ret ?_ | refine tc_exit ?_ | refine at_seq_ret ?_ | refine at_seq_exit ?_ | refine at_block_normal ?_ | refine at_block_ret ?_ | refine at_block_exit_self ?_ | refine at_block_exit_ne ?_ | refine at_loop_ret ?_ | refine at_loop_exit ?_ | fail)
      | (refine op_call ((ints _ r _ r1 hbj).mono ?_); rintro _ _ ⟨ex, a3, c3, rfl, rfl, f3, n3⟩)
      | (refine op_perm (bufH_app 23 buf ws ((_, _) :: ex) (pre ++ H)) ?_
         refine op_append (H' := ((_, _) :: ex) ++ (pre ++ H)) buf j ws [.slice a3 _ c3] (m := 1) hok (fun buf' hok' => ?_) (by exact rfl) (by exact rfl) (List.Sublist.refl _) ((bufH_sub _ _ _ _).subset List.mem_cons_self) rfl rfl (by simp [Value.oneCell']) (by decide) (by simp only [maxLen]; omega) (by omega))
      | fail
    refine at_loopK (j + 1, buf', ws ++ [_], ((_, _) :: ex) ++ pre) ⟨hlt, hok', ?_⟩ (by simp only; omega) ⟨next_nat (by omega), rfl, trivial⟩ (by repeat (first | exact trivial | refine ⟨rfl, ?_⟩)) (by simp only [List.append_assoc]; exact List.Sublist.refl _)
    simp only
    rw [take_snocI t1]
    exact All2.snoc (hws.mono fun _ _ h => h.mono fun e he => List.mem_append_right _ he) (f3.mono fun e he => by simp [he])
  · have hlb : icmp .lss (j : Int) (ee.length : Int) = false := by rw [lss_nat]; simpa using hlt
    obtain rfl : j = ee.length := by omega
    rw [List.take_length] at hws
    have hsl := sl_buf (e := 23) (H := pre) hok
    have hw : ISS (bufH 23 buf ws pre) (bufV buf ee.length) ee := ⟨ws, hsl, hws.mono fun _ _ h => h.mono fun e he => (bufH_sub _ _ _ _).subset he⟩
    repeat' first
      | refine tc_seq ?_ | refine tc_region ?_ | refine at_seq_normal ?_ | refine tl_nil ?_ | refine tl_cons ?_ | refine op_move ?_ | refine op_assign ?_ | refine op_load ?_ | refine op_load_agg ?_ | refine op_indexC ?_
      | refine op_indexAddr1 ?_ | refine op_indexAddr ?_ | refine op_icmp ?_ | refine op_iarith ?_ | refine op_len_slice ?_ | (refine op_buildSlice ?_; intro _) | refine op_loadK rfl ?_ | refine op_load_aggK rfl ?_ | refine tc_cond_t ?_ | refine tc_cond_f ?_
      | refine tc_cond (fun _ => ?_) (fun _ => ?_) | refine tc_block ?_ | refine tc_skip ?_ | refine tc_ret ?_ | refine tc_exit ?_ | refine at_seq_ret ?_ | refine at_seq_exit ?_ | refine at_block_normal ?_ | refine at_block_ret ?_ | refine at_block_exit_self ?_
      | refine at_block_exit_ne ?_ | refine at_loop_ret ?_ | refine at_loop_exit ?_
    cases buf with
    | none =>
      obtain ⟨h1, h2⟩ := hok
      refine ret_tmp (hG := List.Sublist.refl _) (hk := ⟨pre, none, 0, ?_, rfl, hw⟩)
      rw [h1]; rfl
    | some b => exact ret_tmp (hG := List.Sublist.refl _) (hk := ⟨_ :: pre, some ⟨b.1, 0, none⟩, b.2.1, rfl, rfl, hw⟩)
instance concMultiPolygon : Conc Try.prog 67 where
  eq := by kernel_rfl
theorem newMultiPolygon (n : Int) (h : 1 ≤ n) (a : Option Addr) (m c : Nat) (ae : Option Addr) (me ce : Nat) (H : Heap) : Does Try.prog 33 [.int .i64 n, .slice a m c, .slice ae me ce] H fun w H' => ∃ k T, w = .pointer (some ⟨k, 0, none⟩) ∧ H' = (k, Obj.cells ⟨row5 n (strideI n) (.slice a m c) 0 (.slice ae me ce)⟩ T (0, 0)) :: H := by
  refine fn_enter 37 Try.func33 fun W => ?_
  repeat' first
    | (refine op_call ((stride n h _).mono ?_); rintro _ _ ⟨rfl, rfl⟩)
    | (first | refine tc_seq ?_ | refine tc_region ?_ | refine at_seq_normal ?_ | refine tl_nil ?_ | refine tl_cons ?_ | refine tl_cons_none ?_ | refine op_move ?_ | refine op_assign ?_ | refine op_fieldAddr ?_ | refine op_nilCheck_ptr ?_ | refine op_nilCheck_meth ?_ | (refine op_alloc ?_; intro _) | refine op_store0 ?_ | refine op_store1 ?_ | refine op_store2 ?_ | refine op_store3 ?_ | refine op_store4 ?_ | refine op_store5 ?_ | refine op_storeK rfl ?_ | refine tc_ret ?_ | refine at_seq_ret ?_ | fail)
    | fail
  exact ret_tmp (hk := ⟨_, _, rfl, rfl⟩)
theorem sridMultiPolygon (k : Nat) (T : TypeId) (n s : Int) (v ve : Value) (r r' : Int) (H : Heap) : Does Try.prog 35 [.pointer (some ⟨k, 0, none⟩), .int .i64 r'] ((k, Obj.cells ⟨row5 n s v r ve⟩ T (0, 0)) :: H) fun w H' => w = .pointer (some ⟨k, 0, none⟩) ∧ H' = (k, Obj.cells ⟨row5 n s v r' ve⟩ T (0, 0)) :: H := by
  refine fn_enter 13 Try.func35 fun W => ?_
  repeat' first
    | (first | refine tc_seq ?_ | refine tc_region ?_ | refine at_seq_normal ?_ | refine tl_nil ?_ | refine tl_cons ?_ | refine tl_cons_none ?_ | refine op_move ?_ | refine op_assign ?_ | refine op_fieldAddr ?_ | refine op_nilCheck_ptr ?_ | refine op_nilCheck_meth ?_ | refine op_store0 ?_ | refine op_store1 ?_ | refine op_store2 ?_ | refine op_store3 ?_ | refine op_store4 ?_ | refine op_store5 ?_ | refine op_storeK rfl ?_ | refine tc_ret ?_ | refine at_seq_ret ?_ | fail)
    | fail
  exact ret_tmp (hk := ⟨rfl, rfl⟩)
/-- A pointer to a new multi polygon behind an interface. -/
def IsMG (l s : Int) (f : List Nat) (ee : List (List Int)) (H : Heap) (w : Value) (H' : Heap) : Prop := ∃ kp T a c ae ce R, w = .iface 67 (.pointer (some ⟨kp, 0, none⟩)) ∧ H' = (kp, Obj.cells ⟨row5 l (strideI l) (.slice a f.length c) s (.slice ae ee.length ce)⟩ T (0, 0)) :: R ∧ FS R (.slice a f.length c) f ∧ ISS R (.slice ae ee.length ce) ee ∧ ∃ ex, R = ex ++ H
set_option maxHeartbeats 8000000 in
theorem geometryMultiPolygon (l s : Int) (vf ve vee vk : Value) (f : List Nat) (ee : List (List Int)) (H : Heap) (hl : 1 ≤ l) (hf : FS H vf f) (hee : ISS H vee ee) (hb : f.length < 2 ^ 40) (hbe : ee.length < 2 ^ 40) (hbb : ∀ e ∈ ee, e.length < 2 ^ 40) :
    Does Try.prog 12 [.agg ⟨[.int .i64 6, .int .i64 l, .int .i64 s, vf, ve, vee, vk]⟩] H fun w H' => IsMG l s f ee H w H' := by
  refine fn_enter 116 Try.func12 fun W => ?_
  repeat' first
    | refine tc_seq ?_ | refine tc_region ?_ | refine at_seq_normal ?_ | refine tl_nil ?_ | refine tl_cons ?_ | refine tl_cons_none ?_ | refine op_move ?_ | refine op_assign ?_ | refine op_fieldAddr ?_ | refine op_load ?_
    | refine op_load_agg ?_ | refine op_indexC ?_ | refine op_indexAddr1 ?_ | refine op_indexAddr ?_ | refine op_icmp ?_ | refine op_fcmp ?_ | refine op_iarith ?_ | refine op_bcmp ?_ | refine op_unop_not ?_ | refine op_unop_neg_float ?_
    | refine op_unop_neg_int ?_ | refine op_len_slice ?_ | refine op_pick_true ?_ | refine op_pick_false ?_ | refine op_pick_true' ?_ | refine op_pick_false' ?_ | refine op_build ?_ | refine op_extract ?_ | refine op_makeInterface ?_ | refine op_typeAssert ?_
    | refine op_ptr_nil ?_ | refine op_nilCheck_ptr ?_ | refine op_nilCheck_meth ?_ | refine op_makeMeth ?_ | refine op_makeFunc ?_ | refine op_itof ?_ | refine op_itoi ?_ | refine op_ftoi ?_ | refine op_iquo ?_ | refine op_irem ?_
    | refine op_ibits ?_ | refine op_slice_isnil ?_ | refine op_slice_notnil ?_ | refine op_imax ?_ | refine op_imin ?_ | refine op_shl ?_ | refine op_shr ?_ | (refine op_alloc ?_; intro _) | (refine op_box ?_; intro _) | (refine op_buildSlice ?_; intro _)
    | (refine op_farith ?_; intro _ _) | refine op_store0 ?_ | refine op_store1 ?_ | refine op_store2 ?_ | refine op_store3 ?_ | refine op_store4 ?_ | refine op_store5 ?_ | refine op_storeK rfl ?_ | refine op_loadK rfl ?_ | refine op_load_aggK rfl ?_
    | refine tc_cond_t ?_ | refine tc_cond_f ?_ | refine tc_cond (fun _ => ?_) (fun _ => ?_) | refine tc_block ?_ | refine tc_skip ?_ | refine tc_ret ?_ | refine tc_exit ?_ | refine at_seq_ret ?_ | refine at_seq_exit ?_ | refine at_block_normal ?_
    | refine at_block_ret ?_ | refine at_block_exit_self ?_ | refine at_block_exit_ne ?_ | refine at_loop_ret ?_ | refine at_loop_exit ?_
  apply fun hole0 hole1 hole2 hole3 hE hD hml hdl hpr prem fin => tc_drawn 5 [is hole0, is hole1, is hole2, is hole3, (fun w ex G => ∃ a c, w = .slice a f.length c ∧ FS G (.slice a f.length c) f)]
    [some 8, some 9, some 10, some 11, some 12, some 3, some 4] [[], [0], [], [2], [3]] mixed ⟨(is_mono _), (is_mono _), (is_mono _), (is_mono _), (fun _ _ _ _ ⟨a, c, h1, h2⟩ hs => ⟨a, c, h1, h2.mono fun e he => hs _ he⟩), trivial⟩ prem fin hE hD rfl hml hdl hpr
  rotate_left 5
  · first | kernel_rfl | exact rfl
  · first | kernel_rfl | exact rfl
  · exact Nat.le_of_ble_eq_true rfl
  · first | kernel_rfl | exact rfl
  · first | kernel_rfl | exact rfl
  refine ⟨fun G hG => ?_, fun G hG => ?_, fun G hG => ?_, fun G hG => ?_, fun G hG => ?_, trivial⟩
  · simp only [with2, Step2, nthDst, putO]
    (refine op_fieldAddr ?_; exact ⟨[], rfl, rfl, rfl⟩)
  · rintro _ _ ⟨rfl, rfl⟩ -
    simp only [with2, Step2, nthDst, putO]
    ((first | refine op_load ?_ | refine op_load_agg ?_ | refine op_load ?_ (hm := Sub.mem (by assumption) (by (repeat (apply List.mem_cons_of_mem)); assumption)) | refine op_load_agg ?_ (hm := Sub.mem (by assumption) (by (repeat (apply List.mem_cons_of_mem)); assumption)) | refine op_loadH hG rfl ?_ | refine op_load_aggH hG rfl ?_); exact ⟨[], rfl, rfl, rfl⟩)
  · simp only [with2, Step2, nthDst, putO]
    (refine op_fieldAddr ?_; exact ⟨[], rfl, rfl, rfl⟩)
  · rintro _ _ ⟨rfl, rfl⟩ -
    simp only [with2, Step2, nthDst, putO]
    ((first | refine op_load ?_ | refine op_load_agg ?_ | refine op_load ?_ (hm := Sub.mem (by assumption) (by (repeat (apply List.mem_cons_of_mem)); assumption)) | refine op_load_agg ?_ (hm := Sub.mem (by assumption) (by (repeat (apply List.mem_cons_of_mem)); assumption)) | refine op_loadH hG rfl ?_ | refine op_load_aggH hG rfl ?_); exact ⟨[], rfl, rfl, rfl⟩)
  · rintro _ _ ⟨rfl, rfl⟩ -
    simp only [with2, Step2, nthDst, putO]
    (refine op_call ((Flat.floatsF _ _ _ (hf.mono fun e he => hG e (by simp [he])) hb).mono ?_); rintro _ _ ⟨ex, a, c, rfl, rfl, h1, -, -⟩; exact ⟨ex, rfl, a, c, rfl, h1.mono fun e he => List.mem_append_left _ he⟩)
  · rintro _ _ _ _ _ _ _ _ _ _ ⟨⟨a, c, rfl, hfs⟩, ⟨rfl, rfl⟩, ⟨rfl, rfl⟩, ⟨rfl, rfl⟩, ⟨rfl, rfl⟩, _⟩
    simp only [List.nil_append, List.cons_append, List.append_nil, List.drop_succ_cons, List.drop_zero, nthDst, putO]
    simp only [List.nil_append] at hfs
    repeat' first
      | (first | refine tc_seq ?_ | refine tc_region ?_ | refine at_seq_normal ?_ | refine tl_nil ?_ | refine tl_cons ?_ | refine tl_cons_none ?_ | refine op_move ?_ | refine op_assign ?_ | refine op_fieldAddr ?_ | refine op_load ?_ | refine op_load_agg ?_ | refine op_indexC ?_ | refine op_indexAddr1 ?_ | refine op_indexAddr ?_ | refine op_icmp ?_ | refine op_fcmp ?_ | refine op_iarith ?_ | refine op_bcmp ?_ | refine op_unop_not ?_ | refine op_unop_neg_float ?_ | refine op_unop_neg_int ?_ | refine op_len_slice ?_ | refine op_pick_true ?_ | refine op_pick_false ?_ | refine op_pick_true' ?_ | refine op_pick_false' ?_ | refine op_build ?_ | refine op_extract ?_ | refine op_makeInterface ?_ | refine op_typeAssert ?_ | refine op_ptr_nil ?_ | refine op_nilCheck_ptr ?_ | refine op_nilCheck_meth ?_ | refine op_makeMeth ?_ | refine op_makeFunc ?_ | refine op_itof ?_ | refine op_itoi ?_ | refine op_ftoi ?_ | refine op_iquo ?_ | refine op_irem ?_ | refine op_ibits ?_ | refine op_slice_isnil ?_ | refine op_slice_notnil ?_ | refine op_imax ?_ | refine op_imin ?_ | refine op_shl ?_ | refine op_shr ?_ | (refine op_alloc ?_; intro _) | (refine op_box ?_; intro _) | (refine op_buildSlice ?_; intro _) | (refine op_farith ?_; intro _ _) | refine op_store0 ?_ | refine op_store1 ?_ | refine op_store2 ?_ | refine op_store3 ?_ | refine op_store4 ?_ | refine op_store5 ?_ | refine op_storeK rfl ?_ | refine op_loadK rfl ?_ | refine op_load_aggK rfl ?_ | refine tc_cond_t ?_ | refine tc_cond_f ?_ | refine tc_cond (fun _ => ?_) (fun _ => ?_) | refine tc_block ?_ | refine tc_skip ?_ | refine tc_ret ?_ | refine tc_exit ?_ | refine at_seq_ret ?_ | refine at_seq_exit ?_ | refine at_block_normal ?_ | refine at_block_ret ?_ | refine at_block_exit_self ?_ | refine at_block_exit_ne ?_ | refine at_loop_ret ?_ | refine at_loop_exit ?_ | fail)
      | refine op_loadK rfl ?_
      | fail
    refine tc_anyQ mixed (by repeat (first | refine pq_seq ?_ | refine pq_block ?_ | refine pq_loop ?_ | exact pq_body)) fun hpq => ?_
    refine ta_take 0 rfl (by kernel_rfl) (by kernel_rfl) (by kernel_rfl) hpq rfl rfl (by decide) (by exact y_move) ?_
    refine ta_take 1 rfl (by kernel_rfl) (by kernel_rfl) (by kernel_rfl) hpq rfl rfl (by decide) (by exact y_move) ?_
    refine ta_take 2 rfl (by kernel_rfl) (by kernel_rfl) (by kernel_rfl) hpq rfl rfl (by decide) (by exact y_fieldAddr) ?_
    refine ta_take 6 rfl (by kernel_rfl) (by kernel_rfl) (by kernel_rfl) hpq rfl rfl (by decide) (by exact y_fieldAddr) ?_
    refine ta_two 3 7 (by kernel_rfl) rfl (by decide) rfl (by decide) ?_ ?_
    · refine op_loadK rfl ?_
      refine ta_two 4 7 (by kernel_rfl) rfl (by decide) rfl (by decide) ?_ ?_
      · (refine op_call ((intss _ ee _ (hee.mono exs) hbe hbb).mono ?_); rintro _ _ ⟨ex4, ae, ce, rfl, rfl, hes⟩)
        refine ta_two 5 7 (by kernel_rfl) rfl (by decide) rfl (by decide) ?_ ?_
        · (refine op_call ((newMultiPolygon l hl a f.length c ae ee.length ce _).mono ?_); rintro _ _ ⟨kp, T, rfl, rfl⟩)
          refine ta_only 7 (by kernel_rfl) rfl (by decide) ?_
          refine op_loadK rfl ?_
          refine ta_only 8 (by kernel_rfl) rfl (by decide) ?_
          (refine op_call ((sridMultiPolygon _ _ _ _ _ _ _ _ _).mono ?_); rintro _ _ ⟨rfl, rfl⟩)
          refine ta_only 9 (by kernel_rfl) rfl (by decide) ?_
          refine op_makeInterface ?_
          refine ta_take 10 rfl (by kernel_rfl) (by kernel_rfl) (by kernel_rfl) hpq rfl rfl (by decide) (by exact y_assign) ?_
          refine ta_done (by kernel_rfl) ?_
          repeat' first
            | (first | refine tc_seq ?_ | refine tc_region ?_ | refine at_seq_normal ?_ | refine tl_nil ?_ | refine tl_cons ?_ | refine tl_cons_none ?_ | refine op_move ?_ | refine op_assign ?_ | refine op_fieldAddr ?_ | refine op_load ?_ | refine op_load_agg ?_ | refine op_indexC ?_ | refine op_indexAddr1 ?_ | refine op_indexAddr ?_ | refine op_icmp ?_ | refine op_fcmp ?_ | refine op_iarith ?_ | refine op_bcmp ?_ | refine op_unop_not ?_ | refine op_unop_neg_float ?_ | refine op_unop_neg_int ?_ | refine op_len_slice ?_ | refine op_pick_true ?_ | refine op_pick_false ?_ | refine op_pick_true' ?_ | refine op_pick_false' ?_ | refine op_build ?_ | refine op_extract ?_ | refine op_makeInterface ?_ | refine op_typeAssert ?_ | refine op_ptr_nil ?_ | refine op_nilCheck_ptr ?_ | refine op_nilCheck_meth ?_ | refine op_makeMeth ?_ | refine op_makeFunc ?_ | refine op_itof ?_ | refine op_itoi ?_ | refine op_ftoi ?_ | refine op_iquo ?_ | refine op_irem ?_ | refine op_ibits ?_ | refine op_slice_isnil ?_ | refine op_slice_notnil ?_ | refine op_imax ?_ | refine op_imin ?_ | refine op_shl ?_ | refine op_shr ?_ | (refine op_alloc ?_; intro _) | (refine op_box ?_; intro _) | (refine op_buildSlice ?_; intro _) | (refine op_farith ?_; intro _ _) | refine op_store0 ?_ | refine op_store1 ?_ | refine op_store2 ?_ | refine op_store3 ?_ | refine op_store4 ?_ | refine op_store5 ?_ | refine op_storeK rfl ?_ | refine op_loadK rfl ?_ | refine op_load_aggK rfl ?_ | refine tc_cond_t ?_ | refine tc_cond_f ?_ | refine tc_cond (fun _ => ?_) (fun _ => ?_) | refine tc_block ?_ | refine tc_skip ?_ | refine tc_ret ?_ | refine tc_exit ?_ | refine at_seq_ret ?_ | refine at_seq_exit ?_ | refine at_block_normal ?_ | refine at_block_ret ?_ | refine at_block_exit_self ?_ | refine at_block_exit_ne ?_ | refine at_loop_ret ?_ | refine at_loop_exit ?_ | fail)
            | fail
          exact ret_tmp (hG := List.Sublist.refl _) (hk := ⟨_, _, _, _, _, _, _, rfl, rfl, hfs.mono ins, hes.mono ins, ExC.ex⟩)
        · refine op_loadK rfl ?_
          refine ta_only 5 (by kernel_rfl) rfl (by decide) ?_
          (refine op_call ((newMultiPolygon l hl a f.length c ae ee.length ce _).mono ?_); rintro _ _ ⟨kp, T, rfl, rfl⟩)
          refine ta_only 8 (by kernel_rfl) rfl (by decide) ?_
          (refine op_call ((sridMultiPolygon _ _ _ _ _ _ _ _ _).mono ?_); rintro _ _ ⟨rfl, rfl⟩)
          refine ta_only 9 (by kernel_rfl) rfl (by decide) ?_
          refine op_makeInterface ?_
          refine ta_take 10 rfl (by kernel_rfl) (by kernel_rfl) (by kernel_rfl) hpq rfl rfl (by decide) (by exact y_assign) ?_
          refine ta_done (by kernel_rfl) ?_
          repeat' first
            | (first | refine tc_seq ?_ | refine tc_region ?_ | refine at_seq_normal ?_ | refine tl_nil ?_ | refine tl_cons ?_ | refine tl_cons_none ?_ | refine op_move ?_ | refine op_assign ?_ | refine op_fieldAddr ?_ | refine op_load ?_ | refine op_load_agg ?_ | refine op_indexC ?_ | refine op_indexAddr1 ?_ | refine op_indexAddr ?_ | refine op_icmp ?_ | refine op_fcmp ?_ | refine op_iarith ?_ | refine op_bcmp ?_ | refine op_unop_not ?_ | refine op_unop_neg_float ?_ | refine op_unop_neg_int ?_ | refine op_len_slice ?_ | refine op_pick_true ?_ | refine op_pick_false ?_ | refine op_pick_true' ?_ | refine op_pick_false' ?_ | refine op_build ?_ | refine op_extract ?_ | refine op_makeInterface ?_ | refine op_typeAssert ?_ | refine op_ptr_nil ?_ | refine op_nilCheck_ptr ?_ | refine op_nilCheck_meth ?_ | refine op_makeMeth ?_ | refine op_makeFunc ?_ | refine op_itof ?_ | refine op_itoi ?_ | refine op_ftoi ?_ | refine op_iquo ?_ | refine op_irem ?_ | refine op_ibits ?_ | refine op_slice_isnil ?_ | refine op_slice_notnil ?_ | refine op_imax ?_ | refine op_imin ?_ | refine op_shl ?_ | refine op_shr ?_ | (refine op_alloc ?_; intro _) | (refine op_box ?_; intro _) | (refine op_buildSlice ?_; intro _) | (refine op_farith ?_; intro _ _) | refine op_store0 ?_ | refine op_store1 ?_ | refine op_store2 ?_ | refine op_store3 ?_ | refine op_store4 ?_ | refine op_store5 ?_ | refine op_storeK rfl ?_ | refine op_loadK rfl ?_ | refine op_load_aggK rfl ?_ | refine tc_cond_t ?_ | refine tc_cond_f ?_ | refine tc_cond (fun _ => ?_) (fun _ => ?_) | refine tc_block ?_ | refine tc_skip ?_ | refine tc_ret ?_ | refine tc_exit ?_ | refine at_seq_ret ?_ | refine at_seq_exit ?_ | refine at_block_normal ?_ | refine at_block_ret ?_ | refine at_block_exit_self ?_ | refine at_block_exit_ne ?_ | refine at_loop_ret ?_ | refine at_loop_exit ?_ | fail)
            | fail
          exact ret_tmp (hG := List.Sublist.refl _) (hk := ⟨_, _, _, _, _, _, _, rfl, rfl, hfs.mono ins, hes.mono ins, ExC.ex⟩)
      · refine op_loadK rfl ?_
        refine ta_only 4 (by kernel_rfl) rfl (by decide) ?_
        (refine op_call ((intss _ ee _ (hee.mono exs) hbe hbb).mono ?_); rintro _ _ ⟨ex4, ae, ce, rfl, rfl, hes⟩)
        refine ta_only 5 (by kernel_rfl) rfl (by decide) ?_
        (refine op_call ((newMultiPolygon l hl a f.length c ae ee.length ce _).mono ?_); rintro _ _ ⟨kp, T, rfl, rfl⟩)
        refine ta_only 8 (by kernel_rfl) rfl (by decide) ?_
        (refine op_call ((sridMultiPolygon _ _ _ _ _ _ _ _ _).mono ?_); rintro _ _ ⟨rfl, rfl⟩)
        refine ta_only 9 (by kernel_rfl) rfl (by decide) ?_
        refine op_makeInterface ?_
        refine ta_take 10 rfl (by kernel_rfl) (by kernel_rfl) (by kernel_rfl) hpq rfl rfl (by decide) (by exact y_assign) ?_
        refine ta_done (by kernel_rfl) ?_
        repeat' first
          | (first | refine tc_seq ?_ | refine tc_region ?_ | refine at_seq_normal ?_ | refine tl_nil ?_ | refine tl_cons ?_ | refine tl_cons_none ?_ | refine op_move ?_ | refine op_assign ?_ | refine op_fieldAddr ?_ | refine op_load ?_ | refine op_load_agg ?_ | refine op_indexC ?_ | refine op_indexAddr1 ?_ | refine op_indexAddr ?_ | refine op_icmp ?_ | refine op_fcmp ?_ | refine op_iarith ?_ | refine op_bcmp ?_ | refine op_unop_not ?_ | refine op_unop_neg_float ?_ | refine op_unop_neg_int ?_ | refine op_len_slice ?_ | refine op_pick_true ?_ | refine op_pick_false ?_ | refine op_pick_true' ?_ | refine op_pick_false' ?_ | refine op_build ?_ | refine op_extract ?_ | refine op_makeInterface ?_ | refine op_typeAssert ?_ | refine op_ptr_nil ?_ | refine op_nilCheck_ptr ?_ | refine op_nilCheck_meth ?_ | refine op_makeMeth ?_ | refine op_makeFunc ?_ | refine op_itof ?_ | refine op_itoi ?_ | refine op_ftoi ?_ | refine op_iquo ?_ | refine op_irem ?_ | refine op_ibits ?_ | refine op_slice_isnil ?_ | refine op_slice_notnil ?_ | refine op_imax ?_ | refine op_imin ?_ | refine op_shl ?_ | refine op_shr ?_ | (refine op_alloc ?_; intro _) | (refine op_box ?_; intro _) | (refine op_buildSlice ?_; intro _) | (refine op_farith ?_; intro _ _) | refine op_store0 ?_ | refine op_store1 ?_ | refine op_store2 ?_ | refine op_store3 ?_ | refine op_store4 ?_ | refine op_store5 ?_ | refine op_storeK rfl ?_ | refine op_loadK rfl ?_ | refine op_load_aggK rfl ?_ | refine tc_cond_t ?_ | refine tc_cond_f ?_ | refine tc_cond (fun _ => ?_) (fun _ => ?_) | refine tc_block ?_ | refine tc_skip ?_ | refine tc_ret ?_ | refine tc_exit ?_ | refine at_seq_ret ?_ | refine at_seq_exit ?_ | refine at_block_normal ?_ | refine at_block_ret ?_ | refine at_block_exit_self ?_ | refine at_block_exit_ne ?_ | refine at_loop_ret ?_ | refine at_loop_exit ?_ | fail)
          | fail
        exact ret_tmp (hG := List.Sublist.refl _) (hk := ⟨_, _, _, _, _, _, _, rfl, rfl, hfs.mono ins, hes.mono ins, ExC.ex⟩)
    · refine op_loadK rfl ?_
      refine ta_only 3 (by kernel_rfl) rfl (by decide) ?_
      refine op_loadK rfl ?_
      refine ta_only 4 (by kernel_rfl) rfl (by decide) ?_
      (refine op_call ((intss _ ee _ (hee.mono exs) hbe hbb).mono ?_); rintro _ _ ⟨ex4, ae, ce, rfl, rfl, hes⟩)
      refine ta_only 5 (by kernel_rfl) rfl (by decide) ?_
      (refine op_call ((newMultiPolygon l hl a f.length c ae ee.length ce _).mono ?_); rintro _ _ ⟨kp, T, rfl, rfl⟩)
      refine ta_only 8 (by kernel_rfl) rfl (by decide) ?_
      (refine op_call ((sridMultiPolygon _ _ _ _ _ _ _ _ _).mono ?_); rintro _ _ ⟨rfl, rfl⟩)
      refine ta_only 9 (by kernel_rfl) rfl (by decide) ?_
      refine op_makeInterface ?_
      refine ta_take 10 rfl (by kernel_rfl) (by kernel_rfl) (by kernel_rfl) hpq rfl rfl (by decide) (by exact y_assign) ?_
      refine ta_done (by kernel_rfl) ?_
      repeat' first
        | (first | refine tc_seq ?_ | refine tc_region ?_ | refine at_seq_normal ?_ | refine tl_nil ?_ | refine tl_cons ?_ | refine tl_cons_none ?_ | refine op_move ?_ | refine op_assign ?_ | refine op_fieldAddr ?_ | refine op_load ?_ | refine op_load_agg ?_ | refine op_indexC ?_ | refine op_indexAddr1 ?_ | refine op_indexAddr ?_ | refine op_icmp ?_ | refine op_fcmp ?_ | refine op_iarith ?_ | refine op_bcmp ?_ | refine op_unop_not ?_ | refine op_unop_neg_float ?_ | refine op_unop_neg_int ?_ | refine op_len_slice ?_ | refine op_pick_true ?_ | refine op_pick_false ?_ | refine op_pick_true' ?_ | refine op_pick_false' ?_ | refine op_build ?_ | refine op_extract ?_ | refine op_makeInterface ?_ | refine op_typeAssert ?_ | refine op_ptr_nil ?_ | refine op_nilCheck_ptr ?_ | refine op_nilCheck_meth ?_ | refine op_makeMeth ?_ | refine op_makeFunc ?_ | refine op_itof ?_ | refine op_itoi ?_ | refine op_ftoi ?_ | refine op_iquo ?_ | refine op_irem ?_ | refine op_ibits ?_ | refine op_slice_isnil ?_ | refine op_slice_notnil ?_ | refine op_imax ?_ | refine op_imin ?_ | refine op_shl ?_ | refine op_shr ?_ | (refine op_alloc ?_; intro _) | (refine op_box ?_; intro _) | (refine op_buildSlice ?_; intro _) | (refine op_farith ?_; intro _ _) | refine op_store0 ?_ | refine op_store1 ?_ | refine op_store2 ?_ | refine op_store3 ?_ | refine op_store4 ?_ | refine op_store5 ?_ | refine op_storeK rfl ?_ | refine op_loadK rfl ?_ | refine op_load_aggK rfl ?_ | refine tc_cond_t ?_ | refine tc_cond_f ?_ | refine tc_cond (fun _ => ?_) (fun _ => ?_) | refine tc_block ?_ | refine tc_skip ?_ | refine tc_ret ?_ | refine tc_exit ?_ | refine at_seq_ret ?_ | refine at_seq_exit ?_ | refine at_block_normal ?_ | refine at_block_ret ?_ | refine at_block_exit_self ?_ | refine at_block_exit_ne ?_ | refine at_loop_ret ?_ | refine at_loop_exit ?_ | fail)
        | fail
      exact ret_tmp (hG := List.Sublist.refl _) (hk := ⟨_, _, _, _, _, _, _, rfl, rfl, hfs.mono ins, hes.mono ins, ExC.ex⟩)
end Go.Proofs.Ytkhpdmcalimmjaa.Gm
