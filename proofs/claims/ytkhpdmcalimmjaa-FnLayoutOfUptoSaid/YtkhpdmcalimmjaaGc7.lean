/-
  Geometries of plain data of all kinds. No conditions beyond the bounds.
-/
import Derived.Test.YtkhpdmcalimmjaaGc6
import Derived.Test.YtkhpdmcalimmjaaLg24
set_option linter.unusedVariables false
set_option linter.unusedSimpArgs false
namespace Go.Proofs.Ytkhpdmcalimmjaa.Gm
open Go.Lg Go.Proofs.Ytkhpdmcalimmjaa.Geom

instance concCol : Conc Try.prog colT where
  eq := by kernel_rfl
set_option maxHeartbeats 16000000 in
theorem geoT : ∀ (N : Nat) (g : Geo) (cs : List Value) (H : Heap), g.wt ≤ N → g.wt ≤ 2000 → g.Good → IsG H g cs → Does Try.prog 12 [.agg ⟨cs⟩] H fun w H' => NewL g H w H' := by
  intro N
  induction N with
  | zero => intro g cs H h; have := g.wt_pos; omega
  | succ N ih =>
    intro g cs H hN hw hgood hg
    match g, hN, hw, hgood, hg with
    | .mk k l s f e ee ks, hN, hw, hgood, hg =>
    by_cases hk7 : k = 7
    rotate_left
    · exact geoSimple _ cs H hw hgood hg (fun l' s' f' e' ee' ks' h => by injection h with h; exact hk7 h)
    subst hk7
    unfold Geo.Good at hgood
    rcases hgood with ⟨_, hgs, hl0, _⟩ | ⟨h, _⟩
    rotate_left
    · exact absurd rfl h
    have hgs' := Geo.Goods_iff.1 hgs
    unfold Geo.wt at hN hw
    have hwl := Geo.wts_len ks
    obtain ⟨vf, ve, vee, vk, rows, rfl, hf, he, hee, hkk, _, _, hks⟩ := hg
    obtain ⟨af, cf, rfl⟩ := hf.val
    obtain ⟨ae, ce, rfl⟩ := he.val
    obtain ⟨aee, cee, rfl⟩ := hee.val
    obtain ⟨avk, cvk, rfl, _⟩ := hkk.val
    refine fn_enter 116 Try.func12 fun W => ?_
    repeat' first
      | refine tc_seq ?_ | refine tc_region ?_ | refine at_seq_normal ?_ | refine tl_nil ?_ | refine tl_cons ?_ | refine tl_cons_none ?_ | refine op_move ?_ | refine op_assign ?_ | refine op_fieldAddr ?_ | refine op_load ?_
      | refine op_load_agg ?_ | refine op_indexC ?_ | refine op_indexAddr1 ?_ | refine op_indexAddr ?_ | refine op_icmp ?_ | refine op_fcmp ?_ | refine op_iarith ?_ | refine op_bcmp ?_ | refine op_unop_not ?_ | refine op_unop_neg_float ?_
      | refine op_unop_neg_int ?_ | refine op_len_slice ?_ | refine op_pick_true ?_ | refine op_pick_false ?_ | refine op_pick_true' ?_ | refine op_pick_false' ?_ | refine op_build ?_ | refine op_extract ?_ | refine op_makeInterface ?_ | refine op_typeAssert ?_
      | refine op_ptr_nil ?_ | refine op_nilCheck_ptr ?_ | refine op_nilCheck_meth ?_ | refine op_makeMeth ?_ | refine op_makeFunc ?_ | refine op_itof ?_ | refine op_itoi ?_ | refine op_ftoi ?_ | refine op_iquo ?_ | refine op_irem ?_
      | refine op_ibits ?_ | refine op_slice_isnil ?_ | refine op_slice_notnil ?_ | refine op_imax ?_ | refine op_imin ?_ | refine op_shl ?_ | refine op_shr ?_ | (refine op_alloc ?_; intro _) | (refine op_box ?_; intro _) | (refine op_buildSlice ?_; intro _)
      | (refine op_farith ?_; intro _ _) | refine op_store0 ?_ | refine op_store1 ?_ | refine op_store2 ?_ | refine op_store3 ?_ | refine op_store4 ?_ | refine op_store5 ?_ | refine op_storeK rfl ?_ | refine op_loadK rfl ?_ | refine op_load_aggK rfl ?_
      | refine tc_cond_t ?_ | refine tc_cond_f ?_ | refine tc_cond (fun _ => ?_) (fun _ => ?_) | refine tc_block ?_ | refine tc_skip ?_ | refine tc_ret ?_ | refine tc_exit ?_ | refine at_seq_ret ?_ | refine at_seq_exit ?_ | refine at_block_normal ?_
      | refine at_block_ret ?_ | refine at_block_exit_self ?_ | refine at_block_exit_ne ?_ | refine at_loop_ret ?_ | refine at_loop_exit ?_
    apply fun hole0 hole1 hole2 hole3 hE hD hml hdl hpr prem fin => tc_drawnD 5 [PhiD.is hole0, PhiD.is hole1, PhiD.is hole2, PhiD.is hole3, PhiD.gen (fun w ex G => ∃ a c, w = .slice a f.length c ∧ FS G (.slice a f.length c) f)]
      [some 8, some 9, some 10, some 11, some 12, some 3, some 4] [[], [0], [], [2], [3]] mixed ⟨(fun _ _ _ _ ⟨a, c, h1, h2⟩ hs => ⟨a, c, h1, h2.mono fun e he => hs _ he⟩), trivial⟩ prem fin hE hD rfl hml hdl hpr
    rotate_left 5
    · first | kernel_rfl | exact rfl
    · first | kernel_rfl | exact rfl
    · exact Nat.le_of_ble_eq_true rfl
    · first | kernel_rfl | exact rfl
    · first | kernel_rfl | exact rfl
    refine ⟨fun G hG => ?_, fun G hG => ?_, fun G hG => ?_, fun G hG => ?_, fun G hG => ?_, trivial⟩
    · simp only [withD, nthD, Step2, nthDst, putO, postD]
      (refine op_fieldAddr ?_; exact ⟨[], rfl, rfl, rfl⟩)
    · simp only [withD, nthD, Step2, nthDst, putO, postD]
      ((first | refine op_load ?_ | refine op_load_agg ?_ | refine op_load ?_ (hm := Sub.mem (by assumption) (by (repeat (apply List.mem_cons_of_mem)); assumption)) | refine op_load_agg ?_ (hm := Sub.mem (by assumption) (by (repeat (apply List.mem_cons_of_mem)); assumption)) | refine op_loadH hG rfl ?_ | refine op_load_aggH hG rfl ?_); exact ⟨[], rfl, rfl, rfl⟩)
    · simp only [withD, nthD, Step2, nthDst, putO, postD]
      (refine op_fieldAddr ?_; exact ⟨[], rfl, rfl, rfl⟩)
    · simp only [withD, nthD, Step2, nthDst, putO, postD]
      ((first | refine op_load ?_ | refine op_load_agg ?_ | refine op_load ?_ (hm := Sub.mem (by assumption) (by (repeat (apply List.mem_cons_of_mem)); assumption)) | refine op_load_agg ?_ (hm := Sub.mem (by assumption) (by (repeat (apply List.mem_cons_of_mem)); assumption)) | refine op_loadH hG rfl ?_ | refine op_load_aggH hG rfl ?_); exact ⟨[], rfl, rfl, rfl⟩)
    · simp only [withD, nthD, Step2, nthDst, putO, postD]
      (refine op_call ((Flat.floatsF _ _ _ (hf.mono fun e he => hG e (by simp [he])) (by omega)).mono ?_); rintro _ _ ⟨ex, a, c, rfl, rfl, h1, -, -⟩; exact ⟨ex, rfl, a, c, rfl, h1.mono fun e he => List.mem_append_left _ he⟩)
    simp only [FinalsD, nthDst, putO, List.drop_succ_cons, List.drop_zero]
    rintro _ _ ⟨⟨a, c, rfl, hfs⟩, -⟩
    try simp only [List.nil_append]
    repeat' first
      | refine op_loadK rfl ?_
      | (first | refine tc_seq ?_ | refine tc_region ?_ | refine at_seq_normal ?_ | refine tl_nil ?_ | refine tl_cons ?_ | refine tl_cons_none ?_ | refine op_move ?_ | refine op_assign ?_ | refine op_fieldAddr ?_ | refine op_load ?_ | refine op_load_agg ?_ | refine op_indexC ?_ | refine op_indexAddr1 ?_ | refine op_indexAddr ?_ | refine op_icmp ?_ | refine op_fcmp ?_ | refine op_iarith ?_ | refine op_bcmp ?_ | refine op_unop_not ?_ | refine op_unop_neg_float ?_ | refine op_unop_neg_int ?_ | refine op_len_slice ?_ | refine op_pick_true ?_ | refine op_pick_false ?_ | refine op_pick_true' ?_ | refine op_pick_false' ?_ | refine op_build ?_ | refine op_extract ?_ | refine op_makeInterface ?_ | refine op_typeAssert ?_ | refine op_ptr_nil ?_ | refine op_nilCheck_ptr ?_ | refine op_nilCheck_meth ?_ | refine op_makeMeth ?_ | refine op_makeFunc ?_ | refine op_itof ?_ | refine op_itoi ?_ | refine op_ftoi ?_ | refine op_iquo ?_ | refine op_irem ?_ | refine op_ibits ?_ | refine op_slice_isnil ?_ | refine op_slice_notnil ?_ | refine op_imax ?_ | refine op_imin ?_ | refine op_shl ?_ | refine op_shr ?_ | (refine op_alloc ?_; intro _) | (refine op_box ?_; intro _) | (refine op_buildSlice ?_; intro _) | (refine op_farith ?_; intro _ _) | refine op_store0 ?_ | refine op_store1 ?_ | refine op_store2 ?_ | refine op_store3 ?_ | refine op_store4 ?_ | refine op_store5 ?_ | refine op_storeK rfl ?_ | refine op_loadK rfl ?_ | refine op_load_aggK rfl ?_ | refine tc_cond_t ?_ | refine tc_cond_f ?_ | refine tc_cond (fun _ => ?_) (fun _ => ?_) | refine tc_block ?_ | refine tc_skip ?_ | refine tc_ret ?_ | refine tc_exit ?_ | refine at_seq_ret ?_ | refine at_seq_exit ?_ | refine at_block_normal ?_ | refine at_block_ret ?_ | refine at_block_exit_self ?_ | refine at_block_exit_ne ?_ | refine at_loop_ret ?_ | refine at_loop_exit ?_ | fail)
      | fail
    apply fun hole0 hole1 hE hD hml hdl hpr prem fin => tc_drawnD 3 [PhiD.gen (some' (fun w ex => ∃ kc T, w = .pointer (some ⟨kc, 0, none⟩) ∧ ex = [(kc, Obj.cells ⟨col3 0 (.slice none 0 0) 0⟩ T (0, 0))])), PhiD.is hole0, PhiD.is hole1]
      [some 94, some 95, some 96, some 97, some 5] [[], [], [1]] mixed ⟨(some_mono _), trivial⟩ prem fin hE hD rfl hml hdl hpr
    rotate_left 3
    · first | kernel_rfl | exact rfl
    · first | kernel_rfl | exact rfl
    · exact Nat.le_of_ble_eq_true rfl
    · first | kernel_rfl | exact rfl
    · first | kernel_rfl | exact rfl
    refine ⟨fun G hG => ?_, fun G hG => ?_, fun G hG => ?_, trivial⟩
    · simp only [withD, nthD, Step2, nthDst, putO, postD]
      (refine op_call ((newCol _).mono ?_); rintro _ _ ⟨kc, T, rfl, rfl⟩; exact ⟨[_], rfl, kc, T, rfl, rfl⟩)
    · simp only [withD, nthD, Step2, nthDst, putO, postD]
      (refine op_fieldAddr ?_; exact ⟨[], rfl, rfl, rfl⟩)
    · simp only [withD, nthD, Step2, nthDst, putO, postD]
      ((first | refine op_load ?_ | refine op_load_agg ?_ | refine op_load ?_ (hm := Sub.mem (by assumption) (by (repeat (apply List.mem_cons_of_mem)); assumption)) | refine op_load_agg ?_ (hm := Sub.mem (by assumption) (by (repeat (apply List.mem_cons_of_mem)); assumption)) | refine op_loadH hG rfl ?_ | refine op_load_aggH hG rfl ?_); exact ⟨[], rfl, rfl, rfl⟩)
    simp only [FinalsD, nthDst, putO, List.drop_succ_cons, List.drop_zero]
    rintro _ _ ⟨⟨kc, T, rfl, rfl⟩, -⟩
    try simp only [List.nil_append]
    repeat' first
      | (refine op_call ((sridCol _ _ _ _ _ _ _ _ _).mono ?_); rintro _ _ ⟨rfl, rfl⟩)
      | refine op_loadK rfl ?_
      | (first | refine tc_seq ?_ | refine tc_region ?_ | refine at_seq_normal ?_ | refine tl_nil ?_ | refine tl_cons ?_ | refine tl_cons_none ?_ | refine op_move ?_ | refine op_assign ?_ | refine op_fieldAddr ?_ | refine op_load ?_ | refine op_load_agg ?_ | refine op_indexC ?_ | refine op_indexAddr1 ?_ | refine op_indexAddr ?_ | refine op_icmp ?_ | refine op_fcmp ?_ | refine op_iarith ?_ | refine op_bcmp ?_ | refine op_unop_not ?_ | refine op_unop_neg_float ?_ | refine op_unop_neg_int ?_ | refine op_len_slice ?_ | refine op_pick_true ?_ | refine op_pick_false ?_ | refine op_pick_true' ?_ | refine op_pick_false' ?_ | refine op_build ?_ | refine op_extract ?_ | refine op_makeInterface ?_ | refine op_typeAssert ?_ | refine op_ptr_nil ?_ | refine op_nilCheck_ptr ?_ | refine op_nilCheck_meth ?_ | refine op_makeMeth ?_ | refine op_makeFunc ?_ | refine op_itof ?_ | refine op_itoi ?_ | refine op_ftoi ?_ | refine op_iquo ?_ | refine op_irem ?_ | refine op_ibits ?_ | refine op_slice_isnil ?_ | refine op_slice_notnil ?_ | refine op_imax ?_ | refine op_imin ?_ | refine op_shl ?_ | refine op_shr ?_ | (refine op_alloc ?_; intro _) | (refine op_box ?_; intro _) | (refine op_buildSlice ?_; intro _) | (refine op_farith ?_; intro _ _) | refine op_store0 ?_ | refine op_store1 ?_ | refine op_store2 ?_ | refine op_store3 ?_ | refine op_store4 ?_ | refine op_store5 ?_ | refine op_storeK rfl ?_ | refine op_loadK rfl ?_ | refine op_load_aggK rfl ?_ | refine tc_cond_t ?_ | refine tc_cond_f ?_ | refine tc_cond (fun _ => ?_) (fun _ => ?_) | refine tc_block ?_ | refine tc_skip ?_ | refine tc_ret ?_ | refine tc_exit ?_ | refine at_seq_ret ?_ | refine at_seq_exit ?_ | refine at_block_normal ?_ | refine at_block_ret ?_ | refine at_block_exit_self ?_ | refine at_block_exit_ne ?_ | refine at_loop_ret ?_ | refine at_loop_exit ?_ | fail)
      | fail
    simp only [List.append_eq, List.nil_append]
    repeat' first
      | refine op_loadK rfl ?_
      | (first | refine tc_seq ?_ | refine tc_region ?_ | refine at_seq_normal ?_ | refine tl_nil ?_ | refine tl_cons ?_ | refine tl_cons_none ?_ | refine op_move ?_ | refine op_assign ?_ | refine op_fieldAddr ?_ | refine op_load ?_ | refine op_load_agg ?_ | refine op_indexC ?_ | refine op_indexAddr1 ?_ | refine op_indexAddr ?_ | refine op_icmp ?_ | refine op_fcmp ?_ | refine op_iarith ?_ | refine op_bcmp ?_ | refine op_unop_not ?_ | refine op_unop_neg_float ?_ | refine op_unop_neg_int ?_ | refine op_len_slice ?_ | refine op_pick_true ?_ | refine op_pick_false ?_ | refine op_pick_true' ?_ | refine op_pick_false' ?_ | refine op_build ?_ | refine op_extract ?_ | refine op_makeInterface ?_ | refine op_typeAssert ?_ | refine op_ptr_nil ?_ | refine op_nilCheck_ptr ?_ | refine op_nilCheck_meth ?_ | refine op_makeMeth ?_ | refine op_makeFunc ?_ | refine op_itof ?_ | refine op_itoi ?_ | refine op_ftoi ?_ | refine op_iquo ?_ | refine op_irem ?_ | refine op_ibits ?_ | refine op_slice_isnil ?_ | refine op_slice_notnil ?_ | refine op_imax ?_ | refine op_imin ?_ | refine op_shl ?_ | refine op_shr ?_ | (refine op_alloc ?_; intro _) | (refine op_box ?_; intro _) | (refine op_buildSlice ?_; intro _) | (refine op_farith ?_; intro _ _) | refine op_store0 ?_ | refine op_store1 ?_ | refine op_store2 ?_ | refine op_store3 ?_ | refine op_store4 ?_ | refine op_store5 ?_ | refine op_storeK rfl ?_ | refine op_loadK rfl ?_ | refine op_load_aggK rfl ?_ | refine tc_cond_t ?_ | refine tc_cond_f ?_ | refine tc_cond (fun _ => ?_) (fun _ => ?_) | refine tc_block ?_ | refine tc_skip ?_ | refine tc_ret ?_ | refine tc_exit ?_ | refine at_seq_ret ?_ | refine at_seq_exit ?_ | refine at_block_normal ?_ | refine at_block_ret ?_ | refine at_block_exit_self ?_ | refine at_block_exit_ne ?_ | refine at_loop_ret ?_ | refine at_loop_exit ?_ | fail)
      | fail
    rename_i k1 ex0
    obtain ⟨G0, hG0⟩ : ∃ G0, G0 = ex0 ++ (k1, Obj.cells ⟨[.int .i64 7, .int .i64 l, .int .i64 s, .slice af f.length cf, .slice ae e.length ce, .slice aee ee.length cee, .slice avk ks.length cvk]⟩ 27 (0, 0)) :: H := ⟨_, rfl⟩
    rw [← hG0]
    have hinG : ∀ z ∈ H, z ∈ G0 := fun z hz => by rw [hG0]; simp [hz]
    refine tc_loopK [(2, _), (3, _), (5, _), (99, _), (100, _)] (by repeat (first | exact trivial | refine ⟨rfl, ?_⟩)) (fun p : Nat × Buf × List Value × Heap => [(101, .int .i64 (p.1 : Int))]) (fun p => (kc, Obj.cells ⟨col3 0 (bufV p.2.1 p.1) s⟩ T (0, 0)) :: bufH 36 p.2.1 p.2.2.1 (p.2.2.2 ++ G0))
      (fun p => p.1 ≤ ks.length ∧ bufOk 1 p.2.1 p.1 p.2.2.1 ∧ HasLs p.2.2.2 (ks.take p.1) p.2.2.1) (fun p => ks.length - p.1) (0, none, [], []) ⟨Nat.zero_le _, ⟨rfl, rfl⟩, by simp [HasLs]⟩ ⟨rfl, trivial⟩ (List.Sublist.refl _) ?_
    rintro ⟨j, buf, ws, pre⟩ ⟨hj, hok, hws⟩
    simp only at hj hok hws ⊢
    by_cases hlt : j < ks.length
    · have hlb : icmp .lss (j : Int) (ks.length : Int) = true := by rw [lss_nat]; simpa using hlt
      have hget : ks[j]? = some ks[j] := List.getElem?_eq_getElem hlt
      have hwk := Geo.wts_mem hget
      have hgx := hgs' _ (List.getElem_mem hlt)
      obtain ⟨kq, off, L, Tq, zq, capq, r, e1, hmq, hcut, hr⟩ := kid hkk hks hget
      have htk : ks.take (j + 1) = ks.take j ++ [ks[j]] := by rw [List.take_add_one, hget]; rfl
      generalize ks[j] = x at *
      injection e1 with e1 _ e3
      subst e1
      subst e3
      have hmq2 : (kq, Obj.cells ⟨L⟩ Tq zq) ∈ (kc, Obj.cells ⟨col3 0 (bufV buf j) s⟩ T (0, 0)) :: bufH 36 buf ws (pre ++ G0) := List.mem_cons_of_mem _ ((bufH_sub _ _ _ _).subset (List.mem_append_right _ (hinG _ hmq)))
      obtain ⟨xk, xl, xs, xf, xe, xee, xks⟩ := x
      have hr0 := hr
      obtain ⟨_, _, _, _, _, _, _, _, _, rfl, _⟩ := hr.open
      have hall : ∀ z ∈ H, z ∈ (kc, Obj.cells ⟨col3 0 (bufV buf j) s⟩ T (0, 0)) :: bufH 36 buf ws (pre ++ G0) := fun z hz => List.mem_cons_of_mem _ ((bufH_sub _ _ _ _).subset (List.mem_append_right _ (hinG _ hz)))
      repeat' first
        | (refine op_indexAddr (j := j) ?_ (hj := hlt))
        | (refine op_load_agg (k := kq) ?_ (hm := hmq2) (hv := hcut))
        | refine op_storeK rfl ?_
        | (refine op_call ((ih _ _ _ (by omega) (by omega) hgx.1 (hr0.mono fun z hz => List.mem_cons_of_mem _ (hall z hz))).mono ?_); rintro w _ ⟨exk, tw, kw, rfl, rfl, hLw⟩)
        | (first | refine tc_seq ?_ | refine tc_region ?_ | refine at_seq_normal ?_ | refine tl_nil ?_ | refine tl_cons ?_ | refine tl_cons_none ?_ | refine op_move ?_ | refine op_assign ?_ | refine op_fieldAddr ?_ | refine op_load ?_ | refine op_load_agg ?_ | refine op_indexC ?_ | refine op_indexAddr1 ?_ | refine op_indexAddr ?_ | refine op_icmp ?_ | refine op_fcmp ?_ | refine op_iarith ?_ | refine op_bcmp ?_ | refine op_unop_not ?_ | refine op_unop_neg_float ?_ | refine op_unop_neg_int ?_ | refine op_len_slice ?_ | refine op_pick_true ?_ | refine op_pick_false ?_ | refine op_pick_true' ?_ | refine op_pick_false' ?_ | refine op_build ?_ | refine op_extract ?_ | refine op_makeInterface ?_ | refine op_typeAssert ?_ | refine op_ptr_nil ?_ | refine op_nilCheck_ptr ?_ | refine op_nilCheck_meth ?_ | refine op_makeMeth ?_ | refine op_makeFunc ?_ | refine op_itof ?_ | refine op_itoi ?_ | refine op_ftoi ?_ | refine op_iquo ?_ | refine op_irem ?_ | refine op_ibits ?_ | refine op_slice_isnil ?_ | refine op_slice_notnil ?_ | refine op_imax ?_ | refine op_imin ?_ | refine op_shl ?_ | refine op_shr ?_ | (refine op_alloc ?_; intro _) | (refine op_box ?_; intro _) | (refine op_buildSlice ?_; intro _) | (refine op_farith ?_; intro _ _) | refine op_store0 ?_ | refine op_store1 ?_ | refine op_store2 ?_ | refine op_store3 ?_ | refine op_store4 ?_ | refine op_store5 ?_ | refine op_storeK rfl ?_ | refine op_loadK rfl ?_ | refine op_load_aggK rfl ?_ | refine tc_cond_t ?_ | refine tc_cond_f ?_ | refine tc_cond (fun _ => ?_) (fun _ => ?_) | refine tc_block ?_ | refine tc_skip ?_ | refine tc_ret ?_ | refine tc_exit ?_ | refine at_seq_ret ?_ | refine at_seq_exit ?_ | refine at_block_normal ?_ | refine at_block_ret ?_ | refine at_block_exit_self ?_ | refine at_block_exit_ne ?_ | refine at_loop_ret ?_ | refine at_loop_exit ?_ | fail)
        | fail
      rename_i k7 kn
      refine op_perm (col_perm 36 buf ws (kc, _) (kn, _) exk (k7, _) (pre ++ G0)) ?_
      refine op_call ((mustPush kc kn T _ s buf j ws tw kw _ hok (by omega) List.mem_cons_self).mono ?_)
      rintro _ _ ⟨rfl, buf', hok', rfl⟩
      repeat' first
        | (first | refine tc_seq ?_ | refine tc_region ?_ | refine at_seq_normal ?_ | refine tl_nil ?_ | refine tl_cons ?_ | refine tl_cons_none ?_ | refine op_move ?_ | refine op_assign ?_ | refine op_fieldAddr ?_ | refine op_load ?_ | refine op_load_agg ?_ | refine op_indexC ?_ | refine op_indexAddr1 ?_ | refine op_indexAddr ?_ | refine op_icmp ?_ | refine op_fcmp ?_ | refine op_iarith ?_ | refine op_bcmp ?_ | refine op_unop_not ?_ | refine op_unop_neg_float ?_ | refine op_unop_neg_int ?_ | refine op_len_slice ?_ | refine op_pick_true ?_ | refine op_pick_false ?_ | refine op_pick_true' ?_ | refine op_pick_false' ?_ | refine op_build ?_ | refine op_extract ?_ | refine op_makeInterface ?_ | refine op_typeAssert ?_ | refine op_ptr_nil ?_ | refine op_nilCheck_ptr ?_ | refine op_nilCheck_meth ?_ | refine op_makeMeth ?_ | refine op_makeFunc ?_ | refine op_itof ?_ | refine op_itoi ?_ | refine op_ftoi ?_ | refine op_iquo ?_ | refine op_irem ?_ | refine op_ibits ?_ | refine op_slice_isnil ?_ | refine op_slice_notnil ?_ | refine op_imax ?_ | refine op_imin ?_ | refine op_shl ?_ | refine op_shr ?_ | (refine op_alloc ?_; intro _) | (refine op_box ?_; intro _) | (refine op_buildSlice ?_; intro _) | (refine op_farith ?_; intro _ _) | refine op_store0 ?_ | refine op_store1 ?_ | refine op_store2 ?_ | refine op_store3 ?_ | refine op_store4 ?_ | refine op_store5 ?_ | refine op_storeK rfl ?_ | refine op_loadK rfl ?_ | refine op_load_aggK rfl ?_ | refine tc_cond_t ?_ | refine tc_cond_f ?_ | refine tc_cond (fun _ => ?_) (fun _ => ?_) | refine tc_block ?_ | refine tc_skip ?_ | refine tc_ret ?_ | refine tc_exit ?_ | refine at_seq_ret ?_ | refine at_seq_exit ?_ | refine at_block_normal ?_ | refine at_block_ret ?_ | refine at_block_exit_self ?_ | refine at_block_exit_ne ?_ | refine at_loop_ret ?_ | refine at_loop_exit ?_ | fail)
        | fail
      refine at_loopK (j + 1, buf', ws ++ [_], (kn, _) :: (exk ++ (k7, _) :: pre)) ⟨hlt, hok', ?_⟩ (by simp only; omega) ⟨next_nat (by omega), trivial⟩ (by repeat (first | exact trivial | refine ⟨rfl, ?_⟩)) (by simp only [List.cons_append, List.append_assoc]; exact List.Sublist.refl _)
      simp only
      rw [htk]
      exact HasLs.snoc _ _ (HasLs.mono (fun z hz => by simp [hz]) _ _ hws) (HasL.mono (fun z hz => by simp [hz]) _ _ hLw)
    · have hlb : icmp .lss (j : Int) (ks.length : Int) = false := by rw [lss_nat]; simpa using hlt
      obtain rfl : j = ks.length := by omega
      rw [List.take_length] at hws
      have hsl := sl_buf (e := 36) (H := pre ++ G0) hok
      have hgl : l = 0 ∨ ∀ x ∈ ks, x.lof = l := by
        rcases Int.lt_or_eq_of_le hl0 with h | h
        · exact .inr fun x hx => by rcases (hgs' x hx).2 with h2 | h2; omega; exact h2
        · exact .inl h.symm
      obtain ⟨ab, cb, hbv⟩ : ∃ a c, bufV buf ks.length = .slice a ks.length c := by
        cases buf with
        | none => exact ⟨none, 0, by rw [hok.1]; rfl⟩
        | some b => exact ⟨_, _, rfl⟩
      rw [hbv] at hsl ⊢
      have hls2 : HasLs ((kc, Obj.cells ⟨col3 0 (.slice ab ks.length cb) s⟩ T (0, 0)) :: bufH 36 buf ws (pre ++ G0)) ks ws := HasLs.mono (fun z hz => List.mem_cons_of_mem _ ((bufH_sub _ _ _ _).subset (List.mem_append_left _ hz))) _ _ hws
      repeat' first
        | (refine op_call ((mustSetLayout kc T l s ab cb ks ws _ (hsl.mono fun z hz => List.mem_cons_of_mem _ hz) hls2 hgl (by omega)).mono ?_); rintro _ _ ⟨rfl, rfl⟩)
        | refine op_makeInterface ?_
        | (first | refine tc_seq ?_ | refine tc_region ?_ | refine at_seq_normal ?_ | refine tl_nil ?_ | refine tl_cons ?_ | refine tl_cons_none ?_ | refine op_move ?_ | refine op_assign ?_ | refine op_fieldAddr ?_ | refine op_load ?_ | refine op_load_agg ?_ | refine op_indexC ?_ | refine op_indexAddr1 ?_ | refine op_indexAddr ?_ | refine op_icmp ?_ | refine op_fcmp ?_ | refine op_iarith ?_ | refine op_bcmp ?_ | refine op_unop_not ?_ | refine op_unop_neg_float ?_ | refine op_unop_neg_int ?_ | refine op_len_slice ?_ | refine op_pick_true ?_ | refine op_pick_false ?_ | refine op_pick_true' ?_ | refine op_pick_false' ?_ | refine op_build ?_ | refine op_extract ?_ | refine op_makeInterface ?_ | refine op_typeAssert ?_ | refine op_ptr_nil ?_ | refine op_nilCheck_ptr ?_ | refine op_nilCheck_meth ?_ | refine op_makeMeth ?_ | refine op_makeFunc ?_ | refine op_itof ?_ | refine op_itoi ?_ | refine op_ftoi ?_ | refine op_iquo ?_ | refine op_irem ?_ | refine op_ibits ?_ | refine op_slice_isnil ?_ | refine op_slice_notnil ?_ | refine op_imax ?_ | refine op_imin ?_ | refine op_shl ?_ | refine op_shr ?_ | (refine op_alloc ?_; intro _) | (refine op_box ?_; intro _) | (refine op_buildSlice ?_; intro _) | (refine op_farith ?_; intro _ _) | refine op_store0 ?_ | refine op_store1 ?_ | refine op_store2 ?_ | refine op_store3 ?_ | refine op_store4 ?_ | refine op_store5 ?_ | refine op_storeK rfl ?_ | refine op_loadK rfl ?_ | refine op_load_aggK rfl ?_ | refine tc_cond_t ?_ | refine tc_cond_f ?_ | refine tc_cond (fun _ => ?_) (fun _ => ?_) | refine tc_block ?_ | refine tc_skip ?_ | refine tc_ret ?_ | refine tc_exit ?_ | refine at_seq_ret ?_ | refine at_seq_exit ?_ | refine at_block_normal ?_ | refine at_block_ret ?_ | refine at_block_exit_self ?_ | refine at_block_exit_ne ?_ | refine at_loop_ret ?_ | refine at_loop_exit ?_ | fail)
        | fail
      have hsl' := sl_buf (e := 36) (H := pre ++ (ex0 ++ [(k1, Obj.cells ⟨[.int .i64 7, .int .i64 l, .int .i64 s, .slice af f.length cf, .slice ae e.length ce, .slice aee ee.length cee, .slice avk ks.length cvk]⟩ 27 (0, 0))])) hok
      rw [hbv] at hsl'
      refine ret_tmp (hG := List.Sublist.refl _) (hk := ⟨(kc, Obj.cells ⟨col3 l (.slice ab ks.length cb) s⟩ T (0, 0)) :: bufH 36 buf ws (pre ++ (ex0 ++ [(k1, Obj.cells ⟨[.int .i64 7, .int .i64 l, .int .i64 s, .slice af f.length cf, .slice ae e.length ce, .slice aee ee.length cee, .slice avk ks.length cvk]⟩ 27 (0, 0))])), colT, kc, ?_, rfl, ?_⟩)
      · rw [hG0]
        cases buf <;> simp [bufH]
      · unfold HasL
        exact .inr ⟨rfl, kc, ab, cb, ws, T, _, rfl, List.mem_cons_self, hsl'.mono fun z hz => List.mem_cons_of_mem _ hz, HasLs.mono (fun z hz => List.mem_cons_of_mem _ ((bufH_sub _ _ _ _).subset (List.mem_append_left _ hz))) _ _ hws⟩
end Go.Proofs.Ytkhpdmcalimmjaa.Gm
