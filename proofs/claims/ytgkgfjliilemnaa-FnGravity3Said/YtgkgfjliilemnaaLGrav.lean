/-
  FnGravity3: the force of gravity between two masses is the way from one to the other times both, over the third power of its length, nearer than 2^-30, relatively. No conditions beyond the statement's own.
-/
import Derived.Test.YtgkgfjliilemnaaRows
import Derived.Test.YtgkgfjliilemnaaGrav
set_option linter.unusedVariables false
set_option linter.unusedSimpArgs false
namespace Go.Proofs.Ytgkgfjliilemnaa.fnGravity3
open Go.Lg Go.Proofs.Ytgkgfjliilemnaa.Hut Go.Proofs.Ytgkgfjliilemnaa.SqN Go.Proofs.Ytgkgfjliilemnaa.Wh Go.Proofs.Ytgkgfjliilemnaa.Gd
open Go.ChangeShapes Go.WideShapes Go.RowKit

set_option maxHeartbeats 16000000 in
theorem law {H : Heap} (m1 m2 : Nat) (v : Value) (ns : List Int) (hv : IS H v ns) (hl : ns.length ≤ 9223372036854775807) (hb : ∀ y ∈ ns, -9223372036854775808 ≤ y ∧ y ≤ 9223372036854775807) : Does Try.prog 11 [.float .f64 m1, .float .f64 m2, v] H fun w H' => w = .bool true ∧ H' = H := by
  obtain ⟨a0, cap0, rfl⟩ := hv.val
  refine fn_enter 84 Try.func11 fun W => ?_
  repeat' first
    | (first | refine tl_defer ?_ | refine tc_seq ?_ | refine tc_region ?_ | refine at_seq_normal ?_ | refine tl_nil ?_ | refine tl_cons ?_ | refine tl_cons_none ?_ | refine op_move ?_ | refine op_assign ?_ | refine op_fieldAddr ?_ | refine op_load ?_ | refine op_load_agg ?_ | refine op_indexC ?_ | refine op_indexAddr1 ?_ | refine op_indexAddr ?_ | refine op_icmp ?_ | refine op_fcmp ?_ | refine op_iarith ?_ | refine op_bcmp ?_ | refine op_unop_not ?_ | refine op_unop_neg_float ?_ | refine op_unop_neg_int ?_ | refine op_len_slice ?_ | refine op_pick_true ?_ | refine op_pick_false ?_ | refine op_pick_true' ?_ | refine op_pick_false' ?_ | refine op_build ?_ | refine op_extract ?_ | refine op_makeInterface ?_ | refine op_typeAssert ?_ | refine op_ptr_nil ?_ | refine op_nilCheck_ptr ?_ | refine op_nilCheck_meth ?_ | refine op_makeMeth ?_ | refine op_makeFunc ?_ | refine op_itof ?_ | refine op_itoi ?_ | refine op_ftoi ?_ | refine op_iquo ?_ | refine op_irem ?_ | refine op_ibits ?_ | refine op_slice_isnil ?_ | refine op_slice_notnil ?_ | refine op_imax ?_ | refine op_imin ?_ | refine op_shl ?_ | refine op_shr ?_ | (refine op_alloc ?_; intro _) | (refine op_box ?_; intro _) | (refine op_buildSlice ?_; intro _) | (refine op_farith ?_; intro _ _) | refine op_store0 ?_ | refine op_store1 ?_ | refine op_store2 ?_ | refine op_store3 ?_ | refine op_store4 ?_ | refine op_store5 ?_ | refine tc_cond_t ?_ | refine tc_cond_f ?_ | refine tc_cond (fun _ => ?_) (fun _ => ?_) | refine tc_block ?_ | refine tc_skip ?_ | refine tc_ret ?_ | refine tc_exit ?_ | refine tc_label ?_ | refine at_seq_ret ?_ | refine at_seq_exit ?_ | refine at_block_normal ?_ | refine at_block_ret ?_ | refine at_block_exit_self ?_ | refine at_block_exit_ne ?_ | refine at_loop_ret ?_ | refine at_loop_exit ?_ | refine at_loop_goto ?_ | refine tl_guard_yes ?_ | refine tl_guard_no ?_ | refine tl_guard_yes' ?_ | refine tl_guard_no' ?_ | refine tl_guard_undef ?_ | refine tl_guard_split (fun _ => ?_) (fun _ => ?_))
    | (refine op_call ((ones3 _ [ns] _ (by simp) (iss_one mem0 (hv.mono fun e he => by simp [he]))).mono ?_); rintro _ _ ⟨u, b, rfl, ⟨ex, rfl⟩, hps⟩; cases b)
    | fail
  · exact ret_tmp (hk := ⟨rfl, rfl⟩)
  · exact ret_tmp (hG := by (repeat (first | exact List.Sublist.refl _ | apply List.Sublist.cons_cons | apply List.Sublist.cons | refine List.Sublist.trans ?_ (List.sublist_append_right _ _)))) (hk := ⟨rfl, rfl⟩)
  obtain ⟨ps, hpl, -, -, hu, hgr⟩ := hps rfl
  match ps, hpl with
  | [(x, y, z)], _ =>
  simp only [List.map_cons, List.map_nil, gridB, List.all_cons, List.all_nil, Bool.and_true, Bool.and_eq_true, l3] at hgr
  obtain ⟨nx, fx⟩ := fi_of hgr.2.1
  obtain ⟨ny, fy⟩ := fi_of hgr.2.2.1
  obtain ⟨nz, fz⟩ := fi_of hgr.2.2.2
  have hu' : SlN 4 (ex ++ _) u 1 (flat4 [(x, y, z)]) := hu
  clear hu hps
  obtain ⟨k, off, l, T, fz', cap, rfl, hm, hcut⟩ := hu'.at (j := 0) (by decide)
  rw [flat4_cut _ 0 _ rfl] at hcut
  have h3 : (l.drop (off + Int.toNat 0 * 4 + 0)).take 3 = [.float .f64 x, .float .f64 y, .float .f64 z] := by
    have := congrArg (List.take 3) hcut
    rw [List.take_take] at this
    simpa using this
  repeat' first
    | (refine op_load_agg (m := [.float .f64 x, .float .f64 y, .float .f64 z]) ?_ (hm := hm) (hv := h3))
    | (refine op_load_agg (m := [.float .f64 x, .float .f64 y, .float .f64 z]) ?_ (hm := List.mem_cons_of_mem _ hm) (hv := h3))
    | (refine op_call ((heavy _ _).mono ?_); rintro _ _ ⟨⟨b1, rfl, hq⟩, rfl⟩; cases b1)
    | (first | refine tl_defer ?_ | refine tc_seq ?_ | refine tc_region ?_ | refine at_seq_normal ?_ | refine tl_nil ?_ | refine tl_cons ?_ | refine tl_cons_none ?_ | refine op_move ?_ | refine op_assign ?_ | refine op_fieldAddr ?_ | refine op_load ?_ | refine op_load_agg ?_ | refine op_indexC ?_ | refine op_indexAddr1 ?_ | refine op_indexAddr ?_ | refine op_icmp ?_ | refine op_fcmp ?_ | refine op_iarith ?_ | refine op_bcmp ?_ | refine op_unop_not ?_ | refine op_unop_neg_float ?_ | refine op_unop_neg_int ?_ | refine op_len_slice ?_ | refine op_pick_true ?_ | refine op_pick_false ?_ | refine op_pick_true' ?_ | refine op_pick_false' ?_ | refine op_build ?_ | refine op_extract ?_ | refine op_makeInterface ?_ | refine op_typeAssert ?_ | refine op_ptr_nil ?_ | refine op_nilCheck_ptr ?_ | refine op_nilCheck_meth ?_ | refine op_makeMeth ?_ | refine op_makeFunc ?_ | refine op_itof ?_ | refine op_itoi ?_ | refine op_ftoi ?_ | refine op_iquo ?_ | refine op_irem ?_ | refine op_ibits ?_ | refine op_slice_isnil ?_ | refine op_slice_notnil ?_ | refine op_imax ?_ | refine op_imin ?_ | refine op_shl ?_ | refine op_shr ?_ | (refine op_alloc ?_; intro _) | (refine op_box ?_; intro _) | (refine op_buildSlice ?_; intro _) | (refine op_farith ?_; intro _ _) | refine op_store0 ?_ | refine op_store1 ?_ | refine op_store2 ?_ | refine op_store3 ?_ | refine op_store4 ?_ | refine op_store5 ?_ | refine tc_cond_t ?_ | refine tc_cond_f ?_ | refine tc_cond (fun _ => ?_) (fun _ => ?_) | refine tc_block ?_ | refine tc_skip ?_ | refine tc_ret ?_ | refine tc_exit ?_ | refine tc_label ?_ | refine at_seq_ret ?_ | refine at_seq_exit ?_ | refine at_block_normal ?_ | refine at_block_ret ?_ | refine at_block_exit_self ?_ | refine at_block_exit_ne ?_ | refine at_loop_ret ?_ | refine at_loop_exit ?_ | refine at_loop_goto ?_ | refine tl_guard_yes ?_ | refine tl_guard_no ?_ | refine tl_guard_yes' ?_ | refine tl_guard_no' ?_ | refine tl_guard_undef ?_ | refine tl_guard_split (fun _ => ?_) (fun _ => ?_))
    | (refine op_call ((off3 _ _ _ _).mono ?_); rintro _ _ ⟨k2, rfl, rfl⟩)
    | (refine op_call ((igrav m1 m2 x y z nx ny nz _ fx fy fz).mono ?_); rintro _ _ ⟨⟨ga, gb, gc, rfl, ha, hb, hc⟩, rfl⟩)
    | (refine op_call ((squareN _ _ [x, y, z] [0, 0, 0] [nx, ny, nz] [0, 0, 0] 1024 0 1048576 _ (fs_new [x, y, z] (by first | exact mem2 | exact mem1 | exact mem0)) (fs_new [0, 0, 0] (by first | exact mem0 | exact mem1 | exact mem2)) rfl ⟨fx, fy, fz, trivial⟩ ⟨fi_zero, fi_zero, fi_zero, trivial⟩ (by simp) (by decide) (by simp) (by decide)).mono ?_); rintro _ _ ⟨⟨d2, rfl, hd⟩, rfl⟩; rw [sqP] at hd)
    | refine op_makeSlice (l := 3) (c := 3) (fun k3 => ?_) (Nat.le_refl _) (by omega) (by omega)
    | fail
  · exact ret_tmp (hG := by (repeat (first | exact List.Sublist.refl _ | apply List.Sublist.cons_cons | apply List.Sublist.cons | refine List.Sublist.trans ?_ (List.sublist_append_right _ _)))) (hk := ⟨rfl, rfl⟩)
  · exact ret_tmp (hG := by (repeat (first | exact List.Sublist.refl _ | apply List.Sublist.cons_cons | apply List.Sublist.cons | refine List.Sublist.trans ?_ (List.sublist_append_right _ _)))) (hk := ⟨rfl, rfl⟩)
  rename_i kx
  have hM1 : Mass m1 := (by assumption : true = true → Mass m1) rfl
  have hM2 : Mass m2 := (by assumption : true = true → Mass m2) rfl
  have el : ∀ j < 3, ∃ xj gj N, [Value.float .f64 x, .float .f64 y, .float .f64 z][0 + j]? = some (.float .f64 xj) ∧ [Value.float .f64 ga, .float .f64 gb, .float .f64 gc][0 + j]? = some (.float .f64 gj) ∧ FI 1024 xj N ∧ GP m1 m2 xj gj (nx * nx + ny * ny + nz * nz) := fun j hj =>
    match j, hj with
    | 0, _ => ⟨x, ga, nx, rfl, rfl, fx, ha⟩
    | 1, _ => ⟨y, gb, ny, rfl, rfl, fy, hb⟩
    | 2, _ => ⟨z, gc, nz, rfl, rfl, fz, hc⟩
  have hS0 : 0 ≤ nx * nx + ny * ny + nz * nz := by have := sq0 nx; have := sq0 ny; have := sq0 nz; omega
  clear ha hb hc
  generalize nx * nx + ny * ny + nz * nz = S at *
  refine tc_loopH [(0, _), (1, _), (10, _), (11, _), (52, _), (53, _)] (by repeat (first | exact trivial | refine ⟨rfl, ?_⟩)) (fun j : Nat => [(6, .bool false), (54, .int .i64 (j : Int))]) (fun j => j ≤ 3) (fun j => 3 - j) 0 (Nat.zero_le _) ⟨rfl, rfl, trivial⟩ ?_
  rintro j hj
  by_cases hlt : j < 3
  · have hbb : icmp .lss (j : Int) 3 = true := by simp only [icmp, decide_eq_true_eq]; omega
    obtain ⟨xj, gj, N, t1, t2, fxj, hg⟩ := el j hlt
    by_cases hS : S = 0
    · subst hS
      have hcc : fcmp .gtr d2 0 = false := by rw [fcmp_gtr hd.fv zero]; simp
      repeat' first
        | (first | refine tl_defer ?_ | refine tc_seq ?_ | refine tc_region ?_ | refine at_seq_normal ?_ | refine tl_nil ?_ | refine tl_cons ?_ | refine tl_cons_none ?_ | refine op_move ?_ | refine op_assign ?_ | refine op_fieldAddr ?_ | refine op_load ?_ | refine op_load_agg ?_ | refine op_indexC ?_ | refine op_indexAddr1 ?_ | refine op_indexAddr ?_ | refine op_icmp ?_ | refine op_fcmp ?_ | refine op_iarith ?_ | refine op_bcmp ?_ | refine op_unop_not ?_ | refine op_unop_neg_float ?_ | refine op_unop_neg_int ?_ | refine op_len_slice ?_ | refine op_pick_true ?_ | refine op_pick_false ?_ | refine op_pick_true' ?_ | refine op_pick_false' ?_ | refine op_build ?_ | refine op_extract ?_ | refine op_makeInterface ?_ | refine op_typeAssert ?_ | refine op_ptr_nil ?_ | refine op_nilCheck_ptr ?_ | refine op_nilCheck_meth ?_ | refine op_makeMeth ?_ | refine op_makeFunc ?_ | refine op_itof ?_ | refine op_itoi ?_ | refine op_ftoi ?_ | refine op_iquo ?_ | refine op_irem ?_ | refine op_ibits ?_ | refine op_slice_isnil ?_ | refine op_slice_notnil ?_ | refine op_imax ?_ | refine op_imin ?_ | refine op_shl ?_ | refine op_shr ?_ | (refine op_alloc ?_; intro _) | (refine op_box ?_; intro _) | (refine op_buildSlice ?_; intro _) | (refine op_farith ?_; intro _ _) | refine op_store0 ?_ | refine op_store1 ?_ | refine op_store2 ?_ | refine op_store3 ?_ | refine op_store4 ?_ | refine op_store5 ?_ | refine tc_cond_t ?_ | refine tc_cond_f ?_ | refine tc_cond (fun _ => ?_) (fun _ => ?_) | refine tc_block ?_ | refine tc_skip ?_ | refine tc_ret ?_ | refine tc_exit ?_ | refine tc_label ?_ | refine at_seq_ret ?_ | refine at_seq_exit ?_ | refine at_block_normal ?_ | refine at_block_ret ?_ | refine at_block_exit_self ?_ | refine at_block_exit_ne ?_ | refine at_loop_ret ?_ | refine at_loop_exit ?_ | refine at_loop_goto ?_ | refine tl_guard_yes ?_ | refine tl_guard_no ?_ | refine tl_guard_yes' ?_ | refine tl_guard_no' ?_ | refine tl_guard_undef ?_ | refine tl_guard_split (fun _ => ?_) (fun _ => ?_))
        | (refine op_call ((Pl.abs _ _).mono ?_); rintro _ _ ⟨rfl, rfl⟩)
        | (refine op_call ((sqrt _ _).mono ?_); rintro _ _ ⟨⟨r, rfl, hr⟩, rfl⟩)
        | fail
      · rename_i r h1 y h2 hx
        exact absurd hx (by rw [near0 hg h1 h2]; decide)
      · exact at_loopK (j + 1) hlt (by omega) ⟨rfl, next_nat (by omega), trivial⟩ (by repeat (first | exact trivial | refine ⟨rfl, ?_⟩)) (by (repeat (first | exact List.Sublist.refl _ | apply List.Sublist.cons_cons | apply List.Sublist.cons | refine List.Sublist.trans ?_ (List.sublist_append_right _ _))))
    · have hcc : fcmp .gtr d2 0 = true := by rw [fcmp_gtr hd.fv zero]; refine decide_eq_true ?_; have := (fi_rat hd (by omega)).1; grind
      repeat' first
        | (first | refine tl_defer ?_ | refine tc_seq ?_ | refine tc_region ?_ | refine at_seq_normal ?_ | refine tl_nil ?_ | refine tl_cons ?_ | refine tl_cons_none ?_ | refine op_move ?_ | refine op_assign ?_ | refine op_fieldAddr ?_ | refine op_load ?_ | refine op_load_agg ?_ | refine op_indexC ?_ | refine op_indexAddr1 ?_ | refine op_indexAddr ?_ | refine op_icmp ?_ | refine op_fcmp ?_ | refine op_iarith ?_ | refine op_bcmp ?_ | refine op_unop_not ?_ | refine op_unop_neg_float ?_ | refine op_unop_neg_int ?_ | refine op_len_slice ?_ | refine op_pick_true ?_ | refine op_pick_false ?_ | refine op_pick_true' ?_ | refine op_pick_false' ?_ | refine op_build ?_ | refine op_extract ?_ | refine op_makeInterface ?_ | refine op_typeAssert ?_ | refine op_ptr_nil ?_ | refine op_nilCheck_ptr ?_ | refine op_nilCheck_meth ?_ | refine op_makeMeth ?_ | refine op_makeFunc ?_ | refine op_itof ?_ | refine op_itoi ?_ | refine op_ftoi ?_ | refine op_iquo ?_ | refine op_irem ?_ | refine op_ibits ?_ | refine op_slice_isnil ?_ | refine op_slice_notnil ?_ | refine op_imax ?_ | refine op_imin ?_ | refine op_shl ?_ | refine op_shr ?_ | (refine op_alloc ?_; intro _) | (refine op_box ?_; intro _) | (refine op_buildSlice ?_; intro _) | (refine op_farith ?_; intro _ _) | refine op_store0 ?_ | refine op_store1 ?_ | refine op_store2 ?_ | refine op_store3 ?_ | refine op_store4 ?_ | refine op_store5 ?_ | refine tc_cond_t ?_ | refine tc_cond_f ?_ | refine tc_cond (fun _ => ?_) (fun _ => ?_) | refine tc_block ?_ | refine tc_skip ?_ | refine tc_ret ?_ | refine tc_exit ?_ | refine tc_label ?_ | refine at_seq_ret ?_ | refine at_seq_exit ?_ | refine at_block_normal ?_ | refine at_block_ret ?_ | refine at_block_exit_self ?_ | refine at_block_exit_ne ?_ | refine at_loop_ret ?_ | refine at_loop_exit ?_ | refine at_loop_goto ?_ | refine tl_guard_yes ?_ | refine tl_guard_no ?_ | refine tl_guard_yes' ?_ | refine tl_guard_no' ?_ | refine tl_guard_undef ?_ | refine tl_guard_split (fun _ => ?_) (fun _ => ?_))
        | (refine op_call ((Pl.abs _ _).mono ?_); rintro _ _ ⟨rfl, rfl⟩)
        | (refine op_call ((sqrt _ _).mono ?_); rintro _ _ ⟨⟨r, rfl, hr⟩, rfl⟩)
        | fail
      · rename_i m a1 t a2 D a3 w a4 r1 a5 y a6 hx
        exact absurd hx (by rw [near hM1 hM2 fxj hg (by omega) hd a1 a2 hr a3 a4 a5 a6]; decide)
      · exact at_loopK (j + 1) hlt (by omega) ⟨rfl, next_nat (by omega), trivial⟩ (by repeat (first | exact trivial | refine ⟨rfl, ?_⟩)) (by (repeat (first | exact List.Sublist.refl _ | apply List.Sublist.cons_cons | apply List.Sublist.cons | refine List.Sublist.trans ?_ (List.sublist_append_right _ _))))
  · have hbb : icmp .lss (j : Int) 3 = false := by simp only [icmp, decide_eq_false_iff_not]; omega
    repeat'
      first
        | refine tl_defer ?_ | refine tc_seq ?_ | refine tc_region ?_ | refine at_seq_normal ?_ | refine tl_nil ?_ | refine tl_cons ?_ | refine tl_cons_none ?_ | refine op_move ?_
        | refine op_assign ?_ | refine op_fieldAddr ?_ | refine op_load ?_ | refine op_load_agg ?_ | refine op_indexC ?_ | refine op_indexAddr1 ?_ | refine op_indexAddr ?_ | refine op_icmp ?_
        | refine op_fcmp ?_ | refine op_iarith ?_ | refine op_bcmp ?_ | refine op_unop_not ?_ | refine op_unop_neg_float ?_ | refine op_unop_neg_int ?_ | refine op_len_slice ?_ | refine op_pick_true ?_
        | refine op_pick_false ?_ | refine op_pick_true' ?_ | refine op_pick_false' ?_ | refine op_build ?_ | refine op_extract ?_ | refine op_makeInterface ?_ | refine op_typeAssert ?_ | refine op_ptr_nil ?_
        | refine op_nilCheck_ptr ?_ | refine op_nilCheck_meth ?_ | refine op_makeMeth ?_ | refine op_makeFunc ?_ | refine op_itof ?_ | refine op_itoi ?_ | refine op_ftoi ?_ | refine op_iquo ?_
        | refine op_irem ?_ | refine op_ibits ?_ | refine op_slice_isnil ?_ | refine op_slice_notnil ?_ | refine op_imax ?_ | refine op_imin ?_ | refine op_shl ?_ | refine op_shr ?_
        | (refine op_alloc ?_; intro _) | (refine op_box ?_; intro _) | (refine op_buildSlice ?_; intro _) | (refine op_farith ?_; intro _ _) | refine op_store0 ?_ | refine op_store1 ?_ | refine op_store2 ?_ | refine op_store3 ?_
        | refine op_store4 ?_ | refine op_store5 ?_ | refine tc_cond_t ?_ | refine tc_cond_f ?_ | refine tc_cond (fun _ => ?_) (fun _ => ?_) | refine tc_block ?_ | refine tc_skip ?_ | refine tc_ret ?_
        | refine tc_exit ?_ | refine tc_label ?_ | refine at_seq_ret ?_ | refine at_seq_exit ?_ | refine at_block_normal ?_ | refine at_block_ret ?_ | refine at_block_exit_self ?_ | refine at_block_exit_ne ?_
        | refine at_loop_ret ?_ | refine at_loop_exit ?_ | refine at_loop_goto ?_ | refine tl_guard_yes ?_ | refine tl_guard_no ?_ | refine tl_guard_yes' ?_ | refine tl_guard_no' ?_ | refine tl_guard_undef ?_
        | refine tl_guard_split (fun _ => ?_) (fun _ => ?_)
    exact ret_tmp (hG := by (repeat (first | exact List.Sublist.refl _ | apply List.Sublist.cons_cons | apply List.Sublist.cons | refine List.Sublist.trans ?_ (List.sublist_append_right _ _)))) (hk := ⟨rfl, rfl⟩)
theorem own : ownKnob Try.prog.godebug = none := by kernel_rfl
theorem laid : laidOutB Try.prog = true := by kernel_rfl
set_option maxRecDepth 100000 in
theorem lifted (os : Os) (started : os.Started) (H : Type) (enc : TypeId × Value → H) :
    ReturnsInHanded {} Try.checked os 11 .any (Rows.fnGravity3Spec.pre6 enc Try.prog Try.f11 Rows.fnGravity3Row.domain false) (Rows.fnGravity3Spec.post enc Try.prog Try.f11 false true false false) := by
  refine returnsInHanded_of_change (C := Try.checked) own started (by kernel_rfl) Try.func11
    (ChangeSpec.witness6 (enc := enc) (C := Try.checked) false ⟨#[], #[.float .f64 0, .float .f64 0, .slice none 0 0], []⟩ 8 (by kernel_rfl) (by kernel_rfl) (by kernel_rfl) (by kernel_rfl)) ?_
  intro W base args ds gs before hval0 hW hcnd _
  have hval : ∀ (j : Nat) t v, Try.f11.params[j]? = some t → args[j]? = some v → Value.okWide Try.prog W .any base t v := hval0
  have hW' := hW
  obtain ⟨p, q, hA0, hV, rfl, hfz, hnd⟩ := hW
  have hA : DataW.TrodAll enc Try.prog W 0 (fun _ => true) true Try.f11.params.toList args.toList ds p := hA0
  rw [Try.params11] at hA hval
  obtain ⟨v0, vs0, d0, ds0, p0, q0, hargs, rfl, rfl, h0, r0⟩ := trodAll_cons hA
  obtain ⟨v1, vs1, d1, ds1, p1, q1, rfl, rfl, rfl, h1, r1⟩ := trodAll_cons r0
  obtain ⟨v2, vs2, d2, ds2, p2, q2, rfl, rfl, rfl, h2, r2⟩ := trodAll_cons r1
  obtain ⟨rfl, rfl, rfl⟩ := trodAll_nil r2
  obtain rfl : args = #[v0, v1, v2] := by cases args; simp_all
  obtain ⟨rfl, rfl⟩ := trodVars_none hV
  obtain ⟨x0, rfl, wx0⟩ := Go.Lg.open_float Try.underlying22 (hval 0 22 v0 rfl rfl) h0
  obtain ⟨x1, rfl, wx1⟩ := Go.Lg.open_float Try.underlying22 (hval 1 22 v1 rfl rfl) h1
  obtain ⟨ns2, hs2, hl2, hb2⟩ := open_ints Try.underlying85 (by kernel_rfl) Try.underlying3 (hval 2 85 v2 rfl rfl) h2
  clear hA0 hval0
  refine (calls_of_does (law (H := all W) x0 x1 v2 ns2 hs2 hl2 hb2) (sees_all W)).mono fun e W' ⟨v, H', he, hs, hv, hH⟩ => ?_
  subst he
  subst hv
  subst hH
  exact ⟨_, rfl, post_law laid (of_decide_eq_true (by kernel_rfl)) rfl hW' rfl rfl Try.underlying4 hs.below⟩
theorem over : Rows.fnGravity3Row.holds Try.pinned (OpenSpec.ofChange Rows.fnGravity3Spec) :=
  OpenClaim.holds_of_wide 11 Try.f11 rfl rfl rfl rfl rfl rfl rfl ⟨rfl, rfl, rfl, rfl, rfl⟩ rfl rfl rfl rfl rfl (by kernel_rfl) Try.func11 (by kernel_rfl)
    (of_decide_eq_true (by kernel_rfl)) (by unfold Func.isWrapper; first | (rw [if_pos (by decide +kernel)]; kernel_rfl) | (rw [if_neg (by decide +kernel)]; exact ⟨rfl, rfl⟩))
    (fun os started H enc _ => lifted os started H enc)
/-- The statement. -/
theorem proved : Rows.FnGravity3Said := over
#print axioms proved
end Go.Proofs.Ytgkgfjliilemnaa.fnGravity3
