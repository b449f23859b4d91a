/-
  The places of a line, a ring or a multi point: Coords by way of the thin package, and as the reference has them. No conditions.
-/
import Derived.Test.YtgjbnfkinckpmaaGm4
import Derived.Test.YtgjbnfkinckpmaaGeo2
set_option linter.unusedVariables false
set_option linter.unusedSimpArgs false
namespace Go.Proofs.Ytgjbnfkinckpmaa.Gm
open Go.Lg Go.Proofs.Ytgjbnfkinckpmaa.Geom Go.Proofs.Ytgjbnfkinckpmaa.Flat

set_option maxHeartbeats 8000000 in
theorem g1Coords (kp : Nat) (T : TypeId) (l s : Int) (a : Option Addr) (c : Nat) (f : List Nat) (n S : Nat) (H : Heap) (hm : (kp, Obj.cells ⟨row4 l (strideI l) (.slice a f.length c) s⟩ T (0, 0)) ∈ H)
    (hf : FS H (.slice a f.length c) f) (hS : strideI l = (S : Int)) (hS0 : 0 < S) (hn : f.length = n * S) (hb : f.length < 2 ^ 40) :
    Does Try.prog 89 [.pointer (some ⟨kp, 0 + 0, none⟩)] H fun w H' => ∃ ex, H' = ex ++ H ∧ SN H' w ((chunks S n f).map some) := by
  rw [hS] at hm
  refine fn_enter 20 Try.func89 fun W => ?_
  repeat' first
    | refine tc_seq ?_ | refine tc_region ?_ | refine at_seq_normal ?_ | refine tl_nil ?_ | refine tl_cons ?_ | refine op_move ?_ | refine op_assign ?_ | refine op_fieldAddr ?_ | refine op_load ?_ | refine op_load_agg ?_
    | refine op_len_slice ?_ | refine op_nilCheck_ptr ?_ | refine op_nilCheck_meth ?_ | refine op_loadK rfl ?_ | refine op_load_aggK rfl ?_ | refine tc_ret ?_ | refine at_seq_ret ?_
  apply fun hole0 hole1 hole2 hole3 hole4 hole5 hole6 hole7 hole8 hole9 hole10 hole11 hole12 hole13 hole14 hole15 hE hD hml hdl hpr prem fin => tc_drawnD 17 [PhiD.is hole0, PhiD.is hole1, PhiD.is hole2, PhiD.is hole3, PhiD.is hole4, PhiD.is hole5, PhiD.is hole6, PhiD.is hole7, PhiD.is hole8, PhiD.is hole9, PhiD.is hole10, PhiD.is hole11, PhiD.is hole12, PhiD.is hole13, PhiD.is hole14, PhiD.is hole15, PhiD.gen (fun w _ G => SN G w ((chunks S n f).map some))]
    [some 3, some 4, some 5, some 6, some 7, some 8, some 9, some 10, some 11, some 12, some 13, some 14, some 15, some 16, some 17, some 18, some 19, some 2] [[], [0], [1], [2], [3], [], [5], [6], [7], [8], [9], [], [11], [12], [13], [14], [4, 10, 15]] mixed ⟨(fun _ _ _ _ h hs => SN.mono h hs), trivial⟩ prem fin hE hD rfl hml hdl hpr
  rotate_left 17
  · first | kernel_rfl | exact rfl
  · first | kernel_rfl | exact rfl
  · exact Nat.le_of_ble_eq_true rfl
  · first | kernel_rfl | exact rfl
  · first | kernel_rfl | exact rfl
  refine ⟨fun G hG => ?_, fun G hG => ?_, fun G hG => ?_, fun G hG => ?_, fun G hG => ?_, fun G hG => ?_, fun G hG => ?_, fun G hG => ?_, fun G hG => ?_, fun G hG => ?_, fun G hG => ?_, fun G hG => ?_, fun G hG => ?_, fun G hG => ?_, fun G hG => ?_, fun G hG => ?_, fun G hG => ?_, trivial⟩
  · simp only [withD, nthD, Step2, nthDst, putO, postD]
    (refine op_move ?_; exact ⟨[], rfl, rfl, rfl⟩)
  · simp only [withD, nthD, Step2, nthDst, putO, postD]
    ((first | refine op_nilCheck_ptr ?_ | refine op_nilCheck_meth ?_); exact ⟨[], rfl, rfl, rfl⟩)
  · simp only [withD, nthD, Step2, nthDst, putO, postD]
    (refine op_fieldAddr ?_; exact ⟨[], rfl, rfl, rfl⟩)
  · simp only [withD, nthD, Step2, nthDst, putO, postD]
    (refine op_fieldAddr ?_; exact ⟨[], rfl, rfl, rfl⟩)
  · simp only [withD, nthD, Step2, nthDst, putO, postD]
    (refine op_load ?_ (hm := hG _ hm); exact ⟨[], rfl, rfl, rfl⟩)
  · simp only [withD, nthD, Step2, nthDst, putO, postD]
    (refine op_move ?_; exact ⟨[], rfl, rfl, rfl⟩)
  · simp only [withD, nthD, Step2, nthDst, putO, postD]
    ((first | refine op_nilCheck_ptr ?_ | refine op_nilCheck_meth ?_); exact ⟨[], rfl, rfl, rfl⟩)
  · simp only [withD, nthD, Step2, nthDst, putO, postD]
    (refine op_fieldAddr ?_; exact ⟨[], rfl, rfl, rfl⟩)
  · simp only [withD, nthD, Step2, nthDst, putO, postD]
    (refine op_fieldAddr ?_; exact ⟨[], rfl, rfl, rfl⟩)
  · simp only [withD, nthD, Step2, nthDst, putO, postD]
    (refine op_load ?_ (hm := hG _ hm); exact ⟨[], rfl, rfl, rfl⟩)
  · simp only [withD, nthD, Step2, nthDst, putO, postD]
    (refine op_len_slice ?_; exact ⟨[], rfl, rfl, rfl⟩)
  · simp only [withD, nthD, Step2, nthDst, putO, postD]
    (refine op_move ?_; exact ⟨[], rfl, rfl, rfl⟩)
  · simp only [withD, nthD, Step2, nthDst, putO, postD]
    ((first | refine op_nilCheck_ptr ?_ | refine op_nilCheck_meth ?_); exact ⟨[], rfl, rfl, rfl⟩)
  · simp only [withD, nthD, Step2, nthDst, putO, postD]
    (refine op_fieldAddr ?_; exact ⟨[], rfl, rfl, rfl⟩)
  · simp only [withD, nthD, Step2, nthDst, putO, postD]
    (refine op_fieldAddr ?_; exact ⟨[], rfl, rfl, rfl⟩)
  · simp only [withD, nthD, Step2, nthDst, putO, postD]
    (refine op_load ?_ (hm := hG _ hm); exact ⟨[], rfl, rfl, rfl⟩)
  · simp only [withD, nthD, Step2, nthDst, putO, postD]
    (refine op_call ((inflate1 a c f n S _ (hf.mono fun z hz => hG _ hz) hn hS0 hb).mono ?_); rintro w _ ⟨ex, rfl, hw⟩; exact ⟨ex, rfl, hw⟩)
  simp only [FinalsD, nthDst, putO, List.drop_succ_cons, List.drop_zero]
  rintro _ _ ⟨hsn, -⟩
  try simp only [List.nil_append]
  repeat' first
    | refine tc_seq ?_ | refine tc_region ?_ | refine at_seq_normal ?_ | refine tl_nil ?_ | refine tl_cons ?_ | refine op_move ?_ | refine op_assign ?_ | refine op_fieldAddr ?_ | refine op_load ?_ | refine op_load_agg ?_
    | refine op_len_slice ?_ | refine op_nilCheck_ptr ?_ | refine op_nilCheck_meth ?_ | refine op_loadK rfl ?_ | refine op_load_aggK rfl ?_ | refine tc_ret ?_ | refine at_seq_ret ?_
  exact ret_tmp (hG := List.Sublist.refl _) (hk := ⟨_, rfl, hsn⟩)
set_option maxRecDepth 20000 in
instance mCoordsLS : MethP Try.prog 64 "Coords" 89 0 where
  eq := fun k off args w => by kernel_rfl
set_option maxRecDepth 20000 in
instance mCoordsLR : MethP Try.prog 67 "Coords" 89 0 where
  eq := fun k off args w => by kernel_rfl
set_option maxRecDepth 20000 in
instance mCoordsMP : MethP Try.prog 74 "Coords" 97 0 where
  eq := fun k off args w => by kernel_rfl
set_option maxRecDepth 20000 in
instance aiCoordsLS : AssertIf Try.prog 64 40 where
  eq := fun v w xt => by kernel_rfl
set_option maxRecDepth 20000 in
instance aiCoordsLR : AssertIf Try.prog 67 40 where
  eq := fun v w xt => by kernel_rfl
set_option maxRecDepth 20000 in
instance aiCoordsMP : AssertIf Try.prog 74 40 where
  eq := fun v w xt => by kernel_rfl
theorem nrm_id {rs : List (Option (List Nat))} (h : ∀ r ∈ rs, r ≠ some []) : rs.map nrm = rs := by
  induction rs with
  | nil => rfl
  | cons r rs ih =>
    rw [List.map_cons, ih fun q hq => h q (List.mem_cons_of_mem _ hq)]
    have := h r List.mem_cons_self
    match r, this with
    | none, _ => rfl
    | some [], h => exact absurd rfl h
    | some (x :: xs), _ => rfl
theorem chunks_ne {S n : Nat} {f : List Nat} (hS : 0 < S) (hn : f.length = n * S) : ∀ r ∈ (chunks S n f).map some, r ≠ some [] ∧ (r.getD []).length < f.length + 1 := by
  intro r hr
  obtain ⟨x, hx, rfl⟩ := List.mem_map.1 hr
  unfold chunks at hx
  obtain ⟨i, hi, rfl⟩ := List.mem_map.1 hx
  have hi : i < n := by simpa using hi
  have hle : (i + 1) * S ≤ n * S := Nat.mul_le_mul_right _ hi
  rw [Nat.add_mul, Nat.one_mul] at hle
  have hl : ((f.drop (i * S)).take S).length = S := by simp; omega
  refine ⟨fun h => ?_, ?_⟩
  · injection h with h
    rw [h] at hl
    simp at hl
    omega
  · simp only [Option.getD_some]; omega
theorem mpAll_ne {f : List Nat} {e : List Int} {S : Nat} (hok : MpOk e S f.length) (hS : 0 < S) : ∀ r ∈ mpAll f e e.length, r ≠ some [] ∧ (r.getD []).length < f.length + 1 := by
  intro r hr
  unfold mpAll at hr
  obtain ⟨i, hi, rfl⟩ := List.mem_map.1 hr
  have hi : i < e.length := by simpa using hi
  have h1 := hok.step i hi
  have h2 := hok.le (i + 1) hi
  have h3 := cutN_len (f := f) (a := en e i) h2
  unfold mpAt
  split
  · exact ⟨(fun h => by cases h), by simp⟩
  · refine ⟨fun h => ?_, by simp only [Option.getD_some]; omega⟩
    injection h with h
    rw [h] at h3
    simp at h3
    omega
set_option maxRecDepth 100000 in
instance idle15 : IdleD Try.prog 15 2 where
  idle := fun cap w hl => by
    match cap, hl with
    | [p, q], _ =>
    have h0 : ∀ w : World, (eqGuard .neq 20 (.tmp 2) (.const .nilIface) .nilIface .nilIface).run Try.prog w = .ok () w := fun _ => rfl
    have h1 : ∀ w : World, (binOp .neq 20 .nilIface .nilIface).run Try.prog w = .ok (.bool false) w := fun w => by
      first
        | rfl
        | simp [binOp, Op.equal, Op.equalIn, go_sem]
    refine callsD_of_wpS Try.func15 rfl fun c₀ cs hu => ?_
    apply wpS_seq
    apply wpS_region
    simp [wpOpsS, go_sem, recoverD, hu, Try.ntmps15, Exit.thenS, h1]
    refine wpS_cond (t := false) (by simp [Act.eval, Array.replicate]) ?_
    simp only [Bool.false_eq_true, if_false]
    refine wpS_of_wp (wp_skip ?_)
    cases c₀
    simp_all [bodyPostS, results, Try.results15]
set_option maxHeartbeats 4000000 in
theorem lineCoordsMP (l s : Int) (vf ve vee vk : Value) (f : List Nat) (e : List Int) (S : Nat) (H : Heap) (hl : 1 ≤ l) (hf : FS H vf f) (he : IS H ve e) (hb : f.length ≤ 2000) (hbe : e.length ≤ 2000) (hSs : strideI l = (S : Int)) (hok : MpOk e S f.length) (hS : 0 < S) (hS9 : S ≤ 9) (hfe : e = [] → f.length = 0) :
    Does Try.prog 7 [.agg ⟨[.int .i64 4, .int .i64 l, .int .i64 s, vf, ve, vee, vk]⟩] H fun w H' => ∃ u, w = .tuple #[u, .bool true] ∧ SN H' u (mpAll f e e.length) ∧ ∃ ex, H' = ex ++ H := by
  have hne := mpAll_ne hok hS
  have hid := nrm_id fun r hr => (hne r hr).1
  refine fn_enter_d 18 Try.func7 fun W => ?_
  repeat' first
    | (refine op_call ((geometryMultiPoint l s _ _ _ _ f e _ hl (hf.mono exs) (he.mono exs) (by omega) (by omega) hfe).mono ?_); rintro _ _ ⟨kp, T, a, c, ae, ce, R, rfl, rfl, hfs, hes, ex, rfl⟩)
    | refine op_assertIf ?_
    | (refine op_invokeP ((mpCoords kp T l s a c ae ce f e S _ mem0 (hfs.mono fun z hz => List.mem_cons_of_mem _ hz) (hes.mono fun z hz => List.mem_cons_of_mem _ hz) hSs hok (by omega) hbe hS9).mono ?_); rintro u _ ⟨ex3, rfl, hu⟩; obtain ⟨a9, c9, rfl⟩ := hu.val)
    | (refine op_call ((plain1 _ _ _ hu (by rw [mpAll_len]; omega) (fun r hr => by have := (hne r hr).2; omega)).mono ?_); rintro w _ ⟨ex4, rfl, h4⟩; rw [hid] at h4; obtain ⟨a8, c8, rfl⟩ := h4.val)
    | refine op_storeK rfl ?_
    | (first | refine tl_defer ?_ | refine tc_seq ?_ | refine tc_region ?_ | refine at_seq_normal ?_ | refine tl_nil ?_ | refine tl_cons ?_ | refine tl_cons_none ?_ | refine op_move ?_ | refine op_assign ?_ | refine op_load ?_ | refine op_load_agg ?_ | refine op_unop_not ?_ | refine op_extract ?_ | refine op_typeAssert ?_ | refine op_makeMeth ?_ | refine op_makeFunc ?_ | (refine op_alloc ?_; intro _) | (refine op_box ?_; intro _) | refine op_store0 ?_ | refine op_store1 ?_ | refine op_store2 ?_ | refine op_store3 ?_ | refine op_store4 ?_ | refine op_store5 ?_ | refine op_storeK rfl ?_ | refine op_loadK rfl ?_ | refine op_load_aggK rfl ?_ | refine tc_cond_t ?_ | refine tc_cond_f ?_ | refine tc_cond (fun _ => ?_) (fun _ => ?_) | refine tc_skip ?_ | refine tc_ret ?_ | refine at_seq_ret ?_ | fail)
    | fail
  exact ret_door (m := 2) rfl rfl (.cons (rv_cell rfl) (.cons (rv_cell rfl) .nil)) rfl (List.Sublist.refl _) ⟨_, rfl, h4.mono ins, ExC.ex⟩
set_option maxHeartbeats 4000000 in
theorem lineCoordsLS (l s : Int) (vf ve vee vk : Value) (f : List Nat) (n S : Nat) (H : Heap) (hl : 1 ≤ l) (hf : FS H vf f) (hb : f.length ≤ 2000) (hSs : strideI l = (S : Int)) (hS : 0 < S) (hn : f.length = n * S) :
    Does Try.prog 7 [.agg ⟨[.int .i64 2, .int .i64 l, .int .i64 s, vf, ve, vee, vk]⟩] H fun w H' => ∃ u, w = .tuple #[u, .bool true] ∧ SN H' u ((chunks S n f).map some) ∧ ∃ ex, H' = ex ++ H := by
  have hne := chunks_ne hS hn
  have hid := nrm_id fun r hr => (hne r hr).1
  have hnl : n ≤ f.length := by rw [hn]; exact Nat.le_mul_of_pos_right n hS
  refine fn_enter_d 18 Try.func7 fun W => ?_
  repeat' first
    | (refine op_call ((geometryLineString l s _ _ _ _ f _ hl (hf.mono exs) (by omega)).mono ?_); rintro _ _ ⟨kp, T, a, c, R, rfl, rfl, hR, ex, rfl⟩)
    | refine op_assertIf ?_
    | (refine op_invokeP ((g1Coords kp T l s a c f n S _ mem0 (hR.mono fun z hz => List.mem_cons_of_mem _ hz) hSs hS hn (by omega)).mono ?_); rintro u _ ⟨ex3, rfl, hu⟩; obtain ⟨a9, c9, rfl⟩ := hu.val)
    | (refine op_call ((plain1 _ _ _ hu (by rw [List.length_map, chunks_len]; omega) (fun r hr => by have := (hne r hr).2; omega)).mono ?_); rintro w _ ⟨ex4, rfl, h4⟩; rw [hid] at h4; obtain ⟨a8, c8, rfl⟩ := h4.val)
    | refine op_storeK rfl ?_
    | (first | refine tl_defer ?_ | refine tc_seq ?_ | refine tc_region ?_ | refine at_seq_normal ?_ | refine tl_nil ?_ | refine tl_cons ?_ | refine tl_cons_none ?_ | refine op_move ?_ | refine op_assign ?_ | refine op_load ?_ | refine op_load_agg ?_ | refine op_unop_not ?_ | refine op_extract ?_ | refine op_typeAssert ?_ | refine op_makeMeth ?_ | refine op_makeFunc ?_ | (refine op_alloc ?_; intro _) | (refine op_box ?_; intro _) | refine op_store0 ?_ | refine op_store1 ?_ | refine op_store2 ?_ | refine op_store3 ?_ | refine op_store4 ?_ | refine op_store5 ?_ | refine op_storeK rfl ?_ | refine op_loadK rfl ?_ | refine op_load_aggK rfl ?_ | refine tc_cond_t ?_ | refine tc_cond_f ?_ | refine tc_cond (fun _ => ?_) (fun _ => ?_) | refine tc_skip ?_ | refine tc_ret ?_ | refine at_seq_ret ?_ | fail)
    | fail
  exact ret_door (m := 2) rfl rfl (.cons (rv_cell rfl) (.cons (rv_cell rfl) .nil)) rfl (List.Sublist.refl _) ⟨_, rfl, h4.mono ins, ExC.ex⟩
set_option maxHeartbeats 4000000 in
theorem gPlacesLS (l s : Int) (af : Option Addr) (cf : Nat) (ve vee vk : Value) (f : List Nat) (S : Nat) (H : Heap) (hf : FS H (.slice af f.length cf) f) (hb : f.length ≤ 2000) (hSs : strideI l = (S : Int)) (hS : 0 < S) (hS9 : S ≤ 9) :
    Does Try.prog 9 [.agg ⟨[.int .i64 2, .int .i64 l, .int .i64 s, .slice af f.length cf, ve, vee, vk]⟩] H fun w H' => SN H' w ((chunks S (f.length / S) f).map some) ∧ ∃ ex, H' = ex ++ H := by
  have c4 : icmp .neq 2 4 = true := rfl
  refine fn_enter 34 Try.func9 fun W => ?_
  repeat' first
    | (first | refine tc_seq ?_ | refine tc_region ?_ | refine at_seq_normal ?_ | refine tl_nil ?_ | refine tl_cons ?_ | refine tl_cons_none ?_ | refine op_move ?_ | refine op_assign ?_ | refine op_fieldAddr ?_ | refine op_load ?_ | refine op_load_agg ?_ | refine op_indexC ?_ | refine op_indexAddr1 ?_ | refine op_indexAddr ?_ | refine op_icmp ?_ | refine op_iarith ?_ | refine op_len_slice ?_ | (refine op_alloc ?_; intro _) | (refine op_box ?_; intro _) | (refine op_buildSlice ?_; intro _) | refine op_store0 ?_ | refine op_store1 ?_ | refine op_store2 ?_ | refine op_store3 ?_ | refine op_store4 ?_ | refine op_store5 ?_ | refine op_storeK rfl ?_ | refine op_loadK rfl ?_ | refine op_load_aggK rfl ?_ | refine tc_cond_t ?_ | refine tc_cond_f ?_ | refine tc_block ?_ | refine tc_skip ?_ | refine tc_ret ?_ | refine tc_exit ?_ | refine at_seq_ret ?_ | refine at_seq_exit ?_ | refine at_block_normal ?_ | refine at_block_ret ?_ | refine at_block_exit_self ?_ | refine at_block_exit_ne ?_ | refine at_loop_ret ?_ | refine at_loop_exit ?_ | fail)
    | fail
  apply fun hole0 hole1 hole2 hole3 hE hD hml hdl hpr prem fin => tc_drawnD 6 [PhiD.is hole0, PhiD.is hole1, PhiD.is hole2, PhiD.is hole3, PhiD.is (.int .i64 (S : Int)), PhiD.gen (fun w _ G => SN G w ((chunks S (f.length / S) f).map some))]
    [some 9, some 10, some 11, some 12, some 13, some 14, some 2] [[], [0], [], [2], [3], [1, 4]] mixed ⟨(fun _ _ _ _ h hs => SN.mono h hs), trivial⟩ prem fin hE hD rfl hml hdl hpr
  rotate_left 5
  · first | kernel_rfl | exact rfl
  · first | kernel_rfl | exact rfl
  · exact Nat.le_of_ble_eq_true rfl
  · first | kernel_rfl | exact rfl
  · first | kernel_rfl | exact rfl
  refine ⟨fun G hG => ?_, fun G hG => ?_, fun G hG => ?_, fun G hG => ?_, fun G hG => ?_, fun G hG => ?_, trivial⟩
  · simp only [withD, nthD, Step2, nthDst, putO, postD]
    (refine op_fieldAddr ?_; exact ⟨[], rfl, rfl, rfl⟩)
  · simp only [withD, nthD, Step2, nthDst, putO, postD]
    ((first | refine op_load ?_ | refine op_load_agg ?_ | refine op_load ?_ (hm := Sub.mem (by assumption) (by (repeat (apply List.mem_cons_of_mem)); assumption)) | refine op_load_agg ?_ (hm := Sub.mem (by assumption) (by (repeat (apply List.mem_cons_of_mem)); assumption)) | refine op_loadH hG rfl ?_ | refine op_load_aggH hG rfl ?_); exact ⟨[], rfl, rfl, rfl⟩)
  · simp only [withD, nthD, Step2, nthDst, putO, postD]
    (refine op_fieldAddr ?_; exact ⟨[], rfl, rfl, rfl⟩)
  · simp only [withD, nthD, Step2, nthDst, putO, postD]
    ((first | refine op_load ?_ | refine op_load_agg ?_ | refine op_load ?_ (hm := Sub.mem (by assumption) (by (repeat (apply List.mem_cons_of_mem)); assumption)) | refine op_load_agg ?_ (hm := Sub.mem (by assumption) (by (repeat (apply List.mem_cons_of_mem)); assumption)) | refine op_loadH hG rfl ?_ | refine op_load_aggH hG rfl ?_); exact ⟨[], rfl, rfl, rfl⟩)
  · simp only [withD, nthD, Step2, nthDst, putO, postD]
    (refine op_call ((Geom.stride l _).mono ?_); rintro _ _ ⟨rfl, rfl⟩; rw [hSs]; exact ⟨[], rfl, rfl, rfl⟩)
  · simp only [withD, nthD, Step2, nthDst, putO, postD]
    (refine op_call ((rows af cf f S _ (hf.mono fun z hz => hG _ (exs z hz)) hS (by omega) (by omega)).mono ?_); rintro w _ ⟨ex, rfl, hw⟩; exact ⟨ex, rfl, hw⟩)
  simp only [FinalsD, nthDst, putO, List.drop_succ_cons, List.drop_zero]
  rintro _ _ ⟨hsn, -⟩
  try simp only [List.nil_append]
  repeat' first
    | (first | refine tc_seq ?_ | refine tc_region ?_ | refine at_seq_normal ?_ | refine tl_nil ?_ | refine tl_cons ?_ | refine tl_cons_none ?_ | refine op_move ?_ | refine op_assign ?_ | refine op_fieldAddr ?_ | refine op_load ?_ | refine op_load_agg ?_ | refine op_indexC ?_ | refine op_indexAddr1 ?_ | refine op_indexAddr ?_ | refine op_icmp ?_ | refine op_iarith ?_ | refine op_len_slice ?_ | (refine op_alloc ?_; intro _) | (refine op_box ?_; intro _) | (refine op_buildSlice ?_; intro _) | refine op_store0 ?_ | refine op_store1 ?_ | refine op_store2 ?_ | refine op_store3 ?_ | refine op_store4 ?_ | refine op_store5 ?_ | refine op_storeK rfl ?_ | refine op_loadK rfl ?_ | refine op_load_aggK rfl ?_ | refine tc_cond_t ?_ | refine tc_cond_f ?_ | refine tc_block ?_ | refine tc_skip ?_ | refine tc_ret ?_ | refine tc_exit ?_ | refine at_seq_ret ?_ | refine at_seq_exit ?_ | refine at_block_normal ?_ | refine at_block_ret ?_ | refine at_block_exit_self ?_ | refine at_block_exit_ne ?_ | refine at_loop_ret ?_ | refine at_loop_exit ?_ | fail)
    | fail
  exact ret_tmp (hG := List.Sublist.refl _) (hk := ⟨hsn, ExC.ex⟩)
set_option maxHeartbeats 4000000 in
theorem lineCoordsLR (l s : Int) (vf ve vee vk : Value) (f : List Nat) (n S : Nat) (H : Heap) (hl : 1 ≤ l) (hf : FS H vf f) (hb : f.length ≤ 2000) (hSs : strideI l = (S : Int)) (hS : 0 < S) (hn : f.length = n * S) :
    Does Try.prog 7 [.agg ⟨[.int .i64 8, .int .i64 l, .int .i64 s, vf, ve, vee, vk]⟩] H fun w H' => ∃ u, w = .tuple #[u, .bool true] ∧ SN H' u ((chunks S n f).map some) ∧ ∃ ex, H' = ex ++ H := by
  have hne := chunks_ne hS hn
  have hid := nrm_id fun r hr => (hne r hr).1
  have hnl : n ≤ f.length := by rw [hn]; exact Nat.le_mul_of_pos_right n hS
  refine fn_enter_d 18 Try.func7 fun W => ?_
  repeat' first
    | (refine op_call ((geometryLinearRing l s _ _ _ _ f _ hl (hf.mono exs) (by omega)).mono ?_); rintro _ _ ⟨kp, T, a, c, R, rfl, rfl, hR, ex, rfl⟩)
    | refine op_assertIf ?_
    | (refine op_invokeP ((g1Coords kp T l s a c f n S _ mem0 (hR.mono fun z hz => List.mem_cons_of_mem _ hz) hSs hS hn (by omega)).mono ?_); rintro u _ ⟨ex3, rfl, hu⟩; obtain ⟨a9, c9, rfl⟩ := hu.val)
    | (refine op_call ((plain1 _ _ _ hu (by rw [List.length_map, chunks_len]; omega) (fun r hr => by have := (hne r hr).2; omega)).mono ?_); rintro w _ ⟨ex4, rfl, h4⟩; rw [hid] at h4; obtain ⟨a8, c8, rfl⟩ := h4.val)
    | refine op_storeK rfl ?_
    | (first | refine tl_defer ?_ | refine tc_seq ?_ | refine tc_region ?_ | refine at_seq_normal ?_ | refine tl_nil ?_ | refine tl_cons ?_ | refine tl_cons_none ?_ | refine op_move ?_ | refine op_assign ?_ | refine op_load ?_ | refine op_load_agg ?_ | refine op_unop_not ?_ | refine op_extract ?_ | refine op_typeAssert ?_ | refine op_makeMeth ?_ | refine op_makeFunc ?_ | (refine op_alloc ?_; intro _) | (refine op_box ?_; intro _) | refine op_store0 ?_ | refine op_store1 ?_ | refine op_store2 ?_ | refine op_store3 ?_ | refine op_store4 ?_ | refine op_store5 ?_ | refine op_storeK rfl ?_ | refine op_loadK rfl ?_ | refine op_load_aggK rfl ?_ | refine tc_cond_t ?_ | refine tc_cond_f ?_ | refine tc_cond (fun _ => ?_) (fun _ => ?_) | refine tc_skip ?_ | refine tc_ret ?_ | refine at_seq_ret ?_ | fail)
    | fail
  exact ret_door (m := 2) rfl rfl (.cons (rv_cell rfl) (.cons (rv_cell rfl) .nil)) rfl (List.Sublist.refl _) ⟨_, rfl, h4.mono ins, ExC.ex⟩
set_option maxHeartbeats 4000000 in
theorem gPlacesLR (l s : Int) (af : Option Addr) (cf : Nat) (ve vee vk : Value) (f : List Nat) (S : Nat) (H : Heap) (hf : FS H (.slice af f.length cf) f) (hb : f.length ≤ 2000) (hSs : strideI l = (S : Int)) (hS : 0 < S) (hS9 : S ≤ 9) :
    Does Try.prog 9 [.agg ⟨[.int .i64 8, .int .i64 l, .int .i64 s, .slice af f.length cf, ve, vee, vk]⟩] H fun w H' => SN H' w ((chunks S (f.length / S) f).map some) ∧ ∃ ex, H' = ex ++ H := by
  have c4 : icmp .neq 8 4 = true := rfl
  refine fn_enter 34 Try.func9 fun W => ?_
  repeat' first
    | (first | refine tc_seq ?_ | refine tc_region ?_ | refine at_seq_normal ?_ | refine tl_nil ?_ | refine tl_cons ?_ | refine tl_cons_none ?_ | refine op_move ?_ | refine op_assign ?_ | refine op_fieldAddr ?_ | refine op_load ?_ | refine op_load_agg ?_ | refine op_indexC ?_ | refine op_indexAddr1 ?_ | refine op_indexAddr ?_ | refine op_icmp ?_ | refine op_iarith ?_ | refine op_len_slice ?_ | (refine op_alloc ?_; intro _) | (refine op_box ?_; intro _) | (refine op_buildSlice ?_; intro _) | refine op_store0 ?_ | refine op_store1 ?_ | refine op_store2 ?_ | refine op_store3 ?_ | refine op_store4 ?_ | refine op_store5 ?_ | refine op_storeK rfl ?_ | refine op_loadK rfl ?_ | refine op_load_aggK rfl ?_ | refine tc_cond_t ?_ | refine tc_cond_f ?_ | refine tc_block ?_ | refine tc_skip ?_ | refine tc_ret ?_ | refine tc_exit ?_ | refine at_seq_ret ?_ | refine at_seq_exit ?_ | refine at_block_normal ?_ | refine at_block_ret ?_ | refine at_block_exit_self ?_ | refine at_block_exit_ne ?_ | refine at_loop_ret ?_ | refine at_loop_exit ?_ | fail)
    | fail
  apply fun hole0 hole1 hole2 hole3 hE hD hml hdl hpr prem fin => tc_drawnD 6 [PhiD.is hole0, PhiD.is hole1, PhiD.is hole2, PhiD.is hole3, PhiD.is (.int .i64 (S : Int)), PhiD.gen (fun w _ G => SN G w ((chunks S (f.length / S) f).map some))]
    [some 9, some 10, some 11, some 12, some 13, some 14, some 2] [[], [0], [], [2], [3], [1, 4]] mixed ⟨(fun _ _ _ _ h hs => SN.mono h hs), trivial⟩ prem fin hE hD rfl hml hdl hpr
  rotate_left 5
  · first | kernel_rfl | exact rfl
  · first | kernel_rfl | exact rfl
  · exact Nat.le_of_ble_eq_true rfl
  · first | kernel_rfl | exact rfl
  · first | kernel_rfl | exact rfl
  refine ⟨fun G hG => ?_, fun G hG => ?_, fun G hG => ?_, fun G hG => ?_, fun G hG => ?_, fun G hG => ?_, trivial⟩
  · simp only [withD, nthD, Step2, nthDst, putO, postD]
    (refine op_fieldAddr ?_; exact ⟨[], rfl, rfl, rfl⟩)
  · simp only [withD, nthD, Step2, nthDst, putO, postD]
    ((first | refine op_load ?_ | refine op_load_agg ?_ | refine op_load ?_ (hm := Sub.mem (by assumption) (by (repeat (apply List.mem_cons_of_mem)); assumption)) | refine op_load_agg ?_ (hm := Sub.mem (by assumption) (by (repeat (apply List.mem_cons_of_mem)); assumption)) | refine op_loadH hG rfl ?_ | refine op_load_aggH hG rfl ?_); exact ⟨[], rfl, rfl, rfl⟩)
  · simp only [withD, nthD, Step2, nthDst, putO, postD]
    (refine op_fieldAddr ?_; exact ⟨[], rfl, rfl, rfl⟩)
  · simp only [withD, nthD, Step2, nthDst, putO, postD]
    ((first | refine op_load ?_ | refine op_load_agg ?_ | refine op_load ?_ (hm := Sub.mem (by assumption) (by (repeat (apply List.mem_cons_of_mem)); assumption)) | refine op_load_agg ?_ (hm := Sub.mem (by assumption) (by (repeat (apply List.mem_cons_of_mem)); assumption)) | refine op_loadH hG rfl ?_ | refine op_load_aggH hG rfl ?_); exact ⟨[], rfl, rfl, rfl⟩)
  · simp only [withD, nthD, Step2, nthDst, putO, postD]
    (refine op_call ((Geom.stride l _).mono ?_); rintro _ _ ⟨rfl, rfl⟩; rw [hSs]; exact ⟨[], rfl, rfl, rfl⟩)
  · simp only [withD, nthD, Step2, nthDst, putO, postD]
    (refine op_call ((rows af cf f S _ (hf.mono fun z hz => hG _ (exs z hz)) hS (by omega) (by omega)).mono ?_); rintro w _ ⟨ex, rfl, hw⟩; exact ⟨ex, rfl, hw⟩)
  simp only [FinalsD, nthDst, putO, List.drop_succ_cons, List.drop_zero]
  rintro _ _ ⟨hsn, -⟩
  try simp only [List.nil_append]
  repeat' first
    | (first | refine tc_seq ?_ | refine tc_region ?_ | refine at_seq_normal ?_ | refine tl_nil ?_ | refine tl_cons ?_ | refine tl_cons_none ?_ | refine op_move ?_ | refine op_assign ?_ | refine op_fieldAddr ?_ | refine op_load ?_ | refine op_load_agg ?_ | refine op_indexC ?_ | refine op_indexAddr1 ?_ | refine op_indexAddr ?_ | refine op_icmp ?_ | refine op_iarith ?_ | refine op_len_slice ?_ | (refine op_alloc ?_; intro _) | (refine op_box ?_; intro _) | (refine op_buildSlice ?_; intro _) | refine op_store0 ?_ | refine op_store1 ?_ | refine op_store2 ?_ | refine op_store3 ?_ | refine op_store4 ?_ | refine op_store5 ?_ | refine op_storeK rfl ?_ | refine op_loadK rfl ?_ | refine op_load_aggK rfl ?_ | refine tc_cond_t ?_ | refine tc_cond_f ?_ | refine tc_block ?_ | refine tc_skip ?_ | refine tc_ret ?_ | refine tc_exit ?_ | refine at_seq_ret ?_ | refine at_seq_exit ?_ | refine at_block_normal ?_ | refine at_block_ret ?_ | refine at_block_exit_self ?_ | refine at_block_exit_ne ?_ | refine at_loop_ret ?_ | refine at_loop_exit ?_ | fail)
    | fail
  exact ret_tmp (hG := List.Sublist.refl _) (hk := ⟨hsn, ExC.ex⟩)
end Go.Proofs.Ytgjbnfkinckpmaa.Gm
