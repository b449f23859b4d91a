/-
  The parts of a multi point as the reference has them: Part, Parts, the places. No conditions.
-/
import Derived.Test.YtgjbnfkinckpmaaTy
import Derived.Test.YtgjbnfkinckpmaaMpA
import Derived.Test.YtgjbnfkinckpmaaRowz
import Derived.Test.YtgjbnfkinckpmaaInfl
import Derived.Test.YtgjbnfkinckpmaaLg15
import Derived.Test.YtgjbnfkinckpmaaLg20
import Derived.Test.YtgjbnfkinckpmaaLg23
import Derived.Test.YtgjbnfkinckpmaaLg24
import Derived.Test.YtgjbnfkinckpmaaLg31
set_option linter.unusedVariables false
set_option linter.unusedSimpArgs false
namespace Go.Proofs.Ytgjbnfkinckpmaa.Gm
open Go.Lg Go.Proofs.Ytgjbnfkinckpmaa.Geom Go.Proofs.Ytgjbnfkinckpmaa.Flat

/-- A block without floats. -/
def NoFl (e : Nat × Obj) : Prop := ∀ l T fz, e.2 = Obj.cells ⟨l⟩ T fz → ∀ x ∈ l, ∀ n, x ≠ .float .f64 n
theorem fs_skip {G G' : Heap} {v : Value} {zs : List Nat} (h : FS G v zs) (hs : ∀ e ∈ G, e ∈ G' ∨ NoFl e) : FS G' v zs := by
  obtain ⟨a, cap, h1, h0, h2⟩ := h
  refine ⟨a, cap, h1, h0, fun hne => ?_⟩
  obtain ⟨k, off, l, T, fz, h3, h4, h5⟩ := h2 hne
  rcases hs _ h4 with h6 | h6
  · exact ⟨k, off, l, T, fz, h3, h6, h5⟩
  · exfalso
    cases zs with
    | nil => exact hne rfl
    | cons z zs =>
      have hm : fl z ∈ l := by
        have : fl z ∈ (l.drop off).take ((z :: zs).map fl).length := by rw [h5]; simp
        exact List.mem_of_mem_drop (List.mem_of_mem_take this)
      exact h6 l T fz rfl _ hm _ rfl
theorem noFl7 {k : Nat} {T : TypeId} {fz : Nat × Nat} {x y z : Int} {a b c d : Option Addr} {a1 a2 b1 b2 c1 c2 d1 d2 : Nat} : NoFl (k, Obj.cells ⟨[.int .i64 x, .int .i64 y, .int .i64 z, .slice a a1 a2, .slice b b1 b2, .slice c c1 c2, .slice d d1 d2]⟩ T fz) := fun l T fz h x hx n => by
  cases h
  simp only [List.mem_cons, List.not_mem_nil, or_false] at hx
  rcases hx with rfl | rfl | rfl | rfl | rfl | rfl | rfl <;> (intro h; cases h)
theorem is_block2 {G : Heap} {a : Option Addr} {n c : Nat} {zs : List Int} (h : IS G (.slice a n c) zs) (hn : zs ≠ []) :
    ∃ k off l T fz, a = some ⟨k, off, none⟩ ∧ (k, Obj.cells ⟨l⟩ T fz) ∈ G ∧ ∀ i x, zs[i]? = some x → l[off + i]? = some (.int .i64 x) := by
  obtain ⟨a', cap, h1, h0, h2⟩ := h
  obtain ⟨k, off, l, T, fz, h3, h4, h5⟩ := h2 (by simpa using hn)
  cases h1
  refine ⟨k, off, l, T, fz, h3, h4, fun i x hi => cut_get h5 ?_⟩
  rw [List.getElem?_map, hi]; rfl
theorem kidOf4 (H : Heap) : Does Try.prog 57 [.int .i64 4] H fun w H' => w = .int .i64 1 ∧ H' = H := by
  refine fn_enter 11 Try.func57 fun W => ?_
  have c1 : icmp .geq 4 4 = true := rfl
  have c2 : icmp .leq 4 6 = true := rfl
  repeat' first
    | (first | refine tc_seq ?_ | refine tc_region ?_ | refine at_seq_normal ?_ | refine tl_nil ?_ | refine tl_cons ?_ | refine op_move ?_ | refine op_assign ?_ | refine op_icmp ?_ | refine op_iarith ?_ | refine op_pick_true ?_ | refine op_pick_false ?_ | refine op_pick_true' ?_ | refine op_pick_false' ?_ | refine tc_cond_t ?_ | refine tc_cond_f ?_ | refine tc_skip ?_ | refine tc_ret ?_ | refine at_seq_ret ?_ | refine tl_guard_yes ?_ | refine tl_guard_no ?_ | refine tl_guard_yes' ?_ | refine tl_guard_no' ?_ | refine tl_guard_undef ?_ | fail)
    | fail
  exact ret_tmp (hk := ⟨rfl, rfl⟩)
theorem numParts4 (l s : Int) (vf ve vee vk : Value) (e : List Int) (H : Heap) (he : IS H ve e) : Does Try.prog 49 [.agg ⟨[.int .i64 4, .int .i64 l, .int .i64 s, vf, ve, vee, vk]⟩] H fun w H' => w = .int .i64 (e.length : Int) ∧ H' = H := by
  obtain ⟨ae, ce, rfl⟩ := he.val
  have c1 : icmp .eql 4 3 = false := rfl
  have c2 : icmp .eql 4 4 = true := rfl
  refine fn_enter 20 Try.func49 fun W => ?_
  repeat' first
    | (first | refine tc_seq ?_ | refine tc_region ?_ | refine at_seq_normal ?_ | refine tl_nil ?_ | refine tl_cons ?_ | refine op_assign ?_ | refine op_fieldAddr ?_ | refine op_load ?_ | refine op_load_agg ?_ | refine op_icmp ?_ | refine op_len_slice ?_ | (refine op_box ?_; intro _) | refine op_loadK rfl ?_ | refine op_load_aggK rfl ?_ | refine tc_cond_t ?_ | refine tc_cond_f ?_ | refine tc_block ?_ | refine tc_skip ?_ | refine tc_ret ?_ | refine at_seq_ret ?_ | refine at_block_normal ?_ | refine at_block_ret ?_ | fail)
    | fail
  exact ret_tmp (hG := by (repeat (first | exact List.Sublist.refl _ | apply List.Sublist.cons_cons | apply List.Sublist.cons | refine List.Sublist.trans ?_ (List.sublist_append_right _ _)))) (hk := ⟨rfl, rfl⟩)
/-- The flat coordinates of a part: a row of its own. -/
def IsPart (G : Heap) (l : Int) (xs : List Nat) (u : List Value) : Prop := ∃ a c, u = [.int .i64 1, .int .i64 l, .int .i64 0, .slice a xs.length c, .slice none 0 0, .slice none 0 0, .slice none 0 0] ∧ a ≠ none ∧ FS G (.slice a xs.length c) xs
set_option maxHeartbeats 8000000 in
theorem part4 (l s : Int) (af : Option Addr) (cf : Nat) (ve vee vk : Value) (f : List Nat) (e : List Int) (i S : Nat) (H : Heap) (hf : FS H (.slice af f.length cf) f) (he : IS H ve e) (hok : MpOk e S f.length) (hi : i < e.length) (hb : f.length < 2 ^ 40) (hbe : e.length < 2 ^ 40) :
    Does Try.prog 50 [.agg ⟨[.int .i64 4, .int .i64 l, .int .i64 s, .slice af f.length cf, ve, vee, vk]⟩, .int .i64 (i : Int)] H fun w H' => ∃ u, w = .agg ⟨u⟩ ∧ IsPart H' l (cutN f (en e i) (en e (i + 1))) u ∧ ∃ ex, H' = ex ++ H := by
  obtain ⟨ae, ce, rfl⟩ := he.val
  have hc := hf.cap
  obtain ⟨ke, oe, le, Te, ze, rfl, hme, hge⟩ := is_block2 he (by intro h; rw [h] at hi; simp at hi)
  have g1 := hge i _ (hok.get i hi)
  have hle := hok.le (i + 1) hi
  have hst := hok.step i hi
  have c7 : icmp .eql 4 7 = false := rfl
  have c6 : icmp .eql 4 6 = false := rfl
  have c3 : icmp .neq 4 3 = true := rfl
  refine fn_enter 106 Try.func50 fun W => ?_
  obtain ⟨b0, hb0⟩ : ∃ b0, b0 = en e i := ⟨_, rfl⟩
  have hcut := FS.cut hf (l := b0) (h := en e (i + 1)) (by omega) hle
  cases i with
  | zero =>
    have c0 : icmp .gtr ((0 : Nat) : Int) 0 = false := rfl
    have hb00 : b0 = 0 := hb0
    subst hb00
    have hcl := cutN_len (f := f) (a := 0) hle
    repeat' first
      | (refine op_call ((kidOf4 _).mono ?_); rintro _ _ ⟨rfl, rfl⟩)
      | (first | refine tc_seq ?_ | refine tc_region ?_ | refine at_seq_normal ?_ | refine tl_nil ?_ | refine tl_cons ?_ | refine tl_cons_none ?_ | refine op_move ?_ | refine op_assign ?_ | refine op_fieldAddr ?_ | refine op_load ?_ | refine op_load_agg ?_ | refine op_indexC ?_ | refine op_indexAddr1 ?_ | refine op_indexAddr ?_ | refine op_icmp ?_ | refine op_fcmp ?_ | refine op_iarith ?_ | refine op_bcmp ?_ | refine op_unop_not ?_ | refine op_unop_neg_float ?_ | refine op_unop_neg_int ?_ | refine op_len_slice ?_ | refine op_pick_true ?_ | refine op_pick_false ?_ | refine op_pick_true' ?_ | refine op_pick_false' ?_ | refine op_build ?_ | refine op_extract ?_ | refine op_makeInterface ?_ | refine op_typeAssert ?_ | refine op_ptr_nil ?_ | refine op_nilCheck_ptr ?_ | refine op_nilCheck_meth ?_ | refine op_makeMeth ?_ | refine op_makeFunc ?_ | refine op_itof ?_ | refine op_itoi ?_ | refine op_ftoi ?_ | refine op_iquo ?_ | refine op_irem ?_ | refine op_ibits ?_ | refine op_slice_isnil ?_ | refine op_slice_notnil ?_ | refine op_imax ?_ | refine op_imin ?_ | refine op_shl ?_ | refine op_shr ?_ | (refine op_alloc ?_; intro _) | (refine op_box ?_; intro _) | (refine op_buildSlice ?_; intro _) | (refine op_farith ?_; intro _ _) | refine op_store0 ?_ | refine op_store1 ?_ | refine op_store2 ?_ | refine op_store3 ?_ | refine op_store4 ?_ | refine op_store5 ?_ | refine op_storeK rfl ?_ | refine op_loadK rfl ?_ | refine op_load_aggK rfl ?_ | refine tc_cond_t ?_ | refine tc_cond_f ?_ | refine tc_block ?_ | refine tc_skip ?_ | refine tc_ret ?_ | refine tc_exit ?_ | refine at_seq_ret ?_ | refine at_seq_exit ?_ | refine at_block_normal ?_ | refine at_block_ret ?_ | refine at_block_exit_self ?_ | refine at_block_exit_ne ?_ | refine at_loop_ret ?_ | refine at_loop_exit ?_ | fail)
      | fail
    rename_i kx kr
    apply fun hole0 hole1 hole2 hole3 hole4 hole5 hole6 hole7 hole8 hole9 hole10 hole11 hE hD hml hdl hpr prem fin => tc_drawnD 15 [PhiD.is hole0, PhiD.is hole1, PhiD.is hole2, PhiD.gen (some' (fun w ex => ∃ kb, w = .slice (some ⟨kb, 0, none⟩) 0 0 ∧ ex = [(kb, .cells ⟨[]⟩ 93 (0, 0))])), PhiD.is hole3, PhiD.is hole4, PhiD.is hole5, PhiD.is hole6, PhiD.is hole7, PhiD.is hole8, PhiD.is hole9, PhiD.is hole10, PhiD.is hole11, PhiD.gen (fun w ex G => ∃ a c, w = .slice a (cutN f 0 (en e (0 + 1))).length c ∧ a ≠ none ∧ FS G (.slice a (cutN f 0 (en e (0 + 1))).length c) (cutN f 0 (en e (0 + 1)))), PhiD.gen (fun w ex G => ∃ a c, w = .agg ⟨[.int .i64 1, .int .i64 l, .int .i64 0, .slice a (cutN f 0 (en e (0 + 1))).length c, .slice none 0 0, .slice none 0 0, .slice none 0 0]⟩ ∧ a ≠ none ∧ FS G (.slice a (cutN f 0 (en e (0 + 1))).length c) (cutN f 0 (en e (0 + 1))))]
      [some 91, some 92, some 93, some 94, some 95, some 96, some 97, some 98, some 99, some 100, some 101, some 102, some 103, some 104, some 105, none] [[], [], [1], [], [], [4], [], [], [7], [], [8, 9], [10], [5, 6, 11], [3, 12], [0, 2, 13]] mixed ⟨(some_mono _), (fun _ _ _ _ ⟨a, c, h1, h2, h3⟩ hs => ⟨a, c, h1, h2, h3.mono fun e he => hs _ he⟩), (fun _ _ _ _ ⟨a, c, h1, h2, h3⟩ hs => ⟨a, c, h1, h2, h3.mono fun e he => hs _ he⟩), trivial⟩ prem fin hE hD rfl hml hdl hpr
    rotate_left 13
    · first | kernel_rfl | exact rfl
    · first | kernel_rfl | exact rfl
    · exact Nat.le_of_ble_eq_true rfl
    · first | kernel_rfl | exact rfl
    · first | kernel_rfl | exact rfl
    refine ⟨fun G hG => ?_, fun G hG => ?_, fun G hG => ?_, fun G hG => ?_, fun G hG => ?_, fun G hG => ?_, fun G hG => ?_, fun G hG => ?_, fun G hG => ?_, fun G hG => ?_, fun G hG => ?_, fun G hG => ?_, fun G hG => ?_, fun G hG => ?_, fun G hG => ?_, trivial⟩
    · simp only [withD, nthD, Step2, nthDst, putO, postD]
      (refine op_move ?_; exact ⟨[], rfl, rfl, rfl⟩)
    · simp only [withD, nthD, Step2, nthDst, putO, postD]
      (refine op_fieldAddr ?_; exact ⟨[], rfl, rfl, rfl⟩)
    · simp only [withD, nthD, Step2, nthDst, putO, postD]
      ((first | refine op_load ?_ | refine op_load_agg ?_ | refine op_load ?_ (hm := Sub.mem (by assumption) (by (repeat (apply List.mem_cons_of_mem)); assumption)) | refine op_load_agg ?_ (hm := Sub.mem (by assumption) (by (repeat (apply List.mem_cons_of_mem)); assumption)) | refine op_loadH hG rfl ?_ | refine op_load_aggH hG rfl ?_); exact ⟨[], rfl, rfl, rfl⟩)
    · simp only [withD, nthD, Step2, nthDst, putO, postD]
      (refine op_buildSlice0 (fun kq => ?_); exact ⟨[_], rfl, kq, rfl, rfl⟩)
    · simp only [withD, nthD, Step2, nthDst, putO, postD]
      (refine op_fieldAddr ?_; exact ⟨[], rfl, rfl, rfl⟩)
    · simp only [withD, nthD, Step2, nthDst, putO, postD]
      ((first | refine op_load ?_ | refine op_load_agg ?_ | refine op_load ?_ (hm := Sub.mem (by assumption) (by (repeat (apply List.mem_cons_of_mem)); assumption)) | refine op_load_agg ?_ (hm := Sub.mem (by assumption) (by (repeat (apply List.mem_cons_of_mem)); assumption)) | refine op_loadH hG rfl ?_ | refine op_load_aggH hG rfl ?_); exact ⟨[], rfl, rfl, rfl⟩)
    · simp only [withD, nthD, Step2, nthDst, putO, postD]
      (refine op_move ?_; exact ⟨[], rfl, rfl, rfl⟩)
    · simp only [withD, nthD, Step2, nthDst, putO, postD]
      (refine op_fieldAddr ?_; exact ⟨[], rfl, rfl, rfl⟩)
    · simp only [withD, nthD, Step2, nthDst, putO, postD]
      ((first | refine op_load ?_ | refine op_load_agg ?_ | refine op_load ?_ (hm := Sub.mem (by assumption) (by (repeat (apply List.mem_cons_of_mem)); assumption)) | refine op_load_agg ?_ (hm := Sub.mem (by assumption) (by (repeat (apply List.mem_cons_of_mem)); assumption)) | refine op_loadH hG rfl ?_ | refine op_load_aggH hG rfl ?_); exact ⟨[], rfl, rfl, rfl⟩)
    · simp only [withD, nthD, Step2, nthDst, putO, postD]
      (refine op_move ?_; exact ⟨[], rfl, rfl, rfl⟩)
    · simp only [withD, nthD, Step2, nthDst, putO, postD]
      (refine op_indexAddr1 (j := 0) ?_ (hj := hi); exact ⟨[], rfl, rfl, rfl⟩)
    · simp only [withD, nthD, Step2, nthDst, putO, postD]
      (refine op_load ?_ (hm := hG _ (exs _ hme)) (hv := g1); exact ⟨[], rfl, rfl, rfl⟩)
    · simp only [withD, nthD, Step2, nthDst, putO, postD]
      (refine op_slice_lh (l := 0) (h := en e (0 + 1)) ?_ (h1 := by omega) (h2 := Nat.le_trans hle hc); exact ⟨[], rfl, rfl, rfl⟩)
    · simp only [withD, nthD, Step2, nthDst, putO, postD]
      rintro _ _ ⟨kb, rfl, rfl⟩ -
      (refine op_append0 ((cutN f 0 (en e (0 + 1))).map fl) ?_ (FS.toN (hcut.mono fun z hz => hG _ (exs z hz))) (h1 := oneCell_fl _) (hbig := by simp only [maxLen]; omega) (hbytes := by omega); intro ex a c ha hsl; exact ⟨ex, rfl, a, c, rfl, ha, SlN.toFS hsl⟩)
    · simp only [withD, nthD, Step2, nthDst, putO, postD]
      rintro _ _ ⟨pa, pc, rfl, hpa, hpf⟩ -
      (refine op_build ?_; exact ⟨[], rfl, pa, pc, rfl, hpa, hpf⟩)
    simp only [FinalsD, nthDst, putO, List.drop_succ_cons, List.drop_zero]
    rintro _ _ _ _ _ _ ⟨⟨qa, qc, rfl, hqa, hqf⟩, ⟨pa, pc, rfl, hpa, hpf⟩, ⟨kb, rfl, rfl⟩, -⟩
    try simp only [List.nil_append]
    repeat' first
      | refine op_storeK rfl ?_
      | (first | refine tc_seq ?_ | refine tc_region ?_ | refine at_seq_normal ?_ | refine tl_nil ?_ | refine tl_cons ?_ | refine tl_cons_none ?_ | refine op_move ?_ | refine op_assign ?_ | refine op_fieldAddr ?_ | refine op_load ?_ | refine op_load_agg ?_ | refine op_indexC ?_ | refine op_indexAddr1 ?_ | refine op_indexAddr ?_ | refine op_icmp ?_ | refine op_fcmp ?_ | refine op_iarith ?_ | refine op_bcmp ?_ | refine op_unop_not ?_ | refine op_unop_neg_float ?_ | refine op_unop_neg_int ?_ | refine op_len_slice ?_ | refine op_pick_true ?_ | refine op_pick_false ?_ | refine op_pick_true' ?_ | refine op_pick_false' ?_ | refine op_build ?_ | refine op_extract ?_ | refine op_makeInterface ?_ | refine op_typeAssert ?_ | refine op_ptr_nil ?_ | refine op_nilCheck_ptr ?_ | refine op_nilCheck_meth ?_ | refine op_makeMeth ?_ | refine op_makeFunc ?_ | refine op_itof ?_ | refine op_itoi ?_ | refine op_ftoi ?_ | refine op_iquo ?_ | refine op_irem ?_ | refine op_ibits ?_ | refine op_slice_isnil ?_ | refine op_slice_notnil ?_ | refine op_imax ?_ | refine op_imin ?_ | refine op_shl ?_ | refine op_shr ?_ | (refine op_alloc ?_; intro _) | (refine op_box ?_; intro _) | (refine op_buildSlice ?_; intro _) | (refine op_farith ?_; intro _ _) | refine op_store0 ?_ | refine op_store1 ?_ | refine op_store2 ?_ | refine op_store3 ?_ | refine op_store4 ?_ | refine op_store5 ?_ | refine op_storeK rfl ?_ | refine op_loadK rfl ?_ | refine op_load_aggK rfl ?_ | refine tc_cond_t ?_ | refine tc_cond_f ?_ | refine tc_block ?_ | refine tc_skip ?_ | refine tc_ret ?_ | refine tc_exit ?_ | refine at_seq_ret ?_ | refine at_seq_exit ?_ | refine at_block_normal ?_ | refine at_block_ret ?_ | refine at_block_exit_self ?_ | refine at_block_exit_ne ?_ | refine at_loop_ret ?_ | refine at_loop_exit ?_ | fail)
      | fail
    refine ret_one (.agg (T := 27) (k := kr) (off := 0) (m := _) rfl rfl mem0 rfl rfl) (hG := List.Sublist.refl _) (hk := ⟨_, rfl, ⟨qa, qc, rfl, hqa, fs_skip hqf (mid_mem (k := kr) noFl7)⟩, ExC.ex⟩)
  | succ j =>
    have hb01 : b0 = en e (j + 1) := hb0
    subst hb01
    have c0 : icmp .gtr ((j + 1 : Nat) : Int) 0 = true := by simp only [icmp, decide_eq_true_eq]; omega
    have g0 := hge j _ (hok.get j (by omega))
    have w1 : IntKind.i64.wrap (iarith .sub ((j + 1 : Nat) : Int) 1) = ((j : Nat) : Int) := by rw [wrap_sub (by omega) (by omega)]; omega
    have hcl := cutN_len (f := f) (a := en e (j + 1)) hle
    repeat' first
      | (refine op_iarith ?_; rw [w1])
      | (refine op_indexAddr1 (j := j) ?_ (hj := by omega))
      | (refine op_call ((kidOf4 _).mono ?_); rintro _ _ ⟨rfl, rfl⟩)
      | (first | refine tc_seq ?_ | refine tc_region ?_ | refine at_seq_normal ?_ | refine tl_nil ?_ | refine tl_cons ?_ | refine tl_cons_none ?_ | refine op_move ?_ | refine op_assign ?_ | refine op_fieldAddr ?_ | refine op_load ?_ | refine op_load_agg ?_ | refine op_indexC ?_ | refine op_indexAddr1 ?_ | refine op_indexAddr ?_ | refine op_icmp ?_ | refine op_fcmp ?_ | refine op_iarith ?_ | refine op_bcmp ?_ | refine op_unop_not ?_ | refine op_unop_neg_float ?_ | refine op_unop_neg_int ?_ | refine op_len_slice ?_ | refine op_pick_true ?_ | refine op_pick_false ?_ | refine op_pick_true' ?_ | refine op_pick_false' ?_ | refine op_build ?_ | refine op_extract ?_ | refine op_makeInterface ?_ | refine op_typeAssert ?_ | refine op_ptr_nil ?_ | refine op_nilCheck_ptr ?_ | refine op_nilCheck_meth ?_ | refine op_makeMeth ?_ | refine op_makeFunc ?_ | refine op_itof ?_ | refine op_itoi ?_ | refine op_ftoi ?_ | refine op_iquo ?_ | refine op_irem ?_ | refine op_ibits ?_ | refine op_slice_isnil ?_ | refine op_slice_notnil ?_ | refine op_imax ?_ | refine op_imin ?_ | refine op_shl ?_ | refine op_shr ?_ | (refine op_alloc ?_; intro _) | (refine op_box ?_; intro _) | (refine op_buildSlice ?_; intro _) | (refine op_farith ?_; intro _ _) | refine op_store0 ?_ | refine op_store1 ?_ | refine op_store2 ?_ | refine op_store3 ?_ | refine op_store4 ?_ | refine op_store5 ?_ | refine op_storeK rfl ?_ | refine op_loadK rfl ?_ | refine op_load_aggK rfl ?_ | refine tc_cond_t ?_ | refine tc_cond_f ?_ | refine tc_block ?_ | refine tc_skip ?_ | refine tc_ret ?_ | refine tc_exit ?_ | refine at_seq_ret ?_ | refine at_seq_exit ?_ | refine at_block_normal ?_ | refine at_block_ret ?_ | refine at_block_exit_self ?_ | refine at_block_exit_ne ?_ | refine at_loop_ret ?_ | refine at_loop_exit ?_ | fail)
      | fail
    rename_i kx kr
    apply fun hole0 hole1 hole2 hole3 hole4 hole5 hole6 hole7 hole8 hole9 hole10 hole11 hE hD hml hdl hpr prem fin => tc_drawnD 15 [PhiD.is hole0, PhiD.is hole1, PhiD.is hole2, PhiD.gen (some' (fun w ex => ∃ kb, w = .slice (some ⟨kb, 0, none⟩) 0 0 ∧ ex = [(kb, .cells ⟨[]⟩ 93 (0, 0))])), PhiD.is hole3, PhiD.is hole4, PhiD.is hole5, PhiD.is hole6, PhiD.is hole7, PhiD.is hole8, PhiD.is hole9, PhiD.is hole10, PhiD.is hole11, PhiD.gen (fun w ex G => ∃ a c, w = .slice a (cutN f (en e (j + 1)) (en e ((j + 1) + 1))).length c ∧ a ≠ none ∧ FS G (.slice a (cutN f (en e (j + 1)) (en e ((j + 1) + 1))).length c) (cutN f (en e (j + 1)) (en e ((j + 1) + 1)))), PhiD.gen (fun w ex G => ∃ a c, w = .agg ⟨[.int .i64 1, .int .i64 l, .int .i64 0, .slice a (cutN f (en e (j + 1)) (en e ((j + 1) + 1))).length c, .slice none 0 0, .slice none 0 0, .slice none 0 0]⟩ ∧ a ≠ none ∧ FS G (.slice a (cutN f (en e (j + 1)) (en e ((j + 1) + 1))).length c) (cutN f (en e (j + 1)) (en e ((j + 1) + 1))))]
      [some 91, some 92, some 93, some 94, some 95, some 96, some 97, some 98, some 99, some 100, some 101, some 102, some 103, some 104, some 105, none] [[], [], [1], [], [], [4], [], [], [7], [], [8, 9], [10], [5, 6, 11], [3, 12], [0, 2, 13]] mixed ⟨(some_mono _), (fun _ _ _ _ ⟨a, c, h1, h2, h3⟩ hs => ⟨a, c, h1, h2, h3.mono fun e he => hs _ he⟩), (fun _ _ _ _ ⟨a, c, h1, h2, h3⟩ hs => ⟨a, c, h1, h2, h3.mono fun e he => hs _ he⟩), trivial⟩ prem fin hE hD rfl hml hdl hpr
    rotate_left 13
    · first | kernel_rfl | exact rfl
    · first | kernel_rfl | exact rfl
    · exact Nat.le_of_ble_eq_true rfl
    · first | kernel_rfl | exact rfl
    · first | kernel_rfl | exact rfl
    refine ⟨fun G hG => ?_, fun G hG => ?_, fun G hG => ?_, fun G hG => ?_, fun G hG => ?_, fun G hG => ?_, fun G hG => ?_, fun G hG => ?_, fun G hG => ?_, fun G hG => ?_, fun G hG => ?_, fun G hG => ?_, fun G hG => ?_, fun G hG => ?_, fun G hG => ?_, trivial⟩
    · simp only [withD, nthD, Step2, nthDst, putO, postD]
      (refine op_move ?_; exact ⟨[], rfl, rfl, rfl⟩)
    · simp only [withD, nthD, Step2, nthDst, putO, postD]
      (refine op_fieldAddr ?_; exact ⟨[], rfl, rfl, rfl⟩)
    · simp only [withD, nthD, Step2, nthDst, putO, postD]
      ((first | refine op_load ?_ | refine op_load_agg ?_ | refine op_load ?_ (hm := Sub.mem (by assumption) (by (repeat (apply List.mem_cons_of_mem)); assumption)) | refine op_load_agg ?_ (hm := Sub.mem (by assumption) (by (repeat (apply List.mem_cons_of_mem)); assumption)) | refine op_loadH hG rfl ?_ | refine op_load_aggH hG rfl ?_); exact ⟨[], rfl, rfl, rfl⟩)
    · simp only [withD, nthD, Step2, nthDst, putO, postD]
      (refine op_buildSlice0 (fun kq => ?_); exact ⟨[_], rfl, kq, rfl, rfl⟩)
    · simp only [withD, nthD, Step2, nthDst, putO, postD]
      (refine op_fieldAddr ?_; exact ⟨[], rfl, rfl, rfl⟩)
    · simp only [withD, nthD, Step2, nthDst, putO, postD]
      ((first | refine op_load ?_ | refine op_load_agg ?_ | refine op_load ?_ (hm := Sub.mem (by assumption) (by (repeat (apply List.mem_cons_of_mem)); assumption)) | refine op_load_agg ?_ (hm := Sub.mem (by assumption) (by (repeat (apply List.mem_cons_of_mem)); assumption)) | refine op_loadH hG rfl ?_ | refine op_load_aggH hG rfl ?_); exact ⟨[], rfl, rfl, rfl⟩)
    · simp only [withD, nthD, Step2, nthDst, putO, postD]
      (refine op_move ?_; exact ⟨[], rfl, rfl, rfl⟩)
    · simp only [withD, nthD, Step2, nthDst, putO, postD]
      (refine op_fieldAddr ?_; exact ⟨[], rfl, rfl, rfl⟩)
    · simp only [withD, nthD, Step2, nthDst, putO, postD]
      ((first | refine op_load ?_ | refine op_load_agg ?_ | refine op_load ?_ (hm := Sub.mem (by assumption) (by (repeat (apply List.mem_cons_of_mem)); assumption)) | refine op_load_agg ?_ (hm := Sub.mem (by assumption) (by (repeat (apply List.mem_cons_of_mem)); assumption)) | refine op_loadH hG rfl ?_ | refine op_load_aggH hG rfl ?_); exact ⟨[], rfl, rfl, rfl⟩)
    · simp only [withD, nthD, Step2, nthDst, putO, postD]
      (refine op_move ?_; exact ⟨[], rfl, rfl, rfl⟩)
    · simp only [withD, nthD, Step2, nthDst, putO, postD]
      (refine op_indexAddr1 (j := (j + 1)) ?_ (hj := hi); exact ⟨[], rfl, rfl, rfl⟩)
    · simp only [withD, nthD, Step2, nthDst, putO, postD]
      (refine op_load ?_ (hm := hG _ (exs _ hme)) (hv := g1); exact ⟨[], rfl, rfl, rfl⟩)
    · simp only [withD, nthD, Step2, nthDst, putO, postD]
      (refine op_slice_lh (l := (en e (j + 1))) (h := en e ((j + 1) + 1)) ?_ (h1 := by omega) (h2 := Nat.le_trans hle hc); exact ⟨[], rfl, rfl, rfl⟩)
    · simp only [withD, nthD, Step2, nthDst, putO, postD]
      rintro _ _ ⟨kb, rfl, rfl⟩ -
      (refine op_append0 ((cutN f (en e (j + 1)) (en e ((j + 1) + 1))).map fl) ?_ (FS.toN (hcut.mono fun z hz => hG _ (exs z hz))) (h1 := oneCell_fl _) (hbig := by simp only [maxLen]; omega) (hbytes := by omega); intro ex a c ha hsl; exact ⟨ex, rfl, a, c, rfl, ha, SlN.toFS hsl⟩)
    · simp only [withD, nthD, Step2, nthDst, putO, postD]
      rintro _ _ ⟨pa, pc, rfl, hpa, hpf⟩ -
      (refine op_build ?_; exact ⟨[], rfl, pa, pc, rfl, hpa, hpf⟩)
    simp only [FinalsD, nthDst, putO, List.drop_succ_cons, List.drop_zero]
    rintro _ _ _ _ _ _ ⟨⟨qa, qc, rfl, hqa, hqf⟩, ⟨pa, pc, rfl, hpa, hpf⟩, ⟨kb, rfl, rfl⟩, -⟩
    try simp only [List.nil_append]
    repeat' first
      | refine op_storeK rfl ?_
      | (first | refine tc_seq ?_ | refine tc_region ?_ | refine at_seq_normal ?_ | refine tl_nil ?_ | refine tl_cons ?_ | refine tl_cons_none ?_ | refine op_move ?_ | refine op_assign ?_ | refine op_fieldAddr ?_ | refine op_load ?_ | refine op_load_agg ?_ | refine op_indexC ?_ | refine op_indexAddr1 ?_ | refine op_indexAddr ?_ | refine op_icmp ?_ | refine op_fcmp ?_ | refine op_iarith ?_ | refine op_bcmp ?_ | refine op_unop_not ?_ | refine op_unop_neg_float ?_ | refine op_unop_neg_int ?_ | refine op_len_slice ?_ | refine op_pick_true ?_ | refine op_pick_false ?_ | refine op_pick_true' ?_ | refine op_pick_false' ?_ | refine op_build ?_ | refine op_extract ?_ | refine op_makeInterface ?_ | refine op_typeAssert ?_ | refine op_ptr_nil ?_ | refine op_nilCheck_ptr ?_ | refine op_nilCheck_meth ?_ | refine op_makeMeth ?_ | refine op_makeFunc ?_ | refine op_itof ?_ | refine op_itoi ?_ | refine op_ftoi ?_ | refine op_iquo ?_ | refine op_irem ?_ | refine op_ibits ?_ | refine op_slice_isnil ?_ | refine op_slice_notnil ?_ | refine op_imax ?_ | refine op_imin ?_ | refine op_shl ?_ | refine op_shr ?_ | (refine op_alloc ?_; intro _) | (refine op_box ?_; intro _) | (refine op_buildSlice ?_; intro _) | (refine op_farith ?_; intro _ _) | refine op_store0 ?_ | refine op_store1 ?_ | refine op_store2 ?_ | refine op_store3 ?_ | refine op_store4 ?_ | refine op_store5 ?_ | refine op_storeK rfl ?_ | refine op_loadK rfl ?_ | refine op_load_aggK rfl ?_ | refine tc_cond_t ?_ | refine tc_cond_f ?_ | refine tc_block ?_ | refine tc_skip ?_ | refine tc_ret ?_ | refine tc_exit ?_ | refine at_seq_ret ?_ | refine at_seq_exit ?_ | refine at_block_normal ?_ | refine at_block_ret ?_ | refine at_block_exit_self ?_ | refine at_block_exit_ne ?_ | refine at_loop_ret ?_ | refine at_loop_exit ?_ | fail)
      | fail
    refine ret_one (.agg (T := 27) (k := kr) (off := 0) (m := _) rfl rfl mem0 rfl rfl) (hG := List.Sublist.refl _) (hk := ⟨_, rfl, ⟨qa, qc, rfl, hqa, fs_skip hqf (mid_mem (k := kr) noFl7)⟩, ExC.ex⟩)
end Go.Proofs.Ytgjbnfkinckpmaa.Gm
