/-
  FnVerifyEnds: a polygon or a multi line string of good data is well formed no longer if its last end is moved by whole places. Of the second form (arguments of bulk at most 1048576). No conditions beyond the statement's own.
-/
import Derived.Test.YtmilmnedgadidaaDoorRows
import Derived.Test.YtmilmnedgadidaaDoorCards
import Derived.Test.YtmilmnedgadidaaDoorTie
import Derived.Test.YtmilmnedgadidaaDoorGeor
import Derived.Test.YtmilmnedgadidaaDoorGeo4
import Derived.Test.YtmilmnedgadidaaDoorFits
import Derived.Test.YtmilmnedgadidaaDoorVfA
import Derived.Test.YtmilmnedgadidaaDoorVfy2
import Derived.Test.YtmilmnedgadidaaDoorLg31
import Derived.Test.YtmilmnedgadidaaDoorLg32
import Derived.Test.YtmilmnedgadidaaDoorLg5
import Derived.Deep.DeepHandedRow
import Derived.LaidMore
set_option linter.unusedVariables false
set_option linter.unusedSimpArgs false
namespace Go.Proofs.YtmilmnedgadidaaDoor.fnVerifyEnds
open Go.Lg Go.Proofs.YtmilmnedgadidaaDoor.Geom Go.Proofs.YtmilmnedgadidaaDoor.Gm
open Go.ChangeShapes Go.WideShapes Go.RowKit Go.ChangeAt

theorem sl_one7 {G : Heap} {k : Nat} {T : TypeId} {fz : Nat × Nat} {cs : List Value} (hl : cs.length = 7) (hm : (k, Obj.cells ⟨cs⟩ T fz) ∈ G) : SlN 7 G (.slice (some ⟨k, 0, none⟩) 1 1) 1 ([cs].flatten) :=
  ⟨by simpa using hl, some ⟨k, 0, none⟩, 1, rfl, Nat.le_refl _, fun _ => ⟨k, 0, cs, T, fz, rfl, hm, by simp [← hl]⟩⟩
theorem strideI_two {n : Int} (h : 1 ≤ n) : 2 ≤ strideI n := by
  unfold strideI
  (repeat' split) <;> omega
theorem en_good {k l s : Int} {f : List Nat} {e : List Int} {ee : List (List Int)} {ks : List Geo} (hk3 : k = 3 ∨ k = 5) (h : (Geo.mk k l s f e ee ks).wt ≤ 2000 ∧ (Geo.mk k l s f e ee ks).Lay 9 ∧ (Geo.mk k l s f e ee ks).Good) : 1 ≤ l ∧ f.length ≤ 2000 ∧ e.length ≤ 2000 ∧ ∃ S : Nat, 0 < S ∧ S ≤ 9 ∧ strideI l = (S : Int) ∧ Asc (S : Int) false 0 e (f.length : Int) ∧ f.length % S = 0 := by
  obtain ⟨h1, h2, h3⟩ := h
  unfold Geo.Lay at h2
  unfold Geo.wt at h1
  have hl : 1 ≤ l := by rcases h2.2.2 with h | h <;> omega
  have h2' := strideI_two hl
  have h9 : strideI l ≤ 9 := by unfold strideI; (repeat' split) <;> omega
  unfold Geo.Good at h3
  rcases h3 with h | ⟨_, _, hm, _, _, hk⟩
  · omega
  obtain ⟨S, hS⟩ : ∃ S : Nat, strideI l = (S : Int) := ⟨(strideI l).toNat, by omega⟩
  have h5 : Asc (strideI l) (k == 4) 0 e f.length := by
    unfold Kd at hk
    rcases hk with h | h | h | h
    · omega
    · omega
    · exact h.2
    · omega
  have hk4 : (k == 4) = false := by
    have : k ≠ 4 := by omega
    simpa using this
  rw [hk4] at h5
  rw [hS] at hm h5
  have hm2 : f.length % S = 0 := by
    have e1 : Int.tmod (f.length : Int) (S : Int) = ((f.length % S : Nat) : Int) := (Int.ofNat_tmod _ _).symm
    rw [e1] at hm
    exact_mod_cast hm
  exact ⟨hl, by omega, by omega, S, by omega, by omega, hS, h5, hm2⟩
abbrev Holds (g : Nat) (H : Heap) : Prop := ∃ u v T fz, (g, Obj.cells ⟨[.iface u v]⟩ T fz) ∈ H
set_option maxHeartbeats 64000000 in
theorem law {H : Heap} (g : Geo) (cs : List Value) (hg : IsG H g cs) (hw : g.wt ≤ 1048576) (a : Int) (ha : -9223372036854775808 ≤ a ∧ a ≤ 9223372036854775807) (hE : Holds 5 H ∧ Holds 6 H) : Does Tryd.prog 3 [.agg ⟨cs⟩, .int .i64 a] H fun w H' => w = .bool true ∧ H' = H := by
  obtain ⟨hE5, hE6⟩ := hE
  have hg0 := hg
  match g, hg, hw, hg0 with
  | .mk k l s f e ee ks, hg, hw, hg0 =>
  obtain ⟨vf, ve, vee, vk, rows, rfl, hf, he, hee, hk, hx1, hx2, hx3⟩ := hg
  obtain ⟨af, cf, rfl⟩ := hf.val
  obtain ⟨ae, ce, rfl⟩ := he.val
  obtain ⟨aee, cee, rfl⟩ := hee.val
  obtain ⟨avk, cvk, rfl, _⟩ := hk.val
  have hwt : Geo.wts [Geo.mk k l s f e ee ks] < 2 ^ 61 := by simp only [Geo.wts]; omega
  by_cases k3 : k = 3
  · subst k3
    have c3 : icmp .neq 3 3 = false := rfl
    refine fn_enter 92 Tryd.func3 fun W => ?_
    repeat' first
      | (first | refine tc_seq ?_ | refine tc_region ?_ | refine at_seq_normal ?_ | refine tl_nil ?_ | refine tl_cons ?_ | refine tl_cons_none ?_ | refine op_move ?_ | refine op_assign ?_ | refine op_fieldAddr ?_ | refine op_load ?_ | refine op_load_agg ?_ | refine op_indexC ?_ | refine op_indexAddr1 ?_ | refine op_indexAddr ?_ | refine op_icmp ?_ | refine op_fcmp ?_ | refine op_iarith ?_ | refine op_bcmp ?_ | refine op_unop_not ?_ | refine op_unop_neg_float ?_ | refine op_unop_neg_int ?_ | refine op_len_slice ?_ | refine op_pick_true ?_ | refine op_pick_false ?_ | refine op_pick_true' ?_ | refine op_pick_false' ?_ | refine op_build ?_ | refine op_extract ?_ | refine op_makeInterface ?_ | refine op_typeAssert ?_ | refine op_ptr_nil ?_ | refine op_nilCheck_ptr ?_ | refine op_nilCheck_meth ?_ | refine op_makeMeth ?_ | refine op_makeFunc ?_ | refine op_itof ?_ | refine op_itoi ?_ | refine op_ftoi ?_ | refine op_iquo ?_ | refine op_irem ?_ | refine op_ibits ?_ | refine op_slice_isnil ?_ | refine op_slice_notnil ?_ | refine op_imax ?_ | refine op_imin ?_ | refine op_shl ?_ | refine op_shr ?_ | (refine op_alloc ?_; intro _) | (refine op_box ?_; intro _) | (refine op_buildSlice ?_; intro _) | (refine op_farith ?_; intro _ _) | refine op_store0 ?_ | refine op_store1 ?_ | refine op_store2 ?_ | refine op_store3 ?_ | refine op_store4 ?_ | refine op_store5 ?_ | refine op_storeK rfl ?_ | refine op_loadK rfl ?_ | refine op_load_aggK rfl ?_ | refine tc_cond_t ?_ | refine tc_cond_f ?_ | refine tc_cond (fun _ => ?_) (fun _ => ?_) | refine tc_skip ?_ | refine tc_ret ?_ | refine at_seq_ret ?_ | refine tl_guard_yes ?_ | refine tl_guard_no ?_ | refine tl_guard_yes' ?_ | refine tl_guard_no' ?_ | refine tl_guard_undef ?_ | refine tl_guard_split (fun _ => ?_) (fun _ => ?_) | fail)
      | (refine op_call ((zzFits2 _ _ _ (IsG.mono exs hg0) hw).mono ?_); rintro _ _ ⟨⟨bz, rfl⟩, rfl⟩)
      | (refine op_call ((gGood [Geo.mk 3 l s f e ee ks] _ _ _ _ hwt (sl_one7 rfl mem0) ⟨IsG.mono exs hg0, trivial⟩).mono ?_); rintro _ _ ⟨rfl, rfl⟩)
      | refine op_storeK rfl ?_
      | fail
    all_goals first
      | exact ret_tmp (hG := by (repeat (first | exact List.Sublist.refl _ | apply List.Sublist.cons_cons | apply List.Sublist.cons | refine List.Sublist.trans ?_ (List.sublist_append_right _ _)))) (hk := ⟨rfl, rfl⟩)
      | skip
    have hgd : goodAll [Geo.mk 3 l s f e ee ks] = true := by simpa using ‹(!goodAll [Geo.mk 3 l s f e ee ks]) = false›
    have r0 : e.length ≠ 0 := by
      have h := ‹icmp .eql (e.length : Int) 0 = false›
      simp only [icmp, beq_eq_false_iff_ne] at h
      omega
    have r1 : a ≠ 0 := by
      have h := ‹icmp .eql a 0 = false›
      simpa only [icmp, beq_eq_false_iff_ne, ne_eq] using h
    have r2 : ¬ a < -1000 := of_decide_eq_false ‹icmp .lss a (-1000) = false›
    have r3 : ¬ a > 1000 := of_decide_eq_false ‹icmp .gtr a 1000 = false›
    obtain ⟨hl1, hfl, hel, S, hS0, hS9, hSs, hasc, hmod⟩ := en_good (by decide) (goodAll_one hgd)
    have hne : e ≠ [] := fun h => r0 (by rw [h]; rfl)
    obtain ⟨hnr, hfine⟩ := near_good hasc hne hmod
    obtain ⟨n1, hn1⟩ : ∃ n1, e.length = n1 + 1 := ⟨e.length - 1, by omega⟩
    have hlast : e.getD n1 0 = (f.length : Int) := by
      have := hfine.2
      rw [pv_last r0, hn1, Nat.add_sub_cancel] at this
      exact this
    have hb9 := mul_bound (a := a) (b := (S : Int)) (A := 1000) (B := 9) (by omega) (by omega) (by omega) (by omega)
    have w0 : IntKind.i64.wrap (iarith .sub (e.length : Int) 1) = ((n1 : Nat) : Int) := (wrap_sub (a := (e.length : Int)) (b := 1) (by omega) (by omega)).trans (by omega)
    have w1 : IntKind.i64.wrap (iarith .mul a (S : Int)) = a * (S : Int) := wrap_mul (by omega) (by omega)
    obtain ⟨x, hx⟩ : ∃ x, x = (f.length : Int) + a * (S : Int) := ⟨_, rfl⟩
    have w2 : IntKind.i64.wrap (iarith .add (f.length : Int) (a * (S : Int))) = x := (wrap_add (by omega) (by omega)).trans hx.symm
    have hxm : x.tmod (S : Int) = 0 := by
      refine Int.tmod_eq_zero_of_dvd ?_
      rw [hx]
      refine Int.dvd_add ?_ (Int.dvd_mul_left _ _)
      exact_mod_cast Nat.dvd_of_mod_eq_zero hmod
    have hxL : x ≠ (f.length : Int) := by
      intro h
      have : a * (S : Int) = 0 := by omega
      rcases Int.mul_eq_zero.1 this with h | h <;> omega
    obtain ⟨hnr2, hnf⟩ := near_moved hnr hxm hxL
    have hml := moved_len (x := x) r0
    obtain ⟨ke, oe, le, Te, ze, rfl, hme, hge⟩ := is_blockV he hne
    have g1 : le[oe + n1]? = some (.int .i64 (f.length : Int)) := by
      rw [← hlast]
      refine hge n1 _ ?_
      rw [List.getD_eq_getElem?_getD, List.getElem?_eq_getElem (by omega)]; rfl
    have hce : e.length ≤ ce := by
      obtain ⟨_, _, h1, h2, _⟩ := he
      injection h1 with _ _ h3
      rw [List.length_map] at h2; omega
    have hcut : SlN 1 H (slAt (some ⟨ke, oe, none⟩) 0 1 n1 ce) n1 ((e.take n1).map iv) := by
      have h := (IS.toN he).cut rfl (Nat.zero_le n1) (by omega)
      rw [Nat.sub_zero] at h
      simpa [List.map_take] using h
    repeat' first
      | (refine op_iarith ?_; rw [w0])
      | refine op_storeK rfl ?_
      | (first | refine tc_seq ?_ | refine tc_region ?_ | refine at_seq_normal ?_ | refine tl_nil ?_ | refine tl_cons ?_ | refine tl_cons_none ?_ | refine op_move ?_ | refine op_assign ?_ | refine op_fieldAddr ?_ | refine op_load ?_ | refine op_load_agg ?_ | refine op_indexC ?_ | refine op_indexAddr1 ?_ | refine op_indexAddr ?_ | refine op_icmp ?_ | refine op_fcmp ?_ | refine op_iarith ?_ | refine op_bcmp ?_ | refine op_unop_not ?_ | refine op_unop_neg_float ?_ | refine op_unop_neg_int ?_ | refine op_len_slice ?_ | refine op_pick_true ?_ | refine op_pick_false ?_ | refine op_pick_true' ?_ | refine op_pick_false' ?_ | refine op_build ?_ | refine op_extract ?_ | refine op_makeInterface ?_ | refine op_typeAssert ?_ | refine op_ptr_nil ?_ | refine op_nilCheck_ptr ?_ | refine op_nilCheck_meth ?_ | refine op_makeMeth ?_ | refine op_makeFunc ?_ | refine op_itof ?_ | refine op_itoi ?_ | refine op_ftoi ?_ | refine op_iquo ?_ | refine op_irem ?_ | refine op_ibits ?_ | refine op_slice_isnil ?_ | refine op_slice_notnil ?_ | refine op_imax ?_ | refine op_imin ?_ | refine op_shl ?_ | refine op_shr ?_ | (refine op_alloc ?_; intro _) | (refine op_box ?_; intro _) | (refine op_buildSlice ?_; intro _) | (refine op_farith ?_; intro _ _) | refine op_store0 ?_ | refine op_store1 ?_ | refine op_store2 ?_ | refine op_store3 ?_ | refine op_store4 ?_ | refine op_store5 ?_ | refine op_storeK rfl ?_ | refine op_loadK rfl ?_ | refine op_load_aggK rfl ?_ | refine tc_cond_t ?_ | refine tc_cond_f ?_ | refine tc_skip ?_ | refine tc_ret ?_ | refine at_seq_ret ?_ | refine tl_guard_yes ?_ | refine tl_guard_no ?_ | refine tl_guard_yes' ?_ | refine tl_guard_no' ?_ | refine tl_guard_undef ?_ | fail)
      | fail
    rcases Nat.eq_zero_or_pos n1 with h0 | h0
    · have hcut0 : SlN 1 H (slAt (some ⟨ke, oe, none⟩) 0 1 n1 ce) 0 [] := by
        have h := hcut
        simp only [h0, List.take_zero, List.map_nil] at h ⊢
        exact h
      have hmv : moved e x = [x] := by unfold moved; rw [hn1, h0]; rfl
      apply fun hole0 hole1 hole2 hole3 hole4 hole5 hole6 hole7 hole8 hole9 hole10 hole11 hE hD hml hdl hpr prem fin => tc_drawnD 18 [PhiD.gen (some' (fun w ex => ∃ kb, w = .slice (some ⟨kb, 0, none⟩) 0 0 ∧ ex = [(kb, .cells ⟨[]⟩ 3 (0, 0))])), PhiD.is hole0, PhiD.is hole1, PhiD.is hole2, PhiD.is hole3, PhiD.gen (some' (fun w ex => ∃ kb, w = .slice (some ⟨kb, 0, none⟩) 0 0 ∧ ex = [])), PhiD.is hole4, PhiD.is hole5, PhiD.is hole6, PhiD.is hole7, PhiD.is hole8, PhiD.is hole9, PhiD.is hole10, PhiD.is hole11, PhiD.is (.int .i64 (S : Int)), PhiD.is (.int .i64 (a * (S : Int))), PhiD.is (.int .i64 x), PhiD.gen (some' (fun w ex => ∃ kn, w = .slice (some ⟨kn, 0, none⟩) 1 1 ∧ ex = [(kn, .cells ⟨[.int .i64 x]⟩ 3 (0, 0))]))]
        [some 51, some 52, some 53, some 54, some 55, some 56, some 57, some 58, some 59, some 60, some 61, some 62, some 63, some 64, some 65, some 66, some 67, some 68, some 69, some 70, none] [[], [], [1], [], [2, 3], [0, 4], [], [6], [], [7, 8], [9], [], [], [12], [13, 5], [11, 14], [10, 15], [16]] mixed ⟨(some_mono _), (some_mono _), (some_mono _), trivial⟩ prem fin hE hD rfl hml hdl hpr
      rotate_left 13
      · first | kernel_rfl | exact rfl
      · first | kernel_rfl | exact rfl
      · exact Nat.le_of_ble_eq_true rfl
      · first | kernel_rfl | exact rfl
      · first | kernel_rfl | exact rfl
      refine ⟨fun G hG => ?_, fun G hG => ?_, fun G hG => ?_, fun G hG => ?_, fun G hG => ?_, fun G hG => ?_, fun G hG => ?_, fun G hG => ?_, fun G hG => ?_, fun G hG => ?_, fun G hG => ?_, fun G hG => ?_, fun G hG => ?_, fun G hG => ?_, fun G hG => ?_, fun G hG => ?_, fun G hG => ?_, fun G hG => ?_, trivial⟩
      · simp only [withD, nthD, Step2, nthDst, putO, postD]
        (refine op_buildSlice0 (fun kq => ?_); exact ⟨[_], rfl, kq, rfl, rfl⟩)
      · simp only [withD, nthD, Step2, nthDst, putO, postD]
        (refine op_fieldAddr ?_; exact ⟨[], rfl, rfl, rfl⟩)
      · simp only [withD, nthD, Step2, nthDst, putO, postD]
        ((first | refine op_load ?_ | refine op_load_agg ?_ | refine op_load ?_ (hm := Sub.mem (by assumption) (by (repeat (apply List.mem_cons_of_mem)); assumption)) | refine op_load_agg ?_ (hm := Sub.mem (by assumption) (by (repeat (apply List.mem_cons_of_mem)); assumption)) | refine op_loadH hG rfl ?_ | refine op_load_aggH hG rfl ?_); exact ⟨[], rfl, rfl, rfl⟩)
      · simp only [withD, nthD, Step2, nthDst, putO, postD]
        (refine op_move ?_; exact ⟨[], rfl, rfl, rfl⟩)
      · simp only [withD, nthD, Step2, nthDst, putO, postD]
        (refine op_slice_h (h := n1) ?_ (hz := gete (by exact rfl) w0) (h2 := by omega); exact ⟨[], rfl, rfl, rfl⟩)
      · simp only [withD, nthD, Step2, nthDst, putO, postD]
        rintro _ _ ⟨kb, rfl, rfl⟩ -
        (refine op_append0Z ?_ (hcut0.mono fun z hz => hG _ (exs z hz)); exact ⟨[], rfl, _, rfl, rfl⟩)
      · simp only [withD, nthD, Step2, nthDst, putO, postD]
        (refine op_fieldAddr ?_; exact ⟨[], rfl, rfl, rfl⟩)
      · simp only [withD, nthD, Step2, nthDst, putO, postD]
        ((first | refine op_load ?_ | refine op_load_agg ?_ | refine op_load ?_ (hm := Sub.mem (by assumption) (by (repeat (apply List.mem_cons_of_mem)); assumption)) | refine op_load_agg ?_ (hm := Sub.mem (by assumption) (by (repeat (apply List.mem_cons_of_mem)); assumption)) | refine op_loadH hG rfl ?_ | refine op_load_aggH hG rfl ?_); exact ⟨[], rfl, rfl, rfl⟩)
      · simp only [withD, nthD, Step2, nthDst, putO, postD]
        (refine op_move ?_; exact ⟨[], rfl, rfl, rfl⟩)
      · simp only [withD, nthD, Step2, nthDst, putO, postD]
        (refine op_indexAddr1 (j := n1) ?_ (hy := gete (by exact rfl) w0) (hj := by omega); exact ⟨[], rfl, rfl, rfl⟩)
      · simp only [withD, nthD, Step2, nthDst, putO, postD]
        (refine op_load ?_ (hm := hG _ (exs _ hme)) (hv := g1); exact ⟨[], rfl, rfl, rfl⟩)
      · simp only [withD, nthD, Step2, nthDst, putO, postD]
        (refine op_move ?_; exact ⟨[], rfl, rfl, rfl⟩)
      · simp only [withD, nthD, Step2, nthDst, putO, postD]
        (refine op_fieldAddr ?_; exact ⟨[], rfl, rfl, rfl⟩)
      · simp only [withD, nthD, Step2, nthDst, putO, postD]
        ((first | refine op_load ?_ | refine op_load_agg ?_ | refine op_load ?_ (hm := Sub.mem (by assumption) (by (repeat (apply List.mem_cons_of_mem)); assumption)) | refine op_load_agg ?_ (hm := Sub.mem (by assumption) (by (repeat (apply List.mem_cons_of_mem)); assumption)) | refine op_loadH hG rfl ?_ | refine op_load_aggH hG rfl ?_); exact ⟨[], rfl, rfl, rfl⟩)
      · simp only [withD, nthD, Step2, nthDst, putO, postD]
        rintro _ _ ⟨kb2, rfl, rfl⟩ -
        (refine op_call ((Geom.stride l _).mono ?_); rintro _ _ ⟨rfl, rfl⟩; rw [hSs]; exact ⟨[], rfl, rfl, rfl⟩)
      · simp only [withD, nthD, Step2, nthDst, putO, postD]
        (refine op_iarith ?_; rw [w1]; exact ⟨[], rfl, rfl, rfl⟩)
      · simp only [withD, nthD, Step2, nthDst, putO, postD]
        (refine op_iarith ?_; rw [w2]; exact ⟨[], rfl, rfl, rfl⟩)
      · simp only [withD, nthD, Step2, nthDst, putO, postD]
        (refine op_buildSlice ?_; intro kq; exact ⟨[_], rfl, kq, rfl, rfl⟩)
      simp only [FinalsD, nthDst, putO, List.drop_succ_cons, List.drop_zero]
      rintro _ _ _ _ _ _ ⟨⟨kn, rfl, rfl⟩, ⟨kb2, rfl, rfl⟩, ⟨kb, rfl, rfl⟩, -⟩
      try simp only [List.nil_append]
      refine tl_cons ?_
      refine op_append0N [.int .i64 x] (m := 1) (by decide) (fun k9 cap9 sp9 hok9 => ?_) ⟨rfl, _, 1, rfl, Nat.le_refl _, fun _ => ⟨kn, 0, _, _, _, rfl, mem0, rfl⟩⟩ (h1 := by intro u hu; simp only [List.mem_cons, List.not_mem_nil, or_false] at hu; subst hu; rfl) (hbig := by simp only [maxLen]; omega) (hbytes := by omega)
      have hnew : ∀ G : Heap, (k9, Obj.cells ⟨[.int .i64 x] ++ sp9⟩ 3 (0, 0)) ∈ G → IS G (.slice (some ⟨k9, 0, none⟩) 1 cap9) (moved e x) := fun G hm => by
        rw [hmv]
        exact is_new (zs := [x]) hok9.1 hm
      repeat' first
        | refine op_storeK rfl ?_
        | (refine op_call ((implVerifyPolygon l s _ _ _ _ f (moved e x) S _ hl1 (hf.mono exs) (hnew _ (by simp)) hSs hS0 hnr2 (by omega) hfl (memE hE5 exs) (memE hE6 exs)).mono ?_); rintro _ _ ⟨b, rfl, hb, ex1, rfl⟩; obtain rfl : b = false := (by cases b with | false => rfl | true => exact absurd (hb.1 rfl) hnf))
        | (refine op_call ((implVerifyPolygon l s _ _ _ _ f e S _ hl1 (hf.mono exs) (he.mono exs) hSs hS0 hnr hel hfl (memE hE5 exs) (memE hE6 exs)).mono ?_); rintro _ _ ⟨b2, rfl, hb2, ex2, rfl⟩; obtain rfl : b2 = true := hb2.2 hfine)
        | (first | refine tc_seq ?_ | refine tc_region ?_ | refine at_seq_normal ?_ | refine tl_nil ?_ | refine tl_cons ?_ | refine tl_cons_none ?_ | refine op_move ?_ | refine op_assign ?_ | refine op_fieldAddr ?_ | refine op_load ?_ | refine op_load_agg ?_ | refine op_indexC ?_ | refine op_indexAddr1 ?_ | refine op_indexAddr ?_ | refine op_icmp ?_ | refine op_fcmp ?_ | refine op_iarith ?_ | refine op_bcmp ?_ | refine op_unop_not ?_ | refine op_unop_neg_float ?_ | refine op_unop_neg_int ?_ | refine op_len_slice ?_ | refine op_pick_true ?_ | refine op_pick_false ?_ | refine op_pick_true' ?_ | refine op_pick_false' ?_ | refine op_build ?_ | refine op_extract ?_ | refine op_makeInterface ?_ | refine op_typeAssert ?_ | refine op_ptr_nil ?_ | refine op_nilCheck_ptr ?_ | refine op_nilCheck_meth ?_ | refine op_makeMeth ?_ | refine op_makeFunc ?_ | refine op_itof ?_ | refine op_itoi ?_ | refine op_ftoi ?_ | refine op_iquo ?_ | refine op_irem ?_ | refine op_ibits ?_ | refine op_slice_isnil ?_ | refine op_slice_notnil ?_ | refine op_imax ?_ | refine op_imin ?_ | refine op_shl ?_ | refine op_shr ?_ | (refine op_alloc ?_; intro _) | (refine op_box ?_; intro _) | (refine op_buildSlice ?_; intro _) | (refine op_farith ?_; intro _ _) | refine op_store0 ?_ | refine op_store1 ?_ | refine op_store2 ?_ | refine op_store3 ?_ | refine op_store4 ?_ | refine op_store5 ?_ | refine op_storeK rfl ?_ | refine op_loadK rfl ?_ | refine op_load_aggK rfl ?_ | refine tc_cond_t ?_ | refine tc_cond_f ?_ | refine tc_skip ?_ | refine tc_ret ?_ | refine at_seq_ret ?_ | refine tl_guard_yes ?_ | refine tl_guard_no ?_ | refine tl_guard_yes' ?_ | refine tl_guard_no' ?_ | refine tl_guard_undef ?_ | fail)
        | fail
      exact ret_tmp (hG := by (repeat (first | exact List.Sublist.refl _ | apply List.Sublist.cons_cons | apply List.Sublist.cons | refine List.Sublist.trans ?_ (List.sublist_append_right _ _)))) (hk := ⟨rfl, rfl⟩)
    · skip
      apply fun hole0 hole1 hole2 hole3 hole4 hole5 hole6 hole7 hole8 hole9 hole10 hole11 hE hD hml hdl hpr prem fin => tc_drawnD 18 [PhiD.gen (some' (fun w ex => ∃ kb, w = .slice (some ⟨kb, 0, none⟩) 0 0 ∧ ex = [(kb, .cells ⟨[]⟩ 3 (0, 0))])), PhiD.is hole0, PhiD.is hole1, PhiD.is hole2, PhiD.is hole3, PhiD.gen (some' (fun w ex => ∃ k5 cap5 sp5, w = .slice (some ⟨k5, 0, none⟩) n1 cap5 ∧ ex = [(k5, .cells ⟨(e.take n1).map iv ++ sp5⟩ 3 (0, 0))] ∧ bufOk 1 (some (k5, cap5, sp5)) n1 ((e.take n1).map iv))), PhiD.is hole4, PhiD.is hole5, PhiD.is hole6, PhiD.is hole7, PhiD.is hole8, PhiD.is hole9, PhiD.is hole10, PhiD.is hole11, PhiD.is (.int .i64 (S : Int)), PhiD.is (.int .i64 (a * (S : Int))), PhiD.is (.int .i64 x), PhiD.gen (some' (fun w ex => ∃ kn, w = .slice (some ⟨kn, 0, none⟩) 1 1 ∧ ex = [(kn, .cells ⟨[.int .i64 x]⟩ 3 (0, 0))]))]
        [some 51, some 52, some 53, some 54, some 55, some 56, some 57, some 58, some 59, some 60, some 61, some 62, some 63, some 64, some 65, some 66, some 67, some 68, some 69, some 70, none] [[], [], [1], [], [2, 3], [0, 4], [], [6], [], [7, 8], [9], [], [], [12], [13, 5], [11, 14], [10, 15], [16]] mixed ⟨(some_mono _), (some_mono _), (some_mono _), trivial⟩ prem fin hE hD rfl hml hdl hpr
      rotate_left 13
      · first | kernel_rfl | exact rfl
      · first | kernel_rfl | exact rfl
      · exact Nat.le_of_ble_eq_true rfl
      · first | kernel_rfl | exact rfl
      · first | kernel_rfl | exact rfl
      refine ⟨fun G hG => ?_, fun G hG => ?_, fun G hG => ?_, fun G hG => ?_, fun G hG => ?_, fun G hG => ?_, fun G hG => ?_, fun G hG => ?_, fun G hG => ?_, fun G hG => ?_, fun G hG => ?_, fun G hG => ?_, fun G hG => ?_, fun G hG => ?_, fun G hG => ?_, fun G hG => ?_, fun G hG => ?_, fun G hG => ?_, trivial⟩
      · simp only [withD, nthD, Step2, nthDst, putO, postD]
        (refine op_buildSlice0 (fun kq => ?_); exact ⟨[_], rfl, kq, rfl, rfl⟩)
      · simp only [withD, nthD, Step2, nthDst, putO, postD]
        (refine op_fieldAddr ?_; exact ⟨[], rfl, rfl, rfl⟩)
      · simp only [withD, nthD, Step2, nthDst, putO, postD]
        ((first | refine op_load ?_ | refine op_load_agg ?_ | refine op_load ?_ (hm := Sub.mem (by assumption) (by (repeat (apply List.mem_cons_of_mem)); assumption)) | refine op_load_agg ?_ (hm := Sub.mem (by assumption) (by (repeat (apply List.mem_cons_of_mem)); assumption)) | refine op_loadH hG rfl ?_ | refine op_load_aggH hG rfl ?_); exact ⟨[], rfl, rfl, rfl⟩)
      · simp only [withD, nthD, Step2, nthDst, putO, postD]
        (refine op_move ?_; exact ⟨[], rfl, rfl, rfl⟩)
      · simp only [withD, nthD, Step2, nthDst, putO, postD]
        (refine op_slice_h (h := n1) ?_ (hz := gete (by exact rfl) w0) (h2 := by omega); exact ⟨[], rfl, rfl, rfl⟩)
      · simp only [withD, nthD, Step2, nthDst, putO, postD]
        rintro _ _ ⟨kb, rfl, rfl⟩ -
        (refine op_append0N ((e.take n1).map iv) (by omega) (fun k5 cap5 sp5 hok5 => ?_) (hcut.mono fun z hz => hG _ (exs z hz)) (h1 := oneCell_iv _) (hbig := by simp only [maxLen]; omega) (hbytes := by omega); exact ⟨[_], rfl, k5, cap5, sp5, rfl, rfl, hok5⟩)
      · simp only [withD, nthD, Step2, nthDst, putO, postD]
        (refine op_fieldAddr ?_; exact ⟨[], rfl, rfl, rfl⟩)
      · simp only [withD, nthD, Step2, nthDst, putO, postD]
        ((first | refine op_load ?_ | refine op_load_agg ?_ | refine op_load ?_ (hm := Sub.mem (by assumption) (by (repeat (apply List.mem_cons_of_mem)); assumption)) | refine op_load_agg ?_ (hm := Sub.mem (by assumption) (by (repeat (apply List.mem_cons_of_mem)); assumption)) | refine op_loadH hG rfl ?_ | refine op_load_aggH hG rfl ?_); exact ⟨[], rfl, rfl, rfl⟩)
      · simp only [withD, nthD, Step2, nthDst, putO, postD]
        (refine op_move ?_; exact ⟨[], rfl, rfl, rfl⟩)
      · simp only [withD, nthD, Step2, nthDst, putO, postD]
        (refine op_indexAddr1 (j := n1) ?_ (hy := gete (by exact rfl) w0) (hj := by omega); exact ⟨[], rfl, rfl, rfl⟩)
      · simp only [withD, nthD, Step2, nthDst, putO, postD]
        (refine op_load ?_ (hm := hG _ (exs _ hme)) (hv := g1); exact ⟨[], rfl, rfl, rfl⟩)
      · simp only [withD, nthD, Step2, nthDst, putO, postD]
        (refine op_move ?_; exact ⟨[], rfl, rfl, rfl⟩)
      · simp only [withD, nthD, Step2, nthDst, putO, postD]
        (refine op_fieldAddr ?_; exact ⟨[], rfl, rfl, rfl⟩)
      · simp only [withD, nthD, Step2, nthDst, putO, postD]
        ((first | refine op_load ?_ | refine op_load_agg ?_ | refine op_load ?_ (hm := Sub.mem (by assumption) (by (repeat (apply List.mem_cons_of_mem)); assumption)) | refine op_load_agg ?_ (hm := Sub.mem (by assumption) (by (repeat (apply List.mem_cons_of_mem)); assumption)) | refine op_loadH hG rfl ?_ | refine op_load_aggH hG rfl ?_); exact ⟨[], rfl, rfl, rfl⟩)
      · simp only [withD, nthD, Step2, nthDst, putO, postD]
        rintro _ _ ⟨k5, cap5, sp5, rfl, rfl, hok5⟩ -
        (refine op_call ((Geom.stride l _).mono ?_); rintro _ _ ⟨rfl, rfl⟩; rw [hSs]; exact ⟨[], rfl, rfl, rfl⟩)
      · simp only [withD, nthD, Step2, nthDst, putO, postD]
        (refine op_iarith ?_; rw [w1]; exact ⟨[], rfl, rfl, rfl⟩)
      · simp only [withD, nthD, Step2, nthDst, putO, postD]
        (refine op_iarith ?_; rw [w2]; exact ⟨[], rfl, rfl, rfl⟩)
      · simp only [withD, nthD, Step2, nthDst, putO, postD]
        (refine op_buildSlice ?_; intro kq; exact ⟨[_], rfl, kq, rfl, rfl⟩)
      simp only [FinalsD, nthDst, putO, List.drop_succ_cons, List.drop_zero]
      rintro _ _ _ _ _ _ ⟨⟨kn, rfl, rfl⟩, ⟨k5, cap5, sp5, rfl, rfl, hok5⟩, ⟨kb, rfl, rfl⟩, -⟩
      try simp only [List.nil_append]
      refine tl_cons ?_
      refine op_append (some (k5, cap5, sp5)) n1 ((e.take n1).map iv) [.int .i64 x] (m := 1) (s := 1) hok5 (fun buf9 hok9 => ?_) (by exact rfl) (by exact rfl) (List.Sublist.cons _ (List.Sublist.refl _)) mem0 rfl rfl (by intro u hu; simp only [List.mem_cons, List.not_mem_nil, or_false] at hu; subst hu; rfl) (by decide) (by simp only [maxLen]; omega) (by omega)
      rcases buf9 with _ | ⟨k9, cap9, sp9⟩
      · exact absurd hok9.1 (by omega)
      have hmv : (moved e x).map iv = (e.take n1).map iv ++ [.int .i64 x] := by
        unfold moved
        rw [hn1, Nat.add_sub_cancel, List.map_append]; rfl
      have hnew : ∀ G : Heap, (k9, Obj.cells ⟨((e.take n1).map iv ++ [.int .i64 x]) ++ sp9⟩ 3 (0, 0)) ∈ G → IS G (.slice (some ⟨k9, 0, none⟩) (n1 + 1) cap9) (moved e x) := fun G hm => by
        rw [← hmv] at hm
        have h1 := is_new (zs := moved e x) (cap := cap9) (by rw [hml, hn1]; exact hok9.1) hm
        rw [hml, hn1] at h1
        exact h1
      simp only [bufV, bufH]
      repeat' first
        | refine op_storeK rfl ?_
        | (refine op_call ((implVerifyPolygon l s _ _ _ _ f (moved e x) S _ hl1 (hf.mono exs) (hnew _ (by simp)) hSs hS0 hnr2 (by omega) hfl (memE hE5 exs) (memE hE6 exs)).mono ?_); rintro _ _ ⟨b, rfl, hb, ex1, rfl⟩; obtain rfl : b = false := (by cases b with | false => rfl | true => exact absurd (hb.1 rfl) hnf))
        | (refine op_call ((implVerifyPolygon l s _ _ _ _ f e S _ hl1 (hf.mono exs) (he.mono exs) hSs hS0 hnr hel hfl (memE hE5 exs) (memE hE6 exs)).mono ?_); rintro _ _ ⟨b2, rfl, hb2, ex2, rfl⟩; obtain rfl : b2 = true := hb2.2 hfine)
        | (first | refine tc_seq ?_ | refine tc_region ?_ | refine at_seq_normal ?_ | refine tl_nil ?_ | refine tl_cons ?_ | refine tl_cons_none ?_ | refine op_move ?_ | refine op_assign ?_ | refine op_fieldAddr ?_ | refine op_load ?_ | refine op_load_agg ?_ | refine op_indexC ?_ | refine op_indexAddr1 ?_ | refine op_indexAddr ?_ | refine op_icmp ?_ | refine op_fcmp ?_ | refine op_iarith ?_ | refine op_bcmp ?_ | refine op_unop_not ?_ | refine op_unop_neg_float ?_ | refine op_unop_neg_int ?_ | refine op_len_slice ?_ | refine op_pick_true ?_ | refine op_pick_false ?_ | refine op_pick_true' ?_ | refine op_pick_false' ?_ | refine op_build ?_ | refine op_extract ?_ | refine op_makeInterface ?_ | refine op_typeAssert ?_ | refine op_ptr_nil ?_ | refine op_nilCheck_ptr ?_ | refine op_nilCheck_meth ?_ | refine op_makeMeth ?_ | refine op_makeFunc ?_ | refine op_itof ?_ | refine op_itoi ?_ | refine op_ftoi ?_ | refine op_iquo ?_ | refine op_irem ?_ | refine op_ibits ?_ | refine op_slice_isnil ?_ | refine op_slice_notnil ?_ | refine op_imax ?_ | refine op_imin ?_ | refine op_shl ?_ | refine op_shr ?_ | (refine op_alloc ?_; intro _) | (refine op_box ?_; intro _) | (refine op_buildSlice ?_; intro _) | (refine op_farith ?_; intro _ _) | refine op_store0 ?_ | refine op_store1 ?_ | refine op_store2 ?_ | refine op_store3 ?_ | refine op_store4 ?_ | refine op_store5 ?_ | refine op_storeK rfl ?_ | refine op_loadK rfl ?_ | refine op_load_aggK rfl ?_ | refine tc_cond_t ?_ | refine tc_cond_f ?_ | refine tc_skip ?_ | refine tc_ret ?_ | refine at_seq_ret ?_ | refine tl_guard_yes ?_ | refine tl_guard_no ?_ | refine tl_guard_yes' ?_ | refine tl_guard_no' ?_ | refine tl_guard_undef ?_ | fail)
        | fail
      exact ret_tmp (hG := by (repeat (first | exact List.Sublist.refl _ | apply List.Sublist.cons_cons | apply List.Sublist.cons | refine List.Sublist.trans ?_ (List.sublist_append_right _ _)))) (hk := ⟨rfl, rfl⟩)
  have c3 : icmp .neq k 3 = true := by simp only [icmp, bne_iff_ne]; exact k3
  by_cases k5 : k = 5
  · subst k5
    have c5 : icmp .neq 5 5 = false := rfl
    refine fn_enter 92 Tryd.func3 fun W => ?_
    repeat' first
      | (first | refine tc_seq ?_ | refine tc_region ?_ | refine at_seq_normal ?_ | refine tl_nil ?_ | refine tl_cons ?_ | refine tl_cons_none ?_ | refine op_move ?_ | refine op_assign ?_ | refine op_fieldAddr ?_ | refine op_load ?_ | refine op_load_agg ?_ | refine op_indexC ?_ | refine op_indexAddr1 ?_ | refine op_indexAddr ?_ | refine op_icmp ?_ | refine op_fcmp ?_ | refine op_iarith ?_ | refine op_bcmp ?_ | refine op_unop_not ?_ | refine op_unop_neg_float ?_ | refine op_unop_neg_int ?_ | refine op_len_slice ?_ | refine op_pick_true ?_ | refine op_pick_false ?_ | refine op_pick_true' ?_ | refine op_pick_false' ?_ | refine op_build ?_ | refine op_extract ?_ | refine op_makeInterface ?_ | refine op_typeAssert ?_ | refine op_ptr_nil ?_ | refine op_nilCheck_ptr ?_ | refine op_nilCheck_meth ?_ | refine op_makeMeth ?_ | refine op_makeFunc ?_ | refine op_itof ?_ | refine op_itoi ?_ | refine op_ftoi ?_ | refine op_iquo ?_ | refine op_irem ?_ | refine op_ibits ?_ | refine op_slice_isnil ?_ | refine op_slice_notnil ?_ | refine op_imax ?_ | refine op_imin ?_ | refine op_shl ?_ | refine op_shr ?_ | (refine op_alloc ?_; intro _) | (refine op_box ?_; intro _) | (refine op_buildSlice ?_; intro _) | (refine op_farith ?_; intro _ _) | refine op_store0 ?_ | refine op_store1 ?_ | refine op_store2 ?_ | refine op_store3 ?_ | refine op_store4 ?_ | refine op_store5 ?_ | refine op_storeK rfl ?_ | refine op_loadK rfl ?_ | refine op_load_aggK rfl ?_ | refine tc_cond_t ?_ | refine tc_cond_f ?_ | refine tc_cond (fun _ => ?_) (fun _ => ?_) | refine tc_skip ?_ | refine tc_ret ?_ | refine at_seq_ret ?_ | refine tl_guard_yes ?_ | refine tl_guard_no ?_ | refine tl_guard_yes' ?_ | refine tl_guard_no' ?_ | refine tl_guard_undef ?_ | refine tl_guard_split (fun _ => ?_) (fun _ => ?_) | fail)
      | (refine op_call ((zzFits2 _ _ _ (IsG.mono exs hg0) hw).mono ?_); rintro _ _ ⟨⟨bz, rfl⟩, rfl⟩)
      | (refine op_call ((gGood [Geo.mk 5 l s f e ee ks] _ _ _ _ hwt (sl_one7 rfl mem0) ⟨IsG.mono exs hg0, trivial⟩).mono ?_); rintro _ _ ⟨rfl, rfl⟩)
      | refine op_storeK rfl ?_
      | fail
    all_goals first
      | exact ret_tmp (hG := by (repeat (first | exact List.Sublist.refl _ | apply List.Sublist.cons_cons | apply List.Sublist.cons | refine List.Sublist.trans ?_ (List.sublist_append_right _ _)))) (hk := ⟨rfl, rfl⟩)
      | skip
    have hgd : goodAll [Geo.mk 5 l s f e ee ks] = true := by simpa using ‹(!goodAll [Geo.mk 5 l s f e ee ks]) = false›
    have r0 : e.length ≠ 0 := by
      have h := ‹icmp .eql (e.length : Int) 0 = false›
      simp only [icmp, beq_eq_false_iff_ne] at h
      omega
    have r1 : a ≠ 0 := by
      have h := ‹icmp .eql a 0 = false›
      simpa only [icmp, beq_eq_false_iff_ne, ne_eq] using h
    have r2 : ¬ a < -1000 := of_decide_eq_false ‹icmp .lss a (-1000) = false›
    have r3 : ¬ a > 1000 := of_decide_eq_false ‹icmp .gtr a 1000 = false›
    obtain ⟨hl1, hfl, hel, S, hS0, hS9, hSs, hasc, hmod⟩ := en_good (by decide) (goodAll_one hgd)
    have hne : e ≠ [] := fun h => r0 (by rw [h]; rfl)
    obtain ⟨hnr, hfine⟩ := near_good hasc hne hmod
    obtain ⟨n1, hn1⟩ : ∃ n1, e.length = n1 + 1 := ⟨e.length - 1, by omega⟩
    have hlast : e.getD n1 0 = (f.length : Int) := by
      have := hfine.2
      rw [pv_last r0, hn1, Nat.add_sub_cancel] at this
      exact this
    have hb9 := mul_bound (a := a) (b := (S : Int)) (A := 1000) (B := 9) (by omega) (by omega) (by omega) (by omega)
    have w0 : IntKind.i64.wrap (iarith .sub (e.length : Int) 1) = ((n1 : Nat) : Int) := (wrap_sub (a := (e.length : Int)) (b := 1) (by omega) (by omega)).trans (by omega)
    have w1 : IntKind.i64.wrap (iarith .mul a (S : Int)) = a * (S : Int) := wrap_mul (by omega) (by omega)
    obtain ⟨x, hx⟩ : ∃ x, x = (f.length : Int) + a * (S : Int) := ⟨_, rfl⟩
    have w2 : IntKind.i64.wrap (iarith .add (f.length : Int) (a * (S : Int))) = x := (wrap_add (by omega) (by omega)).trans hx.symm
    have hxm : x.tmod (S : Int) = 0 := by
      refine Int.tmod_eq_zero_of_dvd ?_
      rw [hx]
      refine Int.dvd_add ?_ (Int.dvd_mul_left _ _)
      exact_mod_cast Nat.dvd_of_mod_eq_zero hmod
    have hxL : x ≠ (f.length : Int) := by
      intro h
      have : a * (S : Int) = 0 := by omega
      rcases Int.mul_eq_zero.1 this with h | h <;> omega
    obtain ⟨hnr2, hnf⟩ := near_moved hnr hxm hxL
    have hml := moved_len (x := x) r0
    obtain ⟨ke, oe, le, Te, ze, rfl, hme, hge⟩ := is_blockV he hne
    have g1 : le[oe + n1]? = some (.int .i64 (f.length : Int)) := by
      rw [← hlast]
      refine hge n1 _ ?_
      rw [List.getD_eq_getElem?_getD, List.getElem?_eq_getElem (by omega)]; rfl
    have hce : e.length ≤ ce := by
      obtain ⟨_, _, h1, h2, _⟩ := he
      injection h1 with _ _ h3
      rw [List.length_map] at h2; omega
    have hcut : SlN 1 H (slAt (some ⟨ke, oe, none⟩) 0 1 n1 ce) n1 ((e.take n1).map iv) := by
      have h := (IS.toN he).cut rfl (Nat.zero_le n1) (by omega)
      rw [Nat.sub_zero] at h
      simpa [List.map_take] using h
    repeat' first
      | (refine op_iarith ?_; rw [w0])
      | refine op_storeK rfl ?_
      | (first | refine tc_seq ?_ | refine tc_region ?_ | refine at_seq_normal ?_ | refine tl_nil ?_ | refine tl_cons ?_ | refine tl_cons_none ?_ | refine op_move ?_ | refine op_assign ?_ | refine op_fieldAddr ?_ | refine op_load ?_ | refine op_load_agg ?_ | refine op_indexC ?_ | refine op_indexAddr1 ?_ | refine op_indexAddr ?_ | refine op_icmp ?_ | refine op_fcmp ?_ | refine op_iarith ?_ | refine op_bcmp ?_ | refine op_unop_not ?_ | refine op_unop_neg_float ?_ | refine op_unop_neg_int ?_ | refine op_len_slice ?_ | refine op_pick_true ?_ | refine op_pick_false ?_ | refine op_pick_true' ?_ | refine op_pick_false' ?_ | refine op_build ?_ | refine op_extract ?_ | refine op_makeInterface ?_ | refine op_typeAssert ?_ | refine op_ptr_nil ?_ | refine op_nilCheck_ptr ?_ | refine op_nilCheck_meth ?_ | refine op_makeMeth ?_ | refine op_makeFunc ?_ | refine op_itof ?_ | refine op_itoi ?_ | refine op_ftoi ?_ | refine op_iquo ?_ | refine op_irem ?_ | refine op_ibits ?_ | refine op_slice_isnil ?_ | refine op_slice_notnil ?_ | refine op_imax ?_ | refine op_imin ?_ | refine op_shl ?_ | refine op_shr ?_ | (refine op_alloc ?_; intro _) | (refine op_box ?_; intro _) | (refine op_buildSlice ?_; intro _) | (refine op_farith ?_; intro _ _) | refine op_store0 ?_ | refine op_store1 ?_ | refine op_store2 ?_ | refine op_store3 ?_ | refine op_store4 ?_ | refine op_store5 ?_ | refine op_storeK rfl ?_ | refine op_loadK rfl ?_ | refine op_load_aggK rfl ?_ | refine tc_cond_t ?_ | refine tc_cond_f ?_ | refine tc_skip ?_ | refine tc_ret ?_ | refine at_seq_ret ?_ | refine tl_guard_yes ?_ | refine tl_guard_no ?_ | refine tl_guard_yes' ?_ | refine tl_guard_no' ?_ | refine tl_guard_undef ?_ | fail)
      | fail
    rcases Nat.eq_zero_or_pos n1 with h0 | h0
    · have hcut0 : SlN 1 H (slAt (some ⟨ke, oe, none⟩) 0 1 n1 ce) 0 [] := by
        have h := hcut
        simp only [h0, List.take_zero, List.map_nil] at h ⊢
        exact h
      have hmv : moved e x = [x] := by unfold moved; rw [hn1, h0]; rfl
      apply fun hole0 hole1 hole2 hole3 hole4 hole5 hole6 hole7 hole8 hole9 hole10 hole11 hE hD hml hdl hpr prem fin => tc_drawnD 18 [PhiD.gen (some' (fun w ex => ∃ kb, w = .slice (some ⟨kb, 0, none⟩) 0 0 ∧ ex = [(kb, .cells ⟨[]⟩ 3 (0, 0))])), PhiD.is hole0, PhiD.is hole1, PhiD.is hole2, PhiD.is hole3, PhiD.gen (some' (fun w ex => ∃ kb, w = .slice (some ⟨kb, 0, none⟩) 0 0 ∧ ex = [])), PhiD.is hole4, PhiD.is hole5, PhiD.is hole6, PhiD.is hole7, PhiD.is hole8, PhiD.is hole9, PhiD.is hole10, PhiD.is hole11, PhiD.is (.int .i64 (S : Int)), PhiD.is (.int .i64 (a * (S : Int))), PhiD.is (.int .i64 x), PhiD.gen (some' (fun w ex => ∃ kn, w = .slice (some ⟨kn, 0, none⟩) 1 1 ∧ ex = [(kn, .cells ⟨[.int .i64 x]⟩ 3 (0, 0))]))]
        [some 51, some 52, some 53, some 54, some 55, some 56, some 57, some 58, some 59, some 60, some 61, some 62, some 63, some 64, some 65, some 66, some 67, some 68, some 69, some 70, none] [[], [], [1], [], [2, 3], [0, 4], [], [6], [], [7, 8], [9], [], [], [12], [13, 5], [11, 14], [10, 15], [16]] mixed ⟨(some_mono _), (some_mono _), (some_mono _), trivial⟩ prem fin hE hD rfl hml hdl hpr
      rotate_left 13
      · first | kernel_rfl | exact rfl
      · first | kernel_rfl | exact rfl
      · exact Nat.le_of_ble_eq_true rfl
      · first | kernel_rfl | exact rfl
      · first | kernel_rfl | exact rfl
      refine ⟨fun G hG => ?_, fun G hG => ?_, fun G hG => ?_, fun G hG => ?_, fun G hG => ?_, fun G hG => ?_, fun G hG => ?_, fun G hG => ?_, fun G hG => ?_, fun G hG => ?_, fun G hG => ?_, fun G hG => ?_, fun G hG => ?_, fun G hG => ?_, fun G hG => ?_, fun G hG => ?_, fun G hG => ?_, fun G hG => ?_, trivial⟩
      · simp only [withD, nthD, Step2, nthDst, putO, postD]
        (refine op_buildSlice0 (fun kq => ?_); exact ⟨[_], rfl, kq, rfl, rfl⟩)
      · simp only [withD, nthD, Step2, nthDst, putO, postD]
        (refine op_fieldAddr ?_; exact ⟨[], rfl, rfl, rfl⟩)
      · simp only [withD, nthD, Step2, nthDst, putO, postD]
        ((first | refine op_load ?_ | refine op_load_agg ?_ | refine op_load ?_ (hm := Sub.mem (by assumption) (by (repeat (apply List.mem_cons_of_mem)); assumption)) | refine op_load_agg ?_ (hm := Sub.mem (by assumption) (by (repeat (apply List.mem_cons_of_mem)); assumption)) | refine op_loadH hG rfl ?_ | refine op_load_aggH hG rfl ?_); exact ⟨[], rfl, rfl, rfl⟩)
      · simp only [withD, nthD, Step2, nthDst, putO, postD]
        (refine op_move ?_; exact ⟨[], rfl, rfl, rfl⟩)
      · simp only [withD, nthD, Step2, nthDst, putO, postD]
        (refine op_slice_h (h := n1) ?_ (hz := gete (by exact rfl) w0) (h2 := by omega); exact ⟨[], rfl, rfl, rfl⟩)
      · simp only [withD, nthD, Step2, nthDst, putO, postD]
        rintro _ _ ⟨kb, rfl, rfl⟩ -
        (refine op_append0Z ?_ (hcut0.mono fun z hz => hG _ (exs z hz)); exact ⟨[], rfl, _, rfl, rfl⟩)
      · simp only [withD, nthD, Step2, nthDst, putO, postD]
        (refine op_fieldAddr ?_; exact ⟨[], rfl, rfl, rfl⟩)
      · simp only [withD, nthD, Step2, nthDst, putO, postD]
        ((first | refine op_load ?_ | refine op_load_agg ?_ | refine op_load ?_ (hm := Sub.mem (by assumption) (by (repeat (apply List.mem_cons_of_mem)); assumption)) | refine op_load_agg ?_ (hm := Sub.mem (by assumption) (by (repeat (apply List.mem_cons_of_mem)); assumption)) | refine op_loadH hG rfl ?_ | refine op_load_aggH hG rfl ?_); exact ⟨[], rfl, rfl, rfl⟩)
      · simp only [withD, nthD, Step2, nthDst, putO, postD]
        (refine op_move ?_; exact ⟨[], rfl, rfl, rfl⟩)
      · simp only [withD, nthD, Step2, nthDst, putO, postD]
        (refine op_indexAddr1 (j := n1) ?_ (hy := gete (by exact rfl) w0) (hj := by omega); exact ⟨[], rfl, rfl, rfl⟩)
      · simp only [withD, nthD, Step2, nthDst, putO, postD]
        (refine op_load ?_ (hm := hG _ (exs _ hme)) (hv := g1); exact ⟨[], rfl, rfl, rfl⟩)
      · simp only [withD, nthD, Step2, nthDst, putO, postD]
        (refine op_move ?_; exact ⟨[], rfl, rfl, rfl⟩)
      · simp only [withD, nthD, Step2, nthDst, putO, postD]
        (refine op_fieldAddr ?_; exact ⟨[], rfl, rfl, rfl⟩)
      · simp only [withD, nthD, Step2, nthDst, putO, postD]
        ((first | refine op_load ?_ | refine op_load_agg ?_ | refine op_load ?_ (hm := Sub.mem (by assumption) (by (repeat (apply List.mem_cons_of_mem)); assumption)) | refine op_load_agg ?_ (hm := Sub.mem (by assumption) (by (repeat (apply List.mem_cons_of_mem)); assumption)) | refine op_loadH hG rfl ?_ | refine op_load_aggH hG rfl ?_); exact ⟨[], rfl, rfl, rfl⟩)
      · simp only [withD, nthD, Step2, nthDst, putO, postD]
        rintro _ _ ⟨kb2, rfl, rfl⟩ -
        (refine op_call ((Geom.stride l _).mono ?_); rintro _ _ ⟨rfl, rfl⟩; rw [hSs]; exact ⟨[], rfl, rfl, rfl⟩)
      · simp only [withD, nthD, Step2, nthDst, putO, postD]
        (refine op_iarith ?_; rw [w1]; exact ⟨[], rfl, rfl, rfl⟩)
      · simp only [withD, nthD, Step2, nthDst, putO, postD]
        (refine op_iarith ?_; rw [w2]; exact ⟨[], rfl, rfl, rfl⟩)
      · simp only [withD, nthD, Step2, nthDst, putO, postD]
        (refine op_buildSlice ?_; intro kq; exact ⟨[_], rfl, kq, rfl, rfl⟩)
      simp only [FinalsD, nthDst, putO, List.drop_succ_cons, List.drop_zero]
      rintro _ _ _ _ _ _ ⟨⟨kn, rfl, rfl⟩, ⟨kb2, rfl, rfl⟩, ⟨kb, rfl, rfl⟩, -⟩
      try simp only [List.nil_append]
      refine tl_cons ?_
      refine op_append0N [.int .i64 x] (m := 1) (by decide) (fun k9 cap9 sp9 hok9 => ?_) ⟨rfl, _, 1, rfl, Nat.le_refl _, fun _ => ⟨kn, 0, _, _, _, rfl, mem0, rfl⟩⟩ (h1 := by intro u hu; simp only [List.mem_cons, List.not_mem_nil, or_false] at hu; subst hu; rfl) (hbig := by simp only [maxLen]; omega) (hbytes := by omega)
      have hnew : ∀ G : Heap, (k9, Obj.cells ⟨[.int .i64 x] ++ sp9⟩ 3 (0, 0)) ∈ G → IS G (.slice (some ⟨k9, 0, none⟩) 1 cap9) (moved e x) := fun G hm => by
        rw [hmv]
        exact is_new (zs := [x]) hok9.1 hm
      repeat' first
        | refine op_storeK rfl ?_
        | (refine op_call ((implVerifyMultiLineString l s _ _ _ _ f (moved e x) S _ hl1 (hf.mono exs) (hnew _ (by simp)) hSs hS0 hnr2 (by omega) hfl (memE hE5 exs) (memE hE6 exs)).mono ?_); rintro _ _ ⟨b, rfl, hb, ex1, rfl⟩; obtain rfl : b = false := (by cases b with | false => rfl | true => exact absurd (hb.1 rfl) hnf))
        | (refine op_call ((implVerifyMultiLineString l s _ _ _ _ f e S _ hl1 (hf.mono exs) (he.mono exs) hSs hS0 hnr hel hfl (memE hE5 exs) (memE hE6 exs)).mono ?_); rintro _ _ ⟨b2, rfl, hb2, ex2, rfl⟩; obtain rfl : b2 = true := hb2.2 hfine)
        | (first | refine tc_seq ?_ | refine tc_region ?_ | refine at_seq_normal ?_ | refine tl_nil ?_ | refine tl_cons ?_ | refine tl_cons_none ?_ | refine op_move ?_ | refine op_assign ?_ | refine op_fieldAddr ?_ | refine op_load ?_ | refine op_load_agg ?_ | refine op_indexC ?_ | refine op_indexAddr1 ?_ | refine op_indexAddr ?_ | refine op_icmp ?_ | refine op_fcmp ?_ | refine op_iarith ?_ | refine op_bcmp ?_ | refine op_unop_not ?_ | refine op_unop_neg_float ?_ | refine op_unop_neg_int ?_ | refine op_len_slice ?_ | refine op_pick_true ?_ | refine op_pick_false ?_ | refine op_pick_true' ?_ | refine op_pick_false' ?_ | refine op_build ?_ | refine op_extract ?_ | refine op_makeInterface ?_ | refine op_typeAssert ?_ | refine op_ptr_nil ?_ | refine op_nilCheck_ptr ?_ | refine op_nilCheck_meth ?_ | refine op_makeMeth ?_ | refine op_makeFunc ?_ | refine op_itof ?_ | refine op_itoi ?_ | refine op_ftoi ?_ | refine op_iquo ?_ | refine op_irem ?_ | refine op_ibits ?_ | refine op_slice_isnil ?_ | refine op_slice_notnil ?_ | refine op_imax ?_ | refine op_imin ?_ | refine op_shl ?_ | refine op_shr ?_ | (refine op_alloc ?_; intro _) | (refine op_box ?_; intro _) | (refine op_buildSlice ?_; intro _) | (refine op_farith ?_; intro _ _) | refine op_store0 ?_ | refine op_store1 ?_ | refine op_store2 ?_ | refine op_store3 ?_ | refine op_store4 ?_ | refine op_store5 ?_ | refine op_storeK rfl ?_ | refine op_loadK rfl ?_ | refine op_load_aggK rfl ?_ | refine tc_cond_t ?_ | refine tc_cond_f ?_ | refine tc_skip ?_ | refine tc_ret ?_ | refine at_seq_ret ?_ | refine tl_guard_yes ?_ | refine tl_guard_no ?_ | refine tl_guard_yes' ?_ | refine tl_guard_no' ?_ | refine tl_guard_undef ?_ | fail)
        | fail
      exact ret_tmp (hG := by (repeat (first | exact List.Sublist.refl _ | apply List.Sublist.cons_cons | apply List.Sublist.cons | refine List.Sublist.trans ?_ (List.sublist_append_right _ _)))) (hk := ⟨rfl, rfl⟩)
    · skip
      apply fun hole0 hole1 hole2 hole3 hole4 hole5 hole6 hole7 hole8 hole9 hole10 hole11 hE hD hml hdl hpr prem fin => tc_drawnD 18 [PhiD.gen (some' (fun w ex => ∃ kb, w = .slice (some ⟨kb, 0, none⟩) 0 0 ∧ ex = [(kb, .cells ⟨[]⟩ 3 (0, 0))])), PhiD.is hole0, PhiD.is hole1, PhiD.is hole2, PhiD.is hole3, PhiD.gen (some' (fun w ex => ∃ k6 cap5 sp5, w = .slice (some ⟨k6, 0, none⟩) n1 cap5 ∧ ex = [(k6, .cells ⟨(e.take n1).map iv ++ sp5⟩ 3 (0, 0))] ∧ bufOk 1 (some (k6, cap5, sp5)) n1 ((e.take n1).map iv))), PhiD.is hole4, PhiD.is hole5, PhiD.is hole6, PhiD.is hole7, PhiD.is hole8, PhiD.is hole9, PhiD.is hole10, PhiD.is hole11, PhiD.is (.int .i64 (S : Int)), PhiD.is (.int .i64 (a * (S : Int))), PhiD.is (.int .i64 x), PhiD.gen (some' (fun w ex => ∃ kn, w = .slice (some ⟨kn, 0, none⟩) 1 1 ∧ ex = [(kn, .cells ⟨[.int .i64 x]⟩ 3 (0, 0))]))]
        [some 51, some 52, some 53, some 54, some 55, some 56, some 57, some 58, some 59, some 60, some 61, some 62, some 63, some 64, some 65, some 66, some 67, some 68, some 69, some 70, none] [[], [], [1], [], [2, 3], [0, 4], [], [6], [], [7, 8], [9], [], [], [12], [13, 5], [11, 14], [10, 15], [16]] mixed ⟨(some_mono _), (some_mono _), (some_mono _), trivial⟩ prem fin hE hD rfl hml hdl hpr
      rotate_left 13
      · first | kernel_rfl | exact rfl
      · first | kernel_rfl | exact rfl
      · exact Nat.le_of_ble_eq_true rfl
      · first | kernel_rfl | exact rfl
      · first | kernel_rfl | exact rfl
      refine ⟨fun G hG => ?_, fun G hG => ?_, fun G hG => ?_, fun G hG => ?_, fun G hG => ?_, fun G hG => ?_, fun G hG => ?_, fun G hG => ?_, fun G hG => ?_, fun G hG => ?_, fun G hG => ?_, fun G hG => ?_, fun G hG => ?_, fun G hG => ?_, fun G hG => ?_, fun G hG => ?_, fun G hG => ?_, fun G hG => ?_, trivial⟩
      · simp only [withD, nthD, Step2, nthDst, putO, postD]
        (refine op_buildSlice0 (fun kq => ?_); exact ⟨[_], rfl, kq, rfl, rfl⟩)
      · simp only [withD, nthD, Step2, nthDst, putO, postD]
        (refine op_fieldAddr ?_; exact ⟨[], rfl, rfl, rfl⟩)
      · simp only [withD, nthD, Step2, nthDst, putO, postD]
        ((first | refine op_load ?_ | refine op_load_agg ?_ | refine op_load ?_ (hm := Sub.mem (by assumption) (by (repeat (apply List.mem_cons_of_mem)); assumption)) | refine op_load_agg ?_ (hm := Sub.mem (by assumption) (by (repeat (apply List.mem_cons_of_mem)); assumption)) | refine op_loadH hG rfl ?_ | refine op_load_aggH hG rfl ?_); exact ⟨[], rfl, rfl, rfl⟩)
      · simp only [withD, nthD, Step2, nthDst, putO, postD]
        (refine op_move ?_; exact ⟨[], rfl, rfl, rfl⟩)
      · simp only [withD, nthD, Step2, nthDst, putO, postD]
        (refine op_slice_h (h := n1) ?_ (hz := gete (by exact rfl) w0) (h2 := by omega); exact ⟨[], rfl, rfl, rfl⟩)
      · simp only [withD, nthD, Step2, nthDst, putO, postD]
        rintro _ _ ⟨kb, rfl, rfl⟩ -
        (refine op_append0N ((e.take n1).map iv) (by omega) (fun k6 cap5 sp5 hok6 => ?_) (hcut.mono fun z hz => hG _ (exs z hz)) (h1 := oneCell_iv _) (hbig := by simp only [maxLen]; omega) (hbytes := by omega); exact ⟨[_], rfl, k6, cap5, sp5, rfl, rfl, hok6⟩)
      · simp only [withD, nthD, Step2, nthDst, putO, postD]
        (refine op_fieldAddr ?_; exact ⟨[], rfl, rfl, rfl⟩)
      · simp only [withD, nthD, Step2, nthDst, putO, postD]
        ((first | refine op_load ?_ | refine op_load_agg ?_ | refine op_load ?_ (hm := Sub.mem (by assumption) (by (repeat (apply List.mem_cons_of_mem)); assumption)) | refine op_load_agg ?_ (hm := Sub.mem (by assumption) (by (repeat (apply List.mem_cons_of_mem)); assumption)) | refine op_loadH hG rfl ?_ | refine op_load_aggH hG rfl ?_); exact ⟨[], rfl, rfl, rfl⟩)
      · simp only [withD, nthD, Step2, nthDst, putO, postD]
        (refine op_move ?_; exact ⟨[], rfl, rfl, rfl⟩)
      · simp only [withD, nthD, Step2, nthDst, putO, postD]
        (refine op_indexAddr1 (j := n1) ?_ (hy := gete (by exact rfl) w0) (hj := by omega); exact ⟨[], rfl, rfl, rfl⟩)
      · simp only [withD, nthD, Step2, nthDst, putO, postD]
        (refine op_load ?_ (hm := hG _ (exs _ hme)) (hv := g1); exact ⟨[], rfl, rfl, rfl⟩)
      · simp only [withD, nthD, Step2, nthDst, putO, postD]
        (refine op_move ?_; exact ⟨[], rfl, rfl, rfl⟩)
      · simp only [withD, nthD, Step2, nthDst, putO, postD]
        (refine op_fieldAddr ?_; exact ⟨[], rfl, rfl, rfl⟩)
      · simp only [withD, nthD, Step2, nthDst, putO, postD]
        ((first | refine op_load ?_ | refine op_load_agg ?_ | refine op_load ?_ (hm := Sub.mem (by assumption) (by (repeat (apply List.mem_cons_of_mem)); assumption)) | refine op_load_agg ?_ (hm := Sub.mem (by assumption) (by (repeat (apply List.mem_cons_of_mem)); assumption)) | refine op_loadH hG rfl ?_ | refine op_load_aggH hG rfl ?_); exact ⟨[], rfl, rfl, rfl⟩)
      · simp only [withD, nthD, Step2, nthDst, putO, postD]
        rintro _ _ ⟨k6, cap5, sp5, rfl, rfl, hok6⟩ -
        (refine op_call ((Geom.stride l _).mono ?_); rintro _ _ ⟨rfl, rfl⟩; rw [hSs]; exact ⟨[], rfl, rfl, rfl⟩)
      · simp only [withD, nthD, Step2, nthDst, putO, postD]
        (refine op_iarith ?_; rw [w1]; exact ⟨[], rfl, rfl, rfl⟩)
      · simp only [withD, nthD, Step2, nthDst, putO, postD]
        (refine op_iarith ?_; rw [w2]; exact ⟨[], rfl, rfl, rfl⟩)
      · simp only [withD, nthD, Step2, nthDst, putO, postD]
        (refine op_buildSlice ?_; intro kq; exact ⟨[_], rfl, kq, rfl, rfl⟩)
      simp only [FinalsD, nthDst, putO, List.drop_succ_cons, List.drop_zero]
      rintro _ _ _ _ _ _ ⟨⟨kn, rfl, rfl⟩, ⟨k6, cap5, sp5, rfl, rfl, hok6⟩, ⟨kb, rfl, rfl⟩, -⟩
      try simp only [List.nil_append]
      refine tl_cons ?_
      refine op_append (some (k6, cap5, sp5)) n1 ((e.take n1).map iv) [.int .i64 x] (m := 1) (s := 1) hok6 (fun buf9 hok9 => ?_) (by exact rfl) (by exact rfl) (List.Sublist.cons _ (List.Sublist.refl _)) mem0 rfl rfl (by intro u hu; simp only [List.mem_cons, List.not_mem_nil, or_false] at hu; subst hu; rfl) (by decide) (by simp only [maxLen]; omega) (by omega)
      rcases buf9 with _ | ⟨k9, cap9, sp9⟩
      · exact absurd hok9.1 (by omega)
      have hmv : (moved e x).map iv = (e.take n1).map iv ++ [.int .i64 x] := by
        unfold moved
        rw [hn1, Nat.add_sub_cancel, List.map_append]; rfl
      have hnew : ∀ G : Heap, (k9, Obj.cells ⟨((e.take n1).map iv ++ [.int .i64 x]) ++ sp9⟩ 3 (0, 0)) ∈ G → IS G (.slice (some ⟨k9, 0, none⟩) (n1 + 1) cap9) (moved e x) := fun G hm => by
        rw [← hmv] at hm
        have h1 := is_new (zs := moved e x) (cap := cap9) (by rw [hml, hn1]; exact hok9.1) hm
        rw [hml, hn1] at h1
        exact h1
      simp only [bufV, bufH]
      repeat' first
        | refine op_storeK rfl ?_
        | (refine op_call ((implVerifyMultiLineString l s _ _ _ _ f (moved e x) S _ hl1 (hf.mono exs) (hnew _ (by simp)) hSs hS0 hnr2 (by omega) hfl (memE hE5 exs) (memE hE6 exs)).mono ?_); rintro _ _ ⟨b, rfl, hb, ex1, rfl⟩; obtain rfl : b = false := (by cases b with | false => rfl | true => exact absurd (hb.1 rfl) hnf))
        | (refine op_call ((implVerifyMultiLineString l s _ _ _ _ f e S _ hl1 (hf.mono exs) (he.mono exs) hSs hS0 hnr hel hfl (memE hE5 exs) (memE hE6 exs)).mono ?_); rintro _ _ ⟨b2, rfl, hb2, ex2, rfl⟩; obtain rfl : b2 = true := hb2.2 hfine)
        | (first | refine tc_seq ?_ | refine tc_region ?_ | refine at_seq_normal ?_ | refine tl_nil ?_ | refine tl_cons ?_ | refine tl_cons_none ?_ | refine op_move ?_ | refine op_assign ?_ | refine op_fieldAddr ?_ | refine op_load ?_ | refine op_load_agg ?_ | refine op_indexC ?_ | refine op_indexAddr1 ?_ | refine op_indexAddr ?_ | refine op_icmp ?_ | refine op_fcmp ?_ | refine op_iarith ?_ | refine op_bcmp ?_ | refine op_unop_not ?_ | refine op_unop_neg_float ?_ | refine op_unop_neg_int ?_ | refine op_len_slice ?_ | refine op_pick_true ?_ | refine op_pick_false ?_ | refine op_pick_true' ?_ | refine op_pick_false' ?_ | refine op_build ?_ | refine op_extract ?_ | refine op_makeInterface ?_ | refine op_typeAssert ?_ | refine op_ptr_nil ?_ | refine op_nilCheck_ptr ?_ | refine op_nilCheck_meth ?_ | refine op_makeMeth ?_ | refine op_makeFunc ?_ | refine op_itof ?_ | refine op_itoi ?_ | refine op_ftoi ?_ | refine op_iquo ?_ | refine op_irem ?_ | refine op_ibits ?_ | refine op_slice_isnil ?_ | refine op_slice_notnil ?_ | refine op_imax ?_ | refine op_imin ?_ | refine op_shl ?_ | refine op_shr ?_ | (refine op_alloc ?_; intro _) | (refine op_box ?_; intro _) | (refine op_buildSlice ?_; intro _) | (refine op_farith ?_; intro _ _) | refine op_store0 ?_ | refine op_store1 ?_ | refine op_store2 ?_ | refine op_store3 ?_ | refine op_store4 ?_ | refine op_store5 ?_ | refine op_storeK rfl ?_ | refine op_loadK rfl ?_ | refine op_load_aggK rfl ?_ | refine tc_cond_t ?_ | refine tc_cond_f ?_ | refine tc_skip ?_ | refine tc_ret ?_ | refine at_seq_ret ?_ | refine tl_guard_yes ?_ | refine tl_guard_no ?_ | refine tl_guard_yes' ?_ | refine tl_guard_no' ?_ | refine tl_guard_undef ?_ | fail)
        | fail
      exact ret_tmp (hG := by (repeat (first | exact List.Sublist.refl _ | apply List.Sublist.cons_cons | apply List.Sublist.cons | refine List.Sublist.trans ?_ (List.sublist_append_right _ _)))) (hk := ⟨rfl, rfl⟩)
  · have c5 : icmp .neq k 5 = true := by simp only [icmp, bne_iff_ne]; exact k5
    refine fn_enter 92 Tryd.func3 fun W => ?_
    repeat' first
      | (first | refine tc_seq ?_ | refine tc_region ?_ | refine at_seq_normal ?_ | refine tl_nil ?_ | refine tl_cons ?_ | refine tl_cons_none ?_ | refine op_move ?_ | refine op_assign ?_ | refine op_fieldAddr ?_ | refine op_load ?_ | refine op_load_agg ?_ | refine op_indexC ?_ | refine op_indexAddr1 ?_ | refine op_indexAddr ?_ | refine op_icmp ?_ | refine op_fcmp ?_ | refine op_iarith ?_ | refine op_bcmp ?_ | refine op_unop_not ?_ | refine op_unop_neg_float ?_ | refine op_unop_neg_int ?_ | refine op_len_slice ?_ | refine op_pick_true ?_ | refine op_pick_false ?_ | refine op_pick_true' ?_ | refine op_pick_false' ?_ | refine op_build ?_ | refine op_extract ?_ | refine op_makeInterface ?_ | refine op_typeAssert ?_ | refine op_ptr_nil ?_ | refine op_nilCheck_ptr ?_ | refine op_nilCheck_meth ?_ | refine op_makeMeth ?_ | refine op_makeFunc ?_ | refine op_itof ?_ | refine op_itoi ?_ | refine op_ftoi ?_ | refine op_iquo ?_ | refine op_irem ?_ | refine op_ibits ?_ | refine op_slice_isnil ?_ | refine op_slice_notnil ?_ | refine op_imax ?_ | refine op_imin ?_ | refine op_shl ?_ | refine op_shr ?_ | (refine op_alloc ?_; intro _) | (refine op_box ?_; intro _) | (refine op_buildSlice ?_; intro _) | (refine op_farith ?_; intro _ _) | refine op_store0 ?_ | refine op_store1 ?_ | refine op_store2 ?_ | refine op_store3 ?_ | refine op_store4 ?_ | refine op_store5 ?_ | refine op_storeK rfl ?_ | refine op_loadK rfl ?_ | refine op_load_aggK rfl ?_ | refine tc_cond_t ?_ | refine tc_cond_f ?_ | refine tc_cond (fun _ => ?_) (fun _ => ?_) | refine tc_skip ?_ | refine tc_ret ?_ | refine at_seq_ret ?_ | refine tl_guard_yes ?_ | refine tl_guard_no ?_ | refine tl_guard_yes' ?_ | refine tl_guard_no' ?_ | refine tl_guard_undef ?_ | refine tl_guard_split (fun _ => ?_) (fun _ => ?_) | fail)
      | (refine op_call ((zzFits2 _ _ _ (IsG.mono exs hg0) hw).mono ?_); rintro _ _ ⟨⟨bz, rfl⟩, rfl⟩)
      | (refine op_call ((gGood [Geo.mk k l s f e ee ks] _ _ _ _ hwt (sl_one7 rfl mem0) ⟨IsG.mono exs hg0, trivial⟩).mono ?_); rintro _ _ ⟨rfl, rfl⟩)
      | fail
    all_goals exact ret_tmp (hG := by (repeat (first | exact List.Sublist.refl _ | apply List.Sublist.cons_cons | apply List.Sublist.cons | refine List.Sublist.trans ?_ (List.sublist_append_right _ _)))) (hk := ⟨rfl, rfl⟩)
theorem laidE {W : World} (h : laidMetH Tryd.prog Rows.fnVerifyEndsUptoRow.laid W) : Holds 5 (all W) ∧ Holds 6 (all W) := by
  have h' : laidMet Tryd.prog Rows.fnVerifyEndsUptoRow.laid W := h
  obtain ⟨ps, hv, _⟩ := h'
  exact ⟨laid_iface hv (n := "pub-orthodrome/pub/gogeom.errOutOfOrderEnd") (nm := "*errors.errorString") (d := .ptr (.agg [.lit (.string [103, 101, 111, 109, 58, 32, 111, 117, 116, 45, 111, 102, 45, 111, 114, 100, 101, 114, 32, 101, 110, 100])])) (by simp [Rows.fnVerifyEndsUptoRow, Rows.laid_pub_orthodrome_pub_gogeom_errOutOfOrderEnd]) (g := 5) (t := 36) (by kernel_rfl) (by kernel_rfl) Tryd.underlying36,
    laid_iface hv (n := "pub-orthodrome/pub/gogeom.errIncorrectEnd") (nm := "*errors.errorString") (d := .ptr (.agg [.lit (.string [103, 101, 111, 109, 58, 32, 105, 110, 99, 111, 114, 114, 101, 99, 116, 32, 101, 110, 100])])) (by simp [Rows.fnVerifyEndsUptoRow, Rows.laid_pub_orthodrome_pub_gogeom_errIncorrectEnd]) (g := 6) (t := 36) (by kernel_rfl) (by kernel_rfl) Tryd.underlying36⟩
theorem own : ownKnob Tryd.prog.godebug = none := by kernel_rfl
theorem laid : laidOutB Tryd.prog = true := by kernel_rfl
noncomputable def laidWorld (os : Os) : World := World.doorLaid Tryd.prog 400 os
theorem laid_met (os : Os) : laidMet Tryd.prog Rows.fnVerifyEndsUptoRow.laid ((laidWorld os).forCall (fun _ _ => 0) ⟨#[], #[.agg #[.int .i64 0, .int .i64 0, .int .i64 0, .slice none 0 0, .slice none 0 0, .slice none 0 0, .slice none 0 0], .int .i64 0], []⟩).memory :=
  laidMet_of_run' 8 (by kernel_rfl) (by kernel_rfl)
theorem reads (os : Os) {H : Type} (enc : TypeId × Value → H) : ∃ places, DataW.whole enc Tryd.prog ((laidWorld os).forCall (fun _ _ => 0) ⟨#[], #[.agg #[.int .i64 0, .int .i64 0, .int .i64 0, .slice none 0 0, .slice none 0 0, .slice none 0 0, .slice none 0 0], .int .i64 0], []⟩).memory Tryd.f3.params.toList Rows.fnVerifyEndsSpec.vars false (#[.agg #[.int .i64 0, .int .i64 0, .int .i64 0, .slice none 0 0, .slice none 0 0, .slice none 0 0, .slice none 0 0], .int .i64 0] : Array Value).toList 8 = some ([.agg [.lit (.int .i64 0), .lit (.int .i64 0), .lit (.int .i64 0), .nil, .nil, .nil, .nil], .lit (.int .i64 0)], [], places) :=
  ⟨[], by kernel_rfl⟩
set_option maxRecDepth 100000 in
theorem lifted (os : Os) (started : os.Started) (H : Type) (enc : TypeId × Value → H) (F : Stop.Interp) :
    ReturnsInHanded {} Tryd.checked os 3 .any ((Rows.OpenSpec.upto Rows.fnVerifyEndsSpec).preRow enc Tryd.prog Tryd.f3 Rows.fnVerifyEndsUptoRow.domain false Rows.fnVerifyEndsUptoRow.laid) (((Rows.OpenSpec.upto Rows.fnVerifyEndsSpec).at F).post enc Tryd.prog Tryd.f3 false true false false) := by
  obtain ⟨places, hx⟩ := reads os enc
  refine returnsInHanded_of_row (C := Tryd.checked) (s := Rows.OpenSpec.upto Rows.fnVerifyEndsSpec) own started (by kernel_rfl) Tryd.func3
    (witness_row_at (enc := enc) (C := Tryd.checked) false (laidWorld os) #[.agg #[.int .i64 0, .int .i64 0, .int .i64 0, .slice none 0 0, .slice none 0 0, .slice none 0 0, .slice none 0 0], .int .i64 0] rfl (by kernel_rfl) (by kernel_rfl) (by kernel_rfl)
      (OpenSpec.preRow_of_cond 8 hx (by kernel_rfl) (fun k hk => by cases hk; kernel_rfl) (by kernel_rfl) (laid_met os))) ?_
  intro W base args ds gs before hval0 hW _ hcond _ hL _ _
  have hval : ∀ (j : Nat) t v, Tryd.f3.params[j]? = some t → args[j]? = some v → Value.okWide Tryd.prog W .any base t v := hval0
  have hW' := hW
  obtain ⟨p, q, hA0, hV, rfl, hfz, hnd⟩ := hW'
  have hA : DataW.TrodAll enc Tryd.prog W 0 (fun _ => true) true Tryd.f3.params.toList args.toList ds p := hA0
  rw [Tryd.params3] at hA hval
  obtain ⟨v0, vs0, d0, ds0, p0, q0, hargs, rfl, rfl, h0, r0⟩ := trodAll_cons hA
  obtain ⟨v1, vs1, d1, ds1, p1, q1, rfl, rfl, rfl, h1, r1⟩ := trodAll_cons r0
  obtain ⟨rfl, rfl, rfl⟩ := trodAll_nil r1
  obtain rfl : args = #[v0, v1] := by cases args; simp_all
  obtain ⟨rfl, rfl⟩ := trodVars_none hV
  have hb := of_decide_eq_true (hcond _ rfl)
  simp only [List.append_nil, List.cons_append, List.nil_append, Rows.uptoBulkAll] at hb
  obtain ⟨g0, cs0, rfl, hg0, hw0⟩ := Go.Proofs.YtmilmnedgadidaaDoor.Geom.open_geom (hval 0 27 v0 rfl rfl) h0
  obtain ⟨n1, rfl, rfl, rfl, wn1⟩ := open_int Tryd.underlying3 (hval 1 3 v1 rfl rfl) h1
  clear hA0 hval0
  refine (calls_of_does (law (H := all W) g0 cs0 hg0 (Nat.le_trans hw0 (by omega)) n1 (wf_i64 wn1) (laidE hL)) (sees_all W)).mono fun e W' ⟨v, H', he, hs, hv, hH⟩ => ?_
  subst he
  subst hv
  subst hH
  exact ⟨_, rfl, post_law laid (of_decide_eq_true (by kernel_rfl)) rfl hW rfl rfl Tryd.underlying4 hs.below⟩
theorem said : Rows.FnVerifyEndsUptoSaid :=
  OpenClaim.holds_of_cond 3 Tryd.f3 rfl rfl rfl rfl rfl rfl rfl ⟨rfl, rfl, rfl, rfl, rfl⟩ rfl rfl rfl rfl rfl (by kernel_rfl) Tryd.func3 (by kernel_rfl)
    (of_decide_eq_true (by kernel_rfl)) (by unfold Func.isWrapper; first | (rw [if_pos (by decide +kernel)]; kernel_rfl) | (rw [if_neg (by decide +kernel)]; exact ⟨rfl, rfl⟩))
    (fun os started H enc _ F => by rw [OpenClaim.pre_eq_preRow]; exact lifted os started H enc F)
theorem plain (f : FuncId) (fn : Func) (hf : Tryd.pinned.checked.prog.funcNamed "pub-orthodrome/laws.FnVerifyEnds" = some f) (hfn : Tryd.pinned.checked.prog.funcs[f]? = some fn) :
    true = Tryd.pinned.checked.prog.looks [] ∧ ∀ (j : Nat) t, fn.params[j]? = some t → Tryd.pinned.checked.prog.wantsStandIn t = false := by
  obtain rfl : f = 3 := Option.some.inj ((show Tryd.prog.funcNamed "pub-orthodrome/laws.FnVerifyEnds" = some 3 by kernel_rfl).symm.trans hf) |>.symm
  obtain rfl : fn = Tryd.f3 := (Option.some.inj (Tryd.func3.symm.trans hfn)).symm
  refine ⟨by kernel_rfl, fun j t ht => ?_⟩
  rw [Tryd.params3] at ht
  have hm := Array.mem_of_getElem? ht
  simp only [List.mem_toArray, List.mem_cons, List.not_mem_nil, or_false] at hm
  rcases hm with rfl | rfl
  · exact (show Tryd.prog.wantsStandIn 27 = false by kernel_rfl)
  · exact (show Tryd.prog.wantsStandIn 3 = false by kernel_rfl)
/-- The card. -/
theorem proved : Rows.FnVerifyEndsUptoCardSaid :=
  Claim7.holds_tied_plain_at .later [] _ _ _ _ said (fun _ h => by cases h) (by kernel_rfl) (fun _ h => by cases h) fnVerifyEndsUpto_row_tie rfl ⟨rfl, rfl⟩ (by kernel_rfl) rfl plain (by kernel_rfl)
#print axioms proved
end Go.Proofs.YtmilmnedgadidaaDoor.fnVerifyEnds
