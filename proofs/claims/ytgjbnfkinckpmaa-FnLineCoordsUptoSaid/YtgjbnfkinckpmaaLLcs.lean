/-
  FnLineCoords: the places of a line string, a linear ring or a multi point are its numbers, cut into as many each as its layout says; an empty point of a multi point is nil. Of the second form (arguments of bulk at most 1048576). No conditions beyond the statement's own.
-/
import Derived.Test.YtgjbnfkinckpmaaRows
import Derived.Test.YtgjbnfkinckpmaaGeor
import Derived.Test.YtgjbnfkinckpmaaGeo4
import Derived.Test.YtgjbnfkinckpmaaFits
import Derived.Test.YtgjbnfkinckpmaaGm5
import Derived.Test.YtgjbnfkinckpmaaPrt2
set_option linter.unusedVariables false
set_option linter.unusedSimpArgs false
namespace Go.Proofs.Ytgjbnfkinckpmaa.fnLineCoords
open Go.Lg Go.Proofs.Ytgjbnfkinckpmaa.Geom Go.Proofs.Ytgjbnfkinckpmaa.Gm Go.Proofs.Ytgjbnfkinckpmaa.Flat
open Go.ChangeShapes Go.WideShapes Go.RowKit

theorem sl_one7 {G : Heap} {k : Nat} {T : TypeId} {fz : Nat × Nat} {cs : List Value} (hl : cs.length = 7) (hm : (k, Obj.cells ⟨cs⟩ T fz) ∈ G) : SlN 7 G (.slice (some ⟨k, 0, none⟩) 1 1) 1 ([cs].flatten) :=
  ⟨by simpa using hl, some ⟨k, 0, none⟩, 1, rfl, Nat.le_refl _, fun _ => ⟨k, 0, cs, T, fz, rfl, hm, by simp [← hl]⟩⟩
theorem strideI_two {n : Int} (h : 1 ≤ n) : 2 ≤ strideI n := by
  unfold strideI
  (repeat' split) <;> omega
theorem mp_good {l s : Int} {f : List Nat} {e : List Int} {ee : List (List Int)} {ks : List Geo} (h : (Geo.mk 4 l s f e ee ks).wt ≤ 2000 ∧ (Geo.mk 4 l s f e ee ks).Lay 9 ∧ (Geo.mk 4 l s f e ee ks).Good) : 1 ≤ l ∧ f.length ≤ 2000 ∧ e.length ≤ 2000 ∧ ∃ S : Nat, 0 < S ∧ S ≤ 9 ∧ strideI l = (S : Int) ∧ MpOk e S f.length ∧ (e = [] → f.length = 0) := by
  obtain ⟨h1, h2, h3⟩ := h
  unfold Geo.Lay at h2
  unfold Geo.wt at h1
  have hl : 1 ≤ l := by rcases h2.2.2 with h | h <;> omega
  have h2' := strideI_two hl
  have h9 : strideI l ≤ 9 := by unfold strideI; (repeat' split) <;> omega
  refine ⟨hl, by omega, by omega, (strideI l).toNat, by omega, by omega, by omega, ?_⟩
  unfold Geo.Good at h3
  rcases h3 with h | ⟨_, _, _, _, _, hk⟩
  · omega
  have h5 : Asc (strideI l) true 0 e f.length := by
    unfold Kd at hk
    rcases hk with h | h | h | h
    · omega
    · omega
    · exact h.2
    · omega
  refine ⟨mp_ok (by rw [show (((strideI l).toNat : Nat) : Int) = strideI l by omega]; exact h5) (by omega), fun he => ?_⟩
  rw [he] at h5
  have h6 : (0 : Int) = f.length := h5
  omega
theorem ls_good {k l s : Int} {f : List Nat} {e : List Int} {ee : List (List Int)} {ks : List Geo} (h7 : k ≠ 7) (h : (Geo.mk k l s f e ee ks).wt ≤ 2000 ∧ (Geo.mk k l s f e ee ks).Lay 9 ∧ (Geo.mk k l s f e ee ks).Good) : 1 ≤ l ∧ f.length ≤ 2000 ∧ ∃ S : Nat, 0 < S ∧ S ≤ 9 ∧ strideI l = (S : Int) ∧ f.length = f.length / S * S := by
  obtain ⟨h1, h2, h3⟩ := h
  unfold Geo.Lay at h2
  unfold Geo.wt at h1
  have hl : 1 ≤ l := by rcases h2.2.2 with h | h <;> omega
  have h2' := strideI_two hl
  have h9 : strideI l ≤ 9 := by unfold strideI; (repeat' split) <;> omega
  unfold Geo.Good at h3
  rcases h3 with h | ⟨_, _, hm, _⟩
  · exact absurd h.1 h7
  refine ⟨hl, by omega, (strideI l).toNat, by omega, by omega, by omega, ?_⟩
  obtain ⟨S, hS⟩ : ∃ S : Nat, strideI l = (S : Int) := ⟨(strideI l).toNat, by omega⟩
  rw [hS] at hm ⊢
  have hm2 : f.length % S = 0 := by
    have e1 : Int.tmod (f.length : Int) (S : Int) = ((f.length % S : Nat) : Int) := (Int.ofNat_tmod _ _).symm
    rw [e1] at hm
    exact_mod_cast hm
  rw [Int.toNat_natCast]
  exact (Nat.div_mul_cancel (Nat.dvd_of_mod_eq_zero hm2)).symm
set_option maxHeartbeats 32000000 in
theorem law {H : Heap} (g : Geo) (cs : List Value) (hg : IsG H g cs) (hw : g.wt ≤ 1048576) : Does Try.prog 3 [.agg ⟨cs⟩] H fun w H' => w = .bool true ∧ H' = H := by
  have hg0 := hg
  match g, hg, hw, hg0 with
  | .mk k l s f e ee ks, hg, hw, hg0 =>
  obtain ⟨vf, ve, vee, vk, rows, rfl, hf, he, hee, hk, hx1, hx2, hx3⟩ := hg
  obtain ⟨af, cf, rfl⟩ := hf.val
  obtain ⟨ae, ce, rfl⟩ := he.val
  have hwt : Geo.wts [Geo.mk k l s f e ee ks] < 2 ^ 61 := by simp only [Geo.wts]; omega
  by_cases k2 : k = 2
  · subst k2
    have c2 : icmp .neq 2 2 = false := rfl
    refine fn_enter 39 Try.func3 fun W => ?_
    repeat' first
      | (first | refine tc_seq ?_ | refine tc_region ?_ | refine at_seq_normal ?_ | refine tl_nil ?_ | refine tl_cons ?_ | refine op_move ?_ | refine op_assign ?_ | refine op_fieldAddr ?_ | refine op_load ?_ | refine op_load_agg ?_ | refine op_icmp ?_ | refine op_unop_not ?_ | refine op_pick_true ?_ | refine op_pick_false ?_ | refine op_pick_true' ?_ | refine op_pick_false' ?_ | refine op_extract ?_ | (refine op_box ?_; intro _) | (refine op_buildSlice ?_; intro _) | refine op_loadK rfl ?_ | refine op_load_aggK rfl ?_ | refine tc_cond_t ?_ | refine tc_cond_f ?_ | refine tc_cond (fun _ => ?_) (fun _ => ?_) | refine tc_skip ?_ | refine tc_ret ?_ | refine at_seq_ret ?_ | refine tl_guard_yes ?_ | refine tl_guard_no ?_ | refine tl_guard_yes' ?_ | refine tl_guard_no' ?_ | refine tl_guard_undef ?_ | refine tl_guard_split (fun _ => ?_) (fun _ => ?_) | fail)
      | (refine op_call ((zzFits2 _ _ _ (IsG.mono exs hg0) hw).mono ?_); rintro _ _ ⟨⟨bz, rfl⟩, rfl⟩)
      | (refine op_call ((gGood [Geo.mk 2 l s f e ee ks] _ _ _ _ hwt (sl_one7 rfl mem0) ⟨IsG.mono exs hg0, trivial⟩).mono ?_); rintro _ _ ⟨rfl, rfl⟩)
      | fail
    all_goals first
      | exact ret_tmp (hG := by (repeat (first | exact List.Sublist.refl _ | apply List.Sublist.cons_cons | apply List.Sublist.cons | refine List.Sublist.trans ?_ (List.sublist_append_right _ _)))) (hk := ⟨rfl, rfl⟩)
      | skip
    have hgd : goodAll [Geo.mk 2 l s f e ee ks] = true := by simpa using ‹(!goodAll [Geo.mk 2 l s f e ee ks]) = false›
    obtain ⟨hl1, hfl, S, hS0, hS9, hSs, hn⟩ := ls_good (by decide) (goodAll_one hgd)
    have hne := chunks_ne hS0 hn
    repeat' first
      | (refine op_call ((lineCoordsLS l s _ _ _ _ f (f.length / S) S _ hl1 (hf.mono exs) hfl hSs hS0 hn).mono ?_); rintro _ _ ⟨u, rfl, hu, ex, rfl⟩; obtain ⟨a9, c9, rfl⟩ := hu.val)
      | (refine op_call ((gPlacesLS l s af cf _ _ _ f S _ (hf.mono exs) hfl hSs hS0 hS9).mono ?_); rintro w _ ⟨hsn, ex2, rfl⟩; obtain ⟨a8, c8', rfl⟩ := hsn.val)
      | (refine op_call ((gRows _ _ _ _ _ (hu.mono exs) hsn (by rw [List.length_map, chunks_len]; have := Nat.div_le_self f.length S; omega) (fun r hr => by have := (hne r hr).2; omega)).mono ?_); rintro _ _ ⟨rfl, rfl⟩)
      | (first | refine tc_seq ?_ | refine tc_region ?_ | refine at_seq_normal ?_ | refine tl_nil ?_ | refine tl_cons ?_ | refine op_move ?_ | refine op_assign ?_ | refine op_fieldAddr ?_ | refine op_load ?_ | refine op_load_agg ?_ | refine op_icmp ?_ | refine op_unop_not ?_ | refine op_pick_true ?_ | refine op_pick_false ?_ | refine op_pick_true' ?_ | refine op_pick_false' ?_ | refine op_extract ?_ | (refine op_box ?_; intro _) | (refine op_buildSlice ?_; intro _) | refine op_loadK rfl ?_ | refine op_load_aggK rfl ?_ | refine tc_cond_t ?_ | refine tc_cond_f ?_ | refine tc_cond (fun _ => ?_) (fun _ => ?_) | refine tc_skip ?_ | refine tc_ret ?_ | refine at_seq_ret ?_ | refine tl_guard_yes ?_ | refine tl_guard_no ?_ | refine tl_guard_yes' ?_ | refine tl_guard_no' ?_ | refine tl_guard_undef ?_ | refine tl_guard_split (fun _ => ?_) (fun _ => ?_) | fail)
      | fail
    exact ret_tmp (hG := by (repeat (first | exact List.Sublist.refl _ | apply List.Sublist.cons_cons | apply List.Sublist.cons | refine List.Sublist.trans ?_ (List.sublist_append_right _ _)))) (hk := ⟨by simp, rfl⟩)
  by_cases k8 : k = 8
  · subst k8
    have c2 : icmp .neq 8 2 = true := rfl
    have c8 : icmp .neq 8 8 = false := rfl
    refine fn_enter 39 Try.func3 fun W => ?_
    repeat' first
      | (first | refine tc_seq ?_ | refine tc_region ?_ | refine at_seq_normal ?_ | refine tl_nil ?_ | refine tl_cons ?_ | refine op_move ?_ | refine op_assign ?_ | refine op_fieldAddr ?_ | refine op_load ?_ | refine op_load_agg ?_ | refine op_icmp ?_ | refine op_unop_not ?_ | refine op_pick_true ?_ | refine op_pick_false ?_ | refine op_pick_true' ?_ | refine op_pick_false' ?_ | refine op_extract ?_ | (refine op_box ?_; intro _) | (refine op_buildSlice ?_; intro _) | refine op_loadK rfl ?_ | refine op_load_aggK rfl ?_ | refine tc_cond_t ?_ | refine tc_cond_f ?_ | refine tc_cond (fun _ => ?_) (fun _ => ?_) | refine tc_skip ?_ | refine tc_ret ?_ | refine at_seq_ret ?_ | refine tl_guard_yes ?_ | refine tl_guard_no ?_ | refine tl_guard_yes' ?_ | refine tl_guard_no' ?_ | refine tl_guard_undef ?_ | refine tl_guard_split (fun _ => ?_) (fun _ => ?_) | fail)
      | (refine op_call ((zzFits2 _ _ _ (IsG.mono exs hg0) hw).mono ?_); rintro _ _ ⟨⟨bz, rfl⟩, rfl⟩)
      | (refine op_call ((gGood [Geo.mk 8 l s f e ee ks] _ _ _ _ hwt (sl_one7 rfl mem0) ⟨IsG.mono exs hg0, trivial⟩).mono ?_); rintro _ _ ⟨rfl, rfl⟩)
      | fail
    all_goals first
      | exact ret_tmp (hG := by (repeat (first | exact List.Sublist.refl _ | apply List.Sublist.cons_cons | apply List.Sublist.cons | refine List.Sublist.trans ?_ (List.sublist_append_right _ _)))) (hk := ⟨rfl, rfl⟩)
      | skip
    have hgd : goodAll [Geo.mk 8 l s f e ee ks] = true := by simpa using ‹(!goodAll [Geo.mk 8 l s f e ee ks]) = false›
    obtain ⟨hl1, hfl, S, hS0, hS9, hSs, hn⟩ := ls_good (by decide) (goodAll_one hgd)
    have hne := chunks_ne hS0 hn
    repeat' first
      | (refine op_call ((lineCoordsLR l s _ _ _ _ f (f.length / S) S _ hl1 (hf.mono exs) hfl hSs hS0 hn).mono ?_); rintro _ _ ⟨u, rfl, hu, ex, rfl⟩; obtain ⟨a9, c9, rfl⟩ := hu.val)
      | (refine op_call ((gPlacesLR l s af cf _ _ _ f S _ (hf.mono exs) hfl hSs hS0 hS9).mono ?_); rintro w _ ⟨hsn, ex2, rfl⟩; obtain ⟨a8, c8', rfl⟩ := hsn.val)
      | (refine op_call ((gRows _ _ _ _ _ (hu.mono exs) hsn (by rw [List.length_map, chunks_len]; have := Nat.div_le_self f.length S; omega) (fun r hr => by have := (hne r hr).2; omega)).mono ?_); rintro _ _ ⟨rfl, rfl⟩)
      | (first | refine tc_seq ?_ | refine tc_region ?_ | refine at_seq_normal ?_ | refine tl_nil ?_ | refine tl_cons ?_ | refine op_move ?_ | refine op_assign ?_ | refine op_fieldAddr ?_ | refine op_load ?_ | refine op_load_agg ?_ | refine op_icmp ?_ | refine op_unop_not ?_ | refine op_pick_true ?_ | refine op_pick_false ?_ | refine op_pick_true' ?_ | refine op_pick_false' ?_ | refine op_extract ?_ | (refine op_box ?_; intro _) | (refine op_buildSlice ?_; intro _) | refine op_loadK rfl ?_ | refine op_load_aggK rfl ?_ | refine tc_cond_t ?_ | refine tc_cond_f ?_ | refine tc_cond (fun _ => ?_) (fun _ => ?_) | refine tc_skip ?_ | refine tc_ret ?_ | refine at_seq_ret ?_ | refine tl_guard_yes ?_ | refine tl_guard_no ?_ | refine tl_guard_yes' ?_ | refine tl_guard_no' ?_ | refine tl_guard_undef ?_ | refine tl_guard_split (fun _ => ?_) (fun _ => ?_) | fail)
      | fail
    exact ret_tmp (hG := by (repeat (first | exact List.Sublist.refl _ | apply List.Sublist.cons_cons | apply List.Sublist.cons | refine List.Sublist.trans ?_ (List.sublist_append_right _ _)))) (hk := ⟨by simp, rfl⟩)
  have c2 : icmp .neq k 2 = true := by simp only [icmp, bne_iff_ne]; exact k2
  have c8 : icmp .neq k 8 = true := by simp only [icmp, bne_iff_ne]; exact k8
  by_cases k4 : k = 4
  · subst k4
    have c4 : icmp .neq 4 4 = false := rfl
    refine fn_enter 39 Try.func3 fun W => ?_
    repeat' first
      | (first | refine tc_seq ?_ | refine tc_region ?_ | refine at_seq_normal ?_ | refine tl_nil ?_ | refine tl_cons ?_ | refine op_move ?_ | refine op_assign ?_ | refine op_fieldAddr ?_ | refine op_load ?_ | refine op_load_agg ?_ | refine op_icmp ?_ | refine op_unop_not ?_ | refine op_pick_true ?_ | refine op_pick_false ?_ | refine op_pick_true' ?_ | refine op_pick_false' ?_ | refine op_extract ?_ | (refine op_box ?_; intro _) | (refine op_buildSlice ?_; intro _) | refine op_loadK rfl ?_ | refine op_load_aggK rfl ?_ | refine tc_cond_t ?_ | refine tc_cond_f ?_ | refine tc_cond (fun _ => ?_) (fun _ => ?_) | refine tc_skip ?_ | refine tc_ret ?_ | refine at_seq_ret ?_ | refine tl_guard_yes ?_ | refine tl_guard_no ?_ | refine tl_guard_yes' ?_ | refine tl_guard_no' ?_ | refine tl_guard_undef ?_ | refine tl_guard_split (fun _ => ?_) (fun _ => ?_) | fail)
      | (refine op_call ((zzFits2 _ _ _ (IsG.mono exs hg0) hw).mono ?_); rintro _ _ ⟨⟨bz, rfl⟩, rfl⟩)
      | (refine op_call ((gGood [Geo.mk 4 l s f e ee ks] _ _ _ _ hwt (sl_one7 rfl mem0) ⟨IsG.mono exs hg0, trivial⟩).mono ?_); rintro _ _ ⟨rfl, rfl⟩)
      | fail
    all_goals first
      | exact ret_tmp (hG := by (repeat (first | exact List.Sublist.refl _ | apply List.Sublist.cons_cons | apply List.Sublist.cons | refine List.Sublist.trans ?_ (List.sublist_append_right _ _)))) (hk := ⟨rfl, rfl⟩)
      | skip
    have hgd : goodAll [Geo.mk 4 l s f e ee ks] = true := by simpa using ‹(!goodAll [Geo.mk 4 l s f e ee ks]) = false›
    obtain ⟨hl1, hfl, hel, S, hS0, hS9, hSs, hok, hfe⟩ := mp_good (goodAll_one hgd)
    have hne := mpAll_ne hok hS0
    repeat' first
      | (refine op_call ((lineCoordsMP l s _ _ _ _ f e S _ hl1 (hf.mono exs) (he.mono exs) hfl hel hSs hok hS0 hS9 hfe).mono ?_); rintro _ _ ⟨u, rfl, hu, ex, rfl⟩; obtain ⟨a9, c9, rfl⟩ := hu.val)
      | (refine op_call ((gPlaces4 l s af cf _ _ _ f e S _ (hf.mono exs) (he.mono exs) hok (by omega) hel).mono ?_); rintro w _ ⟨hsn, ex2, rfl⟩; obtain ⟨a8, c8', rfl⟩ := hsn.val)
      | (refine op_call ((gRows _ _ _ _ _ (hu.mono exs) hsn (by rw [mpAll_len]; omega) (fun r hr => by have := (hne r hr).2; omega)).mono ?_); rintro _ _ ⟨rfl, rfl⟩)
      | (first | refine tc_seq ?_ | refine tc_region ?_ | refine at_seq_normal ?_ | refine tl_nil ?_ | refine tl_cons ?_ | refine op_move ?_ | refine op_assign ?_ | refine op_fieldAddr ?_ | refine op_load ?_ | refine op_load_agg ?_ | refine op_icmp ?_ | refine op_unop_not ?_ | refine op_pick_true ?_ | refine op_pick_false ?_ | refine op_pick_true' ?_ | refine op_pick_false' ?_ | refine op_extract ?_ | (refine op_box ?_; intro _) | (refine op_buildSlice ?_; intro _) | refine op_loadK rfl ?_ | refine op_load_aggK rfl ?_ | refine tc_cond_t ?_ | refine tc_cond_f ?_ | refine tc_cond (fun _ => ?_) (fun _ => ?_) | refine tc_skip ?_ | refine tc_ret ?_ | refine at_seq_ret ?_ | refine tl_guard_yes ?_ | refine tl_guard_no ?_ | refine tl_guard_yes' ?_ | refine tl_guard_no' ?_ | refine tl_guard_undef ?_ | refine tl_guard_split (fun _ => ?_) (fun _ => ?_) | fail)
      | fail
    exact ret_tmp (hG := by (repeat (first | exact List.Sublist.refl _ | apply List.Sublist.cons_cons | apply List.Sublist.cons | refine List.Sublist.trans ?_ (List.sublist_append_right _ _)))) (hk := ⟨by simp, rfl⟩)
  · have c4 : icmp .neq k 4 = true := by simp only [icmp, bne_iff_ne]; exact k4
    refine fn_enter 39 Try.func3 fun W => ?_
    repeat' first
      | (first | refine tc_seq ?_ | refine tc_region ?_ | refine at_seq_normal ?_ | refine tl_nil ?_ | refine tl_cons ?_ | refine op_move ?_ | refine op_assign ?_ | refine op_fieldAddr ?_ | refine op_load ?_ | refine op_load_agg ?_ | refine op_icmp ?_ | refine op_unop_not ?_ | refine op_pick_true ?_ | refine op_pick_false ?_ | refine op_pick_true' ?_ | refine op_pick_false' ?_ | refine op_extract ?_ | (refine op_box ?_; intro _) | (refine op_buildSlice ?_; intro _) | refine op_loadK rfl ?_ | refine op_load_aggK rfl ?_ | refine tc_cond_t ?_ | refine tc_cond_f ?_ | refine tc_cond (fun _ => ?_) (fun _ => ?_) | refine tc_skip ?_ | refine tc_ret ?_ | refine at_seq_ret ?_ | refine tl_guard_yes ?_ | refine tl_guard_no ?_ | refine tl_guard_yes' ?_ | refine tl_guard_no' ?_ | refine tl_guard_undef ?_ | refine tl_guard_split (fun _ => ?_) (fun _ => ?_) | fail)
      | (refine op_call ((zzFits2 _ _ _ (IsG.mono exs hg0) hw).mono ?_); rintro _ _ ⟨⟨bz, rfl⟩, rfl⟩)
      | (refine op_call ((gGood [Geo.mk k l s f e ee ks] _ _ _ _ hwt (sl_one7 rfl mem0) ⟨IsG.mono exs hg0, trivial⟩).mono ?_); rintro _ _ ⟨rfl, rfl⟩)
      | fail
    all_goals exact ret_tmp (hG := by (repeat (first | exact List.Sublist.refl _ | apply List.Sublist.cons_cons | apply List.Sublist.cons | refine List.Sublist.trans ?_ (List.sublist_append_right _ _)))) (hk := ⟨rfl, rfl⟩)
theorem own : ownKnob Try.prog.godebug = none := by kernel_rfl
theorem laid : laidOutB Try.prog = true := by kernel_rfl
set_option maxRecDepth 100000 in
theorem lifted (os : Os) (started : os.Started) (H : Type) (enc : TypeId × Value → H) (F : Stop.Interp) :
    ReturnsInHanded {} Try.checked os 3 .any ((Rows.OpenSpec.upto Rows.fnLineCoordsSpec).pre6 enc Try.prog Try.f3 Rows.fnLineCoordsUptoRow.domain false) (((Rows.OpenSpec.upto Rows.fnLineCoordsSpec).at F).post enc Try.prog Try.f3 false true false false) := by
  refine returnsInHanded_of_cond (C := Try.checked) (s := Rows.OpenSpec.upto Rows.fnLineCoordsSpec) (k := Rows.uptoSmall) rfl own started (by kernel_rfl) Try.func3
    (OpenSpec.witness (enc := enc) (C := Try.checked) (s := Rows.OpenSpec.upto Rows.fnLineCoordsSpec) (k := Rows.uptoSmall) rfl false ⟨#[], #[.agg #[.int .i64 0, .int .i64 0, .int .i64 0, .slice none 0 0, .slice none 0 0, .slice none 0 0, .slice none 0 0]], []⟩ 8 (by kernel_rfl) (by kernel_rfl) (by kernel_rfl)
      (x := ([.agg [.lit (.int .i64 0), .lit (.int .i64 0), .lit (.int .i64 0), .nil, .nil, .nil, .nil]], [], [])) (by kernel_rfl) rfl (by kernel_rfl)) ?_
  intro W base args ds gs before hval0 hW hcnd hk _
  have hval : ∀ (j : Nat) t v, Try.f3.params[j]? = some t → args[j]? = some v → Value.okWide Try.prog W .any base t v := hval0
  have hW' := hW
  obtain ⟨p, q, hA0, hV, rfl, hfz, hnd⟩ := hW
  have hA : DataW.TrodAll enc Try.prog W 0 (fun _ => true) true Try.f3.params.toList args.toList ds p := hA0
  rw [Try.params3] at hA hval
  obtain ⟨v0, vs0, d0, ds0, p0, q0, hargs, rfl, rfl, h0, r0⟩ := trodAll_cons hA
  obtain ⟨rfl, rfl, rfl⟩ := trodAll_nil r0
  obtain rfl : args = #[v0] := by cases args; simp_all
  obtain ⟨rfl, rfl⟩ := trodVars_none hV
  have hb := of_decide_eq_true hk
  simp only [List.append_nil, List.cons_append, List.nil_append, Rows.uptoBulkAll] at hb
  obtain ⟨g0, cs0, rfl, hg0, hw0⟩ := Go.Proofs.Ytgjbnfkinckpmaa.Geom.open_geom (hval 0 27 v0 rfl rfl) h0
  clear hA0 hval0
  refine (calls_of_does (law (H := all W) g0 cs0 hg0 (Nat.le_trans hw0 (by omega))) (sees_all W)).mono fun e W' ⟨v, H', he, hs, hv, hH⟩ => ?_
  subst he
  subst hv
  subst hH
  exact ⟨_, rfl, post_law laid (of_decide_eq_true (by kernel_rfl)) rfl hW' rfl rfl Try.underlying4 hs.below⟩
theorem over : Rows.fnLineCoordsUptoRow.holds Try.pinned (Rows.OpenSpec.upto Rows.fnLineCoordsSpec) :=
  OpenClaim.holds_of_cond 3 Try.f3 rfl rfl rfl rfl rfl rfl rfl ⟨rfl, rfl, rfl, rfl, rfl⟩ rfl rfl rfl rfl rfl (by kernel_rfl) Try.func3 (by kernel_rfl)
    (of_decide_eq_true (by kernel_rfl)) (by unfold Func.isWrapper; first | (rw [if_pos (by decide +kernel)]; kernel_rfl) | (rw [if_neg (by decide +kernel)]; exact ⟨rfl, rfl⟩))
    (fun os started H enc _ F => lifted os started H enc F)
/-- The statement, of the second form. -/
theorem proved : Rows.FnLineCoordsUptoSaid := over
#print axioms proved
end Go.Proofs.Ytgjbnfkinckpmaa.fnLineCoords
