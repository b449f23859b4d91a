/-
  FnCoordPoint: the i-th coordinate of a multi point is the place of its i-th point, nil if that is empty. Of the second form (arguments of bulk at most 1048576). No conditions beyond the statement's own.
-/
import Derived.Test.YtgjbnfkinckpmaaRows
import Derived.Test.YtgjbnfkinckpmaaGeor
import Derived.Test.YtgjbnfkinckpmaaGeo4
import Derived.Test.YtgjbnfkinckpmaaFits
import Derived.Test.YtgjbnfkinckpmaaGm3
import Derived.Test.YtgjbnfkinckpmaaPrt2
set_option linter.unusedVariables false
set_option linter.unusedSimpArgs false
namespace Go.Proofs.Ytgjbnfkinckpmaa.fnCoordPoint
open Go.Lg Go.Proofs.Ytgjbnfkinckpmaa.Geom Go.Proofs.Ytgjbnfkinckpmaa.Gm Go.Proofs.Ytgjbnfkinckpmaa.Flat
open Go.ChangeShapes Go.WideShapes Go.RowKit

theorem sl_one7 {G : Heap} {k : Nat} {T : TypeId} {fz : Nat × Nat} {cs : List Value} (hl : cs.length = 7) (hm : (k, Obj.cells ⟨cs⟩ T fz) ∈ G) : SlN 7 G (.slice (some ⟨k, 0, none⟩) 1 1) 1 ([cs].flatten) :=
  ⟨by simpa using hl, some ⟨k, 0, none⟩, 1, rfl, Nat.le_refl _, fun _ => ⟨k, 0, cs, T, fz, rfl, hm, by simp [← hl]⟩⟩
theorem strideI_two {n : Int} (h : 1 ≤ n) : 2 ≤ strideI n := by
  unfold strideI
  (repeat' split) <;> omega
theorem mp_good {l s : Int} {f : List Nat} {e : List Int} {ee : List (List Int)} {ks : List Geo} (h : (Geo.mk 4 l s f e ee ks).wt ≤ 2000 ∧ (Geo.mk 4 l s f e ee ks).Lay 9 ∧ (Geo.mk 4 l s f e ee ks).Good) : 1 ≤ l ∧ f.length ≤ 2000 ∧ e.length ≤ 2000 ∧ ∃ S : Nat, 0 < S ∧ strideI l = (S : Int) ∧ MpOk e S f.length := by
  obtain ⟨h1, h2, h3⟩ := h
  unfold Geo.Lay at h2
  unfold Geo.wt at h1
  have hl : 1 ≤ l := by rcases h2.2.2 with h | h <;> omega
  have h2' := strideI_two hl
  refine ⟨hl, by omega, by omega, (strideI l).toNat, by omega, by omega, ?_⟩
  unfold Geo.Good at h3
  rcases h3 with h | ⟨_, _, _, _, _, hk⟩
  · omega
  refine mp_ok ?_ (by omega)
  unfold Kd at hk
  rcases hk with h | h | h | h
  · omega
  · omega
  · have h5 := h.2
    rw [show (((strideI l).toNat : Nat) : Int) = strideI l by omega]
    exact h5
  · omega
set_option maxHeartbeats 16000000 in
theorem law {H : Heap} (g : Geo) (cs : List Value) (hg : IsG H g cs) (hw : g.wt ≤ 1048576) (a : Int) (ha : -9223372036854775808 ≤ a ∧ a ≤ 9223372036854775807) : Does Try.prog 4 [.agg ⟨cs⟩, .int .i64 a] H fun w H' => w = .bool true ∧ H' = H := by
  have hg0 := hg
  match g, hg, hw, hg0 with
  | .mk k l s f e ee ks, hg, hw, hg0 =>
  obtain ⟨vf, ve, vee, vk, rows, rfl, hf, he, hee, hk, hx1, hx2, hx3⟩ := hg
  obtain ⟨af, cf, rfl⟩ := hf.val
  obtain ⟨ae, ce, rfl⟩ := he.val
  have hwt : Geo.wts [Geo.mk k l s f e ee ks] < 2 ^ 61 := by simp only [Geo.wts]; omega
  refine fn_enter 46 Try.func4 fun W => ?_
  repeat' first
    | (first | refine tc_seq ?_ | refine tc_region ?_ | refine at_seq_normal ?_ | refine tl_nil ?_ | refine tl_cons ?_ | refine op_move ?_ | refine op_assign ?_ | refine op_fieldAddr ?_ | refine op_load ?_ | refine op_load_agg ?_ | refine op_indexC ?_ | refine op_indexAddr1 ?_ | refine op_indexAddr ?_ | refine op_icmp ?_ | refine op_unop_not ?_ | refine op_len_slice ?_ | refine op_pick_true ?_ | refine op_pick_false ?_ | refine op_pick_true' ?_ | refine op_pick_false' ?_ | refine op_extract ?_ | (refine op_box ?_; intro _) | (refine op_buildSlice ?_; intro _) | refine op_loadK rfl ?_ | refine op_load_aggK rfl ?_ | refine tc_cond_t ?_ | refine tc_cond_f ?_ | refine tc_cond (fun _ => ?_) (fun _ => ?_) | refine tc_skip ?_ | refine tc_ret ?_ | refine at_seq_ret ?_ | refine tl_guard_yes ?_ | refine tl_guard_no ?_ | refine tl_guard_yes' ?_ | refine tl_guard_no' ?_ | refine tl_guard_undef ?_ | refine tl_guard_split (fun _ => ?_) (fun _ => ?_) | fail)
    | (refine op_call ((zzFits2 _ _ _ (IsG.mono exs hg0) hw).mono ?_); rintro _ _ ⟨⟨bz, rfl⟩, rfl⟩)
    | (refine op_call ((gGood [Geo.mk k l s f e ee ks] _ _ _ _ hwt (sl_one7 rfl mem0) ⟨IsG.mono exs hg0, trivial⟩).mono ?_); rintro _ _ ⟨rfl, rfl⟩)
    | fail
  all_goals first
    | exact ret_tmp (hG := by (repeat (first | exact List.Sublist.refl _ | apply List.Sublist.cons_cons | apply List.Sublist.cons | refine List.Sublist.trans ?_ (List.sublist_append_right _ _)))) (hk := ⟨rfl, rfl⟩)
    | skip
  have hgd : goodAll [Geo.mk k l s f e ee ks] = true := by simpa using ‹(!goodAll [Geo.mk k l s f e ee ks]) = false›
  have hk4 : k = 4 := by simpa [icmp] using ‹icmp .neq k 4 = false›
  subst hk4
  have r1 : ¬ a < 0 := of_decide_eq_false ‹icmp .lss a 0 = false›
  have r2 : ¬ a ≥ (e.length : Int) := of_decide_eq_false ‹icmp .geq a (e.length : Int) = false›
  obtain ⟨hl1, hfl, hel, S, hS0, hSs, hok⟩ := mp_good (goodAll_one hgd)
  obtain ⟨i, rfl⟩ : ∃ i : Nat, a = (i : Int) := ⟨a.toNat, by omega⟩
  have hi : i < e.length := by omega
  have hget := mpAll_get (f := f) (e := e) hi
  have hlen : ((mpAt f e i).getD []).length < 2 ^ 40 := by
    unfold mpAt
    split
    · simp
    · have := cutN_len (f := f) (a := en e i) (hok.le (i + 1) hi)
      have := hok.le (i + 1) hi
      simp only [Option.getD_some]
      omega
  repeat' first
    | (refine op_call ((implCoord l s _ _ _ _ f e i S _ hl1 (hf.mono exs) (he.mono exs) (by omega) (by omega) hok hS0 hi).mono ?_); rintro _ _ ⟨u, rfl, hu, ex, rfl⟩; obtain ⟨a9, c9, rfl, _, _⟩ := hu.fs)
    | (refine op_call ((gPlaces4 l s af cf _ _ _ f e S _ (hf.mono exs) (he.mono exs) hok (by omega) hel).mono ?_); rintro w _ ⟨hsn, ex2, rfl⟩; obtain ⟨kq, oq, lq, Tq, zq, cq, v9, rfl, hmq, hvq, hrn, _⟩ := hsn.at hget)
    | (refine op_indexAddr1 (j := i) ?_ (hj := by rw [mpAll_len]; exact hi))
    | (refine op_load ?_ (hm := hmq) (hv := hvq))
    | (refine op_call ((gRow _ _ _ _ _ (hu.mono exs) hrn hlen).mono ?_); rintro _ _ ⟨rfl, rfl⟩)
    | (first | refine tc_seq ?_ | refine tc_region ?_ | refine at_seq_normal ?_ | refine tl_nil ?_ | refine tl_cons ?_ | refine op_move ?_ | refine op_assign ?_ | refine op_fieldAddr ?_ | refine op_load ?_ | refine op_load_agg ?_ | refine op_indexC ?_ | refine op_indexAddr1 ?_ | refine op_indexAddr ?_ | refine op_icmp ?_ | refine op_unop_not ?_ | refine op_len_slice ?_ | refine op_pick_true ?_ | refine op_pick_false ?_ | refine op_pick_true' ?_ | refine op_pick_false' ?_ | refine op_extract ?_ | (refine op_box ?_; intro _) | (refine op_buildSlice ?_; intro _) | refine op_loadK rfl ?_ | refine op_load_aggK rfl ?_ | refine tc_cond_t ?_ | refine tc_cond_f ?_ | refine tc_cond (fun _ => ?_) (fun _ => ?_) | refine tc_skip ?_ | refine tc_ret ?_ | refine at_seq_ret ?_ | refine tl_guard_yes ?_ | refine tl_guard_no ?_ | refine tl_guard_yes' ?_ | refine tl_guard_no' ?_ | refine tl_guard_undef ?_ | refine tl_guard_split (fun _ => ?_) (fun _ => ?_) | fail)
    | fail
  exact ret_tmp (hG := by (repeat (first | exact List.Sublist.refl _ | apply List.Sublist.cons_cons | apply List.Sublist.cons | refine List.Sublist.trans ?_ (List.sublist_append_right _ _)))) (hk := ⟨by simp, rfl⟩)
theorem own : ownKnob Try.prog.godebug = none := by kernel_rfl
theorem laid : laidOutB Try.prog = true := by kernel_rfl
set_option maxRecDepth 100000 in
theorem lifted (os : Os) (started : os.Started) (H : Type) (enc : TypeId × Value → H) (F : Stop.Interp) :
    ReturnsInHanded {} Try.checked os 4 .any ((Rows.OpenSpec.upto Rows.fnCoordPointSpec).pre6 enc Try.prog Try.f4 Rows.fnCoordPointUptoRow.domain false) (((Rows.OpenSpec.upto Rows.fnCoordPointSpec).at F).post enc Try.prog Try.f4 false true false false) := by
  refine returnsInHanded_of_cond (C := Try.checked) (s := Rows.OpenSpec.upto Rows.fnCoordPointSpec) (k := Rows.uptoSmall) rfl own started (by kernel_rfl) Try.func4
    (OpenSpec.witness (enc := enc) (C := Try.checked) (s := Rows.OpenSpec.upto Rows.fnCoordPointSpec) (k := Rows.uptoSmall) rfl false ⟨#[], #[.agg #[.int .i64 0, .int .i64 0, .int .i64 0, .slice none 0 0, .slice none 0 0, .slice none 0 0, .slice none 0 0], .int .i64 0], []⟩ 8 (by kernel_rfl) (by kernel_rfl) (by kernel_rfl)
      (x := ([.agg [.lit (.int .i64 0), .lit (.int .i64 0), .lit (.int .i64 0), .nil, .nil, .nil, .nil], .lit (.int .i64 0)], [], [])) (by kernel_rfl) rfl (by kernel_rfl)) ?_
  intro W base args ds gs before hval0 hW hcnd hk _
  have hval : ∀ (j : Nat) t v, Try.f4.params[j]? = some t → args[j]? = some v → Value.okWide Try.prog W .any base t v := hval0
  have hW' := hW
  obtain ⟨p, q, hA0, hV, rfl, hfz, hnd⟩ := hW
  have hA : DataW.TrodAll enc Try.prog W 0 (fun _ => true) true Try.f4.params.toList args.toList ds p := hA0
  rw [Try.params4] at hA hval
  obtain ⟨v0, vs0, d0, ds0, p0, q0, hargs, rfl, rfl, h0, r0⟩ := trodAll_cons hA
  obtain ⟨v1, vs1, d1, ds1, p1, q1, rfl, rfl, rfl, h1, r1⟩ := trodAll_cons r0
  obtain ⟨rfl, rfl, rfl⟩ := trodAll_nil r1
  obtain rfl : args = #[v0, v1] := by cases args; simp_all
  obtain ⟨rfl, rfl⟩ := trodVars_none hV
  have hb := of_decide_eq_true hk
  simp only [List.append_nil, List.cons_append, List.nil_append, Rows.uptoBulkAll] at hb
  obtain ⟨g0, cs0, rfl, hg0, hw0⟩ := Go.Proofs.Ytgjbnfkinckpmaa.Geom.open_geom (hval 0 27 v0 rfl rfl) h0
  obtain ⟨n1, rfl, rfl, rfl, wn1⟩ := open_int Try.underlying3 (hval 1 3 v1 rfl rfl) h1
  clear hA0 hval0
  refine (calls_of_does (law (H := all W) g0 cs0 hg0 (Nat.le_trans hw0 (by omega)) n1 (wf_i64 wn1)) (sees_all W)).mono fun e W' ⟨v, H', he, hs, hv, hH⟩ => ?_
  subst he
  subst hv
  subst hH
  exact ⟨_, rfl, post_law laid (of_decide_eq_true (by kernel_rfl)) rfl hW' rfl rfl Try.underlying4 hs.below⟩
theorem over : Rows.fnCoordPointUptoRow.holds Try.pinned (Rows.OpenSpec.upto Rows.fnCoordPointSpec) :=
  OpenClaim.holds_of_cond 4 Try.f4 rfl rfl rfl rfl rfl rfl rfl ⟨rfl, rfl, rfl, rfl, rfl⟩ rfl rfl rfl rfl rfl (by kernel_rfl) Try.func4 (by kernel_rfl)
    (of_decide_eq_true (by kernel_rfl)) (by unfold Func.isWrapper; first | (rw [if_pos (by decide +kernel)]; kernel_rfl) | (rw [if_neg (by decide +kernel)]; exact ⟨rfl, rfl⟩))
    (fun os started H enc _ F => lifted os started H enc F)
/-- The statement, of the second form. -/
theorem proved : Rows.FnCoordPointUptoSaid := over
#print axioms proved
end Go.Proofs.Ytgjbnfkinckpmaa.fnCoordPoint
