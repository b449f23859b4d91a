/-
  FnLayoutOf: the layout of a geometry of good data is its own; of a collection the one that was set, else the smallest one that covers those of its parts. Of the second form (arguments of bulk at most 1048576). No conditions beyond the statement's own.
-/
import Derived.Test.YtkhpdmcalimmjaaRows
import Derived.Test.YtkhpdmcalimmjaaGeor
import Derived.Test.YtkhpdmcalimmjaaGeo4
import Derived.Test.YtkhpdmcalimmjaaFits
import Derived.Test.YtkhpdmcalimmjaaGc7
set_option linter.unusedVariables false
set_option linter.unusedSimpArgs false
namespace Go.Proofs.Ytkhpdmcalimmjaa.fnLayoutOf
open Go.Lg Go.Proofs.Ytkhpdmcalimmjaa.Geom Go.Proofs.Ytkhpdmcalimmjaa.Gm
open Go.ChangeShapes Go.WideShapes Go.RowKit

theorem sl_one7 {G : Heap} {k : Nat} {T : TypeId} {fz : Nat × Nat} {cs : List Value} (hl : cs.length = 7) (hm : (k, Obj.cells ⟨cs⟩ T fz) ∈ G) : SlN 7 G (.slice (some ⟨k, 0, none⟩) 1 1) 1 ([cs].flatten) :=
  ⟨by simpa using hl, some ⟨k, 0, none⟩, 1, rfl, Nat.le_refl _, fun _ => ⟨k, 0, cs, T, fz, rfl, hm, by simp [← hl]⟩⟩
set_option maxRecDepth 100000 in
instance idle11 : IdleD Try.prog 11 2 where
  idle := fun cap w hl => by
    match cap, hl with
    | [p, q], _ =>
    have h0 : ∀ w : World, (eqGuard .neq 20 (.tmp 2) (.const .nilIface) .nilIface .nilIface).run Try.prog w = .ok () w := fun _ => rfl
    have h1 : ∀ w : World, (binOp .neq 20 .nilIface .nilIface).run Try.prog w = .ok (.bool false) w := fun w => by
      first
        | rfl
        | simp [binOp, Op.equal, Op.equalIn, go_sem]
    refine callsD_of_wpS Try.func11 rfl fun c₀ cs hu => ?_
    apply wpS_seq
    apply wpS_region
    simp [wpOpsS, go_sem, recoverD, hu, Try.ntmps11, Exit.thenS, h1]
    refine wpS_cond (t := false) (by simp [Act.eval, Array.replicate]) ?_
    simp only [Bool.false_eq_true, if_false]
    refine wpS_of_wp (wp_skip ?_)
    cases c₀
    simp_all [bodyPostS, results, Try.results11]
set_option maxHeartbeats 4000000 in
theorem implLayoutOf (k l s : Int) (vf ve vee vk : Value) (f : List Nat) (e : List Int) (ee : List (List Int)) (ks : List Geo) (H : Heap) (hw : (Geo.mk k l s f e ee ks).wt ≤ 2000) (hgood : (Geo.mk k l s f e ee ks).Good) (hg : IsG H (Geo.mk k l s f e ee ks) [.int .i64 k, .int .i64 l, .int .i64 s, vf, ve, vee, vk]) :
    Does Try.prog 6 [.agg ⟨[.int .i64 k, .int .i64 l, .int .i64 s, vf, ve, vee, vk]⟩] H fun w H' => w = .tuple #[.int .i64 (Geo.mk k l s f e ee ks).lof, .bool true] ∧ ∃ ex, H' = ex ++ H := by
  refine fn_enter_d 8 Try.func6 fun W => ?_
  repeat' first
    | (refine op_call ((geoT _ _ _ _ (Nat.le_refl _) hw hgood (IsG.mono exs hg)).mono ?_); rintro w _ ⟨ex, tw, kw, rfl, rfl, hL⟩)
    | (refine op_lay _ (HasL.mono (fun z hz => List.mem_append_left _ hz) _ _ hL) (fun kp hk => colLayout _ _ kp _ (Nat.le_refl _) (by omega) (by rw [← hk]; exact HasL.mono (fun z hz => List.mem_append_left _ hz) _ _ hL)) ?_ rfl)
    | refine op_storeK rfl ?_
    | (first | refine tl_defer ?_ | refine tc_seq ?_ | refine tc_region ?_ | refine at_seq_normal ?_ | refine tl_nil ?_ | refine tl_cons ?_ | refine tl_cons_none ?_ | refine op_load ?_ | refine op_load_agg ?_ | refine op_makeMeth ?_ | refine op_makeFunc ?_ | (refine op_alloc ?_; intro _) | (refine op_box ?_; intro _) | refine op_store0 ?_ | refine op_store1 ?_ | refine op_store2 ?_ | refine op_store3 ?_ | refine op_store4 ?_ | refine op_store5 ?_ | refine op_storeK rfl ?_ | refine op_loadK rfl ?_ | refine op_load_aggK rfl ?_ | refine tc_ret ?_ | refine at_seq_ret ?_ | fail)
    | fail
  exact ret_door (m := 2) rfl rfl (.cons (rv_cell rfl) (.cons (rv_cell rfl) .nil)) rfl (List.Sublist.refl _) ⟨rfl, ExC.ex⟩
set_option maxHeartbeats 16000000 in
theorem law {H : Heap} (g : Geo) (cs : List Value) (hg : IsG H g cs) (hw : g.wt ≤ 1048576) : Does Try.prog 3 [.agg ⟨cs⟩] H fun w H' => w = .bool true ∧ H' = H := by
  have hg0 := hg
  match g, hg, hw, hg0 with
  | .mk k l s f e ee ks, hg, hw, hg0 =>
  obtain ⟨vf, ve, vee, vk, rows, rfl, hf, he, hee, hk, hx1, hx2, hx3⟩ := hg
  obtain ⟨af, cf, rfl⟩ := hf.val
  obtain ⟨ae, ce, rfl⟩ := he.val
  obtain ⟨aee, cee, rfl⟩ := hee.val
  obtain ⟨avk, cvk, rfl, _⟩ := hk.val
  have hwt : Geo.wts [Geo.mk k l s f e ee ks] < 2 ^ 61 := by simp only [Geo.wts]; omega
  refine fn_enter 24 Try.func3 fun W => ?_
  repeat' first
    | (first | refine tc_seq ?_ | refine tc_region ?_ | refine at_seq_normal ?_ | refine tl_nil ?_ | refine tl_cons ?_ | refine op_move ?_ | refine op_assign ?_ | refine op_load ?_ | refine op_load_agg ?_ | refine op_icmp ?_ | refine op_unop_not ?_ | refine op_pick_true ?_ | refine op_pick_false ?_ | refine op_pick_true' ?_ | refine op_pick_false' ?_ | refine op_extract ?_ | (refine op_box ?_; intro _) | (refine op_buildSlice ?_; intro _) | refine op_loadK rfl ?_ | refine op_load_aggK rfl ?_ | refine tc_cond_t ?_ | refine tc_cond_f ?_ | refine tc_cond (fun _ => ?_) (fun _ => ?_) | refine tc_skip ?_ | refine tc_ret ?_ | refine at_seq_ret ?_ | refine tl_guard_yes ?_ | refine tl_guard_no ?_ | refine tl_guard_yes' ?_ | refine tl_guard_no' ?_ | refine tl_guard_undef ?_ | refine tl_guard_split (fun _ => ?_) (fun _ => ?_) | fail)
    | (refine op_call ((zzFits2 _ _ _ (IsG.mono exs hg0) hw).mono ?_); rintro _ _ ⟨⟨bz, rfl⟩, rfl⟩)
    | (refine op_call ((gGood [Geo.mk k l s f e ee ks] _ _ _ _ hwt (sl_one7 rfl mem0) ⟨IsG.mono exs hg0, trivial⟩).mono ?_); rintro _ _ ⟨rfl, rfl⟩)
    | fail
  all_goals first
    | exact ret_tmp (hG := by (repeat (first | exact List.Sublist.refl _ | apply List.Sublist.cons_cons | apply List.Sublist.cons | refine List.Sublist.trans ?_ (List.sublist_append_right _ _)))) (hk := ⟨rfl, rfl⟩)
    | skip
  have hgd : goodAll [Geo.mk k l s f e ee ks] = true := by simpa using ‹(!goodAll [Geo.mk k l s f e ee ks]) = false›
  obtain ⟨h1, h2, h3⟩ := goodAll_one hgd
  obtain ⟨lf, hlf⟩ : ∃ lf, lf = (Geo.mk k l s f e ee ks).lof := ⟨_, rfl⟩
  have hc : icmp .eql lf lf = true := by simp [icmp]
  repeat' first
    | (refine op_call ((implLayoutOf k l s _ _ _ _ f e ee ks _ h1 h3 (IsG.mono exs hg0)).mono ?_); rintro _ _ ⟨rfl, ex, rfl⟩; rw [← hlf])
    | (refine op_call ((layoutOf _ (Geo.mk k l s f e ee ks) _ _ (Nat.le_refl _) (by omega) (IsG.mono exs hg0)).mono ?_); rintro _ _ ⟨rfl, rfl⟩; rw [← hlf])
    | (first | refine tc_seq ?_ | refine tc_region ?_ | refine at_seq_normal ?_ | refine tl_nil ?_ | refine tl_cons ?_ | refine op_move ?_ | refine op_assign ?_ | refine op_load ?_ | refine op_load_agg ?_ | refine op_icmp ?_ | refine op_unop_not ?_ | refine op_pick_true ?_ | refine op_pick_false ?_ | refine op_pick_true' ?_ | refine op_pick_false' ?_ | refine op_extract ?_ | (refine op_box ?_; intro _) | (refine op_buildSlice ?_; intro _) | refine op_loadK rfl ?_ | refine op_load_aggK rfl ?_ | refine tc_cond_t ?_ | refine tc_cond_f ?_ | refine tc_cond (fun _ => ?_) (fun _ => ?_) | refine tc_skip ?_ | refine tc_ret ?_ | refine at_seq_ret ?_ | refine tl_guard_yes ?_ | refine tl_guard_no ?_ | refine tl_guard_yes' ?_ | refine tl_guard_no' ?_ | refine tl_guard_undef ?_ | refine tl_guard_split (fun _ => ?_) (fun _ => ?_) | fail)
    | fail
  all_goals first
    | exact ret_tmp (hG := by (repeat (first | exact List.Sublist.refl _ | apply List.Sublist.cons_cons | apply List.Sublist.cons | refine List.Sublist.trans ?_ (List.sublist_append_right _ _)))) (hk := ⟨by simp [hc], rfl⟩)
    | exact ret_tmp (hG := by (repeat (first | exact List.Sublist.refl _ | apply List.Sublist.cons_cons | apply List.Sublist.cons | refine List.Sublist.trans ?_ (List.sublist_append_right _ _)))) (hk := ⟨rfl, rfl⟩)
theorem own : ownKnob Try.prog.godebug = none := by kernel_rfl
theorem laid : laidOutB Try.prog = true := by kernel_rfl
set_option maxRecDepth 100000 in
theorem lifted (os : Os) (started : os.Started) (H : Type) (enc : TypeId × Value → H) (F : Stop.Interp) :
    ReturnsInHanded {} Try.checked os 3 .any ((Rows.OpenSpec.upto Rows.fnLayoutOfSpec).pre6 enc Try.prog Try.f3 Rows.fnLayoutOfUptoRow.domain false) (((Rows.OpenSpec.upto Rows.fnLayoutOfSpec).at F).post enc Try.prog Try.f3 false true false false) := by
  refine returnsInHanded_of_cond (C := Try.checked) (s := Rows.OpenSpec.upto Rows.fnLayoutOfSpec) (k := Rows.uptoSmall) rfl own started (by kernel_rfl) Try.func3
    (OpenSpec.witness (enc := enc) (C := Try.checked) (s := Rows.OpenSpec.upto Rows.fnLayoutOfSpec) (k := Rows.uptoSmall) rfl false ⟨#[], #[.agg #[.int .i64 0, .int .i64 0, .int .i64 0, .slice none 0 0, .slice none 0 0, .slice none 0 0, .slice none 0 0]], []⟩ 8 (by kernel_rfl) (by kernel_rfl) (by kernel_rfl)
      (x := ([.agg [.lit (.int .i64 0), .lit (.int .i64 0), .lit (.int .i64 0), .nil, .nil, .nil, .nil]], [], [])) (by kernel_rfl) rfl (by kernel_rfl)) ?_
  intro W base args ds gs before hval0 hW hcnd hk _
  have hval : ∀ (j : Nat) t v, Try.f3.params[j]? = some t → args[j]? = some v → Value.okWide Try.prog W .any base t v := hval0
  have hW' := hW
  obtain ⟨p, q, hA0, hV, rfl, hfz, hnd⟩ := hW
  have hA : DataW.TrodAll enc Try.prog W 0 (fun _ => true) true Try.f3.params.toList args.toList ds p := hA0
  rw [Try.params3] at hA hval
  obtain ⟨v0, vs0, d0, ds0, p0, q0, hargs, rfl, rfl, h0, r0⟩ := trodAll_cons hA
  obtain ⟨rfl, rfl, rfl⟩ := trodAll_nil r0
  obtain rfl : args = #[v0] := by cases args; simp_all
  obtain ⟨rfl, rfl⟩ := trodVars_none hV
  have hb := of_decide_eq_true hk
  simp only [List.append_nil, List.cons_append, List.nil_append, Rows.uptoBulkAll] at hb
  obtain ⟨g0, cs0, rfl, hg0, hw0⟩ := Go.Proofs.Ytkhpdmcalimmjaa.Geom.open_geom (hval 0 27 v0 rfl rfl) h0
  clear hA0 hval0
  refine (calls_of_does (law (H := all W) g0 cs0 hg0 (Nat.le_trans hw0 (by omega))) (sees_all W)).mono fun e W' ⟨v, H', he, hs, hv, hH⟩ => ?_
  subst he
  subst hv
  subst hH
  exact ⟨_, rfl, post_law laid (of_decide_eq_true (by kernel_rfl)) rfl hW' rfl rfl Try.underlying4 hs.below⟩
theorem over : Rows.fnLayoutOfUptoRow.holds Try.pinned (Rows.OpenSpec.upto Rows.fnLayoutOfSpec) :=
  OpenClaim.holds_of_cond 3 Try.f3 rfl rfl rfl rfl rfl rfl rfl ⟨rfl, rfl, rfl, rfl, rfl⟩ rfl rfl rfl rfl rfl (by kernel_rfl) Try.func3 (by kernel_rfl)
    (of_decide_eq_true (by kernel_rfl)) (by unfold Func.isWrapper; first | (rw [if_pos (by decide +kernel)]; kernel_rfl) | (rw [if_neg (by decide +kernel)]; exact ⟨rfl, rfl⟩))
    (fun os started H enc _ F => lifted os started H enc F)
/-- The statement, of the second form. -/
theorem proved : Rows.FnLayoutOfUptoSaid := over
#print axioms proved
end Go.Proofs.Ytkhpdmcalimmjaa.fnLayoutOf
