/-
  The layout of a collection. No conditions.
-/
import Derived.Test.YtkhpdmcalimmjaaGc
set_option linter.unusedVariables false
set_option linter.unusedSimpArgs false
namespace Go.Proofs.Ytkhpdmcalimmjaa.Gm
open Go.Lg Go.Proofs.Ytkhpdmcalimmjaa.Geom

theorem HasL.col {G : Heap} {k l s : Int} {f : List Nat} {e : List Int} {ee : List (List Int)} {ks : List Geo} {kp : Nat} (h : HasL G (.mk k l s f e ee ks) (.iface colT (.pointer (some ⟨kp, 0, none⟩)))) :
    k = 7 ∧ ∃ a c ws T r, (kp, Obj.cells ⟨[.int .i64 l, .slice a ks.length c, r]⟩ T (0, 0)) ∈ G ∧ Sl G (.slice a ks.length c) ws ∧ HasLs G ks ws := by
  unfold HasL at h
  rcases h with ⟨hk7, t, kp', rest, T, ht, he, hm⟩ | ⟨hk7, kp', a, c, ws, T, r, he, hm, hs, hls⟩
  · exfalso
    injection he with e1 e2
    rw [← e1] at ht
    revert ht
    decide
  · injection he with e1 e2
    injection e2 with e2
    injection e2 with e2
    injection e2 with e2
    subst e2
    exact ⟨hk7, a, c, ws, T, r, hm, hs, hls⟩
set_option maxHeartbeats 8000000 in
theorem colLayout : ∀ (N : Nat) (g : Geo) (kp : Nat) (H : Heap), g.wt ≤ N → g.wt < 2 ^ 62 → HasL H g (.iface colT (.pointer (some ⟨kp, 0, none⟩))) →
    Does Try.prog 81 [.pointer (some ⟨kp, 0 + 0, none⟩)] H fun w H' => w = .int .i64 g.lof ∧ H' = H := by
  intro N
  induction N with
  | zero => intro g kp H h; have := g.wt_pos; omega
  | succ N ih =>
    intro g kp H hN hb hg
    match g, hN, hb, hg with
    | .mk k l s f e ee ks, hN, hb, hg =>
    obtain ⟨rfl, a, c, ws, T, r0, hm, hs, hls⟩ := hg.col
    obtain ⟨hlen, hget⟩ := hls.get
    unfold Geo.wt at hN hb
    have hwl := Geo.wts_len ks
    refine fn_enter 50 Try.func81 fun W => ?_
    by_cases hl0 : l = 0
    rotate_left
    · have c1 : icmp .neq l 0 = true := by simp only [icmp, bne_iff_ne]; exact hl0
      repeat' first
        | (refine op_load ?_ (hm := hm))
        | (first | refine tc_seq ?_ | refine tc_region ?_ | refine at_seq_normal ?_ | refine tl_nil ?_ | refine tl_cons ?_ | refine op_move ?_ | refine op_assign ?_ | refine op_fieldAddr ?_ | refine op_load ?_ | refine op_load_agg ?_ | refine op_indexC ?_ | refine op_indexAddr1 ?_ | refine op_indexAddr ?_ | refine op_icmp ?_ | refine op_fcmp ?_ | refine op_iarith ?_ | refine op_bcmp ?_ | refine op_len_slice ?_ | refine op_ptr_nil ?_ | refine op_nilCheck_ptr ?_ | refine op_nilCheck_meth ?_ | refine op_iquo ?_ | refine op_irem ?_ | refine op_ibits ?_ | refine op_slice_isnil ?_ | refine op_slice_notnil ?_ | refine op_shl ?_ | refine op_shr ?_ | (refine op_farith ?_; intro _ _) | refine op_loadK rfl ?_ | refine op_load_aggK rfl ?_ | refine tc_cond_t ?_ | refine tc_cond_f ?_ | refine tc_block ?_ | refine tc_skip ?_ | refine tc_ret ?_ | refine tc_exit ?_ | refine at_seq_ret ?_ | refine at_seq_exit ?_ | refine at_block_normal ?_ | refine at_block_ret ?_ | refine at_block_exit_self ?_ | refine at_block_exit_ne ?_ | refine at_loop_ret ?_ | refine at_loop_exit ?_ | fail)
        | fail
      exact ret_tmp (hk := ⟨by rw [Geo.lof, if_pos (.inr hl0)], rfl⟩)
    · subst hl0
      have c1 : icmp .neq 0 0 = false := rfl
      have hlof : Geo.lof (.mk 7 0 s f e ee ks) = Geo.lofs 0 ks := by rw [Geo.lof, if_neg (by omega)]
      rw [hlof]
      repeat' first
        | (refine op_load ?_ (hm := hm))
        | (first | refine tc_seq ?_ | refine tc_region ?_ | refine at_seq_normal ?_ | refine tl_nil ?_ | refine tl_cons ?_ | refine op_move ?_ | refine op_assign ?_ | refine op_fieldAddr ?_ | refine op_load ?_ | refine op_load_agg ?_ | refine op_indexC ?_ | refine op_indexAddr1 ?_ | refine op_indexAddr ?_ | refine op_icmp ?_ | refine op_fcmp ?_ | refine op_iarith ?_ | refine op_bcmp ?_ | refine op_len_slice ?_ | refine op_ptr_nil ?_ | refine op_nilCheck_ptr ?_ | refine op_nilCheck_meth ?_ | refine op_iquo ?_ | refine op_irem ?_ | refine op_ibits ?_ | refine op_slice_isnil ?_ | refine op_slice_notnil ?_ | refine op_shl ?_ | refine op_shr ?_ | (refine op_farith ?_; intro _ _) | refine op_loadK rfl ?_ | refine op_load_aggK rfl ?_ | refine tc_cond_t ?_ | refine tc_cond_f ?_ | refine tc_block ?_ | refine tc_skip ?_ | refine tc_ret ?_ | refine tc_exit ?_ | refine at_seq_ret ?_ | refine at_seq_exit ?_ | refine at_block_normal ?_ | refine at_block_ret ?_ | refine at_block_exit_self ?_ | refine at_block_exit_ne ?_ | refine at_loop_ret ?_ | refine at_loop_exit ?_ | fail)
        | fail
      refine tc_loopH [(2, _), (19, _), (20, _)] (by repeat (first | exact trivial | refine ⟨rfl, ?_⟩)) (fun p : Nat × Int => [(21, .int .i64 (p.1 : Int)), (3, .int .i64 p.2)])
        (fun p => p.1 ≤ ks.length ∧ Geo.lofs p.2 (ks.drop p.1) = Geo.lofs 0 ks) (fun p => ks.length - p.1) (0, 0) ⟨Nat.zero_le _, rfl⟩ ⟨rfl, rfl, trivial⟩ ?_
      rintro ⟨j, r⟩ ⟨hj, h1⟩
      simp only at hj h1 ⊢
      by_cases hlt : j < ks.length
      · have hbb : icmp .lss (j : Int) (ks.length : Int) = true := by rw [lss_nat]; simpa using hlt
        have hk1 : ks[j]? = some ks[j] := List.getElem?_eq_getElem hlt
        have hwk := Geo.wts_mem hk1
        have hdr := List.drop_eq_getElem_cons hlt
        obtain ⟨wj, hwj, hq⟩ := hget j _ hk1
        obtain ⟨kk, off, L, Tl, zl, cap, he, hml, hgl, hltw⟩ := hs.at hwj
        injection he with e1 _ e3
        subst e1
        subst e3
        generalize ks[j] = x at *
        have hstep : Geo.lofs (Geom.cover r x.lof) (ks.drop (j + 1)) = Geo.lofs 0 ks := by rw [← h1, hdr]; rfl
        have hcl : ∀ kp', wj = .iface colT (.pointer (some ⟨kp', 0, none⟩)) → Does Try.prog 81 [.pointer (some ⟨kp', 0 + 0, none⟩)] H fun v H' => v = .int .i64 x.lof ∧ H' = H := fun kp' hw' => by
          subst hw'
          exact ih x kp' H (by omega) (by omega) hq
        generalize hL : x.lof = lx at *
        repeat' first
          | (refine op_indexAddr1 (j := j) ?_ (hj := hlt))
          | (refine op_load (k := kk) ?_ (hm := hml) (hv := hgl))
          | (refine op_load (k := kp) ?_ (hm := hm))
          | (refine op_lay x hq (by rw [hL]; exact hcl) ?_ rfl; rw [hL])
          | (first | refine tc_seq ?_ | refine tc_region ?_ | refine at_seq_normal ?_ | refine tl_nil ?_ | refine tl_cons ?_ | refine op_move ?_ | refine op_assign ?_ | refine op_fieldAddr ?_ | refine op_load ?_ | refine op_load_agg ?_ | refine op_indexC ?_ | refine op_indexAddr1 ?_ | refine op_indexAddr ?_ | refine op_icmp ?_ | refine op_fcmp ?_ | refine op_iarith ?_ | refine op_bcmp ?_ | refine op_len_slice ?_ | refine op_ptr_nil ?_ | refine op_nilCheck_ptr ?_ | refine op_nilCheck_meth ?_ | refine op_iquo ?_ | refine op_irem ?_ | refine op_ibits ?_ | refine op_slice_isnil ?_ | refine op_slice_notnil ?_ | refine op_shl ?_ | refine op_shr ?_ | (refine op_farith ?_; intro _ _) | refine op_loadK rfl ?_ | refine op_load_aggK rfl ?_ | refine tc_cond_t ?_ | refine tc_cond_f ?_ | refine tc_cond (fun _ => ?_) (fun _ => ?_) | refine tc_block ?_ | refine tc_skip ?_ | refine tc_ret ?_ | refine tc_exit ?_ | refine at_seq_ret ?_ | refine at_seq_exit ?_ | refine at_block_normal ?_ | refine at_block_ret ?_ | refine at_block_exit_self ?_ | refine at_block_exit_ne ?_ | refine at_loop_ret ?_ | refine at_loop_exit ?_ | fail)
          | fail
        all_goals
          refine at_loopK (j + 1, Geom.cover r lx) ⟨hlt, hstep⟩ (by simp only; omega) ⟨next_nat (by omega), geti rfl ?_, trivial⟩ (by repeat (first | exact trivial | refine ⟨rfl, ?_⟩)) (by (repeat (first | exact List.Sublist.refl _ | apply List.Sublist.cons_cons | apply List.Sublist.cons | refine List.Sublist.trans ?_ (List.sublist_append_right _ _))))
          clear hstep hcl hdr hm hs hls hget ih hq hml hgl hwj h1 hL
          simp only [icmp, decide_eq_true_eq, decide_eq_false_iff_not, beq_iff_eq, beq_eq_false_iff_ne, ne_eq] at *
          unfold Geom.cover
          (repeat' split) <;> omega
      · have hbb : icmp .lss (j : Int) (ks.length : Int) = false := by rw [lss_nat]; simpa using hlt
        rw [List.drop_of_length_le (by omega)] at h1
        repeat' first
          | (first | refine tc_seq ?_ | refine tc_region ?_ | refine at_seq_normal ?_ | refine tl_nil ?_ | refine tl_cons ?_ | refine op_move ?_ | refine op_assign ?_ | refine op_fieldAddr ?_ | refine op_load ?_ | refine op_load_agg ?_ | refine op_indexC ?_ | refine op_indexAddr1 ?_ | refine op_indexAddr ?_ | refine op_icmp ?_ | refine op_fcmp ?_ | refine op_iarith ?_ | refine op_bcmp ?_ | refine op_len_slice ?_ | refine op_ptr_nil ?_ | refine op_nilCheck_ptr ?_ | refine op_nilCheck_meth ?_ | refine op_iquo ?_ | refine op_irem ?_ | refine op_ibits ?_ | refine op_slice_isnil ?_ | refine op_slice_notnil ?_ | refine op_shl ?_ | refine op_shr ?_ | (refine op_farith ?_; intro _ _) | refine op_loadK rfl ?_ | refine op_load_aggK rfl ?_ | refine tc_cond_t ?_ | refine tc_cond_f ?_ | refine tc_block ?_ | refine tc_skip ?_ | refine tc_ret ?_ | refine tc_exit ?_ | refine at_seq_ret ?_ | refine at_seq_exit ?_ | refine at_block_normal ?_ | refine at_block_ret ?_ | refine at_block_exit_self ?_ | refine at_block_exit_ne ?_ | refine at_loop_ret ?_ | refine at_loop_exit ?_ | fail)
          | fail
        exact ret_tmp (hk := ⟨congrArg (Value.int .i64) h1, rfl⟩)
end Go.Proofs.Ytkhpdmcalimmjaa.Gm
