/-
  Whether a geometry holds too much: laws.zzFits2 answers. No conditions.
-/
import Derived.Test.YtkhpdmcalimmjaaTy
import Derived.Test.YtkhpdmcalimmjaaGeo
import Derived.Test.YtkhpdmcalimmjaaLg16
set_option linter.unusedVariables false
set_option linter.unusedSimpArgs false
namespace Go.Proofs.Ytkhpdmcalimmjaa.Geom
open Go.Lg

theorem zzFits3 (v : Value) (xss : List (List Int)) (H : Heap) (hv : ISS H v xss) (hl : xss.length < 2 ^ 62) : Does Try.prog 8 [v] H fun w H' => (∃ b, w = .bool b) ∧ H' = H := by
  obtain ⟨a, cap, rfl⟩ := hv.val
  refine fn_enter 18 Try.func8 fun W => ?_
  repeat' first
    | refine tc_seq ?_ | refine tc_region ?_ | refine at_seq_normal ?_ | refine tl_nil ?_ | refine tl_cons ?_ | refine op_move ?_ | refine op_assign ?_ | refine op_load ?_ | refine op_load_agg ?_ | refine op_indexC ?_
    | refine op_indexAddr1 ?_ | refine op_indexAddr ?_ | refine op_icmp ?_ | refine op_iarith ?_ | refine op_len_slice ?_ | refine op_loadK rfl ?_ | refine op_load_aggK rfl ?_ | refine tc_cond_t ?_ | refine tc_cond_f ?_ | refine tc_cond (fun _ => ?_) (fun _ => ?_)
    | refine tc_block ?_ | refine tc_skip ?_ | refine tc_ret ?_ | refine tc_exit ?_ | refine at_seq_ret ?_ | refine at_seq_exit ?_ | refine at_block_normal ?_ | refine at_block_ret ?_ | refine at_block_exit_self ?_ | refine at_block_exit_ne ?_
    | refine at_loop_ret ?_ | refine at_loop_exit ?_
  · exact ret_tmp (hk := ⟨⟨_, rfl⟩, rfl⟩)
  refine tc_loopH [(8, _), (9, _)] (by repeat (first | exact trivial | refine ⟨rfl, ?_⟩)) (fun j : Nat => [(2, .bool false), (10, .int .i64 (j : Int))]) (fun j => j ≤ xss.length) (fun j => xss.length - j) 0 (Nat.zero_le _) ⟨rfl, rfl, trivial⟩ ?_
  rintro j hj
  by_cases hlt : j < xss.length
  · have hbb : icmp .lss (j : Int) (xss.length : Int) = true := by rw [lss_nat]; simpa using hlt
    have hget : xss[j]? = some xss[j] := List.getElem?_eq_getElem hlt
    obtain ⟨k, off, l, T, fz, cap2, u, he, hm, hcut, hu, _⟩ := hv.at hget
    cases he
    obtain ⟨au, cu, rfl⟩ := hu.val
    repeat' first
      | refine tc_seq ?_ | refine tc_region ?_ | refine at_seq_normal ?_ | refine tl_nil ?_ | refine tl_cons ?_ | refine op_move ?_ | refine op_assign ?_ | refine op_load ?_ | refine op_load_agg ?_ | refine op_indexC ?_
      | refine op_indexAddr1 ?_ | refine op_indexAddr ?_ | refine op_icmp ?_ | refine op_iarith ?_ | refine op_len_slice ?_ | refine op_loadK rfl ?_ | refine op_load_aggK rfl ?_ | refine tc_cond_t ?_ | refine tc_cond_f ?_ | refine tc_cond (fun _ => ?_) (fun _ => ?_)
      | refine tc_block ?_ | refine tc_skip ?_ | refine tc_ret ?_ | refine tc_exit ?_ | refine at_seq_ret ?_ | refine at_seq_exit ?_ | refine at_block_normal ?_ | refine at_block_ret ?_ | refine at_block_exit_self ?_ | refine at_block_exit_ne ?_
      | refine at_loop_ret ?_ | refine at_loop_exit ?_
    · exact ret_tmp (hk := ⟨⟨_, rfl⟩, rfl⟩)
    · exact at_loopK (j + 1) hlt (by omega) ⟨rfl, next_nat (by omega), trivial⟩ (by repeat (first | exact trivial | refine ⟨rfl, ?_⟩)) (by (repeat (first | exact List.Sublist.refl _ | apply List.Sublist.cons_cons | apply List.Sublist.cons | refine List.Sublist.trans ?_ (List.sublist_append_right _ _))))
  · have hbb : icmp .lss (j : Int) (xss.length : Int) = false := by rw [lss_nat]; simpa using hlt
    repeat' first
      | refine tc_seq ?_ | refine tc_region ?_ | refine at_seq_normal ?_ | refine tl_nil ?_ | refine tl_cons ?_ | refine op_move ?_ | refine op_assign ?_ | refine op_load ?_ | refine op_load_agg ?_ | refine op_indexC ?_
      | refine op_indexAddr1 ?_ | refine op_indexAddr ?_ | refine op_icmp ?_ | refine op_iarith ?_ | refine op_len_slice ?_ | refine op_loadK rfl ?_ | refine op_load_aggK rfl ?_ | refine tc_cond_t ?_ | refine tc_cond_f ?_ | refine tc_cond (fun _ => ?_) (fun _ => ?_)
      | refine tc_block ?_ | refine tc_skip ?_ | refine tc_ret ?_ | refine tc_exit ?_ | refine at_seq_ret ?_ | refine at_seq_exit ?_ | refine at_block_normal ?_ | refine at_block_ret ?_ | refine at_block_exit_self ?_ | refine at_block_exit_ne ?_
      | refine at_loop_ret ?_ | refine at_loop_exit ?_
    exact ret_tmp (hk := ⟨⟨_, rfl⟩, rfl⟩)
theorem len_sum : ∀ (ee : List (List Int)), ee.length ≤ (ee.map (fun l => 1 + l.length)).sum
  | [] => by simp
  | x :: xs => by have := len_sum xs; simp only [List.map_cons, List.sum_cons, List.length_cons]; omega
theorem zzFits2 (g : Geo) (cs : List Value) (H : Heap) (hg : IsG H g cs) (hw : g.wt ≤ 1048576) : Does Try.prog 4 [.agg ⟨cs⟩] H fun w H' => (∃ b, w = .bool b) ∧ H' = H := by
  match g, hg, hw with
  | .mk k l s f e ee ks, hg, hw =>
  obtain ⟨vf, ve, vee, vk, rows, rfl, hf, he, hee, hk, _, _, _⟩ := hg
  obtain ⟨af, cf, rfl⟩ := hf.val
  obtain ⟨ae, ce, rfl⟩ := he.val
  obtain ⟨ak, ck, rfl, _⟩ := hk.val
  have hel := len_sum ee
  have hw' : ee.length ≤ 1048576 := by unfold Geo.wt at hw; omega
  refine fn_enter 19 Try.func4 fun W => ?_
  repeat' first
    | (first | refine tc_seq ?_ | refine tc_region ?_ | refine at_seq_normal ?_ | refine tl_nil ?_ | refine tl_cons ?_ | refine op_assign ?_ | refine op_fieldAddr ?_ | refine op_load ?_ | refine op_load_agg ?_ | refine op_icmp ?_ | refine op_unop_not ?_ | refine op_len_slice ?_ | (refine op_box ?_; intro _) | refine op_loadK rfl ?_ | refine op_load_aggK rfl ?_ | refine tc_cond_t ?_ | refine tc_cond_f ?_ | refine tc_cond (fun _ => ?_) (fun _ => ?_) | refine tc_skip ?_ | refine tc_ret ?_ | refine at_seq_ret ?_ | fail)
    | (refine op_call ((zzFits3 _ ee _ (hee.mono fun e he => by simp [he]) (by omega)).mono ?_); rintro _ _ ⟨⟨b, rfl⟩, rfl⟩)
    | fail
  all_goals exact ret_tmp (hG := by (repeat (first | exact List.Sublist.refl _ | apply List.Sublist.cons_cons | apply List.Sublist.cons | refine List.Sublist.trans ?_ (List.sublist_append_right _ _)))) (hk := ⟨⟨_, rfl⟩, rfl⟩)
end Go.Proofs.Ytkhpdmcalimmjaa.Geom
