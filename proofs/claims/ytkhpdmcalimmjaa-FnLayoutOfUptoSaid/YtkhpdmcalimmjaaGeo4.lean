/-
  Lists of geometries that are small good data, exactly; what that says. No conditions.
-/
import Derived.Test.YtkhpdmcalimmjaaGeo3
set_option linter.unusedVariables false
set_option linter.unusedSimpArgs false
namespace Go.Proofs.Ytkhpdmcalimmjaa.Geom
open Go.Lg

def smB : Int → List Geo → Bool
  | _, [] => true
  | left, g :: gs => if left - g.wM left < 0 ∨ g.layB 9 = false then false else smB (left - g.wM left) gs
def goodAll (gs : List Geo) : Bool := smB 2000 gs && gs.all Geo.goodB

set_option maxHeartbeats 8000000 in
theorem gSmall (gs : List Geo) (rows : List (List Value)) (av : Option Addr) (cv : Nat) (H : Heap) (hb : Geo.wts gs < 2 ^ 61) (hv : SlN 7 H (.slice av gs.length cv) gs.length rows.flatten) (hg : IsGs H gs rows) :
    Does Try.prog 9 [.slice av gs.length cv] H fun w H' => w = .bool (smB 2000 gs) ∧ H' = H := by
  have hkl := Geo.wts_len gs
  refine fn_enter 25 Try.func9 fun W => ?_
  repeat' first
    | refine tc_seq ?_ | refine tc_region ?_ | refine at_seq_normal ?_ | refine tl_nil ?_ | refine tl_cons ?_ | refine tl_cons_none ?_ | refine op_move ?_ | refine op_assign ?_ | refine op_load ?_ | refine op_load_agg ?_
    | refine op_indexC ?_ | refine op_indexAddr1 ?_ | refine op_indexAddr ?_ | refine op_icmp ?_ | refine op_iarith ?_ | refine op_unop_not ?_ | refine op_len_slice ?_ | refine op_pick_true ?_ | refine op_pick_false ?_ | refine op_pick_true' ?_
    | refine op_pick_false' ?_ | (refine op_alloc ?_; intro _) | refine op_store0 ?_ | refine op_store1 ?_ | refine op_store2 ?_ | refine op_store3 ?_ | refine op_store4 ?_ | refine op_store5 ?_ | refine op_storeK rfl ?_ | refine op_loadK rfl ?_
    | refine op_load_aggK rfl ?_ | refine tc_cond_t ?_ | refine tc_cond_f ?_ | refine tc_cond (fun _ => ?_) (fun _ => ?_) | refine tc_block ?_ | refine tc_skip ?_ | refine tc_ret ?_ | refine tc_exit ?_ | refine at_seq_ret ?_ | refine at_seq_exit ?_
    | refine at_block_normal ?_ | refine at_block_ret ?_ | refine at_block_exit_self ?_ | refine at_block_exit_ne ?_ | refine at_loop_ret ?_ | refine at_loop_exit ?_ | refine tl_guard_yes ?_ | refine tl_guard_no ?_ | refine tl_guard_yes' ?_ | refine tl_guard_no' ?_
    | refine tl_guard_undef ?_ | refine tl_guard_split (fun _ => ?_) (fun _ => ?_)
  refine tc_loopH [(6, _), (7, _)] (by repeat (first | exact trivial | refine ⟨rfl, ?_⟩)) (fun p : Nat × Int => [(8, .int .i64 (p.1 : Int)), (3, .int .i64 p.2)]) (fun p => p.1 ≤ gs.length ∧ 0 ≤ p.2 ∧ p.2 ≤ 2000 ∧ smB p.2 (gs.drop p.1) = smB 2000 gs) (fun p => gs.length - p.1) (0, 2000) ⟨Nat.zero_le _, by decide, by decide, rfl⟩ ⟨rfl, rfl, trivial⟩ ?_
  rintro ⟨j, r⟩ ⟨hj, h1, h2, h3⟩
  simp only at hj h1 h2 h3 ⊢
  by_cases hlt : j < gs.length
  · have hbb : icmp .lss (j : Int) (gs.length : Int) = true := by rw [lss_nat]; simpa using hlt
    have hget : gs[j]? = some gs[j] := List.getElem?_eq_getElem hlt
    have hwk := Geo.wts_mem hget
    rw [List.drop_eq_getElem_cons hlt, smB] at h3
    obtain ⟨kk, off, L, T, fz, cap, q, e1, hm, hcut, hr⟩ := kid hv hg hget
    generalize gs[j] = x at *
    cases e1
    obtain ⟨xk, xl, xs, xf, xe, xee, xks⟩ := x
    have hr0 := hr
    obtain ⟨_, _, _, _, _, _, _, _, _, rfl, _⟩ := hr.open
    generalize hgx : Geo.mk xk xl xs xf xe xee xks = x at *
    repeat' first
      | (first | refine tc_seq ?_ | refine tc_region ?_ | refine at_seq_normal ?_ | refine tl_nil ?_ | refine tl_cons ?_ | refine tl_cons_none ?_ | refine op_move ?_ | refine op_assign ?_ | refine op_load ?_ | refine op_load_agg ?_ | refine op_indexC ?_ | refine op_indexAddr1 ?_ | refine op_indexAddr ?_ | refine op_icmp ?_ | refine op_iarith ?_ | refine op_unop_not ?_ | refine op_len_slice ?_ | refine op_pick_true ?_ | refine op_pick_false ?_ | refine op_pick_true' ?_ | refine op_pick_false' ?_ | (refine op_alloc ?_; intro _) | refine op_store0 ?_ | refine op_store1 ?_ | refine op_store2 ?_ | refine op_store3 ?_ | refine op_store4 ?_ | refine op_store5 ?_ | refine op_storeK rfl ?_ | refine op_loadK rfl ?_ | refine op_load_aggK rfl ?_ | refine tc_cond_t ?_ | refine tc_cond_f ?_ | refine tc_cond (fun _ => ?_) (fun _ => ?_) | refine tc_block ?_ | refine tc_skip ?_ | refine tc_ret ?_ | refine tc_exit ?_ | refine at_seq_ret ?_ | refine at_seq_exit ?_ | refine at_block_normal ?_ | refine at_block_ret ?_ | refine at_block_exit_self ?_ | refine at_block_exit_ne ?_ | refine at_loop_ret ?_ | refine at_loop_exit ?_ | refine tl_guard_yes ?_ | refine tl_guard_no ?_ | refine tl_guard_yes' ?_ | refine tl_guard_no' ?_ | refine tl_guard_undef ?_ | refine tl_guard_split (fun _ => ?_) (fun _ => ?_) | fail)
      | (refine op_call ((weight _ x _ _ r (Nat.le_refl _) (by omega) (by omega) (hr0.mono fun e he => by simp [he])).mono ?_); rintro _ _ ⟨⟨z, rfl, z1, z2, z3, z4⟩, rfl⟩; have hsub := wrap_sub (a := r) (b := z) (by omega) (by omega); rw [← z4] at h3)
      | (refine op_call ((gLayouts _ x _ _ 9 (Nat.le_refl _) (by omega) (hr0.mono fun e he => by simp [he])).mono ?_); rintro _ _ ⟨rfl, rfl⟩)
    all_goals rw [hsub] at *
    all_goals first
      | exact ret_tmp (hk := ⟨congrArg Value.bool (by rw [← h3, if_pos (by simp_all [icmp])]), rfl⟩)
      | skip
    have hz : ¬ r - z < 0 := by simp_all [icmp]
    exact at_loopK (j + 1, r - z) ⟨hlt, by simp only; omega, by simp only; omega, by simp only; rw [← h3, if_neg (by simp_all [icmp])]⟩ (by show _ - _ < _ - _; omega) ⟨next_nat (by omega), geti rfl hsub, trivial⟩ (by repeat (first | exact trivial | refine ⟨rfl, ?_⟩)) (by (repeat (first | exact List.Sublist.refl _ | apply List.Sublist.cons_cons | apply List.Sublist.cons | refine List.Sublist.trans ?_ (List.sublist_append_right _ _))))
  · have hbb : icmp .lss (j : Int) (gs.length : Int) = false := by rw [lss_nat]; simpa using hlt
    rw [List.drop_of_length_le (by omega), smB] at h3
    repeat' first
      | refine tc_seq ?_ | refine tc_region ?_ | refine at_seq_normal ?_ | refine tl_nil ?_ | refine tl_cons ?_ | refine tl_cons_none ?_ | refine op_move ?_ | refine op_assign ?_ | refine op_load ?_ | refine op_load_agg ?_
      | refine op_indexC ?_ | refine op_indexAddr1 ?_ | refine op_indexAddr ?_ | refine op_icmp ?_ | refine op_iarith ?_ | refine op_unop_not ?_ | refine op_len_slice ?_ | refine op_pick_true ?_ | refine op_pick_false ?_ | refine op_pick_true' ?_
      | refine op_pick_false' ?_ | (refine op_alloc ?_; intro _) | refine op_store0 ?_ | refine op_store1 ?_ | refine op_store2 ?_ | refine op_store3 ?_ | refine op_store4 ?_ | refine op_store5 ?_ | refine op_storeK rfl ?_ | refine op_loadK rfl ?_
      | refine op_load_aggK rfl ?_ | refine tc_cond_t ?_ | refine tc_cond_f ?_ | refine tc_cond (fun _ => ?_) (fun _ => ?_) | refine tc_block ?_ | refine tc_skip ?_ | refine tc_ret ?_ | refine tc_exit ?_ | refine at_seq_ret ?_ | refine at_seq_exit ?_
      | refine at_block_normal ?_ | refine at_block_ret ?_ | refine at_block_exit_self ?_ | refine at_block_exit_ne ?_ | refine at_loop_ret ?_ | refine at_loop_exit ?_ | refine tl_guard_yes ?_ | refine tl_guard_no ?_ | refine tl_guard_yes' ?_ | refine tl_guard_no' ?_
      | refine tl_guard_undef ?_ | refine tl_guard_split (fun _ => ?_) (fun _ => ?_)
    exact ret_tmp (hk := ⟨congrArg Value.bool h3, rfl⟩)

set_option maxHeartbeats 8000000 in
theorem gGood (gs : List Geo) (rows : List (List Value)) (av : Option Addr) (cv : Nat) (H : Heap) (hb : Geo.wts gs < 2 ^ 61) (hv : SlN 7 H (.slice av gs.length cv) gs.length rows.flatten) (hg : IsGs H gs rows) :
    Does Try.prog 5 [.slice av gs.length cv] H fun w H' => w = .bool (goodAll gs) ∧ H' = H := by
  have hkl := Geo.wts_len gs
  unfold goodAll
  refine fn_enter 18 Try.func5 fun W => ?_
  repeat' first
    | (first | refine tc_seq ?_ | refine tc_region ?_ | refine at_seq_normal ?_ | refine tl_nil ?_ | refine tl_cons ?_ | refine tl_cons_none ?_ | refine op_move ?_ | refine op_assign ?_ | refine op_load ?_ | refine op_load_agg ?_ | refine op_indexC ?_ | refine op_indexAddr1 ?_ | refine op_indexAddr ?_ | refine op_icmp ?_ | refine op_iarith ?_ | refine op_unop_not ?_ | refine op_len_slice ?_ | (refine op_alloc ?_; intro _) | refine op_store0 ?_ | refine op_store1 ?_ | refine op_store2 ?_ | refine op_store3 ?_ | refine op_store4 ?_ | refine op_store5 ?_ | refine op_storeK rfl ?_ | refine op_loadK rfl ?_ | refine op_load_aggK rfl ?_ | refine tc_cond_t ?_ | refine tc_cond_f ?_ | refine tc_cond (fun _ => ?_) (fun _ => ?_) | refine tc_block ?_ | refine tc_skip ?_ | refine tc_ret ?_ | refine tc_exit ?_ | refine at_seq_ret ?_ | refine at_seq_exit ?_ | refine at_block_normal ?_ | refine at_block_ret ?_ | refine at_block_exit_self ?_ | refine at_block_exit_ne ?_ | refine at_loop_ret ?_ | refine at_loop_exit ?_ | fail)
    | (refine op_call ((gSmall gs rows av cv H hb hv hg).mono ?_); rintro _ _ ⟨rfl, rfl⟩)
  · rename_i hs
    exact ret_tmp (hk := ⟨congrArg Value.bool (by simp_all), rfl⟩)
  rename_i hs
  have hs' : smB 2000 gs = true := by simpa using hs
  rw [hs']
  refine tc_loopH [(8, _), (9, _)] (by repeat (first | exact trivial | refine ⟨rfl, ?_⟩)) (fun j : Nat => [(10, .int .i64 (j : Int))]) (fun j => j ≤ gs.length ∧ (gs.take j).all Geo.goodB = true) (fun j => gs.length - j) 0 ⟨Nat.zero_le _, by simp⟩ ⟨rfl, trivial⟩ ?_
  rintro j ⟨hj, hok⟩
  by_cases hlt : j < gs.length
  · have hbb : icmp .lss (j : Int) (gs.length : Int) = true := by rw [lss_nat]; simpa using hlt
    have hget : gs[j]? = some gs[j] := List.getElem?_eq_getElem hlt
    have hwk := Geo.wts_mem hget
    obtain ⟨kk, off, L, T, fz, cap, q, e1, hm, hcut, hr⟩ := kid hv hg hget
    generalize gs[j] = x at *
    cases e1
    obtain ⟨xk, xl, xs, xf, xe, xee, xks⟩ := x
    have hr0 := hr
    obtain ⟨_, _, _, _, _, _, _, _, _, rfl, _⟩ := hr.open
    generalize hgx : Geo.mk xk xl xs xf xe xee xks = x at *
    repeat' first
      | (first | refine tc_seq ?_ | refine tc_region ?_ | refine at_seq_normal ?_ | refine tl_nil ?_ | refine tl_cons ?_ | refine tl_cons_none ?_ | refine op_move ?_ | refine op_assign ?_ | refine op_load ?_ | refine op_load_agg ?_ | refine op_indexC ?_ | refine op_indexAddr1 ?_ | refine op_indexAddr ?_ | refine op_icmp ?_ | refine op_iarith ?_ | refine op_unop_not ?_ | refine op_len_slice ?_ | (refine op_alloc ?_; intro _) | refine op_store0 ?_ | refine op_store1 ?_ | refine op_store2 ?_ | refine op_store3 ?_ | refine op_store4 ?_ | refine op_store5 ?_ | refine op_storeK rfl ?_ | refine op_loadK rfl ?_ | refine op_load_aggK rfl ?_ | refine tc_cond_t ?_ | refine tc_cond_f ?_ | refine tc_cond (fun _ => ?_) (fun _ => ?_) | refine tc_block ?_ | refine tc_skip ?_ | refine tc_ret ?_ | refine tc_exit ?_ | refine at_seq_ret ?_ | refine at_seq_exit ?_ | refine at_block_normal ?_ | refine at_block_ret ?_ | refine at_block_exit_self ?_ | refine at_block_exit_ne ?_ | refine at_loop_ret ?_ | refine at_loop_exit ?_ | fail)
      | (refine op_call ((good _ x _ _ (Nat.le_refl _) (by omega) (hr0.mono fun e he => by simp [he])).mono ?_); rintro _ _ ⟨rfl, rfl⟩)
    · rename_i hbad
      exact ret_tmp (hk := ⟨by rw [all_bad hget (by simpa using hbad)]; rfl, rfl⟩)
    · rename_i hgood
      exact at_loopK (j + 1) ⟨hlt, all_snoc hget hok (by simpa using hgood)⟩ (by omega) ⟨next_nat (by omega), trivial⟩ (by repeat (first | exact trivial | refine ⟨rfl, ?_⟩)) (by (repeat (first | exact List.Sublist.refl _ | apply List.Sublist.cons_cons | apply List.Sublist.cons | refine List.Sublist.trans ?_ (List.sublist_append_right _ _))))
  · have hbb : icmp .lss (j : Int) (gs.length : Int) = false := by rw [lss_nat]; simpa using hlt
    rw [take_len hlt] at hok
    repeat' first
      | refine tc_seq ?_ | refine tc_region ?_ | refine at_seq_normal ?_ | refine tl_nil ?_ | refine tl_cons ?_ | refine tl_cons_none ?_ | refine op_move ?_ | refine op_assign ?_ | refine op_load ?_ | refine op_load_agg ?_
      | refine op_indexC ?_ | refine op_indexAddr1 ?_ | refine op_indexAddr ?_ | refine op_icmp ?_ | refine op_iarith ?_ | refine op_unop_not ?_ | refine op_len_slice ?_ | (refine op_alloc ?_; intro _) | refine op_store0 ?_ | refine op_store1 ?_
      | refine op_store2 ?_ | refine op_store3 ?_ | refine op_store4 ?_ | refine op_store5 ?_ | refine op_storeK rfl ?_ | refine op_loadK rfl ?_ | refine op_load_aggK rfl ?_ | refine tc_cond_t ?_ | refine tc_cond_f ?_ | refine tc_cond (fun _ => ?_) (fun _ => ?_)
      | refine tc_block ?_ | refine tc_skip ?_ | refine tc_ret ?_ | refine tc_exit ?_ | refine at_seq_ret ?_ | refine at_seq_exit ?_ | refine at_block_normal ?_ | refine at_block_ret ?_ | refine at_block_exit_self ?_ | refine at_block_exit_ne ?_
      | refine at_loop_ret ?_ | refine at_loop_exit ?_
    exact ret_tmp (hk := ⟨by rw [hok]; rfl, rfl⟩)

/-! What the test says. -/
mutual
theorem Geo.wM_spec : ∀ (g : Geo) (most : Int), 1 ≤ g.wM most ∧ g.wM most ≤ g.wt ∧ (g.wM most ≤ most → g.wM most = g.wt)
  | .mk k l s f e ee ks, most => by
    have := Geo.wMs_spec ks most ((1 + f.length + e.length + (ee.map (fun l => 1 + l.length)).sum : Nat) : Int)
    rw [Geo.wM, Geo.wt]
    omega
theorem Geo.wMs_spec : ∀ (ks : List Geo) (most n : Int), n ≤ Geo.wMs most n ks ∧ Geo.wMs most n ks ≤ n + Geo.wts ks ∧ (Geo.wMs most n ks ≤ most → Geo.wMs most n ks = n + Geo.wts ks)
  | [], most, n => by simp [Geo.wMs, Geo.wts]
  | g :: gs, most, n => by
    have h1 := Geo.wM_spec g (most - n)
    have h2 := Geo.wMs_spec gs most (n + g.wM (most - n))
    have h3 := g.wt_pos
    rw [Geo.wMs, Geo.wts]
    split <;> omega
end
mutual
theorem Geo.layB_iff {m : Int} : ∀ (g : Geo), g.layB m = true ↔ g.Lay m
  | .mk k l s f e ee ks => by
    rw [Geo.layB, Geo.Lay, Bool.and_eq_true, Geo.laysB_iff ks]
    simp
theorem Geo.laysB_iff {m : Int} : ∀ (gs : List Geo), Geo.laysB m gs = true ↔ Geo.Lays m gs
  | [] => by simp [Geo.laysB, Geo.Lays]
  | g :: gs => by rw [Geo.laysB, Geo.Lays, Bool.and_eq_true, Geo.layB_iff g, Geo.laysB_iff gs]
end
theorem smB_spec : ∀ (gs : List Geo) (left : Int), smB left gs = true → 0 ≤ left → (Geo.wts gs : Int) ≤ left ∧ ∀ g ∈ gs, g.Lay 9
  | [], left, _, h => ⟨by simpa [Geo.wts] using h, by simp⟩
  | g :: gs, left, h, h0 => by
    rw [smB] at h
    split at h
    · cases h
    · rename_i hn
      obtain ⟨z1, z2, z3⟩ := g.wM_spec left
      have h1 : g.layB 9 = true := by cases hh : g.layB 9 <;> simp_all
      have h2 : ¬ left - g.wM left < 0 := fun h => hn (.inl h)
      obtain ⟨h3, h4⟩ := smB_spec gs _ h (by omega)
      have := z3 (by omega)
      refine ⟨by rw [Geo.wts]; omega, ?_⟩
      intro x hx
      cases hx with
      | head => exact (Geo.layB_iff g).1 h1
      | tail _ hx => exact h4 x hx
theorem gE_asc {s : Int} {sg : Bool} : ∀ {es : List Int} {a b : Int}, gE s sg a es = (b, true) → Asc s sg a es b
  | [], a, b, h => by simp [gE] at h; exact h
  | e :: es, a, b, h => by
    rw [gE] at h
    split at h
    · cases h
    · rename_i hn
      exact ⟨by omega, by omega, by intro hs; simp_all, gE_asc h⟩
theorem gES_ok {s : Int} : ∀ {ls : List (List Int)} {a c : Int} {b : Bool}, gES s (a, b) ls = (c, true) → b = true ∧ AscS s a ls c
  | [], a, c, b, h => by simp [gES] at h; exact ⟨h.2, h.1⟩
  | l :: ls, a, c, b, h => by
    rw [gES] at h
    obtain ⟨h1, h2⟩ := gES_ok h
    simp only [Bool.and_eq_true] at h1
    exact ⟨h1.1, _, gE_asc (Prod.ext rfl h1.2), h2⟩
theorem kdB_spec {k s : Int} {f : List Nat} {e : List Int} {ee : List (List Int)} (h : kdB k s f e ee = true) : Kd k s f e ee := by
  unfold kdB at h
  unfold Kd
  split at h
  · rename_i hk; simp at h; exact .inl ⟨hk, h.1, h.2⟩
  · split at h
    · rename_i hk; simp at h; exact .inr (.inl ⟨hk, h⟩)
    · split at h
      · rename_i hk
        rw [Bool.and_eq_true, decide_eq_true_eq] at h
        exact .inr (.inr (.inl ⟨hk, gE_asc (Prod.ext h.2 h.1)⟩))
      · split at h
        · rename_i hk
          simp only [Bool.and_eq_true, decide_eq_true_eq] at h
          exact .inr (.inr (.inr ⟨hk, (gES_ok (Prod.ext h.1.2 h.1.1)).2, List.eq_nil_of_length_eq_zero h.2⟩))
        · cases h
mutual
theorem Geo.goodB_spec : ∀ (g : Geo), g.goodB = true → g.Good
  | .mk k l s f e ee ks, h => by
    rw [Geo.goodB] at h
    rw [Geo.Good]
    split at h
    · rename_i hk
      simp only [Bool.and_eq_true, decide_eq_true_eq] at h
      have h0 : f.length = 0 ∧ e.length = 0 ∧ ee.length = 0 := by omega
      exact .inl ⟨hk, Geo.goodsB_spec ks h.1, h.2.1, List.eq_nil_of_length_eq_zero h0.1, List.eq_nil_of_length_eq_zero h0.2.1, List.eq_nil_of_length_eq_zero h0.2.2⟩
    · rename_i hk
      simp only [Bool.and_eq_true, Bool.not_eq_true', Bool.or_eq_false_iff, decide_eq_false_iff_not, Bool.and_eq_false_iff] at h
      obtain ⟨⟨⟨⟨h1, h2⟩, h3⟩, h4⟩, h5⟩ := h
      refine .inr ⟨hk, h1, by simpa using h2, List.eq_nil_of_length_eq_zero (by omega), ?_, kdB_spec h5⟩
      rcases h4 with h4 | h4
      · exact .inl (List.eq_nil_of_length_eq_zero (by omega))
      · exact .inr (by omega)
theorem Geo.goodsB_spec {l : Int} : ∀ (gs : List Geo), Geo.goodsB l gs = true → Geo.Goods l gs
  | [], _ => by simp [Geo.Goods]
  | g :: gs, h => by
    rw [Geo.goodsB] at h
    rw [Geo.Goods]
    simp only [Bool.and_eq_true, Bool.not_eq_true', Bool.and_eq_false_iff, decide_eq_false_iff_not] at h
    exact ⟨⟨Geo.goodB_spec g h.1.1, by omega⟩, Geo.goodsB_spec gs h.2⟩
end
theorem goodAll_one {g : Geo} (h : goodAll [g] = true) : g.wt ≤ 2000 ∧ g.Lay 9 ∧ g.Good := by
  unfold goodAll at h
  simp only [Bool.and_eq_true, List.all_cons, List.all_nil, and_true] at h
  obtain ⟨h1, h2⟩ := smB_spec _ _ h.1 (by decide)
  refine ⟨?_, h2 g (by simp), Geo.goodB_spec g (by simpa using h.2)⟩
  simp only [Geo.wts] at h1; omega
end Go.Proofs.Ytkhpdmcalimmjaa.Geom
