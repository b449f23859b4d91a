/-
  FnPointLinesOn: the distance of a place from a line of two to 200 places (whole coordinates from -2^13 to 2^13) is below 2^-20 just if OnLine tells that it is on the line, whatever the package variable of the filter holds. No conditions beyond the statement's own.
-/
import Derived.Test.YthafjfgmbmpfoaaRows
import Derived.Test.YthafjfgmbmpfoaaPlq
import Derived.Test.YthafjfgmbmpfoaaLg35
import Derived.HandedShaped
set_option linter.unusedVariables false
set_option linter.unusedSimpArgs false
namespace Go.Proofs.Ythafjfgmbmpfoaa.fnPointLinesOn
open Go.Lg Go.Proofs.Ythafjfgmbmpfoaa.Pl Go.Proofs.Ythafjfgmbmpfoaa.Ori5
open Go.ChangeShapes Go.WideShapes Go.RowKit

section
variable {H : Type}
theorem all_sum : ∀ (l : List (DataW H)), Rows.uptoBulkAll l = (l.map Rows.uptoBulk).sum
  | [] => by simp [Rows.uptoBulkAll]
  | d :: l => by rw [Rows.uptoBulkAll, all_sum l]; simp
theorem blk : Blk (H := H) Rows.uptoBulk where
  one d := by
    cases d with
    | lit l => cases l <;> simp [Rows.uptoBulk]
    | nil => simp [Rows.uptoBulk]
    | ptr d => simp [Rows.uptoBulk]
    | slice l m => simp [Rows.uptoBulk]
    | agg l => simp [Rows.uptoBulk]
    | iface n d => simp [Rows.uptoBulk]
    | map l => simp [Rows.uptoBulk]
    | held x => simp [Rows.uptoBulk]
  slice l m := by rw [Rows.uptoBulk, all_sum, all_sum]; omega
  agg l := by rw [Rows.uptoBulk, all_sum]; omega
end
theorem rows_eq : ∀ ps : List (Nat × Nat), (ps.map (fun q => [Value.float .f64 q.1, Value.float .f64 q.2])).flatten = (pairs ps).map fl
  | [] => rfl
  | (x, y) :: ps => by
    rw [List.map_cons, List.flatten_cons, rows_eq ps]; rfl
set_option maxHeartbeats 8000000 in
theorem bare (v : Value) (ps : List (Nat × Nat)) (H : Heap) (hv : SlN 2 H v ps.length ((pairs ps).map fl)) (hl : ps.length ≤ 1000) :
    Does Try.prog 12 [v] H fun w H' => ∃ ex a c, H' = ex ++ H ∧ w = .slice a (2 * ps.length) c ∧ FS H' (.slice a (2 * ps.length) c) (pairs ps) := by
  obtain ⟨a0, cap0, rfl, _⟩ := hv.val
  refine fn_enter 21 Try.func12 fun W => ?_
  repeat' first
    | refine tc_seq ?_ | refine tc_region ?_ | refine at_seq_normal ?_ | refine tl_nil ?_ | refine tl_cons ?_ | refine tl_cons_none ?_ | refine op_move ?_ | refine op_assign ?_ | refine op_fieldAddr ?_ | refine op_load ?_
    | refine op_load_agg ?_ | refine op_indexC ?_ | refine op_indexAddr1 ?_ | refine op_indexAddr ?_ | refine op_icmp ?_ | refine op_iarith ?_ | refine op_len_slice ?_ | (refine op_alloc ?_; intro _) | (refine op_buildSlice ?_; intro _) | refine op_store0 ?_
    | refine op_store1 ?_ | refine op_store2 ?_ | refine op_store3 ?_ | refine op_store4 ?_ | refine op_store5 ?_ | refine op_storeK rfl ?_ | refine op_loadK rfl ?_ | refine op_load_aggK rfl ?_ | refine tc_cond_t ?_ | refine tc_cond_f ?_
    | refine tc_cond (fun _ => ?_) (fun _ => ?_) | refine tc_block ?_ | refine tc_skip ?_ | refine tc_ret ?_ | refine tc_exit ?_ | refine at_seq_ret ?_ | refine at_seq_exit ?_ | refine at_block_normal ?_ | refine at_block_ret ?_ | refine at_block_exit_self ?_
    | refine at_block_exit_ne ?_ | refine at_loop_ret ?_ | refine at_loop_exit ?_
  refine tc_loopK [(2, _), (6, _), (7, _)] (by repeat (first | exact trivial | refine ⟨rfl, ?_⟩)) (fun p : Nat × Buf => [(8, .int .i64 (p.1 : Int)), (3, bufV p.2 (2 * p.1))]) (fun p => bufH 36 p.2 ((pairs (ps.take p.1)).map fl) H) (fun p => p.1 ≤ ps.length ∧ bufOk 1 p.2 (2 * p.1) ((pairs (ps.take p.1)).map fl)) (fun p => ps.length - p.1) (0, none) ⟨Nat.zero_le _, ⟨rfl, rfl⟩⟩ ⟨rfl, rfl, trivial⟩ (List.Sublist.refl _) ?_
  rintro ⟨j, buf⟩ ⟨hj, hok⟩
  simp only at hj hok ⊢
  by_cases hlt : j < ps.length
  · have hb : icmp .lss (j : Int) (ps.length : Int) = true := by rw [lss_nat]; simpa using hlt
    have hget : ps[j]? = some ps[j] := List.getElem?_eq_getElem hlt
    have htk : pairs (ps.take (j + 1)) = pairs (ps.take j) ++ [ps[j].1, ps[j].2] := by
      rw [List.take_add_one, hget]
      show pairs (ps.take j ++ [ps[j]]) = _
      rw [pairs_app]; rfl
    generalize ps[j] = p at *
    obtain ⟨x, y⟩ := p
    obtain ⟨k, off, l, T, fz, cap, he, hm, hcut⟩ := SlN.cutPairs hv hget
    cases he
    have hm2 : (k, Obj.cells ⟨l⟩ T fz) ∈ bufH 36 buf ((pairs (ps.take j)).map fl) H := (bufH_sub _ _ _ _).subset hm
    repeat' first
      | (refine op_append (H' := H) buf (2 * j) ((pairs (ps.take j)).map fl) [.float .f64 x, .float .f64 y] (m := 2) hok (fun buf' hok' => ?_) (by exact rfl) (by exact rfl) (List.Sublist.cons _ (List.Sublist.cons _ (List.Sublist.refl _))) List.mem_cons_self rfl rfl (by simp [Value.oneCell']) (by decide) (by simp only [maxLen]; omega) (by omega))
      | (first | refine tc_seq ?_ | refine tc_region ?_ | refine at_seq_normal ?_ | refine tl_nil ?_ | refine tl_cons ?_ | refine tl_cons_none ?_ | refine op_move ?_ | refine op_assign ?_ | refine op_fieldAddr ?_ | refine op_load ?_ | refine op_load_agg ?_ | refine op_indexC ?_ | refine op_indexAddr1 ?_ | refine op_indexAddr ?_ | refine op_icmp ?_ | refine op_iarith ?_ | refine op_len_slice ?_ | (refine op_alloc ?_; intro _) | (refine op_buildSlice ?_; intro _) | refine op_store0 ?_ | refine op_store1 ?_ | refine op_store2 ?_ | refine op_store3 ?_ | refine op_store4 ?_ | refine op_store5 ?_ | refine op_storeK rfl ?_ | refine op_loadK rfl ?_ | refine op_load_aggK rfl ?_ | refine tc_cond_t ?_ | refine tc_cond_f ?_ | refine tc_cond (fun _ => ?_) (fun _ => ?_) | refine tc_block ?_ | refine tc_skip ?_ | refine tc_ret ?_ | refine tc_exit ?_ | refine at_seq_ret ?_ | refine at_seq_exit ?_ | refine at_block_normal ?_ | refine at_block_ret ?_ | refine at_block_exit_self ?_ | refine at_block_exit_ne ?_ | refine at_loop_ret ?_ | refine at_loop_exit ?_ | fail)
      | fail
    refine at_loopK (j + 1, buf') ⟨hlt, ?_⟩ (by simp only; omega) ⟨next_nat (by omega), rfl, trivial⟩ (by repeat (first | exact trivial | refine ⟨rfl, ?_⟩)) ?_
    · simp only
      rw [htk, List.map_append]
      exact hok'
    · simp only
      rw [htk, List.map_append]
      exact List.Sublist.refl _
  · have hb : icmp .lss (j : Int) (ps.length : Int) = false := by rw [lss_nat]; simpa using hlt
    have hjl : j = ps.length := by omega
    subst hjl
    rw [List.take_length] at hok ⊢
    have hf := fs_buf (e := 36) (H := H) hok
    obtain ⟨a, c, hbv⟩ : ∃ a c, bufV buf (2 * ps.length) = .slice a (2 * ps.length) c := by
      cases buf with
      | none => exact ⟨none, 0, by rw [hok.1]; rfl⟩
      | some b => exact ⟨_, _, rfl⟩
    rw [hbv] at hf ⊢
    repeat' first
      | refine tc_seq ?_ | refine tc_region ?_ | refine at_seq_normal ?_ | refine tl_nil ?_ | refine tl_cons ?_ | refine tl_cons_none ?_ | refine op_move ?_ | refine op_assign ?_ | refine op_fieldAddr ?_ | refine op_load ?_
      | refine op_load_agg ?_ | refine op_indexC ?_ | refine op_indexAddr1 ?_ | refine op_indexAddr ?_ | refine op_icmp ?_ | refine op_iarith ?_ | refine op_len_slice ?_ | (refine op_alloc ?_; intro _) | (refine op_buildSlice ?_; intro _) | refine op_store0 ?_
      | refine op_store1 ?_ | refine op_store2 ?_ | refine op_store3 ?_ | refine op_store4 ?_ | refine op_store5 ?_ | refine op_storeK rfl ?_ | refine op_loadK rfl ?_ | refine op_load_aggK rfl ?_ | refine tc_cond_t ?_ | refine tc_cond_f ?_
      | refine tc_cond (fun _ => ?_) (fun _ => ?_) | refine tc_block ?_ | refine tc_skip ?_ | refine tc_ret ?_ | refine tc_exit ?_ | refine at_seq_ret ?_ | refine at_seq_exit ?_ | refine at_block_normal ?_ | refine at_block_ret ?_ | refine at_block_exit_self ?_
      | refine at_block_exit_ne ?_ | refine at_loop_ret ?_ | refine at_loop_exit ?_
    exact ret_tmp (hG := List.Sublist.refl _) (hk := ⟨bufH 36 buf ((pairs ps).map fl) [], a, c, by cases buf <;> rfl, rfl, hf⟩)
set_option maxRecDepth 100000 in
instance idle26 : IdleD Try.prog 26 2 where
  idle := fun cap w hl => by
    match cap, hl with
    | [p, q], _ =>
    have h0 : ∀ w : World, (eqGuard .neq 20 (.tmp 2) (.const .nilIface) .nilIface .nilIface).run Try.prog w = .ok () w := fun _ => rfl
    have h1 : ∀ w : World, (binOp .neq 20 .nilIface .nilIface).run Try.prog w = .ok (.bool false) w := fun w => by
      first
        | rfl
        | simp [binOp, Op.equal, Op.equalIn, go_sem]
    refine callsD_of_wpS Try.func26 rfl fun c₀ cs hu => ?_
    apply wpS_seq
    apply wpS_region
    simp [wpOpsS, go_sem, recoverD, hu, Try.ntmps26, Exit.thenS, h1]
    refine wpS_cond (t := false) (by simp [Act.eval, Array.replicate]) ?_
    simp only [Bool.false_eq_true, if_false]
    refine wpS_of_wp (wp_skip ?_)
    cases c₀
    simp_all [bodyPostS, results, Try.results26]
set_option maxRecDepth 100000 in
instance idle29 : IdleD Try.prog 29 2 where
  idle := fun cap w hl => by
    match cap, hl with
    | [p, q], _ =>
    have h0 : ∀ w : World, (eqGuard .neq 20 (.tmp 2) (.const .nilIface) .nilIface .nilIface).run Try.prog w = .ok () w := fun _ => rfl
    have h1 : ∀ w : World, (binOp .neq 20 .nilIface .nilIface).run Try.prog w = .ok (.bool false) w := fun w => by
      first
        | rfl
        | simp [binOp, Op.equal, Op.equalIn, go_sem]
    refine callsD_of_wpS Try.func29 rfl fun c₀ cs hu => ?_
    apply wpS_seq
    apply wpS_region
    simp [wpOpsS, go_sem, recoverD, hu, Try.ntmps29, Exit.thenS, h1]
    refine wpS_cond (t := false) (by simp [Act.eval, Array.replicate]) ?_
    simp only [Bool.false_eq_true, if_false]
    refine wpS_of_wp (wp_skip ?_)
    cases c₀
    simp_all [bodyPostS, results, Try.results29]
set_option maxHeartbeats 4000000 in
theorem implDist (n : Nat) (px py : Nat) (pX pY : Int) (a : Option Addr) (c : Nat) (xs : List Nat) (X Y : Nat → Int) (H : Heap) (hf : FS H (.slice a (2 * n) c) xs) (hxl : xs.length = 2 * n) (fpx : FI 8192 px pX) (fpy : FI 8192 py pY) (hx : PW xs n X Y) (hn : 2 ≤ n) (hn2 : n ≤ 200) :
    Does Try.prog 11 [.int .i64 1, .agg ⟨[.float .f64 px, .float .f64 py]⟩, .slice a (2 * n) c] H fun w H' => (∃ r, w = .tuple #[.float .f64 r, .bool true] ∧ Near r (anyOn X Y pX pY (n - 1) = true)) ∧ ∃ ex, H' = ex ++ H := by
  obtain ⟨kr, o, L, T, fz, rfl, hm, _, hc, hL⟩ := hf.block (by intro e; rw [e] at hxl; simp at hxl; omega)
  rw [hxl] at hL hc
  refine fn_enter_d 14 Try.func11 fun W => ?_
  repeat' first
    | (refine op_call ((coord _ _ _).mono ?_); rintro _ _ ⟨k, rfl, rfl⟩)
    | (refine op_call ((lineDist n k 0 2 kr o c px py pX pY _ L _ T _ fz xs X Y _ List.mem_cons_self rfl rfl fpx fpy (by simp [hm]) hL hx hn hn2 hc).mono ?_); rintro _ _ ⟨⟨r, rfl, hr⟩, rfl⟩)
    | refine op_storeK rfl ?_
    | (first | refine tl_defer ?_ | refine tc_seq ?_ | refine tc_region ?_ | refine at_seq_normal ?_ | refine tl_nil ?_ | refine tl_cons ?_ | refine tl_cons_none ?_ | refine op_move ?_ | refine op_load ?_ | refine op_load_agg ?_ | refine op_makeMeth ?_ | refine op_makeFunc ?_ | (refine op_alloc ?_; intro _) | (refine op_box ?_; intro _) | refine op_store0 ?_ | refine op_store1 ?_ | refine op_store2 ?_ | refine op_store3 ?_ | refine op_store4 ?_ | refine op_store5 ?_ | refine op_storeK rfl ?_ | refine op_loadK rfl ?_ | refine op_load_aggK rfl ?_ | refine tc_ret ?_ | refine at_seq_ret ?_ | fail)
    | fail
  exact ret_door (m := 2) rfl rfl (.cons (rv_cell rfl) (.cons (rv_cell rfl) .nil)) rfl (List.Sublist.refl _) ⟨⟨r, rfl, hr⟩, ExC.ex⟩
set_option maxHeartbeats 4000000 in
theorem implOn (n : Nat) (px py : Nat) (pX pY : Int) (a : Option Addr) (c : Nat) (xs : List Nat) (X Y : Nat → Int) (H : Heap) (hf : FS H (.slice a (2 * n) c) xs) (hxl : xs.length = 2 * n) (fpx : FI 8192 px pX) (fpy : FI 8192 py pY) (hx : PW xs n X Y) (hn : 2 ≤ n) (hn2 : n ≤ 200) (hE : Eps H) :
    Does Try.prog 13 [.int .i64 1, .agg ⟨[.float .f64 px, .float .f64 py]⟩, .slice a (2 * n) c] H fun w H' => w = .tuple #[.bool (anyOn X Y pX pY (n - 1)), .bool true] ∧ ∃ ex, H' = ex ++ H := by
  obtain ⟨kr, o, L, T, fz, rfl, hm, _, hc, hL⟩ := hf.block (by intro e; rw [e] at hxl; simp at hxl; omega)
  rw [hxl] at hL hc
  refine fn_enter_d 14 Try.func13 fun W => ?_
  repeat' first
    | (refine op_call ((coord _ _ _).mono ?_); rintro _ _ ⟨k, rfl, rfl⟩)
    | (refine op_call ((isOnLine n k 0 2 kr o c px py pX pY _ L _ T _ fz xs X Y _ List.mem_cons_self rfl rfl fpx fpy (by simp [hm]) hL hx hn hn2 hc (hE.mono fun e he => by simp [he])).mono ?_); rintro _ _ ⟨rfl, ex, rfl⟩)
    | refine op_storeK rfl ?_
    | (first | refine tl_defer ?_ | refine tc_seq ?_ | refine tc_region ?_ | refine at_seq_normal ?_ | refine tl_nil ?_ | refine tl_cons ?_ | refine tl_cons_none ?_ | refine op_move ?_ | refine op_load ?_ | refine op_load_agg ?_ | refine op_makeMeth ?_ | refine op_makeFunc ?_ | (refine op_alloc ?_; intro _) | (refine op_box ?_; intro _) | refine op_store0 ?_ | refine op_store1 ?_ | refine op_store2 ?_ | refine op_store3 ?_ | refine op_store4 ?_ | refine op_store5 ?_ | refine op_storeK rfl ?_ | refine op_loadK rfl ?_ | refine op_load_aggK rfl ?_ | refine tc_ret ?_ | refine at_seq_ret ?_ | fail)
    | fail
  exact ret_door (m := 2) rfl rfl (.cons (rv_cell rfl) (.cons (rv_cell rfl) .nil)) rfl (List.Sublist.refl _) ⟨rfl, ExC.ex⟩
theorem pairs_get : ∀ (ps : List (Nat × Nat)) (i : Nat) (p : Nat × Nat), ps[i]? = some p → (pairs ps).getD (2 * i) 0 = p.1 ∧ (pairs ps).getD (2 * i + 1) 0 = p.2
  | [], i, p, h => by simp at h
  | (x, y) :: ps, 0, p, h => by simp at h; subst h; exact ⟨rfl, rfl⟩
  | (x, y) :: ps, i + 1, p, h => by
    have := pairs_get ps i p (by simpa using h)
    rw [show 2 * (i + 1) = 2 * i + 1 + 1 by omega]
    exact this
theorem pw_of {ps : List (Nat × Nat)} (h : ps.all (pB 4665729213955833856) = true) : ∃ X Y : Nat → Int, PW (pairs ps) ps.length X Y := by
  have hw : ∀ i, ∃ q : Int × Int, i < ps.length → FI 8192 ((pairs ps).getD (2 * i) 0) q.1 ∧ FI 8192 ((pairs ps).getD (2 * i + 1) 0) q.2 := by
    intro i
    by_cases hi : i < ps.length
    · obtain ⟨⟨n, f, a1, a2⟩, ⟨m, g, b1, b2⟩⟩ := pB_wh fv13 (by decide) (List.all_eq_true.1 h _ (List.getElem_mem hi))
      obtain ⟨e1, e2⟩ := pairs_get ps i _ (List.getElem?_eq_getElem hi)
      exact ⟨(n, m), fun _ => ⟨by rw [e1]; exact ⟨f, a1, a2⟩, by rw [e2]; exact ⟨g, b1, b2⟩⟩⟩
    · exact ⟨(0, 0), fun h => absurd h hi⟩
  exact ⟨fun i => (Classical.choose (hw i)).1, fun i => (Classical.choose (hw i)).2, fun i hi => Classical.choose_spec (hw i) hi⟩
set_option maxHeartbeats 16000000 in
theorem law (px py : Nat) (hpx : px < 18446744073709551616) (hpy : py < 18446744073709551616) (v : Value) (ps : List (Nat × Nat)) {H : Heap} (hs : SlN 2 H v ps.length (ps.map (fun q => [Value.float .f64 q.1, Value.float .f64 q.2])).flatten) (hl : ps.length ≤ 9223372036854775807) (hb : ∀ q ∈ ps, q.1 < 2 ^ 64 ∧ q.2 < 2 ^ 64) (hE : Eps H) :
    Does Try.prog 4 [.agg ⟨[.float .f64 px, .float .f64 py]⟩, v] H fun w H' => w = .bool true ∧ H' = H := by
  rw [rows_eq] at hs
  obtain ⟨a0, cap0, rfl, _⟩ := hs.val
  refine fn_enter 55 Try.func4 fun W => ?_
  by_cases hbig : ps.length < 2147483648
  rotate_left
  · have hc : icmp .gtr (ps.length : Int) 2147483647 = true := by simp only [icmp, decide_eq_true_eq]; omega
    repeat' first
      | refine tc_seq ?_ | refine tc_region ?_ | refine at_seq_normal ?_ | refine tl_nil ?_ | refine tl_cons ?_ | refine op_move ?_ | refine op_assign ?_ | refine op_load ?_ | refine op_load_agg ?_ | refine op_icmp ?_
      | refine op_fcmp ?_ | refine op_bcmp ?_ | refine op_unop_not ?_ | refine op_len_slice ?_ | refine op_pick_true ?_ | refine op_pick_false ?_ | refine op_pick_true' ?_ | refine op_pick_false' ?_ | refine op_extract ?_ | (refine op_box ?_; intro _)
      | (refine op_buildSlice ?_; intro _) | refine op_loadK rfl ?_ | refine op_load_aggK rfl ?_ | refine tc_cond_t ?_ | refine tc_cond_f ?_ | refine tc_cond (fun _ => ?_) (fun _ => ?_) | refine tc_skip ?_ | refine tc_ret ?_ | refine at_seq_ret ?_ | refine tl_guard_yes ?_
      | refine tl_guard_no ?_ | refine tl_guard_yes' ?_ | refine tl_guard_no' ?_ | refine tl_guard_undef ?_ | refine tl_guard_split (fun _ => ?_) (fun _ => ?_)
    exact ret_tmp (hG := by (repeat (first | exact List.Sublist.refl _ | apply List.Sublist.cons_cons | apply List.Sublist.cons | refine List.Sublist.trans ?_ (List.sublist_append_right _ _)))) (hk := ⟨rfl, rfl⟩)
  have hc : icmp .gtr (ps.length : Int) 2147483647 = false := by simp only [icmp, decide_eq_false_iff_not]; omega
  repeat' first
    | (refine op_call ((planeToB _ [(px, py)] 4665729213955833856 _ (by simp) (by exact ⟨rfl, some ⟨_, 0, none⟩, 1, rfl, Nat.le_refl _, fun _ => ⟨_, 0, _, _, _, rfl, List.mem_cons_self, rfl⟩⟩)).mono ?_); rintro _ _ ⟨rfl, ex0, rfl⟩)
    | (refine op_call ((planeToB _ ps 4665729213955833856 _ (by omega) (hs.mono fun e he => by simp [he])).mono ?_); rintro _ _ ⟨rfl, ex1, rfl⟩)
    | (first | refine tc_seq ?_ | refine tc_region ?_ | refine at_seq_normal ?_ | refine tl_nil ?_ | refine tl_cons ?_ | refine op_move ?_ | refine op_assign ?_ | refine op_load ?_ | refine op_load_agg ?_ | refine op_icmp ?_ | refine op_fcmp ?_ | refine op_bcmp ?_ | refine op_unop_not ?_ | refine op_len_slice ?_ | refine op_pick_true ?_ | refine op_pick_false ?_ | refine op_pick_true' ?_ | refine op_pick_false' ?_ | refine op_extract ?_ | (refine op_box ?_; intro _) | (refine op_buildSlice ?_; intro _) | refine op_loadK rfl ?_ | refine op_load_aggK rfl ?_ | refine tc_cond_t ?_ | refine tc_cond_f ?_ | refine tc_cond (fun _ => ?_) (fun _ => ?_) | refine tc_skip ?_ | refine tc_ret ?_ | refine at_seq_ret ?_ | refine tl_guard_yes ?_ | refine tl_guard_no ?_ | refine tl_guard_yes' ?_ | refine tl_guard_no' ?_ | refine tl_guard_undef ?_ | refine tl_guard_split (fun _ => ?_) (fun _ => ?_) | fail)
    | fail
  all_goals first
    | exact ret_tmp (hG := by (repeat (first | exact List.Sublist.refl _ | apply List.Sublist.cons_cons | apply List.Sublist.cons | refine List.Sublist.trans ?_ (List.sublist_append_right _ _)))) (hk := ⟨rfl, rfl⟩)
    | skip
  have h2 := ‹icmp .lss (ps.length : Int) 2 = false›
  have h200 := ‹icmp .gtr (ps.length : Int) 200 = false›
  have hP := ‹(!([(px, py)].all (pB 4665729213955833856))) = false›
  have hL := ‹(!(ps.all (pB 4665729213955833856))) = false›
  have hn : 2 ≤ ps.length := by simp only [icmp, decide_eq_false_iff_not] at h2; omega
  have hn2 : ps.length ≤ 200 := by simp only [icmp, decide_eq_false_iff_not] at h200; omega
  have hP' : pB 4665729213955833856 (px, py) = true := by simpa using hP
  obtain ⟨⟨pX, fpx0, p1, p2'⟩, ⟨pY, fpy0, p3, p4⟩⟩ := pB_wh fv13 (by decide) hP'
  have fpx : FI 8192 px pX := ⟨fpx0, p1, p2'⟩
  have fpy : FI 8192 py pY := ⟨fpy0, p3, p4⟩
  obtain ⟨X, Y, hpw⟩ := pw_of (ps := ps) (by simpa using hL)
  have hxl : (pairs ps).length = 2 * ps.length := pairs_len ps
  obtain ⟨A, hA⟩ : ∃ A, A = anyOn X Y pX pY (ps.length - 1) := ⟨_, rfl⟩
  have hdist := fun a c G hf => implDist ps.length px py pX pY a c (pairs ps) X Y G hf hxl fpx fpy hpw hn hn2
  have honl := fun a c G hf hE => implOn ps.length px py pX pY a c (pairs ps) X Y G hf hxl fpx fpy hpw hn hn2 hE
  rw [← hA] at hdist honl
  have hsG : ∀ G : Heap, (∀ e ∈ H, e ∈ G) → SlN 2 G (.slice a0 ps.length cap0) ps.length ((pairs ps).map fl) := fun G h => hs.mono h
  apply fun hole0 hole1 hole2 hE hD hml hdl hpr prem fin => tc_drawnD 8 [PhiD.is hole0, PhiD.is hole1, PhiD.gen (fun w _ G => ∃ a c, w = .slice a (2 * ps.length) c ∧ FS G (.slice a (2 * ps.length) c) (pairs ps)), PhiD.gen (some' (fun w _ => ∃ r, w = .tuple #[.float .f64 r, .bool true] ∧ Near r (A = true))), PhiD.gen (some' (fun w _ => ∃ r, w = .tuple #[.float .f64 r, .bool true] ∧ Near r (A = true))), PhiD.gen (some' (fun w _ => ∃ r, w = .float .f64 r ∧ Near r (A = true))), PhiD.is hole2, PhiD.gen (some' (fun w _ => ∃ r, w = .float .f64 r ∧ Near r (A = true)))]
    [some 32, some 33, some 34, some 35, some 31, some 36, some 37, some 5, some 6] [[], [], [1], [0, 2], [3], [4], [4], [5, 3, 0, 1, 2, 4]] mixed ⟨(fun _ _ _ _ ⟨a, c, h1, h2⟩ hs => ⟨a, c, h1, h2.mono hs⟩), (some_mono _), (some_mono _), (some_mono _), (some_mono _), trivial⟩ prem fin hE hD rfl hml hdl hpr
  rotate_left 4
  · first | kernel_rfl | exact rfl
  · first | kernel_rfl | exact rfl
  · exact Nat.le_of_ble_eq_true rfl
  · first | kernel_rfl | exact rfl
  · first | kernel_rfl | exact rfl
  refine ⟨fun G hG => ?_, fun G hG => ?_, fun G hG => ?_, fun G hG => ?_, fun G hG => ?_, fun G hG => ?_, fun G hG => ?_, fun G hG => ?_, trivial⟩
  · simp only [withD, nthD, Step2, nthDst, putO, postD]
    ((first | refine op_load ?_ | refine op_load_agg ?_ | refine op_load ?_ (hm := Sub.mem (by assumption) (by (repeat (apply List.mem_cons_of_mem)); assumption)) | refine op_load_agg ?_ (hm := Sub.mem (by assumption) (by (repeat (apply List.mem_cons_of_mem)); assumption)) | refine op_loadH hG rfl ?_ | refine op_load_aggH hG rfl ?_); exact ⟨[], rfl, rfl, rfl⟩)
  · simp only [withD, nthD, Step2, nthDst, putO, postD]
    (refine op_move ?_; exact ⟨[], rfl, rfl, rfl⟩)
  · simp only [withD, nthD, Step2, nthDst, putO, postD]
    (refine op_call ((bare _ ps _ (hsG _ fun e he => hG e (by simp [he])) (by omega)).mono ?_); rintro _ _ ⟨ex, a, c, rfl, rfl, hf⟩; exact ⟨ex, rfl, a, c, rfl, hf⟩)
  · simp only [withD, nthD, Step2, nthDst, putO, postD]
    rintro _ _ ⟨a1, c1, rfl, hf1⟩ -
    (refine op_call ((hdist _ _ _ hf1).mono ?_); rintro _ _ ⟨⟨r, rfl, hr⟩, ex, rfl⟩; exact ⟨ex, rfl, r, rfl, hr⟩)
  · simp only [withD, nthD, Step2, nthDst, putO, postD]
    rintro _ _ ⟨r1, rfl, hr1⟩ -
    (refine op_move ?_; exact ⟨[], rfl, r1, rfl, hr1⟩)
  · simp only [withD, nthD, Step2, nthDst, putO, postD]
    rintro _ _ ⟨r2, rfl, hr2⟩ -
    (refine op_extract ?_; exact ⟨[], rfl, r2, rfl, hr2⟩)
  · simp only [withD, nthD, Step2, nthDst, putO, postD]
    rintro _ _ ⟨r2, rfl, hr2⟩ -
    (refine op_extract ?_; exact ⟨[], rfl, rfl, rfl⟩)
  · simp only [withD, nthD, Step2, nthDst, putO, postD]
    rintro _ _ ⟨r3, rfl, hr3⟩ - _ _ ⟨r1, rfl, hr1⟩ - _ _ ⟨a1, c1, rfl, hf1⟩ - _ _ ⟨r2, rfl, hr2⟩ -
    (refine op_assign ?_; exact ⟨[], rfl, r3, rfl, hr3⟩)
  simp only [FinalsD, nthDst, putO, List.drop_succ_cons, List.drop_zero]
  rintro _ _ _ _ _ _ _ _ _ _ ⟨⟨r4, rfl, hr4⟩, ⟨r3, rfl, hr3⟩, ⟨r2, rfl, hr2⟩, ⟨r1, rfl, hr1⟩, ⟨a1, c1, rfl, hf1⟩, -⟩
  try simp only [List.nil_append]
  repeat' first
    | refine tc_seq ?_ | refine tc_region ?_ | refine at_seq_normal ?_ | refine tl_nil ?_ | refine tl_cons ?_ | refine op_move ?_ | refine op_assign ?_ | refine op_load ?_ | refine op_load_agg ?_ | refine op_icmp ?_
    | refine op_fcmp ?_ | refine op_bcmp ?_ | refine op_unop_not ?_ | refine op_len_slice ?_ | refine op_pick_true ?_ | refine op_pick_false ?_ | refine op_pick_true' ?_ | refine op_pick_false' ?_ | refine op_extract ?_ | (refine op_box ?_; intro _)
    | (refine op_buildSlice ?_; intro _) | refine op_loadK rfl ?_ | refine op_load_aggK rfl ?_ | refine tc_cond_t ?_ | refine tc_cond_f ?_ | refine tc_cond (fun _ => ?_) (fun _ => ?_) | refine tc_skip ?_ | refine tc_ret ?_ | refine at_seq_ret ?_ | refine tl_guard_yes ?_
    | refine tl_guard_no ?_ | refine tl_guard_yes' ?_ | refine tl_guard_no' ?_ | refine tl_guard_undef ?_ | refine tl_guard_split (fun _ => ?_) (fun _ => ?_)
  apply fun hole0 hole1 hole2 hole3 hole4 hole5 hE hD hml hdl hpr prem fin => tc_drawnD 8 [PhiD.is hole0, PhiD.is hole1, PhiD.gen (fun w _ G => ∃ a c, w = .slice a (2 * ps.length) c ∧ FS G (.slice a (2 * ps.length) c) (pairs ps)), PhiD.gen (some' (fun w _ => w = .tuple #[.bool A, .bool true])), PhiD.is hole2, PhiD.is hole3, PhiD.is hole4, PhiD.is hole5]
    [some 39, some 40, some 41, some 42, some 38, some 43, some 44, some 7, some 8] [[], [], [1], [0, 2], [3], [4], [4], [5, 3, 0, 1, 2, 4]] mixed ⟨(fun _ _ _ _ ⟨a, c, h1, h2⟩ hs => ⟨a, c, h1, h2.mono hs⟩), (some_mono _), trivial⟩ prem fin hE hD rfl hml hdl hpr
  rotate_left 7
  · first | kernel_rfl | exact rfl
  · first | kernel_rfl | exact rfl
  · exact Nat.le_of_ble_eq_true rfl
  · first | kernel_rfl | exact rfl
  · first | kernel_rfl | exact rfl
  refine ⟨fun G hG => ?_, fun G hG => ?_, fun G hG => ?_, fun G hG => ?_, fun G hG => ?_, fun G hG => ?_, fun G hG => ?_, fun G hG => ?_, trivial⟩
  · simp only [withD, nthD, Step2, nthDst, putO, postD]
    ((first | refine op_load ?_ | refine op_load_agg ?_ | refine op_load ?_ (hm := Sub.mem (by assumption) (by (repeat (apply List.mem_cons_of_mem)); assumption)) | refine op_load_agg ?_ (hm := Sub.mem (by assumption) (by (repeat (apply List.mem_cons_of_mem)); assumption)) | refine op_loadH hG rfl ?_ | refine op_load_aggH hG rfl ?_); exact ⟨[], rfl, rfl, rfl⟩)
  · simp only [withD, nthD, Step2, nthDst, putO, postD]
    (refine op_move ?_; exact ⟨[], rfl, rfl, rfl⟩)
  · simp only [withD, nthD, Step2, nthDst, putO, postD]
    (refine op_call ((bare _ ps _ (hsG _ fun e he => hG e (by simp [he])) (by omega)).mono ?_); rintro _ _ ⟨ex, a, c, rfl, rfl, hf⟩; exact ⟨ex, rfl, a, c, rfl, hf⟩)
  · simp only [withD, nthD, Step2, nthDst, putO, postD]
    rintro _ _ ⟨a1, c1, rfl, hf1⟩ -
    (refine op_call ((honl _ _ _ hf1 (hE.mono fun e he => hG e (by simp [he]))).mono ?_); rintro _ _ ⟨rfl, ex, rfl⟩; exact ⟨ex, rfl, rfl⟩)
  · simp only [withD, nthD, Step2, nthDst, putO, postD]
    rintro _ _ rfl -
    (refine op_move ?_; exact ⟨[], rfl, rfl, rfl⟩)
  · simp only [withD, nthD, Step2, nthDst, putO, postD]
    (refine op_extract ?_; exact ⟨[], rfl, rfl, rfl⟩)
  · simp only [withD, nthD, Step2, nthDst, putO, postD]
    (refine op_extract ?_; exact ⟨[], rfl, rfl, rfl⟩)
  · simp only [withD, nthD, Step2, nthDst, putO, postD]
    rintro _ _ rfl - _ _ ⟨a1, c1, rfl, hf1⟩ -
    (refine op_assign ?_; exact ⟨[], rfl, rfl, rfl⟩)
  simp only [FinalsD, nthDst, putO, List.drop_succ_cons, List.drop_zero]
  rintro _ _ _ _ ⟨rfl, ⟨a1, c1, rfl, hf1⟩, -⟩
  try simp only [List.nil_append]
  have hlss := near_lss hr4
  have hA2 : decide (A = true) = A := by cases A <;> rfl
  rw [hA2] at hlss
  repeat' first
    | (refine op_fcmp ?_; rw [hlss])
    | (first | refine tc_seq ?_ | refine tc_region ?_ | refine at_seq_normal ?_ | refine tl_nil ?_ | refine tl_cons ?_ | refine op_move ?_ | refine op_assign ?_ | refine op_load ?_ | refine op_load_agg ?_ | refine op_icmp ?_ | refine op_fcmp ?_ | refine op_bcmp ?_ | refine op_unop_not ?_ | refine op_len_slice ?_ | refine op_pick_true ?_ | refine op_pick_false ?_ | refine op_pick_true' ?_ | refine op_pick_false' ?_ | refine op_extract ?_ | (refine op_box ?_; intro _) | (refine op_buildSlice ?_; intro _) | refine op_loadK rfl ?_ | refine op_load_aggK rfl ?_ | refine tc_cond_t ?_ | refine tc_cond_f ?_ | refine tc_cond (fun _ => ?_) (fun _ => ?_) | refine tc_skip ?_ | refine tc_ret ?_ | refine at_seq_ret ?_ | refine tl_guard_yes ?_ | refine tl_guard_no ?_ | refine tl_guard_yes' ?_ | refine tl_guard_no' ?_ | refine tl_guard_undef ?_ | refine tl_guard_split (fun _ => ?_) (fun _ => ?_) | fail)
    | fail
  exact ret_tmp (hG := by (repeat (first | exact List.Sublist.refl _ | apply List.Sublist.cons_cons | apply List.Sublist.cons | refine List.Sublist.trans ?_ (List.sublist_append_right _ _)))) (hk := ⟨congrArg Value.bool (by simp [bcmp]), rfl⟩)
theorem cell_flt {P : Program} {w : World} {g : Nat} {t : TypeId} {zero : Array Value} (h : w.ShapedOpen P) (hg : g < P.globals.size) (h0 : ((begin P (fun _ _ => 0) default).world.heap[g]?).bind Obj.row? = some (zero, t)) (hz : zero.size = 1)
    (hb : P.buildable t = true) (hc : P.cellTypes P.depth t = some [t]) (hu : P.underlying t = some (.float .f64)) : ∃ e T fz, w.heap[g]? = some (.cells ⟨[.float .f64 e]⟩ T fz) := by
  obtain ⟨cs, hh, hs, hr⟩ := h.1 g zero t hg h0
  obtain ⟨ts, hts, _, hall⟩ := hr hb
  rw [hc] at hts
  cases hts
  have h1 : cs.size = 1 := by omega
  obtain ⟨l⟩ := cs
  match l, h1 with
  | [x], _ =>
    obtain ⟨u, hu', hok⟩ := hall 0 x (by simp)
    have : u = t := by simpa using hu'.symm
    subst this
    unfold Cell.ok at hok
    rw [hu] at hok
    cases x <;> simp at hok

    obtain ⟨rfl, -⟩ := hok
    exact ⟨_, _, _, hh⟩
theorem eps_of {W : World} (hsh : W.ShapedOpen Try.prog) : Eps (all W) := by
  obtain ⟨e, T, fz, h⟩ := cell_flt (g := 1) (t := 36) (zero := #[.float .f64 0]) hsh (of_decide_eq_true (by kernel_rfl)) (by kernel_rfl) rfl (by kernel_rfl) (by kernel_rfl) Try.underlying36
  exact ⟨e, T, fz, mem_all.2 h⟩
theorem own : ownKnob Try.prog.godebug = none := by kernel_rfl
theorem laid : laidOutB Try.prog = true := by kernel_rfl
set_option maxRecDepth 100000 in
theorem lifted (os : Os) (started : os.Started) (H : Type) (enc : TypeId × Value → H) :
    ReturnsInHanded {} Try.checked os 4 .any (Rows.fnPointLinesOnSpec.pre6 enc Try.prog Try.f4 Rows.fnPointLinesOnRow.domain false) (Rows.fnPointLinesOnSpec.post enc Try.prog Try.f4 false true false false) := by
  refine returnsInHanded_of_change_shaped (C := Try.checked) own started (by kernel_rfl) Try.func4
    (ChangeSpec.witness6 (enc := enc) (C := Try.checked) false ⟨#[], #[.agg #[.float .f64 0, .float .f64 0], .slice none 0 0], []⟩ 8 (by kernel_rfl) (by kernel_rfl) (by kernel_rfl) (by kernel_rfl)) ?_
  intro W base args ds gs before hval0 hW hcnd _ hsh _
  have hval : ∀ (j : Nat) t v, Try.f4.params[j]? = some t → args[j]? = some v → Value.okWide Try.prog W .any base t v := hval0
  have hW' := hW
  obtain ⟨p, q, hA0, hV, rfl, hfz, hnd⟩ := hW
  have hA : DataW.TrodAll enc Try.prog W 0 (fun _ => true) true Try.f4.params.toList args.toList ds p := hA0
  rw [Try.params4] at hA hval
  obtain ⟨v0, vs0, d0, ds0, p0, q0, hargs, rfl, rfl, h0, r0⟩ := trodAll_cons hA
  obtain ⟨v1, vs1, d1, ds1, p1, q1, rfl, rfl, rfl, h1, r1⟩ := trodAll_cons r0
  obtain ⟨rfl, rfl, rfl⟩ := trodAll_nil r1
  obtain rfl : args = #[v0, v1] := by cases args; simp_all
  obtain ⟨rfl, rfl⟩ := trodVars_none hV
  obtain ⟨x0, y0, rfl, bx0, by0⟩ := open_p2 Try.underlying38 (by kernel_rfl) (by kernel_rfl) Try.underlying36 Try.underlying36 (hval 0 38 v0 rfl rfl) h0
  obtain ⟨ps1, hs1, hl1, hb1⟩ := open_pairs blk Try.underlying39 Try.underlying38 rfl (by kernel_rfl) rfl rfl (by kernel_rfl) (by kernel_rfl) Try.underlying36 Try.underlying36 (hval 1 39 v1 rfl rfl) h1
  clear hA0 hval0
  refine (calls_of_does (law (H := all W) x0 y0 bx0 by0 v1 ps1 hs1 hl1 hb1 (eps_of hsh)) (sees_all W)).mono fun e W' ⟨v, H', he, hs, hv, hH⟩ => ?_
  subst he
  subst hv
  subst hH
  exact ⟨_, rfl, post_law laid (of_decide_eq_true (by kernel_rfl)) rfl hW' rfl rfl Try.underlying4 hs.below⟩
theorem over : Rows.fnPointLinesOnRow.holds Try.pinned (OpenSpec.ofChange Rows.fnPointLinesOnSpec) :=
  OpenClaim.holds_of_wide 4 Try.f4 rfl rfl rfl rfl rfl rfl rfl ⟨rfl, rfl, rfl, rfl, rfl⟩ rfl rfl rfl rfl rfl (by kernel_rfl) Try.func4 (by kernel_rfl)
    (of_decide_eq_true (by kernel_rfl)) (by unfold Func.isWrapper; first | (rw [if_pos (by decide +kernel)]; kernel_rfl) | (rw [if_neg (by decide +kernel)]; exact ⟨rfl, rfl⟩))
    (fun os started H enc _ => lifted os started H enc)
/-- The statement. -/
theorem proved : Rows.FnPointLinesOnSaid := over
#print axioms proved
end Go.Proofs.Ythafjfgmbmpfoaa.fnPointLinesOn
