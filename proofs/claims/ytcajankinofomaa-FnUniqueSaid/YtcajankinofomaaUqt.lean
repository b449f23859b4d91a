/-
  transform.TreeSet: a search tree of places in the memory. No conditions but the bounds.
-/
import Derived.Test.YtcajankinofomaaUqw
set_option linter.unusedVariables false
set_option linter.unusedSimpArgs false
namespace Go.Proofs.Ytcajankinofomaa.Uq
open Go.Lg

instance concCmp : Conc Try.prog 55 where
  eq := by kernel_rfl
set_option maxRecDepth 20000 in
instance methEq : MethI Try.prog 55 "IsEquals" 67 where
  eq := fun m args w => by kernel_rfl
set_option maxRecDepth 20000 in
instance methLess : MethI Try.prog 55 "IsLess" 68 where
  eq := fun m args w => by kernel_rfl
abbrev nodeO (l : Value) (c : Value) (r : Value) : Obj := .cells ⟨[l, c, r]⟩ 123 (0, 0)
def Tr.hp : Tr → Heap
  | .nil => []
  | .node k c _ l r => (k, nodeO l.ptr c r.ptr) :: (l.hp ++ r.hp)
abbrev setO (how layout s : Int) (size : Int) (p : Value) : Obj := .cells ⟨[.iface 55 (.int .i64 how), p, .int .i64 size, .int .i64 layout, .int .i64 s]⟩ 114 (0, 0)
theorem Tr.ptr_val (t : Tr) : ∃ p, t.ptr = .pointer p := by cases t <;> exact ⟨_, rfl⟩
section
variable {how : Int} {s : Nat} {p : List Nat} {k' : Nat} {c' : Value} {k : Nat} {c : Value} {row : List Nat} {l r : Tr}
theorem ins_eq (h : eqk how s p row = true) : (Tr.node k c row l r).ins how s p k' c' = .node k c row l r ∧ (Tr.node k c row l r).found how s p = true := by
  unfold Tr.ins Tr.found; rw [if_pos h, if_pos h]; exact ⟨rfl, rfl⟩
theorem ins_lt (h : eqk how s p row = false) (h2 : lss how s p row = true) : (Tr.node k c row l r).ins how s p k' c' = .node k c row (l.ins how s p k' c') r ∧ (Tr.node k c row l r).found how s p = l.found how s p := by
  constructor <;> simp [Tr.ins, Tr.found, h, h2]
theorem ins_gt (h : eqk how s p row = false) (h2 : lss how s p row = false) : (Tr.node k c row l r).ins how s p k' c' = .node k c row l (r.ins how s p k' c') ∧ (Tr.node k c row l r).found how s p = r.found how s p := by
  constructor <;> simp [Tr.ins, Tr.found, h, h2]
end
theorem perm_l {x : Nat × Obj} {A B R : Heap} : List.Perm (A ++ x :: (B ++ R)) (x :: (A ++ B) ++ R) := by
  rw [List.cons_append, List.append_assoc]; exact List.perm_middle
theorem perm_r {x : Nat × Obj} {A B R : Heap} : List.Perm (B ++ x :: (A ++ R)) (x :: (A ++ B) ++ R) := by
  refine List.perm_middle.trans ?_
  rw [List.cons_append]
  refine List.Perm.cons _ ?_
  rw [← List.append_assoc]
  exact (List.perm_append_comm).append_right R
set_option maxHeartbeats 16000000 in
theorem insertImpl (how layout : Int) (s : Nat) (ks : Nat) (size : Int) (rp : Value) (v : Value) (p : List Nat) (hs : 2 ≤ s) (hs2 : s < 2 ^ 40) (np : Num s p) : ∀ (t : Tr) (R : Heap), t.all (fun c row => FS R c row ∧ Num s row) → FS R v p → (ks, setO how layout s size rp) ∈ R →
    Does Try.prog 46 [.pointer (some ⟨ks, 0, none⟩), t.ptr, v] (t.hp ++ R) fun w H' => ∃ k q, w = .tuple #[.pointer q, .bool (!t.found how s p)] ∧ (t.ins how s p k v).ptr = .pointer q ∧ List.Perm H' ((t.ins how s p k v).hp ++ R)
  | .nil, R, _, hv, hk => by
    obtain ⟨pa, pc, rfl⟩ := hv.val
    refine fn_enter 67 Try.func46 fun W => ?_
    have hpt : Tr.nil.ptr = .pointer none := rfl
    rw [hpt]
    repeat' first
      | refine tc_seq ?_ | refine tc_region ?_ | refine at_seq_normal ?_ | refine tl_nil ?_ | refine tl_cons ?_ | refine tl_cons_none ?_ | refine op_move ?_ | refine op_assign ?_ | refine op_fieldAddr ?_ | refine op_load ?_
      | refine op_load_agg ?_ | refine op_build ?_ | refine op_extract ?_ | refine op_ptr_nil ?_ | refine op_nilCheck_ptr ?_ | refine op_nilCheck_meth ?_ | (refine op_box ?_; intro _) | refine op_store0 ?_ | refine op_store1 ?_ | refine op_store2 ?_
      | refine op_store3 ?_ | refine op_store4 ?_ | refine op_store5 ?_ | refine op_storeK rfl ?_ | refine op_loadK rfl ?_ | refine op_load_aggK rfl ?_ | refine tc_cond_t ?_ | refine tc_cond_f ?_ | refine tc_cond (fun _ => ?_) (fun _ => ?_) | refine tc_skip ?_
      | refine tc_ret ?_ | refine at_seq_ret ?_
    rename_i kn
    exact ret_list rfl (.cons (.tmp rfl) (.cons (.tmp rfl) .nil)) rfl (List.Sublist.refl _) ⟨kn, _, rfl, rfl, List.Perm.refl _⟩ (.inl rfl)
  | .node k c row l r, R, ⟨⟨hc, nr⟩, hl, hr⟩, hv, hk => by
    obtain ⟨a, cc, rfl⟩ := hc.val
    have hv' := hv
    obtain ⟨pa, pc, rfl⟩ := hv.val
    refine fn_enter 67 Try.func46 fun W => ?_
    have hmk : (k, nodeO l.ptr (.slice a row.length cc) r.ptr) ∈ (Tr.node k (.slice a row.length cc) row l r).hp ++ R := by simp [Tr.hp]
    have hms : (ks, setO how layout s size rp) ∈ (Tr.node k (.slice a row.length cc) row l r).hp ++ R := List.mem_append_right _ hk
    have hR : ∀ e ∈ R, e ∈ (Tr.node k (.slice a row.length cc) row l r).hp ++ R := fun e he => List.mem_append_right _ he
    have hpt : (Tr.node k (.slice a row.length cc) row l r).ptr = .pointer (some ⟨k, 0, none⟩) := rfl
    have ihl := insertImpl how layout s ks size rp (.slice pa p.length pc) p hs hs2 np l ((k, nodeO l.ptr (.slice a row.length cc) r.ptr) :: (r.hp ++ R)) (hl.mono fun c r h => ⟨h.1.mono fun e he => by simp [he], h.2⟩) (hv'.mono fun e he => by simp [he]) (by simp [hk])
    have ihr := insertImpl how layout s ks size rp (.slice pa p.length pc) p hs hs2 np r ((k, nodeO l.ptr (.slice a row.length cc) r.ptr) :: (l.hp ++ R)) (hr.mono fun c r h => ⟨h.1.mono fun e he => by simp [he], h.2⟩) (hv'.mono fun e he => by simp [he]) (by simp [hk])
    rw [hpt]
    repeat' first
      | refine tc_seq ?_ | refine tc_region ?_ | refine at_seq_normal ?_ | refine tl_nil ?_ | refine tl_cons ?_ | refine tl_cons_none ?_ | refine op_move ?_ | refine op_assign ?_ | refine op_fieldAddr ?_ | refine op_load ?_
      | refine op_load_agg ?_ | refine op_build ?_ | refine op_extract ?_ | refine op_ptr_nil ?_ | refine op_nilCheck_ptr ?_ | refine op_nilCheck_meth ?_ | (refine op_box ?_; intro _) | refine op_store0 ?_ | refine op_store1 ?_ | refine op_store2 ?_
      | refine op_store3 ?_ | refine op_store4 ?_ | refine op_store5 ?_ | refine op_storeK rfl ?_ | refine op_loadK rfl ?_ | refine op_load_aggK rfl ?_ | refine tc_cond_t ?_ | refine tc_cond_f ?_ | refine tc_cond (fun _ => ?_) (fun _ => ?_) | refine tc_skip ?_
      | refine tc_ret ?_ | refine at_seq_ret ?_
    apply fun hole0 hole1 hole2 hole3 hole4 hole5 hole6 hole7 hole8 hole9 hole10 hE hD hml hdl hpr prem fin => tc_drawnD 12 [PhiD.is hole0, PhiD.is hole1, PhiD.is hole2, PhiD.is hole3, PhiD.is hole4, PhiD.is hole5, PhiD.is hole6, PhiD.is hole7, PhiD.is hole8, PhiD.is hole9, PhiD.is hole10, PhiD.is (.bool (eqk how s p row))]
      [some 14, some 15, some 16, some 17, some 18, some 19, some 20, some 21, some 22, some 23, some 24, some 25] [[], [0], [1], [2], [], [], [5], [6], [7], [3], [3, 9], [10, 4, 8]] mixed trivial prem fin hE hD rfl hml hdl hpr
    rotate_left 12
    · first | kernel_rfl | exact rfl
    · first | kernel_rfl | exact rfl
    · exact Nat.le_of_ble_eq_true rfl
    · first | kernel_rfl | exact rfl
    · first | kernel_rfl | exact rfl
    refine ⟨fun G hG => ?_, fun G hG => ?_, fun G hG => ?_, fun G hG => ?_, fun G hG => ?_, fun G hG => ?_, fun G hG => ?_, fun G hG => ?_, fun G hG => ?_, fun G hG => ?_, fun G hG => ?_, fun G hG => ?_, trivial⟩
    · simp only [withD, nthD, Step2, nthDst, putO, postD]
      (refine op_move ?_; exact ⟨[], rfl, rfl, rfl⟩)
    · simp only [withD, nthD, Step2, nthDst, putO, postD]
      ((first | refine op_nilCheck_ptr ?_ | refine op_nilCheck_meth ?_); exact ⟨[], rfl, rfl, rfl⟩)
    · simp only [withD, nthD, Step2, nthDst, putO, postD]
      (refine op_fieldAddr ?_; exact ⟨[], rfl, rfl, rfl⟩)
    · simp only [withD, nthD, Step2, nthDst, putO, postD]
      ((first | refine op_load ?_ | refine op_load_agg ?_ | refine op_load ?_ (hm := Sub.mem (by assumption) (by (repeat (apply List.mem_cons_of_mem)); assumption)) | refine op_load_agg ?_ (hm := Sub.mem (by assumption) (by (repeat (apply List.mem_cons_of_mem)); assumption)) | refine op_loadH hG rfl ?_ | refine op_load_aggH hG rfl ?_); exact ⟨[], rfl, rfl, rfl⟩)
    · simp only [withD, nthD, Step2, nthDst, putO, postD]
      (refine op_move ?_; exact ⟨[], rfl, rfl, rfl⟩)
    · simp only [withD, nthD, Step2, nthDst, putO, postD]
      (refine op_move ?_; exact ⟨[], rfl, rfl, rfl⟩)
    · simp only [withD, nthD, Step2, nthDst, putO, postD]
      ((first | refine op_nilCheck_ptr ?_ | refine op_nilCheck_meth ?_); exact ⟨[], rfl, rfl, rfl⟩)
    · simp only [withD, nthD, Step2, nthDst, putO, postD]
      (refine op_fieldAddr ?_; exact ⟨[], rfl, rfl, rfl⟩)
    · simp only [withD, nthD, Step2, nthDst, putO, postD]
      ((first | refine op_load ?_ | refine op_load_agg ?_ | refine op_load ?_ (hm := Sub.mem (by assumption) (by (repeat (apply List.mem_cons_of_mem)); assumption)) | refine op_load_agg ?_ (hm := Sub.mem (by assumption) (by (repeat (apply List.mem_cons_of_mem)); assumption)) | refine op_loadH hG rfl ?_ | refine op_load_aggH hG rfl ?_); exact ⟨[], rfl, rfl, rfl⟩)
    · simp only [withD, nthD, Step2, nthDst, putO, postD]
      (refine op_nilCheck_iface ?_; exact ⟨[], rfl, rfl, rfl⟩)
    · simp only [withD, nthD, Step2, nthDst, putO, postD]
      (refine op_move ?_; exact ⟨[], rfl, rfl, rfl⟩)
    · simp only [withD, nthD, Step2, nthDst, putO, postD]
      (refine op_invokeI (t := 55) (m := how) ((isEquals how s _ _ p row _ (hv'.mono fun e he => hG e (hR e he)) (hc.mono fun e he => hG e (hR e he)) np nr hs hs2).mono ?_); rintro _ _ ⟨rfl, rfl⟩; exact ⟨[], rfl, rfl, rfl⟩)
    simp only [FinalsD, nthDst, putO, List.drop_succ_cons, List.drop_zero]
    rintro -
    cases heq : eqk how s p row with
    | true =>
      have hi := ins_eq (k := k) (c := .slice a row.length cc) (l := l) (r := r) (k' := 0) (c' := .slice pa p.length pc) heq
      repeat' first
        | refine tc_seq ?_ | refine tc_region ?_ | refine at_seq_normal ?_ | refine tl_nil ?_ | refine tl_cons ?_ | refine tl_cons_none ?_ | refine op_move ?_ | refine op_assign ?_ | refine op_fieldAddr ?_ | refine op_load ?_
        | refine op_load_agg ?_ | refine op_build ?_ | refine op_extract ?_ | refine op_ptr_nil ?_ | refine op_nilCheck_ptr ?_ | refine op_nilCheck_meth ?_ | (refine op_box ?_; intro _) | refine op_store0 ?_ | refine op_store1 ?_ | refine op_store2 ?_
        | refine op_store3 ?_ | refine op_store4 ?_ | refine op_store5 ?_ | refine op_storeK rfl ?_ | refine op_loadK rfl ?_ | refine op_load_aggK rfl ?_ | refine tc_cond_t ?_ | refine tc_cond_f ?_ | refine tc_cond (fun _ => ?_) (fun _ => ?_) | refine tc_skip ?_
        | refine tc_ret ?_ | refine at_seq_ret ?_
      exact ret_list rfl (.cons (.tmp rfl) (.cons (.tmp rfl) .nil)) rfl (List.Sublist.refl _) ⟨0, _, by rw [hi.2]; rfl, by rw [hi.1]; rfl, by rw [hi.1]⟩ (.inl rfl)
    | false =>
      repeat' first
        | refine tc_seq ?_ | refine tc_region ?_ | refine at_seq_normal ?_ | refine tl_nil ?_ | refine tl_cons ?_ | refine tl_cons_none ?_ | refine op_move ?_ | refine op_assign ?_ | refine op_fieldAddr ?_ | refine op_load ?_
        | refine op_load_agg ?_ | refine op_build ?_ | refine op_extract ?_ | refine op_ptr_nil ?_ | refine op_nilCheck_ptr ?_ | refine op_nilCheck_meth ?_ | (refine op_box ?_; intro _) | refine op_store0 ?_ | refine op_store1 ?_ | refine op_store2 ?_
        | refine op_store3 ?_ | refine op_store4 ?_ | refine op_store5 ?_ | refine op_storeK rfl ?_ | refine op_loadK rfl ?_ | refine op_load_aggK rfl ?_ | refine tc_cond_t ?_ | refine tc_cond_f ?_ | refine tc_cond (fun _ => ?_) (fun _ => ?_) | refine tc_skip ?_
        | refine tc_ret ?_ | refine at_seq_ret ?_
      apply fun hole0 hole1 hole2 hole3 hole4 hole5 hole6 hole7 hole8 hole9 hole10 hE hD hml hdl hpr prem fin => tc_drawnD 12 [PhiD.is hole0, PhiD.is hole1, PhiD.is hole2, PhiD.is hole3, PhiD.is hole4, PhiD.is hole5, PhiD.is hole6, PhiD.is hole7, PhiD.is hole8, PhiD.is hole9, PhiD.is hole10, PhiD.is (.bool (lss how s p row))]
        [some 27, some 28, some 29, some 30, some 31, some 32, some 33, some 34, some 35, some 36, some 37, some 38] [[], [0], [1], [2], [], [], [5], [6], [7], [3], [3, 9], [10, 4, 8]] mixed trivial prem fin hE hD rfl hml hdl hpr
      rotate_left 12
      · first | kernel_rfl | exact rfl
      · first | kernel_rfl | exact rfl
      · exact Nat.le_of_ble_eq_true rfl
      · first | kernel_rfl | exact rfl
      · first | kernel_rfl | exact rfl
      refine ⟨fun G hG => ?_, fun G hG => ?_, fun G hG => ?_, fun G hG => ?_, fun G hG => ?_, fun G hG => ?_, fun G hG => ?_, fun G hG => ?_, fun G hG => ?_, fun G hG => ?_, fun G hG => ?_, fun G hG => ?_, trivial⟩
      · simp only [withD, nthD, Step2, nthDst, putO, postD]
        (refine op_move ?_; exact ⟨[], rfl, rfl, rfl⟩)
      · simp only [withD, nthD, Step2, nthDst, putO, postD]
        ((first | refine op_nilCheck_ptr ?_ | refine op_nilCheck_meth ?_); exact ⟨[], rfl, rfl, rfl⟩)
      · simp only [withD, nthD, Step2, nthDst, putO, postD]
        (refine op_fieldAddr ?_; exact ⟨[], rfl, rfl, rfl⟩)
      · simp only [withD, nthD, Step2, nthDst, putO, postD]
        ((first | refine op_load ?_ | refine op_load_agg ?_ | refine op_load ?_ (hm := Sub.mem (by assumption) (by (repeat (apply List.mem_cons_of_mem)); assumption)) | refine op_load_agg ?_ (hm := Sub.mem (by assumption) (by (repeat (apply List.mem_cons_of_mem)); assumption)) | refine op_loadH hG rfl ?_ | refine op_load_aggH hG rfl ?_); exact ⟨[], rfl, rfl, rfl⟩)
      · simp only [withD, nthD, Step2, nthDst, putO, postD]
        (refine op_move ?_; exact ⟨[], rfl, rfl, rfl⟩)
      · simp only [withD, nthD, Step2, nthDst, putO, postD]
        (refine op_move ?_; exact ⟨[], rfl, rfl, rfl⟩)
      · simp only [withD, nthD, Step2, nthDst, putO, postD]
        ((first | refine op_nilCheck_ptr ?_ | refine op_nilCheck_meth ?_); exact ⟨[], rfl, rfl, rfl⟩)
      · simp only [withD, nthD, Step2, nthDst, putO, postD]
        (refine op_fieldAddr ?_; exact ⟨[], rfl, rfl, rfl⟩)
      · simp only [withD, nthD, Step2, nthDst, putO, postD]
        ((first | refine op_load ?_ | refine op_load_agg ?_ | refine op_load ?_ (hm := Sub.mem (by assumption) (by (repeat (apply List.mem_cons_of_mem)); assumption)) | refine op_load_agg ?_ (hm := Sub.mem (by assumption) (by (repeat (apply List.mem_cons_of_mem)); assumption)) | refine op_loadH hG rfl ?_ | refine op_load_aggH hG rfl ?_); exact ⟨[], rfl, rfl, rfl⟩)
      · simp only [withD, nthD, Step2, nthDst, putO, postD]
        (refine op_nilCheck_iface ?_; exact ⟨[], rfl, rfl, rfl⟩)
      · simp only [withD, nthD, Step2, nthDst, putO, postD]
        (refine op_move ?_; exact ⟨[], rfl, rfl, rfl⟩)
      · simp only [withD, nthD, Step2, nthDst, putO, postD]
        (refine op_invokeI (t := 55) (m := how) ((isLess how s _ _ p row _ (hv'.mono fun e he => hG e (hR e he)) (hc.mono fun e he => hG e (hR e he)) np nr hs hs2).mono ?_); rintro _ _ ⟨rfl, rfl⟩; exact ⟨[], rfl, rfl, rfl⟩)
      simp only [FinalsD, nthDst, putO, List.drop_succ_cons, List.drop_zero]
      rintro -
      refine tl_perm (G' := (k, nodeO l.ptr (.slice a row.length cc) r.ptr) :: (l.hp ++ r.hp ++ R)) (by exact List.Perm.refl _) ?_
      cases hls : lss how s p row with
      | true =>
        repeat' first
          | (refine op_perm (G' := l.hp ++ (k, nodeO l.ptr (.slice a row.length cc) r.ptr) :: (r.hp ++ R)) perm_l ?_; refine op_call (ihl.mono ?_); rintro _ H1 ⟨k1, q1, rfl, hq1, hpm⟩; refine tl_perm (G' := (k, nodeO l.ptr (.slice a row.length cc) r.ptr) :: ((l.ins how s p k1 (.slice pa p.length pc)).hp ++ (r.hp ++ R))) ((List.perm_middle.symm).trans hpm.symm) ?_)
          | (first | refine tc_seq ?_ | refine tc_region ?_ | refine at_seq_normal ?_ | refine tl_nil ?_ | refine tl_cons ?_ | refine tl_cons_none ?_ | refine op_move ?_ | refine op_assign ?_ | refine op_fieldAddr ?_ | refine op_load ?_ | refine op_load_agg ?_ | refine op_build ?_ | refine op_extract ?_ | refine op_ptr_nil ?_ | refine op_nilCheck_ptr ?_ | refine op_nilCheck_meth ?_ | (refine op_box ?_; intro _) | refine op_store0 ?_ | refine op_store1 ?_ | refine op_store2 ?_ | refine op_store3 ?_ | refine op_store4 ?_ | refine op_store5 ?_ | refine op_storeK rfl ?_ | refine op_loadK rfl ?_ | refine op_load_aggK rfl ?_ | refine tc_cond_t ?_ | refine tc_cond_f ?_ | refine tc_cond (fun _ => ?_) (fun _ => ?_) | refine tc_skip ?_ | refine tc_ret ?_ | refine at_seq_ret ?_ | fail)
          | fail
        have hi := ins_lt (k := k) (c := .slice a row.length cc) (l := l) (r := r) (k' := k1) (c' := .slice pa p.length pc) heq hls
        exact ret_list rfl (.cons (.tmp rfl) (.cons (.tmp rfl) .nil)) rfl (List.Sublist.refl _) ⟨k1, _, by rw [hi.2]; rfl, by rw [hi.1]; rfl, by rw [hi.1, Tr.hp, hq1, List.cons_append, List.append_assoc]⟩ (.inl rfl)
      | false =>
        repeat' first
          | (refine op_perm (G' := r.hp ++ (k, nodeO l.ptr (.slice a row.length cc) r.ptr) :: (l.hp ++ R)) perm_r ?_; refine op_call (ihr.mono ?_); rintro _ H1 ⟨k1, q1, rfl, hq1, hpm⟩; refine tl_perm (G' := (k, nodeO l.ptr (.slice a row.length cc) r.ptr) :: ((r.ins how s p k1 (.slice pa p.length pc)).hp ++ (l.hp ++ R))) ((List.perm_middle.symm).trans hpm.symm) ?_)
          | (first | refine tc_seq ?_ | refine tc_region ?_ | refine at_seq_normal ?_ | refine tl_nil ?_ | refine tl_cons ?_ | refine tl_cons_none ?_ | refine op_move ?_ | refine op_assign ?_ | refine op_fieldAddr ?_ | refine op_load ?_ | refine op_load_agg ?_ | refine op_build ?_ | refine op_extract ?_ | refine op_ptr_nil ?_ | refine op_nilCheck_ptr ?_ | refine op_nilCheck_meth ?_ | (refine op_box ?_; intro _) | refine op_store0 ?_ | refine op_store1 ?_ | refine op_store2 ?_ | refine op_store3 ?_ | refine op_store4 ?_ | refine op_store5 ?_ | refine op_storeK rfl ?_ | refine op_loadK rfl ?_ | refine op_load_aggK rfl ?_ | refine tc_cond_t ?_ | refine tc_cond_f ?_ | refine tc_cond (fun _ => ?_) (fun _ => ?_) | refine tc_skip ?_ | refine tc_ret ?_ | refine at_seq_ret ?_ | fail)
          | fail
        have hi := ins_gt (k := k) (c := .slice a row.length cc) (l := l) (r := r) (k' := k1) (c' := .slice pa p.length pc) heq hls
        exact ret_list rfl (.cons (.tmp rfl) (.cons (.tmp rfl) .nil)) rfl (List.Sublist.refl _) ⟨k1, _, by rw [hi.2]; rfl, by rw [hi.1]; rfl, by rw [hi.1, Tr.hp, hq1]; exact List.perm_middle.symm.trans perm_r⟩ (.inl rfl)
end Go.Proofs.Ytcajankinofomaa.Uq
