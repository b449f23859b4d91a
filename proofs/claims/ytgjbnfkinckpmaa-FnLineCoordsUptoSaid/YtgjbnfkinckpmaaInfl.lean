/-
  A row taken apart into its places, and copied. No conditions.
-/
import Derived.Test.YtgjbnfkinckpmaaRowz
set_option linter.unusedVariables false
set_option linter.unusedSimpArgs false
namespace Go.Proofs.Ytgjbnfkinckpmaa.Flat
open Go.Lg

theorem inflate0 (a : Option Addr) (c : Nat) (xs : List Nat) (off s : Nat) (H : Heap) (hf : FS H (.slice a xs.length c) xs) (h : off + s ≤ xs.length) (hb : xs.length < 2 ^ 40) :
    Does Try.prog 87 [.slice a xs.length c, .int .i64 (off : Int), .int .i64 ((off + s : Nat) : Int), .int .i64 (s : Int)] H
      fun w H' => ∃ k, w = .slice (some ⟨k, 0, none⟩) s s ∧ H' = (k, .cells ⟨((xs.drop off).take s).map fl⟩ 93 (0, 0)) :: H := by
  have hcap := hf.cap
  have hcut := FS.cut hf (l := off) (h := off + s) (by omega) h
  rw [show off + s - off = s by omega] at hcut
  have hl : ((xs.drop off).take s).length = s := by simp; omega
  have hN := FS.toN hcut
  rw [hl] at hN
  have hne : icmp .neq (IntKind.i64.wrap (iarith .add (off : Int) (s : Int))) ((off + s : Nat) : Int) = false := by
    rw [wrap_add (by omega) (by omega)]; simp only [icmp, bne_eq_false_iff_eq]; omega
  refine fn_enter 25 Try.func87 fun W => ?_
  repeat' first
    | (first | refine tc_seq ?_ | refine tc_region ?_ | refine at_seq_normal ?_ | refine tl_nil ?_ | refine tl_cons ?_ | refine tl_cons_none ?_ | refine op_move ?_ | refine op_assign ?_ | refine op_fieldAddr ?_ | refine op_load ?_ | refine op_load_agg ?_ | refine op_indexC ?_ | refine op_indexAddr1 ?_ | refine op_indexAddr ?_ | refine op_icmp ?_ | refine op_fcmp ?_ | refine op_iarith ?_ | refine op_bcmp ?_ | refine op_unop_not ?_ | refine op_unop_neg_float ?_ | refine op_unop_neg_int ?_ | refine op_len_slice ?_ | refine op_pick_true ?_ | refine op_pick_false ?_ | refine op_pick_true' ?_ | refine op_pick_false' ?_ | refine op_build ?_ | refine op_extract ?_ | refine op_makeInterface ?_ | refine op_typeAssert ?_ | refine op_ptr_nil ?_ | refine op_nilCheck_ptr ?_ | refine op_nilCheck_meth ?_ | refine op_makeMeth ?_ | refine op_makeFunc ?_ | refine op_itof ?_ | refine op_itoi ?_ | refine op_ftoi ?_ | refine op_iquo ?_ | refine op_irem ?_ | refine op_ibits ?_ | refine op_slice_isnil ?_ | refine op_slice_notnil ?_ | refine op_imax ?_ | refine op_imin ?_ | refine op_shl ?_ | refine op_shr ?_ | (refine op_alloc ?_; intro _) | (refine op_box ?_; intro _) | (refine op_buildSlice ?_; intro _) | (refine op_farith ?_; intro _ _) | refine op_store0 ?_ | refine op_store1 ?_ | refine op_store2 ?_ | refine op_store3 ?_ | refine op_store4 ?_ | refine op_store5 ?_ | refine op_storeK rfl ?_ | refine op_loadK rfl ?_ | refine op_load_aggK rfl ?_ | refine tc_cond_t ?_ | refine tc_cond_f ?_ | refine tc_cond (fun _ => ?_) (fun _ => ?_) | refine tc_skip ?_ | refine tc_ret ?_ | refine at_seq_ret ?_ | fail)
    | (refine op_makeSlice (l := s) (c := s) (fun k => ?_) (Nat.le_refl _) (by omega) (by omega); rw [made_rep])
    | (refine op_slice_lh (l := off) (h := off + s) ?_)
    | (refine op_copy (A := []) ?_ (hN.mono fun e he => by simp [he]) (oneCell_fl _))
  have e : spliceAt (List.replicate s (Value.float .f64 0)) 0 ((((xs.drop off).take s).map fl).take (min s s)) = ((xs.drop off).take s).map fl := by
    rw [Nat.min_self, List.take_of_length_le (by simp; omega), splice_all (by simp; omega)]
  rw [e]
  exact ret_tmp (hk := ⟨k, rfl, rfl⟩)

set_option maxHeartbeats 8000000 in
theorem inflate1 (a : Option Addr) (c : Nat) (xs : List Nat) (n s : Nat) (H : Heap) (hf : FS H (.slice a xs.length c) xs) (h : xs.length = n * s) (hs : 0 < s) (hb : xs.length < 2 ^ 40) :
    Does Try.prog 91 [.slice a xs.length c, .int .i64 0, .int .i64 (xs.length : Int), .int .i64 (s : Int)] H
      fun w H' => ∃ ex, H' = ex ++ H ∧ SN H' w ((chunks s n xs).map some) := by
  have hsm : s ≤ 2 ^ 40 ∨ n = 0 := by
    rcases Nat.eq_zero_or_pos n with h0 | h0
    · exact .inr h0
    · left; have := Nat.le_mul_of_pos_left s h0; omega
  have hnl : n ≤ xs.length := by rw [h]; exact Nat.le_mul_of_pos_right n hs
  have hs0 : (s : Int) ≠ 0 := by omega
  have hq : IntKind.i64.wrap ((IntKind.i64.wrap (iarith .sub (xs.length : Int) 0)).tdiv (s : Int)) = (n : Int) := by
    rw [wrap_sub (by omega) (by omega), h, Int.sub_zero, Int.natCast_mul, Int.mul_tdiv_cancel _ hs0, wrap_in (by omega) (by omega)]
  refine fn_enter 37 Try.func91 fun W => ?_
  repeat' first
    | (first | refine tc_seq ?_ | refine tc_region ?_ | refine at_seq_normal ?_ | refine tl_nil ?_ | refine tl_cons ?_ | refine tl_cons_none ?_ | refine op_move ?_ | refine op_assign ?_ | refine op_fieldAddr ?_ | refine op_load ?_ | refine op_load_agg ?_ | refine op_indexC ?_ | refine op_indexAddr1 ?_ | refine op_indexAddr ?_ | refine op_icmp ?_ | refine op_fcmp ?_ | refine op_iarith ?_ | refine op_bcmp ?_ | refine op_unop_not ?_ | refine op_unop_neg_float ?_ | refine op_unop_neg_int ?_ | refine op_len_slice ?_ | refine op_pick_true ?_ | refine op_pick_false ?_ | refine op_pick_true' ?_ | refine op_pick_false' ?_ | refine op_build ?_ | refine op_extract ?_ | refine op_makeInterface ?_ | refine op_typeAssert ?_ | refine op_ptr_nil ?_ | refine op_nilCheck_ptr ?_ | refine op_nilCheck_meth ?_ | refine op_makeMeth ?_ | refine op_makeFunc ?_ | refine op_itof ?_ | refine op_itoi ?_ | refine op_ftoi ?_ | refine op_iquo ?_ | refine op_irem ?_ | refine op_ibits ?_ | refine op_slice_isnil ?_ | refine op_slice_notnil ?_ | refine op_imax ?_ | refine op_imin ?_ | refine op_shl ?_ | refine op_shr ?_ | (refine op_alloc ?_; intro _) | (refine op_box ?_; intro _) | (refine op_buildSlice ?_; intro _) | (refine op_farith ?_; intro _ _) | refine op_store0 ?_ | refine op_store1 ?_ | refine op_store2 ?_ | refine op_store3 ?_ | refine op_store4 ?_ | refine op_store5 ?_ | refine op_storeK rfl ?_ | refine op_loadK rfl ?_ | refine op_load_aggK rfl ?_ | refine tc_cond_t ?_ | refine tc_cond_f ?_ | refine tc_cond (fun _ => ?_) (fun _ => ?_) | refine tc_block ?_ | refine tc_skip ?_ | refine tc_ret ?_ | refine tc_exit ?_ | refine at_seq_ret ?_ | refine at_seq_exit ?_ | refine at_block_normal ?_ | refine at_block_ret ?_ | refine at_block_exit_self ?_ | refine at_block_exit_ne ?_ | refine at_loop_ret ?_ | refine at_loop_exit ?_ | fail)
    | (refine op_makeSlice (l := n) (c := n) (fun kc => ?_) (Nat.le_refl _) (by omega) (by omega) (hx := gete (by exact rfl) hq) (hy := gete (by exact rfl) hq); rw [made_rep])
  refine tc_loopK [(0, _), (3, _), (8, _), (9, _), (18, _)] (by repeat (first | exact trivial | refine ⟨rfl, ?_⟩)) (fun p : Nat × Heap × List Value => [(19, .int .i64 (p.1 : Int)), (1, .int .i64 ((p.1 * s : Nat) : Int))])
    (fun p => p.2.1 ++ (kc, Obj.cells ⟨p.2.2 ++ List.replicate (n - p.1) (.slice none 0 0)⟩ 54 (0, 0)) :: H)
    (fun p => p.1 ≤ n ∧ p.2.2.length = p.1 ∧ All2 (RN (p.2.1 ++ H)) p.2.2 ((chunks s p.1 xs).map some)) (fun p => n - p.1) (0, [], []) ⟨Nat.zero_le _, rfl, trivial⟩ ⟨rfl, geti rfl (by simp), trivial⟩ (by simp) ?_
  rintro ⟨j, pre, ws⟩ ⟨hj, hwl, hws⟩
  simp only at hj hwl hws ⊢
  by_cases hlt : j < n
  · have hbb : icmp .lss (j : Int) (n : Int) = true := by rw [lss_nat]; simpa using hlt
    have hjs : j * s + s ≤ xs.length := by rw [h, ← Nat.succ_mul]; exact Nat.mul_le_mul_right _ hlt
    have hw := wrap_add (a := ((j * s : Nat) : Int)) (b := (s : Int)) (by omega) (by omega)
    have hw2 : IntKind.i64.wrap (iarith .add ((j * s : Nat) : Int) (s : Int)) = ((j * s + s : Nat) : Int) := by rw [hw]; omega
    have hcl : ((xs.drop (j * s)).take s).length = s := by simp; omega
    repeat' first
      | (first | refine tc_seq ?_ | refine tc_region ?_ | refine at_seq_normal ?_ | refine tl_nil ?_ | refine tl_cons ?_ | refine tl_cons_none ?_ | refine op_move ?_ | refine op_assign ?_ | refine op_fieldAddr ?_ | refine op_load ?_ | refine op_load_agg ?_ | refine op_indexC ?_ | refine op_indexAddr1 ?_ | refine op_indexAddr ?_ | refine op_icmp ?_ | refine op_fcmp ?_ | refine op_iarith ?_ | refine op_bcmp ?_ | refine op_unop_not ?_ | refine op_unop_neg_float ?_ | refine op_unop_neg_int ?_ | refine op_len_slice ?_ | refine op_pick_true ?_ | refine op_pick_false ?_ | refine op_pick_true' ?_ | refine op_pick_false' ?_ | refine op_build ?_ | refine op_extract ?_ | refine op_makeInterface ?_ | refine op_typeAssert ?_ | refine op_ptr_nil ?_ | refine op_nilCheck_ptr ?_ | refine op_nilCheck_meth ?_ | refine op_makeMeth ?_ | refine op_makeFunc ?_ | refine op_itof ?_ | refine op_itoi ?_ | refine op_ftoi ?_ | refine op_iquo ?_ | refine op_irem ?_ | refine op_ibits ?_ | refine op_slice_isnil ?_ | refine op_slice_notnil ?_ | refine op_imax ?_ | refine op_imin ?_ | refine op_shl ?_ | refine op_shr ?_ | (refine op_alloc ?_; intro _) | (refine op_box ?_; intro _) | (refine op_buildSlice ?_; intro _) | (refine op_farith ?_; intro _ _) | refine op_store0 ?_ | refine op_store1 ?_ | refine op_store2 ?_ | refine op_store3 ?_ | refine op_store4 ?_ | refine op_store5 ?_ | refine op_storeK rfl ?_ | refine op_loadK rfl ?_ | refine op_load_aggK rfl ?_ | refine tc_cond_t ?_ | refine tc_cond_f ?_ | refine tc_cond (fun _ => ?_) (fun _ => ?_) | refine tc_block ?_ | refine tc_skip ?_ | refine tc_ret ?_ | refine tc_exit ?_ | refine at_seq_ret ?_ | refine at_seq_exit ?_ | refine at_block_normal ?_ | refine at_block_ret ?_ | refine at_block_exit_self ?_ | refine at_block_exit_ne ?_ | refine at_loop_ret ?_ | refine at_loop_exit ?_ | fail)
      | (refine op_call (vs := [.slice a xs.length c, .int .i64 ((j * s : Nat) : Int), .int .i64 ((j * s + s : Nat) : Int), .int .i64 (s : Int)]) ((inflate0 a c xs (j * s) s _ (hf.mono fun e he => by simp [he]) hjs hb).mono ?_) (by rw [← hw2]; exact rfl); rintro _ _ ⟨k, rfl, rfl⟩)
      | (refine op_store (A := (_, _) :: pre) (l' := (ws ++ [_]) ++ List.replicate (n - (j + 1)) (.slice none 0 0)) ?_ (hroom := by simp; omega) (hnew := by simp only [setCells, Nat.zero_add]; rw [← hwl, show n - ws.length = (n - (ws.length + 1)) + 1 by omega, set_snoc, hwl]))
    refine at_loopK (j + 1, (_, _) :: pre, ws ++ [_]) ⟨hlt, by simp [hwl], ?_⟩ (by simp only; omega) ⟨next_nat (by omega), geti rfl (by rw [hw2, Nat.add_mul, Nat.one_mul]), trivial⟩ (by repeat (first | exact trivial | refine ⟨rfl, ?_⟩)) (List.Sublist.refl _)
    simp only
    rw [chunks_succ, List.map_append]
    refine All2.snoc (hws.mono fun _ _ h => h.mono fun e he => List.mem_cons_of_mem _ he) ⟨some ⟨_, 0, none⟩, s, by rw [hcl], by simp, ?_⟩
    have := fs_new (k := k) (G := (k, Obj.cells ⟨((xs.drop (j * s)).take s).map fl⟩ 93 (0, 0)) :: pre ++ H) ((xs.drop (j * s)).take s) List.mem_cons_self
    rw [hcl] at this
    exact this
  · have hbb : icmp .lss (j : Int) (n : Int) = false := by rw [lss_nat]; simpa using hlt
    have hjn : j = n := by omega
    subst hjn
    repeat' first
      | refine tc_seq ?_ | refine tc_region ?_ | refine at_seq_normal ?_ | refine tl_nil ?_ | refine tl_cons ?_ | refine tl_cons_none ?_ | refine op_move ?_ | refine op_assign ?_ | refine op_fieldAddr ?_ | refine op_load ?_
      | refine op_load_agg ?_ | refine op_indexC ?_ | refine op_indexAddr1 ?_ | refine op_indexAddr ?_ | refine op_icmp ?_ | refine op_fcmp ?_ | refine op_iarith ?_ | refine op_bcmp ?_ | refine op_unop_not ?_ | refine op_unop_neg_float ?_
      | refine op_unop_neg_int ?_ | refine op_len_slice ?_ | refine op_pick_true ?_ | refine op_pick_false ?_ | refine op_pick_true' ?_ | refine op_pick_false' ?_ | refine op_build ?_ | refine op_extract ?_ | refine op_makeInterface ?_ | refine op_typeAssert ?_
      | refine op_ptr_nil ?_ | refine op_nilCheck_ptr ?_ | refine op_nilCheck_meth ?_ | refine op_makeMeth ?_ | refine op_makeFunc ?_ | refine op_itof ?_ | refine op_itoi ?_ | refine op_ftoi ?_ | refine op_iquo ?_ | refine op_irem ?_
      | refine op_ibits ?_ | refine op_slice_isnil ?_ | refine op_slice_notnil ?_ | refine op_imax ?_ | refine op_imin ?_ | refine op_shl ?_ | refine op_shr ?_ | (refine op_alloc ?_; intro _) | (refine op_box ?_; intro _) | (refine op_buildSlice ?_; intro _)
      | (refine op_farith ?_; intro _ _) | refine op_store0 ?_ | refine op_store1 ?_ | refine op_store2 ?_ | refine op_store3 ?_ | refine op_store4 ?_ | refine op_store5 ?_ | refine op_storeK rfl ?_ | refine op_loadK rfl ?_ | refine op_load_aggK rfl ?_
      | refine tc_cond_t ?_ | refine tc_cond_f ?_ | refine tc_cond (fun _ => ?_) (fun _ => ?_) | refine tc_block ?_ | refine tc_skip ?_ | refine tc_ret ?_ | refine tc_exit ?_ | refine at_seq_ret ?_ | refine at_seq_exit ?_ | refine at_block_normal ?_
      | refine at_block_ret ?_ | refine at_block_exit_self ?_ | refine at_block_exit_ne ?_ | refine at_loop_ret ?_ | refine at_loop_exit ?_
    refine ret_tmp (hG := List.Sublist.refl _) (hk := ⟨pre ++ [(kc, Obj.cells ⟨ws ++ List.replicate (j - j) (.slice none 0 0)⟩ 54 (0, 0))], by simp, ws, ?_, hws.mono fun _ _ h => h.mono fun e he => by rcases List.mem_append.1 he with h | h <;> simp [h]⟩)
    rw [Nat.sub_self, List.replicate_zero, List.append_nil]
    exact ⟨_, j, by rw [hwl], by omega, fun _ => ⟨kc, 0, ws, 54, (0, 0), rfl, by simp, by rw [List.drop_zero, List.take_length]⟩⟩

theorem take_snoc {α : Type} {l : List α} {j : Nat} {x : α} (h : l[j]? = some x) : l.take (j + 1) = l.take j ++ [x] := by
  rw [List.take_add_one, h]; rfl
def nrm : Option (List Nat) → Option (List Nat)
  | some [] => none
  | r => r

set_option maxHeartbeats 8000000 in
theorem plain1 (v : Value) (rs : List (Option (List Nat))) (H : Heap) (hv : SN H v rs) (hb : rs.length < 2 ^ 40) (hbb : ∀ r ∈ rs, (r.getD []).length < 2 ^ 40) :
    Does Try.prog 17 [v] H fun w H' => ∃ ex, H' = ex ++ H ∧ SN ex w (rs.map nrm) := by
  obtain ⟨a1, c1, rfl⟩ := hv.val
  refine fn_enter 19 Try.func17 fun W => ?_
  repeat' first
    | refine tc_seq ?_ | refine tc_region ?_ | refine at_seq_normal ?_ | refine tl_nil ?_ | refine tl_cons ?_ | refine op_move ?_ | refine op_assign ?_ | refine op_load ?_ | refine op_load_agg ?_ | refine op_indexC ?_
    | refine op_indexAddr1 ?_ | refine op_indexAddr ?_ | refine op_icmp ?_ | refine op_iarith ?_ | refine op_len_slice ?_ | (refine op_buildSlice ?_; intro _) | refine op_loadK rfl ?_ | refine op_load_aggK rfl ?_ | refine tc_cond_t ?_ | refine tc_cond_f ?_
    | refine tc_cond (fun _ => ?_) (fun _ => ?_) | refine tc_block ?_ | refine tc_skip ?_ | refine tc_ret ?_ | refine tc_exit ?_ | refine at_seq_ret ?_ | refine at_seq_exit ?_ | refine at_block_normal ?_ | refine at_block_ret ?_ | refine at_block_exit_self ?_
    | refine at_block_exit_ne ?_ | refine at_loop_ret ?_ | refine at_loop_exit ?_
  refine tc_loopK [(2, _), (6, _), (7, _)] (by repeat (first | exact trivial | refine ⟨rfl, ?_⟩)) (fun p : Nat × Buf × List Value × Heap => [(8, .int .i64 (p.1 : Int)), (3, bufV p.2.1 p.1)]) (fun p => bufH 22 p.2.1 p.2.2.1 (p.2.2.2 ++ H))
    (fun p => p.1 ≤ rs.length ∧ bufOk 1 p.2.1 p.1 p.2.2.1 ∧ All2 (RN p.2.2.2) p.2.2.1 ((rs.take p.1).map nrm)) (fun p => rs.length - p.1) (0, none, [], []) ⟨Nat.zero_le _, ⟨rfl, rfl⟩, by simp [All2]⟩ ⟨rfl, rfl, trivial⟩ (List.Sublist.refl _) ?_
  rintro ⟨j, buf, ws, pre⟩ ⟨hj, hok, hws⟩
  simp only at hj hok hws ⊢
  by_cases hlt : j < rs.length
  · have hlb : icmp .lss (j : Int) (rs.length : Int) = true := by rw [lss_nat]; simpa using hlt
    have t1 : rs[j]? = some rs[j] := List.getElem?_eq_getElem hlt
    have hbj := hbb _ (List.getElem_mem hlt)
    have hv2 := hv.mono (G' := bufH 22 buf ws (pre ++ H)) fun e he => (bufH_sub _ _ _ _).subset (by simp [he])
    obtain ⟨k1, o1, l1, T1, z1, _, x1, u1, mm1, ll1, r1, lt1⟩ := hv2.at t1
    cases u1
    generalize hr : rs[j] = r at *
    obtain ⟨a2, c2, rfl, f2, n2⟩ := r1.fs
    repeat' first
      | (first | refine tc_seq ?_ | refine tc_region ?_ | refine at_seq_normal ?_ | refine tl_nil ?_ | refine tl_cons ?_ | refine op_move ?_ | refine op_assign ?_ | refine op_load ?_ | refine op_load_agg ?_ | refine op_indexC ?_ | refine op_indexAddr1 ?_ | refine op_indexAddr ?_ | refine op_icmp ?_ | refine op_iarith ?_ | refine op_len_slice ?_ | (refine op_buildSlice ?_; intro _) | refine op_loadK rfl ?_ | refine op_load_aggK rfl ?_ | refine tc_cond_t ?_ | refine tc_cond_f ?_ | refine tc_cond (fun _ => ?_) (fun _ => ?_) | refine tc_block ?_ | refine tc_skip ?_ | refine tc_ret ?_ | refine tc_exit ?_ | refine at_seq_ret ?_ | refine at_seq_exit ?_ | refine at_block_normal ?_ | refine at_block_ret ?_ | refine at_block_exit_self ?_ | refine at_block_exit_ne ?_ | refine at_loop_ret ?_ | refine at_loop_exit ?_ | fail)
      | (refine op_call ((floatsF _ _ _ f2 hbj).mono ?_); rintro _ _ ⟨ex, a3, c3, rfl, rfl, f3, n3, n4⟩)
      | (refine op_perm (bufH_app 22 buf ws ((_, _) :: ex) (pre ++ H)) ?_
         refine op_append (H' := ((_, _) :: ex) ++ (pre ++ H)) buf j ws [.slice a3 _ c3] (m := 1) hok (fun buf' hok' => ?_) (by exact rfl) (by exact rfl) (List.Sublist.refl _) ((bufH_sub _ _ _ _).subset List.mem_cons_self) rfl rfl (by simp [Value.oneCell']) (by decide) (by simp only [maxLen]; omega) (by omega))
    refine at_loopK (j + 1, buf', ws ++ [_], ((_, _) :: ex) ++ pre) ⟨hlt, hok', ?_⟩ (by simp only; omega) ⟨next_nat (by omega), rfl, trivial⟩ (by repeat (first | exact trivial | refine ⟨rfl, ?_⟩)) (by simp only [List.append_assoc]; exact List.Sublist.refl _)
    simp only
    rw [take_snoc t1, List.map_append]
    have hmem : ∀ (x : Nat × Obj) e, e ∈ pre → e ∈ (x :: ex) ++ pre := fun x e he => List.mem_append_right _ he
    have hmem2 : ∀ (x : Nat × Obj) e, e ∈ ex → e ∈ (x :: ex) ++ pre := fun x e he => by simp [he]
    refine All2.snoc (hws.mono fun _ _ h => h.mono (hmem _)) ?_
    cases hrr : r with
    | none => subst hrr; exact n4 rfl
    | some xs =>
      subst hrr
      cases xs with
      | nil => exact n4 rfl
      | cons y ys => exact ⟨a3, c3, rfl, n3 (by simp), f3.mono (hmem2 _)⟩
  · have hlb : icmp .lss (j : Int) (rs.length : Int) = false := by rw [lss_nat]; simpa using hlt
    have hjn : j = rs.length := by omega
    subst hjn
    rw [List.take_length] at hws
    have hsl := sl_buf (e := 22) (H := pre) hok
    repeat' first
      | refine tc_seq ?_ | refine tc_region ?_ | refine at_seq_normal ?_ | refine tl_nil ?_ | refine tl_cons ?_ | refine op_move ?_ | refine op_assign ?_ | refine op_load ?_ | refine op_load_agg ?_ | refine op_indexC ?_
      | refine op_indexAddr1 ?_ | refine op_indexAddr ?_ | refine op_icmp ?_ | refine op_iarith ?_ | refine op_len_slice ?_ | (refine op_buildSlice ?_; intro _) | refine op_loadK rfl ?_ | refine op_load_aggK rfl ?_ | refine tc_cond_t ?_ | refine tc_cond_f ?_
      | refine tc_cond (fun _ => ?_) (fun _ => ?_) | refine tc_block ?_ | refine tc_skip ?_ | refine tc_ret ?_ | refine tc_exit ?_ | refine at_seq_ret ?_ | refine at_seq_exit ?_ | refine at_block_normal ?_ | refine at_block_ret ?_ | refine at_block_exit_self ?_
      | refine at_block_exit_ne ?_ | refine at_loop_ret ?_ | refine at_loop_exit ?_
    refine ret_tmp (hG := List.Sublist.refl _) (hk := ⟨bufH 22 buf ws pre, by cases buf <;> rfl, ws, hsl, hws.mono fun _ _ h => h.mono (bufH_sub _ _ _ _).subset⟩)
end Go.Proofs.Ytgjbnfkinckpmaa.Flat
