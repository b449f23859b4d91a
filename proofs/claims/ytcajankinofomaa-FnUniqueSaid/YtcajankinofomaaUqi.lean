/-
  transform.UniqueCoords, impl.Unique, spec.Firsts. No conditions but the bounds.
-/
import Derived.Test.YtcajankinofomaaUqt
import Derived.Test.YtcajankinofomaaRowz
import Derived.Test.YtcajankinofomaaLg7
set_option linter.unusedVariables false
set_option linter.unusedSimpArgs false
namespace Go.Proofs.Ytcajankinofomaa.Uq
open Go.Lg Go.Proofs.Ytcajankinofomaa.Flat

def strideG (n : Int) : Int := if n = 0 then 0 else if n = 1 then 2 else if n = 2 then 3 else if n = 3 then 3 else if n = 4 then 4 else n
theorem layoutStride (n : Int) (H : Heap) : Does Try.prog 36 [.int .i64 n] H fun w H' => w = .int .i64 (strideG n) ∧ H' = H := by
  refine fn_enter 15 Try.func36 fun W => ?_
  repeat' first
    | refine tc_seq ?_ | refine tc_region ?_ | refine at_seq_normal ?_ | refine tl_nil ?_ | refine tl_cons ?_ | refine op_move ?_ | refine op_assign ?_ | refine op_icmp ?_ | refine op_fcmp ?_ | refine op_iarith ?_
    | refine op_bcmp ?_ | refine op_ptr_nil ?_ | refine op_iquo ?_ | refine op_irem ?_ | refine op_ibits ?_ | refine op_slice_isnil ?_ | refine op_slice_notnil ?_ | refine op_shl ?_ | refine op_shr ?_ | (refine op_farith ?_; intro _ _)
    | refine tc_cond_t ?_ | refine tc_cond_f ?_ | refine tc_cond (fun _ => ?_) (fun _ => ?_) | refine tc_block ?_ | refine tc_ret ?_ | refine at_seq_ret ?_ | refine at_block_normal ?_ | refine at_block_ret ?_
  all_goals (first | exact ret_tmp (hk := ⟨congrArg (Value.int .i64) (by simp only [icmp, decide_eq_true_eq, decide_eq_false_iff_not, beq_iff_eq, beq_eq_false_iff_ne, ne_eq] at *; unfold strideG; (repeat' split) <;> omega), rfl⟩))
theorem insert (how layout : Int) (s : Nat) (ks : Nat) (size : Int) (v : Value) (p : List Nat) (hs : 2 ≤ s) (hs2 : s < 2 ^ 40) (np : Num s p) (t : Tr) (R : Heap) (ht : t.all (fun c row => FS R c row ∧ Num s row)) (hv : FS R v p) :
    Does Try.prog 37 [.pointer (some ⟨ks, 0, none⟩), v] ((ks, setO how layout s size t.ptr) :: (t.hp ++ R)) fun w H' => ∃ k sz, w = .bool (!t.found how s p) ∧ List.Perm H' ((ks, setO how layout s sz (t.ins how s p k v).ptr) :: ((t.ins how s p k v).hp ++ R)) := by
  have himp := insertImpl how layout s ks size t.ptr v p hs hs2 np t ((ks, setO how layout s size t.ptr) :: R) (ht.mono fun c r h => ⟨h.1.mono fun e he => List.mem_cons_of_mem _ he, h.2⟩) (hv.mono fun e he => List.mem_cons_of_mem _ he) List.mem_cons_self
  obtain ⟨pa, pc, rfl⟩ := hv.val
  have h0 : icmp .eql (s : Int) 0 = false := by simp only [icmp]; exact beq_false_of_ne (by omega)
  have hl : icmp .lss (p.length : Int) (s : Int) = false := by rw [np.1]; simp only [icmp]; exact decide_eq_false (by omega)
  refine fn_enter 51 Try.func37 fun W => ?_
  repeat' first
    | (refine op_perm (G' := t.hp ++ (ks, setO how layout s size t.ptr) :: R) List.perm_middle ?_; refine op_call (himp.mono ?_); rintro _ H1 ⟨k1, q1, rfl, hq1, hpm⟩; refine tl_perm (G' := (ks, setO how layout s size t.ptr) :: ((t.ins how s p k1 (.slice pa p.length pc)).hp ++ R)) ((List.perm_middle.symm).trans hpm.symm) ?_)
    | (first | refine tc_seq ?_ | refine tc_region ?_ | refine at_seq_normal ?_ | refine tl_nil ?_ | refine tl_cons ?_ | refine tl_cons_none ?_ | refine op_move ?_ | refine op_assign ?_ | refine op_fieldAddr ?_ | refine op_load ?_ | refine op_load_agg ?_ | refine op_indexC ?_ | refine op_indexAddr1 ?_ | refine op_indexAddr ?_ | refine op_icmp ?_ | refine op_fcmp ?_ | refine op_iarith ?_ | refine op_bcmp ?_ | refine op_unop_not ?_ | refine op_unop_neg_float ?_ | refine op_unop_neg_int ?_ | refine op_len_slice ?_ | refine op_pick_true ?_ | refine op_pick_false ?_ | refine op_pick_true' ?_ | refine op_pick_false' ?_ | refine op_build ?_ | refine op_extract ?_ | refine op_makeInterface ?_ | refine op_typeAssert ?_ | refine op_ptr_nil ?_ | refine op_nilCheck_ptr ?_ | refine op_nilCheck_meth ?_ | refine op_makeMeth ?_ | refine op_makeFunc ?_ | refine op_itof ?_ | refine op_itoi ?_ | refine op_ftoi ?_ | refine op_iquo ?_ | refine op_irem ?_ | refine op_ibits ?_ | refine op_slice_isnil ?_ | refine op_slice_notnil ?_ | refine op_imax ?_ | refine op_imin ?_ | refine op_shl ?_ | refine op_shr ?_ | (refine op_alloc ?_; intro _) | (refine op_box ?_; intro _) | (refine op_buildSlice ?_; intro _) | (refine op_farith ?_; intro _ _) | refine op_store0 ?_ | refine op_store1 ?_ | refine op_store2 ?_ | refine op_store3 ?_ | refine op_store4 ?_ | refine op_store5 ?_ | refine op_storeK rfl ?_ | refine op_loadK rfl ?_ | refine op_load_aggK rfl ?_ | refine tc_cond_t ?_ | refine tc_cond_f ?_ | refine tc_cond (fun _ => ?_) (fun _ => ?_) | refine tc_skip ?_ | refine tc_ret ?_ | refine at_seq_ret ?_ | fail)
    | fail
  · exact ret_tmp (hk := ⟨k1, _, rfl, by rw [hq1]⟩)
  · rename_i hf
    have hf' : t.found how s p = true := by simpa using hf
    exact ret_tmp (hG := List.Sublist.refl _) (hk := ⟨k1, size, rfl, by rw [Tr.ins_same hf']⟩)
theorem newSet (n how : Int) (H : Heap) : Does Try.prog 35 [.int .i64 n, .iface 55 (.int .i64 how)] H fun w H' => ∃ k, w = .pointer (some ⟨k, 0, none⟩) ∧ H' = (k, setO how n (strideG n) 0 (.pointer none)) :: H := by
  refine fn_enter 11 Try.func35 fun W => ?_
  repeat' first
    | (refine op_call ((layoutStride _ _).mono ?_); rintro _ _ ⟨rfl, rfl⟩)
    | (first | refine tc_seq ?_ | refine tc_region ?_ | refine at_seq_normal ?_ | refine tl_nil ?_ | refine tl_cons ?_ | refine op_move ?_ | refine op_assign ?_ | refine op_build ?_ | (refine op_box ?_; intro _) | refine tc_ret ?_ | refine at_seq_ret ?_ | fail)
    | fail
  exact ret_tmp (hk := ⟨_, rfl, rfl⟩)
theorem chunk_num {s m i : Nat} {xs : List Nat} (hl : xs.length = m * s) (hn : ∀ x ∈ xs, fcmp .eql x x = true) (hi : i < m) : Num s ((xs.drop (i * s)).take s) := by
  have h1 : i * s + s ≤ xs.length := by rw [hl]; have := Nat.mul_le_mul_right s (show i + 1 ≤ m by omega); rw [Nat.add_mul, Nat.one_mul] at this; exact this
  refine ⟨by rw [List.length_take, List.length_drop]; omega, fun j hj => hn _ ?_⟩
  have hm : ((xs.drop (i * s)).take s)[j]? = some (((xs.drop (i * s)).take s).getD j 0) := by
    have : j < ((xs.drop (i * s)).take s).length := by rw [List.length_take, List.length_drop]; omega
    rw [List.getD_eq_getElem?_getD, List.getElem?_eq_getElem this]; rfl
  exact List.mem_of_mem_drop (List.mem_of_mem_take (List.mem_of_getElem? hm))
theorem first_cases (how : Int) (s : Nat) (out : List (List Nat)) (p : List Nat) {f : Bool} (h : f = out.any (fun q => alike how s p q)) : first how s out p = if f then out else out ++ [p] := by unfold first; rw [h]
theorem flat_snoc (out : List (List Nat)) (p : List Nat) : (out ++ [p]).flatten = out.flatten ++ p := by simp
set_option maxHeartbeats 16000000 in
theorem uniqueCoords (n how : Int) (s m : Nat) (a : Option Addr) (c : Nat) (xs : List Nat) (H : Heap) (hstr : strideG n = (s : Int)) (hs : 2 ≤ s) (hs9 : s ≤ 9) (hf : FS H (.slice a xs.length c) xs) (hl : xs.length = m * s) (hb : xs.length ≤ 1000) (hnum : ∀ x ∈ xs, fcmp .eql x x = true) :
    Does Try.prog 22 [.int .i64 n, .iface 55 (.int .i64 how), .slice a xs.length c] H fun w H' => ∃ ex, H' = ex ++ H ∧ FS H' w (firsts how s (chunks s m xs)).flatten := by
  have hm : m ≤ 1000 := by have := Nat.le_mul_of_pos_right m (show 0 < s by omega); omega
  have hcap := hf.cap
  refine fn_enter 49 Try.func22 fun W => ?_
  repeat' first
    | (refine op_call ((newSet _ _ _).mono ?_); rw [hstr]; rintro _ _ ⟨ks, rfl, rfl⟩)
    | (refine op_call ((layoutStride _ _).mono ?_); rw [hstr]; rintro _ _ ⟨rfl, rfl⟩)
    | (refine op_makeSlice (l := 0) (c := xs.length) (fun kb => ?_) (by omega) (by omega) (by omega))
    | (first | refine tc_seq ?_ | refine tc_region ?_ | refine at_seq_normal ?_ | refine tl_nil ?_ | refine tl_cons ?_ | refine op_move ?_ | refine op_assign ?_ | refine op_fieldAddr ?_ | refine op_load ?_ | refine op_load_agg ?_ | refine op_indexC ?_ | refine op_indexAddr1 ?_ | refine op_indexAddr ?_ | refine op_icmp ?_ | refine op_fcmp ?_ | refine op_iarith ?_ | refine op_bcmp ?_ | refine op_unop_not ?_ | refine op_unop_neg_float ?_ | refine op_unop_neg_int ?_ | refine op_len_slice ?_ | refine op_pick_true ?_ | refine op_pick_false ?_ | refine op_pick_true' ?_ | refine op_pick_false' ?_ | refine op_build ?_ | refine op_extract ?_ | refine op_makeInterface ?_ | refine op_typeAssert ?_ | refine op_ptr_nil ?_ | refine op_nilCheck_ptr ?_ | refine op_nilCheck_meth ?_ | refine op_makeMeth ?_ | refine op_makeFunc ?_ | refine op_itof ?_ | refine op_itoi ?_ | refine op_ftoi ?_ | refine op_iquo ?_ | refine op_irem ?_ | refine op_ibits ?_ | refine op_slice_isnil ?_ | refine op_slice_notnil ?_ | refine op_imax ?_ | refine op_imin ?_ | refine op_shl ?_ | refine op_shr ?_ | (refine op_alloc ?_; intro _) | (refine op_box ?_; intro _) | (refine op_buildSlice ?_; intro _) | (refine op_farith ?_; intro _ _) | refine op_store0 ?_ | refine op_store1 ?_ | refine op_store2 ?_ | refine op_store3 ?_ | refine op_store4 ?_ | refine op_store5 ?_ | refine op_storeK rfl ?_ | refine op_loadK rfl ?_ | refine op_load_aggK rfl ?_ | refine tc_cond_t ?_ | refine tc_cond_f ?_ | refine tc_cond (fun _ => ?_) (fun _ => ?_) | refine tc_block ?_ | refine tc_skip ?_ | refine tc_ret ?_ | refine tc_exit ?_ | refine at_seq_ret ?_ | refine at_seq_exit ?_ | refine at_block_normal ?_ | refine at_block_ret ?_ | refine at_block_exit_self ?_ | refine at_block_exit_ne ?_ | refine at_loop_ret ?_ | refine at_loop_exit ?_ | fail)
    | fail
  rw [made_rep]
  refine tc_loopK [(2, _), (6, _), (7, _), (8, _)] (by repeat (first | exact trivial | refine ⟨rfl, ?_⟩)) (fun p : Nat × Buf × Tr × Int => [(11, .int .i64 ((p.1 * s : Nat) : Int)), (10, .int .i64 (((firsts how s (chunks s p.1 xs)).length : Nat) : Int)), (9, bufV p.2.1 ((firsts how s (chunks s p.1 xs)).length * s))])
    (fun p => bufH 46 p.2.1 ((firsts how s (chunks s p.1 xs)).flatten.map fl) ((ks, setO how n s p.2.2.2 p.2.2.1.ptr) :: (p.2.2.1.hp ++ H)))
    (fun p => p.1 ≤ m ∧ bufOk 1 p.2.1 ((firsts how s (chunks s p.1 xs)).length * s) ((firsts how s (chunks s p.1 xs)).flatten.map fl) ∧ p.2.2.1.all (fun c row => FS H c row ∧ Num s row) ∧ p.2.2.1.Bst how s ∧ Holds p.2.2.1 (firsts how s (chunks s p.1 xs)) ∧ (firsts how s (chunks s p.1 xs)).length ≤ p.1)
    (fun p => m - p.1) (0, some (kb, xs.length, List.replicate xs.length (fl 0)), .nil, 0) ⟨Nat.zero_le _, ⟨by simp [chunks, firsts], by simp only [maxLen]; omega, by simp [chunks, firsts], by simp [chunks, firsts]⟩, trivial, trivial, fun q => by simp [Tr.has, chunks, firsts], by simp [chunks, firsts]⟩ ⟨geti rfl (by simp), geti rfl (by simp [chunks, firsts]), by simp [chunks, firsts, bufV]; rfl, trivial⟩ (by simp [chunks, firsts, bufH, Tr.hp, Tr.ptr, fl]) ?_
  rintro ⟨i, buf, t, size⟩ ⟨hi, hok, hall, hbst, hholds, hlen⟩
  simp only at hi hok hall hbst hholds hlen ⊢
  obtain ⟨out, hout⟩ : ∃ out, out = firsts how s (chunks s i xs) := ⟨_, rfl⟩
  rw [← hout] at hok hholds hlen ⊢
  by_cases hlt : i < m
  · have hlt2 : i * s + s ≤ xs.length := by rw [hl]; have := Nat.mul_le_mul_right s (show i + 1 ≤ m by omega); rw [Nat.add_mul, Nat.one_mul] at this; exact this
    have hc1 : icmp .lss ((i * s : Nat) : Int) (xs.length : Int) = true := by simp only [icmp, decide_eq_true_eq]; omega
    have hw : IntKind.i64.wrap (iarith .add ((i * s : Nat) : Int) (s : Int)) = ((i * s + s : Nat) : Int) := by rw [wrap_add (by omega) (by omega)]; omega
    have hrow := FS.cut hf (l := i * s) (h := i * s + s) (by omega) hlt2
    rw [show i * s + s - i * s = s by omega] at hrow
    have hnr := chunk_num hl hnum hlt
    obtain ⟨row, hr⟩ : ∃ row, row = (xs.drop (i * s)).take s := ⟨_, rfl⟩
    rw [← hr] at hrow hnr
    obtain ⟨sv, hsv⟩ : ∃ sv, sv = slAt a (i * s) 1 (i * s + s) c := ⟨_, rfl⟩
    have hins := fun R (hR : ∀ e ∈ H, e ∈ R) => insert how n s ks size sv row hs (by omega) hnr t R (hall.mono fun c r h => ⟨h.1.mono hR, h.2⟩) ((hsv ▸ hrow).mono hR)
    have hrs : ∀ G, (∀ e ∈ H, e ∈ G) → SlN 1 G sv s (row.map fl) := fun G hG => by
      have := FS.toN ((hsv ▸ hrow).mono hG)
      rwa [hnr.1] at this
    have hnext : firsts how s (chunks s (i + 1) xs) = first how s out row := by rw [chunks_succ, firsts_snoc, ← hout, ← hr]
    have hos : out.length * s ≤ 9000 := Nat.le_trans (Nat.mul_le_mul (show out.length ≤ 1000 by omega) hs9) (by decide)
    repeat' first
      | (refine op_slice_lh (l := i * s) (h := i * s + s) ?_ (hz := gete (by exact rfl) hw); rw [← hsv])
      | (refine op_perm (G' := (ks, setO how n s size t.ptr) :: (t.hp ++ bufH 46 buf (out.flatten.map fl) H)) (bufH_app _ buf _ ((ks, _) :: t.hp) H).symm ?_; refine op_call ((hins _ (fun e he => (bufH_sub _ _ _ _).subset he)).mono ?_); rintro _ H1 ⟨k1, sz, rfl, hpm⟩
         refine tl_perm (G' := bufH 46 buf (out.flatten.map fl) ((ks, setO how n s sz (t.ins how s row k1 sv).ptr) :: ((t.ins how s row k1 sv).hp ++ H))) ((bufH_app _ buf _ ((ks, _) :: (t.ins how s row k1 sv).hp) H).trans hpm.symm) ?_)
      | (refine op_appendS (H' := (ks, setO how n s sz (t.ins how s row k1 sv).ptr) :: ((t.ins how s row k1 sv).hp ++ H)) buf (out.length * s) (out.flatten.map fl) (row.map fl) (m := s) hok (fun buf' hok' _ => ?_) (hrs _ fun e he => (bufH_sub _ _ _ _).subset (by simp [he])) (by exact rfl) (by exact rfl) (List.Sublist.refl _) (oneCell_fl row) (by simp only [maxLen]; omega) (by omega))
      | (first | refine tc_seq ?_ | refine tc_region ?_ | refine at_seq_normal ?_ | refine tl_nil ?_ | refine tl_cons ?_ | refine op_move ?_ | refine op_assign ?_ | refine op_fieldAddr ?_ | refine op_load ?_ | refine op_load_agg ?_ | refine op_indexC ?_ | refine op_indexAddr1 ?_ | refine op_indexAddr ?_ | refine op_icmp ?_ | refine op_fcmp ?_ | refine op_iarith ?_ | refine op_bcmp ?_ | refine op_unop_not ?_ | refine op_unop_neg_float ?_ | refine op_unop_neg_int ?_ | refine op_len_slice ?_ | refine op_pick_true ?_ | refine op_pick_false ?_ | refine op_pick_true' ?_ | refine op_pick_false' ?_ | refine op_build ?_ | refine op_extract ?_ | refine op_makeInterface ?_ | refine op_typeAssert ?_ | refine op_ptr_nil ?_ | refine op_nilCheck_ptr ?_ | refine op_nilCheck_meth ?_ | refine op_makeMeth ?_ | refine op_makeFunc ?_ | refine op_itof ?_ | refine op_itoi ?_ | refine op_ftoi ?_ | refine op_iquo ?_ | refine op_irem ?_ | refine op_ibits ?_ | refine op_slice_isnil ?_ | refine op_slice_notnil ?_ | refine op_imax ?_ | refine op_imin ?_ | refine op_shl ?_ | refine op_shr ?_ | (refine op_alloc ?_; intro _) | (refine op_box ?_; intro _) | (refine op_buildSlice ?_; intro _) | (refine op_farith ?_; intro _ _) | refine op_store0 ?_ | refine op_store1 ?_ | refine op_store2 ?_ | refine op_store3 ?_ | refine op_store4 ?_ | refine op_store5 ?_ | refine op_storeK rfl ?_ | refine op_loadK rfl ?_ | refine op_load_aggK rfl ?_ | refine tc_cond_t ?_ | refine tc_cond_f ?_ | refine tc_cond (fun _ => ?_) (fun _ => ?_) | refine tc_block ?_ | refine tc_skip ?_ | refine tc_ret ?_ | refine tc_exit ?_ | refine at_seq_ret ?_ | refine at_seq_exit ?_ | refine at_block_normal ?_ | refine at_block_ret ?_ | refine at_block_exit_self ?_ | refine at_block_exit_ne ?_ | refine at_loop_ret ?_ | refine at_loop_exit ?_ | fail)
      | fail
    · rename_i hadd hz0
      have hadd' : t.found how s row = false := by simpa using hadd
      obtain ⟨h1, h2, h3⟩ := step (how := how) (s := s) (p := row) (k' := k1) (c' := sv) hbst hholds
      have hn2 : firsts how s (chunks s (i + 1) xs) = out ++ [row] := by rw [hnext, first_cases how s out row h1, hadd']; rfl
      rw [← hnext, hn2] at h3
      have hlen2 : (out ++ [row]).length = out.length + 1 := by simp
      refine at_loopK (i + 1, buf', t.ins how s row k1 sv, sz) ?_ (by simp only; omega) ?_ (by repeat (first | exact trivial | refine ⟨rfl, ?_⟩)) ?_
      · simp only
        rw [hn2, hlen2, flat_snoc, List.map_append, Nat.add_mul, Nat.one_mul]
        exact ⟨by omega, hok', Tr.ins_all ⟨hsv ▸ hrow, hnr⟩ hall, h2, h3, by omega⟩
      · simp only
        rw [hn2, hlen2]
        exact ⟨geti rfl (by rw [hw, Nat.add_mul, Nat.one_mul]), next_nat (by omega), by rw [Nat.add_mul, Nat.one_mul]; rfl, trivial⟩
      · simp only
        rw [hn2, flat_snoc, List.map_append]
        exact List.Sublist.refl _
    · rename_i hadd
      have hadd' : t.found how s row = true := by simpa using hadd
      obtain ⟨h1, h2, h3⟩ := step (how := how) (s := s) (p := row) (k' := k1) (c' := sv) hbst hholds
      have hn2 : firsts how s (chunks s (i + 1) xs) = out := by rw [hnext, first_cases how s out row h1, hadd']; rfl
      rw [← hnext, hn2] at h3
      refine at_loopK (i + 1, buf, t.ins how s row k1 sv, sz) ?_ (by simp only; omega) ?_ (by repeat (first | exact trivial | refine ⟨rfl, ?_⟩)) ?_
      · simp only
        rw [hn2]
        exact ⟨by omega, hok, Tr.ins_all ⟨hsv ▸ hrow, hnr⟩ hall, h2, h3, by omega⟩
      · simp only
        rw [hn2]
        exact ⟨geti rfl (by rw [hw, Nat.add_mul, Nat.one_mul]), rfl, rfl, trivial⟩
      · simp only
        rw [hn2]
        exact List.Sublist.refl _
  · have him : i = m := by omega
    subst him
    have hc1 : icmp .lss ((i * s : Nat) : Int) (xs.length : Int) = false := by simp only [icmp, decide_eq_false_iff_not]; omega
    have hos : out.length * s ≤ 9000 := Nat.le_trans (Nat.mul_le_mul (show out.length ≤ 1000 by omega) hs9) (by decide)
    have hw : IntKind.i64.wrap (iarith .mul ((out.length : Nat) : Int) (s : Int)) = ((out.length * s : Nat) : Int) := by
      have e : ((out.length : Nat) : Int) * (s : Int) = ((out.length * s : Nat) : Int) := by simp
      rw [wrap_mul (by omega) (by omega), e]
    have hfs := fs_buf (e := 46) (H := (ks, setO how n s size t.ptr) :: (t.hp ++ H)) hok
    rw [← hout]
    cases buf with
    | none =>
      have h0 : out.length * s = 0 := hok.1
      repeat' first
        | (refine op_slice_h (h := out.length * s) ?_ (hz := gete (by exact rfl) hw); rw [slAt_self])
        | (first | refine tc_seq ?_ | refine tc_region ?_ | refine at_seq_normal ?_ | refine tl_nil ?_ | refine tl_cons ?_ | refine op_move ?_ | refine op_assign ?_ | refine op_fieldAddr ?_ | refine op_load ?_ | refine op_load_agg ?_ | refine op_indexC ?_ | refine op_indexAddr1 ?_ | refine op_indexAddr ?_ | refine op_icmp ?_ | refine op_fcmp ?_ | refine op_iarith ?_ | refine op_bcmp ?_ | refine op_unop_not ?_ | refine op_unop_neg_float ?_ | refine op_unop_neg_int ?_ | refine op_len_slice ?_ | refine op_pick_true ?_ | refine op_pick_false ?_ | refine op_pick_true' ?_ | refine op_pick_false' ?_ | refine op_build ?_ | refine op_extract ?_ | refine op_makeInterface ?_ | refine op_typeAssert ?_ | refine op_ptr_nil ?_ | refine op_nilCheck_ptr ?_ | refine op_nilCheck_meth ?_ | refine op_makeMeth ?_ | refine op_makeFunc ?_ | refine op_itof ?_ | refine op_itoi ?_ | refine op_ftoi ?_ | refine op_iquo ?_ | refine op_irem ?_ | refine op_ibits ?_ | refine op_slice_isnil ?_ | refine op_slice_notnil ?_ | refine op_imax ?_ | refine op_imin ?_ | refine op_shl ?_ | refine op_shr ?_ | (refine op_alloc ?_; intro _) | (refine op_box ?_; intro _) | (refine op_buildSlice ?_; intro _) | (refine op_farith ?_; intro _ _) | refine op_store0 ?_ | refine op_store1 ?_ | refine op_store2 ?_ | refine op_store3 ?_ | refine op_store4 ?_ | refine op_store5 ?_ | refine op_storeK rfl ?_ | refine op_loadK rfl ?_ | refine op_load_aggK rfl ?_ | refine tc_cond_t ?_ | refine tc_cond_f ?_ | refine tc_cond (fun _ => ?_) (fun _ => ?_) | refine tc_block ?_ | refine tc_skip ?_ | refine tc_ret ?_ | refine tc_exit ?_ | refine at_seq_ret ?_ | refine at_seq_exit ?_ | refine at_block_normal ?_ | refine at_block_ret ?_ | refine at_block_exit_self ?_ | refine at_block_exit_ne ?_ | refine at_loop_ret ?_ | refine at_loop_exit ?_ | fail)
        | fail
      exact ret_tmp (hG := List.Sublist.refl _) (hk := ⟨(ks, _) :: t.hp, rfl, by rw [h0] at hfs ⊢; exact hfs⟩)
    | some b =>
      obtain ⟨kb2, cap, sp⟩ := b
      have hcap2 : out.length * s ≤ cap := hok.1
      repeat' first
        | (refine op_slice_h (h := out.length * s) ?_ (hz := gete (by exact rfl) hw); rw [slAt_self])
        | (first | refine tc_seq ?_ | refine tc_region ?_ | refine at_seq_normal ?_ | refine tl_nil ?_ | refine tl_cons ?_ | refine op_move ?_ | refine op_assign ?_ | refine op_fieldAddr ?_ | refine op_load ?_ | refine op_load_agg ?_ | refine op_indexC ?_ | refine op_indexAddr1 ?_ | refine op_indexAddr ?_ | refine op_icmp ?_ | refine op_fcmp ?_ | refine op_iarith ?_ | refine op_bcmp ?_ | refine op_unop_not ?_ | refine op_unop_neg_float ?_ | refine op_unop_neg_int ?_ | refine op_len_slice ?_ | refine op_pick_true ?_ | refine op_pick_false ?_ | refine op_pick_true' ?_ | refine op_pick_false' ?_ | refine op_build ?_ | refine op_extract ?_ | refine op_makeInterface ?_ | refine op_typeAssert ?_ | refine op_ptr_nil ?_ | refine op_nilCheck_ptr ?_ | refine op_nilCheck_meth ?_ | refine op_makeMeth ?_ | refine op_makeFunc ?_ | refine op_itof ?_ | refine op_itoi ?_ | refine op_ftoi ?_ | refine op_iquo ?_ | refine op_irem ?_ | refine op_ibits ?_ | refine op_slice_isnil ?_ | refine op_slice_notnil ?_ | refine op_imax ?_ | refine op_imin ?_ | refine op_shl ?_ | refine op_shr ?_ | (refine op_alloc ?_; intro _) | (refine op_box ?_; intro _) | (refine op_buildSlice ?_; intro _) | (refine op_farith ?_; intro _ _) | refine op_store0 ?_ | refine op_store1 ?_ | refine op_store2 ?_ | refine op_store3 ?_ | refine op_store4 ?_ | refine op_store5 ?_ | refine op_storeK rfl ?_ | refine op_loadK rfl ?_ | refine op_load_aggK rfl ?_ | refine tc_cond_t ?_ | refine tc_cond_f ?_ | refine tc_cond (fun _ => ?_) (fun _ => ?_) | refine tc_block ?_ | refine tc_skip ?_ | refine tc_ret ?_ | refine tc_exit ?_ | refine at_seq_ret ?_ | refine at_seq_exit ?_ | refine at_block_normal ?_ | refine at_block_ret ?_ | refine at_block_exit_self ?_ | refine at_block_exit_ne ?_ | refine at_loop_ret ?_ | refine at_loop_exit ?_ | fail)
        | fail
      exact ret_tmp (hG := List.Sublist.refl _) (hk := ⟨(kb2, _) :: (ks, _) :: t.hp, rfl, hfs⟩)

set_option maxRecDepth 100000 in
instance idle20 : IdleD Try.prog 20 2 where
  idle := fun cap w hl => by
    match cap, hl with
    | [p, q], _ =>
    have h0 : ∀ w : World, (eqGuard .neq 20 (.tmp 2) (.const .nilIface) .nilIface .nilIface).run Try.prog w = .ok () w := fun _ => rfl
    have h1 : ∀ w : World, (binOp .neq 20 .nilIface .nilIface).run Try.prog w = .ok (.bool false) w := fun w => by
      first
        | rfl
        | simp [binOp, Op.equal, Op.equalIn, go_sem]
    refine callsD_of_wpS Try.func20 rfl fun c₀ cs hu => ?_
    apply wpS_seq
    apply wpS_region
    simp [wpOpsS, go_sem, recoverD, hu, Try.ntmps20, Exit.thenS, h1]
    refine wpS_cond (t := false) (by simp [Act.eval, Array.replicate]) ?_
    simp only [Bool.false_eq_true, if_false]
    refine wpS_of_wp (wp_skip ?_)
    cases c₀
    simp_all [bodyPostS, results, Try.results20]
set_option maxHeartbeats 4000000 in
theorem implUnique (n how : Int) (s m : Nat) (a : Option Addr) (c : Nat) (xs : List Nat) (H : Heap) (hstr : strideG n = (s : Int)) (hs : 2 ≤ s) (hs9 : s ≤ 9) (hf : FS H (.slice a xs.length c) xs) (hl : xs.length = m * s) (hb : xs.length ≤ 1000) (hnum : ∀ x ∈ xs, fcmp .eql x x = true) (hfl : (firsts how s (chunks s m xs)).flatten.length ≤ 1000) :
    Does Try.prog 10 [.int .i64 n, .int .i64 how, .slice a xs.length c] H fun w H' => ∃ a' c', w = .tuple #[.slice a' (firsts how s (chunks s m xs)).flatten.length c', .bool true] ∧ FS H' (.slice a' (firsts how s (chunks s m xs)).flatten.length c') (firsts how s (chunks s m xs)).flatten ∧ ∃ ex, H' = ex ++ H := by
  refine fn_enter_d 16 Try.func10 fun W => ?_
  repeat' first
    | (refine op_call ((floatsF _ xs _ (hf.mono exs) (by omega)).mono ?_); rintro _ _ ⟨ex1, a1, c1, rfl, rfl, hf1, -, -⟩)
    | (refine op_call ((uniqueCoords n how s m a1 c1 xs _ hstr hs hs9 (hf1.mono fun e he => List.mem_append_left _ he) hl hb hnum).mono ?_); rintro w1 _ ⟨ex2, rfl, hf2⟩; obtain ⟨a2, c2, rfl⟩ := hf2.val)
    | (refine op_call ((floatsF _ _ _ hf2 (by omega)).mono ?_); rintro _ _ ⟨ex3, a3, c3, rfl, rfl, hf3, -, -⟩)
    | refine op_storeK rfl ?_
    | (first | refine tl_defer ?_ | refine tc_seq ?_ | refine tc_region ?_ | refine at_seq_normal ?_ | refine tl_nil ?_ | refine tl_cons ?_ | refine tl_cons_none ?_ | refine op_move ?_ | refine op_makeInterface ?_ | refine op_makeMeth ?_ | refine op_makeFunc ?_ | (refine op_alloc ?_; intro _) | refine op_store0 ?_ | refine op_store1 ?_ | refine op_store2 ?_ | refine op_store3 ?_ | refine op_store4 ?_ | refine op_store5 ?_ | refine op_storeK rfl ?_ | refine tc_ret ?_ | refine at_seq_ret ?_ | fail)
    | fail
  exact ret_door (m := 2) rfl rfl (.cons (rv_cell rfl) (.cons (rv_cell rfl) .nil)) rfl (List.Sublist.refl _) ⟨a3, c3, rfl, hf3.mono fun e he => by simp [he], ExC.ex⟩
theorem bufV_val {buf : Buf} {n : Nat} {ws : List Value} (h : bufOk 1 buf n ws) : ∃ a c, bufV buf n = .slice a n c := by
  cases buf with
  | none => exact ⟨none, 0, by rw [h.1]; rfl⟩
  | some b => exact ⟨_, _, rfl⟩
set_option maxHeartbeats 16000000 in
theorem firstsW (how : Int) (s : Nat) (v : Value) (rs : List (List Nat)) (H : Heap) (hv : SN H v (rs.map some)) (hs : 2 ≤ s) (hs9 : s ≤ 9) (hn : ∀ r ∈ rs, Num s r) (hlen : rs.length ≤ 1000) (ho : 0 ≤ how ∧ how ≤ 3) :
    Does Try.prog 7 [.int .i64 how, v] H fun w H' => ∃ ex, H' = ex ++ H ∧ SN H' w ((firsts how s rs).map some) := by
  obtain ⟨a1, c1, rfl⟩ := hv.val
  rw [List.length_map] at hv ⊢
  refine fn_enter 39 Try.func7 fun W => ?_
  repeat' first
    | refine tc_seq ?_ | refine tc_region ?_ | refine at_seq_normal ?_ | refine tl_nil ?_ | refine tl_cons ?_ | refine op_move ?_ | refine op_assign ?_ | refine op_load ?_ | refine op_load_agg ?_ | refine op_indexC ?_
    | refine op_indexAddr1 ?_ | refine op_indexAddr ?_ | refine op_icmp ?_ | refine op_iarith ?_ | refine op_unop_not ?_ | refine op_len_slice ?_ | refine op_pick_true ?_ | refine op_pick_false ?_ | refine op_pick_true' ?_ | refine op_pick_false' ?_
    | (refine op_buildSlice ?_; intro _) | refine op_loadK rfl ?_ | refine op_load_aggK rfl ?_ | refine tc_cond_t ?_ | refine tc_cond_f ?_ | refine tc_cond (fun _ => ?_) (fun _ => ?_) | refine tc_block ?_ | refine tc_skip ?_ | refine tc_ret ?_ | refine tc_exit ?_
    | refine at_seq_ret ?_ | refine at_seq_exit ?_ | refine at_block_normal ?_ | refine at_block_ret ?_ | refine at_block_exit_self ?_ | refine at_block_exit_ne ?_ | refine at_loop_ret ?_ | refine at_loop_exit ?_ | refine tl_guard_yes ?_ | refine tl_guard_no ?_
    | refine tl_guard_yes' ?_ | refine tl_guard_no' ?_ | refine tl_guard_undef ?_ | refine tl_guard_split (fun _ => ?_) (fun _ => ?_)
  refine tc_loopK [(0, _), (4, _), (11, _), (12, _)] (by repeat (first | exact trivial | refine ⟨rfl, ?_⟩)) (fun p : Nat × Buf × List Value × Option Addr × Nat => [(13, .int .i64 (p.1 : Int)), (5, .slice p.2.2.2.1 (firsts how s (rs.take p.1)).length p.2.2.2.2)])
    (fun p => bufH 22 p.2.1 p.2.2.1 H)
    (fun p => p.1 ≤ rs.length ∧ bufOk 1 p.2.1 (firsts how s (rs.take p.1)).length p.2.2.1 ∧ All2 (RN H) p.2.2.1 ((firsts how s (rs.take p.1)).map some) ∧ bufV p.2.1 (firsts how s (rs.take p.1)).length = .slice p.2.2.2.1 (firsts how s (rs.take p.1)).length p.2.2.2.2 ∧ (firsts how s (rs.take p.1)).length ≤ p.1 ∧ ∀ r ∈ firsts how s (rs.take p.1), Num s r)
    (fun p => rs.length - p.1) (0, none, [], none, 0) ⟨Nat.zero_le _, ⟨rfl, rfl⟩, trivial, rfl, Nat.zero_le _, fun r h => by simp [firsts] at h⟩ ⟨rfl, rfl, trivial⟩ (List.Sublist.refl _) ?_
  rintro ⟨i, buf, ws, aB, cB⟩ ⟨hi, hok, hws, hbv, hle, hno⟩
  simp only at hi hok hws hbv hle hno ⊢
  obtain ⟨out, hout⟩ : ∃ out, out = firsts how s (rs.take i) := ⟨_, rfl⟩
  rw [← hout] at hok hws hbv hle hno ⊢
  have hsl := sl_buf (e := 22) (H := H) hok
  rw [hbv] at hsl
  have hsn : SN (bufH 22 buf ws H) (.slice aB out.length cB) (out.map some) := ⟨ws, hsl, hws.mono fun _ _ h => h.mono fun e he => (bufH_sub _ _ _ _).subset he⟩
  by_cases hlt : i < rs.length
  · have hlb : icmp .lss (i : Int) (rs.length : Int) = true := by rw [lss_nat]; simpa using hlt
    have t1 : (rs.map some)[i]? = some (some rs[i]) := by rw [List.getElem?_map, List.getElem?_eq_getElem hlt]; rfl
    have hnr : Num s rs[i] := hn _ (List.getElem_mem hlt)
    obtain ⟨k1, o1, l1, T1, z1, _, x1, u1, mm1H, ll1, r1H, lt1⟩ := hv.at t1
    have mm1 : (k1, Obj.cells ⟨l1⟩ T1 z1) ∈ bufH 22 buf ws H := (bufH_sub _ _ _ _).subset mm1H
    rw [List.length_map] at u1
    cases u1
    obtain ⟨row, hrow⟩ : ∃ row, row = rs[i] := ⟨_, rfl⟩
    rw [← hrow] at hnr r1H
    obtain ⟨a2, c2, rfl, f2H, -⟩ := r1H.fs
    simp only [Option.getD_some] at ll1 r1H f2H
    have f2 : FS (bufH 22 buf ws H) (.slice a2 row.length c2) row := f2H.mono fun e he => (bufH_sub _ _ _ _).subset he
    have hnext : firsts how s (rs.take (i + 1)) = first how s out row := by
      rw [List.take_add_one, List.getElem?_eq_getElem hlt, ← hrow]
      show firsts how s (rs.take i ++ [row]) = _
      rw [firsts_snoc, ← hout]
    repeat' first
      | refine tc_seq ?_ | refine tc_region ?_ | refine at_seq_normal ?_ | refine tl_nil ?_ | refine tl_cons ?_ | refine op_move ?_ | refine op_assign ?_ | refine op_load ?_ | refine op_load_agg ?_ | refine op_indexC ?_
      | refine op_indexAddr1 ?_ | refine op_indexAddr ?_ | refine op_icmp ?_ | refine op_iarith ?_ | refine op_unop_not ?_ | refine op_len_slice ?_ | refine op_pick_true ?_ | refine op_pick_false ?_ | refine op_pick_true' ?_ | refine op_pick_false' ?_
      | (refine op_buildSlice ?_; intro _) | refine op_loadK rfl ?_ | refine op_load_aggK rfl ?_ | refine tc_cond_t ?_ | refine tc_cond_f ?_ | refine tc_cond (fun _ => ?_) (fun _ => ?_) | refine tc_block ?_ | refine tc_skip ?_ | refine tc_ret ?_ | refine tc_exit ?_
      | refine at_seq_ret ?_ | refine at_seq_exit ?_ | refine at_block_normal ?_ | refine at_block_ret ?_ | refine at_block_exit_self ?_ | refine at_block_exit_ne ?_ | refine at_loop_ret ?_ | refine at_loop_exit ?_ | refine tl_guard_yes ?_ | refine tl_guard_no ?_
      | refine tl_guard_yes' ?_ | refine tl_guard_no' ?_ | refine tl_guard_undef ?_ | refine tl_guard_split (fun _ => ?_) (fun _ => ?_)
    refine tc_loopK [(0, _), (4, _), (5, _), (7, _), (11, _), (12, _), (13, _), (14, _), (15, _), (16, _), (17, _), (18, _)] (by repeat (first | exact trivial | refine ⟨rfl, ?_⟩)) (fun j : Nat => [(8, .bool ((out.take j).any (fun q => alike how s row q))), (19, .int .i64 (j : Int))]) (fun _ => bufH 22 buf ws H) (fun j => j ≤ out.length) (fun j => out.length - j) 0 (Nat.zero_le _) ⟨rfl, rfl, trivial⟩ (List.Sublist.refl _) ?_
    intro j hj
    by_cases hjl : j < out.length
    · have hlb2 : icmp .lss (j : Int) (out.length : Int) = true := by rw [lss_nat]; simpa using hjl
      have t2 : (out.map some)[j]? = some (some out[j]) := by rw [List.getElem?_map, List.getElem?_eq_getElem hjl]; rfl
      have hnq : Num s out[j] := hno _ (List.getElem_mem hjl)
      have htk : out.take (j + 1) = out.take j ++ [out[j]] := by rw [List.take_add_one, List.getElem?_eq_getElem hjl]; rfl
      obtain ⟨k2, o2, l2, T2, z2, _, x2, u2, mm2, ll2, r2, lt2⟩ := hsn.at t2
      rw [List.length_map] at u2
      cases u2
      obtain ⟨q, hq⟩ : ∃ q, q = out[j] := ⟨_, rfl⟩
      rw [← hq] at hnq r2 htk
      obtain ⟨a3, c3, rfl, f3, -⟩ := r2.fs
      simp only [Option.getD_some] at ll2 r2 f3
      cases hseen : (out.take j).any (fun q => alike how s row q) with
      | true =>
        repeat' first
          | refine tc_seq ?_ | refine tc_region ?_ | refine at_seq_normal ?_ | refine tl_nil ?_ | refine tl_cons ?_ | refine op_move ?_ | refine op_assign ?_ | refine op_load ?_ | refine op_load_agg ?_ | refine op_indexC ?_
          | refine op_indexAddr1 ?_ | refine op_indexAddr ?_ | refine op_icmp ?_ | refine op_iarith ?_ | refine op_unop_not ?_ | refine op_len_slice ?_ | refine op_pick_true ?_ | refine op_pick_false ?_ | refine op_pick_true' ?_ | refine op_pick_false' ?_
          | (refine op_buildSlice ?_; intro _) | refine op_loadK rfl ?_ | refine op_load_aggK rfl ?_ | refine tc_cond_t ?_ | refine tc_cond_f ?_ | refine tc_cond (fun _ => ?_) (fun _ => ?_) | refine tc_block ?_ | refine tc_skip ?_ | refine tc_ret ?_ | refine tc_exit ?_
          | refine at_seq_ret ?_ | refine at_seq_exit ?_ | refine at_block_normal ?_ | refine at_block_ret ?_ | refine at_block_exit_self ?_ | refine at_block_exit_ne ?_ | refine at_loop_ret ?_ | refine at_loop_exit ?_ | refine tl_guard_yes ?_ | refine tl_guard_no ?_
          | refine tl_guard_yes' ?_ | refine tl_guard_no' ?_ | refine tl_guard_undef ?_ | refine tl_guard_split (fun _ => ?_) (fun _ => ?_)
        refine at_loopK (j + 1) hjl (by omega) ⟨by rw [htk, List.any_append, hseen]; rfl, next_nat (by omega), trivial⟩ (by repeat (first | exact trivial | refine ⟨rfl, ?_⟩)) (List.Sublist.refl _)
      | false =>
        repeat' first
          | (refine op_call ((alikeW how s _ _ row q _ f2 f3 hnr hnq hs (by omega) ho).mono ?_); rintro _ _ ⟨rfl, rfl⟩)
          | (first | refine tc_seq ?_ | refine tc_region ?_ | refine at_seq_normal ?_ | refine tl_nil ?_ | refine tl_cons ?_ | refine op_move ?_ | refine op_assign ?_ | refine op_load ?_ | refine op_load_agg ?_ | refine op_indexC ?_ | refine op_indexAddr1 ?_ | refine op_indexAddr ?_ | refine op_icmp ?_ | refine op_iarith ?_ | refine op_unop_not ?_ | refine op_len_slice ?_ | refine op_pick_true ?_ | refine op_pick_false ?_ | refine op_pick_true' ?_ | refine op_pick_false' ?_ | (refine op_buildSlice ?_; intro _) | refine op_loadK rfl ?_ | refine op_load_aggK rfl ?_ | refine tc_cond_t ?_ | refine tc_cond_f ?_ | refine tc_cond (fun _ => ?_) (fun _ => ?_) | refine tc_block ?_ | refine tc_skip ?_ | refine tc_ret ?_ | refine tc_exit ?_ | refine at_seq_ret ?_ | refine at_seq_exit ?_ | refine at_block_normal ?_ | refine at_block_ret ?_ | refine at_block_exit_self ?_ | refine at_block_exit_ne ?_ | refine at_loop_ret ?_ | refine at_loop_exit ?_ | refine tl_guard_yes ?_ | refine tl_guard_no ?_ | refine tl_guard_yes' ?_ | refine tl_guard_no' ?_ | refine tl_guard_undef ?_ | refine tl_guard_split (fun _ => ?_) (fun _ => ?_) | fail)
          | fail
        refine at_loopK (j + 1) hjl (by omega) ⟨by rw [htk, List.any_append, hseen]; simp; rfl, next_nat (by omega), trivial⟩ (by repeat (first | exact trivial | refine ⟨rfl, ?_⟩)) (List.Sublist.refl _)
    · have hlb2 : icmp .lss (j : Int) (out.length : Int) = false := by rw [lss_nat]; simpa using hjl
      rw [List.take_of_length_le (by omega)]
      cases hany : out.any (fun q => alike how s row q) with
      | true =>
        have hn2 : firsts how s (rs.take (i + 1)) = out := by rw [hnext, first_cases how s out row (f := true) hany.symm]; rfl
        repeat' first
          | refine tc_seq ?_ | refine tc_region ?_ | refine at_seq_normal ?_ | refine tl_nil ?_ | refine tl_cons ?_ | refine op_move ?_ | refine op_assign ?_ | refine op_load ?_ | refine op_load_agg ?_ | refine op_indexC ?_
          | refine op_indexAddr1 ?_ | refine op_indexAddr ?_ | refine op_icmp ?_ | refine op_iarith ?_ | refine op_unop_not ?_ | refine op_len_slice ?_ | refine op_pick_true ?_ | refine op_pick_false ?_ | refine op_pick_true' ?_ | refine op_pick_false' ?_
          | (refine op_buildSlice ?_; intro _) | refine op_loadK rfl ?_ | refine op_load_aggK rfl ?_ | refine tc_cond_t ?_ | refine tc_cond_f ?_ | refine tc_cond (fun _ => ?_) (fun _ => ?_) | refine tc_block ?_ | refine tc_skip ?_ | refine tc_ret ?_ | refine tc_exit ?_
          | refine at_seq_ret ?_ | refine at_seq_exit ?_ | refine at_block_normal ?_ | refine at_block_ret ?_ | refine at_block_exit_self ?_ | refine at_block_exit_ne ?_ | refine at_loop_ret ?_ | refine at_loop_exit ?_ | refine tl_guard_yes ?_ | refine tl_guard_no ?_
          | refine tl_guard_yes' ?_ | refine tl_guard_no' ?_ | refine tl_guard_undef ?_ | refine tl_guard_split (fun _ => ?_) (fun _ => ?_)
        refine at_loopK (i + 1, buf, ws, aB, cB) ?_ (by simp only; omega) ?_ (by repeat (first | exact trivial | refine ⟨rfl, ?_⟩)) ?_
        · simp only
          rw [hn2]
          exact ⟨by omega, hok, hws, hbv, by omega, hno⟩
        · simp only
          rw [hn2]
          exact ⟨next_nat (by omega), rfl, trivial⟩
        · exact List.Sublist.refl _
      | false =>
        have hn2 : firsts how s (rs.take (i + 1)) = out ++ [row] := by rw [hnext, first_cases how s out row (f := false) hany.symm]; rfl
        have hlen2 : (out ++ [row]).length = out.length + 1 := by simp
        repeat' first
          | (refine op_append (H' := H) buf out.length ws [.slice a2 row.length c2] (m := 1) hok (fun buf' hok' => ?_) (by rw [hbv]; exact rfl) (by exact rfl) (List.sublist_cons_self _ _) List.mem_cons_self rfl rfl (by simp [Value.oneCell']) (by decide) (by simp only [maxLen]; omega) (by omega))
          | (first | refine tc_seq ?_ | refine tc_region ?_ | refine at_seq_normal ?_ | refine tl_nil ?_ | refine tl_cons ?_ | refine op_move ?_ | refine op_assign ?_ | refine op_load ?_ | refine op_load_agg ?_ | refine op_indexC ?_ | refine op_indexAddr1 ?_ | refine op_indexAddr ?_ | refine op_icmp ?_ | refine op_iarith ?_ | refine op_unop_not ?_ | refine op_len_slice ?_ | refine op_pick_true ?_ | refine op_pick_false ?_ | refine op_pick_true' ?_ | refine op_pick_false' ?_ | (refine op_buildSlice ?_; intro _) | refine op_loadK rfl ?_ | refine op_load_aggK rfl ?_ | refine tc_cond_t ?_ | refine tc_cond_f ?_ | refine tc_cond (fun _ => ?_) (fun _ => ?_) | refine tc_block ?_ | refine tc_skip ?_ | refine tc_ret ?_ | refine tc_exit ?_ | refine at_seq_ret ?_ | refine at_seq_exit ?_ | refine at_block_normal ?_ | refine at_block_ret ?_ | refine at_block_exit_self ?_ | refine at_block_exit_ne ?_ | refine at_loop_ret ?_ | refine at_loop_exit ?_ | refine tl_guard_yes ?_ | refine tl_guard_no ?_ | refine tl_guard_yes' ?_ | refine tl_guard_no' ?_ | refine tl_guard_undef ?_ | refine tl_guard_split (fun _ => ?_) (fun _ => ?_) | fail)
          | fail
        obtain ⟨aN, cN, hbvN⟩ := bufV_val hok'
        refine at_loopK (i + 1, buf', ws ++ [.slice a2 row.length c2], aN, cN) ?_ (by simp only; omega) ?_ (by repeat (first | exact trivial | refine ⟨rfl, ?_⟩)) ?_
        · simp only
          rw [hn2, hlen2, List.map_append]
          refine ⟨by omega, hok', All2.snoc hws ?_, hbvN, by omega, fun r hr => ?_⟩
          · exact r1H
          · rcases List.mem_append.1 hr with h | h
            · exact hno r h
            · rw [List.mem_singleton.1 h]; exact hnr
        · simp only
          rw [hn2, hlen2]
          exact ⟨next_nat (by omega), by rw [← hbvN]; rfl, trivial⟩
        · exact List.Sublist.refl _
  · have hlb : icmp .lss (i : Int) (rs.length : Int) = false := by rw [lss_nat]; simpa using hlt
    have hall : rs.take i = rs := List.take_of_length_le (by omega)
    rw [hall] at hout
    repeat' first
      | refine tc_seq ?_ | refine tc_region ?_ | refine at_seq_normal ?_ | refine tl_nil ?_ | refine tl_cons ?_ | refine op_move ?_ | refine op_assign ?_ | refine op_load ?_ | refine op_load_agg ?_ | refine op_indexC ?_
      | refine op_indexAddr1 ?_ | refine op_indexAddr ?_ | refine op_icmp ?_ | refine op_iarith ?_ | refine op_unop_not ?_ | refine op_len_slice ?_ | refine op_pick_true ?_ | refine op_pick_false ?_ | refine op_pick_true' ?_ | refine op_pick_false' ?_
      | (refine op_buildSlice ?_; intro _) | refine op_loadK rfl ?_ | refine op_load_aggK rfl ?_ | refine tc_cond_t ?_ | refine tc_cond_f ?_ | refine tc_cond (fun _ => ?_) (fun _ => ?_) | refine tc_block ?_ | refine tc_skip ?_ | refine tc_ret ?_ | refine tc_exit ?_
      | refine at_seq_ret ?_ | refine at_seq_exit ?_ | refine at_block_normal ?_ | refine at_block_ret ?_ | refine at_block_exit_self ?_ | refine at_block_exit_ne ?_ | refine at_loop_ret ?_ | refine at_loop_exit ?_ | refine tl_guard_yes ?_ | refine tl_guard_no ?_
      | refine tl_guard_yes' ?_ | refine tl_guard_no' ?_ | refine tl_guard_undef ?_ | refine tl_guard_split (fun _ => ?_) (fun _ => ?_)
    refine ret_tmp (hG := List.Sublist.refl _) (hk := ⟨bufH 22 buf ws [], by cases buf <;> rfl, ?_⟩)
    rw [← hout]
    exact hsn
end Go.Proofs.Ytcajankinofomaa.Uq
