/-
  Sums of whole numbers of any size. No conditions.
-/
import Derived.Test.YtomhkbijijdghaaZL12
set_option linter.unusedVariables false
set_option linter.unusedSimpArgs false
namespace Go.Proofs.Ytomhkbijijdghaa.Lmb
open Go.Lg

theorem bufH_pre (e : TypeId) (buf : Buf) (ws : List Value) (H : Heap) : ∃ ex, bufH e buf ws H = ex ++ H := by
  cases buf with
  | none => exact ⟨[], rfl⟩
  | some b => exact ⟨[_], rfl⟩

set_option maxHeartbeats 16000000 in
theorem addLimbs (a1 a2 : Option Addr) (c1 c2 : Nat) (xs ys : List Nat) (H : Heap) (hv : US H (.slice a1 xs.length c1) xs) (hu : US H (.slice a2 ys.length c2) ys) (hx : Lm xs) (hy : Lm ys) (hb : xs.length < 2 ^ 36) (hb2 : ys.length < 2 ^ 36) :
    Does Try.prog 140 [.slice a1 xs.length c1, .slice a2 ys.length c2] H fun w H' => ∃ zs, (∃ a c, w = .slice a zs.length c) ∧ ∃ ex, H' = ex ++ H ∧ US (ex ++ H) w zs ∧ Lm zs ∧ Nrm zs ∧ lv zs = lv xs + lv ys ∧ zs.length ≤ xs.length + ys.length + 1 := by
  refine fn_enter 57 Try.func140 fun W => ?_
  by_cases hc0 : xs.length < ys.length
  · have hc : icmp .lss (xs.length : Int) (ys.length : Int) = true := by rw [lss_nat]; simpa using hc0
    have hwl : IntKind.i64.wrap (iarith .add (ys.length : Int) 1) = ((ys.length + 1 : Nat) : Int) := by rw [wrap_add (by omega) (by omega)]; omega
    have hab : xs.length ≤ ys.length := by omega
    repeat' first
      | (first | refine tc_seq ?_ | refine tc_region ?_ | refine at_seq_normal ?_ | refine tl_nil ?_ | refine tl_cons ?_ | refine op_move ?_ | refine op_assign ?_ | refine op_fieldAddr ?_ | refine op_load ?_ | refine op_load_agg ?_ | refine op_indexC ?_ | refine op_indexAddr1 ?_ | refine op_indexAddr ?_ | refine op_icmp ?_ | refine op_fcmp ?_ | refine op_iarith ?_ | refine op_bcmp ?_ | refine op_unop_not ?_ | refine op_unop_neg_float ?_ | refine op_unop_neg_int ?_ | refine op_len_slice ?_ | refine op_pick_true ?_ | refine op_pick_false ?_ | refine op_pick_true' ?_ | refine op_pick_false' ?_ | refine op_build ?_ | refine op_extract ?_ | refine op_makeInterface ?_ | refine op_typeAssert ?_ | refine op_ptr_nil ?_ | refine op_nilCheck_ptr ?_ | refine op_nilCheck_meth ?_ | refine op_makeMeth ?_ | refine op_makeFunc ?_ | refine op_itof ?_ | refine op_itoi ?_ | refine op_ftoi ?_ | refine op_iquo ?_ | refine op_irem ?_ | refine op_ibits ?_ | refine op_slice_isnil ?_ | refine op_slice_notnil ?_ | refine op_imax ?_ | refine op_imin ?_ | refine op_shl ?_ | refine op_shr ?_ | (refine op_alloc ?_; intro _) | (refine op_box ?_; intro _) | (refine op_buildSlice ?_; intro _) | (refine op_farith ?_; intro _ _) | refine op_store0 ?_ | refine op_store1 ?_ | refine op_store2 ?_ | refine op_store3 ?_ | refine op_store4 ?_ | refine op_store5 ?_ | refine op_storeK rfl ?_ | refine op_loadK rfl ?_ | refine op_load_aggK rfl ?_ | refine tc_cond_t ?_ | refine tc_cond_f ?_ | refine tc_cond (fun _ => ?_) (fun _ => ?_) | refine tc_block ?_ | refine tc_skip ?_ | refine tc_ret ?_ | refine tc_exit ?_ | refine at_seq_ret ?_ | refine at_seq_exit ?_ | refine at_block_normal ?_ | refine at_block_ret ?_ | refine at_block_exit_self ?_ | refine at_block_exit_ne ?_ | refine at_loop_ret ?_ | refine at_loop_exit ?_ | fail)
      | (refine op_makeSlice (l := 0) (c := ys.length + 1) (fun k => ?_) (by omega) (by omega) (by omega) (hy := gete (by exact rfl) hwl); rw [made_rep])
      | fail
    refine tc_loopK [(1, _), (4, _), (21, _), (22, _)] (by repeat (first | exact trivial | refine ⟨rfl, ?_⟩)) (fun p : Nat × Nat × Buf × List Nat => [(23, .int .i64 (p.1 : Int)), (6, .int .u64 (p.2.1 : Int)), (5, bufV p.2.2.1 p.1)]) (fun p => bufH 189 p.2.2.1 (p.2.2.2.map uv) H)
      (fun p => p.1 ≤ ys.length ∧ bufOk 1 p.2.2.1 p.1 (p.2.2.2.map uv) ∧ p.2.2.2.length = p.1 ∧ Lm p.2.2.2 ∧ p.2.1 ≤ 1 ∧ lv p.2.2.2 + 4294967296 ^ p.1 * p.2.1 = lv (ys.take p.1) + lv (xs.take p.1)) (fun p => ys.length - p.1)
      (0, 0, some (k, ys.length + 1, List.replicate (ys.length + 1) (.int .u32 0)), []) ⟨Nat.zero_le _, ⟨Nat.zero_le _, by simp only [maxLen]; omega, rfl, by simp⟩, rfl, (fun x hx => by cases hx), Nat.zero_le _, by simp [lv]⟩ ⟨rfl, rfl, rfl, trivial⟩ (List.Sublist.refl _) ?_
    rintro ⟨i, carry, buf, zs⟩ ⟨h1, h2, h3, h4, h5, h6⟩
    simp only at h1 h2 h3 h4 h5 h6 ⊢
    by_cases hlt : i < ys.length
    · have hbb : icmp .lss (i : Int) (ys.length : Int) = true := by rw [lss_nat]; simpa using hlt
      obtain ⟨kA, oA, LA, TA, zA, rfl, mA, allA⟩ := us_block hu (fun e => by rw [e] at hlt; exact absurd hlt (Nat.not_lt_zero _))
      have mA2 : (kA, Obj.cells ⟨LA⟩ TA zA) ∈ bufH 189 buf (zs.map uv) H := (bufH_sub _ _ _ _).subset mA
      have lA := allA i hlt
      have bA := getD_lt hy i
      have tA := lv_take ys i
      have tB := lv_take xs i
      have bB := getD_lt hx i
      have e1 : IntKind.u64.wrap ((ys.getD i 0 : Nat) : Int) = ((ys.getD i 0 : Nat) : Int) := wrap_u64 (by omega) (by omega)
      have e2 : IntKind.u64.wrap (iarith .add ((ys.getD i 0 : Nat) : Int) ((carry : Nat) : Int)) = ((ys.getD i 0 + carry : Nat) : Int) := by
        rw [wrap_u64 (by simp only [iarith]; omega) (by simp only [iarith]; omega)]; simp only [iarith]; omega
      have fin : ∀ Sm : Nat, Sm = ys.getD i 0 + carry + xs.getD i 0 → Sm / 4294967296 ≤ 1 ∧ lv (zs ++ [Sm % 4294967296]) + 4294967296 ^ (i + 1) * (Sm / 4294967296) = lv (ys.take (i + 1)) + lv (xs.take (i + 1)) := fun Sm hS => by
        have hd := Nat.div_add_mod Sm 4294967296
        refine ⟨by have := Nat.div_lt_of_lt_mul (show Sm < 4294967296 * 2 by omega); omega, ?_⟩
        rw [tA, tB, lv_app, h3]
        simp only [lv, Nat.mul_zero, Nat.add_zero]
        have : 4294967296 ^ (i + 1) * (Sm / 4294967296) + 4294967296 ^ i * (Sm % 4294967296) = 4294967296 ^ i * Sm := by rw [Nat.pow_succ, Nat.mul_assoc, ← Nat.mul_add, hd]
        have h7 : 4294967296 ^ i * Sm = 4294967296 ^ i * ys.getD i 0 + 4294967296 ^ i * carry + 4294967296 ^ i * xs.getD i 0 := by rw [hS, Nat.mul_add, Nat.mul_add]
        omega
      have e5 : ∀ Sm : Nat, IntKind.u32.wrap ((Sm : Nat) : Int) = ((Sm % 4294967296 : Nat) : Int) := fun Sm => by rw [wrap_u32 (by omega)]; omega
      have e6 : ∀ Sm : Nat, Int.fdiv ((Sm : Nat) : Int) (2 ^ min (32 : Int).toNat IntKind.u64.bits) = ((Sm / 4294967296 : Nat) : Int) := fun Sm => by
        show Int.fdiv ((Sm : Nat) : Int) ((4294967296 : Nat) : Int) = _
        rw [Int.fdiv_eq_ediv_of_nonneg _ (by omega)]; rfl
      have hlm : ∀ Sm : Nat, Lm (zs ++ [Sm % 4294967296]) := fun Sm x hx => by
        rcases List.mem_append.1 hx with h | h
        · exact h4 x h
        · rw [List.mem_singleton] at h; subst h; exact Nat.mod_lt _ (by decide)
      by_cases hB : i < xs.length
      · have hbB : icmp .lss (i : Int) (xs.length : Int) = true := by rw [lss_nat]; simpa using hB
        obtain ⟨kB, oB, LB, TB, zB, rfl, mB, allB⟩ := us_block hv (fun e => by rw [e] at hB; exact absurd hB (Nat.not_lt_zero _))
        have mB2 : (kB, Obj.cells ⟨LB⟩ TB zB) ∈ bufH 189 buf (zs.map uv) H := (bufH_sub _ _ _ _).subset mB
        have lB := allB i hB
        have e3 : IntKind.u64.wrap ((xs.getD i 0 : Nat) : Int) = ((xs.getD i 0 : Nat) : Int) := wrap_u64 (by omega) (by omega)
        have e4 : IntKind.u64.wrap (iarith .add ((ys.getD i 0 + carry : Nat) : Int) ((xs.getD i 0 : Nat) : Int)) = ((ys.getD i 0 + carry + xs.getD i 0 : Nat) : Int) := by
          rw [wrap_u64 (by simp only [iarith]; omega) (by simp only [iarith]; omega)]; simp only [iarith]; omega
        obtain ⟨f1, f2⟩ := fin _ rfl
        clear fin tA tB allA allB
        generalize ys.getD i 0 = x at *
        generalize xs.getD i 0 = y at *
        have e5 := e5 (x + carry + y)
        have e6 := e6 (x + carry + y)
        have hlm := hlm (x + carry + y)
        generalize (x + carry + y) = Sm at *
        repeat' first
          | (rw [e1])
          | (rw [e2])
          | (rw [e3])
          | (rw [e4])
          | (rw [e5])
          | (rw [e6])
          | refine op_shr (v := 32) ?_
          | (refine op_append (H' := H) buf i (zs.map uv) [uv (Sm % 4294967296)] (m := 1) h2 (fun buf' hok' => ?_) (by exact rfl) (by exact rfl) (List.sublist_cons_self _ _) List.mem_cons_self rfl rfl (by simp [Value.oneCell', uv]) (by decide) (by simp only [maxLen]; omega) (by omega))
          | (first | refine tc_seq ?_ | refine tc_region ?_ | refine at_seq_normal ?_ | refine tl_nil ?_ | refine tl_cons ?_ | refine op_move ?_ | refine op_assign ?_ | refine op_fieldAddr ?_ | refine op_load ?_ | refine op_load_agg ?_ | refine op_indexC ?_ | refine op_indexAddr1 ?_ | refine op_indexAddr ?_ | refine op_icmp ?_ | refine op_fcmp ?_ | refine op_iarith ?_ | refine op_bcmp ?_ | refine op_unop_not ?_ | refine op_unop_neg_float ?_ | refine op_unop_neg_int ?_ | refine op_len_slice ?_ | refine op_pick_true ?_ | refine op_pick_false ?_ | refine op_pick_true' ?_ | refine op_pick_false' ?_ | refine op_build ?_ | refine op_extract ?_ | refine op_makeInterface ?_ | refine op_typeAssert ?_ | refine op_ptr_nil ?_ | refine op_nilCheck_ptr ?_ | refine op_nilCheck_meth ?_ | refine op_makeMeth ?_ | refine op_makeFunc ?_ | refine op_itof ?_ | refine op_itoi ?_ | refine op_ftoi ?_ | refine op_iquo ?_ | refine op_irem ?_ | refine op_ibits ?_ | refine op_slice_isnil ?_ | refine op_slice_notnil ?_ | refine op_imax ?_ | refine op_imin ?_ | refine op_shl ?_ | refine op_shr ?_ | (refine op_alloc ?_; intro _) | (refine op_box ?_; intro _) | (refine op_buildSlice ?_; intro _) | (refine op_farith ?_; intro _ _) | refine op_store0 ?_ | refine op_store1 ?_ | refine op_store2 ?_ | refine op_store3 ?_ | refine op_store4 ?_ | refine op_store5 ?_ | refine op_storeK rfl ?_ | refine op_loadK rfl ?_ | refine op_load_aggK rfl ?_ | refine tc_cond_t ?_ | refine tc_cond_f ?_ | refine tc_cond (fun _ => ?_) (fun _ => ?_) | refine tc_block ?_ | refine tc_skip ?_ | refine tc_ret ?_ | refine tc_exit ?_ | refine at_seq_ret ?_ | refine at_seq_exit ?_ | refine at_block_normal ?_ | refine at_block_ret ?_ | refine at_block_exit_self ?_ | refine at_block_exit_ne ?_ | refine at_loop_ret ?_ | refine at_loop_exit ?_ | fail)
          | fail
        exact at_loopK (i + 1, Sm / 4294967296, buf', zs ++ [Sm % 4294967296]) ⟨hlt, by simp only [List.map_append]; exact hok', by simp [h3], hlm, f1, f2⟩ (by simp only; omega) ⟨next_nat (by omega), rfl, rfl, trivial⟩ (by repeat (first | exact trivial | refine ⟨rfl, ?_⟩)) (by simp only [List.map_append]; exact List.Sublist.refl _)
      · have hbB : icmp .lss (i : Int) (xs.length : Int) = false := by rw [lss_nat]; simpa using hB
        have hb0 : xs.getD i 0 = 0 := by rw [List.getD_eq_getElem?_getD, List.getElem?_eq_none (by omega)]; rfl
        obtain ⟨f1, f2⟩ := fin (ys.getD i 0 + carry) (by omega)
        clear fin tA tB allA
        generalize ys.getD i 0 = x at *
        have e5 := e5 (x + carry)
        have e6 := e6 (x + carry)
        have hlm := hlm (x + carry)
        generalize (x + carry) = Sm at *
        repeat' first
          | (rw [e1])
          | (rw [e2])
          | (rw [e5])
          | (rw [e6])
          | refine op_shr (v := 32) ?_
          | (refine op_append (H' := H) buf i (zs.map uv) [uv (Sm % 4294967296)] (m := 1) h2 (fun buf' hok' => ?_) (by exact rfl) (by exact rfl) (List.sublist_cons_self _ _) List.mem_cons_self rfl rfl (by simp [Value.oneCell', uv]) (by decide) (by simp only [maxLen]; omega) (by omega))
          | (first | refine tc_seq ?_ | refine tc_region ?_ | refine at_seq_normal ?_ | refine tl_nil ?_ | refine tl_cons ?_ | refine op_move ?_ | refine op_assign ?_ | refine op_fieldAddr ?_ | refine op_load ?_ | refine op_load_agg ?_ | refine op_indexC ?_ | refine op_indexAddr1 ?_ | refine op_indexAddr ?_ | refine op_icmp ?_ | refine op_fcmp ?_ | refine op_iarith ?_ | refine op_bcmp ?_ | refine op_unop_not ?_ | refine op_unop_neg_float ?_ | refine op_unop_neg_int ?_ | refine op_len_slice ?_ | refine op_pick_true ?_ | refine op_pick_false ?_ | refine op_pick_true' ?_ | refine op_pick_false' ?_ | refine op_build ?_ | refine op_extract ?_ | refine op_makeInterface ?_ | refine op_typeAssert ?_ | refine op_ptr_nil ?_ | refine op_nilCheck_ptr ?_ | refine op_nilCheck_meth ?_ | refine op_makeMeth ?_ | refine op_makeFunc ?_ | refine op_itof ?_ | refine op_itoi ?_ | refine op_ftoi ?_ | refine op_iquo ?_ | refine op_irem ?_ | refine op_ibits ?_ | refine op_slice_isnil ?_ | refine op_slice_notnil ?_ | refine op_imax ?_ | refine op_imin ?_ | refine op_shl ?_ | refine op_shr ?_ | (refine op_alloc ?_; intro _) | (refine op_box ?_; intro _) | (refine op_buildSlice ?_; intro _) | (refine op_farith ?_; intro _ _) | refine op_store0 ?_ | refine op_store1 ?_ | refine op_store2 ?_ | refine op_store3 ?_ | refine op_store4 ?_ | refine op_store5 ?_ | refine op_storeK rfl ?_ | refine op_loadK rfl ?_ | refine op_load_aggK rfl ?_ | refine tc_cond_t ?_ | refine tc_cond_f ?_ | refine tc_cond (fun _ => ?_) (fun _ => ?_) | refine tc_block ?_ | refine tc_skip ?_ | refine tc_ret ?_ | refine tc_exit ?_ | refine at_seq_ret ?_ | refine at_seq_exit ?_ | refine at_block_normal ?_ | refine at_block_ret ?_ | refine at_block_exit_self ?_ | refine at_block_exit_ne ?_ | refine at_loop_ret ?_ | refine at_loop_exit ?_ | fail)
          | fail
        exact at_loopK (i + 1, Sm / 4294967296, buf', zs ++ [Sm % 4294967296]) ⟨hlt, by simp only [List.map_append]; exact hok', by simp [h3], hlm, f1, f2⟩ (by simp only; omega) ⟨next_nat (by omega), rfl, rfl, trivial⟩ (by repeat (first | exact trivial | refine ⟨rfl, ?_⟩)) (by simp only [List.map_append]; exact List.Sublist.refl _)
    · have hbb : icmp .lss (i : Int) (ys.length : Int) = false := by rw [lss_nat]; simpa using hlt
      obtain rfl : i = ys.length := by omega
      rw [List.take_of_length_le (Nat.le_refl _), List.take_of_length_le hab] at h6
      have e5 : IntKind.u32.wrap ((carry : Nat) : Int) = ((carry : Nat) : Int) := by rw [wrap_u32 (by omega)]; omega
      have hlm : Lm (zs ++ [carry]) := fun x hx => by
        rcases List.mem_append.1 hx with h | h
        · exact h4 x h
        · rw [List.mem_singleton] at h; subst h; omega
      have hval : lv (zs ++ [carry]) = lv ys + lv xs := by
        rw [lv_app, h3, ← h6]; simp only [lv, Nat.mul_zero, Nat.add_zero]
      have hlen2 : (zs ++ [carry]).length = ys.length + 1 := by simp [h3]
      repeat' first
        | (rw [e5])
        | (refine op_append (H' := H) buf ys.length (zs.map uv) [uv carry] (m := 1) h2 (fun buf' hok' => ?_) (by exact rfl) (by exact rfl) (List.sublist_cons_self _ _) List.mem_cons_self rfl rfl (by simp [Value.oneCell', uv]) (by decide) (by simp only [maxLen]; omega) (by omega); rw [show zs.map uv ++ [uv carry] = (zs ++ [carry]).map uv by simp] at hok' ⊢; have hus := fun H => us_buf (e := 189) (H := H) hok'; obtain ⟨aZ, cZ, hvZ⟩ := (hus []).val; rw [hvZ] at hus ⊢)
        | (refine op_call ((trim aZ cZ (zs ++ [carry]) _ (hus _) (by omega)).mono ?_); rintro _ _ ⟨n, rfl, rfl, hn, hnrm, hlv⟩)
        | (first | refine tc_seq ?_ | refine tc_region ?_ | refine at_seq_normal ?_ | refine tl_nil ?_ | refine tl_cons ?_ | refine op_move ?_ | refine op_assign ?_ | refine op_fieldAddr ?_ | refine op_load ?_ | refine op_load_agg ?_ | refine op_indexC ?_ | refine op_indexAddr1 ?_ | refine op_indexAddr ?_ | refine op_icmp ?_ | refine op_fcmp ?_ | refine op_iarith ?_ | refine op_bcmp ?_ | refine op_unop_not ?_ | refine op_unop_neg_float ?_ | refine op_unop_neg_int ?_ | refine op_len_slice ?_ | refine op_pick_true ?_ | refine op_pick_false ?_ | refine op_pick_true' ?_ | refine op_pick_false' ?_ | refine op_build ?_ | refine op_extract ?_ | refine op_makeInterface ?_ | refine op_typeAssert ?_ | refine op_ptr_nil ?_ | refine op_nilCheck_ptr ?_ | refine op_nilCheck_meth ?_ | refine op_makeMeth ?_ | refine op_makeFunc ?_ | refine op_itof ?_ | refine op_itoi ?_ | refine op_ftoi ?_ | refine op_iquo ?_ | refine op_irem ?_ | refine op_ibits ?_ | refine op_slice_isnil ?_ | refine op_slice_notnil ?_ | refine op_imax ?_ | refine op_imin ?_ | refine op_shl ?_ | refine op_shr ?_ | (refine op_alloc ?_; intro _) | (refine op_box ?_; intro _) | (refine op_buildSlice ?_; intro _) | (refine op_farith ?_; intro _ _) | refine op_store0 ?_ | refine op_store1 ?_ | refine op_store2 ?_ | refine op_store3 ?_ | refine op_store4 ?_ | refine op_store5 ?_ | refine op_storeK rfl ?_ | refine op_loadK rfl ?_ | refine op_load_aggK rfl ?_ | refine tc_cond_t ?_ | refine tc_cond_f ?_ | refine tc_cond (fun _ => ?_) (fun _ => ?_) | refine tc_block ?_ | refine tc_skip ?_ | refine tc_ret ?_ | refine tc_exit ?_ | refine at_seq_ret ?_ | refine at_seq_exit ?_ | refine at_block_normal ?_ | refine at_block_ret ?_ | refine at_block_exit_self ?_ | refine at_block_exit_ne ?_ | refine at_loop_ret ?_ | refine at_loop_exit ?_ | fail)
        | fail
      obtain ⟨exB, hexB⟩ := bufH_pre 189 buf' ((zs ++ [carry]).map uv) H
      refine ret_tmp (hG := List.Sublist.refl _) (hk := ⟨(zs ++ [carry]).take n, ⟨aZ, cZ, by rw [List.length_take, Nat.min_eq_left hn]⟩, exB, hexB, by rw [← hexB]; exact (hus H).take hn, hlm.take n, hnrm, by rw [hlv, hval]; omega, by rw [List.length_take]; omega⟩)
  · have hc : icmp .lss (xs.length : Int) (ys.length : Int) = false := by rw [lss_nat]; simpa using hc0
    have hwl : IntKind.i64.wrap (iarith .add (xs.length : Int) 1) = ((xs.length + 1 : Nat) : Int) := by rw [wrap_add (by omega) (by omega)]; omega
    have hab : ys.length ≤ xs.length := by omega
    repeat' first
      | (first | refine tc_seq ?_ | refine tc_region ?_ | refine at_seq_normal ?_ | refine tl_nil ?_ | refine tl_cons ?_ | refine op_move ?_ | refine op_assign ?_ | refine op_fieldAddr ?_ | refine op_load ?_ | refine op_load_agg ?_ | refine op_indexC ?_ | refine op_indexAddr1 ?_ | refine op_indexAddr ?_ | refine op_icmp ?_ | refine op_fcmp ?_ | refine op_iarith ?_ | refine op_bcmp ?_ | refine op_unop_not ?_ | refine op_unop_neg_float ?_ | refine op_unop_neg_int ?_ | refine op_len_slice ?_ | refine op_pick_true ?_ | refine op_pick_false ?_ | refine op_pick_true' ?_ | refine op_pick_false' ?_ | refine op_build ?_ | refine op_extract ?_ | refine op_makeInterface ?_ | refine op_typeAssert ?_ | refine op_ptr_nil ?_ | refine op_nilCheck_ptr ?_ | refine op_nilCheck_meth ?_ | refine op_makeMeth ?_ | refine op_makeFunc ?_ | refine op_itof ?_ | refine op_itoi ?_ | refine op_ftoi ?_ | refine op_iquo ?_ | refine op_irem ?_ | refine op_ibits ?_ | refine op_slice_isnil ?_ | refine op_slice_notnil ?_ | refine op_imax ?_ | refine op_imin ?_ | refine op_shl ?_ | refine op_shr ?_ | (refine op_alloc ?_; intro _) | (refine op_box ?_; intro _) | (refine op_buildSlice ?_; intro _) | (refine op_farith ?_; intro _ _) | refine op_store0 ?_ | refine op_store1 ?_ | refine op_store2 ?_ | refine op_store3 ?_ | refine op_store4 ?_ | refine op_store5 ?_ | refine op_storeK rfl ?_ | refine op_loadK rfl ?_ | refine op_load_aggK rfl ?_ | refine tc_cond_t ?_ | refine tc_cond_f ?_ | refine tc_cond (fun _ => ?_) (fun _ => ?_) | refine tc_block ?_ | refine tc_skip ?_ | refine tc_ret ?_ | refine tc_exit ?_ | refine at_seq_ret ?_ | refine at_seq_exit ?_ | refine at_block_normal ?_ | refine at_block_ret ?_ | refine at_block_exit_self ?_ | refine at_block_exit_ne ?_ | refine at_loop_ret ?_ | refine at_loop_exit ?_ | fail)
      | (refine op_makeSlice (l := 0) (c := xs.length + 1) (fun k => ?_) (by omega) (by omega) (by omega) (hy := gete (by exact rfl) hwl); rw [made_rep])
      | fail
    refine tc_loopK [(1, _), (4, _), (21, _), (22, _)] (by repeat (first | exact trivial | refine ⟨rfl, ?_⟩)) (fun p : Nat × Nat × Buf × List Nat => [(23, .int .i64 (p.1 : Int)), (6, .int .u64 (p.2.1 : Int)), (5, bufV p.2.2.1 p.1)]) (fun p => bufH 189 p.2.2.1 (p.2.2.2.map uv) H)
      (fun p => p.1 ≤ xs.length ∧ bufOk 1 p.2.2.1 p.1 (p.2.2.2.map uv) ∧ p.2.2.2.length = p.1 ∧ Lm p.2.2.2 ∧ p.2.1 ≤ 1 ∧ lv p.2.2.2 + 4294967296 ^ p.1 * p.2.1 = lv (xs.take p.1) + lv (ys.take p.1)) (fun p => xs.length - p.1)
      (0, 0, some (k, xs.length + 1, List.replicate (xs.length + 1) (.int .u32 0)), []) ⟨Nat.zero_le _, ⟨Nat.zero_le _, by simp only [maxLen]; omega, rfl, by simp⟩, rfl, (fun x hx => by cases hx), Nat.zero_le _, by simp [lv]⟩ ⟨rfl, rfl, rfl, trivial⟩ (List.Sublist.refl _) ?_
    rintro ⟨i, carry, buf, zs⟩ ⟨h1, h2, h3, h4, h5, h6⟩
    simp only at h1 h2 h3 h4 h5 h6 ⊢
    by_cases hlt : i < xs.length
    · have hbb : icmp .lss (i : Int) (xs.length : Int) = true := by rw [lss_nat]; simpa using hlt
      obtain ⟨kA, oA, LA, TA, zA, rfl, mA, allA⟩ := us_block hv (fun e => by rw [e] at hlt; exact absurd hlt (Nat.not_lt_zero _))
      have mA2 : (kA, Obj.cells ⟨LA⟩ TA zA) ∈ bufH 189 buf (zs.map uv) H := (bufH_sub _ _ _ _).subset mA
      have lA := allA i hlt
      have bA := getD_lt hx i
      have tA := lv_take xs i
      have tB := lv_take ys i
      have bB := getD_lt hy i
      have e1 : IntKind.u64.wrap ((xs.getD i 0 : Nat) : Int) = ((xs.getD i 0 : Nat) : Int) := wrap_u64 (by omega) (by omega)
      have e2 : IntKind.u64.wrap (iarith .add ((xs.getD i 0 : Nat) : Int) ((carry : Nat) : Int)) = ((xs.getD i 0 + carry : Nat) : Int) := by
        rw [wrap_u64 (by simp only [iarith]; omega) (by simp only [iarith]; omega)]; simp only [iarith]; omega
      have fin : ∀ Sm : Nat, Sm = xs.getD i 0 + carry + ys.getD i 0 → Sm / 4294967296 ≤ 1 ∧ lv (zs ++ [Sm % 4294967296]) + 4294967296 ^ (i + 1) * (Sm / 4294967296) = lv (xs.take (i + 1)) + lv (ys.take (i + 1)) := fun Sm hS => by
        have hd := Nat.div_add_mod Sm 4294967296
        refine ⟨by have := Nat.div_lt_of_lt_mul (show Sm < 4294967296 * 2 by omega); omega, ?_⟩
        rw [tA, tB, lv_app, h3]
        simp only [lv, Nat.mul_zero, Nat.add_zero]
        have : 4294967296 ^ (i + 1) * (Sm / 4294967296) + 4294967296 ^ i * (Sm % 4294967296) = 4294967296 ^ i * Sm := by rw [Nat.pow_succ, Nat.mul_assoc, ← Nat.mul_add, hd]
        have h7 : 4294967296 ^ i * Sm = 4294967296 ^ i * xs.getD i 0 + 4294967296 ^ i * carry + 4294967296 ^ i * ys.getD i 0 := by rw [hS, Nat.mul_add, Nat.mul_add]
        omega
      have e5 : ∀ Sm : Nat, IntKind.u32.wrap ((Sm : Nat) : Int) = ((Sm % 4294967296 : Nat) : Int) := fun Sm => by rw [wrap_u32 (by omega)]; omega
      have e6 : ∀ Sm : Nat, Int.fdiv ((Sm : Nat) : Int) (2 ^ min (32 : Int).toNat IntKind.u64.bits) = ((Sm / 4294967296 : Nat) : Int) := fun Sm => by
        show Int.fdiv ((Sm : Nat) : Int) ((4294967296 : Nat) : Int) = _
        rw [Int.fdiv_eq_ediv_of_nonneg _ (by omega)]; rfl
      have hlm : ∀ Sm : Nat, Lm (zs ++ [Sm % 4294967296]) := fun Sm x hx => by
        rcases List.mem_append.1 hx with h | h
        · exact h4 x h
        · rw [List.mem_singleton] at h; subst h; exact Nat.mod_lt _ (by decide)
      by_cases hB : i < ys.length
      · have hbB : icmp .lss (i : Int) (ys.length : Int) = true := by rw [lss_nat]; simpa using hB
        obtain ⟨kB, oB, LB, TB, zB, rfl, mB, allB⟩ := us_block hu (fun e => by rw [e] at hB; exact absurd hB (Nat.not_lt_zero _))
        have mB2 : (kB, Obj.cells ⟨LB⟩ TB zB) ∈ bufH 189 buf (zs.map uv) H := (bufH_sub _ _ _ _).subset mB
        have lB := allB i hB
        have e3 : IntKind.u64.wrap ((ys.getD i 0 : Nat) : Int) = ((ys.getD i 0 : Nat) : Int) := wrap_u64 (by omega) (by omega)
        have e4 : IntKind.u64.wrap (iarith .add ((xs.getD i 0 + carry : Nat) : Int) ((ys.getD i 0 : Nat) : Int)) = ((xs.getD i 0 + carry + ys.getD i 0 : Nat) : Int) := by
          rw [wrap_u64 (by simp only [iarith]; omega) (by simp only [iarith]; omega)]; simp only [iarith]; omega
        obtain ⟨f1, f2⟩ := fin _ rfl
        clear fin tA tB allA allB
        generalize xs.getD i 0 = x at *
        generalize ys.getD i 0 = y at *
        have e5 := e5 (x + carry + y)
        have e6 := e6 (x + carry + y)
        have hlm := hlm (x + carry + y)
        generalize (x + carry + y) = Sm at *
        repeat' first
          | (rw [e1])
          | (rw [e2])
          | (rw [e3])
          | (rw [e4])
          | (rw [e5])
          | (rw [e6])
          | refine op_shr (v := 32) ?_
          | (refine op_append (H' := H) buf i (zs.map uv) [uv (Sm % 4294967296)] (m := 1) h2 (fun buf' hok' => ?_) (by exact rfl) (by exact rfl) (List.sublist_cons_self _ _) List.mem_cons_self rfl rfl (by simp [Value.oneCell', uv]) (by decide) (by simp only [maxLen]; omega) (by omega))
          | (first | refine tc_seq ?_ | refine tc_region ?_ | refine at_seq_normal ?_ | refine tl_nil ?_ | refine tl_cons ?_ | refine op_move ?_ | refine op_assign ?_ | refine op_fieldAddr ?_ | refine op_load ?_ | refine op_load_agg ?_ | refine op_indexC ?_ | refine op_indexAddr1 ?_ | refine op_indexAddr ?_ | refine op_icmp ?_ | refine op_fcmp ?_ | refine op_iarith ?_ | refine op_bcmp ?_ | refine op_unop_not ?_ | refine op_unop_neg_float ?_ | refine op_unop_neg_int ?_ | refine op_len_slice ?_ | refine op_pick_true ?_ | refine op_pick_false ?_ | refine op_pick_true' ?_ | refine op_pick_false' ?_ | refine op_build ?_ | refine op_extract ?_ | refine op_makeInterface ?_ | refine op_typeAssert ?_ | refine op_ptr_nil ?_ | refine op_nilCheck_ptr ?_ | refine op_nilCheck_meth ?_ | refine op_makeMeth ?_ | refine op_makeFunc ?_ | refine op_itof ?_ | refine op_itoi ?_ | refine op_ftoi ?_ | refine op_iquo ?_ | refine op_irem ?_ | refine op_ibits ?_ | refine op_slice_isnil ?_ | refine op_slice_notnil ?_ | refine op_imax ?_ | refine op_imin ?_ | refine op_shl ?_ | refine op_shr ?_ | (refine op_alloc ?_; intro _) | (refine op_box ?_; intro _) | (refine op_buildSlice ?_; intro _) | (refine op_farith ?_; intro _ _) | refine op_store0 ?_ | refine op_store1 ?_ | refine op_store2 ?_ | refine op_store3 ?_ | refine op_store4 ?_ | refine op_store5 ?_ | refine op_storeK rfl ?_ | refine op_loadK rfl ?_ | refine op_load_aggK rfl ?_ | refine tc_cond_t ?_ | refine tc_cond_f ?_ | refine tc_cond (fun _ => ?_) (fun _ => ?_) | refine tc_block ?_ | refine tc_skip ?_ | refine tc_ret ?_ | refine tc_exit ?_ | refine at_seq_ret ?_ | refine at_seq_exit ?_ | refine at_block_normal ?_ | refine at_block_ret ?_ | refine at_block_exit_self ?_ | refine at_block_exit_ne ?_ | refine at_loop_ret ?_ | refine at_loop_exit ?_ | fail)
          | fail
        exact at_loopK (i + 1, Sm / 4294967296, buf', zs ++ [Sm % 4294967296]) ⟨hlt, by simp only [List.map_append]; exact hok', by simp [h3], hlm, f1, f2⟩ (by simp only; omega) ⟨next_nat (by omega), rfl, rfl, trivial⟩ (by repeat (first | exact trivial | refine ⟨rfl, ?_⟩)) (by simp only [List.map_append]; exact List.Sublist.refl _)
      · have hbB : icmp .lss (i : Int) (ys.length : Int) = false := by rw [lss_nat]; simpa using hB
        have hb0 : ys.getD i 0 = 0 := by rw [List.getD_eq_getElem?_getD, List.getElem?_eq_none (by omega)]; rfl
        obtain ⟨f1, f2⟩ := fin (xs.getD i 0 + carry) (by omega)
        clear fin tA tB allA
        generalize xs.getD i 0 = x at *
        have e5 := e5 (x + carry)
        have e6 := e6 (x + carry)
        have hlm := hlm (x + carry)
        generalize (x + carry) = Sm at *
        repeat' first
          | (rw [e1])
          | (rw [e2])
          | (rw [e5])
          | (rw [e6])
          | refine op_shr (v := 32) ?_
          | (refine op_append (H' := H) buf i (zs.map uv) [uv (Sm % 4294967296)] (m := 1) h2 (fun buf' hok' => ?_) (by exact rfl) (by exact rfl) (List.sublist_cons_self _ _) List.mem_cons_self rfl rfl (by simp [Value.oneCell', uv]) (by decide) (by simp only [maxLen]; omega) (by omega))
          | (first | refine tc_seq ?_ | refine tc_region ?_ | refine at_seq_normal ?_ | refine tl_nil ?_ | refine tl_cons ?_ | refine op_move ?_ | refine op_assign ?_ | refine op_fieldAddr ?_ | refine op_load ?_ | refine op_load_agg ?_ | refine op_indexC ?_ | refine op_indexAddr1 ?_ | refine op_indexAddr ?_ | refine op_icmp ?_ | refine op_fcmp ?_ | refine op_iarith ?_ | refine op_bcmp ?_ | refine op_unop_not ?_ | refine op_unop_neg_float ?_ | refine op_unop_neg_int ?_ | refine op_len_slice ?_ | refine op_pick_true ?_ | refine op_pick_false ?_ | refine op_pick_true' ?_ | refine op_pick_false' ?_ | refine op_build ?_ | refine op_extract ?_ | refine op_makeInterface ?_ | refine op_typeAssert ?_ | refine op_ptr_nil ?_ | refine op_nilCheck_ptr ?_ | refine op_nilCheck_meth ?_ | refine op_makeMeth ?_ | refine op_makeFunc ?_ | refine op_itof ?_ | refine op_itoi ?_ | refine op_ftoi ?_ | refine op_iquo ?_ | refine op_irem ?_ | refine op_ibits ?_ | refine op_slice_isnil ?_ | refine op_slice_notnil ?_ | refine op_imax ?_ | refine op_imin ?_ | refine op_shl ?_ | refine op_shr ?_ | (refine op_alloc ?_; intro _) | (refine op_box ?_; intro _) | (refine op_buildSlice ?_; intro _) | (refine op_farith ?_; intro _ _) | refine op_store0 ?_ | refine op_store1 ?_ | refine op_store2 ?_ | refine op_store3 ?_ | refine op_store4 ?_ | refine op_store5 ?_ | refine op_storeK rfl ?_ | refine op_loadK rfl ?_ | refine op_load_aggK rfl ?_ | refine tc_cond_t ?_ | refine tc_cond_f ?_ | refine tc_cond (fun _ => ?_) (fun _ => ?_) | refine tc_block ?_ | refine tc_skip ?_ | refine tc_ret ?_ | refine tc_exit ?_ | refine at_seq_ret ?_ | refine at_seq_exit ?_ | refine at_block_normal ?_ | refine at_block_ret ?_ | refine at_block_exit_self ?_ | refine at_block_exit_ne ?_ | refine at_loop_ret ?_ | refine at_loop_exit ?_ | fail)
          | fail
        exact at_loopK (i + 1, Sm / 4294967296, buf', zs ++ [Sm % 4294967296]) ⟨hlt, by simp only [List.map_append]; exact hok', by simp [h3], hlm, f1, f2⟩ (by simp only; omega) ⟨next_nat (by omega), rfl, rfl, trivial⟩ (by repeat (first | exact trivial | refine ⟨rfl, ?_⟩)) (by simp only [List.map_append]; exact List.Sublist.refl _)
    · have hbb : icmp .lss (i : Int) (xs.length : Int) = false := by rw [lss_nat]; simpa using hlt
      obtain rfl : i = xs.length := by omega
      rw [List.take_of_length_le (Nat.le_refl _), List.take_of_length_le hab] at h6
      have e5 : IntKind.u32.wrap ((carry : Nat) : Int) = ((carry : Nat) : Int) := by rw [wrap_u32 (by omega)]; omega
      have hlm : Lm (zs ++ [carry]) := fun x hx => by
        rcases List.mem_append.1 hx with h | h
        · exact h4 x h
        · rw [List.mem_singleton] at h; subst h; omega
      have hval : lv (zs ++ [carry]) = lv xs + lv ys := by
        rw [lv_app, h3, ← h6]; simp only [lv, Nat.mul_zero, Nat.add_zero]
      have hlen2 : (zs ++ [carry]).length = xs.length + 1 := by simp [h3]
      repeat' first
        | (rw [e5])
        | (refine op_append (H' := H) buf xs.length (zs.map uv) [uv carry] (m := 1) h2 (fun buf' hok' => ?_) (by exact rfl) (by exact rfl) (List.sublist_cons_self _ _) List.mem_cons_self rfl rfl (by simp [Value.oneCell', uv]) (by decide) (by simp only [maxLen]; omega) (by omega); rw [show zs.map uv ++ [uv carry] = (zs ++ [carry]).map uv by simp] at hok' ⊢; have hus := fun H => us_buf (e := 189) (H := H) hok'; obtain ⟨aZ, cZ, hvZ⟩ := (hus []).val; rw [hvZ] at hus ⊢)
        | (refine op_call ((trim aZ cZ (zs ++ [carry]) _ (hus _) (by omega)).mono ?_); rintro _ _ ⟨n, rfl, rfl, hn, hnrm, hlv⟩)
        | (first | refine tc_seq ?_ | refine tc_region ?_ | refine at_seq_normal ?_ | refine tl_nil ?_ | refine tl_cons ?_ | refine op_move ?_ | refine op_assign ?_ | refine op_fieldAddr ?_ | refine op_load ?_ | refine op_load_agg ?_ | refine op_indexC ?_ | refine op_indexAddr1 ?_ | refine op_indexAddr ?_ | refine op_icmp ?_ | refine op_fcmp ?_ | refine op_iarith ?_ | refine op_bcmp ?_ | refine op_unop_not ?_ | refine op_unop_neg_float ?_ | refine op_unop_neg_int ?_ | refine op_len_slice ?_ | refine op_pick_true ?_ | refine op_pick_false ?_ | refine op_pick_true' ?_ | refine op_pick_false' ?_ | refine op_build ?_ | refine op_extract ?_ | refine op_makeInterface ?_ | refine op_typeAssert ?_ | refine op_ptr_nil ?_ | refine op_nilCheck_ptr ?_ | refine op_nilCheck_meth ?_ | refine op_makeMeth ?_ | refine op_makeFunc ?_ | refine op_itof ?_ | refine op_itoi ?_ | refine op_ftoi ?_ | refine op_iquo ?_ | refine op_irem ?_ | refine op_ibits ?_ | refine op_slice_isnil ?_ | refine op_slice_notnil ?_ | refine op_imax ?_ | refine op_imin ?_ | refine op_shl ?_ | refine op_shr ?_ | (refine op_alloc ?_; intro _) | (refine op_box ?_; intro _) | (refine op_buildSlice ?_; intro _) | (refine op_farith ?_; intro _ _) | refine op_store0 ?_ | refine op_store1 ?_ | refine op_store2 ?_ | refine op_store3 ?_ | refine op_store4 ?_ | refine op_store5 ?_ | refine op_storeK rfl ?_ | refine op_loadK rfl ?_ | refine op_load_aggK rfl ?_ | refine tc_cond_t ?_ | refine tc_cond_f ?_ | refine tc_cond (fun _ => ?_) (fun _ => ?_) | refine tc_block ?_ | refine tc_skip ?_ | refine tc_ret ?_ | refine tc_exit ?_ | refine at_seq_ret ?_ | refine at_seq_exit ?_ | refine at_block_normal ?_ | refine at_block_ret ?_ | refine at_block_exit_self ?_ | refine at_block_exit_ne ?_ | refine at_loop_ret ?_ | refine at_loop_exit ?_ | fail)
        | fail
      obtain ⟨exB, hexB⟩ := bufH_pre 189 buf' ((zs ++ [carry]).map uv) H
      refine ret_tmp (hG := List.Sublist.refl _) (hk := ⟨(zs ++ [carry]).take n, ⟨aZ, cZ, by rw [List.length_take, Nat.min_eq_left hn]⟩, exB, hexB, by rw [← hexB]; exact (hus H).take hn, hlm.take n, hnrm, by rw [hlv, hval], by rw [List.length_take]; omega⟩)
end Go.Proofs.Ytomhkbijijdghaa.Lmb

set_option linter.unusedVariables false
set_option linter.unusedSimpArgs false
namespace Go.Proofs.Ytomhkbijijdghaa.Lmb
open Go.Lg

set_option maxHeartbeats 16000000 in
theorem subLimbs (a1 a2 : Option Addr) (c1 c2 : Nat) (xs ys : List Nat) (H : Heap) (hv : US H (.slice a1 xs.length c1) xs) (hu : US H (.slice a2 ys.length c2) ys) (hx : Lm xs) (hy : Lm ys) (hb : xs.length < 2 ^ 36) (hle : ys.length ≤ xs.length) (hval : lv ys ≤ lv xs) :
    Does Try.prog 142 [.slice a1 xs.length c1, .slice a2 ys.length c2] H fun w H' => ∃ zs, (∃ a c, w = .slice a zs.length c) ∧ ∃ ex, H' = ex ++ H ∧ US (ex ++ H) w zs ∧ Lm zs ∧ Nrm zs ∧ lv zs + lv ys = lv xs ∧ zs.length ≤ xs.length := by
  refine fn_enter 50 Try.func142 fun W => ?_
  repeat' first
    | (first | refine tc_seq ?_ | refine tc_region ?_ | refine at_seq_normal ?_ | refine tl_nil ?_ | refine tl_cons ?_ | refine op_move ?_ | refine op_assign ?_ | refine op_fieldAddr ?_ | refine op_load ?_ | refine op_load_agg ?_ | refine op_indexC ?_ | refine op_indexAddr1 ?_ | refine op_indexAddr ?_ | refine op_icmp ?_ | refine op_fcmp ?_ | refine op_iarith ?_ | refine op_bcmp ?_ | refine op_unop_not ?_ | refine op_unop_neg_float ?_ | refine op_unop_neg_int ?_ | refine op_len_slice ?_ | refine op_pick_true ?_ | refine op_pick_false ?_ | refine op_pick_true' ?_ | refine op_pick_false' ?_ | refine op_build ?_ | refine op_extract ?_ | refine op_makeInterface ?_ | refine op_typeAssert ?_ | refine op_ptr_nil ?_ | refine op_nilCheck_ptr ?_ | refine op_nilCheck_meth ?_ | refine op_makeMeth ?_ | refine op_makeFunc ?_ | refine op_itof ?_ | refine op_itoi ?_ | refine op_ftoi ?_ | refine op_iquo ?_ | refine op_irem ?_ | refine op_ibits ?_ | refine op_slice_isnil ?_ | refine op_slice_notnil ?_ | refine op_imax ?_ | refine op_imin ?_ | refine op_shl ?_ | refine op_shr ?_ | (refine op_alloc ?_; intro _) | (refine op_box ?_; intro _) | (refine op_buildSlice ?_; intro _) | (refine op_farith ?_; intro _ _) | refine op_store0 ?_ | refine op_store1 ?_ | refine op_store2 ?_ | refine op_store3 ?_ | refine op_store4 ?_ | refine op_store5 ?_ | refine op_storeK rfl ?_ | refine op_loadK rfl ?_ | refine op_load_aggK rfl ?_ | refine tc_cond_t ?_ | refine tc_cond_f ?_ | refine tc_cond (fun _ => ?_) (fun _ => ?_) | refine tc_block ?_ | refine tc_skip ?_ | refine tc_ret ?_ | refine tc_exit ?_ | refine at_seq_ret ?_ | refine at_seq_exit ?_ | refine at_block_normal ?_ | refine at_block_ret ?_ | refine at_block_exit_self ?_ | refine at_block_exit_ne ?_ | refine at_loop_ret ?_ | refine at_loop_exit ?_ | fail)
    | (refine op_makeSlice (l := 0) (c := xs.length) (fun k => ?_) (by omega) (by omega) (by omega); rw [made_rep])
    | fail
  refine tc_loopK [(1, _), (4, _), (13, _), (14, _)] (by repeat (first | exact trivial | refine ⟨rfl, ?_⟩)) (fun p : Nat × Nat × Buf × List Nat => [(15, .int .i64 (p.1 : Int)), (6, .int .u64 (p.2.1 : Int)), (5, bufV p.2.2.1 p.1)]) (fun p => bufH 189 p.2.2.1 (p.2.2.2.map uv) H)
    (fun p => p.1 ≤ xs.length ∧ bufOk 1 p.2.2.1 p.1 (p.2.2.2.map uv) ∧ p.2.2.2.length = p.1 ∧ Lm p.2.2.2 ∧ p.2.1 ≤ 1 ∧ lv p.2.2.2 + lv (ys.take p.1) = lv (xs.take p.1) + 4294967296 ^ p.1 * p.2.1) (fun p => xs.length - p.1)
    (0, 0, some (k, xs.length, List.replicate xs.length (.int .u32 0)), []) ⟨Nat.zero_le _, ⟨Nat.zero_le _, by simp only [maxLen]; omega, rfl, by simp⟩, rfl, (fun x hx => by cases hx), Nat.zero_le _, by simp [lv]⟩ ⟨rfl, rfl, rfl, trivial⟩ (List.Sublist.refl _) ?_
  rintro ⟨i, bor, buf, zs⟩ ⟨h1, h2, h3, h4, h5, h6⟩
  simp only at h1 h2 h3 h4 h5 h6 ⊢
  by_cases hlt : i < xs.length
  · have hbb : icmp .lss (i : Int) (xs.length : Int) = true := by rw [lss_nat]; simpa using hlt
    obtain ⟨kA, oA, LA, TA, zA, rfl, mA, allA⟩ := us_block hv (fun e => by rw [e] at hlt; exact absurd hlt (Nat.not_lt_zero _))
    have mA2 : (kA, Obj.cells ⟨LA⟩ TA zA) ∈ bufH 189 buf (zs.map uv) H := (bufH_sub _ _ _ _).subset mA
    have lA := allA i hlt
    have bA := getD_lt hx i
    have tA := lv_take xs i
    have tB := lv_take ys i
    have bB := getD_lt hy i
    have e1 : IntKind.u64.wrap ((xs.getD i 0 : Nat) : Int) = ((xs.getD i 0 : Nat) : Int) := wrap_u64 (by omega) (by omega)
    have fin : ∀ (y b d : Nat), y = bor + ys.getD i 0 → d + y = xs.getD i 0 + b * 4294967296 → lv (zs ++ [d]) + lv (ys.take (i + 1)) = lv (xs.take (i + 1)) + 4294967296 ^ (i + 1) * b := fun y b d hy hd => by
      rw [tA, tB, lv_app, h3]
      simp only [lv, Nat.mul_zero, Nat.add_zero]
      have e := congrArg (fun t => 4294967296 ^ i * t) hd
      simp only [Nat.mul_add] at e
      rw [hy, Nat.mul_add] at e
      rw [Nat.pow_succ, Nat.mul_assoc, Nat.mul_comm 4294967296 b]
      omega
    have hlm : ∀ d : Nat, d < 4294967296 → Lm (zs ++ [d]) := fun d hd x hx => by
      rcases List.mem_append.1 hx with h | h
      · exact h4 x h
      · rw [List.mem_singleton] at h; subst h; exact hd
    by_cases hB : i < ys.length
    · have hbB : icmp .lss (i : Int) (ys.length : Int) = true := by rw [lss_nat]; simpa using hB
      obtain ⟨kB, oB, LB, TB, zB, rfl, mB, allB⟩ := us_block hu (fun e => by rw [e] at hB; exact absurd hB (Nat.not_lt_zero _))
      have mB2 : (kB, Obj.cells ⟨LB⟩ TB zB) ∈ bufH 189 buf (zs.map uv) H := (bufH_sub _ _ _ _).subset mB
      have lB := allB i hB
      have e3 : IntKind.u64.wrap ((ys.getD i 0 : Nat) : Int) = ((ys.getD i 0 : Nat) : Int) := wrap_u64 (by omega) (by omega)
      have e4 : IntKind.u64.wrap (iarith .add ((bor : Nat) : Int) ((ys.getD i 0 : Nat) : Int)) = ((bor + ys.getD i 0 : Nat) : Int) := by
        rw [wrap_u64 (by simp only [iarith]; omega) (by simp only [iarith]; omega)]; simp only [iarith]; omega
      have hYb : bor + ys.getD i 0 ≤ 4294967296 := by omega
      have fin := fun b d => fin (bor + ys.getD i 0) b d rfl
      clear tA tB allA allB bB
      generalize xs.getD i 0 = x at *
      generalize ys.getD i 0 = yy at *
      generalize bor + yy = y at *
      by_cases hxy : x < y
      · have hls : icmp .lss (x : Int) (y : Int) = true := by rw [lss_nat]; simpa using hxy
        have e7 : IntKind.u64.wrap ((1 : Int) * 2 ^ min (32 : Int).toNat IntKind.u64.bits) = ((1 * 4294967296 : Nat) : Int) := by decide
        have e8 : IntKind.u64.wrap (iarith .add (x : Int) ((1 * 4294967296 : Nat) : Int)) = ((x + 1 * 4294967296 : Nat) : Int) := by
          rw [wrap_u64 (by simp only [iarith]; omega) (by simp only [iarith]; omega)]; simp only [iarith]; omega
        obtain ⟨d, hd⟩ : ∃ d, d + y = x + 1 * 4294967296 := ⟨x + 1 * 4294967296 - y, by omega⟩
        have hdl : d < 4294967296 := by omega
        have e9 : IntKind.u64.wrap (iarith .sub ((x + 1 * 4294967296 : Nat) : Int) (y : Int)) = ((d : Nat) : Int) := by
          rw [wrap_u64 (by simp only [iarith]; omega) (by simp only [iarith]; omega)]; simp only [iarith]; omega
        have e10 : IntKind.u32.wrap ((d : Nat) : Int) = ((d : Nat) : Int) := by rw [wrap_u32 (by omega)]; omega
        have hf := fin 1 d hd
        have hlm := hlm d hdl
        repeat' first
          | (rw [e1])
          | (rw [e3])
          | (rw [e4])
          | (rw [e7])
          | (rw [e8])
          | (rw [e9])
          | (rw [e10])
          | refine op_shl (v := 32) ?_
          | (refine op_append (H' := H) buf i (zs.map uv) [uv d] (m := 1) h2 (fun buf' hok' => ?_) (by exact rfl) (by exact rfl) (List.sublist_cons_self _ _) List.mem_cons_self rfl rfl (by simp [Value.oneCell', uv]) (by decide) (by simp only [maxLen]; omega) (by omega))
          | (first | refine tc_seq ?_ | refine tc_region ?_ | refine at_seq_normal ?_ | refine tl_nil ?_ | refine tl_cons ?_ | refine op_move ?_ | refine op_assign ?_ | refine op_fieldAddr ?_ | refine op_load ?_ | refine op_load_agg ?_ | refine op_indexC ?_ | refine op_indexAddr1 ?_ | refine op_indexAddr ?_ | refine op_icmp ?_ | refine op_fcmp ?_ | refine op_iarith ?_ | refine op_bcmp ?_ | refine op_unop_not ?_ | refine op_unop_neg_float ?_ | refine op_unop_neg_int ?_ | refine op_len_slice ?_ | refine op_pick_true ?_ | refine op_pick_false ?_ | refine op_pick_true' ?_ | refine op_pick_false' ?_ | refine op_build ?_ | refine op_extract ?_ | refine op_makeInterface ?_ | refine op_typeAssert ?_ | refine op_ptr_nil ?_ | refine op_nilCheck_ptr ?_ | refine op_nilCheck_meth ?_ | refine op_makeMeth ?_ | refine op_makeFunc ?_ | refine op_itof ?_ | refine op_itoi ?_ | refine op_ftoi ?_ | refine op_iquo ?_ | refine op_irem ?_ | refine op_ibits ?_ | refine op_slice_isnil ?_ | refine op_slice_notnil ?_ | refine op_imax ?_ | refine op_imin ?_ | refine op_shl ?_ | refine op_shr ?_ | (refine op_alloc ?_; intro _) | (refine op_box ?_; intro _) | (refine op_buildSlice ?_; intro _) | (refine op_farith ?_; intro _ _) | refine op_store0 ?_ | refine op_store1 ?_ | refine op_store2 ?_ | refine op_store3 ?_ | refine op_store4 ?_ | refine op_store5 ?_ | refine op_storeK rfl ?_ | refine op_loadK rfl ?_ | refine op_load_aggK rfl ?_ | refine tc_cond_t ?_ | refine tc_cond_f ?_ | refine tc_cond (fun _ => ?_) (fun _ => ?_) | refine tc_block ?_ | refine tc_skip ?_ | refine tc_ret ?_ | refine tc_exit ?_ | refine at_seq_ret ?_ | refine at_seq_exit ?_ | refine at_block_normal ?_ | refine at_block_ret ?_ | refine at_block_exit_self ?_ | refine at_block_exit_ne ?_ | refine at_loop_ret ?_ | refine at_loop_exit ?_ | fail)
          | fail
        exact at_loopK (i + 1, 1, buf', zs ++ [d]) ⟨hlt, by simp only [List.map_append]; exact hok', by simp [h3], hlm, by simp only; omega, hf⟩ (by simp only; omega) ⟨next_nat (by omega), rfl, rfl, trivial⟩ (by repeat (first | exact trivial | refine ⟨rfl, ?_⟩)) (by simp only [List.map_append]; exact List.Sublist.refl _)
      · have hls : icmp .lss (x : Int) (y : Int) = false := by rw [lss_nat]; simpa using hxy
        have e7 : IntKind.u64.wrap ((0 : Int) * 2 ^ min (32 : Int).toNat IntKind.u64.bits) = ((0 * 4294967296 : Nat) : Int) := by decide
        have e8 : IntKind.u64.wrap (iarith .add (x : Int) ((0 * 4294967296 : Nat) : Int)) = ((x + 0 * 4294967296 : Nat) : Int) := by
          rw [wrap_u64 (by simp only [iarith]; omega) (by simp only [iarith]; omega)]; simp only [iarith]; omega
        obtain ⟨d, hd⟩ : ∃ d, d + y = x + 0 * 4294967296 := ⟨x + 0 * 4294967296 - y, by omega⟩
        have hdl : d < 4294967296 := by omega
        have e9 : IntKind.u64.wrap (iarith .sub ((x + 0 * 4294967296 : Nat) : Int) (y : Int)) = ((d : Nat) : Int) := by
          rw [wrap_u64 (by simp only [iarith]; omega) (by simp only [iarith]; omega)]; simp only [iarith]; omega
        have e10 : IntKind.u32.wrap ((d : Nat) : Int) = ((d : Nat) : Int) := by rw [wrap_u32 (by omega)]; omega
        have hf := fin 0 d hd
        have hlm := hlm d hdl
        repeat' first
          | (rw [e1])
          | (rw [e3])
          | (rw [e4])
          | (rw [e7])
          | (rw [e8])
          | (rw [e9])
          | (rw [e10])
          | refine op_shl (v := 32) ?_
          | (refine op_append (H' := H) buf i (zs.map uv) [uv d] (m := 1) h2 (fun buf' hok' => ?_) (by exact rfl) (by exact rfl) (List.sublist_cons_self _ _) List.mem_cons_self rfl rfl (by simp [Value.oneCell', uv]) (by decide) (by simp only [maxLen]; omega) (by omega))
          | (first | refine tc_seq ?_ | refine tc_region ?_ | refine at_seq_normal ?_ | refine tl_nil ?_ | refine tl_cons ?_ | refine op_move ?_ | refine op_assign ?_ | refine op_fieldAddr ?_ | refine op_load ?_ | refine op_load_agg ?_ | refine op_indexC ?_ | refine op_indexAddr1 ?_ | refine op_indexAddr ?_ | refine op_icmp ?_ | refine op_fcmp ?_ | refine op_iarith ?_ | refine op_bcmp ?_ | refine op_unop_not ?_ | refine op_unop_neg_float ?_ | refine op_unop_neg_int ?_ | refine op_len_slice ?_ | refine op_pick_true ?_ | refine op_pick_false ?_ | refine op_pick_true' ?_ | refine op_pick_false' ?_ | refine op_build ?_ | refine op_extract ?_ | refine op_makeInterface ?_ | refine op_typeAssert ?_ | refine op_ptr_nil ?_ | refine op_nilCheck_ptr ?_ | refine op_nilCheck_meth ?_ | refine op_makeMeth ?_ | refine op_makeFunc ?_ | refine op_itof ?_ | refine op_itoi ?_ | refine op_ftoi ?_ | refine op_iquo ?_ | refine op_irem ?_ | refine op_ibits ?_ | refine op_slice_isnil ?_ | refine op_slice_notnil ?_ | refine op_imax ?_ | refine op_imin ?_ | refine op_shl ?_ | refine op_shr ?_ | (refine op_alloc ?_; intro _) | (refine op_box ?_; intro _) | (refine op_buildSlice ?_; intro _) | (refine op_farith ?_; intro _ _) | refine op_store0 ?_ | refine op_store1 ?_ | refine op_store2 ?_ | refine op_store3 ?_ | refine op_store4 ?_ | refine op_store5 ?_ | refine op_storeK rfl ?_ | refine op_loadK rfl ?_ | refine op_load_aggK rfl ?_ | refine tc_cond_t ?_ | refine tc_cond_f ?_ | refine tc_cond (fun _ => ?_) (fun _ => ?_) | refine tc_block ?_ | refine tc_skip ?_ | refine tc_ret ?_ | refine tc_exit ?_ | refine at_seq_ret ?_ | refine at_seq_exit ?_ | refine at_block_normal ?_ | refine at_block_ret ?_ | refine at_block_exit_self ?_ | refine at_block_exit_ne ?_ | refine at_loop_ret ?_ | refine at_loop_exit ?_ | fail)
          | fail
        exact at_loopK (i + 1, 0, buf', zs ++ [d]) ⟨hlt, by simp only [List.map_append]; exact hok', by simp [h3], hlm, by simp only; omega, hf⟩ (by simp only; omega) ⟨next_nat (by omega), rfl, rfl, trivial⟩ (by repeat (first | exact trivial | refine ⟨rfl, ?_⟩)) (by simp only [List.map_append]; exact List.Sublist.refl _)
    · have hbB : icmp .lss (i : Int) (ys.length : Int) = false := by rw [lss_nat]; simpa using hB
      have hb0 : ys.getD i 0 = 0 := by rw [List.getD_eq_getElem?_getD, List.getElem?_eq_none (by omega)]; rfl
      have hYb : bor ≤ 4294967296 := by omega
      have fin := fun b d => fin bor b d (by omega)
      clear tA tB allA bB
      generalize xs.getD i 0 = x at *
      have e3 : True := trivial
      have e4 : True := trivial
      obtain ⟨y, hy⟩ : ∃ y, y = bor := ⟨_, rfl⟩
      rw [← hy] at hYb fin
      by_cases hxy : x < bor
      · have hls : icmp .lss (x : Int) (bor : Int) = true := by rw [lss_nat]; simpa using hxy
        have e7 : IntKind.u64.wrap ((1 : Int) * 2 ^ min (32 : Int).toNat IntKind.u64.bits) = ((1 * 4294967296 : Nat) : Int) := by decide
        have e8 : IntKind.u64.wrap (iarith .add (x : Int) ((1 * 4294967296 : Nat) : Int)) = ((x + 1 * 4294967296 : Nat) : Int) := by
          rw [wrap_u64 (by simp only [iarith]; omega) (by simp only [iarith]; omega)]; simp only [iarith]; omega
        obtain ⟨d, hd⟩ : ∃ d, d + bor = x + 1 * 4294967296 := ⟨x + 1 * 4294967296 - bor, by omega⟩
        have hdl : d < 4294967296 := by omega
        have e9 : IntKind.u64.wrap (iarith .sub ((x + 1 * 4294967296 : Nat) : Int) (bor : Int)) = ((d : Nat) : Int) := by
          rw [wrap_u64 (by simp only [iarith]; omega) (by simp only [iarith]; omega)]; simp only [iarith]; omega
        have e10 : IntKind.u32.wrap ((d : Nat) : Int) = ((d : Nat) : Int) := by rw [wrap_u32 (by omega)]; omega
        have hf := fin 1 d (by rw [hy]; exact hd)
        have hlm := hlm d hdl
        repeat' first
          | (rw [e1])
          | (rw [e3])
          | (rw [e4])
          | (rw [e7])
          | (rw [e8])
          | (rw [e9])
          | (rw [e10])
          | refine op_shl (v := 32) ?_
          | (refine op_append (H' := H) buf i (zs.map uv) [uv d] (m := 1) h2 (fun buf' hok' => ?_) (by exact rfl) (by exact rfl) (List.sublist_cons_self _ _) List.mem_cons_self rfl rfl (by simp [Value.oneCell', uv]) (by decide) (by simp only [maxLen]; omega) (by omega))
          | (first | refine tc_seq ?_ | refine tc_region ?_ | refine at_seq_normal ?_ | refine tl_nil ?_ | refine tl_cons ?_ | refine op_move ?_ | refine op_assign ?_ | refine op_fieldAddr ?_ | refine op_load ?_ | refine op_load_agg ?_ | refine op_indexC ?_ | refine op_indexAddr1 ?_ | refine op_indexAddr ?_ | refine op_icmp ?_ | refine op_fcmp ?_ | refine op_iarith ?_ | refine op_bcmp ?_ | refine op_unop_not ?_ | refine op_unop_neg_float ?_ | refine op_unop_neg_int ?_ | refine op_len_slice ?_ | refine op_pick_true ?_ | refine op_pick_false ?_ | refine op_pick_true' ?_ | refine op_pick_false' ?_ | refine op_build ?_ | refine op_extract ?_ | refine op_makeInterface ?_ | refine op_typeAssert ?_ | refine op_ptr_nil ?_ | refine op_nilCheck_ptr ?_ | refine op_nilCheck_meth ?_ | refine op_makeMeth ?_ | refine op_makeFunc ?_ | refine op_itof ?_ | refine op_itoi ?_ | refine op_ftoi ?_ | refine op_iquo ?_ | refine op_irem ?_ | refine op_ibits ?_ | refine op_slice_isnil ?_ | refine op_slice_notnil ?_ | refine op_imax ?_ | refine op_imin ?_ | refine op_shl ?_ | refine op_shr ?_ | (refine op_alloc ?_; intro _) | (refine op_box ?_; intro _) | (refine op_buildSlice ?_; intro _) | (refine op_farith ?_; intro _ _) | refine op_store0 ?_ | refine op_store1 ?_ | refine op_store2 ?_ | refine op_store3 ?_ | refine op_store4 ?_ | refine op_store5 ?_ | refine op_storeK rfl ?_ | refine op_loadK rfl ?_ | refine op_load_aggK rfl ?_ | refine tc_cond_t ?_ | refine tc_cond_f ?_ | refine tc_cond (fun _ => ?_) (fun _ => ?_) | refine tc_block ?_ | refine tc_skip ?_ | refine tc_ret ?_ | refine tc_exit ?_ | refine at_seq_ret ?_ | refine at_seq_exit ?_ | refine at_block_normal ?_ | refine at_block_ret ?_ | refine at_block_exit_self ?_ | refine at_block_exit_ne ?_ | refine at_loop_ret ?_ | refine at_loop_exit ?_ | fail)
          | fail
        exact at_loopK (i + 1, 1, buf', zs ++ [d]) ⟨hlt, by simp only [List.map_append]; exact hok', by simp [h3], hlm, by simp only; omega, hf⟩ (by simp only; omega) ⟨next_nat (by omega), rfl, rfl, trivial⟩ (by repeat (first | exact trivial | refine ⟨rfl, ?_⟩)) (by simp only [List.map_append]; exact List.Sublist.refl _)
      · have hls : icmp .lss (x : Int) (bor : Int) = false := by rw [lss_nat]; simpa using hxy
        have e7 : IntKind.u64.wrap ((0 : Int) * 2 ^ min (32 : Int).toNat IntKind.u64.bits) = ((0 * 4294967296 : Nat) : Int) := by decide
        have e8 : IntKind.u64.wrap (iarith .add (x : Int) ((0 * 4294967296 : Nat) : Int)) = ((x + 0 * 4294967296 : Nat) : Int) := by
          rw [wrap_u64 (by simp only [iarith]; omega) (by simp only [iarith]; omega)]; simp only [iarith]; omega
        obtain ⟨d, hd⟩ : ∃ d, d + bor = x + 0 * 4294967296 := ⟨x + 0 * 4294967296 - bor, by omega⟩
        have hdl : d < 4294967296 := by omega
        have e9 : IntKind.u64.wrap (iarith .sub ((x + 0 * 4294967296 : Nat) : Int) (bor : Int)) = ((d : Nat) : Int) := by
          rw [wrap_u64 (by simp only [iarith]; omega) (by simp only [iarith]; omega)]; simp only [iarith]; omega
        have e10 : IntKind.u32.wrap ((d : Nat) : Int) = ((d : Nat) : Int) := by rw [wrap_u32 (by omega)]; omega
        have hf := fin 0 d (by rw [hy]; exact hd)
        have hlm := hlm d hdl
        repeat' first
          | (rw [e1])
          | (rw [e3])
          | (rw [e4])
          | (rw [e7])
          | (rw [e8])
          | (rw [e9])
          | (rw [e10])
          | refine op_shl (v := 32) ?_
          | (refine op_append (H' := H) buf i (zs.map uv) [uv d] (m := 1) h2 (fun buf' hok' => ?_) (by exact rfl) (by exact rfl) (List.sublist_cons_self _ _) List.mem_cons_self rfl rfl (by simp [Value.oneCell', uv]) (by decide) (by simp only [maxLen]; omega) (by omega))
          | (first | refine tc_seq ?_ | refine tc_region ?_ | refine at_seq_normal ?_ | refine tl_nil ?_ | refine tl_cons ?_ | refine op_move ?_ | refine op_assign ?_ | refine op_fieldAddr ?_ | refine op_load ?_ | refine op_load_agg ?_ | refine op_indexC ?_ | refine op_indexAddr1 ?_ | refine op_indexAddr ?_ | refine op_icmp ?_ | refine op_fcmp ?_ | refine op_iarith ?_ | refine op_bcmp ?_ | refine op_unop_not ?_ | refine op_unop_neg_float ?_ | refine op_unop_neg_int ?_ | refine op_len_slice ?_ | refine op_pick_true ?_ | refine op_pick_false ?_ | refine op_pick_true' ?_ | refine op_pick_false' ?_ | refine op_build ?_ | refine op_extract ?_ | refine op_makeInterface ?_ | refine op_typeAssert ?_ | refine op_ptr_nil ?_ | refine op_nilCheck_ptr ?_ | refine op_nilCheck_meth ?_ | refine op_makeMeth ?_ | refine op_makeFunc ?_ | refine op_itof ?_ | refine op_itoi ?_ | refine op_ftoi ?_ | refine op_iquo ?_ | refine op_irem ?_ | refine op_ibits ?_ | refine op_slice_isnil ?_ | refine op_slice_notnil ?_ | refine op_imax ?_ | refine op_imin ?_ | refine op_shl ?_ | refine op_shr ?_ | (refine op_alloc ?_; intro _) | (refine op_box ?_; intro _) | (refine op_buildSlice ?_; intro _) | (refine op_farith ?_; intro _ _) | refine op_store0 ?_ | refine op_store1 ?_ | refine op_store2 ?_ | refine op_store3 ?_ | refine op_store4 ?_ | refine op_store5 ?_ | refine op_storeK rfl ?_ | refine op_loadK rfl ?_ | refine op_load_aggK rfl ?_ | refine tc_cond_t ?_ | refine tc_cond_f ?_ | refine tc_cond (fun _ => ?_) (fun _ => ?_) | refine tc_block ?_ | refine tc_skip ?_ | refine tc_ret ?_ | refine tc_exit ?_ | refine at_seq_ret ?_ | refine at_seq_exit ?_ | refine at_block_normal ?_ | refine at_block_ret ?_ | refine at_block_exit_self ?_ | refine at_block_exit_ne ?_ | refine at_loop_ret ?_ | refine at_loop_exit ?_ | fail)
          | fail
        exact at_loopK (i + 1, 0, buf', zs ++ [d]) ⟨hlt, by simp only [List.map_append]; exact hok', by simp [h3], hlm, by simp only; omega, hf⟩ (by simp only; omega) ⟨next_nat (by omega), rfl, rfl, trivial⟩ (by repeat (first | exact trivial | refine ⟨rfl, ?_⟩)) (by simp only [List.map_append]; exact List.Sublist.refl _)
  · have hbb : icmp .lss (i : Int) (xs.length : Int) = false := by rw [lss_nat]; simpa using hlt
    obtain rfl : i = xs.length := by omega
    rw [List.take_of_length_le (Nat.le_refl _), List.take_of_length_le hle] at h6
    have hlz := lv_lt h4
    rw [h3] at hlz
    have hfin : lv zs + lv ys = lv xs := by
      by_cases hb1 : bor = 1
      · subst hb1; omega
      · obtain rfl : bor = 0 := by omega
        omega
    have hus := fun H => us_buf (e := 189) (H := H) (h3 ▸ h2)
    obtain ⟨aZ, cZ, hvZ⟩ := (hus []).val
    rw [h3] at hvZ hus
    rw [hvZ] at hus ⊢
    rw [← h3] at hus hbb ⊢
    repeat' first
      | (refine op_call ((trim aZ cZ zs _ (hus _) (by omega)).mono ?_); rintro _ _ ⟨n, rfl, rfl, hn, hnrm, hlv⟩)
      | (first | refine tc_seq ?_ | refine tc_region ?_ | refine at_seq_normal ?_ | refine tl_nil ?_ | refine tl_cons ?_ | refine op_move ?_ | refine op_assign ?_ | refine op_fieldAddr ?_ | refine op_load ?_ | refine op_load_agg ?_ | refine op_indexC ?_ | refine op_indexAddr1 ?_ | refine op_indexAddr ?_ | refine op_icmp ?_ | refine op_fcmp ?_ | refine op_iarith ?_ | refine op_bcmp ?_ | refine op_unop_not ?_ | refine op_unop_neg_float ?_ | refine op_unop_neg_int ?_ | refine op_len_slice ?_ | refine op_pick_true ?_ | refine op_pick_false ?_ | refine op_pick_true' ?_ | refine op_pick_false' ?_ | refine op_build ?_ | refine op_extract ?_ | refine op_makeInterface ?_ | refine op_typeAssert ?_ | refine op_ptr_nil ?_ | refine op_nilCheck_ptr ?_ | refine op_nilCheck_meth ?_ | refine op_makeMeth ?_ | refine op_makeFunc ?_ | refine op_itof ?_ | refine op_itoi ?_ | refine op_ftoi ?_ | refine op_iquo ?_ | refine op_irem ?_ | refine op_ibits ?_ | refine op_slice_isnil ?_ | refine op_slice_notnil ?_ | refine op_imax ?_ | refine op_imin ?_ | refine op_shl ?_ | refine op_shr ?_ | (refine op_alloc ?_; intro _) | (refine op_box ?_; intro _) | (refine op_buildSlice ?_; intro _) | (refine op_farith ?_; intro _ _) | refine op_store0 ?_ | refine op_store1 ?_ | refine op_store2 ?_ | refine op_store3 ?_ | refine op_store4 ?_ | refine op_store5 ?_ | refine op_storeK rfl ?_ | refine op_loadK rfl ?_ | refine op_load_aggK rfl ?_ | refine tc_cond_t ?_ | refine tc_cond_f ?_ | refine tc_cond (fun _ => ?_) (fun _ => ?_) | refine tc_block ?_ | refine tc_skip ?_ | refine tc_ret ?_ | refine tc_exit ?_ | refine at_seq_ret ?_ | refine at_seq_exit ?_ | refine at_block_normal ?_ | refine at_block_ret ?_ | refine at_block_exit_self ?_ | refine at_block_exit_ne ?_ | refine at_loop_ret ?_ | refine at_loop_exit ?_ | fail)
      | fail
    obtain ⟨exB, hexB⟩ := bufH_pre 189 buf (zs.map uv) H
    refine ret_tmp (hG := List.Sublist.refl _) (hk := ⟨zs.take n, ⟨aZ, cZ, by rw [List.length_take, Nat.min_eq_left hn]⟩, exB, hexB, by rw [← hexB]; exact (hus H).take hn, h4.take n, hnrm, by rw [hlv, hfin], by rw [List.length_take]; omega⟩)
end Go.Proofs.Ytomhkbijijdghaa.Lmb
