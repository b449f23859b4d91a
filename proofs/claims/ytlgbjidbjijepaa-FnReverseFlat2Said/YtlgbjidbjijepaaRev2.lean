/-
  A row with ends turned about, by way of the thin package. No conditions.
-/
import Derived.Test.YtlgbjidbjijepaaRev
import Derived.Test.YtlgbjidbjijepaaLg11
set_option linter.unusedVariables false
set_option linter.unusedSimpArgs false
namespace Go.Proofs.Ytlgbjidbjijepaa.Rev
open Go.Lg Go.Proofs.Ytlgbjidbjijepaa.Flat

theorem reverse1none (a : Option Addr) (n cap : Nat) (off en s : Nat) (H : Heap) (hs : en < off + s) (hb : off < 2 ^ 40) (hs2 : s < 2 ^ 40) :
    Does Try.prog 67 [.slice a n cap, .int .i64 (off : Int), .int .i64 (en : Int), .int .i64 (s : Int)] H fun w H' => w = .tuple #[] ∧ H' = H := by
  have hw0 := wrap_add (a := (off : Int)) (b := (s : Int)) (by omega) (by omega)
  refine fn_enter 59 Try.func67 fun W => ?_
  repeat'
    first
      | refine tl_defer ?_ | refine tc_seq ?_ | refine tc_region ?_ | refine at_seq_normal ?_ | refine tl_nil ?_ | refine tl_cons ?_ | refine tl_cons_none ?_ | refine op_move ?_
      | refine op_assign ?_ | refine op_fieldAddr ?_ | refine op_load ?_ | refine op_load_agg ?_ | refine op_indexC ?_ | refine op_indexAddr1 ?_ | refine op_indexAddr ?_ | refine op_icmp ?_
      | refine op_fcmp ?_ | refine op_iarith ?_ | refine op_bcmp ?_ | refine op_unop_not ?_ | refine op_unop_neg_float ?_ | refine op_unop_neg_int ?_ | refine op_len_slice ?_ | refine op_pick_true ?_
      | refine op_pick_false ?_ | refine op_pick_true' ?_ | refine op_pick_false' ?_ | refine op_build ?_ | refine op_extract ?_ | refine op_makeInterface ?_ | refine op_typeAssert ?_ | refine op_ptr_nil ?_
      | refine op_nilCheck_ptr ?_ | refine op_nilCheck_meth ?_ | refine op_makeMeth ?_ | refine op_makeFunc ?_ | refine op_itof ?_ | refine op_itoi ?_ | refine op_ftoi ?_ | refine op_iquo ?_
      | refine op_irem ?_ | refine op_ibits ?_ | refine op_slice_isnil ?_ | refine op_slice_notnil ?_ | refine op_imax ?_ | refine op_imin ?_ | refine op_shl ?_ | refine op_shr ?_
      | (refine op_alloc ?_; intro _) | (refine op_box ?_; intro _) | (refine op_buildSlice ?_; intro _) | (refine op_farith ?_; intro _ _) | refine op_store0 ?_ | refine op_store1 ?_ | refine op_store2 ?_ | refine op_store3 ?_
      | refine op_store4 ?_ | refine op_store5 ?_ | refine tc_cond_t ?_ | refine tc_cond_f ?_ | refine tc_cond (fun _ => ?_) (fun _ => ?_) | refine tc_block ?_ | refine tc_skip ?_ | refine tc_ret ?_
      | refine tc_exit ?_ | refine tc_label ?_ | refine at_seq_ret ?_ | refine at_seq_exit ?_ | refine at_block_normal ?_ | refine at_block_ret ?_ | refine at_block_exit_self ?_ | refine at_block_exit_ne ?_
      | refine at_loop_ret ?_ | refine at_loop_exit ?_ | refine at_loop_goto ?_ | refine tl_guard_yes ?_ | refine tl_guard_no ?_ | refine tl_guard_yes' ?_ | refine tl_guard_no' ?_ | refine tl_guard_undef ?_
      | refine tl_guard_split (fun _ => ?_) (fun _ => ?_)
  refine tc_loopH [(0, _), (3, _)] (by repeat (first | exact trivial | refine ⟨rfl, ?_⟩)) (fun p : Nat => [(8, .int .i64 ((off + s : Nat) : Int)), (9, .int .i64 (en : Int))]) (fun p => True) (fun p => 0) 0 trivial ⟨geti rfl (by rw [hw0]; exact (Int.natCast_add off s).symm), rfl, trivial⟩ ?_
  intro p _
  have hc : icmp .leq ((off + s : Nat) : Int) (en : Int) = false := by simp only [icmp, decide_eq_false_iff_not]; omega
  repeat'
    first
      | refine tl_defer ?_ | refine tc_seq ?_ | refine tc_region ?_ | refine at_seq_normal ?_ | refine tl_nil ?_ | refine tl_cons ?_ | refine tl_cons_none ?_ | refine op_move ?_
      | refine op_assign ?_ | refine op_fieldAddr ?_ | refine op_load ?_ | refine op_load_agg ?_ | refine op_indexC ?_ | refine op_indexAddr1 ?_ | refine op_indexAddr ?_ | refine op_icmp ?_
      | refine op_fcmp ?_ | refine op_iarith ?_ | refine op_bcmp ?_ | refine op_unop_not ?_ | refine op_unop_neg_float ?_ | refine op_unop_neg_int ?_ | refine op_len_slice ?_ | refine op_pick_true ?_
      | refine op_pick_false ?_ | refine op_pick_true' ?_ | refine op_pick_false' ?_ | refine op_build ?_ | refine op_extract ?_ | refine op_makeInterface ?_ | refine op_typeAssert ?_ | refine op_ptr_nil ?_
      | refine op_nilCheck_ptr ?_ | refine op_nilCheck_meth ?_ | refine op_makeMeth ?_ | refine op_makeFunc ?_ | refine op_itof ?_ | refine op_itoi ?_ | refine op_ftoi ?_ | refine op_iquo ?_
      | refine op_irem ?_ | refine op_ibits ?_ | refine op_slice_isnil ?_ | refine op_slice_notnil ?_ | refine op_imax ?_ | refine op_imin ?_ | refine op_shl ?_ | refine op_shr ?_
      | (refine op_alloc ?_; intro _) | (refine op_box ?_; intro _) | (refine op_buildSlice ?_; intro _) | (refine op_farith ?_; intro _ _) | refine op_store0 ?_ | refine op_store1 ?_ | refine op_store2 ?_ | refine op_store3 ?_
      | refine op_store4 ?_ | refine op_store5 ?_ | refine tc_cond_t ?_ | refine tc_cond_f ?_ | refine tc_cond (fun _ => ?_) (fun _ => ?_) | refine tc_block ?_ | refine tc_skip ?_ | refine tc_ret ?_
      | refine tc_exit ?_ | refine tc_label ?_ | refine at_seq_ret ?_ | refine at_seq_exit ?_ | refine at_block_normal ?_ | refine at_block_ret ?_ | refine at_block_exit_self ?_ | refine at_block_exit_ne ?_
      | refine at_loop_ret ?_ | refine at_loop_exit ?_ | refine at_loop_goto ?_ | refine tl_guard_yes ?_ | refine tl_guard_no ?_ | refine tl_guard_yes' ?_ | refine tl_guard_no' ?_ | refine tl_guard_undef ?_
      | refine tl_guard_split (fun _ => ?_) (fun _ => ?_)
  exact ret_none (hk := ⟨rfl, rfl⟩) (hG := List.Sublist.refl _)

theorem reverse2none (a : Option Addr) (n cap : Nat) (ae : Option Addr) (ce : Nat) (es : List Nat) (s : Nat) (H : Heap) (hs : 0 < s) (hie : IS H (.slice ae (es.map Int.ofNat).length ce) (es.map Int.ofNat))
    (hz : ∀ e ∈ es, e = 0) (hs2 : s < 2 ^ 40) (hbe : es.length < 2 ^ 40) :
    Does Try.prog 51 [.slice a n cap, .int .i64 0, .slice ae (es.map Int.ofNat).length ce, .int .i64 (s : Int)] H fun w H' => w = .tuple #[] ∧ H' = H := by
  refine fn_enter 23 Try.func51 fun W => ?_
  repeat'
    first
      | refine tl_defer ?_ | refine tc_seq ?_ | refine tc_region ?_ | refine at_seq_normal ?_ | refine tl_nil ?_ | refine tl_cons ?_ | refine tl_cons_none ?_ | refine op_move ?_
      | refine op_assign ?_ | refine op_fieldAddr ?_ | refine op_load ?_ | refine op_load_agg ?_ | refine op_indexC ?_ | refine op_indexAddr1 ?_ | refine op_indexAddr ?_ | refine op_icmp ?_
      | refine op_fcmp ?_ | refine op_iarith ?_ | refine op_bcmp ?_ | refine op_unop_not ?_ | refine op_unop_neg_float ?_ | refine op_unop_neg_int ?_ | refine op_len_slice ?_ | refine op_pick_true ?_
      | refine op_pick_false ?_ | refine op_pick_true' ?_ | refine op_pick_false' ?_ | refine op_build ?_ | refine op_extract ?_ | refine op_makeInterface ?_ | refine op_typeAssert ?_ | refine op_ptr_nil ?_
      | refine op_nilCheck_ptr ?_ | refine op_nilCheck_meth ?_ | refine op_makeMeth ?_ | refine op_makeFunc ?_ | refine op_itof ?_ | refine op_itoi ?_ | refine op_ftoi ?_ | refine op_iquo ?_
      | refine op_irem ?_ | refine op_ibits ?_ | refine op_slice_isnil ?_ | refine op_slice_notnil ?_ | refine op_imax ?_ | refine op_imin ?_ | refine op_shl ?_ | refine op_shr ?_
      | (refine op_alloc ?_; intro _) | (refine op_box ?_; intro _) | (refine op_buildSlice ?_; intro _) | (refine op_farith ?_; intro _ _) | refine op_store0 ?_ | refine op_store1 ?_ | refine op_store2 ?_ | refine op_store3 ?_
      | refine op_store4 ?_ | refine op_store5 ?_ | refine tc_cond_t ?_ | refine tc_cond_f ?_ | refine tc_cond (fun _ => ?_) (fun _ => ?_) | refine tc_block ?_ | refine tc_skip ?_ | refine tc_ret ?_
      | refine tc_exit ?_ | refine tc_label ?_ | refine at_seq_ret ?_ | refine at_seq_exit ?_ | refine at_block_normal ?_ | refine at_block_ret ?_ | refine at_block_exit_self ?_ | refine at_block_exit_ne ?_
      | refine at_loop_ret ?_ | refine at_loop_exit ?_ | refine at_loop_goto ?_ | refine tl_guard_yes ?_ | refine tl_guard_no ?_ | refine tl_guard_yes' ?_ | refine tl_guard_no' ?_ | refine tl_guard_undef ?_
      | refine tl_guard_split (fun _ => ?_) (fun _ => ?_)
  rw [List.length_map] at *
  refine tc_loopH [(0, _), (3, _), (10, _), (11, _)] (by repeat (first | exact trivial | refine ⟨rfl, ?_⟩)) (fun j : Nat => [(12, .int .i64 (j : Int)), (1, .int .i64 0)]) (fun j => j ≤ es.length) (fun j => es.length - j) 0 (Nat.zero_le _) ⟨rfl, rfl, trivial⟩ ?_
  intro j h1
  by_cases hlt : j < es.length
  · have hbb : icmp .lss (j : Int) (es.length : Int) = true := by rw [lss_nat]; simpa using hlt
    have hget : es[j]? = some es[j] := List.getElem?_eq_getElem hlt
    have h0 := hz _ (List.getElem_mem hlt)
    obtain ⟨kk, o, L, T2, fz, cp, e1, hm, hcut, _⟩ := hie.at (i := j) (x := (es[j] : Int)) (by rw [List.getElem?_map, hget]; rfl)
    rw [List.length_map] at e1
    generalize es[j] = e at *
    subst h0
    cases e1
    have hr := fun G => reverse1none a n cap 0 0 s G (by omega) (by omega) hs2
    repeat' first
      | (first | refine tl_defer ?_ | refine tc_seq ?_ | refine tc_region ?_ | refine at_seq_normal ?_ | refine tl_nil ?_ | refine tl_cons ?_ | refine tl_cons_none ?_ | refine op_move ?_ | refine op_assign ?_ | refine op_fieldAddr ?_ | refine op_load ?_ | refine op_load_agg ?_ | refine op_indexC ?_ | refine op_indexAddr1 ?_ | refine op_indexAddr ?_ | refine op_icmp ?_ | refine op_fcmp ?_ | refine op_iarith ?_ | refine op_bcmp ?_ | refine op_unop_not ?_ | refine op_unop_neg_float ?_ | refine op_unop_neg_int ?_ | refine op_len_slice ?_ | refine op_pick_true ?_ | refine op_pick_false ?_ | refine op_pick_true' ?_ | refine op_pick_false' ?_ | refine op_build ?_ | refine op_extract ?_ | refine op_makeInterface ?_ | refine op_typeAssert ?_ | refine op_ptr_nil ?_ | refine op_nilCheck_ptr ?_ | refine op_nilCheck_meth ?_ | refine op_makeMeth ?_ | refine op_makeFunc ?_ | refine op_itof ?_ | refine op_itoi ?_ | refine op_ftoi ?_ | refine op_iquo ?_ | refine op_irem ?_ | refine op_ibits ?_ | refine op_slice_isnil ?_ | refine op_slice_notnil ?_ | refine op_imax ?_ | refine op_imin ?_ | refine op_shl ?_ | refine op_shr ?_ | (refine op_alloc ?_; intro _) | (refine op_box ?_; intro _) | (refine op_buildSlice ?_; intro _) | (refine op_farith ?_; intro _ _) | refine op_store0 ?_ | refine op_store1 ?_ | refine op_store2 ?_ | refine op_store3 ?_ | refine op_store4 ?_ | refine op_store5 ?_ | refine tc_cond_t ?_ | refine tc_cond_f ?_ | refine tc_cond (fun _ => ?_) (fun _ => ?_) | refine tc_block ?_ | refine tc_skip ?_ | refine tc_ret ?_ | refine tc_exit ?_ | refine tc_label ?_ | refine at_seq_ret ?_ | refine at_seq_exit ?_ | refine at_block_normal ?_ | refine at_block_ret ?_ | refine at_block_exit_self ?_ | refine at_block_exit_ne ?_ | refine at_loop_ret ?_ | refine at_loop_exit ?_ | refine at_loop_goto ?_ | refine tl_guard_yes ?_ | refine tl_guard_no ?_ | refine tl_guard_yes' ?_ | refine tl_guard_no' ?_ | refine tl_guard_undef ?_ | refine tl_guard_split (fun _ => ?_) (fun _ => ?_))
      | (refine op_call ((hr _).mono ?_); rintro _ _ ⟨rfl, rfl⟩)
    exact at_loopK (j + 1) hlt (by omega) ⟨next_nat (by omega), rfl, trivial⟩ (by repeat (first | exact trivial | refine ⟨rfl, ?_⟩)) (List.Sublist.refl _)
  · have hbb : icmp .lss (j : Int) (es.length : Int) = false := by rw [lss_nat]; simpa using hlt
    repeat'
      first
        | refine tl_defer ?_ | refine tc_seq ?_ | refine tc_region ?_ | refine at_seq_normal ?_ | refine tl_nil ?_ | refine tl_cons ?_ | refine tl_cons_none ?_ | refine op_move ?_
        | refine op_assign ?_ | refine op_fieldAddr ?_ | refine op_load ?_ | refine op_load_agg ?_ | refine op_indexC ?_ | refine op_indexAddr1 ?_ | refine op_indexAddr ?_ | refine op_icmp ?_
        | refine op_fcmp ?_ | refine op_iarith ?_ | refine op_bcmp ?_ | refine op_unop_not ?_ | refine op_unop_neg_float ?_ | refine op_unop_neg_int ?_ | refine op_len_slice ?_ | refine op_pick_true ?_
        | refine op_pick_false ?_ | refine op_pick_true' ?_ | refine op_pick_false' ?_ | refine op_build ?_ | refine op_extract ?_ | refine op_makeInterface ?_ | refine op_typeAssert ?_ | refine op_ptr_nil ?_
        | refine op_nilCheck_ptr ?_ | refine op_nilCheck_meth ?_ | refine op_makeMeth ?_ | refine op_makeFunc ?_ | refine op_itof ?_ | refine op_itoi ?_ | refine op_ftoi ?_ | refine op_iquo ?_
        | refine op_irem ?_ | refine op_ibits ?_ | refine op_slice_isnil ?_ | refine op_slice_notnil ?_ | refine op_imax ?_ | refine op_imin ?_ | refine op_shl ?_ | refine op_shr ?_
        | (refine op_alloc ?_; intro _) | (refine op_box ?_; intro _) | (refine op_buildSlice ?_; intro _) | (refine op_farith ?_; intro _ _) | refine op_store0 ?_ | refine op_store1 ?_ | refine op_store2 ?_ | refine op_store3 ?_
        | refine op_store4 ?_ | refine op_store5 ?_ | refine tc_cond_t ?_ | refine tc_cond_f ?_ | refine tc_cond (fun _ => ?_) (fun _ => ?_) | refine tc_block ?_ | refine tc_skip ?_ | refine tc_ret ?_
        | refine tc_exit ?_ | refine tc_label ?_ | refine at_seq_ret ?_ | refine at_seq_exit ?_ | refine at_block_normal ?_ | refine at_block_ret ?_ | refine at_block_exit_self ?_ | refine at_block_exit_ne ?_
        | refine at_loop_ret ?_ | refine at_loop_exit ?_ | refine at_loop_goto ?_ | refine tl_guard_yes ?_ | refine tl_guard_no ?_ | refine tl_guard_yes' ?_ | refine tl_guard_no' ?_ | refine tl_guard_undef ?_
        | refine tl_guard_split (fun _ => ?_) (fun _ => ?_)
    exact ret_none (hk := ⟨rfl, rfl⟩) (hG := List.Sublist.refl _)

theorem doorReverse2none (a : Option Addr) (n cap : Nat) (ae : Option Addr) (ce : Nat) (es : List Nat) (s : Nat) (H : Heap) (hs : 0 < s) (hie : IS H (.slice ae (es.map Int.ofNat).length ce) (es.map Int.ofNat))
    (hz : ∀ e ∈ es, e = 0) (hs2 : s < 2 ^ 40) (hbe : es.length < 2 ^ 40) :
    Does Try.prog 29 [.slice a n cap, .slice ae (es.map Int.ofNat).length ce, .int .i64 (s : Int)] H fun w H' => w = .tuple #[] ∧ H' = H := by
  refine fn_enter 10 Try.func29 fun W => ?_
  repeat' first
    | (first | refine tl_defer ?_ | refine tc_seq ?_ | refine tc_region ?_ | refine at_seq_normal ?_ | refine tl_nil ?_ | refine tl_cons ?_ | refine tl_cons_none ?_ | refine op_move ?_ | refine op_assign ?_ | refine op_fieldAddr ?_ | refine op_load ?_ | refine op_load_agg ?_ | refine op_indexC ?_ | refine op_indexAddr1 ?_ | refine op_indexAddr ?_ | refine op_icmp ?_ | refine op_fcmp ?_ | refine op_iarith ?_ | refine op_bcmp ?_ | refine op_unop_not ?_ | refine op_unop_neg_float ?_ | refine op_unop_neg_int ?_ | refine op_len_slice ?_ | refine op_pick_true ?_ | refine op_pick_false ?_ | refine op_pick_true' ?_ | refine op_pick_false' ?_ | refine op_build ?_ | refine op_extract ?_ | refine op_makeInterface ?_ | refine op_typeAssert ?_ | refine op_ptr_nil ?_ | refine op_nilCheck_ptr ?_ | refine op_nilCheck_meth ?_ | refine op_makeMeth ?_ | refine op_makeFunc ?_ | refine op_itof ?_ | refine op_itoi ?_ | refine op_ftoi ?_ | refine op_iquo ?_ | refine op_irem ?_ | refine op_ibits ?_ | refine op_slice_isnil ?_ | refine op_slice_notnil ?_ | refine op_imax ?_ | refine op_imin ?_ | refine op_shl ?_ | refine op_shr ?_ | (refine op_alloc ?_; intro _) | (refine op_box ?_; intro _) | (refine op_buildSlice ?_; intro _) | (refine op_farith ?_; intro _ _) | refine op_store0 ?_ | refine op_store1 ?_ | refine op_store2 ?_ | refine op_store3 ?_ | refine op_store4 ?_ | refine op_store5 ?_ | refine tc_cond_t ?_ | refine tc_cond_f ?_ | refine tc_cond (fun _ => ?_) (fun _ => ?_) | refine tc_block ?_ | refine tc_skip ?_ | refine tc_ret ?_ | refine tc_exit ?_ | refine tc_label ?_ | refine at_seq_ret ?_ | refine at_seq_exit ?_ | refine at_block_normal ?_ | refine at_block_ret ?_ | refine at_block_exit_self ?_ | refine at_block_exit_ne ?_ | refine at_loop_ret ?_ | refine at_loop_exit ?_ | refine at_loop_goto ?_ | refine tl_guard_yes ?_ | refine tl_guard_no ?_ | refine tl_guard_yes' ?_ | refine tl_guard_no' ?_ | refine tl_guard_undef ?_ | refine tl_guard_split (fun _ => ?_) (fun _ => ?_))
    | (refine op_call ((reverse2none a n cap ae ce es s H hs hie hz hs2 hbe).mono ?_); rintro _ _ ⟨rfl, rfl⟩)
  exact ret_none (hk := ⟨rfl, rfl⟩) (hG := List.Sublist.refl _)

theorem AscN.zero {s : Nat} : ∀ {es : List Nat} {a}, AscN s a es 0 → ∀ e ∈ es, e = 0
  | [], _, _, e, he => by cases he
  | x :: es, a, h, e, he => by
    have h3 := h.2.2
    have := h3.le
    obtain rfl : x = 0 := by omega
    rcases List.mem_cons.1 he with rfl | he
    · rfl
    · exact AscN.zero h3 e he
theorem revEnds_nil (s : Nat) : ∀ (es : List Nat) (off : Nat), revEnds s [] off es = []
  | [], _ => rfl
  | e :: es, off => by
    rw [revEnds]
    have : revLoop s (e + 1) [] (off + s) e = [] := List.length_eq_zero_iff.1 (by rw [revLoop_len]; rfl)
    rw [this, revEnds_nil]

theorem revEnds_len (s : Nat) : ∀ (es xs : List Nat) (off : Nat), (revEnds s xs off es).length = xs.length
  | [], _, _ => rfl
  | e :: es, xs, off => by rw [revEnds, revEnds_len, revLoop_len]

set_option maxRecDepth 100000 in
instance idle27 : IdleD Try.prog 27 2 where
  idle := fun cap w hl => by
    match cap, hl with
    | [p, q], _ =>
    have h0 : ∀ w : World, (eqGuard .neq 20 (.tmp 2) (.const .nilIface) .nilIface .nilIface).run Try.prog w = .ok () w := fun _ => rfl
    have h1 : ∀ w : World, (binOp .neq 20 .nilIface .nilIface).run Try.prog w = .ok (.bool false) w := fun w => by
      first
        | rfl
        | simp [binOp, Op.equal, Op.equalIn, go_sem]
    refine callsD_of_wpS Try.func27 rfl fun c₀ cs hu => ?_
    apply wpS_seq
    apply wpS_region
    simp [wpOpsS, go_sem, recoverD, hu, Try.ntmps27, Exit.thenS, h1]
    refine wpS_cond (t := false) (by simp [Act.eval, Array.replicate]) ?_
    simp only [Bool.false_eq_true, if_false]
    refine wpS_of_wp (wp_skip ?_)
    cases c₀
    simp_all [bodyPostS, results, Try.results27]

set_option maxHeartbeats 8000000 in
theorem implReverse2 (a : Option Addr) (c : Nat) (xs : List Nat) (ae : Option Addr) (ce : Nat) (es : List Nat) (s : Nat) (H : Heap) (hf : FS H (.slice a xs.length c) xs) (hs : 0 < s) (hie : IS H (.slice ae (es.map Int.ofNat).length ce) (es.map Int.ofNat))
    (hasc : AscN s 0 es xs.length) (hb : xs.length < 2 ^ 40) (hs2 : s < 2 ^ 40) (hbe : es.length < 2 ^ 40) :
    Does Try.prog 8 [.slice a xs.length c, .slice ae (es.map Int.ofNat).length ce, .int .i64 (s : Int)] H fun w H' => ∃ v, w = .tuple #[v, .bool true] ∧ ∃ ex, H' = ex ++ H ∧ FS ex v (revEnds s xs 0 es) := by
  refine fn_enter_d 17 Try.func8 fun W => ?_
  repeat' first
    | (first | refine tl_defer ?_ | refine tc_seq ?_ | refine tc_region ?_ | refine at_seq_normal ?_ | refine tl_nil ?_ | refine tl_cons ?_ | refine tl_cons_none ?_ | refine op_move ?_ | refine op_assign ?_ | refine op_fieldAddr ?_ | refine op_load ?_ | refine op_load_agg ?_ | refine op_indexC ?_ | refine op_indexAddr1 ?_ | refine op_indexAddr ?_ | refine op_icmp ?_ | refine op_fcmp ?_ | refine op_iarith ?_ | refine op_bcmp ?_ | refine op_unop_not ?_ | refine op_unop_neg_float ?_ | refine op_unop_neg_int ?_ | refine op_len_slice ?_ | refine op_pick_true ?_ | refine op_pick_false ?_ | refine op_pick_true' ?_ | refine op_pick_false' ?_ | refine op_build ?_ | refine op_extract ?_ | refine op_makeInterface ?_ | refine op_typeAssert ?_ | refine op_ptr_nil ?_ | refine op_nilCheck_ptr ?_ | refine op_nilCheck_meth ?_ | refine op_makeMeth ?_ | refine op_makeFunc ?_ | refine op_itof ?_ | refine op_itoi ?_ | refine op_ftoi ?_ | refine op_iquo ?_ | refine op_irem ?_ | refine op_ibits ?_ | refine op_slice_isnil ?_ | refine op_slice_notnil ?_ | refine op_imax ?_ | refine op_imin ?_ | refine op_shl ?_ | refine op_shr ?_ | (refine op_alloc ?_; intro _) | (refine op_box ?_; intro _) | (refine op_buildSlice ?_; intro _) | (refine op_farith ?_; intro _ _) | refine op_store0 ?_ | refine op_store1 ?_ | refine op_store2 ?_ | refine op_store3 ?_ | refine op_store4 ?_ | refine op_store5 ?_ | refine tc_cond_t ?_ | refine tc_cond_f ?_ | refine tc_cond (fun _ => ?_) (fun _ => ?_) | refine tc_block ?_ | refine tc_skip ?_ | refine tc_ret ?_ | refine tc_exit ?_ | refine tc_label ?_ | refine at_seq_ret ?_ | refine at_seq_exit ?_ | refine at_block_normal ?_ | refine at_block_ret ?_ | refine at_block_exit_self ?_ | refine at_block_exit_ne ?_ | refine at_loop_ret ?_ | refine at_loop_exit ?_ | refine at_loop_goto ?_ | refine tl_guard_yes ?_ | refine tl_guard_no ?_ | refine tl_guard_yes' ?_ | refine tl_guard_no' ?_ | refine tl_guard_undef ?_ | refine tl_guard_split (fun _ => ?_) (fun _ => ?_))
    | (refine op_call ((floats _ xs _ (hf.mono fun e he => by simp [he]) hb).mono ?_); rintro _ _ ⟨buf, hok, hbn, rfl, rfl⟩; rcases buf with _ | ⟨kb, cap, sp⟩)
    | (obtain ⟨hx0, hx1⟩ := hok; (obtain rfl : xs = [] := List.length_eq_zero_iff.1 hx0); refine op_call ((doorReverse2none none 0 0 ae ce es s _ hs (hie.mono fun e he => by simp [bufH, he]) (AscN.zero hasc) hs2 hbe).mono ?_); rintro _ _ ⟨rfl, rfl⟩)
    | (refine op_call ((doorReverse2 kb cap xs sp _ ae ce es s _ hs (hie.mono fun e he => by simp [he]) hasc hb hs2 hbe).mono ?_); rintro _ _ ⟨rfl, rfl⟩)
  · rename_i k4 k5
    refine ret_door (rs := [.cell 6 22, .cell 7 4]) rfl rfl (.cons (.cell (k := k4) (off := 0) (l := [.slice none 0 0]) (S := 22) (fz := (0, 0)) rfl rfl (by simp [bufV]) rfl) (.cons (.cell (k := k5) (off := 0) (l := [.bool true]) (S := 4) (fz := (0, 0)) rfl rfl (by simp) rfl) .nil)) rfl (List.Sublist.refl _) ?_
    refine ⟨_, rfl, [(k5, Obj.cells ⟨[.bool true]⟩ 4 (0, 0)), (k4, Obj.cells ⟨[.slice none 0 0]⟩ 22 (0, 0))], by simp [bufV], ?_⟩
    rw [revEnds_nil]
    exact fs_buf (e := 42) (buf := none) ⟨rfl, rfl⟩
  · rename_i k4 k5
    simp only [bufV]
    have hok2 : bufOk 1 (some (kb, cap, sp)) xs.length ((revEnds s xs 0 es).map fl) := by
      simp only [bufOk, List.length_append, List.length_map, revEnds_len] at hok ⊢; exact hok
    have hf2 := fs_buf (e := 42) (H := []) hok2
    generalize revEnds s xs 0 es = rs at *
    refine ret_door (rs := [.cell 6 22, .cell 7 4]) rfl rfl (.cons (.cell (k := k4) (off := 0) (l := [.slice (some ⟨kb, 0, none⟩) xs.length cap]) (S := 22) (fz := (0, 0)) rfl rfl (by simp) rfl) (.cons (.cell (k := k5) (off := 0) (l := [.bool true]) (S := 4) (fz := (0, 0)) rfl rfl (by simp) rfl) .nil)) rfl (List.Sublist.refl _) ?_
    refine ⟨_, rfl, [(kb, Obj.cells ⟨rs.map fl ++ sp⟩ 42 (0, 0)), (k5, Obj.cells ⟨[.bool true]⟩ 4 (0, 0)), (k4, Obj.cells ⟨[.slice (some ⟨kb, 0, none⟩) xs.length cap]⟩ 22 (0, 0))], by simp [bufV], ?_⟩
    exact hf2.mono fun e he => by simp only [bufH, List.mem_singleton] at he; simp [he]
end Go.Proofs.Ytlgbjidbjijepaa.Rev
