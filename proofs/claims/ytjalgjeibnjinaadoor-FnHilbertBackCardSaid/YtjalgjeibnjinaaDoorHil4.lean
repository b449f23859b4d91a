/-
  Hilbert curves: the place at a position (4 dimensions). Printed by gen_hil4.py. No conditions.
-/
import Derived.Test.YtjalgjeibnjinaaDoorHil3
set_option linter.unusedVariables false
set_option linter.unusedSimpArgs false
namespace Go.Proofs.YtjalgjeibnjinaaDoor.Hil
open Go.Lg

def part4 (x y z u a b c d : Nat) : Nat → List Value
  | 0 => [nv x, nv y, nv z, nv u]
  | 1 => [nv a, nv y, nv z, nv u]
  | 2 => [nv a, nv b, nv z, nv u]
  | 3 => [nv a, nv b, nv c, nv u]
  | _ => [nv a, nv b, nv c, nv d]
def gb (e m : Nat) : Nat := (e >>> m ^^^ e >>> m >>> 1) &&& 1
theorem gb_lt (e m : Nat) : gb e m < 2 := bit1 _
theorem gray4 : ∀ e, e < 16 → grayL 4 e = [gb e 0, gb e 1, gb e 2, gb e 3] := by decide

set_option maxHeartbeats 8000000 in
theorem coord4 (ord pos : Nat) (H : Heap) (ho : ord ≤ 15) (hp : pos < 2 ^ (4 * ord)) :
    Does Tryd.prog 39 [.agg ⟨[.int .i64 (ord : Int)]⟩, .slice none 0 0, .int .i64 (pos : Int)] H fun w H' => ∃ k T, w = .slice (some ⟨k, 0, none⟩) 4 4 ∧ H' = (k, Obj.cells ⟨(cst 4 rot4 pos ord).1.map nv⟩ T (0, 0)) :: H := by
  have hp63 : pos < 9223372036854775808 := Nat.lt_of_lt_of_le hp (show 2 ^ (4 * ord) ≤ 2 ^ 63 from Nat.pow_le_pow_right (by decide) (by omega))
  refine fn_enter 61 Tryd.func39 fun W => ?_
  repeat' first
    | (refine op_makeSlice (l := 4) (c := 4) (fun kd => ?_) (by decide) (by decide) (by decide); rw [made_rep])
    | (first | refine tl_defer ?_ | refine tc_seq ?_ | refine tc_region ?_ | refine at_seq_normal ?_ | refine tl_nil ?_ | refine tl_cons ?_ | refine tl_cons_none ?_ | refine op_move ?_ | refine op_assign ?_ | refine op_fieldAddr ?_ | refine op_load ?_ | refine op_load_agg ?_ | refine op_indexC ?_ | refine op_indexAddr1 ?_ | refine op_indexAddr ?_ | refine op_icmp ?_ | refine op_fcmp ?_ | refine op_iarith ?_ | refine op_bcmp ?_ | refine op_unop_not ?_ | refine op_unop_neg_float ?_ | refine op_unop_neg_int ?_ | refine op_len_slice ?_ | refine op_pick_true ?_ | refine op_pick_false ?_ | refine op_pick_true' ?_ | refine op_pick_false' ?_ | refine op_build ?_ | refine op_extract ?_ | refine op_makeInterface ?_ | refine op_typeAssert ?_ | refine op_ptr_nil ?_ | refine op_nilCheck_ptr ?_ | refine op_nilCheck_meth ?_ | refine op_makeMeth ?_ | refine op_makeFunc ?_ | refine op_itof ?_ | refine op_itoi ?_ | refine op_ftoi ?_ | refine op_iquo ?_ | refine op_irem ?_ | refine op_ibits ?_ | refine op_slice_isnil ?_ | refine op_slice_notnil ?_ | refine op_imax ?_ | refine op_imin ?_ | refine op_shl ?_ | refine op_shr ?_ | (refine op_alloc ?_; intro _) | (refine op_box ?_; intro _) | (refine op_buildSlice ?_; intro _) | (refine op_farith ?_; intro _ _) | refine op_store0 ?_ | refine op_store1 ?_ | refine op_store2 ?_ | refine op_store3 ?_ | refine op_store4 ?_ | refine op_store5 ?_ | refine op_storeK rfl ?_ | refine op_loadK rfl ?_ | refine op_load_aggK rfl ?_ | refine tc_cond_t ?_ | refine tc_cond_f ?_ | refine tc_cond (fun _ => ?_) (fun _ => ?_) | refine tc_block ?_ | refine tc_skip ?_ | refine tc_ret ?_ | refine tc_exit ?_ | refine tc_label ?_ | refine at_seq_ret ?_ | refine at_seq_exit ?_ | refine at_block_normal ?_ | refine at_block_ret ?_ | refine at_block_exit_self ?_ | refine at_block_exit_ne ?_ | refine at_loop_ret ?_ | refine at_loop_exit ?_ | refine at_loop_goto ?_ | refine tl_guard_yes ?_ | refine tl_guard_no ?_ | refine tl_guard_yes' ?_ | refine tl_guard_no' ?_ | refine tl_guard_undef ?_ | refine tl_guard_split (fun _ => ?_) (fun _ => ?_))
    | fail
  refine tc_loopK [(1, _), (3, _), (6, _), (7, _)] (by repeat (first | exact trivial | refine ⟨rfl, ?_⟩)) (fun j : Nat => [(8, .int .i64 (j : Int)), (2, .int .i64 (((cst 4 rot4 pos j).2 : Nat) : Int))]) (fun j => (_, Obj.cells ⟨(cst 4 rot4 pos j).1.map nv⟩ _ (0, 0)) :: (_, Obj.cells ⟨[.int .i64 (ord : Int)]⟩ _ (0, 0)) :: H) (fun j => j ≤ ord) (fun j => ord - j) 0 (Nat.zero_le _) ⟨rfl, rfl, trivial⟩ (List.Sublist.refl _) ?_
  rintro j hj
  by_cases hlt : j < ord
  · have hbb : icmp .lss (j : Int) (ord : Int) = true := by rw [lss_nat]; simpa using hlt
    have hj62 : j < 62 := by omega
    generalize hst : cst 4 rot4 pos j = st
    have hlen := cst_len (D := 4) (rot := rot4) (pos := pos) j
    have hbel := cst_below (D := 4) (rot := rot4) (pos := pos) j
    have hpos := cst_pos (D := 4) (rot := rot4) (pos := pos) j
    rw [hst] at hlen hbel hpos
    obtain ⟨xs, p⟩ := st
    simp only at hlen hbel hpos ⊢
    have hpp : p < 9223372036854775808 := by rw [hpos]; exact Nat.lt_of_le_of_lt (Nat.div_le_self _ _) hp63
    obtain ⟨e, hee⟩ : ∃ e, e = p % 2 ^ 4 := ⟨_, rfl⟩
    have he : e < 16 := by rw [hee]; exact Nat.mod_lt _ (by decide)
    have he63 : e < 9223372036854775808 := by omega
    have h16 : IntKind.i64.wrap (1 * 2 ^ min (Int.toNat 4) IntKind.i64.bits) = 16 := by decide
    have h15 : IntKind.i64.wrap (iarith .sub 16 1) = 15 := by decide
    have hand : ibits .and .i64 (p : Int) 15 = ((e : Nat) : Int) := by
      rw [hee, ← Nat.and_two_pow_sub_one_eq_mod]; exact ibits_and (b := 15) hpp (by decide)
    have hsD : (p : Int).fdiv (2 ^ min (Int.toNat 4) IntKind.i64.bits) = ((p / 2 ^ 4 : Nat) : Int) := by
      rw [← Nat.shiftRight_eq_div_pow]; exact shr_nat (a := p) (n := 4) (by decide)
    have hg := gray4 e he
    have hr : ∃ x y z u, rot4 true (2 ^ j - 1) e xs = [x, y, z, u] ∧ Below j [x, y, z, u] := by
      have h1 := turn4.len true (2 ^ j - 1) e xs
      rw [hlen] at h1
      have h2 := turn4.below true j e xs hbel
      obtain ⟨x, y, z, u, h3⟩ := len4 h1
      rw [h3] at h2
      exact ⟨x, y, z, u, h3, h2⟩
    obtain ⟨x, y, z, u, hr⟩ := hr
    repeat' first
      | (refine op_shl (v := 4) ?_; rw [h16])
      | (refine op_iarith ?_; rw [h15])
      | (refine op_ibits ?_; rw [hand])
      | (first | refine tl_defer ?_ | refine tc_seq ?_ | refine tc_region ?_ | refine at_seq_normal ?_ | refine tl_nil ?_ | refine tl_cons ?_ | refine tl_cons_none ?_ | refine op_move ?_ | refine op_assign ?_ | refine op_fieldAddr ?_ | refine op_load ?_ | refine op_load_agg ?_ | refine op_indexC ?_ | refine op_indexAddr1 ?_ | refine op_indexAddr ?_ | refine op_icmp ?_ | refine op_fcmp ?_ | refine op_iarith ?_ | refine op_bcmp ?_ | refine op_unop_not ?_ | refine op_unop_neg_float ?_ | refine op_unop_neg_int ?_ | refine op_len_slice ?_ | refine op_pick_true ?_ | refine op_pick_false ?_ | refine op_pick_true' ?_ | refine op_pick_false' ?_ | refine op_build ?_ | refine op_extract ?_ | refine op_makeInterface ?_ | refine op_typeAssert ?_ | refine op_ptr_nil ?_ | refine op_nilCheck_ptr ?_ | refine op_nilCheck_meth ?_ | refine op_makeMeth ?_ | refine op_makeFunc ?_ | refine op_itof ?_ | refine op_itoi ?_ | refine op_ftoi ?_ | refine op_iquo ?_ | refine op_irem ?_ | refine op_ibits ?_ | refine op_slice_isnil ?_ | refine op_slice_notnil ?_ | refine op_imax ?_ | refine op_imin ?_ | refine op_shl ?_ | refine op_shr ?_ | (refine op_alloc ?_; intro _) | (refine op_box ?_; intro _) | (refine op_buildSlice ?_; intro _) | (refine op_farith ?_; intro _ _) | refine op_store0 ?_ | refine op_store1 ?_ | refine op_store2 ?_ | refine op_store3 ?_ | refine op_store4 ?_ | refine op_store5 ?_ | refine op_storeK rfl ?_ | refine op_loadK rfl ?_ | refine op_load_aggK rfl ?_ | refine tc_cond_t ?_ | refine tc_cond_f ?_ | refine tc_cond (fun _ => ?_) (fun _ => ?_) | refine tc_block ?_ | refine tc_skip ?_ | refine tc_ret ?_ | refine tc_exit ?_ | refine tc_label ?_ | refine at_seq_ret ?_ | refine at_seq_exit ?_ | refine at_block_normal ?_ | refine at_block_ret ?_ | refine at_block_exit_self ?_ | refine at_block_exit_ne ?_ | refine at_loop_ret ?_ | refine at_loop_exit ?_ | refine at_loop_goto ?_ | refine tl_guard_yes ?_ | refine tl_guard_no ?_ | refine tl_guard_yes' ?_ | refine tl_guard_no' ?_ | refine tl_guard_undef ?_ | refine tl_guard_split (fun _ => ?_) (fun _ => ?_))
      | fail
    apply fun hole0 hole1 hole2 hole3 hole4 hE hD hml hdl hpr prem fin => tc_drawn 5 [is hole0, is hole1, is hole2, is hole3, is hole4]
      [some 30, some 31, some 32, some 33, some 34, some 35] [[], [], [], [2], []] mixed ⟨(is_mono _), (is_mono _), (is_mono _), (is_mono _), (is_mono _), trivial⟩ prem fin hE hD rfl hml hdl hpr
    rotate_left 6
    · exact rfl
    · exact rfl
    · exact Nat.le_of_ble_eq_true rfl
    · exact rfl
    · exact rfl
    refine ⟨fun G hG => ?_, fun G hG => ?_, fun G hG => ?_, fun G hG => ?_, fun G hG => ?_, trivial⟩
    · simp only [with2, Step2, nthDst, putO]
      ((first | refine op_load ?_ | refine op_load_agg ?_ | refine op_load ?_ (hm := Sub.mem (by assumption) (by (repeat (apply List.mem_cons_of_mem)); assumption)) | refine op_load_agg ?_ (hm := Sub.mem (by assumption) (by (repeat (apply List.mem_cons_of_mem)); assumption)) | refine op_loadH hG rfl ?_ | refine op_load_aggH hG rfl ?_); exact ⟨[], rfl, rfl, rfl⟩)
    · simp only [with2, Step2, nthDst, putO]
      (refine op_move ?_; exact ⟨[], rfl, rfl, rfl⟩)
    · simp only [with2, Step2, nthDst, putO]
      (refine op_move ?_; exact ⟨[], rfl, rfl, rfl⟩)
    · rintro _ _ ⟨rfl, rfl⟩ -
      simp only [with2, Step2, nthDst, putO]
      (refine op_slice_all ?_; exact ⟨[], rfl, slAt_self, rfl⟩)
    · simp only [with2, Step2, nthDst, putO]
      (refine op_move ?_; exact ⟨[], rfl, rfl, rfl⟩)
    rintro _ _ _ _ _ _ _ _ _ _ ⟨⟨rfl, rfl⟩, ⟨rfl, rfl⟩, ⟨rfl, rfl⟩, ⟨rfl, rfl⟩, ⟨rfl, rfl⟩, _⟩
    simp only [List.nil_append, List.cons_append, List.append_nil, List.drop_succ_cons, List.drop_zero, nthDst, putO]
    repeat' first
      | (refine op_mid kd ?_; refine op_call ((rotE4 true _ kd 4 4 xs _ j e _ hlen rfl (by omega) (hbel.small (by omega)) he).mono ?_); rintro _ _ ⟨rfl, rfl⟩; rw [hr.1])
      | (first | refine tl_defer ?_ | refine tc_seq ?_ | refine tc_region ?_ | refine at_seq_normal ?_ | refine tl_nil ?_ | refine tl_cons ?_ | refine tl_cons_none ?_ | refine op_move ?_ | refine op_assign ?_ | refine op_fieldAddr ?_ | refine op_load ?_ | refine op_load_agg ?_ | refine op_indexC ?_ | refine op_indexAddr1 ?_ | refine op_indexAddr ?_ | refine op_icmp ?_ | refine op_fcmp ?_ | refine op_iarith ?_ | refine op_bcmp ?_ | refine op_unop_not ?_ | refine op_unop_neg_float ?_ | refine op_unop_neg_int ?_ | refine op_len_slice ?_ | refine op_pick_true ?_ | refine op_pick_false ?_ | refine op_pick_true' ?_ | refine op_pick_false' ?_ | refine op_build ?_ | refine op_extract ?_ | refine op_makeInterface ?_ | refine op_typeAssert ?_ | refine op_ptr_nil ?_ | refine op_nilCheck_ptr ?_ | refine op_nilCheck_meth ?_ | refine op_makeMeth ?_ | refine op_makeFunc ?_ | refine op_itof ?_ | refine op_itoi ?_ | refine op_ftoi ?_ | refine op_iquo ?_ | refine op_irem ?_ | refine op_ibits ?_ | refine op_slice_isnil ?_ | refine op_slice_notnil ?_ | refine op_imax ?_ | refine op_imin ?_ | refine op_shl ?_ | refine op_shr ?_ | (refine op_alloc ?_; intro _) | (refine op_box ?_; intro _) | (refine op_buildSlice ?_; intro _) | (refine op_farith ?_; intro _ _) | refine op_store0 ?_ | refine op_store1 ?_ | refine op_store2 ?_ | refine op_store3 ?_ | refine op_store4 ?_ | refine op_store5 ?_ | refine op_storeK rfl ?_ | refine op_loadK rfl ?_ | refine op_load_aggK rfl ?_ | refine tc_cond_t ?_ | refine tc_cond_f ?_ | refine tc_cond (fun _ => ?_) (fun _ => ?_) | refine tc_block ?_ | refine tc_skip ?_ | refine tc_ret ?_ | refine tc_exit ?_ | refine tc_label ?_ | refine at_seq_ret ?_ | refine at_seq_exit ?_ | refine at_block_normal ?_ | refine at_block_ret ?_ | refine at_block_exit_self ?_ | refine at_block_exit_ne ?_ | refine at_loop_ret ?_ | refine at_loop_exit ?_ | refine at_loop_goto ?_ | refine tl_guard_yes ?_ | refine tl_guard_no ?_ | refine tl_guard_yes' ?_ | refine tl_guard_no' ?_ | refine tl_guard_undef ?_ | refine tl_guard_split (fun _ => ?_) (fun _ => ?_))
      | fail
    refine tc_loopK [(1, _), (2, _), (3, _), (6, _), (7, _), (8, _), (9, _), (19, _), (20, _), (21, _), (22, _), (25, _), (26, _), (27, _), (28, _), (29, _), (30, _), (31, _), (32, _), (33, _), (34, _), (36, _)] (by repeat (first | exact trivial | refine ⟨rfl, ?_⟩)) (fun i : Nat => [(10, .int .i64 (i : Int)), (11, .int .i64 ((e >>> i : Nat) : Int))]) (fun i => (kd, Obj.cells ⟨part4 x y z u (x + gb e 0 * 2 ^ j) (y + gb e 1 * 2 ^ j) (z + gb e 2 * 2 ^ j) (u + gb e 3 * 2 ^ j) i⟩ _ (0, 0)) :: (_, Obj.cells ⟨[.int .i64 (ord : Int)]⟩ _ (0, 0)) :: H) (fun i => i ≤ 4) (fun i => 4 - i) 0 (Nat.zero_le _) ⟨rfl, rfl, trivial⟩ (List.Sublist.refl _) ?_
    rintro i hi
    rcases (show i = 0 ∨ i = 1 ∨ i = 2 ∨ i = 3 ∨ i = 4 by omega) with rfl | rfl | rfl | rfl | rfl
    · -- the number 0
      have hs : ((e >>> 0 : Nat) : Int).fdiv (2 ^ min (Int.toNat 1) IntKind.i64.bits) = ((e >>> 0 >>> 1 : Nat) : Int) := shr_nat (a := e >>> 0) (n := 1) (by decide)
      have hx : ibits .xor .i64 ((e >>> 0 : Nat) : Int) ((e >>> 0 >>> 1 : Nat) : Int) = ((e >>> 0 ^^^ e >>> 0 >>> 1 : Nat) : Int) := ibits_xor (shr_lt he63) (shr_lt (shr_lt he63))
      have ha : ibits .and .i64 ((e >>> 0 ^^^ e >>> 0 >>> 1 : Nat) : Int) 1 = ((gb e 0 : Nat) : Int) := ibits_and (b := 1) (Nat.xor_lt_two_pow (n := 63) (shr_lt he63) (shr_lt (shr_lt he63))) (by decide)
      obtain ⟨hb, hc⟩ := bit_add (b := gb e 0) (hr.2 x (by simp)) (gb_lt e 0) hj62
      have hm := shl_nat hb (show j < 64 by omega)
      have hp := wrap_addN hc
      repeat' first
        | (first | refine tl_defer ?_ | refine tc_seq ?_ | refine tc_region ?_ | refine at_seq_normal ?_ | refine tl_nil ?_ | refine tl_cons ?_ | refine tl_cons_none ?_ | refine op_move ?_ | refine op_assign ?_ | refine op_fieldAddr ?_ | refine op_load ?_ | refine op_load_agg ?_ | refine op_indexC ?_ | refine op_indexAddr1 ?_ | refine op_indexAddr ?_ | refine op_icmp ?_ | refine op_fcmp ?_ | refine op_iarith ?_ | refine op_bcmp ?_ | refine op_unop_not ?_ | refine op_unop_neg_float ?_ | refine op_unop_neg_int ?_ | refine op_len_slice ?_ | refine op_pick_true ?_ | refine op_pick_false ?_ | refine op_pick_true' ?_ | refine op_pick_false' ?_ | refine op_build ?_ | refine op_extract ?_ | refine op_makeInterface ?_ | refine op_typeAssert ?_ | refine op_ptr_nil ?_ | refine op_nilCheck_ptr ?_ | refine op_nilCheck_meth ?_ | refine op_makeMeth ?_ | refine op_makeFunc ?_ | refine op_itof ?_ | refine op_itoi ?_ | refine op_ftoi ?_ | refine op_iquo ?_ | refine op_irem ?_ | refine op_ibits ?_ | refine op_slice_isnil ?_ | refine op_slice_notnil ?_ | refine op_imax ?_ | refine op_imin ?_ | refine op_shl ?_ | refine op_shr ?_ | (refine op_alloc ?_; intro _) | (refine op_box ?_; intro _) | (refine op_buildSlice ?_; intro _) | (refine op_farith ?_; intro _ _) | refine op_store0 ?_ | refine op_store1 ?_ | refine op_store2 ?_ | refine op_store3 ?_ | refine op_store4 ?_ | refine op_store5 ?_ | refine op_storeK rfl ?_ | refine op_loadK rfl ?_ | refine op_load_aggK rfl ?_ | refine tc_cond_t ?_ | refine tc_cond_f ?_ | refine tc_cond (fun _ => ?_) (fun _ => ?_) | refine tc_block ?_ | refine tc_skip ?_ | refine tc_ret ?_ | refine tc_exit ?_ | refine tc_label ?_ | refine at_seq_ret ?_ | refine at_seq_exit ?_ | refine at_block_normal ?_ | refine at_block_ret ?_ | refine at_block_exit_self ?_ | refine at_block_exit_ne ?_ | refine at_loop_ret ?_ | refine at_loop_exit ?_ | refine at_loop_goto ?_ | refine tl_guard_yes ?_ | refine tl_guard_no ?_ | refine tl_guard_yes' ?_ | refine tl_guard_no' ?_ | refine tl_guard_undef ?_ | refine tl_guard_split (fun _ => ?_) (fun _ => ?_))
        | fail
      apply fun hole0 hole1 hole2 hole3 hole4 hole5 hole6 hole7 hole8 hole9 hole10 hole11 hole12 hE hD hml hdl hpr prem fin => tc_drawn 13 [is hole0, is hole1, is hole2, is hole3, is hole4, is hole5, is hole6, is hole7, is hole8, is hole9, is hole10, is hole11, is hole12]
        [some 42, some 43, some 44, some 45, some 46, some 47, some 48, some 49, some 50, some 51, some 52, some 53, some 54, none] [[], [], [0, 1], [2], [], [], [5], [4, 6], [7], [], [8, 9], [3, 10], [0, 1, 2, 3, 4, 5, 6, 7, 8, 9, 10, 11]] mixed ⟨(is_mono _), (is_mono _), (is_mono _), (is_mono _), (is_mono _), (is_mono _), (is_mono _), (is_mono _), (is_mono _), (is_mono _), (is_mono _), (is_mono _), (is_mono _), trivial⟩ prem fin hE hD rfl hml hdl hpr
      rotate_left 14
      · exact rfl
      · exact rfl
      · exact Nat.le_of_ble_eq_true rfl
      · exact rfl
      · exact rfl
      refine ⟨fun G hG => ?_, fun G hG => ?_, fun G hG => ?_, fun G hG => ?_, fun G hG => ?_, fun G hG => ?_, fun G hG => ?_, fun G hG => ?_, fun G hG => ?_, fun G hG => ?_, fun G hG => ?_, fun G hG => ?_, fun G hG => ?_, trivial⟩
      · simp only [with2, Step2, nthDst, putO]
        (refine op_move ?_; exact ⟨[], rfl, rfl, rfl⟩)
      · simp only [with2, Step2, nthDst, putO]
        (refine op_move ?_; exact ⟨[], rfl, rfl, rfl⟩)
      · rintro _ _ ⟨rfl, rfl⟩ - _ _ ⟨rfl, rfl⟩ -
        simp only [with2, Step2, nthDst, putO]
        (refine op_indexAddr1 (j := 0) ?_ (hj := by decide); exact ⟨[], rfl, rfl, rfl⟩)
      · rintro _ _ ⟨rfl, rfl⟩ -
        simp only [with2, Step2, nthDst, putO]
        ((first | refine op_load ?_ | refine op_load_agg ?_ | refine op_load ?_ (hm := Sub.mem (by assumption) (by (repeat (apply List.mem_cons_of_mem)); assumption)) | refine op_load_agg ?_ (hm := Sub.mem (by assumption) (by (repeat (apply List.mem_cons_of_mem)); assumption)) | refine op_loadH hG rfl ?_ | refine op_load_aggH hG rfl ?_); exact ⟨[], rfl, rfl, rfl⟩)
      · simp only [with2, Step2, nthDst, putO]
        (refine op_move ?_; exact ⟨[], rfl, rfl, rfl⟩)
      · simp only [with2, Step2, nthDst, putO]
        (refine op_move ?_; exact ⟨[], rfl, rfl, rfl⟩)
      · rintro _ _ ⟨rfl, rfl⟩ -
        simp only [with2, Step2, nthDst, putO]
        (refine op_shr (v := 1) ?_; exact ⟨[], rfl, congrArg (Value.int .i64) hs, rfl⟩)
      · rintro _ _ ⟨rfl, rfl⟩ - _ _ ⟨rfl, rfl⟩ -
        simp only [with2, Step2, nthDst, putO]
        (refine op_ibits ?_; exact ⟨[], rfl, congrArg (Value.int .i64) hx, rfl⟩)
      · rintro _ _ ⟨rfl, rfl⟩ -
        simp only [with2, Step2, nthDst, putO]
        (refine op_ibits ?_; exact ⟨[], rfl, congrArg (Value.int .i64) ha, rfl⟩)
      · simp only [with2, Step2, nthDst, putO]
        (refine op_move ?_; exact ⟨[], rfl, rfl, rfl⟩)
      · rintro _ _ ⟨rfl, rfl⟩ - _ _ ⟨rfl, rfl⟩ -
        simp only [with2, Step2, nthDst, putO]
        (refine op_shl (v := (j : Int)) ?_; exact ⟨[], rfl, congrArg (Value.int .i64) hm, rfl⟩)
      · rintro _ _ ⟨rfl, rfl⟩ - _ _ ⟨rfl, rfl⟩ -
        simp only [with2, Step2, nthDst, putO]
        (refine op_iarith ?_; exact ⟨[], rfl, congrArg (Value.int .i64) hp, rfl⟩)
      · rintro _ _ ⟨rfl, rfl⟩ - _ _ ⟨rfl, rfl⟩ - _ _ ⟨rfl, rfl⟩ - _ _ ⟨rfl, rfl⟩ - _ _ ⟨rfl, rfl⟩ - _ _ ⟨rfl, rfl⟩ - _ _ ⟨rfl, rfl⟩ - _ _ ⟨rfl, rfl⟩ - _ _ ⟨rfl, rfl⟩ - _ _ ⟨rfl, rfl⟩ - _ _ ⟨rfl, rfl⟩ - _ _ ⟨rfl, rfl⟩ -
        simp only [with2, Step2, nthDst, putO]
        ((first | refine op_indexC ?_ | refine op_indexAddr1 ?_ | refine op_indexAddr ?_); exact ⟨[], rfl, rfl, rfl⟩)
      rintro _ _ _ _ _ _ _ _ _ _ _ _ _ _ _ _ _ _ _ _ _ _ _ _ _ _ ⟨⟨rfl, rfl⟩, ⟨rfl, rfl⟩, ⟨rfl, rfl⟩, ⟨rfl, rfl⟩, ⟨rfl, rfl⟩, ⟨rfl, rfl⟩, ⟨rfl, rfl⟩, ⟨rfl, rfl⟩, ⟨rfl, rfl⟩, ⟨rfl, rfl⟩, ⟨rfl, rfl⟩, ⟨rfl, rfl⟩, ⟨rfl, rfl⟩, _⟩
      simp only [List.nil_append, List.cons_append, List.append_nil, List.drop_succ_cons, List.drop_zero, nthDst, putO]
      repeat' first
        | refine op_indexAddr1 (j := 0) ?_ (hj := by decide)
        | (refine op_shr (v := 1) ?_; rw [hs])
        | (first | refine tl_defer ?_ | refine tc_seq ?_ | refine tc_region ?_ | refine at_seq_normal ?_ | refine tl_nil ?_ | refine tl_cons ?_ | refine tl_cons_none ?_ | refine op_move ?_ | refine op_assign ?_ | refine op_fieldAddr ?_ | refine op_load ?_ | refine op_load_agg ?_ | refine op_indexC ?_ | refine op_indexAddr1 ?_ | refine op_indexAddr ?_ | refine op_icmp ?_ | refine op_fcmp ?_ | refine op_iarith ?_ | refine op_bcmp ?_ | refine op_unop_not ?_ | refine op_unop_neg_float ?_ | refine op_unop_neg_int ?_ | refine op_len_slice ?_ | refine op_pick_true ?_ | refine op_pick_false ?_ | refine op_pick_true' ?_ | refine op_pick_false' ?_ | refine op_build ?_ | refine op_extract ?_ | refine op_makeInterface ?_ | refine op_typeAssert ?_ | refine op_ptr_nil ?_ | refine op_nilCheck_ptr ?_ | refine op_nilCheck_meth ?_ | refine op_makeMeth ?_ | refine op_makeFunc ?_ | refine op_itof ?_ | refine op_itoi ?_ | refine op_ftoi ?_ | refine op_iquo ?_ | refine op_irem ?_ | refine op_ibits ?_ | refine op_slice_isnil ?_ | refine op_slice_notnil ?_ | refine op_imax ?_ | refine op_imin ?_ | refine op_shl ?_ | refine op_shr ?_ | (refine op_alloc ?_; intro _) | (refine op_box ?_; intro _) | (refine op_buildSlice ?_; intro _) | (refine op_farith ?_; intro _ _) | refine op_store0 ?_ | refine op_store1 ?_ | refine op_store2 ?_ | refine op_store3 ?_ | refine op_store4 ?_ | refine op_store5 ?_ | refine op_storeK rfl ?_ | refine op_loadK rfl ?_ | refine op_load_aggK rfl ?_ | refine tc_cond_t ?_ | refine tc_cond_f ?_ | refine tc_cond (fun _ => ?_) (fun _ => ?_) | refine tc_block ?_ | refine tc_skip ?_ | refine tc_ret ?_ | refine tc_exit ?_ | refine tc_label ?_ | refine at_seq_ret ?_ | refine at_seq_exit ?_ | refine at_block_normal ?_ | refine at_block_ret ?_ | refine at_block_exit_self ?_ | refine at_block_exit_ne ?_ | refine at_loop_ret ?_ | refine at_loop_exit ?_ | refine at_loop_goto ?_ | refine tl_guard_yes ?_ | refine tl_guard_no ?_ | refine tl_guard_yes' ?_ | refine tl_guard_no' ?_ | refine tl_guard_undef ?_ | refine tl_guard_split (fun _ => ?_) (fun _ => ?_))
        | fail
      refine at_loop_normal 1 (by decide) (by decide) (Incl.get (by repeat (first | exact trivial | refine ⟨rfl, ?_⟩))) ?_
      exact List.Sublist.refl _
    · -- the number 1
      have hs : ((e >>> 1 : Nat) : Int).fdiv (2 ^ min (Int.toNat 1) IntKind.i64.bits) = ((e >>> 1 >>> 1 : Nat) : Int) := shr_nat (a := e >>> 1) (n := 1) (by decide)
      have hx : ibits .xor .i64 ((e >>> 1 : Nat) : Int) ((e >>> 1 >>> 1 : Nat) : Int) = ((e >>> 1 ^^^ e >>> 1 >>> 1 : Nat) : Int) := ibits_xor (shr_lt he63) (shr_lt (shr_lt he63))
      have ha : ibits .and .i64 ((e >>> 1 ^^^ e >>> 1 >>> 1 : Nat) : Int) 1 = ((gb e 1 : Nat) : Int) := ibits_and (b := 1) (Nat.xor_lt_two_pow (n := 63) (shr_lt he63) (shr_lt (shr_lt he63))) (by decide)
      obtain ⟨hb, hc⟩ := bit_add (b := gb e 1) (hr.2 y (by simp)) (gb_lt e 1) hj62
      have hm := shl_nat hb (show j < 64 by omega)
      have hp := wrap_addN hc
      repeat' first
        | (first | refine tl_defer ?_ | refine tc_seq ?_ | refine tc_region ?_ | refine at_seq_normal ?_ | refine tl_nil ?_ | refine tl_cons ?_ | refine tl_cons_none ?_ | refine op_move ?_ | refine op_assign ?_ | refine op_fieldAddr ?_ | refine op_load ?_ | refine op_load_agg ?_ | refine op_indexC ?_ | refine op_indexAddr1 ?_ | refine op_indexAddr ?_ | refine op_icmp ?_ | refine op_fcmp ?_ | refine op_iarith ?_ | refine op_bcmp ?_ | refine op_unop_not ?_ | refine op_unop_neg_float ?_ | refine op_unop_neg_int ?_ | refine op_len_slice ?_ | refine op_pick_true ?_ | refine op_pick_false ?_ | refine op_pick_true' ?_ | refine op_pick_false' ?_ | refine op_build ?_ | refine op_extract ?_ | refine op_makeInterface ?_ | refine op_typeAssert ?_ | refine op_ptr_nil ?_ | refine op_nilCheck_ptr ?_ | refine op_nilCheck_meth ?_ | refine op_makeMeth ?_ | refine op_makeFunc ?_ | refine op_itof ?_ | refine op_itoi ?_ | refine op_ftoi ?_ | refine op_iquo ?_ | refine op_irem ?_ | refine op_ibits ?_ | refine op_slice_isnil ?_ | refine op_slice_notnil ?_ | refine op_imax ?_ | refine op_imin ?_ | refine op_shl ?_ | refine op_shr ?_ | (refine op_alloc ?_; intro _) | (refine op_box ?_; intro _) | (refine op_buildSlice ?_; intro _) | (refine op_farith ?_; intro _ _) | refine op_store0 ?_ | refine op_store1 ?_ | refine op_store2 ?_ | refine op_store3 ?_ | refine op_store4 ?_ | refine op_store5 ?_ | refine op_storeK rfl ?_ | refine op_loadK rfl ?_ | refine op_load_aggK rfl ?_ | refine tc_cond_t ?_ | refine tc_cond_f ?_ | refine tc_cond (fun _ => ?_) (fun _ => ?_) | refine tc_block ?_ | refine tc_skip ?_ | refine tc_ret ?_ | refine tc_exit ?_ | refine tc_label ?_ | refine at_seq_ret ?_ | refine at_seq_exit ?_ | refine at_block_normal ?_ | refine at_block_ret ?_ | refine at_block_exit_self ?_ | refine at_block_exit_ne ?_ | refine at_loop_ret ?_ | refine at_loop_exit ?_ | refine at_loop_goto ?_ | refine tl_guard_yes ?_ | refine tl_guard_no ?_ | refine tl_guard_yes' ?_ | refine tl_guard_no' ?_ | refine tl_guard_undef ?_ | refine tl_guard_split (fun _ => ?_) (fun _ => ?_))
        | fail
      apply fun hole0 hole1 hole2 hole3 hole4 hole5 hole6 hole7 hole8 hole9 hole10 hole11 hole12 hE hD hml hdl hpr prem fin => tc_drawn 13 [is hole0, is hole1, is hole2, is hole3, is hole4, is hole5, is hole6, is hole7, is hole8, is hole9, is hole10, is hole11, is hole12]
        [some 42, some 43, some 44, some 45, some 46, some 47, some 48, some 49, some 50, some 51, some 52, some 53, some 54, none] [[], [], [0, 1], [2], [], [], [5], [4, 6], [7], [], [8, 9], [3, 10], [0, 1, 2, 3, 4, 5, 6, 7, 8, 9, 10, 11]] mixed ⟨(is_mono _), (is_mono _), (is_mono _), (is_mono _), (is_mono _), (is_mono _), (is_mono _), (is_mono _), (is_mono _), (is_mono _), (is_mono _), (is_mono _), (is_mono _), trivial⟩ prem fin hE hD rfl hml hdl hpr
      rotate_left 14
      · exact rfl
      · exact rfl
      · exact Nat.le_of_ble_eq_true rfl
      · exact rfl
      · exact rfl
      refine ⟨fun G hG => ?_, fun G hG => ?_, fun G hG => ?_, fun G hG => ?_, fun G hG => ?_, fun G hG => ?_, fun G hG => ?_, fun G hG => ?_, fun G hG => ?_, fun G hG => ?_, fun G hG => ?_, fun G hG => ?_, fun G hG => ?_, trivial⟩
      · simp only [with2, Step2, nthDst, putO]
        (refine op_move ?_; exact ⟨[], rfl, rfl, rfl⟩)
      · simp only [with2, Step2, nthDst, putO]
        (refine op_move ?_; exact ⟨[], rfl, rfl, rfl⟩)
      · rintro _ _ ⟨rfl, rfl⟩ - _ _ ⟨rfl, rfl⟩ -
        simp only [with2, Step2, nthDst, putO]
        (refine op_indexAddr1 (j := 1) ?_ (hj := by decide); exact ⟨[], rfl, rfl, rfl⟩)
      · rintro _ _ ⟨rfl, rfl⟩ -
        simp only [with2, Step2, nthDst, putO]
        ((first | refine op_load ?_ | refine op_load_agg ?_ | refine op_load ?_ (hm := Sub.mem (by assumption) (by (repeat (apply List.mem_cons_of_mem)); assumption)) | refine op_load_agg ?_ (hm := Sub.mem (by assumption) (by (repeat (apply List.mem_cons_of_mem)); assumption)) | refine op_loadH hG rfl ?_ | refine op_load_aggH hG rfl ?_); exact ⟨[], rfl, rfl, rfl⟩)
      · simp only [with2, Step2, nthDst, putO]
        (refine op_move ?_; exact ⟨[], rfl, rfl, rfl⟩)
      · simp only [with2, Step2, nthDst, putO]
        (refine op_move ?_; exact ⟨[], rfl, rfl, rfl⟩)
      · rintro _ _ ⟨rfl, rfl⟩ -
        simp only [with2, Step2, nthDst, putO]
        (refine op_shr (v := 1) ?_; exact ⟨[], rfl, congrArg (Value.int .i64) hs, rfl⟩)
      · rintro _ _ ⟨rfl, rfl⟩ - _ _ ⟨rfl, rfl⟩ -
        simp only [with2, Step2, nthDst, putO]
        (refine op_ibits ?_; exact ⟨[], rfl, congrArg (Value.int .i64) hx, rfl⟩)
      · rintro _ _ ⟨rfl, rfl⟩ -
        simp only [with2, Step2, nthDst, putO]
        (refine op_ibits ?_; exact ⟨[], rfl, congrArg (Value.int .i64) ha, rfl⟩)
      · simp only [with2, Step2, nthDst, putO]
        (refine op_move ?_; exact ⟨[], rfl, rfl, rfl⟩)
      · rintro _ _ ⟨rfl, rfl⟩ - _ _ ⟨rfl, rfl⟩ -
        simp only [with2, Step2, nthDst, putO]
        (refine op_shl (v := (j : Int)) ?_; exact ⟨[], rfl, congrArg (Value.int .i64) hm, rfl⟩)
      · rintro _ _ ⟨rfl, rfl⟩ - _ _ ⟨rfl, rfl⟩ -
        simp only [with2, Step2, nthDst, putO]
        (refine op_iarith ?_; exact ⟨[], rfl, congrArg (Value.int .i64) hp, rfl⟩)
      · rintro _ _ ⟨rfl, rfl⟩ - _ _ ⟨rfl, rfl⟩ - _ _ ⟨rfl, rfl⟩ - _ _ ⟨rfl, rfl⟩ - _ _ ⟨rfl, rfl⟩ - _ _ ⟨rfl, rfl⟩ - _ _ ⟨rfl, rfl⟩ - _ _ ⟨rfl, rfl⟩ - _ _ ⟨rfl, rfl⟩ - _ _ ⟨rfl, rfl⟩ - _ _ ⟨rfl, rfl⟩ - _ _ ⟨rfl, rfl⟩ -
        simp only [with2, Step2, nthDst, putO]
        ((first | refine op_indexC ?_ | refine op_indexAddr1 ?_ | refine op_indexAddr ?_); exact ⟨[], rfl, rfl, rfl⟩)
      rintro _ _ _ _ _ _ _ _ _ _ _ _ _ _ _ _ _ _ _ _ _ _ _ _ _ _ ⟨⟨rfl, rfl⟩, ⟨rfl, rfl⟩, ⟨rfl, rfl⟩, ⟨rfl, rfl⟩, ⟨rfl, rfl⟩, ⟨rfl, rfl⟩, ⟨rfl, rfl⟩, ⟨rfl, rfl⟩, ⟨rfl, rfl⟩, ⟨rfl, rfl⟩, ⟨rfl, rfl⟩, ⟨rfl, rfl⟩, ⟨rfl, rfl⟩, _⟩
      simp only [List.nil_append, List.cons_append, List.append_nil, List.drop_succ_cons, List.drop_zero, nthDst, putO]
      repeat' first
        | refine op_indexAddr1 (j := 1) ?_ (hj := by decide)
        | (refine op_shr (v := 1) ?_; rw [hs])
        | (first | refine tl_defer ?_ | refine tc_seq ?_ | refine tc_region ?_ | refine at_seq_normal ?_ | refine tl_nil ?_ | refine tl_cons ?_ | refine tl_cons_none ?_ | refine op_move ?_ | refine op_assign ?_ | refine op_fieldAddr ?_ | refine op_load ?_ | refine op_load_agg ?_ | refine op_indexC ?_ | refine op_indexAddr1 ?_ | refine op_indexAddr ?_ | refine op_icmp ?_ | refine op_fcmp ?_ | refine op_iarith ?_ | refine op_bcmp ?_ | refine op_unop_not ?_ | refine op_unop_neg_float ?_ | refine op_unop_neg_int ?_ | refine op_len_slice ?_ | refine op_pick_true ?_ | refine op_pick_false ?_ | refine op_pick_true' ?_ | refine op_pick_false' ?_ | refine op_build ?_ | refine op_extract ?_ | refine op_makeInterface ?_ | refine op_typeAssert ?_ | refine op_ptr_nil ?_ | refine op_nilCheck_ptr ?_ | refine op_nilCheck_meth ?_ | refine op_makeMeth ?_ | refine op_makeFunc ?_ | refine op_itof ?_ | refine op_itoi ?_ | refine op_ftoi ?_ | refine op_iquo ?_ | refine op_irem ?_ | refine op_ibits ?_ | refine op_slice_isnil ?_ | refine op_slice_notnil ?_ | refine op_imax ?_ | refine op_imin ?_ | refine op_shl ?_ | refine op_shr ?_ | (refine op_alloc ?_; intro _) | (refine op_box ?_; intro _) | (refine op_buildSlice ?_; intro _) | (refine op_farith ?_; intro _ _) | refine op_store0 ?_ | refine op_store1 ?_ | refine op_store2 ?_ | refine op_store3 ?_ | refine op_store4 ?_ | refine op_store5 ?_ | refine op_storeK rfl ?_ | refine op_loadK rfl ?_ | refine op_load_aggK rfl ?_ | refine tc_cond_t ?_ | refine tc_cond_f ?_ | refine tc_cond (fun _ => ?_) (fun _ => ?_) | refine tc_block ?_ | refine tc_skip ?_ | refine tc_ret ?_ | refine tc_exit ?_ | refine tc_label ?_ | refine at_seq_ret ?_ | refine at_seq_exit ?_ | refine at_block_normal ?_ | refine at_block_ret ?_ | refine at_block_exit_self ?_ | refine at_block_exit_ne ?_ | refine at_loop_ret ?_ | refine at_loop_exit ?_ | refine at_loop_goto ?_ | refine tl_guard_yes ?_ | refine tl_guard_no ?_ | refine tl_guard_yes' ?_ | refine tl_guard_no' ?_ | refine tl_guard_undef ?_ | refine tl_guard_split (fun _ => ?_) (fun _ => ?_))
        | fail
      refine at_loop_normal 2 (by decide) (by decide) (Incl.get (by repeat (first | exact trivial | refine ⟨rfl, ?_⟩))) ?_
      exact List.Sublist.refl _
    · -- the number 2
      have hs : ((e >>> 2 : Nat) : Int).fdiv (2 ^ min (Int.toNat 1) IntKind.i64.bits) = ((e >>> 2 >>> 1 : Nat) : Int) := shr_nat (a := e >>> 2) (n := 1) (by decide)
      have hx : ibits .xor .i64 ((e >>> 2 : Nat) : Int) ((e >>> 2 >>> 1 : Nat) : Int) = ((e >>> 2 ^^^ e >>> 2 >>> 1 : Nat) : Int) := ibits_xor (shr_lt he63) (shr_lt (shr_lt he63))
      have ha : ibits .and .i64 ((e >>> 2 ^^^ e >>> 2 >>> 1 : Nat) : Int) 1 = ((gb e 2 : Nat) : Int) := ibits_and (b := 1) (Nat.xor_lt_two_pow (n := 63) (shr_lt he63) (shr_lt (shr_lt he63))) (by decide)
      obtain ⟨hb, hc⟩ := bit_add (b := gb e 2) (hr.2 z (by simp)) (gb_lt e 2) hj62
      have hm := shl_nat hb (show j < 64 by omega)
      have hp := wrap_addN hc
      repeat' first
        | (first | refine tl_defer ?_ | refine tc_seq ?_ | refine tc_region ?_ | refine at_seq_normal ?_ | refine tl_nil ?_ | refine tl_cons ?_ | refine tl_cons_none ?_ | refine op_move ?_ | refine op_assign ?_ | refine op_fieldAddr ?_ | refine op_load ?_ | refine op_load_agg ?_ | refine op_indexC ?_ | refine op_indexAddr1 ?_ | refine op_indexAddr ?_ | refine op_icmp ?_ | refine op_fcmp ?_ | refine op_iarith ?_ | refine op_bcmp ?_ | refine op_unop_not ?_ | refine op_unop_neg_float ?_ | refine op_unop_neg_int ?_ | refine op_len_slice ?_ | refine op_pick_true ?_ | refine op_pick_false ?_ | refine op_pick_true' ?_ | refine op_pick_false' ?_ | refine op_build ?_ | refine op_extract ?_ | refine op_makeInterface ?_ | refine op_typeAssert ?_ | refine op_ptr_nil ?_ | refine op_nilCheck_ptr ?_ | refine op_nilCheck_meth ?_ | refine op_makeMeth ?_ | refine op_makeFunc ?_ | refine op_itof ?_ | refine op_itoi ?_ | refine op_ftoi ?_ | refine op_iquo ?_ | refine op_irem ?_ | refine op_ibits ?_ | refine op_slice_isnil ?_ | refine op_slice_notnil ?_ | refine op_imax ?_ | refine op_imin ?_ | refine op_shl ?_ | refine op_shr ?_ | (refine op_alloc ?_; intro _) | (refine op_box ?_; intro _) | (refine op_buildSlice ?_; intro _) | (refine op_farith ?_; intro _ _) | refine op_store0 ?_ | refine op_store1 ?_ | refine op_store2 ?_ | refine op_store3 ?_ | refine op_store4 ?_ | refine op_store5 ?_ | refine op_storeK rfl ?_ | refine op_loadK rfl ?_ | refine op_load_aggK rfl ?_ | refine tc_cond_t ?_ | refine tc_cond_f ?_ | refine tc_cond (fun _ => ?_) (fun _ => ?_) | refine tc_block ?_ | refine tc_skip ?_ | refine tc_ret ?_ | refine tc_exit ?_ | refine tc_label ?_ | refine at_seq_ret ?_ | refine at_seq_exit ?_ | refine at_block_normal ?_ | refine at_block_ret ?_ | refine at_block_exit_self ?_ | refine at_block_exit_ne ?_ | refine at_loop_ret ?_ | refine at_loop_exit ?_ | refine at_loop_goto ?_ | refine tl_guard_yes ?_ | refine tl_guard_no ?_ | refine tl_guard_yes' ?_ | refine tl_guard_no' ?_ | refine tl_guard_undef ?_ | refine tl_guard_split (fun _ => ?_) (fun _ => ?_))
        | fail
      apply fun hole0 hole1 hole2 hole3 hole4 hole5 hole6 hole7 hole8 hole9 hole10 hole11 hole12 hE hD hml hdl hpr prem fin => tc_drawn 13 [is hole0, is hole1, is hole2, is hole3, is hole4, is hole5, is hole6, is hole7, is hole8, is hole9, is hole10, is hole11, is hole12]
        [some 42, some 43, some 44, some 45, some 46, some 47, some 48, some 49, some 50, some 51, some 52, some 53, some 54, none] [[], [], [0, 1], [2], [], [], [5], [4, 6], [7], [], [8, 9], [3, 10], [0, 1, 2, 3, 4, 5, 6, 7, 8, 9, 10, 11]] mixed ⟨(is_mono _), (is_mono _), (is_mono _), (is_mono _), (is_mono _), (is_mono _), (is_mono _), (is_mono _), (is_mono _), (is_mono _), (is_mono _), (is_mono _), (is_mono _), trivial⟩ prem fin hE hD rfl hml hdl hpr
      rotate_left 14
      · exact rfl
      · exact rfl
      · exact Nat.le_of_ble_eq_true rfl
      · exact rfl
      · exact rfl
      refine ⟨fun G hG => ?_, fun G hG => ?_, fun G hG => ?_, fun G hG => ?_, fun G hG => ?_, fun G hG => ?_, fun G hG => ?_, fun G hG => ?_, fun G hG => ?_, fun G hG => ?_, fun G hG => ?_, fun G hG => ?_, fun G hG => ?_, trivial⟩
      · simp only [with2, Step2, nthDst, putO]
        (refine op_move ?_; exact ⟨[], rfl, rfl, rfl⟩)
      · simp only [with2, Step2, nthDst, putO]
        (refine op_move ?_; exact ⟨[], rfl, rfl, rfl⟩)
      · rintro _ _ ⟨rfl, rfl⟩ - _ _ ⟨rfl, rfl⟩ -
        simp only [with2, Step2, nthDst, putO]
        (refine op_indexAddr1 (j := 2) ?_ (hj := by decide); exact ⟨[], rfl, rfl, rfl⟩)
      · rintro _ _ ⟨rfl, rfl⟩ -
        simp only [with2, Step2, nthDst, putO]
        ((first | refine op_load ?_ | refine op_load_agg ?_ | refine op_load ?_ (hm := Sub.mem (by assumption) (by (repeat (apply List.mem_cons_of_mem)); assumption)) | refine op_load_agg ?_ (hm := Sub.mem (by assumption) (by (repeat (apply List.mem_cons_of_mem)); assumption)) | refine op_loadH hG rfl ?_ | refine op_load_aggH hG rfl ?_); exact ⟨[], rfl, rfl, rfl⟩)
      · simp only [with2, Step2, nthDst, putO]
        (refine op_move ?_; exact ⟨[], rfl, rfl, rfl⟩)
      · simp only [with2, Step2, nthDst, putO]
        (refine op_move ?_; exact ⟨[], rfl, rfl, rfl⟩)
      · rintro _ _ ⟨rfl, rfl⟩ -
        simp only [with2, Step2, nthDst, putO]
        (refine op_shr (v := 1) ?_; exact ⟨[], rfl, congrArg (Value.int .i64) hs, rfl⟩)
      · rintro _ _ ⟨rfl, rfl⟩ - _ _ ⟨rfl, rfl⟩ -
        simp only [with2, Step2, nthDst, putO]
        (refine op_ibits ?_; exact ⟨[], rfl, congrArg (Value.int .i64) hx, rfl⟩)
      · rintro _ _ ⟨rfl, rfl⟩ -
        simp only [with2, Step2, nthDst, putO]
        (refine op_ibits ?_; exact ⟨[], rfl, congrArg (Value.int .i64) ha, rfl⟩)
      · simp only [with2, Step2, nthDst, putO]
        (refine op_move ?_; exact ⟨[], rfl, rfl, rfl⟩)
      · rintro _ _ ⟨rfl, rfl⟩ - _ _ ⟨rfl, rfl⟩ -
        simp only [with2, Step2, nthDst, putO]
        (refine op_shl (v := (j : Int)) ?_; exact ⟨[], rfl, congrArg (Value.int .i64) hm, rfl⟩)
      · rintro _ _ ⟨rfl, rfl⟩ - _ _ ⟨rfl, rfl⟩ -
        simp only [with2, Step2, nthDst, putO]
        (refine op_iarith ?_; exact ⟨[], rfl, congrArg (Value.int .i64) hp, rfl⟩)
      · rintro _ _ ⟨rfl, rfl⟩ - _ _ ⟨rfl, rfl⟩ - _ _ ⟨rfl, rfl⟩ - _ _ ⟨rfl, rfl⟩ - _ _ ⟨rfl, rfl⟩ - _ _ ⟨rfl, rfl⟩ - _ _ ⟨rfl, rfl⟩ - _ _ ⟨rfl, rfl⟩ - _ _ ⟨rfl, rfl⟩ - _ _ ⟨rfl, rfl⟩ - _ _ ⟨rfl, rfl⟩ - _ _ ⟨rfl, rfl⟩ -
        simp only [with2, Step2, nthDst, putO]
        ((first | refine op_indexC ?_ | refine op_indexAddr1 ?_ | refine op_indexAddr ?_); exact ⟨[], rfl, rfl, rfl⟩)
      rintro _ _ _ _ _ _ _ _ _ _ _ _ _ _ _ _ _ _ _ _ _ _ _ _ _ _ ⟨⟨rfl, rfl⟩, ⟨rfl, rfl⟩, ⟨rfl, rfl⟩, ⟨rfl, rfl⟩, ⟨rfl, rfl⟩, ⟨rfl, rfl⟩, ⟨rfl, rfl⟩, ⟨rfl, rfl⟩, ⟨rfl, rfl⟩, ⟨rfl, rfl⟩, ⟨rfl, rfl⟩, ⟨rfl, rfl⟩, ⟨rfl, rfl⟩, _⟩
      simp only [List.nil_append, List.cons_append, List.append_nil, List.drop_succ_cons, List.drop_zero, nthDst, putO]
      repeat' first
        | refine op_indexAddr1 (j := 2) ?_ (hj := by decide)
        | (refine op_shr (v := 1) ?_; rw [hs])
        | (first | refine tl_defer ?_ | refine tc_seq ?_ | refine tc_region ?_ | refine at_seq_normal ?_ | refine tl_nil ?_ | refine tl_cons ?_ | refine tl_cons_none ?_ | refine op_move ?_ | refine op_assign ?_ | refine op_fieldAddr ?_ | refine op_load ?_ | refine op_load_agg ?_ | refine op_indexC ?_ | refine op_indexAddr1 ?_ | refine op_indexAddr ?_ | refine op_icmp ?_ | refine op_fcmp ?_ | refine op_iarith ?_ | refine op_bcmp ?_ | refine op_unop_not ?_ | refine op_unop_neg_float ?_ | refine op_unop_neg_int ?_ | refine op_len_slice ?_ | refine op_pick_true ?_ | refine op_pick_false ?_ | refine op_pick_true' ?_ | refine op_pick_false' ?_ | refine op_build ?_ | refine op_extract ?_ | refine op_makeInterface ?_ | refine op_typeAssert ?_ | refine op_ptr_nil ?_ | refine op_nilCheck_ptr ?_ | refine op_nilCheck_meth ?_ | refine op_makeMeth ?_ | refine op_makeFunc ?_ | refine op_itof ?_ | refine op_itoi ?_ | refine op_ftoi ?_ | refine op_iquo ?_ | refine op_irem ?_ | refine op_ibits ?_ | refine op_slice_isnil ?_ | refine op_slice_notnil ?_ | refine op_imax ?_ | refine op_imin ?_ | refine op_shl ?_ | refine op_shr ?_ | (refine op_alloc ?_; intro _) | (refine op_box ?_; intro _) | (refine op_buildSlice ?_; intro _) | (refine op_farith ?_; intro _ _) | refine op_store0 ?_ | refine op_store1 ?_ | refine op_store2 ?_ | refine op_store3 ?_ | refine op_store4 ?_ | refine op_store5 ?_ | refine op_storeK rfl ?_ | refine op_loadK rfl ?_ | refine op_load_aggK rfl ?_ | refine tc_cond_t ?_ | refine tc_cond_f ?_ | refine tc_cond (fun _ => ?_) (fun _ => ?_) | refine tc_block ?_ | refine tc_skip ?_ | refine tc_ret ?_ | refine tc_exit ?_ | refine tc_label ?_ | refine at_seq_ret ?_ | refine at_seq_exit ?_ | refine at_block_normal ?_ | refine at_block_ret ?_ | refine at_block_exit_self ?_ | refine at_block_exit_ne ?_ | refine at_loop_ret ?_ | refine at_loop_exit ?_ | refine at_loop_goto ?_ | refine tl_guard_yes ?_ | refine tl_guard_no ?_ | refine tl_guard_yes' ?_ | refine tl_guard_no' ?_ | refine tl_guard_undef ?_ | refine tl_guard_split (fun _ => ?_) (fun _ => ?_))
        | fail
      refine at_loop_normal 3 (by decide) (by decide) (Incl.get (by repeat (first | exact trivial | refine ⟨rfl, ?_⟩))) ?_
      exact List.Sublist.refl _
    · -- the number 3
      have hs : ((e >>> 3 : Nat) : Int).fdiv (2 ^ min (Int.toNat 1) IntKind.i64.bits) = ((e >>> 3 >>> 1 : Nat) : Int) := shr_nat (a := e >>> 3) (n := 1) (by decide)
      have hx : ibits .xor .i64 ((e >>> 3 : Nat) : Int) ((e >>> 3 >>> 1 : Nat) : Int) = ((e >>> 3 ^^^ e >>> 3 >>> 1 : Nat) : Int) := ibits_xor (shr_lt he63) (shr_lt (shr_lt he63))
      have ha : ibits .and .i64 ((e >>> 3 ^^^ e >>> 3 >>> 1 : Nat) : Int) 1 = ((gb e 3 : Nat) : Int) := ibits_and (b := 1) (Nat.xor_lt_two_pow (n := 63) (shr_lt he63) (shr_lt (shr_lt he63))) (by decide)
      obtain ⟨hb, hc⟩ := bit_add (b := gb e 3) (hr.2 u (by simp)) (gb_lt e 3) hj62
      have hm := shl_nat hb (show j < 64 by omega)
      have hp := wrap_addN hc
      repeat' first
        | (first | refine tl_defer ?_ | refine tc_seq ?_ | refine tc_region ?_ | refine at_seq_normal ?_ | refine tl_nil ?_ | refine tl_cons ?_ | refine tl_cons_none ?_ | refine op_move ?_ | refine op_assign ?_ | refine op_fieldAddr ?_ | refine op_load ?_ | refine op_load_agg ?_ | refine op_indexC ?_ | refine op_indexAddr1 ?_ | refine op_indexAddr ?_ | refine op_icmp ?_ | refine op_fcmp ?_ | refine op_iarith ?_ | refine op_bcmp ?_ | refine op_unop_not ?_ | refine op_unop_neg_float ?_ | refine op_unop_neg_int ?_ | refine op_len_slice ?_ | refine op_pick_true ?_ | refine op_pick_false ?_ | refine op_pick_true' ?_ | refine op_pick_false' ?_ | refine op_build ?_ | refine op_extract ?_ | refine op_makeInterface ?_ | refine op_typeAssert ?_ | refine op_ptr_nil ?_ | refine op_nilCheck_ptr ?_ | refine op_nilCheck_meth ?_ | refine op_makeMeth ?_ | refine op_makeFunc ?_ | refine op_itof ?_ | refine op_itoi ?_ | refine op_ftoi ?_ | refine op_iquo ?_ | refine op_irem ?_ | refine op_ibits ?_ | refine op_slice_isnil ?_ | refine op_slice_notnil ?_ | refine op_imax ?_ | refine op_imin ?_ | refine op_shl ?_ | refine op_shr ?_ | (refine op_alloc ?_; intro _) | (refine op_box ?_; intro _) | (refine op_buildSlice ?_; intro _) | (refine op_farith ?_; intro _ _) | refine op_store0 ?_ | refine op_store1 ?_ | refine op_store2 ?_ | refine op_store3 ?_ | refine op_store4 ?_ | refine op_store5 ?_ | refine op_storeK rfl ?_ | refine op_loadK rfl ?_ | refine op_load_aggK rfl ?_ | refine tc_cond_t ?_ | refine tc_cond_f ?_ | refine tc_cond (fun _ => ?_) (fun _ => ?_) | refine tc_block ?_ | refine tc_skip ?_ | refine tc_ret ?_ | refine tc_exit ?_ | refine tc_label ?_ | refine at_seq_ret ?_ | refine at_seq_exit ?_ | refine at_block_normal ?_ | refine at_block_ret ?_ | refine at_block_exit_self ?_ | refine at_block_exit_ne ?_ | refine at_loop_ret ?_ | refine at_loop_exit ?_ | refine at_loop_goto ?_ | refine tl_guard_yes ?_ | refine tl_guard_no ?_ | refine tl_guard_yes' ?_ | refine tl_guard_no' ?_ | refine tl_guard_undef ?_ | refine tl_guard_split (fun _ => ?_) (fun _ => ?_))
        | fail
      apply fun hole0 hole1 hole2 hole3 hole4 hole5 hole6 hole7 hole8 hole9 hole10 hole11 hole12 hE hD hml hdl hpr prem fin => tc_drawn 13 [is hole0, is hole1, is hole2, is hole3, is hole4, is hole5, is hole6, is hole7, is hole8, is hole9, is hole10, is hole11, is hole12]
        [some 42, some 43, some 44, some 45, some 46, some 47, some 48, some 49, some 50, some 51, some 52, some 53, some 54, none] [[], [], [0, 1], [2], [], [], [5], [4, 6], [7], [], [8, 9], [3, 10], [0, 1, 2, 3, 4, 5, 6, 7, 8, 9, 10, 11]] mixed ⟨(is_mono _), (is_mono _), (is_mono _), (is_mono _), (is_mono _), (is_mono _), (is_mono _), (is_mono _), (is_mono _), (is_mono _), (is_mono _), (is_mono _), (is_mono _), trivial⟩ prem fin hE hD rfl hml hdl hpr
      rotate_left 14
      · exact rfl
      · exact rfl
      · exact Nat.le_of_ble_eq_true rfl
      · exact rfl
      · exact rfl
      refine ⟨fun G hG => ?_, fun G hG => ?_, fun G hG => ?_, fun G hG => ?_, fun G hG => ?_, fun G hG => ?_, fun G hG => ?_, fun G hG => ?_, fun G hG => ?_, fun G hG => ?_, fun G hG => ?_, fun G hG => ?_, fun G hG => ?_, trivial⟩
      · simp only [with2, Step2, nthDst, putO]
        (refine op_move ?_; exact ⟨[], rfl, rfl, rfl⟩)
      · simp only [with2, Step2, nthDst, putO]
        (refine op_move ?_; exact ⟨[], rfl, rfl, rfl⟩)
      · rintro _ _ ⟨rfl, rfl⟩ - _ _ ⟨rfl, rfl⟩ -
        simp only [with2, Step2, nthDst, putO]
        (refine op_indexAddr1 (j := 3) ?_ (hj := by decide); exact ⟨[], rfl, rfl, rfl⟩)
      · rintro _ _ ⟨rfl, rfl⟩ -
        simp only [with2, Step2, nthDst, putO]
        ((first | refine op_load ?_ | refine op_load_agg ?_ | refine op_load ?_ (hm := Sub.mem (by assumption) (by (repeat (apply List.mem_cons_of_mem)); assumption)) | refine op_load_agg ?_ (hm := Sub.mem (by assumption) (by (repeat (apply List.mem_cons_of_mem)); assumption)) | refine op_loadH hG rfl ?_ | refine op_load_aggH hG rfl ?_); exact ⟨[], rfl, rfl, rfl⟩)
      · simp only [with2, Step2, nthDst, putO]
        (refine op_move ?_; exact ⟨[], rfl, rfl, rfl⟩)
      · simp only [with2, Step2, nthDst, putO]
        (refine op_move ?_; exact ⟨[], rfl, rfl, rfl⟩)
      · rintro _ _ ⟨rfl, rfl⟩ -
        simp only [with2, Step2, nthDst, putO]
        (refine op_shr (v := 1) ?_; exact ⟨[], rfl, congrArg (Value.int .i64) hs, rfl⟩)
      · rintro _ _ ⟨rfl, rfl⟩ - _ _ ⟨rfl, rfl⟩ -
        simp only [with2, Step2, nthDst, putO]
        (refine op_ibits ?_; exact ⟨[], rfl, congrArg (Value.int .i64) hx, rfl⟩)
      · rintro _ _ ⟨rfl, rfl⟩ -
        simp only [with2, Step2, nthDst, putO]
        (refine op_ibits ?_; exact ⟨[], rfl, congrArg (Value.int .i64) ha, rfl⟩)
      · simp only [with2, Step2, nthDst, putO]
        (refine op_move ?_; exact ⟨[], rfl, rfl, rfl⟩)
      · rintro _ _ ⟨rfl, rfl⟩ - _ _ ⟨rfl, rfl⟩ -
        simp only [with2, Step2, nthDst, putO]
        (refine op_shl (v := (j : Int)) ?_; exact ⟨[], rfl, congrArg (Value.int .i64) hm, rfl⟩)
      · rintro _ _ ⟨rfl, rfl⟩ - _ _ ⟨rfl, rfl⟩ -
        simp only [with2, Step2, nthDst, putO]
        (refine op_iarith ?_; exact ⟨[], rfl, congrArg (Value.int .i64) hp, rfl⟩)
      · rintro _ _ ⟨rfl, rfl⟩ - _ _ ⟨rfl, rfl⟩ - _ _ ⟨rfl, rfl⟩ - _ _ ⟨rfl, rfl⟩ - _ _ ⟨rfl, rfl⟩ - _ _ ⟨rfl, rfl⟩ - _ _ ⟨rfl, rfl⟩ - _ _ ⟨rfl, rfl⟩ - _ _ ⟨rfl, rfl⟩ - _ _ ⟨rfl, rfl⟩ - _ _ ⟨rfl, rfl⟩ - _ _ ⟨rfl, rfl⟩ -
        simp only [with2, Step2, nthDst, putO]
        ((first | refine op_indexC ?_ | refine op_indexAddr1 ?_ | refine op_indexAddr ?_); exact ⟨[], rfl, rfl, rfl⟩)
      rintro _ _ _ _ _ _ _ _ _ _ _ _ _ _ _ _ _ _ _ _ _ _ _ _ _ _ ⟨⟨rfl, rfl⟩, ⟨rfl, rfl⟩, ⟨rfl, rfl⟩, ⟨rfl, rfl⟩, ⟨rfl, rfl⟩, ⟨rfl, rfl⟩, ⟨rfl, rfl⟩, ⟨rfl, rfl⟩, ⟨rfl, rfl⟩, ⟨rfl, rfl⟩, ⟨rfl, rfl⟩, ⟨rfl, rfl⟩, ⟨rfl, rfl⟩, _⟩
      simp only [List.nil_append, List.cons_append, List.append_nil, List.drop_succ_cons, List.drop_zero, nthDst, putO]
      repeat' first
        | refine op_indexAddr1 (j := 3) ?_ (hj := by decide)
        | (refine op_shr (v := 1) ?_; rw [hs])
        | (first | refine tl_defer ?_ | refine tc_seq ?_ | refine tc_region ?_ | refine at_seq_normal ?_ | refine tl_nil ?_ | refine tl_cons ?_ | refine tl_cons_none ?_ | refine op_move ?_ | refine op_assign ?_ | refine op_fieldAddr ?_ | refine op_load ?_ | refine op_load_agg ?_ | refine op_indexC ?_ | refine op_indexAddr1 ?_ | refine op_indexAddr ?_ | refine op_icmp ?_ | refine op_fcmp ?_ | refine op_iarith ?_ | refine op_bcmp ?_ | refine op_unop_not ?_ | refine op_unop_neg_float ?_ | refine op_unop_neg_int ?_ | refine op_len_slice ?_ | refine op_pick_true ?_ | refine op_pick_false ?_ | refine op_pick_true' ?_ | refine op_pick_false' ?_ | refine op_build ?_ | refine op_extract ?_ | refine op_makeInterface ?_ | refine op_typeAssert ?_ | refine op_ptr_nil ?_ | refine op_nilCheck_ptr ?_ | refine op_nilCheck_meth ?_ | refine op_makeMeth ?_ | refine op_makeFunc ?_ | refine op_itof ?_ | refine op_itoi ?_ | refine op_ftoi ?_ | refine op_iquo ?_ | refine op_irem ?_ | refine op_ibits ?_ | refine op_slice_isnil ?_ | refine op_slice_notnil ?_ | refine op_imax ?_ | refine op_imin ?_ | refine op_shl ?_ | refine op_shr ?_ | (refine op_alloc ?_; intro _) | (refine op_box ?_; intro _) | (refine op_buildSlice ?_; intro _) | (refine op_farith ?_; intro _ _) | refine op_store0 ?_ | refine op_store1 ?_ | refine op_store2 ?_ | refine op_store3 ?_ | refine op_store4 ?_ | refine op_store5 ?_ | refine op_storeK rfl ?_ | refine op_loadK rfl ?_ | refine op_load_aggK rfl ?_ | refine tc_cond_t ?_ | refine tc_cond_f ?_ | refine tc_cond (fun _ => ?_) (fun _ => ?_) | refine tc_block ?_ | refine tc_skip ?_ | refine tc_ret ?_ | refine tc_exit ?_ | refine tc_label ?_ | refine at_seq_ret ?_ | refine at_seq_exit ?_ | refine at_block_normal ?_ | refine at_block_ret ?_ | refine at_block_exit_self ?_ | refine at_block_exit_ne ?_ | refine at_loop_ret ?_ | refine at_loop_exit ?_ | refine at_loop_goto ?_ | refine tl_guard_yes ?_ | refine tl_guard_no ?_ | refine tl_guard_yes' ?_ | refine tl_guard_no' ?_ | refine tl_guard_undef ?_ | refine tl_guard_split (fun _ => ?_) (fun _ => ?_))
        | fail
      refine at_loop_normal 4 (by decide) (by decide) (Incl.get (by repeat (first | exact trivial | refine ⟨rfl, ?_⟩))) ?_
      exact List.Sublist.refl _
    repeat' first
      | (refine op_shr (v := 4) ?_; rw [hsD])
      | (first | refine tl_defer ?_ | refine tc_seq ?_ | refine tc_region ?_ | refine at_seq_normal ?_ | refine tl_nil ?_ | refine tl_cons ?_ | refine tl_cons_none ?_ | refine op_move ?_ | refine op_assign ?_ | refine op_fieldAddr ?_ | refine op_load ?_ | refine op_load_agg ?_ | refine op_indexC ?_ | refine op_indexAddr1 ?_ | refine op_indexAddr ?_ | refine op_icmp ?_ | refine op_fcmp ?_ | refine op_iarith ?_ | refine op_bcmp ?_ | refine op_unop_not ?_ | refine op_unop_neg_float ?_ | refine op_unop_neg_int ?_ | refine op_len_slice ?_ | refine op_pick_true ?_ | refine op_pick_false ?_ | refine op_pick_true' ?_ | refine op_pick_false' ?_ | refine op_build ?_ | refine op_extract ?_ | refine op_makeInterface ?_ | refine op_typeAssert ?_ | refine op_ptr_nil ?_ | refine op_nilCheck_ptr ?_ | refine op_nilCheck_meth ?_ | refine op_makeMeth ?_ | refine op_makeFunc ?_ | refine op_itof ?_ | refine op_itoi ?_ | refine op_ftoi ?_ | refine op_iquo ?_ | refine op_irem ?_ | refine op_ibits ?_ | refine op_slice_isnil ?_ | refine op_slice_notnil ?_ | refine op_imax ?_ | refine op_imin ?_ | refine op_shl ?_ | refine op_shr ?_ | (refine op_alloc ?_; intro _) | (refine op_box ?_; intro _) | (refine op_buildSlice ?_; intro _) | (refine op_farith ?_; intro _ _) | refine op_store0 ?_ | refine op_store1 ?_ | refine op_store2 ?_ | refine op_store3 ?_ | refine op_store4 ?_ | refine op_store5 ?_ | refine op_storeK rfl ?_ | refine op_loadK rfl ?_ | refine op_load_aggK rfl ?_ | refine tc_cond_t ?_ | refine tc_cond_f ?_ | refine tc_cond (fun _ => ?_) (fun _ => ?_) | refine tc_block ?_ | refine tc_skip ?_ | refine tc_ret ?_ | refine tc_exit ?_ | refine tc_label ?_ | refine at_seq_ret ?_ | refine at_seq_exit ?_ | refine at_block_normal ?_ | refine at_block_ret ?_ | refine at_block_exit_self ?_ | refine at_block_exit_ne ?_ | refine at_loop_ret ?_ | refine at_loop_exit ?_ | refine at_loop_goto ?_ | refine tl_guard_yes ?_ | refine tl_guard_no ?_ | refine tl_guard_yes' ?_ | refine tl_guard_no' ?_ | refine tl_guard_undef ?_ | refine tl_guard_split (fun _ => ?_) (fun _ => ?_))
      | fail
    have hnx : (cst 4 rot4 pos (j + 1)).1.map nv = part4 x y z u (x + gb e 0 * 2 ^ j) (y + gb e 1 * 2 ^ j) (z + gb e 2 * 2 ^ j) (u + gb e 3 * 2 ^ j) 4 := by
      simp only [cst, cstep, hst, ← hee, hr.1, hg]; rfl
    have hnp : (cst 4 rot4 pos (j + 1)).2 = p / 2 ^ 4 := by simp only [cst, cstep, hst]
    refine at_loop_normal (j + 1) hlt (by omega) (Incl.get ⟨next_nat (by omega), (by rw [hnp]; exact rfl), rfl, rfl, rfl, rfl, trivial⟩) ?_
    show List.Sublist ((kd, Obj.cells ⟨(cst 4 rot4 pos (j + 1)).1.map nv⟩ _ (0, 0)) :: _) _
    rw [hnx]
    exact List.Sublist.refl _
  · have hbb : icmp .lss (j : Int) (ord : Int) = false := by rw [lss_nat]; simpa using hlt
    obtain rfl : j = ord := by omega
    repeat'
      first
        | refine tl_defer ?_ | refine tc_seq ?_ | refine tc_region ?_ | refine at_seq_normal ?_ | refine tl_nil ?_ | refine tl_cons ?_ | refine tl_cons_none ?_ | refine op_move ?_
        | refine op_assign ?_ | refine op_fieldAddr ?_ | refine op_load ?_ | refine op_load_agg ?_ | refine op_indexC ?_ | refine op_indexAddr1 ?_ | refine op_indexAddr ?_ | refine op_icmp ?_
        | refine op_fcmp ?_ | refine op_iarith ?_ | refine op_bcmp ?_ | refine op_unop_not ?_ | refine op_unop_neg_float ?_ | refine op_unop_neg_int ?_ | refine op_len_slice ?_ | refine op_pick_true ?_
        | refine op_pick_false ?_ | refine op_pick_true' ?_ | refine op_pick_false' ?_ | refine op_build ?_ | refine op_extract ?_ | refine op_makeInterface ?_ | refine op_typeAssert ?_ | refine op_ptr_nil ?_
        | refine op_nilCheck_ptr ?_ | refine op_nilCheck_meth ?_ | refine op_makeMeth ?_ | refine op_makeFunc ?_ | refine op_itof ?_ | refine op_itoi ?_ | refine op_ftoi ?_ | refine op_iquo ?_
        | refine op_irem ?_ | refine op_ibits ?_ | refine op_slice_isnil ?_ | refine op_slice_notnil ?_ | refine op_imax ?_ | refine op_imin ?_ | refine op_shl ?_ | refine op_shr ?_
        | (refine op_alloc ?_; intro _) | (refine op_box ?_; intro _) | (refine op_buildSlice ?_; intro _) | (refine op_farith ?_; intro _ _) | refine op_store0 ?_ | refine op_store1 ?_ | refine op_store2 ?_ | refine op_store3 ?_
        | refine op_store4 ?_ | refine op_store5 ?_ | refine tc_cond_t ?_ | refine tc_cond_f ?_ | refine tc_cond (fun _ => ?_) (fun _ => ?_) | refine tc_block ?_ | refine tc_skip ?_ | refine tc_ret ?_
        | refine tc_exit ?_ | refine tc_label ?_ | refine at_seq_ret ?_ | refine at_seq_exit ?_ | refine at_block_normal ?_ | refine at_block_ret ?_ | refine at_block_exit_self ?_ | refine at_block_exit_ne ?_
        | refine at_loop_ret ?_ | refine at_loop_exit ?_ | refine at_loop_goto ?_ | refine tl_guard_yes ?_ | refine tl_guard_no ?_ | refine tl_guard_yes' ?_ | refine tl_guard_no' ?_ | refine tl_guard_undef ?_
        | refine tl_guard_split (fun _ => ?_) (fun _ => ?_)
    exact ret_tmp (hG := List.Sublist.cons_cons _ (List.Sublist.cons _ (List.Sublist.refl _))) (hk := ⟨_, _, rfl, rfl⟩)
end Go.Proofs.YtjalgjeibnjinaaDoor.Hil
