/-
  Hilbert curves: the position of a place. Printed by gen_hil5.py. No conditions.
-/
import Derived.Test.YtjalgjeibnjinaaDoorHil3
set_option linter.unusedVariables false
set_option linter.unusedSimpArgs false
namespace Go.Proofs.YtjalgjeibnjinaaDoor.Hil
open Go.Lg

def gu (b e : Nat) : Nat := e * 2 ^ 1 ||| ((e ^^^ b) &&& 1)
def ungray (bs : List Nat) : Nat := bs.foldr gu 0
def bitsAt (n : Nat) (xs : List Nat) : List Nat := xs.map fun x => x >>> n &&& 1
def pstep (D : Nat) (rot : Bool → Nat → Nat → List Nat → List Nat) (ord n : Nat) (s : List Nat × Nat) : List Nat × Nat :=
  (rot false (2 ^ ord - 1) (ungray (bitsAt n s.1)) s.1, s.2 + ungray (bitsAt n s.1) * 2 ^ (D * n))
def pst (D : Nat) (rot : Bool → Nat → Nat → List Nat → List Nat) (ord : Nat) (v0 : List Nat) : Nat → List Nat × Nat
  | 0 => (v0, 0)
  | j + 1 => pstep D rot ord (ord - 1 - j) (pst D rot ord v0 j)
theorem gu_lt {b e k : Nat} (he : e < 2 ^ k) : gu b e < 2 ^ (k + 1) := by
  refine Nat.or_lt_two_pow ?_ ?_
  · rw [Nat.pow_succ]; omega
  · have := bit1 (e ^^^ b)
    have := Nat.two_pow_pos k
    rw [Nat.pow_succ]; omega
theorem ungray_lt : ∀ bs : List Nat, ungray bs < 2 ^ bs.length
  | [] => by simp [ungray]
  | b :: bs => gu_lt (ungray_lt bs)
theorem pst_len {D : Nat} {rot} [ht : Turn rot] {ord : Nat} {v0 : List Nat} (h : v0.length = D) : ∀ j, (pst D rot ord v0 j).1.length = D
  | 0 => h
  | j + 1 => by simp [pst, pstep, ht.len, pst_len h j]
theorem pst_below {D : Nat} {rot} [ht : Turn rot] {ord : Nat} {v0 : List Nat} (h : Below ord v0) : ∀ j, Below ord (pst D rot ord v0 j).1
  | 0 => h
  | j + 1 => ht.below _ _ _ _ (pst_below h j)
theorem pst_d {D : Nat} {rot} [ht : Turn rot] {ord : Nat} {v0 : List Nat} (h : v0.length = D) : ∀ j, j ≤ ord → (pst D rot ord v0 j).2 + 2 ^ (D * (ord - j)) ≤ 2 ^ (D * ord)
  | 0, _ => by simp [pst]
  | j + 1, hj => by
    have ih := pst_d (D := D) (rot := rot) (ord := ord) h j (by omega)
    have hu := ungray_lt (bitsAt (ord - 1 - j) (pst D rot ord v0 j).1)
    have hl : (bitsAt (ord - 1 - j) (pst D rot ord v0 j).1).length = D := by simp [bitsAt, pst_len h j]
    rw [hl] at hu
    show (pst D rot ord v0 j).2 + ungray (bitsAt (ord - 1 - j) (pst D rot ord v0 j).1) * 2 ^ (D * (ord - 1 - j)) + 2 ^ (D * (ord - (j + 1))) ≤ _
    generalize ungray (bitsAt (ord - 1 - j) (pst D rot ord v0 j).1) = u at hu ⊢
    have e1 : ord - (j + 1) = ord - 1 - j := by omega
    have e2 : ord - j = ord - 1 - j + 1 := by omega
    rw [e1]
    rw [e2, Nat.mul_succ, Nat.pow_add] at ih
    have h3 : u * 2 ^ (D * (ord - 1 - j)) + 2 ^ (D * (ord - 1 - j)) ≤ 2 ^ (D * (ord - 1 - j)) * 2 ^ D := by
      rw [← Nat.succ_mul, Nat.mul_comm]; exact Nat.mul_le_mul_left _ hu
    omega
theorem ungray2 : ∀ r0, r0 < 2 → ∀ r1, r1 < 2 → r1 * 2 ^ 1 ||| (r1 ^^^ r0) = ungray [r0, r1] := by decide
theorem ungray3 : ∀ r0, r0 < 2 → ∀ r1, r1 < 2 → ∀ r2, r2 < 2 → (r2 * 2 ^ 2 ||| (r2 ^^^ r1) * 2 ^ 1) ||| ((r2 ^^^ r1) ^^^ r0) = ungray [r0, r1, r2] := by decide
theorem xor_bit : ∀ a, a < 2 → ∀ b, b < 2 → a ^^^ b < 2 := by decide

set_option maxHeartbeats 4000000 in
theorem pos2 (ord k cap : Nat) (T : TypeId) (v0 : List Nat) (sp : List Value) (R : Heap) (ho : ord ≤ 31) (hlen0 : v0.length = 2) (hbel0 : Below ord v0) :
    Does Tryd.prog 41 [.agg ⟨[.int .i64 (ord : Int)]⟩, .slice (some ⟨k, 0, none⟩) 2 cap] ((k, Obj.cells ⟨v0.map nv ++ sp⟩ T (0, 0)) :: R) fun w H' => w = .int .i64 (((pst 2 rot2 ord v0 ord).2 : Nat) : Int) ∧ H' = R := by
  have h63 : 2 ^ (2 * ord) < 2 ^ 63 := Nat.pow_lt_pow_right (by decide) (by omega)
  have hini : IntKind.i64.wrap (iarith .sub (ord : Int) 1) = (ord : Int) - 1 - ((0 : Nat) : Int) := by
    show IntKind.i64.wrap ((ord : Int) - 1) = _
    rw [wrap_in (by omega) (by omega)]; omega
  refine fn_enter 48 Tryd.func41 fun W => ?_
  repeat' first
    | (refine op_iarith ?_; rw [hini])
    | (first | refine tl_defer ?_ | refine tc_seq ?_ | refine tc_region ?_ | refine at_seq_normal ?_ | refine tl_nil ?_ | refine tl_cons ?_ | refine tl_cons_none ?_ | refine op_move ?_ | refine op_assign ?_ | refine op_fieldAddr ?_ | refine op_load ?_ | refine op_load_agg ?_ | refine op_indexC ?_ | refine op_indexAddr1 ?_ | refine op_indexAddr ?_ | refine op_icmp ?_ | refine op_fcmp ?_ | refine op_iarith ?_ | refine op_bcmp ?_ | refine op_unop_not ?_ | refine op_unop_neg_float ?_ | refine op_unop_neg_int ?_ | refine op_len_slice ?_ | refine op_pick_true ?_ | refine op_pick_false ?_ | refine op_pick_true' ?_ | refine op_pick_false' ?_ | refine op_build ?_ | refine op_extract ?_ | refine op_makeInterface ?_ | refine op_typeAssert ?_ | refine op_ptr_nil ?_ | refine op_nilCheck_ptr ?_ | refine op_nilCheck_meth ?_ | refine op_makeMeth ?_ | refine op_makeFunc ?_ | refine op_itof ?_ | refine op_itoi ?_ | refine op_ftoi ?_ | refine op_iquo ?_ | refine op_irem ?_ | refine op_ibits ?_ | refine op_slice_isnil ?_ | refine op_slice_notnil ?_ | refine op_imax ?_ | refine op_imin ?_ | refine op_shl ?_ | refine op_shr ?_ | (refine op_alloc ?_; intro _) | (refine op_box ?_; intro _) | (refine op_buildSlice ?_; intro _) | (refine op_farith ?_; intro _ _) | refine op_store0 ?_ | refine op_store1 ?_ | refine op_store2 ?_ | refine op_store3 ?_ | refine op_store4 ?_ | refine op_store5 ?_ | refine op_storeK rfl ?_ | refine op_loadK rfl ?_ | refine op_load_aggK rfl ?_ | refine tc_cond_t ?_ | refine tc_cond_f ?_ | refine tc_cond (fun _ => ?_) (fun _ => ?_) | refine tc_block ?_ | refine tc_skip ?_ | refine tc_ret ?_ | refine tc_exit ?_ | refine tc_label ?_ | refine at_seq_ret ?_ | refine at_seq_exit ?_ | refine at_block_normal ?_ | refine at_block_ret ?_ | refine at_block_exit_self ?_ | refine at_block_exit_ne ?_ | refine at_loop_ret ?_ | refine at_loop_exit ?_ | refine at_loop_goto ?_ | refine tl_guard_yes ?_ | refine tl_guard_no ?_ | refine tl_guard_yes' ?_ | refine tl_guard_no' ?_ | refine tl_guard_undef ?_ | refine tl_guard_split (fun _ => ?_) (fun _ => ?_))
    | fail
  refine tc_perm (List.Perm.swap _ _ _) ?_
  refine tc_loopK [(1, _), (2, _), (4, _)] (by repeat (first | exact trivial | refine ⟨rfl, ?_⟩)) (fun j : Nat => [(5, .int .i64 (((pst 2 rot2 ord v0 j).2 : Nat) : Int)), (6, .int .i64 ((ord : Int) - 1 - (j : Int)))]) (fun j => (k, Obj.cells ⟨(pst 2 rot2 ord v0 j).1.map nv ++ sp⟩ T (0, 0)) :: (_, Obj.cells ⟨[.int .i64 (ord : Int)]⟩ _ (0, 0)) :: R) (fun j => j ≤ ord) (fun j => ord - j) 0 (Nat.zero_le _) ⟨rfl, rfl, trivial⟩ (List.Sublist.refl _) ?_
  rintro j hj
  by_cases hlt : j < ord
  · obtain ⟨n, hn⟩ : ∃ n, n = ord - 1 - j := ⟨_, rfl⟩
    have hni : (ord : Int) - 1 - (j : Int) = (n : Int) := by omega
    have hbb : icmp .geq (n : Int) 0 = true := by simp only [icmp, decide_eq_true_eq]; omega
    have hn0 : 0 ≤ (n : Int) := by omega
    have hlen := pst_len (D := 2) (rot := rot2) (ord := ord) hlen0 j
    have hbel := pst_below (D := 2) (rot := rot2) (ord := ord) hbel0 j
    have hdd := pst_d (D := 2) (rot := rot2) (ord := ord) hlen0 (j + 1) hlt
    have hstep : pst 2 rot2 ord v0 (j + 1) = pstep 2 rot2 ord n (pst 2 rot2 ord v0 j) := by rw [hn]; rfl
    rw [hstep] at hdd
    generalize hst : pst 2 rot2 ord v0 j = st at hlen hbel hdd hstep
    obtain ⟨xs, d⟩ := st
    simp only [pstep] at hlen hbel hdd ⊢
    rw [hni]
    obtain ⟨x, y, rfl⟩ := len2 hlen
    have hsm := hbel.small (by omega)
    obtain ⟨r0, hr0⟩ : ∃ r, r = x >>> n &&& 1 := ⟨_, rfl⟩
    obtain ⟨r1, hr1⟩ : ∃ r, r = y >>> n &&& 1 := ⟨_, rfl⟩
    obtain ⟨e, hee⟩ : ∃ e, e = ungray [r0, r1] := ⟨_, rfl⟩
    have hbits : ungray (bitsAt n [x, y]) = e := by rw [hee]; simp only [hr0, hr1]; rfl
    rw [hbits] at hdd
    have he : e < 4 := by rw [hee]; exact ungray_lt [r0, r1]
    have hpw := Nat.two_pow_pos (2 * (ord - (j + 1)))
    have hmul : IntKind.i64.wrap (iarith .mul 2 (n : Int)) = ((2 * n : Nat) : Int) := wrap_mulN (i := 2) (s := n) (by omega)
    have hshl : IntKind.i64.wrap ((e : Int) * 2 ^ min (Int.toNat ((2 * n : Nat) : Int)) IntKind.i64.bits) = ((e * 2 ^ (2 * n) : Nat) : Int) := shl_nat (by omega) (by omega)
    have hadd : IntKind.i64.wrap (iarith .add (d : Int) ((e * 2 ^ (2 * n) : Nat) : Int)) = ((d + e * 2 ^ (2 * n) : Nat) : Int) := wrap_addN (by omega)
    have hs0 : ((x : Nat) : Int).fdiv (2 ^ min (Int.toNat (n : Int)) IntKind.i64.bits) = ((x >>> n : Nat) : Int) := shr_nat (a := x) (by omega)
    have ha0 : ibits .and .i64 ((x >>> n : Nat) : Int) 1 = ((r0 : Nat) : Int) := by rw [hr0]; exact ibits_and (b := 1) (shr_lt (hsm x (by simp))) (by decide)
    have hl0 : r0 < 2 := by rw [hr0]; exact bit1 _
    have hs1 : ((y : Nat) : Int).fdiv (2 ^ min (Int.toNat (n : Int)) IntKind.i64.bits) = ((y >>> n : Nat) : Int) := shr_nat (a := y) (by omega)
    have ha1 : ibits .and .i64 ((y >>> n : Nat) : Int) 1 = ((r1 : Nat) : Int) := by rw [hr1]; exact ibits_and (b := 1) (shr_lt (hsm y (by simp))) (by decide)
    have hl1 : r1 < 2 := by rw [hr1]; exact bit1 _
    have hq : IntKind.i64.wrap ((r1 : Int) * 2 ^ min (Int.toNat 1) IntKind.i64.bits) = ((r1 * 2 ^ 1 : Nat) : Int) := shl_nat (a := r1) (n := 1) (by omega) (by decide)
    have hx : ibits .xor .i64 (r1 : Int) (r0 : Int) = ((r1 ^^^ r0 : Nat) : Int) := ibits_xor (by omega) (by omega)
    have hxl := xor_bit r1 hl1 r0 hl0
    have hor : ibits .or .i64 ((r1 * 2 ^ 1 : Nat) : Int) ((r1 ^^^ r0 : Nat) : Int) = ((e : Nat) : Int) := by rw [hee, ← ungray2 r0 hl0 r1 hl1]; exact ibits_or (by omega) (by omega)
    repeat' first
      | (refine op_shr (v := (n : Int)) ?_; first | rw [hs0] | rw [hs1] | fail)
      | (refine op_shl (v := 1) ?_; rw [hq])
      | (refine op_ibits ?_; first | rw [ha0] | rw [ha1] | rw [hx] | rw [hor] | fail)
      | (refine op_iarith ?_; rw [hmul])
      | (refine op_shl (v := ((2 * n : Nat) : Int)) ?_; rw [hshl])
      | (refine op_iarith ?_; rw [hadd])
      | (refine op_mid k ?_; refine op_call ((rotD2 false _ k 2 cap [x, y] sp T ord e _ rfl rfl (by omega) (hbel.small (by omega)) he).mono ?_); rintro _ _ ⟨rfl, rfl⟩)
      | (first | refine tl_defer ?_ | refine tc_seq ?_ | refine tc_region ?_ | refine at_seq_normal ?_ | refine tl_nil ?_ | refine tl_cons ?_ | refine tl_cons_none ?_ | refine op_move ?_ | refine op_assign ?_ | refine op_fieldAddr ?_ | refine op_load ?_ | refine op_load_agg ?_ | refine op_indexC ?_ | refine op_indexAddr1 ?_ | refine op_indexAddr ?_ | refine op_icmp ?_ | refine op_fcmp ?_ | refine op_iarith ?_ | refine op_bcmp ?_ | refine op_unop_not ?_ | refine op_unop_neg_float ?_ | refine op_unop_neg_int ?_ | refine op_len_slice ?_ | refine op_pick_true ?_ | refine op_pick_false ?_ | refine op_pick_true' ?_ | refine op_pick_false' ?_ | refine op_build ?_ | refine op_extract ?_ | refine op_makeInterface ?_ | refine op_typeAssert ?_ | refine op_ptr_nil ?_ | refine op_nilCheck_ptr ?_ | refine op_nilCheck_meth ?_ | refine op_makeMeth ?_ | refine op_makeFunc ?_ | refine op_itof ?_ | refine op_itoi ?_ | refine op_ftoi ?_ | refine op_iquo ?_ | refine op_irem ?_ | refine op_ibits ?_ | refine op_slice_isnil ?_ | refine op_slice_notnil ?_ | refine op_imax ?_ | refine op_imin ?_ | refine op_shl ?_ | refine op_shr ?_ | (refine op_alloc ?_; intro _) | (refine op_box ?_; intro _) | (refine op_buildSlice ?_; intro _) | (refine op_farith ?_; intro _ _) | refine op_store0 ?_ | refine op_store1 ?_ | refine op_store2 ?_ | refine op_store3 ?_ | refine op_store4 ?_ | refine op_store5 ?_ | refine op_storeK rfl ?_ | refine op_loadK rfl ?_ | refine op_load_aggK rfl ?_ | refine tc_cond_t ?_ | refine tc_cond_f ?_ | refine tc_cond (fun _ => ?_) (fun _ => ?_) | refine tc_block ?_ | refine tc_skip ?_ | refine tc_ret ?_ | refine tc_exit ?_ | refine tc_label ?_ | refine at_seq_ret ?_ | refine at_seq_exit ?_ | refine at_block_normal ?_ | refine at_block_ret ?_ | refine at_block_exit_self ?_ | refine at_block_exit_ne ?_ | refine at_loop_ret ?_ | refine at_loop_exit ?_ | refine at_loop_goto ?_ | refine tl_guard_yes ?_ | refine tl_guard_no ?_ | refine tl_guard_yes' ?_ | refine tl_guard_no' ?_ | refine tl_guard_undef ?_ | refine tl_guard_split (fun _ => ?_) (fun _ => ?_))
      | fail
    have hnx : pst 2 rot2 ord v0 (j + 1) = (rot2 false (2 ^ ord - 1) e [x, y], d + e * 2 ^ (2 * n)) := by
      rw [hstep]; simp only [pstep, hbits]
    have hdec : IntKind.i64.wrap (iarith .sub (n : Int) 1) = (ord : Int) - 1 - ((j + 1 : Nat) : Int) := by
      show IntKind.i64.wrap ((n : Int) - 1) = _
      rw [wrap_in (by omega) (by omega)]; omega
    refine at_loopK (j + 1) hlt (by omega) ⟨(by rw [hnx]; exact rfl), geti rfl hdec, trivial⟩ (by repeat (first | exact trivial | refine ⟨rfl, ?_⟩)) ?_
    show List.Sublist ((k, Obj.cells ⟨(pst 2 rot2 ord v0 (j + 1)).1.map nv ++ sp⟩ T (0, 0)) :: _) _
    rw [hnx]
    exact List.Sublist.refl _
  · obtain rfl : j = ord := by omega
    have hni : (j : Int) - 1 - (j : Int) = -1 := by omega
    rw [hni]
    repeat'
      first
        | refine tl_defer ?_ | refine tc_seq ?_ | refine tc_region ?_ | refine at_seq_normal ?_ | refine tl_nil ?_ | refine tl_cons ?_ | refine tl_cons_none ?_ | refine op_move ?_
        | refine op_assign ?_ | refine op_fieldAddr ?_ | refine op_load ?_ | refine op_load_agg ?_ | refine op_indexC ?_ | refine op_indexAddr1 ?_ | refine op_indexAddr ?_ | refine op_icmp ?_
        | refine op_fcmp ?_ | refine op_iarith ?_ | refine op_bcmp ?_ | refine op_unop_not ?_ | refine op_unop_neg_float ?_ | refine op_unop_neg_int ?_ | refine op_len_slice ?_ | refine op_pick_true ?_
        | refine op_pick_false ?_ | refine op_pick_true' ?_ | refine op_pick_false' ?_ | refine op_build ?_ | refine op_extract ?_ | refine op_makeInterface ?_ | refine op_typeAssert ?_ | refine op_ptr_nil ?_
        | refine op_nilCheck_ptr ?_ | refine op_nilCheck_meth ?_ | refine op_makeMeth ?_ | refine op_makeFunc ?_ | refine op_itof ?_ | refine op_itoi ?_ | refine op_ftoi ?_ | refine op_iquo ?_
        | refine op_irem ?_ | refine op_ibits ?_ | refine op_slice_isnil ?_ | refine op_slice_notnil ?_ | refine op_imax ?_ | refine op_imin ?_ | refine op_shl ?_ | refine op_shr ?_
        | (refine op_alloc ?_; intro _) | (refine op_box ?_; intro _) | (refine op_buildSlice ?_; intro _) | (refine op_farith ?_; intro _ _) | refine op_store0 ?_ | refine op_store1 ?_ | refine op_store2 ?_ | refine op_store3 ?_
        | refine op_store4 ?_ | refine op_store5 ?_ | refine tc_cond_t ?_ | refine tc_cond_f ?_ | refine tc_cond (fun _ => ?_) (fun _ => ?_) | refine tc_block ?_ | refine tc_skip ?_ | refine tc_ret ?_
        | refine tc_exit ?_ | refine tc_label ?_ | refine at_seq_ret ?_ | refine at_seq_exit ?_ | refine at_block_normal ?_ | refine at_block_ret ?_ | refine at_block_exit_self ?_ | refine at_block_exit_ne ?_
        | refine at_loop_ret ?_ | refine at_loop_exit ?_ | refine at_loop_goto ?_ | refine tl_guard_yes ?_ | refine tl_guard_no ?_ | refine tl_guard_yes' ?_ | refine tl_guard_no' ?_ | refine tl_guard_undef ?_
        | refine tl_guard_split (fun _ => ?_) (fun _ => ?_)
    exact ret_tmp (hG := List.Sublist.cons _ (List.Sublist.cons _ (List.Sublist.refl _))) (hk := ⟨rfl, rfl⟩)
set_option maxHeartbeats 4000000 in
theorem pos3 (ord k cap : Nat) (T : TypeId) (v0 : List Nat) (sp : List Value) (R : Heap) (ho : ord ≤ 20) (hlen0 : v0.length = 3) (hbel0 : Below ord v0) :
    Does Tryd.prog 43 [.agg ⟨[.int .i64 (ord : Int)]⟩, .slice (some ⟨k, 0, none⟩) 3 cap] ((k, Obj.cells ⟨v0.map nv ++ sp⟩ T (0, 0)) :: R) fun w H' => w = .int .i64 (((pst 3 rot3 ord v0 ord).2 : Nat) : Int) ∧ H' = R := by
  have h63 : 2 ^ (3 * ord) < 2 ^ 63 := Nat.pow_lt_pow_right (by decide) (by omega)
  have hini : IntKind.i64.wrap (iarith .sub (ord : Int) 1) = (ord : Int) - 1 - ((0 : Nat) : Int) := by
    show IntKind.i64.wrap ((ord : Int) - 1) = _
    rw [wrap_in (by omega) (by omega)]; omega
  refine fn_enter 62 Tryd.func43 fun W => ?_
  repeat' first
    | (refine op_iarith ?_; rw [hini])
    | (first | refine tl_defer ?_ | refine tc_seq ?_ | refine tc_region ?_ | refine at_seq_normal ?_ | refine tl_nil ?_ | refine tl_cons ?_ | refine tl_cons_none ?_ | refine op_move ?_ | refine op_assign ?_ | refine op_fieldAddr ?_ | refine op_load ?_ | refine op_load_agg ?_ | refine op_indexC ?_ | refine op_indexAddr1 ?_ | refine op_indexAddr ?_ | refine op_icmp ?_ | refine op_fcmp ?_ | refine op_iarith ?_ | refine op_bcmp ?_ | refine op_unop_not ?_ | refine op_unop_neg_float ?_ | refine op_unop_neg_int ?_ | refine op_len_slice ?_ | refine op_pick_true ?_ | refine op_pick_false ?_ | refine op_pick_true' ?_ | refine op_pick_false' ?_ | refine op_build ?_ | refine op_extract ?_ | refine op_makeInterface ?_ | refine op_typeAssert ?_ | refine op_ptr_nil ?_ | refine op_nilCheck_ptr ?_ | refine op_nilCheck_meth ?_ | refine op_makeMeth ?_ | refine op_makeFunc ?_ | refine op_itof ?_ | refine op_itoi ?_ | refine op_ftoi ?_ | refine op_iquo ?_ | refine op_irem ?_ | refine op_ibits ?_ | refine op_slice_isnil ?_ | refine op_slice_notnil ?_ | refine op_imax ?_ | refine op_imin ?_ | refine op_shl ?_ | refine op_shr ?_ | (refine op_alloc ?_; intro _) | (refine op_box ?_; intro _) | (refine op_buildSlice ?_; intro _) | (refine op_farith ?_; intro _ _) | refine op_store0 ?_ | refine op_store1 ?_ | refine op_store2 ?_ | refine op_store3 ?_ | refine op_store4 ?_ | refine op_store5 ?_ | refine op_storeK rfl ?_ | refine op_loadK rfl ?_ | refine op_load_aggK rfl ?_ | refine tc_cond_t ?_ | refine tc_cond_f ?_ | refine tc_cond (fun _ => ?_) (fun _ => ?_) | refine tc_block ?_ | refine tc_skip ?_ | refine tc_ret ?_ | refine tc_exit ?_ | refine tc_label ?_ | refine at_seq_ret ?_ | refine at_seq_exit ?_ | refine at_block_normal ?_ | refine at_block_ret ?_ | refine at_block_exit_self ?_ | refine at_block_exit_ne ?_ | refine at_loop_ret ?_ | refine at_loop_exit ?_ | refine at_loop_goto ?_ | refine tl_guard_yes ?_ | refine tl_guard_no ?_ | refine tl_guard_yes' ?_ | refine tl_guard_no' ?_ | refine tl_guard_undef ?_ | refine tl_guard_split (fun _ => ?_) (fun _ => ?_))
    | fail
  refine tc_perm (List.Perm.swap _ _ _) ?_
  refine tc_loopK [(1, _), (2, _), (4, _)] (by repeat (first | exact trivial | refine ⟨rfl, ?_⟩)) (fun j : Nat => [(5, .int .i64 (((pst 3 rot3 ord v0 j).2 : Nat) : Int)), (6, .int .i64 ((ord : Int) - 1 - (j : Int)))]) (fun j => (k, Obj.cells ⟨(pst 3 rot3 ord v0 j).1.map nv ++ sp⟩ T (0, 0)) :: (_, Obj.cells ⟨[.int .i64 (ord : Int)]⟩ _ (0, 0)) :: R) (fun j => j ≤ ord) (fun j => ord - j) 0 (Nat.zero_le _) ⟨rfl, rfl, trivial⟩ (List.Sublist.refl _) ?_
  rintro j hj
  by_cases hlt : j < ord
  · obtain ⟨n, hn⟩ : ∃ n, n = ord - 1 - j := ⟨_, rfl⟩
    have hni : (ord : Int) - 1 - (j : Int) = (n : Int) := by omega
    have hbb : icmp .geq (n : Int) 0 = true := by simp only [icmp, decide_eq_true_eq]; omega
    have hn0 : 0 ≤ (n : Int) := by omega
    have hlen := pst_len (D := 3) (rot := rot3) (ord := ord) hlen0 j
    have hbel := pst_below (D := 3) (rot := rot3) (ord := ord) hbel0 j
    have hdd := pst_d (D := 3) (rot := rot3) (ord := ord) hlen0 (j + 1) hlt
    have hstep : pst 3 rot3 ord v0 (j + 1) = pstep 3 rot3 ord n (pst 3 rot3 ord v0 j) := by rw [hn]; rfl
    rw [hstep] at hdd
    generalize hst : pst 3 rot3 ord v0 j = st at hlen hbel hdd hstep
    obtain ⟨xs, d⟩ := st
    simp only [pstep] at hlen hbel hdd ⊢
    rw [hni]
    obtain ⟨x, y, z, rfl⟩ := len3 hlen
    have hsm := hbel.small (by omega)
    obtain ⟨r0, hr0⟩ : ∃ r, r = x >>> n &&& 1 := ⟨_, rfl⟩
    obtain ⟨r1, hr1⟩ : ∃ r, r = y >>> n &&& 1 := ⟨_, rfl⟩
    obtain ⟨r2, hr2⟩ : ∃ r, r = z >>> n &&& 1 := ⟨_, rfl⟩
    obtain ⟨e, hee⟩ : ∃ e, e = ungray [r0, r1, r2] := ⟨_, rfl⟩
    have hbits : ungray (bitsAt n [x, y, z]) = e := by rw [hee]; simp only [hr0, hr1, hr2]; rfl
    rw [hbits] at hdd
    have he : e < 8 := by rw [hee]; exact ungray_lt [r0, r1, r2]
    have hpw := Nat.two_pow_pos (3 * (ord - (j + 1)))
    have hmul : IntKind.i64.wrap (iarith .mul 3 (n : Int)) = ((3 * n : Nat) : Int) := wrap_mulN (i := 3) (s := n) (by omega)
    have hshl : IntKind.i64.wrap ((e : Int) * 2 ^ min (Int.toNat ((3 * n : Nat) : Int)) IntKind.i64.bits) = ((e * 2 ^ (3 * n) : Nat) : Int) := shl_nat (by omega) (by omega)
    have hadd : IntKind.i64.wrap (iarith .add (d : Int) ((e * 2 ^ (3 * n) : Nat) : Int)) = ((d + e * 2 ^ (3 * n) : Nat) : Int) := wrap_addN (by omega)
    have hs0 : ((x : Nat) : Int).fdiv (2 ^ min (Int.toNat (n : Int)) IntKind.i64.bits) = ((x >>> n : Nat) : Int) := shr_nat (a := x) (by omega)
    have ha0 : ibits .and .i64 ((x >>> n : Nat) : Int) 1 = ((r0 : Nat) : Int) := by rw [hr0]; exact ibits_and (b := 1) (shr_lt (hsm x (by simp))) (by decide)
    have hl0 : r0 < 2 := by rw [hr0]; exact bit1 _
    have hs1 : ((y : Nat) : Int).fdiv (2 ^ min (Int.toNat (n : Int)) IntKind.i64.bits) = ((y >>> n : Nat) : Int) := shr_nat (a := y) (by omega)
    have ha1 : ibits .and .i64 ((y >>> n : Nat) : Int) 1 = ((r1 : Nat) : Int) := by rw [hr1]; exact ibits_and (b := 1) (shr_lt (hsm y (by simp))) (by decide)
    have hl1 : r1 < 2 := by rw [hr1]; exact bit1 _
    have hs2 : ((z : Nat) : Int).fdiv (2 ^ min (Int.toNat (n : Int)) IntKind.i64.bits) = ((z >>> n : Nat) : Int) := shr_nat (a := z) (by omega)
    have ha2 : ibits .and .i64 ((z >>> n : Nat) : Int) 1 = ((r2 : Nat) : Int) := by rw [hr2]; exact ibits_and (b := 1) (shr_lt (hsm z (by simp))) (by decide)
    have hl2 : r2 < 2 := by rw [hr2]; exact bit1 _
    have hq2 : IntKind.i64.wrap ((r2 : Int) * 2 ^ min (Int.toNat 2) IntKind.i64.bits) = ((r2 * 2 ^ 2 : Nat) : Int) := shl_nat (a := r2) (n := 2) (by omega) (by decide)
    have hx : ibits .xor .i64 (r2 : Int) (r1 : Int) = ((r2 ^^^ r1 : Nat) : Int) := ibits_xor (by omega) (by omega)
    have hxl := xor_bit r2 hl2 r1 hl1
    have hxl2 := xor_bit _ hxl r0 hl0
    have hq1 : IntKind.i64.wrap (((r2 ^^^ r1 : Nat) : Int) * 2 ^ min (Int.toNat 1) IntKind.i64.bits) = (((r2 ^^^ r1) * 2 ^ 1 : Nat) : Int) := shl_nat (a := r2 ^^^ r1) (n := 1) (by omega) (by decide)
    have hx2 : ibits .xor .i64 ((r2 ^^^ r1 : Nat) : Int) (r0 : Int) = (((r2 ^^^ r1) ^^^ r0 : Nat) : Int) := ibits_xor (by omega) (by omega)
    have ho1 : ibits .or .i64 ((r2 * 2 ^ 2 : Nat) : Int) (((r2 ^^^ r1) * 2 ^ 1 : Nat) : Int) = ((r2 * 2 ^ 2 ||| (r2 ^^^ r1) * 2 ^ 1 : Nat) : Int) := ibits_or (by omega) (by omega)
    have hor : ibits .or .i64 ((r2 * 2 ^ 2 ||| (r2 ^^^ r1) * 2 ^ 1 : Nat) : Int) (((r2 ^^^ r1) ^^^ r0 : Nat) : Int) = ((e : Nat) : Int) := by rw [hee, ← ungray3 r0 hl0 r1 hl1 r2 hl2]; exact ibits_or (Nat.lt_trans (Nat.or_lt_two_pow (n := 3) (by omega) (by omega)) (by decide)) (by omega)
    repeat' first
      | (refine op_shr (v := (n : Int)) ?_; first | rw [hs0] | rw [hs1] | rw [hs2] | fail)
      | (refine op_shl (v := 2) ?_; rw [hq2])
      | (refine op_shl (v := 1) ?_; rw [hq1])
      | (refine op_ibits ?_; first | rw [ha0] | rw [ha1] | rw [ha2] | rw [hx] | rw [hx2] | rw [ho1] | rw [hor] | fail)
      | (refine op_iarith ?_; rw [hmul])
      | (refine op_shl (v := ((3 * n : Nat) : Int)) ?_; rw [hshl])
      | (refine op_iarith ?_; rw [hadd])
      | (refine op_mid k ?_; refine op_call ((rotD3 false _ k 3 cap [x, y, z] sp T ord e _ rfl rfl (by omega) (hbel.small (by omega)) he).mono ?_); rintro _ _ ⟨rfl, rfl⟩)
      | (first | refine tl_defer ?_ | refine tc_seq ?_ | refine tc_region ?_ | refine at_seq_normal ?_ | refine tl_nil ?_ | refine tl_cons ?_ | refine tl_cons_none ?_ | refine op_move ?_ | refine op_assign ?_ | refine op_fieldAddr ?_ | refine op_load ?_ | refine op_load_agg ?_ | refine op_indexC ?_ | refine op_indexAddr1 ?_ | refine op_indexAddr ?_ | refine op_icmp ?_ | refine op_fcmp ?_ | refine op_iarith ?_ | refine op_bcmp ?_ | refine op_unop_not ?_ | refine op_unop_neg_float ?_ | refine op_unop_neg_int ?_ | refine op_len_slice ?_ | refine op_pick_true ?_ | refine op_pick_false ?_ | refine op_pick_true' ?_ | refine op_pick_false' ?_ | refine op_build ?_ | refine op_extract ?_ | refine op_makeInterface ?_ | refine op_typeAssert ?_ | refine op_ptr_nil ?_ | refine op_nilCheck_ptr ?_ | refine op_nilCheck_meth ?_ | refine op_makeMeth ?_ | refine op_makeFunc ?_ | refine op_itof ?_ | refine op_itoi ?_ | refine op_ftoi ?_ | refine op_iquo ?_ | refine op_irem ?_ | refine op_ibits ?_ | refine op_slice_isnil ?_ | refine op_slice_notnil ?_ | refine op_imax ?_ | refine op_imin ?_ | refine op_shl ?_ | refine op_shr ?_ | (refine op_alloc ?_; intro _) | (refine op_box ?_; intro _) | (refine op_buildSlice ?_; intro _) | (refine op_farith ?_; intro _ _) | refine op_store0 ?_ | refine op_store1 ?_ | refine op_store2 ?_ | refine op_store3 ?_ | refine op_store4 ?_ | refine op_store5 ?_ | refine op_storeK rfl ?_ | refine op_loadK rfl ?_ | refine op_load_aggK rfl ?_ | refine tc_cond_t ?_ | refine tc_cond_f ?_ | refine tc_cond (fun _ => ?_) (fun _ => ?_) | refine tc_block ?_ | refine tc_skip ?_ | refine tc_ret ?_ | refine tc_exit ?_ | refine tc_label ?_ | refine at_seq_ret ?_ | refine at_seq_exit ?_ | refine at_block_normal ?_ | refine at_block_ret ?_ | refine at_block_exit_self ?_ | refine at_block_exit_ne ?_ | refine at_loop_ret ?_ | refine at_loop_exit ?_ | refine at_loop_goto ?_ | refine tl_guard_yes ?_ | refine tl_guard_no ?_ | refine tl_guard_yes' ?_ | refine tl_guard_no' ?_ | refine tl_guard_undef ?_ | refine tl_guard_split (fun _ => ?_) (fun _ => ?_))
      | fail
    have hnx : pst 3 rot3 ord v0 (j + 1) = (rot3 false (2 ^ ord - 1) e [x, y, z], d + e * 2 ^ (3 * n)) := by
      rw [hstep]; simp only [pstep, hbits]
    have hdec : IntKind.i64.wrap (iarith .sub (n : Int) 1) = (ord : Int) - 1 - ((j + 1 : Nat) : Int) := by
      show IntKind.i64.wrap ((n : Int) - 1) = _
      rw [wrap_in (by omega) (by omega)]; omega
    refine at_loopK (j + 1) hlt (by omega) ⟨(by rw [hnx]; exact rfl), geti rfl hdec, trivial⟩ (by repeat (first | exact trivial | refine ⟨rfl, ?_⟩)) ?_
    show List.Sublist ((k, Obj.cells ⟨(pst 3 rot3 ord v0 (j + 1)).1.map nv ++ sp⟩ T (0, 0)) :: _) _
    rw [hnx]
    exact List.Sublist.refl _
  · obtain rfl : j = ord := by omega
    have hni : (j : Int) - 1 - (j : Int) = -1 := by omega
    rw [hni]
    repeat'
      first
        | refine tl_defer ?_ | refine tc_seq ?_ | refine tc_region ?_ | refine at_seq_normal ?_ | refine tl_nil ?_ | refine tl_cons ?_ | refine tl_cons_none ?_ | refine op_move ?_
        | refine op_assign ?_ | refine op_fieldAddr ?_ | refine op_load ?_ | refine op_load_agg ?_ | refine op_indexC ?_ | refine op_indexAddr1 ?_ | refine op_indexAddr ?_ | refine op_icmp ?_
        | refine op_fcmp ?_ | refine op_iarith ?_ | refine op_bcmp ?_ | refine op_unop_not ?_ | refine op_unop_neg_float ?_ | refine op_unop_neg_int ?_ | refine op_len_slice ?_ | refine op_pick_true ?_
        | refine op_pick_false ?_ | refine op_pick_true' ?_ | refine op_pick_false' ?_ | refine op_build ?_ | refine op_extract ?_ | refine op_makeInterface ?_ | refine op_typeAssert ?_ | refine op_ptr_nil ?_
        | refine op_nilCheck_ptr ?_ | refine op_nilCheck_meth ?_ | refine op_makeMeth ?_ | refine op_makeFunc ?_ | refine op_itof ?_ | refine op_itoi ?_ | refine op_ftoi ?_ | refine op_iquo ?_
        | refine op_irem ?_ | refine op_ibits ?_ | refine op_slice_isnil ?_ | refine op_slice_notnil ?_ | refine op_imax ?_ | refine op_imin ?_ | refine op_shl ?_ | refine op_shr ?_
        | (refine op_alloc ?_; intro _) | (refine op_box ?_; intro _) | (refine op_buildSlice ?_; intro _) | (refine op_farith ?_; intro _ _) | refine op_store0 ?_ | refine op_store1 ?_ | refine op_store2 ?_ | refine op_store3 ?_
        | refine op_store4 ?_ | refine op_store5 ?_ | refine tc_cond_t ?_ | refine tc_cond_f ?_ | refine tc_cond (fun _ => ?_) (fun _ => ?_) | refine tc_block ?_ | refine tc_skip ?_ | refine tc_ret ?_
        | refine tc_exit ?_ | refine tc_label ?_ | refine at_seq_ret ?_ | refine at_seq_exit ?_ | refine at_block_normal ?_ | refine at_block_ret ?_ | refine at_block_exit_self ?_ | refine at_block_exit_ne ?_
        | refine at_loop_ret ?_ | refine at_loop_exit ?_ | refine at_loop_goto ?_ | refine tl_guard_yes ?_ | refine tl_guard_no ?_ | refine tl_guard_yes' ?_ | refine tl_guard_no' ?_ | refine tl_guard_undef ?_
        | refine tl_guard_split (fun _ => ?_) (fun _ => ?_)
    exact ret_tmp (hG := List.Sublist.cons _ (List.Sublist.cons _ (List.Sublist.refl _))) (hk := ⟨rfl, rfl⟩)
def pe4 (r0 r1 r2 r3 : Nat) : Nat → Nat
  | 0 => 0
  | 1 => gu r3 0
  | 2 => gu r2 (gu r3 0)
  | 3 => gu r1 (gu r2 (gu r3 0))
  | _ => gu r0 (gu r1 (gu r2 (gu r3 0)))
theorem pe4_lt (r0 r1 r2 r3 : Nat) : ∀ c, pe4 r0 r1 r2 r3 c < 16
  | 0 => (by decide : (0 : Nat) < 16)
  | 1 => Nat.lt_trans (gu_lt (b := r3) (e := 0) (k := 0) (by decide)) (by decide)
  | 2 => Nat.lt_trans (gu_lt (k := 1) (gu_lt (b := r3) (e := 0) (k := 0) (by decide))) (by decide)
  | 3 => Nat.lt_trans (gu_lt (k := 2) (gu_lt (k := 1) (gu_lt (b := r3) (e := 0) (k := 0) (by decide)))) (by decide)
  | c + 4 => gu_lt (k := 3) (gu_lt (k := 2) (gu_lt (k := 1) (gu_lt (b := r3) (e := 0) (k := 0) (by decide))))
set_option maxHeartbeats 4000000 in
theorem pos4 (ord k cap : Nat) (T : TypeId) (v0 : List Nat) (sp : List Value) (R : Heap) (ho : ord ≤ 15) (hlen0 : v0.length = 4) (hbel0 : Below ord v0) :
    Does Tryd.prog 44 [.agg ⟨[.int .i64 (ord : Int)]⟩, .slice (some ⟨k, 0, none⟩) 4 cap] ((k, Obj.cells ⟨v0.map nv ++ sp⟩ T (0, 0)) :: R) fun w H' => w = .int .i64 (((pst 4 rot4 ord v0 ord).2 : Nat) : Int) ∧ H' = R := by
  have h63 : 2 ^ (4 * ord) < 2 ^ 63 := Nat.pow_lt_pow_right (by decide) (by omega)
  have hini : IntKind.i64.wrap (iarith .sub (ord : Int) 1) = (ord : Int) - 1 - ((0 : Nat) : Int) := by
    show IntKind.i64.wrap ((ord : Int) - 1) = _
    rw [wrap_in (by omega) (by omega)]; omega
  refine fn_enter 48 Tryd.func44 fun W => ?_
  repeat' first
    | (refine op_iarith ?_; rw [hini])
    | (first | refine tl_defer ?_ | refine tc_seq ?_ | refine tc_region ?_ | refine at_seq_normal ?_ | refine tl_nil ?_ | refine tl_cons ?_ | refine tl_cons_none ?_ | refine op_move ?_ | refine op_assign ?_ | refine op_fieldAddr ?_ | refine op_load ?_ | refine op_load_agg ?_ | refine op_indexC ?_ | refine op_indexAddr1 ?_ | refine op_indexAddr ?_ | refine op_icmp ?_ | refine op_fcmp ?_ | refine op_iarith ?_ | refine op_bcmp ?_ | refine op_unop_not ?_ | refine op_unop_neg_float ?_ | refine op_unop_neg_int ?_ | refine op_len_slice ?_ | refine op_pick_true ?_ | refine op_pick_false ?_ | refine op_pick_true' ?_ | refine op_pick_false' ?_ | refine op_build ?_ | refine op_extract ?_ | refine op_makeInterface ?_ | refine op_typeAssert ?_ | refine op_ptr_nil ?_ | refine op_nilCheck_ptr ?_ | refine op_nilCheck_meth ?_ | refine op_makeMeth ?_ | refine op_makeFunc ?_ | refine op_itof ?_ | refine op_itoi ?_ | refine op_ftoi ?_ | refine op_iquo ?_ | refine op_irem ?_ | refine op_ibits ?_ | refine op_slice_isnil ?_ | refine op_slice_notnil ?_ | refine op_imax ?_ | refine op_imin ?_ | refine op_shl ?_ | refine op_shr ?_ | (refine op_alloc ?_; intro _) | (refine op_box ?_; intro _) | (refine op_buildSlice ?_; intro _) | (refine op_farith ?_; intro _ _) | refine op_store0 ?_ | refine op_store1 ?_ | refine op_store2 ?_ | refine op_store3 ?_ | refine op_store4 ?_ | refine op_store5 ?_ | refine op_storeK rfl ?_ | refine op_loadK rfl ?_ | refine op_load_aggK rfl ?_ | refine tc_cond_t ?_ | refine tc_cond_f ?_ | refine tc_cond (fun _ => ?_) (fun _ => ?_) | refine tc_block ?_ | refine tc_skip ?_ | refine tc_ret ?_ | refine tc_exit ?_ | refine tc_label ?_ | refine at_seq_ret ?_ | refine at_seq_exit ?_ | refine at_block_normal ?_ | refine at_block_ret ?_ | refine at_block_exit_self ?_ | refine at_block_exit_ne ?_ | refine at_loop_ret ?_ | refine at_loop_exit ?_ | refine at_loop_goto ?_ | refine tl_guard_yes ?_ | refine tl_guard_no ?_ | refine tl_guard_yes' ?_ | refine tl_guard_no' ?_ | refine tl_guard_undef ?_ | refine tl_guard_split (fun _ => ?_) (fun _ => ?_))
    | fail
  refine tc_perm (List.Perm.swap _ _ _) ?_
  refine tc_loopK [(1, _), (2, _), (4, _)] (by repeat (first | exact trivial | refine ⟨rfl, ?_⟩)) (fun j : Nat => [(5, .int .i64 (((pst 4 rot4 ord v0 j).2 : Nat) : Int)), (6, .int .i64 ((ord : Int) - 1 - (j : Int)))]) (fun j => (k, Obj.cells ⟨(pst 4 rot4 ord v0 j).1.map nv ++ sp⟩ T (0, 0)) :: (_, Obj.cells ⟨[.int .i64 (ord : Int)]⟩ _ (0, 0)) :: R) (fun j => j ≤ ord) (fun j => ord - j) 0 (Nat.zero_le _) ⟨rfl, rfl, trivial⟩ (List.Sublist.refl _) ?_
  rintro j hj
  by_cases hlt : j < ord
  · obtain ⟨n, hn⟩ : ∃ n, n = ord - 1 - j := ⟨_, rfl⟩
    have hni : (ord : Int) - 1 - (j : Int) = (n : Int) := by omega
    have hbb : icmp .geq (n : Int) 0 = true := by simp only [icmp, decide_eq_true_eq]; omega
    have hn0 : 0 ≤ (n : Int) := by omega
    have hlen := pst_len (D := 4) (rot := rot4) (ord := ord) hlen0 j
    have hbel := pst_below (D := 4) (rot := rot4) (ord := ord) hbel0 j
    have hdd := pst_d (D := 4) (rot := rot4) (ord := ord) hlen0 (j + 1) hlt
    have hstep : pst 4 rot4 ord v0 (j + 1) = pstep 4 rot4 ord n (pst 4 rot4 ord v0 j) := by rw [hn]; rfl
    rw [hstep] at hdd
    generalize hst : pst 4 rot4 ord v0 j = st at hlen hbel hdd hstep
    obtain ⟨xs, d⟩ := st
    simp only [pstep] at hlen hbel hdd ⊢
    rw [hni]
    obtain ⟨x, y, z, u, rfl⟩ := len4 hlen
    have hsm := hbel.small (by omega)
    obtain ⟨r0, hr0⟩ : ∃ r, r = x >>> n &&& 1 := ⟨_, rfl⟩
    obtain ⟨r1, hr1⟩ : ∃ r, r = y >>> n &&& 1 := ⟨_, rfl⟩
    obtain ⟨r2, hr2⟩ : ∃ r, r = z >>> n &&& 1 := ⟨_, rfl⟩
    obtain ⟨r3, hr3⟩ : ∃ r, r = u >>> n &&& 1 := ⟨_, rfl⟩
    obtain ⟨e, hee⟩ : ∃ e, e = ungray [r0, r1, r2, r3] := ⟨_, rfl⟩
    have hbits : ungray (bitsAt n [x, y, z, u]) = e := by rw [hee]; simp only [hr0, hr1, hr2, hr3]; rfl
    rw [hbits] at hdd
    have he : e < 16 := by rw [hee]; exact ungray_lt [r0, r1, r2, r3]
    have hpw := Nat.two_pow_pos (4 * (ord - (j + 1)))
    have hmul : IntKind.i64.wrap (iarith .mul 4 (n : Int)) = ((4 * n : Nat) : Int) := wrap_mulN (i := 4) (s := n) (by omega)
    have hshl : IntKind.i64.wrap ((e : Int) * 2 ^ min (Int.toNat ((4 * n : Nat) : Int)) IntKind.i64.bits) = ((e * 2 ^ (4 * n) : Nat) : Int) := shl_nat (by omega) (by omega)
    have hadd : IntKind.i64.wrap (iarith .add (d : Int) ((e * 2 ^ (4 * n) : Nat) : Int)) = ((d + e * 2 ^ (4 * n) : Nat) : Int) := wrap_addN (by omega)
    have hs0 : ((x : Nat) : Int).fdiv (2 ^ min (Int.toNat (n : Int)) IntKind.i64.bits) = ((x >>> n : Nat) : Int) := shr_nat (a := x) (by omega)
    have ha0 : ibits .and .i64 ((x >>> n : Nat) : Int) 1 = ((r0 : Nat) : Int) := by rw [hr0]; exact ibits_and (b := 1) (shr_lt (hsm x (by simp))) (by decide)
    have hl0 : r0 < 2 := by rw [hr0]; exact bit1 _
    have hs1 : ((y : Nat) : Int).fdiv (2 ^ min (Int.toNat (n : Int)) IntKind.i64.bits) = ((y >>> n : Nat) : Int) := shr_nat (a := y) (by omega)
    have ha1 : ibits .and .i64 ((y >>> n : Nat) : Int) 1 = ((r1 : Nat) : Int) := by rw [hr1]; exact ibits_and (b := 1) (shr_lt (hsm y (by simp))) (by decide)
    have hl1 : r1 < 2 := by rw [hr1]; exact bit1 _
    have hs2 : ((z : Nat) : Int).fdiv (2 ^ min (Int.toNat (n : Int)) IntKind.i64.bits) = ((z >>> n : Nat) : Int) := shr_nat (a := z) (by omega)
    have ha2 : ibits .and .i64 ((z >>> n : Nat) : Int) 1 = ((r2 : Nat) : Int) := by rw [hr2]; exact ibits_and (b := 1) (shr_lt (hsm z (by simp))) (by decide)
    have hl2 : r2 < 2 := by rw [hr2]; exact bit1 _
    have hs3 : ((u : Nat) : Int).fdiv (2 ^ min (Int.toNat (n : Int)) IntKind.i64.bits) = ((u >>> n : Nat) : Int) := shr_nat (a := u) (by omega)
    have ha3 : ibits .and .i64 ((u >>> n : Nat) : Int) 1 = ((r3 : Nat) : Int) := by rw [hr3]; exact ibits_and (b := 1) (shr_lt (hsm u (by simp))) (by decide)
    have hl3 : r3 < 2 := by rw [hr3]; exact bit1 _
    repeat' first
      | (first | refine tl_defer ?_ | refine tc_seq ?_ | refine tc_region ?_ | refine at_seq_normal ?_ | refine tl_nil ?_ | refine tl_cons ?_ | refine tl_cons_none ?_ | refine op_move ?_ | refine op_assign ?_ | refine op_fieldAddr ?_ | refine op_load ?_ | refine op_load_agg ?_ | refine op_indexC ?_ | refine op_indexAddr1 ?_ | refine op_indexAddr ?_ | refine op_icmp ?_ | refine op_fcmp ?_ | refine op_iarith ?_ | refine op_bcmp ?_ | refine op_unop_not ?_ | refine op_unop_neg_float ?_ | refine op_unop_neg_int ?_ | refine op_len_slice ?_ | refine op_pick_true ?_ | refine op_pick_false ?_ | refine op_pick_true' ?_ | refine op_pick_false' ?_ | refine op_build ?_ | refine op_extract ?_ | refine op_makeInterface ?_ | refine op_typeAssert ?_ | refine op_ptr_nil ?_ | refine op_nilCheck_ptr ?_ | refine op_nilCheck_meth ?_ | refine op_makeMeth ?_ | refine op_makeFunc ?_ | refine op_itof ?_ | refine op_itoi ?_ | refine op_ftoi ?_ | refine op_iquo ?_ | refine op_irem ?_ | refine op_ibits ?_ | refine op_slice_isnil ?_ | refine op_slice_notnil ?_ | refine op_imax ?_ | refine op_imin ?_ | refine op_shl ?_ | refine op_shr ?_ | (refine op_alloc ?_; intro _) | (refine op_box ?_; intro _) | (refine op_buildSlice ?_; intro _) | (refine op_farith ?_; intro _ _) | refine op_store0 ?_ | refine op_store1 ?_ | refine op_store2 ?_ | refine op_store3 ?_ | refine op_store4 ?_ | refine op_store5 ?_ | refine op_storeK rfl ?_ | refine op_loadK rfl ?_ | refine op_load_aggK rfl ?_ | refine tc_cond_t ?_ | refine tc_cond_f ?_ | refine tc_cond (fun _ => ?_) (fun _ => ?_) | refine tc_block ?_ | refine tc_skip ?_ | refine tc_ret ?_ | refine tc_exit ?_ | refine tc_label ?_ | refine at_seq_ret ?_ | refine at_seq_exit ?_ | refine at_block_normal ?_ | refine at_block_ret ?_ | refine at_block_exit_self ?_ | refine at_block_exit_ne ?_ | refine at_loop_ret ?_ | refine at_loop_exit ?_ | refine at_loop_goto ?_ | refine tl_guard_yes ?_ | refine tl_guard_no ?_ | refine tl_guard_yes' ?_ | refine tl_guard_no' ?_ | refine tl_guard_undef ?_ | refine tl_guard_split (fun _ => ?_) (fun _ => ?_))
      | fail
    refine tc_loopK [(1, _), (2, _), (4, _), (5, _), (6, _), (13, _), (14, _)] (by repeat (first | exact trivial | refine ⟨rfl, ?_⟩)) (fun i : Nat => [(7, .int .i64 ((pe4 r0 r1 r2 r3 i : Nat) : Int)), (8, .int .i64 (3 - (i : Int)))]) (fun i => (k, Obj.cells ⟨[x, y, z, u].map nv ++ sp⟩ T (0, 0)) :: (_, Obj.cells ⟨[.int .i64 (ord : Int)]⟩ _ (0, 0)) :: R) (fun i => i ≤ 4) (fun i => 4 - i) 0 (Nat.zero_le _) ⟨rfl, rfl, trivial⟩ (List.Sublist.refl _) ?_
    rintro i hi
    rcases (show i = 0 ∨ i = 1 ∨ i = 2 ∨ i = 3 ∨ i = 4 by omega) with rfl | rfl | rfl | rfl | rfl
    · have hpl := pe4_lt r0 r1 r2 r3 0
      have hq : IntKind.i64.wrap (((pe4 r0 r1 r2 r3 0 : Nat) : Int) * 2 ^ min (Int.toNat 1) IntKind.i64.bits) = ((pe4 r0 r1 r2 r3 0 * 2 ^ 1 : Nat) : Int) := shl_nat (n := 1) (by omega) (by decide)
      have hx : ibits .xor .i64 ((pe4 r0 r1 r2 r3 0 : Nat) : Int) (r3 : Int) = ((pe4 r0 r1 r2 r3 0 ^^^ r3 : Nat) : Int) := ibits_xor (by omega) (by omega)
      have hxl : pe4 r0 r1 r2 r3 0 ^^^ r3 < 9223372036854775808 := Nat.xor_lt_two_pow (n := 63) (by omega) (by omega)
      have hy : ibits .and .i64 ((pe4 r0 r1 r2 r3 0 ^^^ r3 : Nat) : Int) 1 = (((pe4 r0 r1 r2 r3 0 ^^^ r3) &&& 1 : Nat) : Int) := ibits_and (b := 1) hxl (by decide)
      have hyl := bit1 (pe4 r0 r1 r2 r3 0 ^^^ r3)
      have hor : ibits .or .i64 ((pe4 r0 r1 r2 r3 0 * 2 ^ 1 : Nat) : Int) (((pe4 r0 r1 r2 r3 0 ^^^ r3) &&& 1 : Nat) : Int) = ((pe4 r0 r1 r2 r3 1 : Nat) : Int) := ibits_or (by omega) (by omega)
      have hidx : (3 : Int) - ((0 : Nat) : Int) = ((3 : Nat) : Int) := by decide
      rw [hidx]
      repeat' first
        | refine op_indexAddr1 (j := 3) ?_ (hj := by decide)
        | (refine op_shr (v := (n : Int)) ?_; rw [hs3])
        | (refine op_shl (v := 1) ?_; rw [hq])
        | (refine op_ibits ?_; first | rw [ha3] | rw [hx] | rw [hy] | rw [hor] | fail)
        | (first | refine tl_defer ?_ | refine tc_seq ?_ | refine tc_region ?_ | refine at_seq_normal ?_ | refine tl_nil ?_ | refine tl_cons ?_ | refine tl_cons_none ?_ | refine op_move ?_ | refine op_assign ?_ | refine op_fieldAddr ?_ | refine op_load ?_ | refine op_load_agg ?_ | refine op_indexC ?_ | refine op_indexAddr1 ?_ | refine op_indexAddr ?_ | refine op_icmp ?_ | refine op_fcmp ?_ | refine op_iarith ?_ | refine op_bcmp ?_ | refine op_unop_not ?_ | refine op_unop_neg_float ?_ | refine op_unop_neg_int ?_ | refine op_len_slice ?_ | refine op_pick_true ?_ | refine op_pick_false ?_ | refine op_pick_true' ?_ | refine op_pick_false' ?_ | refine op_build ?_ | refine op_extract ?_ | refine op_makeInterface ?_ | refine op_typeAssert ?_ | refine op_ptr_nil ?_ | refine op_nilCheck_ptr ?_ | refine op_nilCheck_meth ?_ | refine op_makeMeth ?_ | refine op_makeFunc ?_ | refine op_itof ?_ | refine op_itoi ?_ | refine op_ftoi ?_ | refine op_iquo ?_ | refine op_irem ?_ | refine op_ibits ?_ | refine op_slice_isnil ?_ | refine op_slice_notnil ?_ | refine op_imax ?_ | refine op_imin ?_ | refine op_shl ?_ | refine op_shr ?_ | (refine op_alloc ?_; intro _) | (refine op_box ?_; intro _) | (refine op_buildSlice ?_; intro _) | (refine op_farith ?_; intro _ _) | refine op_store0 ?_ | refine op_store1 ?_ | refine op_store2 ?_ | refine op_store3 ?_ | refine op_store4 ?_ | refine op_store5 ?_ | refine op_storeK rfl ?_ | refine op_loadK rfl ?_ | refine op_load_aggK rfl ?_ | refine tc_cond_t ?_ | refine tc_cond_f ?_ | refine tc_cond (fun _ => ?_) (fun _ => ?_) | refine tc_block ?_ | refine tc_skip ?_ | refine tc_ret ?_ | refine tc_exit ?_ | refine tc_label ?_ | refine at_seq_ret ?_ | refine at_seq_exit ?_ | refine at_block_normal ?_ | refine at_block_ret ?_ | refine at_block_exit_self ?_ | refine at_block_exit_ne ?_ | refine at_loop_ret ?_ | refine at_loop_exit ?_ | refine at_loop_goto ?_ | refine tl_guard_yes ?_ | refine tl_guard_no ?_ | refine tl_guard_yes' ?_ | refine tl_guard_no' ?_ | refine tl_guard_undef ?_ | refine tl_guard_split (fun _ => ?_) (fun _ => ?_))
        | fail
      exact at_loopK 1 (by decide) (by decide) ⟨rfl, geti rfl (by decide), trivial⟩ (by repeat (first | exact trivial | refine ⟨rfl, ?_⟩)) (by (repeat (first | exact List.Sublist.refl _ | apply List.Sublist.cons_cons | apply List.Sublist.cons | refine List.Sublist.trans ?_ (List.sublist_append_right _ _))))
    · have hpl := pe4_lt r0 r1 r2 r3 1
      have hq : IntKind.i64.wrap (((pe4 r0 r1 r2 r3 1 : Nat) : Int) * 2 ^ min (Int.toNat 1) IntKind.i64.bits) = ((pe4 r0 r1 r2 r3 1 * 2 ^ 1 : Nat) : Int) := shl_nat (n := 1) (by omega) (by decide)
      have hx : ibits .xor .i64 ((pe4 r0 r1 r2 r3 1 : Nat) : Int) (r2 : Int) = ((pe4 r0 r1 r2 r3 1 ^^^ r2 : Nat) : Int) := ibits_xor (by omega) (by omega)
      have hxl : pe4 r0 r1 r2 r3 1 ^^^ r2 < 9223372036854775808 := Nat.xor_lt_two_pow (n := 63) (by omega) (by omega)
      have hy : ibits .and .i64 ((pe4 r0 r1 r2 r3 1 ^^^ r2 : Nat) : Int) 1 = (((pe4 r0 r1 r2 r3 1 ^^^ r2) &&& 1 : Nat) : Int) := ibits_and (b := 1) hxl (by decide)
      have hyl := bit1 (pe4 r0 r1 r2 r3 1 ^^^ r2)
      have hor : ibits .or .i64 ((pe4 r0 r1 r2 r3 1 * 2 ^ 1 : Nat) : Int) (((pe4 r0 r1 r2 r3 1 ^^^ r2) &&& 1 : Nat) : Int) = ((pe4 r0 r1 r2 r3 2 : Nat) : Int) := ibits_or (by omega) (by omega)
      have hidx : (3 : Int) - ((1 : Nat) : Int) = ((2 : Nat) : Int) := by decide
      rw [hidx]
      repeat' first
        | refine op_indexAddr1 (j := 2) ?_ (hj := by decide)
        | (refine op_shr (v := (n : Int)) ?_; rw [hs2])
        | (refine op_shl (v := 1) ?_; rw [hq])
        | (refine op_ibits ?_; first | rw [ha2] | rw [hx] | rw [hy] | rw [hor] | fail)
        | (first | refine tl_defer ?_ | refine tc_seq ?_ | refine tc_region ?_ | refine at_seq_normal ?_ | refine tl_nil ?_ | refine tl_cons ?_ | refine tl_cons_none ?_ | refine op_move ?_ | refine op_assign ?_ | refine op_fieldAddr ?_ | refine op_load ?_ | refine op_load_agg ?_ | refine op_indexC ?_ | refine op_indexAddr1 ?_ | refine op_indexAddr ?_ | refine op_icmp ?_ | refine op_fcmp ?_ | refine op_iarith ?_ | refine op_bcmp ?_ | refine op_unop_not ?_ | refine op_unop_neg_float ?_ | refine op_unop_neg_int ?_ | refine op_len_slice ?_ | refine op_pick_true ?_ | refine op_pick_false ?_ | refine op_pick_true' ?_ | refine op_pick_false' ?_ | refine op_build ?_ | refine op_extract ?_ | refine op_makeInterface ?_ | refine op_typeAssert ?_ | refine op_ptr_nil ?_ | refine op_nilCheck_ptr ?_ | refine op_nilCheck_meth ?_ | refine op_makeMeth ?_ | refine op_makeFunc ?_ | refine op_itof ?_ | refine op_itoi ?_ | refine op_ftoi ?_ | refine op_iquo ?_ | refine op_irem ?_ | refine op_ibits ?_ | refine op_slice_isnil ?_ | refine op_slice_notnil ?_ | refine op_imax ?_ | refine op_imin ?_ | refine op_shl ?_ | refine op_shr ?_ | (refine op_alloc ?_; intro _) | (refine op_box ?_; intro _) | (refine op_buildSlice ?_; intro _) | (refine op_farith ?_; intro _ _) | refine op_store0 ?_ | refine op_store1 ?_ | refine op_store2 ?_ | refine op_store3 ?_ | refine op_store4 ?_ | refine op_store5 ?_ | refine op_storeK rfl ?_ | refine op_loadK rfl ?_ | refine op_load_aggK rfl ?_ | refine tc_cond_t ?_ | refine tc_cond_f ?_ | refine tc_cond (fun _ => ?_) (fun _ => ?_) | refine tc_block ?_ | refine tc_skip ?_ | refine tc_ret ?_ | refine tc_exit ?_ | refine tc_label ?_ | refine at_seq_ret ?_ | refine at_seq_exit ?_ | refine at_block_normal ?_ | refine at_block_ret ?_ | refine at_block_exit_self ?_ | refine at_block_exit_ne ?_ | refine at_loop_ret ?_ | refine at_loop_exit ?_ | refine at_loop_goto ?_ | refine tl_guard_yes ?_ | refine tl_guard_no ?_ | refine tl_guard_yes' ?_ | refine tl_guard_no' ?_ | refine tl_guard_undef ?_ | refine tl_guard_split (fun _ => ?_) (fun _ => ?_))
        | fail
      exact at_loopK 2 (by decide) (by decide) ⟨rfl, geti rfl (by decide), trivial⟩ (by repeat (first | exact trivial | refine ⟨rfl, ?_⟩)) (by (repeat (first | exact List.Sublist.refl _ | apply List.Sublist.cons_cons | apply List.Sublist.cons | refine List.Sublist.trans ?_ (List.sublist_append_right _ _))))
    · have hpl := pe4_lt r0 r1 r2 r3 2
      have hq : IntKind.i64.wrap (((pe4 r0 r1 r2 r3 2 : Nat) : Int) * 2 ^ min (Int.toNat 1) IntKind.i64.bits) = ((pe4 r0 r1 r2 r3 2 * 2 ^ 1 : Nat) : Int) := shl_nat (n := 1) (by omega) (by decide)
      have hx : ibits .xor .i64 ((pe4 r0 r1 r2 r3 2 : Nat) : Int) (r1 : Int) = ((pe4 r0 r1 r2 r3 2 ^^^ r1 : Nat) : Int) := ibits_xor (by omega) (by omega)
      have hxl : pe4 r0 r1 r2 r3 2 ^^^ r1 < 9223372036854775808 := Nat.xor_lt_two_pow (n := 63) (by omega) (by omega)
      have hy : ibits .and .i64 ((pe4 r0 r1 r2 r3 2 ^^^ r1 : Nat) : Int) 1 = (((pe4 r0 r1 r2 r3 2 ^^^ r1) &&& 1 : Nat) : Int) := ibits_and (b := 1) hxl (by decide)
      have hyl := bit1 (pe4 r0 r1 r2 r3 2 ^^^ r1)
      have hor : ibits .or .i64 ((pe4 r0 r1 r2 r3 2 * 2 ^ 1 : Nat) : Int) (((pe4 r0 r1 r2 r3 2 ^^^ r1) &&& 1 : Nat) : Int) = ((pe4 r0 r1 r2 r3 3 : Nat) : Int) := ibits_or (by omega) (by omega)
      have hidx : (3 : Int) - ((2 : Nat) : Int) = ((1 : Nat) : Int) := by decide
      rw [hidx]
      repeat' first
        | refine op_indexAddr1 (j := 1) ?_ (hj := by decide)
        | (refine op_shr (v := (n : Int)) ?_; rw [hs1])
        | (refine op_shl (v := 1) ?_; rw [hq])
        | (refine op_ibits ?_; first | rw [ha1] | rw [hx] | rw [hy] | rw [hor] | fail)
        | (first | refine tl_defer ?_ | refine tc_seq ?_ | refine tc_region ?_ | refine at_seq_normal ?_ | refine tl_nil ?_ | refine tl_cons ?_ | refine tl_cons_none ?_ | refine op_move ?_ | refine op_assign ?_ | refine op_fieldAddr ?_ | refine op_load ?_ | refine op_load_agg ?_ | refine op_indexC ?_ | refine op_indexAddr1 ?_ | refine op_indexAddr ?_ | refine op_icmp ?_ | refine op_fcmp ?_ | refine op_iarith ?_ | refine op_bcmp ?_ | refine op_unop_not ?_ | refine op_unop_neg_float ?_ | refine op_unop_neg_int ?_ | refine op_len_slice ?_ | refine op_pick_true ?_ | refine op_pick_false ?_ | refine op_pick_true' ?_ | refine op_pick_false' ?_ | refine op_build ?_ | refine op_extract ?_ | refine op_makeInterface ?_ | refine op_typeAssert ?_ | refine op_ptr_nil ?_ | refine op_nilCheck_ptr ?_ | refine op_nilCheck_meth ?_ | refine op_makeMeth ?_ | refine op_makeFunc ?_ | refine op_itof ?_ | refine op_itoi ?_ | refine op_ftoi ?_ | refine op_iquo ?_ | refine op_irem ?_ | refine op_ibits ?_ | refine op_slice_isnil ?_ | refine op_slice_notnil ?_ | refine op_imax ?_ | refine op_imin ?_ | refine op_shl ?_ | refine op_shr ?_ | (refine op_alloc ?_; intro _) | (refine op_box ?_; intro _) | (refine op_buildSlice ?_; intro _) | (refine op_farith ?_; intro _ _) | refine op_store0 ?_ | refine op_store1 ?_ | refine op_store2 ?_ | refine op_store3 ?_ | refine op_store4 ?_ | refine op_store5 ?_ | refine op_storeK rfl ?_ | refine op_loadK rfl ?_ | refine op_load_aggK rfl ?_ | refine tc_cond_t ?_ | refine tc_cond_f ?_ | refine tc_cond (fun _ => ?_) (fun _ => ?_) | refine tc_block ?_ | refine tc_skip ?_ | refine tc_ret ?_ | refine tc_exit ?_ | refine tc_label ?_ | refine at_seq_ret ?_ | refine at_seq_exit ?_ | refine at_block_normal ?_ | refine at_block_ret ?_ | refine at_block_exit_self ?_ | refine at_block_exit_ne ?_ | refine at_loop_ret ?_ | refine at_loop_exit ?_ | refine at_loop_goto ?_ | refine tl_guard_yes ?_ | refine tl_guard_no ?_ | refine tl_guard_yes' ?_ | refine tl_guard_no' ?_ | refine tl_guard_undef ?_ | refine tl_guard_split (fun _ => ?_) (fun _ => ?_))
        | fail
      exact at_loopK 3 (by decide) (by decide) ⟨rfl, geti rfl (by decide), trivial⟩ (by repeat (first | exact trivial | refine ⟨rfl, ?_⟩)) (by (repeat (first | exact List.Sublist.refl _ | apply List.Sublist.cons_cons | apply List.Sublist.cons | refine List.Sublist.trans ?_ (List.sublist_append_right _ _))))
    · have hpl := pe4_lt r0 r1 r2 r3 3
      have hq : IntKind.i64.wrap (((pe4 r0 r1 r2 r3 3 : Nat) : Int) * 2 ^ min (Int.toNat 1) IntKind.i64.bits) = ((pe4 r0 r1 r2 r3 3 * 2 ^ 1 : Nat) : Int) := shl_nat (n := 1) (by omega) (by decide)
      have hx : ibits .xor .i64 ((pe4 r0 r1 r2 r3 3 : Nat) : Int) (r0 : Int) = ((pe4 r0 r1 r2 r3 3 ^^^ r0 : Nat) : Int) := ibits_xor (by omega) (by omega)
      have hxl : pe4 r0 r1 r2 r3 3 ^^^ r0 < 9223372036854775808 := Nat.xor_lt_two_pow (n := 63) (by omega) (by omega)
      have hy : ibits .and .i64 ((pe4 r0 r1 r2 r3 3 ^^^ r0 : Nat) : Int) 1 = (((pe4 r0 r1 r2 r3 3 ^^^ r0) &&& 1 : Nat) : Int) := ibits_and (b := 1) hxl (by decide)
      have hyl := bit1 (pe4 r0 r1 r2 r3 3 ^^^ r0)
      have hor : ibits .or .i64 ((pe4 r0 r1 r2 r3 3 * 2 ^ 1 : Nat) : Int) (((pe4 r0 r1 r2 r3 3 ^^^ r0) &&& 1 : Nat) : Int) = ((pe4 r0 r1 r2 r3 4 : Nat) : Int) := ibits_or (by omega) (by omega)
      have hidx : (3 : Int) - ((3 : Nat) : Int) = ((0 : Nat) : Int) := by decide
      rw [hidx]
      repeat' first
        | refine op_indexAddr1 (j := 0) ?_ (hj := by decide)
        | (refine op_shr (v := (n : Int)) ?_; rw [hs0])
        | (refine op_shl (v := 1) ?_; rw [hq])
        | (refine op_ibits ?_; first | rw [ha0] | rw [hx] | rw [hy] | rw [hor] | fail)
        | (first | refine tl_defer ?_ | refine tc_seq ?_ | refine tc_region ?_ | refine at_seq_normal ?_ | refine tl_nil ?_ | refine tl_cons ?_ | refine tl_cons_none ?_ | refine op_move ?_ | refine op_assign ?_ | refine op_fieldAddr ?_ | refine op_load ?_ | refine op_load_agg ?_ | refine op_indexC ?_ | refine op_indexAddr1 ?_ | refine op_indexAddr ?_ | refine op_icmp ?_ | refine op_fcmp ?_ | refine op_iarith ?_ | refine op_bcmp ?_ | refine op_unop_not ?_ | refine op_unop_neg_float ?_ | refine op_unop_neg_int ?_ | refine op_len_slice ?_ | refine op_pick_true ?_ | refine op_pick_false ?_ | refine op_pick_true' ?_ | refine op_pick_false' ?_ | refine op_build ?_ | refine op_extract ?_ | refine op_makeInterface ?_ | refine op_typeAssert ?_ | refine op_ptr_nil ?_ | refine op_nilCheck_ptr ?_ | refine op_nilCheck_meth ?_ | refine op_makeMeth ?_ | refine op_makeFunc ?_ | refine op_itof ?_ | refine op_itoi ?_ | refine op_ftoi ?_ | refine op_iquo ?_ | refine op_irem ?_ | refine op_ibits ?_ | refine op_slice_isnil ?_ | refine op_slice_notnil ?_ | refine op_imax ?_ | refine op_imin ?_ | refine op_shl ?_ | refine op_shr ?_ | (refine op_alloc ?_; intro _) | (refine op_box ?_; intro _) | (refine op_buildSlice ?_; intro _) | (refine op_farith ?_; intro _ _) | refine op_store0 ?_ | refine op_store1 ?_ | refine op_store2 ?_ | refine op_store3 ?_ | refine op_store4 ?_ | refine op_store5 ?_ | refine op_storeK rfl ?_ | refine op_loadK rfl ?_ | refine op_load_aggK rfl ?_ | refine tc_cond_t ?_ | refine tc_cond_f ?_ | refine tc_cond (fun _ => ?_) (fun _ => ?_) | refine tc_block ?_ | refine tc_skip ?_ | refine tc_ret ?_ | refine tc_exit ?_ | refine tc_label ?_ | refine at_seq_ret ?_ | refine at_seq_exit ?_ | refine at_block_normal ?_ | refine at_block_ret ?_ | refine at_block_exit_self ?_ | refine at_block_exit_ne ?_ | refine at_loop_ret ?_ | refine at_loop_exit ?_ | refine at_loop_goto ?_ | refine tl_guard_yes ?_ | refine tl_guard_no ?_ | refine tl_guard_yes' ?_ | refine tl_guard_no' ?_ | refine tl_guard_undef ?_ | refine tl_guard_split (fun _ => ?_) (fun _ => ?_))
        | fail
      exact at_loopK 4 (by decide) (by decide) ⟨rfl, geti rfl (by decide), trivial⟩ (by repeat (first | exact trivial | refine ⟨rfl, ?_⟩)) (by (repeat (first | exact List.Sublist.refl _ | apply List.Sublist.cons_cons | apply List.Sublist.cons | refine List.Sublist.trans ?_ (List.sublist_append_right _ _))))
    have hpe : pe4 r0 r1 r2 r3 4 = e := by rw [hee]; rfl
    rw [hpe]
    repeat' first
      | (refine op_iarith ?_; rw [hmul])
      | (refine op_shl (v := ((4 * n : Nat) : Int)) ?_; rw [hshl])
      | (refine op_iarith ?_; rw [hadd])
      | (refine op_mid k ?_; refine op_call ((rotD4 false _ k 4 cap [x, y, z, u] sp T ord e _ rfl rfl (by omega) (hbel.small (by omega)) he).mono ?_); rintro _ _ ⟨rfl, rfl⟩)
      | (first | refine tl_defer ?_ | refine tc_seq ?_ | refine tc_region ?_ | refine at_seq_normal ?_ | refine tl_nil ?_ | refine tl_cons ?_ | refine tl_cons_none ?_ | refine op_move ?_ | refine op_assign ?_ | refine op_fieldAddr ?_ | refine op_load ?_ | refine op_load_agg ?_ | refine op_indexC ?_ | refine op_indexAddr1 ?_ | refine op_indexAddr ?_ | refine op_icmp ?_ | refine op_fcmp ?_ | refine op_iarith ?_ | refine op_bcmp ?_ | refine op_unop_not ?_ | refine op_unop_neg_float ?_ | refine op_unop_neg_int ?_ | refine op_len_slice ?_ | refine op_pick_true ?_ | refine op_pick_false ?_ | refine op_pick_true' ?_ | refine op_pick_false' ?_ | refine op_build ?_ | refine op_extract ?_ | refine op_makeInterface ?_ | refine op_typeAssert ?_ | refine op_ptr_nil ?_ | refine op_nilCheck_ptr ?_ | refine op_nilCheck_meth ?_ | refine op_makeMeth ?_ | refine op_makeFunc ?_ | refine op_itof ?_ | refine op_itoi ?_ | refine op_ftoi ?_ | refine op_iquo ?_ | refine op_irem ?_ | refine op_ibits ?_ | refine op_slice_isnil ?_ | refine op_slice_notnil ?_ | refine op_imax ?_ | refine op_imin ?_ | refine op_shl ?_ | refine op_shr ?_ | (refine op_alloc ?_; intro _) | (refine op_box ?_; intro _) | (refine op_buildSlice ?_; intro _) | (refine op_farith ?_; intro _ _) | refine op_store0 ?_ | refine op_store1 ?_ | refine op_store2 ?_ | refine op_store3 ?_ | refine op_store4 ?_ | refine op_store5 ?_ | refine op_storeK rfl ?_ | refine op_loadK rfl ?_ | refine op_load_aggK rfl ?_ | refine tc_cond_t ?_ | refine tc_cond_f ?_ | refine tc_cond (fun _ => ?_) (fun _ => ?_) | refine tc_block ?_ | refine tc_skip ?_ | refine tc_ret ?_ | refine tc_exit ?_ | refine tc_label ?_ | refine at_seq_ret ?_ | refine at_seq_exit ?_ | refine at_block_normal ?_ | refine at_block_ret ?_ | refine at_block_exit_self ?_ | refine at_block_exit_ne ?_ | refine at_loop_ret ?_ | refine at_loop_exit ?_ | refine at_loop_goto ?_ | refine tl_guard_yes ?_ | refine tl_guard_no ?_ | refine tl_guard_yes' ?_ | refine tl_guard_no' ?_ | refine tl_guard_undef ?_ | refine tl_guard_split (fun _ => ?_) (fun _ => ?_))
      | fail
    have hnx : pst 4 rot4 ord v0 (j + 1) = (rot4 false (2 ^ ord - 1) e [x, y, z, u], d + e * 2 ^ (4 * n)) := by
      rw [hstep]; simp only [pstep, hbits]
    have hdec : IntKind.i64.wrap (iarith .sub (n : Int) 1) = (ord : Int) - 1 - ((j + 1 : Nat) : Int) := by
      show IntKind.i64.wrap ((n : Int) - 1) = _
      rw [wrap_in (by omega) (by omega)]; omega
    refine at_loopK (j + 1) hlt (by omega) ⟨(by rw [hnx]; exact rfl), geti rfl hdec, trivial⟩ (by repeat (first | exact trivial | refine ⟨rfl, ?_⟩)) ?_
    show List.Sublist ((k, Obj.cells ⟨(pst 4 rot4 ord v0 (j + 1)).1.map nv ++ sp⟩ T (0, 0)) :: _) _
    rw [hnx]
    exact List.Sublist.refl _
  · obtain rfl : j = ord := by omega
    have hni : (j : Int) - 1 - (j : Int) = -1 := by omega
    rw [hni]
    repeat'
      first
        | refine tl_defer ?_ | refine tc_seq ?_ | refine tc_region ?_ | refine at_seq_normal ?_ | refine tl_nil ?_ | refine tl_cons ?_ | refine tl_cons_none ?_ | refine op_move ?_
        | refine op_assign ?_ | refine op_fieldAddr ?_ | refine op_load ?_ | refine op_load_agg ?_ | refine op_indexC ?_ | refine op_indexAddr1 ?_ | refine op_indexAddr ?_ | refine op_icmp ?_
        | refine op_fcmp ?_ | refine op_iarith ?_ | refine op_bcmp ?_ | refine op_unop_not ?_ | refine op_unop_neg_float ?_ | refine op_unop_neg_int ?_ | refine op_len_slice ?_ | refine op_pick_true ?_
        | refine op_pick_false ?_ | refine op_pick_true' ?_ | refine op_pick_false' ?_ | refine op_build ?_ | refine op_extract ?_ | refine op_makeInterface ?_ | refine op_typeAssert ?_ | refine op_ptr_nil ?_
        | refine op_nilCheck_ptr ?_ | refine op_nilCheck_meth ?_ | refine op_makeMeth ?_ | refine op_makeFunc ?_ | refine op_itof ?_ | refine op_itoi ?_ | refine op_ftoi ?_ | refine op_iquo ?_
        | refine op_irem ?_ | refine op_ibits ?_ | refine op_slice_isnil ?_ | refine op_slice_notnil ?_ | refine op_imax ?_ | refine op_imin ?_ | refine op_shl ?_ | refine op_shr ?_
        | (refine op_alloc ?_; intro _) | (refine op_box ?_; intro _) | (refine op_buildSlice ?_; intro _) | (refine op_farith ?_; intro _ _) | refine op_store0 ?_ | refine op_store1 ?_ | refine op_store2 ?_ | refine op_store3 ?_
        | refine op_store4 ?_ | refine op_store5 ?_ | refine tc_cond_t ?_ | refine tc_cond_f ?_ | refine tc_cond (fun _ => ?_) (fun _ => ?_) | refine tc_block ?_ | refine tc_skip ?_ | refine tc_ret ?_
        | refine tc_exit ?_ | refine tc_label ?_ | refine at_seq_ret ?_ | refine at_seq_exit ?_ | refine at_block_normal ?_ | refine at_block_ret ?_ | refine at_block_exit_self ?_ | refine at_block_exit_ne ?_
        | refine at_loop_ret ?_ | refine at_loop_exit ?_ | refine at_loop_goto ?_ | refine tl_guard_yes ?_ | refine tl_guard_no ?_ | refine tl_guard_yes' ?_ | refine tl_guard_no' ?_ | refine tl_guard_undef ?_
        | refine tl_guard_split (fun _ => ?_) (fun _ => ?_)
    exact ret_tmp (hG := List.Sublist.cons _ (List.Sublist.cons _ (List.Sublist.refl _))) (hk := ⟨rfl, rfl⟩)
end Go.Proofs.YtjalgjeibnjinaaDoor.Hil
