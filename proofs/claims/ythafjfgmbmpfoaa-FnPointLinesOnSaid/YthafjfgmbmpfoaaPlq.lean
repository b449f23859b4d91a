/-
  A line of segments: what lies on it, how far a place is from it. No conditions beyond the bounds.
-/
import Derived.Test.YthafjfgmbmpfoaaPlo
import Derived.Test.YthafjfgmbmpfoaaPlb
import Derived.Test.YthafjfgmbmpfoaaLg26
import Derived.Test.YthafjfgmbmpfoaaLg14
set_option linter.unusedVariables false
set_option linter.unusedSimpArgs false
namespace Go.Proofs.Ythafjfgmbmpfoaa.Ori5
open Go.Lg Ieee

theorem fv13 : Fv 4665729213955833856 ((8192 : Nat) : Rat) := ⟨false, 4503599627370496, -39, rfl, by
  unfold sgn p2; simp; grind⟩
theorem fv_m20 : Fv 4517110426252607488 (p2 (-20)) := ⟨false, 4503599627370496, -72, rfl, by
  have e : ((4503599627370496 : Nat) : Rat) = p2 52 := (p2_toNat (e := 52) (by decide)).symm
  have := p2_mul (a := 52) (b := -72) (c := -20) (by decide)
  rw [e]; unfold sgn; grind⟩
theorem sq_lt' {a b : Rat} (ha : 0 ≤ a) (hb : 0 ≤ b) (h : a < b) : a * a < b * b := by
  have h1 := mul_le (Rat.le_of_lt h) ha
  have h2 := mul_lt h (show 0 < b by grind)
  have h3 : a * b = b * a := Rat.mul_comm a b
  grind
/-- Below 2^-20 just if it is nothing. -/
theorem small {c S : Rat} {L : Int} (hc : 0 ≤ c) (hr : Rl (p2 (-46)) (c * c) S) (hS : 0 ≤ S) (hL : L + 1 ≤ 1073741824) (hL0 : 0 ≤ L) (h : S ≠ 0 → (1 : Rat) ≤ S * ((L + 1 : Int) : Rat)) : c < p2 (-20) ↔ S = 0 := by
  have hp := hr.pos hS
  have e1 := mul_le (p2_le (show (-46 : Int) ≤ -1 by decide)) hS
  have e2 : p2 (-1) * S + p2 (-1) * S = S := by rw [← Rat.add_mul, Pld.half]; grind
  constructor
  · intro hlt
    rcases Classical.em (S = 0) with h0 | h0
    · exact h0
    · exfalso
      have h1 := h h0
      have hLr : ((L + 1 : Int) : Rat) ≤ p2 30 := by
        have e : p2 30 = ((1073741824 : Nat) : Rat) := p2_toNat (by decide)
        rw [e, ← Rat.intCast_natCast]
        exact Rat.intCast_le_intCast.2 (by omega)
      have h2 := mul_le_left hLr hS
      have h3 := sq_lt' hc (Rat.le_of_lt (p2_pos (-20))) hlt
      rw [p2_mul (c := -40) (by decide)] at h3
      have h4 : 1 ≤ S * p2 30 := by grind
      have h5 := mul_le h4 (Rat.le_of_lt (p2_pos (-30)))
      rw [Rat.mul_assoc, p2_mul (c := 0) (by decide), p2_zero] at h5
      have h6 : p2 (-30) = p2 (-31) + p2 (-31) := p2_half (by decide)
      have h7 := p2_lt (show (-40 : Int) < -31 by decide)
      grind
  · intro h0
    rw [h0] at hp
    rcases (Rat.le_total : c ≤ 0 ∨ 0 ≤ c) with h1 | h1
    · have := p2_pos (-20); grind
    · rcases Rat.le_iff_lt_or_eq.1 h1 with h2 | h2
      · have := Rat.mul_pos h2 h2; exfalso; grind
      · have := p2_pos (-20); grind

theorem fi_up {x : Nat} {n : Int} (h : FI 8192 x n) : FI 33554432 x n := ⟨h.fv, by have := h.lo; omega, by have := h.hi; omega⟩
theorem nrm_le {x y B : Int} (h1 : -B ≤ x) (h2 : x ≤ B) (h3 : -B ≤ y) (h4 : y ≤ B) (hB : 0 ≤ B) : nrm x y ≤ 2 * (B * B) := by
  have a := (mul_bound h1 h2 h1 h2).2
  have b := (mul_bound h3 h4 h3 h4).2
  unfold nrm; omega
theorem on_seg (aX aY bX bY pX pY : Int) : seg0 (pX - aX) (pY - aY) (bX - aX) (bY - aY) = 0 ↔ onS aX aY bX bY pX pY = true := by
  have e : (aX - pX) * (bY - pY) - (aY - pY) * (bX - pX) = -(crs (pX - aX) (pY - aY) (bX - aX) (bY - aY)) := by unfold crs; grind
  rw [seg_zero]
  unfold onS inBox betw
  rw [e]
  simp only [Bool.and_eq_true, decide_eq_true_eq]
  omega
def anyOn (X Y : Nat → Int) (pX pY : Int) (m : Nat) : Bool := (List.range m).any fun i => onS (X i) (Y i) (X (i + 1)) (Y (i + 1)) pX pY
theorem any_succ (X Y : Nat → Int) (pX pY : Int) (m : Nat) : anyOn X Y pX pY (m + 1) = (anyOn X Y pX pY m || onS (X m) (Y m) (X (m + 1)) (Y (m + 1)) pX pY) := by
  unfold anyOn; rw [List.range_succ, List.any_append]; simp
theorem any_of {X Y : Nat → Int} {pX pY : Int} {i m : Nat} (hi : i < m) (h : onS (X i) (Y i) (X (i + 1)) (Y (i + 1)) pX pY = true) : anyOn X Y pX pY m = true :=
  List.any_eq_true.2 ⟨i, List.mem_range.2 hi, h⟩
def strideG (n : Int) : Int := if n = 0 then 0 else if n = 1 then 2 else if n = 2 then 3 else if n = 3 then 3 else if n = 4 then 4 else n
theorem layoutStride (n : Int) (H : Heap) : Does Try.prog 37 [.int .i64 n] H fun w H' => w = .int .i64 (strideG n) ∧ H' = H := by
  refine fn_enter 15 Try.func37 fun W => ?_
  repeat' first
    | refine tc_seq ?_ | refine tc_region ?_ | refine at_seq_normal ?_ | refine tl_nil ?_ | refine tl_cons ?_ | refine op_move ?_ | refine op_assign ?_ | refine op_icmp ?_ | refine op_fcmp ?_ | refine op_iarith ?_
    | refine op_bcmp ?_ | refine op_ptr_nil ?_ | refine op_iquo ?_ | refine op_irem ?_ | refine op_ibits ?_ | refine op_slice_isnil ?_ | refine op_slice_notnil ?_ | refine op_shl ?_ | refine op_shr ?_ | (refine op_farith ?_; intro _ _)
    | refine tc_cond_t ?_ | refine tc_cond_f ?_ | refine tc_cond (fun _ => ?_) (fun _ => ?_) | refine tc_block ?_ | refine tc_ret ?_ | refine at_seq_ret ?_ | refine at_block_normal ?_ | refine at_block_ret ?_
  all_goals (first | exact ret_tmp (hk := ⟨congrArg (Value.int .i64) (by simp only [icmp, decide_eq_true_eq, decide_eq_false_iff_not, beq_iff_eq, beq_eq_false_iff_ne, ne_eq] at *; unfold strideG; (repeat' split) <;> omega), rfl⟩))
/-- Places of a row, whole numbers. -/
def PW (xs : List Nat) (n : Nat) (X Y : Nat → Int) : Prop := ∀ i, i < n → FI 8192 (xs.getD (2 * i) 0) (X i) ∧ FI 8192 (xs.getD (2 * i + 1) 0) (Y i)
set_option maxHeartbeats 16000000 in
theorem isOnLine (n kp op cp kr o c : Nat) (px py : Nat) (pX pY : Int) (lp L : List Value) (Tp Tr : TypeId) (zp zr : Nat × Nat) (xs : List Nat) (X Y : Nat → Int) (R : Heap) (mp : (kp, Obj.cells ⟨lp⟩ Tp zp) ∈ R) (g1 : lp[op + 0]? = some (.float .f64 px)) (g2 : lp[op + 1]? = some (.float .f64 py))
    (fpx : FI 8192 px pX) (fpy : FI 8192 py pY) (mr : (kr, Obj.cells ⟨L⟩ Tr zr) ∈ R) (hL : ∀ i, i < 2 * n → L[o + i]? = some (.float .f64 (xs.getD i 0))) (hx : PW xs n X Y) (hn : 2 ≤ n) (hn2 : n ≤ 200) (hc : 2 * n ≤ c) (hE : Eps R) :
    Does Try.prog 30 [.int .i64 1, .slice (some ⟨kp, op, none⟩) 2 cp, .slice (some ⟨kr, o, none⟩) (2 * n) c] R fun w H' => w = .bool (anyOn X Y pX pY (n - 1)) ∧ ∃ ex, H' = ex ++ R := by
  have wm : IntKind.i64.wrap (iarith .mul 2 2) = 4 := rfl
  have hl4 : icmp .lss ((2 * n : Nat) : Int) 4 = false := by simp only [icmp]; exact decide_eq_false (by omega)
  refine fn_enter 49 Try.func30 fun W => ?_
  repeat' first
    | (refine op_call ((layoutStride 1 _).mono ?_); rw [show strideG 1 = 2 from rfl]; rintro _ _ ⟨rfl, rfl⟩)
    | (refine op_iarith ?_; rw [wm])
    | (first | refine tc_seq ?_ | refine tc_region ?_ | refine at_seq_normal ?_ | refine tl_nil ?_ | refine tl_cons ?_ | refine tl_cons_none ?_ | refine op_move ?_ | refine op_assign ?_ | refine op_fieldAddr ?_ | refine op_load ?_ | refine op_load_agg ?_ | refine op_indexC ?_ | refine op_indexAddr1 ?_ | refine op_indexAddr ?_ | refine op_icmp ?_ | refine op_fcmp ?_ | refine op_iarith ?_ | refine op_bcmp ?_ | refine op_unop_not ?_ | refine op_unop_neg_float ?_ | refine op_unop_neg_int ?_ | refine op_len_slice ?_ | refine op_pick_true ?_ | refine op_pick_false ?_ | refine op_pick_true' ?_ | refine op_pick_false' ?_ | refine op_build ?_ | refine op_extract ?_ | refine op_makeInterface ?_ | refine op_typeAssert ?_ | refine op_ptr_nil ?_ | refine op_nilCheck_ptr ?_ | refine op_nilCheck_meth ?_ | refine op_makeMeth ?_ | refine op_makeFunc ?_ | refine op_itof ?_ | refine op_itoi ?_ | refine op_ftoi ?_ | refine op_iquo ?_ | refine op_irem ?_ | refine op_ibits ?_ | refine op_slice_isnil ?_ | refine op_slice_notnil ?_ | refine op_imax ?_ | refine op_imin ?_ | refine op_shl ?_ | refine op_shr ?_ | (refine op_alloc ?_; intro _) | (refine op_box ?_; intro _) | (refine op_buildSlice ?_; intro _) | (refine op_farith ?_; intro _ _) | refine op_store0 ?_ | refine op_store1 ?_ | refine op_store2 ?_ | refine op_store3 ?_ | refine op_store4 ?_ | refine op_store5 ?_ | refine op_storeK rfl ?_ | refine op_loadK rfl ?_ | refine op_load_aggK rfl ?_ | refine tc_cond_t ?_ | refine tc_cond_f ?_ | refine tc_cond (fun _ => ?_) (fun _ => ?_) | refine tc_block ?_ | refine tc_skip ?_ | refine tc_ret ?_ | refine tc_exit ?_ | refine at_seq_ret ?_ | refine at_seq_exit ?_ | refine at_block_normal ?_ | refine at_block_ret ?_ | refine at_block_exit_self ?_ | refine at_block_exit_ne ?_ | refine at_loop_ret ?_ | refine at_loop_exit ?_ | fail)
    | fail
  rename_i k8
  refine tc_loopK [(1, _), (2, _), (7, _), (8, _)] (by repeat (first | exact trivial | refine ⟨rfl, ?_⟩)) (fun m : Nat => [(9, .int .i64 ((2 * m + 2 : Nat) : Int))]) (fun _ => (k8, _) :: _) (fun m => m ≤ n - 1 ∧ anyOn X Y pX pY m = false) (fun m => n - m) 0 ⟨Nat.zero_le _, rfl⟩ ⟨rfl, trivial⟩ (List.Sublist.refl _) ?_
  rintro m ⟨hm, hno⟩
  by_cases hlt : m < n - 1
  · have hlb : icmp .lss ((2 * m + 2 : Nat) : Int) ((2 * n : Nat) : Int) = true := by simp only [icmp]; exact decide_eq_true (by omega)
    have w1 : IntKind.i64.wrap (iarith .sub ((2 * m + 2 : Nat) : Int) 2) = ((2 * m : Nat) : Int) := by rw [wrap_sub (by omega) (by omega)]; omega
    have w2 : IntKind.i64.wrap (iarith .add ((2 * m : Nat) : Int) 2) = ((2 * m + 2 : Nat) : Int) := by rw [wrap_add (by omega) (by omega)]; omega
    have w3 : IntKind.i64.wrap (iarith .add ((2 * m + 2 : Nat) : Int) 2) = ((2 * (m + 1) + 2 : Nat) : Int) := by rw [wrap_add (by omega) (by omega)]; omega
    have a1 := hL (2 * m) (by omega)
    have a2 := hL (2 * m + 1) (by omega)
    have a3 := hL (2 * m + 2) (by omega)
    have a4 := hL (2 * m + 3) (by omega)
    obtain ⟨f1, f2⟩ := hx m (by omega)
    obtain ⟨f3, f4⟩ := hx (m + 1) (by omega)
    repeat' first
      | (refine op_iarith ?_; rw [w1])
      | (refine op_iarith ?_; rw [w2])
      | (refine op_iarith ?_; rw [w3])
      | (refine op_slice_lh (l := 2 * m) (h := 2 * m + 2) ?_; rw [slAt_le (m := 2) (by omega) (by omega)])
      | (refine op_slice_lh (l := 2 * m + 2) (h := 2 * (m + 1) + 2) ?_; rw [slAt_le (m := 2) (by omega) (by omega)])
      | (refine op_call ((pointMeets kp op cp kr (o + 2 * m) (c - 2 * m) kr (o + (2 * m + 2)) (c - (2 * m + 2)) lp L L Tp Tr Tr zp zr zr px py (xs.getD (2 * m) 0) (xs.getD (2 * m + 1) 0) (xs.getD (2 * m + 2) 0) (xs.getD (2 * m + 3) 0) pX pY (X m) (Y m) (X (m + 1)) (Y (m + 1)) _ (by simp [mp]) (by simp [mr]) (by simp [mr]) g1 g2 a1 a2 a3 a4 (fi_up fpx) (fi_up fpy) (fi_up f1) (fi_up f2) (fi_up f3) (fi_up f4) (hE.mono fun e he => by simp [he])).mono ?_); rintro _ _ ⟨rfl, ex, rfl⟩)
      | (first | refine tc_seq ?_ | refine tc_region ?_ | refine at_seq_normal ?_ | refine tl_nil ?_ | refine tl_cons ?_ | refine tl_cons_none ?_ | refine op_move ?_ | refine op_assign ?_ | refine op_fieldAddr ?_ | refine op_load ?_ | refine op_load_agg ?_ | refine op_indexC ?_ | refine op_indexAddr1 ?_ | refine op_indexAddr ?_ | refine op_icmp ?_ | refine op_fcmp ?_ | refine op_iarith ?_ | refine op_bcmp ?_ | refine op_unop_not ?_ | refine op_unop_neg_float ?_ | refine op_unop_neg_int ?_ | refine op_len_slice ?_ | refine op_pick_true ?_ | refine op_pick_false ?_ | refine op_pick_true' ?_ | refine op_pick_false' ?_ | refine op_build ?_ | refine op_extract ?_ | refine op_makeInterface ?_ | refine op_typeAssert ?_ | refine op_ptr_nil ?_ | refine op_nilCheck_ptr ?_ | refine op_nilCheck_meth ?_ | refine op_makeMeth ?_ | refine op_makeFunc ?_ | refine op_itof ?_ | refine op_itoi ?_ | refine op_ftoi ?_ | refine op_iquo ?_ | refine op_irem ?_ | refine op_ibits ?_ | refine op_slice_isnil ?_ | refine op_slice_notnil ?_ | refine op_imax ?_ | refine op_imin ?_ | refine op_shl ?_ | refine op_shr ?_ | (refine op_alloc ?_; intro _) | (refine op_box ?_; intro _) | (refine op_buildSlice ?_; intro _) | (refine op_farith ?_; intro _ _) | refine op_store0 ?_ | refine op_store1 ?_ | refine op_store2 ?_ | refine op_store3 ?_ | refine op_store4 ?_ | refine op_store5 ?_ | refine op_storeK rfl ?_ | refine op_loadK rfl ?_ | refine op_load_aggK rfl ?_ | refine tc_cond_t ?_ | refine tc_cond_f ?_ | refine tc_cond (fun _ => ?_) (fun _ => ?_) | refine tc_block ?_ | refine tc_skip ?_ | refine tc_ret ?_ | refine tc_exit ?_ | refine at_seq_ret ?_ | refine at_seq_exit ?_ | refine at_block_normal ?_ | refine at_block_ret ?_ | refine at_block_exit_self ?_ | refine at_block_exit_ne ?_ | refine at_loop_ret ?_ | refine at_loop_exit ?_ | fail)
      | fail
    · exact ret_tmp (hG := List.Sublist.refl _) (hk := ⟨congrArg Value.bool (any_of hlt (by assumption)).symm, ExC.ex⟩)
    · rename_i hf
      exact at_loopK (m + 1) ⟨by omega, by rw [any_succ, hno, hf]; rfl⟩ (by omega) ⟨rfl, trivial⟩ (by repeat (first | exact trivial | refine ⟨rfl, ?_⟩)) (List.sublist_append_right _ _)
  · have hlb : icmp .lss ((2 * m + 2 : Nat) : Int) ((2 * n : Nat) : Int) = false := by simp only [icmp]; exact decide_eq_false (by omega)
    have hmn : n - 1 = m := by omega
    repeat' first
      | refine tc_seq ?_ | refine tc_region ?_ | refine at_seq_normal ?_ | refine tl_nil ?_ | refine tl_cons ?_ | refine tl_cons_none ?_ | refine op_move ?_ | refine op_assign ?_ | refine op_fieldAddr ?_ | refine op_load ?_
      | refine op_load_agg ?_ | refine op_indexC ?_ | refine op_indexAddr1 ?_ | refine op_indexAddr ?_ | refine op_icmp ?_ | refine op_fcmp ?_ | refine op_iarith ?_ | refine op_bcmp ?_ | refine op_unop_not ?_ | refine op_unop_neg_float ?_
      | refine op_unop_neg_int ?_ | refine op_len_slice ?_ | refine op_pick_true ?_ | refine op_pick_false ?_ | refine op_pick_true' ?_ | refine op_pick_false' ?_ | refine op_build ?_ | refine op_extract ?_ | refine op_makeInterface ?_ | refine op_typeAssert ?_
      | refine op_ptr_nil ?_ | refine op_nilCheck_ptr ?_ | refine op_nilCheck_meth ?_ | refine op_makeMeth ?_ | refine op_makeFunc ?_ | refine op_itof ?_ | refine op_itoi ?_ | refine op_ftoi ?_ | refine op_iquo ?_ | refine op_irem ?_
      | refine op_ibits ?_ | refine op_slice_isnil ?_ | refine op_slice_notnil ?_ | refine op_imax ?_ | refine op_imin ?_ | refine op_shl ?_ | refine op_shr ?_ | (refine op_alloc ?_; intro _) | (refine op_box ?_; intro _) | (refine op_buildSlice ?_; intro _)
      | (refine op_farith ?_; intro _ _) | refine op_store0 ?_ | refine op_store1 ?_ | refine op_store2 ?_ | refine op_store3 ?_ | refine op_store4 ?_ | refine op_store5 ?_ | refine op_storeK rfl ?_ | refine op_loadK rfl ?_ | refine op_load_aggK rfl ?_
      | refine tc_cond_t ?_ | refine tc_cond_f ?_ | refine tc_cond (fun _ => ?_) (fun _ => ?_) | refine tc_block ?_ | refine tc_skip ?_ | refine tc_ret ?_ | refine tc_exit ?_ | refine at_seq_ret ?_ | refine at_seq_exit ?_ | refine at_block_normal ?_
      | refine at_block_ret ?_ | refine at_block_exit_self ?_ | refine at_block_exit_ne ?_ | refine at_loop_ret ?_ | refine at_loop_exit ?_
    exact ret_tmp (hG := List.Sublist.refl _) (hk := ⟨by rw [hmn, hno], ExC.ex⟩)
/-- The least distance so far. -/
def Near (r : Nat) (P : Prop) : Prop := ∃ c, Fv r c ∧ 0 ≤ c ∧ (c < p2 (-20) ↔ P)
theorem near_lss {r : Nat} {P : Prop} [Decidable P] (h : Near r P) : fcmp .lss r 4517110426252607488 = decide P := by
  obtain ⟨c, h1, _, h2⟩ := h
  rw [fcmp_lss h1 fv_m20]; exact decide_eq_decide.2 h2
theorem near_take {r r' : Nat} {P Q : Prop} (h : Near r P) (h' : Near r' Q) (hc : fcmp .lss r' r = true) : Near r' (P ∨ Q) := by
  obtain ⟨c, h1, h0, h2⟩ := h
  obtain ⟨c', h1', h0', h2'⟩ := h'
  rw [fcmp_lss h1' h1] at hc
  have hc' : c' < c := by simpa using hc
  exact ⟨c', h1', h0', ⟨fun h => .inr (h2'.1 h), fun h => h.elim (fun hp => by have := h2.2 hp; grind) h2'.2⟩⟩
theorem near_leave {r r' : Nat} {P Q : Prop} (h : Near r P) (h' : Near r' Q) (hc : fcmp .lss r' r = false) : Near r (P ∨ Q) := by
  obtain ⟨c, h1, h0, h2⟩ := h
  obtain ⟨c', h1', h0', h2'⟩ := h'
  rw [fcmp_lss h1' h1] at hc
  have hc' : ¬ c' < c := by simpa using hc
  exact ⟨c, h1, h0, ⟨fun h => .inl (h2.1 h), fun h => h.elim h2.2 (fun hq => by have := h2'.2 hq; grind)⟩⟩
theorem Near.of {r : Nat} {P Q : Prop} (h : Near r P) (e : P ↔ Q) : Near r Q := let ⟨c, a, b, d⟩ := h; ⟨c, a, b, d.trans e⟩
theorem near_nrm {r : Nat} {c : Rat} {x y : Int} (h1 : Fv r c) (h2 : 0 ≤ c) (h3 : Rl (p2 (-51)) (c * c) ((nrm x y : Int) : Rat)) : Near r (x = 0 ∧ y = 0) := by
  have h0 := nrm_nonneg x y
  refine ⟨c, h1, h2, (small h2 (Pld.Rl.to h3 (by decide)) (by exact_mod_cast h0) (L := 0) (by decide) (by decide) fun hne => ?_).trans ⟨fun h => nrm_zero (by exact_mod_cast h), fun h => by rw [h.1, h.2]; rfl⟩⟩
  have hn : nrm x y ≠ 0 := fun h => hne (by rw [h]; rfl)
  have : (1 : Rat) ≤ ((nrm x y : Int) : Rat) := by exact_mod_cast (by omega : 1 ≤ nrm x y)
  have e : ((0 + 1 : Int) : Rat) = 1 := rfl
  rw [e]; grind
theorem near_seg {r : Nat} {c : Rat} {aX aY bX bY pX pY : Int} (h1 : Fv r c) (h2 : 0 ≤ c) (h3 : Rl (p2 (-46)) (c * c) (seg0 (pX - aX) (pY - aY) (bX - aX) (bY - aY))) (ha : -8192 ≤ aX ∧ aX ≤ 8192) (hb : -8192 ≤ aY ∧ aY ≤ 8192) (hc : -8192 ≤ bX ∧ bX ≤ 8192) (hd : -8192 ≤ bY ∧ bY ≤ 8192) :
    Near r (onS aX aY bX bY pX pY = true) := by
  have hLb := nrm_le (B := 16384) (x := bX - aX) (y := bY - aY) (by omega) (by omega) (by omega) (by omega) (by decide)
  exact ⟨c, h1, h2, (small h2 h3 (seg_nonneg _ _ _ _) (L := nrm (bX - aX) (bY - aY)) (by omega) (nrm_nonneg _ _) seg_least).trans (on_seg _ _ _ _ _ _)⟩
set_option maxHeartbeats 16000000 in
theorem lineDist (n kp op cp kr o c : Nat) (px py : Nat) (pX pY : Int) (lp L : List Value) (Tp Tr : TypeId) (zp zr : Nat × Nat) (xs : List Nat) (X Y : Nat → Int) (R : Heap) (mp : (kp, Obj.cells ⟨lp⟩ Tp zp) ∈ R) (g1 : lp[op + 0]? = some (.float .f64 px)) (g2 : lp[op + 1]? = some (.float .f64 py))
    (fpx : FI 8192 px pX) (fpy : FI 8192 py pY) (mr : (kr, Obj.cells ⟨L⟩ Tr zr) ∈ R) (hL : ∀ i, i < 2 * n → L[o + i]? = some (.float .f64 (xs.getD i 0))) (hx : PW xs n X Y) (hn : 2 ≤ n) (hn2 : n ≤ 200) (hc : 2 * n ≤ c) :
    Does Try.prog 27 [.int .i64 1, .slice (some ⟨kp, op, none⟩) 2 cp, .slice (some ⟨kr, o, none⟩) (2 * n) c] R fun w H' => (∃ r, w = .float .f64 r ∧ Near r (anyOn X Y pX pY (n - 1) = true)) ∧ H' = R := by
  have hl2 : icmp .lss ((2 * n : Nat) : Int) 2 = false := by simp only [icmp]; exact decide_eq_false (by omega)
  have b0 := hL 0 (by omega)
  have b1 := hL 1 (by omega)
  obtain ⟨e1, e2⟩ := hx 0 (by omega)
  refine fn_enter 57 Try.func27 fun W => ?_
  repeat' first
    | (refine op_call ((layoutStride 1 _).mono ?_); rw [show strideG 1 = 2 from rfl]; rintro _ _ ⟨rfl, rfl⟩)
    | (refine op_slice_lh (l := 0) (h := 2) ?_; rw [slAt_zero (by omega)])
    | (refine op_call ((Pld.dist2 kp op cp kr o c lp L Tp Tr zp zr px py (xs.getD (2 * 0) 0) (xs.getD (2 * 0 + 1) 0) 8192 16384 268435456 536870912 pX pY (X 0) (Y 0) _ (by decide) (by decide) (by decide) fpx fpy e1 e2 mp mr g1 g2 b0 b1).mono ?_); rintro _ _ ⟨⟨r0, c0, rfl, q1, q2, q3⟩, rfl⟩)
    | (first | refine tc_seq ?_ | refine tc_region ?_ | refine at_seq_normal ?_ | refine tl_nil ?_ | refine tl_cons ?_ | refine tl_cons_none ?_ | refine op_move ?_ | refine op_assign ?_ | refine op_fieldAddr ?_ | refine op_load ?_ | refine op_load_agg ?_ | refine op_indexC ?_ | refine op_indexAddr1 ?_ | refine op_indexAddr ?_ | refine op_icmp ?_ | refine op_fcmp ?_ | refine op_iarith ?_ | refine op_bcmp ?_ | refine op_unop_not ?_ | refine op_unop_neg_float ?_ | refine op_unop_neg_int ?_ | refine op_len_slice ?_ | refine op_pick_true ?_ | refine op_pick_false ?_ | refine op_pick_true' ?_ | refine op_pick_false' ?_ | refine op_build ?_ | refine op_extract ?_ | refine op_makeInterface ?_ | refine op_typeAssert ?_ | refine op_ptr_nil ?_ | refine op_nilCheck_ptr ?_ | refine op_nilCheck_meth ?_ | refine op_makeMeth ?_ | refine op_makeFunc ?_ | refine op_itof ?_ | refine op_itoi ?_ | refine op_ftoi ?_ | refine op_iquo ?_ | refine op_irem ?_ | refine op_ibits ?_ | refine op_slice_isnil ?_ | refine op_slice_notnil ?_ | refine op_imax ?_ | refine op_imin ?_ | refine op_shl ?_ | refine op_shr ?_ | (refine op_alloc ?_; intro _) | (refine op_box ?_; intro _) | (refine op_buildSlice ?_; intro _) | (refine op_farith ?_; intro _ _) | refine op_store0 ?_ | refine op_store1 ?_ | refine op_store2 ?_ | refine op_store3 ?_ | refine op_store4 ?_ | refine op_store5 ?_ | refine op_storeK rfl ?_ | refine op_loadK rfl ?_ | refine op_load_aggK rfl ?_ | refine tc_cond_t ?_ | refine tc_cond_f ?_ | refine tc_cond (fun _ => ?_) (fun _ => ?_) | refine tc_block ?_ | refine tc_skip ?_ | refine tc_ret ?_ | refine tc_exit ?_ | refine at_seq_ret ?_ | refine at_seq_exit ?_ | refine at_block_normal ?_ | refine at_block_ret ?_ | refine at_block_exit_self ?_ | refine at_block_exit_ne ?_ | refine at_loop_ret ?_ | refine at_loop_exit ?_ | fail)
    | fail
  have hn0 := near_nrm q1 q2 q3
  refine tc_loopK [(1, _), (2, _), (6, _), (9, _)] (by repeat (first | exact trivial | refine ⟨rfl, ?_⟩)) (fun p : Nat × Nat => [(10, .int .i64 ((2 * p.1 : Nat) : Int)), (8, .float .f64 p.2)]) (fun _ => _) (fun p => p.1 ≤ n - 1 ∧ Near p.2 ((pX - X 0 = 0 ∧ pY - Y 0 = 0) ∨ anyOn X Y pX pY p.1 = true)) (fun p => n - p.1) (0, r0) ⟨Nat.zero_le _, hn0.of (by simp [anyOn])⟩ ⟨rfl, rfl, trivial⟩ (List.Sublist.refl _) ?_
  rintro ⟨m, r⟩ ⟨hm, hnr⟩
  simp only at hm hnr ⊢
  have w0 : IntKind.i64.wrap (iarith .sub ((2 * n : Nat) : Int) 2) = ((2 * n - 2 : Nat) : Int) := by rw [wrap_sub (by omega) (by omega)]; omega
  by_cases hlt : m < n - 1
  · have hlb : icmp .lss ((2 * m : Nat) : Int) ((2 * n - 2 : Nat) : Int) = true := by simp only [icmp]; exact decide_eq_true (by omega)
    have w2 : IntKind.i64.wrap (iarith .add ((2 * m : Nat) : Int) 2) = ((2 * m + 2 : Nat) : Int) := by rw [wrap_add (by omega) (by omega)]; omega
    have w3 : IntKind.i64.wrap (iarith .add ((2 * m + 2 : Nat) : Int) 2) = ((2 * (m + 1) + 2 : Nat) : Int) := by rw [wrap_add (by omega) (by omega)]; omega
    have a1 := hL (2 * m) (by omega)
    have a2 := hL (2 * m + 1) (by omega)
    have a3 := hL (2 * m + 2) (by omega)
    have a4 := hL (2 * m + 3) (by omega)
    obtain ⟨f1, f2⟩ := hx m (by omega)
    obtain ⟨f3, f4⟩ := hx (m + 1) (by omega)
    repeat' first
      | (refine op_iarith ?_; rw [w0])
      | (refine op_iarith ?_; rw [w2])
      | (refine op_iarith ?_; rw [w3])
      | (refine op_slice_lh (l := 2 * m) (h := 2 * m + 2) ?_; rw [slAt_le (m := 2) (by omega) (by omega)])
      | (refine op_slice_lh (l := 2 * m + 2) (h := 2 * (m + 1) + 2) ?_; rw [slAt_le (m := 2) (by omega) (by omega)])
      | (refine op_call ((Pld.xdist kp op cp kr (o + 2 * m) (c - 2 * m) kr (o + (2 * m + 2)) (c - (2 * m + 2)) lp L L Tp Tr Tr zp zr zr px py (xs.getD (2 * m) 0) (xs.getD (2 * m + 1) 0) (xs.getD (2 * m + 2) 0) (xs.getD (2 * m + 3) 0) pX pY (X m) (Y m) (X (m + 1)) (Y (m + 1)) _ fpx fpy f1 f2 f3 f4 mp mr mr g1 g2 a1 a2 a3 a4).mono ?_); rintro _ _ ⟨⟨r2, c2, rfl, q4, q5, q6⟩, rfl⟩; have hs2 := near_seg q4 q5 q6 ⟨f1.lo, f1.hi⟩ ⟨f2.lo, f2.hi⟩ ⟨f3.lo, f3.hi⟩ ⟨f4.lo, f4.hi⟩)
      | (first | refine tc_seq ?_ | refine tc_region ?_ | refine at_seq_normal ?_ | refine tl_nil ?_ | refine tl_cons ?_ | refine tl_cons_none ?_ | refine op_move ?_ | refine op_assign ?_ | refine op_fieldAddr ?_ | refine op_load ?_ | refine op_load_agg ?_ | refine op_indexC ?_ | refine op_indexAddr1 ?_ | refine op_indexAddr ?_ | refine op_icmp ?_ | refine op_fcmp ?_ | refine op_iarith ?_ | refine op_bcmp ?_ | refine op_unop_not ?_ | refine op_unop_neg_float ?_ | refine op_unop_neg_int ?_ | refine op_len_slice ?_ | refine op_pick_true ?_ | refine op_pick_false ?_ | refine op_pick_true' ?_ | refine op_pick_false' ?_ | refine op_build ?_ | refine op_extract ?_ | refine op_makeInterface ?_ | refine op_typeAssert ?_ | refine op_ptr_nil ?_ | refine op_nilCheck_ptr ?_ | refine op_nilCheck_meth ?_ | refine op_makeMeth ?_ | refine op_makeFunc ?_ | refine op_itof ?_ | refine op_itoi ?_ | refine op_ftoi ?_ | refine op_iquo ?_ | refine op_irem ?_ | refine op_ibits ?_ | refine op_slice_isnil ?_ | refine op_slice_notnil ?_ | refine op_imax ?_ | refine op_imin ?_ | refine op_shl ?_ | refine op_shr ?_ | (refine op_alloc ?_; intro _) | (refine op_box ?_; intro _) | (refine op_buildSlice ?_; intro _) | (refine op_farith ?_; intro _ _) | refine op_store0 ?_ | refine op_store1 ?_ | refine op_store2 ?_ | refine op_store3 ?_ | refine op_store4 ?_ | refine op_store5 ?_ | refine op_storeK rfl ?_ | refine op_loadK rfl ?_ | refine op_load_aggK rfl ?_ | refine tc_cond_t ?_ | refine tc_cond_f ?_ | refine tc_cond (fun _ => ?_) (fun _ => ?_) | refine tc_block ?_ | refine tc_skip ?_ | refine tc_ret ?_ | refine tc_exit ?_ | refine at_seq_ret ?_ | refine at_seq_exit ?_ | refine at_block_normal ?_ | refine at_block_ret ?_ | refine at_block_exit_self ?_ | refine at_block_exit_ne ?_ | refine at_loop_ret ?_ | refine at_loop_exit ?_ | fail)
      | fail
    · rename_i hf
      exact at_loopK (m + 1, r2) ⟨by simp only; omega, (near_take hnr hs2 hf).of (by simp only [any_succ, Bool.or_eq_true]; exact or_assoc)⟩ (by simp only; omega) ⟨rfl, rfl, trivial⟩ (by repeat (first | exact trivial | refine ⟨rfl, ?_⟩)) (List.Sublist.refl _)
    · rename_i hf
      exact at_loopK (m + 1, r) ⟨by simp only; omega, (near_leave hnr hs2 hf).of (by simp only [any_succ, Bool.or_eq_true]; exact or_assoc)⟩ (by simp only; omega) ⟨rfl, rfl, trivial⟩ (by repeat (first | exact trivial | refine ⟨rfl, ?_⟩)) (List.Sublist.refl _)
  · have hlb : icmp .lss ((2 * m : Nat) : Int) ((2 * n - 2 : Nat) : Int) = false := by simp only [icmp]; exact decide_eq_false (by omega)
    have hmn : n - 1 = m := by omega
    repeat' first
      | (refine op_iarith ?_; rw [w0])
      | (first | refine tc_seq ?_ | refine tc_region ?_ | refine at_seq_normal ?_ | refine tl_nil ?_ | refine tl_cons ?_ | refine tl_cons_none ?_ | refine op_move ?_ | refine op_assign ?_ | refine op_fieldAddr ?_ | refine op_load ?_ | refine op_load_agg ?_ | refine op_indexC ?_ | refine op_indexAddr1 ?_ | refine op_indexAddr ?_ | refine op_icmp ?_ | refine op_fcmp ?_ | refine op_iarith ?_ | refine op_bcmp ?_ | refine op_unop_not ?_ | refine op_unop_neg_float ?_ | refine op_unop_neg_int ?_ | refine op_len_slice ?_ | refine op_pick_true ?_ | refine op_pick_false ?_ | refine op_pick_true' ?_ | refine op_pick_false' ?_ | refine op_build ?_ | refine op_extract ?_ | refine op_makeInterface ?_ | refine op_typeAssert ?_ | refine op_ptr_nil ?_ | refine op_nilCheck_ptr ?_ | refine op_nilCheck_meth ?_ | refine op_makeMeth ?_ | refine op_makeFunc ?_ | refine op_itof ?_ | refine op_itoi ?_ | refine op_ftoi ?_ | refine op_iquo ?_ | refine op_irem ?_ | refine op_ibits ?_ | refine op_slice_isnil ?_ | refine op_slice_notnil ?_ | refine op_imax ?_ | refine op_imin ?_ | refine op_shl ?_ | refine op_shr ?_ | (refine op_alloc ?_; intro _) | (refine op_box ?_; intro _) | (refine op_buildSlice ?_; intro _) | (refine op_farith ?_; intro _ _) | refine op_store0 ?_ | refine op_store1 ?_ | refine op_store2 ?_ | refine op_store3 ?_ | refine op_store4 ?_ | refine op_store5 ?_ | refine op_storeK rfl ?_ | refine op_loadK rfl ?_ | refine op_load_aggK rfl ?_ | refine tc_cond_t ?_ | refine tc_cond_f ?_ | refine tc_cond (fun _ => ?_) (fun _ => ?_) | refine tc_block ?_ | refine tc_skip ?_ | refine tc_ret ?_ | refine tc_exit ?_ | refine at_seq_ret ?_ | refine at_seq_exit ?_ | refine at_block_normal ?_ | refine at_block_ret ?_ | refine at_block_exit_self ?_ | refine at_block_exit_ne ?_ | refine at_loop_ret ?_ | refine at_loop_exit ?_ | fail)
      | fail
    refine ret_tmp (hk := ⟨⟨r, rfl, hnr.of ⟨fun h => ?_, fun h => .inr (by rw [← hmn]; exact h)⟩⟩, rfl⟩)
    rcases h with ⟨h1, h2⟩ | h
    · refine any_of (i := 0) (by omega) ?_
      rw [← on_seg, show pX - X 0 = 0 from h1, show pY - Y 0 = 0 from h2]
      unfold seg0 dot2 nrm
      simp
    · rw [hmn]; exact h
end Go.Proofs.Ythafjfgmbmpfoaa.Ori5
