/-
  Whole numbers of any size: sign, the other sign, sums, products. No conditions.
-/
import Derived.Test.YtelhfcjchpdkiaaDoorZ1
import Derived.Test.YtelhfcjchpdkiaaDoorZ2
set_option linter.unusedVariables false
set_option linter.unusedSimpArgs false
namespace Go.Proofs.YtelhfcjchpdkiaaDoor.Lmb
open Go.Lg

def nval (neg : Bool) (xs : List Nat) : Int := if neg then -(lv xs : Int) else (lv xs : Int)
/-- The value is this whole number, of at most L limbs. -/
def IsW (n : Int) (L : Nat) (u : Value) (G : Heap) : Prop := ∃ neg xs a c, u = .agg ⟨[.bool neg, .slice a xs.length c]⟩ ∧ US G (.slice a xs.length c) xs ∧ Lm xs ∧ Nrm xs ∧ n = nval neg xs ∧ (neg = true → lv xs ≠ 0) ∧ xs.length ≤ L
theorem IsW.mono {n L u G G'} (h : IsW n L u G) (hG : ∀ e ∈ G, e ∈ G') : IsW n L u G' := by
  obtain ⟨neg, xs, a, c, h1, h2, h3⟩ := h
  exact ⟨neg, xs, a, c, h1, h2.mono hG, h3⟩
/-- The value is a list of limbs of this number. -/
def IsL (n : Nat) (L : Nat) (u : Value) (G : Heap) : Prop := ∃ zs a c, u = .slice a zs.length c ∧ US G u zs ∧ Lm zs ∧ Nrm zs ∧ lv zs = n ∧ zs.length ≤ L
theorem IsL.mono {n L u G G'} (h : IsL n L u G) (hG : ∀ e ∈ G, e ∈ G') : IsL n L u G' := by
  obtain ⟨zs, a, c, h1, h2, h3⟩ := h
  exact ⟨zs, a, c, h1, h2.mono hG, h3⟩
def sgI (n : Int) : Int := if n = 0 then 0 else if n < 0 then -1 else 1

theorem wSign (u : Value) (n : Int) (L : Nat) (H : Heap) (hu : IsW n L u H) : Does Tryd.prog 36 [u] H fun w H' => w = .int .i64 (sgI n) ∧ H' = H := by
  obtain ⟨neg, xs, a, c, rfl, h1, h2, h3, rfl, h5, h6⟩ := hu
  have hz := nrm_zero h3
  refine fn_enter 11 Tryd.func36 fun W => ?_
  by_cases hl : xs.length = 0
  · have hc : icmp .eql (xs.length : Int) 0 = true := by simp only [icmp, beq_iff_eq]; omega
    have hl0 : lv xs = 0 := hz.2 (List.length_eq_zero_iff.1 hl)
    have hv : sgI (nval neg xs) = 0 := by unfold sgI nval; rw [hl0]; cases neg <;> rfl
    repeat' first
      | refine tc_seq ?_ | refine tc_region ?_ | refine at_seq_normal ?_ | refine tl_nil ?_ | refine tl_cons ?_ | refine op_assign ?_ | refine op_fieldAddr ?_ | refine op_load ?_ | refine op_load_agg ?_ | refine op_icmp ?_
      | refine op_len_slice ?_ | (refine op_box ?_; intro _) | refine op_loadK rfl ?_ | refine op_load_aggK rfl ?_ | refine tc_cond_t ?_ | refine tc_cond_f ?_ | refine tc_cond (fun _ => ?_) (fun _ => ?_) | refine tc_block ?_ | refine tc_skip ?_ | refine tc_ret ?_
      | refine at_seq_ret ?_ | refine at_block_normal ?_ | refine at_block_ret ?_
    exact ret_tmp (hG := List.sublist_cons_self _ _) (hk := ⟨by rw [hv], rfl⟩)
  · have hc : icmp .eql (xs.length : Int) 0 = false := by simp only [icmp, beq_eq_false_iff_ne]; omega
    have hl0 : lv xs ≠ 0 := fun e => hl (by rw [hz.1 e]; rfl)
    cases neg with
    | true =>
      have hv : sgI (nval true xs) = -1 := by
        have e : nval true xs = -(lv xs : Int) := rfl
        rw [sgI, e, if_neg (by omega), if_pos (by omega)]
      repeat' first
        | refine tc_seq ?_ | refine tc_region ?_ | refine at_seq_normal ?_ | refine tl_nil ?_ | refine tl_cons ?_ | refine op_assign ?_ | refine op_fieldAddr ?_ | refine op_load ?_ | refine op_load_agg ?_ | refine op_icmp ?_
        | refine op_len_slice ?_ | (refine op_box ?_; intro _) | refine op_loadK rfl ?_ | refine op_load_aggK rfl ?_ | refine tc_cond_t ?_ | refine tc_cond_f ?_ | refine tc_cond (fun _ => ?_) (fun _ => ?_) | refine tc_block ?_ | refine tc_skip ?_ | refine tc_ret ?_
        | refine at_seq_ret ?_ | refine at_block_normal ?_ | refine at_block_ret ?_
      exact ret_tmp (hG := List.sublist_cons_self _ _) (hk := ⟨by rw [hv], rfl⟩)
    | false =>
      have hv : sgI (nval false xs) = 1 := by
        have e : nval false xs = (lv xs : Int) := rfl
        rw [sgI, e, if_neg (by omega), if_neg (by omega)]
      repeat' first
        | refine tc_seq ?_ | refine tc_region ?_ | refine at_seq_normal ?_ | refine tl_nil ?_ | refine tl_cons ?_ | refine op_assign ?_ | refine op_fieldAddr ?_ | refine op_load ?_ | refine op_load_agg ?_ | refine op_icmp ?_
        | refine op_len_slice ?_ | (refine op_box ?_; intro _) | refine op_loadK rfl ?_ | refine op_load_aggK rfl ?_ | refine tc_cond_t ?_ | refine tc_cond_f ?_ | refine tc_cond (fun _ => ?_) (fun _ => ?_) | refine tc_block ?_ | refine tc_skip ?_ | refine tc_ret ?_
        | refine at_seq_ret ?_ | refine at_block_normal ?_ | refine at_block_ret ?_
      exact ret_tmp (hG := List.sublist_cons_self _ _) (hk := ⟨by rw [hv], rfl⟩)

theorem wMinus (u : Value) (n : Int) (L : Nat) (H : Heap) (hu : IsW n L u H) : Does Tryd.prog 41 [u] H fun w H' => ∃ ex, H' = ex ++ H ∧ IsW (-n) L w H := by
  obtain ⟨neg, xs, a, c, rfl, h1, h2, h3, rfl, h5, h6⟩ := hu
  have hz := nrm_zero h3
  refine fn_enter 15 Tryd.func41 fun W => ?_
  by_cases hl : xs.length = 0
  · have hc : icmp .gtr (xs.length : Int) 0 = false := by simp only [icmp, decide_eq_false_iff_not]; omega
    have hl0 : lv xs = 0 := hz.2 (List.length_eq_zero_iff.1 hl)
    obtain rfl : neg = false := by cases neg <;> first | rfl | exact absurd hl0 (h5 rfl)
    have hv : -(nval false xs) = nval false xs := by unfold nval; rw [hl0]; rfl
    repeat' first
      | refine tc_seq ?_ | refine tc_region ?_ | refine at_seq_normal ?_ | refine tl_nil ?_ | refine tl_cons ?_ | refine tl_cons_none ?_ | refine op_move ?_ | refine op_fieldAddr ?_ | refine op_load ?_ | refine op_load_agg ?_
      | refine op_icmp ?_ | refine op_unop_not ?_ | refine op_len_slice ?_ | refine op_pick_true ?_ | refine op_pick_false ?_ | refine op_pick_true' ?_ | refine op_pick_false' ?_ | refine op_build ?_ | (refine op_alloc ?_; intro _) | (refine op_box ?_; intro _)
      | refine op_store0 ?_ | refine op_store1 ?_ | refine op_store2 ?_ | refine op_store3 ?_ | refine op_store4 ?_ | refine op_store5 ?_ | refine op_storeK rfl ?_ | refine op_loadK rfl ?_ | refine op_load_aggK rfl ?_ | refine tc_ret ?_
      | refine at_seq_ret ?_ | refine tl_guard_yes ?_ | refine tl_guard_no ?_ | refine tl_guard_yes' ?_ | refine tl_guard_no' ?_ | refine tl_guard_undef ?_ | refine tl_guard_split (fun _ => ?_) (fun _ => ?_)
    refine ret_one (.agg (T := 28) (off := 0) (m := [.bool (icmp .gtr (xs.length : Int) 0), .slice a xs.length c]) rfl rfl mem0 rfl rfl) (hG := List.Sublist.refl _) (hk := ⟨[_, _], rfl, _, xs, a, c, rfl, h1, h2, h3, (by rw [hc]; exact hv), (fun h => by rw [hc] at h; cases h), h6⟩)
  · have hc : icmp .gtr (xs.length : Int) 0 = true := by simp only [icmp, decide_eq_true_eq]; omega
    have hl0 : lv xs ≠ 0 := fun e => hl (by rw [hz.1 e]; rfl)
    cases neg with
    | true =>
      repeat' first
        | refine tc_seq ?_ | refine tc_region ?_ | refine at_seq_normal ?_ | refine tl_nil ?_ | refine tl_cons ?_ | refine tl_cons_none ?_ | refine op_move ?_ | refine op_fieldAddr ?_ | refine op_load ?_ | refine op_load_agg ?_
        | refine op_icmp ?_ | refine op_unop_not ?_ | refine op_len_slice ?_ | refine op_pick_true ?_ | refine op_pick_false ?_ | refine op_pick_true' ?_ | refine op_pick_false' ?_ | refine op_build ?_ | (refine op_alloc ?_; intro _) | (refine op_box ?_; intro _)
        | refine op_store0 ?_ | refine op_store1 ?_ | refine op_store2 ?_ | refine op_store3 ?_ | refine op_store4 ?_ | refine op_store5 ?_ | refine op_storeK rfl ?_ | refine op_loadK rfl ?_ | refine op_load_aggK rfl ?_ | refine tc_ret ?_
        | refine at_seq_ret ?_ | refine tl_guard_yes ?_ | refine tl_guard_no ?_ | refine tl_guard_yes' ?_ | refine tl_guard_no' ?_ | refine tl_guard_undef ?_ | refine tl_guard_split (fun _ => ?_) (fun _ => ?_)
      refine ret_one (.agg (T := 28) (off := 0) (m := [.bool false, .slice a xs.length c]) rfl rfl mem0 rfl rfl) (hG := List.Sublist.refl _) (hk := ⟨[_, _], rfl, false, xs, a, c, rfl, h1, h2, h3, by simp [nval], (fun h => by cases h), h6⟩)
    | false =>
      repeat' first
        | refine tc_seq ?_ | refine tc_region ?_ | refine at_seq_normal ?_ | refine tl_nil ?_ | refine tl_cons ?_ | refine tl_cons_none ?_ | refine op_move ?_ | refine op_fieldAddr ?_ | refine op_load ?_ | refine op_load_agg ?_
        | refine op_icmp ?_ | refine op_unop_not ?_ | refine op_len_slice ?_ | refine op_pick_true ?_ | refine op_pick_false ?_ | refine op_pick_true' ?_ | refine op_pick_false' ?_ | refine op_build ?_ | (refine op_alloc ?_; intro _) | (refine op_box ?_; intro _)
        | refine op_store0 ?_ | refine op_store1 ?_ | refine op_store2 ?_ | refine op_store3 ?_ | refine op_store4 ?_ | refine op_store5 ?_ | refine op_storeK rfl ?_ | refine op_loadK rfl ?_ | refine op_load_aggK rfl ?_ | refine tc_ret ?_
        | refine at_seq_ret ?_ | refine tl_guard_yes ?_ | refine tl_guard_no ?_ | refine tl_guard_yes' ?_ | refine tl_guard_no' ?_ | refine tl_guard_undef ?_ | refine tl_guard_split (fun _ => ?_) (fun _ => ?_)
      refine ret_one (.agg (T := 28) (off := 0) (m := [.bool (icmp .gtr (xs.length : Int) 0), .slice a xs.length c]) rfl rfl mem0 rfl rfl) (hG := List.Sublist.refl _) (hk := ⟨[_, _], rfl, _, xs, a, c, rfl, h1, h2, h3, (by rw [hc]; simp [nval]), (fun h => hl0), h6⟩)

theorem wMul (u v : Value) (n m : Int) (L M : Nat) (H : Heap) (hu : IsW n L u H) (hv : IsW m M v H) (hL : L < 2 ^ 30) (hM : M < 2 ^ 30) : Does Tryd.prog 27 [u, v] H fun w H' => ∃ ex, H' = ex ++ H ∧ IsW (n * m) (L + M) w H' := by
  obtain ⟨n1, xs, a1, c1, rfl, x1, x2, x3, rfl, x5, x6⟩ := hu
  obtain ⟨n2, ys, a2, c2, rfl, y1, y2, y3, rfl, y5, y6⟩ := hv
  refine (mul n1 n2 a1 a2 c1 c2 xs ys H x1 y1 x2 y2 (by omega) (by omega)).mono ?_
  rintro w H' ⟨zs, b, a, c, ex, rfl, rfl, h1, h2, h3, h4, h5, h6⟩
  refine ⟨ex, rfl, b, zs, a, c, rfl, h1, h2, h3, ?_, fun hb => ?_, by omega⟩
  · have e : ((lv zs : Nat) : Int) = (lv xs : Int) * (lv ys : Int) := by rw [h4, Int.natCast_mul]
    unfold nval
    by_cases h0 : lv zs = 0
    · have hb : b = false := by rw [h5, decide_eq_false (by simpa using h0)]; rfl
      rw [hb, h0]
      rw [h0] at e
      cases n1 <;> cases n2 <;> simp only [if_true, if_false, Bool.false_eq_true, Int.neg_mul, Int.mul_neg, Int.neg_neg] <;> omega
    · rw [decide_eq_true h0, Bool.true_and] at h5
      rw [h5, e]
      cases n1 <;> cases n2 <;> simp [Int.mul_neg, Int.neg_mul]
  · rw [hb] at h5
    intro h0
    rw [decide_eq_false (by simpa using h0)] at h5; cases h5
end Go.Proofs.YtelhfcjchpdkiaaDoor.Lmb

set_option linter.unusedVariables false
set_option linter.unusedSimpArgs false
namespace Go.Proofs.YtelhfcjchpdkiaaDoor.Lmb
open Go.Lg

/-- A block without 32-bit numbers. -/
def NoU (e : Nat × Obj) : Prop := ∀ l T fz, e.2 = Obj.cells ⟨l⟩ T fz → ∀ x ∈ l, ∀ n, x ≠ .int .u32 n
theorem US.skip {G G' : Heap} {v : Value} {zs : List Nat} (h : US G v zs) (hs : ∀ e ∈ G, e ∈ G' ∨ NoU e) : US G' v zs := by
  obtain ⟨a, cap, h1, h0, h2⟩ := h
  refine ⟨a, cap, h1, h0, fun hne => ?_⟩
  obtain ⟨k, off, l, T, fz, h3, h4, h5⟩ := h2 hne
  rcases hs _ h4 with h6 | h6
  · exact ⟨k, off, l, T, fz, h3, h6, h5⟩
  · exfalso
    cases zs with
    | nil => exact hne rfl
    | cons z zs =>
      have hm : uv z ∈ l := by
        have : uv z ∈ (l.drop off).take ((z :: zs).map uv).length := by rw [h5]; simp
        exact List.mem_of_mem_drop (List.mem_of_mem_take this)
      exact h6 l T fz rfl _ hm _ rfl
theorem IsW.skip {n L u} {G G' : Heap} (h : IsW n L u G) (hs : ∀ e ∈ G, e ∈ G' ∨ NoU e) : IsW n L u G' := by
  obtain ⟨neg, xs, a, c, h1, h2, h3⟩ := h
  exact ⟨neg, xs, a, c, h1, US.skip h2 hs, h3⟩
theorem len_le {xs ys : List Nat} (hx : Lm xs) (hy : Lm ys) (nx : Nrm xs) (h : lv xs ≤ lv ys) : xs.length ≤ ys.length := by
  rcases Nat.lt_or_ge ys.length xs.length with hl | hl
  · have h1 := lv_lt hy
    have h2 := lv_ge nx (fun e => by rw [e] at hl; exact absurd hl (Nat.not_lt_zero _))
    have h3 := Nat.pow_le_pow_right (show 0 < 4294967296 by decide) (show ys.length ≤ xs.length - 1 by omega)
    omega
  · exact hl
theorem mid2 {α : Type} (e2 e1 : List α) (x : α) (R : List α) : List.Perm (e2 ++ (e1 ++ x :: R)) (x :: (e2 ++ (e1 ++ R))) :=
  ((List.perm_middle (a := x) (l₁ := e1) (l₂ := R)).append_left e2).trans List.perm_middle
theorem mid2_mem {α : Type} {e2 e1 R : List α} {x y : α} {p : α → Prop} (hp : p x) : ∀ e ∈ e2 ++ (e1 ++ x :: R), e ∈ y :: (e2 ++ (e1 ++ R)) ∨ p e := fun e he => by
  rcases List.mem_cons.1 ((mid2 e2 e1 x R).subset he) with h | h
  · right; rw [h]; exact hp
  · exact .inl (List.mem_cons_of_mem _ h)
theorem ex2_eq {α : Type} {x a b : α} {H : List α} (e2 e1 : List α) : x :: (e2 ++ (e1 ++ a :: b :: H)) = (x :: (e2 ++ (e1 ++ [a, b]))) ++ H := by simp
theorem noU2 {k : Nat} {T : TypeId} {fz : Nat × Nat} {b : Bool} {a : Option Addr} {n c : Nat} : NoU (k, Obj.cells ⟨[.bool b, .slice a n c]⟩ T fz) := fun l T fz h x hx n => by
  cases h
  simp only [List.mem_cons, List.not_mem_nil, or_false] at hx
  rcases hx with rfl | rfl <;> (intro h; cases h)

set_option maxHeartbeats 16000000 in
theorem wAdd (u v : Value) (n m : Int) (L M : Nat) (H : Heap) (hu : IsW n L u H) (hv : IsW m M v H) (hL : L < 2 ^ 30) (hM : M < 2 ^ 30) : Does Tryd.prog 29 [u, v] H fun w H' => ∃ ex, H' = ex ++ H ∧ IsW (n + m) (L + M + 1) w H' := by
  obtain ⟨n1, xs, a1, c1, rfl, x1, x2, x3, rfl, x5, x6⟩ := hu
  obtain ⟨n2, ys, a2, c2, rfl, y1, y2, y3, rfl, y5, y6⟩ := hv
  have hcmpL := fun G (h1 : US G (.slice a1 xs.length c1) xs) (h2 : US G (.slice a2 ys.length c2) ys) => cmpLimbs a1 a2 c1 c2 xs ys G h1 h2 x2 y2 x3 y3 (by omega) (by omega)
  refine fn_enter 44 Tryd.func29 fun W => ?_
  by_cases hs : n1 = n2
  · subst hs
    have hc : bcmp .eql n1 n1 = true := by cases n1 <;> rfl
    repeat' first
      | refine tc_seq ?_ | refine tc_region ?_ | refine at_seq_normal ?_ | refine tl_nil ?_ | refine tl_cons ?_ | refine tl_cons_none ?_ | refine op_assign ?_ | refine op_fieldAddr ?_ | refine op_load ?_ | refine op_load_agg ?_
      | refine op_icmp ?_ | refine op_bcmp ?_ | refine op_build ?_ | (refine op_alloc ?_; intro _) | (refine op_box ?_; intro _) | refine op_store0 ?_ | refine op_store1 ?_ | refine op_store2 ?_ | refine op_store3 ?_ | refine op_store4 ?_
      | refine op_store5 ?_ | refine op_storeK rfl ?_ | refine op_loadK rfl ?_ | refine op_load_aggK rfl ?_ | refine tc_cond_t ?_ | refine tc_cond_f ?_ | refine tc_cond (fun _ => ?_) (fun _ => ?_) | refine tc_block ?_ | refine tc_skip ?_ | refine tc_ret ?_
      | refine at_seq_ret ?_ | refine at_block_normal ?_ | refine at_block_ret ?_
    rename_i k2 k3 k4
    apply fun hole0 hole1 hole2 hole3 hole4 hole5 hE hD hml hdl hpr prem fin => tc_drawn 8 [is hole0, is hole1, is hole2, is hole3, is hole4, is hole5, (fun w _ G => IsL (lv xs + lv ys) (L + M + 1) w G), (fun w _ G => IsW (nval n1 xs + nval n1 ys) (L + M + 1) w G)]
      [some 10, some 11, some 12, some 13, some 14, some 15, some 16, some 17, none] [[], [0], [], [2], [], [4], [3, 5], [1, 6]] mixed ⟨(is_mono _), (is_mono _), (is_mono _), (is_mono _), (is_mono _), (is_mono _), (fun _ _ _ _ h hs => IsL.mono h hs), (fun _ _ _ _ h hs => IsW.mono h hs), trivial⟩ prem fin hE hD rfl hml hdl hpr
    rotate_left 7
    · first | kernel_rfl | exact rfl
    · first | kernel_rfl | exact rfl
    · exact Nat.le_of_ble_eq_true rfl
    · first | kernel_rfl | exact rfl
    · first | kernel_rfl | exact rfl
    refine ⟨fun G hG => ?_, fun G hG => ?_, fun G hG => ?_, fun G hG => ?_, fun G hG => ?_, fun G hG => ?_, fun G hG => ?_, fun G hG => ?_, trivial⟩
    · simp only [with2, Step2, nthDst, putO]
      (refine op_fieldAddr ?_; exact ⟨[], rfl, rfl, rfl⟩)
    · rintro _ _ ⟨rfl, rfl⟩ -
      simp only [with2, Step2, nthDst, putO]
      ((first | refine op_load ?_ | refine op_load_agg ?_ | refine op_load ?_ (hm := Sub.mem (by assumption) (by (repeat (apply List.mem_cons_of_mem)); assumption)) | refine op_load_agg ?_ (hm := Sub.mem (by assumption) (by (repeat (apply List.mem_cons_of_mem)); assumption)) | refine op_loadH hG rfl ?_ | refine op_load_aggH hG rfl ?_); exact ⟨[], rfl, rfl, rfl⟩)
    · simp only [with2, Step2, nthDst, putO]
      (refine op_fieldAddr ?_; exact ⟨[], rfl, rfl, rfl⟩)
    · rintro _ _ ⟨rfl, rfl⟩ -
      simp only [with2, Step2, nthDst, putO]
      ((first | refine op_load ?_ | refine op_load_agg ?_ | refine op_load ?_ (hm := Sub.mem (by assumption) (by (repeat (apply List.mem_cons_of_mem)); assumption)) | refine op_load_agg ?_ (hm := Sub.mem (by assumption) (by (repeat (apply List.mem_cons_of_mem)); assumption)) | refine op_loadH hG rfl ?_ | refine op_load_aggH hG rfl ?_); exact ⟨[], rfl, rfl, rfl⟩)
    · simp only [with2, Step2, nthDst, putO]
      (refine op_fieldAddr ?_; exact ⟨[], rfl, rfl, rfl⟩)
    · rintro _ _ ⟨rfl, rfl⟩ -
      simp only [with2, Step2, nthDst, putO]
      ((first | refine op_load ?_ | refine op_load_agg ?_ | refine op_load ?_ (hm := Sub.mem (by assumption) (by (repeat (apply List.mem_cons_of_mem)); assumption)) | refine op_load_agg ?_ (hm := Sub.mem (by assumption) (by (repeat (apply List.mem_cons_of_mem)); assumption)) | refine op_loadH hG rfl ?_ | refine op_load_aggH hG rfl ?_); exact ⟨[], rfl, rfl, rfl⟩)
    · rintro _ _ ⟨rfl, rfl⟩ - _ _ ⟨rfl, rfl⟩ -
      simp only [with2, Step2, nthDst, putO]
      (refine op_call ((addLimbs a1 a2 c1 c2 xs ys _ (x1.mono fun e he => hG e (by simp [he])) (y1.mono fun e he => hG e (by simp [he])) x2 y2 (by omega) (by omega)).mono ?_); rintro w _ ⟨zs, ⟨a, c, rfl⟩, ex, rfl, z1, z2, z3, z4, z5⟩; exact ⟨ex, rfl, zs, a, c, rfl, z1, z2, z3, z4, by omega⟩)
    · rintro _ _ ⟨rfl, rfl⟩ - _ _ ⟨zs, a, c, rfl, z1, z2, z3, z4, z5⟩ -
      simp only [with2, Step2, nthDst, putO]
      (refine op_build ?_; exact ⟨[], rfl, n1, zs, a, c, rfl, z1, z2, z3, by (unfold nval; cases n1 <;> simp only [if_true, if_false, Bool.false_eq_true] <;> omega), (fun hb => by have := x5 hb; omega), z5⟩)
    · rintro _ _ _ _ _ _ _ _ _ _ _ _ _ _ _ _ ⟨⟨nz, zr, ar, cr, rfl, r1, r2, r3, r4, r5, r6⟩, ⟨zs, a, c, rfl, z1, z2, z3, z4, z5⟩, ⟨rfl, rfl⟩, ⟨rfl, rfl⟩, ⟨rfl, rfl⟩, ⟨rfl, rfl⟩, ⟨rfl, rfl⟩, ⟨rfl, rfl⟩, _⟩
      simp only [List.nil_append, List.cons_append, List.append_nil, List.drop_succ_cons, List.drop_zero, nthDst, putO]
      rename_i e1 e2 _
      refine tl_cons_none ?_
      refine op_perm (mid2 _ _ (k4, _) _).symm ?_
      refine op_store0 ?_
      repeat' first
        | refine tc_seq ?_ | refine tc_region ?_ | refine at_seq_normal ?_ | refine tl_nil ?_ | refine tl_cons ?_ | refine tl_cons_none ?_ | refine op_assign ?_ | refine op_fieldAddr ?_ | refine op_load ?_ | refine op_load_agg ?_
        | refine op_icmp ?_ | refine op_bcmp ?_ | refine op_build ?_ | (refine op_alloc ?_; intro _) | (refine op_box ?_; intro _) | refine op_store0 ?_ | refine op_store1 ?_ | refine op_store2 ?_ | refine op_store3 ?_ | refine op_store4 ?_
        | refine op_store5 ?_ | refine op_storeK rfl ?_ | refine op_loadK rfl ?_ | refine op_load_aggK rfl ?_ | refine tc_cond_t ?_ | refine tc_cond_f ?_ | refine tc_cond (fun _ => ?_) (fun _ => ?_) | refine tc_block ?_ | refine tc_skip ?_ | refine tc_ret ?_
        | refine at_seq_ret ?_ | refine at_block_normal ?_ | refine at_block_ret ?_
      refine ret_one (.agg (T := 28) (k := k4) (off := 0) (m := [.bool nz, .slice ar zr.length cr]) rfl rfl mem0 rfl rfl) (hG := List.Sublist.refl _) (hk := ⟨_, ex2_eq _ _, ?_⟩)
      simp only [List.nil_append] at r1
      exact IsW.skip ⟨nz, zr, ar, cr, rfl, r1, r2, r3, r4, r5, r6⟩ (mid2_mem noU2)
  · have hc : bcmp .eql n1 n2 = false := by cases n1 <;> cases n2 <;> first | rfl | exact absurd rfl hs
    rcases Nat.lt_trichotomy (lv xs) (lv ys) with hlt | heq | hgt
    · have hcm : cmpI (lv xs) (lv ys) = -1 := by rw [cmpI, if_pos hlt]
      have hle : lv xs ≤ lv ys := by omega
      have hlen := len_le x2 y2 x3 hle
      rw [hcm] at hcmpL
      repeat' first
        | (first | refine tc_seq ?_ | refine tc_region ?_ | refine at_seq_normal ?_ | refine tl_nil ?_ | refine tl_cons ?_ | refine tl_cons_none ?_ | refine op_assign ?_ | refine op_fieldAddr ?_ | refine op_load ?_ | refine op_load_agg ?_ | refine op_icmp ?_ | refine op_bcmp ?_ | refine op_build ?_ | (refine op_alloc ?_; intro _) | (refine op_box ?_; intro _) | refine op_store0 ?_ | refine op_store1 ?_ | refine op_store2 ?_ | refine op_store3 ?_ | refine op_store4 ?_ | refine op_store5 ?_ | refine op_storeK rfl ?_ | refine op_loadK rfl ?_ | refine op_load_aggK rfl ?_ | refine tc_cond_t ?_ | refine tc_cond_f ?_ | refine tc_cond (fun _ => ?_) (fun _ => ?_) | refine tc_block ?_ | refine tc_skip ?_ | refine tc_ret ?_ | refine at_seq_ret ?_ | refine at_block_normal ?_ | refine at_block_ret ?_ | fail)
        | (refine op_call ((hcmpL _ (x1.mono fun e he => by simp [he]) (y1.mono fun e he => by simp [he])).mono ?_); rintro _ _ ⟨rfl, rfl⟩)
        | fail
      rename_i k2 k3 k4
      apply fun hole0 hole1 hole2 hole3 hole4 hole5 hE hD hml hdl hpr prem fin => tc_drawn 8 [is hole0, is hole1, is hole2, is hole3, is hole4, is hole5, (fun w _ G => IsL (lv ys - lv xs) (L + M + 1) w G), (fun w _ G => IsW (nval n1 xs + nval n2 ys) (L + M + 1) w G)]
        [some 36, some 37, some 38, some 39, some 40, some 41, some 42, some 43, none] [[], [0], [], [2], [], [4], [3, 5], [1, 6]] mixed ⟨(is_mono _), (is_mono _), (is_mono _), (is_mono _), (is_mono _), (is_mono _), (fun _ _ _ _ h hs => IsL.mono h hs), (fun _ _ _ _ h hs => IsW.mono h hs), trivial⟩ prem fin hE hD rfl hml hdl hpr
      rotate_left 7
      · first | kernel_rfl | exact rfl
      · first | kernel_rfl | exact rfl
      · exact Nat.le_of_ble_eq_true rfl
      · first | kernel_rfl | exact rfl
      · first | kernel_rfl | exact rfl
      refine ⟨fun G hG => ?_, fun G hG => ?_, fun G hG => ?_, fun G hG => ?_, fun G hG => ?_, fun G hG => ?_, fun G hG => ?_, fun G hG => ?_, trivial⟩
      · simp only [with2, Step2, nthDst, putO]
        (refine op_fieldAddr ?_; exact ⟨[], rfl, rfl, rfl⟩)
      · rintro _ _ ⟨rfl, rfl⟩ -
        simp only [with2, Step2, nthDst, putO]
        ((first | refine op_load ?_ | refine op_load_agg ?_ | refine op_load ?_ (hm := Sub.mem (by assumption) (by (repeat (apply List.mem_cons_of_mem)); assumption)) | refine op_load_agg ?_ (hm := Sub.mem (by assumption) (by (repeat (apply List.mem_cons_of_mem)); assumption)) | refine op_loadH hG rfl ?_ | refine op_load_aggH hG rfl ?_); exact ⟨[], rfl, rfl, rfl⟩)
      · simp only [with2, Step2, nthDst, putO]
        (refine op_fieldAddr ?_; exact ⟨[], rfl, rfl, rfl⟩)
      · rintro _ _ ⟨rfl, rfl⟩ -
        simp only [with2, Step2, nthDst, putO]
        ((first | refine op_load ?_ | refine op_load_agg ?_ | refine op_load ?_ (hm := Sub.mem (by assumption) (by (repeat (apply List.mem_cons_of_mem)); assumption)) | refine op_load_agg ?_ (hm := Sub.mem (by assumption) (by (repeat (apply List.mem_cons_of_mem)); assumption)) | refine op_loadH hG rfl ?_ | refine op_load_aggH hG rfl ?_); exact ⟨[], rfl, rfl, rfl⟩)
      · simp only [with2, Step2, nthDst, putO]
        (refine op_fieldAddr ?_; exact ⟨[], rfl, rfl, rfl⟩)
      · rintro _ _ ⟨rfl, rfl⟩ -
        simp only [with2, Step2, nthDst, putO]
        ((first | refine op_load ?_ | refine op_load_agg ?_ | refine op_load ?_ (hm := Sub.mem (by assumption) (by (repeat (apply List.mem_cons_of_mem)); assumption)) | refine op_load_agg ?_ (hm := Sub.mem (by assumption) (by (repeat (apply List.mem_cons_of_mem)); assumption)) | refine op_loadH hG rfl ?_ | refine op_load_aggH hG rfl ?_); exact ⟨[], rfl, rfl, rfl⟩)
      · rintro _ _ ⟨rfl, rfl⟩ - _ _ ⟨rfl, rfl⟩ -
        simp only [with2, Step2, nthDst, putO]
        (refine op_call ((subLimbs a2 a1 c2 c1 ys xs _ (y1.mono fun e he => hG e (by simp [he])) (x1.mono fun e he => hG e (by simp [he])) y2 x2 (by omega) hlen hle).mono ?_); rintro w _ ⟨zs, ⟨a, c, rfl⟩, ex, rfl, z1, z2, z3, z4, z5⟩; exact ⟨ex, rfl, zs, a, c, rfl, z1, z2, z3, by omega, by omega⟩)
      · rintro _ _ ⟨rfl, rfl⟩ - _ _ ⟨zs, a, c, rfl, z1, z2, z3, z4, z5⟩ -
        simp only [with2, Step2, nthDst, putO]
        (refine op_build ?_; exact ⟨[], rfl, n2, zs, a, c, rfl, z1, z2, z3, by (unfold nval; cases n1 <;> cases n2 <;> first | (exact absurd rfl hs) | (simp only [if_true, if_false, Bool.false_eq_true]; omega)), (fun hb => by omega), z5⟩)
      · rintro _ _ _ _ _ _ _ _ _ _ _ _ _ _ _ _ ⟨⟨nz, zr, ar, cr, rfl, r1, r2, r3, r4, r5, r6⟩, ⟨zs, a, c, rfl, z1, z2, z3, z4, z5⟩, ⟨rfl, rfl⟩, ⟨rfl, rfl⟩, ⟨rfl, rfl⟩, ⟨rfl, rfl⟩, ⟨rfl, rfl⟩, ⟨rfl, rfl⟩, _⟩
        simp only [List.nil_append, List.cons_append, List.append_nil, List.drop_succ_cons, List.drop_zero, nthDst, putO]
        rename_i e1 e2 _
        refine tl_cons_none ?_
        refine op_perm (mid2 _ _ (k4, _) _).symm ?_
        refine op_store0 ?_
        repeat' first
          | refine tc_seq ?_ | refine tc_region ?_ | refine at_seq_normal ?_ | refine tl_nil ?_ | refine tl_cons ?_ | refine tl_cons_none ?_ | refine op_assign ?_ | refine op_fieldAddr ?_ | refine op_load ?_ | refine op_load_agg ?_
          | refine op_icmp ?_ | refine op_bcmp ?_ | refine op_build ?_ | (refine op_alloc ?_; intro _) | (refine op_box ?_; intro _) | refine op_store0 ?_ | refine op_store1 ?_ | refine op_store2 ?_ | refine op_store3 ?_ | refine op_store4 ?_
          | refine op_store5 ?_ | refine op_storeK rfl ?_ | refine op_loadK rfl ?_ | refine op_load_aggK rfl ?_ | refine tc_cond_t ?_ | refine tc_cond_f ?_ | refine tc_cond (fun _ => ?_) (fun _ => ?_) | refine tc_block ?_ | refine tc_skip ?_ | refine tc_ret ?_
          | refine at_seq_ret ?_ | refine at_block_normal ?_ | refine at_block_ret ?_
        refine ret_one (.agg (T := 28) (k := k4) (off := 0) (m := [.bool nz, .slice ar zr.length cr]) rfl rfl mem0 rfl rfl) (hG := List.Sublist.refl _) (hk := ⟨_, ex2_eq _ _, ?_⟩)
        simp only [List.nil_append] at r1
        exact IsW.skip ⟨nz, zr, ar, cr, rfl, r1, r2, r3, r4, r5, r6⟩ (mid2_mem noU2)
    · have hcm : cmpI (lv xs) (lv ys) = 0 := by rw [cmpI, if_neg (by omega), if_pos heq]
      rw [hcm] at hcmpL
      repeat' first
        | (first | refine tc_seq ?_ | refine tc_region ?_ | refine at_seq_normal ?_ | refine tl_nil ?_ | refine tl_cons ?_ | refine tl_cons_none ?_ | refine op_assign ?_ | refine op_fieldAddr ?_ | refine op_load ?_ | refine op_load_agg ?_ | refine op_icmp ?_ | refine op_bcmp ?_ | refine op_build ?_ | (refine op_alloc ?_; intro _) | (refine op_box ?_; intro _) | refine op_store0 ?_ | refine op_store1 ?_ | refine op_store2 ?_ | refine op_store3 ?_ | refine op_store4 ?_ | refine op_store5 ?_ | refine op_storeK rfl ?_ | refine op_loadK rfl ?_ | refine op_load_aggK rfl ?_ | refine tc_cond_t ?_ | refine tc_cond_f ?_ | refine tc_cond (fun _ => ?_) (fun _ => ?_) | refine tc_block ?_ | refine tc_skip ?_ | refine tc_ret ?_ | refine at_seq_ret ?_ | refine at_block_normal ?_ | refine at_block_ret ?_ | fail)
        | (refine op_call ((hcmpL _ (x1.mono fun e he => by simp [he]) (y1.mono fun e he => by simp [he])).mono ?_); rintro _ _ ⟨rfl, rfl⟩)
        | fail
      rename_i k2 k3 k4
      refine ret_one (.agg (T := 28) (k := k4) (off := 0) (m := [.bool false, .slice none 0 0]) rfl rfl mem0 rfl rfl) (hG := List.Sublist.refl _) (hk := ⟨[(k4, _), (k3, _), (k2, _)], rfl, false, [], none, 0, rfl, US.nil, (fun x hx => by cases hx), (fun h => absurd rfl h), ?_, (fun h => by cases h), Nat.zero_le _⟩)
      unfold nval; rw [heq]; cases n1 <;> cases n2 <;> first | (exact absurd rfl hs) | (simp only [if_true, if_false, Bool.false_eq_true, lv]; omega)
    · have hcm : cmpI (lv xs) (lv ys) = 1 := by rw [cmpI, if_neg (by omega), if_neg (by omega)]
      have hle : lv ys ≤ lv xs := by omega
      have hlen := len_le y2 x2 y3 hle
      rw [hcm] at hcmpL
      repeat' first
        | (first | refine tc_seq ?_ | refine tc_region ?_ | refine at_seq_normal ?_ | refine tl_nil ?_ | refine tl_cons ?_ | refine tl_cons_none ?_ | refine op_assign ?_ | refine op_fieldAddr ?_ | refine op_load ?_ | refine op_load_agg ?_ | refine op_icmp ?_ | refine op_bcmp ?_ | refine op_build ?_ | (refine op_alloc ?_; intro _) | (refine op_box ?_; intro _) | refine op_store0 ?_ | refine op_store1 ?_ | refine op_store2 ?_ | refine op_store3 ?_ | refine op_store4 ?_ | refine op_store5 ?_ | refine op_storeK rfl ?_ | refine op_loadK rfl ?_ | refine op_load_aggK rfl ?_ | refine tc_cond_t ?_ | refine tc_cond_f ?_ | refine tc_cond (fun _ => ?_) (fun _ => ?_) | refine tc_block ?_ | refine tc_skip ?_ | refine tc_ret ?_ | refine at_seq_ret ?_ | refine at_block_normal ?_ | refine at_block_ret ?_ | fail)
        | (refine op_call ((hcmpL _ (x1.mono fun e he => by simp [he]) (y1.mono fun e he => by simp [he])).mono ?_); rintro _ _ ⟨rfl, rfl⟩)
        | fail
      rename_i k2 k3 k4
      apply fun hole0 hole1 hole2 hole3 hole4 hole5 hE hD hml hdl hpr prem fin => tc_drawn 8 [is hole0, is hole1, is hole2, is hole3, is hole4, is hole5, (fun w _ G => IsL (lv xs - lv ys) (L + M + 1) w G), (fun w _ G => IsW (nval n1 xs + nval n2 ys) (L + M + 1) w G)]
        [some 28, some 29, some 30, some 31, some 32, some 33, some 34, some 35, none] [[], [0], [], [2], [], [4], [3, 5], [1, 6]] mixed ⟨(is_mono _), (is_mono _), (is_mono _), (is_mono _), (is_mono _), (is_mono _), (fun _ _ _ _ h hs => IsL.mono h hs), (fun _ _ _ _ h hs => IsW.mono h hs), trivial⟩ prem fin hE hD rfl hml hdl hpr
      rotate_left 7
      · first | kernel_rfl | exact rfl
      · first | kernel_rfl | exact rfl
      · exact Nat.le_of_ble_eq_true rfl
      · first | kernel_rfl | exact rfl
      · first | kernel_rfl | exact rfl
      refine ⟨fun G hG => ?_, fun G hG => ?_, fun G hG => ?_, fun G hG => ?_, fun G hG => ?_, fun G hG => ?_, fun G hG => ?_, fun G hG => ?_, trivial⟩
      · simp only [with2, Step2, nthDst, putO]
        (refine op_fieldAddr ?_; exact ⟨[], rfl, rfl, rfl⟩)
      · rintro _ _ ⟨rfl, rfl⟩ -
        simp only [with2, Step2, nthDst, putO]
        ((first | refine op_load ?_ | refine op_load_agg ?_ | refine op_load ?_ (hm := Sub.mem (by assumption) (by (repeat (apply List.mem_cons_of_mem)); assumption)) | refine op_load_agg ?_ (hm := Sub.mem (by assumption) (by (repeat (apply List.mem_cons_of_mem)); assumption)) | refine op_loadH hG rfl ?_ | refine op_load_aggH hG rfl ?_); exact ⟨[], rfl, rfl, rfl⟩)
      · simp only [with2, Step2, nthDst, putO]
        (refine op_fieldAddr ?_; exact ⟨[], rfl, rfl, rfl⟩)
      · rintro _ _ ⟨rfl, rfl⟩ -
        simp only [with2, Step2, nthDst, putO]
        ((first | refine op_load ?_ | refine op_load_agg ?_ | refine op_load ?_ (hm := Sub.mem (by assumption) (by (repeat (apply List.mem_cons_of_mem)); assumption)) | refine op_load_agg ?_ (hm := Sub.mem (by assumption) (by (repeat (apply List.mem_cons_of_mem)); assumption)) | refine op_loadH hG rfl ?_ | refine op_load_aggH hG rfl ?_); exact ⟨[], rfl, rfl, rfl⟩)
      · simp only [with2, Step2, nthDst, putO]
        (refine op_fieldAddr ?_; exact ⟨[], rfl, rfl, rfl⟩)
      · rintro _ _ ⟨rfl, rfl⟩ -
        simp only [with2, Step2, nthDst, putO]
        ((first | refine op_load ?_ | refine op_load_agg ?_ | refine op_load ?_ (hm := Sub.mem (by assumption) (by (repeat (apply List.mem_cons_of_mem)); assumption)) | refine op_load_agg ?_ (hm := Sub.mem (by assumption) (by (repeat (apply List.mem_cons_of_mem)); assumption)) | refine op_loadH hG rfl ?_ | refine op_load_aggH hG rfl ?_); exact ⟨[], rfl, rfl, rfl⟩)
      · rintro _ _ ⟨rfl, rfl⟩ - _ _ ⟨rfl, rfl⟩ -
        simp only [with2, Step2, nthDst, putO]
        (refine op_call ((subLimbs a1 a2 c1 c2 xs ys _ (x1.mono fun e he => hG e (by simp [he])) (y1.mono fun e he => hG e (by simp [he])) x2 y2 (by omega) hlen hle).mono ?_); rintro w _ ⟨zs, ⟨a, c, rfl⟩, ex, rfl, z1, z2, z3, z4, z5⟩; exact ⟨ex, rfl, zs, a, c, rfl, z1, z2, z3, by omega, by omega⟩)
      · rintro _ _ ⟨rfl, rfl⟩ - _ _ ⟨zs, a, c, rfl, z1, z2, z3, z4, z5⟩ -
        simp only [with2, Step2, nthDst, putO]
        (refine op_build ?_; exact ⟨[], rfl, n1, zs, a, c, rfl, z1, z2, z3, by (unfold nval; cases n1 <;> cases n2 <;> first | (exact absurd rfl hs) | (simp only [if_true, if_false, Bool.false_eq_true]; omega)), (fun hb => by omega), z5⟩)
      · rintro _ _ _ _ _ _ _ _ _ _ _ _ _ _ _ _ ⟨⟨nz, zr, ar, cr, rfl, r1, r2, r3, r4, r5, r6⟩, ⟨zs, a, c, rfl, z1, z2, z3, z4, z5⟩, ⟨rfl, rfl⟩, ⟨rfl, rfl⟩, ⟨rfl, rfl⟩, ⟨rfl, rfl⟩, ⟨rfl, rfl⟩, ⟨rfl, rfl⟩, _⟩
        simp only [List.nil_append, List.cons_append, List.append_nil, List.drop_succ_cons, List.drop_zero, nthDst, putO]
        rename_i e1 e2 _
        refine tl_cons_none ?_
        refine op_perm (mid2 _ _ (k4, _) _).symm ?_
        refine op_store0 ?_
        repeat' first
          | refine tc_seq ?_ | refine tc_region ?_ | refine at_seq_normal ?_ | refine tl_nil ?_ | refine tl_cons ?_ | refine tl_cons_none ?_ | refine op_assign ?_ | refine op_fieldAddr ?_ | refine op_load ?_ | refine op_load_agg ?_
          | refine op_icmp ?_ | refine op_bcmp ?_ | refine op_build ?_ | (refine op_alloc ?_; intro _) | (refine op_box ?_; intro _) | refine op_store0 ?_ | refine op_store1 ?_ | refine op_store2 ?_ | refine op_store3 ?_ | refine op_store4 ?_
          | refine op_store5 ?_ | refine op_storeK rfl ?_ | refine op_loadK rfl ?_ | refine op_load_aggK rfl ?_ | refine tc_cond_t ?_ | refine tc_cond_f ?_ | refine tc_cond (fun _ => ?_) (fun _ => ?_) | refine tc_block ?_ | refine tc_skip ?_ | refine tc_ret ?_
          | refine at_seq_ret ?_ | refine at_block_normal ?_ | refine at_block_ret ?_
        refine ret_one (.agg (T := 28) (k := k4) (off := 0) (m := [.bool nz, .slice ar zr.length cr]) rfl rfl mem0 rfl rfl) (hG := List.Sublist.refl _) (hk := ⟨_, ex2_eq _ _, ?_⟩)
        simp only [List.nil_append] at r1
        exact IsW.skip ⟨nz, zr, ar, cr, rfl, r1, r2, r3, r4, r5, r6⟩ (mid2_mem noU2)
end Go.Proofs.YtelhfcjchpdkiaaDoor.Lmb

set_option linter.unusedVariables false
set_option linter.unusedSimpArgs false
namespace Go.Proofs.YtelhfcjchpdkiaaDoor.Lmb
open Go.Lg

section
variable {P : Program} {W : World} {n : Nat} {ds : List Deferred} {E : Env}
variable {ty : TypeId} {pos : String} {af : Array Edge} {dst : Option Tmp} {g : Option (Nat × Bool)}
theorem y_fieldAddr {t i x k off o} [hf : FieldAt P t i o] (hx : evalE E x = some (.pointer (some ⟨k, off, none⟩)) := by exact rfl) : YT P n ds ⟨dst, .fieldAddr t x i, ty, pos, af, g⟩ E (.pointer (some ⟨k, off + o, none⟩)) := y_of fun a w ho => by
  obtain ⟨fs, f, j, h1, h2, h3, h4, h5⟩ := hf.eq
  simp only [execOp, ho.eval hx]
  refine run_v ?_
  haveI : Und P t (.struct fs) := ⟨h1⟩
  refine (sem_run_bind P _ _ w _ w (Go.Lg.run_underlying (t := t) w)).trans ?_
  simp only [h2]
  refine (sem_run_bind P _ _ w ⟨k, off, none⟩ w rfl).trans ?_
  refine (sem_run_bind P _ _ w ⟨k, off + o, none⟩ w ?_).trans rfl
  refine (sem_run_bind P _ _ w j.size w ((sem_run_bind P _ _ w j w (Go.Lg.run_typeInfo h4 w)).trans rfl)).trans ?_
  rw [if_neg h5, h3, addr_add]; rfl
end
theorem ex1_eq {α : Type} {x a : α} {B exB H : List α} (h : B = exB ++ a :: H) : x :: B = (x :: (exB ++ [a])) ++ H := by simp [h]
theorem or_add {x r carry : Nat} (hr : r < 32) (hc : carry < 2 ^ r) : ((x * 2 ^ r) % 4294967296) ||| carry = (x * 2 ^ r) % 4294967296 + carry := by
  have e : (4294967296 : Nat) = 2 ^ (32 - r) * 2 ^ r := by rw [← Nat.pow_add, Nat.sub_add_cancel (by omega)]
  rw [e, Nat.mul_mod_mul_right, ← Nat.shiftLeft_eq, Nat.shiftLeft_add_eq_or_of_lt hc]
theorem ibits_or {a b : Nat} (ha : a < 4294967296) (hb : b < 4294967296) (hab : (a ||| b) < 4294967296) : ibits .or .u32 ((a : Nat) : Int) ((b : Nat) : Int) = ((a ||| b : Nat) : Int) := by
  have e1 : BitVec.ofInt IntKind.u32.bits ((a : Nat) : Int) = BitVec.ofNat 32 a := by
    show BitVec.ofInt 32 ((a : Nat) : Int) = _
    exact BitVec.ofInt_natCast 32 a
  have e2 : BitVec.ofInt IntKind.u32.bits ((b : Nat) : Int) = BitVec.ofNat 32 b := by
    show BitVec.ofInt 32 ((b : Nat) : Int) = _
    exact BitVec.ofInt_natCast 32 b
  show IntKind.u32.wrap (((BitVec.ofInt IntKind.u32.bits ((a : Nat) : Int) ||| BitVec.ofInt IntKind.u32.bits ((b : Nat) : Int)).toNat : Nat) : Int) = _
  rw [e1, e2]
  show IntKind.u32.wrap (((BitVec.ofNat 32 a ||| BitVec.ofNat 32 b : BitVec 32).toNat : Nat) : Int) = _
  rw [BitVec.toNat_or, BitVec.toNat_ofNat, BitVec.toNat_ofNat, Nat.mod_eq_of_lt (by omega), Nat.mod_eq_of_lt (by omega), wrap_u32 (by omega)]
  omega

set_option maxHeartbeats 16000000 in
theorem wUp (u : Value) (n : Int) (L k : Nat) (H : Heap) (hu : IsW n L u H) (hL : L < 2 ^ 30) (hk : k < 2 ^ 30) : Does Tryd.prog 28 [u, .int .i64 (k : Int)] H fun w H' => ∃ ex, H' = ex ++ H ∧ IsW (n * ((2 ^ k : Nat) : Int)) (L + k / 32 + 1) w H' := by
  obtain ⟨neg, xs, a, c, rfl, x1, x2, x3, rfl, x5, x6⟩ := hu
  refine fn_enter 56 Tryd.func28 fun W => ?_
  by_cases hl : xs.length = 0
  · have hc : icmp .eql (xs.length : Int) 0 = true := by simp only [icmp, beq_iff_eq]; omega
    obtain rfl : xs = [] := List.length_eq_zero_iff.1 hl
    repeat' first
      | refine tc_seq ?_ | refine tc_region ?_ | refine at_seq_normal ?_ | refine tl_nil ?_ | refine tl_cons ?_ | refine tl_cons_none ?_ | refine op_move ?_ | refine op_assign ?_ | refine op_fieldAddr ?_ | refine op_load ?_
      | refine op_load_agg ?_ | refine op_indexC ?_ | refine op_indexAddr1 ?_ | refine op_indexAddr ?_ | refine op_icmp ?_ | refine op_fcmp ?_ | refine op_iarith ?_ | refine op_bcmp ?_ | refine op_unop_not ?_ | refine op_unop_neg_float ?_
      | refine op_unop_neg_int ?_ | refine op_len_slice ?_ | refine op_pick_true ?_ | refine op_pick_false ?_ | refine op_pick_true' ?_ | refine op_pick_false' ?_ | refine op_build ?_ | refine op_extract ?_ | refine op_makeInterface ?_ | refine op_typeAssert ?_
      | refine op_ptr_nil ?_ | refine op_nilCheck_ptr ?_ | refine op_nilCheck_meth ?_ | refine op_makeMeth ?_ | refine op_makeFunc ?_ | refine op_itof ?_ | refine op_itoi ?_ | refine op_ftoi ?_ | refine op_iquo ?_ | refine op_irem ?_
      | refine op_ibits ?_ | refine op_slice_isnil ?_ | refine op_slice_notnil ?_ | refine op_imax ?_ | refine op_imin ?_ | refine op_shl ?_ | refine op_shr ?_ | (refine op_alloc ?_; intro _) | (refine op_box ?_; intro _) | (refine op_buildSlice ?_; intro _)
      | (refine op_farith ?_; intro _ _) | refine op_store0 ?_ | refine op_store1 ?_ | refine op_store2 ?_ | refine op_store3 ?_ | refine op_store4 ?_ | refine op_store5 ?_ | refine op_storeK rfl ?_ | refine op_loadK rfl ?_ | refine op_load_aggK rfl ?_
      | refine tc_cond_t ?_ | refine tc_cond_f ?_ | refine tc_cond (fun _ => ?_) (fun _ => ?_) | refine tc_block ?_ | refine tc_skip ?_ | refine tc_ret ?_ | refine tc_exit ?_ | refine at_seq_ret ?_ | refine at_seq_exit ?_ | refine at_block_normal ?_
      | refine at_block_ret ?_ | refine at_block_exit_self ?_ | refine at_block_exit_ne ?_ | refine at_loop_ret ?_ | refine at_loop_exit ?_
    refine ret_one (.agg (T := 28) (off := 0) (m := [.bool neg, .slice a ([] : List Nat).length c]) rfl rfl mem0 rfl rfl) (hG := List.Sublist.refl _) (hk := ⟨[_, _], rfl, neg, [], a, c, rfl, x1.mono fun e he => by simp [he], x2, x3, ?_, x5, Nat.zero_le _⟩)
    unfold nval; cases neg <;> simp [lv]
  have hc : icmp .eql (xs.length : Int) 0 = false := by simp only [icmp, beq_eq_false_iff_ne]; omega
  have hr : k % 32 < 32 := Nat.mod_lt _ (by decide)
  have hkq := Nat.div_add_mod k 32
  have eq1 : IntKind.i64.wrap (Int.tdiv (k : Int) 32) = ((k / 32 : Nat) : Int) := by
    have : Int.tdiv (k : Int) 32 = ((k / 32 : Nat) : Int) := (Int.ofNat_tdiv k 32).symm
    rw [this, wrap_in (by omega) (by omega)]
  have er1 : Int.tmod (k : Int) 32 = ((k % 32 : Nat) : Int) := (Int.ofNat_tmod k 32).symm
  generalize hq : k / 32 = q at *
  generalize hrr : k % 32 = r at *
  have e2 : IntKind.i64.wrap (iarith .add ((q : Nat) : Int) (xs.length : Int)) = ((q + xs.length : Nat) : Int) := by rw [wrap_add (by omega) (by omega)]; omega
  have e3 : IntKind.i64.wrap (iarith .add ((q + xs.length : Nat) : Int) 1) = ((q + xs.length + 1 : Nat) : Int) := by rw [wrap_add (by omega) (by omega)]; omega
  repeat' first
    | (rw [eq1])
    | (rw [e2])
    | (rw [e3])
    | refine op_iquo (v := 32) ?_
    | (refine op_makeSlice (l := q) (c := q + xs.length + 1) (fun kO => ?_) (by omega) (by omega) (by omega); rw [made_rep])
    | (first | refine tc_seq ?_ | refine tc_region ?_ | refine at_seq_normal ?_ | refine tl_nil ?_ | refine tl_cons ?_ | refine tl_cons_none ?_ | refine op_move ?_ | refine op_assign ?_ | refine op_fieldAddr ?_ | refine op_load ?_ | refine op_load_agg ?_ | refine op_indexC ?_ | refine op_indexAddr1 ?_ | refine op_indexAddr ?_ | refine op_icmp ?_ | refine op_fcmp ?_ | refine op_iarith ?_ | refine op_bcmp ?_ | refine op_unop_not ?_ | refine op_unop_neg_float ?_ | refine op_unop_neg_int ?_ | refine op_len_slice ?_ | refine op_pick_true ?_ | refine op_pick_false ?_ | refine op_pick_true' ?_ | refine op_pick_false' ?_ | refine op_build ?_ | refine op_extract ?_ | refine op_makeInterface ?_ | refine op_typeAssert ?_ | refine op_ptr_nil ?_ | refine op_nilCheck_ptr ?_ | refine op_nilCheck_meth ?_ | refine op_makeMeth ?_ | refine op_makeFunc ?_ | refine op_itof ?_ | refine op_itoi ?_ | refine op_ftoi ?_ | refine op_iquo ?_ | refine op_irem ?_ | refine op_ibits ?_ | refine op_slice_isnil ?_ | refine op_slice_notnil ?_ | refine op_imax ?_ | refine op_imin ?_ | refine op_shl ?_ | refine op_shr ?_ | (refine op_alloc ?_; intro _) | (refine op_box ?_; intro _) | (refine op_buildSlice ?_; intro _) | (refine op_farith ?_; intro _ _) | refine op_store0 ?_ | refine op_store1 ?_ | refine op_store2 ?_ | refine op_store3 ?_ | refine op_store4 ?_ | refine op_store5 ?_ | refine op_storeK rfl ?_ | refine op_loadK rfl ?_ | refine op_load_aggK rfl ?_ | refine tc_cond_t ?_ | refine tc_cond_f ?_ | refine tc_cond (fun _ => ?_) (fun _ => ?_) | refine tc_block ?_ | refine tc_skip ?_ | refine tc_ret ?_ | refine tc_exit ?_ | refine at_seq_ret ?_ | refine at_seq_exit ?_ | refine at_block_normal ?_ | refine at_block_ret ?_ | refine at_block_exit_self ?_ | refine at_block_exit_ne ?_ | refine at_loop_ret ?_ | refine at_loop_exit ?_ | fail)
    | fail
  rename_i k2 k4
  rw [show List.replicate (q + xs.length + 1) (Value.int IntKind.u32 0) = (List.replicate q 0).map uv ++ List.replicate (xs.length + 1) (Value.int IntKind.u32 0) by rw [Nat.add_assoc, ← List.replicate_append_replicate, List.map_replicate]; rfl]
  have hm2 : (k2, Obj.cells ⟨[.bool neg, .slice a xs.length c]⟩ 28 (0, 0)) ∈ (k4, Obj.cells ⟨[.bool false, .slice none 0 0]⟩ 28 (0, 0)) :: (k2, Obj.cells ⟨[.bool neg, .slice a xs.length c]⟩ 28 (0, 0)) :: H := by simp
  refine tc_loopK [(1, _), (2, _), (4, _), (26, _), (27, _)] (by repeat (first | exact trivial | refine ⟨rfl, ?_⟩)) (fun p : Nat × Nat × Buf × List Nat => [(28, .int .i64 (p.1 : Int)), (6, .int .u32 (p.2.1 : Int)), (5, bufV p.2.2.1 (q + p.1))]) (fun p => bufH 72 p.2.2.1 (p.2.2.2.map uv) ((k4, Obj.cells ⟨[.bool false, .slice none 0 0]⟩ 28 (0, 0)) :: (k2, Obj.cells ⟨[.bool neg, .slice a xs.length c]⟩ 28 (0, 0)) :: H))
    (fun p => p.1 ≤ xs.length ∧ bufOk 1 p.2.2.1 (q + p.1) (p.2.2.2.map uv) ∧ p.2.2.2.length = q + p.1 ∧ Lm p.2.2.2 ∧ p.2.1 < 2 ^ r ∧ lv p.2.2.2 + 4294967296 ^ (q + p.1) * p.2.1 = 4294967296 ^ q * 2 ^ r * lv (xs.take p.1)) (fun p => xs.length - p.1)
    (0, 0, some (kO, q + xs.length + 1, List.replicate (xs.length + 1) (.int .u32 0)), List.replicate q 0) ⟨Nat.zero_le _, ⟨by simp only; omega, by simp only [maxLen]; omega, by simp, by simp; omega⟩, by simp, (fun x hx => by rw [(List.mem_replicate.1 hx).2]; decide), Nat.two_pow_pos r, by simp [lv, lv_rep]⟩ ⟨rfl, rfl, rfl, trivial⟩ (List.Sublist.refl _) ?_
  rintro ⟨j, carry, buf, zs⟩ ⟨h1, h2, h3, h4, h5, h6⟩
  simp only at h1 h2 h3 h4 h5 h6 ⊢
  have hrb : 2 ^ r ≤ 2 ^ 31 := Nat.pow_le_pow_right (by decide) (by omega)
  by_cases hlt : j < xs.length
  · have hbb : icmp .lss (j : Int) (xs.length : Int) = true := by rw [lss_nat]; simpa using hlt
    obtain ⟨kA, oA, LA, TA, zA, rfl, mA, allA⟩ := us_block x1 (fun e => by rw [e] at hlt; exact absurd hlt (Nat.not_lt_zero _))
    have mA2 : (kA, Obj.cells ⟨LA⟩ TA zA) ∈ bufH 72 buf (zs.map uv) ((k4, Obj.cells ⟨[.bool false, .slice none 0 0]⟩ 28 (0, 0)) :: (k2, Obj.cells ⟨[.bool neg, .slice (some ⟨kA, oA, none⟩) xs.length c]⟩ 28 (0, 0)) :: H) := (bufH_sub _ _ _ _).subset (List.mem_cons_of_mem _ (List.mem_cons_of_mem _ mA))
    have lA := allA j hlt
    have bA := getD_lt x2 j
    have tA := lv_take xs j
    have e4 : IntKind.u64.wrap ((xs.getD j 0 : Nat) : Int) = ((xs.getD j 0 : Nat) : Int) := wrap_u64 (by omega) (by omega)
    clear allA
    generalize xs.getD j 0 = x at *
    have hxr : x * 2 ^ r < 4294967296 * 2 ^ r := Nat.mul_lt_mul_of_pos_right bA (Nat.two_pow_pos r)
    have e5 : IntKind.u64.wrap ((x : Int) * 2 ^ min (((r : Nat) : Int)).toNat IntKind.u64.bits) = ((x * 2 ^ r : Nat) : Int) := by
      have hmin : min (((r : Nat) : Int)).toNat IntKind.u64.bits = r := by
        show min (((r : Nat) : Int)).toNat 64 = r
        rw [Int.toNat_natCast]; omega
      rw [hmin]
      have : (x : Int) * 2 ^ r = ((x * 2 ^ r : Nat) : Int) := by rw [Int.natCast_mul, Int.natCast_pow]; rfl
      rw [this, wrap_u64 (by omega) (by omega)]
    have hor := or_add (x := x) hr h5
    have hd := Nat.div_add_mod (x * 2 ^ r) 4294967296
    have hml : (x * 2 ^ r) % 4294967296 < 4294967296 := Nat.mod_lt _ (by decide)
    have hdl : (x * 2 ^ r) / 4294967296 < 2 ^ r := Nat.div_lt_of_lt_mul hxr
    have hsum : (x * 2 ^ r) % 4294967296 + carry < 4294967296 := by
      have e : (4294967296 : Nat) = 2 ^ (32 - r) * 2 ^ r := by rw [← Nat.pow_add, Nat.sub_add_cancel (by omega)]
      have : (x * 2 ^ r) % 4294967296 = (x % 2 ^ (32 - r)) * 2 ^ r := by rw [e, Nat.mul_mod_mul_right]
      have hx3 := Nat.mod_lt x (Nat.two_pow_pos (32 - r))
      have := Nat.mul_le_mul_right (2 ^ r) (show x % 2 ^ (32 - r) + 1 ≤ 2 ^ (32 - r) by omega)
      rw [Nat.add_mul, ← e] at this
      omega
    have hval : lv (zs ++ [(x * 2 ^ r) % 4294967296 + carry]) + 4294967296 ^ (q + (j + 1)) * ((x * 2 ^ r) / 4294967296) = 4294967296 ^ q * 2 ^ r * lv (xs.take (j + 1)) := by
      rw [lv_app, h3, tA, Nat.mul_add (4294967296 ^ q * 2 ^ r)]
      simp only [lv, Nat.mul_zero, Nat.add_zero]
      have p1 : 4294967296 ^ (q + (j + 1)) * ((x * 2 ^ r) / 4294967296) + 4294967296 ^ (q + j) * ((x * 2 ^ r) % 4294967296) = 4294967296 ^ (q + j) * (x * 2 ^ r) := by
        rw [← Nat.add_assoc q j 1, Nat.pow_succ, Nat.mul_assoc, ← Nat.mul_add, hd]
      have p2 : 4294967296 ^ q * 2 ^ r * (4294967296 ^ j * x) = 4294967296 ^ (q + j) * (x * 2 ^ r) := by
        rw [Nat.pow_add]; simp only [Nat.mul_assoc, Nat.mul_left_comm, Nat.mul_comm]
      rw [p2, Nat.mul_add]
      omega
    have e6 : IntKind.u32.wrap ((x * 2 ^ r : Nat) : Int) = (((x * 2 ^ r) % 4294967296 : Nat) : Int) := by rw [wrap_u32 (by omega)]; omega
    have e7 : ibits .or .u32 (((x * 2 ^ r) % 4294967296 : Nat) : Int) (carry : Int) = (((x * 2 ^ r) % 4294967296 + carry : Nat) : Int) := by
      rw [ibits_or hml (by omega) (by rw [hor]; exact hsum), hor]
    have e8 : Int.fdiv ((x * 2 ^ r : Nat) : Int) (2 ^ min (32 : Int).toNat IntKind.u64.bits) = (((x * 2 ^ r) / 4294967296 : Nat) : Int) := by
      show Int.fdiv ((x * 2 ^ r : Nat) : Int) ((4294967296 : Nat) : Int) = _
      rw [Int.fdiv_eq_ediv_of_nonneg _ (by omega)]; rfl
    have e9 : IntKind.u32.wrap ((((x * 2 ^ r) / 4294967296 : Nat) : Nat) : Int) = (((x * 2 ^ r) / 4294967296 : Nat) : Int) := by rw [wrap_u32 (by omega)]; omega
    have hlm : Lm (zs ++ [(x * 2 ^ r) % 4294967296 + carry]) := fun y hy => by
      rcases List.mem_append.1 hy with h | h
      · exact h4 y h
      · rw [List.mem_singleton] at h; subst h; exact hsum
    clear hor hd hxr
    generalize (x * 2 ^ r) % 4294967296 + carry = lo at *
    generalize (x * 2 ^ r) / 4294967296 = hi at *
    repeat' first
      | (rw [e4])
      | (rw [er1])
      | (rw [e5])
      | (rw [e6])
      | (rw [e7])
      | (rw [e8])
      | (rw [e9])
      | refine op_irem (v := 32) ?_
      | refine op_shl (v := ((r : Nat) : Int)) ?_
      | refine op_shr (v := 32) ?_
      | refine op_ibits ?_
      | (refine op_append (H' := (k4, Obj.cells ⟨[.bool false, .slice none 0 0]⟩ 28 (0, 0)) :: (k2, Obj.cells ⟨[.bool neg, .slice (some ⟨kA, oA, none⟩) xs.length c]⟩ 28 (0, 0)) :: H) buf (q + j) (zs.map uv) [uv lo] (m := 1) h2 (fun buf' hok' => ?_) (by exact rfl) (by exact rfl) (List.sublist_cons_self _ _) List.mem_cons_self rfl rfl (by simp [Value.oneCell', uv]) (by decide) (by simp only [maxLen]; omega) (by omega))
      | (first | refine tc_seq ?_ | refine tc_region ?_ | refine at_seq_normal ?_ | refine tl_nil ?_ | refine tl_cons ?_ | refine tl_cons_none ?_ | refine op_move ?_ | refine op_assign ?_ | refine op_fieldAddr ?_ | refine op_load ?_ | refine op_load_agg ?_ | refine op_indexC ?_ | refine op_indexAddr1 ?_ | refine op_indexAddr ?_ | refine op_icmp ?_ | refine op_fcmp ?_ | refine op_iarith ?_ | refine op_bcmp ?_ | refine op_unop_not ?_ | refine op_unop_neg_float ?_ | refine op_unop_neg_int ?_ | refine op_len_slice ?_ | refine op_pick_true ?_ | refine op_pick_false ?_ | refine op_pick_true' ?_ | refine op_pick_false' ?_ | refine op_build ?_ | refine op_extract ?_ | refine op_makeInterface ?_ | refine op_typeAssert ?_ | refine op_ptr_nil ?_ | refine op_nilCheck_ptr ?_ | refine op_nilCheck_meth ?_ | refine op_makeMeth ?_ | refine op_makeFunc ?_ | refine op_itof ?_ | refine op_itoi ?_ | refine op_ftoi ?_ | refine op_iquo ?_ | refine op_irem ?_ | refine op_ibits ?_ | refine op_slice_isnil ?_ | refine op_slice_notnil ?_ | refine op_imax ?_ | refine op_imin ?_ | refine op_shl ?_ | refine op_shr ?_ | (refine op_alloc ?_; intro _) | (refine op_box ?_; intro _) | (refine op_buildSlice ?_; intro _) | (refine op_farith ?_; intro _ _) | refine op_store0 ?_ | refine op_store1 ?_ | refine op_store2 ?_ | refine op_store3 ?_ | refine op_store4 ?_ | refine op_store5 ?_ | refine op_storeK rfl ?_ | refine op_loadK rfl ?_ | refine op_load_aggK rfl ?_ | refine tc_cond_t ?_ | refine tc_cond_f ?_ | refine tc_cond (fun _ => ?_) (fun _ => ?_) | refine tc_block ?_ | refine tc_skip ?_ | refine tc_ret ?_ | refine tc_exit ?_ | refine at_seq_ret ?_ | refine at_seq_exit ?_ | refine at_block_normal ?_ | refine at_block_ret ?_ | refine at_block_exit_self ?_ | refine at_block_exit_ne ?_ | refine at_loop_ret ?_ | refine at_loop_exit ?_ | fail)
      | fail
    exact at_loopK (j + 1, hi, buf', zs ++ [lo]) ⟨hlt, by simp only [List.map_append]; exact hok', by simp [h3]; omega, hlm, hdl, hval⟩ (by simp only; omega) ⟨next_nat (by omega), rfl, rfl, trivial⟩ (by repeat (first | exact trivial | refine ⟨rfl, ?_⟩)) (by simp only [List.map_append]; exact List.Sublist.refl _)
  · have hbb : icmp .lss (j : Int) (xs.length : Int) = false := by rw [lss_nat]; simpa using hlt
    obtain rfl : j = xs.length := by omega
    rw [List.take_of_length_le (Nat.le_refl _)] at h6
    have hlm : Lm (zs ++ [carry]) := fun x hx => by
      rcases List.mem_append.1 hx with h | h
      · exact h4 x h
      · rw [List.mem_singleton] at h; subst h; omega
    have hval : lv (zs ++ [carry]) = lv xs * 2 ^ k := by
      rw [lv_app, h3]; simp only [lv, Nat.mul_zero, Nat.add_zero]
      rw [h6, ← hkq, Nat.pow_add, Nat.pow_mul]
      show 4294967296 ^ q * 2 ^ r * lv xs = lv xs * ((2 ^ 32) ^ q * 2 ^ r)
      rw [Nat.mul_comm]
    have hlen2 : (zs ++ [carry]).length = q + xs.length + 1 := by simp [h3]
    repeat' first
      | refine tc_seq ?_ | refine tc_region ?_ | refine at_seq_normal ?_ | refine tl_nil ?_ | refine tl_cons ?_ | refine tl_cons_none ?_ | refine op_move ?_ | refine op_assign ?_ | refine op_fieldAddr ?_ | refine op_load ?_
      | refine op_load_agg ?_ | refine op_indexC ?_ | refine op_indexAddr1 ?_ | refine op_indexAddr ?_ | refine op_icmp ?_ | refine op_fcmp ?_ | refine op_iarith ?_ | refine op_bcmp ?_ | refine op_unop_not ?_ | refine op_unop_neg_float ?_
      | refine op_unop_neg_int ?_ | refine op_len_slice ?_ | refine op_pick_true ?_ | refine op_pick_false ?_ | refine op_pick_true' ?_ | refine op_pick_false' ?_ | refine op_build ?_ | refine op_extract ?_ | refine op_makeInterface ?_ | refine op_typeAssert ?_
      | refine op_ptr_nil ?_ | refine op_nilCheck_ptr ?_ | refine op_nilCheck_meth ?_ | refine op_makeMeth ?_ | refine op_makeFunc ?_ | refine op_itof ?_ | refine op_itoi ?_ | refine op_ftoi ?_ | refine op_iquo ?_ | refine op_irem ?_
      | refine op_ibits ?_ | refine op_slice_isnil ?_ | refine op_slice_notnil ?_ | refine op_imax ?_ | refine op_imin ?_ | refine op_shl ?_ | refine op_shr ?_ | (refine op_alloc ?_; intro _) | (refine op_box ?_; intro _) | (refine op_buildSlice ?_; intro _)
      | (refine op_farith ?_; intro _ _) | refine op_store0 ?_ | refine op_store1 ?_ | refine op_store2 ?_ | refine op_store3 ?_ | refine op_store4 ?_ | refine op_store5 ?_ | refine op_storeK rfl ?_ | refine op_loadK rfl ?_ | refine op_load_aggK rfl ?_
      | refine tc_cond_t ?_ | refine tc_cond_f ?_ | refine tc_cond (fun _ => ?_) (fun _ => ?_) | refine tc_block ?_ | refine tc_skip ?_ | refine tc_ret ?_ | refine tc_exit ?_ | refine at_seq_ret ?_ | refine at_seq_exit ?_ | refine at_block_normal ?_
      | refine at_block_ret ?_ | refine at_block_exit_self ?_ | refine at_block_exit_ne ?_ | refine at_loop_ret ?_ | refine at_loop_exit ?_
    refine tc_anyQ mixed (by repeat (first | refine pq_seq ?_ | refine pq_block ?_ | refine pq_loop ?_ | exact pq_body)) fun hpq => ?_
    refine ta_take 0 rfl (by kernel_rfl) (by kernel_rfl) (by kernel_rfl) hpq rfl rfl (by decide) (by exact y_fieldAddr) ?_
    refine ta_take 2 rfl (by kernel_rfl) (by kernel_rfl) (by kernel_rfl) hpq rfl rfl (by decide) (by exact y_move) ?_
    refine ta_take 3 rfl (by kernel_rfl) (by kernel_rfl) (by kernel_rfl) hpq rfl rfl (by decide) (by exact y_move) ?_
    refine ta_two 1 4 (by kernel_rfl) rfl (by decide) rfl (by decide) ?_ ?_
    · first | refine op_load (hm := (bufH_sub _ _ _ _).subset hm2) ?_ | refine op_load (hm := List.mem_cons_of_mem _ ((bufH_sub _ _ _ _).subset hm2)) ?_
      refine ta_only 4 (by kernel_rfl) rfl (by decide) ?_
      refine op_buildSlice (fun kn => ?_)
      refine ta_only 5 (by kernel_rfl) rfl (by decide) ?_
      (refine op_append (H' := (k4, Obj.cells ⟨[.bool false, .slice none 0 0]⟩ 28 (0, 0)) :: (k2, Obj.cells ⟨[.bool neg, .slice a xs.length c]⟩ 28 (0, 0)) :: H) buf (q + xs.length) (zs.map uv) [uv carry] (m := 1) h2 (fun buf' hok' => ?_) (by exact rfl) (by exact rfl) (List.sublist_cons_self _ _) List.mem_cons_self rfl rfl (by simp [Value.oneCell', uv]) (by decide) (by simp only [maxLen]; omega) (by omega); rw [show zs.map uv ++ [uv carry] = (zs ++ [carry]).map uv by simp] at hok' ⊢; have hus := fun H => us_buf (e := 72) (H := H) hok'; obtain ⟨aZ, cZ, hvZ⟩ := (hus []).val; rw [hvZ] at hus ⊢)
      refine ta_only 6 (by kernel_rfl) rfl (by decide) ?_
      (refine op_call ((trim aZ cZ (zs ++ [carry]) _ (hus _) (by omega)).mono ?_); rintro _ _ ⟨nn, rfl, rfl, hn, hnrm, hlv⟩)
      refine ta_only 7 (by kernel_rfl) rfl (by decide) ?_
      refine op_build ?_
      refine ta_only0 8 (by kernel_rfl) rfl ?_
      (refine op_perm (bufH_swap _ _ _ (k4, _) _).symm ?_; refine op_store0 ?_)
      refine ta_done (by kernel_rfl) ?_
      repeat' first
        | refine tc_seq ?_ | refine tc_region ?_ | refine at_seq_normal ?_ | refine tl_nil ?_ | refine tl_cons ?_ | refine tl_cons_none ?_ | refine op_move ?_ | refine op_assign ?_ | refine op_fieldAddr ?_ | refine op_load ?_
        | refine op_load_agg ?_ | refine op_indexC ?_ | refine op_indexAddr1 ?_ | refine op_indexAddr ?_ | refine op_icmp ?_ | refine op_fcmp ?_ | refine op_iarith ?_ | refine op_bcmp ?_ | refine op_unop_not ?_ | refine op_unop_neg_float ?_
        | refine op_unop_neg_int ?_ | refine op_len_slice ?_ | refine op_pick_true ?_ | refine op_pick_false ?_ | refine op_pick_true' ?_ | refine op_pick_false' ?_ | refine op_build ?_ | refine op_extract ?_ | refine op_makeInterface ?_ | refine op_typeAssert ?_
        | refine op_ptr_nil ?_ | refine op_nilCheck_ptr ?_ | refine op_nilCheck_meth ?_ | refine op_makeMeth ?_ | refine op_makeFunc ?_ | refine op_itof ?_ | refine op_itoi ?_ | refine op_ftoi ?_ | refine op_iquo ?_ | refine op_irem ?_
        | refine op_ibits ?_ | refine op_slice_isnil ?_ | refine op_slice_notnil ?_ | refine op_imax ?_ | refine op_imin ?_ | refine op_shl ?_ | refine op_shr ?_ | (refine op_alloc ?_; intro _) | (refine op_box ?_; intro _) | (refine op_buildSlice ?_; intro _)
        | (refine op_farith ?_; intro _ _) | refine op_store0 ?_ | refine op_store1 ?_ | refine op_store2 ?_ | refine op_store3 ?_ | refine op_store4 ?_ | refine op_store5 ?_ | refine op_storeK rfl ?_ | refine op_loadK rfl ?_ | refine op_load_aggK rfl ?_
        | refine tc_cond_t ?_ | refine tc_cond_f ?_ | refine tc_cond (fun _ => ?_) (fun _ => ?_) | refine tc_block ?_ | refine tc_skip ?_ | refine tc_ret ?_ | refine tc_exit ?_ | refine at_seq_ret ?_ | refine at_seq_exit ?_ | refine at_block_normal ?_
        | refine at_block_ret ?_ | refine at_block_exit_self ?_ | refine at_block_exit_ne ?_ | refine at_loop_ret ?_ | refine at_loop_exit ?_
      obtain ⟨exB, hexB⟩ := bufH_pre 72 buf' ((zs ++ [carry]).map uv) ((k2, Obj.cells ⟨[.bool neg, .slice a xs.length c]⟩ 28 (0, 0)) :: H)
      refine ret_one (.agg (T := 28) (k := k4) (off := 0) (m := [.bool neg, .slice aZ nn cZ]) rfl rfl mem0 rfl rfl) (hG := List.Sublist.refl _) (hk := ⟨_, ex1_eq hexB, neg, (zs ++ [carry]).take nn, aZ, cZ, by rw [List.length_take, Nat.min_eq_left hn], ?_, hlm.take nn, hnrm, ?_, fun hb => ?_, ?_⟩)
      · rw [List.length_take, Nat.min_eq_left hn]; exact ((hus _).take hn).mono fun e he => List.mem_cons_of_mem _ he
      · unfold nval; rw [hlv, hval, Int.natCast_mul]; cases neg <;> simp [Int.neg_mul]
      · rw [hlv, hval]; exact Nat.mul_ne_zero (x5 hb) (Nat.pos_iff_ne_zero.1 (Nat.two_pow_pos k))
      · rw [List.length_take]; omega
    · refine op_buildSlice (fun kn => ?_)
      refine ta_two 1 5 (by kernel_rfl) rfl (by decide) rfl (by decide) ?_ ?_
      · first | refine op_load (hm := (bufH_sub _ _ _ _).subset hm2) ?_ | refine op_load (hm := List.mem_cons_of_mem _ ((bufH_sub _ _ _ _).subset hm2)) ?_
        refine ta_only 5 (by kernel_rfl) rfl (by decide) ?_
        (refine op_append (H' := (k4, Obj.cells ⟨[.bool false, .slice none 0 0]⟩ 28 (0, 0)) :: (k2, Obj.cells ⟨[.bool neg, .slice a xs.length c]⟩ 28 (0, 0)) :: H) buf (q + xs.length) (zs.map uv) [uv carry] (m := 1) h2 (fun buf' hok' => ?_) (by exact rfl) (by exact rfl) (List.sublist_cons_self _ _) List.mem_cons_self rfl rfl (by simp [Value.oneCell', uv]) (by decide) (by simp only [maxLen]; omega) (by omega); rw [show zs.map uv ++ [uv carry] = (zs ++ [carry]).map uv by simp] at hok' ⊢; have hus := fun H => us_buf (e := 72) (H := H) hok'; obtain ⟨aZ, cZ, hvZ⟩ := (hus []).val; rw [hvZ] at hus ⊢)
        refine ta_only 6 (by kernel_rfl) rfl (by decide) ?_
        (refine op_call ((trim aZ cZ (zs ++ [carry]) _ (hus _) (by omega)).mono ?_); rintro _ _ ⟨nn, rfl, rfl, hn, hnrm, hlv⟩)
        refine ta_only 7 (by kernel_rfl) rfl (by decide) ?_
        refine op_build ?_
        refine ta_only0 8 (by kernel_rfl) rfl ?_
        (refine op_perm (bufH_swap _ _ _ (k4, _) _).symm ?_; refine op_store0 ?_)
        refine ta_done (by kernel_rfl) ?_
        repeat' first
          | refine tc_seq ?_ | refine tc_region ?_ | refine at_seq_normal ?_ | refine tl_nil ?_ | refine tl_cons ?_ | refine tl_cons_none ?_ | refine op_move ?_ | refine op_assign ?_ | refine op_fieldAddr ?_ | refine op_load ?_
          | refine op_load_agg ?_ | refine op_indexC ?_ | refine op_indexAddr1 ?_ | refine op_indexAddr ?_ | refine op_icmp ?_ | refine op_fcmp ?_ | refine op_iarith ?_ | refine op_bcmp ?_ | refine op_unop_not ?_ | refine op_unop_neg_float ?_
          | refine op_unop_neg_int ?_ | refine op_len_slice ?_ | refine op_pick_true ?_ | refine op_pick_false ?_ | refine op_pick_true' ?_ | refine op_pick_false' ?_ | refine op_build ?_ | refine op_extract ?_ | refine op_makeInterface ?_ | refine op_typeAssert ?_
          | refine op_ptr_nil ?_ | refine op_nilCheck_ptr ?_ | refine op_nilCheck_meth ?_ | refine op_makeMeth ?_ | refine op_makeFunc ?_ | refine op_itof ?_ | refine op_itoi ?_ | refine op_ftoi ?_ | refine op_iquo ?_ | refine op_irem ?_
          | refine op_ibits ?_ | refine op_slice_isnil ?_ | refine op_slice_notnil ?_ | refine op_imax ?_ | refine op_imin ?_ | refine op_shl ?_ | refine op_shr ?_ | (refine op_alloc ?_; intro _) | (refine op_box ?_; intro _) | (refine op_buildSlice ?_; intro _)
          | (refine op_farith ?_; intro _ _) | refine op_store0 ?_ | refine op_store1 ?_ | refine op_store2 ?_ | refine op_store3 ?_ | refine op_store4 ?_ | refine op_store5 ?_ | refine op_storeK rfl ?_ | refine op_loadK rfl ?_ | refine op_load_aggK rfl ?_
          | refine tc_cond_t ?_ | refine tc_cond_f ?_ | refine tc_cond (fun _ => ?_) (fun _ => ?_) | refine tc_block ?_ | refine tc_skip ?_ | refine tc_ret ?_ | refine tc_exit ?_ | refine at_seq_ret ?_ | refine at_seq_exit ?_ | refine at_block_normal ?_
          | refine at_block_ret ?_ | refine at_block_exit_self ?_ | refine at_block_exit_ne ?_ | refine at_loop_ret ?_ | refine at_loop_exit ?_
        obtain ⟨exB, hexB⟩ := bufH_pre 72 buf' ((zs ++ [carry]).map uv) ((k2, Obj.cells ⟨[.bool neg, .slice a xs.length c]⟩ 28 (0, 0)) :: H)
        refine ret_one (.agg (T := 28) (k := k4) (off := 0) (m := [.bool neg, .slice aZ nn cZ]) rfl rfl mem0 rfl rfl) (hG := List.Sublist.refl _) (hk := ⟨_, ex1_eq hexB, neg, (zs ++ [carry]).take nn, aZ, cZ, by rw [List.length_take, Nat.min_eq_left hn], ?_, hlm.take nn, hnrm, ?_, fun hb => ?_, ?_⟩)
        · rw [List.length_take, Nat.min_eq_left hn]; exact ((hus _).take hn).mono fun e he => List.mem_cons_of_mem _ he
        · unfold nval; rw [hlv, hval, Int.natCast_mul]; cases neg <;> simp [Int.neg_mul]
        · rw [hlv, hval]; exact Nat.mul_ne_zero (x5 hb) (Nat.pos_iff_ne_zero.1 (Nat.two_pow_pos k))
        · rw [List.length_take]; omega
      · (refine op_append (H' := (k4, Obj.cells ⟨[.bool false, .slice none 0 0]⟩ 28 (0, 0)) :: (k2, Obj.cells ⟨[.bool neg, .slice a xs.length c]⟩ 28 (0, 0)) :: H) buf (q + xs.length) (zs.map uv) [uv carry] (m := 1) h2 (fun buf' hok' => ?_) (by exact rfl) (by exact rfl) (List.sublist_cons_self _ _) List.mem_cons_self rfl rfl (by simp [Value.oneCell', uv]) (by decide) (by simp only [maxLen]; omega) (by omega); rw [show zs.map uv ++ [uv carry] = (zs ++ [carry]).map uv by simp] at hok' ⊢; have hus := fun H => us_buf (e := 72) (H := H) hok'; obtain ⟨aZ, cZ, hvZ⟩ := (hus []).val; rw [hvZ] at hus ⊢)
        refine ta_two 1 6 (by kernel_rfl) rfl (by decide) rfl (by decide) ?_ ?_
        · first | refine op_load (hm := (bufH_sub _ _ _ _).subset hm2) ?_ | refine op_load (hm := List.mem_cons_of_mem _ ((bufH_sub _ _ _ _).subset hm2)) ?_
          refine ta_only 6 (by kernel_rfl) rfl (by decide) ?_
          (refine op_call ((trim aZ cZ (zs ++ [carry]) _ (hus _) (by omega)).mono ?_); rintro _ _ ⟨nn, rfl, rfl, hn, hnrm, hlv⟩)
          refine ta_only 7 (by kernel_rfl) rfl (by decide) ?_
          refine op_build ?_
          refine ta_only0 8 (by kernel_rfl) rfl ?_
          (refine op_perm (bufH_swap _ _ _ (k4, _) _).symm ?_; refine op_store0 ?_)
          refine ta_done (by kernel_rfl) ?_
          repeat' first
            | refine tc_seq ?_ | refine tc_region ?_ | refine at_seq_normal ?_ | refine tl_nil ?_ | refine tl_cons ?_ | refine tl_cons_none ?_ | refine op_move ?_ | refine op_assign ?_ | refine op_fieldAddr ?_ | refine op_load ?_
            | refine op_load_agg ?_ | refine op_indexC ?_ | refine op_indexAddr1 ?_ | refine op_indexAddr ?_ | refine op_icmp ?_ | refine op_fcmp ?_ | refine op_iarith ?_ | refine op_bcmp ?_ | refine op_unop_not ?_ | refine op_unop_neg_float ?_
            | refine op_unop_neg_int ?_ | refine op_len_slice ?_ | refine op_pick_true ?_ | refine op_pick_false ?_ | refine op_pick_true' ?_ | refine op_pick_false' ?_ | refine op_build ?_ | refine op_extract ?_ | refine op_makeInterface ?_ | refine op_typeAssert ?_
            | refine op_ptr_nil ?_ | refine op_nilCheck_ptr ?_ | refine op_nilCheck_meth ?_ | refine op_makeMeth ?_ | refine op_makeFunc ?_ | refine op_itof ?_ | refine op_itoi ?_ | refine op_ftoi ?_ | refine op_iquo ?_ | refine op_irem ?_
            | refine op_ibits ?_ | refine op_slice_isnil ?_ | refine op_slice_notnil ?_ | refine op_imax ?_ | refine op_imin ?_ | refine op_shl ?_ | refine op_shr ?_ | (refine op_alloc ?_; intro _) | (refine op_box ?_; intro _) | (refine op_buildSlice ?_; intro _)
            | (refine op_farith ?_; intro _ _) | refine op_store0 ?_ | refine op_store1 ?_ | refine op_store2 ?_ | refine op_store3 ?_ | refine op_store4 ?_ | refine op_store5 ?_ | refine op_storeK rfl ?_ | refine op_loadK rfl ?_ | refine op_load_aggK rfl ?_
            | refine tc_cond_t ?_ | refine tc_cond_f ?_ | refine tc_cond (fun _ => ?_) (fun _ => ?_) | refine tc_block ?_ | refine tc_skip ?_ | refine tc_ret ?_ | refine tc_exit ?_ | refine at_seq_ret ?_ | refine at_seq_exit ?_ | refine at_block_normal ?_
            | refine at_block_ret ?_ | refine at_block_exit_self ?_ | refine at_block_exit_ne ?_ | refine at_loop_ret ?_ | refine at_loop_exit ?_
          obtain ⟨exB, hexB⟩ := bufH_pre 72 buf' ((zs ++ [carry]).map uv) ((k2, Obj.cells ⟨[.bool neg, .slice a xs.length c]⟩ 28 (0, 0)) :: H)
          refine ret_one (.agg (T := 28) (k := k4) (off := 0) (m := [.bool neg, .slice aZ nn cZ]) rfl rfl mem0 rfl rfl) (hG := List.Sublist.refl _) (hk := ⟨_, ex1_eq hexB, neg, (zs ++ [carry]).take nn, aZ, cZ, by rw [List.length_take, Nat.min_eq_left hn], ?_, hlm.take nn, hnrm, ?_, fun hb => ?_, ?_⟩)
          · rw [List.length_take, Nat.min_eq_left hn]; exact ((hus _).take hn).mono fun e he => List.mem_cons_of_mem _ he
          · unfold nval; rw [hlv, hval, Int.natCast_mul]; cases neg <;> simp [Int.neg_mul]
          · rw [hlv, hval]; exact Nat.mul_ne_zero (x5 hb) (Nat.pos_iff_ne_zero.1 (Nat.two_pow_pos k))
          · rw [List.length_take]; omega
        · (refine op_call ((trim aZ cZ (zs ++ [carry]) _ (hus _) (by omega)).mono ?_); rintro _ _ ⟨nn, rfl, rfl, hn, hnrm, hlv⟩)
          refine ta_only 1 (by kernel_rfl) rfl (by decide) ?_
          first | refine op_load (hm := (bufH_sub _ _ _ _).subset hm2) ?_ | refine op_load (hm := List.mem_cons_of_mem _ ((bufH_sub _ _ _ _).subset hm2)) ?_
          refine ta_only 7 (by kernel_rfl) rfl (by decide) ?_
          refine op_build ?_
          refine ta_only0 8 (by kernel_rfl) rfl ?_
          (refine op_perm (bufH_swap _ _ _ (k4, _) _).symm ?_; refine op_store0 ?_)
          refine ta_done (by kernel_rfl) ?_
          repeat' first
            | refine tc_seq ?_ | refine tc_region ?_ | refine at_seq_normal ?_ | refine tl_nil ?_ | refine tl_cons ?_ | refine tl_cons_none ?_ | refine op_move ?_ | refine op_assign ?_ | refine op_fieldAddr ?_ | refine op_load ?_
            | refine op_load_agg ?_ | refine op_indexC ?_ | refine op_indexAddr1 ?_ | refine op_indexAddr ?_ | refine op_icmp ?_ | refine op_fcmp ?_ | refine op_iarith ?_ | refine op_bcmp ?_ | refine op_unop_not ?_ | refine op_unop_neg_float ?_
            | refine op_unop_neg_int ?_ | refine op_len_slice ?_ | refine op_pick_true ?_ | refine op_pick_false ?_ | refine op_pick_true' ?_ | refine op_pick_false' ?_ | refine op_build ?_ | refine op_extract ?_ | refine op_makeInterface ?_ | refine op_typeAssert ?_
            | refine op_ptr_nil ?_ | refine op_nilCheck_ptr ?_ | refine op_nilCheck_meth ?_ | refine op_makeMeth ?_ | refine op_makeFunc ?_ | refine op_itof ?_ | refine op_itoi ?_ | refine op_ftoi ?_ | refine op_iquo ?_ | refine op_irem ?_
            | refine op_ibits ?_ | refine op_slice_isnil ?_ | refine op_slice_notnil ?_ | refine op_imax ?_ | refine op_imin ?_ | refine op_shl ?_ | refine op_shr ?_ | (refine op_alloc ?_; intro _) | (refine op_box ?_; intro _) | (refine op_buildSlice ?_; intro _)
            | (refine op_farith ?_; intro _ _) | refine op_store0 ?_ | refine op_store1 ?_ | refine op_store2 ?_ | refine op_store3 ?_ | refine op_store4 ?_ | refine op_store5 ?_ | refine op_storeK rfl ?_ | refine op_loadK rfl ?_ | refine op_load_aggK rfl ?_
            | refine tc_cond_t ?_ | refine tc_cond_f ?_ | refine tc_cond (fun _ => ?_) (fun _ => ?_) | refine tc_block ?_ | refine tc_skip ?_ | refine tc_ret ?_ | refine tc_exit ?_ | refine at_seq_ret ?_ | refine at_seq_exit ?_ | refine at_block_normal ?_
            | refine at_block_ret ?_ | refine at_block_exit_self ?_ | refine at_block_exit_ne ?_ | refine at_loop_ret ?_ | refine at_loop_exit ?_
          obtain ⟨exB, hexB⟩ := bufH_pre 72 buf' ((zs ++ [carry]).map uv) ((k2, Obj.cells ⟨[.bool neg, .slice a xs.length c]⟩ 28 (0, 0)) :: H)
          refine ret_one (.agg (T := 28) (k := k4) (off := 0) (m := [.bool neg, .slice aZ nn cZ]) rfl rfl mem0 rfl rfl) (hG := List.Sublist.refl _) (hk := ⟨_, ex1_eq hexB, neg, (zs ++ [carry]).take nn, aZ, cZ, by rw [List.length_take, Nat.min_eq_left hn], ?_, hlm.take nn, hnrm, ?_, fun hb => ?_, ?_⟩)
          · rw [List.length_take, Nat.min_eq_left hn]; exact ((hus _).take hn).mono fun e he => List.mem_cons_of_mem _ he
          · unfold nval; rw [hlv, hval, Int.natCast_mul]; cases neg <;> simp [Int.neg_mul]
          · rw [hlv, hval]; exact Nat.mul_ne_zero (x5 hb) (Nat.pos_iff_ne_zero.1 (Nat.two_pow_pos k))
          · rw [List.length_take]; omega
end Go.Proofs.YtelhfcjchpdkiaaDoor.Lmb

set_option linter.unusedVariables false
set_option linter.unusedSimpArgs false
namespace Go.Proofs.YtelhfcjchpdkiaaDoor.Lmb
open Go.Lg

/-- The value is n times two to the e. -/
def IsD (n e : Int) (L : Nat) (u : Value) (G : Heap) : Prop := ∃ b a k c, u = .agg ⟨[.bool b, .slice a k c, .int .i64 e]⟩ ∧ IsW n L (.agg ⟨[.bool b, .slice a k c]⟩) G
theorem IsD.mono {n e L u G G'} (h : IsD n e L u G) (hG : ∀ x ∈ G, x ∈ G') : IsD n e L u G' := by
  obtain ⟨b, a, k, c, h1, h2⟩ := h
  exact ⟨b, a, k, c, h1, h2.mono hG⟩
theorem IsD.skip {n e L u} {G G' : Heap} (h : IsD n e L u G) (hs : ∀ x ∈ G, x ∈ G' ∨ NoU x) : IsD n e L u G' := by
  obtain ⟨b, a, k, c, h1, h2⟩ := h
  exact ⟨b, a, k, c, h1, h2.skip hs⟩
theorem IsW.big {n L M u G} (h : IsW n L u G) (hl : L ≤ M) : IsW n M u G := by
  obtain ⟨neg, xs, a, c, h1, h2, h3, h4, h5, h6, h7⟩ := h
  exact ⟨neg, xs, a, c, h1, h2, h3, h4, h5, h6, by omega⟩
theorem IsD.big {n e L M u G} (h : IsD n e L u G) (hl : L ≤ M) : IsD n e M u G := by
  obtain ⟨b, a, k, c, h1, h2⟩ := h
  exact ⟨b, a, k, c, h1, h2.big hl⟩
theorem noU3 {k : Nat} {T : TypeId} {fz : Nat × Nat} {b : Bool} {a : Option Addr} {n c : Nat} {e : Int} : NoU (k, Obj.cells ⟨[.bool b, .slice a n c, .int .i64 e]⟩ T fz) := fun l T fz h x hx n => by
  cases h
  simp only [List.mem_cons, List.not_mem_nil, or_false] at hx
  rcases hx with rfl | rfl | rfl <;> (intro h; cases h)
theorem ex2b_eq {α : Type} {x a : α} {H : List α} (e2 e1 : List α) : x :: (e2 ++ (e1 ++ a :: H)) = (x :: (e2 ++ (e1 ++ [a]))) ++ H := by simp
theorem isW_val {n L b a k c G} (h : IsW n L (.agg ⟨[.bool b, .slice a k c]⟩) G) : True := trivial

theorem dSign (u : Value) (n e : Int) (L : Nat) (H : Heap) (hu : IsD n e L u H) : Does Tryd.prog 21 [u] H fun w H' => w = .int .i64 (sgI n) ∧ H' = H := by
  obtain ⟨b, a, k, c, rfl, h1⟩ := hu
  refine fn_enter 6 Tryd.func21 fun W => ?_
  repeat' first
    | (first | refine tc_seq ?_ | refine tc_region ?_ | refine at_seq_normal ?_ | refine tl_nil ?_ | refine tl_cons ?_ | refine op_assign ?_ | refine op_fieldAddr ?_ | refine op_load ?_ | refine op_load_agg ?_ | (refine op_box ?_; intro _) | refine op_loadK rfl ?_ | refine op_load_aggK rfl ?_ | refine tc_ret ?_ | refine at_seq_ret ?_ | fail)
    | (refine op_call ((wSign _ n L _ (h1.mono fun e he => by simp [he])).mono ?_); rintro _ _ ⟨rfl, rfl⟩)
    | fail
  exact ret_tmp (hG := List.sublist_cons_self _ _) (hk := ⟨rfl, rfl⟩)

set_option maxHeartbeats 8000000 in
theorem dMinus (u : Value) (n e : Int) (L : Nat) (H : Heap) (hu : IsD n e L u H) : Does Tryd.prog 26 [u] H fun w H' => ∃ ex, H' = ex ++ H ∧ IsD (-n) e L w H' := by
  obtain ⟨b, a, k, c, rfl, h1⟩ := hu
  refine fn_enter 9 Tryd.func26 fun W => ?_
  repeat' first
    | refine tc_seq ?_ | refine tc_region ?_ | refine at_seq_normal ?_ | refine tl_nil ?_ | refine tl_cons ?_ | refine tl_cons_none ?_ | refine op_fieldAddr ?_ | refine op_load ?_ | refine op_load_agg ?_ | refine op_build ?_
    | (refine op_alloc ?_; intro _) | (refine op_box ?_; intro _) | refine op_store0 ?_ | refine op_store1 ?_ | refine op_store2 ?_ | refine op_store3 ?_ | refine op_store4 ?_ | refine op_store5 ?_ | refine op_storeK rfl ?_ | refine op_loadK rfl ?_
    | refine op_load_aggK rfl ?_ | refine tc_ret ?_ | refine at_seq_ret ?_
  rename_i k1 k2
  apply fun hole0 hole1 hole2 hole3 hE hD hml hdl hpr prem fin => tc_drawn 6 [is hole0, is hole1, (fun w _ G => IsW (-n) L w G), is hole2, is hole3, (fun w _ G => IsD (-n) e L w G)]
    [some 3, some 4, some 5, some 6, some 7, some 8, none] [[], [0], [1], [], [3], [2, 4]] mixed ⟨(is_mono _), (is_mono _), (fun _ _ _ _ h hs => IsW.mono h hs), (is_mono _), (is_mono _), (fun _ _ _ _ h hs => IsD.mono h hs), trivial⟩ prem fin hE hD rfl hml hdl hpr
  rotate_left 5
  · first | kernel_rfl | exact rfl
  · first | kernel_rfl | exact rfl
  · exact Nat.le_of_ble_eq_true rfl
  · first | kernel_rfl | exact rfl
  · first | kernel_rfl | exact rfl
  refine ⟨fun G hG => ?_, fun G hG => ?_, fun G hG => ?_, fun G hG => ?_, fun G hG => ?_, fun G hG => ?_, trivial⟩
  · simp only [with2, Step2, nthDst, putO]
    (refine op_fieldAddr ?_; exact ⟨[], rfl, rfl, rfl⟩)
  · rintro _ _ ⟨rfl, rfl⟩ -
    simp only [with2, Step2, nthDst, putO]
    ((first | refine op_load ?_ | refine op_load_agg ?_ | refine op_load ?_ (hm := Sub.mem (by assumption) (by (repeat (apply List.mem_cons_of_mem)); assumption)) | refine op_load_agg ?_ (hm := Sub.mem (by assumption) (by (repeat (apply List.mem_cons_of_mem)); assumption)) | refine op_loadH hG rfl ?_ | refine op_load_aggH hG rfl ?_); exact ⟨[], rfl, rfl, rfl⟩)
  · rintro _ _ ⟨rfl, rfl⟩ -
    simp only [with2, Step2, nthDst, putO]
    (refine op_call ((wMinus _ n L _ (h1.mono fun e he => hG e (by simp [he]))).mono ?_); rintro w _ ⟨ex, rfl, hw⟩; exact ⟨ex, rfl, hw.mono fun e he => List.mem_append_right _ he⟩)
  · simp only [with2, Step2, nthDst, putO]
    (refine op_fieldAddr ?_; exact ⟨[], rfl, rfl, rfl⟩)
  · rintro _ _ ⟨rfl, rfl⟩ -
    simp only [with2, Step2, nthDst, putO]
    ((first | refine op_load ?_ | refine op_load_agg ?_ | refine op_load ?_ (hm := Sub.mem (by assumption) (by (repeat (apply List.mem_cons_of_mem)); assumption)) | refine op_load_agg ?_ (hm := Sub.mem (by assumption) (by (repeat (apply List.mem_cons_of_mem)); assumption)) | refine op_loadH hG rfl ?_ | refine op_load_aggH hG rfl ?_); exact ⟨[], rfl, rfl, rfl⟩)
  · rintro _ _ ⟨nz, zr, ar, cr, rfl, r⟩ - _ _ ⟨rfl, rfl⟩ -
    simp only [with2, Step2, nthDst, putO]
    (refine op_build ?_; exact ⟨[], rfl, _, _, _, _, rfl, ⟨nz, zr, ar, cr, rfl, r⟩⟩)
  · rintro _ _ _ _ _ _ _ _ _ _ _ _ ⟨⟨bz, az, kz, cz, rfl, hz⟩, ⟨rfl, rfl⟩, ⟨rfl, rfl⟩, ⟨nz, zr, ar, cr, rfl, r⟩, ⟨rfl, rfl⟩, ⟨rfl, rfl⟩, _⟩
    simp only [List.nil_append, List.cons_append, List.append_nil, List.drop_succ_cons, List.drop_zero, nthDst, putO]
    rename_i e1 e2 _
    simp only [List.nil_append] at hz
    refine tl_cons_none ?_
    refine op_perm (mid2 _ _ (k2, _) _).symm ?_
    refine op_store0 ?_
    repeat' first
      | refine tc_seq ?_ | refine tc_region ?_ | refine at_seq_normal ?_ | refine tl_nil ?_ | refine tl_cons ?_ | refine tl_cons_none ?_ | refine op_fieldAddr ?_ | refine op_load ?_ | refine op_load_agg ?_ | refine op_build ?_
      | (refine op_alloc ?_; intro _) | (refine op_box ?_; intro _) | refine op_store0 ?_ | refine op_store1 ?_ | refine op_store2 ?_ | refine op_store3 ?_ | refine op_store4 ?_ | refine op_store5 ?_ | refine op_storeK rfl ?_ | refine op_loadK rfl ?_
      | refine op_load_aggK rfl ?_ | refine tc_ret ?_ | refine at_seq_ret ?_
    refine ret_one (.agg (T := 30) (k := k2) (off := 0) (m := [.bool bz, .slice az kz cz, .int .i64 e]) rfl rfl mem0 rfl rfl) (hG := List.Sublist.refl _) (hk := ⟨_, ex2b_eq _ _, ?_⟩)
    exact IsD.skip ⟨bz, az, kz, cz, rfl, hz⟩ (mid2_mem noU3)

set_option maxHeartbeats 8000000 in
theorem dMul (u v : Value) (n e m f : Int) (L M : Nat) (H : Heap) (hu : IsD n e L u H) (hv : IsD m f M v H) (hL : L < 2 ^ 30) (hM : M < 2 ^ 30) (he : -1000000 ≤ e ∧ e ≤ 1000000) (hf : -1000000 ≤ f ∧ f ≤ 1000000) :
    Does Tryd.prog 10 [u, v] H fun w H' => ∃ ex, H' = ex ++ H ∧ IsD (n * m) (e + f) (L + M) w H' := by
  obtain ⟨b, a, k, c, rfl, h1⟩ := hu
  obtain ⟨b2, a2, kk2, c2, rfl, h2⟩ := hv
  have hef : IntKind.i64.wrap (iarith .add e f) = e + f := wrap_add (by omega) (by omega)
  refine fn_enter 16 Tryd.func10 fun W => ?_
  repeat' first
    | refine tc_seq ?_ | refine tc_region ?_ | refine at_seq_normal ?_ | refine tl_nil ?_ | refine tl_cons ?_ | refine tl_cons_none ?_ | refine op_fieldAddr ?_ | refine op_load ?_ | refine op_load_agg ?_ | refine op_iarith ?_
    | refine op_build ?_ | (refine op_alloc ?_; intro _) | (refine op_box ?_; intro _) | refine op_store0 ?_ | refine op_store1 ?_ | refine op_store2 ?_ | refine op_store3 ?_ | refine op_store4 ?_ | refine op_store5 ?_ | refine op_storeK rfl ?_
    | refine op_loadK rfl ?_ | refine op_load_aggK rfl ?_ | refine tc_ret ?_ | refine at_seq_ret ?_
  rename_i k2 k3 k4
  apply fun hole0 hole1 hole2 hole3 hole4 hole5 hole6 hole7 hole8 hE hD hml hdl hpr prem fin => tc_drawn 11 [is hole0, is hole1, is hole2, is hole3, (fun w _ G => IsW (n * m) (L + M) w G), is hole4, is hole5, is hole6, is hole7, is hole8, (fun w _ G => IsD (n * m) (e + f) (L + M) w G)]
    [some 5, some 6, some 7, some 8, some 9, some 10, some 11, some 12, some 13, some 14, some 15, none] [[], [0], [], [2], [1, 3], [], [5], [], [7], [6, 8], [4, 9]] mixed ⟨(is_mono _), (is_mono _), (is_mono _), (is_mono _), (fun _ _ _ _ h hs => IsW.mono h hs), (is_mono _), (is_mono _), (is_mono _), (is_mono _), (is_mono _), (fun _ _ _ _ h hs => IsD.mono h hs), trivial⟩ prem fin hE hD rfl hml hdl hpr
  rotate_left 10
  · first | kernel_rfl | exact rfl
  · first | kernel_rfl | exact rfl
  · exact Nat.le_of_ble_eq_true rfl
  · first | kernel_rfl | exact rfl
  · first | kernel_rfl | exact rfl
  refine ⟨fun G hG => ?_, fun G hG => ?_, fun G hG => ?_, fun G hG => ?_, fun G hG => ?_, fun G hG => ?_, fun G hG => ?_, fun G hG => ?_, fun G hG => ?_, fun G hG => ?_, fun G hG => ?_, trivial⟩
  · simp only [with2, Step2, nthDst, putO]
    (refine op_fieldAddr ?_; exact ⟨[], rfl, rfl, rfl⟩)
  · rintro _ _ ⟨rfl, rfl⟩ -
    simp only [with2, Step2, nthDst, putO]
    ((first | refine op_load ?_ | refine op_load_agg ?_ | refine op_load ?_ (hm := Sub.mem (by assumption) (by (repeat (apply List.mem_cons_of_mem)); assumption)) | refine op_load_agg ?_ (hm := Sub.mem (by assumption) (by (repeat (apply List.mem_cons_of_mem)); assumption)) | refine op_loadH hG rfl ?_ | refine op_load_aggH hG rfl ?_); exact ⟨[], rfl, rfl, rfl⟩)
  · simp only [with2, Step2, nthDst, putO]
    (refine op_fieldAddr ?_; exact ⟨[], rfl, rfl, rfl⟩)
  · rintro _ _ ⟨rfl, rfl⟩ -
    simp only [with2, Step2, nthDst, putO]
    ((first | refine op_load ?_ | refine op_load_agg ?_ | refine op_load ?_ (hm := Sub.mem (by assumption) (by (repeat (apply List.mem_cons_of_mem)); assumption)) | refine op_load_agg ?_ (hm := Sub.mem (by assumption) (by (repeat (apply List.mem_cons_of_mem)); assumption)) | refine op_loadH hG rfl ?_ | refine op_load_aggH hG rfl ?_); exact ⟨[], rfl, rfl, rfl⟩)
  · rintro _ _ ⟨rfl, rfl⟩ - _ _ ⟨rfl, rfl⟩ -
    simp only [with2, Step2, nthDst, putO]
    (refine op_call ((wMul _ _ n m L M _ (h1.mono fun e he => hG e (by simp [he])) (h2.mono fun e he => hG e (by simp [he])) hL hM).mono ?_); rintro w _ ⟨ex, rfl, hw⟩; exact ⟨ex, rfl, hw⟩)
  · simp only [with2, Step2, nthDst, putO]
    (refine op_fieldAddr ?_; exact ⟨[], rfl, rfl, rfl⟩)
  · rintro _ _ ⟨rfl, rfl⟩ -
    simp only [with2, Step2, nthDst, putO]
    ((first | refine op_load ?_ | refine op_load_agg ?_ | refine op_load ?_ (hm := Sub.mem (by assumption) (by (repeat (apply List.mem_cons_of_mem)); assumption)) | refine op_load_agg ?_ (hm := Sub.mem (by assumption) (by (repeat (apply List.mem_cons_of_mem)); assumption)) | refine op_loadH hG rfl ?_ | refine op_load_aggH hG rfl ?_); exact ⟨[], rfl, rfl, rfl⟩)
  · simp only [with2, Step2, nthDst, putO]
    (refine op_fieldAddr ?_; exact ⟨[], rfl, rfl, rfl⟩)
  · rintro _ _ ⟨rfl, rfl⟩ -
    simp only [with2, Step2, nthDst, putO]
    ((first | refine op_load ?_ | refine op_load_agg ?_ | refine op_load ?_ (hm := Sub.mem (by assumption) (by (repeat (apply List.mem_cons_of_mem)); assumption)) | refine op_load_agg ?_ (hm := Sub.mem (by assumption) (by (repeat (apply List.mem_cons_of_mem)); assumption)) | refine op_loadH hG rfl ?_ | refine op_load_aggH hG rfl ?_); exact ⟨[], rfl, rfl, rfl⟩)
  · rintro _ _ ⟨rfl, rfl⟩ - _ _ ⟨rfl, rfl⟩ -
    simp only [with2, Step2, nthDst, putO]
    (refine op_iarith ?_; exact ⟨[], rfl, rfl, rfl⟩)
  · rintro _ _ ⟨nz, zr, ar, cr, rfl, r⟩ - _ _ ⟨rfl, rfl⟩ -
    simp only [with2, Step2, nthDst, putO]
    (rw [hef]; refine op_build ?_; exact ⟨[], rfl, _, _, _, _, rfl, ⟨nz, zr, ar, cr, rfl, r⟩⟩)
  · rintro _ _ _ _ _ _ _ _ _ _ _ _ _ _ _ _ _ _ _ _ _ _ ⟨⟨bz, az, kz, cz, rfl, hz⟩, ⟨rfl, rfl⟩, ⟨rfl, rfl⟩, ⟨rfl, rfl⟩, ⟨rfl, rfl⟩, ⟨rfl, rfl⟩, ⟨nz, zr, ar, cr, rfl, r⟩, ⟨rfl, rfl⟩, ⟨rfl, rfl⟩, ⟨rfl, rfl⟩, ⟨rfl, rfl⟩, _⟩
    simp only [List.nil_append, List.cons_append, List.append_nil, List.drop_succ_cons, List.drop_zero, nthDst, putO]
    rename_i e1 e2 _
    simp only [List.nil_append] at hz
    refine tl_cons_none ?_
    refine op_perm (mid2 _ _ (k4, _) _).symm ?_
    refine op_store0 ?_
    repeat' first
      | refine tc_seq ?_ | refine tc_region ?_ | refine at_seq_normal ?_ | refine tl_nil ?_ | refine tl_cons ?_ | refine tl_cons_none ?_ | refine op_fieldAddr ?_ | refine op_load ?_ | refine op_load_agg ?_ | refine op_iarith ?_
      | refine op_build ?_ | (refine op_alloc ?_; intro _) | (refine op_box ?_; intro _) | refine op_store0 ?_ | refine op_store1 ?_ | refine op_store2 ?_ | refine op_store3 ?_ | refine op_store4 ?_ | refine op_store5 ?_ | refine op_storeK rfl ?_
      | refine op_loadK rfl ?_ | refine op_load_aggK rfl ?_ | refine tc_ret ?_ | refine at_seq_ret ?_
    refine ret_one (.agg (T := 30) (k := k4) (off := 0) (m := [.bool bz, .slice az kz cz, .int .i64 (e + f)]) rfl rfl mem0 rfl rfl) (hG := List.Sublist.refl _) (hk := ⟨_, ex2_eq _ _, ?_⟩)
    exact IsD.skip ⟨bz, az, kz, cz, rfl, hz⟩ (mid2_mem noU3)
end Go.Proofs.YtelhfcjchpdkiaaDoor.Lmb

set_option linter.unusedVariables false
set_option linter.unusedSimpArgs false
namespace Go.Proofs.YtelhfcjchpdkiaaDoor.Lmb
open Go.Lg

theorem mid3 {α : Type} (e3 e2 e1 : List α) (x : α) (R : List α) : List.Perm (e3 ++ (e2 ++ (e1 ++ x :: R))) (x :: (e3 ++ (e2 ++ (e1 ++ R)))) :=
  ((mid2 e2 e1 x R).append_left e3).trans List.perm_middle
theorem mid3_mem {α : Type} {e3 e2 e1 R : List α} {x y : α} {p : α → Prop} (hp : p x) : ∀ e ∈ e3 ++ (e2 ++ (e1 ++ x :: R)), e ∈ y :: (e3 ++ (e2 ++ (e1 ++ R))) ∨ p e := fun e he => by
  rcases List.mem_cons.1 ((mid3 e3 e2 e1 x R).subset he) with h | h
  · right; rw [h]; exact hp
  · exact .inl (List.mem_cons_of_mem _ h)
theorem ex3_eq {α : Type} {x a b : α} {H : List α} (e3 e2 e1 : List α) : x :: (e3 ++ (e2 ++ (e1 ++ a :: b :: H))) = (x :: (e3 ++ (e2 ++ (e1 ++ [a, b])))) ++ H := by simp

/-- The sum of two dyadic numbers, as0 it is written. -/
def dAddN (n e m f : Int) : Int × Int :=
  if n = 0 then (m, f) else if m = 0 then (n, e) else if f < e then (n * ((2 ^ (e - f).toNat : Nat) : Int) + m, f) else (m * ((2 ^ (f - e).toNat : Nat) : Int) + n, e)
theorem sgI_zero {n : Int} : icmp .eql (sgI n) 0 = decide (n = 0) := by
  unfold sgI
  by_cases h : n = 0
  · simp [h, icmp]
  · by_cases h2 : n < 0
    · simp [h, h2, icmp]
    · simp [h, h2, icmp]

set_option maxHeartbeats 16000000 in
theorem dAdd (u v : Value) (n e m f : Int) (L M : Nat) (H : Heap) (hu : IsD n e L u H) (hv : IsD m f M v H) (hL : L < 2 ^ 28) (hM : M < 2 ^ 28) (he : -1000000 ≤ e ∧ e ≤ 1000000) (hf : -1000000 ≤ f ∧ f ≤ 1000000) :
    Does Tryd.prog 14 [u, v] H fun w H' => ∃ ex, H' = ex ++ H ∧ IsD (dAddN n e m f).1 (dAddN n e m f).2 (L + M + 70000) w H' := by
  have hu0 := hu
  have hv0 := hv
  obtain ⟨b, a, k, c, rfl, h1⟩ := hu
  obtain ⟨b2, a2, kk2, c2, rfl, h2⟩ := hv
  refine fn_enter 49 Tryd.func14 fun W => ?_
  by_cases hn0 : n = 0
  · have hc : icmp .eql (sgI n) 0 = true := by rw [sgI_zero]; simpa using hn0
    have hres : dAddN n e m f = (m, f) := by rw [dAddN, if_pos hn0]
    repeat' first
      | (first | refine tc_seq ?_ | refine tc_region ?_ | refine at_seq_normal ?_ | refine tl_nil ?_ | refine tl_cons ?_ | refine tl_cons_none ?_ | refine op_assign ?_ | refine op_fieldAddr ?_ | refine op_load ?_ | refine op_load_agg ?_ | refine op_icmp ?_ | refine op_iarith ?_ | refine op_build ?_ | (refine op_alloc ?_; intro _) | (refine op_box ?_; intro _) | refine op_store0 ?_ | refine op_store1 ?_ | refine op_store2 ?_ | refine op_store3 ?_ | refine op_store4 ?_ | refine op_store5 ?_ | refine op_storeK rfl ?_ | refine op_loadK rfl ?_ | refine op_load_aggK rfl ?_ | refine tc_cond_t ?_ | refine tc_cond_f ?_ | refine tc_cond (fun _ => ?_) (fun _ => ?_) | refine tc_block ?_ | refine tc_skip ?_ | refine tc_ret ?_ | refine at_seq_ret ?_ | refine at_block_normal ?_ | refine at_block_ret ?_ | fail)
      | (refine op_call ((dSign _ n e L _ (hu0.mono fun e he => by simp [he])).mono ?_); rintro _ _ ⟨rfl, rfl⟩)
      | fail
    refine ret_one (.agg (T := 30) (off := 0) (m := [.bool b2, .slice a2 kk2 c2, .int .i64 f]) rfl rfl mem0 rfl rfl) (hG := List.Sublist.refl _) (hk := ⟨[_, _, _], rfl, ?_⟩)
    rw [hres]
    exact (hv0.big (by omega)).mono fun e he => by simp [he]
  have hc : icmp .eql (sgI n) 0 = false := by rw [sgI_zero]; simpa using hn0
  by_cases hm0 : m = 0
  · have hc2 : icmp .eql (sgI m) 0 = true := by rw [sgI_zero]; simpa using hm0
    have hres : dAddN n e m f = (n, e) := by rw [dAddN, if_neg hn0, if_pos hm0]
    repeat' first
      | (first | refine tc_seq ?_ | refine tc_region ?_ | refine at_seq_normal ?_ | refine tl_nil ?_ | refine tl_cons ?_ | refine tl_cons_none ?_ | refine op_assign ?_ | refine op_fieldAddr ?_ | refine op_load ?_ | refine op_load_agg ?_ | refine op_icmp ?_ | refine op_iarith ?_ | refine op_build ?_ | (refine op_alloc ?_; intro _) | (refine op_box ?_; intro _) | refine op_store0 ?_ | refine op_store1 ?_ | refine op_store2 ?_ | refine op_store3 ?_ | refine op_store4 ?_ | refine op_store5 ?_ | refine op_storeK rfl ?_ | refine op_loadK rfl ?_ | refine op_load_aggK rfl ?_ | refine tc_cond_t ?_ | refine tc_cond_f ?_ | refine tc_cond (fun _ => ?_) (fun _ => ?_) | refine tc_block ?_ | refine tc_skip ?_ | refine tc_ret ?_ | refine at_seq_ret ?_ | refine at_block_normal ?_ | refine at_block_ret ?_ | fail)
      | (refine op_call ((dSign _ n e L _ (hu0.mono fun e he => by simp [he])).mono ?_); rintro _ _ ⟨rfl, rfl⟩)
      | (refine op_call ((dSign _ m f M _ (hv0.mono fun e he => by simp [he])).mono ?_); rintro _ _ ⟨rfl, rfl⟩)
      | fail
    refine ret_one (.agg (T := 30) (off := 0) (m := [.bool b, .slice a k c, .int .i64 e]) rfl rfl mem0 rfl rfl) (hG := List.Sublist.refl _) (hk := ⟨[_, _, _], rfl, ?_⟩)
    rw [hres]
    exact (hu0.big (by omega)).mono fun e he => by simp [he]
  have hc2 : icmp .eql (sgI m) 0 = false := by rw [sgI_zero]; simpa using hm0
  by_cases hef : f < e
  · have hgt : icmp .gtr e f = true := by simp only [icmp, decide_eq_true_eq]; omega
    obtain ⟨kk, hkk0⟩ : ∃ kk : Nat, e - f = (kk : Int) := ⟨(e - f).toNat, by omega⟩
    have hkk : IntKind.i64.wrap (iarith .sub e f) = ((kk : Nat) : Int) := by rw [wrap_sub (by omega) (by omega)]; exact hkk0
    have hkb : kk ≤ 2000000 := by omega
    have hres : dAddN n e m f = (n * ((2 ^ kk : Nat) : Int) + m, f) := by rw [dAddN, if_neg hn0, if_neg hm0, if_pos hef, hkk0, Int.toNat_natCast]
    repeat' first
      | (first | refine tc_seq ?_ | refine tc_region ?_ | refine at_seq_normal ?_ | refine tl_nil ?_ | refine tl_cons ?_ | refine tl_cons_none ?_ | refine op_assign ?_ | refine op_fieldAddr ?_ | refine op_load ?_ | refine op_load_agg ?_ | refine op_icmp ?_ | refine op_iarith ?_ | refine op_build ?_ | (refine op_alloc ?_; intro _) | (refine op_box ?_; intro _) | refine op_store0 ?_ | refine op_store1 ?_ | refine op_store2 ?_ | refine op_store3 ?_ | refine op_store4 ?_ | refine op_store5 ?_ | refine op_storeK rfl ?_ | refine op_loadK rfl ?_ | refine op_load_aggK rfl ?_ | refine tc_cond_t ?_ | refine tc_cond_f ?_ | refine tc_cond (fun _ => ?_) (fun _ => ?_) | refine tc_block ?_ | refine tc_skip ?_ | refine tc_ret ?_ | refine at_seq_ret ?_ | refine at_block_normal ?_ | refine at_block_ret ?_ | fail)
      | (refine op_call ((dSign _ n e L _ (hu0.mono fun e he => by simp [he])).mono ?_); rintro _ _ ⟨rfl, rfl⟩)
      | (refine op_call ((dSign _ m f M _ (hv0.mono fun e he => by simp [he])).mono ?_); rintro _ _ ⟨rfl, rfl⟩)
      | fail
    rename_i k2 k3 k4
    apply fun hole0 hole1 hole2 hole3 hole4 hole5 hole6 hole7 hole8 hole9 hE hD hml hdl hpr prem fin => tc_drawn 14 [is hole0, is hole1, is hole2, is hole3, is hole4, is hole5, (is (.int .i64 ((kk : Nat) : Int))), (fun w _ G => IsW (n * ((2 ^ kk : Nat) : Int)) (L + kk / 32 + 1) w G), is hole6, is hole7, (fun w _ G => IsW (n * ((2 ^ kk : Nat) : Int) + m) (L + M + 70000) w G), is hole8, is hole9, (fun w _ G => IsD (n * ((2 ^ kk : Nat) : Int) + m) f (L + M + 70000) w G)]
      [some 21, some 22, some 23, some 24, some 25, some 26, some 27, some 28, some 29, some 30, some 31, some 32, some 33, some 34, none] [[], [0], [], [2], [], [4], [3, 5], [1, 6], [], [8], [7, 9], [], [11], [10, 12]] mixed ⟨(is_mono _), (is_mono _), (is_mono _), (is_mono _), (is_mono _), (is_mono _), (some_mono _), (fun _ _ _ _ h hs => IsW.mono h hs), (is_mono _), (is_mono _), (fun _ _ _ _ h hs => IsW.mono h hs), (is_mono _), (is_mono _), (fun _ _ _ _ h hs => IsD.mono h hs), trivial⟩ prem fin hE hD rfl hml hdl hpr
    rotate_left 11
    · first | kernel_rfl | exact rfl
    · first | kernel_rfl | exact rfl
    · exact Nat.le_of_ble_eq_true rfl
    · first | kernel_rfl | exact rfl
    · first | kernel_rfl | exact rfl
    refine ⟨fun G hG => ?_, fun G hG => ?_, fun G hG => ?_, fun G hG => ?_, fun G hG => ?_, fun G hG => ?_, fun G hG => ?_, fun G hG => ?_, fun G hG => ?_, fun G hG => ?_, fun G hG => ?_, fun G hG => ?_, fun G hG => ?_, fun G hG => ?_, trivial⟩
    · simp only [with2, Step2, nthDst, putO]
      (refine op_fieldAddr ?_; exact ⟨[], rfl, rfl, rfl⟩)
    · rintro _ _ ⟨rfl, rfl⟩ -
      simp only [with2, Step2, nthDst, putO]
      ((first | refine op_load ?_ | refine op_load_agg ?_ | refine op_load ?_ (hm := Sub.mem (by assumption) (by (repeat (apply List.mem_cons_of_mem)); assumption)) | refine op_load_agg ?_ (hm := Sub.mem (by assumption) (by (repeat (apply List.mem_cons_of_mem)); assumption)) | refine op_loadH hG rfl ?_ | refine op_load_aggH hG rfl ?_); exact ⟨[], rfl, rfl, rfl⟩)
    · simp only [with2, Step2, nthDst, putO]
      (refine op_fieldAddr ?_; exact ⟨[], rfl, rfl, rfl⟩)
    · rintro _ _ ⟨rfl, rfl⟩ -
      simp only [with2, Step2, nthDst, putO]
      ((first | refine op_load ?_ | refine op_load_agg ?_ | refine op_load ?_ (hm := Sub.mem (by assumption) (by (repeat (apply List.mem_cons_of_mem)); assumption)) | refine op_load_agg ?_ (hm := Sub.mem (by assumption) (by (repeat (apply List.mem_cons_of_mem)); assumption)) | refine op_loadH hG rfl ?_ | refine op_load_aggH hG rfl ?_); exact ⟨[], rfl, rfl, rfl⟩)
    · simp only [with2, Step2, nthDst, putO]
      (refine op_fieldAddr ?_; exact ⟨[], rfl, rfl, rfl⟩)
    · rintro _ _ ⟨rfl, rfl⟩ -
      simp only [with2, Step2, nthDst, putO]
      ((first | refine op_load ?_ | refine op_load_agg ?_ | refine op_load ?_ (hm := Sub.mem (by assumption) (by (repeat (apply List.mem_cons_of_mem)); assumption)) | refine op_load_agg ?_ (hm := Sub.mem (by assumption) (by (repeat (apply List.mem_cons_of_mem)); assumption)) | refine op_loadH hG rfl ?_ | refine op_load_aggH hG rfl ?_); exact ⟨[], rfl, rfl, rfl⟩)
    · rintro _ _ ⟨rfl, rfl⟩ - _ _ ⟨rfl, rfl⟩ -
      simp only [with2, Step2, nthDst, putO]
      (refine op_iarith ?_; exact ⟨[], rfl, congrArg (Value.int .i64) hkk, rfl⟩)
    · rintro _ _ ⟨rfl, rfl⟩ - _ _ ⟨rfl, rfl⟩ -
      simp only [with2, Step2, nthDst, putO]
      (refine op_call ((wUp _ n L kk _ (h1.mono fun e he => hG e (by simp [he])) (by omega) (by omega)).mono ?_); rintro w _ ⟨ex, rfl, hw⟩; exact ⟨ex, rfl, hw⟩)
    · simp only [with2, Step2, nthDst, putO]
      (refine op_fieldAddr ?_; exact ⟨[], rfl, rfl, rfl⟩)
    · rintro _ _ ⟨rfl, rfl⟩ -
      simp only [with2, Step2, nthDst, putO]
      ((first | refine op_load ?_ | refine op_load_agg ?_ | refine op_load ?_ (hm := Sub.mem (by assumption) (by (repeat (apply List.mem_cons_of_mem)); assumption)) | refine op_load_agg ?_ (hm := Sub.mem (by assumption) (by (repeat (apply List.mem_cons_of_mem)); assumption)) | refine op_loadH hG rfl ?_ | refine op_load_aggH hG rfl ?_); exact ⟨[], rfl, rfl, rfl⟩)
    · rintro _ _ ⟨nz, zr, ar, cr, rfl, r⟩ - _ _ ⟨rfl, rfl⟩ -
      simp only [with2, Step2, nthDst, putO]
      (refine op_call ((wAdd _ _ _ m (L + kk / 32 + 1) M _ ⟨nz, zr, ar, cr, rfl, r⟩ (h2.mono fun e he => hG e (by simp [he])) (by omega) (by omega)).mono ?_); rintro w _ ⟨ex, rfl, hw⟩; exact ⟨ex, rfl, hw.big (by omega)⟩)
    · simp only [with2, Step2, nthDst, putO]
      (refine op_fieldAddr ?_; exact ⟨[], rfl, rfl, rfl⟩)
    · rintro _ _ ⟨rfl, rfl⟩ -
      simp only [with2, Step2, nthDst, putO]
      ((first | refine op_load ?_ | refine op_load_agg ?_ | refine op_load ?_ (hm := Sub.mem (by assumption) (by (repeat (apply List.mem_cons_of_mem)); assumption)) | refine op_load_agg ?_ (hm := Sub.mem (by assumption) (by (repeat (apply List.mem_cons_of_mem)); assumption)) | refine op_loadH hG rfl ?_ | refine op_load_aggH hG rfl ?_); exact ⟨[], rfl, rfl, rfl⟩)
    · rintro _ _ ⟨ny, yr, ay, cy, rfl, ry⟩ - _ _ ⟨rfl, rfl⟩ -
      simp only [with2, Step2, nthDst, putO]
      (refine op_build ?_; exact ⟨[], rfl, _, _, _, _, rfl, ⟨ny, yr, ay, cy, rfl, ry⟩⟩)
    · rintro _ _ _ _ _ _ _ _ _ _ _ _ _ _ _ _ _ _ _ _ _ _ _ _ _ _ _ _ ⟨⟨bz, az, kz, cz, rfl, hz⟩, ⟨rfl, rfl⟩, ⟨rfl, rfl⟩, ⟨ny, yr, ay, cy, rfl, ry⟩, ⟨rfl, rfl⟩, ⟨rfl, rfl⟩, ⟨nz, zr, ar, cr, rfl, r⟩, ⟨rfl, rfl⟩, ⟨rfl, rfl⟩, ⟨rfl, rfl⟩, ⟨rfl, rfl⟩, ⟨rfl, rfl⟩, ⟨rfl, rfl⟩, ⟨rfl, rfl⟩, _⟩
      simp only [List.nil_append, List.cons_append, List.append_nil, List.drop_succ_cons, List.drop_zero, nthDst, putO]
      rename_i e1 e2 e3 _
      simp only [List.nil_append] at hz
      refine tl_cons_none ?_
      refine op_perm (mid3 _ _ _ (k4, _) _).symm ?_
      refine op_store0 ?_
      repeat' first
        | refine tc_seq ?_ | refine tc_region ?_ | refine at_seq_normal ?_ | refine tl_nil ?_ | refine tl_cons ?_ | refine tl_cons_none ?_ | refine op_assign ?_ | refine op_fieldAddr ?_ | refine op_load ?_ | refine op_load_agg ?_
        | refine op_icmp ?_ | refine op_iarith ?_ | refine op_build ?_ | (refine op_alloc ?_; intro _) | (refine op_box ?_; intro _) | refine op_store0 ?_ | refine op_store1 ?_ | refine op_store2 ?_ | refine op_store3 ?_ | refine op_store4 ?_
        | refine op_store5 ?_ | refine op_storeK rfl ?_ | refine op_loadK rfl ?_ | refine op_load_aggK rfl ?_ | refine tc_cond_t ?_ | refine tc_cond_f ?_ | refine tc_cond (fun _ => ?_) (fun _ => ?_) | refine tc_block ?_ | refine tc_skip ?_ | refine tc_ret ?_
        | refine at_seq_ret ?_ | refine at_block_normal ?_ | refine at_block_ret ?_
      refine ret_one (.agg (T := 30) (k := k4) (off := 0) (m := [.bool bz, .slice az kz cz, .int .i64 f]) rfl rfl mem0 rfl rfl) (hG := List.Sublist.refl _) (hk := ⟨_, ex3_eq _ _ _, ?_⟩)
      rw [hres]
      exact IsD.skip ⟨bz, az, kz, cz, rfl, hz⟩ (mid3_mem noU3)
  · have hgt : icmp .gtr e f = false := by simp only [icmp, decide_eq_false_iff_not]; omega
    obtain ⟨kk, hkk0⟩ : ∃ kk : Nat, f - e = (kk : Int) := ⟨(f - e).toNat, by omega⟩
    have hkk : IntKind.i64.wrap (iarith .sub f e) = ((kk : Nat) : Int) := by rw [wrap_sub (by omega) (by omega)]; exact hkk0
    have hkb : kk ≤ 2000000 := by omega
    have hres : dAddN n e m f = (m * ((2 ^ kk : Nat) : Int) + n, e) := by rw [dAddN, if_neg hn0, if_neg hm0, if_neg hef, hkk0, Int.toNat_natCast]
    repeat' first
      | (first | refine tc_seq ?_ | refine tc_region ?_ | refine at_seq_normal ?_ | refine tl_nil ?_ | refine tl_cons ?_ | refine tl_cons_none ?_ | refine op_assign ?_ | refine op_fieldAddr ?_ | refine op_load ?_ | refine op_load_agg ?_ | refine op_icmp ?_ | refine op_iarith ?_ | refine op_build ?_ | (refine op_alloc ?_; intro _) | (refine op_box ?_; intro _) | refine op_store0 ?_ | refine op_store1 ?_ | refine op_store2 ?_ | refine op_store3 ?_ | refine op_store4 ?_ | refine op_store5 ?_ | refine op_storeK rfl ?_ | refine op_loadK rfl ?_ | refine op_load_aggK rfl ?_ | refine tc_cond_t ?_ | refine tc_cond_f ?_ | refine tc_cond (fun _ => ?_) (fun _ => ?_) | refine tc_block ?_ | refine tc_skip ?_ | refine tc_ret ?_ | refine at_seq_ret ?_ | refine at_block_normal ?_ | refine at_block_ret ?_ | fail)
      | (refine op_call ((dSign _ n e L _ (hu0.mono fun e he => by simp [he])).mono ?_); rintro _ _ ⟨rfl, rfl⟩)
      | (refine op_call ((dSign _ m f M _ (hv0.mono fun e he => by simp [he])).mono ?_); rintro _ _ ⟨rfl, rfl⟩)
      | fail
    rename_i k2 k3 k4
    apply fun hole0 hole1 hole2 hole3 hole4 hole5 hole6 hole7 hole8 hole9 hE hD hml hdl hpr prem fin => tc_drawn 14 [is hole0, is hole1, is hole2, is hole3, is hole4, is hole5, (is (.int .i64 ((kk : Nat) : Int))), (fun w _ G => IsW (m * ((2 ^ kk : Nat) : Int)) (M + kk / 32 + 1) w G), is hole6, is hole7, (fun w _ G => IsW (m * ((2 ^ kk : Nat) : Int) + n) (L + M + 70000) w G), is hole8, is hole9, (fun w _ G => IsD (m * ((2 ^ kk : Nat) : Int) + n) e (L + M + 70000) w G)]
      [some 35, some 36, some 37, some 38, some 39, some 40, some 41, some 42, some 43, some 44, some 45, some 46, some 47, some 48, none] [[], [0], [], [2], [], [4], [3, 5], [1, 6], [], [8], [7, 9], [], [11], [10, 12]] mixed ⟨(is_mono _), (is_mono _), (is_mono _), (is_mono _), (is_mono _), (is_mono _), (some_mono _), (fun _ _ _ _ h hs => IsW.mono h hs), (is_mono _), (is_mono _), (fun _ _ _ _ h hs => IsW.mono h hs), (is_mono _), (is_mono _), (fun _ _ _ _ h hs => IsD.mono h hs), trivial⟩ prem fin hE hD rfl hml hdl hpr
    rotate_left 11
    · first | kernel_rfl | exact rfl
    · first | kernel_rfl | exact rfl
    · exact Nat.le_of_ble_eq_true rfl
    · first | kernel_rfl | exact rfl
    · first | kernel_rfl | exact rfl
    refine ⟨fun G hG => ?_, fun G hG => ?_, fun G hG => ?_, fun G hG => ?_, fun G hG => ?_, fun G hG => ?_, fun G hG => ?_, fun G hG => ?_, fun G hG => ?_, fun G hG => ?_, fun G hG => ?_, fun G hG => ?_, fun G hG => ?_, fun G hG => ?_, trivial⟩
    · simp only [with2, Step2, nthDst, putO]
      (refine op_fieldAddr ?_; exact ⟨[], rfl, rfl, rfl⟩)
    · rintro _ _ ⟨rfl, rfl⟩ -
      simp only [with2, Step2, nthDst, putO]
      ((first | refine op_load ?_ | refine op_load_agg ?_ | refine op_load ?_ (hm := Sub.mem (by assumption) (by (repeat (apply List.mem_cons_of_mem)); assumption)) | refine op_load_agg ?_ (hm := Sub.mem (by assumption) (by (repeat (apply List.mem_cons_of_mem)); assumption)) | refine op_loadH hG rfl ?_ | refine op_load_aggH hG rfl ?_); exact ⟨[], rfl, rfl, rfl⟩)
    · simp only [with2, Step2, nthDst, putO]
      (refine op_fieldAddr ?_; exact ⟨[], rfl, rfl, rfl⟩)
    · rintro _ _ ⟨rfl, rfl⟩ -
      simp only [with2, Step2, nthDst, putO]
      ((first | refine op_load ?_ | refine op_load_agg ?_ | refine op_load ?_ (hm := Sub.mem (by assumption) (by (repeat (apply List.mem_cons_of_mem)); assumption)) | refine op_load_agg ?_ (hm := Sub.mem (by assumption) (by (repeat (apply List.mem_cons_of_mem)); assumption)) | refine op_loadH hG rfl ?_ | refine op_load_aggH hG rfl ?_); exact ⟨[], rfl, rfl, rfl⟩)
    · simp only [with2, Step2, nthDst, putO]
      (refine op_fieldAddr ?_; exact ⟨[], rfl, rfl, rfl⟩)
    · rintro _ _ ⟨rfl, rfl⟩ -
      simp only [with2, Step2, nthDst, putO]
      ((first | refine op_load ?_ | refine op_load_agg ?_ | refine op_load ?_ (hm := Sub.mem (by assumption) (by (repeat (apply List.mem_cons_of_mem)); assumption)) | refine op_load_agg ?_ (hm := Sub.mem (by assumption) (by (repeat (apply List.mem_cons_of_mem)); assumption)) | refine op_loadH hG rfl ?_ | refine op_load_aggH hG rfl ?_); exact ⟨[], rfl, rfl, rfl⟩)
    · rintro _ _ ⟨rfl, rfl⟩ - _ _ ⟨rfl, rfl⟩ -
      simp only [with2, Step2, nthDst, putO]
      (refine op_iarith ?_; exact ⟨[], rfl, congrArg (Value.int .i64) hkk, rfl⟩)
    · rintro _ _ ⟨rfl, rfl⟩ - _ _ ⟨rfl, rfl⟩ -
      simp only [with2, Step2, nthDst, putO]
      (refine op_call ((wUp _ m M kk _ (h2.mono fun e he => hG e (by simp [he])) (by omega) (by omega)).mono ?_); rintro w _ ⟨ex, rfl, hw⟩; exact ⟨ex, rfl, hw⟩)
    · simp only [with2, Step2, nthDst, putO]
      (refine op_fieldAddr ?_; exact ⟨[], rfl, rfl, rfl⟩)
    · rintro _ _ ⟨rfl, rfl⟩ -
      simp only [with2, Step2, nthDst, putO]
      ((first | refine op_load ?_ | refine op_load_agg ?_ | refine op_load ?_ (hm := Sub.mem (by assumption) (by (repeat (apply List.mem_cons_of_mem)); assumption)) | refine op_load_agg ?_ (hm := Sub.mem (by assumption) (by (repeat (apply List.mem_cons_of_mem)); assumption)) | refine op_loadH hG rfl ?_ | refine op_load_aggH hG rfl ?_); exact ⟨[], rfl, rfl, rfl⟩)
    · rintro _ _ ⟨nz, zr, ar, cr, rfl, r⟩ - _ _ ⟨rfl, rfl⟩ -
      simp only [with2, Step2, nthDst, putO]
      (refine op_call ((wAdd _ _ _ n (M + kk / 32 + 1) L _ ⟨nz, zr, ar, cr, rfl, r⟩ (h1.mono fun e he => hG e (by simp [he])) (by omega) (by omega)).mono ?_); rintro w _ ⟨ex, rfl, hw⟩; exact ⟨ex, rfl, hw.big (by omega)⟩)
    · simp only [with2, Step2, nthDst, putO]
      (refine op_fieldAddr ?_; exact ⟨[], rfl, rfl, rfl⟩)
    · rintro _ _ ⟨rfl, rfl⟩ -
      simp only [with2, Step2, nthDst, putO]
      ((first | refine op_load ?_ | refine op_load_agg ?_ | refine op_load ?_ (hm := Sub.mem (by assumption) (by (repeat (apply List.mem_cons_of_mem)); assumption)) | refine op_load_agg ?_ (hm := Sub.mem (by assumption) (by (repeat (apply List.mem_cons_of_mem)); assumption)) | refine op_loadH hG rfl ?_ | refine op_load_aggH hG rfl ?_); exact ⟨[], rfl, rfl, rfl⟩)
    · rintro _ _ ⟨ny, yr, ay, cy, rfl, ry⟩ - _ _ ⟨rfl, rfl⟩ -
      simp only [with2, Step2, nthDst, putO]
      (refine op_build ?_; exact ⟨[], rfl, _, _, _, _, rfl, ⟨ny, yr, ay, cy, rfl, ry⟩⟩)
    · rintro _ _ _ _ _ _ _ _ _ _ _ _ _ _ _ _ _ _ _ _ _ _ _ _ _ _ _ _ ⟨⟨bz, az, kz, cz, rfl, hz⟩, ⟨rfl, rfl⟩, ⟨rfl, rfl⟩, ⟨ny, yr, ay, cy, rfl, ry⟩, ⟨rfl, rfl⟩, ⟨rfl, rfl⟩, ⟨nz, zr, ar, cr, rfl, r⟩, ⟨rfl, rfl⟩, ⟨rfl, rfl⟩, ⟨rfl, rfl⟩, ⟨rfl, rfl⟩, ⟨rfl, rfl⟩, ⟨rfl, rfl⟩, ⟨rfl, rfl⟩, _⟩
      simp only [List.nil_append, List.cons_append, List.append_nil, List.drop_succ_cons, List.drop_zero, nthDst, putO]
      rename_i e1 e2 e3 _
      simp only [List.nil_append] at hz
      refine tl_cons_none ?_
      refine op_perm (mid3 _ _ _ (k4, _) _).symm ?_
      refine op_store0 ?_
      repeat' first
        | refine tc_seq ?_ | refine tc_region ?_ | refine at_seq_normal ?_ | refine tl_nil ?_ | refine tl_cons ?_ | refine tl_cons_none ?_ | refine op_assign ?_ | refine op_fieldAddr ?_ | refine op_load ?_ | refine op_load_agg ?_
        | refine op_icmp ?_ | refine op_iarith ?_ | refine op_build ?_ | (refine op_alloc ?_; intro _) | (refine op_box ?_; intro _) | refine op_store0 ?_ | refine op_store1 ?_ | refine op_store2 ?_ | refine op_store3 ?_ | refine op_store4 ?_
        | refine op_store5 ?_ | refine op_storeK rfl ?_ | refine op_loadK rfl ?_ | refine op_load_aggK rfl ?_ | refine tc_cond_t ?_ | refine tc_cond_f ?_ | refine tc_cond (fun _ => ?_) (fun _ => ?_) | refine tc_block ?_ | refine tc_skip ?_ | refine tc_ret ?_
        | refine at_seq_ret ?_ | refine at_block_normal ?_ | refine at_block_ret ?_
      refine ret_one (.agg (T := 30) (k := k4) (off := 0) (m := [.bool bz, .slice az kz cz, .int .i64 e]) rfl rfl mem0 rfl rfl) (hG := List.Sublist.refl _) (hk := ⟨_, ex3_eq _ _ _, ?_⟩)
      rw [hres]
      exact IsD.skip ⟨bz, az, kz, cz, rfl, hz⟩ (mid3_mem noU3)

set_option maxHeartbeats 8000000 in
theorem dSub (u v : Value) (n e m f : Int) (L M : Nat) (H : Heap) (hu : IsD n e L u H) (hv : IsD m f M v H) (hL : L < 2 ^ 28) (hM : M < 2 ^ 28) (he : -1000000 ≤ e ∧ e ≤ 1000000) (hf : -1000000 ≤ f ∧ f ≤ 1000000) :
    Does Tryd.prog 9 [u, v] H fun w H' => ∃ ex, H' = ex ++ H ∧ IsD (dAddN n e (-m) f).1 (dAddN n e (-m) f).2 (L + M + 70000) w H' := by
  have hu0 := hu
  have hv0 := hv
  obtain ⟨b, a, k, c, rfl, h1⟩ := hu
  obtain ⟨b2, a2, kk2, c2, rfl, h2⟩ := hv
  refine fn_enter 9 Tryd.func9 fun W => ?_
  generalize hE : (dAddN n e (-m) f).2 = E
  generalize hN : (dAddN n e (-m) f).1 = N
  repeat' first
    | refine tc_seq ?_ | refine tc_region ?_ | refine at_seq_normal ?_ | refine tl_nil ?_ | refine tl_cons ?_ | refine tl_cons_none ?_ | refine op_load ?_ | refine op_load_agg ?_ | (refine op_alloc ?_; intro _) | (refine op_box ?_; intro _)
    | refine op_store0 ?_ | refine op_store1 ?_ | refine op_store2 ?_ | refine op_store3 ?_ | refine op_store4 ?_ | refine op_store5 ?_ | refine op_storeK rfl ?_ | refine op_loadK rfl ?_ | refine op_load_aggK rfl ?_ | refine tc_ret ?_
    | refine at_seq_ret ?_
  rename_i k2 k3 k4
  apply fun hole0 hole1 hE hD hml hdl hpr prem fin => tc_drawn 4 [is hole0, is hole1, (fun w _ G => IsD (-m) f M w G), (fun w _ G => IsD N E (L + M + 70000) w G)]
    [some 5, some 6, some 7, some 8, none] [[], [], [1], [0, 2]] mixed ⟨(is_mono _), (is_mono _), (fun _ _ _ _ h hs => IsD.mono h hs), (fun _ _ _ _ h hs => IsD.mono h hs), trivial⟩ prem fin hE hD rfl hml hdl hpr
  rotate_left 3
  · first | kernel_rfl | exact rfl
  · first | kernel_rfl | exact rfl
  · exact Nat.le_of_ble_eq_true rfl
  · first | kernel_rfl | exact rfl
  · first | kernel_rfl | exact rfl
  refine ⟨fun G hG => ?_, fun G hG => ?_, fun G hG => ?_, fun G hG => ?_, trivial⟩
  · simp only [with2, Step2, nthDst, putO]
    ((first | refine op_load ?_ | refine op_load_agg ?_ | refine op_load ?_ (hm := Sub.mem (by assumption) (by (repeat (apply List.mem_cons_of_mem)); assumption)) | refine op_load_agg ?_ (hm := Sub.mem (by assumption) (by (repeat (apply List.mem_cons_of_mem)); assumption)) | refine op_loadH hG rfl ?_ | refine op_load_aggH hG rfl ?_); exact ⟨[], rfl, rfl, rfl⟩)
  · simp only [with2, Step2, nthDst, putO]
    ((first | refine op_load ?_ | refine op_load_agg ?_ | refine op_load ?_ (hm := Sub.mem (by assumption) (by (repeat (apply List.mem_cons_of_mem)); assumption)) | refine op_load_agg ?_ (hm := Sub.mem (by assumption) (by (repeat (apply List.mem_cons_of_mem)); assumption)) | refine op_loadH hG rfl ?_ | refine op_load_aggH hG rfl ?_); exact ⟨[], rfl, rfl, rfl⟩)
  · rintro _ _ ⟨rfl, rfl⟩ -
    simp only [with2, Step2, nthDst, putO]
    (refine op_call ((dMinus _ m f M _ (hv0.mono fun e he => hG e (by simp [he]))).mono ?_); rintro w _ ⟨ex, rfl, hw⟩; exact ⟨ex, rfl, hw⟩)
  · rintro _ _ ⟨rfl, rfl⟩ - _ _ g2 -
    simp only [with2, Step2, nthDst, putO]
    (refine op_call ((dAdd _ _ n e (-m) f L M _ (hu0.mono fun e he => hG e (by simp [he])) g2 hL hM he hf).mono ?_); rintro w _ ⟨ex, rfl, hw⟩; rw [hN, hE] at hw; exact ⟨ex, rfl, hw⟩)
  · rintro _ _ _ _ _ _ _ _ ⟨⟨bz, az, kz, cz, rfl, hz⟩, g2, ⟨rfl, rfl⟩, ⟨rfl, rfl⟩, _⟩
    simp only [List.nil_append, List.cons_append, List.append_nil, List.drop_succ_cons, List.drop_zero, nthDst, putO]
    rename_i e1 e2 _
    simp only [List.nil_append] at hz
    refine tl_cons_none ?_
    refine op_perm (mid2 _ _ (k4, _) _).symm ?_
    refine op_store0 ?_
    repeat' first
      | refine tc_seq ?_ | refine tc_region ?_ | refine at_seq_normal ?_ | refine tl_nil ?_ | refine tl_cons ?_ | refine tl_cons_none ?_ | refine op_load ?_ | refine op_load_agg ?_ | (refine op_alloc ?_; intro _) | (refine op_box ?_; intro _)
      | refine op_store0 ?_ | refine op_store1 ?_ | refine op_store2 ?_ | refine op_store3 ?_ | refine op_store4 ?_ | refine op_store5 ?_ | refine op_storeK rfl ?_ | refine op_loadK rfl ?_ | refine op_load_aggK rfl ?_ | refine tc_ret ?_
      | refine at_seq_ret ?_
    refine ret_one (.agg (T := 30) (k := k4) (off := 0) (m := [.bool bz, .slice az kz cz, .int .i64 E]) rfl rfl mem0 rfl rfl) (hG := List.Sublist.refl _) (hk := ⟨_, ex2_eq _ _, ?_⟩)
    exact IsD.skip ⟨bz, az, kz, cz, rfl, hz⟩ (mid2_mem noU3)
end Go.Proofs.YtelhfcjchpdkiaaDoor.Lmb

set_option linter.unusedVariables false
set_option linter.unusedSimpArgs false
namespace Go.Proofs.YtelhfcjchpdkiaaDoor.Flat
open Go.Lg

theorem bits (x : Nat) (H : Heap) : Does Tryd.prog 53 [.float .f64 x] H fun v H' => v = .int .u64 (x : Int) ∧ H' = H :=
  does_bits Tryd.func53 rfl rfl (by kernel_rfl) (by kernel_rfl)

end Go.Proofs.YtelhfcjchpdkiaaDoor.Flat

set_option linter.unusedVariables false
set_option linter.unusedSimpArgs false
namespace Go.Proofs.YtelhfcjchpdkiaaDoor.Lmb
open Go.Lg

set_option maxHeartbeats 8000000 in
theorem wholeOf (n : Int) (H : Heap) (h0 : -4611686018427387904 < n) (h1 : n < 4611686018427387904) : Does Tryd.prog 54 [.int .i64 n] H fun w H' => ∃ ex, H' = ex ++ H ∧ IsW n 2 w H' := by
  obtain ⟨m, hm⟩ : ∃ m : Nat, m = n.natAbs := ⟨_, rfl⟩
  have e5 : IntKind.u32.wrap ((m : Nat) : Int) = ((m % 4294967296 : Nat) : Int) := by rw [wrap_u32 (by omega)]; omega
  have e6 : Int.fdiv ((m : Nat) : Int) (2 ^ min (32 : Int).toNat IntKind.u64.bits) = ((m / 4294967296 : Nat) : Int) := by
    show Int.fdiv ((m : Nat) : Int) ((4294967296 : Nat) : Int) = _
    rw [Int.fdiv_eq_ediv_of_nonneg _ (by omega)]; rfl
  have e7 : IntKind.u32.wrap ((m / 4294967296 : Nat) : Int) = ((m / 4294967296 : Nat) : Int) := by rw [wrap_u32 (by omega)]; omega
  have hlm : Lm [m % 4294967296, m / 4294967296] := fun x hx => by
    simp only [List.mem_cons, List.not_mem_nil, or_false] at hx
    rcases hx with rfl | rfl <;> omega
  have hlv : lv [m % 4294967296, m / 4294967296] = m := by simp only [lv, Nat.mul_zero, Nat.add_zero]; omega
  have htr : ∀ (kn : Nat) (G : Heap) T fz, (kn, Obj.cells ⟨[.int .u32 ((m % 4294967296 : Nat) : Int), .int .u32 ((m / 4294967296 : Nat) : Int)]⟩ T fz) ∈ G → Does Tryd.prog 42 [.slice (some ⟨kn, 0, none⟩) 2 2] G
      fun w H' => ∃ q, w = .slice (some ⟨kn, 0, none⟩) q 2 ∧ H' = G ∧ q ≤ 2 ∧ Nrm ([m % 4294967296, m / 4294967296].take q) ∧ lv ([m % 4294967296, m / 4294967296].take q) = m := by
    intro kn G T fz hG
    have := trim (some ⟨kn, 0, none⟩) 2 [m % 4294967296, m / 4294967296] G (us_mem hG) (by simp only [List.length_cons, List.length_nil]; omega)
    rw [hlv] at this
    exact this
  refine fn_enter 20 Tryd.func54 fun W => ?_
  by_cases hn : n < 0
  · have hc : icmp .lss n 0 = true := by simp only [icmp, decide_eq_true_eq]; omega
    have e1 : IntKind.u64.wrap n = ((18446744073709551616 - m : Nat) : Int) := by
      simp only [IntKind.wrap, IntKind.bits, IntKind.signed]; simp; omega
    have e2 : IntKind.u64.wrap (0 - ((18446744073709551616 - m : Nat) : Int)) = ((m : Nat) : Int) := by
      simp only [IntKind.wrap, IntKind.bits, IntKind.signed]; simp; omega
    repeat' first
      | (rw [e1])
      | (rw [e2])
      | (rw [e5])
      | (rw [e6])
      | (rw [e7])
      | refine op_itoi ?_
      | refine op_shr (v := 32) ?_
      | (refine op_buildSlice (fun kn => ?_))
      | (refine op_call ((htr _ _ _ _ List.mem_cons_self).mono ?_); rintro _ _ ⟨q, rfl, rfl, hq, hnr, hl⟩)
      | refine op_build ?_
      | (first | refine tc_seq ?_ | refine tc_region ?_ | refine at_seq_normal ?_ | refine tl_nil ?_ | refine tl_cons ?_ | refine tl_cons_none ?_ | refine op_move ?_ | refine op_assign ?_ | refine op_icmp ?_ | refine op_unop_neg_float ?_ | refine op_unop_neg_int ?_ | refine op_build ?_ | refine op_itof ?_ | refine op_itoi ?_ | refine op_ftoi ?_ | refine op_shr ?_ | (refine op_alloc ?_; intro _) | (refine op_buildSlice ?_; intro _) | refine op_store0 ?_ | refine op_store1 ?_ | refine op_store2 ?_ | refine op_store3 ?_ | refine op_store4 ?_ | refine op_store5 ?_ | refine op_storeK rfl ?_ | refine tc_cond_t ?_ | refine tc_cond_f ?_ | refine tc_cond (fun _ => ?_) (fun _ => ?_) | refine tc_skip ?_ | refine tc_ret ?_ | refine at_seq_ret ?_ | fail)
      | fail
    rename_i k2
    have hlen : ([m % 4294967296, m / 4294967296].take q).length = q := by rw [List.length_take]; exact Nat.min_eq_left hq
    refine ret_one (.agg (T := 28) (k := k2) (off := 0) (m := [.bool (icmp .lss n 0), .slice (some ⟨kn, 0, none⟩) q 2]) rfl rfl mem1 rfl rfl) (hG := List.Sublist.refl _) (hk := ⟨[_, _], rfl, icmp .lss n 0, [m % 4294967296, m / 4294967296].take q, some ⟨kn, 0, none⟩, 2, ?_, ?_, hlm.take q, hnr, ?_, (fun _ => by rw [hl]; omega), by rw [hlen]; exact hq⟩)
    · rw [hlen]
    · rw [hlen]; exact US.take (n := 2) (zs := [m % 4294967296, m / 4294967296]) (us_mem (k := kn) (zs := [m % 4294967296, m / 4294967296]) (T := 72) (fz := (0, 0)) (by simp [uv])) hq
    · rw [hc, nval, if_pos rfl, hl]; omega
  · have hc : icmp .lss n 0 = false := by simp only [icmp, decide_eq_false_iff_not]; omega
    have e1 : IntKind.u64.wrap n = ((m : Nat) : Int) := by rw [wrap_u64 (by omega) (by omega)]; omega
    repeat' first
      | (rw [e1])
      | (rw [e5])
      | (rw [e6])
      | (rw [e7])
      | refine op_itoi ?_
      | refine op_shr (v := 32) ?_
      | (refine op_buildSlice (fun kn => ?_))
      | (refine op_call ((htr _ _ _ _ List.mem_cons_self).mono ?_); rintro _ _ ⟨q, rfl, rfl, hq, hnr, hl⟩)
      | refine op_build ?_
      | (first | refine tc_seq ?_ | refine tc_region ?_ | refine at_seq_normal ?_ | refine tl_nil ?_ | refine tl_cons ?_ | refine tl_cons_none ?_ | refine op_move ?_ | refine op_assign ?_ | refine op_icmp ?_ | refine op_unop_neg_float ?_ | refine op_unop_neg_int ?_ | refine op_build ?_ | refine op_itof ?_ | refine op_itoi ?_ | refine op_ftoi ?_ | refine op_shr ?_ | (refine op_alloc ?_; intro _) | (refine op_buildSlice ?_; intro _) | refine op_store0 ?_ | refine op_store1 ?_ | refine op_store2 ?_ | refine op_store3 ?_ | refine op_store4 ?_ | refine op_store5 ?_ | refine op_storeK rfl ?_ | refine tc_cond_t ?_ | refine tc_cond_f ?_ | refine tc_cond (fun _ => ?_) (fun _ => ?_) | refine tc_skip ?_ | refine tc_ret ?_ | refine at_seq_ret ?_ | fail)
      | fail
    rename_i k2
    have hlen : ([m % 4294967296, m / 4294967296].take q).length = q := by rw [List.length_take]; exact Nat.min_eq_left hq
    refine ret_one (.agg (T := 28) (k := k2) (off := 0) (m := [.bool (icmp .lss n 0), .slice (some ⟨kn, 0, none⟩) q 2]) rfl rfl mem1 rfl rfl) (hG := List.Sublist.refl _) (hk := ⟨[_, _], rfl, icmp .lss n 0, [m % 4294967296, m / 4294967296].take q, some ⟨kn, 0, none⟩, 2, ?_, ?_, hlm.take q, hnr, ?_, (fun hb => by rw [hc] at hb; cases hb), by rw [hlen]; exact hq⟩)
    · rw [hlen]
    · rw [hlen]; exact US.take (n := 2) (zs := [m % 4294967296, m / 4294967296]) (us_mem (k := kn) (zs := [m % 4294967296, m / 4294967296]) (T := 72) (fz := (0, 0)) (by simp [uv])) hq
    · rw [hc, nval, if_neg (by decide), hl]; omega

theorem ibits_and {a p : Nat} (hp : p < 64) (ha : a < 18446744073709551616) : ibits .and .u64 ((a : Nat) : Int) ((2 ^ p - 1 : Nat) : Int) = ((a % 2 ^ p : Nat) : Int) := by
  have hpp : 2 ^ p - 1 < 18446744073709551616 := by
    have : 2 ^ p ≤ 2 ^ 63 := Nat.pow_le_pow_right (by decide) (by omega)
    omega
  show IntKind.u64.wrap (((BitVec.ofInt 64 ((a : Nat) : Int) &&& BitVec.ofInt 64 ((2 ^ p - 1 : Nat) : Int) : BitVec 64).toNat : Nat) : Int) = _
  rw [BitVec.ofInt_natCast, BitVec.ofInt_natCast, BitVec.toNat_and, BitVec.toNat_ofNat, BitVec.toNat_ofNat, Nat.mod_eq_of_lt (by omega), Nat.mod_eq_of_lt (by omega), Nat.and_two_pow_sub_one_eq_mod]
  have := Nat.mod_le a (2 ^ p)
  exact wrap_u64 (by omega) (by omega)

/-- What a float's word stands for. -/
theorem word_val {x : Nat} {q : Rat} (h : Fv x q) (hx : x < 18446744073709551616) : x / 4503599627370496 % 2048 ≠ 2047 ∧
    q = ((((if x / 9223372036854775808 = 1 then -1 else 1) * ((if x / 4503599627370496 % 2048 = 0 then x % 4503599627370496 else 4503599627370496 + x % 4503599627370496 : Nat) : Int) : Int)) : Rat) * p2 ((if x / 4503599627370496 % 2048 = 0 then 1 else ((x / 4503599627370496 % 2048 : Nat) : Int)) - 1075) := by
  obtain ⟨s, m, e, hr, hq⟩ := h
  have hread : Ieee.double.read x = (if x % 9223372036854775808 < 4503599627370496 then
      Ieee.Datum.number (x / 9223372036854775808 % 2 == 1) (x % 9223372036854775808) (-1074)
    else if x % 9223372036854775808 < 9218868437227405312 then
      Ieee.Datum.number (x / 9223372036854775808 % 2 == 1) (4503599627370496 + x % 9223372036854775808 % 4503599627370496) (-1074 + ((x % 9223372036854775808 / 4503599627370496 - 1 : Nat) : Int))
    else if x % 9223372036854775808 = 9218868437227405312 then Ieee.Datum.infinity (x / 9223372036854775808 % 2 == 1)
    else Ieee.Datum.nan (x / 9223372036854775808 % 2 == 1) (x % 9223372036854775808 - 9218868437227405312)) := rfl
  rw [hread] at hr
  have hs2 : ∀ b : Bool, (x / 9223372036854775808 % 2 == 1) = b → sgn b = (((if x / 9223372036854775808 = 1 then -1 else 1 : Int)) : Rat) := by
    intro b hb
    by_cases h1 : x / 9223372036854775808 = 1
    · rw [if_pos h1]; rw [h1] at hb; subst hb; unfold sgn; simp
    · have h0 : x / 9223372036854775808 = 0 := by omega
      rw [if_neg h1]; rw [h0] at hb; subst hb; unfold sgn; simp
  by_cases c1 : x % 9223372036854775808 < 4503599627370496
  · rw [if_pos c1] at hr; cases hr
    have h0 : x / 4503599627370496 % 2048 = 0 := by omega
    refine ⟨by omega, ?_⟩
    rw [if_pos h0, if_pos h0, hq, hs2 _ rfl, Rat.intCast_mul, Rat.intCast_natCast, show x % 9223372036854775808 = x % 4503599627370496 by omega]
    rfl
  · rw [if_neg c1] at hr
    by_cases c2 : x % 9223372036854775808 < 9218868437227405312
    · rw [if_pos c2] at hr; cases hr
      have h0 : x / 4503599627370496 % 2048 ≠ 0 := by omega
      refine ⟨by omega, ?_⟩
      rw [if_neg h0, if_neg h0, hq, hs2 _ rfl, Rat.intCast_mul, Rat.intCast_natCast, show x % 9223372036854775808 % 4503599627370496 = x % 4503599627370496 by omega,
        show (-1074 + ((x % 9223372036854775808 / 4503599627370496 - 1 : Nat) : Int)) = ((x / 4503599627370496 % 2048 : Nat) : Int) - 1075 by omega]
    · rw [if_neg c2] at hr
      by_cases c3 : x % 9223372036854775808 = 9218868437227405312
      · rw [if_pos c3] at hr; cases hr
      · rw [if_neg c3] at hr; cases hr
end Go.Proofs.YtelhfcjchpdkiaaDoor.Lmb

set_option linter.unusedVariables false
set_option linter.unusedSimpArgs false
namespace Go.Proofs.YtelhfcjchpdkiaaDoor.Lmb
open Go.Lg

theorem neg_wrap {t : Nat} (h : t ≤ 9007199254740992) : IntKind.i64.wrap (0 - ((t : Nat) : Int)) = -((t : Nat) : Int) := by
  have : (0 : Int) - ((t : Nat) : Int) = -((t : Nat) : Int) := Int.zero_sub _
  rw [this]
  exact wrap_in (by omega) (by omega)
/-- What the word's parts are, as0 the code takes them out. -/
structure DyF (x mm ee ss : Nat) : Prop where
  e1 : ibits .and .u64 ((x : Nat) : Int) 4503599627370495 = ((mm : Nat) : Int)
  e2 : IntKind.i64.wrap ((mm : Nat) : Int) = ((mm : Nat) : Int)
  e3 : Int.fdiv ((x : Nat) : Int) (2 ^ min (52 : Int).toNat IntKind.u64.bits) = ((x / 4503599627370496 : Nat) : Int)
  e4 : ibits .and .u64 ((x / 4503599627370496 : Nat) : Int) 2047 = ((ee : Nat) : Int)
  e5 : IntKind.i64.wrap ((ee : Nat) : Int) = ((ee : Nat) : Int)
  e6 : Int.fdiv ((x : Nat) : Int) (2 ^ min (63 : Int).toNat IntKind.u64.bits) = ((ss : Nat) : Int)
theorem dyF (x : Nat) (hx : x < 18446744073709551616) : DyF x (x % 4503599627370496) (x / 4503599627370496 % 2048) (x / 9223372036854775808) where
  e1 := ibits_and (p := 52) (by decide) hx
  e2 := wrap_in (by omega) (by omega)
  e3 := by
    show Int.fdiv ((x : Nat) : Int) ((4503599627370496 : Nat) : Int) = _
    rw [Int.fdiv_eq_ediv_of_nonneg _ (by omega)]; rfl
  e4 := ibits_and (p := 11) (by decide) (by omega)
  e5 := wrap_in (by omega) (by omega)
  e6 := by
    show Int.fdiv ((x : Nat) : Int) ((9223372036854775808 : Nat) : Int) = _
    rw [Int.fdiv_eq_ediv_of_nonneg _ (by omega)]; rfl
theorem dyAdd {mm : Nat} (h : mm < 4503599627370496) : IntKind.i64.wrap (iarith .add ((mm : Nat) : Int) 4503599627370496) = ((4503599627370496 + mm : Nat) : Int) := by rw [wrap_add (by omega) (by omega)]; omega
theorem dyE1 : IntKind.i64.wrap (iarith .sub 1 1075) = (-1074 : Int) := by rw [wrap_sub (by omega) (by omega)]; rfl
theorem dyE2 {ee : Nat} (h : ee < 2048) : IntKind.i64.wrap (iarith .sub ((ee : Nat) : Int) 1075) = ((ee : Nat) : Int) - 1075 := wrap_sub (by omega) (by omega)
theorem eqlF {a : Nat} {b : Int} (h : (a : Int) ≠ b) : icmp .eql ((a : Nat) : Int) b = false := by simp only [icmp, beq_eq_false_iff_ne]; exact h
theorem eqlT {a : Nat} {b : Int} (h : (a : Int) = b) : icmp .eql ((a : Nat) : Int) b = true := by simp only [icmp, beq_iff_eq]; exact h
set_option maxHeartbeats 16000000 in
theorem dyWalk00 (x mm ee ss : Nat) (H : Heap) (F : DyF x mm ee ss) (bm : mm < 4503599627370496) (be : ee < 2048) (c1 : icmp .eql ((ee : Nat) : Int) 2047 = false) (c2 : icmp .eql ((ee : Nat) : Int) 0 = true) (c3 : icmp .eql ((ss : Nat) : Int) 1 = true) :
    Does Tryd.prog 39 [.float .f64 x] H fun w H' => ∃ ex, H' = ex ++ H ∧ IsD (-((mm : Nat) : Int)) (-1074) 2 w H' := by
  have a1 := F.e1
  have a2 := F.e2
  have a3 := F.e3
  have a4 := F.e4
  have a5 := F.e5
  have a6 := F.e6
  have a8 := dyAdd bm
  have a9 := neg_wrap (t := mm) (by clear F a1 a2 a3 a4 a5 a6 a8; omega)
  have a10 := dyE1
  have w1 : -4611686018427387904 < -((mm : Nat) : Int) := by clear a1 a2 a3 a4 a5 a6 a8 a9 a10 c1 c2 c3 F; omega
  have w2 : -((mm : Nat) : Int) < 4611686018427387904 := by clear a1 a2 a3 a4 a5 a6 a8 a9 a10 c1 c2 c3 F; omega
  refine fn_enter 33 Tryd.func39 fun W => ?_
  repeat' first
    | (rw [a1])
    | (rw [a2])
    | (rw [a3])
    | (rw [a4])
    | (rw [a5])
    | (rw [a6])
    | (rw [a8])
    | (rw [a9])
    | (rw [a10])
    | (rw [c1])
    | (rw [c2])
    | (rw [c3])
    | refine tc_cond_true ?_
    | refine tc_cond_false ?_
    | refine op_itoi ?_
    | refine op_shr (v := 52) ?_
    | refine op_shr (v := 63) ?_
    | refine op_ibits ?_
    | (refine op_call ((Go.Proofs.YtelhfcjchpdkiaaDoor.Flat.bits _ _).mono ?_); rintro _ _ ⟨rfl, rfl⟩)
    | (refine op_call ((wholeOf (-((mm : Nat) : Int)) _ w1 w2).mono ?_); rintro _ _ ⟨ex, rfl, nz, zr, ar, cr, rfl, hw⟩)
    | refine tc_seq ?_
    | refine tc_region ?_
    | refine tc_block ?_
    | refine tc_skip ?_
    | refine tc_exit ?_
    | refine tc_ret ?_
    | refine at_seq_normal ?_
    | refine at_seq_exit ?_
    | refine at_seq_ret ?_
    | refine at_block_normal ?_
    | refine at_block_ret ?_
    | refine at_block_exit_self ?_
    | refine at_block_exit_ne ?_
    | refine tl_nil ?_
    | refine tl_cons ?_
    | refine tl_cons_none ?_
    | refine op_move ?_
    | refine op_assign ?_
    | refine op_alloc (fun k2 => ?_)
    | refine op_icmp ?_
    | refine op_iarith ?_
    | refine op_unop_neg_int ?_
    | refine op_build ?_
    | refine op_store0 ?_
    | refine op_store1 ?_
    | fail
  refine op_perm (mid2 [] _ (k2, _) _).symm ?_
  refine op_store0 ?_
  repeat' first | refine tl_nil ?_ | refine at_seq_normal ?_ | refine tc_ret ?_
  refine ret_one (.agg (T := 30) (k := k2) (off := 0) (m := [.bool nz, .slice ar zr.length cr, .int .i64 (-1074)]) rfl rfl mem0 rfl rfl) (hG := List.Sublist.refl _) (hk := ⟨_ :: ex, rfl, ?_⟩)
  exact IsD.skip ⟨nz, ar, zr.length, cr, rfl, nz, zr, ar, cr, rfl, hw⟩ (mid2_mem (e2 := []) noU3)
set_option maxHeartbeats 16000000 in
theorem dyWalk01 (x mm ee ss : Nat) (H : Heap) (F : DyF x mm ee ss) (bm : mm < 4503599627370496) (be : ee < 2048) (c1 : icmp .eql ((ee : Nat) : Int) 2047 = false) (c2 : icmp .eql ((ee : Nat) : Int) 0 = true) (c3 : icmp .eql ((ss : Nat) : Int) 1 = false) :
    Does Tryd.prog 39 [.float .f64 x] H fun w H' => ∃ ex, H' = ex ++ H ∧ IsD (((mm : Nat) : Int)) (-1074) 2 w H' := by
  have a1 := F.e1
  have a2 := F.e2
  have a3 := F.e3
  have a4 := F.e4
  have a5 := F.e5
  have a6 := F.e6
  have a8 := dyAdd bm
  have a9 : True := trivial
  have a10 := dyE1
  have w1 : -4611686018427387904 < ((mm : Nat) : Int) := by clear a1 a2 a3 a4 a5 a6 a8 a9 a10 c1 c2 c3 F; omega
  have w2 : ((mm : Nat) : Int) < 4611686018427387904 := by clear a1 a2 a3 a4 a5 a6 a8 a9 a10 c1 c2 c3 F; omega
  refine fn_enter 33 Tryd.func39 fun W => ?_
  repeat' first
    | (rw [a1])
    | (rw [a2])
    | (rw [a3])
    | (rw [a4])
    | (rw [a5])
    | (rw [a6])
    | (rw [a8])
    | (rw [a10])
    | (rw [c1])
    | (rw [c2])
    | (rw [c3])
    | refine tc_cond_true ?_
    | refine tc_cond_false ?_
    | refine op_itoi ?_
    | refine op_shr (v := 52) ?_
    | refine op_shr (v := 63) ?_
    | refine op_ibits ?_
    | (refine op_call ((Go.Proofs.YtelhfcjchpdkiaaDoor.Flat.bits _ _).mono ?_); rintro _ _ ⟨rfl, rfl⟩)
    | (refine op_call ((wholeOf (((mm : Nat) : Int)) _ w1 w2).mono ?_); rintro _ _ ⟨ex, rfl, nz, zr, ar, cr, rfl, hw⟩)
    | refine tc_seq ?_
    | refine tc_region ?_
    | refine tc_block ?_
    | refine tc_skip ?_
    | refine tc_exit ?_
    | refine tc_ret ?_
    | refine at_seq_normal ?_
    | refine at_seq_exit ?_
    | refine at_seq_ret ?_
    | refine at_block_normal ?_
    | refine at_block_ret ?_
    | refine at_block_exit_self ?_
    | refine at_block_exit_ne ?_
    | refine tl_nil ?_
    | refine tl_cons ?_
    | refine tl_cons_none ?_
    | refine op_move ?_
    | refine op_assign ?_
    | refine op_alloc (fun k2 => ?_)
    | refine op_icmp ?_
    | refine op_iarith ?_
    | refine op_unop_neg_int ?_
    | refine op_build ?_
    | refine op_store0 ?_
    | refine op_store1 ?_
    | fail
  refine op_perm (mid2 [] _ (k2, _) _).symm ?_
  refine op_store0 ?_
  repeat' first | refine tl_nil ?_ | refine at_seq_normal ?_ | refine tc_ret ?_
  refine ret_one (.agg (T := 30) (k := k2) (off := 0) (m := [.bool nz, .slice ar zr.length cr, .int .i64 (-1074)]) rfl rfl mem0 rfl rfl) (hG := List.Sublist.refl _) (hk := ⟨_ :: ex, rfl, ?_⟩)
  exact IsD.skip ⟨nz, ar, zr.length, cr, rfl, nz, zr, ar, cr, rfl, hw⟩ (mid2_mem (e2 := []) noU3)
set_option maxHeartbeats 16000000 in
theorem dyWalk10 (x mm ee ss : Nat) (H : Heap) (F : DyF x mm ee ss) (bm : mm < 4503599627370496) (be : ee < 2048) (c1 : icmp .eql ((ee : Nat) : Int) 2047 = false) (c2 : icmp .eql ((ee : Nat) : Int) 0 = false) (c3 : icmp .eql ((ss : Nat) : Int) 1 = true) :
    Does Tryd.prog 39 [.float .f64 x] H fun w H' => ∃ ex, H' = ex ++ H ∧ IsD (-((4503599627370496 + mm : Nat) : Int)) (((ee : Nat) : Int) - 1075) 2 w H' := by
  have a1 := F.e1
  have a2 := F.e2
  have a3 := F.e3
  have a4 := F.e4
  have a5 := F.e5
  have a6 := F.e6
  have a8 := dyAdd bm
  have a9 := neg_wrap (t := 4503599627370496 + mm) (by clear F a1 a2 a3 a4 a5 a6 a8; omega)
  have a10 := dyE2 be
  have w1 : -4611686018427387904 < -((4503599627370496 + mm : Nat) : Int) := by clear a1 a2 a3 a4 a5 a6 a8 a9 a10 c1 c2 c3 F; omega
  have w2 : -((4503599627370496 + mm : Nat) : Int) < 4611686018427387904 := by clear a1 a2 a3 a4 a5 a6 a8 a9 a10 c1 c2 c3 F; omega
  refine fn_enter 33 Tryd.func39 fun W => ?_
  repeat' first
    | (rw [a1])
    | (rw [a2])
    | (rw [a3])
    | (rw [a4])
    | (rw [a5])
    | (rw [a6])
    | (rw [a8])
    | (rw [a9])
    | (rw [a10])
    | (rw [c1])
    | (rw [c2])
    | (rw [c3])
    | refine tc_cond_true ?_
    | refine tc_cond_false ?_
    | refine op_itoi ?_
    | refine op_shr (v := 52) ?_
    | refine op_shr (v := 63) ?_
    | refine op_ibits ?_
    | (refine op_call ((Go.Proofs.YtelhfcjchpdkiaaDoor.Flat.bits _ _).mono ?_); rintro _ _ ⟨rfl, rfl⟩)
    | (refine op_call ((wholeOf (-((4503599627370496 + mm : Nat) : Int)) _ w1 w2).mono ?_); rintro _ _ ⟨ex, rfl, nz, zr, ar, cr, rfl, hw⟩)
    | refine tc_seq ?_
    | refine tc_region ?_
    | refine tc_block ?_
    | refine tc_skip ?_
    | refine tc_exit ?_
    | refine tc_ret ?_
    | refine at_seq_normal ?_
    | refine at_seq_exit ?_
    | refine at_seq_ret ?_
    | refine at_block_normal ?_
    | refine at_block_ret ?_
    | refine at_block_exit_self ?_
    | refine at_block_exit_ne ?_
    | refine tl_nil ?_
    | refine tl_cons ?_
    | refine tl_cons_none ?_
    | refine op_move ?_
    | refine op_assign ?_
    | refine op_alloc (fun k2 => ?_)
    | refine op_icmp ?_
    | refine op_iarith ?_
    | refine op_unop_neg_int ?_
    | refine op_build ?_
    | refine op_store0 ?_
    | refine op_store1 ?_
    | fail
  refine op_perm (mid2 [] _ (k2, _) _).symm ?_
  refine op_store0 ?_
  repeat' first | refine tl_nil ?_ | refine at_seq_normal ?_ | refine tc_ret ?_
  refine ret_one (.agg (T := 30) (k := k2) (off := 0) (m := [.bool nz, .slice ar zr.length cr, .int .i64 (((ee : Nat) : Int) - 1075)]) rfl rfl mem0 rfl rfl) (hG := List.Sublist.refl _) (hk := ⟨_ :: ex, rfl, ?_⟩)
  exact IsD.skip ⟨nz, ar, zr.length, cr, rfl, nz, zr, ar, cr, rfl, hw⟩ (mid2_mem (e2 := []) noU3)
set_option maxHeartbeats 16000000 in
theorem dyWalk11 (x mm ee ss : Nat) (H : Heap) (F : DyF x mm ee ss) (bm : mm < 4503599627370496) (be : ee < 2048) (c1 : icmp .eql ((ee : Nat) : Int) 2047 = false) (c2 : icmp .eql ((ee : Nat) : Int) 0 = false) (c3 : icmp .eql ((ss : Nat) : Int) 1 = false) :
    Does Tryd.prog 39 [.float .f64 x] H fun w H' => ∃ ex, H' = ex ++ H ∧ IsD (((4503599627370496 + mm : Nat) : Int)) (((ee : Nat) : Int) - 1075) 2 w H' := by
  have a1 := F.e1
  have a2 := F.e2
  have a3 := F.e3
  have a4 := F.e4
  have a5 := F.e5
  have a6 := F.e6
  have a8 := dyAdd bm
  have a9 : True := trivial
  have a10 := dyE2 be
  have w1 : -4611686018427387904 < ((4503599627370496 + mm : Nat) : Int) := by clear a1 a2 a3 a4 a5 a6 a8 a9 a10 c1 c2 c3 F; omega
  have w2 : ((4503599627370496 + mm : Nat) : Int) < 4611686018427387904 := by clear a1 a2 a3 a4 a5 a6 a8 a9 a10 c1 c2 c3 F; omega
  refine fn_enter 33 Tryd.func39 fun W => ?_
  repeat' first
    | (rw [a1])
    | (rw [a2])
    | (rw [a3])
    | (rw [a4])
    | (rw [a5])
    | (rw [a6])
    | (rw [a8])
    | (rw [a10])
    | (rw [c1])
    | (rw [c2])
    | (rw [c3])
    | refine tc_cond_true ?_
    | refine tc_cond_false ?_
    | refine op_itoi ?_
    | refine op_shr (v := 52) ?_
    | refine op_shr (v := 63) ?_
    | refine op_ibits ?_
    | (refine op_call ((Go.Proofs.YtelhfcjchpdkiaaDoor.Flat.bits _ _).mono ?_); rintro _ _ ⟨rfl, rfl⟩)
    | (refine op_call ((wholeOf (((4503599627370496 + mm : Nat) : Int)) _ w1 w2).mono ?_); rintro _ _ ⟨ex, rfl, nz, zr, ar, cr, rfl, hw⟩)
    | refine tc_seq ?_
    | refine tc_region ?_
    | refine tc_block ?_
    | refine tc_skip ?_
    | refine tc_exit ?_
    | refine tc_ret ?_
    | refine at_seq_normal ?_
    | refine at_seq_exit ?_
    | refine at_seq_ret ?_
    | refine at_block_normal ?_
    | refine at_block_ret ?_
    | refine at_block_exit_self ?_
    | refine at_block_exit_ne ?_
    | refine tl_nil ?_
    | refine tl_cons ?_
    | refine tl_cons_none ?_
    | refine op_move ?_
    | refine op_assign ?_
    | refine op_alloc (fun k2 => ?_)
    | refine op_icmp ?_
    | refine op_iarith ?_
    | refine op_unop_neg_int ?_
    | refine op_build ?_
    | refine op_store0 ?_
    | refine op_store1 ?_
    | fail
  refine op_perm (mid2 [] _ (k2, _) _).symm ?_
  refine op_store0 ?_
  repeat' first | refine tl_nil ?_ | refine at_seq_normal ?_ | refine tc_ret ?_
  refine ret_one (.agg (T := 30) (k := k2) (off := 0) (m := [.bool nz, .slice ar zr.length cr, .int .i64 (((ee : Nat) : Int) - 1075)]) rfl rfl mem0 rfl rfl) (hG := List.Sublist.refl _) (hk := ⟨_ :: ex, rfl, ?_⟩)
  exact IsD.skip ⟨nz, ar, zr.length, cr, rfl, nz, zr, ar, cr, rfl, hw⟩ (mid2_mem (e2 := []) noU3)

theorem dyadicOf (x : Nat) (q : Rat) (H : Heap) (hq : Fv x q) (hx : x < 18446744073709551616) : Does Tryd.prog 39 [.float .f64 x] H fun w H' => ∃ ex n e, H' = ex ++ H ∧ IsD n e 2 w H' ∧ q = (n : Rat) * p2 e ∧ -1074 ≤ e ∧ e ≤ 971 := by
  obtain ⟨hv1, hv2⟩ := word_val hq hx
  have F := dyF x hx
  have bm : x % 4503599627370496 < 4503599627370496 := Nat.mod_lt _ (by decide)
  have be : x / 4503599627370496 % 2048 < 2048 := Nat.mod_lt _ (by decide)
  have bs : x / 9223372036854775808 ≤ 1 := by omega
  generalize x % 4503599627370496 = mm at *
  generalize x / 4503599627370496 % 2048 = ee at *
  generalize x / 9223372036854775808 = ss at *
  have c1 : icmp .eql ((ee : Nat) : Int) 2047 = false := eqlF (by clear hv2 F; omega)
  by_cases h0 : ee = 0
  · rw [if_pos h0, if_pos h0] at hv2
    have c2 : icmp .eql ((ee : Nat) : Int) 0 = true := eqlT (by clear hv2 F; omega)
    by_cases h1 : ss = 1
    · rw [if_pos h1] at hv2
      have c3 : icmp .eql ((ss : Nat) : Int) 1 = true := eqlT (by clear hv2 F; omega)
      refine (dyWalk00 x mm ee ss H F bm be c1 c2 c3).mono ?_
      rintro w H' ⟨ex, rfl, hd⟩
      refine ⟨ex, _, _, rfl, hd, ?_, by decide, by decide⟩
      rw [hv2, Int.neg_one_mul]; rfl
    · rw [if_neg h1] at hv2
      have c3 : icmp .eql ((ss : Nat) : Int) 1 = false := eqlF (by clear hv2 F; omega)
      refine (dyWalk01 x mm ee ss H F bm be c1 c2 c3).mono ?_
      rintro w H' ⟨ex, rfl, hd⟩
      refine ⟨ex, _, _, rfl, hd, ?_, by decide, by decide⟩
      rw [hv2, Int.one_mul]; rfl
  · rw [if_neg h0, if_neg h0] at hv2
    have c2 : icmp .eql ((ee : Nat) : Int) 0 = false := eqlF (by clear hv2 F; omega)
    by_cases h1 : ss = 1
    · rw [if_pos h1] at hv2
      have c3 : icmp .eql ((ss : Nat) : Int) 1 = true := eqlT (by clear hv2 F; omega)
      refine (dyWalk10 x mm ee ss H F bm be c1 c2 c3).mono ?_
      rintro w H' ⟨ex, rfl, hd⟩
      refine ⟨ex, _, _, rfl, hd, ?_, by clear hv2 F; omega, by clear hv2 F; omega⟩
      rw [hv2, Int.neg_one_mul]
    · rw [if_neg h1] at hv2
      have c3 : icmp .eql ((ss : Nat) : Int) 1 = false := eqlF (by clear hv2 F; omega)
      refine (dyWalk11 x mm ee ss H F bm be c1 c2 c3).mono ?_
      rintro w H' ⟨ex, rfl, hd⟩
      refine ⟨ex, _, _, rfl, hd, ?_, by clear hv2 F; omega, by clear hv2 F; omega⟩
      rw [hv2, Int.one_mul]
end Go.Proofs.YtelhfcjchpdkiaaDoor.Lmb

set_option linter.unusedVariables false
set_option linter.unusedSimpArgs false
namespace Go.Lg

/-- Block k of the memory G is o; the others are R. -/
class MidC (G : Heap) (k : Nat) (o : outParam Obj) (R : outParam Heap) : Prop where
  perm : List.Perm G ((k, o) :: R)
instance (priority := 2000) midHere {k o R} : MidC ((k, o) :: R) k o R := ⟨List.Perm.refl _⟩
instance (priority := 1500) midApp {e M k o R} [h : MidC M k o R] : MidC (e ++ M) k o (e ++ R) := ⟨(h.perm.append_left e).trans List.perm_middle⟩
instance (priority := 1000) midCons {a M k o R} [h : MidC M k o R] : MidC (a :: M) k o (a :: R) := ⟨(List.Perm.cons a h.perm).trans (List.Perm.swap _ a R)⟩
theorem mid_mem {G : Heap} {k o R} [h : MidC G k o R] {y : Nat × Obj} {p : Nat × Obj → Prop} (hp : p (k, o)) : ∀ e ∈ G, e ∈ y :: R ∨ p e := fun e he => by
  rcases List.mem_cons.1 (h.perm.subset he) with h | h
  · right; rw [h]; exact hp
  · exact .inl (List.mem_cons_of_mem _ h)
/-- The memory G is H and new blocks. -/
class ExC (G H : Heap) : Prop where
  ex : ∃ ex, G = ex ++ H
instance (priority := 2000) exHere {H} : ExC H H := ⟨[], rfl⟩
instance (priority := 1500) exApp {e M H} [h : ExC M H] : ExC (e ++ M) H := ⟨let ⟨x, h⟩ := h.ex; ⟨e ++ x, by rw [h, List.append_assoc]⟩⟩
instance (priority := 1000) exCons {a M H} [h : ExC M H] : ExC (a :: M) H := ⟨let ⟨x, h⟩ := h.ex; ⟨a :: x, by rw [h]; rfl⟩⟩
theorem exq {G H : Heap} [h : ExC G H] {p : Prop} (hp : p) : ∃ ex, G = ex ++ H ∧ p := let ⟨ex, h⟩ := h.ex; ⟨ex, h, hp⟩
theorem exs {G H : Heap} [h : ExC G H] : ∀ e ∈ H, e ∈ G := let ⟨x, h⟩ := h.ex; by rw [h]; exact fun e he => List.mem_append_right _ he
section
variable {P : Program} {W : World} {n : Nat} {ds : List Deferred} {dst : Option Tmp} {ty : TypeId} {pos : String} {af : Array Edge} {g : Option (Nat × Bool)} {E : Env} {G : Heap} {K : Value → Heap → Prop}
/-- A store into a block that lies anywhere. -/
theorem op_storeK {t s b z x y k off l T v m l' R} [Inf P t s b z] (hx : evalE E x = some (.pointer (some ⟨k, off, none⟩))) [hperm : MidC G k (Obj.cells ⟨l⟩ T (0, 0)) R] (hk : K undef ((k, Obj.cells ⟨l'⟩ T (0, 0)) :: R)) (hy : evalE E y = some v := by exact rfl) (hm : v.cells = ⟨m⟩ := by exact rfl) (hlen : m.length = s := by exact rfl) (hp : m.all Value.plain = true := by exact rfl) (hroom : off + s ≤ l.length := by exact Nat.le_of_ble_eq_true rfl) (hnew : setCells l off m = l' := by first | (simp only [setCells, List.set_cons_zero, List.set_cons_succ, List.take_succ_cons, List.take_zero, List.drop_zero, List.drop_succ_cons, Nat.zero_add, Nat.add_zero, Nat.reduceAdd]; exact rfl) | exact rfl) : OpT P W n ds ⟨dst, .store t x y, ty, pos, af, g⟩ E G K :=
  op_perm hperm.perm.symm (op_store0 hk hx hy rfl hm hlen hp hroom hnew)
theorem op_loadK {t d x k off l T fz v R} [Und P t d] (hx : evalE E x = some (.pointer (some ⟨k, off, none⟩))) [hm : MidC G k (Obj.cells ⟨l⟩ T fz) R] (hk : K v G) (hd : TypeDesc.isAgg d = false := by exact rfl) (hv : l[off]? = some v := by first | exact rfl | assumption) : OpT P W n ds ⟨dst, .load t x, ty, pos, af, g⟩ E G K :=
  op_load hk hx hd (hm.perm.symm.subset List.mem_cons_self) hv
theorem op_load_aggK {t d s b z x k off l T fz m R} [Und P t d] [Inf P t s b z] (hx : evalE E x = some (.pointer (some ⟨k, off, none⟩))) [hm : MidC G k (Obj.cells ⟨l⟩ T fz) R] (hk : K (.agg ⟨m⟩) G) (hd : TypeDesc.isAgg d = true := by exact rfl) (hv : (l.drop off).take s = m := by first | assumption | (simp only [setCells, List.set_cons_zero, List.set_cons_succ, List.take_succ_cons, List.take_zero, List.drop_zero, List.drop_succ_cons, Nat.zero_add, Nat.add_zero, Nat.reduceAdd]; exact rfl) | exact rfl) (hlen : m.length = s := by exact rfl) : OpT P W n ds ⟨dst, .load t x, ty, pos, af, g⟩ E G K :=
  op_load_agg hk hx hd (hm.perm.symm.subset List.mem_cons_self) hv hlen
end
end Go.Lg

set_option linter.unusedVariables false
set_option linter.unusedSimpArgs false
namespace Go.Proofs.YtelhfcjchpdkiaaDoor.Lmb
open Go.Lg

/-- The value is this rational; d bounds its size. -/
def IsQ (q : Rat) (d : Nat) (u : Value) (G : Heap) : Prop := ∃ n e L, IsD n e L u G ∧ q = (n : Rat) * p2 e ∧ L + 70000 ≤ 70100 * 2 ^ d ∧ -((1100 * 2 ^ d : Nat) : Int) ≤ e ∧ e ≤ ((1100 * 2 ^ d : Nat) : Int)
theorem IsQ.mono {q d u G G'} (h : IsQ q d u G) (hG : ∀ x ∈ G, x ∈ G') : IsQ q d u G' := let ⟨n, e, L, h1, h2⟩ := h; ⟨n, e, L, h1.mono hG, h2⟩
theorem IsQ.skip {q d u} {G G' : Heap} (h : IsQ q d u G) (hs : ∀ x ∈ G, x ∈ G' ∨ NoU x) : IsQ q d u G' := let ⟨n, e, L, h1, h2⟩ := h; ⟨n, e, L, h1.skip hs, h2⟩
theorem IsQ.big {q d d' u G} (h : IsQ q d u G) (hd : d ≤ d') : IsQ q d' u G := by
  obtain ⟨n, e, L, h1, h2, h3, h4, h5⟩ := h
  have p2' : 2 ^ d ≤ 2 ^ d' := Nat.pow_le_pow_right (by decide) hd
  unfold IsQ
  generalize 2 ^ d = b at *
  generalize 2 ^ d' = b' at *
  exact ⟨n, e, L, h1, h2, by omega, by omega, by omega⟩
theorem IsQ.open {q d u G} (h : IsQ q d u G) : ∃ b a k c e, u = .agg ⟨[.bool b, .slice a k c, .int .i64 e]⟩ := by
  obtain ⟨n, e, L, ⟨b, a, k, c, h1, _⟩, _⟩ := h
  exact ⟨b, a, k, c, e, h1⟩
/-- The same, and what the value looks like. -/
def IsQ' (q : Rat) (d : Nat) (u : Value) (G : Heap) : Prop := ∃ b a k c e, u = .agg ⟨[.bool b, .slice a k c, .int .i64 e]⟩ ∧ IsQ q d u G
theorem IsQ'.mono {q d u G G'} (h : IsQ' q d u G) (hG : ∀ x ∈ G, x ∈ G') : IsQ' q d u G' := let ⟨b, a, k, c, e, h1, h2⟩ := h; ⟨b, a, k, c, e, h1, h2.mono hG⟩
theorem IsQ.fine {q d u G} (h : IsQ q d u G) : IsQ' q d u G := let ⟨b, a, k, c, e, h1⟩ := h.open; ⟨b, a, k, c, e, h1, h⟩
theorem IsQ.to {q q' d u G} (h : IsQ q d u G) (e : q = q') : IsQ q' d u G := e ▸ h

def sgQ (q : Rat) : Int := if q = 0 then 0 else if q < 0 then -1 else 1
theorem sgI_q {n e : Int} {q : Rat} (h : q = (n : Rat) * p2 e) : sgI n = sgQ q := by
  have hp := p2_pos e
  unfold sgI sgQ
  by_cases h0 : n = 0
  · rw [if_pos h0, if_pos (by rw [h, h0]; simp)]
  · rw [if_neg h0]
    have hn0 : q ≠ 0 := by
      rw [h]
      intro hz
      rcases Rat.mul_eq_zero.1 hz with h1 | h1
      · exact h0 (by exact_mod_cast h1)
      · rw [h1] at hp; exact absurd hp (by grind)
    rw [if_neg hn0]
    by_cases h1 : n < 0
    · rw [if_pos h1, if_pos]
      rw [h]
      have := mul_lt (a := (n : Rat)) (b := 0) (by exact_mod_cast h1) hp
      simpa using this
    · rw [if_neg h1, if_neg]
      rw [h]
      intro hlt
      have h2 : (0 : Rat) ≤ (n : Rat) := by exact_mod_cast (by omega : 0 ≤ n)
      have := mul_le (a := 0) (b := (n : Rat)) h2 (by grind : (0 : Rat) ≤ p2 e)
      grind
theorem sgQ_eq {q : Rat} : icmp .eql (sgQ q) 0 = decide (q = 0) := by
  unfold sgQ
  by_cases h : q = 0
  · simp [h, icmp]
  · by_cases h2 : q < 0
    · simp [h, h2, icmp]
    · simp [h, h2, icmp]
theorem sgQ_lss {q : Rat} : icmp .lss (sgQ q) 0 = decide (q < 0) := by
  unfold sgQ
  by_cases h : q = 0
  · subst h; simp [icmp]
  · by_cases h2 : q < 0
    · simp [h, h2, icmp]
    · simp [h, h2, icmp]
theorem sgQ_gtr {q : Rat} : icmp .gtr (sgQ q) 0 = decide (0 < q) := by
  unfold sgQ
  by_cases h : q = 0
  · subst h; simp [icmp]
  · by_cases h2 : q < 0
    · simp [h, h2, icmp]; grind
    · simp [h, h2, icmp]; grind
theorem sgQ_leq {q : Rat} : icmp .leq (sgQ q) 0 = decide (q ≤ 0) := by
  unfold sgQ
  by_cases h : q = 0
  · subst h; simp [icmp]
  · by_cases h2 : q < 0
    · simp [h, h2, icmp]; grind
    · simp [h, h2, icmp]; grind
theorem sgQ_geq {q : Rat} : icmp .geq (sgQ q) 0 = decide (0 ≤ q) := by
  unfold sgQ
  by_cases h : q = 0
  · subst h; simp [icmp]
  · by_cases h2 : q < 0
    · simp [h, h2, icmp]; grind
    · simp [h, h2, icmp]; grind

theorem up_val (m e f : Int) (h : f ≤ e) : ((m * ((2 ^ (e - f).toNat : Nat) : Int) : Int) : Rat) * p2 f = (m : Rat) * p2 e := by
  have e1 : p2 e = p2 (((e - f).toNat : Nat) : Int) * p2 f := by rw [← p2_add]; congr 1; omega
  rw [e1, p2_nat, Rat.intCast_mul, Rat.intCast_natCast]
  grind
theorem dAddN_val (n e m f : Int) : ((dAddN n e m f).1 : Rat) * p2 (dAddN n e m f).2 = (n : Rat) * p2 e + (m : Rat) * p2 f := by
  unfold dAddN
  by_cases h1 : n = 0
  · rw [if_pos h1, h1]; simp; grind
  rw [if_neg h1]
  by_cases h2 : m = 0
  · rw [if_pos h2, h2]; simp; grind
  rw [if_neg h2]
  by_cases h3 : f < e
  · rw [if_pos h3]
    have := up_val n e f (by omega)
    simp only [Rat.intCast_add, Rat.add_mul, this]
  · rw [if_neg h3]
    have := up_val m f e (by omega)
    simp only [Rat.intCast_add, Rat.add_mul, this]
    exact Rat.add_comm _ _
theorem dAddN_exp (n e m f : Int) : (dAddN n e m f).2 = e ∨ (dAddN n e m f).2 = f := by
  unfold dAddN
  split
  · exact .inr rfl
  split
  · exact .inl rfl
  split
  · exact .inr rfl
  · exact .inl rfl
theorem pow4 {d : Nat} (h : d ≤ 8) : 2 ^ d ≤ 256 ∧ 1 ≤ 2 ^ d ∧ 2 ^ (d + 1) = 2 * 2 ^ d := by
  refine ⟨?_, Nat.pow_pos (by decide), by rw [Nat.pow_succ]; omega⟩
  have : 2 ^ d ≤ 2 ^ 8 := Nat.pow_le_pow_right (by decide) h
  omega

theorem qOf (x : Nat) (q : Rat) (H : Heap) (hq : Fv x q) (hx : x < 18446744073709551616) : Does Tryd.prog 39 [.float .f64 x] H fun w H' => ∃ ex, H' = ex ++ H ∧ IsQ q 0 w H' :=
  (dyadicOf x q H hq hx).mono fun w H' ⟨ex, n, e, h1, h2, h3, h4, h5⟩ => ⟨ex, h1, n, e, 2, h2, h3, by omega, by omega, by omega⟩
theorem qSign (u : Value) (q : Rat) (d : Nat) (H : Heap) (hu : IsQ q d u H) : Does Tryd.prog 21 [u] H fun w H' => w = .int .i64 (sgQ q) ∧ H' = H := by
  obtain ⟨n, e, L, h1, h2, h3, h4, h5⟩ := hu
  rw [← sgI_q h2]
  exact dSign u n e L H h1
theorem qMinus (u : Value) (q : Rat) (d : Nat) (H : Heap) (hu : IsQ q d u H) : Does Tryd.prog 26 [u] H fun w H' => ∃ ex, H' = ex ++ H ∧ IsQ (-q) d w H' := by
  obtain ⟨n, e, L, h1, h2, h3, h4, h5⟩ := hu
  refine (dMinus u n e L H h1).mono ?_
  rintro w H' ⟨ex, rfl, hw⟩
  exact ⟨ex, rfl, -n, e, L, hw, by rw [h2, Rat.intCast_neg, Rat.neg_mul], h3, h4, h5⟩
theorem qMul (u v : Value) (a b : Rat) (d : Nat) (H : Heap) (hd : d ≤ 8) (hu : IsQ a d u H) (hv : IsQ b d v H) : Does Tryd.prog 10 [u, v] H fun w H' => ∃ ex, H' = ex ++ H ∧ IsQ (a * b) (d + 1) w H' := by
  obtain ⟨n, e, L, h1, h2, h3, h4, h5⟩ := hu
  obtain ⟨m, f, M, k1, k2, k3, k4, k5⟩ := hv
  obtain ⟨p4, p5, p6⟩ := pow4 hd
  unfold IsQ
  rw [p6]
  generalize 2 ^ d = B at *
  refine (dMul u v n e m f L M H h1 k1 (by omega) (by omega) (by omega) (by omega)).mono ?_
  rintro w H' ⟨ex, rfl, hw⟩
  refine ⟨ex, rfl, _, _, _, hw, ?_, by omega, by omega, by omega⟩
  rw [h2, k2, Rat.intCast_mul, p2_add]; grind
theorem qAdd (u v : Value) (a b : Rat) (d : Nat) (H : Heap) (hd : d ≤ 8) (hu : IsQ a d u H) (hv : IsQ b d v H) : Does Tryd.prog 14 [u, v] H fun w H' => ∃ ex, H' = ex ++ H ∧ IsQ (a + b) (d + 1) w H' := by
  obtain ⟨n, e, L, h1, h2, h3, h4, h5⟩ := hu
  obtain ⟨m, f, M, k1, k2, k3, k4, k5⟩ := hv
  obtain ⟨p4, p5, p6⟩ := pow4 hd
  unfold IsQ
  rw [p6]
  generalize 2 ^ d = B at *
  refine (dAdd u v n e m f L M H h1 k1 (by omega) (by omega) (by omega) (by omega)).mono ?_
  rintro w H' ⟨ex, rfl, hw⟩
  have hx := dAddN_exp n e m f
  refine ⟨ex, rfl, _, _, _, hw, ?_, by omega, by omega, by omega⟩
  rw [h2, k2, dAddN_val]
theorem qSub (u v : Value) (a b : Rat) (d : Nat) (H : Heap) (hd : d ≤ 8) (hu : IsQ a d u H) (hv : IsQ b d v H) : Does Tryd.prog 9 [u, v] H fun w H' => ∃ ex, H' = ex ++ H ∧ IsQ (a - b) (d + 1) w H' := by
  obtain ⟨n, e, L, h1, h2, h3, h4, h5⟩ := hu
  obtain ⟨m, f, M, k1, k2, k3, k4, k5⟩ := hv
  obtain ⟨p4, p5, p6⟩ := pow4 hd
  unfold IsQ
  rw [p6]
  generalize 2 ^ d = B at *
  refine (dSub u v n e m f L M H h1 k1 (by omega) (by omega) (by omega) (by omega)).mono ?_
  rintro w H' ⟨ex, rfl, hw⟩
  have hx := dAddN_exp n e (-m) f
  refine ⟨ex, rfl, _, _, _, hw, ?_, by omega, by omega, by omega⟩
  rw [h2, k2, dAddN_val, Rat.intCast_neg, Rat.neg_mul]; grind
end Go.Proofs.YtelhfcjchpdkiaaDoor.Lmb

set_option linter.unusedVariables false
set_option linter.unusedSimpArgs false
namespace Go.Proofs.YtelhfcjchpdkiaaDoor.Orp
open Go.Lg Go.Proofs.YtelhfcjchpdkiaaDoor.Lmb

theorem tri (a b : Rat) : a < b ∨ a = b ∨ b < a := by grind
theorem sgQ_neg {q : Rat} (h : q < 0) : sgQ q = -1 := by unfold sgQ; rw [if_neg (by grind), if_pos h]
theorem sgQ_pos {q : Rat} (h : 0 < q) : sgQ q = 1 := by unfold sgQ; rw [if_neg (by grind), if_neg (by grind)]
theorem sgQ_zero {q : Rat} (h : q = 0) : sgQ q = 0 := by unfold sgQ; rw [if_pos h]
theorem sgQ_int (n : Int) : sgQ (n : Rat) = if n = 0 then 0 else if n < 0 then -1 else 1 := by
  unfold sgQ
  have h1 : ((n : Rat) = 0) ↔ n = 0 := by exact_mod_cast Iff.rfl
  have h2 : ((n : Rat) < 0) ↔ n < 0 := by exact_mod_cast Iff.rfl
  simp only [h1, h2]
theorem ge1 : p2 (-1000) ≤ 1 := p2_ge1
/-- A rounded whole number. -/
theorem rnd_ru {n : Int} {c : Rat} (h : Rnd (n : Rat) c) : Ru 1 c (n : Rat) := h.ru (by
  by_cases hn : n = 0
  · left; rw [hn]; rfl
  · right; exact Rat.le_trans p2_ge1 (int_pos hn))
/-- The two products, the rounded ones, and their difference, rounded. -/
structure Det (L R : Int) (c1 c2 d : Rat) : Prop where
  h1 : Rnd (L : Rat) c1
  h2 : Rnd (R : Rat) c2
  he : L = R → c1 = c2
  hd : Rnd (c1 - c2) d
theorem Det.ru {L R : Int} {c1 c2 d : Rat} (h : Det L R c1 c2 d) : Ru 1 d (c1 - c2) := by
  obtain ⟨m1, e1⟩ := h.h1.int
  obtain ⟨m2, e2⟩ := h.h2.int
  have := h.hd
  rw [e1, e2, ← Rat.intCast_sub] at this ⊢
  exact rnd_ru this
theorem Det.sign {L R : Int} {c1 c2 d : Rat} (h : Det L R c1 c2 d) : sgQ d = sgQ (c1 - c2) := by
  have hr := h.ru
  rcases tri (c1 - c2) 0 with hlt | heq | hgt
  · rw [sgQ_neg hlt, sgQ_neg (hr.sign.2 hlt)]
  · rw [heq] at hr ⊢; rw [hr.zero]
  · rw [sgQ_pos hgt, sgQ_pos (hr.sign.1 hgt).1]
theorem Det.never {L R : Int} {c1 c2 d : Rat} (h : Det L R c1 c2 d) : sgQ d = 0 ∨ sgQ d = sgQ ((L - R : Int) : Rat) := by
  rw [h.sign]
  rcases Int.lt_trichotomy L R with hlt | heq | hgt
  · have hc := Rnd.mono h.h1 h.h2 (by exact_mod_cast hlt)
    have : ((L - R : Int) : Rat) < 0 := by exact_mod_cast (by omega : L - R < 0)
    rw [sgQ_neg this]
    rcases tri (c1 - c2) 0 with a | a | a
    · right; exact sgQ_neg a
    · left; exact sgQ_zero a
    · exfalso; grind
  · left; rw [h.he heq]; exact sgQ_zero (by grind)
  · have hc := Rnd.mono h.h2 h.h1 (by exact_mod_cast hgt)
    have : 0 < ((L - R : Int) : Rat) := by exact_mod_cast (by omega : 0 < L - R)
    rw [sgQ_pos this]
    rcases tri (c1 - c2) 0 with a | a | a
    · exfalso; grind
    · left; exact sgQ_zero a
    · right; exact sgQ_pos a
theorem Det.exact {L R : Int} {c1 c2 d : Rat} (h : Det L R c1 c2 d) (l1 : -4503599627370496 ≤ L) (l2 : L ≤ 4503599627370496) (r1 : -4503599627370496 ≤ R) (r2 : R ≤ 4503599627370496) :
    c1 = L ∧ c2 = R ∧ d = ((L - R : Int) : Rat) := by
  have e1 := h.h1.exact (rep_int (by omega) (by omega))
  have e2 := h.h2.exact (rep_int (by omega) (by omega))
  have e3 := h.hd
  rw [e1, e2, ← Rat.intCast_sub] at e3
  exact ⟨e1, e2, e3.exact (rep_int (by omega) (by omega))⟩
abbrev EE : Rat := p2 (-53)
theorem e_one : 9007199254740992 * EE = 1 := by
  have h : p2 53 = 9007199254740992 := by rw [show (53 : Int) = ((53 : Nat) : Int) from rfl, p2_nat]; norm_cast
  rw [← h]; exact p2_mul (a := 53) (b := -53) (c := 0) rfl ▸ p2_zero
theorem e_30 : p2 (-30) = 8388608 * EE := by
  have h : p2 23 = 8388608 := by rw [show (23 : Int) = ((23 : Nat) : Int) from rfl, p2_nat]; norm_cast
  rw [← h]; exact (p2_mul (a := 23) (b := -53) (c := -30) rfl).symm
theorem ru1 {c q : Rat} (h : Ru 1 c q) : rabs (c - q) ≤ EE * rabs q := by
  have h' : rabs (c - q) ≤ ((1 : Nat) : Rat) * p2 (-53) * rabs q := h
  have e : ((1 : Nat) : Rat) = 1 := rfl
  rw [e] at h'
  have : (1 : Rat) * p2 (-53) * rabs q = EE * rabs q := by grind
  rwa [this] at h'
theorem rabs_le {q b : Rat} (h : rabs q ≤ b) : q ≤ b ∧ -q ≤ b := by unfold rabs at h; split at h <;> grind
theorem rabs3 (q : Rat) : q ≤ rabs q ∧ -q ≤ rabs q ∧ 0 ≤ rabs q := by unfold rabs; split <;> grind
/-- A difference that is great beside the products is told, and is great. -/
theorem Det.told {L R : Int} {c1 c2 d : Rat} (h : Det L R c1 c2 d) (ht : (rabs (L : Rat) + rabs (R : Rat)) * p2 (-30) ≤ rabs ((L - R : Int) : Rat)) :
    sgQ d = sgQ ((L - R : Int) : Rat) ∧ 2000000 * (EE * (rabs (L : Rat) + rabs (R : Rat))) ≤ rabs d := by
  have a1 := ru1 (rnd_ru h.h1)
  have a2 := ru1 (rnd_ru h.h2)
  have a3 := ru1 h.ru
  rw [e_30] at ht
  have hE : 0 ≤ EE := Rat.le_of_lt (p2_pos _)
  have hX : 0 ≤ EE * rabs (L : Rat) := Rat.mul_nonneg hE (rabs3 _).2.2
  have hY : 0 ≤ EE * rabs (R : Rat) := Rat.mul_nonneg hE (rabs3 _).2.2
  have ht2 : 8388608 * (EE * rabs (L : Rat)) + 8388608 * (EE * rabs (R : Rat)) ≤ rabs ((L - R : Int) : Rat) := by grind
  have hs : EE * (rabs (L : Rat) + rabs (R : Rat)) = EE * rabs (L : Rat) + EE * rabs (R : Rat) := by grind
  rw [hs]
  generalize hx : EE * rabs (L : Rat) = X at *
  generalize hy : EE * rabs (R : Rat) = Y at *
  rw [Rat.intCast_sub] at ht2 ⊢
  have b1 := rabs_le a1
  have b2 := rabs_le a2
  have b3 : rabs (d - (c1 - c2)) ≤ (1/2 : Rat) * rabs (c1 - c2) := by
    have : EE ≤ 1/2 := by have := e_one; grind
    have := mul_le this (rabs3 (c1 - c2)).2.2
    grind
  have b4 := rabs_le b3
  generalize (L : Rat) = l at *
  generalize (R : Rat) = r at *
  rw [h.sign]
  rcases tri (l - r) 0 with hlt | heq | hgt
  · have e1 : rabs (l - r) = r - l := by unfold rabs; rw [if_pos hlt]; grind
    rw [e1] at ht2
    by_cases hz : X + Y = 0
    · have hX0 : X = 0 := by grind
      have hY0 : Y = 0 := by grind
      have c1l : c1 = l := by grind
      have c2r : c2 = r := by grind
      exact ⟨by rw [c1l, c2r], by have := (rabs3 d).2.2; grind⟩
    · have hlt2 : c1 - c2 < 0 := by grind
      have e2 : rabs (c1 - c2) = c2 - c1 := by unfold rabs; rw [if_pos hlt2]; grind
      rw [e2] at b4
      have e3 := (rabs3 d).2.1
      exact ⟨by rw [sgQ_neg hlt, sgQ_neg hlt2], by grind⟩
  · rw [heq] at ht2 ⊢
    have e0 : rabs (0 : Rat) = 0 := rabs_zero
    rw [e0] at ht2
    have hX0 : X = 0 := by grind
    have hY0 : Y = 0 := by grind
    have c1l : c1 = l := by grind
    have c2r : c2 = r := by grind
    exact ⟨by rw [c1l, c2r, heq], by have := (rabs3 d).2.2; grind⟩
  · have e1 : rabs (l - r) = l - r := by unfold rabs; rw [if_neg (by grind)]
    rw [e1] at ht2
    by_cases hz : X + Y = 0
    · have hX0 : X = 0 := by grind
      have hY0 : Y = 0 := by grind
      have c1l : c1 = l := by grind
      have c2r : c2 = r := by grind
      exact ⟨by rw [c1l, c2r], by have := (rabs3 d).2.2; grind⟩
    · have hlt2 : 0 < c1 - c2 := by grind
      have e2 : rabs (c1 - c2) = c1 - c2 := by unfold rabs; rw [if_neg (by grind)]
      rw [e2] at b4
      have e3 := (rabs3 d).1
      exact ⟨by rw [sgQ_pos hgt, sgQ_pos hlt2], by grind⟩

/-! ### The filter -/
def eps : Rat := ((5070602400912918 : Nat) : Rat) * p2 (-102)
theorem fv_eps : Fv 4382569440205035030 eps := ⟨false, 5070602400912918, -102, rfl, by unfold eps sgn; simp⟩
theorem eps_le : 0 < eps ∧ eps ≤ 16 * EE ∧ p2 (-100) ≤ eps := by
  have e : p2 (-102) = p2 (-49) * EE := (p2_mul (a := -49) (b := -53) (c := -102) rfl).symm
  have h4 : p2 (-49) * 562949953421312 = 1 := by
    have h : p2 49 = 562949953421312 := by rw [show (49 : Int) = ((49 : Nat) : Int) from rfl, p2_nat]; norm_cast
    rw [← h]; exact p2_mul (a := -49) (b := 49) (c := 0) rfl ▸ p2_zero
  have hE : 0 < EE := p2_pos _
  have h100 : p2 (-100) = 4 * p2 (-102) := by
    have h : p2 2 = 4 := by rw [show (2 : Int) = ((2 : Nat) : Int) from rfl, p2_nat]; norm_cast
    rw [← h]; exact (p2_mul (a := 2) (b := -102) (c := -100) rfl).symm
  have hc : ((5070602400912918 : Nat) : Rat) = 5070602400912918 := by norm_cast
  have hp := p2_pos (-102)
  unfold eps
  rw [hc]
  refine ⟨Rat.mul_pos (by decide) hp, ?_, by rw [h100]; exact mul_le (by decide) (Rat.le_of_lt hp)⟩
  rw [e]
  have h5 : (5070602400912918 : Rat) * p2 (-49) ≤ 16 := by
    have : (5070602400912918 : Rat) * p2 (-49) ≤ 9007199254740992 * p2 (-49) := mul_le (by decide) (Rat.le_of_lt (p2_pos _))
    grind
  have := mul_le h5 (Rat.le_of_lt hE)
  grind
/-- Where nothing is told, the difference is small beside the products. -/
theorem silent {L R : Int} {c1 c2 d s eb : Rat} (h : Det L R c1 c2 d) (hc : (0 < c1 ∧ 0 < c2 ∧ Rnd (c1 + c2) s) ∨ (c1 < 0 ∧ c2 < 0 ∧ Rnd (-c1 - c2) s)) (hb : Rnd (eps * s) eb) (h1 : d < eb) (h2 : -d < eb) :
    ¬ (rabs (L : Rat) + rabs (R : Rat)) * p2 (-30) ≤ rabs ((L - R : Int) : Rat) := by
  intro ht
  obtain ⟨-, hg⟩ := h.told ht
  have a1 := ru1 (rnd_ru h.h1)
  have a2 := ru1 (rnd_ru h.h2)
  obtain ⟨m1, e1⟩ := h.h1.int
  obtain ⟨m2, e2⟩ := h.h2.int
  -- the sum of both
  obtain ⟨t, ht1, ht2, ht3⟩ : ∃ t : Rat, 1 ≤ t ∧ Rnd t s ∧ t = rabs c1 + rabs c2 := by
    rcases hc with ⟨p, q, r⟩ | ⟨p, q, r⟩
    · refine ⟨c1 + c2, ?_, r, by unfold rabs; rw [if_neg (by grind), if_neg (by grind)]⟩
      rw [e1] at p ⊢
      rw [e2] at q ⊢
      have p' : 0 < m1 := by exact_mod_cast p
      have q' : 0 < m2 := by exact_mod_cast q
      rw [← Rat.intCast_add]
      exact_mod_cast (by omega : 1 ≤ m1 + m2)
    · refine ⟨-c1 - c2, ?_, r, by unfold rabs; rw [if_pos p, if_pos q]; grind⟩
      rw [e1] at p ⊢
      rw [e2] at q ⊢
      have p' : m1 < 0 := by exact_mod_cast p
      have q' : m2 < 0 := by exact_mod_cast q
      rw [← Rat.intCast_neg, ← Rat.intCast_sub]
      exact_mod_cast (by omega : 1 ≤ -m1 - m2)
  have hs : Ru 1 s t := ht2.ru (.inr (Rat.le_trans p2_ge1 (by rw [rabs_of_nonneg (by grind)]; exact ht1)))
  obtain ⟨s0, s1, s2⟩ := hs.sign.1 (by grind)
  have hh := half1
  have sge : p2 (-1) ≤ s := by
    have := mul_le ht1 (Rat.le_of_lt (p2_pos (-1)))
    grind
  obtain ⟨ep0, ep1, ep2⟩ := eps_le
  have heps : Ru 1 eb (eps * s) := hb.ru (.inr (by
    rw [rabs_of_nonneg (Rat.mul_nonneg (Rat.le_of_lt ep0) (Rat.le_of_lt s0))]
    have q1 : p2 (-101) ≤ eps * s := by
      rw [← p2_mul (a := -100) (b := -1) (c := -101) rfl]
      have r1 := mul_le ep2 (Rat.le_of_lt (p2_pos (-1)))
      have r2 := mul_le_left sge (Rat.le_of_lt ep0)
      grind
    exact Rat.le_trans (p2_le (by decide)) q1))
  obtain ⟨-, -, eb2⟩ := heps.sign.1 (Rat.mul_pos ep0 s0)
  -- sizes
  have hE : 0 < EE := p2_pos _
  have hX : 0 ≤ EE * rabs (L : Rat) := Rat.mul_nonneg (Rat.le_of_lt hE) (rabs3 _).2.2
  have hY : 0 ≤ EE * rabs (R : Rat) := Rat.mul_nonneg (Rat.le_of_lt hE) (rabs3 _).2.2
  have hL : rabs (L : Rat) = 9007199254740992 * (EE * rabs (L : Rat)) := by have := e_one; grind
  have hR : rabs (R : Rat) = 9007199254740992 * (EE * rabs (R : Rat)) := by have := e_one; grind
  have k1 : rabs c1 ≤ rabs (L : Rat) + EE * rabs (L : Rat) := by
    have := rabs_add (c1 - (L : Rat)) (L : Rat)
    rw [show c1 - (L : Rat) + (L : Rat) = c1 by grind] at this
    grind
  have k2 : rabs c2 ≤ rabs (R : Rat) + EE * rabs (R : Rat) := by
    have := rabs_add (c2 - (R : Rat)) (R : Rat)
    rw [show c2 - (R : Rat) + (R : Rat) = c2 by grind] at this
    grind
  have hst : s ≤ 2 * (9007199254740993 * (EE * rabs (L : Rat)) + 9007199254740993 * (EE * rabs (R : Rat))) := by grind
  rw [show EE * (rabs (L : Rat) + rabs (R : Rat)) = EE * rabs (L : Rat) + EE * rabs (R : Rat) by grind] at hg
  generalize EE * rabs (L : Rat) = X at *
  generalize EE * rabs (R : Rat) = Y at *
  have z1 : eps * s ≤ 16 * EE * s := mul_le ep1 (Rat.le_of_lt s0)
  have z2 : EE * s ≤ EE * (2 * (9007199254740993 * X + 9007199254740993 * Y)) := mul_le_left hst (Rat.le_of_lt hE)
  have z3 : EE * (2 * (9007199254740993 * X + 9007199254740993 * Y)) ≤ 3 * (X + Y) := by
    have g1 : EE * 9007199254740993 ≤ 3/2 := by have := e_one; grind
    have g2 := mul_le g1 (show 0 ≤ X + Y by grind)
    grind
  have z4 : eb ≤ 96 * (X + Y) := by grind
  have z5 : rabs d ≤ eb := by unfold rabs; split <;> grind
  have z6 : 0 < X + Y := by
    by_cases hz : X + Y = 0
    · rw [hz] at z4; exfalso; grind
    · grind
  grind
end Go.Proofs.YtelhfcjchpdkiaaDoor.Orp

set_option linter.unusedVariables false
set_option linter.unusedSimpArgs false
namespace Go.Proofs.YtelhfcjchpdkiaaDoor.Pl
open Go.Lg

theorem archTrunc (x : Nat) (H : Heap) : Does Tryd.prog 50 [.float .f64 x] H fun v H' => (∃ r, v = .float .f64 r ∧ TruncR x r) ∧ H' = H :=
  does_trunc Tryd.func50 rfl rfl (by kernel_rfl) (by kernel_rfl)
theorem trunc (x : Nat) (H : Heap) : Does Tryd.prog 37 [.float .f64 x] H fun v H' => (∃ r, v = .float .f64 r ∧ TruncR x r) ∧ H' = H := by
  refine fn_enter 7 Tryd.func37 fun W => ?_
  repeat' first
    | (first | refine tc_seq ?_ | refine tc_region ?_ | refine at_seq_normal ?_ | refine tl_nil ?_ | refine tl_cons ?_ | refine op_move ?_ | refine op_assign ?_ | refine tc_cond_t ?_ | refine tc_cond_f ?_ | refine tc_cond (fun _ => ?_) (fun _ => ?_) | refine tc_skip ?_ | refine tc_ret ?_ | refine at_seq_ret ?_ | fail)
    | (refine op_call ((archTrunc _ _).mono ?_); rintro _ _ ⟨⟨r, rfl, hr⟩, rfl⟩)
  exact ret_tmp (hk := ⟨⟨r, rfl, hr⟩, rfl⟩)
theorem frombits (x : Nat) (H : Heap) : Does Tryd.prog 52 [.int .u64 ((x : Nat) : Int)] H fun v H' => v = .float .f64 x ∧ H' = H :=
  does_frombits Tryd.func52 rfl rfl (by kernel_rfl) (by kernel_rfl)
theorem abs (x : Nat) (H : Heap) : Does Tryd.prog 38 [.float .f64 x] H fun v H' => v = .float .f64 (x % 9223372036854775808) ∧ H' = H := by
  have e1 := ibits_abs x
  refine fn_enter 7 Tryd.func38 fun W => ?_
  repeat' first
    | (first | refine tc_seq ?_ | refine tc_region ?_ | refine at_seq_normal ?_ | refine tl_nil ?_ | refine tl_cons ?_ | refine op_move ?_ | refine op_assign ?_ | refine op_ibits ?_ | refine tc_ret ?_ | refine at_seq_ret ?_ | fail)
    | (refine op_call ((Flat.bits _ _).mono ?_); rintro _ _ ⟨rfl, rfl⟩)
    | (rw [e1]; refine op_call ((frombits _ _).mono ?_); rintro _ _ ⟨rfl, rfl⟩)
  exact ret_tmp (hk := ⟨rfl, rfl⟩)

/-- Whole numbers from -M to M. -/
def Wh (M : Nat) (x : Nat) : Prop := ∃ n : Int, Fv x (n : Rat) ∧ -(M : Int) ≤ n ∧ n ≤ M
theorem wholeTo (v : Value) (xs : List Nat) (most M : Nat) (H : Heap) (hM : Fv most (M : Rat)) (hMb : M ≤ 9007199254740992) (hl : xs.length < 2 ^ 62) (hx : ∀ x ∈ xs, x < 18446744073709551616) (hv : FS H v xs) :
    Does Tryd.prog 22 [.float .f64 most, v] H fun u H' => (∃ b, u = .bool b ∧ (b = true → ∀ x ∈ xs, Wh M x)) ∧ H' = H := by
  obtain ⟨a0, cap0, rfl⟩ := hv.val
  refine fn_enter 24 Tryd.func22 fun W => ?_
  repeat' first
    | refine tc_seq ?_ | refine tc_region ?_ | refine at_seq_normal ?_ | refine tl_nil ?_ | refine tl_cons ?_ | refine op_move ?_ | refine op_assign ?_ | refine op_load ?_ | refine op_load_agg ?_ | refine op_indexC ?_
    | refine op_indexAddr1 ?_ | refine op_indexAddr ?_ | refine op_icmp ?_ | refine op_fcmp ?_ | refine op_iarith ?_ | refine op_len_slice ?_ | refine op_pick_true ?_ | refine op_pick_false ?_ | refine op_pick_true' ?_ | refine op_pick_false' ?_
    | refine op_loadK rfl ?_ | refine op_load_aggK rfl ?_ | refine tc_cond_t ?_ | refine tc_cond_f ?_ | refine tc_cond (fun _ => ?_) (fun _ => ?_) | refine tc_block ?_ | refine tc_skip ?_ | refine tc_ret ?_ | refine tc_exit ?_ | refine at_seq_ret ?_
    | refine at_seq_exit ?_ | refine at_block_normal ?_ | refine at_block_ret ?_ | refine at_block_exit_self ?_ | refine at_block_exit_ne ?_ | refine at_loop_ret ?_ | refine at_loop_exit ?_ | refine tl_guard_yes ?_ | refine tl_guard_no ?_ | refine tl_guard_yes' ?_
    | refine tl_guard_no' ?_ | refine tl_guard_undef ?_ | refine tl_guard_split (fun _ => ?_) (fun _ => ?_)
  refine tc_loopH [(0, _), (7, _), (8, _)] (by repeat (first | exact trivial | refine ⟨rfl, ?_⟩)) (fun j : Nat => [(9, .int .i64 (j : Int))]) (fun j => j ≤ xs.length ∧ ∀ x ∈ xs.take j, Wh M x) (fun j => xs.length - j) 0 ⟨Nat.zero_le _, by simp⟩ ⟨rfl, trivial⟩ ?_
  rintro j ⟨hj, hg⟩
  by_cases hlt : j < xs.length
  · have hb : icmp .lss (j : Int) (xs.length : Int) = true := by rw [lss_nat]; simpa using hlt
    have hget : xs[j]? = some xs[j] := List.getElem?_eq_getElem hlt
    have hxb := hx _ (List.getElem_mem hlt)
    obtain ⟨k, off, l, T, fz, cap, he, hm, hl', hlt'⟩ := hv.at hget
    cases he
    generalize xs[j] = x at *
    repeat' first
      | (first | refine tc_seq ?_ | refine tc_region ?_ | refine at_seq_normal ?_ | refine tl_nil ?_ | refine tl_cons ?_ | refine op_move ?_ | refine op_assign ?_ | refine op_load ?_ | refine op_load_agg ?_ | refine op_indexC ?_ | refine op_indexAddr1 ?_ | refine op_indexAddr ?_ | refine op_icmp ?_ | refine op_fcmp ?_ | refine op_iarith ?_ | refine op_len_slice ?_ | refine op_pick_true ?_ | refine op_pick_false ?_ | refine op_pick_true' ?_ | refine op_pick_false' ?_ | refine op_loadK rfl ?_ | refine op_load_aggK rfl ?_ | refine tc_cond_t ?_ | refine tc_cond_f ?_ | refine tc_cond (fun _ => ?_) (fun _ => ?_) | refine tc_block ?_ | refine tc_skip ?_ | refine tc_ret ?_ | refine tc_exit ?_ | refine at_seq_ret ?_ | refine at_seq_exit ?_ | refine at_block_normal ?_ | refine at_block_ret ?_ | refine at_block_exit_self ?_ | refine at_block_exit_ne ?_ | refine at_loop_ret ?_ | refine at_loop_exit ?_ | refine tl_guard_yes ?_ | refine tl_guard_no ?_ | refine tl_guard_yes' ?_ | refine tl_guard_no' ?_ | refine tl_guard_undef ?_ | refine tl_guard_split (fun _ => ?_) (fun _ => ?_) | fail)
      | (refine op_call ((trunc _ _).mono ?_); rintro _ _ ⟨⟨r, rfl, hr⟩, rfl⟩)
      | (refine op_call ((abs _ _).mono ?_); rintro _ _ ⟨rfl, rfl⟩)
    all_goals first
      | exact ret_tmp (hk := ⟨⟨false, rfl, fun h => by cases h⟩, rfl⟩)
      | skip
    refine at_loopK (j + 1) ⟨hlt, ?_⟩ (by omega) ⟨next_nat (by omega), trivial⟩ (by repeat (first | exact trivial | refine ⟨rfl, ?_⟩)) (by (repeat (first | exact List.Sublist.refl _ | apply List.Sublist.cons_cons | apply List.Sublist.cons | refine List.Sublist.trans ?_ (List.sublist_append_right _ _))))
    intro y hy
    rw [List.take_add_one, hget] at hy
    simp only [Option.toList_some, List.mem_append, List.mem_singleton] at hy
    rcases hy with hy | rfl
    · exact hg y hy
    · exact whole_abs hM hMb hr (by assumption) (by assumption)
  · have hb : icmp .lss (j : Int) (xs.length : Int) = false := by rw [lss_nat]; simpa using hlt
    repeat' first
      | refine tc_seq ?_ | refine tc_region ?_ | refine at_seq_normal ?_ | refine tl_nil ?_ | refine tl_cons ?_ | refine op_move ?_ | refine op_assign ?_ | refine op_load ?_ | refine op_load_agg ?_ | refine op_indexC ?_
      | refine op_indexAddr1 ?_ | refine op_indexAddr ?_ | refine op_icmp ?_ | refine op_fcmp ?_ | refine op_iarith ?_ | refine op_len_slice ?_ | refine op_pick_true ?_ | refine op_pick_false ?_ | refine op_pick_true' ?_ | refine op_pick_false' ?_
      | refine op_loadK rfl ?_ | refine op_load_aggK rfl ?_ | refine tc_cond_t ?_ | refine tc_cond_f ?_ | refine tc_cond (fun _ => ?_) (fun _ => ?_) | refine tc_block ?_ | refine tc_skip ?_ | refine tc_ret ?_ | refine tc_exit ?_ | refine at_seq_ret ?_
      | refine at_seq_exit ?_ | refine at_block_normal ?_ | refine at_block_ret ?_ | refine at_block_exit_self ?_ | refine at_block_exit_ne ?_ | refine at_loop_ret ?_ | refine at_loop_exit ?_ | refine tl_guard_yes ?_ | refine tl_guard_no ?_ | refine tl_guard_yes' ?_
      | refine tl_guard_no' ?_ | refine tl_guard_undef ?_ | refine tl_guard_split (fun _ => ?_) (fun _ => ?_)
    rw [List.take_of_length_le (by omega)] at hg
    exact ret_tmp (hk := ⟨⟨true, rfl, fun _ => hg⟩, rfl⟩)
/-- Pairs, cell by cell. -/
def pairs : List (Nat × Nat) → List Nat
  | [] => []
  | (x, y) :: ps => x :: y :: pairs ps
theorem pairs_len : ∀ ps, (pairs ps).length = 2 * ps.length
  | [] => rfl
  | (x, y) :: ps => by simp [pairs, pairs_len ps]; omega
theorem pairs_app : ∀ ps qs, pairs (ps ++ qs) = pairs ps ++ pairs qs
  | [], qs => rfl
  | (x, y) :: ps, qs => by simp [pairs, pairs_app ps qs]
theorem pairs_cut : ∀ (ps : List (Nat × Nat)) (j : Nat) (x y : Nat), ps[j]? = some (x, y) → (((pairs ps).map fl).drop (0 + j * 2)).take 2 = [.float .f64 x, .float .f64 y]
  | [], j, x, y, h => by cases h
  | (a, b) :: ps, 0, x, y, h => by simp at h; obtain ⟨rfl, rfl⟩ := h; rfl
  | (a, b) :: ps, j + 1, x, y, h => by
    have := pairs_cut ps j x y (by simpa using h)
    rw [show 0 + (j + 1) * 2 = (0 + j * 2) + 2 by omega]
    simpa [pairs] using this
theorem planeTo (k : Nat) (ps : List (Nat × Nat)) (T : TypeId) (fz : Nat × Nat) (cap : Nat) (most M : Nat) (H : Heap) (hM : Fv most (M : Rat)) (hMb : M ≤ 9007199254740992) (hl : ps.length < 2 ^ 62) (hx : ∀ p ∈ ps, p.1 < 18446744073709551616 ∧ p.2 < 18446744073709551616) (hm : (k, Obj.cells ⟨(pairs ps).map fl⟩ T fz) ∈ H) :
    Does Tryd.prog 5 [.float .f64 most, .slice (some ⟨k, 0, none⟩) ps.length cap] H fun u H' => (∃ b, u = .bool b ∧ (b = true → ∀ p ∈ ps, Wh M p.1 ∧ Wh M p.2)) ∧ ∃ ex, H' = ex ++ H := by
  refine fn_enter 22 Tryd.func5 fun W => ?_
  repeat' first
    | refine tc_seq ?_ | refine tc_region ?_ | refine at_seq_normal ?_ | refine tl_nil ?_ | refine tl_cons ?_ | refine tl_cons_none ?_ | refine op_move ?_ | refine op_assign ?_ | refine op_fieldAddr ?_ | refine op_load ?_
    | refine op_load_agg ?_ | refine op_indexC ?_ | refine op_indexAddr1 ?_ | refine op_indexAddr ?_ | refine op_icmp ?_ | refine op_iarith ?_ | refine op_unop_not ?_ | refine op_len_slice ?_ | (refine op_alloc ?_; intro _) | (refine op_buildSlice ?_; intro _)
    | refine op_store0 ?_ | refine op_store1 ?_ | refine op_store2 ?_ | refine op_store3 ?_ | refine op_store4 ?_ | refine op_store5 ?_ | refine op_storeK rfl ?_ | refine op_loadK rfl ?_ | refine op_load_aggK rfl ?_ | refine tc_cond_t ?_
    | refine tc_cond_f ?_ | refine tc_cond (fun _ => ?_) (fun _ => ?_) | refine tc_block ?_ | refine tc_skip ?_ | refine tc_ret ?_ | refine tc_exit ?_ | refine at_seq_ret ?_ | refine at_seq_exit ?_ | refine at_block_normal ?_ | refine at_block_ret ?_
    | refine at_block_exit_self ?_ | refine at_block_exit_ne ?_ | refine at_loop_ret ?_ | refine at_loop_exit ?_
  refine tc_loopH [(0, _), (7, _), (8, _)] (by repeat (first | exact trivial | refine ⟨rfl, ?_⟩)) (fun j : Nat => [(9, .int .i64 (j : Int))]) (fun j => j ≤ ps.length ∧ ∀ p ∈ ps.take j, Wh M p.1 ∧ Wh M p.2) (fun j => ps.length - j) 0 ⟨Nat.zero_le _, by simp⟩ ⟨rfl, trivial⟩ ?_
  rintro j ⟨hj, hg⟩
  by_cases hlt : j < ps.length
  · have hb : icmp .lss (j : Int) (ps.length : Int) = true := by rw [lss_nat]; simpa using hlt
    have hget : ps[j]? = some ps[j] := List.getElem?_eq_getElem hlt
    have hxb := hx _ (List.getElem_mem hlt)
    generalize ps[j] = p at *
    obtain ⟨x, y⟩ := p
    have hcut := pairs_cut ps j x y hget
    repeat' first
      | (first | refine tc_seq ?_ | refine tc_region ?_ | refine at_seq_normal ?_ | refine tl_nil ?_ | refine tl_cons ?_ | refine tl_cons_none ?_ | refine op_move ?_ | refine op_assign ?_ | refine op_fieldAddr ?_ | refine op_load ?_ | refine op_load_agg ?_ | refine op_indexC ?_ | refine op_indexAddr1 ?_ | refine op_indexAddr ?_ | refine op_icmp ?_ | refine op_iarith ?_ | refine op_unop_not ?_ | refine op_len_slice ?_ | (refine op_alloc ?_; intro _) | (refine op_buildSlice ?_; intro _) | refine op_store0 ?_ | refine op_store1 ?_ | refine op_store2 ?_ | refine op_store3 ?_ | refine op_store4 ?_ | refine op_store5 ?_ | refine op_storeK rfl ?_ | refine op_loadK rfl ?_ | refine op_load_aggK rfl ?_ | refine tc_cond_t ?_ | refine tc_cond_f ?_ | refine tc_cond (fun _ => ?_) (fun _ => ?_) | refine tc_block ?_ | refine tc_skip ?_ | refine tc_ret ?_ | refine tc_exit ?_ | refine at_seq_ret ?_ | refine at_seq_exit ?_ | refine at_block_normal ?_ | refine at_block_ret ?_ | refine at_block_exit_self ?_ | refine at_block_exit_ne ?_ | refine at_loop_ret ?_ | refine at_loop_exit ?_ | fail)
      | (refine op_call ((wholeTo _ [x, y] most M _ hM hMb (by simp) (by intro z hz; simp only [List.mem_cons, List.not_mem_nil, or_false] at hz; rcases hz with rfl | rfl; exact hxb.1; exact hxb.2) (fs_new [x, y] List.mem_cons_self)).mono ?_); rintro _ _ ⟨⟨b, rfl, hb'⟩, rfl⟩)
    all_goals first
      | exact ret_tmp (hG := List.Sublist.refl _) (hk := ⟨⟨false, rfl, fun h => by cases h⟩, ⟨[_, _], rfl⟩⟩)
      | skip
    rename_i h1
    refine at_loopK (j + 1) ⟨hlt, ?_⟩ (by omega) ⟨next_nat (by omega), trivial⟩ (by repeat (first | exact trivial | refine ⟨rfl, ?_⟩)) (by (repeat (first | exact List.Sublist.refl _ | apply List.Sublist.cons_cons | apply List.Sublist.cons | refine List.Sublist.trans ?_ (List.sublist_append_right _ _))))
    intro z hz
    rw [List.take_add_one, hget] at hz
    simp only [Option.toList_some, List.mem_append, List.mem_singleton] at hz
    rcases hz with hz | rfl
    · exact hg z hz
    · have := hb' (by simpa using h1)
      exact ⟨this x (by simp), this y (by simp)⟩
  · have hb : icmp .lss (j : Int) (ps.length : Int) = false := by rw [lss_nat]; simpa using hlt
    repeat' first
      | refine tc_seq ?_ | refine tc_region ?_ | refine at_seq_normal ?_ | refine tl_nil ?_ | refine tl_cons ?_ | refine tl_cons_none ?_ | refine op_move ?_ | refine op_assign ?_ | refine op_fieldAddr ?_ | refine op_load ?_
      | refine op_load_agg ?_ | refine op_indexC ?_ | refine op_indexAddr1 ?_ | refine op_indexAddr ?_ | refine op_icmp ?_ | refine op_iarith ?_ | refine op_unop_not ?_ | refine op_len_slice ?_ | (refine op_alloc ?_; intro _) | (refine op_buildSlice ?_; intro _)
      | refine op_store0 ?_ | refine op_store1 ?_ | refine op_store2 ?_ | refine op_store3 ?_ | refine op_store4 ?_ | refine op_store5 ?_ | refine op_storeK rfl ?_ | refine op_loadK rfl ?_ | refine op_load_aggK rfl ?_ | refine tc_cond_t ?_
      | refine tc_cond_f ?_ | refine tc_cond (fun _ => ?_) (fun _ => ?_) | refine tc_block ?_ | refine tc_skip ?_ | refine tc_ret ?_ | refine tc_exit ?_ | refine at_seq_ret ?_ | refine at_seq_exit ?_ | refine at_block_normal ?_ | refine at_block_ret ?_
      | refine at_block_exit_self ?_ | refine at_block_exit_ne ?_ | refine at_loop_ret ?_ | refine at_loop_exit ?_
    rw [List.take_of_length_le (by omega)] at hg
    exact ret_tmp (hk := ⟨⟨true, rfl, fun _ => hg⟩, ⟨[], rfl⟩⟩)
theorem coord (x y : Nat) (H : Heap) : Does Tryd.prog 25 [.agg ⟨[.float .f64 x, .float .f64 y]⟩] H
    fun v H' => ∃ k, v = .slice (some ⟨k, 0, none⟩) 2 2 ∧ H' = (k, .cells ⟨[.float .f64 x, .float .f64 y]⟩ 22 (0, 0)) :: H := by
  refine fn_enter 8 Tryd.func25 fun W => ?_
  repeat' first
    | refine tc_seq ?_ | refine tc_region ?_ | refine at_seq_normal ?_ | refine tl_nil ?_ | refine tl_cons ?_ | refine op_assign ?_ | refine op_fieldAddr ?_ | refine op_load ?_ | refine op_load_agg ?_ | (refine op_box ?_; intro _)
    | (refine op_buildSlice ?_; intro _) | refine op_loadK rfl ?_ | refine op_load_aggK rfl ?_ | refine tc_ret ?_ | refine at_seq_ret ?_
  first | exact ret_tmp (hk := ⟨_, rfl, rfl⟩) | exact ret_cell (hr := rfl) (hk := ⟨_, rfl, rfl⟩) | exact ret_agg (hr := rfl) (hk := ⟨_, rfl, rfl⟩)
end Go.Proofs.YtelhfcjchpdkiaaDoor.Pl

set_option linter.unusedVariables false
set_option linter.unusedSimpArgs false
namespace Go.Lg
class MethP (P : Program) (t : TypeId) (name : String) (f : outParam FuncId) (o : outParam Nat) : Prop where
  eq : ∀ (k off : Nat) (args : Array Value) (w : World), (callMethod (.iface t (.pointer (some ⟨k, off, none⟩))) name args).run P w = .ok (.enter f (#[.pointer (some ⟨k, off + o, none⟩)] ++ args)) w
class AssertYes (P : Program) (t : TypeId) : Prop where
  eq : ∀ (v : Value) (w : World) (xt : TypeId), (Instr.typeAssert (.iface t v) xt t true).run P w = .ok (.tuple #[v, .bool true]) w
class AssertNo (P : Program) (dt t : TypeId) : Prop where
  eq : ∀ (v : Value) (w : World) (xt : TypeId), (Instr.typeAssert (.iface dt v) xt t true).run P w = .ok (.tuple #[.pointer none, .bool false]) w
section
variable {P : Program} {W : World} {n : Nat} {ds : List Deferred} {dst : Option Tmp} {ty : TypeId} {pos : String} {af : Array Edge} {g : Option (Nat × Bool)} {E : Env} {G : Heap} {K : Value → Heap → Prop}
theorem op_invokeP {x nm t f o k off args vs at'} [h : MethP P t nm f o] [Enters P f] (hd : Does P f (.pointer (some ⟨k, off + o, none⟩) :: vs) G K) (hx : evalE E x = some (.iface t (.pointer (some ⟨k, off, none⟩))) := by exact rfl) (hv : evalAll E args = some vs := by exact rfl) :
    OpT P W n ds ⟨dst, .call { callee := .invoke x nm, args := ⟨args⟩, argTypes := at' }, ty, pos, af, g⟩ E G K := by
  refine ⟨fun a' w next Q ho hs hn => ?_⟩
  have he : args.map a'.eval = vs := by
    clear hd hn
    induction args generalizing vs with
    | nil => simp [evalAll] at hv; simp [← hv]
    | cons x xs ih =>
      simp only [evalAll] at hv
      cases h1 : evalE E x with
      | none => simp [h1] at hv
      | some v =>
        cases h2 : evalAll E xs with
        | none => simp [h1, h2] at hv
        | some us =>
          simp [h1, h2] at hv
          subst hv
          simp [ho.eval h1, ih h2]
  have hr : (execOp a'.eval ⟨dst, .call { callee := .invoke x nm, args := ⟨args⟩, argTypes := at' }, ty, pos, af, g⟩).run P w = (callFunc f ⟨.pointer (some ⟨k, off + o, none⟩) :: vs⟩).run P w := by
    rw [run_callFunc]
    simp only [execOp, resolve, ho.eval hx, List.map_toArray, he]
    refine (sem_run_bind P _ _ w _ w rfl).trans ?_
    have e1 : invoke (.fn (.method nm) #[]) (#[.iface t (.pointer (some ⟨k, off, none⟩))] ++ vs.toArray) = callMethod (.iface t (.pointer (some ⟨k, off, none⟩))) nm ⟨vs⟩ := by
      simp [invoke]
    show (invoke (.fn (.method nm) #[]) (#[.iface t (.pointer (some ⟨k, off, none⟩))] ++ vs.toArray)).run P w = _
    rw [e1, h.eq k off ⟨vs⟩ w]
    simp
  rw [hr]
  exact hd.run W w hs _ a' next Q hn
theorem op_assertYes {t xt x v} [h : AssertYes P t] (hk : K (.tuple #[v, .bool true]) G) (hx : evalE E x = some (.iface t v) := by exact rfl) :
    OpT P W n ds ⟨dst, .typeAssert x xt t true, ty, pos, af, g⟩ E G K :=
  op_of_run (fun a w ho _ => by
    simp only [execOp, ho.eval hx]
    exact run_v (h.eq v w xt)) hk
theorem op_assertNo {t dt xt x v} [h : AssertNo P dt t] (hk : K (.tuple #[.pointer none, .bool false]) G) (hx : evalE E x = some (.iface dt v) := by exact rfl) :
    OpT P W n ds ⟨dst, .typeAssert x xt t true, ty, pos, af, g⟩ E G K :=
  op_of_run (fun a w ho _ => by
    simp only [execOp, ho.eval hx]
    exact run_v (h.eq v w xt)) hk
end
end Go.Lg

set_option linter.unusedVariables false
set_option linter.unusedSimpArgs false
namespace Go.Lg

theorem wrap_mulN {i s : Nat} (h : i * s < 9223372036854775808) : IntKind.i64.wrap (iarith .mul (i : Int) (s : Int)) = ((i * s : Nat) : Int) := by
  have e : iarith .mul (i : Int) (s : Int) = ((i * s : Nat) : Int) := by show (i : Int) * s = _; rw [Int.natCast_mul]
  rw [e]
  exact wrap_in (by omega) (by omega)
theorem wrap_addN {i s : Nat} (h : i + s < 9223372036854775808) : IntKind.i64.wrap (iarith .add (i : Int) (s : Int)) = ((i + s : Nat) : Int) := by
  have e : iarith .add (i : Int) (s : Int) = ((i + s : Nat) : Int) := by show (i : Int) + s = _; omega
  rw [e]
  exact wrap_in (by omega) (by omega)
theorem MidC.mem {G : Heap} {k : Nat} {o : Obj} {R : Heap} (h : MidC G k o R) : (k, o) ∈ G := h.perm.mem_iff.2 List.mem_cons_self
/-- A result in a variable that is found anywhere in the memory. -/
theorem rv_cell {P : Program} {E : Env} {G : Heap} {t T d k off l S fz v R} [Und P T d] (hx : Env.get E t = some (.pointer (some ⟨k, off, none⟩))) [hm : MidC G k (Obj.cells ⟨l⟩ S fz) R] (hd : TypeDesc.isAgg d = false := by exact rfl) (hv : l[off]? = some v := by exact rfl) : RV P E G (.cell t T) v := .cell hd hx hm.mem hv
theorem rv_agg {P : Program} {E : Env} {G : Heap} {t T d s b z k off l S fz m R} [Und P T d] [Inf P T s b z] (hx : Env.get E t = some (.pointer (some ⟨k, off, none⟩))) [hm : MidC G k (Obj.cells ⟨l⟩ S fz) R] (hd : TypeDesc.isAgg d = true := by exact rfl)
    (hv : (l.drop off).take s = m := by first | (simp only [setCells, List.set_cons_zero, List.set_cons_succ, List.take_succ_cons, List.take_zero, List.drop_zero, List.drop_succ_cons, Nat.zero_add, Nat.add_zero, Nat.reduceAdd]; exact rfl) | exact rfl) (hl : m.length = s := by exact rfl) : RV P E G (.cell t T) (.agg ⟨m⟩) := .agg hd hx hm.mem hv hl
section
variable {P : Program} {W : World} {n : Nat} {ds : List Deferred} {dst : Option Tmp} {ty : TypeId} {pos : String} {af : Array Edge} {g : Option (Nat × Bool)} {E : Env} {G H : Heap} {K : Value → Heap → Prop}
/-- A load of a block that lies anywhere in a memory that this one holds. -/
theorem op_loadH {t d x k off l T fz v R} [Und P t d] (hs : Sub H G) (hx : evalE E x = some (.pointer (some ⟨k, off, none⟩))) [hm : MidC H k (Obj.cells ⟨l⟩ T fz) R] (hk : K v G) (hd : TypeDesc.isAgg d = false := by exact rfl) (hv : l[off]? = some v := by first | exact rfl | assumption) : OpT P W n ds ⟨dst, .load t x, ty, pos, af, g⟩ E G K :=
  op_load hk hx hd (hs _ hm.mem) hv
theorem op_load_aggH {t d s b z x k off l T fz m R} [Und P t d] [Inf P t s b z] (hs : Sub H G) (hx : evalE E x = some (.pointer (some ⟨k, off, none⟩))) [hm : MidC H k (Obj.cells ⟨l⟩ T fz) R] (hk : K (.agg ⟨m⟩) G) (hd : TypeDesc.isAgg d = true := by exact rfl) (hv : (l.drop off).take s = m := by first | assumption | (simp only [setCells, List.set_cons_zero, List.set_cons_succ, List.take_succ_cons, List.take_zero, List.drop_zero, List.drop_succ_cons, Nat.zero_add, Nat.add_zero, Nat.reduceAdd]; exact rfl) | exact rfl) (hlen : m.length = s := by exact rfl) : OpT P W n ds ⟨dst, .load t x, ty, pos, af, g⟩ E G K :=
  op_load_agg hk hx hd (hs _ hm.mem) hv hlen
end
/-- A part of the memory, as0 a list: found in the whole by instances. -/
class InC (e G : Heap) : Prop where
  sub : ∀ x ∈ e, x ∈ G
instance (priority := 2000) inHere {e : Heap} : InC e e := ⟨fun _ h => h⟩
instance (priority := 1900) inLeft {e M : Heap} : InC e (e ++ M) := ⟨fun _ h => List.mem_append_left _ h⟩
instance (priority := 1500) inApp {e d M : Heap} [h : InC e M] : InC e (d ++ M) := ⟨fun x hx => List.mem_append_right _ (h.sub x hx)⟩
instance (priority := 1000) inCons {e : Heap} {a : Nat × Obj} {M : Heap} [h : InC e M] : InC e (a :: M) := ⟨fun x hx => List.mem_cons_of_mem _ (h.sub x hx)⟩
/-- The memory is forgotten, but for some facts. -/
theorem tc_forget {P : Program} {W : World} {n : Nat} {ds : List Deferred} {c : Code} {Q : Exit → Act → World → Prop} {E : Env} {G : Heap} (p : Heap → Prop) (hp : p G) (h : ∀ G, p G → TC P W n ds c Q E G) : TC P W n ds c Q E G := h G hp
theorem tl_forget {P : Program} {W : World} {n : Nat} {ds : List Deferred} {ops l : List Oper} {Q : Exit → Act → World → Prop} {E : Env} {G : Heap} (p : Heap → Prop) (hp : p G) (h : ∀ G, p G → TL P W n ds ops Q l E G) : TL P W n ds ops Q l E G := h G hp
theorem ins {e G : Heap} [h : InC e G] : ∀ x ∈ e, x ∈ G := h.sub
end Go.Lg

set_option linter.unusedVariables false
set_option linter.unusedSimpArgs false
namespace Go.Lg
section draw
variable {P : Program} {W : World} {n : Nat} {ds : List Deferred} {Q : Exit → Act → World → Prop} {E0 : Env} {H : Heap}

inductive PhiD where
  | is (v : Value)
  | fresh (f : Nat → Value) (o : Obj)
  | gen (φ : Phi)
def PhiD.phi : PhiD → Phi
  | .is v => Lg.is v
  | .fresh f o => Lg.fresh f o
  | .gen φ => φ
def nthD : List PhiD → Nat → PhiD
  | [], _ => .is undef
  | p :: _, 0 => p
  | _ :: ps, k + 1 => nthD ps k
def MonosD : List PhiD → Prop
  | [] => True
  | .is _ :: r => MonosD r
  | .fresh _ _ :: r => MonosD r
  | .gen φ :: r => Phi.Mono φ ∧ MonosD r
def withD (dl : List (Option Tmp)) (Φs : List PhiD) (G : Heap) : List Nat → Env → (Env → Prop) → Prop
  | [], E, k => k E
  | j :: js, E, k => match nthD Φs j with
    | .is v => withD dl Φs G js (putO (nthDst dl j) v E) k
    | .fresh f o => ∀ b, (b, o) ∈ G → withD dl Φs G js (putO (nthDst dl j) (f b) E) k
    | .gen φ => ∀ v ex, φ v ex G → Sub ex G → withD dl Φs G js (putO (nthDst dl j) v E) k
def postD : PhiD → Value → Heap → Heap → Prop
  | .is v0, v, ex, _ => v = v0 ∧ ex = []
  | .fresh f o, v, ex, _ => ∃ k, v = f k ∧ ex = [(k, o)]
  | .gen φ, v, ex, G => φ v ex G
def PremsD (P : Program) (W : World) (n : Nat) (ds : List Deferred) (dl : List (Option Tmp)) (Φs : List PhiD) (E0 : Env) (H : Heap) : Nat → List Oper → List (List Nat) → Prop
  | i, o :: os, js :: jss => (∀ G, Sub H G → withD dl Φs G js E0 fun E => Step2 P W n ds dl o E G fun v G' => ∃ ex, G' = ex ++ G ∧ postD (nthD Φs i) v ex G') ∧ PremsD P W n ds dl Φs E0 H (i + 1) os jss
  | _, _, _ => True
def FinalsD (dl : List (Option Tmp)) (K : Env → Heap → Prop) : Nat → List PhiD → Env → Heap → (Heap → Prop) → Prop
  | _, [], E, G, h => h G → K E G
  | i, .is v :: φs, E, G, h => FinalsD dl K (i + 1) φs (putO (nthDst dl i) v E) G h
  | i, .fresh f o :: φs, E, G, h => ∀ b, FinalsD dl K (i + 1) φs (putO (nthDst dl i) (f b) E) ((b, o) :: G) h
  | i, .gen φ :: φs, E, G, h => ∀ v ex, FinalsD dl K (i + 1) φs (putO (nthDst dl i) v E) (ex ++ G) (fun G => φ v ex G ∧ h G)

theorem nthD_phi : ∀ (Φs : List PhiD) (j : Nat), nthPhi (Φs.map PhiD.phi) j = (nthD Φs j).phi
  | [], _ => rfl
  | _ :: _, 0 => rfl
  | _ :: ps, k + 1 => nthD_phi ps k
theorem postD_eq (p : PhiD) (v : Value) (ex G : Heap) : postD p v ex G = p.phi v ex G := by cases p <;> rfl
theorem monosD : ∀ {Φs : List PhiD}, MonosD Φs → Monos (Φs.map PhiD.phi)
  | [], _ => trivial
  | .is v :: r, h => ⟨is_mono v, monosD (Φs := r) h⟩
  | .fresh f o :: r, h => ⟨fresh_mono f o, monosD (Φs := r) h⟩
  | .gen φ :: r, h => ⟨h.1, monosD (Φs := r) h.2⟩
theorem withD_with2 {dl : List (Option Tmp)} {Φs : List PhiD} {G : Heap} {k : Env → Prop} : ∀ (js : List Nat) (E : Env), withD dl Φs G js E k → with2 dl (Φs.map PhiD.phi) G js E k
  | [], E, h => h
  | j :: js, E, h => by
    intro v ex hφ hs
    rw [nthD_phi] at hφ
    unfold withD at h
    cases hj : nthD Φs j with
    | is v0 =>
      rw [hj] at hφ h
      obtain ⟨rfl, rfl⟩ := hφ
      exact withD_with2 js _ h
    | fresh f o =>
      rw [hj] at hφ h
      obtain ⟨b, rfl, rfl⟩ := hφ
      exact withD_with2 js _ (h b (hs _ List.mem_cons_self))
    | gen φ =>
      rw [hj] at hφ h
      exact withD_with2 js _ (h v ex hφ hs)
theorem finals2_mono {dl : List (Option Tmp)} {K : Env → Heap → Prop} : ∀ (Φs : List Phi) (i : Nat) (E : Env) (G : Heap) (h h' : Heap → Prop), (∀ G, h' G → h G) → Finals2 dl K i Φs E G h → Finals2 dl K i Φs E G h'
  | [], _, _, _, _, _, hm, hf => fun hh => hf (hm _ hh)
  | _ :: φs, i, E, G, h, h', hm, hf => fun v ex => finals2_mono φs _ _ _ _ _ (fun G hg => ⟨hg.1, hm G hg.2⟩) (hf v ex)
theorem finals2_no {dl : List (Option Tmp)} {K : Env → Heap → Prop} : ∀ (Φs : List Phi) (i : Nat) (E : Env) (G : Heap) (h : Heap → Prop), (∀ G, ¬ h G) → Finals2 dl K i Φs E G h
  | [], _, _, G, _, hn => fun hh => (hn G hh).elim
  | _ :: φs, i, E, G, h, hn => fun v ex => finals2_no φs _ _ _ _ fun G hg => hn G hg.2
theorem finalsD_finals2 {dl : List (Option Tmp)} {K : Env → Heap → Prop} : ∀ (Φs : List PhiD) (i : Nat) (E : Env) (G : Heap) (h : Heap → Prop), FinalsD dl K i Φs E G h → Finals2 dl K i (Φs.map PhiD.phi) E G h
  | [], _, _, _, _, hf => hf
  | .is v0 :: φs, i, E, G, h, hf => by
    intro v ex
    by_cases hv : v = v0 ∧ ex = []
    · obtain ⟨rfl, rfl⟩ := hv
      exact finals2_mono _ _ _ _ _ _ (fun G hg => hg.2) (finalsD_finals2 φs _ _ _ _ hf)
    · exact finals2_no _ _ _ _ _ fun G hg => hv hg.1
  | .fresh f o :: φs, i, E, G, h, hf => by
    intro v ex
    by_cases hv : ∃ k, v = f k ∧ ex = [(k, o)]
    · obtain ⟨k, rfl, rfl⟩ := hv
      exact finals2_mono _ _ _ _ _ _ (fun G hg => hg.2) (finalsD_finals2 φs _ _ _ _ (hf k))
    · exact finals2_no _ _ _ _ _ fun G hg => hv hg.1
  | .gen φ :: φs, i, E, G, h, hf => fun v ex => finalsD_finals2 φs _ _ _ _ (hf v ex)
theorem premsD_prems2 {dl : List (Option Tmp)} {Φs : List PhiD} : ∀ (os : List Oper) (i : Nat) (jss : List (List Nat)), PremsD P W n ds dl Φs E0 H i os jss → Prems2 P W n ds dl (Φs.map PhiD.phi) E0 H i os jss
  | [], _, _, _ => by unfold Prems2; trivial
  | o :: os, i, [], _ => trivial
  | o :: os, i, js :: jss, h => by
    refine ⟨fun G hG => ?_, premsD_prems2 os _ jss h.2⟩
    have := withD_with2 js E0 (h.1 G hG)
    simp only [postD_eq, ← nthD_phi] at this
    exact this

theorem tc_drawnD {id : Nat} {l : List Oper} (m : Nat) (Φs : List PhiD) (dl : List (Option Tmp)) (prs : List (List Nat)) (hm : P.follows .mixedOrders = true) (hmonos : MonosD Φs)
    (prem : PremsD P W n ds dl Φs E0 H 0 (l.take m) prs)
    (fin : FinalsD dl (fun E G => TL P W n ds l Q (l.drop m) E G) 0 Φs E0 H (fun _ => True))
    (hE : edgesOk l m = true := by exact rfl) (hD : dstsOk l m n E0 = true := by exact rfl)
    (hlen : Φs.length = m := by exact rfl) (hml : m ≤ l.length := by exact Nat.le_of_ble_eq_true rfl) (hdl : l.map (·.dst) = dl := by exact rfl) (hpr : (l.take m).map preds = prs := by exact rfl) :
    TC P W n ds (.region id l.toArray true) Q E0 H :=
  tc_drawn m (Φs.map PhiD.phi) dl prs hm (monosD hmonos) (premsD_prems2 _ _ _ prem) (finalsD_finals2 _ _ _ _ _ fin) hE hD (by rw [List.length_map]; exact hlen) hml hdl hpr
end draw
end Go.Lg

set_option linter.unusedVariables false
set_option linter.unusedSimpArgs false
namespace Go.Lg
section draw
variable {P : Program} {W : World} {n : Nat} {ds : List Deferred} {Q : Exit → Act → World → Prop} {E0 : Env} {H H' R : Heap}

/-- A word on a value that does not look at memory. -/
def Phi.Const (φ : Phi) : Prop := ∀ v ex G G', φ v ex G → φ v ex G'
def Consts : List Phi → Prop
  | [] => True
  | φ :: φs => Phi.Const φ ∧ Consts φs
theorem Consts.all {φs : List Phi} (h : Consts φs) : ∀ φ ∈ φs, Phi.Const φ := by
  induction φs with
  | nil => intro φ h; cases h
  | cons x xs ih =>
    intro φ hφ
    cases hφ with
    | head => exact h.1
    | tail _ h' => exact ih h.2 φ h'
theorem is_const (v0 : Value) : Phi.Const (is v0) := fun _ _ _ _ h => h
theorem fresh_const (f : Nat → Value) (o : Obj) : Phi.Const (fresh f o) := fun _ _ _ _ h => h
theorem some_const (p : Value → Heap → Prop) : Phi.Const (some' p) := fun _ _ _ _ h => h

theorem made_app (outs : Nat → Value × Heap) (f : Nat → Bool) (m : Nat) (H : Heap) : made outs f m H = made outs f m [] ++ H := by
  induction m with
  | zero => rfl
  | succ m ih => simp only [made]; rw [ih, List.append_assoc]

/-- Of operation i: 1: ahead of the store (number s), 2: behind it, 3: the store, 0: it does not look at what the store writes. -/
def clsOk (l : List Oper) (m s : Nat) (cls : List Nat) : Bool :=
  decide (s < m) && (List.range m).all fun i => match cls[i]? with
    | some 3 => i == s && (match l[i]? with | some o => o.guard.isNone | none => false)
    | some 1 => i != s && reachB l 9 s i
    | some 2 => i != s && reachB l 9 i s
    | some _ => i != s
    | none => false

def PremS (P : Program) (W : World) (n : Nat) (ds : List Deferred) (l : List Oper) (Φ : Nat → Phi) (E0 : Env) (R H H' : Heap) (i : Nat) (o : Oper) (c : Nat) : Prop :=
  match c with
  | 3 => ∀ ex, withPreds l Φ (ex ++ H) (preds o) E0 fun E => OpT P W n ds o E (ex ++ H) fun v G' => G' = ex ++ H' ∧ Φ i v [] G'
  | 1 => ∀ G, (∀ e ∈ H, e ∈ G) → withPreds l Φ G (preds o) E0 fun E => StepG P W n ds l o E G fun v G' => ∃ ex, G' = ex ++ G ∧ Φ i v ex G'
  | 2 => ∀ G, (∀ e ∈ H', e ∈ G) → withPreds l Φ G (preds o) E0 fun E => StepG P W n ds l o E G fun v G' => ∃ ex, G' = ex ++ G ∧ Φ i v ex G'
  | _ => ∀ G, (∀ e ∈ R, e ∈ G) → withPreds l Φ G (preds o) E0 fun E => StepG P W n ds l o E G fun v G' => ∃ ex, G' = ex ++ G ∧ Φ i v ex G'

theorem reach_lt {l : List Oper} {m : Nat} (hE : edgesOk l m = true) : ∀ (k i j : Nat), reachB l k i j = true → j < i := by
  intro k
  induction k with
  | zero => intro i j h; cases h
  | succ k ih =>
    intro i j h
    unfold reachB at h
    cases ho : l[i]? with
    | none => rw [ho] at h; cases h
    | some o =>
      rw [ho] at h
      simp only [Bool.or_eq_true, List.any_eq_true, List.contains_iff_mem] at h
      have hb := (binds_any_mem hE ho).1
      rcases h with h | ⟨p, hp, h⟩
      · exact hb j h
      · exact Nat.lt_trans (ih p j h) (hb p hp)

/-- The listed operations are closed: what is listed has all that it reaches. -/
theorem listed_reach {l : List Oper} {listed : Array Bool} (hc : Closed l listed) (k i j : Nat) (hi : listed.getD i false = true) (hr : reachB l k i j = true) : listed.getD j false = true := by
  cases k with
  | zero => cases hr
  | succ k =>
    cases ho : l[i]? with
    | none => unfold reachB at hr; rw [ho] at hr; cases hr
    | some o => exact reach_listed hc (k + 1) i j o ho (hc i o ho hi) hr

theorem tc_drawS {id : Nat} {l : List Oper} (m s : Nat) (Φs : List Phi) (cls : List Nat) (hm : P.follows .mixedOrders = true) (hE : edgesOk l m = true) (hD : dstsOk l m n E0 = true)
    (hlen : Φs.length = m) (hml : m ≤ l.length) (hcst : Consts Φs) (hcl0 : clsOk l m s cls = true) (hRH : Sub R H) (hRH' : Sub R H')
    (prem : ∀ i o c, i < m → l[i]? = some o → cls[i]? = some c → PremS P W n ds l (fun i => Φs.getD i (is undef)) E0 R H H' i o c)
    (fin : Finals l (fun E G => TL P W n ds l Q (l.drop m) E G) 0 Φs E0 H' (fun _ => True)) :
    TC P W n ds (.region id l.toArray true) Q E0 H := by
  have hconst := hcst.all
  simp only [clsOk, Bool.and_eq_true, decide_eq_true_eq, List.all_eq_true, List.mem_range] at hcl0
  obtain ⟨hsm, hcl1⟩ := hcl0
  refine ⟨fun a0 w0 ho0 hs0 => ?_⟩
  refine wp_region_any hm ?_
  have hΦ : ∀ i, i < m → Phi.Const (Φs.getD i (is undef)) := fun i hi => by
    rw [List.getD_eq_getElem?_getD, List.getElem?_eq_getElem (by omega)]
    exact hconst _ (List.getElem_mem _)
  let B : Bool → Heap := fun b => if b then H' else H
  have complete : ∀ (fuel : Nat) (listed : Array Bool) (outs : Nat → Value × Heap) (a : Act) (w : World), listed.size = l.length → Closed l listed →
      fuel = listed.toList.countP (fun b => !b) → (∀ i, m ≤ i → i < l.length → listed[i]? = some false) → Ok n ds E0 a →
      Sees W (made outs (fun i => listed.getD i false) m (B (listed.getD s false))) w →
      (∀ i, i < m → listed.getD i false = true → (∀ G, (Φs.getD i (is undef)) (outs i).1 (outs i).2 G) ∧ ∀ d, dstOf l i = some d → a.tmps[d]? = some (outs i).1) →
      (∀ i, i < m → listed.getD i false = true) → wpAny P .any l.toArray Q fuel listed a w := by
    intro fuel listed outs a w hsz hcl hf h2 ho hs hinv hc
    have hget : ∀ i, i < m → listed[i]? = some true := fun i hi => by
      have hb : i < listed.size := by omega
      have := hc i hi
      rw [Array.getElem?_eq_getElem hb]
      simpa [Array.getD, hb] using this
    rw [hc s hsm] at hs
    have hmade : made outs (fun i => listed.getD i false) m (B true) = made outs (fun _ => true) m H' := made_congr _ _ fun i hi => ⟨hc i hi, fun _ => rfl⟩
    rw [hmade] at hs
    obtain ⟨E', hK, ho'⟩ := finals_done (n := n) (ds := ds) (H := H') (outs := outs) (a := a) Φs 0 E0 _ fin (fun j φ hj => by
        have hjm : j < m := by
          rcases Nat.lt_or_ge j m with h | h
          · exact h
          · rw [List.getElem?_eq_none (by omega)] at hj; cases hj
        have := (hinv j hjm (hc j hjm)).1 (made outs (fun _ => true) (0 + Φs.length) H')
        rw [List.getD_eq_getElem?_getD, hj] at this
        simpa using this) trivial ho (fun j _ hj d hd => (hinv j (by omega) (hc j (by omega))).2 d hd)
    rw [Nat.zero_add, hlen] at hK
    refine any_of_tail hE fuel m listed a w hsz hcl ?_ (Nat.le_refl _) hget h2 (hK.run a w ho' hs)
    rw [hf]
    have := count_split (l := listed.toList) (m := m) (by simp; omega) (fun i hi => by simpa using hget i hi) (fun i hi hi' => by simpa using h2 i hi (by simpa [hsz] using hi'))
    simpa [hsz] using this
  have head : ∀ (fuel : Nat) (listed : Array Bool) (outs : Nat → Value × Heap) (a : Act) (w : World), listed.size = l.length → Closed l listed →
      fuel = listed.toList.countP (fun b => !b) → (∀ i, m ≤ i → i < l.length → listed[i]? = some false) → Ok n ds E0 a →
      Sees W (made outs (fun i => listed.getD i false) m (B (listed.getD s false))) w →
      (∀ i, i < m → listed.getD i false = true → (∀ G, (Φs.getD i (is undef)) (outs i).1 (outs i).2 G) ∧ ∀ d, dstOf l i = some d → a.tmps[d]? = some (outs i).1) →
      wpAny P .any l.toArray Q fuel listed a w := by
    intro fuel
    induction fuel with
    | zero =>
      intro listed outs a w hsz hcl hf h2 ho hs hinv
      refine complete 0 listed outs a w hsz hcl hf h2 ho hs hinv fun i hi => ?_
      have := List.countP_eq_zero.1 hf.symm
      have hb : i < listed.size := by omega
      have := this listed[i] (by simp [Array.getElem_mem])
      simpa [Array.getD, hb] using this
    | succ fuel ih =>
      intro listed outs a w hsz hcl hf h2 ho hs hinv
      by_cases hc : ∀ i, i < m → listed.getD i false = true
      · exact complete _ listed outs a w hsz hcl hf h2 ho hs hinv hc
      have hex : ∃ i, i < m ∧ ¬ listed.getD i false = true := by
        apply Classical.byContradiction
        intro h
        exact hc fun i hi => Classical.byContradiction fun h' => h ⟨i, hi, h'⟩
      obtain ⟨i0, hi0, hn0, hb0⟩ := least (p := fun i => listed.getD i false = true) m hex
      have hunl : ∀ i, i < l.length → ¬ listed.getD i false = true → listed[i]? = some false := fun i hi h => by
        have hb : i < listed.size := by omega
        rw [Array.getElem?_eq_getElem hb]
        simpa [Array.getD, hb] using h
      refine ⟨fun hr => ?_, fun i hi => ?_⟩
      · have hget : l[i0]? = some l[i0] := List.getElem?_eq_getElem (by omega)
        have : i0 ∈ Region.ready .any l.toArray listed := (ready_iff hsz).2 ⟨by omega, hunl i0 (by omega) hn0, _, hget, fun j hj => hb0 j ((binds_any_mem hE hget).1 j hj)⟩
        rw [hr] at this; cases this
      · obtain ⟨hi1, hi2, o, hoi, hp⟩ := (ready_iff hsz).1 hi
        have him : i < m := by
          rcases Nat.lt_or_ge i m with h | h
          · exact h
          · exact (hn0 (reach_listed hcl 9 i i0 o hoi hp ((binds_any_mem hE hoi).2 h i0 (by omega)))).elim
        have hif : listed.getD i false = false := by rw [Array.getD_eq_getD_getElem?, hi2]; rfl
        have hdst : dstOf l i = o.dst := by simp [dstOf, hoi]
        have hgd : ∀ j, (listed.setIfInBounds i true).getD j false = (j == i || listed.getD j false) := fun j => by
          rw [Array.getD_eq_getD_getElem?, Array.getElem?_setIfInBounds, Array.getD_eq_getD_getElem?]
          by_cases e : i = j
          · subst e; simp [hsz, hi1]
          · rw [if_neg e]
            have : (j == i) = false := by simp; exact fun h => e h.symm
            simp [this]
        have step : ∀ v ex w', Sees W (ex ++ made outs (fun i => listed.getD i false) m (B ((listed.setIfInBounds i true).getD s false))) w' → (∀ G, (Φs.getD i (is undef)) v ex G) →
            wpAny P .any l.toArray Q fuel (listed.setIfInBounds i true) (a.put o.dst v) w' := by
          intro v ex w' hs' hφ
          have hperm := made_add (outs := outs) (f := fun j => listed.getD j false) (v, ex) m (B ((listed.setIfInBounds i true).getD s false)) him hif
          have hmm : ∀ HH, made (fun j => if j = i then (v, ex) else outs j) (fun j => (listed.setIfInBounds i true).getD j false) m HH = made (fun j => if j = i then (v, ex) else outs j) (fun j => j == i || listed.getD j false) m HH :=
            fun HH => made_congr _ _ fun j _ => ⟨hgd j, fun _ => rfl⟩
          refine ih _ (fun j => if j = i then (v, ex) else outs j) _ _ (by simpa using hsz) (hcl.set (fun o' ho' j hj => by rw [hoi] at ho'; cases ho'; exact hp j hj) (by omega)) ?_ ?_ ?_ ?_ ?_
          · have := count_set (l := listed.toList) (i := i) (by simpa using hi2)
            simp only [Array.toList_setIfInBounds]
            omega
          · intro j hj hj'
            rw [Array.getElem?_setIfInBounds, if_neg (by omega)]; exact h2 j hj hj'
          · refine ho.put_off (fun d hd => (dsts_get hD him hoi hd).2.1) v
          · rw [hmm]; exact hs'.perm hperm
          · intro j hj hl
            by_cases e : j = i
            · subst e
              rw [if_pos rfl]
              refine ⟨hφ, fun d hd => ?_⟩
              rw [hdst] at hd
              have := dsts_get hD hj hoi hd
              simp [Act.put, hd, ho.size, this.1]
            · rw [if_neg e]
              have hl' : listed.getD j false = true := by
                rw [hgd j] at hl; simpa [e] using hl
              obtain ⟨h3, h4⟩ := hinv j hj hl'
              refine ⟨h3, fun d hd => ?_⟩
              cases hod : o.dst with
              | none => exact h4 d hd
              | some d' =>
                have := (dsts_get hD him hoi hod).2.2 j hj e
                have hne : d' ≠ d := fun e => this (by rw [hd, e])
                simp [Act.put, hne, h4 d hd]
        have hcls := hcl1 i him
        cases hci : cls[i]? with
        | none => rw [hci] at hcls; cases hcls
        | some c =>
        rw [hci] at hcls
        have hpr := prem i o c him hoi hci
        have hpreds : ∀ (HH : Heap), ∀ j ∈ preds o, (Φs.getD j (is undef)) (outs j).1 (outs j).2 (made outs (fun i => listed.getD i false) m HH) ∧ (∀ e ∈ (outs j).2, e ∈ made outs (fun i => listed.getD i false) m HH) ∧ ∀ d, dstOf l j = some d → a.tmps[d]? = some (outs j).1 := fun HH j hj => by
          have hjm : j < m := Nat.lt_trans ((binds_any_mem hE hoi).1 j hj) him
          obtain ⟨h3, h4⟩ := hinv j hjm (hp j hj)
          exact ⟨h3 _, made_sub m HH hjm (hp j hj), h4⟩
        by_cases h3 : c = 3
        · -- the store
          subst h3
          simp only [Bool.and_eq_true, beq_iff_eq, hoi] at hcls
          obtain ⟨rfl, hgn⟩ := hcls
          have hg : o.guard = none := by simpa using hgn
          rw [hif] at hs
          have hs2 : Sees W (made outs (fun i => listed.getD i false) m [] ++ H) w := by rw [← made_app]; exact hs
          have hpr2 := hpr (made outs (fun i => listed.getD i false) m [])
          rw [← made_app] at hpr2
          obtain ⟨E', hst, ho'⟩ := ok_of_withPreds (n := n) (ds := ds) (a := a) (outs := outs) _ _ hpr2 (hpreds H) ho
          unfold wpOp
          simp only [List.getElem?_toArray, hoi]
          rw [if_pos (by simp [Region.wanted, hg])]
          refine .inl (hst.run a w _ Q ho' hs fun v G' w' hs' ⟨hG', hφ⟩ => step v [] w' ?_ fun G => hΦ i him _ _ _ _ hφ)
          have e1 : (listed.setIfInBounds i true).getD i false = true := by rw [hgd]; simp
          rw [e1, List.nil_append, made_app]
          subst hG'
          exact hs'
        · -- any other
          have his : i ≠ s := by
            match c, h3, hcls with
            | 0, _, h => simpa using h
            | 1, _, h => simp only [Bool.and_eq_true, bne_iff_ne] at h; exact h.1
            | 2, _, h => simp only [Bool.and_eq_true, bne_iff_ne] at h; exact h.1
            | c + 4, _, h => simpa using h
          have hsi : (listed.setIfInBounds i true).getD s false = listed.getD s false := by
            rw [hgd]; have : (s == i) = false := by simp; exact fun h => his h.symm
            simp [this]
          rw [hsi] at step
          have hG : withPreds l (fun i => Φs.getD i (is undef)) (made outs (fun i => listed.getD i false) m (B (listed.getD s false))) (preds o) E0 fun E => StepG P W n ds l o E (made outs (fun i => listed.getD i false) m (B (listed.getD s false))) fun v G' => ∃ ex, G' = ex ++ (made outs (fun i => listed.getD i false) m (B (listed.getD s false))) ∧ (Φs.getD i (is undef)) v ex G' := by
            match c, h3, hcls, hpr with
            | 0, _, _, hpr => exact hpr _ fun e he => made_base m _ e (by cases listed.getD s false <;> first | exact hRH e he | exact hRH' e he)
            | c + 4, _, _, hpr => exact hpr _ fun e he => made_base m _ e (by cases listed.getD s false <;> first | exact hRH e he | exact hRH' e he)
            | 1, _, h, hpr =>
              simp only [Bool.and_eq_true] at h
              have hsf : listed.getD s false = false := by
                cases hh : listed.getD s false with
                | false => rfl
                | true => have := listed_reach hcl 9 s i hh h.2; rw [this] at hif; cases hif
              refine hpr _ fun e he => made_base m _ e ?_
              rw [hsf]; exact he
            | 2, _, h, hpr =>
              simp only [Bool.and_eq_true] at h
              have hst : listed.getD s false = true := reach_listed hcl 9 i s o hoi hp h.2
              refine hpr _ fun e he => made_base m _ e ?_
              rw [hst]; exact he
          obtain ⟨E', hst, ho'⟩ := ok_of_withPreds (n := n) (ds := ds) (a := a) (outs := outs) _ _ hG (hpreds _) ho
          unfold wpOp
          simp only [List.getElem?_toArray, hoi]
          unfold StepG at hst
          split at hst
          · rename_i hg
            rw [if_pos (by simp [Region.wanted, hg])]
            exact .inl (hst.run a w _ Q ho' hs fun v G' w' hs' ⟨ex, hG', hφ⟩ => step v ex w' (hG' ▸ hs') fun G => hΦ i him _ _ _ _ hφ)
          · rename_i j want hg
            rcases hst with ⟨dj, b, hdj, hbj, hy, hno⟩ | ⟨dj, hdj, hbj, hno⟩
            · have hyl : yielded l.toArray a.tmps j = some b := by
                have h5 := ho'.get _ _ hbj
                simp only [dstOf] at hdj
                simp [yielded, hdj, h5]
              by_cases hbw : b = want
              · rw [if_pos (by simp [Region.wanted, hg, hyl, hbw])]
                exact .inl ((hy hbw).run a w _ Q ho' hs fun v G' w' hs' ⟨ex, hG', hφ⟩ => step v ex w' (hG' ▸ hs') fun G => hΦ i him _ _ _ _ hφ)
              · rw [if_neg (by simp [Region.wanted, hg, hyl, hbw])]
                obtain ⟨ex, hG', hφ⟩ := hno (by cases b <;> cases want <;> simp_all)
                exact step undef ex w (hG' ▸ hs) fun G => hΦ i him _ _ _ _ hφ
            · have hyl : yielded l.toArray a.tmps j = none := by
                have h5 := ho'.get _ _ hbj
                simp only [dstOf] at hdj
                simp [yielded, hdj, h5, undef]
              rw [if_neg (by simp [Region.wanted, hg, hyl])]
              obtain ⟨ex, hG', hφ⟩ := hno
              exact step undef ex w (hG' ▸ hs) fun G => hΦ i him _ _ _ _ hφ
  refine head l.length (Array.replicate l.length false) (fun _ => (undef, [])) a0 _ (by simp) (fun i o _ h => by rw [Array.getD_eq_getD_getElem?, Array.getElem?_replicate] at h; split at h <;> cases h) (by simp [List.countP_replicate]) (fun i _ hi => by simp [hi]) ho0 ?_ ?_
  · have e1 : (Array.replicate l.length false).getD s false = false := by rw [Array.getD_eq_getD_getElem?, Array.getElem?_replicate]; split <;> rfl
    rw [e1, made_none]; exact hs0.drew _
  · intro i hi hl
    simp only [Array.getD_eq_getD_getElem?, Array.getElem?_replicate] at hl
    split at hl <;> cases hl

/-! In a form that is easy to read at a region written out. -/
def Prems3 (P : Program) (W : World) (n : Nat) (ds : List Deferred) (dl : List (Option Tmp)) (Φs : List Phi) (E0 : Env) (R H H' : Heap) : Nat → List Oper → List (List Nat) → List Nat → Prop
  | i, o :: os, js :: jss, c :: cs =>
    (match c with
      | 3 => ∀ ex, with2 dl Φs (ex ++ H) js E0 fun E => OpT P W n ds o E (ex ++ H) fun v G' => G' = ex ++ H' ∧ nthPhi Φs i v [] G'
      | 1 => ∀ G, Sub H G → with2 dl Φs G js E0 fun E => Step2 P W n ds dl o E G fun v G' => ∃ ex, G' = ex ++ G ∧ nthPhi Φs i v ex G'
      | 2 => ∀ G, Sub H' G → with2 dl Φs G js E0 fun E => Step2 P W n ds dl o E G fun v G' => ∃ ex, G' = ex ++ G ∧ nthPhi Φs i v ex G'
      | _ => ∀ G, Sub R G → with2 dl Φs G js E0 fun E => Step2 P W n ds dl o E G fun v G' => ∃ ex, G' = ex ++ G ∧ nthPhi Φs i v ex G') ∧ Prems3 P W n ds dl Φs E0 R H H' (i + 1) os jss cs
  | _, _, _, _ => True

theorem step2_eq {l : List Oper} (o : Oper) (E : Env) (G : Heap) (K : Value → Heap → Prop) : Step2 P W n ds (l.map (·.dst)) o E G K = StepG P W n ds l o E G K := by
  unfold Step2 StepG; simp only [nthDst_eq]

theorem prems3_prems {l : List Oper} {Φs : List Phi} : ∀ (os : List Oper) (k : Nat) (cls : List Nat), Prems3 P W n ds (l.map (·.dst)) Φs E0 R H H' k os (os.map preds) cls →
    ∀ i o c, os[i]? = some o → cls[i]? = some c → PremS P W n ds l (fun i => Φs.getD i (is undef)) E0 R H H' (k + i) o c := by
  intro os
  induction os with
  | nil => intro k cls _ i o c h; simp at h
  | cons x xs ih =>
    intro k cls h i o c ho hc
    cases cls with
    | nil => simp at hc
    | cons c0 cs =>
      cases i with
      | succ i => have := ih (k + 1) cs h.2 i o c (by simpa using ho) (by simpa using hc); rwa [show k + 1 + i = k + (i + 1) by omega] at this
      | zero =>
        simp at ho hc
        subst ho; subst hc
        have h1 := h.1
        match c0, h1 with
        | 3, h1 => intro ex; have := h1 ex; rw [with2_eq] at this; simp only [nthPhi_eq] at this ⊢; exact this
        | 1, h1 => intro G hG; have := h1 G hG; rw [with2_eq] at this; simp only [nthPhi_eq, step2_eq] at this ⊢; exact this
        | 2, h1 => intro G hG; have := h1 G hG; rw [with2_eq] at this; simp only [nthPhi_eq, step2_eq] at this ⊢; exact this
        | 0, h1 => intro G hG; have := h1 G hG; rw [with2_eq] at this; simp only [nthPhi_eq, step2_eq] at this ⊢; exact this
        | c + 4, h1 => intro G hG; have := h1 G hG; rw [with2_eq] at this; simp only [nthPhi_eq, step2_eq] at this ⊢; exact this

theorem tc_drawnS {id : Nat} {l : List Oper} (m s : Nat) {kb : Nat} {ob ob' : Obj} (Φs : List Phi) (dl : List (Option Tmp)) (prs : List (List Nat)) (cls : List Nat) (hm : P.follows .mixedOrders = true) (hcst : Consts Φs)
    (prem : Prems3 P W n ds dl Φs E0 R ((kb, ob) :: R) ((kb, ob') :: R) 0 (l.take m) prs cls)
    (fin : Finals2 dl (fun E G => TL P W n ds l Q (l.drop m) E G) 0 Φs E0 ((kb, ob') :: R) (fun _ => True))
    (hE : edgesOk l m = true := by exact rfl) (hD : dstsOk l m n E0 = true := by exact rfl)
    (hlen : Φs.length = m := by exact rfl) (hml : m ≤ l.length := by exact Nat.le_of_ble_eq_true rfl) (hdl : l.map (·.dst) = dl := by exact rfl) (hpr : (l.take m).map preds = prs := by exact rfl) (hcl : clsOk l m s cls = true := by exact rfl) :
    TC P W n ds (.region id l.toArray true) Q E0 ((kb, ob) :: R) := by
  subst hdl
  subst hpr
  refine tc_drawS (R := R) (H' := (kb, ob') :: R) m s Φs cls hm hE hD hlen hml hcst hcl (fun e he => List.mem_cons_of_mem _ he) (fun e he => List.mem_cons_of_mem _ he) ?_ (by rw [← finals2_eq]; exact fin)
  intro i o c hi ho hc
  have := prems3_prems (l.take m) 0 cls prem i o c (by rw [List.getElem?_take]; simp [hi, ho]) hc
  rwa [Nat.zero_add] at this
end draw
end Go.Lg

set_option linter.unusedVariables false
set_option linter.unusedSimpArgs false
namespace Go.Lg
class MethA (P : Program) (t : TypeId) (name : String) (f : outParam FuncId) : Prop where
  eq : ∀ (cs : List Value) (args : Array Value) (w : World), (callMethod (.iface t (.agg ⟨cs⟩)) name args).run P w = .ok (.enter f (#[.agg ⟨cs⟩] ++ args)) w
section
variable {P : Program} {W : World} {n : Nat} {ds : List Deferred} {dst : Option Tmp} {ty : TypeId} {pos : String} {af : Array Edge} {g : Option (Nat × Bool)} {E : Env} {G : Heap} {K : Value → Heap → Prop}
theorem op_invokeA {x nm t f cs args vs at'} [h : MethA P t nm f] [Enters P f] (hd : Does P f (.agg ⟨cs⟩ :: vs) G K) (hx : evalE E x = some (.iface t (.agg ⟨cs⟩)) := by exact rfl) (hv : evalAll E args = some vs := by exact rfl) :
    OpT P W n ds ⟨dst, .call { callee := .invoke x nm, args := ⟨args⟩, argTypes := at' }, ty, pos, af, g⟩ E G K := by
  refine ⟨fun a' w next Q ho hs hn => ?_⟩
  have he : args.map a'.eval = vs := by
    clear hd hn
    induction args generalizing vs with
    | nil => simp [evalAll] at hv; simp [← hv]
    | cons x xs ih =>
      simp only [evalAll] at hv
      cases h1 : evalE E x with
      | none => simp [h1] at hv
      | some v =>
        cases h2 : evalAll E xs with
        | none => simp [h1, h2] at hv
        | some us =>
          simp [h1, h2] at hv
          subst hv
          simp [ho.eval h1, ih h2]
  have hr : (execOp a'.eval ⟨dst, .call { callee := .invoke x nm, args := ⟨args⟩, argTypes := at' }, ty, pos, af, g⟩).run P w = (callFunc f ⟨.agg ⟨cs⟩ :: vs⟩).run P w := by
    rw [run_callFunc]
    simp only [execOp, resolve, ho.eval hx, List.map_toArray, he]
    refine (sem_run_bind P _ _ w _ w rfl).trans ?_
    have e1 : invoke (.fn (.method nm) #[]) (#[.iface t (.agg ⟨cs⟩)] ++ vs.toArray) = callMethod (.iface t (.agg ⟨cs⟩)) nm ⟨vs⟩ := by
      simp [invoke]
    show (invoke (.fn (.method nm) #[]) (#[.iface t (.agg ⟨cs⟩)] ++ vs.toArray)).run P w = _
    rw [e1, h.eq cs ⟨vs⟩ w]
    simp
  rw [hr]
  exact hd.run W w hs _ a' next Q hn
theorem run_equalIn_nil {P : Program} {t ms} [hU : Und P t (.interface ms)] (w : World) : (Op.equalIn Op.maxDepth t .nilIface .nilIface).run P w = .ok true w := by
  show (Op.equalIn (9999 + 1) t _ _).run P w = _
  rw [Op.equalIn]
  refine (sem_run_bind P _ _ w _ w (run_underlying (t := t) w)).trans ?_
  rfl
theorem run_equalIn_iface {P : Program} {t ms tx vx} [hU : Und P t (.interface ms)] (w : World) : (Op.equalIn Op.maxDepth t (.iface tx vx) .nilIface).run P w = .ok false w := by
  show (Op.equalIn (9999 + 1) t _ _).run P w = _
  rw [Op.equalIn]
  refine (sem_run_bind P _ _ w _ w (run_underlying (t := t) w)).trans ?_
  rfl
/-- No error: it is nil. -/
theorem op_iface_nil {t t2 x ms} [hU : Und P t (.interface ms)] (hk : K (.bool false) G) (hx : evalE E x = some .nilIface := by exact rfl) : OpT P W n ds ⟨dst, .binOp .neq t x (.const .nilIface) t2, ty, pos, af, g⟩ E G K :=
  op_of_run (fun a w ho _ => by
    have h0 : ∀ y, (eqGuard .neq t y (.const .nilIface) .nilIface .nilIface).run P w = .ok () w := fun y => by
      simp [eqGuard, go_sem]
    have e2 : a.eval (.const .nilIface) = .nilIface := rfl
    simp only [execOp, ho.eval hx, e2]
    refine run_v ?_
    refine (sem_run_bind P _ _ w () w (h0 _)).trans ?_
    exact (sem_run_bind P _ _ w true w (run_equalIn_nil (t := t) w)).trans rfl) hk
theorem op_iface_nilq {t t2 x ms} [hU : Und P t (.interface ms)] (hk : K (.bool true) G) (hx : evalE E x = some .nilIface := by exact rfl) : OpT P W n ds ⟨dst, .binOp .eql t x (.const .nilIface) t2, ty, pos, af, g⟩ E G K :=
  op_of_run (fun a w ho _ => by
    have h0 : ∀ y, (eqGuard .eql t y (.const .nilIface) .nilIface .nilIface).run P w = .ok () w := fun y => by
      simp [eqGuard, go_sem]
    have e2 : a.eval (.const .nilIface) = .nilIface := rfl
    simp only [execOp, ho.eval hx, e2]
    refine run_v ?_
    refine (sem_run_bind P _ _ w () w (h0 _)).trans ?_
    exact (sem_run_bind P _ _ w true w (run_equalIn_nil (t := t) w)).trans rfl) hk
/-- An error: it is not nil. -/
theorem op_iface_some {t t2 x ms tx vx} [hU : Und P t (.interface ms)] (hk : K (.bool true) G) (hx : evalE E x = some (.iface tx vx) := by exact rfl) : OpT P W n ds ⟨dst, .binOp .neq t x (.const .nilIface) t2, ty, pos, af, g⟩ E G K :=
  op_of_run (fun a w ho _ => by
    have e2 : a.eval (.const .nilIface) = .nilIface := rfl
    simp only [execOp, ho.eval hx, e2]
    refine run_v ?_
    refine (sem_run_bind P _ _ w () w rfl).trans ?_
    exact (sem_run_bind P _ _ w false w (run_equalIn_iface (t := t) w)).trans rfl) hk
theorem op_iface_someq {t t2 x ms tx vx} [hU : Und P t (.interface ms)] (hk : K (.bool false) G) (hx : evalE E x = some (.iface tx vx) := by exact rfl) : OpT P W n ds ⟨dst, .binOp .eql t x (.const .nilIface) t2, ty, pos, af, g⟩ E G K :=
  op_of_run (fun a w ho _ => by
    have e2 : a.eval (.const .nilIface) = .nilIface := rfl
    simp only [execOp, ho.eval hx, e2]
    refine run_v ?_
    refine (sem_run_bind P _ _ w () w rfl).trans ?_
    exact (sem_run_bind P _ _ w false w (run_equalIn_iface (t := t) w)).trans rfl) hk
theorem op_mid {op : Oper} (k : Nat) {o R} [h : MidC G k o R] (h' : OpT P W n ds op E ((k, o) :: R) K) : OpT P W n ds op E G K := op_perm h.perm.symm h'
end
end Go.Lg

set_option linter.unusedVariables false
set_option linter.unusedSimpArgs false
namespace Go.Lg
open Ieee

theorem Ru.abs {k : Nat} {c q : Rat} (h : Ru k c q) (hk : k ≤ 1048576 := by decide) : p2 (-1) * rabs q ≤ rabs c ∧ rabs c ≤ 2 * rabs q := by
  unfold Ru Rl at h
  have h1 := mul_le (u_small hk) (rabs_nonneg q)
  have h2 : p2 (-1) * rabs q + p2 (-1) * rabs q = rabs q := by rw [← Rat.add_mul, half1]; grind
  have h3 := rabs_add (c - q) q
  have h4 := rabs_add (q - c) c
  rw [show c - q + q = c by grind] at h3
  rw [show q - c + c = q by grind] at h4
  have h5 : rabs (q - c) = rabs (c - q) := by rw [← rabs_neg]; congr 1; grind
  have := Rat.mul_nonneg (Rat.le_of_lt (p2_pos (-1))) (rabs_nonneg q)
  constructor <;> grind
theorem Ru.symm {k : Nat} {c q : Rat} (h : Ru k c q) (hk : k ≤ 524288 := by decide) : Ru (2 * k) q c := by
  have ha := Ru.abs h (by omega)
  have h0 := h
  unfold Ru Rl at h ⊢
  have h5 : rabs (q - c) = rabs (c - q) := by rw [← rabs_neg]; congr 1; grind
  rw [h5, Rat.natCast_mul]
  have h2 : p2 (-1) * rabs q + p2 (-1) * rabs q = rabs q := by rw [← Rat.add_mul, half1]; grind
  have h3 := mul_le_left (show rabs q ≤ 2 * rabs c by grind) (u_pos k)
  have : ((2 : Nat) : Rat) = 2 := rfl
  rw [this]
  have e2 : (k : Rat) * p2 (-53) * (2 * rabs c) = 2 * (k : Rat) * p2 (-53) * rabs c := by grind
  rw [← e2]
  exact Rat.le_trans h h3
/-- Of two numbers above 0, by their squares. -/
theorem Ru.root {k : Nat} {a b : Rat} (ha : 0 < a) (hb : 0 < b) (h : Ru k (a * a) (b * b)) : Ru k a b := by
  unfold Ru Rl at h ⊢
  have hb2 := Rat.mul_pos hb hb
  rw [rabs_of_nonneg (Rat.le_of_lt hb2)] at h
  rw [rabs_of_nonneg (Rat.le_of_lt hb)]
  have e1 : rabs (a - b) * (a + b) = rabs (a * a - b * b) := by
    have e : rabs (a - b) * rabs (a + b) = rabs (a * a - b * b) := by rw [← rabs_mul]; congr 1; grind
    rw [rabs_of_nonneg (show 0 ≤ a + b by grind)] at e; exact e
  have e2 := mul_le_left (show b ≤ a + b by grind) (rabs_nonneg (a - b))
  refine of_mul_le (c := b) ?_ hb
  have e3 : (k : Rat) * p2 (-53) * b * b = (k : Rat) * p2 (-53) * (b * b) := by grind
  rw [e3]
  grind
theorem rabs_div {a b : Rat} (hb : 0 < b) : rabs (a / b) * b = rabs a := by
  have : rabs (a / b) * rabs b = rabs a := by rw [← rabs_mul, rat_div_mul _ _ (by grind)]
  rwa [rabs_of_nonneg (Rat.le_of_lt hb)] at this
theorem grav_num {m x D D' s v t w n : Nat} {N : Int} {q d d' : Rat} (hm : Fv m q) (hx : FI 1024 x N) (hD : Fv D d) (hD' : Fv D' d') (hq0 : 0 ≤ q) (hq : q = 0 ∨ p2 (-41) ≤ q) (hq2 : q ≤ p2 21)
    (d0 : p2 (-3) ≤ d) (d1 : d ≤ p2 40) (d0' : p2 (-3) ≤ d') (d1' : d' ≤ p2 40) (hdd : Ru 20 d d') (e1 : FAr .quo m D s) (e2 : FAr .mul s x v) (e3 : FAr .mul m x t) (e4 : FAr .quo t D' w) :
    ∃ g u, Fv v g ∧ Fv w u ∧ Ru 120 g u ∧ (u = 0 ∨ p2 (-90) ≤ rabs u) ∧ rabs u ≤ p2 100 ∧ rabs g ≤ p2 100 := by
  have p3 := p2_pos (-3)
  have dp : 0 < d := by grind
  have dp' : 0 < d' := by grind
  have hqa := rabs_of_nonneg hq0
  have eq1 := rabs_div (a := q) dp
  rw [hqa] at eq1
  have e3p : p2 (-3) * p2 24 = p2 21 := p2_mul (by decide)
  have hqd : rabs (q / d) ≤ p2 24 := by
    refine of_mul_le (c := d) ?_ dp
    rw [eq1]
    have := mul_le_left d0 (Rat.le_of_lt (p2_pos 24))
    rw [Rat.mul_comm, e3p] at this
    grind
  have hqdl : q = 0 ∨ p2 (-81) ≤ rabs (q / d) := by
    rcases hq with h | h
    · exact .inl h
    · right
      refine of_mul_le (c := d) ?_ dp
      rw [eq1]
      have := mul_le_left d1 (Rat.le_of_lt (p2_pos (-81)))
      rw [p2_mul (c := -41) (by decide)] at this
      grind
  obtain ⟨s1, hs1, rs⟩ := far_quo_u e1 hm hD (by grind) (hqdl.imp id fun h => Rat.le_trans (p2_le (by decide)) h) (Rat.le_trans hqd (p2_le (by decide)))
  have sa := Ru.abs rs
  have hN : rabs (N : Rat) ≤ p2 10 := by
    have e : p2 10 = ((1024 : Nat) : Rat) := p2_toNat (e := 10) (by decide)
    have a1 : (N : Rat) ≤ p2 10 := by rw [e, ← Rat.intCast_natCast]; exact Rat.intCast_le_intCast.2 hx.hi
    have a2 : ((-N : Int) : Rat) ≤ p2 10 := by rw [e, ← Rat.intCast_natCast]; exact Rat.intCast_le_intCast.2 (by have := hx.lo; omega)
    rw [Rat.intCast_neg] at a2
    exact rabs_le.2 ⟨by grind, by grind⟩
  have hN1 : N = 0 ∨ (1 : Rat) ≤ rabs (N : Rat) := by
    by_cases h : N = 0
    · exact .inl h
    · exact .inr (int_pos h)
  have s1z : q = 0 → s1 = 0 := by
    rintro rfl
    have : (0 : Rat) / d = 0 := by rw [Rat.div_def]; simp
    rw [this] at rs
    exact rs.zero
  have hsN2 : rabs (s1 * (N : Rat)) ≤ p2 36 := by
    rw [rabs_mul]
    have h1 := mul_le (show rabs s1 ≤ p2 25 by have : p2 25 = p2 24 + p2 24 := p2_half (by decide); grind) (rabs_nonneg (N : Rat))
    have h2 := mul_le_left hN (Rat.le_of_lt (p2_pos 25))
    rw [p2_mul (c := 35) (by decide)] at h2
    have := p2_le (show (35 : Int) ≤ 36 by decide)
    grind
  have hsN : s1 * (N : Rat) = 0 ∨ p2 (-82) ≤ rabs (s1 * (N : Rat)) := by
    rcases hqdl with h | h
    · left; rw [s1z h]; grind
    · rcases hN1 with h2 | h2
      · left; rw [h2]; simp
      · right
        rw [rabs_mul]
        have h3 := mul_le_left h (Rat.le_of_lt (p2_pos (-1)))
        rw [p2_mul (c := -82) (by decide)] at h3
        have h4 := mul_le (show p2 (-82) ≤ rabs s1 by grind) (rabs_nonneg (N : Rat))
        have h5 := mul_le_left h2 (Rat.le_of_lt (p2_pos (-82)))
        grind
  obtain ⟨g, hg, rg⟩ := far_mul_u e2 hs1 hx.fv (hsN.imp id fun h => Rat.le_trans (p2_le (by decide)) h) (Rat.le_trans hsN2 (p2_le (by decide)))
  have rg2 : Ru 4 g (q / d * (N : Rat)) := (rg.trans (Rl.scale rs _)).le (by decide)
  -- the statement's
  have hqN2 : rabs (q * (N : Rat)) ≤ p2 31 := by
    rw [rabs_mul, hqa]
    have h1 := mul_le hq2 (rabs_nonneg (N : Rat))
    have h2 := mul_le_left hN (Rat.le_of_lt (p2_pos 21))
    rw [p2_mul (c := 31) (by decide)] at h2
    grind
  have hqN : q * (N : Rat) = 0 ∨ p2 (-41) ≤ rabs (q * (N : Rat)) := by
    rcases hq with h | h
    · left; rw [h]; grind
    · rcases hN1 with h2 | h2
      · left; rw [h2]; simp
      · right
        rw [rabs_mul, hqa]
        have h4 := mul_le h (rabs_nonneg (N : Rat))
        have h5 := mul_le_left h2 (Rat.le_of_lt (p2_pos (-41)))
        grind
  obtain ⟨t1, ht1, rt⟩ := far_mul_u e3 hm hx.fv (hqN.imp id fun h => Rat.le_trans (p2_le (by decide)) h) (Rat.le_trans hqN2 (p2_le (by decide)))
  have ta := Ru.abs rt
  have t1z : q * (N : Rat) = 0 → t1 = 0 := fun h => by rw [h] at rt; exact rt.zero
  have eqt := rabs_div (a := t1) dp'
  have htd2 : rabs (t1 / d') ≤ p2 35 := by
    refine of_mul_le (c := d') ?_ dp'
    rw [eqt]
    have h1 := mul_le_left d0' (Rat.le_of_lt (p2_pos 35))
    rw [p2_mul (c := 32) (by decide)] at h1
    have : p2 32 = p2 31 + p2 31 := p2_half (by decide)
    grind
  have htd : t1 = 0 ∨ p2 (-82) ≤ rabs (t1 / d') := by
    rcases hqN with h | h
    · exact .inl (t1z h)
    · right
      refine of_mul_le (c := d') ?_ dp'
      rw [eqt]
      have h1 := mul_le_left d1' (Rat.le_of_lt (p2_pos (-82)))
      rw [p2_mul (c := -42) (by decide)] at h1
      have h3 := mul_le_left h (Rat.le_of_lt (p2_pos (-1)))
      rw [p2_mul (c := -42) (by decide)] at h3
      grind
  obtain ⟨u, hu, ru⟩ := far_quo_u e4 ht1 hD' (by grind) (htd.imp id fun h => Rat.le_trans (p2_le (by decide)) h) (Rat.le_trans htd2 (p2_le (by decide)))
  have ru2 : Ru 4 u (q * (N : Rat) / d') := by
    have : Ru 1 (t1 / d') (q * (N : Rat) / d') := by rw [Rat.div_def, Rat.div_def (q * (N : Rat))]; exact Rl.scale rt _
    exact (ru.trans this).le (by decide)
  have e5 : q / d * (N : Rat) = q * (N : Rat) / d := by rw [Rat.div_def, Rat.div_def]; grind
  rw [e5] at rg2
  have r6 := hdd.inv (D := q * (N : Rat)) dp'
  have r7 := (rg2.trans r6).trans ru2.symm
  have ua := Ru.abs ru
  have ga := Ru.abs r7
  have hu2 : rabs u ≤ p2 36 := by have : p2 36 = p2 35 + p2 35 := p2_half (by decide); grind
  refine ⟨g, u, hg, hu, r7.le (by decide), ?_, Rat.le_trans hu2 (p2_le (by decide)), ?_⟩
  · rcases htd with h | h
    · left
      have : t1 / d' = 0 := by rw [h, Rat.div_def]; simp
      rw [this] at ru; exact ru.zero
    · right
      have h3 := mul_le_left h (Rat.le_of_lt (p2_pos (-1)))
      rw [p2_mul (c := -83) (by decide)] at h3
      have := p2_le (show (-90 : Int) ≤ -83 by decide)
      grind
  · have : p2 37 = p2 36 + p2 36 := p2_half (by decide)
    have := p2_le (show (37 : Int) ≤ 100 by decide)
    grind
/-- Nearer than a share of 2^-30. -/
theorem grav_near {v w r y : Nat} {g u : Rat} (hv : Fv v g) (hw : Fv w u) (h : Ru 120 g u) (hu : u = 0 ∨ p2 (-90) ≤ rabs u) (hu2 : rabs u ≤ p2 100) (hg2 : rabs g ≤ p2 100) (e1 : FAr .sub v w r) (e2 : FAr .mul (w % 9223372036854775808) 4472074429978902528 y) :
    fcmp .leq (r % 9223372036854775808) y = true := by
  have f30 : Fv 4472074429978902528 (p2 (-30)) := ⟨false, 4503599627370496, -82, rfl, by
    have e : ((4503599627370496 : Nat) : Rat) = p2 52 := (p2_toNat (e := 52) (by decide)).symm
    have := p2_mul (a := 52) (b := -82) (c := -30) (by decide)
    rw [e]; unfold sgn; grind⟩
  have hsub : rabs (g - u) ≤ p2 101 := by
    have h1 := rabs_add g (-u)
    rw [rabs_neg, show g + -u = g - u by grind] at h1
    have : p2 101 = p2 100 + p2 100 := p2_half (by decide)
    grind
  have l1 := lt1023 (Rat.le_trans hsub (p2_le (by decide)))
  obtain ⟨c, hc, hrd⟩ := far_sub e1 hv hw l1.1 l1.2
  have hp : rabs (rabs u * p2 (-30)) = rabs u * p2 (-30) := rabs_of_nonneg (Rat.mul_nonneg (rabs_nonneg u) (Rat.le_of_lt (p2_pos _)))
  obtain ⟨z, hz, rz⟩ := far_mul_u e2 hw.abs f30 (by
    rcases hu with h | h
    · left; rw [h, rabs_zero]; grind
    · right
      rw [hp]
      have := mul_le h (Rat.le_of_lt (p2_pos (-30)))
      rw [p2_mul (c := -120) (by decide)] at this
      exact Rat.le_trans (p2_le (by decide)) this) (by
    rw [hp]
    have := mul_le hu2 (Rat.le_of_lt (p2_pos (-30)))
    rw [p2_mul (c := 70) (by decide)] at this
    exact Rat.le_trans this (p2_le (by decide)))
  rw [fcmp_leq hc.abs hz]
  refine decide_eq_true ?_
  rcases hu with h0 | h0
  · subst h0
    have hg := h.zero
    subst hg
    rw [show (0 : Rat) - 0 = 0 by grind] at hrd
    have := hrd.exact rep_zero
    subst this
    rw [rabs_zero] at rz ⊢
    rw [show (0 : Rat) * p2 (-30) = 0 by grind] at rz
    rw [rz.zero]; exact Rat.le_refl
  · have h3 := hrd.abs_le
    have hup : 0 < rabs u := by have := p2_pos (-90); grind
    have h4 := ((rz.sign).1 (Rat.mul_pos hup (p2_pos (-30)))).2.1
    -- z is half of it at least
    have e3 : p2 (-1) * (rabs u * p2 (-30)) = rabs u * p2 (-31) := by
      have : p2 (-1) * p2 (-30) = p2 (-31) := p2_mul (by decide)
      rw [← this]; grind
    unfold Ru Rl at h
    have e120 : ((120 : Nat) : Rat) * p2 (-53) ≤ p2 (-46) := by
      have : ((120 : Nat) : Rat) ≤ p2 7 := by rw [p2_toNat (e := 7) (by decide)]; exact_mod_cast (by decide : 120 ≤ 2 ^ 7)
      have := mul_le this (Rat.le_of_lt (p2_pos (-53)))
      rw [p2_mul (c := -46) (by decide)] at this
      exact this
    have h5 := mul_le e120 (rabs_nonneg u)
    have h6 : p2 (-1000) ≤ p2 (-46) * rabs u := by
      have h7 := mul_le_left h0 (Rat.le_of_lt (p2_pos (-46)))
      rw [p2_mul (c := -136) (by decide)] at h7
      exact Rat.le_trans (p2_le (by decide)) h7
    have h8 := mul_le (p2_le (show (-46 : Int) ≤ -35 by decide)) (rabs_nonneg u)
    have h9 : p2 (-31) = p2 (-32) + p2 (-32) := p2_half (by decide)
    have h10 : p2 (-32) = p2 (-33) + p2 (-33) := p2_half (by decide)
    have h11 : p2 (-33) = p2 (-34) + p2 (-34) := p2_half (by decide)
    have h12 : p2 (-34) = p2 (-35) + p2 (-35) := p2_half (by decide)
    generalize p2 (-1000) = zz at *
    rw [e3, h9, h10, h11, h12] at h4
    have A0 : 0 ≤ p2 (-35) * rabs u := Rat.mul_nonneg (Rat.le_of_lt (p2_pos _)) (rabs_nonneg u)
    have h13 : 16 * (p2 (-35) * rabs u) ≤ z := by
      clear hrd hc hz rz hp l1 hsub e3 h9 h10 h11 h12 h0 e120 f30 hu2 hg2 h3 h5 h6 h8 h
      grind
    have h14 := Rat.le_trans h h5
    clear hrd hc hz rz hp l1 hsub e3 h9 h10 h11 h12 h0 e120 f30 hu2 hg2 h4 h h5
    generalize p2 (-46) * rabs u = B at *
    generalize p2 (-35) * rabs u = A at *
    grind
end Go.Lg

set_option linter.unusedVariables false
set_option linter.unusedSimpArgs false
namespace Go.Lg
open Ieee

theorem fb_add {x y : Nat} {a b : Rat} (ha : Fv x a) (hb : Fv y b) : ∃ r, floatBits .add .f64 x y = some r := by
  obtain ⟨s, m, i, hx, rfl⟩ := ha
  obtain ⟨t, n, j, hy, rfl⟩ := hb
  obtain ⟨u, k, hs, hv⟩ := sum_val (s := s) (t := t) (m := m) (n := n) (i := i) (j := j)
  refine ⟨_, show ((double.read x).sum (double.read y)).map double.write = some (double.write (.number u k (min i j))) from ?_⟩
  rw [hx, hy, hs]; rfl
theorem fb_mul {x y : Nat} {a b : Rat} (ha : Fv x a) (hb : Fv y b) : ∃ r, floatBits .mul .f64 x y = some r := by
  obtain ⟨s, m, i, hx, rfl⟩ := ha
  obtain ⟨t, n, j, hy, rfl⟩ := hb
  refine ⟨_, show ((double.read x).product (double.read y)).map double.write = some (double.write (.number (s ^^ t) (m * n) (i + j))) from ?_⟩
  rw [hx, hy]; rfl
theorem fb_quo {x y : Nat} {a b : Rat} (ha : Fv x a) (hb : Fv y b) (hb0 : b ≠ 0) : ∃ r, floatBits .quo .f64 x y = some r := by
  obtain ⟨s, m, i, hx, rfl⟩ := ha
  obtain ⟨t, n, j, hy, rfl⟩ := hb
  have hn0 : n ≠ 0 := by rintro rfl; exact hb0 (by simp)
  have : ∃ r, ((double.read x).quotient (double.fractionBits + 2) (double.read y)).map double.write = some r := by
    rw [hx, hy]
    simp [Datum.quotient, hn0]
  obtain ⟨r, h⟩ := this
  exact ⟨r, h⟩
theorem sqrt_some {x : Nat} {q : Rat} (hx : Fv x q) (hq : 0 < q) : ∃ r, double.sqrt x = some r := by
  obtain ⟨s, m, i, hx, rfl⟩ := hx
  have hm0 : m ≠ 0 := by rintro rfl; simp at hq
  have hmp : (0 : Rat) < (m : Rat) := by exact_mod_cast Nat.pos_of_ne_zero hm0
  have hs : s = false := by
    cases s with
    | false => rfl
    | true => exfalso; have := Rat.mul_pos hmp (p2_pos i); unfold sgn at hq; grind
  subst hs
  have : ∃ r, ((double.read x).root (double.fractionBits + 2)).map double.write = some r := by
    rw [hx]
    simp [Datum.root, hm0]
  obtain ⟨r, h⟩ := this
  exact ⟨r, h⟩
theorem run_arith {P : Program} {w : World} {op : BinOp} {x y r : Nat} (hop : BinOp.isArith op = true) (h : floatBits op .f64 x y = some r) : (Extern.MathAsm.arith op x y).run P w = .ok r w := by
  have h1 : (Op.floatArith op .f64 x y).run P w = .ok (.float .f64 r) w := by
    unfold floatBits at h
    cases op <;> simp only at h <;> first | (cases hop; done) | skip
    all_goals
      unfold Op.floatArith
      refine (sem_run_bind P _ _ w _ w rfl).trans ?_
      rw [h]; rfl
  unfold Extern.MathAsm.arith
  exact (sem_run_bind P _ _ w _ w h1).trans rfl

theorem run_sqrt {P : Program} {w : World} {t q : Nat} (h : double.sqrt t = some q) : (Extern.MathSqrt.sqrt #[.float .f64 t]).run P w = .ok (.float .f64 q) w := by
  have h' : FloatKind.f64.format.sqrt t = some q := h
  show Sem.run P (match FloatKind.f64.format.sqrt t with
    | some r => _
    | none => _) w = _
  rw [h']; rfl
theorem fv_word {x : Nat} {q : Rat} (h : Fv x q) (hx : x < 9223372036854775808) : x < 9218868437227405312 := by
  obtain ⟨s, m, e, hr, _⟩ := h
  rw [read_eq] at hr
  rw [Nat.mod_eq_of_lt hx] at hr
  by_cases c1 : x < 4503599627370496
  · omega
  · rw [if_neg c1] at hr
    by_cases c2 : x < 9218868437227405312
    · exact c2
    · rw [if_neg c2] at hr
      by_cases c3 : x = 9218868437227405312
      · rw [if_pos c3] at hr; cases hr
      · rw [if_neg c3] at hr; cases hr
theorem fv_zero_word {x : Nat} (h : Fv x 0) (hx : x < 9223372036854775808) : x = 0 := by
  obtain ⟨s, m, e, hr, hq⟩ := h
  have hm : m = 0 := by
    rcases Nat.eq_zero_or_pos m with h | h
    · exact h
    · exfalso
      have h1 : (0 : Rat) < (m : Rat) := by exact_mod_cast h
      have h2 := Rat.mul_pos h1 (p2_pos e)
      cases s <;> (unfold sgn at hq; grind)
  rw [read_eq] at hr
  rw [Nat.mod_eq_of_lt hx] at hr
  by_cases c1 : x < 4503599627370496
  · rw [if_pos c1] at hr; cases hr; exact hm
  · rw [if_neg c1] at hr
    by_cases c2 : x < 9218868437227405312
    · rw [if_pos c2] at hr; cases hr; omega
    · rw [if_neg c2] at hr
      by_cases c3 : x = 9218868437227405312
      · rw [if_pos c3] at hr; cases hr
      · rw [if_neg c3] at hr; cases hr

/-- The machine's way: the greater one times the root of one and the square of the quotient. -/
theorem hyp_num {s b : Nat} {small big : Rat} (hs : Fv s small) (hb : Fv b big) (h0 : 0 ≤ small) (h1 : small ≤ big) (h2 : small = 0 ∨ p2 (-100) ≤ small) (h3 : p2 (-100) ≤ big) (h4 : big ≤ p2 100)
    (one : Fv 4607182418800017408 1) :
    ∃ r r2 t w v c, floatBits .quo .f64 s b = some r ∧ floatBits .mul .f64 r r = some r2 ∧ floatBits .add .f64 r2 4607182418800017408 = some t ∧ double.sqrt t = some w ∧ floatBits .mul .f64 w b = some v ∧
      Fv v c ∧ 0 < c ∧ Ru 18 (c * c) (small * small + big * big) := by
  have hb0 : 0 < big := by have := p2_pos (-100); grind
  obtain ⟨r, f1⟩ := fb_quo hs hb (by grind)
  have e1 : FAr .quo s b r := ⟨by rw [f1]⟩
  have hd := rat_div_mul small big (by grind)
  have hq0 : 0 ≤ small / big := of_mul_le (c := big) (by rw [hd]; grind) hb0
  have hq1 : small / big ≤ 1 := of_mul_le (c := big) (by rw [hd]; grind) hb0
  have hql : small = 0 ∨ p2 (-200) ≤ small / big := by
    rcases h2 with h | h
    · exact .inl h
    · right
      refine of_mul_le (c := big) ?_ hb0
      rw [hd]
      have := mul_le_left h4 (Rat.le_of_lt (p2_pos (-200)))
      rw [p2_mul (c := -100) (by decide)] at this
      grind
  have l1000 : (1 : Rat) ≤ p2 1000 := by rw [← p2_zero]; exact p2_le (by decide)
  obtain ⟨c1, hc1, g1⟩ := far_quo_u e1 hs hb (by grind) (by
    rcases hql with h | h
    · exact .inl h
    · right; rw [rabs_of_nonneg hq0]; exact Rat.le_trans (p2_le (by decide)) h) (by rw [rabs_of_nonneg hq0]; exact Rat.le_trans hq1 l1000)
  have hqz : small = 0 → small / big = 0 := by rintro rfl; rw [Rat.div_def]; simp
  have hsum : small * small + big * big = (small / big * (small / big) + 1) * (big * big) := by
    have : small * small = small / big * (small / big) * (big * big) := by
      have : small / big * (small / big) * (big * big) = small / big * big * (small / big * big) := by grind
      rw [this, hd]
    rw [this]; grind
  rw [hsum]
  generalize small / big = q at *
  -- the quotient's float
  have c1b : 0 ≤ c1 ∧ c1 ≤ 2 ∧ (c1 = 0 ∨ p2 (-201) ≤ c1) := by
    rcases hql with h | h
    · have hq := hqz h
      subst hq
      have := g1.zero
      subst this
      exact ⟨Rat.le_refl, by decide, .inl rfl⟩
    · have hqp : 0 < q := by have := p2_pos (-200); grind
      obtain ⟨a1, a2, a3⟩ := g1.sign.1 hqp
      have e : p2 (-1) * p2 (-200) = p2 (-201) := p2_mul (by decide)
      have := mul_le_left h (Rat.le_of_lt (p2_pos (-1)))
      exact ⟨Rat.le_of_lt a1, by grind, .inr (by grind)⟩
  obtain ⟨b1, b2, b3⟩ := c1b
  obtain ⟨r2, f2⟩ := fb_mul hc1 hc1
  have e2 : FAr .mul r r r2 := ⟨by rw [f2]⟩
  have hcc0 := Rat.mul_nonneg b1 b1
  have hcc2 : c1 * c1 ≤ 4 := by have := mul_le b2 b1; grind
  have l4 : (4 : Rat) ≤ p2 1000 := by
    have : (4 : Rat) = p2 2 := by rw [p2_toNat (e := 2) (by decide)]; rfl
    rw [this]; exact p2_le (by decide)
  obtain ⟨c2, hc2, g2⟩ := far_mul_u e2 hc1 hc1 (by
    rcases b3 with h | h
    · left; rw [h]; simp
    · right
      rw [rabs_of_nonneg hcc0]
      have := mul_le h b1
      have := mul_le_left h (Rat.le_of_lt (p2_pos (-201)))
      rw [p2_mul (c := -402) (by decide)] at this
      have := p2_le (show (-1000 : Int) ≤ -402 by decide)
      grind) (by rw [rabs_of_nonneg hcc0]; exact Rat.le_trans hcc2 l4)
  have g3 : Ru 7 c2 (q * q) := (g2.trans (g1.mul g1)).le (by decide)
  have hqq0 := Rat.mul_nonneg hq0 hq0
  have hqq1 : q * q ≤ 1 := by have := mul_le hq1 hq0; grind
  have c2b : 0 ≤ c2 ∧ c2 ≤ 2 := by
    rcases Rat.le_iff_lt_or_eq.1 hqq0 with h | h
    · obtain ⟨a1, a2, a3⟩ := g3.sign.1 h
      exact ⟨Rat.le_of_lt a1, by grind⟩
    · rw [← h] at g3
      have := g3.zero
      subst this
      exact ⟨Rat.le_refl, by decide⟩
  -- one more
  obtain ⟨t, f3⟩ := fb_add hc2 one
  have e3 : FAr .add r2 4607182418800017408 t := ⟨by rw [f3]⟩
  have g4 : Ru 7 (c2 + 1) (q * q + 1) := by
    unfold Ru Rl at g3 ⊢
    rw [rabs_of_nonneg hqq0] at g3
    rw [rabs_of_nonneg (show 0 ≤ q * q + 1 by grind), show c2 + 1 - (q * q + 1) = c2 - q * q by grind]
    have := mul_le_left (show q * q ≤ q * q + 1 by grind) (u_pos 7)
    exact Rat.le_trans g3 this
  have l3 : (3 : Rat) ≤ p2 1000 := by grind
  have lm : p2 (-1000) ≤ 1 := by rw [← p2_zero]; exact p2_le (by decide)
  obtain ⟨c3, hc3, g5⟩ := far_add_u e3 hc2 one (.inr (by rw [rabs_of_nonneg (by grind)]; grind)) (by rw [rabs_of_nonneg (by grind)]; grind)
  have g6 : Ru 9 c3 (q * q + 1) := (g5.trans g4).le (by decide)
  obtain ⟨a1, a2, a3⟩ := g6.sign.1 (show 0 < q * q + 1 by grind)
  have lm2 : p2 (-1000) ≤ c3 := by
    have h1 := mul_le_left (show (1 : Rat) ≤ q * q + 1 by grind) (Rat.le_of_lt (p2_pos (-1)))
    have h2 := p2_le (show (-1000 : Int) ≤ -1 by decide)
    grind
  obtain ⟨w, f4⟩ := sqrt_some hc3 a1
  have e4 : SqrtR t w := fun w' h => by rw [f4] at h; injection h
  obtain ⟨c4, hc4, p4, g7⟩ := sqrt_u e4 hc3 a1 lm2 (by grind)
  have g8 : Ru 14 (c4 * c4) (q * q + 1) := (g7.trans g6).le (by decide)
  obtain ⟨k1, k2, k3⟩ := g8.sign.1 (show 0 < q * q + 1 by grind)
  have c4u : c4 ≤ 4 := by
    rcases (Rat.le_total : c4 ≤ 4 ∨ 4 ≤ c4) with h | h
    · exact h
    · have := mul_le h (Rat.le_of_lt p4); grind
  have c4l : p2 (-1) ≤ c4 := by
    rcases (Rat.le_total : p2 (-1) ≤ c4 ∨ c4 ≤ p2 (-1)) with h | h
    · exact h
    · have h1 := mul_le h (Rat.le_of_lt p4)
      have h2 := mul_le_left h (Rat.le_of_lt (p2_pos (-1)))
      have h3 := mul_le_left (show (1 : Rat) ≤ q * q + 1 by grind) (Rat.le_of_lt (p2_pos (-1)))
      have h4 : p2 (-1) * p2 (-1) = p2 (-2) := p2_mul (by decide)
      have h5 : p2 (-1) = p2 (-2) + p2 (-2) := p2_half (by decide)
      have := p2_pos (-2)
      exfalso; grind
  have hpb := Rat.mul_pos p4 hb0
  obtain ⟨v, f5⟩ := fb_mul hc4 hb
  have e5 : FAr .mul w b v := ⟨by rw [f5]⟩
  obtain ⟨c5, hc5, g9⟩ := far_mul_u e5 hc4 hb (.inr (by
    rw [rabs_of_nonneg (Rat.le_of_lt hpb)]
    have h1 := mul_le c4l (Rat.le_of_lt hb0)
    have h2 := mul_le_left h3 (Rat.le_of_lt (p2_pos (-1)))
    rw [p2_mul (c := -101) (by decide)] at h2
    have h3 := p2_le (show (-1000 : Int) ≤ -101 by decide)
    grind)) (by
    rw [rabs_of_nonneg (Rat.le_of_lt hpb)]
    have h1 := mul_le c4u (Rat.le_of_lt hb0)
    have h2 : (4 : Rat) * p2 100 = p2 102 := by
      have : (4 : Rat) = p2 2 := by rw [p2_toNat (e := 2) (by decide)]; rfl
      rw [this]; exact p2_mul (by decide)
    have h3 := p2_le (show (102 : Int) ≤ 1000 by decide)
    grind)
  have p5 := (g9.sign.1 hpb).1
  refine ⟨r, r2, t, w, v, c5, f1, f2, f3, f4, f5, hc5, p5, ?_⟩
  have g10 := g9.mul g9
  have e : c4 * big * (c4 * big) = c4 * c4 * (big * big) := by grind
  rw [e] at g10
  have g11 : Ru 14 (c4 * c4 * (big * big)) ((q * q + 1) * (big * big)) := Rl.scale g8 _
  exact (g10.trans g11).le (by decide)

theorem does_hypot {P : Program} {f : FuncId} {fn : Func} {H : Heap} {x y : Nat} {a b : Rat}
    (hf : P.funcs[f]? = some fn) (hn : (fn.name == "runtime.NumGoroutine") = false) (hbd : fn.body.isNone = true) (h1 : (Extern.findNext fn).isNone = true)
    (h2 : Extern.find fn = some Extern.MathHypot.archHypot) (hx : Fv x a) (hy : Fv y b) (ha : a = 0 ∨ p2 (-100) ≤ rabs a) (hb : b = 0 ∨ p2 (-100) ≤ rabs b) (ha2 : rabs a ≤ p2 100) (hb2 : rabs b ≤ p2 100) (one : Fv 4607182418800017408 1) :
    Does P f [.float .f64 x, .float .f64 y] H fun v H' => (∃ r c, v = .float .f64 r ∧ Fv r c ∧ 0 ≤ c ∧ Ru 18 (c * c) (a * a + b * b)) ∧ H' = H := by
  refine does_extern hf hn hbd h1 h2 fun W w hs => ?_
  have hxa := hx.abs
  have hyb := hy.abs
  have hxl : x % 2 ^ 63 < 9223372036854775808 := Nat.mod_lt _ (by decide)
  have hyl : y % 2 ^ 63 < 9223372036854775808 := Nat.mod_lt _ (by decide)
  have hxw := fv_word hxa hxl
  have hyw := fv_word hyb hyl
  have sq : ∀ q : Rat, q * q = rabs q * rabs q := fun q => by rcases rabs_cases q with h | h <;> rw [h] <;> grind
  rw [sq a, sq b]
  have na := rabs_nonneg a
  have nb := rabs_nonneg b
  have ha' : rabs a = 0 ∨ p2 (-100) ≤ rabs a := by rcases ha with h | h; (left; rw [h]; exact rabs_zero); exact .inr h
  have hb' : rabs b = 0 ∨ p2 (-100) ≤ rabs b := by rcases hb with h | h; (left; rw [h]; exact rabs_zero); exact .inr h
  have hinf : Extern.MathAsm.posInf = 9218868437227405312 := rfl
  have c1 : (x % 2 ^ 63 == Extern.MathAsm.posInf || y % 2 ^ 63 == Extern.MathAsm.posInf) = false := by
    rw [hinf, Bool.or_eq_false_iff, beq_eq_false_iff_ne, beq_eq_false_iff_ne]; exact ⟨by omega, by omega⟩
  have c2 : (decide (x % 2 ^ 63 > Extern.MathAsm.posInf) || decide (y % 2 ^ 63 > Extern.MathAsm.posInf)) = false := by
    rw [hinf, Bool.or_eq_false_iff, decide_eq_false_iff_not, decide_eq_false_iff_not]; exact ⟨by omega, by omega⟩
  show ∃ v w', Sem.run P (ite _ _ _) w = .ok v w' ∧ _
  rw [if_neg (by rw [c1]; decide)]
  show ∃ v w', Sem.run P (ite _ _ _) w = .ok v w' ∧ _
  rw [if_neg (by rw [c2]; decide)]
  show ∃ v w', Sem.run P (ite _ _ _) w = .ok v w' ∧ _
  by_cases hz : (x % 2 ^ 63 == 0 && y % 2 ^ 63 == 0) = true
  · rw [if_pos hz]
    simp only [Bool.and_eq_true, beq_iff_eq] at hz
    rw [show x % 9223372036854775808 = 0 from hz.1] at hxa
    rw [show y % 9223372036854775808 = 0 from hz.2] at hyb
    have z0 : Fv 0 (0 : Rat) := ⟨false, 0, -1074, rfl, by simp⟩
    have ea := hxa.uniq z0
    have eb := hyb.uniq z0
    refine ⟨_, w, rfl, hs, ⟨0, 0, rfl, z0, Rat.le_refl, ?_⟩, rfl⟩
    rw [ea, eb]
    have : (0 : Rat) * 0 = 0 * 0 + 0 * 0 := by grind
    rw [← this]
    exact (Ru.refl _).le (by decide)
  · rw [if_neg hz]
    have hord := order_val hxa hyb
    have hne : ¬ (rabs a = 0 ∧ rabs b = 0) := by
      rintro ⟨h1, h2⟩
      rw [h1] at hxa
      rw [h2] at hyb
      apply hz
      rw [Bool.and_eq_true, beq_iff_eq, beq_iff_eq]
      exact ⟨fv_zero_word hxa hxl, fv_zero_word hyb hyl⟩
    have hp := p2_pos (-100)
    by_cases hlt : rabs a < rabs b
    · have hl : Extern.MathAsm.lt (x % 2 ^ 63) (y % 2 ^ 63) = true := by
        show (double.order (x % 9223372036854775808) (y % 9223372036854775808) == some .lt) = true
        rw [hord, if_pos hlt]; rfl
      rw [hl]
      obtain ⟨r, r2, t, q, v, c, f1, f2, f3, f4, f5, g1, g2, g3⟩ := hyp_num hxa hyb na (Rat.le_of_lt hlt) ha' (by rcases hb' with h | h; (exfalso; grind); exact h) hb2 one
      refine ⟨.float .f64 v, w, ?_, hs, ⟨v, c, rfl, g1, Rat.le_of_lt g2, g3⟩, rfl⟩
      have hsq : (Extern.MathSqrt.sqrt #[.float .f64 t]).run P w = .ok (.float .f64 q) w := run_sqrt f4
      refine (sem_run_bind P _ _ w _ w (run_arith rfl f1)).trans ?_
      refine (sem_run_bind P _ _ w _ w (run_arith rfl f2)).trans ?_
      refine (sem_run_bind P _ _ w _ w (run_arith rfl f3)).trans ?_
      refine (sem_run_bind P _ _ w _ w hsq).trans ?_
      exact (sem_run_bind P _ _ w _ w (run_arith rfl f5)).trans rfl
    · have hl : Extern.MathAsm.lt (x % 2 ^ 63) (y % 2 ^ 63) = false := by
        show (double.order (x % 9223372036854775808) (y % 9223372036854775808) == some .lt) = false
        rw [hord, if_neg hlt]; split <;> rfl
      rw [hl]
      have hge : rabs b ≤ rabs a := by grind
      obtain ⟨r, r2, t, q, v, c, f1, f2, f3, f4, f5, g1, g2, g3⟩ := hyp_num hyb hxa nb hge hb' (by rcases ha' with h | h; (exfalso; apply hne; grind); exact h) ha2 one
      refine ⟨.float .f64 v, w, ?_, hs, ⟨v, c, rfl, g1, Rat.le_of_lt g2, by rw [Rat.add_comm]; exact g3⟩, rfl⟩
      have hsq : (Extern.MathSqrt.sqrt #[.float .f64 t]).run P w = .ok (.float .f64 q) w := run_sqrt f4
      refine (sem_run_bind P _ _ w _ w (run_arith rfl f1)).trans ?_
      refine (sem_run_bind P _ _ w _ w (run_arith rfl f2)).trans ?_
      refine (sem_run_bind P _ _ w _ w (run_arith rfl f3)).trans ?_
      refine (sem_run_bind P _ _ w _ w hsq).trans ?_
      exact (sem_run_bind P _ _ w _ w (run_arith rfl f5)).trans rfl
end Go.Lg
