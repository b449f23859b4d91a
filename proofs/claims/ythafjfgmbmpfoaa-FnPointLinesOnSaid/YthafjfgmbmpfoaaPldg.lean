/-
  Distances in the plane, of whole numbers: of two places, of a place from a segment. No conditions.
-/
import Derived.Test.YthafjfgmbmpfoaaPl
import Derived.Test.YthafjfgmbmpfoaaPseg
import Derived.Test.YthafjfgmbmpfoaaLg24
import Derived.Test.YthafjfgmbmpfoaaLg13
set_option linter.unusedVariables false
set_option linter.unusedSimpArgs false
namespace Go.Proofs.Ythafjfgmbmpfoaa.Pld
open Go.Lg Go.Proofs.Ythafjfgmbmpfoaa.Pl

theorem fv_zero : Fv 0 (0 : Rat) := ⟨false, 0, -1074, rfl, by simp⟩
theorem msqrt (x : Nat) (H : Heap) : Does Try.prog 47 [.float .f64 x] H fun v H' => (∃ r, v = .float .f64 r ∧ SqrtR x r) ∧ H' = H :=
  does_sqrt Try.func47 rfl rfl (by kernel_rfl) (by kernel_rfl)
theorem sqrt (x : Nat) (H : Heap) : Does Try.prog 45 [.float .f64 x] H fun v H' => (∃ r, v = .float .f64 r ∧ SqrtR x r) ∧ H' = H := by
  refine fn_enter 5 Try.func45 fun W => ?_
  repeat' first
    | (first | refine tc_seq ?_ | refine tc_region ?_ | refine at_seq_normal ?_ | refine tl_nil ?_ | refine tl_cons ?_ | refine op_move ?_ | refine op_assign ?_ | refine tc_ret ?_ | refine at_seq_ret ?_ | fail)
    | (refine op_call ((msqrt _ _).mono ?_); rintro _ _ ⟨⟨r, rfl, hr⟩, rfl⟩)
  exact ret_tmp (hk := ⟨⟨r, rfl, hr⟩, rfl⟩)

set_option maxHeartbeats 8000000 in
theorem dist2 (k1 o1 c1 k2 o2 c2 : Nat) (l1 l2 : List Value) (T1 T2 : TypeId) (z1 z2 : Nat × Nat) (ax ay bx by' B C1 C2 C3 : Nat) (nax nay nbx nby : Int) (H : Heap) (hB : B + B = C1 ∧ C1 ≤ 9007199254740992) (hC : C1 * C1 = C2 ∧ C2 ≤ 9007199254740992) (hD : C2 + C2 = C3 ∧ C3 ≤ 9007199254740992)
    (fax : FI B ax nax) (fay : FI B ay nay) (fbx : FI B bx nbx) (fby : FI B by' nby) (m1 : (k1, Obj.cells ⟨l1⟩ T1 z1) ∈ H) (m2 : (k2, Obj.cells ⟨l2⟩ T2 z2) ∈ H) (u1a : l1[o1 + 0]? = some (.float .f64 ax)) (u1b : l1[o1 + 1]? = some (.float .f64 ay)) (u2a : l2[o2 + 0]? = some (.float .f64 bx)) (u2b : l2[o2 + 1]? = some (.float .f64 by')) :
    Does Try.prog 36 [.slice (some ⟨k1, o1, none⟩) 2 c1, .slice (some ⟨k2, o2, none⟩) 2 c2] H fun w H' => (∃ r c, w = .float .f64 r ∧ Fv r c ∧ 0 ≤ c ∧ Rl (p2 (-51)) (c * c) ((nrm (nax - nbx) (nay - nby) : Int) : Rat)) ∧ H' = H := by
  refine fn_enter 29 Try.func36 fun W => ?_
  repeat' first
    | refine tc_seq ?_ | refine tc_region ?_ | refine at_seq_normal ?_ | refine tl_nil ?_ | refine tl_cons ?_ | refine op_move ?_ | refine op_assign ?_ | refine op_load ?_ | refine op_load_agg ?_ | refine op_indexC ?_
    | refine op_indexAddr1 ?_ | refine op_indexAddr ?_ | (refine op_farith ?_; intro _ _) | refine op_loadK rfl ?_ | refine op_load_aggK rfl ?_ | refine tc_ret ?_ | refine at_seq_ret ?_
  apply fun hole0 hole1 hole2 hole3 hole4 hole5 hE hD hml hdl hpr prem fin => tc_drawnD 7 [PhiD.is hole0, PhiD.is hole1, PhiD.is hole2, PhiD.is hole3, PhiD.is hole4, PhiD.is hole5, PhiD.gen (some' (fun w ex => (∃ r, FI C1 r (nax - nbx) ∧ w = .float .f64 r) ∧ ex = []))]
    [some 7, some 8, some 9, some 10, some 11, some 12, some 13, some 5] [[], [0], [1], [], [3], [4], [2, 5]] mixed ⟨(some_mono _), trivial⟩ prem fin hE hD rfl hml hdl hpr
  rotate_left 7
  · first | kernel_rfl | exact rfl
  · first | kernel_rfl | exact rfl
  · exact Nat.le_of_ble_eq_true rfl
  · first | kernel_rfl | exact rfl
  · first | kernel_rfl | exact rfl
  refine ⟨fun G hG => ?_, fun G hG => ?_, fun G hG => ?_, fun G hG => ?_, fun G hG => ?_, fun G hG => ?_, fun G hG => ?_, trivial⟩
  · simp only [withD, nthD, Step2, nthDst, putO, postD]
    (refine op_move ?_; exact ⟨[], rfl, rfl, rfl⟩)
  · simp only [withD, nthD, Step2, nthDst, putO, postD]
    ((first | refine op_indexC ?_ | refine op_indexAddr1 ?_ | refine op_indexAddr ?_); exact ⟨[], rfl, rfl, rfl⟩)
  · simp only [withD, nthD, Step2, nthDst, putO, postD]
    ((first | refine op_load ?_ | refine op_load_agg ?_ | refine op_load ?_ (hm := Sub.mem (by assumption) (by (repeat (apply List.mem_cons_of_mem)); assumption)) | refine op_load_agg ?_ (hm := Sub.mem (by assumption) (by (repeat (apply List.mem_cons_of_mem)); assumption)) | refine op_loadH hG rfl ?_ | refine op_load_aggH hG rfl ?_); exact ⟨[], rfl, rfl, rfl⟩)
  · simp only [withD, nthD, Step2, nthDst, putO, postD]
    (refine op_move ?_; exact ⟨[], rfl, rfl, rfl⟩)
  · simp only [withD, nthD, Step2, nthDst, putO, postD]
    ((first | refine op_indexC ?_ | refine op_indexAddr1 ?_ | refine op_indexAddr ?_); exact ⟨[], rfl, rfl, rfl⟩)
  · simp only [withD, nthD, Step2, nthDst, putO, postD]
    ((first | refine op_load ?_ | refine op_load_agg ?_ | refine op_load ?_ (hm := Sub.mem (by assumption) (by (repeat (apply List.mem_cons_of_mem)); assumption)) | refine op_load_agg ?_ (hm := Sub.mem (by assumption) (by (repeat (apply List.mem_cons_of_mem)); assumption)) | refine op_loadH hG rfl ?_ | refine op_load_aggH hG rfl ?_); exact ⟨[], rfl, rfl, rfl⟩)
  · simp only [withD, nthD, Step2, nthDst, putO, postD]
    (refine op_farith ?_; intro _ h; exact ⟨[], rfl, ⟨_, FI.sub fax fbx hB h, rfl⟩, rfl⟩)
  simp only [FinalsD, nthDst, putO, List.drop_succ_cons, List.drop_zero]
  rintro _ _ ⟨⟨⟨r1, h1, rfl⟩, rfl⟩, -⟩
  try simp only [List.nil_append]
  repeat' first
    | refine tc_seq ?_ | refine tc_region ?_ | refine at_seq_normal ?_ | refine tl_nil ?_ | refine tl_cons ?_ | refine op_move ?_ | refine op_assign ?_ | refine op_load ?_ | refine op_load_agg ?_ | refine op_indexC ?_
    | refine op_indexAddr1 ?_ | refine op_indexAddr ?_ | (refine op_farith ?_; intro _ _) | refine op_loadK rfl ?_ | refine op_load_aggK rfl ?_ | refine tc_ret ?_ | refine at_seq_ret ?_
  apply fun hole0 hole1 hole2 hole3 hole4 hole5 hE hD hml hdl hpr prem fin => tc_drawnD 7 [PhiD.is hole0, PhiD.is hole1, PhiD.is hole2, PhiD.is hole3, PhiD.is hole4, PhiD.is hole5, PhiD.gen (some' (fun w ex => (∃ r, FI C1 r (nay - nby) ∧ w = .float .f64 r) ∧ ex = []))]
    [some 14, some 15, some 16, some 17, some 18, some 19, some 20, some 6] [[], [0], [1], [], [3], [4], [2, 5]] mixed ⟨(some_mono _), trivial⟩ prem fin hE hD rfl hml hdl hpr
  rotate_left 7
  · first | kernel_rfl | exact rfl
  · first | kernel_rfl | exact rfl
  · exact Nat.le_of_ble_eq_true rfl
  · first | kernel_rfl | exact rfl
  · first | kernel_rfl | exact rfl
  refine ⟨fun G hG => ?_, fun G hG => ?_, fun G hG => ?_, fun G hG => ?_, fun G hG => ?_, fun G hG => ?_, fun G hG => ?_, trivial⟩
  · simp only [withD, nthD, Step2, nthDst, putO, postD]
    (refine op_move ?_; exact ⟨[], rfl, rfl, rfl⟩)
  · simp only [withD, nthD, Step2, nthDst, putO, postD]
    ((first | refine op_indexC ?_ | refine op_indexAddr1 ?_ | refine op_indexAddr ?_); exact ⟨[], rfl, rfl, rfl⟩)
  · simp only [withD, nthD, Step2, nthDst, putO, postD]
    ((first | refine op_load ?_ | refine op_load_agg ?_ | refine op_load ?_ (hm := Sub.mem (by assumption) (by (repeat (apply List.mem_cons_of_mem)); assumption)) | refine op_load_agg ?_ (hm := Sub.mem (by assumption) (by (repeat (apply List.mem_cons_of_mem)); assumption)) | refine op_loadH hG rfl ?_ | refine op_load_aggH hG rfl ?_); exact ⟨[], rfl, rfl, rfl⟩)
  · simp only [withD, nthD, Step2, nthDst, putO, postD]
    (refine op_move ?_; exact ⟨[], rfl, rfl, rfl⟩)
  · simp only [withD, nthD, Step2, nthDst, putO, postD]
    ((first | refine op_indexC ?_ | refine op_indexAddr1 ?_ | refine op_indexAddr ?_); exact ⟨[], rfl, rfl, rfl⟩)
  · simp only [withD, nthD, Step2, nthDst, putO, postD]
    ((first | refine op_load ?_ | refine op_load_agg ?_ | refine op_load ?_ (hm := Sub.mem (by assumption) (by (repeat (apply List.mem_cons_of_mem)); assumption)) | refine op_load_agg ?_ (hm := Sub.mem (by assumption) (by (repeat (apply List.mem_cons_of_mem)); assumption)) | refine op_loadH hG rfl ?_ | refine op_load_aggH hG rfl ?_); exact ⟨[], rfl, rfl, rfl⟩)
  · simp only [withD, nthD, Step2, nthDst, putO, postD]
    (refine op_farith ?_; intro _ h; exact ⟨[], rfl, ⟨_, FI.sub fay fby hB h, rfl⟩, rfl⟩)
  simp only [FinalsD, nthDst, putO, List.drop_succ_cons, List.drop_zero]
  rintro _ _ ⟨⟨⟨r2, h2, rfl⟩, rfl⟩, -⟩
  try simp only [List.nil_append]
  repeat' first
    | (first | refine tc_seq ?_ | refine tc_region ?_ | refine at_seq_normal ?_ | refine tl_nil ?_ | refine tl_cons ?_ | refine op_move ?_ | refine op_assign ?_ | refine op_load ?_ | refine op_load_agg ?_ | refine op_indexC ?_ | refine op_indexAddr1 ?_ | refine op_indexAddr ?_ | (refine op_farith ?_; intro _ _) | refine op_loadK rfl ?_ | refine op_load_aggK rfl ?_ | refine tc_ret ?_ | refine at_seq_ret ?_ | fail)
    | (refine op_call ((sqrt _ _).mono ?_); rintro _ _ ⟨⟨r, rfl, hr⟩, rfl⟩)
  rename_i p hp q hq s hs _
  have e3 := FI.add (FI.mul h1 h1 hC hp) (FI.mul h2 h2 hC hq) hD hs
  obtain ⟨c, q1, q2, q3⟩ := e3.sqrt hD.2 (nrm_nonneg _ _) hr
  exact ret_tmp (hk := ⟨⟨r, c, rfl, q1, q2, q3⟩, rfl⟩)

theorem Rl.mul' {a : Int} {x y p q : Rat} (h1 : Rl (p2 a) x p) (h2 : Rl (p2 a) y q) (ha : a ≤ 0) : Rl (p2 (a + 2)) (x * y) (p * q) := by
  refine (h1.mul h2 (Rat.le_of_lt (p2_pos _))).le ?_
  have e1 : p2 (a + 2) = p2 (a + 1) + p2 (a + 1) := p2_half (by omega)
  have e2 : p2 (a + 1) = p2 a + p2 a := p2_half (by omega)
  have e3 : p2 a * p2 a = p2 (a + a) := p2_mul rfl
  have e4 := p2_le (show a + a ≤ a by omega)
  have := p2_pos a
  rw [e3]; grind
theorem Rl.trans' {a : Int} {x y q : Rat} (h1 : Rl (p2 a) x y) (h2 : Rl (p2 a) y q) (ha : a ≤ 0) : Rl (p2 (a + 2)) x q := by
  refine (h1.trans h2 (Rat.le_of_lt (p2_pos _))).le ?_
  have e1 : p2 (a + 2) = p2 (a + 1) + p2 (a + 1) := p2_half (by omega)
  have e2 : p2 (a + 1) = p2 a + p2 a := p2_half (by omega)
  have e3 : p2 a * p2 a = p2 (a + a) := p2_mul rfl
  have e4 := p2_le (show a + a ≤ a by omega)
  have := p2_pos a
  rw [e3]; grind
theorem Rl.to {a b : Int} {x q : Rat} (h : Rl (p2 a) x q) (hb : a ≤ b) : Rl (p2 b) x q := h.le (p2_le hb)
theorem half : p2 (-1) + p2 (-1) = 1 := by rw [← p2_half (e := -1) (e' := 0) (by decide)]; exact p2_zero
/-- A quotient of whole numbers. -/
theorem FI.quo {B A x y r : Nat} {a b : Int} (h1 : FI A x a) (h2 : FI B y b) (hA : A ≤ 9007199254740992) (hB : B ≤ 9007199254740992) (hb : 0 < b) (h : FAr .quo x y r) : ∃ c, Fv r c ∧ Rl (p2 (-52)) c ((a : Rat) / (b : Rat)) := by
  have hb1 : (1 : Rat) ≤ (b : Rat) := by exact_mod_cast hb
  by_cases ha : a = 0
  · subst ha
    refine ⟨0, far_quo_zero h (by simpa using h1.fv) h2.fv (by grind), ?_⟩
    have : ((0 : Int) : Rat) / (b : Rat) = 0 := by rw [Rat.div_def]; simp
    rw [this]
    exact (Rl.refl 0).le (Rat.le_of_lt (p2_pos _))
  · have ha1 := int_pos ha
    have hab : rabs ((a : Rat) / (b : Rat)) * (b : Rat) = rabs (a : Rat) := by
      have : rabs ((a : Rat) / (b : Rat)) * rabs (b : Rat) = rabs (a : Rat) := by rw [← rabs_mul, rat_div_mul _ _ (by grind)]
      rwa [rabs_of_nonneg (show (0 : Rat) ≤ (b : Rat) by grind)] at this
    have hb53 : (b : Rat) ≤ p2 53 := int_le_p2 (by have := h2.hi; omega)
    have ha53 : rabs (a : Rat) ≤ p2 53 := by
      have := int_le_p2 (n := a) (by have := h1.hi; omega)
      have := int_le_p2 (n := -a) (by have := h1.lo; omega)
      rw [Rat.intCast_neg] at this
      exact rabs_le.2 ⟨by grind, by grind⟩
    refine far_quo h h1.fv h2.fv (by intro h0; rw [h0, rabs_zero] at ha1; grind) (by grind) ?_ ?_
    · refine of_mul_le (c := (b : Rat)) ?_ (by grind)
      rw [hab]
      have e1 := mul_le_left hb53 (Rat.le_of_lt (p2_pos (-1000)))
      rw [p2_mul (c := -947) (by decide)] at e1
      have : p2 (-947) ≤ 1 := by rw [← p2_zero]; exact p2_le (by decide)
      grind
    · have e1 := mul_le_left hb1 (rabs_nonneg ((a : Rat) / (b : Rat)))
      have := p2_le (show (53 : Int) ≤ 1000 by decide)
      grind
theorem rat_lt_of {e c q : Rat} (h : Rl e c q) (he : e ≤ p2 (-1)) : (0 < q → 0 < c) ∧ (q < 0 → c < 0) := by
  unfold Rl at h
  have hh := half
  constructor
  · intro hq
    rw [rabs_of_nonneg (Rat.le_of_lt hq)] at h
    have := rabs_le.1 h
    have := mul_le he (Rat.le_of_lt hq)
    have e2 : p2 (-1) * q + p2 (-1) * q = q := by rw [← Rat.add_mul, hh]; grind
    have := Rat.mul_pos (p2_pos (-1)) hq
    grind
  · intro hq
    have hq' : 0 < -q := by grind
    rw [← rabs_neg q, rabs_of_nonneg (Rat.le_of_lt hq')] at h
    have := rabs_le.1 h
    have := mul_le he (Rat.le_of_lt hq')
    have e2 : p2 (-1) * -q + p2 (-1) * -q = -q := by rw [← Rat.add_mul, hh]; grind
    have := Rat.mul_pos (p2_pos (-1)) hq'
    grind
theorem fv_one : Fv 4607182418800017408 (1 : Rat) := ⟨false, 4503599627370496, -52, rfl, by unfold sgn p2; simp; grind⟩
/-- What the share of the way says. -/
theorem share {A B x y r : Nat} {a b : Int} (h1 : FI A x a) (h2 : FI B y b) (hA : A ≤ 1073741824) (hB : B ≤ 1073741824) (hb : 0 < b) (h : FAr .quo x y r) :
    (fcmp .leq r 0 = decide (a ≤ 0)) ∧ (fcmp .geq r 4607182418800017408 = true → b ≤ a) ∧ (fcmp .geq r 4607182418800017408 = false → a ≤ b) := by
  obtain ⟨c, hc, hrel⟩ := FI.quo h1 h2 (by omega) (by omega) hb h
  have hb1 : (1 : Rat) ≤ (b : Rat) := by exact_mod_cast hb
  have hq := rat_div_mul (a : Rat) (b : Rat) (by grind)
  generalize (a : Rat) / (b : Rat) = q at *
  have hs := rat_lt_of hrel (p2_le (by decide))
  have hbR : (0 : Rat) < (b : Rat) := by grind
  refine ⟨?_, ?_, ?_⟩
  · rw [fcmp_leq hc fv_zero]
    by_cases ha : a ≤ 0
    · rw [decide_eq_true ha, decide_eq_true]
      have ha' : (a : Rat) ≤ 0 := by exact_mod_cast ha
      have hq0 : q ≤ 0 := of_mul_le (c := (b : Rat)) (by grind) hbR
      rcases Rat.le_iff_lt_or_eq.1 hq0 with h | h
      · exact Rat.le_of_lt (hs.2 h)
      · subst h
        unfold Rl at hrel
        rw [rabs_zero] at hrel
        have := (rabs_le.1 (show rabs (c - 0) ≤ 0 by grind)).2
        grind
    · rw [decide_eq_false ha, decide_eq_false]
      have ha' : (1 : Rat) ≤ (a : Rat) := by exact_mod_cast (show 1 ≤ a by omega)
      have hq0 : 0 < q := of_mul_lt (c := (b : Rat)) (by grind) hbR
      have := hs.1 hq0
      grind
  · intro hg
    rw [fcmp_geq hc fv_one] at hg
    have hg := of_decide_eq_true hg
    rcases Int.lt_or_le a b with hlt | hle
    · exfalso
      -- q ≤ 1 - 1 / b
      have hbb : (b : Rat) ≤ p2 30 := by
        have e : p2 30 = ((1073741824 : Nat) : Rat) := p2_toNat (by decide)
        rw [e, ← Rat.intCast_natCast]
        exact Rat.intCast_le_intCast.2 (by have := h2.hi; omega)
      have hab : (a : Rat) + 1 ≤ (b : Rat) := by exact_mod_cast (show a + 1 ≤ b by omega)
      have hq1 : q < 1 := of_mul_lt (c := (b : Rat)) (by grind) hbR
      by_cases hq0 : 0 ≤ q
      · have hp := hrel.pos hq0
        have e1 := mul_le_left (Rat.le_of_lt hq1) (Rat.le_of_lt (p2_pos (-52)))
        -- c ≤ q + 2^-52
        have e2 : 1 ≤ q + p2 (-52) := by grind
        have e3 := mul_le e2 (Rat.le_of_lt hbR)
        have e4 := mul_le_left hbb (Rat.le_of_lt (p2_pos (-52)))
        rw [p2_mul (c := -22) (by decide)] at e4
        have e5 : p2 (-22) < 1 := by rw [← p2_zero]; exact p2_lt (by decide)
        grind
      · have := hs.2 (by grind)
        grind
    · exact hle
  · intro hg
    rw [fcmp_geq hc fv_one] at hg
    have hg := of_decide_eq_false hg
    rcases Int.lt_or_le b a with hlt | hle
    · exfalso
      have hbb : (b : Rat) ≤ p2 30 := by
        have e : p2 30 = ((1073741824 : Nat) : Rat) := p2_toNat (by decide)
        rw [e, ← Rat.intCast_natCast]
        exact Rat.intCast_le_intCast.2 (by have := h2.hi; omega)
      have hab : (b : Rat) + 1 ≤ (a : Rat) := by exact_mod_cast (show b + 1 ≤ a by omega)
      have haa : (a : Rat) ≤ p2 30 := by
        have e : p2 30 = ((1073741824 : Nat) : Rat) := p2_toNat (by decide)
        rw [e, ← Rat.intCast_natCast]
        exact Rat.intCast_le_intCast.2 (by have := h1.hi; omega)
      have hq1 : 1 < q := of_mul_lt (c := (b : Rat)) (by grind) hbR
      have hp := hrel.pos (show 0 ≤ q by grind)
      have e1 := mul_le hp.1 (Rat.le_of_lt hbR)
      have e2 : (1 - p2 (-52)) * q * (b : Rat) = (a : Rat) - p2 (-52) * (a : Rat) := by rw [Rat.mul_assoc, hq]; grind
      have e4 := mul_le_left haa (Rat.le_of_lt (p2_pos (-52)))
      rw [p2_mul (c := -22) (by decide)] at e4
      have e5 : p2 (-22) < 1 := by rw [← p2_zero]; exact p2_lt (by decide)
      have e6 := mul_lt (show c < 1 by grind) hbR
      grind
    · exact hle
/-- The distance from the line, out of a cross product. -/
theorem third {A B x y s w v : Nat} {C L : Int} (h1 : FI A x C) (h2 : FI B y L) (hA : A ≤ 1073741824) (hB : B ≤ 1073741824) (hL : 0 < L) (hs : FAr .quo x y s) (hw : SqrtR y w) (hm : FAr .mul (s % 9223372036854775808) w v) :
    ∃ c, Fv v c ∧ 0 ≤ c ∧ Rl (p2 (-46)) (c * c) (((C * C : Int) : Rat) / (L : Rat)) := by
  obtain ⟨a, ha, harel⟩ := FI.quo h1 h2 (by omega) (by omega) hL hs
  obtain ⟨b, hb, hb0, hbrel⟩ := h2.sqrt (by omega) (by omega) hw
  have hL1 : (1 : Rat) ≤ (L : Rat) := by exact_mod_cast hL
  have hq := rat_div_mul (C : Rat) (L : Rat) (by grind)
  have hq2 : ((C * C : Int) : Rat) / (L : Rat) = (C : Rat) / (L : Rat) * ((C : Rat) / (L : Rat)) * (L : Rat) := by
    refine rat_div_eq (by grind) ?_
    rw [Rat.intCast_mul, ← hq]
    generalize (C : Rat) / (L : Rat) = q
    grind
  have hLb : (L : Rat) ≤ p2 30 := by
    have e : p2 30 = ((1073741824 : Nat) : Rat) := p2_toNat (by decide)
    rw [e, ← Rat.intCast_natCast]
    exact Rat.intCast_le_intCast.2 (by have := h2.hi; omega)
  have hCb : rabs (C : Rat) ≤ p2 30 := by
    have e : p2 30 = ((1073741824 : Nat) : Rat) := p2_toNat (by decide)
    have l1 : (C : Rat) ≤ p2 30 := by rw [e, ← Rat.intCast_natCast]; exact Rat.intCast_le_intCast.2 (by have := h1.hi; omega)
    have l2 : ((-C : Int) : Rat) ≤ p2 30 := by rw [e, ← Rat.intCast_natCast]; exact Rat.intCast_le_intCast.2 (by have := h1.lo; omega)
    rw [Rat.intCast_neg] at l2
    exact rabs_le.2 ⟨by grind, by grind⟩
  rw [hq2]
  have hC0 : C ≠ 0 → (1 : Rat) ≤ rabs (C : Rat) := fun h => int_pos h
  have hqa : rabs ((C : Rat) / (L : Rat)) * (L : Rat) = rabs (C : Rat) := by
    have : rabs ((C : Rat) / (L : Rat)) * rabs (L : Rat) = rabs (C : Rat) := by rw [← rabs_mul, hq]
    rwa [rabs_of_nonneg (show (0 : Rat) ≤ (L : Rat) by grind)] at this
  have hCz : C = 0 → (C : Rat) / (L : Rat) = 0 := by rintro rfl; rw [Rat.div_def]; simp
  generalize (C : Rat) / (L : Rat) = q at *
  have hfa := ha.abs
  -- bounds
  have ua : rabs a ≤ 2 * p2 30 := by
    have e1 := rabs_add (a - q) q
    rw [show a - q + q = a by grind] at e1
    unfold Rl at harel
    have e2 := mul_le (p2_le (show (-52 : Int) ≤ 0 by decide)) (rabs_nonneg q)
    rw [p2_zero] at e2
    have e3 := mul_le_left hL1 (rabs_nonneg q)
    grind
  have ub : b ≤ p2 30 := by
    have hp := hbrel.pos (show (0 : Rat) ≤ (L : Rat) by grind)
    have e2 := mul_le (p2_le (show (-51 : Int) ≤ 0 by decide)) (show (0 : Rat) ≤ (L : Rat) by grind)
    rw [p2_zero] at e2
    rcases (Rat.le_total : b ≤ p2 30 ∨ p2 30 ≤ b) with h | h
    · exact h
    · have e3 := mul_le h hb0
      have e4 := mul_le_left h (Rat.le_of_lt (p2_pos 30))
      rw [p2_mul (c := 60) (by decide)] at e4
      have e5 : p2 31 = p2 30 + p2 30 := p2_half (by decide)
      have e6 := p2_lt (show (31 : Int) < 60 by decide)
      exfalso; grind
  have hprod : rabs a * b ≤ p2 61 := by
    have e3 := mul_le ua hb0
    have e4 := mul_le_left ub (show (0 : Rat) ≤ 2 * p2 30 by have := p2_pos 30; grind)
    have e5 : p2 61 = p2 60 + p2 60 := p2_half (by decide)
    have e6 : p2 30 * p2 30 = p2 60 := p2_mul (by decide)
    grind
  have hp0 : 0 ≤ rabs a * b := Rat.mul_nonneg (rabs_nonneg a) hb0
  have l1023 := p2_lt (show (61 : Int) < 1023 by decide)
  obtain ⟨c, hc, hrnd⟩ := far_mul hm hfa hb (by grind) (by have h := p2_pos 1023; generalize p2 1023 = z at *; grind)
  clear l1023
  by_cases hC : C = 0
  · have hq0 := hCz hC
    subst hq0
    have ha0 : a = 0 := by
      unfold Rl at harel
      rw [rabs_zero] at harel
      have := rabs_le.1 (show rabs (a - 0) ≤ 0 by grind)
      grind
    subst ha0
    rw [rabs_zero, Rat.zero_mul] at hrnd
    have hc0 := hrnd.exact rep_zero
    subst hc0
    refine ⟨0, hc, Rat.le_refl, ?_⟩
    have e : (0 : Rat) * 0 * (L : Rat) = 0 * 0 := by grind
    rw [e]
    exact (Rl.refl _).le (Rat.le_of_lt (p2_pos _))
  · have hC1 := hC0 hC
    -- the product is not too small
    have la : p2 (-32) ≤ rabs a := by
      have e1 := rabs_add (q - a) a
      rw [show q - a + a = q by grind] at e1
      have e0 : rabs (q - a) = rabs (a - q) := by rw [← rabs_neg]; congr 1; grind
      unfold Rl at harel
      have e2 := mul_le (p2_le (show (-52 : Int) ≤ -1 by decide)) (rabs_nonneg q)
      have e3 : p2 (-1) * rabs q + p2 (-1) * rabs q = rabs q := by rw [← Rat.add_mul, half]; grind
      have e4 : p2 (-30) ≤ rabs q := by
        refine of_mul_le (c := (L : Rat)) ?_ (by grind)
        have := mul_le_left hLb (Rat.le_of_lt (p2_pos (-30)))
        rw [p2_mul (c := 0) (by decide), p2_zero] at this
        grind
      have e5 : p2 (-30) = p2 (-31) + p2 (-31) := p2_half (by decide)
      have e6 : p2 (-31) = p2 (-32) + p2 (-32) := p2_half (by decide)
      have := p2_pos (-32)
      grind
    have lb : p2 (-1) ≤ b := by
      have hp := hbrel.pos (show (0 : Rat) ≤ (L : Rat) by grind)
      have e2 := mul_le (p2_le (show (-51 : Int) ≤ -1 by decide)) (show (0 : Rat) ≤ (L : Rat) by grind)
      have e3 : p2 (-1) * (L : Rat) + p2 (-1) * (L : Rat) = (L : Rat) := by rw [← Rat.add_mul, half]; grind
      have e7 := mul_le_left hL1 (Rat.le_of_lt (p2_pos (-1)))
      rcases (Rat.le_total : p2 (-1) ≤ b ∨ b ≤ p2 (-1)) with h | h
      · exact h
      · have e4 := mul_le h hb0
        have e5 := mul_le_left h (Rat.le_of_lt (p2_pos (-1)))
        rw [p2_mul (c := -2) (by decide)] at e5
        have e6 : p2 (-1) = p2 (-2) + p2 (-2) := p2_half (by decide)
        have := p2_pos (-2)
        exfalso; grind
    have lp : p2 (-33) ≤ rabs a * b := by
      have e1 := mul_le la hb0
      have e2 := mul_le_left lb (Rat.le_of_lt (p2_pos (-32)))
      rw [p2_mul (c := -33) (by decide)] at e2
      grind
    have hcr := hrnd.rel (by rw [rabs_of_nonneg hp0]; have := p2_le (show (-1022 : Int) ≤ -33 by decide); grind)
    have hcpos := (rat_lt_of hcr (p2_le (by decide))).1 (by have := p2_pos (-33); grind)
    refine ⟨c, hc, Rat.le_of_lt hcpos, ?_⟩
    have s1 := Rl.mul' harel harel (by decide)
    have s2 := Rl.mul' (Rl.to s1 (show (-52 : Int) + 2 ≤ -50 by decide)) (Rl.to hbrel (show (-51 : Int) ≤ -50 by decide)) (by decide)
    have s3 := Rl.mul' hcr hcr (by decide)
    have e : rabs a * b * (rabs a * b) = a * a * (b * b) := by rcases rabs_cases a with h | h <;> rw [h] <;> grind
    rw [e] at s3
    exact Rl.to (Rl.trans' (Rl.to s3 (show (-53 : Int) + 2 ≤ -48 by decide)) (Rl.to s2 (show (-50 : Int) + 2 ≤ -48 by decide)) (by decide)) (by decide)

set_option maxHeartbeats 16000000 in
theorem xdist (k1 o1 c1 k2 o2 c2 k3 o3 c3 : Nat) (l1 l2 l3 : List Value) (T1 T2 T3 : TypeId) (z1 z2 z3 : Nat × Nat) (px py ax ay bx by' : Nat) (npx npy nax nay nbx nby : Int) (H : Heap) (fpx : FI 8192 px npx) (fpy : FI 8192 py npy) (fax : FI 8192 ax nax) (fay : FI 8192 ay nay) (fbx : FI 8192 bx nbx) (fby : FI 8192 by' nby)
    (m1 : (k1, Obj.cells ⟨l1⟩ T1 z1) ∈ H) (m2 : (k2, Obj.cells ⟨l2⟩ T2 z2) ∈ H) (m3 : (k3, Obj.cells ⟨l3⟩ T3 z3) ∈ H) (u1a : l1[o1 + 0]? = some (.float .f64 px)) (u1b : l1[o1 + 1]? = some (.float .f64 py)) (u2a : l2[o2 + 0]? = some (.float .f64 ax)) (u2b : l2[o2 + 1]? = some (.float .f64 ay)) (u3a : l3[o3 + 0]? = some (.float .f64 bx)) (u3b : l3[o3 + 1]? = some (.float .f64 by')) :
    Does Try.prog 38 [.slice (some ⟨k1, o1, none⟩) 2 c1, .slice (some ⟨k2, o2, none⟩) 2 c2, .slice (some ⟨k3, o3, none⟩) 2 c3] H fun w H' => (∃ r c, w = .float .f64 r ∧ Fv r c ∧ 0 ≤ c ∧ Rl (p2 (-46)) (c * c) (seg0 (npx - nax) (npy - nay) (nbx - nax) (nby - nay))) ∧ H' = H := by
  have heq1 := FI.eql fax fbx
  have heq2 := FI.eql fay fby
  by_cases hx : nax = nbx
  · have hx1 : fcmp .eql ax bx = true := by rw [heq1]; exact decide_eq_true hx
    by_cases hy : nay = nby
    · have hy1 : fcmp .eql ay by' = true := by rw [heq2]; exact decide_eq_true hy
      refine fn_enter 141 Try.func38 fun W => ?_
      repeat' first
        | refine tc_seq ?_ | refine tc_region ?_ | refine at_seq_normal ?_ | refine tl_nil ?_ | refine tl_cons ?_ | refine op_move ?_ | refine op_assign ?_ | refine op_load ?_ | refine op_load_agg ?_ | refine op_indexC ?_
        | refine op_indexAddr1 ?_ | refine op_indexAddr ?_ | refine op_fcmp ?_ | refine op_pick_true ?_ | refine op_pick_false ?_ | refine op_pick_true' ?_ | refine op_pick_false' ?_ | (refine op_farith ?_; intro _ _) | refine op_loadK rfl ?_ | refine op_load_aggK rfl ?_
        | refine tc_cond_t ?_ | refine tc_cond_f ?_ | refine tc_cond (fun _ => ?_) (fun _ => ?_) | refine tc_skip ?_ | refine tc_ret ?_ | refine at_seq_ret ?_ | refine tl_guard_yes ?_ | refine tl_guard_no ?_ | refine tl_guard_yes' ?_ | refine tl_guard_no' ?_
        | refine tl_guard_undef ?_ | refine tl_guard_split (fun _ => ?_) (fun _ => ?_)
      apply fun hole0 hole1 hole2 hole3 hole4 hole5 hole6 hole7 hole8 hole9 hole10 hole11 hole12 hole13 hE hD hml hdl hpr prem fin => tc_drawnD 16 [PhiD.is hole0, PhiD.is hole1, PhiD.is hole2, PhiD.is hole3, PhiD.is hole4, PhiD.is hole5, PhiD.is (.bool true), PhiD.is hole6, PhiD.is hole7, PhiD.is hole8, PhiD.is hole9, PhiD.is hole10, PhiD.is hole11, PhiD.is hole12, PhiD.is (.bool true), PhiD.is hole13]
        [some 10, some 11, some 12, some 13, some 14, some 15, some 16, some 17, some 18, some 19, some 20, some 21, some 22, some 23, some 24, some 25] [[], [0], [1], [], [3], [4], [2, 5], [6], [7], [8, 7], [9, 7], [7], [11, 7], [12, 7], [10, 13, 7], [7, 14]] mixed trivial prem fin hE hD rfl hml hdl hpr
      rotate_left 15
      · first | kernel_rfl | exact rfl
      · first | kernel_rfl | exact rfl
      · exact Nat.le_of_ble_eq_true rfl
      · first | kernel_rfl | exact rfl
      · first | kernel_rfl | exact rfl
      refine ⟨fun G hG => ?_, fun G hG => ?_, fun G hG => ?_, fun G hG => ?_, fun G hG => ?_, fun G hG => ?_, fun G hG => ?_, fun G hG => ?_, fun G hG => ?_, fun G hG => ?_, fun G hG => ?_, fun G hG => ?_, fun G hG => ?_, fun G hG => ?_, fun G hG => ?_, fun G hG => ?_, trivial⟩
      · simp only [withD, nthD, Step2, nthDst, putO, postD]
        (refine op_move ?_; exact ⟨[], rfl, rfl, rfl⟩)
      · simp only [withD, nthD, Step2, nthDst, putO, postD]
        ((first | refine op_indexC ?_ | refine op_indexAddr1 ?_ | refine op_indexAddr ?_); exact ⟨[], rfl, rfl, rfl⟩)
      · simp only [withD, nthD, Step2, nthDst, putO, postD]
        ((first | refine op_load ?_ | refine op_load_agg ?_ | refine op_load ?_ (hm := Sub.mem (by assumption) (by (repeat (apply List.mem_cons_of_mem)); assumption)) | refine op_load_agg ?_ (hm := Sub.mem (by assumption) (by (repeat (apply List.mem_cons_of_mem)); assumption)) | refine op_loadH hG rfl ?_ | refine op_load_aggH hG rfl ?_); exact ⟨[], rfl, rfl, rfl⟩)
      · simp only [withD, nthD, Step2, nthDst, putO, postD]
        (refine op_move ?_; exact ⟨[], rfl, rfl, rfl⟩)
      · simp only [withD, nthD, Step2, nthDst, putO, postD]
        ((first | refine op_indexC ?_ | refine op_indexAddr1 ?_ | refine op_indexAddr ?_); exact ⟨[], rfl, rfl, rfl⟩)
      · simp only [withD, nthD, Step2, nthDst, putO, postD]
        ((first | refine op_load ?_ | refine op_load_agg ?_ | refine op_load ?_ (hm := Sub.mem (by assumption) (by (repeat (apply List.mem_cons_of_mem)); assumption)) | refine op_load_agg ?_ (hm := Sub.mem (by assumption) (by (repeat (apply List.mem_cons_of_mem)); assumption)) | refine op_loadH hG rfl ?_ | refine op_load_aggH hG rfl ?_); exact ⟨[], rfl, rfl, rfl⟩)
      · simp only [withD, nthD, Step2, nthDst, putO, postD]
        (refine op_fcmp ?_; exact ⟨[], rfl, congrArg Value.bool hx1, rfl⟩)
      · simp only [withD, nthD, Step2, nthDst, putO, postD]
        (refine op_move ?_; exact ⟨[], rfl, rfl, rfl⟩)
      · simp only [withD, nthD, Step2, nthDst, putO, postD]
        (first | refine .inr ⟨_, rfl, rfl, [], rfl, rfl, rfl⟩ | refine .inl ⟨_, _, rfl, rfl, fun _ => ?_, fun h => absurd h (by first | decide | (refine ne_not ?_; assumption))⟩ | refine .inl ⟨_, _, rfl, rfl, (fun h => absurd h (by first | decide | (refine ne_not2 ?_; assumption))), fun _ => ⟨[], rfl, rfl, rfl⟩⟩)
        (all_goals (refine op_move ?_; exact ⟨[], rfl, rfl, rfl⟩))
      · simp only [withD, nthD, Step2, nthDst, putO, postD]
        (first | refine .inr ⟨_, rfl, rfl, [], rfl, rfl, rfl⟩ | refine .inl ⟨_, _, rfl, rfl, fun _ => ?_, fun h => absurd h (by first | decide | (refine ne_not ?_; assumption))⟩ | refine .inl ⟨_, _, rfl, rfl, (fun h => absurd h (by first | decide | (refine ne_not2 ?_; assumption))), fun _ => ⟨[], rfl, rfl, rfl⟩⟩)
        (all_goals ((first | refine op_indexC ?_ | refine op_indexAddr1 ?_ | refine op_indexAddr ?_); exact ⟨[], rfl, rfl, rfl⟩))
      · simp only [withD, nthD, Step2, nthDst, putO, postD]
        (first | refine .inr ⟨_, rfl, rfl, [], rfl, rfl, rfl⟩ | refine .inl ⟨_, _, rfl, rfl, fun _ => ?_, fun h => absurd h (by first | decide | (refine ne_not ?_; assumption))⟩ | refine .inl ⟨_, _, rfl, rfl, (fun h => absurd h (by first | decide | (refine ne_not2 ?_; assumption))), fun _ => ⟨[], rfl, rfl, rfl⟩⟩)
        (all_goals ((first | refine op_load ?_ | refine op_load_agg ?_ | refine op_load ?_ (hm := Sub.mem (by assumption) (by (repeat (apply List.mem_cons_of_mem)); assumption)) | refine op_load_agg ?_ (hm := Sub.mem (by assumption) (by (repeat (apply List.mem_cons_of_mem)); assumption)) | refine op_loadH hG rfl ?_ | refine op_load_aggH hG rfl ?_); exact ⟨[], rfl, rfl, rfl⟩))
      · simp only [withD, nthD, Step2, nthDst, putO, postD]
        (first | refine .inr ⟨_, rfl, rfl, [], rfl, rfl, rfl⟩ | refine .inl ⟨_, _, rfl, rfl, fun _ => ?_, fun h => absurd h (by first | decide | (refine ne_not ?_; assumption))⟩ | refine .inl ⟨_, _, rfl, rfl, (fun h => absurd h (by first | decide | (refine ne_not2 ?_; assumption))), fun _ => ⟨[], rfl, rfl, rfl⟩⟩)
        (all_goals (refine op_move ?_; exact ⟨[], rfl, rfl, rfl⟩))
      · simp only [withD, nthD, Step2, nthDst, putO, postD]
        (first | refine .inr ⟨_, rfl, rfl, [], rfl, rfl, rfl⟩ | refine .inl ⟨_, _, rfl, rfl, fun _ => ?_, fun h => absurd h (by first | decide | (refine ne_not ?_; assumption))⟩ | refine .inl ⟨_, _, rfl, rfl, (fun h => absurd h (by first | decide | (refine ne_not2 ?_; assumption))), fun _ => ⟨[], rfl, rfl, rfl⟩⟩)
        (all_goals ((first | refine op_indexC ?_ | refine op_indexAddr1 ?_ | refine op_indexAddr ?_); exact ⟨[], rfl, rfl, rfl⟩))
      · simp only [withD, nthD, Step2, nthDst, putO, postD]
        (first | refine .inr ⟨_, rfl, rfl, [], rfl, rfl, rfl⟩ | refine .inl ⟨_, _, rfl, rfl, fun _ => ?_, fun h => absurd h (by first | decide | (refine ne_not ?_; assumption))⟩ | refine .inl ⟨_, _, rfl, rfl, (fun h => absurd h (by first | decide | (refine ne_not2 ?_; assumption))), fun _ => ⟨[], rfl, rfl, rfl⟩⟩)
        (all_goals ((first | refine op_load ?_ | refine op_load_agg ?_ | refine op_load ?_ (hm := Sub.mem (by assumption) (by (repeat (apply List.mem_cons_of_mem)); assumption)) | refine op_load_agg ?_ (hm := Sub.mem (by assumption) (by (repeat (apply List.mem_cons_of_mem)); assumption)) | refine op_loadH hG rfl ?_ | refine op_load_aggH hG rfl ?_); exact ⟨[], rfl, rfl, rfl⟩))
      · simp only [withD, nthD, Step2, nthDst, putO, postD]
        (first | refine .inr ⟨_, rfl, rfl, [], rfl, rfl, rfl⟩ | refine .inl ⟨_, _, rfl, rfl, fun _ => ?_, fun h => absurd h (by first | decide | (refine ne_not ?_; assumption))⟩ | refine .inl ⟨_, _, rfl, rfl, (fun h => absurd h (by first | decide | (refine ne_not2 ?_; assumption))), fun _ => ⟨[], rfl, rfl, rfl⟩⟩)
        (all_goals ((refine op_fcmp ?_; exact ⟨[], rfl, congrArg Value.bool hy1, rfl⟩)))
      · simp only [withD, nthD, Step2, nthDst, putO, postD]
        ((first | refine op_pick_true ?_ | refine op_pick_false ?_ | refine op_pick_true' ?_ | refine op_pick_false' ?_); exact ⟨[], rfl, rfl, rfl⟩)
      simp only [FinalsD, nthDst, putO, List.drop_succ_cons, List.drop_zero]
      rintro -
      repeat' first
        | (first | refine tc_seq ?_ | refine tc_region ?_ | refine at_seq_normal ?_ | refine tl_nil ?_ | refine tl_cons ?_ | refine op_move ?_ | refine op_assign ?_ | refine op_load ?_ | refine op_load_agg ?_ | refine op_indexC ?_ | refine op_indexAddr1 ?_ | refine op_indexAddr ?_ | refine op_fcmp ?_ | refine op_pick_true ?_ | refine op_pick_false ?_ | refine op_pick_true' ?_ | refine op_pick_false' ?_ | (refine op_farith ?_; intro _ _) | refine op_loadK rfl ?_ | refine op_load_aggK rfl ?_ | refine tc_cond_t ?_ | refine tc_cond_f ?_ | refine tc_cond (fun _ => ?_) (fun _ => ?_) | refine tc_skip ?_ | refine tc_ret ?_ | refine at_seq_ret ?_ | refine tl_guard_yes ?_ | refine tl_guard_no ?_ | refine tl_guard_yes' ?_ | refine tl_guard_no' ?_ | refine tl_guard_undef ?_ | refine tl_guard_split (fun _ => ?_) (fun _ => ?_) | fail)
        | (refine op_call ((dist2 k1 o1 c1 k2 o2 c2 l1 l2 T1 T2 z1 z2 px py ax ay 8192 16384 268435456 536870912 npx npy nax nay _ (by decide) (by decide) (by decide) fpx fpy fax fay m1 m2 u1a u1b u2a u2b).mono ?_); rintro _ _ ⟨⟨r, c, rfl, g1, g2, g3⟩, rfl⟩)
        | (refine op_call ((dist2 k1 o1 c1 k3 o3 c3 l1 l3 T1 T3 z1 z3 px py bx by' 8192 16384 268435456 536870912 npx npy nbx nby _ (by decide) (by decide) (by decide) fpx fpy fbx fby m1 m3 u1a u1b u3a u3b).mono ?_); rintro _ _ ⟨⟨r, c, rfl, g1, g2, g3⟩, rfl⟩)
        | fail
      exact ret_tmp (hk := ⟨⟨r, c, rfl, g1, g2, by subst hx; subst hy; unfold seg0; rw [if_pos (by unfold dot2; simp)]; exact Rl.to g3 (by decide)⟩, rfl⟩)
    have hy1 : fcmp .eql ay by' = false := by rw [heq2]; exact decide_eq_false hy
    have hpos : 0 < nrm (nbx - nax) (nby - nay) := by
      have := nrm_nonneg (nbx - nax) (nby - nay)
      rcases Int.lt_or_le 0 (nrm (nbx - nax) (nby - nay)) with h | h
      · exact h
      · have := nrm_zero (show nrm (nbx - nax) (nby - nay) = 0 by omega); omega
    refine fn_enter 141 Try.func38 fun W => ?_
    repeat' first
      | refine tc_seq ?_ | refine tc_region ?_ | refine at_seq_normal ?_ | refine tl_nil ?_ | refine tl_cons ?_ | refine op_move ?_ | refine op_assign ?_ | refine op_load ?_ | refine op_load_agg ?_ | refine op_indexC ?_
      | refine op_indexAddr1 ?_ | refine op_indexAddr ?_ | refine op_fcmp ?_ | refine op_pick_true ?_ | refine op_pick_false ?_ | refine op_pick_true' ?_ | refine op_pick_false' ?_ | (refine op_farith ?_; intro _ _) | refine op_loadK rfl ?_ | refine op_load_aggK rfl ?_
      | refine tc_cond_t ?_ | refine tc_cond_f ?_ | refine tc_cond (fun _ => ?_) (fun _ => ?_) | refine tc_skip ?_ | refine tc_ret ?_ | refine at_seq_ret ?_ | refine tl_guard_yes ?_ | refine tl_guard_no ?_ | refine tl_guard_yes' ?_ | refine tl_guard_no' ?_
      | refine tl_guard_undef ?_ | refine tl_guard_split (fun _ => ?_) (fun _ => ?_)
    apply fun hole0 hole1 hole2 hole3 hole4 hole5 hole6 hole7 hole8 hole9 hole10 hole11 hole12 hole13 hE hD hml hdl hpr prem fin => tc_drawnD 16 [PhiD.is hole0, PhiD.is hole1, PhiD.is hole2, PhiD.is hole3, PhiD.is hole4, PhiD.is hole5, PhiD.is (.bool true), PhiD.is hole6, PhiD.is hole7, PhiD.is hole8, PhiD.is hole9, PhiD.is hole10, PhiD.is hole11, PhiD.is hole12, PhiD.is (.bool false), PhiD.is hole13]
      [some 10, some 11, some 12, some 13, some 14, some 15, some 16, some 17, some 18, some 19, some 20, some 21, some 22, some 23, some 24, some 25] [[], [0], [1], [], [3], [4], [2, 5], [6], [7], [8, 7], [9, 7], [7], [11, 7], [12, 7], [10, 13, 7], [7, 14]] mixed trivial prem fin hE hD rfl hml hdl hpr
    rotate_left 15
    · first | kernel_rfl | exact rfl
    · first | kernel_rfl | exact rfl
    · exact Nat.le_of_ble_eq_true rfl
    · first | kernel_rfl | exact rfl
    · first | kernel_rfl | exact rfl
    refine ⟨fun G hG => ?_, fun G hG => ?_, fun G hG => ?_, fun G hG => ?_, fun G hG => ?_, fun G hG => ?_, fun G hG => ?_, fun G hG => ?_, fun G hG => ?_, fun G hG => ?_, fun G hG => ?_, fun G hG => ?_, fun G hG => ?_, fun G hG => ?_, fun G hG => ?_, fun G hG => ?_, trivial⟩
    · simp only [withD, nthD, Step2, nthDst, putO, postD]
      (refine op_move ?_; exact ⟨[], rfl, rfl, rfl⟩)
    · simp only [withD, nthD, Step2, nthDst, putO, postD]
      ((first | refine op_indexC ?_ | refine op_indexAddr1 ?_ | refine op_indexAddr ?_); exact ⟨[], rfl, rfl, rfl⟩)
    · simp only [withD, nthD, Step2, nthDst, putO, postD]
      ((first | refine op_load ?_ | refine op_load_agg ?_ | refine op_load ?_ (hm := Sub.mem (by assumption) (by (repeat (apply List.mem_cons_of_mem)); assumption)) | refine op_load_agg ?_ (hm := Sub.mem (by assumption) (by (repeat (apply List.mem_cons_of_mem)); assumption)) | refine op_loadH hG rfl ?_ | refine op_load_aggH hG rfl ?_); exact ⟨[], rfl, rfl, rfl⟩)
    · simp only [withD, nthD, Step2, nthDst, putO, postD]
      (refine op_move ?_; exact ⟨[], rfl, rfl, rfl⟩)
    · simp only [withD, nthD, Step2, nthDst, putO, postD]
      ((first | refine op_indexC ?_ | refine op_indexAddr1 ?_ | refine op_indexAddr ?_); exact ⟨[], rfl, rfl, rfl⟩)
    · simp only [withD, nthD, Step2, nthDst, putO, postD]
      ((first | refine op_load ?_ | refine op_load_agg ?_ | refine op_load ?_ (hm := Sub.mem (by assumption) (by (repeat (apply List.mem_cons_of_mem)); assumption)) | refine op_load_agg ?_ (hm := Sub.mem (by assumption) (by (repeat (apply List.mem_cons_of_mem)); assumption)) | refine op_loadH hG rfl ?_ | refine op_load_aggH hG rfl ?_); exact ⟨[], rfl, rfl, rfl⟩)
    · simp only [withD, nthD, Step2, nthDst, putO, postD]
      (refine op_fcmp ?_; exact ⟨[], rfl, congrArg Value.bool hx1, rfl⟩)
    · simp only [withD, nthD, Step2, nthDst, putO, postD]
      (refine op_move ?_; exact ⟨[], rfl, rfl, rfl⟩)
    · simp only [withD, nthD, Step2, nthDst, putO, postD]
      (first | refine .inr ⟨_, rfl, rfl, [], rfl, rfl, rfl⟩ | refine .inl ⟨_, _, rfl, rfl, fun _ => ?_, fun h => absurd h (by first | decide | (refine ne_not ?_; assumption))⟩ | refine .inl ⟨_, _, rfl, rfl, (fun h => absurd h (by first | decide | (refine ne_not2 ?_; assumption))), fun _ => ⟨[], rfl, rfl, rfl⟩⟩)
      (all_goals (refine op_move ?_; exact ⟨[], rfl, rfl, rfl⟩))
    · simp only [withD, nthD, Step2, nthDst, putO, postD]
      (first | refine .inr ⟨_, rfl, rfl, [], rfl, rfl, rfl⟩ | refine .inl ⟨_, _, rfl, rfl, fun _ => ?_, fun h => absurd h (by first | decide | (refine ne_not ?_; assumption))⟩ | refine .inl ⟨_, _, rfl, rfl, (fun h => absurd h (by first | decide | (refine ne_not2 ?_; assumption))), fun _ => ⟨[], rfl, rfl, rfl⟩⟩)
      (all_goals ((first | refine op_indexC ?_ | refine op_indexAddr1 ?_ | refine op_indexAddr ?_); exact ⟨[], rfl, rfl, rfl⟩))
    · simp only [withD, nthD, Step2, nthDst, putO, postD]
      (first | refine .inr ⟨_, rfl, rfl, [], rfl, rfl, rfl⟩ | refine .inl ⟨_, _, rfl, rfl, fun _ => ?_, fun h => absurd h (by first | decide | (refine ne_not ?_; assumption))⟩ | refine .inl ⟨_, _, rfl, rfl, (fun h => absurd h (by first | decide | (refine ne_not2 ?_; assumption))), fun _ => ⟨[], rfl, rfl, rfl⟩⟩)
      (all_goals ((first | refine op_load ?_ | refine op_load_agg ?_ | refine op_load ?_ (hm := Sub.mem (by assumption) (by (repeat (apply List.mem_cons_of_mem)); assumption)) | refine op_load_agg ?_ (hm := Sub.mem (by assumption) (by (repeat (apply List.mem_cons_of_mem)); assumption)) | refine op_loadH hG rfl ?_ | refine op_load_aggH hG rfl ?_); exact ⟨[], rfl, rfl, rfl⟩))
    · simp only [withD, nthD, Step2, nthDst, putO, postD]
      (first | refine .inr ⟨_, rfl, rfl, [], rfl, rfl, rfl⟩ | refine .inl ⟨_, _, rfl, rfl, fun _ => ?_, fun h => absurd h (by first | decide | (refine ne_not ?_; assumption))⟩ | refine .inl ⟨_, _, rfl, rfl, (fun h => absurd h (by first | decide | (refine ne_not2 ?_; assumption))), fun _ => ⟨[], rfl, rfl, rfl⟩⟩)
      (all_goals (refine op_move ?_; exact ⟨[], rfl, rfl, rfl⟩))
    · simp only [withD, nthD, Step2, nthDst, putO, postD]
      (first | refine .inr ⟨_, rfl, rfl, [], rfl, rfl, rfl⟩ | refine .inl ⟨_, _, rfl, rfl, fun _ => ?_, fun h => absurd h (by first | decide | (refine ne_not ?_; assumption))⟩ | refine .inl ⟨_, _, rfl, rfl, (fun h => absurd h (by first | decide | (refine ne_not2 ?_; assumption))), fun _ => ⟨[], rfl, rfl, rfl⟩⟩)
      (all_goals ((first | refine op_indexC ?_ | refine op_indexAddr1 ?_ | refine op_indexAddr ?_); exact ⟨[], rfl, rfl, rfl⟩))
    · simp only [withD, nthD, Step2, nthDst, putO, postD]
      (first | refine .inr ⟨_, rfl, rfl, [], rfl, rfl, rfl⟩ | refine .inl ⟨_, _, rfl, rfl, fun _ => ?_, fun h => absurd h (by first | decide | (refine ne_not ?_; assumption))⟩ | refine .inl ⟨_, _, rfl, rfl, (fun h => absurd h (by first | decide | (refine ne_not2 ?_; assumption))), fun _ => ⟨[], rfl, rfl, rfl⟩⟩)
      (all_goals ((first | refine op_load ?_ | refine op_load_agg ?_ | refine op_load ?_ (hm := Sub.mem (by assumption) (by (repeat (apply List.mem_cons_of_mem)); assumption)) | refine op_load_agg ?_ (hm := Sub.mem (by assumption) (by (repeat (apply List.mem_cons_of_mem)); assumption)) | refine op_loadH hG rfl ?_ | refine op_load_aggH hG rfl ?_); exact ⟨[], rfl, rfl, rfl⟩))
    · simp only [withD, nthD, Step2, nthDst, putO, postD]
      (first | refine .inr ⟨_, rfl, rfl, [], rfl, rfl, rfl⟩ | refine .inl ⟨_, _, rfl, rfl, fun _ => ?_, fun h => absurd h (by first | decide | (refine ne_not ?_; assumption))⟩ | refine .inl ⟨_, _, rfl, rfl, (fun h => absurd h (by first | decide | (refine ne_not2 ?_; assumption))), fun _ => ⟨[], rfl, rfl, rfl⟩⟩)
      (all_goals ((refine op_fcmp ?_; exact ⟨[], rfl, congrArg Value.bool hy1, rfl⟩)))
    · simp only [withD, nthD, Step2, nthDst, putO, postD]
      ((first | refine op_pick_true ?_ | refine op_pick_false ?_ | refine op_pick_true' ?_ | refine op_pick_false' ?_); exact ⟨[], rfl, rfl, rfl⟩)
    simp only [FinalsD, nthDst, putO, List.drop_succ_cons, List.drop_zero]
    rintro -
    repeat' first
      | refine tc_seq ?_ | refine tc_region ?_ | refine at_seq_normal ?_ | refine tl_nil ?_ | refine tl_cons ?_ | refine op_move ?_ | refine op_assign ?_ | refine op_load ?_ | refine op_load_agg ?_ | refine op_indexC ?_
      | refine op_indexAddr1 ?_ | refine op_indexAddr ?_ | refine op_fcmp ?_ | refine op_pick_true ?_ | refine op_pick_false ?_ | refine op_pick_true' ?_ | refine op_pick_false' ?_ | (refine op_farith ?_; intro _ _) | refine op_loadK rfl ?_ | refine op_load_aggK rfl ?_
      | refine tc_cond_t ?_ | refine tc_cond_f ?_ | refine tc_cond (fun _ => ?_) (fun _ => ?_) | refine tc_skip ?_ | refine tc_ret ?_ | refine at_seq_ret ?_ | refine tl_guard_yes ?_ | refine tl_guard_no ?_ | refine tl_guard_yes' ?_ | refine tl_guard_no' ?_
      | refine tl_guard_undef ?_ | refine tl_guard_split (fun _ => ?_) (fun _ => ?_)
    apply fun hole0 hole1 hole2 hole3 hole4 hole5 hole6 hole7 hole8 hole9 hole10 hole11 hole12 hole13 hole14 hole15 hole16 hole17 hole18 hole19 hole20 hole21 hole22 hole23 hE hD hml hdl hpr prem fin => tc_drawnD 31 [PhiD.is hole0, PhiD.is hole1, PhiD.is hole2, PhiD.is hole3, PhiD.is hole4, PhiD.is hole5, PhiD.gen (some' (fun w ex => (∃ r, FI 16384 r (nbx - nax) ∧ w = .float .f64 r) ∧ ex = [])), PhiD.is hole6, PhiD.is hole7, PhiD.is hole8, PhiD.is hole9, PhiD.is hole10, PhiD.is hole11, PhiD.gen (some' (fun w ex => (∃ r, FI 16384 r (nbx - nax) ∧ w = .float .f64 r) ∧ ex = [])), PhiD.gen (some' (fun w ex => (∃ r, FI 268435456 r ((nbx - nax) * (nbx - nax)) ∧ w = .float .f64 r) ∧ ex = [])), PhiD.is hole12, PhiD.is hole13, PhiD.is hole14, PhiD.is hole15, PhiD.is hole16, PhiD.is hole17, PhiD.gen (some' (fun w ex => (∃ r, FI 16384 r (nby - nay) ∧ w = .float .f64 r) ∧ ex = [])), PhiD.is hole18, PhiD.is hole19, PhiD.is hole20, PhiD.is hole21, PhiD.is hole22, PhiD.is hole23, PhiD.gen (some' (fun w ex => (∃ r, FI 16384 r (nby - nay) ∧ w = .float .f64 r) ∧ ex = [])), PhiD.gen (some' (fun w ex => (∃ r, FI 268435456 r ((nby - nay) * (nby - nay)) ∧ w = .float .f64 r) ∧ ex = [])), PhiD.gen (some' (fun w ex => (∃ r, FI 536870912 r ((nbx - nax) * (nbx - nax) + (nby - nay) * (nby - nay)) ∧ w = .float .f64 r) ∧ ex = []))]
      [some 29, some 30, some 31, some 32, some 33, some 34, some 35, some 36, some 37, some 38, some 39, some 40, some 41, some 42, some 43, some 44, some 45, some 46, some 47, some 48, some 49, some 50, some 51, some 52, some 53, some 54, some 55, some 56, some 57, some 58, some 59, some 7] [[], [0], [1], [], [3], [4], [2, 5], [], [7], [8], [], [10], [11], [9, 12], [6, 13], [], [15], [16], [], [18], [19], [17, 20], [], [22], [23], [], [25], [26], [24, 27], [21, 28], [14, 29]] mixed ⟨(some_mono _), (some_mono _), (some_mono _), (some_mono _), (some_mono _), (some_mono _), (some_mono _), trivial⟩ prem fin hE hD rfl hml hdl hpr
    rotate_left 25
    · first | kernel_rfl | exact rfl
    · first | kernel_rfl | exact rfl
    · exact Nat.le_of_ble_eq_true rfl
    · first | kernel_rfl | exact rfl
    · first | kernel_rfl | exact rfl
    refine ⟨fun G hG => ?_, fun G hG => ?_, fun G hG => ?_, fun G hG => ?_, fun G hG => ?_, fun G hG => ?_, fun G hG => ?_, fun G hG => ?_, fun G hG => ?_, fun G hG => ?_, fun G hG => ?_, fun G hG => ?_, fun G hG => ?_, fun G hG => ?_, fun G hG => ?_, fun G hG => ?_, fun G hG => ?_, fun G hG => ?_, fun G hG => ?_, fun G hG => ?_, fun G hG => ?_, fun G hG => ?_, fun G hG => ?_, fun G hG => ?_, fun G hG => ?_, fun G hG => ?_, fun G hG => ?_, fun G hG => ?_, fun G hG => ?_, fun G hG => ?_, fun G hG => ?_, trivial⟩
    · simp only [withD, nthD, Step2, nthDst, putO, postD]
      (refine op_move ?_; exact ⟨[], rfl, rfl, rfl⟩)
    · simp only [withD, nthD, Step2, nthDst, putO, postD]
      ((first | refine op_indexC ?_ | refine op_indexAddr1 ?_ | refine op_indexAddr ?_); exact ⟨[], rfl, rfl, rfl⟩)
    · simp only [withD, nthD, Step2, nthDst, putO, postD]
      ((first | refine op_load ?_ | refine op_load_agg ?_ | refine op_load ?_ (hm := Sub.mem (by assumption) (by (repeat (apply List.mem_cons_of_mem)); assumption)) | refine op_load_agg ?_ (hm := Sub.mem (by assumption) (by (repeat (apply List.mem_cons_of_mem)); assumption)) | refine op_loadH hG rfl ?_ | refine op_load_aggH hG rfl ?_); exact ⟨[], rfl, rfl, rfl⟩)
    · simp only [withD, nthD, Step2, nthDst, putO, postD]
      (refine op_move ?_; exact ⟨[], rfl, rfl, rfl⟩)
    · simp only [withD, nthD, Step2, nthDst, putO, postD]
      ((first | refine op_indexC ?_ | refine op_indexAddr1 ?_ | refine op_indexAddr ?_); exact ⟨[], rfl, rfl, rfl⟩)
    · simp only [withD, nthD, Step2, nthDst, putO, postD]
      ((first | refine op_load ?_ | refine op_load_agg ?_ | refine op_load ?_ (hm := Sub.mem (by assumption) (by (repeat (apply List.mem_cons_of_mem)); assumption)) | refine op_load_agg ?_ (hm := Sub.mem (by assumption) (by (repeat (apply List.mem_cons_of_mem)); assumption)) | refine op_loadH hG rfl ?_ | refine op_load_aggH hG rfl ?_); exact ⟨[], rfl, rfl, rfl⟩)
    · simp only [withD, nthD, Step2, nthDst, putO, postD]
      (refine op_farith ?_; intro _ h; exact ⟨[], rfl, ⟨_, FI.sub fbx fax (by decide) h, rfl⟩, rfl⟩)
    · simp only [withD, nthD, Step2, nthDst, putO, postD]
      (refine op_move ?_; exact ⟨[], rfl, rfl, rfl⟩)
    · simp only [withD, nthD, Step2, nthDst, putO, postD]
      ((first | refine op_indexC ?_ | refine op_indexAddr1 ?_ | refine op_indexAddr ?_); exact ⟨[], rfl, rfl, rfl⟩)
    · simp only [withD, nthD, Step2, nthDst, putO, postD]
      ((first | refine op_load ?_ | refine op_load_agg ?_ | refine op_load ?_ (hm := Sub.mem (by assumption) (by (repeat (apply List.mem_cons_of_mem)); assumption)) | refine op_load_agg ?_ (hm := Sub.mem (by assumption) (by (repeat (apply List.mem_cons_of_mem)); assumption)) | refine op_loadH hG rfl ?_ | refine op_load_aggH hG rfl ?_); exact ⟨[], rfl, rfl, rfl⟩)
    · simp only [withD, nthD, Step2, nthDst, putO, postD]
      (refine op_move ?_; exact ⟨[], rfl, rfl, rfl⟩)
    · simp only [withD, nthD, Step2, nthDst, putO, postD]
      ((first | refine op_indexC ?_ | refine op_indexAddr1 ?_ | refine op_indexAddr ?_); exact ⟨[], rfl, rfl, rfl⟩)
    · simp only [withD, nthD, Step2, nthDst, putO, postD]
      ((first | refine op_load ?_ | refine op_load_agg ?_ | refine op_load ?_ (hm := Sub.mem (by assumption) (by (repeat (apply List.mem_cons_of_mem)); assumption)) | refine op_load_agg ?_ (hm := Sub.mem (by assumption) (by (repeat (apply List.mem_cons_of_mem)); assumption)) | refine op_loadH hG rfl ?_ | refine op_load_aggH hG rfl ?_); exact ⟨[], rfl, rfl, rfl⟩)
    · simp only [withD, nthD, Step2, nthDst, putO, postD]
      (refine op_farith ?_; intro _ h; exact ⟨[], rfl, ⟨_, FI.sub fbx fax (by decide) h, rfl⟩, rfl⟩)
    · simp only [withD, nthD, Step2, nthDst, putO, postD]
      rintro _ _ ⟨⟨rl6, hl6, rfl⟩, rfl⟩ - _ _ ⟨⟨rl13, hl13, rfl⟩, rfl⟩ -
      (refine op_farith ?_; intro _ h; exact ⟨[], rfl, ⟨_, FI.mul hl6 hl13 (by decide) h, rfl⟩, rfl⟩)
    · simp only [withD, nthD, Step2, nthDst, putO, postD]
      (refine op_move ?_; exact ⟨[], rfl, rfl, rfl⟩)
    · simp only [withD, nthD, Step2, nthDst, putO, postD]
      ((first | refine op_indexC ?_ | refine op_indexAddr1 ?_ | refine op_indexAddr ?_); exact ⟨[], rfl, rfl, rfl⟩)
    · simp only [withD, nthD, Step2, nthDst, putO, postD]
      ((first | refine op_load ?_ | refine op_load_agg ?_ | refine op_load ?_ (hm := Sub.mem (by assumption) (by (repeat (apply List.mem_cons_of_mem)); assumption)) | refine op_load_agg ?_ (hm := Sub.mem (by assumption) (by (repeat (apply List.mem_cons_of_mem)); assumption)) | refine op_loadH hG rfl ?_ | refine op_load_aggH hG rfl ?_); exact ⟨[], rfl, rfl, rfl⟩)
    · simp only [withD, nthD, Step2, nthDst, putO, postD]
      (refine op_move ?_; exact ⟨[], rfl, rfl, rfl⟩)
    · simp only [withD, nthD, Step2, nthDst, putO, postD]
      ((first | refine op_indexC ?_ | refine op_indexAddr1 ?_ | refine op_indexAddr ?_); exact ⟨[], rfl, rfl, rfl⟩)
    · simp only [withD, nthD, Step2, nthDst, putO, postD]
      ((first | refine op_load ?_ | refine op_load_agg ?_ | refine op_load ?_ (hm := Sub.mem (by assumption) (by (repeat (apply List.mem_cons_of_mem)); assumption)) | refine op_load_agg ?_ (hm := Sub.mem (by assumption) (by (repeat (apply List.mem_cons_of_mem)); assumption)) | refine op_loadH hG rfl ?_ | refine op_load_aggH hG rfl ?_); exact ⟨[], rfl, rfl, rfl⟩)
    · simp only [withD, nthD, Step2, nthDst, putO, postD]
      (refine op_farith ?_; intro _ h; exact ⟨[], rfl, ⟨_, FI.sub fby fay (by decide) h, rfl⟩, rfl⟩)
    · simp only [withD, nthD, Step2, nthDst, putO, postD]
      (refine op_move ?_; exact ⟨[], rfl, rfl, rfl⟩)
    · simp only [withD, nthD, Step2, nthDst, putO, postD]
      ((first | refine op_indexC ?_ | refine op_indexAddr1 ?_ | refine op_indexAddr ?_); exact ⟨[], rfl, rfl, rfl⟩)
    · simp only [withD, nthD, Step2, nthDst, putO, postD]
      ((first | refine op_load ?_ | refine op_load_agg ?_ | refine op_load ?_ (hm := Sub.mem (by assumption) (by (repeat (apply List.mem_cons_of_mem)); assumption)) | refine op_load_agg ?_ (hm := Sub.mem (by assumption) (by (repeat (apply List.mem_cons_of_mem)); assumption)) | refine op_loadH hG rfl ?_ | refine op_load_aggH hG rfl ?_); exact ⟨[], rfl, rfl, rfl⟩)
    · simp only [withD, nthD, Step2, nthDst, putO, postD]
      (refine op_move ?_; exact ⟨[], rfl, rfl, rfl⟩)
    · simp only [withD, nthD, Step2, nthDst, putO, postD]
      ((first | refine op_indexC ?_ | refine op_indexAddr1 ?_ | refine op_indexAddr ?_); exact ⟨[], rfl, rfl, rfl⟩)
    · simp only [withD, nthD, Step2, nthDst, putO, postD]
      ((first | refine op_load ?_ | refine op_load_agg ?_ | refine op_load ?_ (hm := Sub.mem (by assumption) (by (repeat (apply List.mem_cons_of_mem)); assumption)) | refine op_load_agg ?_ (hm := Sub.mem (by assumption) (by (repeat (apply List.mem_cons_of_mem)); assumption)) | refine op_loadH hG rfl ?_ | refine op_load_aggH hG rfl ?_); exact ⟨[], rfl, rfl, rfl⟩)
    · simp only [withD, nthD, Step2, nthDst, putO, postD]
      (refine op_farith ?_; intro _ h; exact ⟨[], rfl, ⟨_, FI.sub fby fay (by decide) h, rfl⟩, rfl⟩)
    · simp only [withD, nthD, Step2, nthDst, putO, postD]
      rintro _ _ ⟨⟨rl21, hl21, rfl⟩, rfl⟩ - _ _ ⟨⟨rl28, hl28, rfl⟩, rfl⟩ -
      (refine op_farith ?_; intro _ h; exact ⟨[], rfl, ⟨_, FI.mul hl21 hl28 (by decide) h, rfl⟩, rfl⟩)
    · simp only [withD, nthD, Step2, nthDst, putO, postD]
      rintro _ _ ⟨⟨rl14, hl14, rfl⟩, rfl⟩ - _ _ ⟨⟨rl29, hl29, rfl⟩, rfl⟩ -
      (refine op_farith ?_; intro _ h; exact ⟨[], rfl, ⟨_, FI.add hl14 hl29 (by decide) h, rfl⟩, rfl⟩)
    simp only [FinalsD, nthDst, putO, List.drop_succ_cons, List.drop_zero]
    rintro _ _ _ _ _ _ _ _ _ _ _ _ _ _ ⟨⟨⟨rl30, hl30, rfl⟩, rfl⟩, ⟨⟨rl29, hl29, rfl⟩, rfl⟩, ⟨⟨rl28, hl28, rfl⟩, rfl⟩, ⟨⟨rl21, hl21, rfl⟩, rfl⟩, ⟨⟨rl14, hl14, rfl⟩, rfl⟩, ⟨⟨rl13, hl13, rfl⟩, rfl⟩, ⟨⟨rl6, hl6, rfl⟩, rfl⟩, -⟩
    try simp only [List.nil_append]
    repeat' first
      | refine tc_seq ?_ | refine tc_region ?_ | refine at_seq_normal ?_ | refine tl_nil ?_ | refine tl_cons ?_ | refine op_move ?_ | refine op_assign ?_ | refine op_load ?_ | refine op_load_agg ?_ | refine op_indexC ?_
      | refine op_indexAddr1 ?_ | refine op_indexAddr ?_ | refine op_fcmp ?_ | refine op_pick_true ?_ | refine op_pick_false ?_ | refine op_pick_true' ?_ | refine op_pick_false' ?_ | (refine op_farith ?_; intro _ _) | refine op_loadK rfl ?_ | refine op_load_aggK rfl ?_
      | refine tc_cond_t ?_ | refine tc_cond_f ?_ | refine tc_cond (fun _ => ?_) (fun _ => ?_) | refine tc_skip ?_ | refine tc_ret ?_ | refine at_seq_ret ?_ | refine tl_guard_yes ?_ | refine tl_guard_no ?_ | refine tl_guard_yes' ?_ | refine tl_guard_no' ?_
      | refine tl_guard_undef ?_ | refine tl_guard_split (fun _ => ?_) (fun _ => ?_)
    apply fun hole0 hole1 hole2 hole3 hole4 hole5 hole6 hole7 hole8 hole9 hole10 hole11 hole12 hole13 hole14 hole15 hole16 hole17 hole18 hole19 hole20 hole21 hole22 hole23 hole24 hE hD hml hdl hpr prem fin => tc_drawnD 33 [PhiD.is hole0, PhiD.is hole1, PhiD.is hole2, PhiD.is hole3, PhiD.is hole4, PhiD.is hole5, PhiD.gen (some' (fun w ex => (∃ r, FI 16384 r (npx - nax) ∧ w = .float .f64 r) ∧ ex = [])), PhiD.is hole6, PhiD.is hole7, PhiD.is hole8, PhiD.is hole9, PhiD.is hole10, PhiD.is hole11, PhiD.gen (some' (fun w ex => (∃ r, FI 16384 r (nbx - nax) ∧ w = .float .f64 r) ∧ ex = [])), PhiD.gen (some' (fun w ex => (∃ r, FI 268435456 r ((npx - nax) * (nbx - nax)) ∧ w = .float .f64 r) ∧ ex = [])), PhiD.is hole12, PhiD.is hole13, PhiD.is hole14, PhiD.is hole15, PhiD.is hole16, PhiD.is hole17, PhiD.gen (some' (fun w ex => (∃ r, FI 16384 r (npy - nay) ∧ w = .float .f64 r) ∧ ex = [])), PhiD.is hole18, PhiD.is hole19, PhiD.is hole20, PhiD.is hole21, PhiD.is hole22, PhiD.is hole23, PhiD.gen (some' (fun w ex => (∃ r, FI 16384 r (nby - nay) ∧ w = .float .f64 r) ∧ ex = [])), PhiD.gen (some' (fun w ex => (∃ r, FI 268435456 r ((npy - nay) * (nby - nay)) ∧ w = .float .f64 r) ∧ ex = [])), PhiD.gen (some' (fun w ex => (∃ r, FI 536870912 r ((npx - nax) * (nbx - nax) + (npy - nay) * (nby - nay)) ∧ w = .float .f64 r) ∧ ex = [])), PhiD.is hole24, PhiD.gen (some' (fun w ex => (∃ x r, FI 536870912 x ((npx - nax) * (nbx - nax) + (npy - nay) * (nby - nay)) ∧ FAr .quo x rl30 r ∧ w = .float .f64 r) ∧ ex = []))]
      [some 60, some 61, some 62, some 63, some 64, some 65, some 66, some 67, some 68, some 69, some 70, some 71, some 72, some 73, some 74, some 75, some 76, some 77, some 78, some 79, some 80, some 81, some 82, some 83, some 84, some 85, some 86, some 87, some 88, some 89, some 90, some 91, some 92, some 8] [[], [0], [1], [], [3], [4], [2, 5], [], [7], [8], [], [10], [11], [9, 12], [6, 13], [], [15], [16], [], [18], [19], [17, 20], [], [22], [23], [], [25], [26], [24, 27], [21, 28], [14, 29], [], [30, 31]] mixed ⟨(some_mono _), (some_mono _), (some_mono _), (some_mono _), (some_mono _), (some_mono _), (some_mono _), (some_mono _), trivial⟩ prem fin hE hD rfl hml hdl hpr
    rotate_left 26
    · first | kernel_rfl | exact rfl
    · first | kernel_rfl | exact rfl
    · exact Nat.le_of_ble_eq_true rfl
    · first | kernel_rfl | exact rfl
    · first | kernel_rfl | exact rfl
    refine ⟨fun G hG => ?_, fun G hG => ?_, fun G hG => ?_, fun G hG => ?_, fun G hG => ?_, fun G hG => ?_, fun G hG => ?_, fun G hG => ?_, fun G hG => ?_, fun G hG => ?_, fun G hG => ?_, fun G hG => ?_, fun G hG => ?_, fun G hG => ?_, fun G hG => ?_, fun G hG => ?_, fun G hG => ?_, fun G hG => ?_, fun G hG => ?_, fun G hG => ?_, fun G hG => ?_, fun G hG => ?_, fun G hG => ?_, fun G hG => ?_, fun G hG => ?_, fun G hG => ?_, fun G hG => ?_, fun G hG => ?_, fun G hG => ?_, fun G hG => ?_, fun G hG => ?_, fun G hG => ?_, fun G hG => ?_, trivial⟩
    · simp only [withD, nthD, Step2, nthDst, putO, postD]
      (refine op_move ?_; exact ⟨[], rfl, rfl, rfl⟩)
    · simp only [withD, nthD, Step2, nthDst, putO, postD]
      ((first | refine op_indexC ?_ | refine op_indexAddr1 ?_ | refine op_indexAddr ?_); exact ⟨[], rfl, rfl, rfl⟩)
    · simp only [withD, nthD, Step2, nthDst, putO, postD]
      ((first | refine op_load ?_ | refine op_load_agg ?_ | refine op_load ?_ (hm := Sub.mem (by assumption) (by (repeat (apply List.mem_cons_of_mem)); assumption)) | refine op_load_agg ?_ (hm := Sub.mem (by assumption) (by (repeat (apply List.mem_cons_of_mem)); assumption)) | refine op_loadH hG rfl ?_ | refine op_load_aggH hG rfl ?_); exact ⟨[], rfl, rfl, rfl⟩)
    · simp only [withD, nthD, Step2, nthDst, putO, postD]
      (refine op_move ?_; exact ⟨[], rfl, rfl, rfl⟩)
    · simp only [withD, nthD, Step2, nthDst, putO, postD]
      ((first | refine op_indexC ?_ | refine op_indexAddr1 ?_ | refine op_indexAddr ?_); exact ⟨[], rfl, rfl, rfl⟩)
    · simp only [withD, nthD, Step2, nthDst, putO, postD]
      ((first | refine op_load ?_ | refine op_load_agg ?_ | refine op_load ?_ (hm := Sub.mem (by assumption) (by (repeat (apply List.mem_cons_of_mem)); assumption)) | refine op_load_agg ?_ (hm := Sub.mem (by assumption) (by (repeat (apply List.mem_cons_of_mem)); assumption)) | refine op_loadH hG rfl ?_ | refine op_load_aggH hG rfl ?_); exact ⟨[], rfl, rfl, rfl⟩)
    · simp only [withD, nthD, Step2, nthDst, putO, postD]
      (refine op_farith ?_; intro _ h; exact ⟨[], rfl, ⟨_, FI.sub fpx fax (by decide) h, rfl⟩, rfl⟩)
    · simp only [withD, nthD, Step2, nthDst, putO, postD]
      (refine op_move ?_; exact ⟨[], rfl, rfl, rfl⟩)
    · simp only [withD, nthD, Step2, nthDst, putO, postD]
      ((first | refine op_indexC ?_ | refine op_indexAddr1 ?_ | refine op_indexAddr ?_); exact ⟨[], rfl, rfl, rfl⟩)
    · simp only [withD, nthD, Step2, nthDst, putO, postD]
      ((first | refine op_load ?_ | refine op_load_agg ?_ | refine op_load ?_ (hm := Sub.mem (by assumption) (by (repeat (apply List.mem_cons_of_mem)); assumption)) | refine op_load_agg ?_ (hm := Sub.mem (by assumption) (by (repeat (apply List.mem_cons_of_mem)); assumption)) | refine op_loadH hG rfl ?_ | refine op_load_aggH hG rfl ?_); exact ⟨[], rfl, rfl, rfl⟩)
    · simp only [withD, nthD, Step2, nthDst, putO, postD]
      (refine op_move ?_; exact ⟨[], rfl, rfl, rfl⟩)
    · simp only [withD, nthD, Step2, nthDst, putO, postD]
      ((first | refine op_indexC ?_ | refine op_indexAddr1 ?_ | refine op_indexAddr ?_); exact ⟨[], rfl, rfl, rfl⟩)
    · simp only [withD, nthD, Step2, nthDst, putO, postD]
      ((first | refine op_load ?_ | refine op_load_agg ?_ | refine op_load ?_ (hm := Sub.mem (by assumption) (by (repeat (apply List.mem_cons_of_mem)); assumption)) | refine op_load_agg ?_ (hm := Sub.mem (by assumption) (by (repeat (apply List.mem_cons_of_mem)); assumption)) | refine op_loadH hG rfl ?_ | refine op_load_aggH hG rfl ?_); exact ⟨[], rfl, rfl, rfl⟩)
    · simp only [withD, nthD, Step2, nthDst, putO, postD]
      (refine op_farith ?_; intro _ h; exact ⟨[], rfl, ⟨_, FI.sub fbx fax (by decide) h, rfl⟩, rfl⟩)
    · simp only [withD, nthD, Step2, nthDst, putO, postD]
      rintro _ _ ⟨⟨rt6, ht6, rfl⟩, rfl⟩ - _ _ ⟨⟨rt13, ht13, rfl⟩, rfl⟩ -
      (refine op_farith ?_; intro _ h; exact ⟨[], rfl, ⟨_, FI.mul ht6 ht13 (by decide) h, rfl⟩, rfl⟩)
    · simp only [withD, nthD, Step2, nthDst, putO, postD]
      (refine op_move ?_; exact ⟨[], rfl, rfl, rfl⟩)
    · simp only [withD, nthD, Step2, nthDst, putO, postD]
      ((first | refine op_indexC ?_ | refine op_indexAddr1 ?_ | refine op_indexAddr ?_); exact ⟨[], rfl, rfl, rfl⟩)
    · simp only [withD, nthD, Step2, nthDst, putO, postD]
      ((first | refine op_load ?_ | refine op_load_agg ?_ | refine op_load ?_ (hm := Sub.mem (by assumption) (by (repeat (apply List.mem_cons_of_mem)); assumption)) | refine op_load_agg ?_ (hm := Sub.mem (by assumption) (by (repeat (apply List.mem_cons_of_mem)); assumption)) | refine op_loadH hG rfl ?_ | refine op_load_aggH hG rfl ?_); exact ⟨[], rfl, rfl, rfl⟩)
    · simp only [withD, nthD, Step2, nthDst, putO, postD]
      (refine op_move ?_; exact ⟨[], rfl, rfl, rfl⟩)
    · simp only [withD, nthD, Step2, nthDst, putO, postD]
      ((first | refine op_indexC ?_ | refine op_indexAddr1 ?_ | refine op_indexAddr ?_); exact ⟨[], rfl, rfl, rfl⟩)
    · simp only [withD, nthD, Step2, nthDst, putO, postD]
      ((first | refine op_load ?_ | refine op_load_agg ?_ | refine op_load ?_ (hm := Sub.mem (by assumption) (by (repeat (apply List.mem_cons_of_mem)); assumption)) | refine op_load_agg ?_ (hm := Sub.mem (by assumption) (by (repeat (apply List.mem_cons_of_mem)); assumption)) | refine op_loadH hG rfl ?_ | refine op_load_aggH hG rfl ?_); exact ⟨[], rfl, rfl, rfl⟩)
    · simp only [withD, nthD, Step2, nthDst, putO, postD]
      (refine op_farith ?_; intro _ h; exact ⟨[], rfl, ⟨_, FI.sub fpy fay (by decide) h, rfl⟩, rfl⟩)
    · simp only [withD, nthD, Step2, nthDst, putO, postD]
      (refine op_move ?_; exact ⟨[], rfl, rfl, rfl⟩)
    · simp only [withD, nthD, Step2, nthDst, putO, postD]
      ((first | refine op_indexC ?_ | refine op_indexAddr1 ?_ | refine op_indexAddr ?_); exact ⟨[], rfl, rfl, rfl⟩)
    · simp only [withD, nthD, Step2, nthDst, putO, postD]
      ((first | refine op_load ?_ | refine op_load_agg ?_ | refine op_load ?_ (hm := Sub.mem (by assumption) (by (repeat (apply List.mem_cons_of_mem)); assumption)) | refine op_load_agg ?_ (hm := Sub.mem (by assumption) (by (repeat (apply List.mem_cons_of_mem)); assumption)) | refine op_loadH hG rfl ?_ | refine op_load_aggH hG rfl ?_); exact ⟨[], rfl, rfl, rfl⟩)
    · simp only [withD, nthD, Step2, nthDst, putO, postD]
      (refine op_move ?_; exact ⟨[], rfl, rfl, rfl⟩)
    · simp only [withD, nthD, Step2, nthDst, putO, postD]
      ((first | refine op_indexC ?_ | refine op_indexAddr1 ?_ | refine op_indexAddr ?_); exact ⟨[], rfl, rfl, rfl⟩)
    · simp only [withD, nthD, Step2, nthDst, putO, postD]
      ((first | refine op_load ?_ | refine op_load_agg ?_ | refine op_load ?_ (hm := Sub.mem (by assumption) (by (repeat (apply List.mem_cons_of_mem)); assumption)) | refine op_load_agg ?_ (hm := Sub.mem (by assumption) (by (repeat (apply List.mem_cons_of_mem)); assumption)) | refine op_loadH hG rfl ?_ | refine op_load_aggH hG rfl ?_); exact ⟨[], rfl, rfl, rfl⟩)
    · simp only [withD, nthD, Step2, nthDst, putO, postD]
      (refine op_farith ?_; intro _ h; exact ⟨[], rfl, ⟨_, FI.sub fby fay (by decide) h, rfl⟩, rfl⟩)
    · simp only [withD, nthD, Step2, nthDst, putO, postD]
      rintro _ _ ⟨⟨rt21, ht21, rfl⟩, rfl⟩ - _ _ ⟨⟨rt28, ht28, rfl⟩, rfl⟩ -
      (refine op_farith ?_; intro _ h; exact ⟨[], rfl, ⟨_, FI.mul ht21 ht28 (by decide) h, rfl⟩, rfl⟩)
    · simp only [withD, nthD, Step2, nthDst, putO, postD]
      rintro _ _ ⟨⟨rt14, ht14, rfl⟩, rfl⟩ - _ _ ⟨⟨rt29, ht29, rfl⟩, rfl⟩ -
      (refine op_farith ?_; intro _ h; exact ⟨[], rfl, ⟨_, FI.add ht14 ht29 (by decide) h, rfl⟩, rfl⟩)
    · simp only [withD, nthD, Step2, nthDst, putO, postD]
      (refine op_move ?_; exact ⟨[], rfl, rfl, rfl⟩)
    · simp only [withD, nthD, Step2, nthDst, putO, postD]
      rintro _ _ ⟨⟨rt30, ht30, rfl⟩, rfl⟩ -
      (refine op_farith ?_; intro _ h; exact ⟨[], rfl, ⟨_, _, ht30, h, rfl⟩, rfl⟩)
    simp only [FinalsD, nthDst, putO, List.drop_succ_cons, List.drop_zero]
    rintro _ _ _ _ _ _ _ _ _ _ _ _ _ _ _ _ ⟨⟨⟨xt, rt, ft, ht, rfl⟩, rfl⟩, ⟨⟨rt30, ht30, rfl⟩, rfl⟩, ⟨⟨rt29, ht29, rfl⟩, rfl⟩, ⟨⟨rt28, ht28, rfl⟩, rfl⟩, ⟨⟨rt21, ht21, rfl⟩, rfl⟩, ⟨⟨rt14, ht14, rfl⟩, rfl⟩, ⟨⟨rt13, ht13, rfl⟩, rfl⟩, ⟨⟨rt6, ht6, rfl⟩, rfl⟩, -⟩
    try simp only [List.nil_append]
    have hLp : 0 < nrm (nbx - nax) (nby - nay) := hpos
    obtain ⟨s1, s2, s3⟩ := share ft hl30 (by decide) (by decide) hLp ht
    by_cases hT : dot2 (npx - nax) (npy - nay) (nbx - nax) (nby - nay) ≤ 0
    · have hs1 : fcmp .leq rt 0 = true := by rw [s1]; exact decide_eq_true hT
      repeat' first
        | (first | refine tc_seq ?_ | refine tc_region ?_ | refine at_seq_normal ?_ | refine tl_nil ?_ | refine tl_cons ?_ | refine op_move ?_ | refine op_assign ?_ | refine op_load ?_ | refine op_load_agg ?_ | refine op_indexC ?_ | refine op_indexAddr1 ?_ | refine op_indexAddr ?_ | refine op_fcmp ?_ | refine op_pick_true ?_ | refine op_pick_false ?_ | refine op_pick_true' ?_ | refine op_pick_false' ?_ | (refine op_farith ?_; intro _ _) | refine op_loadK rfl ?_ | refine op_load_aggK rfl ?_ | refine tc_cond_t ?_ | refine tc_cond_f ?_ | refine tc_cond (fun _ => ?_) (fun _ => ?_) | refine tc_skip ?_ | refine tc_ret ?_ | refine at_seq_ret ?_ | refine tl_guard_yes ?_ | refine tl_guard_no ?_ | refine tl_guard_yes' ?_ | refine tl_guard_no' ?_ | refine tl_guard_undef ?_ | refine tl_guard_split (fun _ => ?_) (fun _ => ?_) | fail)
        | (refine op_call ((dist2 k1 o1 c1 k2 o2 c2 l1 l2 T1 T2 z1 z2 px py ax ay 8192 16384 268435456 536870912 npx npy nax nay _ (by decide) (by decide) (by decide) fpx fpy fax fay m1 m2 u1a u1b u2a u2b).mono ?_); rintro _ _ ⟨⟨r, c, rfl, g1, g2, g3⟩, rfl⟩)
        | (refine op_call ((dist2 k1 o1 c1 k3 o3 c3 l1 l3 T1 T3 z1 z3 px py bx by' 8192 16384 268435456 536870912 npx npy nbx nby _ (by decide) (by decide) (by decide) fpx fpy fbx fby m1 m3 u1a u1b u3a u3b).mono ?_); rintro _ _ ⟨⟨r, c, rfl, g1, g2, g3⟩, rfl⟩)
        | fail
      exact ret_tmp (hk := ⟨⟨r, c, rfl, g1, g2, by unfold seg0; rw [if_pos hT]; exact Rl.to g3 (by decide)⟩, rfl⟩)
    have hs1 : fcmp .leq rt 0 = false := by rw [s1]; exact decide_eq_false hT
    by_cases hG : fcmp .geq rt 4607182418800017408 = true
    · have hge : nrm (nbx - nax) (nby - nay) ≤ dot2 (npx - nax) (npy - nay) (nbx - nax) (nby - nay) := s2 hG
      repeat' first
        | (first | refine tc_seq ?_ | refine tc_region ?_ | refine at_seq_normal ?_ | refine tl_nil ?_ | refine tl_cons ?_ | refine op_move ?_ | refine op_assign ?_ | refine op_load ?_ | refine op_load_agg ?_ | refine op_indexC ?_ | refine op_indexAddr1 ?_ | refine op_indexAddr ?_ | refine op_fcmp ?_ | refine op_pick_true ?_ | refine op_pick_false ?_ | refine op_pick_true' ?_ | refine op_pick_false' ?_ | (refine op_farith ?_; intro _ _) | refine op_loadK rfl ?_ | refine op_load_aggK rfl ?_ | refine tc_cond_t ?_ | refine tc_cond_f ?_ | refine tc_cond (fun _ => ?_) (fun _ => ?_) | refine tc_skip ?_ | refine tc_ret ?_ | refine at_seq_ret ?_ | refine tl_guard_yes ?_ | refine tl_guard_no ?_ | refine tl_guard_yes' ?_ | refine tl_guard_no' ?_ | refine tl_guard_undef ?_ | refine tl_guard_split (fun _ => ?_) (fun _ => ?_) | fail)
        | (refine op_call ((dist2 k1 o1 c1 k2 o2 c2 l1 l2 T1 T2 z1 z2 px py ax ay 8192 16384 268435456 536870912 npx npy nax nay _ (by decide) (by decide) (by decide) fpx fpy fax fay m1 m2 u1a u1b u2a u2b).mono ?_); rintro _ _ ⟨⟨r, c, rfl, g1, g2, g3⟩, rfl⟩)
        | (refine op_call ((dist2 k1 o1 c1 k3 o3 c3 l1 l3 T1 T3 z1 z3 px py bx by' 8192 16384 268435456 536870912 npx npy nbx nby _ (by decide) (by decide) (by decide) fpx fpy fbx fby m1 m3 u1a u1b u3a u3b).mono ?_); rintro _ _ ⟨⟨r, c, rfl, g1, g2, g3⟩, rfl⟩)
        | fail
      have e1 : npx - nax - (nbx - nax) = npx - nbx := by omega
      have e2 : npy - nay - (nby - nay) = npy - nby := by omega
      exact ret_tmp (hk := ⟨⟨r, c, rfl, g1, g2, by unfold seg0; rw [if_neg hT, if_pos hge, e1, e2]; exact Rl.to g3 (by decide)⟩, rfl⟩)
    have hG0 : fcmp .geq rt 4607182418800017408 = false := by simpa using hG
    have hle := s3 hG0
    repeat' first
      | refine tc_seq ?_ | refine tc_region ?_ | refine at_seq_normal ?_ | refine tl_nil ?_ | refine tl_cons ?_ | refine op_move ?_ | refine op_assign ?_ | refine op_load ?_ | refine op_load_agg ?_ | refine op_indexC ?_
      | refine op_indexAddr1 ?_ | refine op_indexAddr ?_ | refine op_fcmp ?_ | refine op_pick_true ?_ | refine op_pick_false ?_ | refine op_pick_true' ?_ | refine op_pick_false' ?_ | (refine op_farith ?_; intro _ _) | refine op_loadK rfl ?_ | refine op_load_aggK rfl ?_
      | refine tc_cond_t ?_ | refine tc_cond_f ?_ | refine tc_cond (fun _ => ?_) (fun _ => ?_) | refine tc_skip ?_ | refine tc_ret ?_ | refine at_seq_ret ?_ | refine tl_guard_yes ?_ | refine tl_guard_no ?_ | refine tl_guard_yes' ?_ | refine tl_guard_no' ?_
      | refine tl_guard_undef ?_ | refine tl_guard_split (fun _ => ?_) (fun _ => ?_)
    apply fun hole0 hole1 hole2 hole3 hole4 hole5 hole6 hole7 hole8 hole9 hole10 hole11 hole12 hole13 hole14 hole15 hole16 hole17 hole18 hole19 hole20 hole21 hole22 hole23 hole24 hE hD hml hdl hpr prem fin => tc_drawnD 33 [PhiD.is hole0, PhiD.is hole1, PhiD.is hole2, PhiD.is hole3, PhiD.is hole4, PhiD.is hole5, PhiD.gen (some' (fun w ex => (∃ r, FI 16384 r (nay - npy) ∧ w = .float .f64 r) ∧ ex = [])), PhiD.is hole6, PhiD.is hole7, PhiD.is hole8, PhiD.is hole9, PhiD.is hole10, PhiD.is hole11, PhiD.gen (some' (fun w ex => (∃ r, FI 16384 r (nbx - nax) ∧ w = .float .f64 r) ∧ ex = [])), PhiD.gen (some' (fun w ex => (∃ r, FI 268435456 r ((nay - npy) * (nbx - nax)) ∧ w = .float .f64 r) ∧ ex = [])), PhiD.is hole12, PhiD.is hole13, PhiD.is hole14, PhiD.is hole15, PhiD.is hole16, PhiD.is hole17, PhiD.gen (some' (fun w ex => (∃ r, FI 16384 r (nax - npx) ∧ w = .float .f64 r) ∧ ex = [])), PhiD.is hole18, PhiD.is hole19, PhiD.is hole20, PhiD.is hole21, PhiD.is hole22, PhiD.is hole23, PhiD.gen (some' (fun w ex => (∃ r, FI 16384 r (nby - nay) ∧ w = .float .f64 r) ∧ ex = [])), PhiD.gen (some' (fun w ex => (∃ r, FI 268435456 r ((nax - npx) * (nby - nay)) ∧ w = .float .f64 r) ∧ ex = [])), PhiD.gen (some' (fun w ex => (∃ r, FI 536870912 r ((nay - npy) * (nbx - nax) - (nax - npx) * (nby - nay)) ∧ w = .float .f64 r) ∧ ex = [])), PhiD.is hole24, PhiD.gen (some' (fun w ex => (∃ x r, FI 536870912 x ((nay - npy) * (nbx - nax) - (nax - npx) * (nby - nay)) ∧ FAr .quo x rl30 r ∧ w = .float .f64 r) ∧ ex = []))]
      [some 103, some 104, some 105, some 106, some 107, some 108, some 109, some 110, some 111, some 112, some 113, some 114, some 115, some 116, some 117, some 118, some 119, some 120, some 121, some 122, some 123, some 124, some 125, some 126, some 127, some 128, some 129, some 130, some 131, some 132, some 133, some 134, some 135, some 9] [[], [0], [1], [], [3], [4], [2, 5], [], [7], [8], [], [10], [11], [9, 12], [6, 13], [], [15], [16], [], [18], [19], [17, 20], [], [22], [23], [], [25], [26], [24, 27], [21, 28], [14, 29], [], [30, 31]] mixed ⟨(some_mono _), (some_mono _), (some_mono _), (some_mono _), (some_mono _), (some_mono _), (some_mono _), (some_mono _), trivial⟩ prem fin hE hD rfl hml hdl hpr
    rotate_left 26
    · first | kernel_rfl | exact rfl
    · first | kernel_rfl | exact rfl
    · exact Nat.le_of_ble_eq_true rfl
    · first | kernel_rfl | exact rfl
    · first | kernel_rfl | exact rfl
    refine ⟨fun G hG => ?_, fun G hG => ?_, fun G hG => ?_, fun G hG => ?_, fun G hG => ?_, fun G hG => ?_, fun G hG => ?_, fun G hG => ?_, fun G hG => ?_, fun G hG => ?_, fun G hG => ?_, fun G hG => ?_, fun G hG => ?_, fun G hG => ?_, fun G hG => ?_, fun G hG => ?_, fun G hG => ?_, fun G hG => ?_, fun G hG => ?_, fun G hG => ?_, fun G hG => ?_, fun G hG => ?_, fun G hG => ?_, fun G hG => ?_, fun G hG => ?_, fun G hG => ?_, fun G hG => ?_, fun G hG => ?_, fun G hG => ?_, fun G hG => ?_, fun G hG => ?_, fun G hG => ?_, fun G hG => ?_, trivial⟩
    · simp only [withD, nthD, Step2, nthDst, putO, postD]
      (refine op_move ?_; exact ⟨[], rfl, rfl, rfl⟩)
    · simp only [withD, nthD, Step2, nthDst, putO, postD]
      ((first | refine op_indexC ?_ | refine op_indexAddr1 ?_ | refine op_indexAddr ?_); exact ⟨[], rfl, rfl, rfl⟩)
    · simp only [withD, nthD, Step2, nthDst, putO, postD]
      ((first | refine op_load ?_ | refine op_load_agg ?_ | refine op_load ?_ (hm := Sub.mem (by assumption) (by (repeat (apply List.mem_cons_of_mem)); assumption)) | refine op_load_agg ?_ (hm := Sub.mem (by assumption) (by (repeat (apply List.mem_cons_of_mem)); assumption)) | refine op_loadH hG rfl ?_ | refine op_load_aggH hG rfl ?_); exact ⟨[], rfl, rfl, rfl⟩)
    · simp only [withD, nthD, Step2, nthDst, putO, postD]
      (refine op_move ?_; exact ⟨[], rfl, rfl, rfl⟩)
    · simp only [withD, nthD, Step2, nthDst, putO, postD]
      ((first | refine op_indexC ?_ | refine op_indexAddr1 ?_ | refine op_indexAddr ?_); exact ⟨[], rfl, rfl, rfl⟩)
    · simp only [withD, nthD, Step2, nthDst, putO, postD]
      ((first | refine op_load ?_ | refine op_load_agg ?_ | refine op_load ?_ (hm := Sub.mem (by assumption) (by (repeat (apply List.mem_cons_of_mem)); assumption)) | refine op_load_agg ?_ (hm := Sub.mem (by assumption) (by (repeat (apply List.mem_cons_of_mem)); assumption)) | refine op_loadH hG rfl ?_ | refine op_load_aggH hG rfl ?_); exact ⟨[], rfl, rfl, rfl⟩)
    · simp only [withD, nthD, Step2, nthDst, putO, postD]
      (refine op_farith ?_; intro _ h; exact ⟨[], rfl, ⟨_, FI.sub fay fpy (by decide) h, rfl⟩, rfl⟩)
    · simp only [withD, nthD, Step2, nthDst, putO, postD]
      (refine op_move ?_; exact ⟨[], rfl, rfl, rfl⟩)
    · simp only [withD, nthD, Step2, nthDst, putO, postD]
      ((first | refine op_indexC ?_ | refine op_indexAddr1 ?_ | refine op_indexAddr ?_); exact ⟨[], rfl, rfl, rfl⟩)
    · simp only [withD, nthD, Step2, nthDst, putO, postD]
      ((first | refine op_load ?_ | refine op_load_agg ?_ | refine op_load ?_ (hm := Sub.mem (by assumption) (by (repeat (apply List.mem_cons_of_mem)); assumption)) | refine op_load_agg ?_ (hm := Sub.mem (by assumption) (by (repeat (apply List.mem_cons_of_mem)); assumption)) | refine op_loadH hG rfl ?_ | refine op_load_aggH hG rfl ?_); exact ⟨[], rfl, rfl, rfl⟩)
    · simp only [withD, nthD, Step2, nthDst, putO, postD]
      (refine op_move ?_; exact ⟨[], rfl, rfl, rfl⟩)
    · simp only [withD, nthD, Step2, nthDst, putO, postD]
      ((first | refine op_indexC ?_ | refine op_indexAddr1 ?_ | refine op_indexAddr ?_); exact ⟨[], rfl, rfl, rfl⟩)
    · simp only [withD, nthD, Step2, nthDst, putO, postD]
      ((first | refine op_load ?_ | refine op_load_agg ?_ | refine op_load ?_ (hm := Sub.mem (by assumption) (by (repeat (apply List.mem_cons_of_mem)); assumption)) | refine op_load_agg ?_ (hm := Sub.mem (by assumption) (by (repeat (apply List.mem_cons_of_mem)); assumption)) | refine op_loadH hG rfl ?_ | refine op_load_aggH hG rfl ?_); exact ⟨[], rfl, rfl, rfl⟩)
    · simp only [withD, nthD, Step2, nthDst, putO, postD]
      (refine op_farith ?_; intro _ h; exact ⟨[], rfl, ⟨_, FI.sub fbx fax (by decide) h, rfl⟩, rfl⟩)
    · simp only [withD, nthD, Step2, nthDst, putO, postD]
      rintro _ _ ⟨⟨rc6, hc6, rfl⟩, rfl⟩ - _ _ ⟨⟨rc13, hc13, rfl⟩, rfl⟩ -
      (refine op_farith ?_; intro _ h; exact ⟨[], rfl, ⟨_, FI.mul hc6 hc13 (by decide) h, rfl⟩, rfl⟩)
    · simp only [withD, nthD, Step2, nthDst, putO, postD]
      (refine op_move ?_; exact ⟨[], rfl, rfl, rfl⟩)
    · simp only [withD, nthD, Step2, nthDst, putO, postD]
      ((first | refine op_indexC ?_ | refine op_indexAddr1 ?_ | refine op_indexAddr ?_); exact ⟨[], rfl, rfl, rfl⟩)
    · simp only [withD, nthD, Step2, nthDst, putO, postD]
      ((first | refine op_load ?_ | refine op_load_agg ?_ | refine op_load ?_ (hm := Sub.mem (by assumption) (by (repeat (apply List.mem_cons_of_mem)); assumption)) | refine op_load_agg ?_ (hm := Sub.mem (by assumption) (by (repeat (apply List.mem_cons_of_mem)); assumption)) | refine op_loadH hG rfl ?_ | refine op_load_aggH hG rfl ?_); exact ⟨[], rfl, rfl, rfl⟩)
    · simp only [withD, nthD, Step2, nthDst, putO, postD]
      (refine op_move ?_; exact ⟨[], rfl, rfl, rfl⟩)
    · simp only [withD, nthD, Step2, nthDst, putO, postD]
      ((first | refine op_indexC ?_ | refine op_indexAddr1 ?_ | refine op_indexAddr ?_); exact ⟨[], rfl, rfl, rfl⟩)
    · simp only [withD, nthD, Step2, nthDst, putO, postD]
      ((first | refine op_load ?_ | refine op_load_agg ?_ | refine op_load ?_ (hm := Sub.mem (by assumption) (by (repeat (apply List.mem_cons_of_mem)); assumption)) | refine op_load_agg ?_ (hm := Sub.mem (by assumption) (by (repeat (apply List.mem_cons_of_mem)); assumption)) | refine op_loadH hG rfl ?_ | refine op_load_aggH hG rfl ?_); exact ⟨[], rfl, rfl, rfl⟩)
    · simp only [withD, nthD, Step2, nthDst, putO, postD]
      (refine op_farith ?_; intro _ h; exact ⟨[], rfl, ⟨_, FI.sub fax fpx (by decide) h, rfl⟩, rfl⟩)
    · simp only [withD, nthD, Step2, nthDst, putO, postD]
      (refine op_move ?_; exact ⟨[], rfl, rfl, rfl⟩)
    · simp only [withD, nthD, Step2, nthDst, putO, postD]
      ((first | refine op_indexC ?_ | refine op_indexAddr1 ?_ | refine op_indexAddr ?_); exact ⟨[], rfl, rfl, rfl⟩)
    · simp only [withD, nthD, Step2, nthDst, putO, postD]
      ((first | refine op_load ?_ | refine op_load_agg ?_ | refine op_load ?_ (hm := Sub.mem (by assumption) (by (repeat (apply List.mem_cons_of_mem)); assumption)) | refine op_load_agg ?_ (hm := Sub.mem (by assumption) (by (repeat (apply List.mem_cons_of_mem)); assumption)) | refine op_loadH hG rfl ?_ | refine op_load_aggH hG rfl ?_); exact ⟨[], rfl, rfl, rfl⟩)
    · simp only [withD, nthD, Step2, nthDst, putO, postD]
      (refine op_move ?_; exact ⟨[], rfl, rfl, rfl⟩)
    · simp only [withD, nthD, Step2, nthDst, putO, postD]
      ((first | refine op_indexC ?_ | refine op_indexAddr1 ?_ | refine op_indexAddr ?_); exact ⟨[], rfl, rfl, rfl⟩)
    · simp only [withD, nthD, Step2, nthDst, putO, postD]
      ((first | refine op_load ?_ | refine op_load_agg ?_ | refine op_load ?_ (hm := Sub.mem (by assumption) (by (repeat (apply List.mem_cons_of_mem)); assumption)) | refine op_load_agg ?_ (hm := Sub.mem (by assumption) (by (repeat (apply List.mem_cons_of_mem)); assumption)) | refine op_loadH hG rfl ?_ | refine op_load_aggH hG rfl ?_); exact ⟨[], rfl, rfl, rfl⟩)
    · simp only [withD, nthD, Step2, nthDst, putO, postD]
      (refine op_farith ?_; intro _ h; exact ⟨[], rfl, ⟨_, FI.sub fby fay (by decide) h, rfl⟩, rfl⟩)
    · simp only [withD, nthD, Step2, nthDst, putO, postD]
      rintro _ _ ⟨⟨rc21, hc21, rfl⟩, rfl⟩ - _ _ ⟨⟨rc28, hc28, rfl⟩, rfl⟩ -
      (refine op_farith ?_; intro _ h; exact ⟨[], rfl, ⟨_, FI.mul hc21 hc28 (by decide) h, rfl⟩, rfl⟩)
    · simp only [withD, nthD, Step2, nthDst, putO, postD]
      rintro _ _ ⟨⟨rc14, hc14, rfl⟩, rfl⟩ - _ _ ⟨⟨rc29, hc29, rfl⟩, rfl⟩ -
      (refine op_farith ?_; intro _ h; exact ⟨[], rfl, ⟨_, FI.sub hc14 hc29 (by decide) h, rfl⟩, rfl⟩)
    · simp only [withD, nthD, Step2, nthDst, putO, postD]
      (refine op_move ?_; exact ⟨[], rfl, rfl, rfl⟩)
    · simp only [withD, nthD, Step2, nthDst, putO, postD]
      rintro _ _ ⟨⟨rc30, hc30, rfl⟩, rfl⟩ -
      (refine op_farith ?_; intro _ h; exact ⟨[], rfl, ⟨_, _, hc30, h, rfl⟩, rfl⟩)
    simp only [FinalsD, nthDst, putO, List.drop_succ_cons, List.drop_zero]
    rintro _ _ _ _ _ _ _ _ _ _ _ _ _ _ _ _ ⟨⟨⟨xc, rc, fc, hc, rfl⟩, rfl⟩, ⟨⟨rc30, hc30, rfl⟩, rfl⟩, ⟨⟨rc29, hc29, rfl⟩, rfl⟩, ⟨⟨rc28, hc28, rfl⟩, rfl⟩, ⟨⟨rc21, hc21, rfl⟩, rfl⟩, ⟨⟨rc14, hc14, rfl⟩, rfl⟩, ⟨⟨rc13, hc13, rfl⟩, rfl⟩, ⟨⟨rc6, hc6, rfl⟩, rfl⟩, -⟩
    try simp only [List.nil_append]
    repeat' first
      | (first | refine tc_seq ?_ | refine tc_region ?_ | refine at_seq_normal ?_ | refine tl_nil ?_ | refine tl_cons ?_ | refine op_move ?_ | refine op_assign ?_ | refine op_load ?_ | refine op_load_agg ?_ | refine op_indexC ?_ | refine op_indexAddr1 ?_ | refine op_indexAddr ?_ | refine op_fcmp ?_ | refine op_pick_true ?_ | refine op_pick_false ?_ | refine op_pick_true' ?_ | refine op_pick_false' ?_ | (refine op_farith ?_; intro _ _) | refine op_loadK rfl ?_ | refine op_load_aggK rfl ?_ | refine tc_cond_t ?_ | refine tc_cond_f ?_ | refine tc_cond (fun _ => ?_) (fun _ => ?_) | refine tc_skip ?_ | refine tc_ret ?_ | refine at_seq_ret ?_ | refine tl_guard_yes ?_ | refine tl_guard_no ?_ | refine tl_guard_yes' ?_ | refine tl_guard_no' ?_ | refine tl_guard_undef ?_ | refine tl_guard_split (fun _ => ?_) (fun _ => ?_) | fail)
      | (refine op_call ((abs _ _).mono ?_); rintro _ _ ⟨rfl, rfl⟩)
      | (refine op_call ((sqrt _ _).mono ?_); rintro _ _ ⟨⟨w, rfl, hw⟩, rfl⟩)
      | fail
    rename_i v hv
    obtain ⟨c, g1, g2, g3⟩ := third fc hl30 (by decide) (by decide) hLp hc hw hv
    refine ret_tmp (hk := ⟨⟨v, c, rfl, g1, g2, ?_⟩, rfl⟩)
    have e3 : (nay - npy) * (nbx - nax) - (nax - npx) * (nby - nay) = crs (npx - nax) (npy - nay) (nbx - nax) (nby - nay) := by unfold crs; grind
    rw [e3] at g3
    by_cases hEq : dot2 (npx - nax) (npy - nay) (nbx - nax) (nby - nay) = nrm (nbx - nax) (nby - nay)
    · unfold seg0
      rw [if_neg hT, if_pos (by omega), ← seg_edge hEq hLp]
      exact g3
    · unfold seg0
      have hle' : dot2 (npx - nax) (npy - nay) (nbx - nax) (nby - nay) ≤ nrm (nbx - nax) (nby - nay) := hle
      rw [if_neg hT, if_neg (by omega)]
      exact g3
  have hx1 : fcmp .eql ax bx = false := by rw [heq1]; exact decide_eq_false hx
  have hpos : 0 < nrm (nbx - nax) (nby - nay) := by
    have := nrm_nonneg (nbx - nax) (nby - nay)
    rcases Int.lt_or_le 0 (nrm (nbx - nax) (nby - nay)) with h | h
    · exact h
    · have := nrm_zero (show nrm (nbx - nax) (nby - nay) = 0 by omega); omega
  refine fn_enter 141 Try.func38 fun W => ?_
  repeat' first
    | refine tc_seq ?_ | refine tc_region ?_ | refine at_seq_normal ?_ | refine tl_nil ?_ | refine tl_cons ?_ | refine op_move ?_ | refine op_assign ?_ | refine op_load ?_ | refine op_load_agg ?_ | refine op_indexC ?_
    | refine op_indexAddr1 ?_ | refine op_indexAddr ?_ | refine op_fcmp ?_ | refine op_pick_true ?_ | refine op_pick_false ?_ | refine op_pick_true' ?_ | refine op_pick_false' ?_ | (refine op_farith ?_; intro _ _) | refine op_loadK rfl ?_ | refine op_load_aggK rfl ?_
    | refine tc_cond_t ?_ | refine tc_cond_f ?_ | refine tc_cond (fun _ => ?_) (fun _ => ?_) | refine tc_skip ?_ | refine tc_ret ?_ | refine at_seq_ret ?_ | refine tl_guard_yes ?_ | refine tl_guard_no ?_ | refine tl_guard_yes' ?_ | refine tl_guard_no' ?_
    | refine tl_guard_undef ?_ | refine tl_guard_split (fun _ => ?_) (fun _ => ?_)
  apply fun hole0 hole1 hole2 hole3 hole4 hole5 hole6 hole7 hole8 hole9 hole10 hole11 hole12 hole13 hole14 hE hD hml hdl hpr prem fin => tc_drawnD 16 [PhiD.is hole0, PhiD.is hole1, PhiD.is hole2, PhiD.is hole3, PhiD.is hole4, PhiD.is hole5, PhiD.is (.bool false), PhiD.is hole6, PhiD.is hole7, PhiD.is hole8, PhiD.is hole9, PhiD.is hole10, PhiD.is hole11, PhiD.is hole12, PhiD.is hole13, PhiD.is hole14]
    [some 10, some 11, some 12, some 13, some 14, some 15, some 16, some 17, some 18, some 19, some 20, some 21, some 22, some 23, some 24, some 25] [[], [0], [1], [], [3], [4], [2, 5], [6], [7], [8, 7], [9, 7], [7], [11, 7], [12, 7], [10, 13, 7], [7, 14]] mixed trivial prem fin hE hD rfl hml hdl hpr
  rotate_left 16
  · first | kernel_rfl | exact rfl
  · first | kernel_rfl | exact rfl
  · exact Nat.le_of_ble_eq_true rfl
  · first | kernel_rfl | exact rfl
  · first | kernel_rfl | exact rfl
  refine ⟨fun G hG => ?_, fun G hG => ?_, fun G hG => ?_, fun G hG => ?_, fun G hG => ?_, fun G hG => ?_, fun G hG => ?_, fun G hG => ?_, fun G hG => ?_, fun G hG => ?_, fun G hG => ?_, fun G hG => ?_, fun G hG => ?_, fun G hG => ?_, fun G hG => ?_, fun G hG => ?_, trivial⟩
  · simp only [withD, nthD, Step2, nthDst, putO, postD]
    (refine op_move ?_; exact ⟨[], rfl, rfl, rfl⟩)
  · simp only [withD, nthD, Step2, nthDst, putO, postD]
    ((first | refine op_indexC ?_ | refine op_indexAddr1 ?_ | refine op_indexAddr ?_); exact ⟨[], rfl, rfl, rfl⟩)
  · simp only [withD, nthD, Step2, nthDst, putO, postD]
    ((first | refine op_load ?_ | refine op_load_agg ?_ | refine op_load ?_ (hm := Sub.mem (by assumption) (by (repeat (apply List.mem_cons_of_mem)); assumption)) | refine op_load_agg ?_ (hm := Sub.mem (by assumption) (by (repeat (apply List.mem_cons_of_mem)); assumption)) | refine op_loadH hG rfl ?_ | refine op_load_aggH hG rfl ?_); exact ⟨[], rfl, rfl, rfl⟩)
  · simp only [withD, nthD, Step2, nthDst, putO, postD]
    (refine op_move ?_; exact ⟨[], rfl, rfl, rfl⟩)
  · simp only [withD, nthD, Step2, nthDst, putO, postD]
    ((first | refine op_indexC ?_ | refine op_indexAddr1 ?_ | refine op_indexAddr ?_); exact ⟨[], rfl, rfl, rfl⟩)
  · simp only [withD, nthD, Step2, nthDst, putO, postD]
    ((first | refine op_load ?_ | refine op_load_agg ?_ | refine op_load ?_ (hm := Sub.mem (by assumption) (by (repeat (apply List.mem_cons_of_mem)); assumption)) | refine op_load_agg ?_ (hm := Sub.mem (by assumption) (by (repeat (apply List.mem_cons_of_mem)); assumption)) | refine op_loadH hG rfl ?_ | refine op_load_aggH hG rfl ?_); exact ⟨[], rfl, rfl, rfl⟩)
  · simp only [withD, nthD, Step2, nthDst, putO, postD]
    (refine op_fcmp ?_; exact ⟨[], rfl, congrArg Value.bool hx1, rfl⟩)
  · simp only [withD, nthD, Step2, nthDst, putO, postD]
    (refine op_move ?_; exact ⟨[], rfl, rfl, rfl⟩)
  · simp only [withD, nthD, Step2, nthDst, putO, postD]
    (first | refine .inr ⟨_, rfl, rfl, [], rfl, rfl, rfl⟩ | refine .inl ⟨_, _, rfl, rfl, fun _ => ?_, fun h => absurd h (by first | decide | (refine ne_not ?_; assumption))⟩ | refine .inl ⟨_, _, rfl, rfl, (fun h => absurd h (by first | decide | (refine ne_not2 ?_; assumption))), fun _ => ⟨[], rfl, rfl, rfl⟩⟩)
    (all_goals (refine op_move ?_; exact ⟨[], rfl, rfl, rfl⟩))
  · simp only [withD, nthD, Step2, nthDst, putO, postD]
    (first | refine .inr ⟨_, rfl, rfl, [], rfl, rfl, rfl⟩ | refine .inl ⟨_, _, rfl, rfl, fun _ => ?_, fun h => absurd h (by first | decide | (refine ne_not ?_; assumption))⟩ | refine .inl ⟨_, _, rfl, rfl, (fun h => absurd h (by first | decide | (refine ne_not2 ?_; assumption))), fun _ => ⟨[], rfl, rfl, rfl⟩⟩)
    (all_goals ((first | refine op_indexC ?_ | refine op_indexAddr1 ?_ | refine op_indexAddr ?_); exact ⟨[], rfl, rfl, rfl⟩))
  · simp only [withD, nthD, Step2, nthDst, putO, postD]
    (first | refine .inr ⟨_, rfl, rfl, [], rfl, rfl, rfl⟩ | refine .inl ⟨_, _, rfl, rfl, fun _ => ?_, fun h => absurd h (by first | decide | (refine ne_not ?_; assumption))⟩ | refine .inl ⟨_, _, rfl, rfl, (fun h => absurd h (by first | decide | (refine ne_not2 ?_; assumption))), fun _ => ⟨[], rfl, rfl, rfl⟩⟩)
    (all_goals ((first | refine op_load ?_ | refine op_load_agg ?_ | refine op_load ?_ (hm := Sub.mem (by assumption) (by (repeat (apply List.mem_cons_of_mem)); assumption)) | refine op_load_agg ?_ (hm := Sub.mem (by assumption) (by (repeat (apply List.mem_cons_of_mem)); assumption)) | refine op_loadH hG rfl ?_ | refine op_load_aggH hG rfl ?_); exact ⟨[], rfl, rfl, rfl⟩))
  · simp only [withD, nthD, Step2, nthDst, putO, postD]
    (first | refine .inr ⟨_, rfl, rfl, [], rfl, rfl, rfl⟩ | refine .inl ⟨_, _, rfl, rfl, fun _ => ?_, fun h => absurd h (by first | decide | (refine ne_not ?_; assumption))⟩ | refine .inl ⟨_, _, rfl, rfl, (fun h => absurd h (by first | decide | (refine ne_not2 ?_; assumption))), fun _ => ⟨[], rfl, rfl, rfl⟩⟩)
    (all_goals (refine op_move ?_; exact ⟨[], rfl, rfl, rfl⟩))
  · simp only [withD, nthD, Step2, nthDst, putO, postD]
    (first | refine .inr ⟨_, rfl, rfl, [], rfl, rfl, rfl⟩ | refine .inl ⟨_, _, rfl, rfl, fun _ => ?_, fun h => absurd h (by first | decide | (refine ne_not ?_; assumption))⟩ | refine .inl ⟨_, _, rfl, rfl, (fun h => absurd h (by first | decide | (refine ne_not2 ?_; assumption))), fun _ => ⟨[], rfl, rfl, rfl⟩⟩)
    (all_goals ((first | refine op_indexC ?_ | refine op_indexAddr1 ?_ | refine op_indexAddr ?_); exact ⟨[], rfl, rfl, rfl⟩))
  · simp only [withD, nthD, Step2, nthDst, putO, postD]
    (first | refine .inr ⟨_, rfl, rfl, [], rfl, rfl, rfl⟩ | refine .inl ⟨_, _, rfl, rfl, fun _ => ?_, fun h => absurd h (by first | decide | (refine ne_not ?_; assumption))⟩ | refine .inl ⟨_, _, rfl, rfl, (fun h => absurd h (by first | decide | (refine ne_not2 ?_; assumption))), fun _ => ⟨[], rfl, rfl, rfl⟩⟩)
    (all_goals ((first | refine op_load ?_ | refine op_load_agg ?_ | refine op_load ?_ (hm := Sub.mem (by assumption) (by (repeat (apply List.mem_cons_of_mem)); assumption)) | refine op_load_agg ?_ (hm := Sub.mem (by assumption) (by (repeat (apply List.mem_cons_of_mem)); assumption)) | refine op_loadH hG rfl ?_ | refine op_load_aggH hG rfl ?_); exact ⟨[], rfl, rfl, rfl⟩))
  · simp only [withD, nthD, Step2, nthDst, putO, postD]
    (first | refine .inr ⟨_, rfl, rfl, [], rfl, rfl, rfl⟩ | refine .inl ⟨_, _, rfl, rfl, fun _ => ?_, fun h => absurd h (by first | decide | (refine ne_not ?_; assumption))⟩ | refine .inl ⟨_, _, rfl, rfl, (fun h => absurd h (by first | decide | (refine ne_not2 ?_; assumption))), fun _ => ⟨[], rfl, rfl, rfl⟩⟩)
    (all_goals (refine op_fcmp ?_; exact ⟨[], rfl, rfl, rfl⟩))
  · simp only [withD, nthD, Step2, nthDst, putO, postD]
    ((first | refine op_pick_true ?_ | refine op_pick_false ?_ | refine op_pick_true' ?_ | refine op_pick_false' ?_); exact ⟨[], rfl, rfl, rfl⟩)
  simp only [FinalsD, nthDst, putO, List.drop_succ_cons, List.drop_zero]
  rintro -
  repeat' first
    | refine tc_seq ?_ | refine tc_region ?_ | refine at_seq_normal ?_ | refine tl_nil ?_ | refine tl_cons ?_ | refine op_move ?_ | refine op_assign ?_ | refine op_load ?_ | refine op_load_agg ?_ | refine op_indexC ?_
    | refine op_indexAddr1 ?_ | refine op_indexAddr ?_ | refine op_fcmp ?_ | refine op_pick_true ?_ | refine op_pick_false ?_ | refine op_pick_true' ?_ | refine op_pick_false' ?_ | (refine op_farith ?_; intro _ _) | refine op_loadK rfl ?_ | refine op_load_aggK rfl ?_
    | refine tc_cond_t ?_ | refine tc_cond_f ?_ | refine tc_cond (fun _ => ?_) (fun _ => ?_) | refine tc_skip ?_ | refine tc_ret ?_ | refine at_seq_ret ?_ | refine tl_guard_yes ?_ | refine tl_guard_no ?_ | refine tl_guard_yes' ?_ | refine tl_guard_no' ?_
    | refine tl_guard_undef ?_ | refine tl_guard_split (fun _ => ?_) (fun _ => ?_)
  apply fun hole0 hole1 hole2 hole3 hole4 hole5 hole6 hole7 hole8 hole9 hole10 hole11 hole12 hole13 hole14 hole15 hole16 hole17 hole18 hole19 hole20 hole21 hole22 hole23 hE hD hml hdl hpr prem fin => tc_drawnD 31 [PhiD.is hole0, PhiD.is hole1, PhiD.is hole2, PhiD.is hole3, PhiD.is hole4, PhiD.is hole5, PhiD.gen (some' (fun w ex => (∃ r, FI 16384 r (nbx - nax) ∧ w = .float .f64 r) ∧ ex = [])), PhiD.is hole6, PhiD.is hole7, PhiD.is hole8, PhiD.is hole9, PhiD.is hole10, PhiD.is hole11, PhiD.gen (some' (fun w ex => (∃ r, FI 16384 r (nbx - nax) ∧ w = .float .f64 r) ∧ ex = [])), PhiD.gen (some' (fun w ex => (∃ r, FI 268435456 r ((nbx - nax) * (nbx - nax)) ∧ w = .float .f64 r) ∧ ex = [])), PhiD.is hole12, PhiD.is hole13, PhiD.is hole14, PhiD.is hole15, PhiD.is hole16, PhiD.is hole17, PhiD.gen (some' (fun w ex => (∃ r, FI 16384 r (nby - nay) ∧ w = .float .f64 r) ∧ ex = [])), PhiD.is hole18, PhiD.is hole19, PhiD.is hole20, PhiD.is hole21, PhiD.is hole22, PhiD.is hole23, PhiD.gen (some' (fun w ex => (∃ r, FI 16384 r (nby - nay) ∧ w = .float .f64 r) ∧ ex = [])), PhiD.gen (some' (fun w ex => (∃ r, FI 268435456 r ((nby - nay) * (nby - nay)) ∧ w = .float .f64 r) ∧ ex = [])), PhiD.gen (some' (fun w ex => (∃ r, FI 536870912 r ((nbx - nax) * (nbx - nax) + (nby - nay) * (nby - nay)) ∧ w = .float .f64 r) ∧ ex = []))]
    [some 29, some 30, some 31, some 32, some 33, some 34, some 35, some 36, some 37, some 38, some 39, some 40, some 41, some 42, some 43, some 44, some 45, some 46, some 47, some 48, some 49, some 50, some 51, some 52, some 53, some 54, some 55, some 56, some 57, some 58, some 59, some 7] [[], [0], [1], [], [3], [4], [2, 5], [], [7], [8], [], [10], [11], [9, 12], [6, 13], [], [15], [16], [], [18], [19], [17, 20], [], [22], [23], [], [25], [26], [24, 27], [21, 28], [14, 29]] mixed ⟨(some_mono _), (some_mono _), (some_mono _), (some_mono _), (some_mono _), (some_mono _), (some_mono _), trivial⟩ prem fin hE hD rfl hml hdl hpr
  rotate_left 25
  · first | kernel_rfl | exact rfl
  · first | kernel_rfl | exact rfl
  · exact Nat.le_of_ble_eq_true rfl
  · first | kernel_rfl | exact rfl
  · first | kernel_rfl | exact rfl
  refine ⟨fun G hG => ?_, fun G hG => ?_, fun G hG => ?_, fun G hG => ?_, fun G hG => ?_, fun G hG => ?_, fun G hG => ?_, fun G hG => ?_, fun G hG => ?_, fun G hG => ?_, fun G hG => ?_, fun G hG => ?_, fun G hG => ?_, fun G hG => ?_, fun G hG => ?_, fun G hG => ?_, fun G hG => ?_, fun G hG => ?_, fun G hG => ?_, fun G hG => ?_, fun G hG => ?_, fun G hG => ?_, fun G hG => ?_, fun G hG => ?_, fun G hG => ?_, fun G hG => ?_, fun G hG => ?_, fun G hG => ?_, fun G hG => ?_, fun G hG => ?_, fun G hG => ?_, trivial⟩
  · simp only [withD, nthD, Step2, nthDst, putO, postD]
    (refine op_move ?_; exact ⟨[], rfl, rfl, rfl⟩)
  · simp only [withD, nthD, Step2, nthDst, putO, postD]
    ((first | refine op_indexC ?_ | refine op_indexAddr1 ?_ | refine op_indexAddr ?_); exact ⟨[], rfl, rfl, rfl⟩)
  · simp only [withD, nthD, Step2, nthDst, putO, postD]
    ((first | refine op_load ?_ | refine op_load_agg ?_ | refine op_load ?_ (hm := Sub.mem (by assumption) (by (repeat (apply List.mem_cons_of_mem)); assumption)) | refine op_load_agg ?_ (hm := Sub.mem (by assumption) (by (repeat (apply List.mem_cons_of_mem)); assumption)) | refine op_loadH hG rfl ?_ | refine op_load_aggH hG rfl ?_); exact ⟨[], rfl, rfl, rfl⟩)
  · simp only [withD, nthD, Step2, nthDst, putO, postD]
    (refine op_move ?_; exact ⟨[], rfl, rfl, rfl⟩)
  · simp only [withD, nthD, Step2, nthDst, putO, postD]
    ((first | refine op_indexC ?_ | refine op_indexAddr1 ?_ | refine op_indexAddr ?_); exact ⟨[], rfl, rfl, rfl⟩)
  · simp only [withD, nthD, Step2, nthDst, putO, postD]
    ((first | refine op_load ?_ | refine op_load_agg ?_ | refine op_load ?_ (hm := Sub.mem (by assumption) (by (repeat (apply List.mem_cons_of_mem)); assumption)) | refine op_load_agg ?_ (hm := Sub.mem (by assumption) (by (repeat (apply List.mem_cons_of_mem)); assumption)) | refine op_loadH hG rfl ?_ | refine op_load_aggH hG rfl ?_); exact ⟨[], rfl, rfl, rfl⟩)
  · simp only [withD, nthD, Step2, nthDst, putO, postD]
    (refine op_farith ?_; intro _ h; exact ⟨[], rfl, ⟨_, FI.sub fbx fax (by decide) h, rfl⟩, rfl⟩)
  · simp only [withD, nthD, Step2, nthDst, putO, postD]
    (refine op_move ?_; exact ⟨[], rfl, rfl, rfl⟩)
  · simp only [withD, nthD, Step2, nthDst, putO, postD]
    ((first | refine op_indexC ?_ | refine op_indexAddr1 ?_ | refine op_indexAddr ?_); exact ⟨[], rfl, rfl, rfl⟩)
  · simp only [withD, nthD, Step2, nthDst, putO, postD]
    ((first | refine op_load ?_ | refine op_load_agg ?_ | refine op_load ?_ (hm := Sub.mem (by assumption) (by (repeat (apply List.mem_cons_of_mem)); assumption)) | refine op_load_agg ?_ (hm := Sub.mem (by assumption) (by (repeat (apply List.mem_cons_of_mem)); assumption)) | refine op_loadH hG rfl ?_ | refine op_load_aggH hG rfl ?_); exact ⟨[], rfl, rfl, rfl⟩)
  · simp only [withD, nthD, Step2, nthDst, putO, postD]
    (refine op_move ?_; exact ⟨[], rfl, rfl, rfl⟩)
  · simp only [withD, nthD, Step2, nthDst, putO, postD]
    ((first | refine op_indexC ?_ | refine op_indexAddr1 ?_ | refine op_indexAddr ?_); exact ⟨[], rfl, rfl, rfl⟩)
  · simp only [withD, nthD, Step2, nthDst, putO, postD]
    ((first | refine op_load ?_ | refine op_load_agg ?_ | refine op_load ?_ (hm := Sub.mem (by assumption) (by (repeat (apply List.mem_cons_of_mem)); assumption)) | refine op_load_agg ?_ (hm := Sub.mem (by assumption) (by (repeat (apply List.mem_cons_of_mem)); assumption)) | refine op_loadH hG rfl ?_ | refine op_load_aggH hG rfl ?_); exact ⟨[], rfl, rfl, rfl⟩)
  · simp only [withD, nthD, Step2, nthDst, putO, postD]
    (refine op_farith ?_; intro _ h; exact ⟨[], rfl, ⟨_, FI.sub fbx fax (by decide) h, rfl⟩, rfl⟩)
  · simp only [withD, nthD, Step2, nthDst, putO, postD]
    rintro _ _ ⟨⟨rl6, hl6, rfl⟩, rfl⟩ - _ _ ⟨⟨rl13, hl13, rfl⟩, rfl⟩ -
    (refine op_farith ?_; intro _ h; exact ⟨[], rfl, ⟨_, FI.mul hl6 hl13 (by decide) h, rfl⟩, rfl⟩)
  · simp only [withD, nthD, Step2, nthDst, putO, postD]
    (refine op_move ?_; exact ⟨[], rfl, rfl, rfl⟩)
  · simp only [withD, nthD, Step2, nthDst, putO, postD]
    ((first | refine op_indexC ?_ | refine op_indexAddr1 ?_ | refine op_indexAddr ?_); exact ⟨[], rfl, rfl, rfl⟩)
  · simp only [withD, nthD, Step2, nthDst, putO, postD]
    ((first | refine op_load ?_ | refine op_load_agg ?_ | refine op_load ?_ (hm := Sub.mem (by assumption) (by (repeat (apply List.mem_cons_of_mem)); assumption)) | refine op_load_agg ?_ (hm := Sub.mem (by assumption) (by (repeat (apply List.mem_cons_of_mem)); assumption)) | refine op_loadH hG rfl ?_ | refine op_load_aggH hG rfl ?_); exact ⟨[], rfl, rfl, rfl⟩)
  · simp only [withD, nthD, Step2, nthDst, putO, postD]
    (refine op_move ?_; exact ⟨[], rfl, rfl, rfl⟩)
  · simp only [withD, nthD, Step2, nthDst, putO, postD]
    ((first | refine op_indexC ?_ | refine op_indexAddr1 ?_ | refine op_indexAddr ?_); exact ⟨[], rfl, rfl, rfl⟩)
  · simp only [withD, nthD, Step2, nthDst, putO, postD]
    ((first | refine op_load ?_ | refine op_load_agg ?_ | refine op_load ?_ (hm := Sub.mem (by assumption) (by (repeat (apply List.mem_cons_of_mem)); assumption)) | refine op_load_agg ?_ (hm := Sub.mem (by assumption) (by (repeat (apply List.mem_cons_of_mem)); assumption)) | refine op_loadH hG rfl ?_ | refine op_load_aggH hG rfl ?_); exact ⟨[], rfl, rfl, rfl⟩)
  · simp only [withD, nthD, Step2, nthDst, putO, postD]
    (refine op_farith ?_; intro _ h; exact ⟨[], rfl, ⟨_, FI.sub fby fay (by decide) h, rfl⟩, rfl⟩)
  · simp only [withD, nthD, Step2, nthDst, putO, postD]
    (refine op_move ?_; exact ⟨[], rfl, rfl, rfl⟩)
  · simp only [withD, nthD, Step2, nthDst, putO, postD]
    ((first | refine op_indexC ?_ | refine op_indexAddr1 ?_ | refine op_indexAddr ?_); exact ⟨[], rfl, rfl, rfl⟩)
  · simp only [withD, nthD, Step2, nthDst, putO, postD]
    ((first | refine op_load ?_ | refine op_load_agg ?_ | refine op_load ?_ (hm := Sub.mem (by assumption) (by (repeat (apply List.mem_cons_of_mem)); assumption)) | refine op_load_agg ?_ (hm := Sub.mem (by assumption) (by (repeat (apply List.mem_cons_of_mem)); assumption)) | refine op_loadH hG rfl ?_ | refine op_load_aggH hG rfl ?_); exact ⟨[], rfl, rfl, rfl⟩)
  · simp only [withD, nthD, Step2, nthDst, putO, postD]
    (refine op_move ?_; exact ⟨[], rfl, rfl, rfl⟩)
  · simp only [withD, nthD, Step2, nthDst, putO, postD]
    ((first | refine op_indexC ?_ | refine op_indexAddr1 ?_ | refine op_indexAddr ?_); exact ⟨[], rfl, rfl, rfl⟩)
  · simp only [withD, nthD, Step2, nthDst, putO, postD]
    ((first | refine op_load ?_ | refine op_load_agg ?_ | refine op_load ?_ (hm := Sub.mem (by assumption) (by (repeat (apply List.mem_cons_of_mem)); assumption)) | refine op_load_agg ?_ (hm := Sub.mem (by assumption) (by (repeat (apply List.mem_cons_of_mem)); assumption)) | refine op_loadH hG rfl ?_ | refine op_load_aggH hG rfl ?_); exact ⟨[], rfl, rfl, rfl⟩)
  · simp only [withD, nthD, Step2, nthDst, putO, postD]
    (refine op_farith ?_; intro _ h; exact ⟨[], rfl, ⟨_, FI.sub fby fay (by decide) h, rfl⟩, rfl⟩)
  · simp only [withD, nthD, Step2, nthDst, putO, postD]
    rintro _ _ ⟨⟨rl21, hl21, rfl⟩, rfl⟩ - _ _ ⟨⟨rl28, hl28, rfl⟩, rfl⟩ -
    (refine op_farith ?_; intro _ h; exact ⟨[], rfl, ⟨_, FI.mul hl21 hl28 (by decide) h, rfl⟩, rfl⟩)
  · simp only [withD, nthD, Step2, nthDst, putO, postD]
    rintro _ _ ⟨⟨rl14, hl14, rfl⟩, rfl⟩ - _ _ ⟨⟨rl29, hl29, rfl⟩, rfl⟩ -
    (refine op_farith ?_; intro _ h; exact ⟨[], rfl, ⟨_, FI.add hl14 hl29 (by decide) h, rfl⟩, rfl⟩)
  simp only [FinalsD, nthDst, putO, List.drop_succ_cons, List.drop_zero]
  rintro _ _ _ _ _ _ _ _ _ _ _ _ _ _ ⟨⟨⟨rl30, hl30, rfl⟩, rfl⟩, ⟨⟨rl29, hl29, rfl⟩, rfl⟩, ⟨⟨rl28, hl28, rfl⟩, rfl⟩, ⟨⟨rl21, hl21, rfl⟩, rfl⟩, ⟨⟨rl14, hl14, rfl⟩, rfl⟩, ⟨⟨rl13, hl13, rfl⟩, rfl⟩, ⟨⟨rl6, hl6, rfl⟩, rfl⟩, -⟩
  try simp only [List.nil_append]
  repeat' first
    | refine tc_seq ?_ | refine tc_region ?_ | refine at_seq_normal ?_ | refine tl_nil ?_ | refine tl_cons ?_ | refine op_move ?_ | refine op_assign ?_ | refine op_load ?_ | refine op_load_agg ?_ | refine op_indexC ?_
    | refine op_indexAddr1 ?_ | refine op_indexAddr ?_ | refine op_fcmp ?_ | refine op_pick_true ?_ | refine op_pick_false ?_ | refine op_pick_true' ?_ | refine op_pick_false' ?_ | (refine op_farith ?_; intro _ _) | refine op_loadK rfl ?_ | refine op_load_aggK rfl ?_
    | refine tc_cond_t ?_ | refine tc_cond_f ?_ | refine tc_cond (fun _ => ?_) (fun _ => ?_) | refine tc_skip ?_ | refine tc_ret ?_ | refine at_seq_ret ?_ | refine tl_guard_yes ?_ | refine tl_guard_no ?_ | refine tl_guard_yes' ?_ | refine tl_guard_no' ?_
    | refine tl_guard_undef ?_ | refine tl_guard_split (fun _ => ?_) (fun _ => ?_)
  apply fun hole0 hole1 hole2 hole3 hole4 hole5 hole6 hole7 hole8 hole9 hole10 hole11 hole12 hole13 hole14 hole15 hole16 hole17 hole18 hole19 hole20 hole21 hole22 hole23 hole24 hE hD hml hdl hpr prem fin => tc_drawnD 33 [PhiD.is hole0, PhiD.is hole1, PhiD.is hole2, PhiD.is hole3, PhiD.is hole4, PhiD.is hole5, PhiD.gen (some' (fun w ex => (∃ r, FI 16384 r (npx - nax) ∧ w = .float .f64 r) ∧ ex = [])), PhiD.is hole6, PhiD.is hole7, PhiD.is hole8, PhiD.is hole9, PhiD.is hole10, PhiD.is hole11, PhiD.gen (some' (fun w ex => (∃ r, FI 16384 r (nbx - nax) ∧ w = .float .f64 r) ∧ ex = [])), PhiD.gen (some' (fun w ex => (∃ r, FI 268435456 r ((npx - nax) * (nbx - nax)) ∧ w = .float .f64 r) ∧ ex = [])), PhiD.is hole12, PhiD.is hole13, PhiD.is hole14, PhiD.is hole15, PhiD.is hole16, PhiD.is hole17, PhiD.gen (some' (fun w ex => (∃ r, FI 16384 r (npy - nay) ∧ w = .float .f64 r) ∧ ex = [])), PhiD.is hole18, PhiD.is hole19, PhiD.is hole20, PhiD.is hole21, PhiD.is hole22, PhiD.is hole23, PhiD.gen (some' (fun w ex => (∃ r, FI 16384 r (nby - nay) ∧ w = .float .f64 r) ∧ ex = [])), PhiD.gen (some' (fun w ex => (∃ r, FI 268435456 r ((npy - nay) * (nby - nay)) ∧ w = .float .f64 r) ∧ ex = [])), PhiD.gen (some' (fun w ex => (∃ r, FI 536870912 r ((npx - nax) * (nbx - nax) + (npy - nay) * (nby - nay)) ∧ w = .float .f64 r) ∧ ex = [])), PhiD.is hole24, PhiD.gen (some' (fun w ex => (∃ x r, FI 536870912 x ((npx - nax) * (nbx - nax) + (npy - nay) * (nby - nay)) ∧ FAr .quo x rl30 r ∧ w = .float .f64 r) ∧ ex = []))]
    [some 60, some 61, some 62, some 63, some 64, some 65, some 66, some 67, some 68, some 69, some 70, some 71, some 72, some 73, some 74, some 75, some 76, some 77, some 78, some 79, some 80, some 81, some 82, some 83, some 84, some 85, some 86, some 87, some 88, some 89, some 90, some 91, some 92, some 8] [[], [0], [1], [], [3], [4], [2, 5], [], [7], [8], [], [10], [11], [9, 12], [6, 13], [], [15], [16], [], [18], [19], [17, 20], [], [22], [23], [], [25], [26], [24, 27], [21, 28], [14, 29], [], [30, 31]] mixed ⟨(some_mono _), (some_mono _), (some_mono _), (some_mono _), (some_mono _), (some_mono _), (some_mono _), (some_mono _), trivial⟩ prem fin hE hD rfl hml hdl hpr
  rotate_left 26
  · first | kernel_rfl | exact rfl
  · first | kernel_rfl | exact rfl
  · exact Nat.le_of_ble_eq_true rfl
  · first | kernel_rfl | exact rfl
  · first | kernel_rfl | exact rfl
  refine ⟨fun G hG => ?_, fun G hG => ?_, fun G hG => ?_, fun G hG => ?_, fun G hG => ?_, fun G hG => ?_, fun G hG => ?_, fun G hG => ?_, fun G hG => ?_, fun G hG => ?_, fun G hG => ?_, fun G hG => ?_, fun G hG => ?_, fun G hG => ?_, fun G hG => ?_, fun G hG => ?_, fun G hG => ?_, fun G hG => ?_, fun G hG => ?_, fun G hG => ?_, fun G hG => ?_, fun G hG => ?_, fun G hG => ?_, fun G hG => ?_, fun G hG => ?_, fun G hG => ?_, fun G hG => ?_, fun G hG => ?_, fun G hG => ?_, fun G hG => ?_, fun G hG => ?_, fun G hG => ?_, fun G hG => ?_, trivial⟩
  · simp only [withD, nthD, Step2, nthDst, putO, postD]
    (refine op_move ?_; exact ⟨[], rfl, rfl, rfl⟩)
  · simp only [withD, nthD, Step2, nthDst, putO, postD]
    ((first | refine op_indexC ?_ | refine op_indexAddr1 ?_ | refine op_indexAddr ?_); exact ⟨[], rfl, rfl, rfl⟩)
  · simp only [withD, nthD, Step2, nthDst, putO, postD]
    ((first | refine op_load ?_ | refine op_load_agg ?_ | refine op_load ?_ (hm := Sub.mem (by assumption) (by (repeat (apply List.mem_cons_of_mem)); assumption)) | refine op_load_agg ?_ (hm := Sub.mem (by assumption) (by (repeat (apply List.mem_cons_of_mem)); assumption)) | refine op_loadH hG rfl ?_ | refine op_load_aggH hG rfl ?_); exact ⟨[], rfl, rfl, rfl⟩)
  · simp only [withD, nthD, Step2, nthDst, putO, postD]
    (refine op_move ?_; exact ⟨[], rfl, rfl, rfl⟩)
  · simp only [withD, nthD, Step2, nthDst, putO, postD]
    ((first | refine op_indexC ?_ | refine op_indexAddr1 ?_ | refine op_indexAddr ?_); exact ⟨[], rfl, rfl, rfl⟩)
  · simp only [withD, nthD, Step2, nthDst, putO, postD]
    ((first | refine op_load ?_ | refine op_load_agg ?_ | refine op_load ?_ (hm := Sub.mem (by assumption) (by (repeat (apply List.mem_cons_of_mem)); assumption)) | refine op_load_agg ?_ (hm := Sub.mem (by assumption) (by (repeat (apply List.mem_cons_of_mem)); assumption)) | refine op_loadH hG rfl ?_ | refine op_load_aggH hG rfl ?_); exact ⟨[], rfl, rfl, rfl⟩)
  · simp only [withD, nthD, Step2, nthDst, putO, postD]
    (refine op_farith ?_; intro _ h; exact ⟨[], rfl, ⟨_, FI.sub fpx fax (by decide) h, rfl⟩, rfl⟩)
  · simp only [withD, nthD, Step2, nthDst, putO, postD]
    (refine op_move ?_; exact ⟨[], rfl, rfl, rfl⟩)
  · simp only [withD, nthD, Step2, nthDst, putO, postD]
    ((first | refine op_indexC ?_ | refine op_indexAddr1 ?_ | refine op_indexAddr ?_); exact ⟨[], rfl, rfl, rfl⟩)
  · simp only [withD, nthD, Step2, nthDst, putO, postD]
    ((first | refine op_load ?_ | refine op_load_agg ?_ | refine op_load ?_ (hm := Sub.mem (by assumption) (by (repeat (apply List.mem_cons_of_mem)); assumption)) | refine op_load_agg ?_ (hm := Sub.mem (by assumption) (by (repeat (apply List.mem_cons_of_mem)); assumption)) | refine op_loadH hG rfl ?_ | refine op_load_aggH hG rfl ?_); exact ⟨[], rfl, rfl, rfl⟩)
  · simp only [withD, nthD, Step2, nthDst, putO, postD]
    (refine op_move ?_; exact ⟨[], rfl, rfl, rfl⟩)
  · simp only [withD, nthD, Step2, nthDst, putO, postD]
    ((first | refine op_indexC ?_ | refine op_indexAddr1 ?_ | refine op_indexAddr ?_); exact ⟨[], rfl, rfl, rfl⟩)
  · simp only [withD, nthD, Step2, nthDst, putO, postD]
    ((first | refine op_load ?_ | refine op_load_agg ?_ | refine op_load ?_ (hm := Sub.mem (by assumption) (by (repeat (apply List.mem_cons_of_mem)); assumption)) | refine op_load_agg ?_ (hm := Sub.mem (by assumption) (by (repeat (apply List.mem_cons_of_mem)); assumption)) | refine op_loadH hG rfl ?_ | refine op_load_aggH hG rfl ?_); exact ⟨[], rfl, rfl, rfl⟩)
  · simp only [withD, nthD, Step2, nthDst, putO, postD]
    (refine op_farith ?_; intro _ h; exact ⟨[], rfl, ⟨_, FI.sub fbx fax (by decide) h, rfl⟩, rfl⟩)
  · simp only [withD, nthD, Step2, nthDst, putO, postD]
    rintro _ _ ⟨⟨rt6, ht6, rfl⟩, rfl⟩ - _ _ ⟨⟨rt13, ht13, rfl⟩, rfl⟩ -
    (refine op_farith ?_; intro _ h; exact ⟨[], rfl, ⟨_, FI.mul ht6 ht13 (by decide) h, rfl⟩, rfl⟩)
  · simp only [withD, nthD, Step2, nthDst, putO, postD]
    (refine op_move ?_; exact ⟨[], rfl, rfl, rfl⟩)
  · simp only [withD, nthD, Step2, nthDst, putO, postD]
    ((first | refine op_indexC ?_ | refine op_indexAddr1 ?_ | refine op_indexAddr ?_); exact ⟨[], rfl, rfl, rfl⟩)
  · simp only [withD, nthD, Step2, nthDst, putO, postD]
    ((first | refine op_load ?_ | refine op_load_agg ?_ | refine op_load ?_ (hm := Sub.mem (by assumption) (by (repeat (apply List.mem_cons_of_mem)); assumption)) | refine op_load_agg ?_ (hm := Sub.mem (by assumption) (by (repeat (apply List.mem_cons_of_mem)); assumption)) | refine op_loadH hG rfl ?_ | refine op_load_aggH hG rfl ?_); exact ⟨[], rfl, rfl, rfl⟩)
  · simp only [withD, nthD, Step2, nthDst, putO, postD]
    (refine op_move ?_; exact ⟨[], rfl, rfl, rfl⟩)
  · simp only [withD, nthD, Step2, nthDst, putO, postD]
    ((first | refine op_indexC ?_ | refine op_indexAddr1 ?_ | refine op_indexAddr ?_); exact ⟨[], rfl, rfl, rfl⟩)
  · simp only [withD, nthD, Step2, nthDst, putO, postD]
    ((first | refine op_load ?_ | refine op_load_agg ?_ | refine op_load ?_ (hm := Sub.mem (by assumption) (by (repeat (apply List.mem_cons_of_mem)); assumption)) | refine op_load_agg ?_ (hm := Sub.mem (by assumption) (by (repeat (apply List.mem_cons_of_mem)); assumption)) | refine op_loadH hG rfl ?_ | refine op_load_aggH hG rfl ?_); exact ⟨[], rfl, rfl, rfl⟩)
  · simp only [withD, nthD, Step2, nthDst, putO, postD]
    (refine op_farith ?_; intro _ h; exact ⟨[], rfl, ⟨_, FI.sub fpy fay (by decide) h, rfl⟩, rfl⟩)
  · simp only [withD, nthD, Step2, nthDst, putO, postD]
    (refine op_move ?_; exact ⟨[], rfl, rfl, rfl⟩)
  · simp only [withD, nthD, Step2, nthDst, putO, postD]
    ((first | refine op_indexC ?_ | refine op_indexAddr1 ?_ | refine op_indexAddr ?_); exact ⟨[], rfl, rfl, rfl⟩)
  · simp only [withD, nthD, Step2, nthDst, putO, postD]
    ((first | refine op_load ?_ | refine op_load_agg ?_ | refine op_load ?_ (hm := Sub.mem (by assumption) (by (repeat (apply List.mem_cons_of_mem)); assumption)) | refine op_load_agg ?_ (hm := Sub.mem (by assumption) (by (repeat (apply List.mem_cons_of_mem)); assumption)) | refine op_loadH hG rfl ?_ | refine op_load_aggH hG rfl ?_); exact ⟨[], rfl, rfl, rfl⟩)
  · simp only [withD, nthD, Step2, nthDst, putO, postD]
    (refine op_move ?_; exact ⟨[], rfl, rfl, rfl⟩)
  · simp only [withD, nthD, Step2, nthDst, putO, postD]
    ((first | refine op_indexC ?_ | refine op_indexAddr1 ?_ | refine op_indexAddr ?_); exact ⟨[], rfl, rfl, rfl⟩)
  · simp only [withD, nthD, Step2, nthDst, putO, postD]
    ((first | refine op_load ?_ | refine op_load_agg ?_ | refine op_load ?_ (hm := Sub.mem (by assumption) (by (repeat (apply List.mem_cons_of_mem)); assumption)) | refine op_load_agg ?_ (hm := Sub.mem (by assumption) (by (repeat (apply List.mem_cons_of_mem)); assumption)) | refine op_loadH hG rfl ?_ | refine op_load_aggH hG rfl ?_); exact ⟨[], rfl, rfl, rfl⟩)
  · simp only [withD, nthD, Step2, nthDst, putO, postD]
    (refine op_farith ?_; intro _ h; exact ⟨[], rfl, ⟨_, FI.sub fby fay (by decide) h, rfl⟩, rfl⟩)
  · simp only [withD, nthD, Step2, nthDst, putO, postD]
    rintro _ _ ⟨⟨rt21, ht21, rfl⟩, rfl⟩ - _ _ ⟨⟨rt28, ht28, rfl⟩, rfl⟩ -
    (refine op_farith ?_; intro _ h; exact ⟨[], rfl, ⟨_, FI.mul ht21 ht28 (by decide) h, rfl⟩, rfl⟩)
  · simp only [withD, nthD, Step2, nthDst, putO, postD]
    rintro _ _ ⟨⟨rt14, ht14, rfl⟩, rfl⟩ - _ _ ⟨⟨rt29, ht29, rfl⟩, rfl⟩ -
    (refine op_farith ?_; intro _ h; exact ⟨[], rfl, ⟨_, FI.add ht14 ht29 (by decide) h, rfl⟩, rfl⟩)
  · simp only [withD, nthD, Step2, nthDst, putO, postD]
    (refine op_move ?_; exact ⟨[], rfl, rfl, rfl⟩)
  · simp only [withD, nthD, Step2, nthDst, putO, postD]
    rintro _ _ ⟨⟨rt30, ht30, rfl⟩, rfl⟩ -
    (refine op_farith ?_; intro _ h; exact ⟨[], rfl, ⟨_, _, ht30, h, rfl⟩, rfl⟩)
  simp only [FinalsD, nthDst, putO, List.drop_succ_cons, List.drop_zero]
  rintro _ _ _ _ _ _ _ _ _ _ _ _ _ _ _ _ ⟨⟨⟨xt, rt, ft, ht, rfl⟩, rfl⟩, ⟨⟨rt30, ht30, rfl⟩, rfl⟩, ⟨⟨rt29, ht29, rfl⟩, rfl⟩, ⟨⟨rt28, ht28, rfl⟩, rfl⟩, ⟨⟨rt21, ht21, rfl⟩, rfl⟩, ⟨⟨rt14, ht14, rfl⟩, rfl⟩, ⟨⟨rt13, ht13, rfl⟩, rfl⟩, ⟨⟨rt6, ht6, rfl⟩, rfl⟩, -⟩
  try simp only [List.nil_append]
  have hLp : 0 < nrm (nbx - nax) (nby - nay) := hpos
  obtain ⟨s1, s2, s3⟩ := share ft hl30 (by decide) (by decide) hLp ht
  by_cases hT : dot2 (npx - nax) (npy - nay) (nbx - nax) (nby - nay) ≤ 0
  · have hs1 : fcmp .leq rt 0 = true := by rw [s1]; exact decide_eq_true hT
    repeat' first
      | (first | refine tc_seq ?_ | refine tc_region ?_ | refine at_seq_normal ?_ | refine tl_nil ?_ | refine tl_cons ?_ | refine op_move ?_ | refine op_assign ?_ | refine op_load ?_ | refine op_load_agg ?_ | refine op_indexC ?_ | refine op_indexAddr1 ?_ | refine op_indexAddr ?_ | refine op_fcmp ?_ | refine op_pick_true ?_ | refine op_pick_false ?_ | refine op_pick_true' ?_ | refine op_pick_false' ?_ | (refine op_farith ?_; intro _ _) | refine op_loadK rfl ?_ | refine op_load_aggK rfl ?_ | refine tc_cond_t ?_ | refine tc_cond_f ?_ | refine tc_cond (fun _ => ?_) (fun _ => ?_) | refine tc_skip ?_ | refine tc_ret ?_ | refine at_seq_ret ?_ | refine tl_guard_yes ?_ | refine tl_guard_no ?_ | refine tl_guard_yes' ?_ | refine tl_guard_no' ?_ | refine tl_guard_undef ?_ | refine tl_guard_split (fun _ => ?_) (fun _ => ?_) | fail)
      | (refine op_call ((dist2 k1 o1 c1 k2 o2 c2 l1 l2 T1 T2 z1 z2 px py ax ay 8192 16384 268435456 536870912 npx npy nax nay _ (by decide) (by decide) (by decide) fpx fpy fax fay m1 m2 u1a u1b u2a u2b).mono ?_); rintro _ _ ⟨⟨r, c, rfl, g1, g2, g3⟩, rfl⟩)
      | (refine op_call ((dist2 k1 o1 c1 k3 o3 c3 l1 l3 T1 T3 z1 z3 px py bx by' 8192 16384 268435456 536870912 npx npy nbx nby _ (by decide) (by decide) (by decide) fpx fpy fbx fby m1 m3 u1a u1b u3a u3b).mono ?_); rintro _ _ ⟨⟨r, c, rfl, g1, g2, g3⟩, rfl⟩)
      | fail
    exact ret_tmp (hk := ⟨⟨r, c, rfl, g1, g2, by unfold seg0; rw [if_pos hT]; exact Rl.to g3 (by decide)⟩, rfl⟩)
  have hs1 : fcmp .leq rt 0 = false := by rw [s1]; exact decide_eq_false hT
  by_cases hG : fcmp .geq rt 4607182418800017408 = true
  · have hge : nrm (nbx - nax) (nby - nay) ≤ dot2 (npx - nax) (npy - nay) (nbx - nax) (nby - nay) := s2 hG
    repeat' first
      | (first | refine tc_seq ?_ | refine tc_region ?_ | refine at_seq_normal ?_ | refine tl_nil ?_ | refine tl_cons ?_ | refine op_move ?_ | refine op_assign ?_ | refine op_load ?_ | refine op_load_agg ?_ | refine op_indexC ?_ | refine op_indexAddr1 ?_ | refine op_indexAddr ?_ | refine op_fcmp ?_ | refine op_pick_true ?_ | refine op_pick_false ?_ | refine op_pick_true' ?_ | refine op_pick_false' ?_ | (refine op_farith ?_; intro _ _) | refine op_loadK rfl ?_ | refine op_load_aggK rfl ?_ | refine tc_cond_t ?_ | refine tc_cond_f ?_ | refine tc_cond (fun _ => ?_) (fun _ => ?_) | refine tc_skip ?_ | refine tc_ret ?_ | refine at_seq_ret ?_ | refine tl_guard_yes ?_ | refine tl_guard_no ?_ | refine tl_guard_yes' ?_ | refine tl_guard_no' ?_ | refine tl_guard_undef ?_ | refine tl_guard_split (fun _ => ?_) (fun _ => ?_) | fail)
      | (refine op_call ((dist2 k1 o1 c1 k2 o2 c2 l1 l2 T1 T2 z1 z2 px py ax ay 8192 16384 268435456 536870912 npx npy nax nay _ (by decide) (by decide) (by decide) fpx fpy fax fay m1 m2 u1a u1b u2a u2b).mono ?_); rintro _ _ ⟨⟨r, c, rfl, g1, g2, g3⟩, rfl⟩)
      | (refine op_call ((dist2 k1 o1 c1 k3 o3 c3 l1 l3 T1 T3 z1 z3 px py bx by' 8192 16384 268435456 536870912 npx npy nbx nby _ (by decide) (by decide) (by decide) fpx fpy fbx fby m1 m3 u1a u1b u3a u3b).mono ?_); rintro _ _ ⟨⟨r, c, rfl, g1, g2, g3⟩, rfl⟩)
      | fail
    have e1 : npx - nax - (nbx - nax) = npx - nbx := by omega
    have e2 : npy - nay - (nby - nay) = npy - nby := by omega
    exact ret_tmp (hk := ⟨⟨r, c, rfl, g1, g2, by unfold seg0; rw [if_neg hT, if_pos hge, e1, e2]; exact Rl.to g3 (by decide)⟩, rfl⟩)
  have hG0 : fcmp .geq rt 4607182418800017408 = false := by simpa using hG
  have hle := s3 hG0
  repeat' first
    | refine tc_seq ?_ | refine tc_region ?_ | refine at_seq_normal ?_ | refine tl_nil ?_ | refine tl_cons ?_ | refine op_move ?_ | refine op_assign ?_ | refine op_load ?_ | refine op_load_agg ?_ | refine op_indexC ?_
    | refine op_indexAddr1 ?_ | refine op_indexAddr ?_ | refine op_fcmp ?_ | refine op_pick_true ?_ | refine op_pick_false ?_ | refine op_pick_true' ?_ | refine op_pick_false' ?_ | (refine op_farith ?_; intro _ _) | refine op_loadK rfl ?_ | refine op_load_aggK rfl ?_
    | refine tc_cond_t ?_ | refine tc_cond_f ?_ | refine tc_cond (fun _ => ?_) (fun _ => ?_) | refine tc_skip ?_ | refine tc_ret ?_ | refine at_seq_ret ?_ | refine tl_guard_yes ?_ | refine tl_guard_no ?_ | refine tl_guard_yes' ?_ | refine tl_guard_no' ?_
    | refine tl_guard_undef ?_ | refine tl_guard_split (fun _ => ?_) (fun _ => ?_)
  apply fun hole0 hole1 hole2 hole3 hole4 hole5 hole6 hole7 hole8 hole9 hole10 hole11 hole12 hole13 hole14 hole15 hole16 hole17 hole18 hole19 hole20 hole21 hole22 hole23 hole24 hE hD hml hdl hpr prem fin => tc_drawnD 33 [PhiD.is hole0, PhiD.is hole1, PhiD.is hole2, PhiD.is hole3, PhiD.is hole4, PhiD.is hole5, PhiD.gen (some' (fun w ex => (∃ r, FI 16384 r (nay - npy) ∧ w = .float .f64 r) ∧ ex = [])), PhiD.is hole6, PhiD.is hole7, PhiD.is hole8, PhiD.is hole9, PhiD.is hole10, PhiD.is hole11, PhiD.gen (some' (fun w ex => (∃ r, FI 16384 r (nbx - nax) ∧ w = .float .f64 r) ∧ ex = [])), PhiD.gen (some' (fun w ex => (∃ r, FI 268435456 r ((nay - npy) * (nbx - nax)) ∧ w = .float .f64 r) ∧ ex = [])), PhiD.is hole12, PhiD.is hole13, PhiD.is hole14, PhiD.is hole15, PhiD.is hole16, PhiD.is hole17, PhiD.gen (some' (fun w ex => (∃ r, FI 16384 r (nax - npx) ∧ w = .float .f64 r) ∧ ex = [])), PhiD.is hole18, PhiD.is hole19, PhiD.is hole20, PhiD.is hole21, PhiD.is hole22, PhiD.is hole23, PhiD.gen (some' (fun w ex => (∃ r, FI 16384 r (nby - nay) ∧ w = .float .f64 r) ∧ ex = [])), PhiD.gen (some' (fun w ex => (∃ r, FI 268435456 r ((nax - npx) * (nby - nay)) ∧ w = .float .f64 r) ∧ ex = [])), PhiD.gen (some' (fun w ex => (∃ r, FI 536870912 r ((nay - npy) * (nbx - nax) - (nax - npx) * (nby - nay)) ∧ w = .float .f64 r) ∧ ex = [])), PhiD.is hole24, PhiD.gen (some' (fun w ex => (∃ x r, FI 536870912 x ((nay - npy) * (nbx - nax) - (nax - npx) * (nby - nay)) ∧ FAr .quo x rl30 r ∧ w = .float .f64 r) ∧ ex = []))]
    [some 103, some 104, some 105, some 106, some 107, some 108, some 109, some 110, some 111, some 112, some 113, some 114, some 115, some 116, some 117, some 118, some 119, some 120, some 121, some 122, some 123, some 124, some 125, some 126, some 127, some 128, some 129, some 130, some 131, some 132, some 133, some 134, some 135, some 9] [[], [0], [1], [], [3], [4], [2, 5], [], [7], [8], [], [10], [11], [9, 12], [6, 13], [], [15], [16], [], [18], [19], [17, 20], [], [22], [23], [], [25], [26], [24, 27], [21, 28], [14, 29], [], [30, 31]] mixed ⟨(some_mono _), (some_mono _), (some_mono _), (some_mono _), (some_mono _), (some_mono _), (some_mono _), (some_mono _), trivial⟩ prem fin hE hD rfl hml hdl hpr
  rotate_left 26
  · first | kernel_rfl | exact rfl
  · first | kernel_rfl | exact rfl
  · exact Nat.le_of_ble_eq_true rfl
  · first | kernel_rfl | exact rfl
  · first | kernel_rfl | exact rfl
  refine ⟨fun G hG => ?_, fun G hG => ?_, fun G hG => ?_, fun G hG => ?_, fun G hG => ?_, fun G hG => ?_, fun G hG => ?_, fun G hG => ?_, fun G hG => ?_, fun G hG => ?_, fun G hG => ?_, fun G hG => ?_, fun G hG => ?_, fun G hG => ?_, fun G hG => ?_, fun G hG => ?_, fun G hG => ?_, fun G hG => ?_, fun G hG => ?_, fun G hG => ?_, fun G hG => ?_, fun G hG => ?_, fun G hG => ?_, fun G hG => ?_, fun G hG => ?_, fun G hG => ?_, fun G hG => ?_, fun G hG => ?_, fun G hG => ?_, fun G hG => ?_, fun G hG => ?_, fun G hG => ?_, fun G hG => ?_, trivial⟩
  · simp only [withD, nthD, Step2, nthDst, putO, postD]
    (refine op_move ?_; exact ⟨[], rfl, rfl, rfl⟩)
  · simp only [withD, nthD, Step2, nthDst, putO, postD]
    ((first | refine op_indexC ?_ | refine op_indexAddr1 ?_ | refine op_indexAddr ?_); exact ⟨[], rfl, rfl, rfl⟩)
  · simp only [withD, nthD, Step2, nthDst, putO, postD]
    ((first | refine op_load ?_ | refine op_load_agg ?_ | refine op_load ?_ (hm := Sub.mem (by assumption) (by (repeat (apply List.mem_cons_of_mem)); assumption)) | refine op_load_agg ?_ (hm := Sub.mem (by assumption) (by (repeat (apply List.mem_cons_of_mem)); assumption)) | refine op_loadH hG rfl ?_ | refine op_load_aggH hG rfl ?_); exact ⟨[], rfl, rfl, rfl⟩)
  · simp only [withD, nthD, Step2, nthDst, putO, postD]
    (refine op_move ?_; exact ⟨[], rfl, rfl, rfl⟩)
  · simp only [withD, nthD, Step2, nthDst, putO, postD]
    ((first | refine op_indexC ?_ | refine op_indexAddr1 ?_ | refine op_indexAddr ?_); exact ⟨[], rfl, rfl, rfl⟩)
  · simp only [withD, nthD, Step2, nthDst, putO, postD]
    ((first | refine op_load ?_ | refine op_load_agg ?_ | refine op_load ?_ (hm := Sub.mem (by assumption) (by (repeat (apply List.mem_cons_of_mem)); assumption)) | refine op_load_agg ?_ (hm := Sub.mem (by assumption) (by (repeat (apply List.mem_cons_of_mem)); assumption)) | refine op_loadH hG rfl ?_ | refine op_load_aggH hG rfl ?_); exact ⟨[], rfl, rfl, rfl⟩)
  · simp only [withD, nthD, Step2, nthDst, putO, postD]
    (refine op_farith ?_; intro _ h; exact ⟨[], rfl, ⟨_, FI.sub fay fpy (by decide) h, rfl⟩, rfl⟩)
  · simp only [withD, nthD, Step2, nthDst, putO, postD]
    (refine op_move ?_; exact ⟨[], rfl, rfl, rfl⟩)
  · simp only [withD, nthD, Step2, nthDst, putO, postD]
    ((first | refine op_indexC ?_ | refine op_indexAddr1 ?_ | refine op_indexAddr ?_); exact ⟨[], rfl, rfl, rfl⟩)
  · simp only [withD, nthD, Step2, nthDst, putO, postD]
    ((first | refine op_load ?_ | refine op_load_agg ?_ | refine op_load ?_ (hm := Sub.mem (by assumption) (by (repeat (apply List.mem_cons_of_mem)); assumption)) | refine op_load_agg ?_ (hm := Sub.mem (by assumption) (by (repeat (apply List.mem_cons_of_mem)); assumption)) | refine op_loadH hG rfl ?_ | refine op_load_aggH hG rfl ?_); exact ⟨[], rfl, rfl, rfl⟩)
  · simp only [withD, nthD, Step2, nthDst, putO, postD]
    (refine op_move ?_; exact ⟨[], rfl, rfl, rfl⟩)
  · simp only [withD, nthD, Step2, nthDst, putO, postD]
    ((first | refine op_indexC ?_ | refine op_indexAddr1 ?_ | refine op_indexAddr ?_); exact ⟨[], rfl, rfl, rfl⟩)
  · simp only [withD, nthD, Step2, nthDst, putO, postD]
    ((first | refine op_load ?_ | refine op_load_agg ?_ | refine op_load ?_ (hm := Sub.mem (by assumption) (by (repeat (apply List.mem_cons_of_mem)); assumption)) | refine op_load_agg ?_ (hm := Sub.mem (by assumption) (by (repeat (apply List.mem_cons_of_mem)); assumption)) | refine op_loadH hG rfl ?_ | refine op_load_aggH hG rfl ?_); exact ⟨[], rfl, rfl, rfl⟩)
  · simp only [withD, nthD, Step2, nthDst, putO, postD]
    (refine op_farith ?_; intro _ h; exact ⟨[], rfl, ⟨_, FI.sub fbx fax (by decide) h, rfl⟩, rfl⟩)
  · simp only [withD, nthD, Step2, nthDst, putO, postD]
    rintro _ _ ⟨⟨rc6, hc6, rfl⟩, rfl⟩ - _ _ ⟨⟨rc13, hc13, rfl⟩, rfl⟩ -
    (refine op_farith ?_; intro _ h; exact ⟨[], rfl, ⟨_, FI.mul hc6 hc13 (by decide) h, rfl⟩, rfl⟩)
  · simp only [withD, nthD, Step2, nthDst, putO, postD]
    (refine op_move ?_; exact ⟨[], rfl, rfl, rfl⟩)
  · simp only [withD, nthD, Step2, nthDst, putO, postD]
    ((first | refine op_indexC ?_ | refine op_indexAddr1 ?_ | refine op_indexAddr ?_); exact ⟨[], rfl, rfl, rfl⟩)
  · simp only [withD, nthD, Step2, nthDst, putO, postD]
    ((first | refine op_load ?_ | refine op_load_agg ?_ | refine op_load ?_ (hm := Sub.mem (by assumption) (by (repeat (apply List.mem_cons_of_mem)); assumption)) | refine op_load_agg ?_ (hm := Sub.mem (by assumption) (by (repeat (apply List.mem_cons_of_mem)); assumption)) | refine op_loadH hG rfl ?_ | refine op_load_aggH hG rfl ?_); exact ⟨[], rfl, rfl, rfl⟩)
  · simp only [withD, nthD, Step2, nthDst, putO, postD]
    (refine op_move ?_; exact ⟨[], rfl, rfl, rfl⟩)
  · simp only [withD, nthD, Step2, nthDst, putO, postD]
    ((first | refine op_indexC ?_ | refine op_indexAddr1 ?_ | refine op_indexAddr ?_); exact ⟨[], rfl, rfl, rfl⟩)
  · simp only [withD, nthD, Step2, nthDst, putO, postD]
    ((first | refine op_load ?_ | refine op_load_agg ?_ | refine op_load ?_ (hm := Sub.mem (by assumption) (by (repeat (apply List.mem_cons_of_mem)); assumption)) | refine op_load_agg ?_ (hm := Sub.mem (by assumption) (by (repeat (apply List.mem_cons_of_mem)); assumption)) | refine op_loadH hG rfl ?_ | refine op_load_aggH hG rfl ?_); exact ⟨[], rfl, rfl, rfl⟩)
  · simp only [withD, nthD, Step2, nthDst, putO, postD]
    (refine op_farith ?_; intro _ h; exact ⟨[], rfl, ⟨_, FI.sub fax fpx (by decide) h, rfl⟩, rfl⟩)
  · simp only [withD, nthD, Step2, nthDst, putO, postD]
    (refine op_move ?_; exact ⟨[], rfl, rfl, rfl⟩)
  · simp only [withD, nthD, Step2, nthDst, putO, postD]
    ((first | refine op_indexC ?_ | refine op_indexAddr1 ?_ | refine op_indexAddr ?_); exact ⟨[], rfl, rfl, rfl⟩)
  · simp only [withD, nthD, Step2, nthDst, putO, postD]
    ((first | refine op_load ?_ | refine op_load_agg ?_ | refine op_load ?_ (hm := Sub.mem (by assumption) (by (repeat (apply List.mem_cons_of_mem)); assumption)) | refine op_load_agg ?_ (hm := Sub.mem (by assumption) (by (repeat (apply List.mem_cons_of_mem)); assumption)) | refine op_loadH hG rfl ?_ | refine op_load_aggH hG rfl ?_); exact ⟨[], rfl, rfl, rfl⟩)
  · simp only [withD, nthD, Step2, nthDst, putO, postD]
    (refine op_move ?_; exact ⟨[], rfl, rfl, rfl⟩)
  · simp only [withD, nthD, Step2, nthDst, putO, postD]
    ((first | refine op_indexC ?_ | refine op_indexAddr1 ?_ | refine op_indexAddr ?_); exact ⟨[], rfl, rfl, rfl⟩)
  · simp only [withD, nthD, Step2, nthDst, putO, postD]
    ((first | refine op_load ?_ | refine op_load_agg ?_ | refine op_load ?_ (hm := Sub.mem (by assumption) (by (repeat (apply List.mem_cons_of_mem)); assumption)) | refine op_load_agg ?_ (hm := Sub.mem (by assumption) (by (repeat (apply List.mem_cons_of_mem)); assumption)) | refine op_loadH hG rfl ?_ | refine op_load_aggH hG rfl ?_); exact ⟨[], rfl, rfl, rfl⟩)
  · simp only [withD, nthD, Step2, nthDst, putO, postD]
    (refine op_farith ?_; intro _ h; exact ⟨[], rfl, ⟨_, FI.sub fby fay (by decide) h, rfl⟩, rfl⟩)
  · simp only [withD, nthD, Step2, nthDst, putO, postD]
    rintro _ _ ⟨⟨rc21, hc21, rfl⟩, rfl⟩ - _ _ ⟨⟨rc28, hc28, rfl⟩, rfl⟩ -
    (refine op_farith ?_; intro _ h; exact ⟨[], rfl, ⟨_, FI.mul hc21 hc28 (by decide) h, rfl⟩, rfl⟩)
  · simp only [withD, nthD, Step2, nthDst, putO, postD]
    rintro _ _ ⟨⟨rc14, hc14, rfl⟩, rfl⟩ - _ _ ⟨⟨rc29, hc29, rfl⟩, rfl⟩ -
    (refine op_farith ?_; intro _ h; exact ⟨[], rfl, ⟨_, FI.sub hc14 hc29 (by decide) h, rfl⟩, rfl⟩)
  · simp only [withD, nthD, Step2, nthDst, putO, postD]
    (refine op_move ?_; exact ⟨[], rfl, rfl, rfl⟩)
  · simp only [withD, nthD, Step2, nthDst, putO, postD]
    rintro _ _ ⟨⟨rc30, hc30, rfl⟩, rfl⟩ -
    (refine op_farith ?_; intro _ h; exact ⟨[], rfl, ⟨_, _, hc30, h, rfl⟩, rfl⟩)
  simp only [FinalsD, nthDst, putO, List.drop_succ_cons, List.drop_zero]
  rintro _ _ _ _ _ _ _ _ _ _ _ _ _ _ _ _ ⟨⟨⟨xc, rc, fc, hc, rfl⟩, rfl⟩, ⟨⟨rc30, hc30, rfl⟩, rfl⟩, ⟨⟨rc29, hc29, rfl⟩, rfl⟩, ⟨⟨rc28, hc28, rfl⟩, rfl⟩, ⟨⟨rc21, hc21, rfl⟩, rfl⟩, ⟨⟨rc14, hc14, rfl⟩, rfl⟩, ⟨⟨rc13, hc13, rfl⟩, rfl⟩, ⟨⟨rc6, hc6, rfl⟩, rfl⟩, -⟩
  try simp only [List.nil_append]
  repeat' first
    | (first | refine tc_seq ?_ | refine tc_region ?_ | refine at_seq_normal ?_ | refine tl_nil ?_ | refine tl_cons ?_ | refine op_move ?_ | refine op_assign ?_ | refine op_load ?_ | refine op_load_agg ?_ | refine op_indexC ?_ | refine op_indexAddr1 ?_ | refine op_indexAddr ?_ | refine op_fcmp ?_ | refine op_pick_true ?_ | refine op_pick_false ?_ | refine op_pick_true' ?_ | refine op_pick_false' ?_ | (refine op_farith ?_; intro _ _) | refine op_loadK rfl ?_ | refine op_load_aggK rfl ?_ | refine tc_cond_t ?_ | refine tc_cond_f ?_ | refine tc_cond (fun _ => ?_) (fun _ => ?_) | refine tc_skip ?_ | refine tc_ret ?_ | refine at_seq_ret ?_ | refine tl_guard_yes ?_ | refine tl_guard_no ?_ | refine tl_guard_yes' ?_ | refine tl_guard_no' ?_ | refine tl_guard_undef ?_ | refine tl_guard_split (fun _ => ?_) (fun _ => ?_) | fail)
    | (refine op_call ((abs _ _).mono ?_); rintro _ _ ⟨rfl, rfl⟩)
    | (refine op_call ((sqrt _ _).mono ?_); rintro _ _ ⟨⟨w, rfl, hw⟩, rfl⟩)
    | fail
  rename_i v hv
  obtain ⟨c, g1, g2, g3⟩ := third fc hl30 (by decide) (by decide) hLp hc hw hv
  refine ret_tmp (hk := ⟨⟨v, c, rfl, g1, g2, ?_⟩, rfl⟩)
  have e3 : (nay - npy) * (nbx - nax) - (nax - npx) * (nby - nay) = crs (npx - nax) (npy - nay) (nbx - nax) (nby - nay) := by unfold crs; grind
  rw [e3] at g3
  by_cases hEq : dot2 (npx - nax) (npy - nay) (nbx - nax) (nby - nay) = nrm (nbx - nax) (nby - nay)
  · unfold seg0
    rw [if_neg hT, if_pos (by omega), ← seg_edge hEq hLp]
    exact g3
  · unfold seg0
    have hle' : dot2 (npx - nax) (npy - nay) (nbx - nax) (nby - nay) ≤ nrm (nbx - nax) (nby - nay) := hle
    rw [if_neg hT, if_neg (by omega)]
    exact g3

end Go.Proofs.Ythafjfgmbmpfoaa.Pld
