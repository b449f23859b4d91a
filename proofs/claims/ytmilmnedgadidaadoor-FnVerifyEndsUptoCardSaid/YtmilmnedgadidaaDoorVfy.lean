/-
  The check of ends: verify, by way of the thin package. No conditions.
-/
import Derived.Test.YtmilmnedgadidaaDoorGm6
import Derived.Test.YtmilmnedgadidaaDoorLg19
import Derived.Test.YtmilmnedgadidaaDoorLg20
import Derived.Test.YtmilmnedgadidaaDoorLg22
import Derived.Test.YtmilmnedgadidaaDoorLg24
set_option linter.unusedVariables false
set_option linter.unusedSimpArgs false
namespace Go.Proofs.YtmilmnedgadidaaDoor.Gm
open Go.Lg Go.Proofs.YtmilmnedgadidaaDoor.Geom

theorem is_blockV {G : Heap} {a : Option Addr} {n c : Nat} {zs : List Int} (h : IS G (.slice a n c) zs) (hn : zs ≠ []) :
    ∃ k off l T fz, a = some ⟨k, off, none⟩ ∧ (k, Obj.cells ⟨l⟩ T fz) ∈ G ∧ ∀ i x, zs[i]? = some x → l[off + i]? = some (.int .i64 x) := by
  obtain ⟨a', cap, h1, h0, h2⟩ := h
  obtain ⟨k, off, l, T, fz, h3, h4, h5⟩ := h2 (by simpa using hn)
  cases h1
  refine ⟨k, off, l, T, fz, h3, h4, fun i x hi => cut_get h5 ?_⟩
  rw [List.getElem?_map, hi]; rfl
/-- The end before the i-th one. -/
def pv (es : List Int) (i : Nat) : Int := if i = 0 then 0 else es.getD (i - 1) 0
/-- The last end is not ahead of the one before it, and is where the numbers end. -/
def Fine (es : List Int) (L : Nat) : Prop := pv es (es.length - 1) ≤ pv es es.length ∧ pv es es.length = (L : Int)
structure Near (es : List Int) (S L : Nat) : Prop where
  pos : es.length ≠ 0
  mod : ∀ i, i < es.length → (es.getD i 0).tmod (S : Int) = 0
  asc : ∀ i, i + 1 < es.length → pv es i ≤ es.getD i 0
  len : L % S = 0
set_option maxHeartbeats 8000000 in
theorem verify2 (kp : Nat) (T : TypeId) (l s : Int) (a : Option Addr) (c : Nat) (ae : Option Addr) (ce : Nat) (L : Nat) (es : List Int) (S : Nat) (H : Heap) (hm : (kp, Obj.cells ⟨row5 l (strideI l) (.slice a L c) s (.slice ae es.length ce)⟩ T (0, 0)) ∈ H)
    (he : IS H (.slice ae es.length ce) es) (hl : 1 ≤ l) (hS : strideI l = (S : Int)) (hS0 : 0 < S) (hnr : Near es S L) (hbe : es.length ≤ 2000) (hL : L ≤ 2000)
    (hE5 : ∃ u v T fz, (5, Obj.cells ⟨[.iface u v]⟩ T fz) ∈ H) (hE6 : ∃ u v T fz, (6, Obj.cells ⟨[.iface u v]⟩ T fz) ∈ H) :
    Does Tryd.prog 20 [.pointer (some ⟨kp, 0 + 0, none⟩)] H fun w H' => ((w = .nilIface ∧ Fine es L) ∨ ((∃ u v, w = .iface u v) ∧ ¬ Fine es L)) ∧ H' = H := by
  rw [hS] at hm
  obtain ⟨u5, v5, T5, z5, m5⟩ := hE5
  obtain ⟨u6, v6, T6, z6, m6⟩ := hE6
  have hpos := hnr.pos
  obtain ⟨ke, oe, le, Te, ze, rfl, hme, hge⟩ := is_blockV he (by intro h; rw [h] at hpos; simp at hpos)
  have hSne : (S : Int) ≠ 0 := by omega
  have c1 : icmp .neq (S : Int) (S : Int) = false := by simp [icmp]
  have c2 : icmp .eql (S : Int) 0 = false := by simp only [icmp, beq_eq_false_iff_ne]; omega
  have hrem : Int.tmod (L : Int) (S : Int) = 0 := by
    have e1 : Int.tmod (L : Int) (S : Int) = ((L % S : Nat) : Int) := (Int.ofNat_tmod _ _).symm
    rw [e1, hnr.len]; rfl
  have c3 : icmp .neq (0 : Int) 0 = false := rfl
  refine fn_enter 95 Tryd.func20 fun W => ?_
  repeat' first
    | refine tc_seq ?_ | refine tc_region ?_ | refine at_seq_normal ?_ | refine tl_nil ?_ | refine tl_cons ?_ | refine op_move ?_ | refine op_assign ?_ | refine op_fieldAddr ?_ | refine op_load ?_ | refine op_load_agg ?_
    | refine op_indexC ?_ | refine op_indexAddr1 ?_ | refine op_indexAddr ?_ | refine op_icmp ?_ | refine op_iarith ?_ | refine op_len_slice ?_ | refine op_nilCheck_ptr ?_ | refine op_nilCheck_meth ?_ | refine op_irem ?_ | refine op_loadK rfl ?_
    | refine op_load_aggK rfl ?_ | refine tc_cond_t ?_ | refine tc_cond_f ?_ | refine tc_cond (fun _ => ?_) (fun _ => ?_) | refine tc_block ?_ | refine tc_skip ?_ | refine tc_ret ?_ | refine tc_exit ?_ | refine at_seq_ret ?_ | refine at_seq_exit ?_
    | refine at_block_normal ?_ | refine at_block_ret ?_ | refine at_block_exit_self ?_ | refine at_block_exit_ne ?_ | refine at_loop_ret ?_ | refine at_loop_exit ?_
  apply fun hole0 hole1 hole2 hole3 hole4 hole5 hole6 hole7 hole8 hole9 hole10 hole11 hE hD hml hdl hpr prem fin => tc_drawnD 14 [PhiD.is hole0, PhiD.is hole1, PhiD.is hole2, PhiD.is hole3, PhiD.is hole4, PhiD.is hole5, PhiD.is hole6, PhiD.is hole7, PhiD.is hole8, PhiD.is hole9, PhiD.is hole10, PhiD.is hole11, PhiD.is (.int .i64 (S : Int)), PhiD.is (.bool false)]
    [some 6, some 7, some 8, some 9, some 10, some 11, some 12, some 13, some 14, some 15, some 16, some 17, some 18, some 19] [[], [0], [1], [2], [3], [4], [], [6], [7], [8], [9], [10], [11], [5, 12]] mixed trivial prem fin hE hD rfl hml hdl hpr
  rotate_left 13
  · first | kernel_rfl | exact rfl
  · first | kernel_rfl | exact rfl
  · exact Nat.le_of_ble_eq_true rfl
  · first | kernel_rfl | exact rfl
  · first | kernel_rfl | exact rfl
  refine ⟨fun G hG => ?_, fun G hG => ?_, fun G hG => ?_, fun G hG => ?_, fun G hG => ?_, fun G hG => ?_, fun G hG => ?_, fun G hG => ?_, fun G hG => ?_, fun G hG => ?_, fun G hG => ?_, fun G hG => ?_, fun G hG => ?_, fun G hG => ?_, trivial⟩
  · simp only [withD, nthD, Step2, nthDst, putO, postD]
    (refine op_move ?_; exact ⟨[], rfl, rfl, rfl⟩)
  · simp only [withD, nthD, Step2, nthDst, putO, postD]
    ((first | refine op_nilCheck_ptr ?_ | refine op_nilCheck_meth ?_); exact ⟨[], rfl, rfl, rfl⟩)
  · simp only [withD, nthD, Step2, nthDst, putO, postD]
    (refine op_fieldAddr ?_; exact ⟨[], rfl, rfl, rfl⟩)
  · simp only [withD, nthD, Step2, nthDst, putO, postD]
    (refine op_fieldAddr ?_; exact ⟨[], rfl, rfl, rfl⟩)
  · simp only [withD, nthD, Step2, nthDst, putO, postD]
    (refine op_fieldAddr ?_; exact ⟨[], rfl, rfl, rfl⟩)
  · simp only [withD, nthD, Step2, nthDst, putO, postD]
    (refine op_load ?_ (hm := hG _ hm); exact ⟨[], rfl, rfl, rfl⟩)
  · simp only [withD, nthD, Step2, nthDst, putO, postD]
    (refine op_move ?_; exact ⟨[], rfl, rfl, rfl⟩)
  · simp only [withD, nthD, Step2, nthDst, putO, postD]
    ((first | refine op_nilCheck_ptr ?_ | refine op_nilCheck_meth ?_); exact ⟨[], rfl, rfl, rfl⟩)
  · simp only [withD, nthD, Step2, nthDst, putO, postD]
    (refine op_fieldAddr ?_; exact ⟨[], rfl, rfl, rfl⟩)
  · simp only [withD, nthD, Step2, nthDst, putO, postD]
    (refine op_fieldAddr ?_; exact ⟨[], rfl, rfl, rfl⟩)
  · simp only [withD, nthD, Step2, nthDst, putO, postD]
    (refine op_fieldAddr ?_; exact ⟨[], rfl, rfl, rfl⟩)
  · simp only [withD, nthD, Step2, nthDst, putO, postD]
    (refine op_load ?_ (hm := hG _ hm); exact ⟨[], rfl, rfl, rfl⟩)
  · simp only [withD, nthD, Step2, nthDst, putO, postD]
    (refine op_call ((stride l hl _).mono ?_); rintro _ _ ⟨rfl, rfl⟩; rw [hS]; exact ⟨[], rfl, rfl, rfl⟩)
  · simp only [withD, nthD, Step2, nthDst, putO, postD]
    (refine op_icmp ?_; rw [c1]; exact ⟨[], rfl, rfl, rfl⟩)
  simp only [FinalsD, nthDst, putO, List.drop_succ_cons, List.drop_zero]
  rintro -
  repeat' first
    | (first | refine tc_seq ?_ | refine tc_region ?_ | refine at_seq_normal ?_ | refine tl_nil ?_ | refine tl_cons ?_ | refine op_move ?_ | refine op_assign ?_ | refine op_fieldAddr ?_ | refine op_load ?_ | refine op_load_agg ?_ | refine op_indexC ?_ | refine op_indexAddr1 ?_ | refine op_indexAddr ?_ | refine op_icmp ?_ | refine op_iarith ?_ | refine op_len_slice ?_ | refine op_nilCheck_ptr ?_ | refine op_nilCheck_meth ?_ | refine op_irem ?_ | refine op_loadK rfl ?_ | refine op_load_aggK rfl ?_ | refine tc_cond_t ?_ | refine tc_cond_f ?_ | refine tc_block ?_ | refine tc_skip ?_ | refine tc_ret ?_ | refine tc_exit ?_ | refine at_seq_ret ?_ | refine at_seq_exit ?_ | refine at_block_normal ?_ | refine at_block_ret ?_ | refine at_block_exit_self ?_ | refine at_block_exit_ne ?_ | refine at_loop_ret ?_ | refine at_loop_exit ?_ | fail)
    | fail
  apply fun hole0 hole1 hole2 hole3 hole4 hole5 hole6 hole7 hole8 hole9 hole10 hole11 hole12 hE hD hml hdl hpr prem fin => tc_drawnD 15 [PhiD.is hole0, PhiD.is hole1, PhiD.is hole2, PhiD.is hole3, PhiD.is hole4, PhiD.is hole5, PhiD.is hole6, PhiD.is hole7, PhiD.is hole8, PhiD.is hole9, PhiD.is hole10, PhiD.is hole11, PhiD.is hole12, PhiD.is (.int .i64 0), PhiD.is (.bool false)]
    [some 44, some 45, some 46, some 47, some 48, some 49, some 50, some 51, some 52, some 53, some 54, some 55, some 56, some 57, some 58] [[], [0], [1], [2], [3], [4], [5], [], [7], [8], [9], [10], [11], [6, 12], [13]] mixed trivial prem fin hE hD rfl hml hdl hpr
  rotate_left 14
  · first | kernel_rfl | exact rfl
  · first | kernel_rfl | exact rfl
  · exact Nat.le_of_ble_eq_true rfl
  · first | kernel_rfl | exact rfl
  · first | kernel_rfl | exact rfl
  refine ⟨fun G hG => ?_, fun G hG => ?_, fun G hG => ?_, fun G hG => ?_, fun G hG => ?_, fun G hG => ?_, fun G hG => ?_, fun G hG => ?_, fun G hG => ?_, fun G hG => ?_, fun G hG => ?_, fun G hG => ?_, fun G hG => ?_, fun G hG => ?_, fun G hG => ?_, trivial⟩
  · simp only [withD, nthD, Step2, nthDst, putO, postD]
    (refine op_move ?_; exact ⟨[], rfl, rfl, rfl⟩)
  · simp only [withD, nthD, Step2, nthDst, putO, postD]
    ((first | refine op_nilCheck_ptr ?_ | refine op_nilCheck_meth ?_); exact ⟨[], rfl, rfl, rfl⟩)
  · simp only [withD, nthD, Step2, nthDst, putO, postD]
    (refine op_fieldAddr ?_; exact ⟨[], rfl, rfl, rfl⟩)
  · simp only [withD, nthD, Step2, nthDst, putO, postD]
    (refine op_fieldAddr ?_; exact ⟨[], rfl, rfl, rfl⟩)
  · simp only [withD, nthD, Step2, nthDst, putO, postD]
    (refine op_fieldAddr ?_; exact ⟨[], rfl, rfl, rfl⟩)
  · simp only [withD, nthD, Step2, nthDst, putO, postD]
    (refine op_load ?_ (hm := hG _ hm); exact ⟨[], rfl, rfl, rfl⟩)
  · simp only [withD, nthD, Step2, nthDst, putO, postD]
    (refine op_len_slice ?_; exact ⟨[], rfl, rfl, rfl⟩)
  · simp only [withD, nthD, Step2, nthDst, putO, postD]
    (refine op_move ?_; exact ⟨[], rfl, rfl, rfl⟩)
  · simp only [withD, nthD, Step2, nthDst, putO, postD]
    ((first | refine op_nilCheck_ptr ?_ | refine op_nilCheck_meth ?_); exact ⟨[], rfl, rfl, rfl⟩)
  · simp only [withD, nthD, Step2, nthDst, putO, postD]
    (refine op_fieldAddr ?_; exact ⟨[], rfl, rfl, rfl⟩)
  · simp only [withD, nthD, Step2, nthDst, putO, postD]
    (refine op_fieldAddr ?_; exact ⟨[], rfl, rfl, rfl⟩)
  · simp only [withD, nthD, Step2, nthDst, putO, postD]
    (refine op_fieldAddr ?_; exact ⟨[], rfl, rfl, rfl⟩)
  · simp only [withD, nthD, Step2, nthDst, putO, postD]
    (refine op_load ?_ (hm := hG _ hm); exact ⟨[], rfl, rfl, rfl⟩)
  · simp only [withD, nthD, Step2, nthDst, putO, postD]
    (refine op_irem ?_; rw [hrem]; exact ⟨[], rfl, rfl, rfl⟩)
  · simp only [withD, nthD, Step2, nthDst, putO, postD]
    (refine op_icmp ?_; rw [c3]; exact ⟨[], rfl, rfl, rfl⟩)
  simp only [FinalsD, nthDst, putO, List.drop_succ_cons, List.drop_zero]
  rintro -
  repeat' first
    | (first | refine tc_seq ?_ | refine tc_region ?_ | refine at_seq_normal ?_ | refine tl_nil ?_ | refine tl_cons ?_ | refine op_move ?_ | refine op_assign ?_ | refine op_fieldAddr ?_ | refine op_load ?_ | refine op_load_agg ?_ | refine op_indexC ?_ | refine op_indexAddr1 ?_ | refine op_indexAddr ?_ | refine op_icmp ?_ | refine op_iarith ?_ | refine op_len_slice ?_ | refine op_nilCheck_ptr ?_ | refine op_nilCheck_meth ?_ | refine op_irem ?_ | refine op_loadK rfl ?_ | refine op_load_aggK rfl ?_ | refine tc_cond_t ?_ | refine tc_cond_f ?_ | refine tc_block ?_ | refine tc_skip ?_ | refine tc_ret ?_ | refine tc_exit ?_ | refine at_seq_ret ?_ | refine at_seq_exit ?_ | refine at_block_normal ?_ | refine at_block_ret ?_ | refine at_block_exit_self ?_ | refine at_block_exit_ne ?_ | refine at_loop_ret ?_ | refine at_loop_exit ?_ | fail)
    | fail
  refine tc_loopH [(0, _), (63, _), (64, _)] (by repeat (first | exact trivial | refine ⟨rfl, ?_⟩)) (fun j : Nat => [(65, .int .i64 (j : Int)), (3, .int .i64 (pv es j))]) (fun j => j ≤ es.length ∧ (j = es.length → pv es (es.length - 1) ≤ pv es es.length)) (fun j => es.length - j) 0 ⟨Nat.zero_le _, fun h => by omega⟩ ⟨rfl, rfl, trivial⟩ ?_
  rintro j ⟨hj, hend⟩
  by_cases hlt : j < es.length
  · have hb : icmp .lss (j : Int) (es.length : Int) = true := by rw [lss_nat]; simpa using hlt
    have hx : es[j]? = some (es.getD j 0) := by rw [List.getD_eq_getElem?_getD, List.getElem?_eq_getElem hlt]; rfl
    have g1 := hge j _ hx
    have hmo := hnr.mod j hlt
    have hpv : pv es (j + 1) = es.getD j 0 := by unfold pv; rw [if_neg (by omega), Nat.add_sub_cancel]
    have hasc := hnr.asc j
    generalize es.getD j 0 = x at *
    by_cases hlo : x < pv es j
    · have c5 : icmp .lss x (pv es j) = true := by simp only [icmp, decide_eq_true_eq]; exact hlo
      repeat' first
        | (refine op_irem ?_; rw [hmo])
        | (refine op_indexAddr1 (j := j) ?_ (hj := hlt))
        | (refine op_load (k := ke) ?_ (hm := hme) (hv := g1))
        | (refine op_load (k := 5) ?_ (hm := m5))
        | (refine op_load (k := kp) ?_ (hm := hm))
        | (first | refine tc_seq ?_ | refine tc_region ?_ | refine at_seq_normal ?_ | refine tl_nil ?_ | refine tl_cons ?_ | refine op_move ?_ | refine op_assign ?_ | refine op_fieldAddr ?_ | refine op_load ?_ | refine op_load_agg ?_ | refine op_indexC ?_ | refine op_indexAddr1 ?_ | refine op_indexAddr ?_ | refine op_icmp ?_ | refine op_iarith ?_ | refine op_len_slice ?_ | refine op_nilCheck_ptr ?_ | refine op_nilCheck_meth ?_ | refine op_irem ?_ | refine op_loadK rfl ?_ | refine op_load_aggK rfl ?_ | refine tc_cond_t ?_ | refine tc_cond_f ?_ | refine tc_block ?_ | refine tc_skip ?_ | refine tc_ret ?_ | refine tc_exit ?_ | refine at_seq_ret ?_ | refine at_seq_exit ?_ | refine at_block_normal ?_ | refine at_block_ret ?_ | refine at_block_exit_self ?_ | refine at_block_exit_ne ?_ | refine at_loop_ret ?_ | refine at_loop_exit ?_ | fail)
        | fail
      refine ret_tmp (hk := ⟨.inr ⟨⟨_, _, rfl⟩, ?_⟩, rfl⟩)
      rintro ⟨h1, h2⟩
      have hjn : j = es.length - 1 := by
        rcases Nat.lt_or_ge (j + 1) es.length with h | h
        · have := hasc h; omega
        · omega
      have h3 : pv es es.length = x := by rw [← hpv, show j + 1 = es.length by omega]
      rw [← hjn] at h1
      omega
    · have c5 : icmp .lss x (pv es j) = false := by simp only [icmp, decide_eq_false_iff_not]; exact hlo
      repeat' first
        | (refine op_irem ?_; rw [hmo])
        | (refine op_indexAddr1 (j := j) ?_ (hj := hlt))
        | (refine op_load (k := ke) ?_ (hm := hme) (hv := g1))
        | (refine op_load (k := kp) ?_ (hm := hm))
        | (first | refine tc_seq ?_ | refine tc_region ?_ | refine at_seq_normal ?_ | refine tl_nil ?_ | refine tl_cons ?_ | refine op_move ?_ | refine op_assign ?_ | refine op_fieldAddr ?_ | refine op_load ?_ | refine op_load_agg ?_ | refine op_indexC ?_ | refine op_indexAddr1 ?_ | refine op_indexAddr ?_ | refine op_icmp ?_ | refine op_iarith ?_ | refine op_len_slice ?_ | refine op_nilCheck_ptr ?_ | refine op_nilCheck_meth ?_ | refine op_irem ?_ | refine op_loadK rfl ?_ | refine op_load_aggK rfl ?_ | refine tc_cond_t ?_ | refine tc_cond_f ?_ | refine tc_block ?_ | refine tc_skip ?_ | refine tc_ret ?_ | refine tc_exit ?_ | refine at_seq_ret ?_ | refine at_seq_exit ?_ | refine at_block_normal ?_ | refine at_block_ret ?_ | refine at_block_exit_self ?_ | refine at_block_exit_ne ?_ | refine at_loop_ret ?_ | refine at_loop_exit ?_ | fail)
        | fail
      refine at_loopK (j + 1) ⟨hlt, fun h => ?_⟩ (by omega) ⟨next_nat (by omega), geti rfl hpv.symm, trivial⟩ (by repeat (first | exact trivial | refine ⟨rfl, ?_⟩)) (by (repeat (first | exact List.Sublist.refl _ | apply List.Sublist.cons_cons | apply List.Sublist.cons | refine List.Sublist.trans ?_ (List.sublist_append_right _ _))))
      rw [← h, Nat.add_sub_cancel, hpv]
      omega
  · obtain rfl : j = es.length := by omega
    have hb : icmp .lss (es.length : Int) (es.length : Int) = false := by rw [lss_nat]; simp
    have hend := hend rfl
    by_cases hq : pv es es.length = (L : Int)
    · have c6 : icmp .neq (pv es es.length) (L : Int) = false := by rw [hq]; simp [icmp]
      repeat' first
        | (refine op_load (k := kp) ?_ (hm := hm))
        | (first | refine tc_seq ?_ | refine tc_region ?_ | refine at_seq_normal ?_ | refine tl_nil ?_ | refine tl_cons ?_ | refine op_move ?_ | refine op_assign ?_ | refine op_fieldAddr ?_ | refine op_load ?_ | refine op_load_agg ?_ | refine op_indexC ?_ | refine op_indexAddr1 ?_ | refine op_indexAddr ?_ | refine op_icmp ?_ | refine op_iarith ?_ | refine op_len_slice ?_ | refine op_nilCheck_ptr ?_ | refine op_nilCheck_meth ?_ | refine op_irem ?_ | refine op_loadK rfl ?_ | refine op_load_aggK rfl ?_ | refine tc_cond_t ?_ | refine tc_cond_f ?_ | refine tc_block ?_ | refine tc_skip ?_ | refine tc_ret ?_ | refine tc_exit ?_ | refine at_seq_ret ?_ | refine at_seq_exit ?_ | refine at_block_normal ?_ | refine at_block_ret ?_ | refine at_block_exit_self ?_ | refine at_block_exit_ne ?_ | refine at_loop_ret ?_ | refine at_loop_exit ?_ | fail)
        | fail
      exact ret_tmp (hk := ⟨.inl ⟨rfl, hend, hq⟩, rfl⟩)
    · have c6 : icmp .neq (pv es es.length) (L : Int) = true := by simp only [icmp, bne_iff_ne]; exact hq
      repeat' first
        | (refine op_load (k := kp) ?_ (hm := hm))
        | (refine op_load (k := 6) ?_ (hm := m6))
        | (first | refine tc_seq ?_ | refine tc_region ?_ | refine at_seq_normal ?_ | refine tl_nil ?_ | refine tl_cons ?_ | refine op_move ?_ | refine op_assign ?_ | refine op_fieldAddr ?_ | refine op_load ?_ | refine op_load_agg ?_ | refine op_indexC ?_ | refine op_indexAddr1 ?_ | refine op_indexAddr ?_ | refine op_icmp ?_ | refine op_iarith ?_ | refine op_len_slice ?_ | refine op_nilCheck_ptr ?_ | refine op_nilCheck_meth ?_ | refine op_irem ?_ | refine op_loadK rfl ?_ | refine op_load_aggK rfl ?_ | refine tc_cond_t ?_ | refine tc_cond_f ?_ | refine tc_block ?_ | refine tc_skip ?_ | refine tc_ret ?_ | refine tc_exit ?_ | refine at_seq_ret ?_ | refine at_seq_exit ?_ | refine at_block_normal ?_ | refine at_block_ret ?_ | refine at_block_exit_self ?_ | refine at_block_exit_ne ?_ | refine at_loop_ret ?_ | refine at_loop_exit ?_ | fail)
        | fail
      exact ret_tmp (hk := ⟨.inr ⟨⟨_, _, rfl⟩, fun h => hq h.2⟩, rfl⟩)
end Go.Proofs.YtmilmnedgadidaaDoor.Gm
