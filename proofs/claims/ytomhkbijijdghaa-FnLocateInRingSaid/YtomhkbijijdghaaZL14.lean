/-
  Products of whole numbers of any size. No conditions.
-/
import Derived.Test.YtomhkbijijdghaaZL13
set_option linter.unusedVariables false
set_option linter.unusedSimpArgs false
namespace Go.Proofs.Ytomhkbijijdghaa.Lmb
open Go.Lg

theorem lv_set : ∀ (l : List Nat) (p v : Nat), p < l.length → lv (l.set p v) + 4294967296 ^ p * l.getD p 0 = lv l + 4294967296 ^ p * v
  | [], p, v, h => by simp at h
  | x :: l, 0, v, _ => by simp [lv]; omega
  | x :: l, p + 1, v, h => by
    have ih := lv_set l p v (by simpa using h)
    simp only [List.set_cons_succ, lv, List.getD_cons_succ, Nat.pow_succ]
    rw [Nat.mul_comm (4294967296 ^ p) 4294967296, Nat.mul_assoc, Nat.mul_assoc]
    have := congrArg (fun t => 4294967296 * t) ih
    simp only [Nat.mul_add] at this
    omega
theorem lv_rep (n : Nat) : lv (List.replicate n 0) = 0 := by
  induction n with
  | zero => rfl
  | succ n ih => simp [List.replicate_succ, lv, ih]
theorem getD_set0 (l : List Nat) (i t v : Nat) (h : i < l.length) : (l.set i v).getD t 0 = if t = i then v else l.getD t 0 := by
  simp only [List.getD_eq_getElem?_getD, List.getElem?_set]
  by_cases e : i = t
  · subst e; simp [h]
  · rw [if_neg e, if_neg (by omega)]
theorem set_uv {zs : List Nat} {p v : Nat} : setCells (zs.map uv) (0 + p) [.int .u32 ((v : Nat) : Int)] = (zs.set p v).map uv := by
  simp only [setCells, Nat.zero_add]
  rw [List.map_set]; rfl
theorem get_uv {zs : List Nat} {p : Nat} (h : p < zs.length) : (zs.map uv)[0 + p]? = some (.int .u32 ((zs.getD p 0 : Nat) : Int)) := by
  rw [Nat.zero_add, List.getElem?_map, List.getElem?_eq_getElem h, getD_in h]; rfl
theorem us_mem {G : Heap} {k : Nat} {zs : List Nat} {T : TypeId} {fz : Nat × Nat} (h : (k, Obj.cells ⟨zs.map uv⟩ T fz) ∈ G) : US G (.slice (some ⟨k, 0, none⟩) zs.length zs.length) zs :=
  ⟨some ⟨k, 0, none⟩, zs.length, by simp, by simp, fun _ => ⟨k, 0, zs.map uv, T, fz, rfl, h, by rw [List.drop_zero, List.length_map]; exact List.take_of_length_le (by simp)⟩⟩
theorem Lm.set {l : List Nat} (h : Lm l) (p v : Nat) (hv : v < 4294967296) : Lm (l.set p v) := fun x hx => by
  rcases List.mem_or_eq_of_mem_set hx with h1 | h1
  · exact h x h1
  · rw [h1]; exact hv

set_option maxHeartbeats 32000000 in
theorem mul (n1 n2 : Bool) (a1 a2 : Option Addr) (c1 c2 : Nat) (xs ys : List Nat) (H : Heap) (hv : US H (.slice a1 xs.length c1) xs) (hu : US H (.slice a2 ys.length c2) ys) (hx : Lm xs) (hy : Lm ys) (hb : xs.length < 2 ^ 36) (hb2 : ys.length < 2 ^ 36) :
    Does Try.prog 100 [.agg ⟨[.bool n1, .slice a1 xs.length c1]⟩, .agg ⟨[.bool n2, .slice a2 ys.length c2]⟩] H fun w H' => ∃ zs b a c ex, w = .agg ⟨[.bool b, .slice a zs.length c]⟩ ∧ H' = ex ++ H ∧ US (ex ++ H) (.slice a zs.length c) zs ∧ Lm zs ∧ Nrm zs ∧ lv zs = lv xs * lv ys ∧
      b = (decide (lv zs ≠ 0) && (n1 != n2)) ∧ zs.length ≤ xs.length + ys.length := by
  have hwl : IntKind.i64.wrap (iarith .add (xs.length : Int) (ys.length : Int)) = ((xs.length + ys.length : Nat) : Int) := by rw [wrap_add (by omega) (by omega)]; omega
  refine fn_enter 85 Try.func100 fun W => ?_
  repeat' first
    | (rw [hwl])
    | (refine op_makeSlice (l := xs.length + ys.length) (c := xs.length + ys.length) (fun kO => ?_) (by omega) (by omega) (by omega); rw [made_rep])
    | (first | refine tc_seq ?_ | refine tc_region ?_ | refine at_seq_normal ?_ | refine tl_nil ?_ | refine tl_cons ?_ | refine tl_cons_none ?_ | refine op_move ?_ | refine op_assign ?_ | refine op_fieldAddr ?_ | refine op_load ?_ | refine op_load_agg ?_ | refine op_indexC ?_ | refine op_indexAddr1 ?_ | refine op_indexAddr ?_ | refine op_icmp ?_ | refine op_fcmp ?_ | refine op_iarith ?_ | refine op_bcmp ?_ | refine op_unop_not ?_ | refine op_unop_neg_float ?_ | refine op_unop_neg_int ?_ | refine op_len_slice ?_ | refine op_pick_true ?_ | refine op_pick_false ?_ | refine op_pick_true' ?_ | refine op_pick_false' ?_ | refine op_build ?_ | refine op_extract ?_ | refine op_makeInterface ?_ | refine op_typeAssert ?_ | refine op_ptr_nil ?_ | refine op_nilCheck_ptr ?_ | refine op_nilCheck_meth ?_ | refine op_makeMeth ?_ | refine op_makeFunc ?_ | refine op_itof ?_ | refine op_itoi ?_ | refine op_ftoi ?_ | refine op_iquo ?_ | refine op_irem ?_ | refine op_ibits ?_ | refine op_slice_isnil ?_ | refine op_slice_notnil ?_ | refine op_imax ?_ | refine op_imin ?_ | refine op_shl ?_ | refine op_shr ?_ | (refine op_alloc ?_; intro _) | (refine op_box ?_; intro _) | (refine op_buildSlice ?_; intro _) | (refine op_farith ?_; intro _ _) | refine op_store0 ?_ | refine op_store1 ?_ | refine op_store2 ?_ | refine op_store3 ?_ | refine op_store4 ?_ | refine op_store5 ?_ | refine op_storeK rfl ?_ | refine op_loadK rfl ?_ | refine op_load_aggK rfl ?_ | refine tc_cond_t ?_ | refine tc_cond_f ?_ | refine tc_cond (fun _ => ?_) (fun _ => ?_) | refine tc_block ?_ | refine tc_skip ?_ | refine tc_ret ?_ | refine tc_exit ?_ | refine at_seq_ret ?_ | refine at_seq_exit ?_ | refine at_block_normal ?_ | refine at_block_ret ?_ | refine at_block_exit_self ?_ | refine at_block_exit_ne ?_ | refine at_loop_ret ?_ | refine at_loop_exit ?_ | refine tl_guard_yes ?_ | refine tl_guard_no ?_ | refine tl_guard_yes' ?_ | refine tl_guard_no' ?_ | refine tl_guard_undef ?_ | refine tl_guard_split (fun _ => ?_) (fun _ => ?_) | fail)
    | fail
  rename_i k2 k3 k4
  rw [show List.replicate (xs.length + ys.length) (Value.int IntKind.u32 0) = (List.replicate (xs.length + ys.length) 0).map uv by simp [uv]]
  refine tc_loopK [(2, _), (3, _), (4, _), (5, _), (21, _), (22, _)] (by repeat (first | exact trivial | refine ⟨rfl, ?_⟩)) (fun p : Nat × List Nat => [(23, .int .i64 (p.1 : Int))]) (fun p => (kO, Obj.cells ⟨p.2.map uv⟩ 189 (0, 0)) :: (k4, Obj.cells ⟨[.bool false, .slice none 0 0]⟩ 66 (0, 0)) :: (k3, Obj.cells ⟨[.bool n2, .slice a2 ys.length c2]⟩ 66 (0, 0)) :: (k2, Obj.cells ⟨[.bool n1, .slice a1 xs.length c1]⟩ 66 (0, 0)) :: H)
    (fun p => p.1 ≤ xs.length ∧ p.2.length = xs.length + ys.length ∧ Lm p.2 ∧ lv p.2 = lv (xs.take p.1) * lv ys ∧ ∀ t, p.1 + ys.length ≤ t → p.2.getD t 0 = 0) (fun p => xs.length - p.1)
    (0, List.replicate (xs.length + ys.length) 0) ⟨Nat.zero_le _, by simp, (fun x hx => by rw [(List.mem_replicate.1 hx).2]; decide), by simp [lv, lv_rep], fun t _ => by
      rw [List.getD_eq_getElem?_getD, List.getElem?_replicate]; split <;> rfl⟩ ⟨rfl, trivial⟩ (List.Sublist.refl _) ?_
  rintro ⟨i, os⟩ ⟨h1, h2, h3, h4, h5⟩
  simp only at h1 h2 h3 h4 h5 ⊢
  by_cases hlt : i < xs.length
  · have hbb : icmp .lss (i : Int) (xs.length : Int) = true := by rw [lss_nat]; simpa using hlt
    obtain ⟨kA, oA, LA, TA, zA, rfl, mA, allA⟩ := us_block hv (fun e => by rw [e] at hlt; exact absurd hlt (Nat.not_lt_zero _))
    have lA := allA i hlt
    have bA := getD_lt hx i
    have tA := lv_take xs i
    have ex : IntKind.u64.wrap ((xs.getD i 0 : Nat) : Int) = ((xs.getD i 0 : Nat) : Int) := wrap_u64 (by omega) (by omega)
    clear allA
    generalize xs.getD i 0 = x at *
    repeat' first
      | refine op_load (hm := List.mem_cons_of_mem _ (List.mem_cons_of_mem _ (List.mem_cons_of_mem _ (List.mem_cons_of_mem _ mA)))) ?_
      | (first | refine tc_seq ?_ | refine tc_region ?_ | refine at_seq_normal ?_ | refine tl_nil ?_ | refine tl_cons ?_ | refine tl_cons_none ?_ | refine op_move ?_ | refine op_assign ?_ | refine op_fieldAddr ?_ | refine op_load ?_ | refine op_load_agg ?_ | refine op_indexC ?_ | refine op_indexAddr1 ?_ | refine op_indexAddr ?_ | refine op_icmp ?_ | refine op_fcmp ?_ | refine op_iarith ?_ | refine op_bcmp ?_ | refine op_unop_not ?_ | refine op_unop_neg_float ?_ | refine op_unop_neg_int ?_ | refine op_len_slice ?_ | refine op_pick_true ?_ | refine op_pick_false ?_ | refine op_pick_true' ?_ | refine op_pick_false' ?_ | refine op_build ?_ | refine op_extract ?_ | refine op_makeInterface ?_ | refine op_typeAssert ?_ | refine op_ptr_nil ?_ | refine op_nilCheck_ptr ?_ | refine op_nilCheck_meth ?_ | refine op_makeMeth ?_ | refine op_makeFunc ?_ | refine op_itof ?_ | refine op_itoi ?_ | refine op_ftoi ?_ | refine op_iquo ?_ | refine op_irem ?_ | refine op_ibits ?_ | refine op_slice_isnil ?_ | refine op_slice_notnil ?_ | refine op_imax ?_ | refine op_imin ?_ | refine op_shl ?_ | refine op_shr ?_ | (refine op_alloc ?_; intro _) | (refine op_box ?_; intro _) | (refine op_buildSlice ?_; intro _) | (refine op_farith ?_; intro _ _) | refine op_store0 ?_ | refine op_store1 ?_ | refine op_store2 ?_ | refine op_store3 ?_ | refine op_store4 ?_ | refine op_store5 ?_ | refine op_storeK rfl ?_ | refine op_loadK rfl ?_ | refine op_load_aggK rfl ?_ | refine tc_cond_t ?_ | refine tc_cond_f ?_ | refine tc_cond (fun _ => ?_) (fun _ => ?_) | refine tc_block ?_ | refine tc_skip ?_ | refine tc_ret ?_ | refine tc_exit ?_ | refine at_seq_ret ?_ | refine at_seq_exit ?_ | refine at_block_normal ?_ | refine at_block_ret ?_ | refine at_block_exit_self ?_ | refine at_block_exit_ne ?_ | refine at_loop_ret ?_ | refine at_loop_exit ?_ | refine tl_guard_yes ?_ | refine tl_guard_no ?_ | refine tl_guard_yes' ?_ | refine tl_guard_no' ?_ | refine tl_guard_undef ?_ | refine tl_guard_split (fun _ => ?_) (fun _ => ?_) | fail)
      | fail
    refine tc_loopK [(2, _), (3, _), (4, _), (5, _), (6, _), (7, _), (21, _), (22, _), (23, _), (24, _), (25, _), (26, _), (27, _), (28, _), (29, _), (30, _)] (by repeat (first | exact trivial | refine ⟨rfl, ?_⟩)) (fun p : Nat × Nat × List Nat => [(31, .int .i64 (p.1 : Int)), (8, .int .u64 (p.2.1 : Int))]) (fun p => (kO, Obj.cells ⟨p.2.2.map uv⟩ 189 (0, 0)) :: (k4, Obj.cells ⟨[.bool false, .slice none 0 0]⟩ 66 (0, 0)) :: (k3, Obj.cells ⟨[.bool n2, .slice a2 ys.length c2]⟩ 66 (0, 0)) :: (k2, Obj.cells ⟨[.bool n1, .slice (some ⟨kA, oA, none⟩) xs.length c1]⟩ 66 (0, 0)) :: H)
      (fun p => p.1 ≤ ys.length ∧ p.2.1 < 4294967296 ∧ p.2.2.length = xs.length + ys.length ∧ Lm p.2.2 ∧ lv p.2.2 + 4294967296 ^ (i + p.1) * p.2.1 = lv (xs.take i) * lv ys + 4294967296 ^ i * x * lv (ys.take p.1) ∧ ∀ t, i + ys.length ≤ t → p.2.2.getD t 0 = 0) (fun p => ys.length - p.1)
      (0, 0, os) ⟨Nat.zero_le _, by simp only; omega, h2, h3, by simp [lv, h4], h5⟩ ⟨rfl, rfl, trivial⟩ (List.Sublist.refl _) ?_
    rintro ⟨k, carry, us⟩ ⟨g1, g2, g3, g4, g5, g6⟩
    simp only at g1 g2 g3 g4 g5 g6 ⊢
    by_cases hlk : k < ys.length
    · have hbk : icmp .lss (k : Int) (ys.length : Int) = true := by rw [lss_nat]; simpa using hlk
      obtain ⟨kB, oB, LB, TB, zB, rfl, mB, allB⟩ := us_block hu (fun e => by rw [e] at hlk; exact absurd hlk (Nat.not_lt_zero _))
      have lB := allB k hlk
      have bB := getD_lt hy k
      have tB := lv_take ys k
      have hik : i + k < us.length := by omega
      have hikL : i + k < xs.length + ys.length := by omega
      have gO := get_uv hik
      have bO := getD_lt g4 (i + k)
      have sO := fun v => lv_set us (i + k) v hik
      have zO := fun t v => getD_set0 us (i + k) t v hik
      have ey : IntKind.u64.wrap ((ys.getD k 0 : Nat) : Int) = ((ys.getD k 0 : Nat) : Int) := wrap_u64 (by omega) (by omega)
      have eo : IntKind.u64.wrap ((us.getD (i + k) 0 : Nat) : Int) = ((us.getD (i + k) 0 : Nat) : Int) := wrap_u64 (by omega) (by omega)
      have ep : IntKind.i64.wrap (iarith .add (i : Int) (k : Int)) = ((i + k : Nat) : Int) := by rw [wrap_add (by omega) (by omega)]; omega
      clear allB
      generalize ys.getD k 0 = y at *
      generalize us.getD (i + k) 0 = o at *
      have bxy : x * y ≤ 4294967295 * 4294967295 := Nat.mul_le_mul (by omega) (by omega)
      have em : IntKind.u64.wrap (iarith .mul (x : Int) (y : Int)) = ((x * y : Nat) : Int) := by
        have : iarith .mul (x : Int) (y : Int) = ((x * y : Nat) : Int) := (Int.natCast_mul x y).symm
        rw [this, wrap_u64 (by omega) (by omega)]
      have e1 : IntKind.u64.wrap (iarith .add ((x * y : Nat) : Int) (o : Int)) = ((x * y + o : Nat) : Int) := by
        rw [wrap_u64 (by simp only [iarith]; omega) (by simp only [iarith]; omega)]; simp only [iarith]; omega
      have e2 : IntKind.u64.wrap (iarith .add ((x * y + o : Nat) : Int) (carry : Int)) = ((x * y + o + carry : Nat) : Int) := by
        rw [wrap_u64 (by simp only [iarith]; omega) (by simp only [iarith]; omega)]; simp only [iarith]; omega
      have hSb : x * y + o + carry < 18446744073709551616 := by omega
      have hd := Nat.div_add_mod (x * y + o + carry) 4294967296
      have hval : lv (us.set (i + k) ((x * y + o + carry) % 4294967296)) + 4294967296 ^ (i + (k + 1)) * ((x * y + o + carry) / 4294967296) = lv (xs.take i) * lv ys + 4294967296 ^ i * x * lv (ys.take (k + 1)) := by
        have s1 := sO ((x * y + o + carry) % 4294967296)
        have p1 : 4294967296 ^ (i + (k + 1)) * ((x * y + o + carry) / 4294967296) + 4294967296 ^ (i + k) * ((x * y + o + carry) % 4294967296) = 4294967296 ^ (i + k) * (x * y) + 4294967296 ^ (i + k) * o + 4294967296 ^ (i + k) * carry := by
          rw [← Nat.add_assoc i k 1, Nat.pow_succ, Nat.mul_assoc, ← Nat.mul_add, hd, Nat.mul_add, Nat.mul_add]
        have p2 : 4294967296 ^ i * x * lv (ys.take (k + 1)) = 4294967296 ^ i * x * lv (ys.take k) + 4294967296 ^ (i + k) * (x * y) := by
          rw [tB, Nat.mul_add, Nat.pow_add]
          congr 1
          simp only [Nat.mul_assoc, Nat.mul_left_comm, Nat.mul_comm]
        rw [p2]; omega
      have e5 : IntKind.u32.wrap ((x * y + o + carry : Nat) : Int) = (((x * y + o + carry) % 4294967296 : Nat) : Int) := by rw [wrap_u32 (by omega)]; omega
      have e6 : Int.fdiv ((x * y + o + carry : Nat) : Int) (2 ^ min (32 : Int).toNat IntKind.u64.bits) = (((x * y + o + carry) / 4294967296 : Nat) : Int) := by
        show Int.fdiv ((x * y + o + carry : Nat) : Int) ((4294967296 : Nat) : Int) = _
        rw [Int.fdiv_eq_ediv_of_nonneg _ (by omega)]; rfl
      have hdl : (x * y + o + carry) / 4294967296 < 4294967296 := Nat.div_lt_of_lt_mul (by omega)
      have hml : (x * y + o + carry) % 4294967296 < 4294967296 := Nat.mod_lt _ (by decide)
      clear hd bxy
      generalize x * y = xy at *
      generalize xy + o = xyo at *
      generalize xyo + carry = Sm at *
      repeat' first
        | (rw [ex])
        | (rw [ey])
        | (rw [em])
        | (rw [ep])
        | (rw [eo])
        | (rw [e1])
        | (rw [e2])
        | (rw [e5])
        | (rw [e6])
        | refine op_shr (v := 32) ?_
        | refine op_load (hm := List.mem_cons_of_mem _ (List.mem_cons_of_mem _ (List.mem_cons_of_mem _ (List.mem_cons_of_mem _ mB)))) ?_
        | refine op_store0 (l' := (us.set (i + k) (Sm % 4294967296)).map uv) ?_ (hroom := by simp; omega) (hnew := set_uv)
        | (first | refine tc_seq ?_ | refine tc_region ?_ | refine at_seq_normal ?_ | refine tl_nil ?_ | refine tl_cons ?_ | refine tl_cons_none ?_ | refine op_move ?_ | refine op_assign ?_ | refine op_fieldAddr ?_ | refine op_load ?_ | refine op_load_agg ?_ | refine op_indexC ?_ | refine op_indexAddr1 ?_ | refine op_indexAddr ?_ | refine op_icmp ?_ | refine op_fcmp ?_ | refine op_iarith ?_ | refine op_bcmp ?_ | refine op_unop_not ?_ | refine op_unop_neg_float ?_ | refine op_unop_neg_int ?_ | refine op_len_slice ?_ | refine op_pick_true ?_ | refine op_pick_false ?_ | refine op_pick_true' ?_ | refine op_pick_false' ?_ | refine op_build ?_ | refine op_extract ?_ | refine op_makeInterface ?_ | refine op_typeAssert ?_ | refine op_ptr_nil ?_ | refine op_nilCheck_ptr ?_ | refine op_nilCheck_meth ?_ | refine op_makeMeth ?_ | refine op_makeFunc ?_ | refine op_itof ?_ | refine op_itoi ?_ | refine op_ftoi ?_ | refine op_iquo ?_ | refine op_irem ?_ | refine op_ibits ?_ | refine op_slice_isnil ?_ | refine op_slice_notnil ?_ | refine op_imax ?_ | refine op_imin ?_ | refine op_shl ?_ | refine op_shr ?_ | (refine op_alloc ?_; intro _) | (refine op_box ?_; intro _) | (refine op_buildSlice ?_; intro _) | (refine op_farith ?_; intro _ _) | refine op_store0 ?_ | refine op_store1 ?_ | refine op_store2 ?_ | refine op_store3 ?_ | refine op_store4 ?_ | refine op_store5 ?_ | refine op_storeK rfl ?_ | refine op_loadK rfl ?_ | refine op_load_aggK rfl ?_ | refine tc_cond_t ?_ | refine tc_cond_f ?_ | refine tc_cond (fun _ => ?_) (fun _ => ?_) | refine tc_block ?_ | refine tc_skip ?_ | refine tc_ret ?_ | refine tc_exit ?_ | refine at_seq_ret ?_ | refine at_seq_exit ?_ | refine at_block_normal ?_ | refine at_block_ret ?_ | refine at_block_exit_self ?_ | refine at_block_exit_ne ?_ | refine at_loop_ret ?_ | refine at_loop_exit ?_ | refine tl_guard_yes ?_ | refine tl_guard_no ?_ | refine tl_guard_yes' ?_ | refine tl_guard_no' ?_ | refine tl_guard_undef ?_ | refine tl_guard_split (fun _ => ?_) (fun _ => ?_) | fail)
        | fail
      exact at_loopK (k + 1, Sm / 4294967296, us.set (i + k) (Sm % 4294967296)) ⟨hlk, hdl, by simpa using g3, g4.set _ _ hml, hval, fun t ht => by simp only; rw [zO, if_neg (by omega)]; exact g6 t ht⟩ (by simp only; omega) ⟨next_nat (by omega), rfl, trivial⟩ (by repeat (first | exact trivial | refine ⟨rfl, ?_⟩)) (List.Sublist.refl _)
    · have hbk : icmp .lss (k : Int) (ys.length : Int) = false := by rw [lss_nat]; simpa using hlk
      obtain rfl : k = ys.length := by omega
      rw [List.take_of_length_le (Nat.le_refl _)] at g5
      have hik : i + ys.length < us.length := by omega
      have hikL : i + ys.length < xs.length + ys.length := by omega
      have sO := lv_set us (i + ys.length) carry hik
      have zO := fun t => getD_set0 us (i + ys.length) t carry hik
      rw [g6 _ (Nat.le_refl _), Nat.mul_zero, Nat.add_zero] at sO
      have ep : IntKind.i64.wrap (iarith .add (i : Int) (ys.length : Int)) = ((i + ys.length : Nat) : Int) := by rw [wrap_add (by omega) (by omega)]; omega
      have e5 : IntKind.u32.wrap ((carry : Nat) : Int) = ((carry : Nat) : Int) := by rw [wrap_u32 (by omega)]; omega
      have hval : lv (us.set (i + ys.length) carry) = lv (xs.take (i + 1)) * lv ys := by
        rw [sO, g5, tA, Nat.add_mul]
      repeat' first
        | (rw [ep])
        | (rw [e5])
        | refine op_store0 (l' := (us.set (i + ys.length) carry).map uv) ?_ (hroom := by simp; omega) (hnew := set_uv)
        | (first | refine tc_seq ?_ | refine tc_region ?_ | refine at_seq_normal ?_ | refine tl_nil ?_ | refine tl_cons ?_ | refine tl_cons_none ?_ | refine op_move ?_ | refine op_assign ?_ | refine op_fieldAddr ?_ | refine op_load ?_ | refine op_load_agg ?_ | refine op_indexC ?_ | refine op_indexAddr1 ?_ | refine op_indexAddr ?_ | refine op_icmp ?_ | refine op_fcmp ?_ | refine op_iarith ?_ | refine op_bcmp ?_ | refine op_unop_not ?_ | refine op_unop_neg_float ?_ | refine op_unop_neg_int ?_ | refine op_len_slice ?_ | refine op_pick_true ?_ | refine op_pick_false ?_ | refine op_pick_true' ?_ | refine op_pick_false' ?_ | refine op_build ?_ | refine op_extract ?_ | refine op_makeInterface ?_ | refine op_typeAssert ?_ | refine op_ptr_nil ?_ | refine op_nilCheck_ptr ?_ | refine op_nilCheck_meth ?_ | refine op_makeMeth ?_ | refine op_makeFunc ?_ | refine op_itof ?_ | refine op_itoi ?_ | refine op_ftoi ?_ | refine op_iquo ?_ | refine op_irem ?_ | refine op_ibits ?_ | refine op_slice_isnil ?_ | refine op_slice_notnil ?_ | refine op_imax ?_ | refine op_imin ?_ | refine op_shl ?_ | refine op_shr ?_ | (refine op_alloc ?_; intro _) | (refine op_box ?_; intro _) | (refine op_buildSlice ?_; intro _) | (refine op_farith ?_; intro _ _) | refine op_store0 ?_ | refine op_store1 ?_ | refine op_store2 ?_ | refine op_store3 ?_ | refine op_store4 ?_ | refine op_store5 ?_ | refine op_storeK rfl ?_ | refine op_loadK rfl ?_ | refine op_load_aggK rfl ?_ | refine tc_cond_t ?_ | refine tc_cond_f ?_ | refine tc_cond (fun _ => ?_) (fun _ => ?_) | refine tc_block ?_ | refine tc_skip ?_ | refine tc_ret ?_ | refine tc_exit ?_ | refine at_seq_ret ?_ | refine at_seq_exit ?_ | refine at_block_normal ?_ | refine at_block_ret ?_ | refine at_block_exit_self ?_ | refine at_block_exit_ne ?_ | refine at_loop_ret ?_ | refine at_loop_exit ?_ | refine tl_guard_yes ?_ | refine tl_guard_no ?_ | refine tl_guard_yes' ?_ | refine tl_guard_no' ?_ | refine tl_guard_undef ?_ | refine tl_guard_split (fun _ => ?_) (fun _ => ?_) | fail)
        | fail
      exact at_loopK (i + 1, us.set (i + ys.length) carry) ⟨hlt, by simpa using g3, g4.set _ _ g2, hval, fun t ht => by simp only at ht ⊢; rw [zO, if_neg (by omega)]; exact g6 t (by omega)⟩ (by simp only; omega) ⟨next_nat (by omega), trivial⟩ (by repeat (first | exact trivial | refine ⟨rfl, ?_⟩)) (List.Sublist.refl _)
  · have hbb : icmp .lss (i : Int) (xs.length : Int) = false := by rw [lss_nat]; simpa using hlt
    obtain rfl : i = xs.length := by omega
    rw [List.take_of_length_le (Nat.le_refl _)] at h4
    have htr : ∀ G, (kO, Obj.cells ⟨os.map uv⟩ 189 (0, 0)) ∈ G → Does Try.prog 127 [.slice (some ⟨kO, 0, none⟩) (xs.length + ys.length) (xs.length + ys.length)] G
        fun w H' => ∃ n, w = .slice (some ⟨kO, 0, none⟩) n (xs.length + ys.length) ∧ H' = G ∧ n ≤ os.length ∧ Nrm (os.take n) ∧ lv (os.take n) = lv os := by
      intro G hm
      rw [← h2]; exact trim _ _ os G (us_mem hm) (by omega)
    have fin : ∀ (n : Nat) (b : Bool), n ≤ os.length → Nrm (os.take n) → lv (os.take n) = lv os → b = (decide (0 < n) && (n1 != n2)) → ∀ G ex, G = ex ++ H → (kO, Obj.cells ⟨os.map uv⟩ 189 (0, 0)) ∈ G →
        ∃ zs b' a c ex', Value.agg ⟨[.bool b, .slice (some ⟨kO, 0, none⟩) n (xs.length + ys.length)]⟩ = .agg ⟨[.bool b', .slice a zs.length c]⟩ ∧ G = ex' ++ H ∧ US (ex' ++ H) (.slice a zs.length c) zs ∧ Lm zs ∧ Nrm zs ∧ lv zs = lv xs * lv ys ∧
          b' = (decide (lv zs ≠ 0) && (n1 != n2)) ∧ zs.length ≤ xs.length + ys.length := by
      intro n b hn hnr hlv hb G ex hG hm
      have hlen : (os.take n).length = n := by rw [List.length_take, Nat.min_eq_left hn]
      have hus := (us_mem hm).take (m := n) hn
      rw [h2] at hus
      refine ⟨os.take n, b, some ⟨kO, 0, none⟩, xs.length + ys.length, ex, by rw [hlen], hG, by rw [hlen, ← hG]; exact hus, h3.take n, hnr, by rw [hlv, h4], ?_, by rw [hlen]; omega⟩
      rw [hb]
      congr 1
      have hz := nrm_zero hnr
      by_cases h0 : n = 0
      · subst h0; simp [lv]
      · have : lv (os.take n) ≠ 0 := fun e => by
          have := congrArg List.length (hz.1 e)
          rw [hlen] at this; simp at this; omega
        rw [decide_eq_true (show 0 < n by omega), decide_eq_true this]
    repeat' first
      | (refine op_call ((htr _ List.mem_cons_self).mono ?_); rintro _ _ ⟨n, rfl, rfl, hn, hnr, hlv⟩; by_cases hn0 : n = 0)
      | (have hgt : icmp .gtr (n : Int) 0 = false := by simp only [icmp, decide_eq_false_iff_not]; omega
         clear hn0)
      | (have hgt : icmp .gtr (n : Int) 0 = true := by simp only [icmp, decide_eq_true_eq]; omega
         clear hn0)
      | (first | refine tc_seq ?_ | refine tc_region ?_ | refine at_seq_normal ?_ | refine tl_nil ?_ | refine tl_cons ?_ | refine tl_cons_none ?_ | refine op_move ?_ | refine op_assign ?_ | refine op_fieldAddr ?_ | refine op_load ?_ | refine op_load_agg ?_ | refine op_indexC ?_ | refine op_indexAddr1 ?_ | refine op_indexAddr ?_ | refine op_icmp ?_ | refine op_fcmp ?_ | refine op_iarith ?_ | refine op_bcmp ?_ | refine op_unop_not ?_ | refine op_unop_neg_float ?_ | refine op_unop_neg_int ?_ | refine op_len_slice ?_ | refine op_pick_true ?_ | refine op_pick_false ?_ | refine op_pick_true' ?_ | refine op_pick_false' ?_ | refine op_build ?_ | refine op_extract ?_ | refine op_makeInterface ?_ | refine op_typeAssert ?_ | refine op_ptr_nil ?_ | refine op_nilCheck_ptr ?_ | refine op_nilCheck_meth ?_ | refine op_makeMeth ?_ | refine op_makeFunc ?_ | refine op_itof ?_ | refine op_itoi ?_ | refine op_ftoi ?_ | refine op_iquo ?_ | refine op_irem ?_ | refine op_ibits ?_ | refine op_slice_isnil ?_ | refine op_slice_notnil ?_ | refine op_imax ?_ | refine op_imin ?_ | refine op_shl ?_ | refine op_shr ?_ | (refine op_alloc ?_; intro _) | (refine op_box ?_; intro _) | (refine op_buildSlice ?_; intro _) | (refine op_farith ?_; intro _ _) | refine op_store0 ?_ | refine op_store1 ?_ | refine op_store2 ?_ | refine op_store3 ?_ | refine op_store4 ?_ | refine op_store5 ?_ | refine op_storeK rfl ?_ | refine op_loadK rfl ?_ | refine op_load_aggK rfl ?_ | refine tc_cond_t ?_ | refine tc_cond_f ?_ | refine tc_cond (fun _ => ?_) (fun _ => ?_) | refine tc_block ?_ | refine tc_skip ?_ | refine tc_ret ?_ | refine tc_exit ?_ | refine at_seq_ret ?_ | refine at_seq_exit ?_ | refine at_block_normal ?_ | refine at_block_ret ?_ | refine at_block_exit_self ?_ | refine at_block_exit_ne ?_ | refine at_loop_ret ?_ | refine at_loop_exit ?_ | refine tl_guard_yes ?_ | refine tl_guard_no ?_ | refine tl_guard_yes' ?_ | refine tl_guard_no' ?_ | refine tl_guard_undef ?_ | refine tl_guard_split (fun _ => ?_) (fun _ => ?_) | fail)
      | fail
    · refine ret_one (.agg (T := 66) (k := k4) (off := 0) (m := [.bool _, .slice (some ⟨kO, 0, none⟩) n (xs.length + ys.length)]) rfl rfl mem1 rfl rfl) (hk := fin n _ hn hnr hlv (by rw [decide_eq_false (by simp only [icmp, decide_eq_false_iff_not] at hgt; omega)]; rfl) _ [_, _, _, _] rfl List.mem_cons_self) (hG := List.Sublist.refl _)
    · refine ret_one (.agg (T := 66) (k := k4) (off := 0) (m := [.bool _, .slice (some ⟨kO, 0, none⟩) n (xs.length + ys.length)]) rfl rfl mem1 rfl rfl) (hk := fin n _ hn hnr hlv (by rw [decide_eq_true (by simp only [icmp, decide_eq_true_eq] at hgt; omega)]; rfl) _ [_, _, _, _] rfl List.mem_cons_self) (hG := List.Sublist.refl _)
end Go.Proofs.Ytomhkbijijdghaa.Lmb

set_option linter.unusedVariables false
set_option linter.unusedSimpArgs false
namespace Go.Proofs.Ytomhkbijijdghaa.Lmb
open Go.Lg

def nval (neg : Bool) (xs : List Nat) : Int := if neg then -(lv xs : Int) else (lv xs : Int)
/-- The value is this whole number, of at most L limbs. -/
def IsW (n : Int) (L : Nat) (u : Value) (G : Heap) : Prop := ∃ neg xs a c, u = .agg ⟨[.bool neg, .slice a xs.length c]⟩ ∧ US G (.slice a xs.length c) xs ∧ Lm xs ∧ Nrm xs ∧ n = nval neg xs ∧ (neg = true → lv xs ≠ 0) ∧ xs.length ≤ L
theorem IsW.mono {n L u G G'} (h : IsW n L u G) (hG : ∀ e ∈ G, e ∈ G') : IsW n L u G' := by
  obtain ⟨neg, xs, a, c, h1, h2, h3⟩ := h
  exact ⟨neg, xs, a, c, h1, h2.mono hG, h3⟩
/-- The value is a list of limbs of this number. -/
def IsL (n : Nat) (L : Nat) (u : Value) (G : Heap) : Prop := ∃ zs a c, u = .slice a zs.length c ∧ US G u zs ∧ Lm zs ∧ Nrm zs ∧ lv zs = n ∧ zs.length ≤ L
theorem IsL.mono {n L u G G'} (h : IsL n L u G) (hG : ∀ e ∈ G, e ∈ G') : IsL n L u G' := by
  obtain ⟨zs, a, c, h1, h2, h3⟩ := h
  exact ⟨zs, a, c, h1, h2.mono hG, h3⟩
def sgI (n : Int) : Int := if n = 0 then 0 else if n < 0 then -1 else 1

theorem wSign (u : Value) (n : Int) (L : Nat) (H : Heap) (hu : IsW n L u H) : Does Try.prog 120 [u] H fun w H' => w = .int .i64 (sgI n) ∧ H' = H := by
  obtain ⟨neg, xs, a, c, rfl, h1, h2, h3, rfl, h5, h6⟩ := hu
  have hz := nrm_zero h3
  refine fn_enter 11 Try.func120 fun W => ?_
  by_cases hl : xs.length = 0
  · have hc : icmp .eql (xs.length : Int) 0 = true := by simp only [icmp, beq_iff_eq]; omega
    have hl0 : lv xs = 0 := hz.2 (List.length_eq_zero_iff.1 hl)
    have hv : sgI (nval neg xs) = 0 := by unfold sgI nval; rw [hl0]; cases neg <;> rfl
    repeat' first
      | refine tc_seq ?_ | refine tc_region ?_ | refine at_seq_normal ?_ | refine tl_nil ?_ | refine tl_cons ?_ | refine op_assign ?_ | refine op_fieldAddr ?_ | refine op_load ?_ | refine op_load_agg ?_ | refine op_icmp ?_
      | refine op_len_slice ?_ | (refine op_box ?_; intro _) | refine op_loadK rfl ?_ | refine op_load_aggK rfl ?_ | refine tc_cond_t ?_ | refine tc_cond_f ?_ | refine tc_cond (fun _ => ?_) (fun _ => ?_) | refine tc_block ?_ | refine tc_skip ?_ | refine tc_ret ?_
      | refine at_seq_ret ?_ | refine at_block_normal ?_ | refine at_block_ret ?_
    exact ret_tmp (hG := List.sublist_cons_self _ _) (hk := ⟨by rw [hv], rfl⟩)
  · have hc : icmp .eql (xs.length : Int) 0 = false := by simp only [icmp, beq_eq_false_iff_ne]; omega
    have hl0 : lv xs ≠ 0 := fun e => hl (by rw [hz.1 e]; rfl)
    cases neg with
    | true =>
      have hv : sgI (nval true xs) = -1 := by
        have e : nval true xs = -(lv xs : Int) := rfl
        rw [sgI, e, if_neg (by omega), if_pos (by omega)]
      repeat' first
        | refine tc_seq ?_ | refine tc_region ?_ | refine at_seq_normal ?_ | refine tl_nil ?_ | refine tl_cons ?_ | refine op_assign ?_ | refine op_fieldAddr ?_ | refine op_load ?_ | refine op_load_agg ?_ | refine op_icmp ?_
        | refine op_len_slice ?_ | (refine op_box ?_; intro _) | refine op_loadK rfl ?_ | refine op_load_aggK rfl ?_ | refine tc_cond_t ?_ | refine tc_cond_f ?_ | refine tc_cond (fun _ => ?_) (fun _ => ?_) | refine tc_block ?_ | refine tc_skip ?_ | refine tc_ret ?_
        | refine at_seq_ret ?_ | refine at_block_normal ?_ | refine at_block_ret ?_
      exact ret_tmp (hG := List.sublist_cons_self _ _) (hk := ⟨by rw [hv], rfl⟩)
    | false =>
      have hv : sgI (nval false xs) = 1 := by
        have e : nval false xs = (lv xs : Int) := rfl
        rw [sgI, e, if_neg (by omega), if_neg (by omega)]
      repeat' first
        | refine tc_seq ?_ | refine tc_region ?_ | refine at_seq_normal ?_ | refine tl_nil ?_ | refine tl_cons ?_ | refine op_assign ?_ | refine op_fieldAddr ?_ | refine op_load ?_ | refine op_load_agg ?_ | refine op_icmp ?_
        | refine op_len_slice ?_ | (refine op_box ?_; intro _) | refine op_loadK rfl ?_ | refine op_load_aggK rfl ?_ | refine tc_cond_t ?_ | refine tc_cond_f ?_ | refine tc_cond (fun _ => ?_) (fun _ => ?_) | refine tc_block ?_ | refine tc_skip ?_ | refine tc_ret ?_
        | refine at_seq_ret ?_ | refine at_block_normal ?_ | refine at_block_ret ?_
      exact ret_tmp (hG := List.sublist_cons_self _ _) (hk := ⟨by rw [hv], rfl⟩)

theorem wMinus (u : Value) (n : Int) (L : Nat) (H : Heap) (hu : IsW n L u H) : Does Try.prog 128 [u] H fun w H' => ∃ ex, H' = ex ++ H ∧ IsW (-n) L w H := by
  obtain ⟨neg, xs, a, c, rfl, h1, h2, h3, rfl, h5, h6⟩ := hu
  have hz := nrm_zero h3
  refine fn_enter 15 Try.func128 fun W => ?_
  by_cases hl : xs.length = 0
  · have hc : icmp .gtr (xs.length : Int) 0 = false := by simp only [icmp, decide_eq_false_iff_not]; omega
    have hl0 : lv xs = 0 := hz.2 (List.length_eq_zero_iff.1 hl)
    obtain rfl : neg = false := by cases neg <;> first | rfl | exact absurd hl0 (h5 rfl)
    have hv : -(nval false xs) = nval false xs := by unfold nval; rw [hl0]; rfl
    repeat' first
      | refine tc_seq ?_ | refine tc_region ?_ | refine at_seq_normal ?_ | refine tl_nil ?_ | refine tl_cons ?_ | refine tl_cons_none ?_ | refine op_move ?_ | refine op_fieldAddr ?_ | refine op_load ?_ | refine op_load_agg ?_
      | refine op_icmp ?_ | refine op_unop_not ?_ | refine op_len_slice ?_ | refine op_pick_true ?_ | refine op_pick_false ?_ | refine op_pick_true' ?_ | refine op_pick_false' ?_ | refine op_build ?_ | (refine op_alloc ?_; intro _) | (refine op_box ?_; intro _)
      | refine op_store0 ?_ | refine op_store1 ?_ | refine op_store2 ?_ | refine op_store3 ?_ | refine op_store4 ?_ | refine op_store5 ?_ | refine op_storeK rfl ?_ | refine op_loadK rfl ?_ | refine op_load_aggK rfl ?_ | refine tc_ret ?_
      | refine at_seq_ret ?_ | refine tl_guard_yes ?_ | refine tl_guard_no ?_ | refine tl_guard_yes' ?_ | refine tl_guard_no' ?_ | refine tl_guard_undef ?_ | refine tl_guard_split (fun _ => ?_) (fun _ => ?_)
    refine ret_one (.agg (T := 66) (off := 0) (m := [.bool (icmp .gtr (xs.length : Int) 0), .slice a xs.length c]) rfl rfl mem0 rfl rfl) (hG := List.Sublist.refl _) (hk := ⟨[_, _], rfl, _, xs, a, c, rfl, h1, h2, h3, (by rw [hc]; exact hv), (fun h => by rw [hc] at h; cases h), h6⟩)
  · have hc : icmp .gtr (xs.length : Int) 0 = true := by simp only [icmp, decide_eq_true_eq]; omega
    have hl0 : lv xs ≠ 0 := fun e => hl (by rw [hz.1 e]; rfl)
    cases neg with
    | true =>
      repeat' first
        | refine tc_seq ?_ | refine tc_region ?_ | refine at_seq_normal ?_ | refine tl_nil ?_ | refine tl_cons ?_ | refine tl_cons_none ?_ | refine op_move ?_ | refine op_fieldAddr ?_ | refine op_load ?_ | refine op_load_agg ?_
        | refine op_icmp ?_ | refine op_unop_not ?_ | refine op_len_slice ?_ | refine op_pick_true ?_ | refine op_pick_false ?_ | refine op_pick_true' ?_ | refine op_pick_false' ?_ | refine op_build ?_ | (refine op_alloc ?_; intro _) | (refine op_box ?_; intro _)
        | refine op_store0 ?_ | refine op_store1 ?_ | refine op_store2 ?_ | refine op_store3 ?_ | refine op_store4 ?_ | refine op_store5 ?_ | refine op_storeK rfl ?_ | refine op_loadK rfl ?_ | refine op_load_aggK rfl ?_ | refine tc_ret ?_
        | refine at_seq_ret ?_ | refine tl_guard_yes ?_ | refine tl_guard_no ?_ | refine tl_guard_yes' ?_ | refine tl_guard_no' ?_ | refine tl_guard_undef ?_ | refine tl_guard_split (fun _ => ?_) (fun _ => ?_)
      refine ret_one (.agg (T := 66) (off := 0) (m := [.bool false, .slice a xs.length c]) rfl rfl mem0 rfl rfl) (hG := List.Sublist.refl _) (hk := ⟨[_, _], rfl, false, xs, a, c, rfl, h1, h2, h3, by simp [nval], (fun h => by cases h), h6⟩)
    | false =>
      repeat' first
        | refine tc_seq ?_ | refine tc_region ?_ | refine at_seq_normal ?_ | refine tl_nil ?_ | refine tl_cons ?_ | refine tl_cons_none ?_ | refine op_move ?_ | refine op_fieldAddr ?_ | refine op_load ?_ | refine op_load_agg ?_
        | refine op_icmp ?_ | refine op_unop_not ?_ | refine op_len_slice ?_ | refine op_pick_true ?_ | refine op_pick_false ?_ | refine op_pick_true' ?_ | refine op_pick_false' ?_ | refine op_build ?_ | (refine op_alloc ?_; intro _) | (refine op_box ?_; intro _)
        | refine op_store0 ?_ | refine op_store1 ?_ | refine op_store2 ?_ | refine op_store3 ?_ | refine op_store4 ?_ | refine op_store5 ?_ | refine op_storeK rfl ?_ | refine op_loadK rfl ?_ | refine op_load_aggK rfl ?_ | refine tc_ret ?_
        | refine at_seq_ret ?_ | refine tl_guard_yes ?_ | refine tl_guard_no ?_ | refine tl_guard_yes' ?_ | refine tl_guard_no' ?_ | refine tl_guard_undef ?_ | refine tl_guard_split (fun _ => ?_) (fun _ => ?_)
      refine ret_one (.agg (T := 66) (off := 0) (m := [.bool (icmp .gtr (xs.length : Int) 0), .slice a xs.length c]) rfl rfl mem0 rfl rfl) (hG := List.Sublist.refl _) (hk := ⟨[_, _], rfl, _, xs, a, c, rfl, h1, h2, h3, (by rw [hc]; simp [nval]), (fun h => hl0), h6⟩)

theorem wMul (u v : Value) (n m : Int) (L M : Nat) (H : Heap) (hu : IsW n L u H) (hv : IsW m M v H) (hL : L < 2 ^ 30) (hM : M < 2 ^ 30) : Does Try.prog 100 [u, v] H fun w H' => ∃ ex, H' = ex ++ H ∧ IsW (n * m) (L + M) w H' := by
  obtain ⟨n1, xs, a1, c1, rfl, x1, x2, x3, rfl, x5, x6⟩ := hu
  obtain ⟨n2, ys, a2, c2, rfl, y1, y2, y3, rfl, y5, y6⟩ := hv
  refine (mul n1 n2 a1 a2 c1 c2 xs ys H x1 y1 x2 y2 (by omega) (by omega)).mono ?_
  rintro w H' ⟨zs, b, a, c, ex, rfl, rfl, h1, h2, h3, h4, h5, h6⟩
  refine ⟨ex, rfl, b, zs, a, c, rfl, h1, h2, h3, ?_, fun hb => ?_, by omega⟩
  · have e : ((lv zs : Nat) : Int) = (lv xs : Int) * (lv ys : Int) := by rw [h4, Int.natCast_mul]
    unfold nval
    by_cases h0 : lv zs = 0
    · have hb : b = false := by rw [h5, decide_eq_false (by simpa using h0)]; rfl
      rw [hb, h0]
      rw [h0] at e
      cases n1 <;> cases n2 <;> simp only [if_true, if_false, Bool.false_eq_true, Int.neg_mul, Int.mul_neg, Int.neg_neg] <;> omega
    · rw [decide_eq_true h0, Bool.true_and] at h5
      rw [h5, e]
      cases n1 <;> cases n2 <;> simp [Int.mul_neg, Int.neg_mul]
  · rw [hb] at h5
    intro h0
    rw [decide_eq_false (by simpa using h0)] at h5; cases h5
end Go.Proofs.Ytomhkbijijdghaa.Lmb

set_option linter.unusedVariables false
set_option linter.unusedSimpArgs false
namespace Go.Proofs.Ytomhkbijijdghaa.Lmb
open Go.Lg

/-- A block without 32-bit numbers. -/
def NoU (e : Nat × Obj) : Prop := ∀ l T fz, e.2 = Obj.cells ⟨l⟩ T fz → ∀ x ∈ l, ∀ n, x ≠ .int .u32 n
theorem US.skip {G G' : Heap} {v : Value} {zs : List Nat} (h : US G v zs) (hs : ∀ e ∈ G, e ∈ G' ∨ NoU e) : US G' v zs := by
  obtain ⟨a, cap, h1, h0, h2⟩ := h
  refine ⟨a, cap, h1, h0, fun hne => ?_⟩
  obtain ⟨k, off, l, T, fz, h3, h4, h5⟩ := h2 hne
  rcases hs _ h4 with h6 | h6
  · exact ⟨k, off, l, T, fz, h3, h6, h5⟩
  · exfalso
    cases zs with
    | nil => exact hne rfl
    | cons z zs =>
      have hm : uv z ∈ l := by
        have : uv z ∈ (l.drop off).take ((z :: zs).map uv).length := by rw [h5]; simp
        exact List.mem_of_mem_drop (List.mem_of_mem_take this)
      exact h6 l T fz rfl _ hm _ rfl
theorem IsW.skip {n L u} {G G' : Heap} (h : IsW n L u G) (hs : ∀ e ∈ G, e ∈ G' ∨ NoU e) : IsW n L u G' := by
  obtain ⟨neg, xs, a, c, h1, h2, h3⟩ := h
  exact ⟨neg, xs, a, c, h1, US.skip h2 hs, h3⟩
theorem len_le {xs ys : List Nat} (hx : Lm xs) (hy : Lm ys) (nx : Nrm xs) (h : lv xs ≤ lv ys) : xs.length ≤ ys.length := by
  rcases Nat.lt_or_ge ys.length xs.length with hl | hl
  · have h1 := lv_lt hy
    have h2 := lv_ge nx (fun e => by rw [e] at hl; exact absurd hl (Nat.not_lt_zero _))
    have h3 := Nat.pow_le_pow_right (show 0 < 4294967296 by decide) (show ys.length ≤ xs.length - 1 by omega)
    omega
  · exact hl
theorem mid2 {α : Type} (e2 e1 : List α) (x : α) (R : List α) : List.Perm (e2 ++ (e1 ++ x :: R)) (x :: (e2 ++ (e1 ++ R))) :=
  ((List.perm_middle (a := x) (l₁ := e1) (l₂ := R)).append_left e2).trans List.perm_middle
theorem mid2_mem {α : Type} {e2 e1 R : List α} {x y : α} {p : α → Prop} (hp : p x) : ∀ e ∈ e2 ++ (e1 ++ x :: R), e ∈ y :: (e2 ++ (e1 ++ R)) ∨ p e := fun e he => by
  rcases List.mem_cons.1 ((mid2 e2 e1 x R).subset he) with h | h
  · right; rw [h]; exact hp
  · exact .inl (List.mem_cons_of_mem _ h)
theorem ex2_eq {α : Type} {x a b : α} {H : List α} (e2 e1 : List α) : x :: (e2 ++ (e1 ++ a :: b :: H)) = (x :: (e2 ++ (e1 ++ [a, b]))) ++ H := by simp
theorem noU2 {k : Nat} {T : TypeId} {fz : Nat × Nat} {b : Bool} {a : Option Addr} {n c : Nat} : NoU (k, Obj.cells ⟨[.bool b, .slice a n c]⟩ T fz) := fun l T fz h x hx n => by
  cases h
  simp only [List.mem_cons, List.not_mem_nil, or_false] at hx
  rcases hx with rfl | rfl <;> (intro h; cases h)

set_option maxHeartbeats 16000000 in
theorem wAdd (u v : Value) (n m : Int) (L M : Nat) (H : Heap) (hu : IsW n L u H) (hv : IsW m M v H) (hL : L < 2 ^ 30) (hM : M < 2 ^ 30) : Does Try.prog 124 [u, v] H fun w H' => ∃ ex, H' = ex ++ H ∧ IsW (n + m) (L + M + 1) w H' := by
  obtain ⟨n1, xs, a1, c1, rfl, x1, x2, x3, rfl, x5, x6⟩ := hu
  obtain ⟨n2, ys, a2, c2, rfl, y1, y2, y3, rfl, y5, y6⟩ := hv
  have hcmpL := fun G (h1 : US G (.slice a1 xs.length c1) xs) (h2 : US G (.slice a2 ys.length c2) ys) => cmpLimbs a1 a2 c1 c2 xs ys G h1 h2 x2 y2 x3 y3 (by omega) (by omega)
  refine fn_enter 44 Try.func124 fun W => ?_
  by_cases hs : n1 = n2
  · subst hs
    have hc : bcmp .eql n1 n1 = true := by cases n1 <;> rfl
    repeat' first
      | refine tc_seq ?_ | refine tc_region ?_ | refine at_seq_normal ?_ | refine tl_nil ?_ | refine tl_cons ?_ | refine tl_cons_none ?_ | refine op_assign ?_ | refine op_fieldAddr ?_ | refine op_load ?_ | refine op_load_agg ?_
      | refine op_icmp ?_ | refine op_bcmp ?_ | refine op_build ?_ | (refine op_alloc ?_; intro _) | (refine op_box ?_; intro _) | refine op_store0 ?_ | refine op_store1 ?_ | refine op_store2 ?_ | refine op_store3 ?_ | refine op_store4 ?_
      | refine op_store5 ?_ | refine op_storeK rfl ?_ | refine op_loadK rfl ?_ | refine op_load_aggK rfl ?_ | refine tc_cond_t ?_ | refine tc_cond_f ?_ | refine tc_cond (fun _ => ?_) (fun _ => ?_) | refine tc_block ?_ | refine tc_skip ?_ | refine tc_ret ?_
      | refine at_seq_ret ?_ | refine at_block_normal ?_ | refine at_block_ret ?_
    rename_i k2 k3 k4
    apply fun hole0 hole1 hole2 hole3 hole4 hole5 hE hD hml hdl hpr prem fin => tc_drawn 8 [is hole0, is hole1, is hole2, is hole3, is hole4, is hole5, (fun w _ G => IsL (lv xs + lv ys) (L + M + 1) w G), (fun w _ G => IsW (nval n1 xs + nval n1 ys) (L + M + 1) w G)]
      [some 10, some 11, some 12, some 13, some 14, some 15, some 16, some 17, none] [[], [0], [], [2], [], [4], [3, 5], [1, 6]] mixed ⟨(is_mono _), (is_mono _), (is_mono _), (is_mono _), (is_mono _), (is_mono _), (fun _ _ _ _ h hs => IsL.mono h hs), (fun _ _ _ _ h hs => IsW.mono h hs), trivial⟩ prem fin hE hD rfl hml hdl hpr
    rotate_left 7
    · first | kernel_rfl | exact rfl
    · first | kernel_rfl | exact rfl
    · exact Nat.le_of_ble_eq_true rfl
    · first | kernel_rfl | exact rfl
    · first | kernel_rfl | exact rfl
    refine ⟨fun G hG => ?_, fun G hG => ?_, fun G hG => ?_, fun G hG => ?_, fun G hG => ?_, fun G hG => ?_, fun G hG => ?_, fun G hG => ?_, trivial⟩
    · simp only [with2, Step2, nthDst, putO]
      (refine op_fieldAddr ?_; exact ⟨[], rfl, rfl, rfl⟩)
    · rintro _ _ ⟨rfl, rfl⟩ -
      simp only [with2, Step2, nthDst, putO]
      ((first | refine op_load ?_ | refine op_load_agg ?_ | refine op_load ?_ (hm := Sub.mem (by assumption) (by (repeat (apply List.mem_cons_of_mem)); assumption)) | refine op_load_agg ?_ (hm := Sub.mem (by assumption) (by (repeat (apply List.mem_cons_of_mem)); assumption)) | refine op_loadH hG rfl ?_ | refine op_load_aggH hG rfl ?_); exact ⟨[], rfl, rfl, rfl⟩)
    · simp only [with2, Step2, nthDst, putO]
      (refine op_fieldAddr ?_; exact ⟨[], rfl, rfl, rfl⟩)
    · rintro _ _ ⟨rfl, rfl⟩ -
      simp only [with2, Step2, nthDst, putO]
      ((first | refine op_load ?_ | refine op_load_agg ?_ | refine op_load ?_ (hm := Sub.mem (by assumption) (by (repeat (apply List.mem_cons_of_mem)); assumption)) | refine op_load_agg ?_ (hm := Sub.mem (by assumption) (by (repeat (apply List.mem_cons_of_mem)); assumption)) | refine op_loadH hG rfl ?_ | refine op_load_aggH hG rfl ?_); exact ⟨[], rfl, rfl, rfl⟩)
    · simp only [with2, Step2, nthDst, putO]
      (refine op_fieldAddr ?_; exact ⟨[], rfl, rfl, rfl⟩)
    · rintro _ _ ⟨rfl, rfl⟩ -
      simp only [with2, Step2, nthDst, putO]
      ((first | refine op_load ?_ | refine op_load_agg ?_ | refine op_load ?_ (hm := Sub.mem (by assumption) (by (repeat (apply List.mem_cons_of_mem)); assumption)) | refine op_load_agg ?_ (hm := Sub.mem (by assumption) (by (repeat (apply List.mem_cons_of_mem)); assumption)) | refine op_loadH hG rfl ?_ | refine op_load_aggH hG rfl ?_); exact ⟨[], rfl, rfl, rfl⟩)
    · rintro _ _ ⟨rfl, rfl⟩ - _ _ ⟨rfl, rfl⟩ -
      simp only [with2, Step2, nthDst, putO]
      (refine op_call ((addLimbs a1 a2 c1 c2 xs ys _ (x1.mono fun e he => hG e (by simp [he])) (y1.mono fun e he => hG e (by simp [he])) x2 y2 (by omega) (by omega)).mono ?_); rintro w _ ⟨zs, ⟨a, c, rfl⟩, ex, rfl, z1, z2, z3, z4, z5⟩; exact ⟨ex, rfl, zs, a, c, rfl, z1, z2, z3, z4, by omega⟩)
    · rintro _ _ ⟨rfl, rfl⟩ - _ _ ⟨zs, a, c, rfl, z1, z2, z3, z4, z5⟩ -
      simp only [with2, Step2, nthDst, putO]
      (refine op_build ?_; exact ⟨[], rfl, n1, zs, a, c, rfl, z1, z2, z3, by (unfold nval; cases n1 <;> simp only [if_true, if_false, Bool.false_eq_true] <;> omega), (fun hb => by have := x5 hb; omega), z5⟩)
    · rintro _ _ _ _ _ _ _ _ _ _ _ _ _ _ _ _ ⟨⟨nz, zr, ar, cr, rfl, r1, r2, r3, r4, r5, r6⟩, ⟨zs, a, c, rfl, z1, z2, z3, z4, z5⟩, ⟨rfl, rfl⟩, ⟨rfl, rfl⟩, ⟨rfl, rfl⟩, ⟨rfl, rfl⟩, ⟨rfl, rfl⟩, ⟨rfl, rfl⟩, _⟩
      simp only [List.nil_append, List.cons_append, List.append_nil, List.drop_succ_cons, List.drop_zero, nthDst, putO]
      rename_i e1 e2 _
      refine tl_cons_none ?_
      refine op_perm (mid2 _ _ (k4, _) _).symm ?_
      refine op_store0 ?_
      repeat' first
        | refine tc_seq ?_ | refine tc_region ?_ | refine at_seq_normal ?_ | refine tl_nil ?_ | refine tl_cons ?_ | refine tl_cons_none ?_ | refine op_assign ?_ | refine op_fieldAddr ?_ | refine op_load ?_ | refine op_load_agg ?_
        | refine op_icmp ?_ | refine op_bcmp ?_ | refine op_build ?_ | (refine op_alloc ?_; intro _) | (refine op_box ?_; intro _) | refine op_store0 ?_ | refine op_store1 ?_ | refine op_store2 ?_ | refine op_store3 ?_ | refine op_store4 ?_
        | refine op_store5 ?_ | refine op_storeK rfl ?_ | refine op_loadK rfl ?_ | refine op_load_aggK rfl ?_ | refine tc_cond_t ?_ | refine tc_cond_f ?_ | refine tc_cond (fun _ => ?_) (fun _ => ?_) | refine tc_block ?_ | refine tc_skip ?_ | refine tc_ret ?_
        | refine at_seq_ret ?_ | refine at_block_normal ?_ | refine at_block_ret ?_
      refine ret_one (.agg (T := 66) (k := k4) (off := 0) (m := [.bool nz, .slice ar zr.length cr]) rfl rfl mem0 rfl rfl) (hG := List.Sublist.refl _) (hk := ⟨_, ex2_eq _ _, ?_⟩)
      simp only [List.nil_append] at r1
      exact IsW.skip ⟨nz, zr, ar, cr, rfl, r1, r2, r3, r4, r5, r6⟩ (mid2_mem noU2)
  · have hc : bcmp .eql n1 n2 = false := by cases n1 <;> cases n2 <;> first | rfl | exact absurd rfl hs
    rcases Nat.lt_trichotomy (lv xs) (lv ys) with hlt | heq | hgt
    · have hcm : cmpI (lv xs) (lv ys) = -1 := by rw [cmpI, if_pos hlt]
      have hle : lv xs ≤ lv ys := by omega
      have hlen := len_le x2 y2 x3 hle
      rw [hcm] at hcmpL
      repeat' first
        | (first | refine tc_seq ?_ | refine tc_region ?_ | refine at_seq_normal ?_ | refine tl_nil ?_ | refine tl_cons ?_ | refine tl_cons_none ?_ | refine op_assign ?_ | refine op_fieldAddr ?_ | refine op_load ?_ | refine op_load_agg ?_ | refine op_icmp ?_ | refine op_bcmp ?_ | refine op_build ?_ | (refine op_alloc ?_; intro _) | (refine op_box ?_; intro _) | refine op_store0 ?_ | refine op_store1 ?_ | refine op_store2 ?_ | refine op_store3 ?_ | refine op_store4 ?_ | refine op_store5 ?_ | refine op_storeK rfl ?_ | refine op_loadK rfl ?_ | refine op_load_aggK rfl ?_ | refine tc_cond_t ?_ | refine tc_cond_f ?_ | refine tc_cond (fun _ => ?_) (fun _ => ?_) | refine tc_block ?_ | refine tc_skip ?_ | refine tc_ret ?_ | refine at_seq_ret ?_ | refine at_block_normal ?_ | refine at_block_ret ?_ | fail)
        | (refine op_call ((hcmpL _ (x1.mono fun e he => by simp [he]) (y1.mono fun e he => by simp [he])).mono ?_); rintro _ _ ⟨rfl, rfl⟩)
        | fail
      rename_i k2 k3 k4
      apply fun hole0 hole1 hole2 hole3 hole4 hole5 hE hD hml hdl hpr prem fin => tc_drawn 8 [is hole0, is hole1, is hole2, is hole3, is hole4, is hole5, (fun w _ G => IsL (lv ys - lv xs) (L + M + 1) w G), (fun w _ G => IsW (nval n1 xs + nval n2 ys) (L + M + 1) w G)]
        [some 36, some 37, some 38, some 39, some 40, some 41, some 42, some 43, none] [[], [0], [], [2], [], [4], [3, 5], [1, 6]] mixed ⟨(is_mono _), (is_mono _), (is_mono _), (is_mono _), (is_mono _), (is_mono _), (fun _ _ _ _ h hs => IsL.mono h hs), (fun _ _ _ _ h hs => IsW.mono h hs), trivial⟩ prem fin hE hD rfl hml hdl hpr
      rotate_left 7
      · first | kernel_rfl | exact rfl
      · first | kernel_rfl | exact rfl
      · exact Nat.le_of_ble_eq_true rfl
      · first | kernel_rfl | exact rfl
      · first | kernel_rfl | exact rfl
      refine ⟨fun G hG => ?_, fun G hG => ?_, fun G hG => ?_, fun G hG => ?_, fun G hG => ?_, fun G hG => ?_, fun G hG => ?_, fun G hG => ?_, trivial⟩
      · simp only [with2, Step2, nthDst, putO]
        (refine op_fieldAddr ?_; exact ⟨[], rfl, rfl, rfl⟩)
      · rintro _ _ ⟨rfl, rfl⟩ -
        simp only [with2, Step2, nthDst, putO]
        ((first | refine op_load ?_ | refine op_load_agg ?_ | refine op_load ?_ (hm := Sub.mem (by assumption) (by (repeat (apply List.mem_cons_of_mem)); assumption)) | refine op_load_agg ?_ (hm := Sub.mem (by assumption) (by (repeat (apply List.mem_cons_of_mem)); assumption)) | refine op_loadH hG rfl ?_ | refine op_load_aggH hG rfl ?_); exact ⟨[], rfl, rfl, rfl⟩)
      · simp only [with2, Step2, nthDst, putO]
        (refine op_fieldAddr ?_; exact ⟨[], rfl, rfl, rfl⟩)
      · rintro _ _ ⟨rfl, rfl⟩ -
        simp only [with2, Step2, nthDst, putO]
        ((first | refine op_load ?_ | refine op_load_agg ?_ | refine op_load ?_ (hm := Sub.mem (by assumption) (by (repeat (apply List.mem_cons_of_mem)); assumption)) | refine op_load_agg ?_ (hm := Sub.mem (by assumption) (by (repeat (apply List.mem_cons_of_mem)); assumption)) | refine op_loadH hG rfl ?_ | refine op_load_aggH hG rfl ?_); exact ⟨[], rfl, rfl, rfl⟩)
      · simp only [with2, Step2, nthDst, putO]
        (refine op_fieldAddr ?_; exact ⟨[], rfl, rfl, rfl⟩)
      · rintro _ _ ⟨rfl, rfl⟩ -
        simp only [with2, Step2, nthDst, putO]
        ((first | refine op_load ?_ | refine op_load_agg ?_ | refine op_load ?_ (hm := Sub.mem (by assumption) (by (repeat (apply List.mem_cons_of_mem)); assumption)) | refine op_load_agg ?_ (hm := Sub.mem (by assumption) (by (repeat (apply List.mem_cons_of_mem)); assumption)) | refine op_loadH hG rfl ?_ | refine op_load_aggH hG rfl ?_); exact ⟨[], rfl, rfl, rfl⟩)
      · rintro _ _ ⟨rfl, rfl⟩ - _ _ ⟨rfl, rfl⟩ -
        simp only [with2, Step2, nthDst, putO]
        (refine op_call ((subLimbs a2 a1 c2 c1 ys xs _ (y1.mono fun e he => hG e (by simp [he])) (x1.mono fun e he => hG e (by simp [he])) y2 x2 (by omega) hlen hle).mono ?_); rintro w _ ⟨zs, ⟨a, c, rfl⟩, ex, rfl, z1, z2, z3, z4, z5⟩; exact ⟨ex, rfl, zs, a, c, rfl, z1, z2, z3, by omega, by omega⟩)
      · rintro _ _ ⟨rfl, rfl⟩ - _ _ ⟨zs, a, c, rfl, z1, z2, z3, z4, z5⟩ -
        simp only [with2, Step2, nthDst, putO]
        (refine op_build ?_; exact ⟨[], rfl, n2, zs, a, c, rfl, z1, z2, z3, by (unfold nval; cases n1 <;> cases n2 <;> first | (exact absurd rfl hs) | (simp only [if_true, if_false, Bool.false_eq_true]; omega)), (fun hb => by omega), z5⟩)
      · rintro _ _ _ _ _ _ _ _ _ _ _ _ _ _ _ _ ⟨⟨nz, zr, ar, cr, rfl, r1, r2, r3, r4, r5, r6⟩, ⟨zs, a, c, rfl, z1, z2, z3, z4, z5⟩, ⟨rfl, rfl⟩, ⟨rfl, rfl⟩, ⟨rfl, rfl⟩, ⟨rfl, rfl⟩, ⟨rfl, rfl⟩, ⟨rfl, rfl⟩, _⟩
        simp only [List.nil_append, List.cons_append, List.append_nil, List.drop_succ_cons, List.drop_zero, nthDst, putO]
        rename_i e1 e2 _
        refine tl_cons_none ?_
        refine op_perm (mid2 _ _ (k4, _) _).symm ?_
        refine op_store0 ?_
        repeat' first
          | refine tc_seq ?_ | refine tc_region ?_ | refine at_seq_normal ?_ | refine tl_nil ?_ | refine tl_cons ?_ | refine tl_cons_none ?_ | refine op_assign ?_ | refine op_fieldAddr ?_ | refine op_load ?_ | refine op_load_agg ?_
          | refine op_icmp ?_ | refine op_bcmp ?_ | refine op_build ?_ | (refine op_alloc ?_; intro _) | (refine op_box ?_; intro _) | refine op_store0 ?_ | refine op_store1 ?_ | refine op_store2 ?_ | refine op_store3 ?_ | refine op_store4 ?_
          | refine op_store5 ?_ | refine op_storeK rfl ?_ | refine op_loadK rfl ?_ | refine op_load_aggK rfl ?_ | refine tc_cond_t ?_ | refine tc_cond_f ?_ | refine tc_cond (fun _ => ?_) (fun _ => ?_) | refine tc_block ?_ | refine tc_skip ?_ | refine tc_ret ?_
          | refine at_seq_ret ?_ | refine at_block_normal ?_ | refine at_block_ret ?_
        refine ret_one (.agg (T := 66) (k := k4) (off := 0) (m := [.bool nz, .slice ar zr.length cr]) rfl rfl mem0 rfl rfl) (hG := List.Sublist.refl _) (hk := ⟨_, ex2_eq _ _, ?_⟩)
        simp only [List.nil_append] at r1
        exact IsW.skip ⟨nz, zr, ar, cr, rfl, r1, r2, r3, r4, r5, r6⟩ (mid2_mem noU2)
    · have hcm : cmpI (lv xs) (lv ys) = 0 := by rw [cmpI, if_neg (by omega), if_pos heq]
      rw [hcm] at hcmpL
      repeat' first
        | (first | refine tc_seq ?_ | refine tc_region ?_ | refine at_seq_normal ?_ | refine tl_nil ?_ | refine tl_cons ?_ | refine tl_cons_none ?_ | refine op_assign ?_ | refine op_fieldAddr ?_ | refine op_load ?_ | refine op_load_agg ?_ | refine op_icmp ?_ | refine op_bcmp ?_ | refine op_build ?_ | (refine op_alloc ?_; intro _) | (refine op_box ?_; intro _) | refine op_store0 ?_ | refine op_store1 ?_ | refine op_store2 ?_ | refine op_store3 ?_ | refine op_store4 ?_ | refine op_store5 ?_ | refine op_storeK rfl ?_ | refine op_loadK rfl ?_ | refine op_load_aggK rfl ?_ | refine tc_cond_t ?_ | refine tc_cond_f ?_ | refine tc_cond (fun _ => ?_) (fun _ => ?_) | refine tc_block ?_ | refine tc_skip ?_ | refine tc_ret ?_ | refine at_seq_ret ?_ | refine at_block_normal ?_ | refine at_block_ret ?_ | fail)
        | (refine op_call ((hcmpL _ (x1.mono fun e he => by simp [he]) (y1.mono fun e he => by simp [he])).mono ?_); rintro _ _ ⟨rfl, rfl⟩)
        | fail
      rename_i k2 k3 k4
      refine ret_one (.agg (T := 66) (k := k4) (off := 0) (m := [.bool false, .slice none 0 0]) rfl rfl mem0 rfl rfl) (hG := List.Sublist.refl _) (hk := ⟨[(k4, _), (k3, _), (k2, _)], rfl, false, [], none, 0, rfl, US.nil, (fun x hx => by cases hx), (fun h => absurd rfl h), ?_, (fun h => by cases h), Nat.zero_le _⟩)
      unfold nval; rw [heq]; cases n1 <;> cases n2 <;> first | (exact absurd rfl hs) | (simp only [if_true, if_false, Bool.false_eq_true, lv]; omega)
    · have hcm : cmpI (lv xs) (lv ys) = 1 := by rw [cmpI, if_neg (by omega), if_neg (by omega)]
      have hle : lv ys ≤ lv xs := by omega
      have hlen := len_le y2 x2 y3 hle
      rw [hcm] at hcmpL
      repeat' first
        | (first | refine tc_seq ?_ | refine tc_region ?_ | refine at_seq_normal ?_ | refine tl_nil ?_ | refine tl_cons ?_ | refine tl_cons_none ?_ | refine op_assign ?_ | refine op_fieldAddr ?_ | refine op_load ?_ | refine op_load_agg ?_ | refine op_icmp ?_ | refine op_bcmp ?_ | refine op_build ?_ | (refine op_alloc ?_; intro _) | (refine op_box ?_; intro _) | refine op_store0 ?_ | refine op_store1 ?_ | refine op_store2 ?_ | refine op_store3 ?_ | refine op_store4 ?_ | refine op_store5 ?_ | refine op_storeK rfl ?_ | refine op_loadK rfl ?_ | refine op_load_aggK rfl ?_ | refine tc_cond_t ?_ | refine tc_cond_f ?_ | refine tc_cond (fun _ => ?_) (fun _ => ?_) | refine tc_block ?_ | refine tc_skip ?_ | refine tc_ret ?_ | refine at_seq_ret ?_ | refine at_block_normal ?_ | refine at_block_ret ?_ | fail)
        | (refine op_call ((hcmpL _ (x1.mono fun e he => by simp [he]) (y1.mono fun e he => by simp [he])).mono ?_); rintro _ _ ⟨rfl, rfl⟩)
        | fail
      rename_i k2 k3 k4
      apply fun hole0 hole1 hole2 hole3 hole4 hole5 hE hD hml hdl hpr prem fin => tc_drawn 8 [is hole0, is hole1, is hole2, is hole3, is hole4, is hole5, (fun w _ G => IsL (lv xs - lv ys) (L + M + 1) w G), (fun w _ G => IsW (nval n1 xs + nval n2 ys) (L + M + 1) w G)]
        [some 28, some 29, some 30, some 31, some 32, some 33, some 34, some 35, none] [[], [0], [], [2], [], [4], [3, 5], [1, 6]] mixed ⟨(is_mono _), (is_mono _), (is_mono _), (is_mono _), (is_mono _), (is_mono _), (fun _ _ _ _ h hs => IsL.mono h hs), (fun _ _ _ _ h hs => IsW.mono h hs), trivial⟩ prem fin hE hD rfl hml hdl hpr
      rotate_left 7
      · first | kernel_rfl | exact rfl
      · first | kernel_rfl | exact rfl
      · exact Nat.le_of_ble_eq_true rfl
      · first | kernel_rfl | exact rfl
      · first | kernel_rfl | exact rfl
      refine ⟨fun G hG => ?_, fun G hG => ?_, fun G hG => ?_, fun G hG => ?_, fun G hG => ?_, fun G hG => ?_, fun G hG => ?_, fun G hG => ?_, trivial⟩
      · simp only [with2, Step2, nthDst, putO]
        (refine op_fieldAddr ?_; exact ⟨[], rfl, rfl, rfl⟩)
      · rintro _ _ ⟨rfl, rfl⟩ -
        simp only [with2, Step2, nthDst, putO]
        ((first | refine op_load ?_ | refine op_load_agg ?_ | refine op_load ?_ (hm := Sub.mem (by assumption) (by (repeat (apply List.mem_cons_of_mem)); assumption)) | refine op_load_agg ?_ (hm := Sub.mem (by assumption) (by (repeat (apply List.mem_cons_of_mem)); assumption)) | refine op_loadH hG rfl ?_ | refine op_load_aggH hG rfl ?_); exact ⟨[], rfl, rfl, rfl⟩)
      · simp only [with2, Step2, nthDst, putO]
        (refine op_fieldAddr ?_; exact ⟨[], rfl, rfl, rfl⟩)
      · rintro _ _ ⟨rfl, rfl⟩ -
        simp only [with2, Step2, nthDst, putO]
        ((first | refine op_load ?_ | refine op_load_agg ?_ | refine op_load ?_ (hm := Sub.mem (by assumption) (by (repeat (apply List.mem_cons_of_mem)); assumption)) | refine op_load_agg ?_ (hm := Sub.mem (by assumption) (by (repeat (apply List.mem_cons_of_mem)); assumption)) | refine op_loadH hG rfl ?_ | refine op_load_aggH hG rfl ?_); exact ⟨[], rfl, rfl, rfl⟩)
      · simp only [with2, Step2, nthDst, putO]
        (refine op_fieldAddr ?_; exact ⟨[], rfl, rfl, rfl⟩)
      · rintro _ _ ⟨rfl, rfl⟩ -
        simp only [with2, Step2, nthDst, putO]
        ((first | refine op_load ?_ | refine op_load_agg ?_ | refine op_load ?_ (hm := Sub.mem (by assumption) (by (repeat (apply List.mem_cons_of_mem)); assumption)) | refine op_load_agg ?_ (hm := Sub.mem (by assumption) (by (repeat (apply List.mem_cons_of_mem)); assumption)) | refine op_loadH hG rfl ?_ | refine op_load_aggH hG rfl ?_); exact ⟨[], rfl, rfl, rfl⟩)
      · rintro _ _ ⟨rfl, rfl⟩ - _ _ ⟨rfl, rfl⟩ -
        simp only [with2, Step2, nthDst, putO]
        (refine op_call ((subLimbs a1 a2 c1 c2 xs ys _ (x1.mono fun e he => hG e (by simp [he])) (y1.mono fun e he => hG e (by simp [he])) x2 y2 (by omega) hlen hle).mono ?_); rintro w _ ⟨zs, ⟨a, c, rfl⟩, ex, rfl, z1, z2, z3, z4, z5⟩; exact ⟨ex, rfl, zs, a, c, rfl, z1, z2, z3, by omega, by omega⟩)
      · rintro _ _ ⟨rfl, rfl⟩ - _ _ ⟨zs, a, c, rfl, z1, z2, z3, z4, z5⟩ -
        simp only [with2, Step2, nthDst, putO]
        (refine op_build ?_; exact ⟨[], rfl, n1, zs, a, c, rfl, z1, z2, z3, by (unfold nval; cases n1 <;> cases n2 <;> first | (exact absurd rfl hs) | (simp only [if_true, if_false, Bool.false_eq_true]; omega)), (fun hb => by omega), z5⟩)
      · rintro _ _ _ _ _ _ _ _ _ _ _ _ _ _ _ _ ⟨⟨nz, zr, ar, cr, rfl, r1, r2, r3, r4, r5, r6⟩, ⟨zs, a, c, rfl, z1, z2, z3, z4, z5⟩, ⟨rfl, rfl⟩, ⟨rfl, rfl⟩, ⟨rfl, rfl⟩, ⟨rfl, rfl⟩, ⟨rfl, rfl⟩, ⟨rfl, rfl⟩, _⟩
        simp only [List.nil_append, List.cons_append, List.append_nil, List.drop_succ_cons, List.drop_zero, nthDst, putO]
        rename_i e1 e2 _
        refine tl_cons_none ?_
        refine op_perm (mid2 _ _ (k4, _) _).symm ?_
        refine op_store0 ?_
        repeat' first
          | refine tc_seq ?_ | refine tc_region ?_ | refine at_seq_normal ?_ | refine tl_nil ?_ | refine tl_cons ?_ | refine tl_cons_none ?_ | refine op_assign ?_ | refine op_fieldAddr ?_ | refine op_load ?_ | refine op_load_agg ?_
          | refine op_icmp ?_ | refine op_bcmp ?_ | refine op_build ?_ | (refine op_alloc ?_; intro _) | (refine op_box ?_; intro _) | refine op_store0 ?_ | refine op_store1 ?_ | refine op_store2 ?_ | refine op_store3 ?_ | refine op_store4 ?_
          | refine op_store5 ?_ | refine op_storeK rfl ?_ | refine op_loadK rfl ?_ | refine op_load_aggK rfl ?_ | refine tc_cond_t ?_ | refine tc_cond_f ?_ | refine tc_cond (fun _ => ?_) (fun _ => ?_) | refine tc_block ?_ | refine tc_skip ?_ | refine tc_ret ?_
          | refine at_seq_ret ?_ | refine at_block_normal ?_ | refine at_block_ret ?_
        refine ret_one (.agg (T := 66) (k := k4) (off := 0) (m := [.bool nz, .slice ar zr.length cr]) rfl rfl mem0 rfl rfl) (hG := List.Sublist.refl _) (hk := ⟨_, ex2_eq _ _, ?_⟩)
        simp only [List.nil_append] at r1
        exact IsW.skip ⟨nz, zr, ar, cr, rfl, r1, r2, r3, r4, r5, r6⟩ (mid2_mem noU2)
end Go.Proofs.Ytomhkbijijdghaa.Lmb
