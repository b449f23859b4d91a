/-
  Whole numbers of any size: times a power of two. No conditions.
-/
import Derived.Test.YtomhkbijijdghaaZL8
import Derived.Test.YtomhkbijijdghaaZL14
set_option linter.unusedVariables false
set_option linter.unusedSimpArgs false
namespace Go.Proofs.Ytomhkbijijdghaa.Lmb
open Go.Lg

section
variable {P : Program} {W : World} {n : Nat} {ds : List Deferred} {E : Env}
variable {ty : TypeId} {pos : String} {af : Array Edge} {dst : Option Tmp} {g : Option (Nat × Bool)}
theorem y_fieldAddr {t i x k off o} [hf : FieldAt P t i o] (hx : evalE E x = some (.pointer (some ⟨k, off, none⟩)) := by exact rfl) : YT P n ds ⟨dst, .fieldAddr t x i, ty, pos, af, g⟩ E (.pointer (some ⟨k, off + o, none⟩)) := y_of fun a w ho => by
  obtain ⟨fs, f, j, h1, h2, h3, h4, h5⟩ := hf.eq
  simp only [execOp, ho.eval hx]
  refine run_v ?_
  haveI : Und P t (.struct fs) := ⟨h1⟩
  refine (sem_run_bind P _ _ w _ w (Go.Lg.run_underlying (t := t) w)).trans ?_
  simp only [h2]
  refine (sem_run_bind P _ _ w ⟨k, off, none⟩ w rfl).trans ?_
  refine (sem_run_bind P _ _ w ⟨k, off + o, none⟩ w ?_).trans rfl
  refine (sem_run_bind P _ _ w j.size w ((sem_run_bind P _ _ w j w (Go.Lg.run_typeInfo h4 w)).trans rfl)).trans ?_
  rw [if_neg h5, h3, addr_add]; rfl
end
theorem ex1_eq {α : Type} {x a : α} {B exB H : List α} (h : B = exB ++ a :: H) : x :: B = (x :: (exB ++ [a])) ++ H := by simp [h]
theorem or_add {x r carry : Nat} (hr : r < 32) (hc : carry < 2 ^ r) : ((x * 2 ^ r) % 4294967296) ||| carry = (x * 2 ^ r) % 4294967296 + carry := by
  have e : (4294967296 : Nat) = 2 ^ (32 - r) * 2 ^ r := by rw [← Nat.pow_add, Nat.sub_add_cancel (by omega)]
  rw [e, Nat.mul_mod_mul_right, ← Nat.shiftLeft_eq, Nat.shiftLeft_add_eq_or_of_lt hc]
theorem ibits_or {a b : Nat} (ha : a < 4294967296) (hb : b < 4294967296) (hab : (a ||| b) < 4294967296) : ibits .or .u32 ((a : Nat) : Int) ((b : Nat) : Int) = ((a ||| b : Nat) : Int) := by
  have e1 : BitVec.ofInt IntKind.u32.bits ((a : Nat) : Int) = BitVec.ofNat 32 a := by
    show BitVec.ofInt 32 ((a : Nat) : Int) = _
    exact BitVec.ofInt_natCast 32 a
  have e2 : BitVec.ofInt IntKind.u32.bits ((b : Nat) : Int) = BitVec.ofNat 32 b := by
    show BitVec.ofInt 32 ((b : Nat) : Int) = _
    exact BitVec.ofInt_natCast 32 b
  show IntKind.u32.wrap (((BitVec.ofInt IntKind.u32.bits ((a : Nat) : Int) ||| BitVec.ofInt IntKind.u32.bits ((b : Nat) : Int)).toNat : Nat) : Int) = _
  rw [e1, e2]
  show IntKind.u32.wrap (((BitVec.ofNat 32 a ||| BitVec.ofNat 32 b : BitVec 32).toNat : Nat) : Int) = _
  rw [BitVec.toNat_or, BitVec.toNat_ofNat, BitVec.toNat_ofNat, Nat.mod_eq_of_lt (by omega), Nat.mod_eq_of_lt (by omega), wrap_u32 (by omega)]
  omega

set_option maxHeartbeats 16000000 in
theorem wUp (u : Value) (n : Int) (L k : Nat) (H : Heap) (hu : IsW n L u H) (hL : L < 2 ^ 30) (hk : k < 2 ^ 30) : Does Try.prog 123 [u, .int .i64 (k : Int)] H fun w H' => ∃ ex, H' = ex ++ H ∧ IsW (n * ((2 ^ k : Nat) : Int)) (L + k / 32 + 1) w H' := by
  obtain ⟨neg, xs, a, c, rfl, x1, x2, x3, rfl, x5, x6⟩ := hu
  refine fn_enter 56 Try.func123 fun W => ?_
  by_cases hl : xs.length = 0
  · have hc : icmp .eql (xs.length : Int) 0 = true := by simp only [icmp, beq_iff_eq]; omega
    obtain rfl : xs = [] := List.length_eq_zero_iff.1 hl
    repeat' first
      | refine tc_seq ?_ | refine tc_region ?_ | refine at_seq_normal ?_ | refine tl_nil ?_ | refine tl_cons ?_ | refine tl_cons_none ?_ | refine op_move ?_ | refine op_assign ?_ | refine op_fieldAddr ?_ | refine op_load ?_
      | refine op_load_agg ?_ | refine op_indexC ?_ | refine op_indexAddr1 ?_ | refine op_indexAddr ?_ | refine op_icmp ?_ | refine op_fcmp ?_ | refine op_iarith ?_ | refine op_bcmp ?_ | refine op_unop_not ?_ | refine op_unop_neg_float ?_
      | refine op_unop_neg_int ?_ | refine op_len_slice ?_ | refine op_pick_true ?_ | refine op_pick_false ?_ | refine op_pick_true' ?_ | refine op_pick_false' ?_ | refine op_build ?_ | refine op_extract ?_ | refine op_makeInterface ?_ | refine op_typeAssert ?_
      | refine op_ptr_nil ?_ | refine op_nilCheck_ptr ?_ | refine op_nilCheck_meth ?_ | refine op_makeMeth ?_ | refine op_makeFunc ?_ | refine op_itof ?_ | refine op_itoi ?_ | refine op_ftoi ?_ | refine op_iquo ?_ | refine op_irem ?_
      | refine op_ibits ?_ | refine op_slice_isnil ?_ | refine op_slice_notnil ?_ | refine op_imax ?_ | refine op_imin ?_ | refine op_shl ?_ | refine op_shr ?_ | (refine op_alloc ?_; intro _) | (refine op_box ?_; intro _) | (refine op_buildSlice ?_; intro _)
      | (refine op_farith ?_; intro _ _) | refine op_store0 ?_ | refine op_store1 ?_ | refine op_store2 ?_ | refine op_store3 ?_ | refine op_store4 ?_ | refine op_store5 ?_ | refine op_storeK rfl ?_ | refine op_loadK rfl ?_ | refine op_load_aggK rfl ?_
      | refine tc_cond_t ?_ | refine tc_cond_f ?_ | refine tc_cond (fun _ => ?_) (fun _ => ?_) | refine tc_block ?_ | refine tc_skip ?_ | refine tc_ret ?_ | refine tc_exit ?_ | refine at_seq_ret ?_ | refine at_seq_exit ?_ | refine at_block_normal ?_
      | refine at_block_ret ?_ | refine at_block_exit_self ?_ | refine at_block_exit_ne ?_ | refine at_loop_ret ?_ | refine at_loop_exit ?_
    refine ret_one (.agg (T := 66) (off := 0) (m := [.bool neg, .slice a ([] : List Nat).length c]) rfl rfl mem0 rfl rfl) (hG := List.Sublist.refl _) (hk := ⟨[_, _], rfl, neg, [], a, c, rfl, x1.mono fun e he => by simp [he], x2, x3, ?_, x5, Nat.zero_le _⟩)
    unfold nval; cases neg <;> simp [lv]
  have hc : icmp .eql (xs.length : Int) 0 = false := by simp only [icmp, beq_eq_false_iff_ne]; omega
  have hr : k % 32 < 32 := Nat.mod_lt _ (by decide)
  have hkq := Nat.div_add_mod k 32
  have eq1 : IntKind.i64.wrap (Int.tdiv (k : Int) 32) = ((k / 32 : Nat) : Int) := by
    have : Int.tdiv (k : Int) 32 = ((k / 32 : Nat) : Int) := (Int.ofNat_tdiv k 32).symm
    rw [this, wrap_in (by omega) (by omega)]
  have er1 : Int.tmod (k : Int) 32 = ((k % 32 : Nat) : Int) := (Int.ofNat_tmod k 32).symm
  generalize hq : k / 32 = q at *
  generalize hrr : k % 32 = r at *
  have e2 : IntKind.i64.wrap (iarith .add ((q : Nat) : Int) (xs.length : Int)) = ((q + xs.length : Nat) : Int) := by rw [wrap_add (by omega) (by omega)]; omega
  have e3 : IntKind.i64.wrap (iarith .add ((q + xs.length : Nat) : Int) 1) = ((q + xs.length + 1 : Nat) : Int) := by rw [wrap_add (by omega) (by omega)]; omega
  repeat' first
    | (rw [eq1])
    | (rw [e2])
    | (rw [e3])
    | refine op_iquo (v := 32) ?_
    | (refine op_makeSlice (l := q) (c := q + xs.length + 1) (fun kO => ?_) (by omega) (by omega) (by omega); rw [made_rep])
    | (first | refine tc_seq ?_ | refine tc_region ?_ | refine at_seq_normal ?_ | refine tl_nil ?_ | refine tl_cons ?_ | refine tl_cons_none ?_ | refine op_move ?_ | refine op_assign ?_ | refine op_fieldAddr ?_ | refine op_load ?_ | refine op_load_agg ?_ | refine op_indexC ?_ | refine op_indexAddr1 ?_ | refine op_indexAddr ?_ | refine op_icmp ?_ | refine op_fcmp ?_ | refine op_iarith ?_ | refine op_bcmp ?_ | refine op_unop_not ?_ | refine op_unop_neg_float ?_ | refine op_unop_neg_int ?_ | refine op_len_slice ?_ | refine op_pick_true ?_ | refine op_pick_false ?_ | refine op_pick_true' ?_ | refine op_pick_false' ?_ | refine op_build ?_ | refine op_extract ?_ | refine op_makeInterface ?_ | refine op_typeAssert ?_ | refine op_ptr_nil ?_ | refine op_nilCheck_ptr ?_ | refine op_nilCheck_meth ?_ | refine op_makeMeth ?_ | refine op_makeFunc ?_ | refine op_itof ?_ | refine op_itoi ?_ | refine op_ftoi ?_ | refine op_iquo ?_ | refine op_irem ?_ | refine op_ibits ?_ | refine op_slice_isnil ?_ | refine op_slice_notnil ?_ | refine op_imax ?_ | refine op_imin ?_ | refine op_shl ?_ | refine op_shr ?_ | (refine op_alloc ?_; intro _) | (refine op_box ?_; intro _) | (refine op_buildSlice ?_; intro _) | (refine op_farith ?_; intro _ _) | refine op_store0 ?_ | refine op_store1 ?_ | refine op_store2 ?_ | refine op_store3 ?_ | refine op_store4 ?_ | refine op_store5 ?_ | refine op_storeK rfl ?_ | refine op_loadK rfl ?_ | refine op_load_aggK rfl ?_ | refine tc_cond_t ?_ | refine tc_cond_f ?_ | refine tc_cond (fun _ => ?_) (fun _ => ?_) | refine tc_block ?_ | refine tc_skip ?_ | refine tc_ret ?_ | refine tc_exit ?_ | refine at_seq_ret ?_ | refine at_seq_exit ?_ | refine at_block_normal ?_ | refine at_block_ret ?_ | refine at_block_exit_self ?_ | refine at_block_exit_ne ?_ | refine at_loop_ret ?_ | refine at_loop_exit ?_ | fail)
    | fail
  rename_i k2 k4
  rw [show List.replicate (q + xs.length + 1) (Value.int IntKind.u32 0) = (List.replicate q 0).map uv ++ List.replicate (xs.length + 1) (Value.int IntKind.u32 0) by rw [Nat.add_assoc, ← List.replicate_append_replicate, List.map_replicate]; rfl]
  have hm2 : (k2, Obj.cells ⟨[.bool neg, .slice a xs.length c]⟩ 66 (0, 0)) ∈ (k4, Obj.cells ⟨[.bool false, .slice none 0 0]⟩ 66 (0, 0)) :: (k2, Obj.cells ⟨[.bool neg, .slice a xs.length c]⟩ 66 (0, 0)) :: H := by simp
  refine tc_loopK [(1, _), (2, _), (4, _), (26, _), (27, _)] (by repeat (first | exact trivial | refine ⟨rfl, ?_⟩)) (fun p : Nat × Nat × Buf × List Nat => [(28, .int .i64 (p.1 : Int)), (6, .int .u32 (p.2.1 : Int)), (5, bufV p.2.2.1 (q + p.1))]) (fun p => bufH 189 p.2.2.1 (p.2.2.2.map uv) ((k4, Obj.cells ⟨[.bool false, .slice none 0 0]⟩ 66 (0, 0)) :: (k2, Obj.cells ⟨[.bool neg, .slice a xs.length c]⟩ 66 (0, 0)) :: H))
    (fun p => p.1 ≤ xs.length ∧ bufOk 1 p.2.2.1 (q + p.1) (p.2.2.2.map uv) ∧ p.2.2.2.length = q + p.1 ∧ Lm p.2.2.2 ∧ p.2.1 < 2 ^ r ∧ lv p.2.2.2 + 4294967296 ^ (q + p.1) * p.2.1 = 4294967296 ^ q * 2 ^ r * lv (xs.take p.1)) (fun p => xs.length - p.1)
    (0, 0, some (kO, q + xs.length + 1, List.replicate (xs.length + 1) (.int .u32 0)), List.replicate q 0) ⟨Nat.zero_le _, ⟨by simp only; omega, by simp only [maxLen]; omega, by simp, by simp; omega⟩, by simp, (fun x hx => by rw [(List.mem_replicate.1 hx).2]; decide), Nat.two_pow_pos r, by simp [lv, lv_rep]⟩ ⟨rfl, rfl, rfl, trivial⟩ (List.Sublist.refl _) ?_
  rintro ⟨j, carry, buf, zs⟩ ⟨h1, h2, h3, h4, h5, h6⟩
  simp only at h1 h2 h3 h4 h5 h6 ⊢
  have hrb : 2 ^ r ≤ 2 ^ 31 := Nat.pow_le_pow_right (by decide) (by omega)
  by_cases hlt : j < xs.length
  · have hbb : icmp .lss (j : Int) (xs.length : Int) = true := by rw [lss_nat]; simpa using hlt
    obtain ⟨kA, oA, LA, TA, zA, rfl, mA, allA⟩ := us_block x1 (fun e => by rw [e] at hlt; exact absurd hlt (Nat.not_lt_zero _))
    have mA2 : (kA, Obj.cells ⟨LA⟩ TA zA) ∈ bufH 189 buf (zs.map uv) ((k4, Obj.cells ⟨[.bool false, .slice none 0 0]⟩ 66 (0, 0)) :: (k2, Obj.cells ⟨[.bool neg, .slice (some ⟨kA, oA, none⟩) xs.length c]⟩ 66 (0, 0)) :: H) := (bufH_sub _ _ _ _).subset (List.mem_cons_of_mem _ (List.mem_cons_of_mem _ mA))
    have lA := allA j hlt
    have bA := getD_lt x2 j
    have tA := lv_take xs j
    have e4 : IntKind.u64.wrap ((xs.getD j 0 : Nat) : Int) = ((xs.getD j 0 : Nat) : Int) := wrap_u64 (by omega) (by omega)
    clear allA
    generalize xs.getD j 0 = x at *
    have hxr : x * 2 ^ r < 4294967296 * 2 ^ r := Nat.mul_lt_mul_of_pos_right bA (Nat.two_pow_pos r)
    have e5 : IntKind.u64.wrap ((x : Int) * 2 ^ min (((r : Nat) : Int)).toNat IntKind.u64.bits) = ((x * 2 ^ r : Nat) : Int) := by
      have hmin : min (((r : Nat) : Int)).toNat IntKind.u64.bits = r := by
        show min (((r : Nat) : Int)).toNat 64 = r
        rw [Int.toNat_natCast]; omega
      rw [hmin]
      have : (x : Int) * 2 ^ r = ((x * 2 ^ r : Nat) : Int) := by rw [Int.natCast_mul, Int.natCast_pow]; rfl
      rw [this, wrap_u64 (by omega) (by omega)]
    have hor := or_add (x := x) hr h5
    have hd := Nat.div_add_mod (x * 2 ^ r) 4294967296
    have hml : (x * 2 ^ r) % 4294967296 < 4294967296 := Nat.mod_lt _ (by decide)
    have hdl : (x * 2 ^ r) / 4294967296 < 2 ^ r := Nat.div_lt_of_lt_mul hxr
    have hsum : (x * 2 ^ r) % 4294967296 + carry < 4294967296 := by
      have e : (4294967296 : Nat) = 2 ^ (32 - r) * 2 ^ r := by rw [← Nat.pow_add, Nat.sub_add_cancel (by omega)]
      have : (x * 2 ^ r) % 4294967296 = (x % 2 ^ (32 - r)) * 2 ^ r := by rw [e, Nat.mul_mod_mul_right]
      have hx3 := Nat.mod_lt x (Nat.two_pow_pos (32 - r))
      have := Nat.mul_le_mul_right (2 ^ r) (show x % 2 ^ (32 - r) + 1 ≤ 2 ^ (32 - r) by omega)
      rw [Nat.add_mul, ← e] at this
      omega
    have hval : lv (zs ++ [(x * 2 ^ r) % 4294967296 + carry]) + 4294967296 ^ (q + (j + 1)) * ((x * 2 ^ r) / 4294967296) = 4294967296 ^ q * 2 ^ r * lv (xs.take (j + 1)) := by
      rw [lv_app, h3, tA, Nat.mul_add (4294967296 ^ q * 2 ^ r)]
      simp only [lv, Nat.mul_zero, Nat.add_zero]
      have p1 : 4294967296 ^ (q + (j + 1)) * ((x * 2 ^ r) / 4294967296) + 4294967296 ^ (q + j) * ((x * 2 ^ r) % 4294967296) = 4294967296 ^ (q + j) * (x * 2 ^ r) := by
        rw [← Nat.add_assoc q j 1, Nat.pow_succ, Nat.mul_assoc, ← Nat.mul_add, hd]
      have p2 : 4294967296 ^ q * 2 ^ r * (4294967296 ^ j * x) = 4294967296 ^ (q + j) * (x * 2 ^ r) := by
        rw [Nat.pow_add]; simp only [Nat.mul_assoc, Nat.mul_left_comm, Nat.mul_comm]
      rw [p2, Nat.mul_add]
      omega
    have e6 : IntKind.u32.wrap ((x * 2 ^ r : Nat) : Int) = (((x * 2 ^ r) % 4294967296 : Nat) : Int) := by rw [wrap_u32 (by omega)]; omega
    have e7 : ibits .or .u32 (((x * 2 ^ r) % 4294967296 : Nat) : Int) (carry : Int) = (((x * 2 ^ r) % 4294967296 + carry : Nat) : Int) := by
      rw [ibits_or hml (by omega) (by rw [hor]; exact hsum), hor]
    have e8 : Int.fdiv ((x * 2 ^ r : Nat) : Int) (2 ^ min (32 : Int).toNat IntKind.u64.bits) = (((x * 2 ^ r) / 4294967296 : Nat) : Int) := by
      show Int.fdiv ((x * 2 ^ r : Nat) : Int) ((4294967296 : Nat) : Int) = _
      rw [Int.fdiv_eq_ediv_of_nonneg _ (by omega)]; rfl
    have e9 : IntKind.u32.wrap ((((x * 2 ^ r) / 4294967296 : Nat) : Nat) : Int) = (((x * 2 ^ r) / 4294967296 : Nat) : Int) := by rw [wrap_u32 (by omega)]; omega
    have hlm : Lm (zs ++ [(x * 2 ^ r) % 4294967296 + carry]) := fun y hy => by
      rcases List.mem_append.1 hy with h | h
      · exact h4 y h
      · rw [List.mem_singleton] at h; subst h; exact hsum
    clear hor hd hxr
    generalize (x * 2 ^ r) % 4294967296 + carry = lo at *
    generalize (x * 2 ^ r) / 4294967296 = hi at *
    repeat' first
      | (rw [e4])
      | (rw [er1])
      | (rw [e5])
      | (rw [e6])
      | (rw [e7])
      | (rw [e8])
      | (rw [e9])
      | refine op_irem (v := 32) ?_
      | refine op_shl (v := ((r : Nat) : Int)) ?_
      | refine op_shr (v := 32) ?_
      | refine op_ibits ?_
      | (refine op_append (H' := (k4, Obj.cells ⟨[.bool false, .slice none 0 0]⟩ 66 (0, 0)) :: (k2, Obj.cells ⟨[.bool neg, .slice (some ⟨kA, oA, none⟩) xs.length c]⟩ 66 (0, 0)) :: H) buf (q + j) (zs.map uv) [uv lo] (m := 1) h2 (fun buf' hok' => ?_) (by exact rfl) (by exact rfl) (List.sublist_cons_self _ _) List.mem_cons_self rfl rfl (by simp [Value.oneCell', uv]) (by decide) (by simp only [maxLen]; omega) (by omega))
      | (first | refine tc_seq ?_ | refine tc_region ?_ | refine at_seq_normal ?_ | refine tl_nil ?_ | refine tl_cons ?_ | refine tl_cons_none ?_ | refine op_move ?_ | refine op_assign ?_ | refine op_fieldAddr ?_ | refine op_load ?_ | refine op_load_agg ?_ | refine op_indexC ?_ | refine op_indexAddr1 ?_ | refine op_indexAddr ?_ | refine op_icmp ?_ | refine op_fcmp ?_ | refine op_iarith ?_ | refine op_bcmp ?_ | refine op_unop_not ?_ | refine op_unop_neg_float ?_ | refine op_unop_neg_int ?_ | refine op_len_slice ?_ | refine op_pick_true ?_ | refine op_pick_false ?_ | refine op_pick_true' ?_ | refine op_pick_false' ?_ | refine op_build ?_ | refine op_extract ?_ | refine op_makeInterface ?_ | refine op_typeAssert ?_ | refine op_ptr_nil ?_ | refine op_nilCheck_ptr ?_ | refine op_nilCheck_meth ?_ | refine op_makeMeth ?_ | refine op_makeFunc ?_ | refine op_itof ?_ | refine op_itoi ?_ | refine op_ftoi ?_ | refine op_iquo ?_ | refine op_irem ?_ | refine op_ibits ?_ | refine op_slice_isnil ?_ | refine op_slice_notnil ?_ | refine op_imax ?_ | refine op_imin ?_ | refine op_shl ?_ | refine op_shr ?_ | (refine op_alloc ?_; intro _) | (refine op_box ?_; intro _) | (refine op_buildSlice ?_; intro _) | (refine op_farith ?_; intro _ _) | refine op_store0 ?_ | refine op_store1 ?_ | refine op_store2 ?_ | refine op_store3 ?_ | refine op_store4 ?_ | refine op_store5 ?_ | refine op_storeK rfl ?_ | refine op_loadK rfl ?_ | refine op_load_aggK rfl ?_ | refine tc_cond_t ?_ | refine tc_cond_f ?_ | refine tc_cond (fun _ => ?_) (fun _ => ?_) | refine tc_block ?_ | refine tc_skip ?_ | refine tc_ret ?_ | refine tc_exit ?_ | refine at_seq_ret ?_ | refine at_seq_exit ?_ | refine at_block_normal ?_ | refine at_block_ret ?_ | refine at_block_exit_self ?_ | refine at_block_exit_ne ?_ | refine at_loop_ret ?_ | refine at_loop_exit ?_ | fail)
      | fail
    exact at_loopK (j + 1, hi, buf', zs ++ [lo]) ⟨hlt, by simp only [List.map_append]; exact hok', by simp [h3]; omega, hlm, hdl, hval⟩ (by simp only; omega) ⟨next_nat (by omega), rfl, rfl, trivial⟩ (by repeat (first | exact trivial | refine ⟨rfl, ?_⟩)) (by simp only [List.map_append]; exact List.Sublist.refl _)
  · have hbb : icmp .lss (j : Int) (xs.length : Int) = false := by rw [lss_nat]; simpa using hlt
    obtain rfl : j = xs.length := by omega
    rw [List.take_of_length_le (Nat.le_refl _)] at h6
    have hlm : Lm (zs ++ [carry]) := fun x hx => by
      rcases List.mem_append.1 hx with h | h
      · exact h4 x h
      · rw [List.mem_singleton] at h; subst h; omega
    have hval : lv (zs ++ [carry]) = lv xs * 2 ^ k := by
      rw [lv_app, h3]; simp only [lv, Nat.mul_zero, Nat.add_zero]
      rw [h6, ← hkq, Nat.pow_add, Nat.pow_mul]
      show 4294967296 ^ q * 2 ^ r * lv xs = lv xs * ((2 ^ 32) ^ q * 2 ^ r)
      rw [Nat.mul_comm]
    have hlen2 : (zs ++ [carry]).length = q + xs.length + 1 := by simp [h3]
    repeat' first
      | refine tc_seq ?_ | refine tc_region ?_ | refine at_seq_normal ?_ | refine tl_nil ?_ | refine tl_cons ?_ | refine tl_cons_none ?_ | refine op_move ?_ | refine op_assign ?_ | refine op_fieldAddr ?_ | refine op_load ?_
      | refine op_load_agg ?_ | refine op_indexC ?_ | refine op_indexAddr1 ?_ | refine op_indexAddr ?_ | refine op_icmp ?_ | refine op_fcmp ?_ | refine op_iarith ?_ | refine op_bcmp ?_ | refine op_unop_not ?_ | refine op_unop_neg_float ?_
      | refine op_unop_neg_int ?_ | refine op_len_slice ?_ | refine op_pick_true ?_ | refine op_pick_false ?_ | refine op_pick_true' ?_ | refine op_pick_false' ?_ | refine op_build ?_ | refine op_extract ?_ | refine op_makeInterface ?_ | refine op_typeAssert ?_
      | refine op_ptr_nil ?_ | refine op_nilCheck_ptr ?_ | refine op_nilCheck_meth ?_ | refine op_makeMeth ?_ | refine op_makeFunc ?_ | refine op_itof ?_ | refine op_itoi ?_ | refine op_ftoi ?_ | refine op_iquo ?_ | refine op_irem ?_
      | refine op_ibits ?_ | refine op_slice_isnil ?_ | refine op_slice_notnil ?_ | refine op_imax ?_ | refine op_imin ?_ | refine op_shl ?_ | refine op_shr ?_ | (refine op_alloc ?_; intro _) | (refine op_box ?_; intro _) | (refine op_buildSlice ?_; intro _)
      | (refine op_farith ?_; intro _ _) | refine op_store0 ?_ | refine op_store1 ?_ | refine op_store2 ?_ | refine op_store3 ?_ | refine op_store4 ?_ | refine op_store5 ?_ | refine op_storeK rfl ?_ | refine op_loadK rfl ?_ | refine op_load_aggK rfl ?_
      | refine tc_cond_t ?_ | refine tc_cond_f ?_ | refine tc_cond (fun _ => ?_) (fun _ => ?_) | refine tc_block ?_ | refine tc_skip ?_ | refine tc_ret ?_ | refine tc_exit ?_ | refine at_seq_ret ?_ | refine at_seq_exit ?_ | refine at_block_normal ?_
      | refine at_block_ret ?_ | refine at_block_exit_self ?_ | refine at_block_exit_ne ?_ | refine at_loop_ret ?_ | refine at_loop_exit ?_
    refine tc_anyQ mixed (by repeat (first | refine pq_seq ?_ | refine pq_block ?_ | refine pq_loop ?_ | exact pq_body)) fun hpq => ?_
    refine ta_take 0 rfl (by kernel_rfl) (by kernel_rfl) (by kernel_rfl) hpq rfl rfl (by decide) (by exact y_fieldAddr) ?_
    refine ta_take 2 rfl (by kernel_rfl) (by kernel_rfl) (by kernel_rfl) hpq rfl rfl (by decide) (by exact y_move) ?_
    refine ta_take 3 rfl (by kernel_rfl) (by kernel_rfl) (by kernel_rfl) hpq rfl rfl (by decide) (by exact y_move) ?_
    refine ta_two 1 4 (by kernel_rfl) rfl (by decide) rfl (by decide) ?_ ?_
    · first | refine op_load (hm := (bufH_sub _ _ _ _).subset hm2) ?_ | refine op_load (hm := List.mem_cons_of_mem _ ((bufH_sub _ _ _ _).subset hm2)) ?_
      refine ta_only 4 (by kernel_rfl) rfl (by decide) ?_
      refine op_buildSlice (fun kn => ?_)
      refine ta_only 5 (by kernel_rfl) rfl (by decide) ?_
      (refine op_append (H' := (k4, Obj.cells ⟨[.bool false, .slice none 0 0]⟩ 66 (0, 0)) :: (k2, Obj.cells ⟨[.bool neg, .slice a xs.length c]⟩ 66 (0, 0)) :: H) buf (q + xs.length) (zs.map uv) [uv carry] (m := 1) h2 (fun buf' hok' => ?_) (by exact rfl) (by exact rfl) (List.sublist_cons_self _ _) List.mem_cons_self rfl rfl (by simp [Value.oneCell', uv]) (by decide) (by simp only [maxLen]; omega) (by omega); rw [show zs.map uv ++ [uv carry] = (zs ++ [carry]).map uv by simp] at hok' ⊢; have hus := fun H => us_buf (e := 189) (H := H) hok'; obtain ⟨aZ, cZ, hvZ⟩ := (hus []).val; rw [hvZ] at hus ⊢)
      refine ta_only 6 (by kernel_rfl) rfl (by decide) ?_
      (refine op_call ((trim aZ cZ (zs ++ [carry]) _ (hus _) (by omega)).mono ?_); rintro _ _ ⟨nn, rfl, rfl, hn, hnrm, hlv⟩)
      refine ta_only 7 (by kernel_rfl) rfl (by decide) ?_
      refine op_build ?_
      refine ta_only0 8 (by kernel_rfl) rfl ?_
      (refine op_perm (bufH_swap _ _ _ (k4, _) _).symm ?_; refine op_store0 ?_)
      refine ta_done (by kernel_rfl) ?_
      repeat' first
        | refine tc_seq ?_ | refine tc_region ?_ | refine at_seq_normal ?_ | refine tl_nil ?_ | refine tl_cons ?_ | refine tl_cons_none ?_ | refine op_move ?_ | refine op_assign ?_ | refine op_fieldAddr ?_ | refine op_load ?_
        | refine op_load_agg ?_ | refine op_indexC ?_ | refine op_indexAddr1 ?_ | refine op_indexAddr ?_ | refine op_icmp ?_ | refine op_fcmp ?_ | refine op_iarith ?_ | refine op_bcmp ?_ | refine op_unop_not ?_ | refine op_unop_neg_float ?_
        | refine op_unop_neg_int ?_ | refine op_len_slice ?_ | refine op_pick_true ?_ | refine op_pick_false ?_ | refine op_pick_true' ?_ | refine op_pick_false' ?_ | refine op_build ?_ | refine op_extract ?_ | refine op_makeInterface ?_ | refine op_typeAssert ?_
        | refine op_ptr_nil ?_ | refine op_nilCheck_ptr ?_ | refine op_nilCheck_meth ?_ | refine op_makeMeth ?_ | refine op_makeFunc ?_ | refine op_itof ?_ | refine op_itoi ?_ | refine op_ftoi ?_ | refine op_iquo ?_ | refine op_irem ?_
        | refine op_ibits ?_ | refine op_slice_isnil ?_ | refine op_slice_notnil ?_ | refine op_imax ?_ | refine op_imin ?_ | refine op_shl ?_ | refine op_shr ?_ | (refine op_alloc ?_; intro _) | (refine op_box ?_; intro _) | (refine op_buildSlice ?_; intro _)
        | (refine op_farith ?_; intro _ _) | refine op_store0 ?_ | refine op_store1 ?_ | refine op_store2 ?_ | refine op_store3 ?_ | refine op_store4 ?_ | refine op_store5 ?_ | refine op_storeK rfl ?_ | refine op_loadK rfl ?_ | refine op_load_aggK rfl ?_
        | refine tc_cond_t ?_ | refine tc_cond_f ?_ | refine tc_cond (fun _ => ?_) (fun _ => ?_) | refine tc_block ?_ | refine tc_skip ?_ | refine tc_ret ?_ | refine tc_exit ?_ | refine at_seq_ret ?_ | refine at_seq_exit ?_ | refine at_block_normal ?_
        | refine at_block_ret ?_ | refine at_block_exit_self ?_ | refine at_block_exit_ne ?_ | refine at_loop_ret ?_ | refine at_loop_exit ?_
      obtain ⟨exB, hexB⟩ := bufH_pre 189 buf' ((zs ++ [carry]).map uv) ((k2, Obj.cells ⟨[.bool neg, .slice a xs.length c]⟩ 66 (0, 0)) :: H)
      refine ret_one (.agg (T := 66) (k := k4) (off := 0) (m := [.bool neg, .slice aZ nn cZ]) rfl rfl mem0 rfl rfl) (hG := List.Sublist.refl _) (hk := ⟨_, ex1_eq hexB, neg, (zs ++ [carry]).take nn, aZ, cZ, by rw [List.length_take, Nat.min_eq_left hn], ?_, hlm.take nn, hnrm, ?_, fun hb => ?_, ?_⟩)
      · rw [List.length_take, Nat.min_eq_left hn]; exact ((hus _).take hn).mono fun e he => List.mem_cons_of_mem _ he
      · unfold nval; rw [hlv, hval, Int.natCast_mul]; cases neg <;> simp [Int.neg_mul]
      · rw [hlv, hval]; exact Nat.mul_ne_zero (x5 hb) (Nat.pos_iff_ne_zero.1 (Nat.two_pow_pos k))
      · rw [List.length_take]; omega
    · refine op_buildSlice (fun kn => ?_)
      refine ta_two 1 5 (by kernel_rfl) rfl (by decide) rfl (by decide) ?_ ?_
      · first | refine op_load (hm := (bufH_sub _ _ _ _).subset hm2) ?_ | refine op_load (hm := List.mem_cons_of_mem _ ((bufH_sub _ _ _ _).subset hm2)) ?_
        refine ta_only 5 (by kernel_rfl) rfl (by decide) ?_
        (refine op_append (H' := (k4, Obj.cells ⟨[.bool false, .slice none 0 0]⟩ 66 (0, 0)) :: (k2, Obj.cells ⟨[.bool neg, .slice a xs.length c]⟩ 66 (0, 0)) :: H) buf (q + xs.length) (zs.map uv) [uv carry] (m := 1) h2 (fun buf' hok' => ?_) (by exact rfl) (by exact rfl) (List.sublist_cons_self _ _) List.mem_cons_self rfl rfl (by simp [Value.oneCell', uv]) (by decide) (by simp only [maxLen]; omega) (by omega); rw [show zs.map uv ++ [uv carry] = (zs ++ [carry]).map uv by simp] at hok' ⊢; have hus := fun H => us_buf (e := 189) (H := H) hok'; obtain ⟨aZ, cZ, hvZ⟩ := (hus []).val; rw [hvZ] at hus ⊢)
        refine ta_only 6 (by kernel_rfl) rfl (by decide) ?_
        (refine op_call ((trim aZ cZ (zs ++ [carry]) _ (hus _) (by omega)).mono ?_); rintro _ _ ⟨nn, rfl, rfl, hn, hnrm, hlv⟩)
        refine ta_only 7 (by kernel_rfl) rfl (by decide) ?_
        refine op_build ?_
        refine ta_only0 8 (by kernel_rfl) rfl ?_
        (refine op_perm (bufH_swap _ _ _ (k4, _) _).symm ?_; refine op_store0 ?_)
        refine ta_done (by kernel_rfl) ?_
        repeat' first
          | refine tc_seq ?_ | refine tc_region ?_ | refine at_seq_normal ?_ | refine tl_nil ?_ | refine tl_cons ?_ | refine tl_cons_none ?_ | refine op_move ?_ | refine op_assign ?_ | refine op_fieldAddr ?_ | refine op_load ?_
          | refine op_load_agg ?_ | refine op_indexC ?_ | refine op_indexAddr1 ?_ | refine op_indexAddr ?_ | refine op_icmp ?_ | refine op_fcmp ?_ | refine op_iarith ?_ | refine op_bcmp ?_ | refine op_unop_not ?_ | refine op_unop_neg_float ?_
          | refine op_unop_neg_int ?_ | refine op_len_slice ?_ | refine op_pick_true ?_ | refine op_pick_false ?_ | refine op_pick_true' ?_ | refine op_pick_false' ?_ | refine op_build ?_ | refine op_extract ?_ | refine op_makeInterface ?_ | refine op_typeAssert ?_
          | refine op_ptr_nil ?_ | refine op_nilCheck_ptr ?_ | refine op_nilCheck_meth ?_ | refine op_makeMeth ?_ | refine op_makeFunc ?_ | refine op_itof ?_ | refine op_itoi ?_ | refine op_ftoi ?_ | refine op_iquo ?_ | refine op_irem ?_
          | refine op_ibits ?_ | refine op_slice_isnil ?_ | refine op_slice_notnil ?_ | refine op_imax ?_ | refine op_imin ?_ | refine op_shl ?_ | refine op_shr ?_ | (refine op_alloc ?_; intro _) | (refine op_box ?_; intro _) | (refine op_buildSlice ?_; intro _)
          | (refine op_farith ?_; intro _ _) | refine op_store0 ?_ | refine op_store1 ?_ | refine op_store2 ?_ | refine op_store3 ?_ | refine op_store4 ?_ | refine op_store5 ?_ | refine op_storeK rfl ?_ | refine op_loadK rfl ?_ | refine op_load_aggK rfl ?_
          | refine tc_cond_t ?_ | refine tc_cond_f ?_ | refine tc_cond (fun _ => ?_) (fun _ => ?_) | refine tc_block ?_ | refine tc_skip ?_ | refine tc_ret ?_ | refine tc_exit ?_ | refine at_seq_ret ?_ | refine at_seq_exit ?_ | refine at_block_normal ?_
          | refine at_block_ret ?_ | refine at_block_exit_self ?_ | refine at_block_exit_ne ?_ | refine at_loop_ret ?_ | refine at_loop_exit ?_
        obtain ⟨exB, hexB⟩ := bufH_pre 189 buf' ((zs ++ [carry]).map uv) ((k2, Obj.cells ⟨[.bool neg, .slice a xs.length c]⟩ 66 (0, 0)) :: H)
        refine ret_one (.agg (T := 66) (k := k4) (off := 0) (m := [.bool neg, .slice aZ nn cZ]) rfl rfl mem0 rfl rfl) (hG := List.Sublist.refl _) (hk := ⟨_, ex1_eq hexB, neg, (zs ++ [carry]).take nn, aZ, cZ, by rw [List.length_take, Nat.min_eq_left hn], ?_, hlm.take nn, hnrm, ?_, fun hb => ?_, ?_⟩)
        · rw [List.length_take, Nat.min_eq_left hn]; exact ((hus _).take hn).mono fun e he => List.mem_cons_of_mem _ he
        · unfold nval; rw [hlv, hval, Int.natCast_mul]; cases neg <;> simp [Int.neg_mul]
        · rw [hlv, hval]; exact Nat.mul_ne_zero (x5 hb) (Nat.pos_iff_ne_zero.1 (Nat.two_pow_pos k))
        · rw [List.length_take]; omega
      · (refine op_append (H' := (k4, Obj.cells ⟨[.bool false, .slice none 0 0]⟩ 66 (0, 0)) :: (k2, Obj.cells ⟨[.bool neg, .slice a xs.length c]⟩ 66 (0, 0)) :: H) buf (q + xs.length) (zs.map uv) [uv carry] (m := 1) h2 (fun buf' hok' => ?_) (by exact rfl) (by exact rfl) (List.sublist_cons_self _ _) List.mem_cons_self rfl rfl (by simp [Value.oneCell', uv]) (by decide) (by simp only [maxLen]; omega) (by omega); rw [show zs.map uv ++ [uv carry] = (zs ++ [carry]).map uv by simp] at hok' ⊢; have hus := fun H => us_buf (e := 189) (H := H) hok'; obtain ⟨aZ, cZ, hvZ⟩ := (hus []).val; rw [hvZ] at hus ⊢)
        refine ta_two 1 6 (by kernel_rfl) rfl (by decide) rfl (by decide) ?_ ?_
        · first | refine op_load (hm := (bufH_sub _ _ _ _).subset hm2) ?_ | refine op_load (hm := List.mem_cons_of_mem _ ((bufH_sub _ _ _ _).subset hm2)) ?_
          refine ta_only 6 (by kernel_rfl) rfl (by decide) ?_
          (refine op_call ((trim aZ cZ (zs ++ [carry]) _ (hus _) (by omega)).mono ?_); rintro _ _ ⟨nn, rfl, rfl, hn, hnrm, hlv⟩)
          refine ta_only 7 (by kernel_rfl) rfl (by decide) ?_
          refine op_build ?_
          refine ta_only0 8 (by kernel_rfl) rfl ?_
          (refine op_perm (bufH_swap _ _ _ (k4, _) _).symm ?_; refine op_store0 ?_)
          refine ta_done (by kernel_rfl) ?_
          repeat' first
            | refine tc_seq ?_ | refine tc_region ?_ | refine at_seq_normal ?_ | refine tl_nil ?_ | refine tl_cons ?_ | refine tl_cons_none ?_ | refine op_move ?_ | refine op_assign ?_ | refine op_fieldAddr ?_ | refine op_load ?_
            | refine op_load_agg ?_ | refine op_indexC ?_ | refine op_indexAddr1 ?_ | refine op_indexAddr ?_ | refine op_icmp ?_ | refine op_fcmp ?_ | refine op_iarith ?_ | refine op_bcmp ?_ | refine op_unop_not ?_ | refine op_unop_neg_float ?_
            | refine op_unop_neg_int ?_ | refine op_len_slice ?_ | refine op_pick_true ?_ | refine op_pick_false ?_ | refine op_pick_true' ?_ | refine op_pick_false' ?_ | refine op_build ?_ | refine op_extract ?_ | refine op_makeInterface ?_ | refine op_typeAssert ?_
            | refine op_ptr_nil ?_ | refine op_nilCheck_ptr ?_ | refine op_nilCheck_meth ?_ | refine op_makeMeth ?_ | refine op_makeFunc ?_ | refine op_itof ?_ | refine op_itoi ?_ | refine op_ftoi ?_ | refine op_iquo ?_ | refine op_irem ?_
            | refine op_ibits ?_ | refine op_slice_isnil ?_ | refine op_slice_notnil ?_ | refine op_imax ?_ | refine op_imin ?_ | refine op_shl ?_ | refine op_shr ?_ | (refine op_alloc ?_; intro _) | (refine op_box ?_; intro _) | (refine op_buildSlice ?_; intro _)
            | (refine op_farith ?_; intro _ _) | refine op_store0 ?_ | refine op_store1 ?_ | refine op_store2 ?_ | refine op_store3 ?_ | refine op_store4 ?_ | refine op_store5 ?_ | refine op_storeK rfl ?_ | refine op_loadK rfl ?_ | refine op_load_aggK rfl ?_
            | refine tc_cond_t ?_ | refine tc_cond_f ?_ | refine tc_cond (fun _ => ?_) (fun _ => ?_) | refine tc_block ?_ | refine tc_skip ?_ | refine tc_ret ?_ | refine tc_exit ?_ | refine at_seq_ret ?_ | refine at_seq_exit ?_ | refine at_block_normal ?_
            | refine at_block_ret ?_ | refine at_block_exit_self ?_ | refine at_block_exit_ne ?_ | refine at_loop_ret ?_ | refine at_loop_exit ?_
          obtain ⟨exB, hexB⟩ := bufH_pre 189 buf' ((zs ++ [carry]).map uv) ((k2, Obj.cells ⟨[.bool neg, .slice a xs.length c]⟩ 66 (0, 0)) :: H)
          refine ret_one (.agg (T := 66) (k := k4) (off := 0) (m := [.bool neg, .slice aZ nn cZ]) rfl rfl mem0 rfl rfl) (hG := List.Sublist.refl _) (hk := ⟨_, ex1_eq hexB, neg, (zs ++ [carry]).take nn, aZ, cZ, by rw [List.length_take, Nat.min_eq_left hn], ?_, hlm.take nn, hnrm, ?_, fun hb => ?_, ?_⟩)
          · rw [List.length_take, Nat.min_eq_left hn]; exact ((hus _).take hn).mono fun e he => List.mem_cons_of_mem _ he
          · unfold nval; rw [hlv, hval, Int.natCast_mul]; cases neg <;> simp [Int.neg_mul]
          · rw [hlv, hval]; exact Nat.mul_ne_zero (x5 hb) (Nat.pos_iff_ne_zero.1 (Nat.two_pow_pos k))
          · rw [List.length_take]; omega
        · (refine op_call ((trim aZ cZ (zs ++ [carry]) _ (hus _) (by omega)).mono ?_); rintro _ _ ⟨nn, rfl, rfl, hn, hnrm, hlv⟩)
          refine ta_only 1 (by kernel_rfl) rfl (by decide) ?_
          first | refine op_load (hm := (bufH_sub _ _ _ _).subset hm2) ?_ | refine op_load (hm := List.mem_cons_of_mem _ ((bufH_sub _ _ _ _).subset hm2)) ?_
          refine ta_only 7 (by kernel_rfl) rfl (by decide) ?_
          refine op_build ?_
          refine ta_only0 8 (by kernel_rfl) rfl ?_
          (refine op_perm (bufH_swap _ _ _ (k4, _) _).symm ?_; refine op_store0 ?_)
          refine ta_done (by kernel_rfl) ?_
          repeat' first
            | refine tc_seq ?_ | refine tc_region ?_ | refine at_seq_normal ?_ | refine tl_nil ?_ | refine tl_cons ?_ | refine tl_cons_none ?_ | refine op_move ?_ | refine op_assign ?_ | refine op_fieldAddr ?_ | refine op_load ?_
            | refine op_load_agg ?_ | refine op_indexC ?_ | refine op_indexAddr1 ?_ | refine op_indexAddr ?_ | refine op_icmp ?_ | refine op_fcmp ?_ | refine op_iarith ?_ | refine op_bcmp ?_ | refine op_unop_not ?_ | refine op_unop_neg_float ?_
            | refine op_unop_neg_int ?_ | refine op_len_slice ?_ | refine op_pick_true ?_ | refine op_pick_false ?_ | refine op_pick_true' ?_ | refine op_pick_false' ?_ | refine op_build ?_ | refine op_extract ?_ | refine op_makeInterface ?_ | refine op_typeAssert ?_
            | refine op_ptr_nil ?_ | refine op_nilCheck_ptr ?_ | refine op_nilCheck_meth ?_ | refine op_makeMeth ?_ | refine op_makeFunc ?_ | refine op_itof ?_ | refine op_itoi ?_ | refine op_ftoi ?_ | refine op_iquo ?_ | refine op_irem ?_
            | refine op_ibits ?_ | refine op_slice_isnil ?_ | refine op_slice_notnil ?_ | refine op_imax ?_ | refine op_imin ?_ | refine op_shl ?_ | refine op_shr ?_ | (refine op_alloc ?_; intro _) | (refine op_box ?_; intro _) | (refine op_buildSlice ?_; intro _)
            | (refine op_farith ?_; intro _ _) | refine op_store0 ?_ | refine op_store1 ?_ | refine op_store2 ?_ | refine op_store3 ?_ | refine op_store4 ?_ | refine op_store5 ?_ | refine op_storeK rfl ?_ | refine op_loadK rfl ?_ | refine op_load_aggK rfl ?_
            | refine tc_cond_t ?_ | refine tc_cond_f ?_ | refine tc_cond (fun _ => ?_) (fun _ => ?_) | refine tc_block ?_ | refine tc_skip ?_ | refine tc_ret ?_ | refine tc_exit ?_ | refine at_seq_ret ?_ | refine at_seq_exit ?_ | refine at_block_normal ?_
            | refine at_block_ret ?_ | refine at_block_exit_self ?_ | refine at_block_exit_ne ?_ | refine at_loop_ret ?_ | refine at_loop_exit ?_
          obtain ⟨exB, hexB⟩ := bufH_pre 189 buf' ((zs ++ [carry]).map uv) ((k2, Obj.cells ⟨[.bool neg, .slice a xs.length c]⟩ 66 (0, 0)) :: H)
          refine ret_one (.agg (T := 66) (k := k4) (off := 0) (m := [.bool neg, .slice aZ nn cZ]) rfl rfl mem0 rfl rfl) (hG := List.Sublist.refl _) (hk := ⟨_, ex1_eq hexB, neg, (zs ++ [carry]).take nn, aZ, cZ, by rw [List.length_take, Nat.min_eq_left hn], ?_, hlm.take nn, hnrm, ?_, fun hb => ?_, ?_⟩)
          · rw [List.length_take, Nat.min_eq_left hn]; exact ((hus _).take hn).mono fun e he => List.mem_cons_of_mem _ he
          · unfold nval; rw [hlv, hval, Int.natCast_mul]; cases neg <;> simp [Int.neg_mul]
          · rw [hlv, hval]; exact Nat.mul_ne_zero (x5 hb) (Nat.pos_iff_ne_zero.1 (Nat.two_pow_pos k))
          · rw [List.length_take]; omega
end Go.Proofs.Ytomhkbijijdghaa.Lmb

set_option linter.unusedVariables false
set_option linter.unusedSimpArgs false
namespace Go.Proofs.Ytomhkbijijdghaa.Lmb
open Go.Lg

/-- The value is n times two to the e. -/
def IsD (n e : Int) (L : Nat) (u : Value) (G : Heap) : Prop := ∃ b a k c, u = .agg ⟨[.bool b, .slice a k c, .int .i64 e]⟩ ∧ IsW n L (.agg ⟨[.bool b, .slice a k c]⟩) G
theorem IsD.mono {n e L u G G'} (h : IsD n e L u G) (hG : ∀ x ∈ G, x ∈ G') : IsD n e L u G' := by
  obtain ⟨b, a, k, c, h1, h2⟩ := h
  exact ⟨b, a, k, c, h1, h2.mono hG⟩
theorem IsD.skip {n e L u} {G G' : Heap} (h : IsD n e L u G) (hs : ∀ x ∈ G, x ∈ G' ∨ NoU x) : IsD n e L u G' := by
  obtain ⟨b, a, k, c, h1, h2⟩ := h
  exact ⟨b, a, k, c, h1, h2.skip hs⟩
theorem IsW.big {n L M u G} (h : IsW n L u G) (hl : L ≤ M) : IsW n M u G := by
  obtain ⟨neg, xs, a, c, h1, h2, h3, h4, h5, h6, h7⟩ := h
  exact ⟨neg, xs, a, c, h1, h2, h3, h4, h5, h6, by omega⟩
theorem IsD.big {n e L M u G} (h : IsD n e L u G) (hl : L ≤ M) : IsD n e M u G := by
  obtain ⟨b, a, k, c, h1, h2⟩ := h
  exact ⟨b, a, k, c, h1, h2.big hl⟩
theorem noU3 {k : Nat} {T : TypeId} {fz : Nat × Nat} {b : Bool} {a : Option Addr} {n c : Nat} {e : Int} : NoU (k, Obj.cells ⟨[.bool b, .slice a n c, .int .i64 e]⟩ T fz) := fun l T fz h x hx n => by
  cases h
  simp only [List.mem_cons, List.not_mem_nil, or_false] at hx
  rcases hx with rfl | rfl | rfl <;> (intro h; cases h)
theorem ex2b_eq {α : Type} {x a : α} {H : List α} (e2 e1 : List α) : x :: (e2 ++ (e1 ++ a :: H)) = (x :: (e2 ++ (e1 ++ [a]))) ++ H := by simp
theorem isW_val {n L b a k c G} (h : IsW n L (.agg ⟨[.bool b, .slice a k c]⟩) G) : True := trivial

theorem dSign (u : Value) (n e : Int) (L : Nat) (H : Heap) (hu : IsD n e L u H) : Does Try.prog 82 [u] H fun w H' => w = .int .i64 (sgI n) ∧ H' = H := by
  obtain ⟨b, a, k, c, rfl, h1⟩ := hu
  refine fn_enter 6 Try.func82 fun W => ?_
  repeat' first
    | (first | refine tc_seq ?_ | refine tc_region ?_ | refine at_seq_normal ?_ | refine tl_nil ?_ | refine tl_cons ?_ | refine op_assign ?_ | refine op_fieldAddr ?_ | refine op_load ?_ | refine op_load_agg ?_ | (refine op_box ?_; intro _) | refine op_loadK rfl ?_ | refine op_load_aggK rfl ?_ | refine tc_ret ?_ | refine at_seq_ret ?_ | fail)
    | (refine op_call ((wSign _ n L _ (h1.mono fun e he => by simp [he])).mono ?_); rintro _ _ ⟨rfl, rfl⟩)
    | fail
  exact ret_tmp (hG := List.sublist_cons_self _ _) (hk := ⟨rfl, rfl⟩)

set_option maxHeartbeats 8000000 in
theorem dMinus (u : Value) (n e : Int) (L : Nat) (H : Heap) (hu : IsD n e L u H) : Does Try.prog 99 [u] H fun w H' => ∃ ex, H' = ex ++ H ∧ IsD (-n) e L w H' := by
  obtain ⟨b, a, k, c, rfl, h1⟩ := hu
  refine fn_enter 9 Try.func99 fun W => ?_
  repeat' first
    | refine tc_seq ?_ | refine tc_region ?_ | refine at_seq_normal ?_ | refine tl_nil ?_ | refine tl_cons ?_ | refine tl_cons_none ?_ | refine op_fieldAddr ?_ | refine op_load ?_ | refine op_load_agg ?_ | refine op_build ?_
    | (refine op_alloc ?_; intro _) | (refine op_box ?_; intro _) | refine op_store0 ?_ | refine op_store1 ?_ | refine op_store2 ?_ | refine op_store3 ?_ | refine op_store4 ?_ | refine op_store5 ?_ | refine op_storeK rfl ?_ | refine op_loadK rfl ?_
    | refine op_load_aggK rfl ?_ | refine tc_ret ?_ | refine at_seq_ret ?_
  rename_i k1 k2
  apply fun hole0 hole1 hole2 hole3 hE hD hml hdl hpr prem fin => tc_drawn 6 [is hole0, is hole1, (fun w _ G => IsW (-n) L w G), is hole2, is hole3, (fun w _ G => IsD (-n) e L w G)]
    [some 3, some 4, some 5, some 6, some 7, some 8, none] [[], [0], [1], [], [3], [2, 4]] mixed ⟨(is_mono _), (is_mono _), (fun _ _ _ _ h hs => IsW.mono h hs), (is_mono _), (is_mono _), (fun _ _ _ _ h hs => IsD.mono h hs), trivial⟩ prem fin hE hD rfl hml hdl hpr
  rotate_left 5
  · first | kernel_rfl | exact rfl
  · first | kernel_rfl | exact rfl
  · exact Nat.le_of_ble_eq_true rfl
  · first | kernel_rfl | exact rfl
  · first | kernel_rfl | exact rfl
  refine ⟨fun G hG => ?_, fun G hG => ?_, fun G hG => ?_, fun G hG => ?_, fun G hG => ?_, fun G hG => ?_, trivial⟩
  · simp only [with2, Step2, nthDst, putO]
    (refine op_fieldAddr ?_; exact ⟨[], rfl, rfl, rfl⟩)
  · rintro _ _ ⟨rfl, rfl⟩ -
    simp only [with2, Step2, nthDst, putO]
    ((first | refine op_load ?_ | refine op_load_agg ?_ | refine op_load ?_ (hm := Sub.mem (by assumption) (by (repeat (apply List.mem_cons_of_mem)); assumption)) | refine op_load_agg ?_ (hm := Sub.mem (by assumption) (by (repeat (apply List.mem_cons_of_mem)); assumption)) | refine op_loadH hG rfl ?_ | refine op_load_aggH hG rfl ?_); exact ⟨[], rfl, rfl, rfl⟩)
  · rintro _ _ ⟨rfl, rfl⟩ -
    simp only [with2, Step2, nthDst, putO]
    (refine op_call ((wMinus _ n L _ (h1.mono fun e he => hG e (by simp [he]))).mono ?_); rintro w _ ⟨ex, rfl, hw⟩; exact ⟨ex, rfl, hw.mono fun e he => List.mem_append_right _ he⟩)
  · simp only [with2, Step2, nthDst, putO]
    (refine op_fieldAddr ?_; exact ⟨[], rfl, rfl, rfl⟩)
  · rintro _ _ ⟨rfl, rfl⟩ -
    simp only [with2, Step2, nthDst, putO]
    ((first | refine op_load ?_ | refine op_load_agg ?_ | refine op_load ?_ (hm := Sub.mem (by assumption) (by (repeat (apply List.mem_cons_of_mem)); assumption)) | refine op_load_agg ?_ (hm := Sub.mem (by assumption) (by (repeat (apply List.mem_cons_of_mem)); assumption)) | refine op_loadH hG rfl ?_ | refine op_load_aggH hG rfl ?_); exact ⟨[], rfl, rfl, rfl⟩)
  · rintro _ _ ⟨nz, zr, ar, cr, rfl, r⟩ - _ _ ⟨rfl, rfl⟩ -
    simp only [with2, Step2, nthDst, putO]
    (refine op_build ?_; exact ⟨[], rfl, _, _, _, _, rfl, ⟨nz, zr, ar, cr, rfl, r⟩⟩)
  · rintro _ _ _ _ _ _ _ _ _ _ _ _ ⟨⟨bz, az, kz, cz, rfl, hz⟩, ⟨rfl, rfl⟩, ⟨rfl, rfl⟩, ⟨nz, zr, ar, cr, rfl, r⟩, ⟨rfl, rfl⟩, ⟨rfl, rfl⟩, _⟩
    simp only [List.nil_append, List.cons_append, List.append_nil, List.drop_succ_cons, List.drop_zero, nthDst, putO]
    rename_i e1 e2 _
    simp only [List.nil_append] at hz
    refine tl_cons_none ?_
    refine op_perm (mid2 _ _ (k2, _) _).symm ?_
    refine op_store0 ?_
    repeat' first
      | refine tc_seq ?_ | refine tc_region ?_ | refine at_seq_normal ?_ | refine tl_nil ?_ | refine tl_cons ?_ | refine tl_cons_none ?_ | refine op_fieldAddr ?_ | refine op_load ?_ | refine op_load_agg ?_ | refine op_build ?_
      | (refine op_alloc ?_; intro _) | (refine op_box ?_; intro _) | refine op_store0 ?_ | refine op_store1 ?_ | refine op_store2 ?_ | refine op_store3 ?_ | refine op_store4 ?_ | refine op_store5 ?_ | refine op_storeK rfl ?_ | refine op_loadK rfl ?_
      | refine op_load_aggK rfl ?_ | refine tc_ret ?_ | refine at_seq_ret ?_
    refine ret_one (.agg (T := 68) (k := k2) (off := 0) (m := [.bool bz, .slice az kz cz, .int .i64 e]) rfl rfl mem0 rfl rfl) (hG := List.Sublist.refl _) (hk := ⟨_, ex2b_eq _ _, ?_⟩)
    exact IsD.skip ⟨bz, az, kz, cz, rfl, hz⟩ (mid2_mem noU3)

set_option maxHeartbeats 8000000 in
theorem dMul (u v : Value) (n e m f : Int) (L M : Nat) (H : Heap) (hu : IsD n e L u H) (hv : IsD m f M v H) (hL : L < 2 ^ 30) (hM : M < 2 ^ 30) (he : -1000000 ≤ e ∧ e ≤ 1000000) (hf : -1000000 ≤ f ∧ f ≤ 1000000) :
    Does Try.prog 42 [u, v] H fun w H' => ∃ ex, H' = ex ++ H ∧ IsD (n * m) (e + f) (L + M) w H' := by
  obtain ⟨b, a, k, c, rfl, h1⟩ := hu
  obtain ⟨b2, a2, kk2, c2, rfl, h2⟩ := hv
  have hef : IntKind.i64.wrap (iarith .add e f) = e + f := wrap_add (by omega) (by omega)
  refine fn_enter 16 Try.func42 fun W => ?_
  repeat' first
    | refine tc_seq ?_ | refine tc_region ?_ | refine at_seq_normal ?_ | refine tl_nil ?_ | refine tl_cons ?_ | refine tl_cons_none ?_ | refine op_fieldAddr ?_ | refine op_load ?_ | refine op_load_agg ?_ | refine op_iarith ?_
    | refine op_build ?_ | (refine op_alloc ?_; intro _) | (refine op_box ?_; intro _) | refine op_store0 ?_ | refine op_store1 ?_ | refine op_store2 ?_ | refine op_store3 ?_ | refine op_store4 ?_ | refine op_store5 ?_ | refine op_storeK rfl ?_
    | refine op_loadK rfl ?_ | refine op_load_aggK rfl ?_ | refine tc_ret ?_ | refine at_seq_ret ?_
  rename_i k2 k3 k4
  apply fun hole0 hole1 hole2 hole3 hole4 hole5 hole6 hole7 hole8 hE hD hml hdl hpr prem fin => tc_drawn 11 [is hole0, is hole1, is hole2, is hole3, (fun w _ G => IsW (n * m) (L + M) w G), is hole4, is hole5, is hole6, is hole7, is hole8, (fun w _ G => IsD (n * m) (e + f) (L + M) w G)]
    [some 5, some 6, some 7, some 8, some 9, some 10, some 11, some 12, some 13, some 14, some 15, none] [[], [0], [], [2], [1, 3], [], [5], [], [7], [6, 8], [4, 9]] mixed ⟨(is_mono _), (is_mono _), (is_mono _), (is_mono _), (fun _ _ _ _ h hs => IsW.mono h hs), (is_mono _), (is_mono _), (is_mono _), (is_mono _), (is_mono _), (fun _ _ _ _ h hs => IsD.mono h hs), trivial⟩ prem fin hE hD rfl hml hdl hpr
  rotate_left 10
  · first | kernel_rfl | exact rfl
  · first | kernel_rfl | exact rfl
  · exact Nat.le_of_ble_eq_true rfl
  · first | kernel_rfl | exact rfl
  · first | kernel_rfl | exact rfl
  refine ⟨fun G hG => ?_, fun G hG => ?_, fun G hG => ?_, fun G hG => ?_, fun G hG => ?_, fun G hG => ?_, fun G hG => ?_, fun G hG => ?_, fun G hG => ?_, fun G hG => ?_, fun G hG => ?_, trivial⟩
  · simp only [with2, Step2, nthDst, putO]
    (refine op_fieldAddr ?_; exact ⟨[], rfl, rfl, rfl⟩)
  · rintro _ _ ⟨rfl, rfl⟩ -
    simp only [with2, Step2, nthDst, putO]
    ((first | refine op_load ?_ | refine op_load_agg ?_ | refine op_load ?_ (hm := Sub.mem (by assumption) (by (repeat (apply List.mem_cons_of_mem)); assumption)) | refine op_load_agg ?_ (hm := Sub.mem (by assumption) (by (repeat (apply List.mem_cons_of_mem)); assumption)) | refine op_loadH hG rfl ?_ | refine op_load_aggH hG rfl ?_); exact ⟨[], rfl, rfl, rfl⟩)
  · simp only [with2, Step2, nthDst, putO]
    (refine op_fieldAddr ?_; exact ⟨[], rfl, rfl, rfl⟩)
  · rintro _ _ ⟨rfl, rfl⟩ -
    simp only [with2, Step2, nthDst, putO]
    ((first | refine op_load ?_ | refine op_load_agg ?_ | refine op_load ?_ (hm := Sub.mem (by assumption) (by (repeat (apply List.mem_cons_of_mem)); assumption)) | refine op_load_agg ?_ (hm := Sub.mem (by assumption) (by (repeat (apply List.mem_cons_of_mem)); assumption)) | refine op_loadH hG rfl ?_ | refine op_load_aggH hG rfl ?_); exact ⟨[], rfl, rfl, rfl⟩)
  · rintro _ _ ⟨rfl, rfl⟩ - _ _ ⟨rfl, rfl⟩ -
    simp only [with2, Step2, nthDst, putO]
    (refine op_call ((wMul _ _ n m L M _ (h1.mono fun e he => hG e (by simp [he])) (h2.mono fun e he => hG e (by simp [he])) hL hM).mono ?_); rintro w _ ⟨ex, rfl, hw⟩; exact ⟨ex, rfl, hw⟩)
  · simp only [with2, Step2, nthDst, putO]
    (refine op_fieldAddr ?_; exact ⟨[], rfl, rfl, rfl⟩)
  · rintro _ _ ⟨rfl, rfl⟩ -
    simp only [with2, Step2, nthDst, putO]
    ((first | refine op_load ?_ | refine op_load_agg ?_ | refine op_load ?_ (hm := Sub.mem (by assumption) (by (repeat (apply List.mem_cons_of_mem)); assumption)) | refine op_load_agg ?_ (hm := Sub.mem (by assumption) (by (repeat (apply List.mem_cons_of_mem)); assumption)) | refine op_loadH hG rfl ?_ | refine op_load_aggH hG rfl ?_); exact ⟨[], rfl, rfl, rfl⟩)
  · simp only [with2, Step2, nthDst, putO]
    (refine op_fieldAddr ?_; exact ⟨[], rfl, rfl, rfl⟩)
  · rintro _ _ ⟨rfl, rfl⟩ -
    simp only [with2, Step2, nthDst, putO]
    ((first | refine op_load ?_ | refine op_load_agg ?_ | refine op_load ?_ (hm := Sub.mem (by assumption) (by (repeat (apply List.mem_cons_of_mem)); assumption)) | refine op_load_agg ?_ (hm := Sub.mem (by assumption) (by (repeat (apply List.mem_cons_of_mem)); assumption)) | refine op_loadH hG rfl ?_ | refine op_load_aggH hG rfl ?_); exact ⟨[], rfl, rfl, rfl⟩)
  · rintro _ _ ⟨rfl, rfl⟩ - _ _ ⟨rfl, rfl⟩ -
    simp only [with2, Step2, nthDst, putO]
    (refine op_iarith ?_; exact ⟨[], rfl, rfl, rfl⟩)
  · rintro _ _ ⟨nz, zr, ar, cr, rfl, r⟩ - _ _ ⟨rfl, rfl⟩ -
    simp only [with2, Step2, nthDst, putO]
    (rw [hef]; refine op_build ?_; exact ⟨[], rfl, _, _, _, _, rfl, ⟨nz, zr, ar, cr, rfl, r⟩⟩)
  · rintro _ _ _ _ _ _ _ _ _ _ _ _ _ _ _ _ _ _ _ _ _ _ ⟨⟨bz, az, kz, cz, rfl, hz⟩, ⟨rfl, rfl⟩, ⟨rfl, rfl⟩, ⟨rfl, rfl⟩, ⟨rfl, rfl⟩, ⟨rfl, rfl⟩, ⟨nz, zr, ar, cr, rfl, r⟩, ⟨rfl, rfl⟩, ⟨rfl, rfl⟩, ⟨rfl, rfl⟩, ⟨rfl, rfl⟩, _⟩
    simp only [List.nil_append, List.cons_append, List.append_nil, List.drop_succ_cons, List.drop_zero, nthDst, putO]
    rename_i e1 e2 _
    simp only [List.nil_append] at hz
    refine tl_cons_none ?_
    refine op_perm (mid2 _ _ (k4, _) _).symm ?_
    refine op_store0 ?_
    repeat' first
      | refine tc_seq ?_ | refine tc_region ?_ | refine at_seq_normal ?_ | refine tl_nil ?_ | refine tl_cons ?_ | refine tl_cons_none ?_ | refine op_fieldAddr ?_ | refine op_load ?_ | refine op_load_agg ?_ | refine op_iarith ?_
      | refine op_build ?_ | (refine op_alloc ?_; intro _) | (refine op_box ?_; intro _) | refine op_store0 ?_ | refine op_store1 ?_ | refine op_store2 ?_ | refine op_store3 ?_ | refine op_store4 ?_ | refine op_store5 ?_ | refine op_storeK rfl ?_
      | refine op_loadK rfl ?_ | refine op_load_aggK rfl ?_ | refine tc_ret ?_ | refine at_seq_ret ?_
    refine ret_one (.agg (T := 68) (k := k4) (off := 0) (m := [.bool bz, .slice az kz cz, .int .i64 (e + f)]) rfl rfl mem0 rfl rfl) (hG := List.Sublist.refl _) (hk := ⟨_, ex2_eq _ _, ?_⟩)
    exact IsD.skip ⟨bz, az, kz, cz, rfl, hz⟩ (mid2_mem noU3)
end Go.Proofs.Ytomhkbijijdghaa.Lmb
