/-
  Hilbert curves: the place at a position (2 and 3 dimensions). Printed by gen_hil3.py. No conditions.
-/
import Derived.Test.YtjalgjeibnjinaaDoorHil2
set_option linter.unusedVariables false
set_option linter.unusedSimpArgs false
namespace Go.Proofs.YtjalgjeibnjinaaDoor.Hil
open Go.Lg

/-- The bits of the code of Gray. -/
def grayL (D e : Nat) : List Nat := (List.range D).map fun i => (e / 2 ^ i + e / 2 ^ (i + 1)) % 2
def cstep (D : Nat) (rot : Bool → Nat → Nat → List Nat → List Nat) (n : Nat) (s : List Nat × Nat) : List Nat × Nat :=
  (List.zipWith (fun x b => x + b * 2 ^ n) (rot true (2 ^ n - 1) (s.2 % 2 ^ D) s.1) (grayL D (s.2 % 2 ^ D)), s.2 / 2 ^ D)
def cst (D : Nat) (rot : Bool → Nat → Nat → List Nat → List Nat) (pos : Nat) : Nat → List Nat × Nat
  | 0 => (List.replicate D 0, pos)
  | n + 1 => cstep D rot n (cst D rot pos n)
def Below (n : Nat) (xs : List Nat) : Prop := ∀ x ∈ xs, x < 2 ^ n
theorem Below.getD {n : Nat} {xs : List Nat} (h : Below n xs) (i : Nat) : xs.getD i 0 < 2 ^ n := by
  rw [List.getD_eq_getElem?_getD]
  cases hx : xs[i]? with
  | none => simpa using Nat.two_pow_pos n
  | some x => exact h x (List.mem_of_getElem? hx)
theorem Below.set {n : Nat} {xs : List Nat} (h : Below n xs) (i : Nat) {y : Nat} (hy : y < 2 ^ n) : Below n (xs.set i y) := by
  intro x hx
  rcases List.mem_or_eq_of_mem_set hx with h' | h'
  · exact h x h'
  · rw [h']; exact hy
theorem xor_below {a n : Nat} (ha : a < 2 ^ n) : a ^^^ (2 ^ n - 1) < 2 ^ n := Nat.xor_lt_two_pow ha (by have := Nat.two_pow_pos n; omega)
theorem Below.swap {n : Nat} {xs : List Nat} (h : Below n xs) (i j : Nat) : Below n (swapL i j xs) := (h.set _ (h.getD _)).set _ (h.getD _)
theorem Below.flip {n : Nat} {xs : List Nat} (h : Below n xs) (i j : Nat) : Below n (flipL (2 ^ n - 1) i j xs) := (h.set _ (xor_below (h.getD _))).set _ (xor_below (h.getD _))
theorem Below.inv {n : Nat} {xs : List Nat} (h : Below n xs) (i j : Nat) : Below n (invL (2 ^ n - 1) i j xs) := (h.set _ (xor_below (h.getD _))).set _ (xor_below (h.getD _))
theorem Below.small {n : Nat} {xs : List Nat} (h : Below n xs) (hn : n < 63) : Small xs := fun x hx => Nat.lt_trans (h x hx) (pow_lt63 hn)
class Turn (rot : Bool → Nat → Nat → List Nat → List Nat) : Prop where
  len : ∀ rev m d xs, (rot rev m d xs).length = xs.length
  below : ∀ rev n d xs, Below n xs → Below n (rot rev (2 ^ n - 1) d xs)

instance turn2 : Turn rot2 where
  len := fun rev m d xs => by unfold rot2; split <;> simp [swapL_len, flipL_len, invL_len]
  below := fun rev n d xs h => by
    unfold rot2
    split
    all_goals first
      | exact h
      | exact h.swap _ _
      | exact h.flip _ _
      | exact h.inv _ _
      | exact (h.swap _ _).swap _ _
      | exact (h.flip _ _).flip _ _
      | exact (h.flip _ _).swap _ _
      | exact (h.swap _ _).flip _ _
instance turn3 : Turn rot3 where
  len := fun rev m d xs => by unfold rot3; split <;> simp [swapL_len, flipL_len, invL_len]
  below := fun rev n d xs h => by
    unfold rot3
    split
    all_goals first
      | exact h
      | exact h.swap _ _
      | exact h.flip _ _
      | exact h.inv _ _
      | exact (h.swap _ _).swap _ _
      | exact (h.flip _ _).flip _ _
      | exact (h.flip _ _).swap _ _
      | exact (h.swap _ _).flip _ _
instance turn4 : Turn rot4 where
  len := fun rev m d xs => by unfold rot4; split <;> simp [swapL_len, flipL_len, invL_len]
  below := fun rev n d xs h => by
    unfold rot4
    split
    all_goals first
      | exact h
      | exact h.swap _ _
      | exact h.flip _ _
      | exact h.inv _ _
      | exact (h.swap _ _).swap _ _
      | exact (h.flip _ _).flip _ _
      | exact (h.flip _ _).swap _ _
      | exact (h.swap _ _).flip _ _
theorem grayL_len {D e : Nat} : (grayL D e).length = D := by simp [grayL]
theorem grayL_bit {D e b : Nat} (h : b ∈ grayL D e) : b < 2 := by
  obtain ⟨i, _, rfl⟩ := List.mem_map.1 h
  exact Nat.mod_lt _ (by decide)
theorem zip_below {n : Nat} : ∀ {xs bs : List Nat}, Below n xs → (∀ b ∈ bs, b < 2) → Below (n + 1) (List.zipWith (fun x b => x + b * 2 ^ n) xs bs)
  | [], _, _, _ => by intro x hx; simp at hx
  | _ :: _, [], _, _ => by intro x hx; simp at hx
  | x :: xs, b :: bs, h, hb => by
    intro y hy
    simp only [List.zipWith_cons_cons, List.mem_cons] at hy
    rcases hy with rfl | hy
    · have h1 := h x (by simp)
      have h2 := hb b (by simp)
      have h3 : b * 2 ^ n ≤ 1 * 2 ^ n := Nat.mul_le_mul_right _ (by omega)
      rw [Nat.pow_succ]; omega
    · exact zip_below (fun z hz => h z (by simp [hz])) (fun z hz => hb z (by simp [hz])) y hy
theorem cst_len {D : Nat} {rot} [ht : Turn rot] {pos : Nat} : ∀ n, (cst D rot pos n).1.length = D
  | 0 => by simp [cst]
  | n + 1 => by simp [cst, cstep, ht.len, cst_len n, grayL_len]
theorem cst_below {D : Nat} {rot} [ht : Turn rot] {pos : Nat} : ∀ n, Below n (cst D rot pos n).1
  | 0 => by intro x hx; simp [cst] at hx; omega
  | n + 1 => zip_below (ht.below _ _ _ _ (cst_below n)) fun b hb => grayL_bit hb
theorem cst_pos {D : Nat} {rot} {pos : Nat} : ∀ n, (cst D rot pos n).2 = pos / 2 ^ (D * n)
  | 0 => by simp [cst]
  | n + 1 => by
    show (cst D rot pos n).2 / 2 ^ D = _
    rw [cst_pos n, Nat.div_div_eq_div_mul, ← Nat.pow_add, Nat.mul_succ]
theorem len2 {xs : List Nat} (h : xs.length = 2) : ∃ x y, xs = [x, y] := by
  match xs, h with
  | [x, y], _ => exact ⟨x, y, rfl⟩
theorem len3 {xs : List Nat} (h : xs.length = 3) : ∃ x y z, xs = [x, y, z] := by
  match xs, h with
  | [x, y, z], _ => exact ⟨x, y, z, rfl⟩
theorem len4 {xs : List Nat} (h : xs.length = 4) : ∃ x y z u, xs = [x, y, z, u] := by
  match xs, h with
  | [x, y, z, u], _ => exact ⟨x, y, z, u, rfl⟩
theorem bit1 (a : Nat) : a &&& 1 < 2 := by rw [show (1 : Nat) = 2 ^ 1 - 1 from rfl, Nat.and_two_pow_sub_one_eq_mod]; exact Nat.mod_lt _ (by decide)
theorem gray2 : ∀ e, e < 4 → grayL 2 e = [(e >>> 0 ^^^ e >>> 1) &&& 1, e >>> 1] ∧ e >>> 1 < 2 := by decide
theorem gray3 : ∀ e, e < 8 → grayL 3 e = [(e >>> 0 ^^^ e >>> 1) &&& 1, (e >>> 1 ^^^ e >>> 2) &&& 1, e >>> 2] ∧ e >>> 2 < 2 := by decide
theorem shr_lt {a n : Nat} (h : a < 9223372036854775808) : a >>> n < 9223372036854775808 := by rw [Nat.shiftRight_eq_div_pow]; exact Nat.lt_of_le_of_lt (Nat.div_le_self _ _) h
theorem bit_add {x b j : Nat} (hx : x < 2 ^ j) (hb : b < 2) (hj : j < 62) : b * 2 ^ j < 9223372036854775808 ∧ x + b * 2 ^ j < 9223372036854775808 := by
  have h3 : b * 2 ^ j ≤ 1 * 2 ^ j := Nat.mul_le_mul_right _ (by omega)
  have h4 : 2 ^ j < 2 ^ 62 := Nat.pow_lt_pow_right (by decide) hj
  omega

theorem rotE2 (rev : Bool) (o : Int) (k len cap : Nat) (xs : List Nat) (T : TypeId) (n d : Nat) (R : Heap) (hl : xs.length = len) (hd : len = 2) (hn : n < 63) (hx : Small xs) (hd2 : d < 4) :
    Does Tryd.prog 71 [.agg ⟨[.int .i64 o]⟩, .int .i64 (n : Int), .slice (some ⟨k, 0, none⟩) len cap, .int .i64 (d : Int)] ((k, Obj.cells ⟨xs.map nv⟩ T (0, 0)) :: R) fun w H' => w = .tuple #[] ∧ H' = (k, Obj.cells ⟨(rot2 rev (2 ^ n - 1) d xs).map nv⟩ T (0, 0)) :: R := by
  have h := rotD2 rev o k len cap xs [] T n d R hl hd hn hx hd2
  simp only [List.append_nil] at h
  exact h
theorem rotE3 (rev : Bool) (o : Int) (k len cap : Nat) (xs : List Nat) (T : TypeId) (n d : Nat) (R : Heap) (hl : xs.length = len) (hd : len = 3) (hn : n < 63) (hx : Small xs) (hd2 : d < 8) :
    Does Tryd.prog 72 [.agg ⟨[.int .i64 o]⟩, .bool rev, .int .i64 (n : Int), .slice (some ⟨k, 0, none⟩) len cap, .int .i64 (d : Int)] ((k, Obj.cells ⟨xs.map nv⟩ T (0, 0)) :: R) fun w H' => w = .tuple #[] ∧ H' = (k, Obj.cells ⟨(rot3 rev (2 ^ n - 1) d xs).map nv⟩ T (0, 0)) :: R := by
  have h := rotD3 rev o k len cap xs [] T n d R hl hd hn hx hd2
  simp only [List.append_nil] at h
  exact h
theorem rotE4 (rev : Bool) (o : Int) (k len cap : Nat) (xs : List Nat) (T : TypeId) (n d : Nat) (R : Heap) (hl : xs.length = len) (hd : len = 4) (hn : n < 63) (hx : Small xs) (hd2 : d < 16) :
    Does Tryd.prog 73 [.agg ⟨[.int .i64 o]⟩, .bool rev, .int .i64 (n : Int), .slice (some ⟨k, 0, none⟩) len cap, .int .i64 (d : Int)] ((k, Obj.cells ⟨xs.map nv⟩ T (0, 0)) :: R) fun w H' => w = .tuple #[] ∧ H' = (k, Obj.cells ⟨(rot4 rev (2 ^ n - 1) d xs).map nv⟩ T (0, 0)) :: R := by
  have h := rotD4 rev o k len cap xs [] T n d R hl hd hn hx hd2
  simp only [List.append_nil] at h
  exact h
set_option maxHeartbeats 4000000 in
theorem coord2 (ord pos : Nat) (H : Heap) (ho : ord ≤ 31) (hp : pos < 2 ^ (2 * ord)) :
    Does Tryd.prog 35 [.agg ⟨[.int .i64 (ord : Int)]⟩, .slice none 0 0, .int .i64 (pos : Int)] H fun w H' => ∃ k T, w = .slice (some ⟨k, 0, none⟩) 2 2 ∧ H' = (k, Obj.cells ⟨(cst 2 rot2 pos ord).1.map nv⟩ T (0, 0)) :: H := by
  have hp63 : pos < 9223372036854775808 := Nat.lt_of_lt_of_le hp (show 2 ^ (2 * ord) ≤ 2 ^ 63 from Nat.pow_le_pow_right (by decide) (by omega))
  refine fn_enter 59 Tryd.func35 fun W => ?_
  repeat' first
    | (refine op_makeSlice (l := 2) (c := 2) (fun kd => ?_) (by decide) (by decide) (by decide); rw [made_rep])
    | (first | refine tl_defer ?_ | refine tc_seq ?_ | refine tc_region ?_ | refine at_seq_normal ?_ | refine tl_nil ?_ | refine tl_cons ?_ | refine tl_cons_none ?_ | refine op_move ?_ | refine op_assign ?_ | refine op_fieldAddr ?_ | refine op_load ?_ | refine op_load_agg ?_ | refine op_indexC ?_ | refine op_indexAddr1 ?_ | refine op_indexAddr ?_ | refine op_icmp ?_ | refine op_fcmp ?_ | refine op_iarith ?_ | refine op_bcmp ?_ | refine op_unop_not ?_ | refine op_unop_neg_float ?_ | refine op_unop_neg_int ?_ | refine op_len_slice ?_ | refine op_pick_true ?_ | refine op_pick_false ?_ | refine op_pick_true' ?_ | refine op_pick_false' ?_ | refine op_build ?_ | refine op_extract ?_ | refine op_makeInterface ?_ | refine op_typeAssert ?_ | refine op_ptr_nil ?_ | refine op_nilCheck_ptr ?_ | refine op_nilCheck_meth ?_ | refine op_makeMeth ?_ | refine op_makeFunc ?_ | refine op_itof ?_ | refine op_itoi ?_ | refine op_ftoi ?_ | refine op_iquo ?_ | refine op_irem ?_ | refine op_ibits ?_ | refine op_slice_isnil ?_ | refine op_slice_notnil ?_ | refine op_imax ?_ | refine op_imin ?_ | refine op_shl ?_ | refine op_shr ?_ | (refine op_alloc ?_; intro _) | (refine op_box ?_; intro _) | (refine op_buildSlice ?_; intro _) | (refine op_farith ?_; intro _ _) | refine op_store0 ?_ | refine op_store1 ?_ | refine op_store2 ?_ | refine op_store3 ?_ | refine op_store4 ?_ | refine op_store5 ?_ | refine op_storeK rfl ?_ | refine op_loadK rfl ?_ | refine op_load_aggK rfl ?_ | refine tc_cond_t ?_ | refine tc_cond_f ?_ | refine tc_cond (fun _ => ?_) (fun _ => ?_) | refine tc_block ?_ | refine tc_skip ?_ | refine tc_ret ?_ | refine tc_exit ?_ | refine tc_label ?_ | refine at_seq_ret ?_ | refine at_seq_exit ?_ | refine at_block_normal ?_ | refine at_block_ret ?_ | refine at_block_exit_self ?_ | refine at_block_exit_ne ?_ | refine at_loop_ret ?_ | refine at_loop_exit ?_ | refine at_loop_goto ?_ | refine tl_guard_yes ?_ | refine tl_guard_no ?_ | refine tl_guard_yes' ?_ | refine tl_guard_no' ?_ | refine tl_guard_undef ?_ | refine tl_guard_split (fun _ => ?_) (fun _ => ?_))
    | fail
  refine tc_loopK [(1, _), (3, _), (6, _)] (by repeat (first | exact trivial | refine ⟨rfl, ?_⟩)) (fun j : Nat => [(7, .int .i64 (j : Int)), (2, .int .i64 (((cst 2 rot2 pos j).2 : Nat) : Int))]) (fun j => (_, Obj.cells ⟨(cst 2 rot2 pos j).1.map nv⟩ _ (0, 0)) :: (_, Obj.cells ⟨[.int .i64 (ord : Int)]⟩ _ (0, 0)) :: H) (fun j => j ≤ ord) (fun j => ord - j) 0 (Nat.zero_le _) ⟨rfl, rfl, trivial⟩ (List.Sublist.refl _) ?_
  rintro j hj
  by_cases hlt : j < ord
  · have hbb : icmp .lss (j : Int) (ord : Int) = true := by rw [lss_nat]; simpa using hlt
    have hj62 : j < 62 := by omega
    generalize hst : cst 2 rot2 pos j = st
    have hlen := cst_len (D := 2) (rot := rot2) (pos := pos) j
    have hbel := cst_below (D := 2) (rot := rot2) (pos := pos) j
    have hpos := cst_pos (D := 2) (rot := rot2) (pos := pos) j
    rw [hst] at hlen hbel hpos
    obtain ⟨xs, p⟩ := st
    simp only at hlen hbel hpos ⊢
    have hpp : p < 9223372036854775808 := by rw [hpos]; exact Nat.lt_of_le_of_lt (Nat.div_le_self _ _) hp63
    obtain ⟨e, hee⟩ : ∃ e, e = p % 2 ^ 2 := ⟨_, rfl⟩
    have he : e < 4 := by rw [hee]; exact Nat.mod_lt _ (by decide)
    have he63 : e < 9223372036854775808 := by omega
    have hand : ibits .and .i64 (p : Int) 3 = ((e : Nat) : Int) := by
      rw [hee, ← Nat.and_two_pow_sub_one_eq_mod]; exact ibits_and (b := 3) hpp (by decide)
    have hsD : (p : Int).fdiv (2 ^ min (Int.toNat 2) IntKind.i64.bits) = ((p / 2 ^ 2 : Nat) : Int) := by
      rw [← Nat.shiftRight_eq_div_pow]; exact shr_nat (a := p) (n := 2) (by decide)
    have hg := gray2 e he
    have hr : ∃ x y, rot2 true (2 ^ j - 1) e xs = [x, y] ∧ Below j [x, y] := by
      have h1 := turn2.len true (2 ^ j - 1) e xs
      rw [hlen] at h1
      have h2 := turn2.below true j e xs hbel
      obtain ⟨x, y, h3⟩ := len2 h1
      rw [h3] at h2
      exact ⟨x, y, h3, h2⟩
    obtain ⟨x, y, hr⟩ := hr
    have hs0 : (e : Int).fdiv (2 ^ min (Int.toNat 0) IntKind.i64.bits) = ((e >>> 0 : Nat) : Int) := shr_nat (a := e) (n := 0) (by decide)
    have hs1 : (e : Int).fdiv (2 ^ min (Int.toNat 1) IntKind.i64.bits) = ((e >>> 1 : Nat) : Int) := shr_nat (a := e) (n := 1) (by decide)
    have hx0 : ibits .xor .i64 ((e >>> 0 : Nat) : Int) ((e >>> 1 : Nat) : Int) = ((e >>> 0 ^^^ e >>> 1 : Nat) : Int) := ibits_xor (shr_lt he63) (shr_lt he63)
    have ha0 : ibits .and .i64 ((e >>> 0 ^^^ e >>> 1 : Nat) : Int) 1 = (((e >>> 0 ^^^ e >>> 1) &&& 1 : Nat) : Int) := ibits_and (b := 1) (Nat.xor_lt_two_pow (n := 63) (shr_lt he63) (shr_lt he63)) (by decide)
    obtain ⟨hb0, hc0⟩ := bit_add (b := (e >>> 0 ^^^ e >>> 1) &&& 1) (hr.2 x (by simp)) (bit1 _) hj62
    have hm0 := shl_nat hb0 (show j < 64 by omega)
    have hp0 := wrap_addN hc0
    obtain ⟨hb1, hc1⟩ := bit_add (b := e >>> 1) (hr.2 y (by simp)) hg.2 hj62
    have hm1 := shl_nat hb1 (show j < 64 by omega)
    have hp1 := wrap_addN hc1
    repeat' first
      | (refine op_shr (v := 0) ?_; rw [hs0]) | (refine op_shr (v := 1) ?_; rw [hs1]) | (refine op_shr (v := 2) ?_; rw [hsD]) | (refine op_ibits ?_; first | rw [hand] | rw [hx0] | rw [ha0]  | fail)
      | (first | refine tl_defer ?_ | refine tc_seq ?_ | refine tc_region ?_ | refine at_seq_normal ?_ | refine tl_nil ?_ | refine tl_cons ?_ | refine tl_cons_none ?_ | refine op_move ?_ | refine op_assign ?_ | refine op_fieldAddr ?_ | refine op_load ?_ | refine op_load_agg ?_ | refine op_indexC ?_ | refine op_indexAddr1 ?_ | refine op_indexAddr ?_ | refine op_icmp ?_ | refine op_fcmp ?_ | refine op_iarith ?_ | refine op_bcmp ?_ | refine op_unop_not ?_ | refine op_unop_neg_float ?_ | refine op_unop_neg_int ?_ | refine op_len_slice ?_ | refine op_pick_true ?_ | refine op_pick_false ?_ | refine op_pick_true' ?_ | refine op_pick_false' ?_ | refine op_build ?_ | refine op_extract ?_ | refine op_makeInterface ?_ | refine op_typeAssert ?_ | refine op_ptr_nil ?_ | refine op_nilCheck_ptr ?_ | refine op_nilCheck_meth ?_ | refine op_makeMeth ?_ | refine op_makeFunc ?_ | refine op_itof ?_ | refine op_itoi ?_ | refine op_ftoi ?_ | refine op_iquo ?_ | refine op_irem ?_ | refine op_ibits ?_ | refine op_slice_isnil ?_ | refine op_slice_notnil ?_ | refine op_imax ?_ | refine op_imin ?_ | refine op_shl ?_ | refine op_shr ?_ | (refine op_alloc ?_; intro _) | (refine op_box ?_; intro _) | (refine op_buildSlice ?_; intro _) | (refine op_farith ?_; intro _ _) | refine op_store0 ?_ | refine op_store1 ?_ | refine op_store2 ?_ | refine op_store3 ?_ | refine op_store4 ?_ | refine op_store5 ?_ | refine op_storeK rfl ?_ | refine op_loadK rfl ?_ | refine op_load_aggK rfl ?_ | refine tc_cond_t ?_ | refine tc_cond_f ?_ | refine tc_cond (fun _ => ?_) (fun _ => ?_) | refine tc_block ?_ | refine tc_skip ?_ | refine tc_ret ?_ | refine tc_exit ?_ | refine tc_label ?_ | refine at_seq_ret ?_ | refine at_seq_exit ?_ | refine at_block_normal ?_ | refine at_block_ret ?_ | refine at_block_exit_self ?_ | refine at_block_exit_ne ?_ | refine at_loop_ret ?_ | refine at_loop_exit ?_ | refine at_loop_goto ?_ | refine tl_guard_yes ?_ | refine tl_guard_no ?_ | refine tl_guard_yes' ?_ | refine tl_guard_no' ?_ | refine tl_guard_undef ?_ | refine tl_guard_split (fun _ => ?_) (fun _ => ?_))
      | fail
    apply fun hole0 hole1 hole2 hole3 hole4 hE hD hml hdl hpr prem fin => tc_drawn 5 [is hole0, is hole1, is hole2, is hole3, is hole4]
      [some 26, some 27, some 28, some 29, some 30, some 31] [[], [], [], [2], []] mixed ⟨(is_mono _), (is_mono _), (is_mono _), (is_mono _), (is_mono _), trivial⟩ prem fin hE hD rfl hml hdl hpr
    rotate_left 6
    · exact rfl
    · exact rfl
    · exact Nat.le_of_ble_eq_true rfl
    · exact rfl
    · exact rfl
    refine ⟨fun G hG => ?_, fun G hG => ?_, fun G hG => ?_, fun G hG => ?_, fun G hG => ?_, trivial⟩
    · simp only [with2, Step2, nthDst, putO]
      ((first | refine op_load ?_ | refine op_load_agg ?_ | refine op_load ?_ (hm := Sub.mem (by assumption) (by (repeat (apply List.mem_cons_of_mem)); assumption)) | refine op_load_agg ?_ (hm := Sub.mem (by assumption) (by (repeat (apply List.mem_cons_of_mem)); assumption)) | refine op_loadH hG rfl ?_ | refine op_load_aggH hG rfl ?_); exact ⟨[], rfl, rfl, rfl⟩)
    · simp only [with2, Step2, nthDst, putO]
      (refine op_move ?_; exact ⟨[], rfl, rfl, rfl⟩)
    · simp only [with2, Step2, nthDst, putO]
      (refine op_move ?_; exact ⟨[], rfl, rfl, rfl⟩)
    · rintro _ _ ⟨rfl, rfl⟩ -
      simp only [with2, Step2, nthDst, putO]
      (refine op_slice_all ?_; exact ⟨[], rfl, slAt_self, rfl⟩)
    · simp only [with2, Step2, nthDst, putO]
      (refine op_move ?_; exact ⟨[], rfl, rfl, rfl⟩)
    rintro _ _ _ _ _ _ _ _ _ _ ⟨⟨rfl, rfl⟩, ⟨rfl, rfl⟩, ⟨rfl, rfl⟩, ⟨rfl, rfl⟩, ⟨rfl, rfl⟩, _⟩
    simp only [List.nil_append, List.cons_append, List.append_nil, List.drop_succ_cons, List.drop_zero, nthDst, putO]
    repeat' first
      | (refine op_mid kd ?_; refine op_call ((rotE2 true _ kd 2 2 xs _ j e _ hlen rfl (by omega) (hbel.small (by omega)) he).mono ?_); rintro _ _ ⟨rfl, rfl⟩; rw [hr.1])
      | (refine op_shr (v := 0) ?_; rw [hs0]) | (refine op_shr (v := 1) ?_; rw [hs1]) | (refine op_shr (v := 2) ?_; rw [hsD]) | (refine op_ibits ?_; first | rw [hand] | rw [hx0] | rw [ha0]  | fail)
      | (first | refine tl_defer ?_ | refine tc_seq ?_ | refine tc_region ?_ | refine at_seq_normal ?_ | refine tl_nil ?_ | refine tl_cons ?_ | refine tl_cons_none ?_ | refine op_move ?_ | refine op_assign ?_ | refine op_fieldAddr ?_ | refine op_load ?_ | refine op_load_agg ?_ | refine op_indexC ?_ | refine op_indexAddr1 ?_ | refine op_indexAddr ?_ | refine op_icmp ?_ | refine op_fcmp ?_ | refine op_iarith ?_ | refine op_bcmp ?_ | refine op_unop_not ?_ | refine op_unop_neg_float ?_ | refine op_unop_neg_int ?_ | refine op_len_slice ?_ | refine op_pick_true ?_ | refine op_pick_false ?_ | refine op_pick_true' ?_ | refine op_pick_false' ?_ | refine op_build ?_ | refine op_extract ?_ | refine op_makeInterface ?_ | refine op_typeAssert ?_ | refine op_ptr_nil ?_ | refine op_nilCheck_ptr ?_ | refine op_nilCheck_meth ?_ | refine op_makeMeth ?_ | refine op_makeFunc ?_ | refine op_itof ?_ | refine op_itoi ?_ | refine op_ftoi ?_ | refine op_iquo ?_ | refine op_irem ?_ | refine op_ibits ?_ | refine op_slice_isnil ?_ | refine op_slice_notnil ?_ | refine op_imax ?_ | refine op_imin ?_ | refine op_shl ?_ | refine op_shr ?_ | (refine op_alloc ?_; intro _) | (refine op_box ?_; intro _) | (refine op_buildSlice ?_; intro _) | (refine op_farith ?_; intro _ _) | refine op_store0 ?_ | refine op_store1 ?_ | refine op_store2 ?_ | refine op_store3 ?_ | refine op_store4 ?_ | refine op_store5 ?_ | refine op_storeK rfl ?_ | refine op_loadK rfl ?_ | refine op_load_aggK rfl ?_ | refine tc_cond_t ?_ | refine tc_cond_f ?_ | refine tc_cond (fun _ => ?_) (fun _ => ?_) | refine tc_block ?_ | refine tc_skip ?_ | refine tc_ret ?_ | refine tc_exit ?_ | refine tc_label ?_ | refine at_seq_ret ?_ | refine at_seq_exit ?_ | refine at_block_normal ?_ | refine at_block_ret ?_ | refine at_block_exit_self ?_ | refine at_block_exit_ne ?_ | refine at_loop_ret ?_ | refine at_loop_exit ?_ | refine at_loop_goto ?_ | refine tl_guard_yes ?_ | refine tl_guard_no ?_ | refine tl_guard_yes' ?_ | refine tl_guard_no' ?_ | refine tl_guard_undef ?_ | refine tl_guard_split (fun _ => ?_) (fun _ => ?_))
      | fail
    apply fun hole0 hole1 hole2 hole3 hole4 hole5 hole6 hole7 hE hD hml hdl hpr prem fin => tc_drawn 8 [is hole0, is hole1, is hole2, is hole3, is hole4, is hole5, is hole6, is hole7]
      [some 40, some 41, some 42, some 43, some 44, some 45, some 46, some 47, none] [[], [0], [1], [], [], [3, 4], [2, 5], [0, 1, 2, 3, 4, 5, 6]] mixed ⟨(is_mono _), (is_mono _), (is_mono _), (is_mono _), (is_mono _), (is_mono _), (is_mono _), (is_mono _), trivial⟩ prem fin hE hD rfl hml hdl hpr
    rotate_left 9
    · exact rfl
    · exact rfl
    · exact Nat.le_of_ble_eq_true rfl
    · exact rfl
    · exact rfl
    refine ⟨fun G hG => ?_, fun G hG => ?_, fun G hG => ?_, fun G hG => ?_, fun G hG => ?_, fun G hG => ?_, fun G hG => ?_, fun G hG => ?_, trivial⟩
    · simp only [with2, Step2, nthDst, putO]
      (refine op_move ?_; exact ⟨[], rfl, rfl, rfl⟩)
    · rintro _ _ ⟨rfl, rfl⟩ -
      simp only [with2, Step2, nthDst, putO]
      ((first | refine op_indexC ?_ | refine op_indexAddr1 ?_ | refine op_indexAddr ?_); exact ⟨[], rfl, rfl, rfl⟩)
    · rintro _ _ ⟨rfl, rfl⟩ -
      simp only [with2, Step2, nthDst, putO]
      (refine op_loadH hG rfl ?_; exact ⟨[], rfl, rfl, rfl⟩)
    · simp only [with2, Step2, nthDst, putO]
      (refine op_move ?_; exact ⟨[], rfl, rfl, rfl⟩)
    · simp only [with2, Step2, nthDst, putO]
      (refine op_move ?_; exact ⟨[], rfl, rfl, rfl⟩)
    · rintro _ _ ⟨rfl, rfl⟩ - _ _ ⟨rfl, rfl⟩ -
      simp only [with2, Step2, nthDst, putO]
      (refine op_shl (v := (j : Int)) ?_; exact ⟨[], rfl, congrArg (Value.int .i64) hm0, rfl⟩)
    · rintro _ _ ⟨rfl, rfl⟩ - _ _ ⟨rfl, rfl⟩ -
      simp only [with2, Step2, nthDst, putO]
      (refine op_iarith ?_; exact ⟨[], rfl, congrArg (Value.int .i64) hp0, rfl⟩)
    · rintro _ _ ⟨rfl, rfl⟩ - _ _ ⟨rfl, rfl⟩ - _ _ ⟨rfl, rfl⟩ - _ _ ⟨rfl, rfl⟩ - _ _ ⟨rfl, rfl⟩ - _ _ ⟨rfl, rfl⟩ - _ _ ⟨rfl, rfl⟩ -
      simp only [with2, Step2, nthDst, putO]
      ((first | refine op_indexC ?_ | refine op_indexAddr1 ?_ | refine op_indexAddr ?_); exact ⟨[], rfl, rfl, rfl⟩)
    rintro _ _ _ _ _ _ _ _ _ _ _ _ _ _ _ _ ⟨⟨rfl, rfl⟩, ⟨rfl, rfl⟩, ⟨rfl, rfl⟩, ⟨rfl, rfl⟩, ⟨rfl, rfl⟩, ⟨rfl, rfl⟩, ⟨rfl, rfl⟩, ⟨rfl, rfl⟩, _⟩
    simp only [List.nil_append, List.cons_append, List.append_nil, List.drop_succ_cons, List.drop_zero, nthDst, putO]
    repeat' first
      | (refine op_shr (v := 0) ?_; rw [hs0]) | (refine op_shr (v := 1) ?_; rw [hs1]) | (refine op_shr (v := 2) ?_; rw [hsD]) | (refine op_ibits ?_; first | rw [hand] | rw [hx0] | rw [ha0]  | fail)
      | (first | refine tl_defer ?_ | refine tc_seq ?_ | refine tc_region ?_ | refine at_seq_normal ?_ | refine tl_nil ?_ | refine tl_cons ?_ | refine tl_cons_none ?_ | refine op_move ?_ | refine op_assign ?_ | refine op_fieldAddr ?_ | refine op_load ?_ | refine op_load_agg ?_ | refine op_indexC ?_ | refine op_indexAddr1 ?_ | refine op_indexAddr ?_ | refine op_icmp ?_ | refine op_fcmp ?_ | refine op_iarith ?_ | refine op_bcmp ?_ | refine op_unop_not ?_ | refine op_unop_neg_float ?_ | refine op_unop_neg_int ?_ | refine op_len_slice ?_ | refine op_pick_true ?_ | refine op_pick_false ?_ | refine op_pick_true' ?_ | refine op_pick_false' ?_ | refine op_build ?_ | refine op_extract ?_ | refine op_makeInterface ?_ | refine op_typeAssert ?_ | refine op_ptr_nil ?_ | refine op_nilCheck_ptr ?_ | refine op_nilCheck_meth ?_ | refine op_makeMeth ?_ | refine op_makeFunc ?_ | refine op_itof ?_ | refine op_itoi ?_ | refine op_ftoi ?_ | refine op_iquo ?_ | refine op_irem ?_ | refine op_ibits ?_ | refine op_slice_isnil ?_ | refine op_slice_notnil ?_ | refine op_imax ?_ | refine op_imin ?_ | refine op_shl ?_ | refine op_shr ?_ | (refine op_alloc ?_; intro _) | (refine op_box ?_; intro _) | (refine op_buildSlice ?_; intro _) | (refine op_farith ?_; intro _ _) | refine op_store0 ?_ | refine op_store1 ?_ | refine op_store2 ?_ | refine op_store3 ?_ | refine op_store4 ?_ | refine op_store5 ?_ | refine op_storeK rfl ?_ | refine op_loadK rfl ?_ | refine op_load_aggK rfl ?_ | refine tc_cond_t ?_ | refine tc_cond_f ?_ | refine tc_cond (fun _ => ?_) (fun _ => ?_) | refine tc_block ?_ | refine tc_skip ?_ | refine tc_ret ?_ | refine tc_exit ?_ | refine tc_label ?_ | refine at_seq_ret ?_ | refine at_seq_exit ?_ | refine at_block_normal ?_ | refine at_block_ret ?_ | refine at_block_exit_self ?_ | refine at_block_exit_ne ?_ | refine at_loop_ret ?_ | refine at_loop_exit ?_ | refine at_loop_goto ?_ | refine tl_guard_yes ?_ | refine tl_guard_no ?_ | refine tl_guard_yes' ?_ | refine tl_guard_no' ?_ | refine tl_guard_undef ?_ | refine tl_guard_split (fun _ => ?_) (fun _ => ?_))
      | fail
    apply fun hole0 hole1 hole2 hole3 hole4 hole5 hole6 hole7 hE hD hml hdl hpr prem fin => tc_drawn 8 [is hole0, is hole1, is hole2, is hole3, is hole4, is hole5, is hole6, is hole7]
      [some 48, some 49, some 50, some 51, some 52, some 53, some 54, some 55, none] [[], [0], [1], [], [], [3, 4], [2, 5], [0, 1, 2, 3, 4, 5, 6]] mixed ⟨(is_mono _), (is_mono _), (is_mono _), (is_mono _), (is_mono _), (is_mono _), (is_mono _), (is_mono _), trivial⟩ prem fin hE hD rfl hml hdl hpr
    rotate_left 9
    · exact rfl
    · exact rfl
    · exact Nat.le_of_ble_eq_true rfl
    · exact rfl
    · exact rfl
    refine ⟨fun G hG => ?_, fun G hG => ?_, fun G hG => ?_, fun G hG => ?_, fun G hG => ?_, fun G hG => ?_, fun G hG => ?_, fun G hG => ?_, trivial⟩
    · simp only [with2, Step2, nthDst, putO]
      (refine op_move ?_; exact ⟨[], rfl, rfl, rfl⟩)
    · rintro _ _ ⟨rfl, rfl⟩ -
      simp only [with2, Step2, nthDst, putO]
      ((first | refine op_indexC ?_ | refine op_indexAddr1 ?_ | refine op_indexAddr ?_); exact ⟨[], rfl, rfl, rfl⟩)
    · rintro _ _ ⟨rfl, rfl⟩ -
      simp only [with2, Step2, nthDst, putO]
      (refine op_loadH hG rfl ?_; exact ⟨[], rfl, rfl, rfl⟩)
    · simp only [with2, Step2, nthDst, putO]
      (refine op_move ?_; exact ⟨[], rfl, rfl, rfl⟩)
    · simp only [with2, Step2, nthDst, putO]
      (refine op_move ?_; exact ⟨[], rfl, rfl, rfl⟩)
    · rintro _ _ ⟨rfl, rfl⟩ - _ _ ⟨rfl, rfl⟩ -
      simp only [with2, Step2, nthDst, putO]
      (refine op_shl (v := (j : Int)) ?_; exact ⟨[], rfl, congrArg (Value.int .i64) hm1, rfl⟩)
    · rintro _ _ ⟨rfl, rfl⟩ - _ _ ⟨rfl, rfl⟩ -
      simp only [with2, Step2, nthDst, putO]
      (refine op_iarith ?_; exact ⟨[], rfl, congrArg (Value.int .i64) hp1, rfl⟩)
    · rintro _ _ ⟨rfl, rfl⟩ - _ _ ⟨rfl, rfl⟩ - _ _ ⟨rfl, rfl⟩ - _ _ ⟨rfl, rfl⟩ - _ _ ⟨rfl, rfl⟩ - _ _ ⟨rfl, rfl⟩ - _ _ ⟨rfl, rfl⟩ -
      simp only [with2, Step2, nthDst, putO]
      ((first | refine op_indexC ?_ | refine op_indexAddr1 ?_ | refine op_indexAddr ?_); exact ⟨[], rfl, rfl, rfl⟩)
    rintro _ _ _ _ _ _ _ _ _ _ _ _ _ _ _ _ ⟨⟨rfl, rfl⟩, ⟨rfl, rfl⟩, ⟨rfl, rfl⟩, ⟨rfl, rfl⟩, ⟨rfl, rfl⟩, ⟨rfl, rfl⟩, ⟨rfl, rfl⟩, ⟨rfl, rfl⟩, _⟩
    simp only [List.nil_append, List.cons_append, List.append_nil, List.drop_succ_cons, List.drop_zero, nthDst, putO]
    repeat' first
      | (refine op_shr (v := 0) ?_; rw [hs0]) | (refine op_shr (v := 1) ?_; rw [hs1]) | (refine op_shr (v := 2) ?_; rw [hsD]) | (refine op_ibits ?_; first | rw [hand] | rw [hx0] | rw [ha0]  | fail)
      | (first | refine tl_defer ?_ | refine tc_seq ?_ | refine tc_region ?_ | refine at_seq_normal ?_ | refine tl_nil ?_ | refine tl_cons ?_ | refine tl_cons_none ?_ | refine op_move ?_ | refine op_assign ?_ | refine op_fieldAddr ?_ | refine op_load ?_ | refine op_load_agg ?_ | refine op_indexC ?_ | refine op_indexAddr1 ?_ | refine op_indexAddr ?_ | refine op_icmp ?_ | refine op_fcmp ?_ | refine op_iarith ?_ | refine op_bcmp ?_ | refine op_unop_not ?_ | refine op_unop_neg_float ?_ | refine op_unop_neg_int ?_ | refine op_len_slice ?_ | refine op_pick_true ?_ | refine op_pick_false ?_ | refine op_pick_true' ?_ | refine op_pick_false' ?_ | refine op_build ?_ | refine op_extract ?_ | refine op_makeInterface ?_ | refine op_typeAssert ?_ | refine op_ptr_nil ?_ | refine op_nilCheck_ptr ?_ | refine op_nilCheck_meth ?_ | refine op_makeMeth ?_ | refine op_makeFunc ?_ | refine op_itof ?_ | refine op_itoi ?_ | refine op_ftoi ?_ | refine op_iquo ?_ | refine op_irem ?_ | refine op_ibits ?_ | refine op_slice_isnil ?_ | refine op_slice_notnil ?_ | refine op_imax ?_ | refine op_imin ?_ | refine op_shl ?_ | refine op_shr ?_ | (refine op_alloc ?_; intro _) | (refine op_box ?_; intro _) | (refine op_buildSlice ?_; intro _) | (refine op_farith ?_; intro _ _) | refine op_store0 ?_ | refine op_store1 ?_ | refine op_store2 ?_ | refine op_store3 ?_ | refine op_store4 ?_ | refine op_store5 ?_ | refine op_storeK rfl ?_ | refine op_loadK rfl ?_ | refine op_load_aggK rfl ?_ | refine tc_cond_t ?_ | refine tc_cond_f ?_ | refine tc_cond (fun _ => ?_) (fun _ => ?_) | refine tc_block ?_ | refine tc_skip ?_ | refine tc_ret ?_ | refine tc_exit ?_ | refine tc_label ?_ | refine at_seq_ret ?_ | refine at_seq_exit ?_ | refine at_block_normal ?_ | refine at_block_ret ?_ | refine at_block_exit_self ?_ | refine at_block_exit_ne ?_ | refine at_loop_ret ?_ | refine at_loop_exit ?_ | refine at_loop_goto ?_ | refine tl_guard_yes ?_ | refine tl_guard_no ?_ | refine tl_guard_yes' ?_ | refine tl_guard_no' ?_ | refine tl_guard_undef ?_ | refine tl_guard_split (fun _ => ?_) (fun _ => ?_))
      | fail
    have hnx : (cst 2 rot2 pos (j + 1)).1.map nv = [nv (x + ((e >>> 0 ^^^ e >>> 1) &&& 1) * 2 ^ j), nv (y + (e >>> 1) * 2 ^ j)] := by
      simp only [cst, cstep, hst, ← hee, hr.1, hg.1]; rfl
    have hnp : (cst 2 rot2 pos (j + 1)).2 = p / 2 ^ 2 := by simp only [cst, cstep, hst]
    refine at_loop_normal (j + 1) hlt (by omega) (Incl.get ⟨next_nat (by omega), (by rw [hnp]; exact rfl), rfl, rfl, rfl, trivial⟩) ?_
    show List.Sublist ((kd, Obj.cells ⟨(cst 2 rot2 pos (j + 1)).1.map nv⟩ _ (0, 0)) :: _) _
    rw [hnx]
    exact List.Sublist.refl _
  · have hbb : icmp .lss (j : Int) (ord : Int) = false := by rw [lss_nat]; simpa using hlt
    obtain rfl : j = ord := by omega
    repeat'
      first
        | refine tl_defer ?_ | refine tc_seq ?_ | refine tc_region ?_ | refine at_seq_normal ?_ | refine tl_nil ?_ | refine tl_cons ?_ | refine tl_cons_none ?_ | refine op_move ?_
        | refine op_assign ?_ | refine op_fieldAddr ?_ | refine op_load ?_ | refine op_load_agg ?_ | refine op_indexC ?_ | refine op_indexAddr1 ?_ | refine op_indexAddr ?_ | refine op_icmp ?_
        | refine op_fcmp ?_ | refine op_iarith ?_ | refine op_bcmp ?_ | refine op_unop_not ?_ | refine op_unop_neg_float ?_ | refine op_unop_neg_int ?_ | refine op_len_slice ?_ | refine op_pick_true ?_
        | refine op_pick_false ?_ | refine op_pick_true' ?_ | refine op_pick_false' ?_ | refine op_build ?_ | refine op_extract ?_ | refine op_makeInterface ?_ | refine op_typeAssert ?_ | refine op_ptr_nil ?_
        | refine op_nilCheck_ptr ?_ | refine op_nilCheck_meth ?_ | refine op_makeMeth ?_ | refine op_makeFunc ?_ | refine op_itof ?_ | refine op_itoi ?_ | refine op_ftoi ?_ | refine op_iquo ?_
        | refine op_irem ?_ | refine op_ibits ?_ | refine op_slice_isnil ?_ | refine op_slice_notnil ?_ | refine op_imax ?_ | refine op_imin ?_ | refine op_shl ?_ | refine op_shr ?_
        | (refine op_alloc ?_; intro _) | (refine op_box ?_; intro _) | (refine op_buildSlice ?_; intro _) | (refine op_farith ?_; intro _ _) | refine op_store0 ?_ | refine op_store1 ?_ | refine op_store2 ?_ | refine op_store3 ?_
        | refine op_store4 ?_ | refine op_store5 ?_ | refine tc_cond_t ?_ | refine tc_cond_f ?_ | refine tc_cond (fun _ => ?_) (fun _ => ?_) | refine tc_block ?_ | refine tc_skip ?_ | refine tc_ret ?_
        | refine tc_exit ?_ | refine tc_label ?_ | refine at_seq_ret ?_ | refine at_seq_exit ?_ | refine at_block_normal ?_ | refine at_block_ret ?_ | refine at_block_exit_self ?_ | refine at_block_exit_ne ?_
        | refine at_loop_ret ?_ | refine at_loop_exit ?_ | refine at_loop_goto ?_ | refine tl_guard_yes ?_ | refine tl_guard_no ?_ | refine tl_guard_yes' ?_ | refine tl_guard_no' ?_ | refine tl_guard_undef ?_
        | refine tl_guard_split (fun _ => ?_) (fun _ => ?_)
    exact ret_tmp (hG := List.Sublist.cons_cons _ (List.Sublist.cons _ (List.Sublist.refl _))) (hk := ⟨_, _, rfl, rfl⟩)
set_option maxHeartbeats 4000000 in
theorem coord3 (ord pos : Nat) (H : Heap) (ho : ord ≤ 20) (hp : pos < 2 ^ (3 * ord)) :
    Does Tryd.prog 37 [.agg ⟨[.int .i64 (ord : Int)]⟩, .slice none 0 0, .int .i64 (pos : Int)] H fun w H' => ∃ k T, w = .slice (some ⟨k, 0, none⟩) 3 3 ∧ H' = (k, Obj.cells ⟨(cst 3 rot3 pos ord).1.map nv⟩ T (0, 0)) :: H := by
  have hp63 : pos < 9223372036854775808 := Nat.lt_of_lt_of_le hp (show 2 ^ (3 * ord) ≤ 2 ^ 63 from Nat.pow_le_pow_right (by decide) (by omega))
  refine fn_enter 74 Tryd.func37 fun W => ?_
  repeat' first
    | (refine op_makeSlice (l := 3) (c := 3) (fun kd => ?_) (by decide) (by decide) (by decide); rw [made_rep])
    | (first | refine tl_defer ?_ | refine tc_seq ?_ | refine tc_region ?_ | refine at_seq_normal ?_ | refine tl_nil ?_ | refine tl_cons ?_ | refine tl_cons_none ?_ | refine op_move ?_ | refine op_assign ?_ | refine op_fieldAddr ?_ | refine op_load ?_ | refine op_load_agg ?_ | refine op_indexC ?_ | refine op_indexAddr1 ?_ | refine op_indexAddr ?_ | refine op_icmp ?_ | refine op_fcmp ?_ | refine op_iarith ?_ | refine op_bcmp ?_ | refine op_unop_not ?_ | refine op_unop_neg_float ?_ | refine op_unop_neg_int ?_ | refine op_len_slice ?_ | refine op_pick_true ?_ | refine op_pick_false ?_ | refine op_pick_true' ?_ | refine op_pick_false' ?_ | refine op_build ?_ | refine op_extract ?_ | refine op_makeInterface ?_ | refine op_typeAssert ?_ | refine op_ptr_nil ?_ | refine op_nilCheck_ptr ?_ | refine op_nilCheck_meth ?_ | refine op_makeMeth ?_ | refine op_makeFunc ?_ | refine op_itof ?_ | refine op_itoi ?_ | refine op_ftoi ?_ | refine op_iquo ?_ | refine op_irem ?_ | refine op_ibits ?_ | refine op_slice_isnil ?_ | refine op_slice_notnil ?_ | refine op_imax ?_ | refine op_imin ?_ | refine op_shl ?_ | refine op_shr ?_ | (refine op_alloc ?_; intro _) | (refine op_box ?_; intro _) | (refine op_buildSlice ?_; intro _) | (refine op_farith ?_; intro _ _) | refine op_store0 ?_ | refine op_store1 ?_ | refine op_store2 ?_ | refine op_store3 ?_ | refine op_store4 ?_ | refine op_store5 ?_ | refine op_storeK rfl ?_ | refine op_loadK rfl ?_ | refine op_load_aggK rfl ?_ | refine tc_cond_t ?_ | refine tc_cond_f ?_ | refine tc_cond (fun _ => ?_) (fun _ => ?_) | refine tc_block ?_ | refine tc_skip ?_ | refine tc_ret ?_ | refine tc_exit ?_ | refine tc_label ?_ | refine at_seq_ret ?_ | refine at_seq_exit ?_ | refine at_block_normal ?_ | refine at_block_ret ?_ | refine at_block_exit_self ?_ | refine at_block_exit_ne ?_ | refine at_loop_ret ?_ | refine at_loop_exit ?_ | refine at_loop_goto ?_ | refine tl_guard_yes ?_ | refine tl_guard_no ?_ | refine tl_guard_yes' ?_ | refine tl_guard_no' ?_ | refine tl_guard_undef ?_ | refine tl_guard_split (fun _ => ?_) (fun _ => ?_))
    | fail
  refine tc_loopK [(1, _), (3, _), (6, _)] (by repeat (first | exact trivial | refine ⟨rfl, ?_⟩)) (fun j : Nat => [(7, .int .i64 (j : Int)), (2, .int .i64 (((cst 3 rot3 pos j).2 : Nat) : Int))]) (fun j => (_, Obj.cells ⟨(cst 3 rot3 pos j).1.map nv⟩ _ (0, 0)) :: (_, Obj.cells ⟨[.int .i64 (ord : Int)]⟩ _ (0, 0)) :: H) (fun j => j ≤ ord) (fun j => ord - j) 0 (Nat.zero_le _) ⟨rfl, rfl, trivial⟩ (List.Sublist.refl _) ?_
  rintro j hj
  by_cases hlt : j < ord
  · have hbb : icmp .lss (j : Int) (ord : Int) = true := by rw [lss_nat]; simpa using hlt
    have hj62 : j < 62 := by omega
    generalize hst : cst 3 rot3 pos j = st
    have hlen := cst_len (D := 3) (rot := rot3) (pos := pos) j
    have hbel := cst_below (D := 3) (rot := rot3) (pos := pos) j
    have hpos := cst_pos (D := 3) (rot := rot3) (pos := pos) j
    rw [hst] at hlen hbel hpos
    obtain ⟨xs, p⟩ := st
    simp only at hlen hbel hpos ⊢
    have hpp : p < 9223372036854775808 := by rw [hpos]; exact Nat.lt_of_le_of_lt (Nat.div_le_self _ _) hp63
    obtain ⟨e, hee⟩ : ∃ e, e = p % 2 ^ 3 := ⟨_, rfl⟩
    have he : e < 8 := by rw [hee]; exact Nat.mod_lt _ (by decide)
    have he63 : e < 9223372036854775808 := by omega
    have hand : ibits .and .i64 (p : Int) 7 = ((e : Nat) : Int) := by
      rw [hee, ← Nat.and_two_pow_sub_one_eq_mod]; exact ibits_and (b := 7) hpp (by decide)
    have hsD : (p : Int).fdiv (2 ^ min (Int.toNat 3) IntKind.i64.bits) = ((p / 2 ^ 3 : Nat) : Int) := by
      rw [← Nat.shiftRight_eq_div_pow]; exact shr_nat (a := p) (n := 3) (by decide)
    have hg := gray3 e he
    have hr : ∃ x y z, rot3 true (2 ^ j - 1) e xs = [x, y, z] ∧ Below j [x, y, z] := by
      have h1 := turn3.len true (2 ^ j - 1) e xs
      rw [hlen] at h1
      have h2 := turn3.below true j e xs hbel
      obtain ⟨x, y, z, h3⟩ := len3 h1
      rw [h3] at h2
      exact ⟨x, y, z, h3, h2⟩
    obtain ⟨x, y, z, hr⟩ := hr
    have hs0 : (e : Int).fdiv (2 ^ min (Int.toNat 0) IntKind.i64.bits) = ((e >>> 0 : Nat) : Int) := shr_nat (a := e) (n := 0) (by decide)
    have hs1 : (e : Int).fdiv (2 ^ min (Int.toNat 1) IntKind.i64.bits) = ((e >>> 1 : Nat) : Int) := shr_nat (a := e) (n := 1) (by decide)
    have hs2 : (e : Int).fdiv (2 ^ min (Int.toNat 2) IntKind.i64.bits) = ((e >>> 2 : Nat) : Int) := shr_nat (a := e) (n := 2) (by decide)
    have hx0 : ibits .xor .i64 ((e >>> 0 : Nat) : Int) ((e >>> 1 : Nat) : Int) = ((e >>> 0 ^^^ e >>> 1 : Nat) : Int) := ibits_xor (shr_lt he63) (shr_lt he63)
    have ha0 : ibits .and .i64 ((e >>> 0 ^^^ e >>> 1 : Nat) : Int) 1 = (((e >>> 0 ^^^ e >>> 1) &&& 1 : Nat) : Int) := ibits_and (b := 1) (Nat.xor_lt_two_pow (n := 63) (shr_lt he63) (shr_lt he63)) (by decide)
    have hx1 : ibits .xor .i64 ((e >>> 1 : Nat) : Int) ((e >>> 2 : Nat) : Int) = ((e >>> 1 ^^^ e >>> 2 : Nat) : Int) := ibits_xor (shr_lt he63) (shr_lt he63)
    have ha1 : ibits .and .i64 ((e >>> 1 ^^^ e >>> 2 : Nat) : Int) 1 = (((e >>> 1 ^^^ e >>> 2) &&& 1 : Nat) : Int) := ibits_and (b := 1) (Nat.xor_lt_two_pow (n := 63) (shr_lt he63) (shr_lt he63)) (by decide)
    obtain ⟨hb0, hc0⟩ := bit_add (b := (e >>> 0 ^^^ e >>> 1) &&& 1) (hr.2 x (by simp)) (bit1 _) hj62
    have hm0 := shl_nat hb0 (show j < 64 by omega)
    have hp0 := wrap_addN hc0
    obtain ⟨hb1, hc1⟩ := bit_add (b := (e >>> 1 ^^^ e >>> 2) &&& 1) (hr.2 y (by simp)) (bit1 _) hj62
    have hm1 := shl_nat hb1 (show j < 64 by omega)
    have hp1 := wrap_addN hc1
    obtain ⟨hb2, hc2⟩ := bit_add (b := e >>> 2) (hr.2 z (by simp)) hg.2 hj62
    have hm2 := shl_nat hb2 (show j < 64 by omega)
    have hp2 := wrap_addN hc2
    repeat' first
      | (refine op_shr (v := 0) ?_; rw [hs0]) | (refine op_shr (v := 1) ?_; rw [hs1]) | (refine op_shr (v := 2) ?_; rw [hs2]) | (refine op_shr (v := 3) ?_; rw [hsD]) | (refine op_ibits ?_; first | rw [hand] | rw [hx0] | rw [ha0] | rw [hx1] | rw [ha1]  | fail)
      | (first | refine tl_defer ?_ | refine tc_seq ?_ | refine tc_region ?_ | refine at_seq_normal ?_ | refine tl_nil ?_ | refine tl_cons ?_ | refine tl_cons_none ?_ | refine op_move ?_ | refine op_assign ?_ | refine op_fieldAddr ?_ | refine op_load ?_ | refine op_load_agg ?_ | refine op_indexC ?_ | refine op_indexAddr1 ?_ | refine op_indexAddr ?_ | refine op_icmp ?_ | refine op_fcmp ?_ | refine op_iarith ?_ | refine op_bcmp ?_ | refine op_unop_not ?_ | refine op_unop_neg_float ?_ | refine op_unop_neg_int ?_ | refine op_len_slice ?_ | refine op_pick_true ?_ | refine op_pick_false ?_ | refine op_pick_true' ?_ | refine op_pick_false' ?_ | refine op_build ?_ | refine op_extract ?_ | refine op_makeInterface ?_ | refine op_typeAssert ?_ | refine op_ptr_nil ?_ | refine op_nilCheck_ptr ?_ | refine op_nilCheck_meth ?_ | refine op_makeMeth ?_ | refine op_makeFunc ?_ | refine op_itof ?_ | refine op_itoi ?_ | refine op_ftoi ?_ | refine op_iquo ?_ | refine op_irem ?_ | refine op_ibits ?_ | refine op_slice_isnil ?_ | refine op_slice_notnil ?_ | refine op_imax ?_ | refine op_imin ?_ | refine op_shl ?_ | refine op_shr ?_ | (refine op_alloc ?_; intro _) | (refine op_box ?_; intro _) | (refine op_buildSlice ?_; intro _) | (refine op_farith ?_; intro _ _) | refine op_store0 ?_ | refine op_store1 ?_ | refine op_store2 ?_ | refine op_store3 ?_ | refine op_store4 ?_ | refine op_store5 ?_ | refine op_storeK rfl ?_ | refine op_loadK rfl ?_ | refine op_load_aggK rfl ?_ | refine tc_cond_t ?_ | refine tc_cond_f ?_ | refine tc_cond (fun _ => ?_) (fun _ => ?_) | refine tc_block ?_ | refine tc_skip ?_ | refine tc_ret ?_ | refine tc_exit ?_ | refine tc_label ?_ | refine at_seq_ret ?_ | refine at_seq_exit ?_ | refine at_block_normal ?_ | refine at_block_ret ?_ | refine at_block_exit_self ?_ | refine at_block_exit_ne ?_ | refine at_loop_ret ?_ | refine at_loop_exit ?_ | refine at_loop_goto ?_ | refine tl_guard_yes ?_ | refine tl_guard_no ?_ | refine tl_guard_yes' ?_ | refine tl_guard_no' ?_ | refine tl_guard_undef ?_ | refine tl_guard_split (fun _ => ?_) (fun _ => ?_))
      | fail
    apply fun hole0 hole1 hole2 hole3 hole4 hE hD hml hdl hpr prem fin => tc_drawn 5 [is hole0, is hole1, is hole2, is hole3, is hole4]
      [some 27, some 28, some 29, some 30, some 31, some 32] [[], [], [], [2], []] mixed ⟨(is_mono _), (is_mono _), (is_mono _), (is_mono _), (is_mono _), trivial⟩ prem fin hE hD rfl hml hdl hpr
    rotate_left 6
    · exact rfl
    · exact rfl
    · exact Nat.le_of_ble_eq_true rfl
    · exact rfl
    · exact rfl
    refine ⟨fun G hG => ?_, fun G hG => ?_, fun G hG => ?_, fun G hG => ?_, fun G hG => ?_, trivial⟩
    · simp only [with2, Step2, nthDst, putO]
      ((first | refine op_load ?_ | refine op_load_agg ?_ | refine op_load ?_ (hm := Sub.mem (by assumption) (by (repeat (apply List.mem_cons_of_mem)); assumption)) | refine op_load_agg ?_ (hm := Sub.mem (by assumption) (by (repeat (apply List.mem_cons_of_mem)); assumption)) | refine op_loadH hG rfl ?_ | refine op_load_aggH hG rfl ?_); exact ⟨[], rfl, rfl, rfl⟩)
    · simp only [with2, Step2, nthDst, putO]
      (refine op_move ?_; exact ⟨[], rfl, rfl, rfl⟩)
    · simp only [with2, Step2, nthDst, putO]
      (refine op_move ?_; exact ⟨[], rfl, rfl, rfl⟩)
    · rintro _ _ ⟨rfl, rfl⟩ -
      simp only [with2, Step2, nthDst, putO]
      (refine op_slice_all ?_; exact ⟨[], rfl, slAt_self, rfl⟩)
    · simp only [with2, Step2, nthDst, putO]
      (refine op_move ?_; exact ⟨[], rfl, rfl, rfl⟩)
    rintro _ _ _ _ _ _ _ _ _ _ ⟨⟨rfl, rfl⟩, ⟨rfl, rfl⟩, ⟨rfl, rfl⟩, ⟨rfl, rfl⟩, ⟨rfl, rfl⟩, _⟩
    simp only [List.nil_append, List.cons_append, List.append_nil, List.drop_succ_cons, List.drop_zero, nthDst, putO]
    repeat' first
      | (refine op_mid kd ?_; refine op_call ((rotE3 true _ kd 3 3 xs _ j e _ hlen rfl (by omega) (hbel.small (by omega)) he).mono ?_); rintro _ _ ⟨rfl, rfl⟩; rw [hr.1])
      | (refine op_shr (v := 0) ?_; rw [hs0]) | (refine op_shr (v := 1) ?_; rw [hs1]) | (refine op_shr (v := 2) ?_; rw [hs2]) | (refine op_shr (v := 3) ?_; rw [hsD]) | (refine op_ibits ?_; first | rw [hand] | rw [hx0] | rw [ha0] | rw [hx1] | rw [ha1]  | fail)
      | (first | refine tl_defer ?_ | refine tc_seq ?_ | refine tc_region ?_ | refine at_seq_normal ?_ | refine tl_nil ?_ | refine tl_cons ?_ | refine tl_cons_none ?_ | refine op_move ?_ | refine op_assign ?_ | refine op_fieldAddr ?_ | refine op_load ?_ | refine op_load_agg ?_ | refine op_indexC ?_ | refine op_indexAddr1 ?_ | refine op_indexAddr ?_ | refine op_icmp ?_ | refine op_fcmp ?_ | refine op_iarith ?_ | refine op_bcmp ?_ | refine op_unop_not ?_ | refine op_unop_neg_float ?_ | refine op_unop_neg_int ?_ | refine op_len_slice ?_ | refine op_pick_true ?_ | refine op_pick_false ?_ | refine op_pick_true' ?_ | refine op_pick_false' ?_ | refine op_build ?_ | refine op_extract ?_ | refine op_makeInterface ?_ | refine op_typeAssert ?_ | refine op_ptr_nil ?_ | refine op_nilCheck_ptr ?_ | refine op_nilCheck_meth ?_ | refine op_makeMeth ?_ | refine op_makeFunc ?_ | refine op_itof ?_ | refine op_itoi ?_ | refine op_ftoi ?_ | refine op_iquo ?_ | refine op_irem ?_ | refine op_ibits ?_ | refine op_slice_isnil ?_ | refine op_slice_notnil ?_ | refine op_imax ?_ | refine op_imin ?_ | refine op_shl ?_ | refine op_shr ?_ | (refine op_alloc ?_; intro _) | (refine op_box ?_; intro _) | (refine op_buildSlice ?_; intro _) | (refine op_farith ?_; intro _ _) | refine op_store0 ?_ | refine op_store1 ?_ | refine op_store2 ?_ | refine op_store3 ?_ | refine op_store4 ?_ | refine op_store5 ?_ | refine op_storeK rfl ?_ | refine op_loadK rfl ?_ | refine op_load_aggK rfl ?_ | refine tc_cond_t ?_ | refine tc_cond_f ?_ | refine tc_cond (fun _ => ?_) (fun _ => ?_) | refine tc_block ?_ | refine tc_skip ?_ | refine tc_ret ?_ | refine tc_exit ?_ | refine tc_label ?_ | refine at_seq_ret ?_ | refine at_seq_exit ?_ | refine at_block_normal ?_ | refine at_block_ret ?_ | refine at_block_exit_self ?_ | refine at_block_exit_ne ?_ | refine at_loop_ret ?_ | refine at_loop_exit ?_ | refine at_loop_goto ?_ | refine tl_guard_yes ?_ | refine tl_guard_no ?_ | refine tl_guard_yes' ?_ | refine tl_guard_no' ?_ | refine tl_guard_undef ?_ | refine tl_guard_split (fun _ => ?_) (fun _ => ?_))
      | fail
    apply fun hole0 hole1 hole2 hole3 hole4 hole5 hole6 hole7 hE hD hml hdl hpr prem fin => tc_drawn 8 [is hole0, is hole1, is hole2, is hole3, is hole4, is hole5, is hole6, is hole7]
      [some 47, some 48, some 49, some 50, some 51, some 52, some 53, some 54, none] [[], [0], [1], [], [], [3, 4], [2, 5], [0, 1, 2, 3, 4, 5, 6]] mixed ⟨(is_mono _), (is_mono _), (is_mono _), (is_mono _), (is_mono _), (is_mono _), (is_mono _), (is_mono _), trivial⟩ prem fin hE hD rfl hml hdl hpr
    rotate_left 9
    · exact rfl
    · exact rfl
    · exact Nat.le_of_ble_eq_true rfl
    · exact rfl
    · exact rfl
    refine ⟨fun G hG => ?_, fun G hG => ?_, fun G hG => ?_, fun G hG => ?_, fun G hG => ?_, fun G hG => ?_, fun G hG => ?_, fun G hG => ?_, trivial⟩
    · simp only [with2, Step2, nthDst, putO]
      (refine op_move ?_; exact ⟨[], rfl, rfl, rfl⟩)
    · rintro _ _ ⟨rfl, rfl⟩ -
      simp only [with2, Step2, nthDst, putO]
      ((first | refine op_indexC ?_ | refine op_indexAddr1 ?_ | refine op_indexAddr ?_); exact ⟨[], rfl, rfl, rfl⟩)
    · rintro _ _ ⟨rfl, rfl⟩ -
      simp only [with2, Step2, nthDst, putO]
      (refine op_loadH hG rfl ?_; exact ⟨[], rfl, rfl, rfl⟩)
    · simp only [with2, Step2, nthDst, putO]
      (refine op_move ?_; exact ⟨[], rfl, rfl, rfl⟩)
    · simp only [with2, Step2, nthDst, putO]
      (refine op_move ?_; exact ⟨[], rfl, rfl, rfl⟩)
    · rintro _ _ ⟨rfl, rfl⟩ - _ _ ⟨rfl, rfl⟩ -
      simp only [with2, Step2, nthDst, putO]
      (refine op_shl (v := (j : Int)) ?_; exact ⟨[], rfl, congrArg (Value.int .i64) hm0, rfl⟩)
    · rintro _ _ ⟨rfl, rfl⟩ - _ _ ⟨rfl, rfl⟩ -
      simp only [with2, Step2, nthDst, putO]
      (refine op_iarith ?_; exact ⟨[], rfl, congrArg (Value.int .i64) hp0, rfl⟩)
    · rintro _ _ ⟨rfl, rfl⟩ - _ _ ⟨rfl, rfl⟩ - _ _ ⟨rfl, rfl⟩ - _ _ ⟨rfl, rfl⟩ - _ _ ⟨rfl, rfl⟩ - _ _ ⟨rfl, rfl⟩ - _ _ ⟨rfl, rfl⟩ -
      simp only [with2, Step2, nthDst, putO]
      ((first | refine op_indexC ?_ | refine op_indexAddr1 ?_ | refine op_indexAddr ?_); exact ⟨[], rfl, rfl, rfl⟩)
    rintro _ _ _ _ _ _ _ _ _ _ _ _ _ _ _ _ ⟨⟨rfl, rfl⟩, ⟨rfl, rfl⟩, ⟨rfl, rfl⟩, ⟨rfl, rfl⟩, ⟨rfl, rfl⟩, ⟨rfl, rfl⟩, ⟨rfl, rfl⟩, ⟨rfl, rfl⟩, _⟩
    simp only [List.nil_append, List.cons_append, List.append_nil, List.drop_succ_cons, List.drop_zero, nthDst, putO]
    repeat' first
      | (refine op_shr (v := 0) ?_; rw [hs0]) | (refine op_shr (v := 1) ?_; rw [hs1]) | (refine op_shr (v := 2) ?_; rw [hs2]) | (refine op_shr (v := 3) ?_; rw [hsD]) | (refine op_ibits ?_; first | rw [hand] | rw [hx0] | rw [ha0] | rw [hx1] | rw [ha1]  | fail)
      | (first | refine tl_defer ?_ | refine tc_seq ?_ | refine tc_region ?_ | refine at_seq_normal ?_ | refine tl_nil ?_ | refine tl_cons ?_ | refine tl_cons_none ?_ | refine op_move ?_ | refine op_assign ?_ | refine op_fieldAddr ?_ | refine op_load ?_ | refine op_load_agg ?_ | refine op_indexC ?_ | refine op_indexAddr1 ?_ | refine op_indexAddr ?_ | refine op_icmp ?_ | refine op_fcmp ?_ | refine op_iarith ?_ | refine op_bcmp ?_ | refine op_unop_not ?_ | refine op_unop_neg_float ?_ | refine op_unop_neg_int ?_ | refine op_len_slice ?_ | refine op_pick_true ?_ | refine op_pick_false ?_ | refine op_pick_true' ?_ | refine op_pick_false' ?_ | refine op_build ?_ | refine op_extract ?_ | refine op_makeInterface ?_ | refine op_typeAssert ?_ | refine op_ptr_nil ?_ | refine op_nilCheck_ptr ?_ | refine op_nilCheck_meth ?_ | refine op_makeMeth ?_ | refine op_makeFunc ?_ | refine op_itof ?_ | refine op_itoi ?_ | refine op_ftoi ?_ | refine op_iquo ?_ | refine op_irem ?_ | refine op_ibits ?_ | refine op_slice_isnil ?_ | refine op_slice_notnil ?_ | refine op_imax ?_ | refine op_imin ?_ | refine op_shl ?_ | refine op_shr ?_ | (refine op_alloc ?_; intro _) | (refine op_box ?_; intro _) | (refine op_buildSlice ?_; intro _) | (refine op_farith ?_; intro _ _) | refine op_store0 ?_ | refine op_store1 ?_ | refine op_store2 ?_ | refine op_store3 ?_ | refine op_store4 ?_ | refine op_store5 ?_ | refine op_storeK rfl ?_ | refine op_loadK rfl ?_ | refine op_load_aggK rfl ?_ | refine tc_cond_t ?_ | refine tc_cond_f ?_ | refine tc_cond (fun _ => ?_) (fun _ => ?_) | refine tc_block ?_ | refine tc_skip ?_ | refine tc_ret ?_ | refine tc_exit ?_ | refine tc_label ?_ | refine at_seq_ret ?_ | refine at_seq_exit ?_ | refine at_block_normal ?_ | refine at_block_ret ?_ | refine at_block_exit_self ?_ | refine at_block_exit_ne ?_ | refine at_loop_ret ?_ | refine at_loop_exit ?_ | refine at_loop_goto ?_ | refine tl_guard_yes ?_ | refine tl_guard_no ?_ | refine tl_guard_yes' ?_ | refine tl_guard_no' ?_ | refine tl_guard_undef ?_ | refine tl_guard_split (fun _ => ?_) (fun _ => ?_))
      | fail
    apply fun hole0 hole1 hole2 hole3 hole4 hole5 hole6 hole7 hE hD hml hdl hpr prem fin => tc_drawn 8 [is hole0, is hole1, is hole2, is hole3, is hole4, is hole5, is hole6, is hole7]
      [some 55, some 56, some 57, some 58, some 59, some 60, some 61, some 62, none] [[], [0], [1], [], [], [3, 4], [2, 5], [0, 1, 2, 3, 4, 5, 6]] mixed ⟨(is_mono _), (is_mono _), (is_mono _), (is_mono _), (is_mono _), (is_mono _), (is_mono _), (is_mono _), trivial⟩ prem fin hE hD rfl hml hdl hpr
    rotate_left 9
    · exact rfl
    · exact rfl
    · exact Nat.le_of_ble_eq_true rfl
    · exact rfl
    · exact rfl
    refine ⟨fun G hG => ?_, fun G hG => ?_, fun G hG => ?_, fun G hG => ?_, fun G hG => ?_, fun G hG => ?_, fun G hG => ?_, fun G hG => ?_, trivial⟩
    · simp only [with2, Step2, nthDst, putO]
      (refine op_move ?_; exact ⟨[], rfl, rfl, rfl⟩)
    · rintro _ _ ⟨rfl, rfl⟩ -
      simp only [with2, Step2, nthDst, putO]
      ((first | refine op_indexC ?_ | refine op_indexAddr1 ?_ | refine op_indexAddr ?_); exact ⟨[], rfl, rfl, rfl⟩)
    · rintro _ _ ⟨rfl, rfl⟩ -
      simp only [with2, Step2, nthDst, putO]
      (refine op_loadH hG rfl ?_; exact ⟨[], rfl, rfl, rfl⟩)
    · simp only [with2, Step2, nthDst, putO]
      (refine op_move ?_; exact ⟨[], rfl, rfl, rfl⟩)
    · simp only [with2, Step2, nthDst, putO]
      (refine op_move ?_; exact ⟨[], rfl, rfl, rfl⟩)
    · rintro _ _ ⟨rfl, rfl⟩ - _ _ ⟨rfl, rfl⟩ -
      simp only [with2, Step2, nthDst, putO]
      (refine op_shl (v := (j : Int)) ?_; exact ⟨[], rfl, congrArg (Value.int .i64) hm1, rfl⟩)
    · rintro _ _ ⟨rfl, rfl⟩ - _ _ ⟨rfl, rfl⟩ -
      simp only [with2, Step2, nthDst, putO]
      (refine op_iarith ?_; exact ⟨[], rfl, congrArg (Value.int .i64) hp1, rfl⟩)
    · rintro _ _ ⟨rfl, rfl⟩ - _ _ ⟨rfl, rfl⟩ - _ _ ⟨rfl, rfl⟩ - _ _ ⟨rfl, rfl⟩ - _ _ ⟨rfl, rfl⟩ - _ _ ⟨rfl, rfl⟩ - _ _ ⟨rfl, rfl⟩ -
      simp only [with2, Step2, nthDst, putO]
      ((first | refine op_indexC ?_ | refine op_indexAddr1 ?_ | refine op_indexAddr ?_); exact ⟨[], rfl, rfl, rfl⟩)
    rintro _ _ _ _ _ _ _ _ _ _ _ _ _ _ _ _ ⟨⟨rfl, rfl⟩, ⟨rfl, rfl⟩, ⟨rfl, rfl⟩, ⟨rfl, rfl⟩, ⟨rfl, rfl⟩, ⟨rfl, rfl⟩, ⟨rfl, rfl⟩, ⟨rfl, rfl⟩, _⟩
    simp only [List.nil_append, List.cons_append, List.append_nil, List.drop_succ_cons, List.drop_zero, nthDst, putO]
    repeat' first
      | (refine op_shr (v := 0) ?_; rw [hs0]) | (refine op_shr (v := 1) ?_; rw [hs1]) | (refine op_shr (v := 2) ?_; rw [hs2]) | (refine op_shr (v := 3) ?_; rw [hsD]) | (refine op_ibits ?_; first | rw [hand] | rw [hx0] | rw [ha0] | rw [hx1] | rw [ha1]  | fail)
      | (first | refine tl_defer ?_ | refine tc_seq ?_ | refine tc_region ?_ | refine at_seq_normal ?_ | refine tl_nil ?_ | refine tl_cons ?_ | refine tl_cons_none ?_ | refine op_move ?_ | refine op_assign ?_ | refine op_fieldAddr ?_ | refine op_load ?_ | refine op_load_agg ?_ | refine op_indexC ?_ | refine op_indexAddr1 ?_ | refine op_indexAddr ?_ | refine op_icmp ?_ | refine op_fcmp ?_ | refine op_iarith ?_ | refine op_bcmp ?_ | refine op_unop_not ?_ | refine op_unop_neg_float ?_ | refine op_unop_neg_int ?_ | refine op_len_slice ?_ | refine op_pick_true ?_ | refine op_pick_false ?_ | refine op_pick_true' ?_ | refine op_pick_false' ?_ | refine op_build ?_ | refine op_extract ?_ | refine op_makeInterface ?_ | refine op_typeAssert ?_ | refine op_ptr_nil ?_ | refine op_nilCheck_ptr ?_ | refine op_nilCheck_meth ?_ | refine op_makeMeth ?_ | refine op_makeFunc ?_ | refine op_itof ?_ | refine op_itoi ?_ | refine op_ftoi ?_ | refine op_iquo ?_ | refine op_irem ?_ | refine op_ibits ?_ | refine op_slice_isnil ?_ | refine op_slice_notnil ?_ | refine op_imax ?_ | refine op_imin ?_ | refine op_shl ?_ | refine op_shr ?_ | (refine op_alloc ?_; intro _) | (refine op_box ?_; intro _) | (refine op_buildSlice ?_; intro _) | (refine op_farith ?_; intro _ _) | refine op_store0 ?_ | refine op_store1 ?_ | refine op_store2 ?_ | refine op_store3 ?_ | refine op_store4 ?_ | refine op_store5 ?_ | refine op_storeK rfl ?_ | refine op_loadK rfl ?_ | refine op_load_aggK rfl ?_ | refine tc_cond_t ?_ | refine tc_cond_f ?_ | refine tc_cond (fun _ => ?_) (fun _ => ?_) | refine tc_block ?_ | refine tc_skip ?_ | refine tc_ret ?_ | refine tc_exit ?_ | refine tc_label ?_ | refine at_seq_ret ?_ | refine at_seq_exit ?_ | refine at_block_normal ?_ | refine at_block_ret ?_ | refine at_block_exit_self ?_ | refine at_block_exit_ne ?_ | refine at_loop_ret ?_ | refine at_loop_exit ?_ | refine at_loop_goto ?_ | refine tl_guard_yes ?_ | refine tl_guard_no ?_ | refine tl_guard_yes' ?_ | refine tl_guard_no' ?_ | refine tl_guard_undef ?_ | refine tl_guard_split (fun _ => ?_) (fun _ => ?_))
      | fail
    apply fun hole0 hole1 hole2 hole3 hole4 hole5 hole6 hole7 hE hD hml hdl hpr prem fin => tc_drawn 8 [is hole0, is hole1, is hole2, is hole3, is hole4, is hole5, is hole6, is hole7]
      [some 63, some 64, some 65, some 66, some 67, some 68, some 69, some 70, none] [[], [0], [1], [], [], [3, 4], [2, 5], [0, 1, 2, 3, 4, 5, 6]] mixed ⟨(is_mono _), (is_mono _), (is_mono _), (is_mono _), (is_mono _), (is_mono _), (is_mono _), (is_mono _), trivial⟩ prem fin hE hD rfl hml hdl hpr
    rotate_left 9
    · exact rfl
    · exact rfl
    · exact Nat.le_of_ble_eq_true rfl
    · exact rfl
    · exact rfl
    refine ⟨fun G hG => ?_, fun G hG => ?_, fun G hG => ?_, fun G hG => ?_, fun G hG => ?_, fun G hG => ?_, fun G hG => ?_, fun G hG => ?_, trivial⟩
    · simp only [with2, Step2, nthDst, putO]
      (refine op_move ?_; exact ⟨[], rfl, rfl, rfl⟩)
    · rintro _ _ ⟨rfl, rfl⟩ -
      simp only [with2, Step2, nthDst, putO]
      ((first | refine op_indexC ?_ | refine op_indexAddr1 ?_ | refine op_indexAddr ?_); exact ⟨[], rfl, rfl, rfl⟩)
    · rintro _ _ ⟨rfl, rfl⟩ -
      simp only [with2, Step2, nthDst, putO]
      (refine op_loadH hG rfl ?_; exact ⟨[], rfl, rfl, rfl⟩)
    · simp only [with2, Step2, nthDst, putO]
      (refine op_move ?_; exact ⟨[], rfl, rfl, rfl⟩)
    · simp only [with2, Step2, nthDst, putO]
      (refine op_move ?_; exact ⟨[], rfl, rfl, rfl⟩)
    · rintro _ _ ⟨rfl, rfl⟩ - _ _ ⟨rfl, rfl⟩ -
      simp only [with2, Step2, nthDst, putO]
      (refine op_shl (v := (j : Int)) ?_; exact ⟨[], rfl, congrArg (Value.int .i64) hm2, rfl⟩)
    · rintro _ _ ⟨rfl, rfl⟩ - _ _ ⟨rfl, rfl⟩ -
      simp only [with2, Step2, nthDst, putO]
      (refine op_iarith ?_; exact ⟨[], rfl, congrArg (Value.int .i64) hp2, rfl⟩)
    · rintro _ _ ⟨rfl, rfl⟩ - _ _ ⟨rfl, rfl⟩ - _ _ ⟨rfl, rfl⟩ - _ _ ⟨rfl, rfl⟩ - _ _ ⟨rfl, rfl⟩ - _ _ ⟨rfl, rfl⟩ - _ _ ⟨rfl, rfl⟩ -
      simp only [with2, Step2, nthDst, putO]
      ((first | refine op_indexC ?_ | refine op_indexAddr1 ?_ | refine op_indexAddr ?_); exact ⟨[], rfl, rfl, rfl⟩)
    rintro _ _ _ _ _ _ _ _ _ _ _ _ _ _ _ _ ⟨⟨rfl, rfl⟩, ⟨rfl, rfl⟩, ⟨rfl, rfl⟩, ⟨rfl, rfl⟩, ⟨rfl, rfl⟩, ⟨rfl, rfl⟩, ⟨rfl, rfl⟩, ⟨rfl, rfl⟩, _⟩
    simp only [List.nil_append, List.cons_append, List.append_nil, List.drop_succ_cons, List.drop_zero, nthDst, putO]
    repeat' first
      | (refine op_shr (v := 0) ?_; rw [hs0]) | (refine op_shr (v := 1) ?_; rw [hs1]) | (refine op_shr (v := 2) ?_; rw [hs2]) | (refine op_shr (v := 3) ?_; rw [hsD]) | (refine op_ibits ?_; first | rw [hand] | rw [hx0] | rw [ha0] | rw [hx1] | rw [ha1]  | fail)
      | (first | refine tl_defer ?_ | refine tc_seq ?_ | refine tc_region ?_ | refine at_seq_normal ?_ | refine tl_nil ?_ | refine tl_cons ?_ | refine tl_cons_none ?_ | refine op_move ?_ | refine op_assign ?_ | refine op_fieldAddr ?_ | refine op_load ?_ | refine op_load_agg ?_ | refine op_indexC ?_ | refine op_indexAddr1 ?_ | refine op_indexAddr ?_ | refine op_icmp ?_ | refine op_fcmp ?_ | refine op_iarith ?_ | refine op_bcmp ?_ | refine op_unop_not ?_ | refine op_unop_neg_float ?_ | refine op_unop_neg_int ?_ | refine op_len_slice ?_ | refine op_pick_true ?_ | refine op_pick_false ?_ | refine op_pick_true' ?_ | refine op_pick_false' ?_ | refine op_build ?_ | refine op_extract ?_ | refine op_makeInterface ?_ | refine op_typeAssert ?_ | refine op_ptr_nil ?_ | refine op_nilCheck_ptr ?_ | refine op_nilCheck_meth ?_ | refine op_makeMeth ?_ | refine op_makeFunc ?_ | refine op_itof ?_ | refine op_itoi ?_ | refine op_ftoi ?_ | refine op_iquo ?_ | refine op_irem ?_ | refine op_ibits ?_ | refine op_slice_isnil ?_ | refine op_slice_notnil ?_ | refine op_imax ?_ | refine op_imin ?_ | refine op_shl ?_ | refine op_shr ?_ | (refine op_alloc ?_; intro _) | (refine op_box ?_; intro _) | (refine op_buildSlice ?_; intro _) | (refine op_farith ?_; intro _ _) | refine op_store0 ?_ | refine op_store1 ?_ | refine op_store2 ?_ | refine op_store3 ?_ | refine op_store4 ?_ | refine op_store5 ?_ | refine op_storeK rfl ?_ | refine op_loadK rfl ?_ | refine op_load_aggK rfl ?_ | refine tc_cond_t ?_ | refine tc_cond_f ?_ | refine tc_cond (fun _ => ?_) (fun _ => ?_) | refine tc_block ?_ | refine tc_skip ?_ | refine tc_ret ?_ | refine tc_exit ?_ | refine tc_label ?_ | refine at_seq_ret ?_ | refine at_seq_exit ?_ | refine at_block_normal ?_ | refine at_block_ret ?_ | refine at_block_exit_self ?_ | refine at_block_exit_ne ?_ | refine at_loop_ret ?_ | refine at_loop_exit ?_ | refine at_loop_goto ?_ | refine tl_guard_yes ?_ | refine tl_guard_no ?_ | refine tl_guard_yes' ?_ | refine tl_guard_no' ?_ | refine tl_guard_undef ?_ | refine tl_guard_split (fun _ => ?_) (fun _ => ?_))
      | fail
    have hnx : (cst 3 rot3 pos (j + 1)).1.map nv = [nv (x + ((e >>> 0 ^^^ e >>> 1) &&& 1) * 2 ^ j), nv (y + ((e >>> 1 ^^^ e >>> 2) &&& 1) * 2 ^ j), nv (z + (e >>> 2) * 2 ^ j)] := by
      simp only [cst, cstep, hst, ← hee, hr.1, hg.1]; rfl
    have hnp : (cst 3 rot3 pos (j + 1)).2 = p / 2 ^ 3 := by simp only [cst, cstep, hst]
    refine at_loop_normal (j + 1) hlt (by omega) (Incl.get ⟨next_nat (by omega), (by rw [hnp]; exact rfl), rfl, rfl, rfl, trivial⟩) ?_
    show List.Sublist ((kd, Obj.cells ⟨(cst 3 rot3 pos (j + 1)).1.map nv⟩ _ (0, 0)) :: _) _
    rw [hnx]
    exact List.Sublist.refl _
  · have hbb : icmp .lss (j : Int) (ord : Int) = false := by rw [lss_nat]; simpa using hlt
    obtain rfl : j = ord := by omega
    repeat'
      first
        | refine tl_defer ?_ | refine tc_seq ?_ | refine tc_region ?_ | refine at_seq_normal ?_ | refine tl_nil ?_ | refine tl_cons ?_ | refine tl_cons_none ?_ | refine op_move ?_
        | refine op_assign ?_ | refine op_fieldAddr ?_ | refine op_load ?_ | refine op_load_agg ?_ | refine op_indexC ?_ | refine op_indexAddr1 ?_ | refine op_indexAddr ?_ | refine op_icmp ?_
        | refine op_fcmp ?_ | refine op_iarith ?_ | refine op_bcmp ?_ | refine op_unop_not ?_ | refine op_unop_neg_float ?_ | refine op_unop_neg_int ?_ | refine op_len_slice ?_ | refine op_pick_true ?_
        | refine op_pick_false ?_ | refine op_pick_true' ?_ | refine op_pick_false' ?_ | refine op_build ?_ | refine op_extract ?_ | refine op_makeInterface ?_ | refine op_typeAssert ?_ | refine op_ptr_nil ?_
        | refine op_nilCheck_ptr ?_ | refine op_nilCheck_meth ?_ | refine op_makeMeth ?_ | refine op_makeFunc ?_ | refine op_itof ?_ | refine op_itoi ?_ | refine op_ftoi ?_ | refine op_iquo ?_
        | refine op_irem ?_ | refine op_ibits ?_ | refine op_slice_isnil ?_ | refine op_slice_notnil ?_ | refine op_imax ?_ | refine op_imin ?_ | refine op_shl ?_ | refine op_shr ?_
        | (refine op_alloc ?_; intro _) | (refine op_box ?_; intro _) | (refine op_buildSlice ?_; intro _) | (refine op_farith ?_; intro _ _) | refine op_store0 ?_ | refine op_store1 ?_ | refine op_store2 ?_ | refine op_store3 ?_
        | refine op_store4 ?_ | refine op_store5 ?_ | refine tc_cond_t ?_ | refine tc_cond_f ?_ | refine tc_cond (fun _ => ?_) (fun _ => ?_) | refine tc_block ?_ | refine tc_skip ?_ | refine tc_ret ?_
        | refine tc_exit ?_ | refine tc_label ?_ | refine at_seq_ret ?_ | refine at_seq_exit ?_ | refine at_block_normal ?_ | refine at_block_ret ?_ | refine at_block_exit_self ?_ | refine at_block_exit_ne ?_
        | refine at_loop_ret ?_ | refine at_loop_exit ?_ | refine at_loop_goto ?_ | refine tl_guard_yes ?_ | refine tl_guard_no ?_ | refine tl_guard_yes' ?_ | refine tl_guard_no' ?_ | refine tl_guard_undef ?_
        | refine tl_guard_split (fun _ => ?_) (fun _ => ?_)
    exact ret_tmp (hG := List.Sublist.cons_cons _ (List.Sublist.cons _ (List.Sublist.refl _))) (hk := ⟨_, _, rfl, rfl⟩)
end Go.Proofs.YtjalgjeibnjinaaDoor.Hil
