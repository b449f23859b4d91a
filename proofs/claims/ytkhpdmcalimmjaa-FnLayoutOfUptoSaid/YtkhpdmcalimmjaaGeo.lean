/-
  Geometries as plain data: what is read of them, and what the test 'good data' finds out. No conditions.
-/
import Derived.Test.YtkhpdmcalimmjaaTy
import Derived.Test.YtkhpdmcalimmjaaLg9
set_option linter.unusedVariables false
set_option linter.unusedSimpArgs false
namespace Go.Proofs.Ytkhpdmcalimmjaa.Geom
open Go.Lg

inductive Geo where
  | mk (k l s : Int) (f : List Nat) (e : List Int) (ee : List (List Int)) (ks : List Geo)

mutual
def Geo.wt : Geo → Nat
  | .mk _ _ _ f e ee ks => 1 + f.length + e.length + (ee.map (fun l => 1 + l.length)).sum + Geo.wts ks
def Geo.wts : List Geo → Nat
  | [] => 0
  | g :: gs => g.wt + Geo.wts gs
end
mutual
def Geo.Lay (m : Int) : Geo → Prop
  | .mk k l _ _ _ _ ks => Geo.Lays m ks ∧ l ≤ m ∧ (1 ≤ l ∨ k = 7 ∧ 0 ≤ l)
def Geo.Lays (m : Int) : List Geo → Prop
  | [] => True
  | g :: gs => g.Lay m ∧ Geo.Lays m gs
end
mutual
def Geo.layB (m : Int) : Geo → Bool
  | .mk k l _ _ _ _ ks => Geo.laysB m ks && (decide (l ≤ m) && (decide (1 ≤ l) || (decide (k = 7) && decide (0 ≤ l))))
def Geo.laysB (m : Int) : List Geo → Bool
  | [] => true
  | g :: gs => g.layB m && Geo.laysB m gs
end
mutual
def Geo.wM (most : Int) : Geo → Int
  | .mk _ _ _ f e ee ks => Geo.wMs most ((1 + f.length + e.length + (ee.map (fun l => 1 + l.length)).sum : Nat) : Int) ks
def Geo.wMs (most n : Int) : List Geo → Int
  | [] => n
  | g :: gs => if n > most then n else Geo.wMs most (n + g.wM (most - n)) gs
end
/-- How far ends ascend, and whether all do. -/
def gE (s : Int) (sg : Bool) : Int → List Int → Int × Bool
  | a, [] => (a, true)
  | a, e :: es => if e < a ∨ (e - a).tmod s ≠ 0 ∨ (sg = true ∧ e - a > s) then (a, false) else gE s sg e es
def gES (s : Int) : Int × Bool → List (List Int) → Int × Bool
  | p, [] => p
  | p, l :: ls => gES s ((gE s false p.1 l).1, p.2 && (gE s false p.1 l).2) ls
def cover (a b : Int) : Int := if a = 2 ∧ b = 3 ∨ a = 3 ∧ b = 2 then 4 else if a < b then b else a
mutual
def Geo.lof : Geo → Int
  | .mk k l _ _ _ _ ks => if k ≠ 7 ∨ l ≠ 0 then l else Geo.lofs 0 ks
def Geo.lofs (a : Int) : List Geo → Int
  | [] => a
  | g :: gs => Geo.lofs (cover a g.lof) gs
end
def strideI (n : Int) : Int := if n < 1 then 0 else if n = 1 then 2 else if n = 2 then 3 else if n = 3 then 3 else n
def Asc (s : Int) (single : Bool) : Int → List Int → Int → Prop
  | a, [], b => a = b
  | a, e :: es, b => a ≤ e ∧ (e - a).tmod s = 0 ∧ (single = true → e - a ≤ s) ∧ Asc s single e es b
def AscS (s : Int) : Int → List (List Int) → Int → Prop
  | a, [], b => a = b
  | a, l :: ls, b => ∃ m, Asc s false a l m ∧ AscS s m ls b
def Kd (k s : Int) (f : List Nat) (e : List Int) (ee : List (List Int)) : Prop :=
  (k = 1 ∧ e = [] ∧ (f.length : Int) ≤ s) ∨ ((k = 2 ∨ k = 8) ∧ e = []) ∨ ((k = 3 ∨ k = 4 ∨ k = 5) ∧ Asc s (k == 4) 0 e f.length) ∨ (k = 6 ∧ AscS s 0 ee f.length ∧ e = [])
def kdB (k s : Int) (f : List Nat) (e : List Int) (ee : List (List Int)) : Bool :=
  if k = 1 then decide (e.length = 0 ∧ (f.length : Int) ≤ s)
  else if k = 2 ∨ k = 8 then decide (e.length = 0)
  else if k = 3 ∨ k = 4 ∨ k = 5 then (gE s (k == 4) 0 e).2 && decide ((gE s (k == 4) 0 e).1 = f.length)
  else if k = 6 then (gES s (0, true) ee).2 && decide ((gES s (0, true) ee).1 = f.length) && decide (e.length = 0)
  else false
mutual
def Geo.goodB : Geo → Bool
  | .mk k l _ f e ee ks => if k = 7 then Geo.goodsB l ks && (decide (0 ≤ l) && decide (f.length + e.length + ee.length = 0))
      else !(decide (strideI l = 0) || decide ((f.length : Int).tmod (strideI l) ≠ 0) || decide (0 < ks.length) || (decide (0 < ee.length) && decide (k ≠ 6))) && kdB k (strideI l) f e ee
def Geo.goodsB (l : Int) : List Geo → Bool
  | [] => true
  | g :: gs => (g.goodB && !(decide (l ≠ 0) && decide (g.lof ≠ l))) && Geo.goodsB l gs
end
mutual
def Geo.Good : Geo → Prop
  | .mk k l _ f e ee ks => (k = 7 ∧ Geo.Goods l ks ∧ 0 ≤ l ∧ f = [] ∧ e = [] ∧ ee = []) ∨
      (k ≠ 7 ∧ strideI l ≠ 0 ∧ (f.length : Int).tmod (strideI l) = 0 ∧ ks = [] ∧ (ee = [] ∨ k = 6) ∧ Kd k (strideI l) f e ee)
def Geo.Goods (l : Int) : List Geo → Prop
  | [] => True
  | g :: gs => (g.Good ∧ (l = 0 ∨ g.lof = l)) ∧ Geo.Goods l gs
end
mutual
/-- These cells are the geometry's. -/
def IsG (G : Heap) : Geo → List Value → Prop
  | .mk k l s f e ee ks, c => ∃ vf ve vee vk rows, c = [.int .i64 k, .int .i64 l, .int .i64 s, vf, ve, vee, vk] ∧ FS G vf f ∧ IS G ve e ∧ ISS G vee ee ∧ SlN 7 G vk ks.length rows.flatten ∧
      (∀ x ∈ e, x < 9223372036854775808) ∧ (∀ x ∈ ee, ∀ y ∈ x, y < 9223372036854775808) ∧ IsGs G ks rows
def IsGs (G : Heap) : List Geo → List (List Value) → Prop
  | [], [] => True
  | g :: gs, r :: rs => IsG G g r ∧ IsGs G gs rs
  | _, _ => False
end

theorem Geo.Lays_iff {m : Int} : ∀ {ks : List Geo}, Geo.Lays m ks ↔ ∀ x ∈ ks, x.Lay m
  | [] => by simp [Geo.Lays]
  | g :: gs => by simp [Geo.Lays, Geo.Lays_iff (ks := gs)]
theorem Geo.Goods_iff {l : Int} : ∀ {ks : List Geo}, Geo.Goods l ks ↔ ∀ x ∈ ks, x.Good ∧ (l = 0 ∨ x.lof = l)
  | [] => by simp [Geo.Goods]
  | g :: gs => by simp only [Geo.Goods, Geo.Goods_iff (ks := gs), List.forall_mem_cons]
theorem Geo.laysB_eq {m : Int} : ∀ {ks : List Geo}, Geo.laysB m ks = ks.all (Geo.layB m)
  | [] => rfl
  | g :: gs => by rw [Geo.laysB, Geo.laysB_eq (ks := gs), List.all_cons]
theorem Geo.goodsB_eq {l : Int} : ∀ {ks : List Geo}, Geo.goodsB l ks = ks.all (fun g => g.goodB && !(decide (l ≠ 0) && decide (g.lof ≠ l)))
  | [] => rfl
  | g :: gs => by rw [Geo.goodsB, Geo.goodsB_eq (ks := gs), List.all_cons]
theorem all_bad {α : Type} {p : α → Bool} {l : List α} {j : Nat} {x : α} (h : l[j]? = some x) (hp : p x = false) : l.all p = false := by
  rw [List.all_eq_false]
  exact ⟨x, List.mem_of_getElem? h, by simp [hp]⟩
theorem all_snoc {α : Type} {p : α → Bool} {l : List α} {j : Nat} {x : α} (h : l[j]? = some x) (h1 : (l.take j).all p = true) (hp : p x = true) : (l.take (j + 1)).all p = true := by
  rw [List.take_add_one, h]; simp [h1, hp]
theorem Geo.wt_pos : ∀ (g : Geo), 1 ≤ g.wt
  | .mk _ _ _ f e ee ks => by unfold Geo.wt; omega
theorem Geo.wts_take_succ : ∀ (ks : List Geo) (j : Nat) (x : Geo), ks[j]? = some x → Geo.wts (ks.take (j + 1)) = Geo.wts (ks.take j) + x.wt
  | [], j, x, h => by simp at h
  | g :: gs, 0, x, h => by simp at h; subst h; simp [Geo.wts]
  | g :: gs, j + 1, x, h => by
    have := Geo.wts_take_succ gs j x (by simpa using h)
    simp only [List.take_succ_cons, Geo.wts] at this ⊢
    omega
theorem Geo.wts_get : ∀ (ks : List Geo) (j : Nat) (x : Geo), ks[j]? = some x → Geo.wts (ks.take j) + x.wt ≤ Geo.wts ks
  | [], j, x, h => by simp at h
  | g :: gs, 0, x, h => by simp at h; subst h; simp [Geo.wts]
  | g :: gs, j + 1, x, h => by
    have := Geo.wts_get gs j x (by simpa using h)
    simp only [List.take_succ_cons, Geo.wts] at this ⊢
    omega
theorem Geo.wts_mem {ks : List Geo} {j : Nat} {x : Geo} (h : ks[j]? = some x) : x.wt ≤ Geo.wts ks := by have := Geo.wts_get ks j x h; omega
theorem Geo.wts_len : ∀ (ks : List Geo), ks.length ≤ Geo.wts ks
  | [] => by simp [Geo.wts]
  | g :: gs => by have := Geo.wts_len gs; have := g.wt_pos; simp only [List.length_cons, Geo.wts]; omega

mutual
theorem IsG.mono {G G' : Heap} (hs : ∀ x ∈ G, x ∈ G') : ∀ {g c}, IsG G g c → IsG G' g c
  | .mk k l s f e ee ks, c, h => by
    obtain ⟨vf, ve, vee, vk, rows, h1, h2, h3, h4, h5, h6, h7, h8⟩ := h
    exact ⟨vf, ve, vee, vk, rows, h1, h2.mono hs, h3.mono hs, h4.mono hs, h5.mono hs, h6, h7, IsGs.mono hs h8⟩
theorem IsGs.mono {G G' : Heap} (hs : ∀ x ∈ G, x ∈ G') : ∀ {gs rs}, IsGs G gs rs → IsGs G' gs rs
  | [], [], _ => trivial
  | g :: gs, r :: rs, h => ⟨IsG.mono hs h.1, IsGs.mono hs h.2⟩
  | [], _ :: _, h => h.elim
  | _ :: _, [], h => h.elim
end
theorem IsG.len {G g c} (h : IsG G g c) : c.length = 7 := by
  cases g
  obtain ⟨vf, ve, vee, vk, rows, rfl, _⟩ := h
  rfl
theorem IsGs.get {G : Heap} : ∀ {gs rs}, IsGs G gs rs → ∀ {j : Nat} {x : Geo}, gs[j]? = some x → ∃ r, rs[j]? = some r ∧ IsG G x r ∧ (rs.flatten.drop (j * 7)).take 7 = r
  | [], [], _, j, x, hx => by simp at hx
  | g :: gs, r :: rs, h, 0, x, hx => by
    simp at hx; subst hx
    refine ⟨r, rfl, h.1, ?_⟩
    have := h.1.len
    simp [List.take_append_of_le_length, this]
  | g :: gs, r :: rs, h, j + 1, x, hx => by
    obtain ⟨r', h1, h2, h3⟩ := IsGs.get h.2 (j := j) (by simpa using hx)
    refine ⟨r', by simpa using h1, h2, ?_⟩
    have := h.1.len
    rw [List.flatten_cons, show (j + 1) * 7 = r.length + j * 7 by omega, List.drop_length_add_append]
    exact h3
  | [], _ :: _, h, _, _, _ => h.elim
  | _ :: _, [], h, _, _, _ => h.elim
theorem IsGs.len {G : Heap} : ∀ {gs rs}, IsGs G gs rs → rs.flatten.length = gs.length * 7
  | [], [], _ => rfl
  | g :: gs, r :: rs, h => by
    have := IsGs.len h.2
    have := h.1.len
    rw [List.flatten_cons, List.length_append, List.length_cons]; omega
  | [], _ :: _, h => h.elim
  | _ :: _, [], h => h.elim
/-- A part in memory. -/
theorem kid {G : Heap} {v : Value} {ks : List Geo} {rows} (h1 : SlN 7 G v ks.length rows.flatten) (h2 : IsGs G ks rows) {j : Nat} {x : Geo} (hx : ks[j]? = some x) :
    ∃ k off l T fz cap r, v = .slice (some ⟨k, off, none⟩) ks.length cap ∧ (k, Obj.cells ⟨l⟩ T fz) ∈ G ∧ (l.drop (off + j * 7)).take 7 = r ∧ IsG G x r := by
  obtain ⟨r, _, h3, h4⟩ := h2.get hx
  have hj : j < ks.length := (List.getElem?_eq_some_iff.1 hx).1
  obtain ⟨k, off, l, T, fz, cap, e1, e2, e3⟩ := h1.at hj
  exact ⟨k, off, l, T, fz, cap, r, e1, e2, by rw [e3, h4], h3⟩

theorem IsG.open {G : Heap} {k l s f e ee ks c} (h : IsG G (.mk k l s f e ee ks) c) : ∃ af cf ae ce aee cee ak ck rows,
    c = [.int .i64 k, .int .i64 l, .int .i64 s, .slice af f.length cf, .slice ae e.length ce, .slice aee ee.length cee, .slice ak ks.length ck] ∧
    FS G (.slice af f.length cf) f ∧ IS G (.slice ae e.length ce) e ∧ ISS G (.slice aee ee.length cee) ee ∧ SlN 7 G (.slice ak ks.length ck) ks.length rows.flatten ∧
      (∀ x ∈ e, x < 9223372036854775808) ∧ (∀ x ∈ ee, ∀ y ∈ x, y < 9223372036854775808) ∧ IsGs G ks rows := by
  obtain ⟨vf, ve, vee, vk, rows, rfl, h2, h3, h4, h5, h6, h7, h8⟩ := h
  obtain ⟨af, cf, rfl⟩ := h2.val
  obtain ⟨ae, ce, rfl⟩ := h3.val
  obtain ⟨aee, cee, rfl⟩ := h4.val
  obtain ⟨ak, ck, rfl, _⟩ := h5.val
  exact ⟨_, _, _, _, _, _, _, _, rows, rfl, h2, h3, h4, h5, h6, h7, h8⟩
theorem take_one_mem {α : Type} {l : List α} {j : Nat} {x : α} (h : l[j]? = some x) {p : α → Prop} (h1 : ∀ y ∈ l.take j, p y) (h2 : p x) : ∀ y ∈ l.take (j + 1), p y := by
  intro y hy
  rw [List.take_add_one, h] at hy
  simp only [Option.toList_some, List.mem_append, List.mem_singleton] at hy
  rcases hy with hy | rfl
  · exact h1 y hy
  · exact h2
theorem all_taken {α : Type} {l : List α} {j : Nat} (hj : ¬ j < l.length) {p : α → Prop} (h1 : ∀ y ∈ l.take j, p y) : ∀ y ∈ l, p y := by
  rwa [List.take_of_length_le (by omega)] at h1

set_option maxHeartbeats 8000000 in
theorem gLayouts : ∀ (N : Nat) (g : Geo) (c : List Value) (H : Heap) (most : Int), g.wt ≤ N → g.wt < 2 ^ 62 → IsG H g c →
    Does Try.prog 15 [.agg ⟨c⟩, .int .i64 most] H fun w H' => w = .bool (g.layB most) ∧ H' = H := by
  intro N
  induction N with
  | zero => intro g c H most h; have := g.wt_pos; omega
  | succ N ih =>
    intro g c H most hN hb hg
    obtain ⟨k, l, s, f, e, ee, ks⟩ := g
    obtain ⟨af, cf, ae, ce, aee, cee, ak, ck, rows, rfl, hf, he, hee, hk, hl1, hl2, hks⟩ := hg.open
    have hwt : Geo.wts ks < Geo.wt (.mk k l s f e ee ks) := by unfold Geo.wt; omega
    have hkl := Geo.wts_len ks
    refine fn_enter 38 Try.func15 fun W => ?_
    repeat' first
      | refine tc_seq ?_ | refine tc_region ?_ | refine at_seq_normal ?_ | refine tl_nil ?_ | refine tl_cons ?_ | refine tl_cons_none ?_ | refine op_move ?_ | refine op_assign ?_ | refine op_fieldAddr ?_ | refine op_load ?_
      | refine op_load_agg ?_ | refine op_indexC ?_ | refine op_indexAddr1 ?_ | refine op_indexAddr ?_ | refine op_icmp ?_ | refine op_iarith ?_ | refine op_unop_not ?_ | refine op_len_slice ?_ | refine op_pick_true ?_ | refine op_pick_false ?_
      | refine op_pick_true' ?_ | refine op_pick_false' ?_ | (refine op_alloc ?_; intro _) | (refine op_box ?_; intro _) | refine op_store0 ?_ | refine op_store1 ?_ | refine op_store2 ?_ | refine op_store3 ?_ | refine op_store4 ?_ | refine op_store5 ?_
      | refine op_storeK rfl ?_ | refine op_loadK rfl ?_ | refine op_load_aggK rfl ?_ | refine tc_cond_t ?_ | refine tc_cond_f ?_ | refine tc_cond (fun _ => ?_) (fun _ => ?_) | refine tc_block ?_ | refine tc_skip ?_ | refine tc_ret ?_ | refine tc_exit ?_
      | refine at_seq_ret ?_ | refine at_seq_exit ?_ | refine at_block_normal ?_ | refine at_block_ret ?_ | refine at_block_exit_self ?_ | refine at_block_exit_ne ?_ | refine at_loop_ret ?_ | refine at_loop_exit ?_ | refine tl_guard_yes ?_ | refine tl_guard_no ?_
      | refine tl_guard_yes' ?_ | refine tl_guard_no' ?_ | refine tl_guard_undef ?_ | refine tl_guard_split (fun _ => ?_) (fun _ => ?_)
    rename_i kb
    refine tc_loopH [(1, _), (2, _), (8, _), (9, _)] (by repeat (first | exact trivial | refine ⟨rfl, ?_⟩)) (fun j : Nat => [(10, .int .i64 (j : Int))]) (fun j => j ≤ ks.length ∧ (ks.take j).all (Geo.layB most) = true) (fun j => ks.length - j) 0 ⟨Nat.zero_le _, by simp⟩ ⟨rfl, trivial⟩ ?_
    rintro j ⟨hj, hok⟩
    by_cases hlt : j < ks.length
    · have hbb : icmp .lss (j : Int) (ks.length : Int) = true := by rw [lss_nat]; simpa using hlt
      have hget : ks[j]? = some ks[j] := List.getElem?_eq_getElem hlt
      have hwk := Geo.wts_mem hget
      obtain ⟨kk, off, L, T, fz, cap, r, e1, hm, hcut, hr⟩ := kid hk hks hget
      generalize ks[j] = x at *
      cases e1
      obtain ⟨xk, xl, xs, xf, xe, xee, xks⟩ := x
      have hr0 := hr
      obtain ⟨_, _, _, _, _, _, _, _, _, rfl, _⟩ := hr.open
      repeat' first
        | (first | refine tc_seq ?_ | refine tc_region ?_ | refine at_seq_normal ?_ | refine tl_nil ?_ | refine tl_cons ?_ | refine tl_cons_none ?_ | refine op_move ?_ | refine op_assign ?_ | refine op_fieldAddr ?_ | refine op_load ?_ | refine op_load_agg ?_ | refine op_indexC ?_ | refine op_indexAddr1 ?_ | refine op_indexAddr ?_ | refine op_icmp ?_ | refine op_iarith ?_ | refine op_unop_not ?_ | refine op_len_slice ?_ | refine op_pick_true ?_ | refine op_pick_false ?_ | refine op_pick_true' ?_ | refine op_pick_false' ?_ | (refine op_alloc ?_; intro _) | (refine op_box ?_; intro _) | refine op_store0 ?_ | refine op_store1 ?_ | refine op_store2 ?_ | refine op_store3 ?_ | refine op_store4 ?_ | refine op_store5 ?_ | refine op_storeK rfl ?_ | refine op_loadK rfl ?_ | refine op_load_aggK rfl ?_ | refine tc_cond_t ?_ | refine tc_cond_f ?_ | refine tc_cond (fun _ => ?_) (fun _ => ?_) | refine tc_block ?_ | refine tc_skip ?_ | refine tc_ret ?_ | refine tc_exit ?_ | refine at_seq_ret ?_ | refine at_seq_exit ?_ | refine at_block_normal ?_ | refine at_block_ret ?_ | refine at_block_exit_self ?_ | refine at_block_exit_ne ?_ | refine at_loop_ret ?_ | refine at_loop_exit ?_ | refine tl_guard_yes ?_ | refine tl_guard_no ?_ | refine tl_guard_yes' ?_ | refine tl_guard_no' ?_ | refine tl_guard_undef ?_ | refine tl_guard_split (fun _ => ?_) (fun _ => ?_) | fail)
        | (refine op_call ((ih _ _ _ most (by omega) (by omega) (hr0.mono fun e he => by simp [he])).mono ?_); rintro _ _ ⟨rfl, rfl⟩)
      · rename_i hbad
        exact ret_tmp (hk := ⟨by rw [Geo.layB, Geo.laysB_eq, all_bad hget (by simpa using hbad)]; rfl, rfl⟩)
      · rename_i hgood
        exact at_loopK (j + 1) ⟨hlt, all_snoc hget hok (by simpa using hgood)⟩ (by omega) ⟨next_nat (by omega), trivial⟩ (by repeat (first | exact trivial | refine ⟨rfl, ?_⟩)) (by (repeat (first | exact List.Sublist.refl _ | apply List.Sublist.cons_cons | apply List.Sublist.cons | refine List.Sublist.trans ?_ (List.sublist_append_right _ _))))
    · have hbb : icmp .lss (j : Int) (ks.length : Int) = false := by rw [lss_nat]; simpa using hlt
      rw [take_len hlt] at hok
      repeat' first
        | refine tc_seq ?_ | refine tc_region ?_ | refine at_seq_normal ?_ | refine tl_nil ?_ | refine tl_cons ?_ | refine tl_cons_none ?_ | refine op_move ?_ | refine op_assign ?_ | refine op_fieldAddr ?_ | refine op_load ?_
        | refine op_load_agg ?_ | refine op_indexC ?_ | refine op_indexAddr1 ?_ | refine op_indexAddr ?_ | refine op_icmp ?_ | refine op_iarith ?_ | refine op_unop_not ?_ | refine op_len_slice ?_ | refine op_pick_true ?_ | refine op_pick_false ?_
        | refine op_pick_true' ?_ | refine op_pick_false' ?_ | (refine op_alloc ?_; intro _) | (refine op_box ?_; intro _) | refine op_store0 ?_ | refine op_store1 ?_ | refine op_store2 ?_ | refine op_store3 ?_ | refine op_store4 ?_ | refine op_store5 ?_
        | refine op_storeK rfl ?_ | refine op_loadK rfl ?_ | refine op_load_aggK rfl ?_ | refine tc_cond_t ?_ | refine tc_cond_f ?_ | refine tc_cond (fun _ => ?_) (fun _ => ?_) | refine tc_block ?_ | refine tc_skip ?_ | refine tc_ret ?_ | refine tc_exit ?_
        | refine at_seq_ret ?_ | refine at_seq_exit ?_ | refine at_block_normal ?_ | refine at_block_ret ?_ | refine at_block_exit_self ?_ | refine at_block_exit_ne ?_ | refine at_loop_ret ?_ | refine at_loop_exit ?_ | refine tl_guard_yes ?_ | refine tl_guard_no ?_
        | refine tl_guard_yes' ?_ | refine tl_guard_no' ?_ | refine tl_guard_undef ?_ | refine tl_guard_split (fun _ => ?_) (fun _ => ?_)
      all_goals (exact ret_tmp (hk := ⟨by rw [Geo.layB, Geo.laysB_eq, hok]; simp_all [icmp] <;> (intros; omega), rfl⟩))
theorem sum1_len : ∀ (ee : List (List Int)), ee.length ≤ (ee.map (fun l => 1 + l.length)).sum
  | [] => by simp
  | x :: xs => by have := sum1_len xs; simp only [List.length_cons, List.map_cons, List.sum_cons]; omega

set_option maxHeartbeats 8000000 in
theorem weight : ∀ (N : Nat) (g : Geo) (c : List Value) (H : Heap) (most : Int), g.wt ≤ N → g.wt < 2 ^ 61 → most < 2 ^ 62 → IsG H g c →
    Does Try.prog 14 [.agg ⟨c⟩, .int .i64 most] H fun w H' => (∃ r : Int, w = .int .i64 r ∧ 1 ≤ r ∧ r ≤ g.wt ∧ (r ≤ most → r = g.wt) ∧ r = g.wM most) ∧ H' = H := by
  intro N
  induction N with
  | zero => intro g c H most h; have := g.wt_pos; omega
  | succ N ih =>
    intro g c H most hN hb hmost hg
    obtain ⟨k, l, s, f, e, ee, ks⟩ := g
    obtain ⟨af, cf, ae, ce, aee, cee, ak, ck, rows, rfl, hf, he, hee, hk, hl1, hl2, hks⟩ := hg.open
    have hwt : Geo.wt (.mk k l s f e ee ks) = 1 + f.length + e.length + (ee.map (fun l => 1 + l.length)).sum + Geo.wts ks := by rw [Geo.wt]
    have hwm : Geo.wM most (.mk k l s f e ee ks) = Geo.wMs most ((1 + f.length + e.length + (ee.map (fun l => 1 + l.length)).sum : Nat) : Int) ks := by rw [Geo.wM]
    generalize Geo.wM most (.mk k l s f e ee ks) = wm at *
    generalize hwg : Geo.wt (.mk k l s f e ee ks) = wg at *
    have hkl := Geo.wts_len ks
    have hel := sum1_len ee
    refine fn_enter 51 Try.func14 fun W => ?_
    repeat' first
      | refine tc_seq ?_ | refine tc_region ?_ | refine at_seq_normal ?_ | refine tl_nil ?_ | refine tl_cons ?_ | refine tl_cons_none ?_ | refine op_move ?_ | refine op_assign ?_ | refine op_fieldAddr ?_ | refine op_load ?_
      | refine op_load_agg ?_ | refine op_indexC ?_ | refine op_indexAddr1 ?_ | refine op_indexAddr ?_ | refine op_icmp ?_ | refine op_iarith ?_ | refine op_len_slice ?_ | (refine op_alloc ?_; intro _) | (refine op_box ?_; intro _) | refine op_store0 ?_
      | refine op_store1 ?_ | refine op_store2 ?_ | refine op_store3 ?_ | refine op_store4 ?_ | refine op_store5 ?_ | refine op_storeK rfl ?_ | refine op_loadK rfl ?_ | refine op_load_aggK rfl ?_ | refine tc_cond_t ?_ | refine tc_cond_f ?_
      | refine tc_cond (fun _ => ?_) (fun _ => ?_) | refine tc_block ?_ | refine tc_skip ?_ | refine tc_ret ?_ | refine tc_exit ?_ | refine at_seq_ret ?_ | refine at_seq_exit ?_ | refine at_block_normal ?_ | refine at_block_ret ?_ | refine at_block_exit_self ?_
      | refine at_block_exit_ne ?_ | refine at_loop_ret ?_ | refine at_loop_exit ?_
    rename_i kb
    refine tc_loopH [(1, _), (2, _), (4, _), (19, _), (20, _)] (by repeat (first | exact trivial | refine ⟨rfl, ?_⟩)) (fun j : Nat => [(21, .int .i64 (j : Int)), (5, .int .i64 ((1 + f.length + e.length + ((ee.take j).map (fun l => 1 + l.length)).sum : Nat) : Int))])
      (fun j => j ≤ ee.length) (fun j => ee.length - j) 0 (Nat.zero_le _) ⟨rfl, geti rfl (by simp (disch := omega) only [wrap_add]; simp), trivial⟩ ?_
    rintro j hj
    by_cases hlt : j < ee.length
    · have hbb : icmp .lss (j : Int) (ee.length : Int) = true := by rw [lss_nat]; simpa using hlt
      have hget : ee[j]? = some ee[j] := List.getElem?_eq_getElem hlt
      have hwk := sum_get_le (fun l => 1 + l.length) ee j _ hget
      have hts := sum_take_succ (fun l => 1 + l.length) ee j _ hget
      obtain ⟨kk, off, L, T, fz, cap, u, e1, hm, hcut, hr, _⟩ := hee.at hget
      generalize ee[j] = x at *
      cases e1
      obtain ⟨au, cu, rfl⟩ := hr.val
      repeat' first
        | refine tc_seq ?_ | refine tc_region ?_ | refine at_seq_normal ?_ | refine tl_nil ?_ | refine tl_cons ?_ | refine tl_cons_none ?_ | refine op_move ?_ | refine op_assign ?_ | refine op_fieldAddr ?_ | refine op_load ?_
        | refine op_load_agg ?_ | refine op_indexC ?_ | refine op_indexAddr1 ?_ | refine op_indexAddr ?_ | refine op_icmp ?_ | refine op_iarith ?_ | refine op_len_slice ?_ | (refine op_alloc ?_; intro _) | (refine op_box ?_; intro _) | refine op_store0 ?_
        | refine op_store1 ?_ | refine op_store2 ?_ | refine op_store3 ?_ | refine op_store4 ?_ | refine op_store5 ?_ | refine op_storeK rfl ?_ | refine op_loadK rfl ?_ | refine op_load_aggK rfl ?_ | refine tc_cond_t ?_ | refine tc_cond_f ?_
        | refine tc_cond (fun _ => ?_) (fun _ => ?_) | refine tc_block ?_ | refine tc_skip ?_ | refine tc_ret ?_ | refine tc_exit ?_ | refine at_seq_ret ?_ | refine at_seq_exit ?_ | refine at_block_normal ?_ | refine at_block_ret ?_ | refine at_block_exit_self ?_
        | refine at_block_exit_ne ?_ | refine at_loop_ret ?_ | refine at_loop_exit ?_
      exact at_loopK (j + 1) hlt (by omega) ⟨next_nat (by omega), geti rfl (by simp (disch := omega) only [wrap_add]; rw [hts]; omega), trivial⟩ (by repeat (first | exact trivial | refine ⟨rfl, ?_⟩)) (by (repeat (first | exact List.Sublist.refl _ | apply List.Sublist.cons_cons | apply List.Sublist.cons | refine List.Sublist.trans ?_ (List.sublist_append_right _ _))))
    · have hbb : icmp .lss (j : Int) (ee.length : Int) = false := by rw [lss_nat]; simpa using hlt
      rw [take_len hlt]
      repeat' first
        | refine tc_seq ?_ | refine tc_region ?_ | refine at_seq_normal ?_ | refine tl_nil ?_ | refine tl_cons ?_ | refine tl_cons_none ?_ | refine op_move ?_ | refine op_assign ?_ | refine op_fieldAddr ?_ | refine op_load ?_
        | refine op_load_agg ?_ | refine op_indexC ?_ | refine op_indexAddr1 ?_ | refine op_indexAddr ?_ | refine op_icmp ?_ | refine op_iarith ?_ | refine op_len_slice ?_ | (refine op_alloc ?_; intro _) | (refine op_box ?_; intro _) | refine op_store0 ?_
        | refine op_store1 ?_ | refine op_store2 ?_ | refine op_store3 ?_ | refine op_store4 ?_ | refine op_store5 ?_ | refine op_storeK rfl ?_ | refine op_loadK rfl ?_ | refine op_load_aggK rfl ?_ | refine tc_cond_t ?_ | refine tc_cond_f ?_
        | refine tc_cond (fun _ => ?_) (fun _ => ?_) | refine tc_block ?_ | refine tc_skip ?_ | refine tc_ret ?_ | refine tc_exit ?_ | refine at_seq_ret ?_ | refine at_seq_exit ?_ | refine at_block_normal ?_ | refine at_block_ret ?_ | refine at_block_exit_self ?_
        | refine at_block_exit_ne ?_ | refine at_loop_ret ?_ | refine at_loop_exit ?_
      refine tc_loopH [(1, _), (32, _), (33, _)] (by repeat (first | exact trivial | refine ⟨rfl, ?_⟩)) (fun p : Nat × Int => [(34, .int .i64 (p.1 : Int)), (5, .int .i64 p.2)])
        (fun p => p.1 ≤ ks.length ∧ 1 ≤ p.2 ∧ p.2 ≤ ((1 + f.length + e.length + (ee.map (fun l => 1 + l.length)).sum + Geo.wts (ks.take p.1) : Nat) : Int) ∧
          (p.2 ≤ most → p.2 = ((1 + f.length + e.length + (ee.map (fun l => 1 + l.length)).sum + Geo.wts (ks.take p.1) : Nat) : Int)) ∧ Geo.wMs most p.2 (ks.drop p.1) = wm)
        (fun p => ks.length - p.1) (0, ((1 + f.length + e.length + (ee.map (fun l => 1 + l.length)).sum : Nat) : Int)) ⟨Nat.zero_le _, by simp only; omega, by simp [Geo.wts], fun _ => by simp [Geo.wts], by simp only [List.drop_zero]; exact hwm.symm⟩ ⟨rfl, rfl, trivial⟩ ?_
      rintro ⟨j, r⟩ ⟨hj, h1, h2, h3, h4⟩
      simp only at hj h1 h2 h3 h4 ⊢
      by_cases hlt : j < ks.length
      · have hbb : icmp .lss (j : Int) (ks.length : Int) = true := by rw [lss_nat]; simpa using hlt
        have hget : ks[j]? = some ks[j] := List.getElem?_eq_getElem hlt
        have hwk := Geo.wts_get ks j _ hget
        have hts := Geo.wts_take_succ ks j _ hget
        rw [List.drop_eq_getElem_cons hlt, Geo.wMs] at h4
        obtain ⟨kk, off, L, T, fz, cap, r, e1, hm, hcut, hr⟩ := kid hk hks hget
        generalize ks[j] = x at *
        cases e1
        obtain ⟨xk, xl, xs, xf, xe, xee, xks⟩ := x
        have hr0 := hr
        obtain ⟨_, _, _, _, _, _, _, _, _, rfl, _⟩ := hr.open
        repeat' first
          | (first | refine tc_seq ?_ | refine tc_region ?_ | refine at_seq_normal ?_ | refine tl_nil ?_ | refine tl_cons ?_ | refine tl_cons_none ?_ | refine op_move ?_ | refine op_assign ?_ | refine op_fieldAddr ?_ | refine op_load ?_ | refine op_load_agg ?_ | refine op_indexC ?_ | refine op_indexAddr1 ?_ | refine op_indexAddr ?_ | refine op_icmp ?_ | refine op_iarith ?_ | refine op_len_slice ?_ | (refine op_alloc ?_; intro _) | (refine op_box ?_; intro _) | refine op_store0 ?_ | refine op_store1 ?_ | refine op_store2 ?_ | refine op_store3 ?_ | refine op_store4 ?_ | refine op_store5 ?_ | refine op_storeK rfl ?_ | refine op_loadK rfl ?_ | refine op_load_aggK rfl ?_ | refine tc_cond_t ?_ | refine tc_cond_f ?_ | refine tc_cond (fun _ => ?_) (fun _ => ?_) | refine tc_block ?_ | refine tc_skip ?_ | refine tc_ret ?_ | refine tc_exit ?_ | refine at_seq_ret ?_ | refine at_seq_exit ?_ | refine at_block_normal ?_ | refine at_block_ret ?_ | refine at_block_exit_self ?_ | refine at_block_exit_ne ?_ | refine at_loop_ret ?_ | refine at_loop_exit ?_ | fail)
          | (rename_i hle; have hle' : r ≤ most := (by simpa [icmp] using hle); have hsub := wrap_sub (a := most) (b := r) (by omega) (by omega); rw [hsub]; refine op_call ((ih _ _ _ (most - r) (by omega) (by omega) (by omega) (hr0.mono fun e he => by simp [he])).mono ?_); rintro _ _ ⟨⟨q, rfl, q1, q2, q3, q4⟩, rfl⟩)
        all_goals first
          | exact ret_tmp (hk := ⟨⟨r, rfl, h1, by omega, fun h => by exfalso; simp_all [icmp]; omega, by rw [← h4, if_pos]; simp_all [icmp]⟩, rfl⟩)
          | skip
        exact at_loopK (j + 1, r + q) ⟨hlt, by simp only; omega, by simp only; omega, fun h => by simp only at h ⊢; omega, by simp only; rw [← h4, if_neg (by omega), q4]⟩ (by show _ - _ < _ - _; omega) ⟨next_nat (by omega), geti rfl (wrap_add (by omega) (by omega)), trivial⟩ (by repeat (first | exact trivial | refine ⟨rfl, ?_⟩)) (by (repeat (first | exact List.Sublist.refl _ | apply List.Sublist.cons_cons | apply List.Sublist.cons | refine List.Sublist.trans ?_ (List.sublist_append_right _ _))))
      · have hbb : icmp .lss (j : Int) (ks.length : Int) = false := by rw [lss_nat]; simpa using hlt
        rw [take_len hlt] at h2 h3
        rw [List.drop_of_length_le (by omega)] at h4
        repeat' first
          | refine tc_seq ?_ | refine tc_region ?_ | refine at_seq_normal ?_ | refine tl_nil ?_ | refine tl_cons ?_ | refine tl_cons_none ?_ | refine op_move ?_ | refine op_assign ?_ | refine op_fieldAddr ?_ | refine op_load ?_
          | refine op_load_agg ?_ | refine op_indexC ?_ | refine op_indexAddr1 ?_ | refine op_indexAddr ?_ | refine op_icmp ?_ | refine op_iarith ?_ | refine op_len_slice ?_ | (refine op_alloc ?_; intro _) | (refine op_box ?_; intro _) | refine op_store0 ?_
          | refine op_store1 ?_ | refine op_store2 ?_ | refine op_store3 ?_ | refine op_store4 ?_ | refine op_store5 ?_ | refine op_storeK rfl ?_ | refine op_loadK rfl ?_ | refine op_load_aggK rfl ?_ | refine tc_cond_t ?_ | refine tc_cond_f ?_
          | refine tc_cond (fun _ => ?_) (fun _ => ?_) | refine tc_block ?_ | refine tc_skip ?_ | refine tc_ret ?_ | refine tc_exit ?_ | refine at_seq_ret ?_ | refine at_seq_exit ?_ | refine at_block_normal ?_ | refine at_block_ret ?_ | refine at_block_exit_self ?_
          | refine at_block_exit_ne ?_ | refine at_loop_ret ?_ | refine at_loop_exit ?_
        exact ret_tmp (hk := ⟨⟨r, rfl, h1, by omega, fun h => by omega, h4⟩, rfl⟩)

theorem doCover (a b : Int) (H : Heap) : Does Try.prog 13 [.int .i64 a, .int .i64 b] H fun w H' => w = .int .i64 (cover a b) ∧ H' = H := by
  refine fn_enter 22 Try.func13 fun W => ?_
  repeat' first
    | refine tc_seq ?_ | refine tc_region ?_ | refine at_seq_normal ?_ | refine tl_nil ?_ | refine tl_cons ?_ | refine op_move ?_ | refine op_assign ?_ | refine op_icmp ?_ | refine op_pick_true ?_ | refine op_pick_false ?_
    | refine op_pick_true' ?_ | refine op_pick_false' ?_ | refine op_imax ?_ | refine tc_cond_t ?_ | refine tc_cond_f ?_ | refine tc_cond (fun _ => ?_) (fun _ => ?_) | refine tc_skip ?_ | refine tc_ret ?_ | refine at_seq_ret ?_ | refine tl_guard_yes ?_
    | refine tl_guard_no ?_ | refine tl_guard_yes' ?_ | refine tl_guard_no' ?_ | refine tl_guard_undef ?_ | refine tl_guard_split (fun _ => ?_) (fun _ => ?_)
  all_goals
    refine ret_tmp (hk := ⟨congrArg (Value.int .i64) ?_, rfl⟩)
    simp only [icmp, beq_iff_eq, beq_eq_false_iff_ne, ne_eq] at *
    unfold cover
    (repeat' split) <;> omega

set_option maxHeartbeats 8000000 in
theorem layoutOf : ∀ (N : Nat) (g : Geo) (c : List Value) (H : Heap), g.wt ≤ N → g.wt < 2 ^ 62 → IsG H g c →
    Does Try.prog 7 [.agg ⟨c⟩] H fun w H' => w = .int .i64 g.lof ∧ H' = H := by
  intro N
  induction N with
  | zero => intro g c H h; have := g.wt_pos; omega
  | succ N ih =>
    intro g c H hN hb hg
    obtain ⟨k, l, s, f, e, ee, ks⟩ := g
    obtain ⟨af, cf, ae, ce, aee, cee, ak, ck, rows, rfl, hf, he, hee, hk, hl1, hl2, hks⟩ := hg.open
    have hwt : Geo.wts ks < Geo.wt (.mk k l s f e ee ks) := by unfold Geo.wt; omega
    have hkl := Geo.wts_len ks
    refine fn_enter 29 Try.func7 fun W => ?_
    repeat' first
      | refine tc_seq ?_ | refine tc_region ?_ | refine at_seq_normal ?_ | refine tl_nil ?_ | refine tl_cons ?_ | refine tl_cons_none ?_ | refine op_move ?_ | refine op_assign ?_ | refine op_fieldAddr ?_ | refine op_load ?_
      | refine op_load_agg ?_ | refine op_indexC ?_ | refine op_indexAddr1 ?_ | refine op_indexAddr ?_ | refine op_icmp ?_ | refine op_iarith ?_ | refine op_len_slice ?_ | refine op_pick_true ?_ | refine op_pick_false ?_ | refine op_pick_true' ?_
      | refine op_pick_false' ?_ | (refine op_alloc ?_; intro _) | (refine op_box ?_; intro _) | refine op_store0 ?_ | refine op_store1 ?_ | refine op_store2 ?_ | refine op_store3 ?_ | refine op_store4 ?_ | refine op_store5 ?_ | refine op_storeK rfl ?_
      | refine op_loadK rfl ?_ | refine op_load_aggK rfl ?_ | refine tc_cond_t ?_ | refine tc_cond_f ?_ | refine tc_cond (fun _ => ?_) (fun _ => ?_) | refine tc_block ?_ | refine tc_skip ?_ | refine tc_ret ?_ | refine tc_exit ?_ | refine at_seq_ret ?_
      | refine at_seq_exit ?_ | refine at_block_normal ?_ | refine at_block_ret ?_ | refine at_block_exit_self ?_ | refine at_block_exit_ne ?_ | refine at_loop_ret ?_ | refine at_loop_exit ?_ | refine tl_guard_yes ?_ | refine tl_guard_no ?_ | refine tl_guard_yes' ?_
      | refine tl_guard_no' ?_ | refine tl_guard_undef ?_ | refine tl_guard_split (fun _ => ?_) (fun _ => ?_)
    rotate_right
    · rename_i c1 c2
      have hk7 : k = 7 := by simpa [icmp] using c1
      have hl0 : l = 0 := by simpa [icmp] using c2
      subst hl0
      have hlof : Geo.lof (.mk k 0 s f e ee ks) = Geo.lofs 0 ks := by rw [Geo.lof, if_neg (by omega)]
      rw [hlof]
      refine tc_loopH [(2, _), (17, _), (18, _)] (by repeat (first | exact trivial | refine ⟨rfl, ?_⟩)) (fun p : Nat × Int => [(19, .int .i64 (p.1 : Int)), (3, .int .i64 p.2)])
        (fun p => p.1 ≤ ks.length ∧ Geo.lofs p.2 (ks.drop p.1) = Geo.lofs 0 ks) (fun p => ks.length - p.1) (0, 0) ⟨Nat.zero_le _, rfl⟩ ⟨rfl, rfl, trivial⟩ ?_
      rintro ⟨j, r⟩ ⟨hj, h1⟩
      simp only at hj h1 ⊢
      by_cases hlt : j < ks.length
      · have hbb : icmp .lss (j : Int) (ks.length : Int) = true := by rw [lss_nat]; simpa using hlt
        have hget : ks[j]? = some ks[j] := List.getElem?_eq_getElem hlt
        have hwk := Geo.wts_mem hget
        have hdr := List.drop_eq_getElem_cons hlt
        obtain ⟨kk, off, L, T, fz, cap, q, e1, hm, hcut, hr⟩ := kid hk hks hget
        generalize ks[j] = x at *
        cases e1
        obtain ⟨xk, xl, xs, xf, xe, xee, xks⟩ := x
        have hr0 := hr
        obtain ⟨_, _, _, _, _, _, _, _, _, rfl, _⟩ := hr.open
        repeat' first
          | (first | refine tc_seq ?_ | refine tc_region ?_ | refine at_seq_normal ?_ | refine tl_nil ?_ | refine tl_cons ?_ | refine tl_cons_none ?_ | refine op_move ?_ | refine op_assign ?_ | refine op_fieldAddr ?_ | refine op_load ?_ | refine op_load_agg ?_ | refine op_indexC ?_ | refine op_indexAddr1 ?_ | refine op_indexAddr ?_ | refine op_icmp ?_ | refine op_iarith ?_ | refine op_len_slice ?_ | refine op_pick_true ?_ | refine op_pick_false ?_ | refine op_pick_true' ?_ | refine op_pick_false' ?_ | (refine op_alloc ?_; intro _) | (refine op_box ?_; intro _) | refine op_store0 ?_ | refine op_store1 ?_ | refine op_store2 ?_ | refine op_store3 ?_ | refine op_store4 ?_ | refine op_store5 ?_ | refine op_storeK rfl ?_ | refine op_loadK rfl ?_ | refine op_load_aggK rfl ?_ | refine tc_cond_t ?_ | refine tc_cond_f ?_ | refine tc_cond (fun _ => ?_) (fun _ => ?_) | refine tc_block ?_ | refine tc_skip ?_ | refine tc_ret ?_ | refine tc_exit ?_ | refine at_seq_ret ?_ | refine at_seq_exit ?_ | refine at_block_normal ?_ | refine at_block_ret ?_ | refine at_block_exit_self ?_ | refine at_block_exit_ne ?_ | refine at_loop_ret ?_ | refine at_loop_exit ?_ | refine tl_guard_yes ?_ | refine tl_guard_no ?_ | refine tl_guard_yes' ?_ | refine tl_guard_no' ?_ | refine tl_guard_undef ?_ | refine tl_guard_split (fun _ => ?_) (fun _ => ?_) | fail)
          | (refine op_call ((ih _ _ _ (by omega) (by omega) (hr0.mono fun e he => by simp [he])).mono ?_); rintro _ _ ⟨rfl, rfl⟩)
          | (refine op_call ((doCover _ _ _).mono ?_); rintro _ _ ⟨rfl, rfl⟩)
        exact at_loopK (j + 1, cover r (Geo.lof (.mk xk xl xs xf xe xee xks))) ⟨hlt, by simp only; rw [← h1, hdr]; rfl⟩ (by show _ - _ < _ - _; omega) ⟨next_nat (by omega), rfl, trivial⟩ (by repeat (first | exact trivial | refine ⟨rfl, ?_⟩)) (by (repeat (first | exact List.Sublist.refl _ | apply List.Sublist.cons_cons | apply List.Sublist.cons | refine List.Sublist.trans ?_ (List.sublist_append_right _ _))))
      · have hbb : icmp .lss (j : Int) (ks.length : Int) = false := by rw [lss_nat]; simpa using hlt
        rw [List.drop_of_length_le (by omega)] at h1
        repeat' first
          | refine tc_seq ?_ | refine tc_region ?_ | refine at_seq_normal ?_ | refine tl_nil ?_ | refine tl_cons ?_ | refine tl_cons_none ?_ | refine op_move ?_ | refine op_assign ?_ | refine op_fieldAddr ?_ | refine op_load ?_
          | refine op_load_agg ?_ | refine op_indexC ?_ | refine op_indexAddr1 ?_ | refine op_indexAddr ?_ | refine op_icmp ?_ | refine op_iarith ?_ | refine op_len_slice ?_ | refine op_pick_true ?_ | refine op_pick_false ?_ | refine op_pick_true' ?_
          | refine op_pick_false' ?_ | (refine op_alloc ?_; intro _) | (refine op_box ?_; intro _) | refine op_store0 ?_ | refine op_store1 ?_ | refine op_store2 ?_ | refine op_store3 ?_ | refine op_store4 ?_ | refine op_store5 ?_ | refine op_storeK rfl ?_
          | refine op_loadK rfl ?_ | refine op_load_aggK rfl ?_ | refine tc_cond_t ?_ | refine tc_cond_f ?_ | refine tc_cond (fun _ => ?_) (fun _ => ?_) | refine tc_block ?_ | refine tc_skip ?_ | refine tc_ret ?_ | refine tc_exit ?_ | refine at_seq_ret ?_
          | refine at_seq_exit ?_ | refine at_block_normal ?_ | refine at_block_ret ?_ | refine at_block_exit_self ?_ | refine at_block_exit_ne ?_ | refine at_loop_ret ?_ | refine at_loop_exit ?_ | refine tl_guard_yes ?_ | refine tl_guard_no ?_ | refine tl_guard_yes' ?_
          | refine tl_guard_no' ?_ | refine tl_guard_undef ?_ | refine tl_guard_split (fun _ => ?_) (fun _ => ?_)
        exact ret_tmp (hk := ⟨congrArg (Value.int .i64) h1, rfl⟩)
    all_goals
      refine ret_tmp (hk := ⟨congrArg (Value.int .i64) ?_, rfl⟩)
      rw [Geo.lof, if_pos]
      simp_all [icmp]
end Go.Proofs.Ytkhpdmcalimmjaa.Geom
