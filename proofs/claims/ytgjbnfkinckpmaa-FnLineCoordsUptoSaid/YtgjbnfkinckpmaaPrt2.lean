/-
  The places of a multi point as the reference has them: Parts, gPlaces. No conditions.
-/
import Derived.Test.YtgjbnfkinckpmaaPrt
import Derived.Test.YtgjbnfkinckpmaaGeo2
import Derived.Test.YtgjbnfkinckpmaaLg30
set_option linter.unusedVariables false
set_option linter.unusedSimpArgs false
namespace Go.Proofs.Ytgjbnfkinckpmaa.Gm
open Go.Lg Go.Proofs.Ytgjbnfkinckpmaa.Geom Go.Proofs.Ytgjbnfkinckpmaa.Flat

def NF (u : Value) : Prop := ∀ n, u ≠ .float .f64 n
theorem bufH_skipF {e : TypeId} {buf : Buf} {ws : List Value} {H : Heap} (hsp : spP NF buf) (hws : ∀ u ∈ ws, NF u) : ∀ z ∈ bufH e buf ws H, z ∈ H ∨ NoFl z := by
  intro z hz
  cases buf with
  | none => exact .inl hz
  | some b =>
    obtain ⟨k, cap, sp⟩ := b
    rcases List.mem_cons.1 hz with h | h
    · right
      subst h
      intro l T fz he x hx
      cases he
      rcases List.mem_append.1 hx with h | h
      · exact hws x h
      · exact hsp x h
    · exact .inl h
theorem slnBuf {e : TypeId} {s : Nat} {buf : Buf} {n : Nat} {ws : List Value} {H : Heap} (h : bufOk s buf n ws) : SlN s (bufH e buf ws H) (bufV buf n) n ws := by
  cases buf with
  | none =>
    obtain ⟨rfl, rfl⟩ := h
    exact SlN.nil
  | some b =>
    obtain ⟨k, cap, sp⟩ := b
    obtain ⟨h1, h2, h3, h4⟩ := h
    exact ⟨h3, some ⟨k, 0, none⟩, cap, rfl, h1, fun _ => ⟨k, 0, _, e, (0, 0), rfl, List.mem_cons_self, by rw [List.drop_zero, ← h3, List.take_left]⟩⟩
theorem IsPart.mono {G G' : Heap} {l : Int} {xs : List Nat} {u : List Value} (h : IsPart G l xs u) (hG : ∀ z ∈ G, z ∈ G') : IsPart G' l xs u := let ⟨a, c, h1, h2, h3⟩ := h; ⟨a, c, h1, h2, h3.mono hG⟩
theorem IsPart.skip {G G' : Heap} {l : Int} {xs : List Nat} {u : List Value} (h : IsPart G l xs u) (hG : ∀ z ∈ G, z ∈ G' ∨ NoFl z) : IsPart G' l xs u := let ⟨a, c, h1, h2, h3⟩ := h; ⟨a, c, h1, h2, fs_skip h3 hG⟩
/-- The list of the parts. -/
def IsParts (G : Heap) (v : Value) (l : Int) (f : List Nat) (e : List Int) (n : Nat) : Prop := ∃ cs, SlN 7 G v n cs ∧ ∀ i, i < n → IsPart G l (cutN f (en e i) (en e (i + 1))) ((cs.drop (i * 7)).take 7)
set_option maxHeartbeats 8000000 in
theorem parts4 (l s : Int) (af : Option Addr) (cf : Nat) (ve vee vk : Value) (f : List Nat) (e : List Int) (S : Nat) (H : Heap) (hf : FS H (.slice af f.length cf) f) (he : IS H ve e) (hok : MpOk e S f.length) (hb : f.length < 2 ^ 40) (hbe : e.length ≤ 2000) :
    Does Try.prog 20 [.agg ⟨[.int .i64 4, .int .i64 l, .int .i64 s, .slice af f.length cf, ve, vee, vk]⟩] H fun w H' => IsParts H' w l f e e.length ∧ ∃ ex, H' = ex ++ H := by
  refine fn_enter 18 Try.func20 fun W => ?_
  repeat' first
    | (refine op_call ((numParts4 l s _ _ _ _ e _ (he.mono exs)).mono ?_); rintro _ _ ⟨rfl, rfl⟩)
    | (first | refine tc_seq ?_ | refine tc_region ?_ | refine at_seq_normal ?_ | refine tl_nil ?_ | refine tl_cons ?_ | refine op_move ?_ | refine op_assign ?_ | refine op_load ?_ | refine op_load_agg ?_ | refine op_icmp ?_ | refine op_iarith ?_ | (refine op_box ?_; intro _) | (refine op_buildSlice ?_; intro _) | refine op_loadK rfl ?_ | refine op_load_aggK rfl ?_ | refine tc_cond_t ?_ | refine tc_cond_f ?_ | refine tc_cond (fun _ => ?_) (fun _ => ?_) | refine tc_block ?_ | refine tc_skip ?_ | refine tc_ret ?_ | refine tc_exit ?_ | refine at_seq_ret ?_ | refine at_seq_exit ?_ | refine at_block_normal ?_ | refine at_block_ret ?_ | refine at_block_exit_self ?_ | refine at_block_exit_ne ?_ | refine at_loop_ret ?_ | refine at_loop_exit ?_ | fail)
    | fail
  rename_i k1
  refine tc_loopK [(1, _), (2, _), (6, _)] (by repeat (first | exact trivial | refine ⟨rfl, ?_⟩)) (fun g : Nat × Buf × List Value × Heap => [(7, .int .i64 (g.1 : Int)), (3, bufV g.2.1 g.1)]) (fun g => bufH 27 g.2.1 g.2.2.1 (g.2.2.2 ++ (k1, _) :: H))
    (fun g => g.1 ≤ e.length ∧ bufOk 7 g.2.1 g.1 g.2.2.1 ∧ spP NF g.2.1 ∧ (∀ u ∈ g.2.2.1, NF u) ∧ ∀ i, i < g.1 → IsPart (g.2.2.2 ++ (k1, Obj.cells ⟨[.int .i64 4, .int .i64 l, .int .i64 s, .slice af f.length cf, ve, vee, vk]⟩ 27 (0, 0)) :: H) l (cutN f (en e i) (en e (i + 1))) ((g.2.2.1.drop (i * 7)).take 7)) (fun g => e.length - g.1) (0, none, [], []) ⟨Nat.zero_le _, ⟨rfl, rfl⟩, trivial, (fun u hu => by cases hu), fun i hi => by simp only at hi; omega⟩ ⟨rfl, rfl, trivial⟩ (List.Sublist.refl _) ?_
  rintro ⟨j, buf, ws, pre⟩ ⟨hj, hok2, hsp, hnu, hpt⟩
  simp only at hj hok2 hsp hnu hpt ⊢
  by_cases hlt : j < e.length
  · have hlb : icmp .lss (j : Int) (e.length : Int) = true := by rw [lss_nat]; simpa using hlt
    have hmb : (k1, Obj.cells ⟨[.int .i64 4, .int .i64 l, .int .i64 s, .slice af f.length cf, ve, vee, vk]⟩ 27 (0, 0)) ∈ bufH 27 buf ws (pre ++ (k1, Obj.cells ⟨[.int .i64 4, .int .i64 l, .int .i64 s, .slice af f.length cf, ve, vee, vk]⟩ 27 (0, 0)) :: H) := (bufH_sub _ _ _ _).subset (by simp)
    have hin : ∀ z ∈ H, z ∈ bufH 27 buf ws (pre ++ (k1, Obj.cells ⟨[.int .i64 4, .int .i64 l, .int .i64 s, .slice af f.length cf, ve, vee, vk]⟩ 27 (0, 0)) :: H) := fun z hz => (bufH_sub _ _ _ _).subset (by simp [hz])
    repeat' first
      | (refine op_load_agg ?_ (hm := hmb))
      | (refine op_call ((part4 l s af cf ve vee vk f e j S _ (hf.mono hin) (he.mono hin) hok hlt hb (by omega)).mono ?_); rintro w _ ⟨u, rfl, ⟨ua, uc, rfl, hua, huf⟩, ex, rfl⟩)
      | (first | refine tc_seq ?_ | refine tc_region ?_ | refine at_seq_normal ?_ | refine tl_nil ?_ | refine tl_cons ?_ | refine op_move ?_ | refine op_assign ?_ | refine op_load ?_ | refine op_load_agg ?_ | refine op_icmp ?_ | refine op_iarith ?_ | (refine op_box ?_; intro _) | (refine op_buildSlice ?_; intro _) | refine op_loadK rfl ?_ | refine op_load_aggK rfl ?_ | refine tc_cond_t ?_ | refine tc_cond_f ?_ | refine tc_cond (fun _ => ?_) (fun _ => ?_) | refine tc_block ?_ | refine tc_skip ?_ | refine tc_ret ?_ | refine tc_exit ?_ | refine at_seq_ret ?_ | refine at_seq_exit ?_ | refine at_block_normal ?_ | refine at_block_ret ?_ | refine at_block_exit_self ?_ | refine at_block_exit_ne ?_ | refine at_loop_ret ?_ | refine at_loop_exit ?_ | fail)
      | fail
    rename_i kn
    refine op_perm (bufH_app 27 buf ws ((kn, _) :: ex) (pre ++ (k1, Obj.cells ⟨[.int .i64 4, .int .i64 l, .int .i64 s, .slice af f.length cf, ve, vee, vk]⟩ 27 (0, 0)) :: H)) ?_
    refine op_appendP NF buf j ws [.int .i64 1, .int .i64 l, .int .i64 0, .slice ua (cutN f (en e j) (en e (j + 1))).length uc, .slice none 0 0, .slice none 0 0, .slice none 0 0] (m := 1) (s := 7) hok2 hsp (by intro u hu n he; subst he; simp at hu) (fun buf' hok' hsp' => ?_) (by exact rfl) (by exact rfl) (List.Sublist.refl _) ((bufH_sub _ _ _ _).subset List.mem_cons_self) rfl rfl (by intro u hu; simp only [List.mem_cons, List.not_mem_nil, or_false] at hu; rcases hu with rfl | rfl | rfl | rfl | rfl | rfl | rfl <;> rfl) (by decide) (by simp only [maxLen]; omega) (by omega)
    repeat' first
      | (first | refine tc_seq ?_ | refine tc_region ?_ | refine at_seq_normal ?_ | refine tl_nil ?_ | refine tl_cons ?_ | refine op_move ?_ | refine op_assign ?_ | refine op_load ?_ | refine op_load_agg ?_ | refine op_icmp ?_ | refine op_iarith ?_ | (refine op_box ?_; intro _) | (refine op_buildSlice ?_; intro _) | refine op_loadK rfl ?_ | refine op_load_aggK rfl ?_ | refine tc_cond_t ?_ | refine tc_cond_f ?_ | refine tc_cond (fun _ => ?_) (fun _ => ?_) | refine tc_block ?_ | refine tc_skip ?_ | refine tc_ret ?_ | refine tc_exit ?_ | refine at_seq_ret ?_ | refine at_seq_exit ?_ | refine at_block_normal ?_ | refine at_block_ret ?_ | refine at_block_exit_self ?_ | refine at_block_exit_ne ?_ | refine at_loop_ret ?_ | refine at_loop_exit ?_ | fail)
      | fail
    have hwl : ws.length = j * 7 := by
      have h := hok'
      cases buf' with
      | none => exact absurd h.1 (by omega)
      | some b => have h3 := h.2.2.1; rw [List.length_append] at h3; simp only [List.length_cons, List.length_nil] at h3; omega
    refine at_loopK (j + 1, buf', ws ++ [.int .i64 1, .int .i64 l, .int .i64 0, .slice ua (cutN f (en e j) (en e (j + 1))).length uc, .slice none 0 0, .slice none 0 0, .slice none 0 0], (kn, _) :: (ex ++ pre)) ⟨hlt, hok', hsp', ?_, ?_⟩ (by simp only; omega) ⟨next_nat (by omega), rfl, trivial⟩ (by repeat (first | exact trivial | refine ⟨rfl, ?_⟩)) (by simp only [List.cons_append, List.append_assoc]; exact List.Sublist.refl _)
    · intro u hu
      rcases List.mem_append.1 hu with h | h
      · exact hnu u h
      · intro n he
        subst he
        simp at h
    · intro i hi
      simp only at hi ⊢
      rcases Nat.lt_or_ge i j with h | h
      · have e0 : ((ws ++ ([.int .i64 1, .int .i64 l, .int .i64 0, .slice ua (cutN f (en e j) (en e (j + 1))).length uc, .slice none 0 0, .slice none 0 0, .slice none 0 0] : List Value)).drop (i * 7)).take 7 = (ws.drop (i * 7)).take 7 := by
          rw [List.drop_append_of_le_length (by omega), List.take_append_of_le_length (by rw [List.length_drop]; omega)]
        rw [e0]
        exact (hpt i h).mono fun z hz => by
          simp only [List.cons_append, List.append_assoc]
          exact List.mem_cons_of_mem _ (List.mem_append_right _ hz)
      · obtain rfl : j = i := by omega
        have e0 : ((ws ++ ([.int .i64 1, .int .i64 l, .int .i64 0, .slice ua (cutN f (en e j) (en e (j + 1))).length uc, .slice none 0 0, .slice none 0 0, .slice none 0 0] : List Value)).drop (j * 7)).take 7 = ([.int .i64 1, .int .i64 l, .int .i64 0, .slice ua (cutN f (en e j) (en e (j + 1))).length uc, .slice none 0 0, .slice none 0 0, .slice none 0 0] : List Value) := by
          rw [← hwl, List.drop_left]; rfl
        rw [e0]
        refine IsPart.skip ⟨ua, uc, rfl, hua, huf⟩ fun z hz => ?_
        simp only [List.cons_append, List.append_assoc]
        rcases List.mem_append.1 hz with h | h
        · exact .inl (List.mem_cons_of_mem _ (List.mem_append_left _ h))
        · rcases bufH_skipF hsp hnu z h with h | h
          · exact .inl (List.mem_cons_of_mem _ (List.mem_append_right _ h))
          · exact .inr h
  · have hlb : icmp .lss (j : Int) (e.length : Int) = false := by rw [lss_nat]; simpa using hlt
    obtain rfl : j = e.length := by omega
    have hsl := slnBuf (e := 27) (H := pre ++ (k1, Obj.cells ⟨[.int .i64 4, .int .i64 l, .int .i64 s, .slice af f.length cf, ve, vee, vk]⟩ 27 (0, 0)) :: H) hok2
    repeat' first
      | refine tc_seq ?_ | refine tc_region ?_ | refine at_seq_normal ?_ | refine tl_nil ?_ | refine tl_cons ?_ | refine op_move ?_ | refine op_assign ?_ | refine op_load ?_ | refine op_load_agg ?_ | refine op_icmp ?_
      | refine op_iarith ?_ | (refine op_box ?_; intro _) | (refine op_buildSlice ?_; intro _) | refine op_loadK rfl ?_ | refine op_load_aggK rfl ?_ | refine tc_cond_t ?_ | refine tc_cond_f ?_ | refine tc_cond (fun _ => ?_) (fun _ => ?_) | refine tc_block ?_ | refine tc_skip ?_
      | refine tc_ret ?_ | refine tc_exit ?_ | refine at_seq_ret ?_ | refine at_seq_exit ?_ | refine at_block_normal ?_ | refine at_block_ret ?_ | refine at_block_exit_self ?_ | refine at_block_exit_ne ?_ | refine at_loop_ret ?_ | refine at_loop_exit ?_
    refine ret_tmp (hG := List.Sublist.refl _) (hk := ⟨⟨ws, hsl, fun i hi => (hpt i hi).mono fun z hz => (bufH_sub _ _ _ _).subset hz⟩, ?_⟩)
    cases buf with
    | none => exact ⟨pre ++ [_], by simp only [List.append_assoc]; rfl⟩
    | some b => exact ⟨_ :: (pre ++ [_]), by simp only [List.append_assoc, List.cons_append]; rfl⟩
set_option maxHeartbeats 8000000 in
theorem gPlaces4 (l s : Int) (af : Option Addr) (cf : Nat) (ve vee vk : Value) (f : List Nat) (e : List Int) (S : Nat) (H : Heap) (hf : FS H (.slice af f.length cf) f) (he : IS H ve e) (hok : MpOk e S f.length) (hb : f.length < 2 ^ 40) (hbe : e.length ≤ 2000) :
    Does Try.prog 9 [.agg ⟨[.int .i64 4, .int .i64 l, .int .i64 s, .slice af f.length cf, ve, vee, vk]⟩] H fun w H' => SN H' w (mpAll f e e.length) ∧ ∃ ex, H' = ex ++ H := by
  have c4 : icmp .neq 4 4 = false := rfl
  refine fn_enter 34 Try.func9 fun W => ?_
  repeat' first
    | (refine op_call ((parts4 l s af cf ve vee vk f e S _ (hf.mono exs) (he.mono exs) hok hb hbe).mono ?_); rintro w _ ⟨⟨cs, hsl, hpt⟩, ex, rfl⟩; obtain ⟨ap, cp, rfl, _⟩ := hsl.val)
    | (first | refine tc_seq ?_ | refine tc_region ?_ | refine at_seq_normal ?_ | refine tl_nil ?_ | refine tl_cons ?_ | refine tl_cons_none ?_ | refine op_move ?_ | refine op_assign ?_ | refine op_fieldAddr ?_ | refine op_load ?_ | refine op_load_agg ?_ | refine op_indexC ?_ | refine op_indexAddr1 ?_ | refine op_indexAddr ?_ | refine op_icmp ?_ | refine op_iarith ?_ | refine op_len_slice ?_ | (refine op_alloc ?_; intro _) | (refine op_box ?_; intro _) | (refine op_buildSlice ?_; intro _) | refine op_store0 ?_ | refine op_store1 ?_ | refine op_store2 ?_ | refine op_store3 ?_ | refine op_store4 ?_ | refine op_store5 ?_ | refine op_storeK rfl ?_ | refine op_loadK rfl ?_ | refine op_load_aggK rfl ?_ | refine tc_cond_t ?_ | refine tc_cond_f ?_ | refine tc_block ?_ | refine tc_skip ?_ | refine tc_ret ?_ | refine tc_exit ?_ | refine at_seq_ret ?_ | refine at_seq_exit ?_ | refine at_block_normal ?_ | refine at_block_ret ?_ | refine at_block_exit_self ?_ | refine at_block_exit_ne ?_ | refine at_loop_ret ?_ | refine at_loop_exit ?_ | fail)
    | fail
  rename_i k1 hcp
  obtain ⟨H0, hH0⟩ : ∃ H0, H0 = ex ++ (k1, Obj.cells ⟨[.int .i64 4, .int .i64 l, .int .i64 s, .slice af f.length cf, ve, vee, vk]⟩ 27 (0, 0)) :: H := ⟨_, rfl⟩
  rw [← hH0] at hsl hpt ⊢
  refine tc_loopK [(2, _), (16, _), (17, _)] (by repeat (first | exact trivial | refine ⟨rfl, ?_⟩)) (fun g : Nat × Buf × List Value => [(18, .int .i64 (g.1 : Int)), (3, bufV g.2.1 g.1)]) (fun g => bufH 22 g.2.1 g.2.2 H0)
    (fun g => g.1 ≤ e.length ∧ bufOk 1 g.2.1 g.1 g.2.2 ∧ All2 (RN H0) g.2.2 (mpAll f e g.1)) (fun g => e.length - g.1) (0, none, []) ⟨Nat.zero_le _, ⟨rfl, rfl⟩, trivial⟩ ⟨rfl, rfl, trivial⟩ (List.Sublist.refl _) ?_
  rintro ⟨j, buf, ws⟩ ⟨hj, hok2, hws⟩
  simp only at hj hok2 hws ⊢
  by_cases hlt : j < e.length
  · have hlb : icmp .lss (j : Int) (e.length : Int) = true := by rw [lss_nat]; simpa using hlt
    obtain ⟨kq, oq, lq, Tq, zq, cq, hvq, hmq, hgq⟩ := hsl.at hlt
    injection hvq with e1 _ e3
    subst e1
    subst e3
    obtain ⟨ua, uc, hu, hua, huf⟩ := hpt j hlt
    rw [hu] at hgq
    have hmq2 : (kq, Obj.cells ⟨lq⟩ Tq zq) ∈ bufH 22 buf ws H0 := (bufH_sub _ _ _ _).subset hmq
    have hle := hok.le (j + 1) hlt
    have hcl := cutN_len (f := f) (a := en e j) hle
    have hst := hok.step j hlt
    by_cases hq : en e (j + 1) = en e j
    · have hA : mpAt f e j = none := by unfold mpAt; rw [if_pos hq]
      have c1 : icmp .eql ((cutN f (en e j) (en e (j + 1))).length : Int) 0 = true := by simp only [icmp, beq_iff_eq]; omega
      repeat' first
        | (refine op_indexAddr (j := j) ?_ (hj := hlt))
        | (refine op_load_agg (k := kq) ?_ (hm := hmq2) (hv := hgq))
        | refine op_storeK rfl ?_
        | (first | refine tc_seq ?_ | refine tc_region ?_ | refine at_seq_normal ?_ | refine tl_nil ?_ | refine tl_cons ?_ | refine tl_cons_none ?_ | refine op_move ?_ | refine op_assign ?_ | refine op_fieldAddr ?_ | refine op_load ?_ | refine op_load_agg ?_ | refine op_indexC ?_ | refine op_indexAddr1 ?_ | refine op_indexAddr ?_ | refine op_icmp ?_ | refine op_iarith ?_ | refine op_len_slice ?_ | (refine op_alloc ?_; intro _) | (refine op_box ?_; intro _) | (refine op_buildSlice ?_; intro _) | refine op_store0 ?_ | refine op_store1 ?_ | refine op_store2 ?_ | refine op_store3 ?_ | refine op_store4 ?_ | refine op_store5 ?_ | refine op_storeK rfl ?_ | refine op_loadK rfl ?_ | refine op_load_aggK rfl ?_ | refine tc_cond_t ?_ | refine tc_cond_f ?_ | refine tc_block ?_ | refine tc_skip ?_ | refine tc_ret ?_ | refine tc_exit ?_ | refine at_seq_ret ?_ | refine at_seq_exit ?_ | refine at_block_normal ?_ | refine at_block_ret ?_ | refine at_block_exit_self ?_ | refine at_block_exit_ne ?_ | refine at_loop_ret ?_ | refine at_loop_exit ?_ | fail)
        | fail
      refine op_append (H' := H0) buf j ws [.slice none 0 0] (m := 1) hok2 (fun buf' hok' => ?_) (by exact rfl) (by exact rfl) (List.Sublist.cons _ (List.Sublist.cons _ (List.Sublist.refl _))) List.mem_cons_self rfl rfl (by simp [Value.oneCell']) (by decide) (by simp only [maxLen]; omega) (by omega)
      repeat' first
        | (first | refine tc_seq ?_ | refine tc_region ?_ | refine at_seq_normal ?_ | refine tl_nil ?_ | refine tl_cons ?_ | refine tl_cons_none ?_ | refine op_move ?_ | refine op_assign ?_ | refine op_fieldAddr ?_ | refine op_load ?_ | refine op_load_agg ?_ | refine op_indexC ?_ | refine op_indexAddr1 ?_ | refine op_indexAddr ?_ | refine op_icmp ?_ | refine op_iarith ?_ | refine op_len_slice ?_ | (refine op_alloc ?_; intro _) | (refine op_box ?_; intro _) | (refine op_buildSlice ?_; intro _) | refine op_store0 ?_ | refine op_store1 ?_ | refine op_store2 ?_ | refine op_store3 ?_ | refine op_store4 ?_ | refine op_store5 ?_ | refine op_storeK rfl ?_ | refine op_loadK rfl ?_ | refine op_load_aggK rfl ?_ | refine tc_cond_t ?_ | refine tc_cond_f ?_ | refine tc_block ?_ | refine tc_skip ?_ | refine tc_ret ?_ | refine tc_exit ?_ | refine at_seq_ret ?_ | refine at_seq_exit ?_ | refine at_block_normal ?_ | refine at_block_ret ?_ | refine at_block_exit_self ?_ | refine at_block_exit_ne ?_ | refine at_loop_ret ?_ | refine at_loop_exit ?_ | fail)
        | fail
      refine at_loopK (j + 1, buf', ws ++ [_]) ⟨hlt, hok', ?_⟩ (by simp only; omega) ⟨next_nat (by omega), rfl, trivial⟩ (by repeat (first | exact trivial | refine ⟨rfl, ?_⟩)) (List.Sublist.refl _)
      simp only
      rw [mpAll_succ, hA]
      exact All2.snoc hws rfl
    · have hA : mpAt f e j = some (cutN f (en e j) (en e (j + 1))) := by unfold mpAt; rw [if_neg hq]
      have c1 : icmp .eql ((cutN f (en e j) (en e (j + 1))).length : Int) 0 = false := by simp only [icmp, beq_eq_false_iff_ne]; omega
      repeat' first
        | (refine op_indexAddr (j := j) ?_ (hj := hlt))
        | (refine op_load_agg (k := kq) ?_ (hm := hmq2) (hv := hgq))
        | refine op_storeK rfl ?_
        | (first | refine tc_seq ?_ | refine tc_region ?_ | refine at_seq_normal ?_ | refine tl_nil ?_ | refine tl_cons ?_ | refine tl_cons_none ?_ | refine op_move ?_ | refine op_assign ?_ | refine op_fieldAddr ?_ | refine op_load ?_ | refine op_load_agg ?_ | refine op_indexC ?_ | refine op_indexAddr1 ?_ | refine op_indexAddr ?_ | refine op_icmp ?_ | refine op_iarith ?_ | refine op_len_slice ?_ | (refine op_alloc ?_; intro _) | (refine op_box ?_; intro _) | (refine op_buildSlice ?_; intro _) | refine op_store0 ?_ | refine op_store1 ?_ | refine op_store2 ?_ | refine op_store3 ?_ | refine op_store4 ?_ | refine op_store5 ?_ | refine op_storeK rfl ?_ | refine op_loadK rfl ?_ | refine op_load_aggK rfl ?_ | refine tc_cond_t ?_ | refine tc_cond_f ?_ | refine tc_block ?_ | refine tc_skip ?_ | refine tc_ret ?_ | refine tc_exit ?_ | refine at_seq_ret ?_ | refine at_seq_exit ?_ | refine at_block_normal ?_ | refine at_block_ret ?_ | refine at_block_exit_self ?_ | refine at_block_exit_ne ?_ | refine at_loop_ret ?_ | refine at_loop_exit ?_ | fail)
        | fail
      refine op_append (H' := H0) buf j ws [.slice ua (cutN f (en e j) (en e (j + 1))).length uc] (m := 1) hok2 (fun buf' hok' => ?_) (by exact rfl) (by exact rfl) (List.Sublist.cons _ (List.Sublist.cons _ (List.Sublist.refl _))) List.mem_cons_self rfl rfl (by simp [Value.oneCell']) (by decide) (by simp only [maxLen]; omega) (by omega)
      repeat' first
        | (first | refine tc_seq ?_ | refine tc_region ?_ | refine at_seq_normal ?_ | refine tl_nil ?_ | refine tl_cons ?_ | refine tl_cons_none ?_ | refine op_move ?_ | refine op_assign ?_ | refine op_fieldAddr ?_ | refine op_load ?_ | refine op_load_agg ?_ | refine op_indexC ?_ | refine op_indexAddr1 ?_ | refine op_indexAddr ?_ | refine op_icmp ?_ | refine op_iarith ?_ | refine op_len_slice ?_ | (refine op_alloc ?_; intro _) | (refine op_box ?_; intro _) | (refine op_buildSlice ?_; intro _) | refine op_store0 ?_ | refine op_store1 ?_ | refine op_store2 ?_ | refine op_store3 ?_ | refine op_store4 ?_ | refine op_store5 ?_ | refine op_storeK rfl ?_ | refine op_loadK rfl ?_ | refine op_load_aggK rfl ?_ | refine tc_cond_t ?_ | refine tc_cond_f ?_ | refine tc_block ?_ | refine tc_skip ?_ | refine tc_ret ?_ | refine tc_exit ?_ | refine at_seq_ret ?_ | refine at_seq_exit ?_ | refine at_block_normal ?_ | refine at_block_ret ?_ | refine at_block_exit_self ?_ | refine at_block_exit_ne ?_ | refine at_loop_ret ?_ | refine at_loop_exit ?_ | fail)
        | fail
      refine at_loopK (j + 1, buf', ws ++ [_]) ⟨hlt, hok', ?_⟩ (by simp only; omega) ⟨next_nat (by omega), rfl, trivial⟩ (by repeat (first | exact trivial | refine ⟨rfl, ?_⟩)) (List.Sublist.refl _)
      simp only
      rw [mpAll_succ, hA]
      exact All2.snoc hws ⟨ua, uc, rfl, hua, huf⟩
  · have hlb : icmp .lss (j : Int) (e.length : Int) = false := by rw [lss_nat]; simpa using hlt
    obtain rfl : j = e.length := by omega
    have hs2 := sl_buf (e := 22) (H := H0) hok2
    repeat' first
      | refine tc_seq ?_ | refine tc_region ?_ | refine at_seq_normal ?_ | refine tl_nil ?_ | refine tl_cons ?_ | refine tl_cons_none ?_ | refine op_move ?_ | refine op_assign ?_ | refine op_fieldAddr ?_ | refine op_load ?_
      | refine op_load_agg ?_ | refine op_indexC ?_ | refine op_indexAddr1 ?_ | refine op_indexAddr ?_ | refine op_icmp ?_ | refine op_iarith ?_ | refine op_len_slice ?_ | (refine op_alloc ?_; intro _) | (refine op_box ?_; intro _) | (refine op_buildSlice ?_; intro _)
      | refine op_store0 ?_ | refine op_store1 ?_ | refine op_store2 ?_ | refine op_store3 ?_ | refine op_store4 ?_ | refine op_store5 ?_ | refine op_storeK rfl ?_ | refine op_loadK rfl ?_ | refine op_load_aggK rfl ?_ | refine tc_cond_t ?_
      | refine tc_cond_f ?_ | refine tc_cond (fun _ => ?_) (fun _ => ?_) | refine tc_block ?_ | refine tc_skip ?_ | refine tc_ret ?_ | refine tc_exit ?_ | refine at_seq_ret ?_ | refine at_seq_exit ?_ | refine at_block_normal ?_ | refine at_block_ret ?_
      | refine at_block_exit_self ?_ | refine at_block_exit_ne ?_ | refine at_loop_ret ?_ | refine at_loop_exit ?_
    refine ret_tmp (hG := List.Sublist.refl _) (hk := ⟨⟨ws, hs2, hws.mono fun _ _ h => h.mono fun z hz => (bufH_sub _ _ _ _).subset hz⟩, ?_⟩)
    rw [hH0]
    cases buf with
    | none => exact ⟨ex ++ [_], by simp only [List.append_assoc]; rfl⟩
    | some b => exact ⟨_ :: (ex ++ [_]), by simp only [List.append_assoc, List.cons_append]; rfl⟩
end Go.Proofs.Ytgjbnfkinckpmaa.Gm
