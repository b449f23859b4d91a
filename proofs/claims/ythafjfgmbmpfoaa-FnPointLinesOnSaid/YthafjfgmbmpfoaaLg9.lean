/-
  Loops that keep what is known; slices of any element size; slice expressions, make, copy, division, bits, in the small logic. No conditions.
-/
import Derived.Test.YthafjfgmbmpfoaaLg8
import Derived.Laws.Slices
import Derived.Laws.MakeOwn
import Derived.Laws.CopyRow
import Derived.Laws.Cover3
set_option linter.unusedVariables false
set_option linter.unusedSimpArgs false
namespace Go.Lg
open Ieee

/-! ### Loops -/
theorem Env.get_app {V E E' : Env} (hV : Incl E' V) (hK : ∀ t v, Env.get E t = some v → Env.get E' t = some v) : ∀ t v, Env.get (V ++ E) t = some v → Env.get E' t = some v := by
  induction V with
  | nil => exact hK
  | cons p V ih =>
    obtain ⟨d, u⟩ := p
    intro t v hv
    by_cases e : d = t
    · subst e
      rw [List.cons_append, Env.get_cons_self] at hv; cases hv; exact hV.1
    · rw [List.cons_append, Env.get_cons_ne e] at hv; exact ih hV.2 t v hv

section
variable {P : Program} {W : World} {n : Nat} {ds : List Deferred} {Q : Exit → Act → World → Prop} {E : Env} {G : Heap}

/-- A loop: E stays known, besides the slots V. -/
theorem tc_loopK {ι : Type} {c : Code} {E0 : Env} (E : Env) (hK : Incl E0 E) (V : ι → Env) (J : ι → Heap) (ok : ι → Prop) (μ : ι → Nat) (i0 : ι) (h0 : ok i0)
    (hE : Incl E0 (V i0)) (hG : List.Sublist (J i0) G)
    (round : ∀ i, ok i → TC P W n ds c (QLoop W n ds (fun i => V i ++ E) J ok μ (μ i) Q) (V i ++ E) (J i)) : TC P W n ds (.loop c) Q E0 G :=
  tc_loop (fun i => V i ++ E) J ok μ i0 h0 (Env.get_app hE hK.get) hG round

/-- The same, memory as it is. -/
theorem tc_loopH {ι : Type} {c : Code} {E0 : Env} (E : Env) (hK : Incl E0 E) (V : ι → Env) (ok : ι → Prop) (μ : ι → Nat) (i0 : ι) (h0 : ok i0)
    (hE : Incl E0 (V i0))
    (round : ∀ i, ok i → TC P W n ds c (QLoop W n ds (fun i => V i ++ E) (fun _ => G) ok μ (μ i) Q) (V i ++ E) G) : TC P W n ds (.loop c) Q E0 G :=
  tc_loopK E hK V (fun _ => G) ok μ i0 h0 hE (List.Sublist.refl _) round

theorem at_loopK {ι : Type} {V : ι → Env} {J : ι → Heap} {ok : ι → Prop} {μ : ι → Nat} {m : Nat} {E' : Env} {G' : Heap} (j : ι) (hj : ok j) (hm : μ j < m)
    (hV : Incl E' (V j)) (hK : Incl E' E) (hG : List.Sublist (J j) G') : At W n ds (QLoop W n ds (fun i => V i ++ E) J ok μ m Q) .normal E' G' :=
  at_loop_normal (I := fun i => V i ++ E) j hj hm (Env.get_app hV hK.get) hG

/-- A guard that was itself not asked. -/
theorem tl_guard_undef {ops : List Oper} {d op ty pos af j b dj} {rest : List Oper} (h : TL P W n ds ops Q rest ((d, undef) :: E) G)
    (hj : slotOf ops j = some dj := by exact rfl) (hb : Env.get E dj = some undef := by exact rfl) (hd : d < n := by decide) :
    TL P W n ds ops Q (⟨some d, op, ty, pos, af, some (j, b)⟩ :: rest) E G := by
  refine ⟨fun a w ho hs => ?_⟩
  refine wpList_step fun K hK => ?_
  have hw : Region.wanted ⟨some d, op, ty, pos, af, some (j, b)⟩ (yielded ops.toArray a.tmps) = false := by
    rw [← slotOf_eq] at hj; simp only [Region.wanted, yielded, hj]; simp [ho.get _ _ hb, undef]
  rw [if_neg (by simp [hw])]
  exact hK _ _ (h.run _ _ (ho.put hd undef) hs)

theorem tc_prune {c E' } (hE : Incl E E') (h : TC P W n ds c Q E' G) : TC P W n ds c Q E G := tc_weak hE.get (List.Sublist.refl _) h
theorem tl_perm {ops l G'} (hG : List.Perm G' G) (h : TL P W n ds ops Q l E G') : TL P W n ds ops Q l E G := ⟨fun a w ho hs => h.run a w ho (hs.perm hG)⟩
theorem op_perm {o : Oper} {K : Value → Heap → Prop} {G'} (hG : List.Perm G' G) (h : OpT P W n ds o E G' K) : OpT P W n ds o E G K := ⟨fun a w next Q ho hs hn => h.run a w next Q ho (hs.perm hG) hn⟩
theorem tl_mono {ops l G'} (hG : List.Sublist G' G) (h : TL P W n ds ops Q l E G') : TL P W n ds ops Q l E G := ⟨fun a w ho hs => h.run a w ho (hs.sub hG)⟩
theorem bufH_swap (e : TypeId) (buf : Buf) (ws : List Value) (x : Nat × Obj) (H : Heap) : List.Perm (bufH e buf ws (x :: H)) (x :: bufH e buf ws H) := by
  cases buf with
  | none => exact List.Perm.refl _
  | some b => exact List.Perm.swap _ _ _
theorem bufH_app (e : TypeId) (buf : Buf) (ws : List Value) (A H : Heap) : List.Perm (bufH e buf ws (A ++ H)) (A ++ bufH e buf ws H) := by
  cases buf with
  | none => exact List.Perm.refl _
  | some b => exact List.perm_middle.symm
theorem tc_sub {c G'} (hG : List.Sublist G' G) (h : TC P W n ds c Q E G') : TC P W n ds c Q E G := tc_weak (fun _ _ h => h) hG h
end

/-! ### Slices of elements of several cells -/
/-- The slice v of n elements of s cells each reads as these cells. -/
def SlN (s : Nat) (G : Heap) (v : Value) (n : Nat) (cs : List Value) : Prop :=
  cs.length = n * s ∧ ∃ a cap, v = .slice a n cap ∧ n ≤ cap ∧ (n ≠ 0 → ∃ k off l T fz, a = some ⟨k, off, none⟩ ∧ (k, Obj.cells ⟨l⟩ T fz) ∈ G ∧ (l.drop off).take (n * s) = cs)

theorem SlN.mono {s G G' v n cs} (h : SlN s G v n cs) (hG : ∀ e ∈ G, e ∈ G') : SlN s G' v n cs := by
  obtain ⟨h0, a, cap, h1, hc, h2⟩ := h
  exact ⟨h0, a, cap, h1, hc, fun hn => let ⟨k, off, l, T, fz, h3, h4, h5⟩ := h2 hn; ⟨k, off, l, T, fz, h3, hG _ h4, h5⟩⟩
theorem Sl.toN {G v ws} (h : Sl G v ws) : SlN 1 G v ws.length ws := by
  obtain ⟨a, cap, h1, hc, h2⟩ := h
  exact ⟨by simp, a, cap, h1, hc, fun hn => let ⟨k, off, l, T, fz, h3, h4, h5⟩ := h2 (fun e => hn (by rw [e]; rfl)); ⟨k, off, l, T, fz, h3, h4, by rw [Nat.mul_one]; exact h5⟩⟩
theorem SlN.toSl {G v n ws} (h : SlN 1 G v n ws) : Sl G v ws ∧ ws.length = n := by
  obtain ⟨h0, a, cap, h1, hc, h2⟩ := h
  rw [Nat.mul_one] at h0
  subst h0
  refine ⟨⟨a, cap, h1, hc, fun hn => ?_⟩, rfl⟩
  obtain ⟨k, off, l, T, fz, h3, h4, h5⟩ := h2 (fun e => hn (List.eq_nil_of_length_eq_zero e))
  exact ⟨k, off, l, T, fz, h3, h4, by rw [Nat.mul_one] at h5; exact h5⟩
theorem FS.toN {G v xs} (h : FS G v xs) : SlN 1 G v xs.length (xs.map fl) := by have := Sl.toN h; simpa using this
theorem SlN.toFS {G v n xs} (h : SlN 1 G v n (xs.map fl)) : FS G v xs := (SlN.toSl h).1
theorem SlN.val {s G v n cs} (h : SlN s G v n cs) : ∃ a cap, v = .slice a n cap ∧ n ≤ cap := by obtain ⟨_, a, cap, h1, h2, _⟩ := h; exact ⟨a, cap, h1, h2⟩
theorem SlN.nil {s G} : SlN s G (.slice none 0 0) 0 [] := ⟨by simp, none, 0, rfl, Nat.le_refl _, fun h => (h rfl).elim⟩

theorem SlN.at {s G v m cs} (hs : SlN s G v m cs) {j : Nat} (hj : j < m) :
    ∃ k off l T fz cap, v = .slice (some ⟨k, off, none⟩) m cap ∧ (k, Obj.cells ⟨l⟩ T fz) ∈ G ∧ (l.drop (off + j * s)).take s = (cs.drop (j * s)).take s := by
  obtain ⟨h0, a, cap, rfl, hc, h2⟩ := hs
  obtain ⟨k, off, l, T, fz, rfl, h4, h5⟩ := h2 (by omega)
  refine ⟨k, off, l, T, fz, cap, rfl, h4, ?_⟩
  rw [← h5, List.drop_take, List.drop_drop, List.take_take]
  congr 1
  have : j * s + s ≤ m * s := by rw [← Nat.succ_mul]; exact Nat.mul_le_mul_right _ hj
  omega

/-- Lists of whole numbers. -/
def iv (x : Int) : Value := .int .i64 x
def IS (G : Heap) (v : Value) (xs : List Int) : Prop := Sl G v (xs.map iv)
def ISS (G : Heap) (v : Value) (xss : List (List Int)) : Prop := ∃ ws, Sl G v ws ∧ All2 (IS G) ws xss
theorem IS.mono {G G' v xs} (h : IS G v xs) (hG : ∀ e ∈ G, e ∈ G') : IS G' v xs := Sl.mono h hG
theorem ISS.mono {G G' v xs} (h : ISS G v xs) (hG : ∀ e ∈ G, e ∈ G') : ISS G' v xs :=
  let ⟨ws, h1, h2⟩ := h; ⟨ws, h1.mono hG, h2.mono fun _ _ h => h.mono hG⟩
theorem IS.val {G v xs} (h : IS G v xs) : ∃ a cap, v = .slice a xs.length cap := by
  obtain ⟨a, cap, h1, _⟩ := h
  exact ⟨a, cap, by simpa using h1⟩
theorem IS.at {G v xs} (h : IS G v xs) {i : Nat} {x : Int} (hx : xs[i]? = some x) :
    ∃ k off l T fz cap, v = .slice (some ⟨k, off, none⟩) xs.length cap ∧ (k, Obj.cells ⟨l⟩ T fz) ∈ G ∧ l[off + i]? = some (.int .i64 x) ∧ i < xs.length := by
  obtain ⟨k, off, l, T, fz, cap, h1, h2, h3, h4⟩ := Sl.at h (i := i) (x := iv x) (by simp [hx])
  exact ⟨k, off, l, T, fz, cap, by simpa using h1, h2, h3, by simpa using h4⟩
theorem ISS.val {G v xss} (h : ISS G v xss) : ∃ a cap, v = .slice a xss.length cap := by
  obtain ⟨ws, ⟨a, cap, h1, _⟩, h2⟩ := h
  exact ⟨a, cap, by rw [h1, h2.len]⟩
theorem ISS.at {G v xss} (h : ISS G v xss) {i : Nat} {xs} (hx : xss[i]? = some xs) :
    ∃ k off l T fz cap u, v = .slice (some ⟨k, off, none⟩) xss.length cap ∧ (k, Obj.cells ⟨l⟩ T fz) ∈ G ∧ l[off + i]? = some u ∧ IS G u xs ∧ i < xss.length := by
  obtain ⟨ws, h1, h2⟩ := h
  obtain ⟨u, hu, hf⟩ := h2.get hx
  obtain ⟨k, off, l, T, fz, cap, h3, h4, h5, h6⟩ := h1.at hu
  exact ⟨k, off, l, T, fz, cap, u, by rw [h3, h2.len], h4, h5, hf, by rw [← h2.len]; exact h6⟩
theorem FS.cap {G a n c xs} (h : FS G (.slice a n c) xs) : xs.length ≤ c := by
  obtain ⟨_, _, h1, h2, _⟩ := h
  injection h1 with _ _ h3
  rw [List.length_map] at h2; omega
theorem FS.nil {G} : FS G (.slice none 0 0) [] := ⟨none, 0, rfl, Nat.le_refl _, fun h => (h rfl).elim⟩
theorem IS.nil {G} : IS G (.slice none 0 0) [] := ⟨none, 0, rfl, Nat.le_refl _, fun h => (h rfl).elim⟩
theorem ISS.nil {G} : ISS G (.slice none 0 0) [] := ⟨[], ⟨none, 0, rfl, Nat.le_refl _, fun h => (h rfl).elim⟩, trivial⟩
theorem IS.toN {G v xs} (h : IS G v xs) : SlN 1 G v xs.length (xs.map iv) := by have := Sl.toN h; simpa using this
theorem SlN.toIS {G v n xs} (h : SlN 1 G v n (xs.map iv)) : IS G v xs := (SlN.toSl h).1
theorem oneCell_iv (xs : List Int) : ∀ u ∈ xs.map iv, u.oneCell' = true := by
  intro u hu
  obtain ⟨x, _, rfl⟩ := List.mem_map.1 hu
  rfl

theorem drop_take_drop {l cs : List Value} {off a b : Nat} (h : (l.drop off).take b = cs) : (l.drop (off + a)).take (b - a) = cs.drop a := by
  subst h
  rw [List.drop_take, List.drop_drop]

section ops
variable {P : Program} {W : World} {n : Nat} {ds : List Deferred} {dst : Option Tmp} {ty : TypeId} {pos : String} {af : Array Edge} {g : Option (Nat × Bool)} {E : Env} {G : Heap} {K : Value → Heap → Prop}

/-- The address of an element. -/
theorem op_indexN {t e s b z x y m cs kk j v} [Und P t (.slice e)] [Inf P e s b z] (hs : SlN s G v m cs) (hj : j < m)
    (hk : ∀ k off l T fz, (k, Obj.cells ⟨l⟩ T fz) ∈ G → (l.drop (off + j * s)).take s = (cs.drop (j * s)).take s → K (.pointer (some ⟨k, off + j * s, none⟩)) G)
    (hx : evalE E x = some v := by exact rfl) (hy : evalE E y = some (.int kk (j : Int)) := by exact rfl) :
    OpT P W n ds ⟨dst, .indexAddr t x y, ty, pos, af, g⟩ E G K := by
  obtain ⟨h0, a, cap, rfl, hc, h2⟩ := hs
  obtain ⟨k, off, l, T, fz, rfl, h4, h5⟩ := h2 (by omega)
  refine op_indexAddr (t := t) (e := e) (hk k off l T fz h4 ?_) hx hy (by first | omega | exact hj)
  rw [← h5, List.drop_take, List.drop_drop, List.take_take]
  congr 1
  have : j * s + s ≤ m * s := by rw [← Nat.succ_mul]; exact Nat.mul_le_mul_right _ hj
  omega

def slAt (a : Option Addr) (l s h cap : Nat) : Value := .slice (if cap = l then a else a.map (·.add (l * s))) (h - l) (cap - l)

theorem und_elem {t e} [h : Und P t (.slice e)] : P.underlying t = some (.slice (P.elem t)) ∧ P.elem t = e := by
  have h1 := h.eq
  have : P.elem t = e := by
    unfold Program.underlying at h1
    simp [Program.elem, Program.underlying, h1]
  rw [this]; exact ⟨h1, rfl⟩

theorem op_slice_lh {t e s b z x y y2 a len cap k1 k2} {l h : Nat} [Und P t (.slice e)] [Inf P e s b z] (hk : K (slAt a l s h cap) G)
    (hx : evalE E x = some (.slice a len cap) := by exact rfl) (hy : evalE E y = some (.int k1 (l : Int)) := by exact rfl) (hz : evalE E y2 = some (.int k2 (h : Int)) := by exact rfl) (h1 : l ≤ h := by omega) (h2 : h ≤ cap := by omega) :
    OpT P W n ds ⟨dst, .slice t x (some y) (some y2) none, ty, pos, af, g⟩ E G K :=
  op_of_run (fun a' w ho _ => by
    obtain ⟨u1, u2⟩ := und_elem (P := P) (t := t)
    simp only [execOp, ho.eval hx, ho.eval hy, ho.eval hz, Option.map_some, Option.map_none]
    refine run_v ?_
    rw [run_sliceAt_slice (P := P) (w := w) t _ _ _ _ u1, run_slice_lh (P := P) (w := w) (t := t) (a := a) (len := len) (cap := cap) u1 k1 k2 l h (by omega) (by omega) (by omega), u2]
    rw [run_sizeOf]
    simp [sliced, slAt]) hk
theorem op_slice_h {t e s b z x y2 a len cap k2} {h : Nat} [Und P t (.slice e)] [Inf P e s b z] (hk : K (slAt a 0 s h cap) G)
    (hx : evalE E x = some (.slice a len cap) := by exact rfl) (hz : evalE E y2 = some (.int k2 (h : Int)) := by exact rfl) (h2 : h ≤ cap := by omega) :
    OpT P W n ds ⟨dst, .slice t x none (some y2) none, ty, pos, af, g⟩ E G K :=
  op_of_run (fun a' w ho _ => by
    obtain ⟨u1, u2⟩ := und_elem (P := P) (t := t)
    simp only [execOp, ho.eval hx, ho.eval hz, Option.map_some, Option.map_none]
    refine run_v ?_
    rw [run_sliceAt_slice (P := P) (w := w) t _ _ _ _ u1, run_slice_h (P := P) (w := w) (t := t) (a := a) (len := len) (cap := cap) u1 k2 h (by omega) (by omega), u2]
    rw [run_sizeOf]
    simp [sliced, slAt]) hk
theorem op_slice_l {t e s b z x y a len cap k1} {l : Nat} [Und P t (.slice e)] [Inf P e s b z] (hk : K (slAt a l s len cap) G)
    (hx : evalE E x = some (.slice a len cap) := by exact rfl) (hy : evalE E y = some (.int k1 (l : Int)) := by exact rfl) (h1 : l ≤ len := by omega) :
    OpT P W n ds ⟨dst, .slice t x (some y) none none, ty, pos, af, g⟩ E G K :=
  op_of_run (fun a' w ho _ => by
    obtain ⟨u1, u2⟩ := und_elem (P := P) (t := t)
    simp only [execOp, ho.eval hx, ho.eval hy, Option.map_some, Option.map_none]
    refine run_v ?_
    rw [run_sliceAt_slice (P := P) (w := w) t _ _ _ _ u1, run_slice_l (P := P) (w := w) (t := t) (a := a) (len := len) (cap := cap) u1 k1 l (by omega) (by omega), u2]
    rw [run_sizeOf]
    simp [sliced, slAt]) hk
theorem op_slice_all {t e s b z x a len cap} [Und P t (.slice e)] [Inf P e s b z] (hk : K (slAt a 0 s len cap) G)
    (hx : evalE E x = some (.slice a len cap) := by exact rfl) :
    OpT P W n ds ⟨dst, .slice t x none none none, ty, pos, af, g⟩ E G K :=
  op_of_run (fun a' w ho _ => by
    obtain ⟨u1, u2⟩ := und_elem (P := P) (t := t)
    simp only [execOp, ho.eval hx, Option.map_none]
    refine run_v ?_
    rw [run_sliceAt_slice (P := P) (w := w) t _ _ _ _ u1, run_slice_all (P := P) (w := w) (t := t) (a := a) (len := len) (cap := cap) u1, u2]
    rw [run_sizeOf]
    simp [sliced, slAt]) hk

/-- A part of a slice. -/
theorem SlN.cut {s G v m cs a len cap} (hs : SlN s G v m cs) (hv : v = .slice a len cap) {l h : Nat} (hl : l ≤ h) (hh : h ≤ m) : SlN s G (slAt a l s h cap) (h - l) ((cs.drop (l * s)).take ((h - l) * s)) := by
  obtain ⟨h0, a', cap', h1, hc, h2⟩ := hs
  rw [hv] at h1
  cases h1
  refine ⟨?_, _, cap - l, rfl, by omega, fun hn => ?_⟩
  · rw [List.length_take, List.length_drop, h0, Nat.min_eq_left]
    have : h * s ≤ m * s := Nat.mul_le_mul_right _ hh
    rw [Nat.sub_mul]; omega
  · obtain ⟨k, off, L, T, fz, rfl, h4, h5⟩ := h2 (by omega)
    refine ⟨k, off + l * s, L, T, fz, ?_, h4, ?_⟩
    · rw [if_neg (by omega)]
      simp [addr_add]
    · rw [← h5, List.drop_take, List.drop_drop, List.take_take]
      congr 1
      have : h * s ≤ m * s := Nat.mul_le_mul_right _ hh
      have : (h - l) * s = h * s - l * s := Nat.sub_mul ..
      have : l * s ≤ h * s := Nat.mul_le_mul_right _ hl
      omega
theorem FS.cut {G xs a len cap} (hs : FS G (.slice a len cap) xs) {l h : Nat} (hl : l ≤ h) (hh : h ≤ xs.length) : FS G (slAt a l 1 h cap) ((xs.drop l).take (h - l)) := by
  have := (FS.toN hs).cut rfl hl hh
  rw [Nat.mul_one, Nat.mul_one, ← List.map_drop, ← List.map_take] at this
  exact SlN.toFS this
theorem slAt_self {a : Option Addr} {s h cap : Nat} : slAt a 0 s h cap = .slice a h cap := by
  unfold slAt
  split <;> cases a <;> simp [addr_add_zero]

/-- make -/
theorem op_makeSlice {t e s b z x y k1 k2} {l c : Nat} [Und P t (.slice e)] [hI : Inf P e s b z]
    (hk : ∀ k, K (.slice (some ⟨k, 0, none⟩) l c) ((k, .cells ⟨(List.range (c * s)).map (fun i => z[i % z.length]!)⟩ e (0, 0)) :: G))
    (hlc : l ≤ c) (hb : b * c ≤ 281474976710656) (hbig : c ≤ 9223372036854775807) (hx : evalE E x = some (.int k1 (l : Int)) := by exact rfl) (hy : evalE E y = some (.int k2 (c : Int)) := by exact rfl) :
    OpT P W n ds ⟨dst, .makeSlice t x y, ty, pos, af, g⟩ E G K := by
  refine op_new (o := .cells ⟨(List.range (c * s)).map (fun i => z[i % z.length]!)⟩ e (0, 0)) (val := fun k => .slice (some ⟨k, 0, none⟩) l c) (fun a w ho _ => ?_) hk
  obtain ⟨i, zv, hi, rfl, rfl, hz, hzc⟩ := hI.get
  simp only [execOp, ho.eval hx, ho.eval hy]
  refine run_v ?_
  rw [run_make (P := P) w t e i zv Und.eq hi hz k1 k2 l c (by omega) (by omega) (by have h : ((i.bytes * c : Nat) : Int) ≤ 281474976710656 := (by omega); rwa [Int.natCast_mul] at h) (by omega)]
  congr 1
  simp only [World.alloc, madeCells, Int.toNat_natCast]
  congr 3
  rw [hzc]
  apply Array.ext'
  simp

/-! whole numbers -/
theorem op_iquo {t t2 x y k u v} (hk : K (.int k (k.wrap (u.tdiv v))) G) (hv : v ≠ 0 := by first | decide | assumption | omega) (hx : evalE E x = some (.int k u) := by exact rfl) (hy : evalE E y = some (.int k v) := by exact rfl) :
    OpT P W n ds ⟨dst, .binOp .quo t x y t2, ty, pos, af, g⟩ E G K :=
  op_of_run (fun a w ho _ => by
    simp only [execOp, ho.eval hx, ho.eval hy]
    refine run_v ?_
    refine (sem_run_bind P _ _ w () w rfl).trans ?_
    simp only [binOp, ne_eq, not_true_eq_false, if_false, Op.intDiv, if_neg hv]; rfl) hk
theorem op_irem {t t2 x y k u v} (hk : K (.int k (u.tmod v)) G) (hv : v ≠ 0 := by first | decide | assumption | omega) (hx : evalE E x = some (.int k u) := by exact rfl) (hy : evalE E y = some (.int k v) := by exact rfl) :
    OpT P W n ds ⟨dst, .binOp .rem t x y t2, ty, pos, af, g⟩ E G K :=
  op_of_run (fun a w ho _ => by
    simp only [execOp, ho.eval hx, ho.eval hy]
    refine run_v ?_
    refine (sem_run_bind P _ _ w () w rfl).trans ?_
    simp only [binOp, ne_eq, not_true_eq_false, if_false, Op.intDiv, if_neg hv]; rfl) hk
theorem op_slice_isnil {t t2 x e a l c} [h : Und P t (.slice e)] (hk : K (.bool a.isNone) G) (hx : evalE E x = some (.slice a l c) := by exact rfl) :
    OpT P W n ds ⟨dst, .binOp .eql t x (.const (.slice none 0 0)) t2, ty, pos, af, g⟩ E G K :=
  op_of_run (fun a' w ho _ => by
    simp only [execOp, ho.eval hx]
    refine run_v ?_
    refine (sem_run_bind P _ _ w () w rfl).trans ?_
    exact (sem_run_bind P _ _ w _ w (run_equal_slice_nil (P := P) w t e a l c h.eq)).trans rfl) hk
theorem op_slice_notnil {t t2 x e a l c} [h : Und P t (.slice e)] (hk : K (.bool (!a.isNone)) G) (hx : evalE E x = some (.slice a l c) := by exact rfl) :
    OpT P W n ds ⟨dst, .binOp .neq t x (.const (.slice none 0 0)) t2, ty, pos, af, g⟩ E G K :=
  op_of_run (fun a' w ho _ => by
    simp only [execOp, ho.eval hx]
    refine run_v ?_
    refine (sem_run_bind P _ _ w () w rfl).trans ?_
    exact (sem_run_bind P _ _ w _ w (run_equal_slice_nil (P := P) w t e a l c h.eq)).trans rfl) hk
theorem op_imax {x y tx t2 k u v} (hk : K (.int k (if v > u then v else u)) G) (hx : evalE E x = some (.int k u) := by exact rfl) (hy : evalE E y = some (.int k v) := by exact rfl) :
    OpT P W n ds ⟨dst, .call { callee := .builtin .max, args := #[x, y], argTypes := #[tx, t2] }, ty, pos, af, g⟩ E G K :=
  op_of_run (fun a' w ho _ => by
    simp only [execOp, resolve, invoke]
    refine (sem_run_bind P _ _ w _ w rfl).trans ?_
    refine run_v ?_
    simp only [List.map_toArray, List.map_cons, List.map_nil, ho.eval hx, ho.eval hy]
    rfl) hk
theorem op_imin {x y tx t2 k u v} (hk : K (.int k (if v < u then v else u)) G) (hx : evalE E x = some (.int k u) := by exact rfl) (hy : evalE E y = some (.int k v) := by exact rfl) :
    OpT P W n ds ⟨dst, .call { callee := .builtin .min, args := #[x, y], argTypes := #[tx, t2] }, ty, pos, af, g⟩ E G K :=
  op_of_run (fun a' w ho _ => by
    simp only [execOp, resolve, invoke]
    refine (sem_run_bind P _ _ w _ w rfl).trans ?_
    refine run_v ?_
    simp only [List.map_toArray, List.map_cons, List.map_nil, ho.eval hx, ho.eval hy]
    rfl) hk
def ibits (op : BinOp) (k : IntKind) (x y : Int) : Int :=
  let a := BitVec.ofInt k.bits x
  let b := BitVec.ofInt k.bits y
  match op with
  | .and => k.wrap (a &&& b).toNat
  | .or => k.wrap (a ||| b).toNat
  | .xor => k.wrap (a ^^^ b).toNat
  | _ => k.wrap (a &&& ~~~b).toNat
def BinOp.isBits : BinOp → Bool
  | .and | .or | .xor | .andNot => true
  | _ => false
theorem op_ibits {op t t2 x y k u v} (hk : K (.int k (ibits op k u v)) G) (hc : BinOp.isBits op = true := by exact rfl) (hx : evalE E x = some (.int k u) := by exact rfl) (hy : evalE E y = some (.int k v) := by exact rfl) :
    OpT P W n ds ⟨dst, .binOp op t x y t2, ty, pos, af, g⟩ E G K :=
  op_of_run (fun a w ho _ => by
    simp only [execOp, ho.eval hx, ho.eval hy]
    refine run_v ?_
    refine (sem_run_bind P _ _ w () w ?_).trans ?_
    · cases op <;> first | (cases hc; done) | rfl
    · cases op <;> first | (cases hc; done) | (simp only [binOp, ne_eq, not_true_eq_false, if_false]; rfl)) hk
theorem op_shl {t t2 x y k k2 u} {v : Int} (hk : K (.int k (k.wrap (u * 2 ^ min v.toNat k.bits))) G) (hv : 0 ≤ v := by first | decide | assumption | omega) (hx : evalE E x = some (.int k u) := by exact rfl) (hy : evalE E y = some (.int k2 v) := by exact rfl) :
    OpT P W n ds ⟨dst, .binOp .shl t x y t2, ty, pos, af, g⟩ E G K :=
  op_of_run (fun a w ho _ => by
    simp only [execOp, ho.eval hx, ho.eval hy]
    refine run_v ?_
    refine (sem_run_bind P _ _ w () w rfl).trans ?_
    simp only [binOp, Op.shift, if_neg (show ¬ v < 0 by omega)]; rfl) hk
theorem op_shr {t t2 x y k k2 u} {v : Int} (hk : K (.int k (u.fdiv (2 ^ min v.toNat k.bits))) G) (hv : 0 ≤ v := by first | decide | assumption | omega) (hx : evalE E x = some (.int k u) := by exact rfl) (hy : evalE E y = some (.int k2 v) := by exact rfl) :
    OpT P W n ds ⟨dst, .binOp .shr t x y t2, ty, pos, af, g⟩ E G K :=
  op_of_run (fun a w ho _ => by
    simp only [execOp, ho.eval hx, ho.eval hy]
    refine run_v ?_
    refine (sem_run_bind P _ _ w () w rfl).trans ?_
    simp only [binOp, Op.shift, if_neg (show ¬ v < 0 by omega)]; rfl) hk

theorem wrap_add {a b : Int} (h0 : -9223372036854775808 ≤ a + b) (h1 : a + b < 9223372036854775808) : IntKind.i64.wrap (iarith .add a b) = a + b := wrap_in h0 h1
theorem wrap_sub {a b : Int} (h0 : -9223372036854775808 ≤ a - b) (h1 : a - b < 9223372036854775808) : IntKind.i64.wrap (iarith .sub a b) = a - b := wrap_in h0 h1
theorem wrap_mul {a b : Int} (h0 : -9223372036854775808 ≤ a * b) (h1 : a * b < 9223372036854775808) : IntKind.i64.wrap (iarith .mul a b) = a * b := wrap_in h0 h1
/-- A slot's number under another name. -/
theorem geti {E : Env} {t : Nat} {k : IntKind} {a b : Int} (h : Env.get E t = some (.int k a)) (e : a = b) : Env.get E t = some (.int k b) := e ▸ h

theorem gete {E : Env} {x : Operand} {k : IntKind} {a b : Int} (h : evalE E x = some (.int k a)) (e : a = b) : evalE E x = some (.int k b) := e ▸ h
theorem sum_take_succ {α : Type} (f : α → Nat) : ∀ (l : List α) (j : Nat) (x : α), l[j]? = some x → ((l.take (j + 1)).map f).sum = ((l.take j).map f).sum + f x
  | [], j, x, h => by simp at h
  | a :: l, 0, x, h => by simp at h; subst h; simp
  | a :: l, j + 1, x, h => by
    have := sum_take_succ f l j x (by simpa using h)
    simp only [List.take_succ_cons, List.map_cons, List.sum_cons] at this ⊢
    omega
theorem sum_take_le {α : Type} (f : α → Nat) : ∀ (l : List α) (j : Nat), ((l.take j).map f).sum ≤ (l.map f).sum
  | [], j => by simp
  | a :: l, 0 => by simp
  | a :: l, j + 1 => by have := sum_take_le f l j; simp only [List.take_succ_cons, List.map_cons, List.sum_cons]; omega
theorem sum_get_le {α : Type} (f : α → Nat) : ∀ (l : List α) (j : Nat) (x : α), l[j]? = some x → ((l.take j).map f).sum + f x ≤ (l.map f).sum
  | [], j, x, h => by simp at h
  | a :: l, 0, x, h => by simp at h; subst h; simp
  | a :: l, j + 1, x, h => by
    have := sum_get_le f l j x (by simpa using h)
    simp only [List.take_succ_cons, List.map_cons, List.sum_cons]; omega
theorem take_len {α : Type} {l : List α} {j : Nat} (hj : ¬ j < l.length) : l.take j = l := List.take_of_length_le (by omega)

/-! copy -/
theorem Sees.setRowA {A H : Heap} {w : World} {k : Nat} {l l' : List Value} {T : TypeId} {fz : Nat × Nat} (h : Sees W (A ++ (k, Obj.cells ⟨l⟩ T fz) :: H) w) :
    Sees W (A ++ (k, Obj.cells ⟨l'⟩ T fz) :: H) (w.setRow k ⟨l'⟩) :=
  ((h.perm List.perm_middle.symm).setRow).perm List.perm_middle

def spliceAt (l : List Value) (off : Nat) (cs : List Value) : List Value := l.take off ++ cs ++ l.drop (off + cs.length)

theorem op_copy {t t2 e b z x y k off l T dl dc v m cs A B} [Und P t (.slice e)] [hI : Inf P e 1 b z]
    (hk : K (.int .i64 ((min m dl : Nat) : Int)) (A ++ (k, Obj.cells ⟨spliceAt l off (cs.take (min m dl))⟩ T (0, 0)) :: B))
    (hs : SlN 1 G v m cs) (h1 : ∀ u ∈ cs, u.oneCell' = true)
    (hx : evalE E x = some (.slice (some ⟨k, off, none⟩) dl dc) := by exact rfl) (hy : evalE E y = some v := by exact rfl) (hG : G = A ++ (k, Obj.cells ⟨l⟩ T (0, 0)) :: B := by exact rfl) (hfit : off + dl ≤ l.length := by first | omega | (simp; done) | (simp; omega)) :
    OpT P W n ds ⟨dst, .call { callee := .builtin .copy, args := #[x, y], argTypes := #[t, t2] }, ty, pos, af, g⟩ E G K := by
  refine ⟨fun a w next Q ho hsw hn => ?_⟩
  obtain ⟨h0, a', cap, rfl, hc, h2⟩ := hs
  rw [Nat.mul_one] at h0
  have hsz : (P.info? e).map (·.size) = some 1 := by
    obtain ⟨i, _, hi, h3, _⟩ := hI.get
    rw [hi]; simp [h3]
  have key : ∃ w', (Builtin.copy_ #[t, t2] ty #[.slice (some ⟨k, off, none⟩) dl dc, .slice a' m cap]).run P w = .ok (.int .i64 ((min m dl : Nat) : Int)) w' ∧ Sees W (A ++ (k, Obj.cells ⟨spliceAt l off (cs.take (min m dl))⟩ T (0, 0)) :: B) w' := by
    subst hG
    have hm0 := hsw.mem k _ (List.mem_append_right A List.mem_cons_self)
    by_cases hm : m = 0
    · subst hm
      have hcs : cs = [] := List.eq_nil_of_length_eq_zero h0
      subst hcs
      obtain ⟨i, zv, hi, h3, _⟩ := hI.get
      refine ⟨w, ?_, ?_⟩
      · cases a' with
        | none => simp [Builtin.copy_, run_underlying, Builtin.lenOf, Builtin.firstCells, run_sizeOf, storeCells, goInt, run_underlying (P := P) (t := t), Sem.run_bind]
        | some a' => simp [Builtin.copy_, run_underlying, Builtin.lenOf, Builtin.firstCells, run_sizeOf, storeCells, goInt, run_underlying (P := P) (t := t), Sem.run_bind, loadCells, loadCellsFrom]
      · simpa [spliceAt] using hsw
    · obtain ⟨ks, offs, ls, Ts, fzs, rfl, h4, h5⟩ := h2 hm
      rw [Nat.mul_one] at h5
      have hlen : (cs.take (min m dl)).length = Nat.min m dl := by
        rw [List.length_take, h0]; show min (min m dl) m = min m dl; omega
      have hr := run_copy_row P w t t2 ty e k off dl dc ⟨ks, offs, none⟩ m cap ⟨l⟩ T (cs.take (min m dl)) Und.eq hsz hm0 hlen
        (fun j u hj => by
          rw [addr_add]
          refine hsw.cell h4 (cut_get h5 ?_)
          rw [List.getElem?_take] at hj
          split at hj
          · exact hj
          · cases hj)
        (by rw [hlen]; show off + Nat.min m dl ≤ l.length; have : Nat.min m dl ≤ dl := Nat.min_le_right ..; omega) (fun u hu => h1 u (List.mem_of_mem_take hu))
      refine ⟨w.setRow k ⟨spliceAt l off (cs.take (min m dl))⟩, ?_, hsw.setRowA⟩
      rw [hr]
      unfold spliceAt
      rw [hlen]
      rfl
  obtain ⟨w', hr, hs'⟩ := key
  have he : (execOp a.eval ⟨dst, .call { callee := .builtin .copy, args := #[x, y], argTypes := #[t, t2] }, ty, pos, af, g⟩).run P w = .ok (.value (.int .i64 ((min m dl : Nat) : Int))) w' := by
    simp only [execOp, resolve, invoke]
    refine (sem_run_bind P _ _ w _ w rfl).trans ?_
    refine run_v ?_
    simp only [List.map_toArray, List.map_cons, List.map_nil, ho.eval hx, ho.eval hy]
    exact hr
  rw [he]
  exact hn _ _ _ hs' hk

theorem oneCell_fl (xs : List Nat) : ∀ u ∈ xs.map fl, u.oneCell' = true := by
  intro u hu
  obtain ⟨x, _, rfl⟩ := List.mem_map.1 hu
  rfl

/-- append of a slice, empty or not -/
theorem op_appendS {t e s b z x y m v H'} (buf : Buf) (l : Nat) (ws news : List Value) [Und P t (.slice e)] [hI : Inf P e s b z] (hok : bufOk s buf l ws)
    (hk : ∀ buf', bufOk s buf' (l + m) (ws ++ news) → (m = 0 → buf' = buf) → K (bufV buf' (l + m)) (bufH e buf' (ws ++ news) H'))
    (hs : SlN s G v m news) (hx : evalE E x = some (bufV buf l)) (hy : evalE E y = some v) (hsub : List.Sublist (bufH e buf ws H') G)
    (h1 : ∀ u ∈ news, u.oneCell' = true) (hbig : l + m ≤ maxLen) (hbytes : (l + m) * b ≤ 140737488355328) (hz0 : z.length = s := by exact rfl) :
    OpT P W n ds ⟨dst, .call { callee := .builtin .append, args := #[x, y], argTypes := #[t, t] }, ty, pos, af, g⟩ E G K := by
  obtain ⟨h0, a', cap, rfl, hc, h2⟩ := hs
  by_cases hm : m = 0
  · subst hm
    have hnl : news = [] := List.eq_nil_of_length_eq_zero (by simpa using h0)
    subst hnl
    simp only [Nat.add_zero, List.append_nil] at hk ⊢
    have key : ∀ w, (Builtin.append_ #[t, t] ty #[bufV buf l, .slice a' 0 cap]).run P w = .ok (bufV buf l) w := by
      intro w
      have hsl : (loadCells ⟨0, 0, none⟩ 0).run P w = .ok #[] w := rfl
      cases buf with
      | none =>
        obtain ⟨rfl, rfl⟩ := hok
        cases a' <;> simp [bufV, Builtin.append_, run_underlying (P := P) (t := t), run_sizeOf (P := P) (t := e), Builtin.lenOf, Builtin.firstCells, Sem.run_bind, loadCells, loadCellsFrom]
      | some bb =>
        obtain ⟨kk, cc, sp⟩ := bb
        obtain ⟨q1, q2, q3, q4⟩ := hok
        cases a' <;> simp [bufV, Builtin.append_, run_underlying (P := P) (t := t), run_sizeOf (P := P) (t := e), Builtin.lenOf, Builtin.firstCells, Sem.run_bind, loadCells, loadCellsFrom, q1, storeCells]
    refine ⟨fun a w next Q ho hsw hn => ?_⟩
    have he : (execOp a.eval ⟨dst, .call { callee := .builtin .append, args := #[x, y], argTypes := #[t, t] }, ty, pos, af, g⟩).run P w = .ok (.value (bufV buf l)) w := by
      simp only [execOp, resolve, invoke]
      refine (sem_run_bind P _ _ w _ w rfl).trans ?_
      refine run_v ?_
      simp only [List.map_toArray, List.map_cons, List.map_nil, ho.eval hx, ho.eval hy]
      exact key w
    rw [he]
    exact hn _ _ _ (hsw.sub hsub) (hk buf hok fun _ => rfl)
  · obtain ⟨k, off, L, T, fz, rfl, h4, h5⟩ := h2 hm
    exact op_append buf l ws news hok (fun buf' h => hk buf' h fun h => absurd h hm) hx hy hsub h4 h5 h0 h1 (by omega) hbig hbytes hz0
end ops

theorem does_bits {P : Program} {f : FuncId} {fn : Func} {H : Heap} {x : Nat}
    (hf : P.funcs[f]? = some fn) (hn : (fn.name == "runtime.NumGoroutine") = false) (hbd : fn.body.isNone = true) (h1 : (Extern.findNext fn).isNone = true)
    (h2 : Extern.find fn = some Extern.MathFloatBits.float64bits) : Does P f [.float .f64 x] H fun v H' => v = .int .u64 (x : Int) ∧ H' = H :=
  does_extern hf hn hbd h1 h2 fun W w hs => ⟨_, w, rfl, hs, rfl, rfl⟩
theorem does_frombits {P : Program} {f : FuncId} {fn : Func} {H : Heap} {x : Nat}
    (hf : P.funcs[f]? = some fn) (hn : (fn.name == "runtime.NumGoroutine") = false) (hbd : fn.body.isNone = true) (h1 : (Extern.findNext fn).isNone = true)
    (h2 : Extern.find fn = some Extern.MathFloatBits.float64frombits) : Does P f [.int .u64 (x : Int)] H fun v H' => v = .float .f64 x ∧ H' = H :=
  does_extern hf hn hbd h1 h2 fun W w hs => ⟨_, w, rfl, hs, rfl, rfl⟩

/-- Rows of n places of s numbers each. -/
def chunks (s n : Nat) (xs : List Nat) : List (List Nat) := (List.range n).map fun i => (xs.drop (i * s)).take s
theorem chunks_get {s n i : Nat} {xs : List Nat} (hi : i < n) : (chunks s n xs)[i]? = some ((xs.drop (i * s)).take s) := by simp [chunks, hi]
theorem chunks_len (s n : Nat) (xs : List Nat) : (chunks s n xs).length = n := by simp [chunks]
theorem chunks_succ (s n : Nat) (xs : List Nat) : chunks s (n + 1) xs = chunks s n xs ++ [(xs.drop (n * s)).take s] := by simp [chunks, List.range_succ]
theorem All2.snoc {α β : Type} {p : α → β → Prop} : ∀ {as bs} {a b}, All2 p as bs → p a b → All2 p (as ++ [a]) (bs ++ [b])
  | [], [], _, _, _, h => ⟨h, trivial⟩
  | [], _ :: _, _, _, h, _ => h.elim
  | _ :: _, [], _, _, h, _ => h.elim
  | _ :: _, _ :: _, _, _, h, h' => ⟨h.1, All2.snoc h.2 h'⟩
theorem sl_buf {e : TypeId} {buf : Buf} {ws : List Value} {n : Nat} {H : Heap} (h : bufOk 1 buf n ws) : Sl (bufH e buf ws H) (bufV buf n) ws := by
  cases buf with
  | none =>
    obtain ⟨rfl, h2⟩ := h
    exact ⟨none, 0, by rw [h2]; rfl, by rw [h2]; simp, fun hn => (hn h2).elim⟩
  | some b =>
    obtain ⟨k, cap, sp⟩ := b
    obtain ⟨h1, h2, h3, h4⟩ := h
    refine ⟨some ⟨k, 0, none⟩, cap, by simp only [bufV]; congr 1; omega, by omega, fun _ => ⟨k, 0, _, e, (0, 0), rfl, List.mem_cons_self, ?_⟩⟩
    rw [List.drop_zero, List.take_left]
theorem splice_all {l cs : List Value} (h : cs.length = l.length) : spliceAt l 0 cs = cs := by
  unfold spliceAt; simp [h]
theorem made_rep (n : Nat) (z : Value) : (List.range (n * 1)).map (fun i => [z][i % [z].length]!) = List.replicate n z := by
  apply List.ext_getElem
  · simp
  · intro i h1 h2
    simp [Nat.mod_one]
theorem set_snoc {ws : List Value} {m : Nat} {z v : Value} : (ws ++ List.replicate (m + 1) z).set ws.length v = (ws ++ [v]) ++ List.replicate m z := by
  rw [List.set_append_right _ _ (Nat.le_refl _)]
  simp [List.replicate_succ]
end Go.Lg
