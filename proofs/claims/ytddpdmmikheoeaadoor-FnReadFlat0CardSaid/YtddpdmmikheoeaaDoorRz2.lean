/-
  Loops that keep what is known; slices of any element size; slice expressions, make, copy, division, bits, in the small logic. No conditions.
-/
import Derived.Laws.Slices
import Derived.Laws.MakeOwn
import Derived.Laws.CopyRow
import Derived.Laws.Cover3
import Derived.Test.YtddpdmmikheoeaaDoorRz1
set_option linter.unusedVariables false
set_option linter.unusedSimpArgs false
namespace Go.Lg
open Ieee

/-! ### Loops -/
theorem Env.get_app {V E E' : Env} (hV : Incl E' V) (hK : ∀ t v, Env.get E t = some v → Env.get E' t = some v) : ∀ t v, Env.get (V ++ E) t = some v → Env.get E' t = some v := by
  induction V with
  | nil => exact hK
  | cons p V ih =>
    obtain ⟨d, u⟩ := p
    intro t v hv
    by_cases e : d = t
    · subst e
      rw [List.cons_append, Env.get_cons_self] at hv; cases hv; exact hV.1
    · rw [List.cons_append, Env.get_cons_ne e] at hv; exact ih hV.2 t v hv

section
variable {P : Program} {W : World} {n : Nat} {ds : List Deferred} {Q : Exit → Act → World → Prop} {E : Env} {G : Heap}

/-- A loop: E stays known, besides the slots V. -/
theorem tc_loopK {ι : Type} {c : Code} {E0 : Env} (E : Env) (hK : Incl E0 E) (V : ι → Env) (J : ι → Heap) (ok : ι → Prop) (μ : ι → Nat) (i0 : ι) (h0 : ok i0)
    (hE : Incl E0 (V i0)) (hG : List.Sublist (J i0) G)
    (round : ∀ i, ok i → TC P W n ds c (QLoop W n ds (fun i => V i ++ E) J ok μ (μ i) Q) (V i ++ E) (J i)) : TC P W n ds (.loop c) Q E0 G :=
  tc_loop (fun i => V i ++ E) J ok μ i0 h0 (Env.get_app hE hK.get) hG round

/-- The same, memory as0 it is. -/
theorem tc_loopH {ι : Type} {c : Code} {E0 : Env} (E : Env) (hK : Incl E0 E) (V : ι → Env) (ok : ι → Prop) (μ : ι → Nat) (i0 : ι) (h0 : ok i0)
    (hE : Incl E0 (V i0))
    (round : ∀ i, ok i → TC P W n ds c (QLoop W n ds (fun i => V i ++ E) (fun _ => G) ok μ (μ i) Q) (V i ++ E) G) : TC P W n ds (.loop c) Q E0 G :=
  tc_loopK E hK V (fun _ => G) ok μ i0 h0 hE (List.Sublist.refl _) round

theorem at_loopK {ι : Type} {V : ι → Env} {J : ι → Heap} {ok : ι → Prop} {μ : ι → Nat} {m : Nat} {E' : Env} {G' : Heap} (j : ι) (hj : ok j) (hm : μ j < m)
    (hV : Incl E' (V j)) (hK : Incl E' E) (hG : List.Sublist (J j) G') : At W n ds (QLoop W n ds (fun i => V i ++ E) J ok μ m Q) .normal E' G' :=
  at_loop_normal (I := fun i => V i ++ E) j hj hm (Env.get_app hV hK.get) hG

/-- A guard that was itself not asked. -/
theorem tl_guard_undef {ops : List Oper} {d op ty pos af j b dj} {rest : List Oper} (h : TL P W n ds ops Q rest ((d, undef) :: E) G)
    (hj : slotOf ops j = some dj := by exact rfl) (hb : Env.get E dj = some undef := by exact rfl) (hd : d < n := by decide) :
    TL P W n ds ops Q (⟨some d, op, ty, pos, af, some (j, b)⟩ :: rest) E G := by
  refine ⟨fun a w ho hs => ?_⟩
  refine wpList_step fun K hK => ?_
  have hw : Region.wanted ⟨some d, op, ty, pos, af, some (j, b)⟩ (yielded ops.toArray a.tmps) = false := by
    rw [← slotOf_eq] at hj; simp only [Region.wanted, yielded, hj]; simp [ho.get _ _ hb, undef]
  rw [if_neg (by simp [hw])]
  exact hK _ _ (h.run _ _ (ho.put hd undef) hs)

theorem tc_prune {c E' } (hE : Incl E E') (h : TC P W n ds c Q E' G) : TC P W n ds c Q E G := tc_weak hE.get (List.Sublist.refl _) h
theorem tl_perm {ops l G'} (hG : List.Perm G' G) (h : TL P W n ds ops Q l E G') : TL P W n ds ops Q l E G := ⟨fun a w ho hs => h.run a w ho (hs.perm hG)⟩
theorem op_perm {o : Oper} {K : Value → Heap → Prop} {G'} (hG : List.Perm G' G) (h : OpT P W n ds o E G' K) : OpT P W n ds o E G K := ⟨fun a w next Q ho hs hn => h.run a w next Q ho (hs.perm hG) hn⟩
theorem tl_mono {ops l G'} (hG : List.Sublist G' G) (h : TL P W n ds ops Q l E G') : TL P W n ds ops Q l E G := ⟨fun a w ho hs => h.run a w ho (hs.sub hG)⟩
theorem bufH_swap (e : TypeId) (buf : Buf) (ws : List Value) (x : Nat × Obj) (H : Heap) : List.Perm (bufH e buf ws (x :: H)) (x :: bufH e buf ws H) := by
  cases buf with
  | none => exact List.Perm.refl _
  | some b => exact List.Perm.swap _ _ _
theorem bufH_app (e : TypeId) (buf : Buf) (ws : List Value) (A H : Heap) : List.Perm (bufH e buf ws (A ++ H)) (A ++ bufH e buf ws H) := by
  cases buf with
  | none => exact List.Perm.refl _
  | some b => exact List.perm_middle.symm
theorem tc_sub {c G'} (hG : List.Sublist G' G) (h : TC P W n ds c Q E G') : TC P W n ds c Q E G := tc_weak (fun _ _ h => h) hG h
end

/-! ### Slices of elements of several cells -/
/-- The slice v of n elements of s cells each reads as0 these cells. -/
def SlN (s : Nat) (G : Heap) (v : Value) (n : Nat) (cs : List Value) : Prop :=
  cs.length = n * s ∧ ∃ a cap, v = .slice a n cap ∧ n ≤ cap ∧ (n ≠ 0 → ∃ k off l T fz, a = some ⟨k, off, none⟩ ∧ (k, Obj.cells ⟨l⟩ T fz) ∈ G ∧ (l.drop off).take (n * s) = cs)

theorem SlN.mono {s G G' v n cs} (h : SlN s G v n cs) (hG : ∀ e ∈ G, e ∈ G') : SlN s G' v n cs := by
  obtain ⟨h0, a, cap, h1, hc, h2⟩ := h
  exact ⟨h0, a, cap, h1, hc, fun hn => let ⟨k, off, l, T, fz, h3, h4, h5⟩ := h2 hn; ⟨k, off, l, T, fz, h3, hG _ h4, h5⟩⟩
theorem Sl.toN {G v ws} (h : Sl G v ws) : SlN 1 G v ws.length ws := by
  obtain ⟨a, cap, h1, hc, h2⟩ := h
  exact ⟨by simp, a, cap, h1, hc, fun hn => let ⟨k, off, l, T, fz, h3, h4, h5⟩ := h2 (fun e => hn (by rw [e]; rfl)); ⟨k, off, l, T, fz, h3, h4, by rw [Nat.mul_one]; exact h5⟩⟩
theorem SlN.toSl {G v n ws} (h : SlN 1 G v n ws) : Sl G v ws ∧ ws.length = n := by
  obtain ⟨h0, a, cap, h1, hc, h2⟩ := h
  rw [Nat.mul_one] at h0
  subst h0
  refine ⟨⟨a, cap, h1, hc, fun hn => ?_⟩, rfl⟩
  obtain ⟨k, off, l, T, fz, h3, h4, h5⟩ := h2 (fun e => hn (List.eq_nil_of_length_eq_zero e))
  exact ⟨k, off, l, T, fz, h3, h4, by rw [Nat.mul_one] at h5; exact h5⟩
theorem FS.toN {G v xs} (h : FS G v xs) : SlN 1 G v xs.length (xs.map fl) := by have := Sl.toN h; simpa using this
theorem SlN.toFS {G v n xs} (h : SlN 1 G v n (xs.map fl)) : FS G v xs := (SlN.toSl h).1
theorem SlN.val {s G v n cs} (h : SlN s G v n cs) : ∃ a cap, v = .slice a n cap ∧ n ≤ cap := by obtain ⟨_, a, cap, h1, h2, _⟩ := h; exact ⟨a, cap, h1, h2⟩
theorem SlN.nil {s G} : SlN s G (.slice none 0 0) 0 [] := ⟨by simp, none, 0, rfl, Nat.le_refl _, fun h => (h rfl).elim⟩

theorem SlN.at {s G v m cs} (hs : SlN s G v m cs) {j : Nat} (hj : j < m) :
    ∃ k off l T fz cap, v = .slice (some ⟨k, off, none⟩) m cap ∧ (k, Obj.cells ⟨l⟩ T fz) ∈ G ∧ (l.drop (off + j * s)).take s = (cs.drop (j * s)).take s := by
  obtain ⟨h0, a, cap, rfl, hc, h2⟩ := hs
  obtain ⟨k, off, l, T, fz, rfl, h4, h5⟩ := h2 (by omega)
  refine ⟨k, off, l, T, fz, cap, rfl, h4, ?_⟩
  rw [← h5, List.drop_take, List.drop_drop, List.take_take]
  congr 1
  have : j * s + s ≤ m * s := by rw [← Nat.succ_mul]; exact Nat.mul_le_mul_right _ hj
  omega

/-- Lists of whole numbers. -/
def iv (x : Int) : Value := .int .i64 x
def IS (G : Heap) (v : Value) (xs : List Int) : Prop := Sl G v (xs.map iv)
def ISS (G : Heap) (v : Value) (xss : List (List Int)) : Prop := ∃ ws, Sl G v ws ∧ All2 (IS G) ws xss
theorem IS.mono {G G' v xs} (h : IS G v xs) (hG : ∀ e ∈ G, e ∈ G') : IS G' v xs := Sl.mono h hG
theorem ISS.mono {G G' v xs} (h : ISS G v xs) (hG : ∀ e ∈ G, e ∈ G') : ISS G' v xs :=
  let ⟨ws, h1, h2⟩ := h; ⟨ws, h1.mono hG, h2.mono fun _ _ h => h.mono hG⟩
theorem IS.val {G v xs} (h : IS G v xs) : ∃ a cap, v = .slice a xs.length cap := by
  obtain ⟨a, cap, h1, _⟩ := h
  exact ⟨a, cap, by simpa using h1⟩
theorem IS.at {G v xs} (h : IS G v xs) {i : Nat} {x : Int} (hx : xs[i]? = some x) :
    ∃ k off l T fz cap, v = .slice (some ⟨k, off, none⟩) xs.length cap ∧ (k, Obj.cells ⟨l⟩ T fz) ∈ G ∧ l[off + i]? = some (.int .i64 x) ∧ i < xs.length := by
  obtain ⟨k, off, l, T, fz, cap, h1, h2, h3, h4⟩ := Sl.at h (i := i) (x := iv x) (by simp [hx])
  exact ⟨k, off, l, T, fz, cap, by simpa using h1, h2, h3, by simpa using h4⟩
theorem ISS.val {G v xss} (h : ISS G v xss) : ∃ a cap, v = .slice a xss.length cap := by
  obtain ⟨ws, ⟨a, cap, h1, _⟩, h2⟩ := h
  exact ⟨a, cap, by rw [h1, h2.len]⟩
theorem ISS.at {G v xss} (h : ISS G v xss) {i : Nat} {xs} (hx : xss[i]? = some xs) :
    ∃ k off l T fz cap u, v = .slice (some ⟨k, off, none⟩) xss.length cap ∧ (k, Obj.cells ⟨l⟩ T fz) ∈ G ∧ l[off + i]? = some u ∧ IS G u xs ∧ i < xss.length := by
  obtain ⟨ws, h1, h2⟩ := h
  obtain ⟨u, hu, hf⟩ := h2.get hx
  obtain ⟨k, off, l, T, fz, cap, h3, h4, h5, h6⟩ := h1.at hu
  exact ⟨k, off, l, T, fz, cap, u, by rw [h3, h2.len], h4, h5, hf, by rw [← h2.len]; exact h6⟩
theorem FS.cap {G a n c xs} (h : FS G (.slice a n c) xs) : xs.length ≤ c := by
  obtain ⟨_, _, h1, h2, _⟩ := h
  injection h1 with _ _ h3
  rw [List.length_map] at h2; omega
theorem FS.nil {G} : FS G (.slice none 0 0) [] := ⟨none, 0, rfl, Nat.le_refl _, fun h => (h rfl).elim⟩
theorem IS.nil {G} : IS G (.slice none 0 0) [] := ⟨none, 0, rfl, Nat.le_refl _, fun h => (h rfl).elim⟩
theorem ISS.nil {G} : ISS G (.slice none 0 0) [] := ⟨[], ⟨none, 0, rfl, Nat.le_refl _, fun h => (h rfl).elim⟩, trivial⟩
theorem IS.toN {G v xs} (h : IS G v xs) : SlN 1 G v xs.length (xs.map iv) := by have := Sl.toN h; simpa using this
theorem SlN.toIS {G v n xs} (h : SlN 1 G v n (xs.map iv)) : IS G v xs := (SlN.toSl h).1
theorem oneCell_iv (xs : List Int) : ∀ u ∈ xs.map iv, u.oneCell' = true := by
  intro u hu
  obtain ⟨x, _, rfl⟩ := List.mem_map.1 hu
  rfl

theorem drop_take_drop {l cs : List Value} {off a b : Nat} (h : (l.drop off).take b = cs) : (l.drop (off + a)).take (b - a) = cs.drop a := by
  subst h
  rw [List.drop_take, List.drop_drop]

section ops
variable {P : Program} {W : World} {n : Nat} {ds : List Deferred} {dst : Option Tmp} {ty : TypeId} {pos : String} {af : Array Edge} {g : Option (Nat × Bool)} {E : Env} {G : Heap} {K : Value → Heap → Prop}

/-- The address of an element. -/
theorem op_indexN {t e s b z x y m cs kk j v} [Und P t (.slice e)] [Inf P e s b z] (hs : SlN s G v m cs) (hj : j < m)
    (hk : ∀ k off l T fz, (k, Obj.cells ⟨l⟩ T fz) ∈ G → (l.drop (off + j * s)).take s = (cs.drop (j * s)).take s → K (.pointer (some ⟨k, off + j * s, none⟩)) G)
    (hx : evalE E x = some v := by exact rfl) (hy : evalE E y = some (.int kk (j : Int)) := by exact rfl) :
    OpT P W n ds ⟨dst, .indexAddr t x y, ty, pos, af, g⟩ E G K := by
  obtain ⟨h0, a, cap, rfl, hc, h2⟩ := hs
  obtain ⟨k, off, l, T, fz, rfl, h4, h5⟩ := h2 (by omega)
  refine op_indexAddr (t := t) (e := e) (hk k off l T fz h4 ?_) hx hy (by first | omega | exact hj)
  rw [← h5, List.drop_take, List.drop_drop, List.take_take]
  congr 1
  have : j * s + s ≤ m * s := by rw [← Nat.succ_mul]; exact Nat.mul_le_mul_right _ hj
  omega

def slAt (a : Option Addr) (l s h cap : Nat) : Value := .slice (if cap = l then a else a.map (·.add (l * s))) (h - l) (cap - l)

theorem und_elem {t e} [h : Und P t (.slice e)] : P.underlying t = some (.slice (P.elem t)) ∧ P.elem t = e := by
  have h1 := h.eq
  have : P.elem t = e := by
    unfold Program.underlying at h1
    simp [Program.elem, Program.underlying, h1]
  rw [this]; exact ⟨h1, rfl⟩

theorem op_slice_lh {t e s b z x y y2 a len cap k1 k2} {l h : Nat} [Und P t (.slice e)] [Inf P e s b z] (hk : K (slAt a l s h cap) G)
    (hx : evalE E x = some (.slice a len cap) := by exact rfl) (hy : evalE E y = some (.int k1 (l : Int)) := by exact rfl) (hz : evalE E y2 = some (.int k2 (h : Int)) := by exact rfl) (h1 : l ≤ h := by omega) (h2 : h ≤ cap := by omega) :
    OpT P W n ds ⟨dst, .slice t x (some y) (some y2) none, ty, pos, af, g⟩ E G K :=
  op_of_run (fun a' w ho _ => by
    obtain ⟨u1, u2⟩ := und_elem (P := P) (t := t)
    simp only [execOp, ho.eval hx, ho.eval hy, ho.eval hz, Option.map_some, Option.map_none]
    refine run_v ?_
    rw [run_sliceAt_slice (P := P) (w := w) t _ _ _ _ u1, run_slice_lh (P := P) (w := w) (t := t) (a := a) (len := len) (cap := cap) u1 k1 k2 l h (by omega) (by omega) (by omega), u2]
    rw [run_sizeOf]
    simp [sliced, slAt]) hk
theorem op_slice_h {t e s b z x y2 a len cap k2} {h : Nat} [Und P t (.slice e)] [Inf P e s b z] (hk : K (slAt a 0 s h cap) G)
    (hx : evalE E x = some (.slice a len cap) := by exact rfl) (hz : evalE E y2 = some (.int k2 (h : Int)) := by exact rfl) (h2 : h ≤ cap := by omega) :
    OpT P W n ds ⟨dst, .slice t x none (some y2) none, ty, pos, af, g⟩ E G K :=
  op_of_run (fun a' w ho _ => by
    obtain ⟨u1, u2⟩ := und_elem (P := P) (t := t)
    simp only [execOp, ho.eval hx, ho.eval hz, Option.map_some, Option.map_none]
    refine run_v ?_
    rw [run_sliceAt_slice (P := P) (w := w) t _ _ _ _ u1, run_slice_h (P := P) (w := w) (t := t) (a := a) (len := len) (cap := cap) u1 k2 h (by omega) (by omega), u2]
    rw [run_sizeOf]
    simp [sliced, slAt]) hk
theorem op_slice_l {t e s b z x y a len cap k1} {l : Nat} [Und P t (.slice e)] [Inf P e s b z] (hk : K (slAt a l s len cap) G)
    (hx : evalE E x = some (.slice a len cap) := by exact rfl) (hy : evalE E y = some (.int k1 (l : Int)) := by exact rfl) (h1 : l ≤ len := by omega) :
    OpT P W n ds ⟨dst, .slice t x (some y) none none, ty, pos, af, g⟩ E G K :=
  op_of_run (fun a' w ho _ => by
    obtain ⟨u1, u2⟩ := und_elem (P := P) (t := t)
    simp only [execOp, ho.eval hx, ho.eval hy, Option.map_some, Option.map_none]
    refine run_v ?_
    rw [run_sliceAt_slice (P := P) (w := w) t _ _ _ _ u1, run_slice_l (P := P) (w := w) (t := t) (a := a) (len := len) (cap := cap) u1 k1 l (by omega) (by omega), u2]
    rw [run_sizeOf]
    simp [sliced, slAt]) hk
theorem op_slice_all {t e s b z x a len cap} [Und P t (.slice e)] [Inf P e s b z] (hk : K (slAt a 0 s len cap) G)
    (hx : evalE E x = some (.slice a len cap) := by exact rfl) :
    OpT P W n ds ⟨dst, .slice t x none none none, ty, pos, af, g⟩ E G K :=
  op_of_run (fun a' w ho _ => by
    obtain ⟨u1, u2⟩ := und_elem (P := P) (t := t)
    simp only [execOp, ho.eval hx, Option.map_none]
    refine run_v ?_
    rw [run_sliceAt_slice (P := P) (w := w) t _ _ _ _ u1, run_slice_all (P := P) (w := w) (t := t) (a := a) (len := len) (cap := cap) u1, u2]
    rw [run_sizeOf]
    simp [sliced, slAt]) hk

/-- A part of a slice. -/
theorem SlN.cut {s G v m cs a len cap} (hs : SlN s G v m cs) (hv : v = .slice a len cap) {l h : Nat} (hl : l ≤ h) (hh : h ≤ m) : SlN s G (slAt a l s h cap) (h - l) ((cs.drop (l * s)).take ((h - l) * s)) := by
  obtain ⟨h0, a', cap', h1, hc, h2⟩ := hs
  rw [hv] at h1
  cases h1
  refine ⟨?_, _, cap - l, rfl, by omega, fun hn => ?_⟩
  · rw [List.length_take, List.length_drop, h0, Nat.min_eq_left]
    have : h * s ≤ m * s := Nat.mul_le_mul_right _ hh
    rw [Nat.sub_mul]; omega
  · obtain ⟨k, off, L, T, fz, rfl, h4, h5⟩ := h2 (by omega)
    refine ⟨k, off + l * s, L, T, fz, ?_, h4, ?_⟩
    · rw [if_neg (by omega)]
      simp [addr_add]
    · rw [← h5, List.drop_take, List.drop_drop, List.take_take]
      congr 1
      have : h * s ≤ m * s := Nat.mul_le_mul_right _ hh
      have : (h - l) * s = h * s - l * s := Nat.sub_mul ..
      have : l * s ≤ h * s := Nat.mul_le_mul_right _ hl
      omega
theorem FS.cut {G xs a len cap} (hs : FS G (.slice a len cap) xs) {l h : Nat} (hl : l ≤ h) (hh : h ≤ xs.length) : FS G (slAt a l 1 h cap) ((xs.drop l).take (h - l)) := by
  have := (FS.toN hs).cut rfl hl hh
  rw [Nat.mul_one, Nat.mul_one, ← List.map_drop, ← List.map_take] at this
  exact SlN.toFS this
theorem slAt_self {a : Option Addr} {s h cap : Nat} : slAt a 0 s h cap = .slice a h cap := by
  unfold slAt
  split <;> cases a <;> simp [addr_add_zero]

/-- make -/
theorem op_makeSlice {t e s b z x y k1 k2} {l c : Nat} [Und P t (.slice e)] [hI : Inf P e s b z]
    (hk : ∀ k, K (.slice (some ⟨k, 0, none⟩) l c) ((k, .cells ⟨(List.range (c * s)).map (fun i => z[i % z.length]!)⟩ e (0, 0)) :: G))
    (hlc : l ≤ c) (hb : b * c ≤ 281474976710656) (hbig : c ≤ 9223372036854775807) (hx : evalE E x = some (.int k1 (l : Int)) := by exact rfl) (hy : evalE E y = some (.int k2 (c : Int)) := by exact rfl) :
    OpT P W n ds ⟨dst, .makeSlice t x y, ty, pos, af, g⟩ E G K := by
  refine op_new (o := .cells ⟨(List.range (c * s)).map (fun i => z[i % z.length]!)⟩ e (0, 0)) (val := fun k => .slice (some ⟨k, 0, none⟩) l c) (fun a w ho _ => ?_) hk
  obtain ⟨i, zv, hi, rfl, rfl, hz, hzc⟩ := hI.get
  simp only [execOp, ho.eval hx, ho.eval hy]
  refine run_v ?_
  rw [run_make (P := P) w t e i zv Und.eq hi hz k1 k2 l c (by omega) (by omega) (by have h : ((i.bytes * c : Nat) : Int) ≤ 281474976710656 := (by omega); rwa [Int.natCast_mul] at h) (by omega)]
  congr 1
  simp only [World.alloc, madeCells, Int.toNat_natCast]
  congr 3
  rw [hzc]
  apply Array.ext'
  simp

/-! whole numbers -/
theorem op_iquo {t t2 x y k u v} (hk : K (.int k (k.wrap (u.tdiv v))) G) (hv : v ≠ 0 := by first | decide | assumption | omega) (hx : evalE E x = some (.int k u) := by exact rfl) (hy : evalE E y = some (.int k v) := by exact rfl) :
    OpT P W n ds ⟨dst, .binOp .quo t x y t2, ty, pos, af, g⟩ E G K :=
  op_of_run (fun a w ho _ => by
    simp only [execOp, ho.eval hx, ho.eval hy]
    refine run_v ?_
    refine (sem_run_bind P _ _ w () w rfl).trans ?_
    simp only [binOp, ne_eq, not_true_eq_false, if_false, Op.intDiv, if_neg hv]; rfl) hk
theorem op_irem {t t2 x y k u v} (hk : K (.int k (u.tmod v)) G) (hv : v ≠ 0 := by first | decide | assumption | omega) (hx : evalE E x = some (.int k u) := by exact rfl) (hy : evalE E y = some (.int k v) := by exact rfl) :
    OpT P W n ds ⟨dst, .binOp .rem t x y t2, ty, pos, af, g⟩ E G K :=
  op_of_run (fun a w ho _ => by
    simp only [execOp, ho.eval hx, ho.eval hy]
    refine run_v ?_
    refine (sem_run_bind P _ _ w () w rfl).trans ?_
    simp only [binOp, ne_eq, not_true_eq_false, if_false, Op.intDiv, if_neg hv]; rfl) hk
theorem op_slice_isnil {t t2 x e a l c} [h : Und P t (.slice e)] (hk : K (.bool a.isNone) G) (hx : evalE E x = some (.slice a l c) := by exact rfl) :
    OpT P W n ds ⟨dst, .binOp .eql t x (.const (.slice none 0 0)) t2, ty, pos, af, g⟩ E G K :=
  op_of_run (fun a' w ho _ => by
    simp only [execOp, ho.eval hx]
    refine run_v ?_
    refine (sem_run_bind P _ _ w () w rfl).trans ?_
    exact (sem_run_bind P _ _ w _ w (run_equal_slice_nil (P := P) w t e a l c h.eq)).trans rfl) hk
theorem op_slice_notnil {t t2 x e a l c} [h : Und P t (.slice e)] (hk : K (.bool (!a.isNone)) G) (hx : evalE E x = some (.slice a l c) := by exact rfl) :
    OpT P W n ds ⟨dst, .binOp .neq t x (.const (.slice none 0 0)) t2, ty, pos, af, g⟩ E G K :=
  op_of_run (fun a' w ho _ => by
    simp only [execOp, ho.eval hx]
    refine run_v ?_
    refine (sem_run_bind P _ _ w () w rfl).trans ?_
    exact (sem_run_bind P _ _ w _ w (run_equal_slice_nil (P := P) w t e a l c h.eq)).trans rfl) hk
theorem op_imax {x y tx t2 k u v} (hk : K (.int k (if v > u then v else u)) G) (hx : evalE E x = some (.int k u) := by exact rfl) (hy : evalE E y = some (.int k v) := by exact rfl) :
    OpT P W n ds ⟨dst, .call { callee := .builtin .max, args := #[x, y], argTypes := #[tx, t2] }, ty, pos, af, g⟩ E G K :=
  op_of_run (fun a' w ho _ => by
    simp only [execOp, resolve, invoke]
    refine (sem_run_bind P _ _ w _ w rfl).trans ?_
    refine run_v ?_
    simp only [List.map_toArray, List.map_cons, List.map_nil, ho.eval hx, ho.eval hy]
    rfl) hk
theorem op_imin {x y tx t2 k u v} (hk : K (.int k (if v < u then v else u)) G) (hx : evalE E x = some (.int k u) := by exact rfl) (hy : evalE E y = some (.int k v) := by exact rfl) :
    OpT P W n ds ⟨dst, .call { callee := .builtin .min, args := #[x, y], argTypes := #[tx, t2] }, ty, pos, af, g⟩ E G K :=
  op_of_run (fun a' w ho _ => by
    simp only [execOp, resolve, invoke]
    refine (sem_run_bind P _ _ w _ w rfl).trans ?_
    refine run_v ?_
    simp only [List.map_toArray, List.map_cons, List.map_nil, ho.eval hx, ho.eval hy]
    rfl) hk
def ibits (op : BinOp) (k : IntKind) (x y : Int) : Int :=
  let a := BitVec.ofInt k.bits x
  let b := BitVec.ofInt k.bits y
  match op with
  | .and => k.wrap (a &&& b).toNat
  | .or => k.wrap (a ||| b).toNat
  | .xor => k.wrap (a ^^^ b).toNat
  | _ => k.wrap (a &&& ~~~b).toNat
def BinOp.isBits : BinOp → Bool
  | .and | .or | .xor | .andNot => true
  | _ => false
theorem op_ibits {op t t2 x y k u v} (hk : K (.int k (ibits op k u v)) G) (hc : BinOp.isBits op = true := by exact rfl) (hx : evalE E x = some (.int k u) := by exact rfl) (hy : evalE E y = some (.int k v) := by exact rfl) :
    OpT P W n ds ⟨dst, .binOp op t x y t2, ty, pos, af, g⟩ E G K :=
  op_of_run (fun a w ho _ => by
    simp only [execOp, ho.eval hx, ho.eval hy]
    refine run_v ?_
    refine (sem_run_bind P _ _ w () w ?_).trans ?_
    · cases op <;> first | (cases hc; done) | rfl
    · cases op <;> first | (cases hc; done) | (simp only [binOp, ne_eq, not_true_eq_false, if_false]; rfl)) hk
theorem op_shl {t t2 x y k k2 u} {v : Int} (hk : K (.int k (k.wrap (u * 2 ^ min v.toNat k.bits))) G) (hv : 0 ≤ v := by first | decide | assumption | omega) (hx : evalE E x = some (.int k u) := by exact rfl) (hy : evalE E y = some (.int k2 v) := by exact rfl) :
    OpT P W n ds ⟨dst, .binOp .shl t x y t2, ty, pos, af, g⟩ E G K :=
  op_of_run (fun a w ho _ => by
    simp only [execOp, ho.eval hx, ho.eval hy]
    refine run_v ?_
    refine (sem_run_bind P _ _ w () w rfl).trans ?_
    simp only [binOp, Op.shift, if_neg (show ¬ v < 0 by omega)]; rfl) hk
theorem op_shr {t t2 x y k k2 u} {v : Int} (hk : K (.int k (u.fdiv (2 ^ min v.toNat k.bits))) G) (hv : 0 ≤ v := by first | decide | assumption | omega) (hx : evalE E x = some (.int k u) := by exact rfl) (hy : evalE E y = some (.int k2 v) := by exact rfl) :
    OpT P W n ds ⟨dst, .binOp .shr t x y t2, ty, pos, af, g⟩ E G K :=
  op_of_run (fun a w ho _ => by
    simp only [execOp, ho.eval hx, ho.eval hy]
    refine run_v ?_
    refine (sem_run_bind P _ _ w () w rfl).trans ?_
    simp only [binOp, Op.shift, if_neg (show ¬ v < 0 by omega)]; rfl) hk

theorem wrap_add {a b : Int} (h0 : -9223372036854775808 ≤ a + b) (h1 : a + b < 9223372036854775808) : IntKind.i64.wrap (iarith .add a b) = a + b := wrap_in h0 h1
theorem wrap_sub {a b : Int} (h0 : -9223372036854775808 ≤ a - b) (h1 : a - b < 9223372036854775808) : IntKind.i64.wrap (iarith .sub a b) = a - b := wrap_in h0 h1
theorem wrap_mul {a b : Int} (h0 : -9223372036854775808 ≤ a * b) (h1 : a * b < 9223372036854775808) : IntKind.i64.wrap (iarith .mul a b) = a * b := wrap_in h0 h1
/-- A slot's number under another name. -/
theorem geti {E : Env} {t : Nat} {k : IntKind} {a b : Int} (h : Env.get E t = some (.int k a)) (e : a = b) : Env.get E t = some (.int k b) := e ▸ h

theorem gete {E : Env} {x : Operand} {k : IntKind} {a b : Int} (h : evalE E x = some (.int k a)) (e : a = b) : evalE E x = some (.int k b) := e ▸ h
theorem sum_take_succ {α : Type} (f : α → Nat) : ∀ (l : List α) (j : Nat) (x : α), l[j]? = some x → ((l.take (j + 1)).map f).sum = ((l.take j).map f).sum + f x
  | [], j, x, h => by simp at h
  | a :: l, 0, x, h => by simp at h; subst h; simp
  | a :: l, j + 1, x, h => by
    have := sum_take_succ f l j x (by simpa using h)
    simp only [List.take_succ_cons, List.map_cons, List.sum_cons] at this ⊢
    omega
theorem sum_take_le {α : Type} (f : α → Nat) : ∀ (l : List α) (j : Nat), ((l.take j).map f).sum ≤ (l.map f).sum
  | [], j => by simp
  | a :: l, 0 => by simp
  | a :: l, j + 1 => by have := sum_take_le f l j; simp only [List.take_succ_cons, List.map_cons, List.sum_cons]; omega
theorem sum_get_le {α : Type} (f : α → Nat) : ∀ (l : List α) (j : Nat) (x : α), l[j]? = some x → ((l.take j).map f).sum + f x ≤ (l.map f).sum
  | [], j, x, h => by simp at h
  | a :: l, 0, x, h => by simp at h; subst h; simp
  | a :: l, j + 1, x, h => by
    have := sum_get_le f l j x (by simpa using h)
    simp only [List.take_succ_cons, List.map_cons, List.sum_cons]; omega
theorem take_len {α : Type} {l : List α} {j : Nat} (hj : ¬ j < l.length) : l.take j = l := List.take_of_length_le (by omega)

/-! copy -/
theorem Sees.setRowA {A H : Heap} {w : World} {k : Nat} {l l' : List Value} {T : TypeId} {fz : Nat × Nat} (h : Sees W (A ++ (k, Obj.cells ⟨l⟩ T fz) :: H) w) :
    Sees W (A ++ (k, Obj.cells ⟨l'⟩ T fz) :: H) (w.setRow k ⟨l'⟩) :=
  ((h.perm List.perm_middle.symm).setRow).perm List.perm_middle

def spliceAt (l : List Value) (off : Nat) (cs : List Value) : List Value := l.take off ++ cs ++ l.drop (off + cs.length)

theorem op_copy {t t2 e b z x y k off l T dl dc v m cs A B} [Und P t (.slice e)] [hI : Inf P e 1 b z]
    (hk : K (.int .i64 ((min m dl : Nat) : Int)) (A ++ (k, Obj.cells ⟨spliceAt l off (cs.take (min m dl))⟩ T (0, 0)) :: B))
    (hs : SlN 1 G v m cs) (h1 : ∀ u ∈ cs, u.oneCell' = true)
    (hx : evalE E x = some (.slice (some ⟨k, off, none⟩) dl dc) := by exact rfl) (hy : evalE E y = some v := by exact rfl) (hG : G = A ++ (k, Obj.cells ⟨l⟩ T (0, 0)) :: B := by exact rfl) (hfit : off + dl ≤ l.length := by first | omega | (simp; done) | (simp; omega)) :
    OpT P W n ds ⟨dst, .call { callee := .builtin .copy, args := #[x, y], argTypes := #[t, t2] }, ty, pos, af, g⟩ E G K := by
  refine ⟨fun a w next Q ho hsw hn => ?_⟩
  obtain ⟨h0, a', cap, rfl, hc, h2⟩ := hs
  rw [Nat.mul_one] at h0
  have hsz : (P.info? e).map (·.size) = some 1 := by
    obtain ⟨i, _, hi, h3, _⟩ := hI.get
    rw [hi]; simp [h3]
  have key : ∃ w', (Builtin.copy_ #[t, t2] ty #[.slice (some ⟨k, off, none⟩) dl dc, .slice a' m cap]).run P w = .ok (.int .i64 ((min m dl : Nat) : Int)) w' ∧ Sees W (A ++ (k, Obj.cells ⟨spliceAt l off (cs.take (min m dl))⟩ T (0, 0)) :: B) w' := by
    subst hG
    have hm0 := hsw.mem k _ (List.mem_append_right A List.mem_cons_self)
    by_cases hm : m = 0
    · subst hm
      have hcs : cs = [] := List.eq_nil_of_length_eq_zero h0
      subst hcs
      obtain ⟨i, zv, hi, h3, _⟩ := hI.get
      refine ⟨w, ?_, ?_⟩
      · cases a' with
        | none => simp [Builtin.copy_, run_underlying, Builtin.lenOf, Builtin.firstCells, run_sizeOf, storeCells, goInt, run_underlying (P := P) (t := t), Sem.run_bind]
        | some a' => simp [Builtin.copy_, run_underlying, Builtin.lenOf, Builtin.firstCells, run_sizeOf, storeCells, goInt, run_underlying (P := P) (t := t), Sem.run_bind, loadCells, loadCellsFrom]
      · simpa [spliceAt] using hsw
    · obtain ⟨ks, offs, ls, Ts, fzs, rfl, h4, h5⟩ := h2 hm
      rw [Nat.mul_one] at h5
      have hlen : (cs.take (min m dl)).length = Nat.min m dl := by
        rw [List.length_take, h0]; show min (min m dl) m = min m dl; omega
      have hr := run_copy_row P w t t2 ty e k off dl dc ⟨ks, offs, none⟩ m cap ⟨l⟩ T (cs.take (min m dl)) Und.eq hsz hm0 hlen
        (fun j u hj => by
          rw [addr_add]
          refine hsw.cell h4 (cut_get h5 ?_)
          rw [List.getElem?_take] at hj
          split at hj
          · exact hj
          · cases hj)
        (by rw [hlen]; show off + Nat.min m dl ≤ l.length; have : Nat.min m dl ≤ dl := Nat.min_le_right ..; omega) (fun u hu => h1 u (List.mem_of_mem_take hu))
      refine ⟨w.setRow k ⟨spliceAt l off (cs.take (min m dl))⟩, ?_, hsw.setRowA⟩
      rw [hr]
      unfold spliceAt
      rw [hlen]
      rfl
  obtain ⟨w', hr, hs'⟩ := key
  have he : (execOp a.eval ⟨dst, .call { callee := .builtin .copy, args := #[x, y], argTypes := #[t, t2] }, ty, pos, af, g⟩).run P w = .ok (.value (.int .i64 ((min m dl : Nat) : Int))) w' := by
    simp only [execOp, resolve, invoke]
    refine (sem_run_bind P _ _ w _ w rfl).trans ?_
    refine run_v ?_
    simp only [List.map_toArray, List.map_cons, List.map_nil, ho.eval hx, ho.eval hy]
    exact hr
  rw [he]
  exact hn _ _ _ hs' hk

theorem oneCell_fl (xs : List Nat) : ∀ u ∈ xs.map fl, u.oneCell' = true := by
  intro u hu
  obtain ⟨x, _, rfl⟩ := List.mem_map.1 hu
  rfl

/-- append of a slice, empty or not -/
theorem op_appendS {t e s b z x y m v H'} (buf : Buf) (l : Nat) (ws news : List Value) [Und P t (.slice e)] [hI : Inf P e s b z] (hok : bufOk s buf l ws)
    (hk : ∀ buf', bufOk s buf' (l + m) (ws ++ news) → (m = 0 → buf' = buf) → K (bufV buf' (l + m)) (bufH e buf' (ws ++ news) H'))
    (hs : SlN s G v m news) (hx : evalE E x = some (bufV buf l)) (hy : evalE E y = some v) (hsub : List.Sublist (bufH e buf ws H') G)
    (h1 : ∀ u ∈ news, u.oneCell' = true) (hbig : l + m ≤ maxLen) (hbytes : (l + m) * b ≤ 140737488355328) (hz0 : z.length = s := by exact rfl) :
    OpT P W n ds ⟨dst, .call { callee := .builtin .append, args := #[x, y], argTypes := #[t, t] }, ty, pos, af, g⟩ E G K := by
  obtain ⟨h0, a', cap, rfl, hc, h2⟩ := hs
  by_cases hm : m = 0
  · subst hm
    have hnl : news = [] := List.eq_nil_of_length_eq_zero (by simpa using h0)
    subst hnl
    simp only [Nat.add_zero, List.append_nil] at hk ⊢
    have key : ∀ w, (Builtin.append_ #[t, t] ty #[bufV buf l, .slice a' 0 cap]).run P w = .ok (bufV buf l) w := by
      intro w
      have hsl : (loadCells ⟨0, 0, none⟩ 0).run P w = .ok #[] w := rfl
      cases buf with
      | none =>
        obtain ⟨rfl, rfl⟩ := hok
        cases a' <;> simp [bufV, Builtin.append_, run_underlying (P := P) (t := t), run_sizeOf (P := P) (t := e), Builtin.lenOf, Builtin.firstCells, Sem.run_bind, loadCells, loadCellsFrom]
      | some bb =>
        obtain ⟨kk, cc, sp⟩ := bb
        obtain ⟨q1, q2, q3, q4⟩ := hok
        cases a' <;> simp [bufV, Builtin.append_, run_underlying (P := P) (t := t), run_sizeOf (P := P) (t := e), Builtin.lenOf, Builtin.firstCells, Sem.run_bind, loadCells, loadCellsFrom, q1, storeCells]
    refine ⟨fun a w next Q ho hsw hn => ?_⟩
    have he : (execOp a.eval ⟨dst, .call { callee := .builtin .append, args := #[x, y], argTypes := #[t, t] }, ty, pos, af, g⟩).run P w = .ok (.value (bufV buf l)) w := by
      simp only [execOp, resolve, invoke]
      refine (sem_run_bind P _ _ w _ w rfl).trans ?_
      refine run_v ?_
      simp only [List.map_toArray, List.map_cons, List.map_nil, ho.eval hx, ho.eval hy]
      exact key w
    rw [he]
    exact hn _ _ _ (hsw.sub hsub) (hk buf hok fun _ => rfl)
  · obtain ⟨k, off, L, T, fz, rfl, h4, h5⟩ := h2 hm
    exact op_append buf l ws news hok (fun buf' h => hk buf' h fun h => absurd h hm) hx hy hsub h4 h5 h0 h1 (by omega) hbig hbytes hz0
end ops

theorem does_bits {P : Program} {f : FuncId} {fn : Func} {H : Heap} {x : Nat}
    (hf : P.funcs[f]? = some fn) (hn : (fn.name == "runtime.NumGoroutine") = false) (hbd : fn.body.isNone = true) (h1 : (Extern.findNext fn).isNone = true)
    (h2 : Extern.find fn = some Extern.MathFloatBits.float64bits) : Does P f [.float .f64 x] H fun v H' => v = .int .u64 (x : Int) ∧ H' = H :=
  does_extern hf hn hbd h1 h2 fun W w hs => ⟨_, w, rfl, hs, rfl, rfl⟩
theorem does_frombits {P : Program} {f : FuncId} {fn : Func} {H : Heap} {x : Nat}
    (hf : P.funcs[f]? = some fn) (hn : (fn.name == "runtime.NumGoroutine") = false) (hbd : fn.body.isNone = true) (h1 : (Extern.findNext fn).isNone = true)
    (h2 : Extern.find fn = some Extern.MathFloatBits.float64frombits) : Does P f [.int .u64 (x : Int)] H fun v H' => v = .float .f64 x ∧ H' = H :=
  does_extern hf hn hbd h1 h2 fun W w hs => ⟨_, w, rfl, hs, rfl, rfl⟩

/-- Rows of n places of s numbers each. -/
def chunks (s n : Nat) (xs : List Nat) : List (List Nat) := (List.range n).map fun i => (xs.drop (i * s)).take s
theorem chunks_get {s n i : Nat} {xs : List Nat} (hi : i < n) : (chunks s n xs)[i]? = some ((xs.drop (i * s)).take s) := by simp [chunks, hi]
theorem chunks_len (s n : Nat) (xs : List Nat) : (chunks s n xs).length = n := by simp [chunks]
theorem chunks_succ (s n : Nat) (xs : List Nat) : chunks s (n + 1) xs = chunks s n xs ++ [(xs.drop (n * s)).take s] := by simp [chunks, List.range_succ]
theorem All2.snoc {α β : Type} {p : α → β → Prop} : ∀ {as0 bs} {a b}, All2 p as0 bs → p a b → All2 p (as0 ++ [a]) (bs ++ [b])
  | [], [], _, _, _, h => ⟨h, trivial⟩
  | [], _ :: _, _, _, h, _ => h.elim
  | _ :: _, [], _, _, h, _ => h.elim
  | _ :: _, _ :: _, _, _, h, h' => ⟨h.1, All2.snoc h.2 h'⟩
theorem sl_buf {e : TypeId} {buf : Buf} {ws : List Value} {n : Nat} {H : Heap} (h : bufOk 1 buf n ws) : Sl (bufH e buf ws H) (bufV buf n) ws := by
  cases buf with
  | none =>
    obtain ⟨rfl, h2⟩ := h
    exact ⟨none, 0, by rw [h2]; rfl, by rw [h2]; simp, fun hn => (hn h2).elim⟩
  | some b =>
    obtain ⟨k, cap, sp⟩ := b
    obtain ⟨h1, h2, h3, h4⟩ := h
    refine ⟨some ⟨k, 0, none⟩, cap, by simp only [bufV]; congr 1; omega, by omega, fun _ => ⟨k, 0, _, e, (0, 0), rfl, List.mem_cons_self, ?_⟩⟩
    rw [List.drop_zero, List.take_left]
theorem splice_all {l cs : List Value} (h : cs.length = l.length) : spliceAt l 0 cs = cs := by
  unfold spliceAt; simp [h]
theorem made_rep (n : Nat) (z : Value) : (List.range (n * 1)).map (fun i => [z][i % [z].length]!) = List.replicate n z := by
  apply List.ext_getElem
  · simp
  · intro i h1 h2
    simp [Nat.mod_one]
theorem set_snoc {ws : List Value} {m : Nat} {z v : Value} : (ws ++ List.replicate (m + 1) z).set ws.length v = (ws ++ [v]) ++ List.replicate m z := by
  rw [List.set_append_right _ _ (Nat.le_refl _)]
  simp [List.replicate_succ]
end Go.Lg

set_option linter.unusedVariables false
set_option linter.unusedSimpArgs false
namespace Go.Lg

/-- What is asked of a panic does not look at the slots. -/
def PQ (Q : Exit → Act → World → Prop) : Prop := ∀ c a (d : Option Tmp) v w, Q (.panic c) (a.put d v) w → Q (.panic c) a w
theorem put_defers (a : Act) (d : Option Tmp) (v : Value) : (a.put d v).defers = a.defers := by cases d <;> rfl
theorem pq_seq {P : Program} {y : Code} {Q} (h : PQ Q) : PQ (QSeq P y Q) := fun c a d v w hq => h c a d v w hq
theorem pq_block {id} {Q} (h : PQ Q) : PQ (Exit.inBlock id Q) := fun c a d v w hq => h c a d v w hq
theorem pq_loop {ι : Type} {W n ds} {I : ι → Env} {J : ι → Heap} {ok : ι → Prop} {μ : ι → Nat} {m Q} (h : PQ Q) : PQ (QLoop W n ds I J ok μ m Q) := fun c a d v w hq => h c a d v w hq
theorem pq_body {P : Program} {fn : Func} {R} : PQ (bodyPost P fn R) := fun c a d v w hq => by
  simp only [bodyPost, put_defers] at hq ⊢; exact hq

/-- An operation that gives v whatever memory holds. -/
def YT (P : Program) (n : Nat) (ds : List Deferred) (o : Oper) (E : Env) (v : Value) : Prop := ∀ a, Ok n ds E a → ∀ w, (execOp a.eval o).run P w = .ok (.value v) w

structure TA (P : Program) (W : World) (n : Nat) (ds : List Deferred) (ops : List Oper) (Q : Exit → Act → World → Prop) (fuel : Nat) (listed : List Bool) (E : Env) (G : Heap) : Prop where
  run : ∀ a w, Ok n ds E a → Sees W G w → wpAny P .any ops.toArray Q fuel ⟨listed⟩ a w

section
variable {P : Program} {W : World} {n : Nat} {ds : List Deferred} {ops : List Oper} {Q : Exit → Act → World → Prop} {E : Env} {G : Heap} {listed : List Bool} {fuel : Nat}
variable {ty : TypeId} {pos : String} {af : Array Edge} {d : Tmp}

theorem tc_any {id : Nat} (hm : P.follows .mixedOrders = true) (h : TA P W n ds ops Q ops.length (List.replicate ops.length false) E G) : TC P W n ds (.region id ops.toArray true) Q E G := by
  refine ⟨fun a w ho hs => wp_region_any hm ?_⟩
  have := h.run a { w with drawn := w.drawn + 1 } ho (hs.drew _)
  simpa using this

theorem ta_take (i : Nat) {o : Oper} {v : Value} (hi : ops[i]? = some o) (hs : Region.noSelect ops.toArray = true) (hf : Region.free .any ops.toArray ⟨listed⟩ i = true)
    (hr : (Region.ready .any ops.toArray ⟨listed⟩).contains i = true) (hQ : PQ Q) (hg : o.guard = none) (ho : o.dst = some d) (hd : d < n) (hy : YT P n ds o E v)
    (h : TA P W n ds ops Q fuel (listed.set i true) ((d, v) :: E) G) : TA P W n ds ops Q (fuel + 1) listed E G := by
  refine ⟨fun a w hok hsw => ?_⟩
  refine wpAny_take (i := i) (oi := o) (v := v) (by simpa using hi) hs hf hr (fun c a w => hQ c a _ _ w) (.inl ⟨by simp [Region.wanted, hg], hy a hok⟩) ?_
  have := h.run (a.put o.dst v) w (by rw [ho]; exact hok.put hd v) hsw
  simpa using this

theorem ta_step (i : Nat) {op : Op} {o : Oper} (hi : ops[i]? = some o) (hg : o.guard = none) {K}
    (h : OpT P W n ds o E G K) (hK : ∀ v G' a w, K v G' → Sees W G' w → Ok n ds E a → wpAny P .any ops.toArray Q fuel ⟨listed.set i true⟩ (a.put o.dst v) w) :
    ∀ a w, Ok n ds E a → Sees W G w → wpOp P ops.toArray Q i (wpAny P .any ops.toArray Q fuel ((⟨listed⟩ : Array Bool).setIfInBounds i true)) a w := by
  intro a w hok hsw
  unfold wpOp
  simp only [List.getElem?_toArray, hi]
  rw [if_pos (by simp [Region.wanted, hg])]
  refine .inl (h.run a w _ Q hok hsw fun v G' w' hs' hk => ?_)
  have := hK v G' a w' hk hs' hok
  simpa using this

/-- The only operation that is ready. -/
theorem ta_only (i : Nat) {op : Op} (hr : Region.ready .any ops.toArray ⟨listed⟩ = [i]) (hi : ops[i]? = some ⟨some d, op, ty, pos, af, none⟩) (hd : d < n)
    (h : OpT P W n ds ⟨some d, op, ty, pos, af, none⟩ E G (fun v G' => TA P W n ds ops Q fuel (listed.set i true) ((d, v) :: E) G')) : TA P W n ds ops Q (fuel + 1) listed E G :=
  ⟨fun a w hok hsw => wpAny_all hr (by simp) fun j hj => by
    simp only [List.mem_singleton] at hj; subst hj
    exact ta_step (op := op) _ hi rfl h (fun v G' a w hk hs hok => hk.run _ _ (hok.put hd v) hs) a w hok hsw⟩
theorem ta_only0 (i : Nat) {op : Op} (hr : Region.ready .any ops.toArray ⟨listed⟩ = [i]) (hi : ops[i]? = some ⟨none, op, ty, pos, af, none⟩)
    (h : OpT P W n ds ⟨none, op, ty, pos, af, none⟩ E G (fun v G' => TA P W n ds ops Q fuel (listed.set i true) E G')) : TA P W n ds ops Q (fuel + 1) listed E G :=
  ⟨fun a w hok hsw => wpAny_all hr (by simp) fun j hj => by
    simp only [List.mem_singleton] at hj; subst hj
    exact ta_step (op := op) _ hi rfl h (fun v G' a w hk hs hok => hk.run _ _ hok hs) a w hok hsw⟩
/-- Two are ready. -/
theorem ta_two (i j : Nat) {op op2 : Op} {ty2 pos2 af2} {d2 : Tmp} (hr : Region.ready .any ops.toArray ⟨listed⟩ = [i, j])
    (hi : ops[i]? = some ⟨some d, op, ty, pos, af, none⟩) (hd : d < n) (hj : ops[j]? = some ⟨some d2, op2, ty2, pos2, af2, none⟩) (hd2 : d2 < n)
    (h1 : OpT P W n ds ⟨some d, op, ty, pos, af, none⟩ E G (fun v G' => TA P W n ds ops Q fuel (listed.set i true) ((d, v) :: E) G'))
    (h2 : OpT P W n ds ⟨some d2, op2, ty2, pos2, af2, none⟩ E G (fun v G' => TA P W n ds ops Q fuel (listed.set j true) ((d2, v) :: E) G')) : TA P W n ds ops Q (fuel + 1) listed E G :=
  ⟨fun a w hok hsw => wpAny_all hr (by simp) fun k hk => by
    simp only [List.mem_cons, List.not_mem_nil, or_false] at hk
    rcases hk with rfl | rfl
    · exact ta_step (op := op) _ hi rfl h1 (fun v G' a w hk hs hok => hk.run _ _ (hok.put hd v) hs) a w hok hsw
    · exact ta_step (op := op2) _ hj rfl h2 (fun v G' a w hk hs hok => hk.run _ _ (hok.put hd2 v) hs) a w hok hsw⟩
theorem ta_done (hr : Region.ready .any ops.toArray ⟨listed⟩ = []) (h : At W n ds Q .normal E G) : TA P W n ds ops Q fuel listed E G :=
  ⟨fun a w hok hsw => wpAny_done hr (h.run a w hok hsw) fuel⟩

/-! pure operations -/
section pure
variable {dst : Option Tmp} {g : Option (Nat × Bool)}
theorem y_of {op : Op} {v : Value} (h : ∀ a w, Ok n ds E a → (execOp a.eval ⟨dst, op, ty, pos, af, g⟩).run P w = .ok (.value v) w) : YT P n ds ⟨dst, op, ty, pos, af, g⟩ E v := fun a ho w => h a w ho
theorem y_move {x v} (hx : evalE E x = some v := by exact rfl) : YT P n ds ⟨dst, .move x, ty, pos, af, g⟩ E v := y_of fun a w ho => by simp only [execOp, ho.eval hx]; rfl
theorem y_assign {x v} (hx : evalE E x = some v := by exact rfl) : YT P n ds ⟨dst, .assign x, ty, pos, af, g⟩ E v := y_of fun a w ho => by simp only [execOp, ho.eval hx]; rfl
theorem y_iarith {op t t2 x y k u v} (hc : BinOp.isRing op = true := by exact rfl) (hx : evalE E x = some (.int k u) := by exact rfl) (hy : evalE E y = some (.int k v) := by exact rfl) :
    YT P n ds ⟨dst, .binOp op t x y t2, ty, pos, af, g⟩ E (.int k (k.wrap (iarith op u v))) := y_of fun a w ho => by
  simp only [execOp, ho.eval hx, ho.eval hy]
  refine run_v ?_
  refine (sem_run_bind P _ _ w () w ?_).trans ?_
  · cases op <;> first | (cases hc; done) | rfl
  · cases op <;> first | (cases hc; done) | (simp only [binOp, ne_eq, not_true_eq_false, if_false]; rfl)
theorem y_indexAddr {t e s b z x y k off len cap kk} {j : Nat} [Und P t (.slice e)] [Inf P e s b z] (hx : evalE E x = some (.slice (some ⟨k, off, none⟩) len cap) := by exact rfl) (hy : evalE E y = some (.int kk (j : Int)) := by exact rfl)
    (hj : j < len := by first | assumption | omega) : YT P n ds ⟨dst, .indexAddr t x y, ty, pos, af, g⟩ E (.pointer (some ⟨k, off + j * s, none⟩)) := y_of fun a w ho => by
  simp only [execOp, ho.eval hx, ho.eval hy]
  refine run_v ?_
  refine (sem_run_bind P _ _ w _ w rfl).trans ?_
  refine (sem_run_bind P _ _ w _ w (run_underlying (t := t) w)).trans ?_
  refine (sem_run_bind P _ _ w _ w (run_underlying (t := t) w)).trans ?_
  simp only []
  rw [if_pos ⟨Int.natCast_nonneg j, by omega⟩]
  refine (sem_run_bind P _ _ w s w (run_sizeOf w)).trans ?_
  rw [addr_add, Int.toNat_natCast]; rfl
theorem y_indexAddr1 {t e b z x y k off len cap kk} {j : Nat} [Und P t (.slice e)] [Inf P e 1 b z] (hx : evalE E x = some (.slice (some ⟨k, off, none⟩) len cap) := by exact rfl) (hy : evalE E y = some (.int kk (j : Int)) := by exact rfl)
    (hj : j < len := by first | assumption | omega) : YT P n ds ⟨dst, .indexAddr t x y, ty, pos, af, g⟩ E (.pointer (some ⟨k, off + j, none⟩)) := by
  have := y_indexAddr (P := P) (n := n) (ds := ds) (ty := ty) (pos := pos) (af := af) (dst := dst) (g := g) (t := t) (e := e) (b := b) (z := z) hx hy hj
  rwa [Nat.mul_one] at this
theorem y_eq {o : Oper} {v u : Value} (h : YT P n ds o E v) (e : v = u) : YT P n ds o E u := e ▸ h
end pure
end
end Go.Lg

set_option linter.unusedVariables false
set_option linter.unusedSimpArgs false
namespace Go.Lg
section ops
variable {P : Program} {W : World} {n : Nat} {ds : List Deferred} {E : Env} {G : Heap} {K : Value → Heap → Prop}
variable {dst : Option Tmp} {ty : TypeId} {pos : String} {af : Array Edge} {g : Option (Nat × Bool)}

theorem op_buildSlice0 {t e s b z} [Und P t (.slice e)] [hI : Inf P e s b z] (hk : ∀ k, K (.slice (some ⟨k, 0, none⟩) 0 0) ((k, .cells ⟨[]⟩ e (0, 0)) :: G)) : OpT P W n ds ⟨dst, .buildSlice t 0 #[], ty, pos, af, g⟩ E G K := by
  refine op_new (o := .cells ⟨[]⟩ e (0, 0)) (val := fun k => .slice (some ⟨k, 0, none⟩) 0 0) (fun a w ho _ => ?_) hk
  simp only [execOp]
  refine run_v ?_
  simp only [Instr.buildSlice]
  refine (sem_run_bind P _ _ w _ w (run_underlying (t := t) w)).trans ?_
  refine (sem_run_bind P _ _ w s w (run_sizeOf w)).trans ?_
  rw [if_neg (by omega), if_pos (by omega)]
  refine (sem_run_bind P _ _ w _ w rfl).trans ?_
  have : (Array.range (0 * s)).map (fun i => (#[] : Array Value)[i % (#[] : Array Value).size]!) = #[] := by simp
  rw [this]
  have h2 : Instr.fill (fun i => some (i * s, s)) #[] (Array.map (fun x : Nat × Operand => (x.1, a.eval x.2)) #[]).toList = some #[] := by
    rw [show (Array.map (fun x : Nat × Operand => (x.1, a.eval x.2)) #[]) = #[] from by simp]; rfl
  rw [h2]
  rfl
theorem op_field {t fs i x cs T d v} {f : Field} [hU : Und P t (.struct ⟨fs⟩)] [hT : Und P T d] (hk : K v G) (hx : evalE E x = some (.agg ⟨cs⟩) := by exact rfl) (hf : fs[i]? = some f := by exact rfl)
    (ht : f.type = T := by exact rfl) (hd : TypeDesc.isAgg d = false := by exact rfl) (hv : cs[f.offset]? = some v := by exact rfl) : OpT P W n ds ⟨dst, .field t x i, ty, pos, af, g⟩ E G K :=
  op_of_run (fun a w ho _ => by
    simp only [execOp, ho.eval hx]
    refine run_v ?_
    simp only [Instr.field]
    refine (sem_run_bind P _ _ w _ w (run_underlying (t := t) w)).trans ?_
    simp only [List.getElem?_toArray, hf]
    refine (sem_run_bind P _ _ w _ w rfl).trans ?_
    simp only [part, ht]
    refine (sem_run_bind P _ _ w _ w (run_isAgg (t := T) w)).trans ?_
    rw [hd]
    simp only [List.getElem?_toArray, hv]
    rfl) hk
end ops
end Go.Lg

set_option linter.unusedVariables false
set_option linter.unusedSimpArgs false
namespace Go.Lg

def uv (x : Nat) : Value := .int .u32 (x : Int)
def US (G : Heap) (v : Value) (xs : List Nat) : Prop := Sl G v (xs.map uv)
theorem US.mono {G G' v xs} (h : US G v xs) (hG : ∀ e ∈ G, e ∈ G') : US G' v xs := Sl.mono h hG
theorem US.val {G v xs} (h : US G v xs) : ∃ a cap, v = .slice a xs.length cap := by
  obtain ⟨a, cap, h1, _⟩ := h
  exact ⟨a, cap, by simpa using h1⟩
theorem US.cap {G a n c xs} (h : US G (.slice a n c) xs) : n = xs.length ∧ xs.length ≤ c := by
  obtain ⟨_, _, h1, h2, _⟩ := h
  injection h1 with _ h4 h3
  rw [List.length_map] at h2 h4; omega
theorem US.nil {G} : US G (.slice none 0 0) [] := ⟨none, 0, rfl, Nat.le_refl _, fun h => (h rfl).elim⟩
theorem US.toN {G v xs} (h : US G v xs) : SlN 1 G v xs.length (xs.map uv) := by have := Sl.toN h; simpa using this
theorem oneCell_uv (xs : List Nat) : ∀ u ∈ xs.map uv, u.oneCell' = true := by
  intro u hu
  obtain ⟨x, _, rfl⟩ := List.mem_map.1 hu
  rfl
theorem us_buf {e : TypeId} {buf : Buf} {xs : List Nat} {n : Nat} {H : Heap} (h : bufOk 1 buf n (xs.map uv)) : US (bufH e buf (xs.map uv) H) (bufV buf n) xs := sl_buf h
theorem getD_in {zs : List Nat} {t : Nat} (h : t < zs.length) : zs.getD t 0 = zs[t] := by rw [List.getD_eq_getElem?_getD, List.getElem?_eq_getElem h]; rfl
theorem us_block {G : Heap} {a : Option Addr} {n c : Nat} {zs : List Nat} (h : US G (.slice a n c) zs) (hn : zs ≠ []) :
    ∃ k off l T fz, a = some ⟨k, off, none⟩ ∧ (k, Obj.cells ⟨l⟩ T fz) ∈ G ∧ ∀ i, i < zs.length → l[off + i]? = some (.int .u32 ((zs.getD i 0 : Nat) : Int)) := by
  obtain ⟨a', cap, h1, h0, h2⟩ := h
  obtain ⟨k, off, l, T, fz, h3, h4, h5⟩ := h2 (by simpa using hn)
  cases h1
  refine ⟨k, off, l, T, fz, h3, h4, fun i hi => cut_get h5 ?_⟩
  rw [List.getElem?_map, List.getElem?_eq_getElem hi, getD_in hi]; rfl
theorem US.take {G : Heap} {a : Option Addr} {n c m : Nat} {zs : List Nat} (h : US G (.slice a n c) zs) (hm : m ≤ zs.length) : US G (.slice a m c) (zs.take m) := by
  obtain ⟨a', cap, h1, h0, h2⟩ := h
  cases h1
  have hlen : ((zs.take m).map uv).length = m := by simp; omega
  refine ⟨a, c, by rw [hlen], by rw [hlen]; rw [List.length_map] at h0; omega, fun hne => ?_⟩
  have hz : zs.map uv ≠ [] := fun e => by
    have : zs = [] := by simpa using e
    subst this; simp at hne
  obtain ⟨k, off, l, T, fz, h3, h4, h5⟩ := h2 hz
  refine ⟨k, off, l, T, fz, h3, h4, ?_⟩
  rw [hlen, List.map_take, ← h5, List.take_take, List.length_map, Nat.min_eq_left hm]
theorem slAt_zero {k o h c : Nat} (hc : 0 < c) : slAt (some ⟨k, o, none⟩) 0 1 h c = .slice (some ⟨k, o, none⟩) h c := by
  simp only [slAt]
  split
  · omega
  · simp [addr_add]

theorem wrap_u64 {n : Int} (h0 : 0 ≤ n) (h1 : n < 18446744073709551616) : IntKind.u64.wrap n = n := by
  simp only [IntKind.wrap, IntKind.bits, IntKind.signed]
  simp
  omega
theorem wrap_u32 {n : Int} (h0 : 0 ≤ n) : IntKind.u32.wrap n = n % 4294967296 := by
  simp only [IntKind.wrap, IntKind.bits, IntKind.signed]
  simp

end Go.Lg

set_option linter.unusedVariables false
set_option linter.unusedSimpArgs false
namespace Go.Lg

/-- Block k of the memory G is o; the others are R. -/
class MidC (G : Heap) (k : Nat) (o : outParam Obj) (R : outParam Heap) : Prop where
  perm : List.Perm G ((k, o) :: R)
instance (priority := 2000) midHere {k o R} : MidC ((k, o) :: R) k o R := ⟨List.Perm.refl _⟩
instance (priority := 1500) midApp {e M k o R} [h : MidC M k o R] : MidC (e ++ M) k o (e ++ R) := ⟨(h.perm.append_left e).trans List.perm_middle⟩
instance (priority := 1000) midCons {a M k o R} [h : MidC M k o R] : MidC (a :: M) k o (a :: R) := ⟨(List.Perm.cons a h.perm).trans (List.Perm.swap _ a R)⟩
theorem mid_mem {G : Heap} {k o R} [h : MidC G k o R] {y : Nat × Obj} {p : Nat × Obj → Prop} (hp : p (k, o)) : ∀ e ∈ G, e ∈ y :: R ∨ p e := fun e he => by
  rcases List.mem_cons.1 (h.perm.subset he) with h | h
  · right; rw [h]; exact hp
  · exact .inl (List.mem_cons_of_mem _ h)
/-- The memory G is H and new blocks. -/
class ExC (G H : Heap) : Prop where
  ex : ∃ ex, G = ex ++ H
instance (priority := 2000) exHere {H} : ExC H H := ⟨[], rfl⟩
instance (priority := 1500) exApp {e M H} [h : ExC M H] : ExC (e ++ M) H := ⟨let ⟨x, h⟩ := h.ex; ⟨e ++ x, by rw [h, List.append_assoc]⟩⟩
instance (priority := 1000) exCons {a M H} [h : ExC M H] : ExC (a :: M) H := ⟨let ⟨x, h⟩ := h.ex; ⟨a :: x, by rw [h]; rfl⟩⟩
theorem exq {G H : Heap} [h : ExC G H] {p : Prop} (hp : p) : ∃ ex, G = ex ++ H ∧ p := let ⟨ex, h⟩ := h.ex; ⟨ex, h, hp⟩
theorem exs {G H : Heap} [h : ExC G H] : ∀ e ∈ H, e ∈ G := let ⟨x, h⟩ := h.ex; by rw [h]; exact fun e he => List.mem_append_right _ he
section
variable {P : Program} {W : World} {n : Nat} {ds : List Deferred} {dst : Option Tmp} {ty : TypeId} {pos : String} {af : Array Edge} {g : Option (Nat × Bool)} {E : Env} {G : Heap} {K : Value → Heap → Prop}
/-- A store into a block that lies anywhere. -/
theorem op_storeK {t s b z x y k off l T v m l' R} [Inf P t s b z] (hx : evalE E x = some (.pointer (some ⟨k, off, none⟩))) [hperm : MidC G k (Obj.cells ⟨l⟩ T (0, 0)) R] (hk : K undef ((k, Obj.cells ⟨l'⟩ T (0, 0)) :: R)) (hy : evalE E y = some v := by exact rfl) (hm : v.cells = ⟨m⟩ := by exact rfl) (hlen : m.length = s := by exact rfl) (hp : m.all Value.plain = true := by exact rfl) (hroom : off + s ≤ l.length := by exact Nat.le_of_ble_eq_true rfl) (hnew : setCells l off m = l' := by first | (simp only [setCells, List.set_cons_zero, List.set_cons_succ, List.take_succ_cons, List.take_zero, List.drop_zero, List.drop_succ_cons, Nat.zero_add, Nat.add_zero, Nat.reduceAdd]; exact rfl) | exact rfl) : OpT P W n ds ⟨dst, .store t x y, ty, pos, af, g⟩ E G K :=
  op_perm hperm.perm.symm (op_store0 hk hx hy rfl hm hlen hp hroom hnew)
theorem op_loadK {t d x k off l T fz v R} [Und P t d] (hx : evalE E x = some (.pointer (some ⟨k, off, none⟩))) [hm : MidC G k (Obj.cells ⟨l⟩ T fz) R] (hk : K v G) (hd : TypeDesc.isAgg d = false := by exact rfl) (hv : l[off]? = some v := by first | exact rfl | assumption) : OpT P W n ds ⟨dst, .load t x, ty, pos, af, g⟩ E G K :=
  op_load hk hx hd (hm.perm.symm.subset List.mem_cons_self) hv
theorem op_load_aggK {t d s b z x k off l T fz m R} [Und P t d] [Inf P t s b z] (hx : evalE E x = some (.pointer (some ⟨k, off, none⟩))) [hm : MidC G k (Obj.cells ⟨l⟩ T fz) R] (hk : K (.agg ⟨m⟩) G) (hd : TypeDesc.isAgg d = true := by exact rfl) (hv : (l.drop off).take s = m := by first | assumption | (simp only [setCells, List.set_cons_zero, List.set_cons_succ, List.take_succ_cons, List.take_zero, List.drop_zero, List.drop_succ_cons, Nat.zero_add, Nat.add_zero, Nat.reduceAdd]; exact rfl) | exact rfl) (hlen : m.length = s := by exact rfl) : OpT P W n ds ⟨dst, .load t x, ty, pos, af, g⟩ E G K :=
  op_load_agg hk hx hd (hm.perm.symm.subset List.mem_cons_self) hv hlen
end
end Go.Lg

set_option linter.unusedVariables false
set_option linter.unusedSimpArgs false
namespace Go.Lg

theorem wrap_mulN {i s : Nat} (h : i * s < 9223372036854775808) : IntKind.i64.wrap (iarith .mul (i : Int) (s : Int)) = ((i * s : Nat) : Int) := by
  have e : iarith .mul (i : Int) (s : Int) = ((i * s : Nat) : Int) := by show (i : Int) * s = _; rw [Int.natCast_mul]
  rw [e]
  exact wrap_in (by omega) (by omega)
theorem wrap_addN {i s : Nat} (h : i + s < 9223372036854775808) : IntKind.i64.wrap (iarith .add (i : Int) (s : Int)) = ((i + s : Nat) : Int) := by
  have e : iarith .add (i : Int) (s : Int) = ((i + s : Nat) : Int) := by show (i : Int) + s = _; omega
  rw [e]
  exact wrap_in (by omega) (by omega)
theorem MidC.mem {G : Heap} {k : Nat} {o : Obj} {R : Heap} (h : MidC G k o R) : (k, o) ∈ G := h.perm.mem_iff.2 List.mem_cons_self
/-- A result in a variable that is found anywhere in the memory. -/
theorem rv_cell {P : Program} {E : Env} {G : Heap} {t T d k off l S fz v R} [Und P T d] (hx : Env.get E t = some (.pointer (some ⟨k, off, none⟩))) [hm : MidC G k (Obj.cells ⟨l⟩ S fz) R] (hd : TypeDesc.isAgg d = false := by exact rfl) (hv : l[off]? = some v := by exact rfl) : RV P E G (.cell t T) v := .cell hd hx hm.mem hv
theorem rv_agg {P : Program} {E : Env} {G : Heap} {t T d s b z k off l S fz m R} [Und P T d] [Inf P T s b z] (hx : Env.get E t = some (.pointer (some ⟨k, off, none⟩))) [hm : MidC G k (Obj.cells ⟨l⟩ S fz) R] (hd : TypeDesc.isAgg d = true := by exact rfl)
    (hv : (l.drop off).take s = m := by first | (simp only [setCells, List.set_cons_zero, List.set_cons_succ, List.take_succ_cons, List.take_zero, List.drop_zero, List.drop_succ_cons, Nat.zero_add, Nat.add_zero, Nat.reduceAdd]; exact rfl) | exact rfl) (hl : m.length = s := by exact rfl) : RV P E G (.cell t T) (.agg ⟨m⟩) := .agg hd hx hm.mem hv hl
section
variable {P : Program} {W : World} {n : Nat} {ds : List Deferred} {dst : Option Tmp} {ty : TypeId} {pos : String} {af : Array Edge} {g : Option (Nat × Bool)} {E : Env} {G H : Heap} {K : Value → Heap → Prop}
/-- A load of a block that lies anywhere in a memory that this one holds. -/
theorem op_loadH {t d x k off l T fz v R} [Und P t d] (hs : Sub H G) (hx : evalE E x = some (.pointer (some ⟨k, off, none⟩))) [hm : MidC H k (Obj.cells ⟨l⟩ T fz) R] (hk : K v G) (hd : TypeDesc.isAgg d = false := by exact rfl) (hv : l[off]? = some v := by first | exact rfl | assumption) : OpT P W n ds ⟨dst, .load t x, ty, pos, af, g⟩ E G K :=
  op_load hk hx hd (hs _ hm.mem) hv
theorem op_load_aggH {t d s b z x k off l T fz m R} [Und P t d] [Inf P t s b z] (hs : Sub H G) (hx : evalE E x = some (.pointer (some ⟨k, off, none⟩))) [hm : MidC H k (Obj.cells ⟨l⟩ T fz) R] (hk : K (.agg ⟨m⟩) G) (hd : TypeDesc.isAgg d = true := by exact rfl) (hv : (l.drop off).take s = m := by first | assumption | (simp only [setCells, List.set_cons_zero, List.set_cons_succ, List.take_succ_cons, List.take_zero, List.drop_zero, List.drop_succ_cons, Nat.zero_add, Nat.add_zero, Nat.reduceAdd]; exact rfl) | exact rfl) (hlen : m.length = s := by exact rfl) : OpT P W n ds ⟨dst, .load t x, ty, pos, af, g⟩ E G K :=
  op_load_agg hk hx hd (hs _ hm.mem) hv hlen
end
/-- A part of the memory, as0 a list: found in the whole by instances. -/
class InC (e G : Heap) : Prop where
  sub : ∀ x ∈ e, x ∈ G
instance (priority := 2000) inHere {e : Heap} : InC e e := ⟨fun _ h => h⟩
instance (priority := 1900) inLeft {e M : Heap} : InC e (e ++ M) := ⟨fun _ h => List.mem_append_left _ h⟩
instance (priority := 1500) inApp {e d M : Heap} [h : InC e M] : InC e (d ++ M) := ⟨fun x hx => List.mem_append_right _ (h.sub x hx)⟩
instance (priority := 1000) inCons {e : Heap} {a : Nat × Obj} {M : Heap} [h : InC e M] : InC e (a :: M) := ⟨fun x hx => List.mem_cons_of_mem _ (h.sub x hx)⟩
/-- The memory is forgotten, but for some facts. -/
theorem tc_forget {P : Program} {W : World} {n : Nat} {ds : List Deferred} {c : Code} {Q : Exit → Act → World → Prop} {E : Env} {G : Heap} (p : Heap → Prop) (hp : p G) (h : ∀ G, p G → TC P W n ds c Q E G) : TC P W n ds c Q E G := h G hp
theorem tl_forget {P : Program} {W : World} {n : Nat} {ds : List Deferred} {ops l : List Oper} {Q : Exit → Act → World → Prop} {E : Env} {G : Heap} (p : Heap → Prop) (hp : p G) (h : ∀ G, p G → TL P W n ds ops Q l E G) : TL P W n ds ops Q l E G := h G hp
theorem ins {e G : Heap} [h : InC e G] : ∀ x ∈ e, x ∈ G := h.sub
end Go.Lg

set_option linter.unusedVariables false
set_option linter.unusedSimpArgs false
namespace Go.Lg
section draw
variable {P : Program} {W : World} {n : Nat} {ds : List Deferred} {Q : Exit → Act → World → Prop} {E0 : Env} {H : Heap}

inductive PhiD where
  | is (v : Value)
  | fresh (f : Nat → Value) (o : Obj)
  | gen (φ : Phi)
def PhiD.phi : PhiD → Phi
  | .is v => Lg.is v
  | .fresh f o => Lg.fresh f o
  | .gen φ => φ
def nthD : List PhiD → Nat → PhiD
  | [], _ => .is undef
  | p :: _, 0 => p
  | _ :: ps, k + 1 => nthD ps k
def MonosD : List PhiD → Prop
  | [] => True
  | .is _ :: r => MonosD r
  | .fresh _ _ :: r => MonosD r
  | .gen φ :: r => Phi.Mono φ ∧ MonosD r
def withD (dl : List (Option Tmp)) (Φs : List PhiD) (G : Heap) : List Nat → Env → (Env → Prop) → Prop
  | [], E, k => k E
  | j :: js, E, k => match nthD Φs j with
    | .is v => withD dl Φs G js (putO (nthDst dl j) v E) k
    | .fresh f o => ∀ b, (b, o) ∈ G → withD dl Φs G js (putO (nthDst dl j) (f b) E) k
    | .gen φ => ∀ v ex, φ v ex G → Sub ex G → withD dl Φs G js (putO (nthDst dl j) v E) k
def postD : PhiD → Value → Heap → Heap → Prop
  | .is v0, v, ex, _ => v = v0 ∧ ex = []
  | .fresh f o, v, ex, _ => ∃ k, v = f k ∧ ex = [(k, o)]
  | .gen φ, v, ex, G => φ v ex G
def PremsD (P : Program) (W : World) (n : Nat) (ds : List Deferred) (dl : List (Option Tmp)) (Φs : List PhiD) (E0 : Env) (H : Heap) : Nat → List Oper → List (List Nat) → Prop
  | i, o :: os, js :: jss => (∀ G, Sub H G → withD dl Φs G js E0 fun E => Step2 P W n ds dl o E G fun v G' => ∃ ex, G' = ex ++ G ∧ postD (nthD Φs i) v ex G') ∧ PremsD P W n ds dl Φs E0 H (i + 1) os jss
  | _, _, _ => True
def FinalsD (dl : List (Option Tmp)) (K : Env → Heap → Prop) : Nat → List PhiD → Env → Heap → (Heap → Prop) → Prop
  | _, [], E, G, h => h G → K E G
  | i, .is v :: φs, E, G, h => FinalsD dl K (i + 1) φs (putO (nthDst dl i) v E) G h
  | i, .fresh f o :: φs, E, G, h => ∀ b, FinalsD dl K (i + 1) φs (putO (nthDst dl i) (f b) E) ((b, o) :: G) h
  | i, .gen φ :: φs, E, G, h => ∀ v ex, FinalsD dl K (i + 1) φs (putO (nthDst dl i) v E) (ex ++ G) (fun G => φ v ex G ∧ h G)

theorem nthD_phi : ∀ (Φs : List PhiD) (j : Nat), nthPhi (Φs.map PhiD.phi) j = (nthD Φs j).phi
  | [], _ => rfl
  | _ :: _, 0 => rfl
  | _ :: ps, k + 1 => nthD_phi ps k
theorem postD_eq (p : PhiD) (v : Value) (ex G : Heap) : postD p v ex G = p.phi v ex G := by cases p <;> rfl
theorem monosD : ∀ {Φs : List PhiD}, MonosD Φs → Monos (Φs.map PhiD.phi)
  | [], _ => trivial
  | .is v :: r, h => ⟨is_mono v, monosD (Φs := r) h⟩
  | .fresh f o :: r, h => ⟨fresh_mono f o, monosD (Φs := r) h⟩
  | .gen φ :: r, h => ⟨h.1, monosD (Φs := r) h.2⟩
theorem withD_with2 {dl : List (Option Tmp)} {Φs : List PhiD} {G : Heap} {k : Env → Prop} : ∀ (js : List Nat) (E : Env), withD dl Φs G js E k → with2 dl (Φs.map PhiD.phi) G js E k
  | [], E, h => h
  | j :: js, E, h => by
    intro v ex hφ hs
    rw [nthD_phi] at hφ
    unfold withD at h
    cases hj : nthD Φs j with
    | is v0 =>
      rw [hj] at hφ h
      obtain ⟨rfl, rfl⟩ := hφ
      exact withD_with2 js _ h
    | fresh f o =>
      rw [hj] at hφ h
      obtain ⟨b, rfl, rfl⟩ := hφ
      exact withD_with2 js _ (h b (hs _ List.mem_cons_self))
    | gen φ =>
      rw [hj] at hφ h
      exact withD_with2 js _ (h v ex hφ hs)
theorem finals2_mono {dl : List (Option Tmp)} {K : Env → Heap → Prop} : ∀ (Φs : List Phi) (i : Nat) (E : Env) (G : Heap) (h h' : Heap → Prop), (∀ G, h' G → h G) → Finals2 dl K i Φs E G h → Finals2 dl K i Φs E G h'
  | [], _, _, _, _, _, hm, hf => fun hh => hf (hm _ hh)
  | _ :: φs, i, E, G, h, h', hm, hf => fun v ex => finals2_mono φs _ _ _ _ _ (fun G hg => ⟨hg.1, hm G hg.2⟩) (hf v ex)
theorem finals2_no {dl : List (Option Tmp)} {K : Env → Heap → Prop} : ∀ (Φs : List Phi) (i : Nat) (E : Env) (G : Heap) (h : Heap → Prop), (∀ G, ¬ h G) → Finals2 dl K i Φs E G h
  | [], _, _, G, _, hn => fun hh => (hn G hh).elim
  | _ :: φs, i, E, G, h, hn => fun v ex => finals2_no φs _ _ _ _ fun G hg => hn G hg.2
theorem finalsD_finals2 {dl : List (Option Tmp)} {K : Env → Heap → Prop} : ∀ (Φs : List PhiD) (i : Nat) (E : Env) (G : Heap) (h : Heap → Prop), FinalsD dl K i Φs E G h → Finals2 dl K i (Φs.map PhiD.phi) E G h
  | [], _, _, _, _, hf => hf
  | .is v0 :: φs, i, E, G, h, hf => by
    intro v ex
    by_cases hv : v = v0 ∧ ex = []
    · obtain ⟨rfl, rfl⟩ := hv
      exact finals2_mono _ _ _ _ _ _ (fun G hg => hg.2) (finalsD_finals2 φs _ _ _ _ hf)
    · exact finals2_no _ _ _ _ _ fun G hg => hv hg.1
  | .fresh f o :: φs, i, E, G, h, hf => by
    intro v ex
    by_cases hv : ∃ k, v = f k ∧ ex = [(k, o)]
    · obtain ⟨k, rfl, rfl⟩ := hv
      exact finals2_mono _ _ _ _ _ _ (fun G hg => hg.2) (finalsD_finals2 φs _ _ _ _ (hf k))
    · exact finals2_no _ _ _ _ _ fun G hg => hv hg.1
  | .gen φ :: φs, i, E, G, h, hf => fun v ex => finalsD_finals2 φs _ _ _ _ (hf v ex)
theorem premsD_prems2 {dl : List (Option Tmp)} {Φs : List PhiD} : ∀ (os : List Oper) (i : Nat) (jss : List (List Nat)), PremsD P W n ds dl Φs E0 H i os jss → Prems2 P W n ds dl (Φs.map PhiD.phi) E0 H i os jss
  | [], _, _, _ => by unfold Prems2; trivial
  | o :: os, i, [], _ => trivial
  | o :: os, i, js :: jss, h => by
    refine ⟨fun G hG => ?_, premsD_prems2 os _ jss h.2⟩
    have := withD_with2 js E0 (h.1 G hG)
    simp only [postD_eq, ← nthD_phi] at this
    exact this

theorem tc_drawnD {id : Nat} {l : List Oper} (m : Nat) (Φs : List PhiD) (dl : List (Option Tmp)) (prs : List (List Nat)) (hm : P.follows .mixedOrders = true) (hmonos : MonosD Φs)
    (prem : PremsD P W n ds dl Φs E0 H 0 (l.take m) prs)
    (fin : FinalsD dl (fun E G => TL P W n ds l Q (l.drop m) E G) 0 Φs E0 H (fun _ => True))
    (hE : edgesOk l m = true := by exact rfl) (hD : dstsOk l m n E0 = true := by exact rfl)
    (hlen : Φs.length = m := by exact rfl) (hml : m ≤ l.length := by exact Nat.le_of_ble_eq_true rfl) (hdl : l.map (·.dst) = dl := by exact rfl) (hpr : (l.take m).map preds = prs := by exact rfl) :
    TC P W n ds (.region id l.toArray true) Q E0 H :=
  tc_drawn m (Φs.map PhiD.phi) dl prs hm (monosD hmonos) (premsD_prems2 _ _ _ prem) (finalsD_finals2 _ _ _ _ _ fin) hE hD (by rw [List.length_map]; exact hlen) hml hdl hpr
end draw
end Go.Lg

set_option linter.unusedVariables false
set_option linter.unusedSimpArgs false
namespace Go.Lg
section draw
variable {P : Program} {W : World} {n : Nat} {ds : List Deferred} {Q : Exit → Act → World → Prop} {E0 : Env} {H H' R : Heap}

/-- A word on a value that does not look at memory. -/
def Phi.Const (φ : Phi) : Prop := ∀ v ex G G', φ v ex G → φ v ex G'
def Consts : List Phi → Prop
  | [] => True
  | φ :: φs => Phi.Const φ ∧ Consts φs
theorem Consts.all {φs : List Phi} (h : Consts φs) : ∀ φ ∈ φs, Phi.Const φ := by
  induction φs with
  | nil => intro φ h; cases h
  | cons x xs ih =>
    intro φ hφ
    cases hφ with
    | head => exact h.1
    | tail _ h' => exact ih h.2 φ h'
theorem is_const (v0 : Value) : Phi.Const (is v0) := fun _ _ _ _ h => h
theorem fresh_const (f : Nat → Value) (o : Obj) : Phi.Const (fresh f o) := fun _ _ _ _ h => h
theorem some_const (p : Value → Heap → Prop) : Phi.Const (some' p) := fun _ _ _ _ h => h

theorem made_app (outs : Nat → Value × Heap) (f : Nat → Bool) (m : Nat) (H : Heap) : made outs f m H = made outs f m [] ++ H := by
  induction m with
  | zero => rfl
  | succ m ih => simp only [made]; rw [ih, List.append_assoc]

/-- Of operation i: 1: ahead of the store (number s), 2: behind it, 3: the store, 0: it does not look at what the store writes. -/
def clsOk (l : List Oper) (m s : Nat) (cls : List Nat) : Bool :=
  decide (s < m) && (List.range m).all fun i => match cls[i]? with
    | some 3 => i == s && (match l[i]? with | some o => o.guard.isNone | none => false)
    | some 1 => i != s && reachB l 9 s i
    | some 2 => i != s && reachB l 9 i s
    | some _ => i != s
    | none => false

def PremS (P : Program) (W : World) (n : Nat) (ds : List Deferred) (l : List Oper) (Φ : Nat → Phi) (E0 : Env) (R H H' : Heap) (i : Nat) (o : Oper) (c : Nat) : Prop :=
  match c with
  | 3 => ∀ ex, withPreds l Φ (ex ++ H) (preds o) E0 fun E => OpT P W n ds o E (ex ++ H) fun v G' => G' = ex ++ H' ∧ Φ i v [] G'
  | 1 => ∀ G, (∀ e ∈ H, e ∈ G) → withPreds l Φ G (preds o) E0 fun E => StepG P W n ds l o E G fun v G' => ∃ ex, G' = ex ++ G ∧ Φ i v ex G'
  | 2 => ∀ G, (∀ e ∈ H', e ∈ G) → withPreds l Φ G (preds o) E0 fun E => StepG P W n ds l o E G fun v G' => ∃ ex, G' = ex ++ G ∧ Φ i v ex G'
  | _ => ∀ G, (∀ e ∈ R, e ∈ G) → withPreds l Φ G (preds o) E0 fun E => StepG P W n ds l o E G fun v G' => ∃ ex, G' = ex ++ G ∧ Φ i v ex G'

theorem reach_lt {l : List Oper} {m : Nat} (hE : edgesOk l m = true) : ∀ (k i j : Nat), reachB l k i j = true → j < i := by
  intro k
  induction k with
  | zero => intro i j h; cases h
  | succ k ih =>
    intro i j h
    unfold reachB at h
    cases ho : l[i]? with
    | none => rw [ho] at h; cases h
    | some o =>
      rw [ho] at h
      simp only [Bool.or_eq_true, List.any_eq_true, List.contains_iff_mem] at h
      have hb := (binds_any_mem hE ho).1
      rcases h with h | ⟨p, hp, h⟩
      · exact hb j h
      · exact Nat.lt_trans (ih p j h) (hb p hp)

/-- The listed operations are closed: what is listed has all that it reaches. -/
theorem listed_reach {l : List Oper} {listed : Array Bool} (hc : Closed l listed) (k i j : Nat) (hi : listed.getD i false = true) (hr : reachB l k i j = true) : listed.getD j false = true := by
  cases k with
  | zero => cases hr
  | succ k =>
    cases ho : l[i]? with
    | none => unfold reachB at hr; rw [ho] at hr; cases hr
    | some o => exact reach_listed hc (k + 1) i j o ho (hc i o ho hi) hr

theorem tc_drawS {id : Nat} {l : List Oper} (m s : Nat) (Φs : List Phi) (cls : List Nat) (hm : P.follows .mixedOrders = true) (hE : edgesOk l m = true) (hD : dstsOk l m n E0 = true)
    (hlen : Φs.length = m) (hml : m ≤ l.length) (hcst : Consts Φs) (hcl0 : clsOk l m s cls = true) (hRH : Sub R H) (hRH' : Sub R H')
    (prem : ∀ i o c, i < m → l[i]? = some o → cls[i]? = some c → PremS P W n ds l (fun i => Φs.getD i (is undef)) E0 R H H' i o c)
    (fin : Finals l (fun E G => TL P W n ds l Q (l.drop m) E G) 0 Φs E0 H' (fun _ => True)) :
    TC P W n ds (.region id l.toArray true) Q E0 H := by
  have hconst := hcst.all
  simp only [clsOk, Bool.and_eq_true, decide_eq_true_eq, List.all_eq_true, List.mem_range] at hcl0
  obtain ⟨hsm, hcl1⟩ := hcl0
  refine ⟨fun a0 w0 ho0 hs0 => ?_⟩
  refine wp_region_any hm ?_
  have hΦ : ∀ i, i < m → Phi.Const (Φs.getD i (is undef)) := fun i hi => by
    rw [List.getD_eq_getElem?_getD, List.getElem?_eq_getElem (by omega)]
    exact hconst _ (List.getElem_mem _)
  let B : Bool → Heap := fun b => if b then H' else H
  have complete : ∀ (fuel : Nat) (listed : Array Bool) (outs : Nat → Value × Heap) (a : Act) (w : World), listed.size = l.length → Closed l listed →
      fuel = listed.toList.countP (fun b => !b) → (∀ i, m ≤ i → i < l.length → listed[i]? = some false) → Ok n ds E0 a →
      Sees W (made outs (fun i => listed.getD i false) m (B (listed.getD s false))) w →
      (∀ i, i < m → listed.getD i false = true → (∀ G, (Φs.getD i (is undef)) (outs i).1 (outs i).2 G) ∧ ∀ d, dstOf l i = some d → a.tmps[d]? = some (outs i).1) →
      (∀ i, i < m → listed.getD i false = true) → wpAny P .any l.toArray Q fuel listed a w := by
    intro fuel listed outs a w hsz hcl hf h2 ho hs hinv hc
    have hget : ∀ i, i < m → listed[i]? = some true := fun i hi => by
      have hb : i < listed.size := by omega
      have := hc i hi
      rw [Array.getElem?_eq_getElem hb]
      simpa [Array.getD, hb] using this
    rw [hc s hsm] at hs
    have hmade : made outs (fun i => listed.getD i false) m (B true) = made outs (fun _ => true) m H' := made_congr _ _ fun i hi => ⟨hc i hi, fun _ => rfl⟩
    rw [hmade] at hs
    obtain ⟨E', hK, ho'⟩ := finals_done (n := n) (ds := ds) (H := H') (outs := outs) (a := a) Φs 0 E0 _ fin (fun j φ hj => by
        have hjm : j < m := by
          rcases Nat.lt_or_ge j m with h | h
          · exact h
          · rw [List.getElem?_eq_none (by omega)] at hj; cases hj
        have := (hinv j hjm (hc j hjm)).1 (made outs (fun _ => true) (0 + Φs.length) H')
        rw [List.getD_eq_getElem?_getD, hj] at this
        simpa using this) trivial ho (fun j _ hj d hd => (hinv j (by omega) (hc j (by omega))).2 d hd)
    rw [Nat.zero_add, hlen] at hK
    refine any_of_tail hE fuel m listed a w hsz hcl ?_ (Nat.le_refl _) hget h2 (hK.run a w ho' hs)
    rw [hf]
    have := count_split (l := listed.toList) (m := m) (by simp; omega) (fun i hi => by simpa using hget i hi) (fun i hi hi' => by simpa using h2 i hi (by simpa [hsz] using hi'))
    simpa [hsz] using this
  have head : ∀ (fuel : Nat) (listed : Array Bool) (outs : Nat → Value × Heap) (a : Act) (w : World), listed.size = l.length → Closed l listed →
      fuel = listed.toList.countP (fun b => !b) → (∀ i, m ≤ i → i < l.length → listed[i]? = some false) → Ok n ds E0 a →
      Sees W (made outs (fun i => listed.getD i false) m (B (listed.getD s false))) w →
      (∀ i, i < m → listed.getD i false = true → (∀ G, (Φs.getD i (is undef)) (outs i).1 (outs i).2 G) ∧ ∀ d, dstOf l i = some d → a.tmps[d]? = some (outs i).1) →
      wpAny P .any l.toArray Q fuel listed a w := by
    intro fuel
    induction fuel with
    | zero =>
      intro listed outs a w hsz hcl hf h2 ho hs hinv
      refine complete 0 listed outs a w hsz hcl hf h2 ho hs hinv fun i hi => ?_
      have := List.countP_eq_zero.1 hf.symm
      have hb : i < listed.size := by omega
      have := this listed[i] (by simp [Array.getElem_mem])
      simpa [Array.getD, hb] using this
    | succ fuel ih =>
      intro listed outs a w hsz hcl hf h2 ho hs hinv
      by_cases hc : ∀ i, i < m → listed.getD i false = true
      · exact complete _ listed outs a w hsz hcl hf h2 ho hs hinv hc
      have hex : ∃ i, i < m ∧ ¬ listed.getD i false = true := by
        apply Classical.byContradiction
        intro h
        exact hc fun i hi => Classical.byContradiction fun h' => h ⟨i, hi, h'⟩
      obtain ⟨i0, hi0, hn0, hb0⟩ := least (p := fun i => listed.getD i false = true) m hex
      have hunl : ∀ i, i < l.length → ¬ listed.getD i false = true → listed[i]? = some false := fun i hi h => by
        have hb : i < listed.size := by omega
        rw [Array.getElem?_eq_getElem hb]
        simpa [Array.getD, hb] using h
      refine ⟨fun hr => ?_, fun i hi => ?_⟩
      · have hget : l[i0]? = some l[i0] := List.getElem?_eq_getElem (by omega)
        have : i0 ∈ Region.ready .any l.toArray listed := (ready_iff hsz).2 ⟨by omega, hunl i0 (by omega) hn0, _, hget, fun j hj => hb0 j ((binds_any_mem hE hget).1 j hj)⟩
        rw [hr] at this; cases this
      · obtain ⟨hi1, hi2, o, hoi, hp⟩ := (ready_iff hsz).1 hi
        have him : i < m := by
          rcases Nat.lt_or_ge i m with h | h
          · exact h
          · exact (hn0 (reach_listed hcl 9 i i0 o hoi hp ((binds_any_mem hE hoi).2 h i0 (by omega)))).elim
        have hif : listed.getD i false = false := by rw [Array.getD_eq_getD_getElem?, hi2]; rfl
        have hdst : dstOf l i = o.dst := by simp [dstOf, hoi]
        have hgd : ∀ j, (listed.setIfInBounds i true).getD j false = (j == i || listed.getD j false) := fun j => by
          rw [Array.getD_eq_getD_getElem?, Array.getElem?_setIfInBounds, Array.getD_eq_getD_getElem?]
          by_cases e : i = j
          · subst e; simp [hsz, hi1]
          · rw [if_neg e]
            have : (j == i) = false := by simp; exact fun h => e h.symm
            simp [this]
        have step : ∀ v ex w', Sees W (ex ++ made outs (fun i => listed.getD i false) m (B ((listed.setIfInBounds i true).getD s false))) w' → (∀ G, (Φs.getD i (is undef)) v ex G) →
            wpAny P .any l.toArray Q fuel (listed.setIfInBounds i true) (a.put o.dst v) w' := by
          intro v ex w' hs' hφ
          have hperm := made_add (outs := outs) (f := fun j => listed.getD j false) (v, ex) m (B ((listed.setIfInBounds i true).getD s false)) him hif
          have hmm : ∀ HH, made (fun j => if j = i then (v, ex) else outs j) (fun j => (listed.setIfInBounds i true).getD j false) m HH = made (fun j => if j = i then (v, ex) else outs j) (fun j => j == i || listed.getD j false) m HH :=
            fun HH => made_congr _ _ fun j _ => ⟨hgd j, fun _ => rfl⟩
          refine ih _ (fun j => if j = i then (v, ex) else outs j) _ _ (by simpa using hsz) (hcl.set (fun o' ho' j hj => by rw [hoi] at ho'; cases ho'; exact hp j hj) (by omega)) ?_ ?_ ?_ ?_ ?_
          · have := count_set (l := listed.toList) (i := i) (by simpa using hi2)
            simp only [Array.toList_setIfInBounds]
            omega
          · intro j hj hj'
            rw [Array.getElem?_setIfInBounds, if_neg (by omega)]; exact h2 j hj hj'
          · refine ho.put_off (fun d hd => (dsts_get hD him hoi hd).2.1) v
          · rw [hmm]; exact hs'.perm hperm
          · intro j hj hl
            by_cases e : j = i
            · subst e
              rw [if_pos rfl]
              refine ⟨hφ, fun d hd => ?_⟩
              rw [hdst] at hd
              have := dsts_get hD hj hoi hd
              simp [Act.put, hd, ho.size, this.1]
            · rw [if_neg e]
              have hl' : listed.getD j false = true := by
                rw [hgd j] at hl; simpa [e] using hl
              obtain ⟨h3, h4⟩ := hinv j hj hl'
              refine ⟨h3, fun d hd => ?_⟩
              cases hod : o.dst with
              | none => exact h4 d hd
              | some d' =>
                have := (dsts_get hD him hoi hod).2.2 j hj e
                have hne : d' ≠ d := fun e => this (by rw [hd, e])
                simp [Act.put, hne, h4 d hd]
        have hcls := hcl1 i him
        cases hci : cls[i]? with
        | none => rw [hci] at hcls; cases hcls
        | some c =>
        rw [hci] at hcls
        have hpr := prem i o c him hoi hci
        have hpreds : ∀ (HH : Heap), ∀ j ∈ preds o, (Φs.getD j (is undef)) (outs j).1 (outs j).2 (made outs (fun i => listed.getD i false) m HH) ∧ (∀ e ∈ (outs j).2, e ∈ made outs (fun i => listed.getD i false) m HH) ∧ ∀ d, dstOf l j = some d → a.tmps[d]? = some (outs j).1 := fun HH j hj => by
          have hjm : j < m := Nat.lt_trans ((binds_any_mem hE hoi).1 j hj) him
          obtain ⟨h3, h4⟩ := hinv j hjm (hp j hj)
          exact ⟨h3 _, made_sub m HH hjm (hp j hj), h4⟩
        by_cases h3 : c = 3
        · -- the store
          subst h3
          simp only [Bool.and_eq_true, beq_iff_eq, hoi] at hcls
          obtain ⟨rfl, hgn⟩ := hcls
          have hg : o.guard = none := by simpa using hgn
          rw [hif] at hs
          have hs2 : Sees W (made outs (fun i => listed.getD i false) m [] ++ H) w := by rw [← made_app]; exact hs
          have hpr2 := hpr (made outs (fun i => listed.getD i false) m [])
          rw [← made_app] at hpr2
          obtain ⟨E', hst, ho'⟩ := ok_of_withPreds (n := n) (ds := ds) (a := a) (outs := outs) _ _ hpr2 (hpreds H) ho
          unfold wpOp
          simp only [List.getElem?_toArray, hoi]
          rw [if_pos (by simp [Region.wanted, hg])]
          refine .inl (hst.run a w _ Q ho' hs fun v G' w' hs' ⟨hG', hφ⟩ => step v [] w' ?_ fun G => hΦ i him _ _ _ _ hφ)
          have e1 : (listed.setIfInBounds i true).getD i false = true := by rw [hgd]; simp
          rw [e1, List.nil_append, made_app]
          subst hG'
          exact hs'
        · -- any other
          have his : i ≠ s := by
            match c, h3, hcls with
            | 0, _, h => simpa using h
            | 1, _, h => simp only [Bool.and_eq_true, bne_iff_ne] at h; exact h.1
            | 2, _, h => simp only [Bool.and_eq_true, bne_iff_ne] at h; exact h.1
            | c + 4, _, h => simpa using h
          have hsi : (listed.setIfInBounds i true).getD s false = listed.getD s false := by
            rw [hgd]; have : (s == i) = false := by simp; exact fun h => his h.symm
            simp [this]
          rw [hsi] at step
          have hG : withPreds l (fun i => Φs.getD i (is undef)) (made outs (fun i => listed.getD i false) m (B (listed.getD s false))) (preds o) E0 fun E => StepG P W n ds l o E (made outs (fun i => listed.getD i false) m (B (listed.getD s false))) fun v G' => ∃ ex, G' = ex ++ (made outs (fun i => listed.getD i false) m (B (listed.getD s false))) ∧ (Φs.getD i (is undef)) v ex G' := by
            match c, h3, hcls, hpr with
            | 0, _, _, hpr => exact hpr _ fun e he => made_base m _ e (by cases listed.getD s false <;> first | exact hRH e he | exact hRH' e he)
            | c + 4, _, _, hpr => exact hpr _ fun e he => made_base m _ e (by cases listed.getD s false <;> first | exact hRH e he | exact hRH' e he)
            | 1, _, h, hpr =>
              simp only [Bool.and_eq_true] at h
              have hsf : listed.getD s false = false := by
                cases hh : listed.getD s false with
                | false => rfl
                | true => have := listed_reach hcl 9 s i hh h.2; rw [this] at hif; cases hif
              refine hpr _ fun e he => made_base m _ e ?_
              rw [hsf]; exact he
            | 2, _, h, hpr =>
              simp only [Bool.and_eq_true] at h
              have hst : listed.getD s false = true := reach_listed hcl 9 i s o hoi hp h.2
              refine hpr _ fun e he => made_base m _ e ?_
              rw [hst]; exact he
          obtain ⟨E', hst, ho'⟩ := ok_of_withPreds (n := n) (ds := ds) (a := a) (outs := outs) _ _ hG (hpreds _) ho
          unfold wpOp
          simp only [List.getElem?_toArray, hoi]
          unfold StepG at hst
          split at hst
          · rename_i hg
            rw [if_pos (by simp [Region.wanted, hg])]
            exact .inl (hst.run a w _ Q ho' hs fun v G' w' hs' ⟨ex, hG', hφ⟩ => step v ex w' (hG' ▸ hs') fun G => hΦ i him _ _ _ _ hφ)
          · rename_i j want hg
            rcases hst with ⟨dj, b, hdj, hbj, hy, hno⟩ | ⟨dj, hdj, hbj, hno⟩
            · have hyl : yielded l.toArray a.tmps j = some b := by
                have h5 := ho'.get _ _ hbj
                simp only [dstOf] at hdj
                simp [yielded, hdj, h5]
              by_cases hbw : b = want
              · rw [if_pos (by simp [Region.wanted, hg, hyl, hbw])]
                exact .inl ((hy hbw).run a w _ Q ho' hs fun v G' w' hs' ⟨ex, hG', hφ⟩ => step v ex w' (hG' ▸ hs') fun G => hΦ i him _ _ _ _ hφ)
              · rw [if_neg (by simp [Region.wanted, hg, hyl, hbw])]
                obtain ⟨ex, hG', hφ⟩ := hno (by cases b <;> cases want <;> simp_all)
                exact step undef ex w (hG' ▸ hs) fun G => hΦ i him _ _ _ _ hφ
            · have hyl : yielded l.toArray a.tmps j = none := by
                have h5 := ho'.get _ _ hbj
                simp only [dstOf] at hdj
                simp [yielded, hdj, h5, undef]
              rw [if_neg (by simp [Region.wanted, hg, hyl])]
              obtain ⟨ex, hG', hφ⟩ := hno
              exact step undef ex w (hG' ▸ hs) fun G => hΦ i him _ _ _ _ hφ
  refine head l.length (Array.replicate l.length false) (fun _ => (undef, [])) a0 _ (by simp) (fun i o _ h => by rw [Array.getD_eq_getD_getElem?, Array.getElem?_replicate] at h; split at h <;> cases h) (by simp [List.countP_replicate]) (fun i _ hi => by simp [hi]) ho0 ?_ ?_
  · have e1 : (Array.replicate l.length false).getD s false = false := by rw [Array.getD_eq_getD_getElem?, Array.getElem?_replicate]; split <;> rfl
    rw [e1, made_none]; exact hs0.drew _
  · intro i hi hl
    simp only [Array.getD_eq_getD_getElem?, Array.getElem?_replicate] at hl
    split at hl <;> cases hl

/-! In a form that is easy to read at a region written out. -/
def Prems3 (P : Program) (W : World) (n : Nat) (ds : List Deferred) (dl : List (Option Tmp)) (Φs : List Phi) (E0 : Env) (R H H' : Heap) : Nat → List Oper → List (List Nat) → List Nat → Prop
  | i, o :: os, js :: jss, c :: cs =>
    (match c with
      | 3 => ∀ ex, with2 dl Φs (ex ++ H) js E0 fun E => OpT P W n ds o E (ex ++ H) fun v G' => G' = ex ++ H' ∧ nthPhi Φs i v [] G'
      | 1 => ∀ G, Sub H G → with2 dl Φs G js E0 fun E => Step2 P W n ds dl o E G fun v G' => ∃ ex, G' = ex ++ G ∧ nthPhi Φs i v ex G'
      | 2 => ∀ G, Sub H' G → with2 dl Φs G js E0 fun E => Step2 P W n ds dl o E G fun v G' => ∃ ex, G' = ex ++ G ∧ nthPhi Φs i v ex G'
      | _ => ∀ G, Sub R G → with2 dl Φs G js E0 fun E => Step2 P W n ds dl o E G fun v G' => ∃ ex, G' = ex ++ G ∧ nthPhi Φs i v ex G') ∧ Prems3 P W n ds dl Φs E0 R H H' (i + 1) os jss cs
  | _, _, _, _ => True

theorem step2_eq {l : List Oper} (o : Oper) (E : Env) (G : Heap) (K : Value → Heap → Prop) : Step2 P W n ds (l.map (·.dst)) o E G K = StepG P W n ds l o E G K := by
  unfold Step2 StepG; simp only [nthDst_eq]

theorem prems3_prems {l : List Oper} {Φs : List Phi} : ∀ (os : List Oper) (k : Nat) (cls : List Nat), Prems3 P W n ds (l.map (·.dst)) Φs E0 R H H' k os (os.map preds) cls →
    ∀ i o c, os[i]? = some o → cls[i]? = some c → PremS P W n ds l (fun i => Φs.getD i (is undef)) E0 R H H' (k + i) o c := by
  intro os
  induction os with
  | nil => intro k cls _ i o c h; simp at h
  | cons x xs ih =>
    intro k cls h i o c ho hc
    cases cls with
    | nil => simp at hc
    | cons c0 cs =>
      cases i with
      | succ i => have := ih (k + 1) cs h.2 i o c (by simpa using ho) (by simpa using hc); rwa [show k + 1 + i = k + (i + 1) by omega] at this
      | zero =>
        simp at ho hc
        subst ho; subst hc
        have h1 := h.1
        match c0, h1 with
        | 3, h1 => intro ex; have := h1 ex; rw [with2_eq] at this; simp only [nthPhi_eq] at this ⊢; exact this
        | 1, h1 => intro G hG; have := h1 G hG; rw [with2_eq] at this; simp only [nthPhi_eq, step2_eq] at this ⊢; exact this
        | 2, h1 => intro G hG; have := h1 G hG; rw [with2_eq] at this; simp only [nthPhi_eq, step2_eq] at this ⊢; exact this
        | 0, h1 => intro G hG; have := h1 G hG; rw [with2_eq] at this; simp only [nthPhi_eq, step2_eq] at this ⊢; exact this
        | c + 4, h1 => intro G hG; have := h1 G hG; rw [with2_eq] at this; simp only [nthPhi_eq, step2_eq] at this ⊢; exact this

theorem tc_drawnS {id : Nat} {l : List Oper} (m s : Nat) {kb : Nat} {ob ob' : Obj} (Φs : List Phi) (dl : List (Option Tmp)) (prs : List (List Nat)) (cls : List Nat) (hm : P.follows .mixedOrders = true) (hcst : Consts Φs)
    (prem : Prems3 P W n ds dl Φs E0 R ((kb, ob) :: R) ((kb, ob') :: R) 0 (l.take m) prs cls)
    (fin : Finals2 dl (fun E G => TL P W n ds l Q (l.drop m) E G) 0 Φs E0 ((kb, ob') :: R) (fun _ => True))
    (hE : edgesOk l m = true := by exact rfl) (hD : dstsOk l m n E0 = true := by exact rfl)
    (hlen : Φs.length = m := by exact rfl) (hml : m ≤ l.length := by exact Nat.le_of_ble_eq_true rfl) (hdl : l.map (·.dst) = dl := by exact rfl) (hpr : (l.take m).map preds = prs := by exact rfl) (hcl : clsOk l m s cls = true := by exact rfl) :
    TC P W n ds (.region id l.toArray true) Q E0 ((kb, ob) :: R) := by
  subst hdl
  subst hpr
  refine tc_drawS (R := R) (H' := (kb, ob') :: R) m s Φs cls hm hE hD hlen hml hcst hcl (fun e he => List.mem_cons_of_mem _ he) (fun e he => List.mem_cons_of_mem _ he) ?_ (by rw [← finals2_eq]; exact fin)
  intro i o c hi ho hc
  have := prems3_prems (l.take m) 0 cls prem i o c (by rw [List.getElem?_take]; simp [hi, ho]) hc
  rwa [Nat.zero_add] at this
end draw
end Go.Lg

set_option linter.unusedVariables false
set_option linter.unusedSimpArgs false
namespace Go.Lg
class MethA (P : Program) (t : TypeId) (name : String) (f : outParam FuncId) : Prop where
  eq : ∀ (cs : List Value) (args : Array Value) (w : World), (callMethod (.iface t (.agg ⟨cs⟩)) name args).run P w = .ok (.enter f (#[.agg ⟨cs⟩] ++ args)) w
section
variable {P : Program} {W : World} {n : Nat} {ds : List Deferred} {dst : Option Tmp} {ty : TypeId} {pos : String} {af : Array Edge} {g : Option (Nat × Bool)} {E : Env} {G : Heap} {K : Value → Heap → Prop}
theorem op_invokeA {x nm t f cs args vs at'} [h : MethA P t nm f] [Enters P f] (hd : Does P f (.agg ⟨cs⟩ :: vs) G K) (hx : evalE E x = some (.iface t (.agg ⟨cs⟩)) := by exact rfl) (hv : evalAll E args = some vs := by exact rfl) :
    OpT P W n ds ⟨dst, .call { callee := .invoke x nm, args := ⟨args⟩, argTypes := at' }, ty, pos, af, g⟩ E G K := by
  refine ⟨fun a' w next Q ho hs hn => ?_⟩
  have he : args.map a'.eval = vs := by
    clear hd hn
    induction args generalizing vs with
    | nil => simp [evalAll] at hv; simp [← hv]
    | cons x xs ih =>
      simp only [evalAll] at hv
      cases h1 : evalE E x with
      | none => simp [h1] at hv
      | some v =>
        cases h2 : evalAll E xs with
        | none => simp [h1, h2] at hv
        | some us =>
          simp [h1, h2] at hv
          subst hv
          simp [ho.eval h1, ih h2]
  have hr : (execOp a'.eval ⟨dst, .call { callee := .invoke x nm, args := ⟨args⟩, argTypes := at' }, ty, pos, af, g⟩).run P w = (callFunc f ⟨.agg ⟨cs⟩ :: vs⟩).run P w := by
    rw [run_callFunc]
    simp only [execOp, resolve, ho.eval hx, List.map_toArray, he]
    refine (sem_run_bind P _ _ w _ w rfl).trans ?_
    have e1 : invoke (.fn (.method nm) #[]) (#[.iface t (.agg ⟨cs⟩)] ++ vs.toArray) = callMethod (.iface t (.agg ⟨cs⟩)) nm ⟨vs⟩ := by
      simp [invoke]
    show (invoke (.fn (.method nm) #[]) (#[.iface t (.agg ⟨cs⟩)] ++ vs.toArray)).run P w = _
    rw [e1, h.eq cs ⟨vs⟩ w]
    simp
  rw [hr]
  exact hd.run W w hs _ a' next Q hn
theorem run_equalIn_nil {P : Program} {t ms} [hU : Und P t (.interface ms)] (w : World) : (Op.equalIn Op.maxDepth t .nilIface .nilIface).run P w = .ok true w := by
  show (Op.equalIn (9999 + 1) t _ _).run P w = _
  rw [Op.equalIn]
  refine (sem_run_bind P _ _ w _ w (run_underlying (t := t) w)).trans ?_
  rfl
theorem run_equalIn_iface {P : Program} {t ms tx vx} [hU : Und P t (.interface ms)] (w : World) : (Op.equalIn Op.maxDepth t (.iface tx vx) .nilIface).run P w = .ok false w := by
  show (Op.equalIn (9999 + 1) t _ _).run P w = _
  rw [Op.equalIn]
  refine (sem_run_bind P _ _ w _ w (run_underlying (t := t) w)).trans ?_
  rfl
/-- No error: it is nil. -/
theorem op_iface_nil {t t2 x ms} [hU : Und P t (.interface ms)] (hk : K (.bool false) G) (hx : evalE E x = some .nilIface := by exact rfl) : OpT P W n ds ⟨dst, .binOp .neq t x (.const .nilIface) t2, ty, pos, af, g⟩ E G K :=
  op_of_run (fun a w ho _ => by
    have h0 : ∀ y, (eqGuard .neq t y (.const .nilIface) .nilIface .nilIface).run P w = .ok () w := fun y => by
      simp [eqGuard, go_sem]
    have e2 : a.eval (.const .nilIface) = .nilIface := rfl
    simp only [execOp, ho.eval hx, e2]
    refine run_v ?_
    refine (sem_run_bind P _ _ w () w (h0 _)).trans ?_
    exact (sem_run_bind P _ _ w true w (run_equalIn_nil (t := t) w)).trans rfl) hk
theorem op_iface_nilq {t t2 x ms} [hU : Und P t (.interface ms)] (hk : K (.bool true) G) (hx : evalE E x = some .nilIface := by exact rfl) : OpT P W n ds ⟨dst, .binOp .eql t x (.const .nilIface) t2, ty, pos, af, g⟩ E G K :=
  op_of_run (fun a w ho _ => by
    have h0 : ∀ y, (eqGuard .eql t y (.const .nilIface) .nilIface .nilIface).run P w = .ok () w := fun y => by
      simp [eqGuard, go_sem]
    have e2 : a.eval (.const .nilIface) = .nilIface := rfl
    simp only [execOp, ho.eval hx, e2]
    refine run_v ?_
    refine (sem_run_bind P _ _ w () w (h0 _)).trans ?_
    exact (sem_run_bind P _ _ w true w (run_equalIn_nil (t := t) w)).trans rfl) hk
/-- An error: it is not nil. -/
theorem op_iface_some {t t2 x ms tx vx} [hU : Und P t (.interface ms)] (hk : K (.bool true) G) (hx : evalE E x = some (.iface tx vx) := by exact rfl) : OpT P W n ds ⟨dst, .binOp .neq t x (.const .nilIface) t2, ty, pos, af, g⟩ E G K :=
  op_of_run (fun a w ho _ => by
    have e2 : a.eval (.const .nilIface) = .nilIface := rfl
    simp only [execOp, ho.eval hx, e2]
    refine run_v ?_
    refine (sem_run_bind P _ _ w () w rfl).trans ?_
    exact (sem_run_bind P _ _ w false w (run_equalIn_iface (t := t) w)).trans rfl) hk
theorem op_iface_someq {t t2 x ms tx vx} [hU : Und P t (.interface ms)] (hk : K (.bool false) G) (hx : evalE E x = some (.iface tx vx) := by exact rfl) : OpT P W n ds ⟨dst, .binOp .eql t x (.const .nilIface) t2, ty, pos, af, g⟩ E G K :=
  op_of_run (fun a w ho _ => by
    have e2 : a.eval (.const .nilIface) = .nilIface := rfl
    simp only [execOp, ho.eval hx, e2]
    refine run_v ?_
    refine (sem_run_bind P _ _ w () w rfl).trans ?_
    exact (sem_run_bind P _ _ w false w (run_equalIn_iface (t := t) w)).trans rfl) hk
theorem op_mid {op : Oper} (k : Nat) {o R} [h : MidC G k o R] (h' : OpT P W n ds op E ((k, o) :: R) K) : OpT P W n ds op E G K := op_perm h.perm.symm h'
end
end Go.Lg

set_option linter.unusedVariables false
set_option linter.unusedSimpArgs false
namespace Go.Lg
open Ieee

theorem fv_ofInt {n : Int} (h1 : -9007199254740992 ≤ n) (h2 : n ≤ 9007199254740992) : Fv (floatOfInt .f64 n) (n : Rat) := write_int h1 h2

/-- A whole number cut towards zero is itself. -/
theorem integral_int {s : Bool} {m : Nat} {i : Int} {n : Nat} (h : (m : Rat) * p2 i = (n : Rat)) : (Datum.number s m i).integral .zero = .number s n 0 := by
  have key : m * 2 ^ i.toNat = n * 2 ^ (-i).toNat := by
    have e1 : p2 ((-i).toNat : Int) * p2 i = p2 (i.toNat : Int) := by rw [← p2_add]; congr 1; omega
    have : (m : Rat) * p2 (i.toNat : Int) = (n : Rat) * p2 ((-i).toNat : Int) := by
      rw [← e1, ← h]; grind
    rw [p2_nat, p2_nat] at this
    exact_mod_cast this
  show Datum.number s (Toward.cut .zero s (m <<< i.toNat) (-i).toNat) 0 = _
  congr 1
  unfold Toward.cut
  simp only [Bool.toNat_false, Nat.add_zero]
  rw [Nat.shiftLeft_eq, key]
  by_cases h0 : n = 0
  · subst h0; simp
  · have hpos : 0 < 2 ^ (-i).toNat := Nat.two_pow_pos _
    have hle : (-i).toNat ≤ (n * 2 ^ (-i).toNat).log2 := by
      rw [Nat.le_log2 (by have := Nat.mul_pos (Nat.pos_of_ne_zero h0) hpos; omega)]
      exact Nat.le_mul_of_pos_left _ (Nat.pos_of_ne_zero h0)
    rw [Nat.min_eq_left (by omega), Nat.one_shiftLeft, Nat.mul_div_cancel _ hpos]

theorem ftoi {x : Nat} {n : Int} (h : Fv x (n : Rat)) (h1 : -9223372036854775808 ≤ n) (h2 : n ≤ 9223372036854775807) : floatToIntVal .f64 x .i64 = some n := by
  obtain ⟨s, m, i, hr, hq⟩ := h
  have hm : (m : Rat) * p2 i = ((n.natAbs : Nat) : Rat) ∧ signed s n.natAbs 0 = n := by
    have hp : 0 ≤ (m : Rat) * p2 i := Rat.mul_nonneg (by exact_mod_cast Nat.zero_le m) (Rat.le_of_lt (p2_pos _))
    cases s with
    | true =>
      have e : (m : Rat) * p2 i = ((-n : Int) : Rat) := by rw [Rat.intCast_neg]; unfold sgn at hq; grind
      have hn : n ≤ 0 := by
        have : (0 : Rat) ≤ ((-n : Int) : Rat) := by rw [← e]; exact hp
        have : (0 : Int) ≤ -n := by exact_mod_cast this
        omega
      refine ⟨by rw [e, ← Rat.intCast_natCast]; congr 1; omega, ?_⟩
      simp [signed]; omega
    | false =>
      have e : (m : Rat) * p2 i = ((n : Int) : Rat) := by unfold sgn at hq; grind
      have hn : 0 ≤ n := by
        have : (0 : Rat) ≤ ((n : Int) : Rat) := by rw [← e]; exact hp
        exact_mod_cast this
      refine ⟨by rw [e, ← Rat.intCast_natCast]; congr 1; omega, ?_⟩
      simp [signed]; omega
  have hi := integral_int (s := s) hm.1
  have ht : (FloatKind.f64.decode x).toInt .zero = some n := by
    show (match (double.read x).integral .zero with | .number s m _ => some (signed s m 0) | _ => none) = _
    rw [hr, hi]
    simp only [hm.2]
  unfold floatToIntVal
  rw [ht]
  simp only
  rw [if_pos]
  exact ⟨h1, h2⟩
end Go.Lg

set_option linter.unusedVariables false
set_option linter.unusedSimpArgs false
namespace Go.Lg
open Ieee

theorem rootFrom_spec (n : Nat) : ∀ (todo root : Nat), root * root ≤ n → n < (root + 2 ^ todo) * (root + 2 ^ todo) →
    Datum.rootFrom n todo root * Datum.rootFrom n todo root ≤ n ∧ n < (Datum.rootFrom n todo root + 1) * (Datum.rootFrom n todo root + 1)
  | 0, root, h1, h2 => ⟨h1, by show n < (root + 1) * (root + 1); simpa using h2⟩
  | todo + 1, root, h1, h2 => by
    unfold Datum.rootFrom
    simp only [Nat.one_shiftLeft]
    have e : (2 : Nat) ^ (todo + 1) = 2 ^ todo + 2 ^ todo := by rw [Nat.pow_succ]; omega
    by_cases hc : (root + 2 ^ todo) * (root + 2 ^ todo) ≤ n
    · rw [if_pos hc]
      exact rootFrom_spec n todo _ hc (by rw [Nat.add_assoc, ← e]; exact h2)
    · rw [if_neg hc]
      exact rootFrom_spec n todo _ h1 (by omega)
theorem sq_lt {a b : Nat} (h : a * a < b * b) : a < b := by
  rcases Nat.lt_or_ge a b with h1 | h1
  · exact h1
  · exact absurd (Nat.mul_le_mul h1 h1) (by omega)
theorem root_sq {w : Nat} : Datum.rootFrom (w * w) ((w * w).log2 / 2 + 1) 0 = w := by
  have hlog : w * w < 2 ^ ((w * w).log2 + 1) := Nat.lt_log2_self
  have h := rootFrom_spec (w * w) ((w * w).log2 / 2 + 1) 0 (by omega) (by
    rw [Nat.zero_add, ← Nat.pow_add]
    exact Nat.lt_of_lt_of_le hlog (Nat.pow_le_pow_right (by decide) (by omega)))
  generalize Datum.rootFrom (w * w) ((w * w).log2 / 2 + 1) 0 = r at h
  have h2 := sq_lt h.2
  rcases Nat.lt_or_ge w r with h1 | h1
  · have := Nat.mul_lt_mul'' h1 h1; omega
  · omega

theorem read_big {x : Nat} {s : Bool} {m : Nat} {e : Int} (hr : double.read x = .number s m e) : e = -1074 ∨ 4503599627370496 ≤ m := by
  have hread : double.read x = (if x % 9223372036854775808 < 4503599627370496 then
      Datum.number (x / 9223372036854775808 % 2 == 1) (x % 9223372036854775808) (-1074)
    else if x % 9223372036854775808 < 9218868437227405312 then
      Datum.number (x / 9223372036854775808 % 2 == 1) (4503599627370496 + x % 9223372036854775808 % 4503599627370496) (-1074 + ((x % 9223372036854775808 / 4503599627370496 - 1 : Nat) : Int))
    else if x % 9223372036854775808 = 9218868437227405312 then Datum.infinity (x / 9223372036854775808 % 2 == 1)
    else Datum.nan (x / 9223372036854775808 % 2 == 1) (x % 9223372036854775808 - 9218868437227405312)) := rfl
  rw [hread] at hr
  by_cases c1 : x % 9223372036854775808 < 4503599627370496
  · rw [if_pos c1] at hr; cases hr; exact .inl rfl
  · rw [if_neg c1] at hr
    by_cases c2 : x % 9223372036854775808 < 9218868437227405312
    · rw [if_pos c2] at hr; cases hr; right; omega
    · rw [if_neg c2] at hr
      by_cases c3 : x % 9223372036854775808 = 9218868437227405312
      · rw [if_pos c3] at hr; cases hr
      · rw [if_neg c3] at hr; cases hr

/-- What the root of a number is: one word, or no number. -/
def SqrtR (x r : Nat) : Prop := ∀ w, double.sqrt x = some w → r = w

theorem sqrt_sq {x r k : Nat} (h : Fv x ((k * k : Nat) : Rat)) (hk : k * k < 9007199254740992) (hr : SqrtR x r) : Fv r (k : Rat) := by
  obtain ⟨s, m, e, hx, hq⟩ := h
  have hbig := read_big hx
  have hkb : k < 9007199254740992 := by
    rcases Nat.lt_or_ge k 9007199254740992 with h | h
    · exact h
    · have := Nat.mul_le_mul h h; omega
  have hp := p2_pos e
  by_cases hm : m = 0
  · subst hm
    have hk0 : k = 0 := by
      have h0 : ((k * k : Nat) : Rat) = 0 := by rw [hq]; grind
      have h1 : k * k = 0 := by exact_mod_cast h0
      rcases Nat.mul_eq_zero.1 h1 with h | h <;> exact h
    subst hk0
    have hw : double.sqrt x = some (double.write (.number s 0 e)) := by
      show ((double.read x).root _).map double.write = _
      rw [hx]; rfl
    obtain ⟨c, hc, hrd⟩ := write_rnd (s := s) (m := 0) (e := e) (by have := p2_pos 1023; grind) (by have := p2_pos 1023; grind)
    have hz : sgn s * ((0 : Nat) : Rat) * p2 e = ((0 : Int) : Rat) := by grind
    rw [hz] at hrd
    have := hrd.exact (rep_int (n := 0) (by decide) (by decide))
    subst this
    rw [hr _ hw]
    simpa using hc
  · have hmp : (0 : Rat) < (m : Rat) := by exact_mod_cast Nat.pos_of_ne_zero hm
    have hmul : 0 < (m : Rat) * p2 e := Rat.mul_pos hmp hp
    have hkk : (0 : Rat) ≤ ((k * k : Nat) : Rat) := by exact_mod_cast Nat.zero_le _
    have hs : s = false := by
      cases s with
      | false => rfl
      | true => exfalso; unfold sgn at hq; grind
    subst hs
    have hq2 : ((k * k : Nat) : Rat) = (m : Rat) * p2 e := by rw [hq]; unfold sgn; grind
    have he : e ≤ 0 := by
      rcases Int.lt_or_le 0 e with h | h
      · exfalso
        have hm2 : 4503599627370496 ≤ m := by rcases hbig with h1 | h1 <;> omega
        have e1 : p2 e = ((2 ^ e.toNat : Nat) : Rat) := p2_toNat (by omega)
        rw [e1, ← Rat.natCast_mul] at hq2
        have h3 : k * k = m * 2 ^ e.toNat := by exact_mod_cast hq2
        have h4 : 2 ^ 1 ≤ 2 ^ e.toNat := Nat.pow_le_pow_right (by decide) (by omega)
        have h5 := Nat.mul_le_mul hm2 h4
        omega
      · exact h
    obtain ⟨d, rfl⟩ : ∃ d : Nat, e = -(d : Int) := ⟨(-e).toNat, by omega⟩
    have hmk : m = k * k * 2 ^ d := by
      have e1 : p2 (-(d : Int)) * p2 (d : Int) = 1 := by rw [← p2_add, Int.add_left_neg]; exact p2_zero
      have e2 : p2 (d : Int) = ((2 ^ d : Nat) : Rat) := p2_nat d
      have : (m : Rat) = ((k * k * 2 ^ d : Nat) : Rat) := by
        rw [Rat.natCast_mul, ← e2, hq2]; grind
      exact_mod_cast this
    generalize hmore : (2 * (double.fractionBits + 2) - m.log2) + ((-(d : Int) - ((2 * (double.fractionBits + 2) - m.log2 : Nat) : Int)) % 2).toNat = more
    obtain ⟨hh, hhe⟩ : ∃ hh : Nat, d + more = 2 * hh := ⟨(d + more) / 2, by omega⟩
    have hn : m <<< more = (k * 2 ^ hh) * (k * 2 ^ hh) := by
      rw [Nat.shiftLeft_eq, hmk, Nat.mul_assoc, ← Nat.pow_add, hhe, Nat.two_mul, Nat.pow_add]
      simp only [Nat.mul_assoc, Nat.mul_left_comm, Nat.mul_comm]
    have hroot : (Datum.number false m (-(d : Int))).root (double.fractionBits + 2) = some (.number false (2 * (k * 2 ^ hh)) (-(hh : Int) - 1)) := by
      simp only [Datum.root, if_neg hm, Bool.false_eq_true, if_false]
      rw [hmore, hn, root_sq]
      congr 2
      · simp
      · omega
    have hw : double.sqrt x = some (double.write (.number false (2 * (k * 2 ^ hh)) (-(hh : Int) - 1))) := by
      show ((double.read x).root _).map double.write = _
      rw [hx, hroot]; rfl
    have hval : sgn false * ((2 * (k * 2 ^ hh) : Nat) : Rat) * p2 (-(hh : Int) - 1) = ((k : Int) : Rat) := by
      have e1 : p2 (-(hh : Int) - 1) * p2 ((hh + 1 : Nat) : Int) = 1 := by rw [← p2_add, show -(hh : Int) - 1 + ((hh + 1 : Nat) : Int) = 0 by omega]; exact p2_zero
      have e2 : ((2 * (k * 2 ^ hh) : Nat) : Rat) = (k : Rat) * p2 ((hh + 1 : Nat) : Int) := by
        rw [p2_nat, ← Rat.natCast_mul]; congr 1
        rw [Nat.pow_succ]; simp only [Nat.mul_assoc, Nat.mul_left_comm, Nat.mul_comm]
      rw [e2, Rat.intCast_natCast]; unfold sgn; grind
    obtain ⟨c, hc, hrd⟩ := write_rnd (s := false) (m := 2 * (k * 2 ^ hh)) (e := -(hh : Int) - 1)
      (by
        rw [hval]
        have : ((k : Int) : Rat) < p2 53 := by rw [p2_toNat (by decide), Rat.intCast_natCast]; exact_mod_cast hkb
        have := p2_le (show (53 : Int) ≤ 1023 by decide)
        grind)
      (by
        rw [hval]
        have : (0 : Rat) ≤ ((k : Int) : Rat) := by rw [Rat.intCast_natCast]; exact_mod_cast Nat.zero_le k
        have := p2_pos 1023
        grind)
    rw [hval] at hrd
    have := hrd.exact (rep_int (n := (k : Int)) (by omega) (by omega))
    subst this
    rw [hr _ hw]
    simpa [Rat.intCast_natCast] using hc
end Go.Lg

set_option linter.unusedVariables false
set_option linter.unusedSimpArgs false
namespace Go.Lg
open Go.ChangeShapes Go.WideShapes Go.RowKit Go.Deep
section rd
variable {H : Type} {enc : TypeId × Value → H} {P : Program} {W : World} {sp : Nat → Bool} {hd : Bool} {r : Reach} {b0 : Nat} {t : TypeId} {v : Value}

theorem all_ints {ws : List Value} (h : ∀ y ∈ ws, ∃ b, y = .int .i64 b ∧ -9223372036854775808 ≤ b ∧ b ≤ 9223372036854775807) : ∃ xs : List Int, ws = xs.map iv ∧ ∀ y ∈ xs, -9223372036854775808 ≤ y ∧ y ≤ 9223372036854775807 := by
  induction ws with
  | nil => exact ⟨[], rfl, by simp⟩
  | cons w ws ih =>
    obtain ⟨b, rfl, hb⟩ := h w (by simp)
    obtain ⟨xs, rfl, hx⟩ := ih (fun y hy => h y (by simp [hy]))
    exact ⟨b :: xs, rfl, by
      intro y hy
      rcases List.mem_cons.1 hy with rfl | hy
      · exact hb
      · exact hx y hy⟩

theorem trod_ints {n e c x} (ht : P.underlying t = some (.slice e)) (he : P.cellsOf e = 1) (hf : P.underlying e = some (.int .i64)) (h : DataW.trod enc P W 0 sp hd n t [c] = some x) :
    ∃ xs, IS (all W) c xs ∧ xs.length ≤ 9223372036854775807 ∧ ∀ y ∈ xs, -9223372036854775808 ≤ y ∧ y ≤ 9223372036854775807 := by
  obtain ⟨ws, h1, h2, h3⟩ := trod_slice ht he h
  obtain ⟨xs, rfl, h4⟩ := all_ints (ws := ws) fun y hy => by
    obtain ⟨m, z, hz⟩ := h3 y hy
    obtain ⟨b, rfl, hw⟩ := trod_int hf hz
    exact ⟨b, rfl, wf_i64 hw⟩
  exact ⟨xs, h1, by simpa using h2, h4⟩

theorem open_ints {e d p} (ht : P.underlying t = some (.slice e)) (he : P.cellsOf e = 1) (hf : P.underlying e = some (.int .i64)) (hv : Value.okWide P W r b0 t v) (h : DataW.Trod enc P W 0 sp hd t v d p) :
    ∃ xs, IS (all W) v xs ∧ xs.length ≤ 9223372036854775807 ∧ ∀ y ∈ xs, -9223372036854775808 ≤ y ∧ y ≤ 9223372036854775807 := by
  obtain ⟨a, len, cap, rfl⟩ := okWide_slice ht hv
  obtain ⟨n, hn⟩ := h
  exact trod_ints ht he hf (show DataW.trod enc P W 0 sp hd n t [.slice a len cap] = _ from hn)
end rd

section
variable {P : Program} {W : World} {n : Nat} {ds : List Deferred} {ops : List Oper} {Q : Exit → Act → World → Prop} {E : Env} {G : Heap} {listed : List Bool} {fuel : Nat}
variable {ty : TypeId} {pos : String} {af : Array Edge} {d : Tmp}
theorem tc_anyQ {id : Nat} (hm : P.follows .mixedOrders = true) (hQ : PQ Q) (h : PQ Q → TA P W n ds ops Q ops.length (List.replicate ops.length false) E G) : TC P W n ds (.region id ops.toArray true) Q E G := tc_any hm (h hQ)
theorem ta_two10 (i j : Nat) {op op2 : Op} {ty2 pos2 af2} (hr : Region.ready .any ops.toArray ⟨listed⟩ = [i, j])
    (hi : ops[i]? = some ⟨some d, op, ty, pos, af, none⟩) (hd : d < n) (hj : ops[j]? = some ⟨none, op2, ty2, pos2, af2, none⟩)
    (h1 : OpT P W n ds ⟨some d, op, ty, pos, af, none⟩ E G (fun v G' => TA P W n ds ops Q fuel (listed.set i true) ((d, v) :: E) G'))
    (h2 : OpT P W n ds ⟨none, op2, ty2, pos2, af2, none⟩ E G (fun v G' => TA P W n ds ops Q fuel (listed.set j true) E G')) : TA P W n ds ops Q (fuel + 1) listed E G :=
  ⟨fun a w hok hsw => wpAny_all hr (by simp) fun k hk => by
    simp only [List.mem_cons, List.not_mem_nil, or_false] at hk
    rcases hk with rfl | rfl
    · exact ta_step (op := op) _ hi rfl h1 (fun v G' a w hk hs hok => hk.run _ _ (hok.put hd v) hs) a w hok hsw
    · exact ta_step (op := op2) _ hj rfl h2 (fun v G' a w hk hs hok => hk.run _ _ hok hs) a w hok hsw⟩
end
end Go.Lg

set_option linter.unusedVariables false
set_option linter.unusedSimpArgs false
namespace Go.Lg
open Ieee

theorem does_sqrt {P : Program} {f : FuncId} {fn : Func} {H : Heap} {x : Nat}
    (hf : P.funcs[f]? = some fn) (hn : (fn.name == "runtime.NumGoroutine") = false) (hb : fn.body.isNone = true) (h1 : (Extern.findNext fn).isNone = true)
    (h2 : Extern.find fn = some Extern.MathSqrt.sqrt) : Does P f [.float .f64 x] H fun v H' => (∃ r, v = .float .f64 r ∧ SqrtR x r) ∧ H' = H := by
  refine does_extern hf hn hb h1 h2 fun W w hs => ?_
  have e : Extern.MathSqrt.sqrt ⟨[.float .f64 x]⟩ = (match FloatKind.f64.format.sqrt x with
    | some r => pure (.float .f64 r)
    | none => do pure (.float .f64 (← choose (.nanBits .f64 x x)))) := rfl
  rw [e]
  unfold SqrtR
  cases hd : double.sqrt x with
  | some r =>
    have : FloatKind.f64.format.sqrt x = some r := hd
    rw [this]
    exact ⟨_, w, rfl, hs, ⟨r, rfl, fun w' hw => by injection hw⟩, rfl⟩
  | none =>
    have : FloatKind.f64.format.sqrt x = none := hd
    rw [this]
    exact ⟨_, { w with drawn := w.drawn + 1 }, rfl, hs.drew _, ⟨_, rfl, fun w' hw => by cases hw⟩, rfl⟩

/-- What a conversion to a whole number gives. -/
def Cv (x : Nat) (n : Int) : Prop := (∀ m, floatToIntVal .f64 x .i64 = some m → n = m) ∧ -9223372036854775808 ≤ n ∧ n ≤ 9223372036854775807
theorem wrap_range (n : Int) : -9223372036854775808 ≤ IntKind.i64.wrap n ∧ IntKind.i64.wrap n ≤ 9223372036854775807 := by
  simp only [IntKind.wrap, IntKind.bits, IntKind.signed]
  simp
  split <;> omega

section ops
variable {P : Program} {W : World} {n : Nat} {ds : List Deferred} {E : Env} {G : Heap} {K : Value → Heap → Prop}
variable {dst : Option Tmp} {ty : TypeId} {pos : String} {af : Array Edge} {g : Option (Nat × Bool)}

theorem op_ftoiAny {src dt x b} [hs : Und P src (.float .f64)] [hd : Und P dt (.int .i64)] (hk : ∀ m, Cv b m → K (.int .i64 m) G) (hx : evalE E x = some (.float .f64 b) := by exact rfl) :
    OpT P W n ds ⟨dst, .convert src dt x, ty, pos, af, g⟩ E G K := by
  refine ⟨fun a w next Q ho hsw hn => ?_⟩
  cases hv : floatToIntVal .f64 b .i64 with
  | some m =>
    have hr : (execOp a.eval ⟨dst, .convert src dt x, ty, pos, af, g⟩).run P w = .ok (.value (.int .i64 m)) w := by
      simp only [execOp, ho.eval hx]
      exact run_v (run_convert_float_int w src dt .f64 .i64 b m (by rw [hs.eq]; rfl) hd.eq hv)
    rw [hr]
    refine hn _ _ _ hsw (hk m ⟨fun m' h => by rw [hv] at h; injection h, ?_⟩)
    have := floatToIntVal_wf hv
    simpa [Lit.wf, IntKind.min, IntKind.max, IntKind.signed, IntKind.bits] using this
  | none =>
    obtain ⟨v, w', hr, hs', h1⟩ : ∃ v w', (execOp a.eval ⟨dst, .convert src dt x, ty, pos, af, g⟩).run P w = .ok (.value (.int .i64 (IntKind.i64.wrap v))) w' ∧ Sees W G w' ∧ True := by
      have hc : Conv.floatToInt .f64 b .i64 = (do pure (.int .i64 (IntKind.i64.wrap (← choose (.floatToInt .f64 b .i64)))) : Sem Value) := by
        unfold floatToIntVal at hv
        unfold Conv.floatToInt
        cases hd2 : (FloatKind.decode .f64 b).toInt .zero with
        | none => rfl
        | some k =>
          rw [hd2] at hv
          simp only at hv ⊢
          by_cases hc : IntKind.i64.min ≤ k ∧ k ≤ IntKind.i64.max
          · rw [if_pos hc] at hv; cases hv
          · rw [if_neg hc]
      have hu1 : P.underlying src = some (.float .f64) := hs.eq
      refine ⟨(Question.floatToInt .f64 b .i64).cut (w.tape w.drawn (Question.floatToInt .f64 b .i64)), { w with drawn := w.drawn + 1 }, ?_, hsw.drew _, trivial⟩
      have hq : (Question.floatToInt .f64 b .i64).forced = false := rfl
      simp only [execOp, ho.eval hx]
      refine run_v ?_
      refine (sem_run_bind P _ _ w _ w (run_underlying (t := src) w)).trans ?_
      refine (sem_run_bind P _ _ w _ w (run_underlying (t := dt) w)).trans ?_
      show Sem.run P (Conv.floatToInt .f64 b .i64) w = _
      rw [hc]
      rfl
    rw [hr]
    exact hn _ _ _ hs' (hk _ ⟨fun m h => (by rw [hv] at h; cases h), wrap_range _⟩)

theorem op_callv {x f args vs at'} (h : Does P f vs G K) (hf : evalE E x = some (.func (.func f) #[] #[]) := by exact rfl) (hx : evalAll E args = some vs := by exact rfl) :
    OpT P W n ds ⟨dst, .call { callee := .value x, args := ⟨args⟩, argTypes := at' }, ty, pos, af, g⟩ E G K := by
  refine ⟨fun a w next Q ho hs hn => ?_⟩
  have he : args.map a.eval = vs := by
    clear h hn hf
    induction args generalizing vs with
    | nil => simp [evalAll] at hx; simp [← hx]
    | cons x xs ih =>
      simp only [evalAll] at hx
      cases h1 : evalE E x with
      | none => simp [h1] at hx
      | some v =>
        cases h2 : evalAll E xs with
        | none => simp [h1, h2] at hx
        | some us =>
          simp only [h1, h2, Option.some.injEq] at hx
          subst hx
          simp [ho.eval h1, ih h2]
  have hr : (execOp a.eval ⟨dst, .call { callee := .value x, args := ⟨args⟩, argTypes := at' }, ty, pos, af, g⟩).run P w = (callFunc f ⟨vs⟩).run P w := by
    simp only [execOp, resolve, ho.eval hf]
    refine (sem_run_bind P _ _ w _ w rfl).trans ?_
    simp [invoke, he]
  rw [hr]
  exact h.run W w hs _ a next Q hn
end ops
end Go.Lg

set_option linter.unusedVariables false
set_option linter.unusedSimpArgs false
namespace Go.Lg
section
variable {P : Program} {W : World} {n : Nat} {ds : List Deferred} {dst : Option Tmp} {ty : TypeId} {pos : String} {af : Array Edge} {g : Option (Nat × Bool)} {E : Env} {G : Heap} {K : Value → Heap → Prop}
theorem op_indexArr {t e s b z m x y k off kk} {i : Int} [Und P t (.array m e)] [Inf P e s b z] (hk : K (.pointer (some ⟨k, off + i.toNat * s, none⟩)) G) (hx : evalE E x = some (.pointer (some ⟨k, off, none⟩)) := by exact rfl) (hy : evalE E y = some (.int kk i) := by exact rfl) (hi : 0 ≤ i ∧ i < (m : Int) := by first | assumption | decide | omega) :
    OpT P W n ds ⟨dst, .indexAddr t x y, ty, pos, af, g⟩ E G K :=
  op_of_run (fun a w ho hs => by
    simp only [execOp, ho.eval hx, ho.eval hy]
    refine run_v ?_
    refine (sem_run_bind P _ _ w _ w rfl).trans ?_
    refine (sem_run_bind P _ _ w _ w (run_underlying (t := t) w)).trans ?_
    refine (sem_run_bind P _ _ w _ w rfl).trans ?_
    refine (sem_run_bind P _ _ w _ w (run_underlying (t := t) w)).trans ?_
    simp only []
    rw [if_pos hi]
    refine (sem_run_bind P _ _ w s w (run_sizeOf w)).trans ?_
    rw [addr_add]; rfl) hk
theorem op_slice_arr {t e s b z m x k off} [Und P t (.array m e)] [Inf P e s b z] (hk : K (.slice (some ⟨k, off, none⟩) m m) G) (hx : evalE E x = some (.pointer (some ⟨k, off, none⟩)) := by exact rfl) :
    OpT P W n ds ⟨dst, .slice t x none none none, ty, pos, af, g⟩ E G K :=
  op_of_run (fun a w ho hs => by
    simp only [execOp, ho.eval hx, Option.map_none]
    refine run_v ?_
    refine (sem_run_bind P _ _ w _ w (run_underlying (t := t) w)).trans ?_
    refine (sem_run_bind P _ _ w _ w rfl).trans ?_
    refine (sem_run_bind P _ _ w (0, m, m) w (by simp [Instr.sliceBounds, go_sem])).trans ?_
    refine (sem_run_bind P _ _ w s w (run_sizeOf w)).trans ?_
    by_cases h : m = 0
    · subst h; rfl
    · simp [h, addr_add]) hk
theorem op_arrayAt {t e m x a c len} [Und P t (.array m e)] (hk : K (.pointer a) G) (hx : evalE E x = some (.slice a len c) := by exact rfl) (hl : ¬ len < m := by first | decide | omega) :
    OpT P W n ds ⟨dst, .sliceToArrayPointer t x, ty, pos, af, g⟩ E G K :=
  op_of_run (fun a w ho hs => by
    simp only [execOp, ho.eval hx]
    refine run_v ?_
    refine (sem_run_bind P _ _ w _ w (run_underlying (t := t) w)).trans ?_
    simp only []
    rw [if_neg hl]; rfl) hk
/-- A call of a function literal with what it captured. -/
theorem op_callcap {x f cs args vs at'} [hE : Enters P f] (h : Does P f (vs ++ cs) G K) (hf : evalE E x = some (.func (.func f) #[] ⟨cs⟩) := by exact rfl) (hx : evalAll E args = some vs := by exact rfl) :
    OpT P W n ds ⟨dst, .call { callee := .value x, args := ⟨args⟩, argTypes := at' }, ty, pos, af, g⟩ E G K := by
  refine ⟨fun a' w next Q ho hs hn => ?_⟩
  have he : args.map a'.eval = vs := by
    clear h hn
    induction args generalizing vs with
    | nil => simp [evalAll] at hx; simp [← hx]
    | cons x xs ih =>
      simp only [evalAll] at hx
      cases h1 : evalE E x with
      | none => simp [h1] at hx
      | some v =>
        cases h2 : evalAll E xs with
        | none => simp [h1, h2] at hx
        | some us =>
          simp [h1, h2] at hx
          subst hx
          simp [ho.eval h1, ih h2]
  have hr : (execOp a'.eval ⟨dst, .call { callee := .value x, args := ⟨args⟩, argTypes := at' }, ty, pos, af, g⟩).run P w = (callFunc f ⟨vs ++ cs⟩).run P w := by
    simp only [execOp, resolve, ho.eval hf, List.map_toArray, he]
    refine (sem_run_bind P _ _ w ⟨.fn (.func f) ⟨cs⟩, ⟨vs⟩⟩ w (by simp [Deferred.ofValue])).trans ?_
    simp [invoke]
  rw [hr]
  exact h.run W w hs _ a' next Q hn
end
end Go.Lg

set_option linter.unusedVariables false
set_option linter.unusedSimpArgs false
namespace Go.Lg
section
variable {P : Program} {W : World} {n : Nat} {ds : List Deferred} {dst : Option Tmp} {ty : TypeId} {pos : String} {af : Array Edge} {g : Option (Nat × Bool)} {E : Env} {G : Heap} {K : Value → Heap → Prop}
theorem op_buildArr {t e m se be ze s b z ps vs l l'} [Und P t (.array m e)] [Inf P e se be ze] [Inf P t s b z] (hk : K (.agg ⟨l'⟩) G) (hps : partsE E ps = some vs := by exact rfl) (hf : fillL (fun i => some (i * se, se)) z vs = some l := by exact rfl) (hnew : l = l' := by exact rfl) :
    OpT P W n ds ⟨dst, .build t ⟨ps⟩, ty, pos, af, g⟩ E G K :=
  op_of_run (fun a w ho _ => by
    simp only [execOp]
    refine run_v ?_
    obtain ⟨v, hc, hr⟩ := run_zeroValue (P := P) (t := t) w
    simp only [Instr.build]
    refine (sem_run_bind P _ _ w v w hr).trans ?_
    refine (sem_run_bind P _ _ w _ w (run_underlying (t := t) w)).trans ?_
    simp only []
    refine (sem_run_bind P _ _ w se w (run_sizeOf w)).trans ?_
    have hpv := ho.parts hps
    have hfl : Instr.fill (fun i => some (i * se, se)) v.cells ((⟨ps⟩ : Array (Nat × Operand)).map (fun (x : Nat × Operand) => (x.1, a.eval x.2))).toList = some ⟨l⟩ := by
      rw [hc]
      simp only [Array.toList_map, hpv]
      rw [fill_eq, hf]; rfl
    rw [hfl]; rfl) (hnew ▸ hk)
end
end Go.Lg

set_option linter.unusedVariables false
set_option linter.unusedSimpArgs false
namespace Go.Lg

def bv (x : Nat) : Value := .int .u8 (x : Int)
def BS (G : Heap) (v : Value) (xs : List Nat) : Prop := Sl G v (xs.map bv)
theorem BS.mono {G G' v xs} (h : BS G v xs) (hG : ∀ e ∈ G, e ∈ G') : BS G' v xs := Sl.mono h hG
theorem BS.val {G v xs} (h : BS G v xs) : ∃ a cap, v = .slice a xs.length cap := by
  obtain ⟨a, cap, h1, _⟩ := h
  exact ⟨a, cap, by simpa using h1⟩
theorem BS.cap {G a n c xs} (h : BS G (.slice a n c) xs) : n = xs.length ∧ xs.length ≤ c := by
  obtain ⟨a', cap', h1, h2, _⟩ := h
  cases h1
  simp only [List.length_map] at h2 ⊢
  exact ⟨trivial, h2⟩
theorem BS.nil {G} : BS G (.slice none 0 0) [] := ⟨none, 0, rfl, Nat.le_refl _, fun h => (h rfl).elim⟩
theorem BS.toN {G v xs} (h : BS G v xs) : SlN 1 G v xs.length (xs.map bv) := by have := Sl.toN h; simpa using this
theorem oneCell_bv (xs : List Nat) : ∀ u ∈ xs.map bv, u.oneCell' = true := by
  intro u hu
  obtain ⟨x, _, rfl⟩ := List.mem_map.1 hu
  rfl
theorem made_one {c : Nat} {z : Value} : (List.range (c * 1)).map (fun i => [z][i % [z].length]!) = List.replicate c z := by
  rw [Nat.mul_one]
  induction c with
  | zero => rfl
  | succ c ih => rw [List.range_succ, List.map_append, ih, List.replicate_succ']; simp [Nat.mod_one]
theorem slAt_in {k o l h c : Nat} (hl : l < c) : slAt (some ⟨k, o, none⟩) l 1 h c = .slice (some ⟨k, o + l, none⟩) (h - l) (c - l) := by
  unfold slAt
  rw [if_neg (by omega)]
  simp [addr_add]
theorem slAt_le {k o l h c m : Nat} (hl : l < c) (hn : h - l = m) : slAt (some ⟨k, o, none⟩) l 1 h c = .slice (some ⟨k, o + l, none⟩) m (c - l) := by
  rw [slAt_in hl, hn]
/-- A block, where it lies in the slice. -/
theorem FS.block {G : Heap} {a : Option Addr} {n c : Nat} {xs : List Nat} (h : FS G (.slice a n c) xs) (hn : xs ≠ []) :
    ∃ k o L T fz, a = some ⟨k, o, none⟩ ∧ (k, Obj.cells ⟨L⟩ T fz) ∈ G ∧ n = xs.length ∧ xs.length ≤ c ∧ ∀ i, i < xs.length → L[o + i]? = some (.float .f64 (xs.getD i 0)) := by
  obtain ⟨a', cap', h1, h2, h3⟩ := h
  cases h1
  obtain ⟨k, o, L, T, fz, rfl, hm, hL⟩ := h3 (by simpa using hn)
  refine ⟨k, o, L, T, fz, rfl, hm, by simp, by simpa using h2, fun i hi => ?_⟩
  refine cut_get hL ?_
  rw [List.getElem?_map, List.getElem?_eq_getElem hi, getD_in hi]; rfl
theorem set_map_bv {xs : List Nat} {i x : Nat} : (xs.map bv).set i (bv x) = (xs.set i x).map bv := by rw [List.map_set]
theorem setCells_one {l : List Value} {i : Nat} {v : Value} : setCells l i [v] = l.set i v := rfl
end Go.Lg

set_option linter.unusedVariables false
set_option linter.unusedSimpArgs false
namespace Go.Lg

theorem bs_block {G : Heap} {a : Option Addr} {n c : Nat} {xs : List Nat} (h : BS G (.slice a n c) xs) (hn : xs ≠ []) :
    ∃ k o L T fz, a = some ⟨k, o, none⟩ ∧ (k, Obj.cells ⟨L⟩ T fz) ∈ G ∧ n = xs.length ∧ xs.length ≤ c ∧ ∀ i, i < xs.length → L[o + i]? = some (.int .u8 ((xs.getD i 0 : Nat) : Int)) := by
  obtain ⟨a', cap', h1, h2, h3⟩ := h
  cases h1
  obtain ⟨k, o, L, T, fz, rfl, hm, hL⟩ := h3 (by simpa using hn)
  refine ⟨k, o, L, T, fz, rfl, hm, by simp, by simpa using h2, fun i hi => ?_⟩
  refine cut_get hL ?_
  rw [List.getElem?_map, List.getElem?_eq_getElem hi, getD_in hi]; rfl
/-- Eight bytes, the least first. -/
def w8 (g : Nat → Nat) : Nat := g 0 + g 1 * 256 + g 2 * 65536 + g 3 * 16777216 + g 4 * 4294967296 + g 5 * 1099511627776 + g 6 * 281474976710656 + g 7 * 72057594037927936
/-- Eight bytes, of which the greatest i have been taken. -/
def acc8 (g : Nat → Nat) : Nat → Nat
  | 0 => 0
  | i + 1 => acc8 g i * 256 + g (7 - i)
theorem acc8_w8 (g : Nat → Nat) : acc8 g 8 = w8 g := by simp only [acc8, w8, Nat.reduceSub, Nat.sub_zero]; omega
theorem w8_lt {g : Nat → Nat} (h : ∀ i, g i < 256) : w8 g < 18446744073709551616 := by
  have h0 := h 0; have h1 := h 1; have h2 := h 2; have h3 := h 3; have h4 := h 4; have h5 := h 5; have h6 := h 6; have h7 := h 7
  unfold w8; omega
theorem acc8_lt {g : Nat → Nat} (h : ∀ i, g i < 256) : ∀ i, acc8 g i < 256 ^ i
  | 0 => by simp [acc8]
  | i + 1 => by
    have := acc8_lt h i; have := h (7 - i)
    rw [acc8, Nat.pow_succ]; omega
theorem or_add {a b k : Nat} (h : a < 2 ^ k) : a ||| b * 2 ^ k = a + b * 2 ^ k := by
  rw [Nat.or_comm, ← Nat.shiftLeft_eq, ← Nat.shiftLeft_add_eq_or_of_lt h, Nat.add_comm]
theorem ior_u64 {a b : Nat} (ha : a < 18446744073709551616) (hb : b < 18446744073709551616) : ibits .or .u64 (a : Int) (b : Int) = ((a ||| b : Nat) : Int) := by
  simp only [ibits]
  have e : ∀ x : Nat, BitVec.ofInt IntKind.u64.bits (x : Int) = BitVec.ofNat 64 x := fun x => BitVec.ofInt_natCast ..
  rw [e, e]
  have hx : a ||| b < 18446744073709551616 := Nat.or_lt_two_pow (n := 64) ha hb
  have : (BitVec.ofNat 64 a ||| BitVec.ofNat 64 b).toNat = a ||| b := by
    rw [BitVec.toNat_or, BitVec.toNat_ofNat, BitVec.toNat_ofNat, Nat.mod_eq_of_lt (by omega), Nat.mod_eq_of_lt (by omega)]
  show IntKind.u64.wrap ((BitVec.ofNat 64 a ||| BitVec.ofNat 64 b).toNat : Int) = _
  rw [this]
  exact wrap_u64 (by omega) (by omega)
theorem shl_u64 {a n : Nat} {v : Int} (hv : v.toNat = n) (h : a * 2 ^ n < 18446744073709551616) (hn : n < 64) : IntKind.u64.wrap ((a : Int) * 2 ^ min v.toNat IntKind.u64.bits) = ((a * 2 ^ n : Nat) : Int) := by
  have e : min v.toNat IntKind.u64.bits = n := by
    rw [hv]; exact Nat.min_eq_left (show n ≤ 64 by omega)
  rw [e, show (a : Int) * 2 ^ n = ((a * 2 ^ n : Nat) : Int) by push_cast; rfl]
  exact wrap_u64 (by omega) (by omega)
/-- A byte, moved. -/
def mv (b : Nat) (v : Int) : Int := IntKind.u64.wrap (IntKind.u64.wrap (b : Int) * 2 ^ min v.toNat IntKind.u64.bits)
theorem or_mv {a b n : Nat} {v : Int} (ha : a < 2 ^ n) (hb : b < 256) (hv : v.toNat = n) (hn : n ≤ 56) : ibits .or .u64 (a : Int) (mv b v) = ((a + b * 2 ^ n : Nat) : Int) := by
  have h56 : 2 ^ n ≤ 2 ^ 56 := Nat.pow_le_pow_right (by decide) hn
  have h1 : b * 2 ^ n < 18446744073709551616 := Nat.lt_of_le_of_lt (Nat.mul_le_mul (show b ≤ 255 by omega) h56) (by decide)
  have h2 : a < 18446744073709551616 := Nat.lt_of_lt_of_le ha (Nat.le_trans h56 (by decide))
  have e1 : IntKind.u64.wrap (b : Int) = (b : Int) := wrap_u64 (by omega) (by omega)
  unfold mv
  rw [e1, shl_u64 hv h1 (by omega), ior_u64 h2 h1, or_add ha]
theorem or8 {g : Nat → Nat} (h : ∀ i, g i < 256) : ibits .or .u64 (ibits .or .u64 (ibits .or .u64 (ibits .or .u64 (ibits .or .u64 (ibits .or .u64 (ibits .or .u64 (IntKind.u64.wrap ((g 0 : Nat) : Int)) (mv (g 1) 8)) (mv (g 2) 16)) (mv (g 3) 24)) (mv (g 4) 32)) (mv (g 5) 40)) (mv (g 6) 48)) (mv (g 7) 56) = ((w8 g : Nat) : Int) := by
  have h0 := h 0; have h1 := h 1; have h2 := h 2; have h3 := h 3; have h4 := h 4; have h5 := h 5; have h6 := h 6; have h7 := h 7
  rw [wrap_u64 (by omega) (by omega)]
  rw [or_mv (n := 8) (by omega) h1 rfl (by decide)]
  rw [or_mv (n := 16) (by omega) h2 rfl (by decide)]
  rw [or_mv (n := 24) (by omega) h3 rfl (by decide)]
  rw [or_mv (n := 32) (by omega) h4 rfl (by decide)]
  rw [or_mv (n := 40) (by omega) h5 rfl (by decide)]
  rw [or_mv (n := 48) (by omega) h6 rfl (by decide)]
  rw [or_mv (n := 56) (by omega) h7 rfl (by decide)]
  rfl
end Go.Lg

set_option linter.unusedVariables false
set_option linter.unusedSimpArgs false
namespace Go.Proofs.YtddpdmmikheoeaaDoor.Byt
open Go.Lg

theorem frombits (x : Nat) (H : Heap) : Does Tryd.prog 31 [.int .u64 ((x : Nat) : Int)] H fun v H' => v = .float .f64 x ∧ H' = H :=
  does_frombits Tryd.func31 rfl rfl (by kernel_rfl) (by kernel_rfl)
/-- The bytes as0 the order has them: the least first. -/
def gb (big : Bool) (bs : List Nat) (i : Nat) : Nat := if big then bs.getD (7 - i) 0 else bs.getD i 0
theorem gb_lt {big : Bool} {bs : List Nat} (h : ∀ x ∈ bs, x < 256) (i : Nat) : gb big bs i < 256 := by
  have key : ∀ j, bs.getD j 0 < 256 := fun j => by
    rw [List.getD_eq_getElem?_getD]
    cases h2 : bs[j]? with
    | none => simp
    | some x => exact h x (List.mem_of_getElem? h2)
  unfold gb
  split <;> exact key _
set_option maxHeartbeats 4000000 in
theorem be64 (u : Value) (a : Option Addr) (n c : Nat) (bs : List Nat) (H : Heap) (hv : BS H (.slice a n c) bs) (h8 : 8 ≤ n) (hb : ∀ x ∈ bs, x < 256) :
    Does Tryd.prog 81 [u, .slice a n c] H fun w H' => w = .int .u64 ((w8 (gb true bs) : Nat) : Int) ∧ ∃ ex, H' = ex ++ H := by
  obtain ⟨k, o, L, T, fz, rfl, hm, hn, hc, hL⟩ := bs_block hv (by rintro rfl; have := hv.cap; simp at this; omega)
  have l0 : 0 < n := by omega
  have l1 : 1 < n := by omega
  have l2 : 2 < n := by omega
  have l3 : 3 < n := by omega
  have l4 : 4 < n := by omega
  have l5 : 5 < n := by omega
  have l6 : 6 < n := by omega
  have l7 : 7 < n := by omega
  have g0 := hL 0 (by omega)
  have g1 := hL 1 (by omega)
  have g2 := hL 2 (by omega)
  have g3 := hL 3 (by omega)
  have g4 := hL 4 (by omega)
  have g5 := hL 5 (by omega)
  have g6 := hL 6 (by omega)
  have g7 := hL 7 (by omega)
  have h8r := or8 (g := gb true bs) (gb_lt hb)
  refine fn_enter 54 Tryd.func81 fun W => ?_
  repeat' first
    | refine tc_seq ?_ | refine tc_region ?_ | refine at_seq_normal ?_ | refine tl_nil ?_ | refine tl_cons ?_ | refine op_move ?_ | refine op_assign ?_ | refine op_load ?_ | refine op_load_agg ?_ | refine op_indexC ?_
    | refine op_indexAddr1 ?_ | refine op_indexAddr ?_ | refine op_itof ?_ | refine op_itoi ?_ | refine op_ftoi ?_ | refine op_ibits ?_ | refine op_shl ?_ | (refine op_box ?_; intro _) | refine op_loadK rfl ?_ | refine op_load_aggK rfl ?_
    | refine tc_ret ?_ | refine at_seq_ret ?_
  apply fun hole0 hole1 hole2 hole3 hole4 hole5 hole6 hole7 hole8 hole9 hole10 hole11 hole12 hole13 hole14 hole15 hole16 hole17 hole18 hole19 hole20 hole21 hole22 hole23 hole24 hole25 hole26 hole27 hole28 hole29 hole30 hole31 hole32 hole33 hole34 hole35 hole36 hole37 hole38 hole39 hole40 hole41 hole42 hole43 hole44 hole45 hE hD hml hdl hpr prem fin => tc_drawnD 46 [PhiD.is hole0, PhiD.is hole1, PhiD.is hole2, PhiD.is hole3, PhiD.is hole4, PhiD.is hole5, PhiD.is hole6, PhiD.is hole7, PhiD.is hole8, PhiD.is hole9, PhiD.is hole10, PhiD.is hole11, PhiD.is hole12, PhiD.is hole13, PhiD.is hole14, PhiD.is hole15, PhiD.is hole16, PhiD.is hole17, PhiD.is hole18, PhiD.is hole19, PhiD.is hole20, PhiD.is hole21, PhiD.is hole22, PhiD.is hole23, PhiD.is hole24, PhiD.is hole25, PhiD.is hole26, PhiD.is hole27, PhiD.is hole28, PhiD.is hole29, PhiD.is hole30, PhiD.is hole31, PhiD.is hole32, PhiD.is hole33, PhiD.is hole34, PhiD.is hole35, PhiD.is hole36, PhiD.is hole37, PhiD.is hole38, PhiD.is hole39, PhiD.is hole40, PhiD.is hole41, PhiD.is hole42, PhiD.is hole43, PhiD.is hole44, PhiD.is hole45]
    [some 8, some 9, some 10, some 11, some 12, some 13, some 14, some 15, some 16, some 17, some 18, some 19, some 20, some 21, some 22, some 23, some 24, some 25, some 26, some 27, some 28, some 29, some 30, some 31, some 32, some 33, some 34, some 35, some 36, some 37, some 38, some 39, some 40, some 41, some 42, some 43, some 44, some 45, some 46, some 47, some 48, some 49, some 50, some 51, some 52, some 53, some 4] [[], [0], [1], [2], [], [4], [5], [6], [7], [3, 8], [], [10], [11], [12], [13], [9, 14], [], [16], [17], [18], [19], [15, 20], [], [22], [23], [24], [25], [21, 26], [], [28], [29], [30], [31], [27, 32], [], [34], [35], [36], [37], [33, 38], [], [40], [41], [42], [43], [39, 44]] mixed trivial prem fin hE hD rfl hml hdl hpr
  rotate_left 47
  · first | kernel_rfl | exact rfl
  · first | kernel_rfl | exact rfl
  · exact Nat.le_of_ble_eq_true rfl
  · first | kernel_rfl | exact rfl
  · first | kernel_rfl | exact rfl
  refine ⟨fun G hG => ?_, fun G hG => ?_, fun G hG => ?_, fun G hG => ?_, fun G hG => ?_, fun G hG => ?_, fun G hG => ?_, fun G hG => ?_, fun G hG => ?_, fun G hG => ?_, fun G hG => ?_, fun G hG => ?_, fun G hG => ?_, fun G hG => ?_, fun G hG => ?_, fun G hG => ?_, fun G hG => ?_, fun G hG => ?_, fun G hG => ?_, fun G hG => ?_, fun G hG => ?_, fun G hG => ?_, fun G hG => ?_, fun G hG => ?_, fun G hG => ?_, fun G hG => ?_, fun G hG => ?_, fun G hG => ?_, fun G hG => ?_, fun G hG => ?_, fun G hG => ?_, fun G hG => ?_, fun G hG => ?_, fun G hG => ?_, fun G hG => ?_, fun G hG => ?_, fun G hG => ?_, fun G hG => ?_, fun G hG => ?_, fun G hG => ?_, fun G hG => ?_, fun G hG => ?_, fun G hG => ?_, fun G hG => ?_, fun G hG => ?_, fun G hG => ?_, trivial⟩
  · simp only [withD, nthD, Step2, nthDst, putO, postD]
    (refine op_move ?_; exact ⟨[], rfl, rfl, rfl⟩)
  · simp only [withD, nthD, Step2, nthDst, putO, postD]
    ((first | refine op_indexC ?_ | refine op_indexAddr1 ?_ | refine op_indexAddr ?_); exact ⟨[], rfl, rfl, rfl⟩)
  · simp only [withD, nthD, Step2, nthDst, putO, postD]
    ((first | refine op_load ?_ | refine op_load_agg ?_ | refine op_load ?_ (hm := Sub.mem (by assumption) (by (repeat (apply List.mem_cons_of_mem)); assumption)) | refine op_load_agg ?_ (hm := Sub.mem (by assumption) (by (repeat (apply List.mem_cons_of_mem)); assumption)) | refine op_loadH hG rfl ?_ | refine op_load_aggH hG rfl ?_); exact ⟨[], rfl, rfl, rfl⟩)
  · simp only [withD, nthD, Step2, nthDst, putO, postD]
    ((first | refine op_itof ?_ | refine op_itoi ?_ | refine op_ftoi ?_); exact ⟨[], rfl, rfl, rfl⟩)
  · simp only [withD, nthD, Step2, nthDst, putO, postD]
    (refine op_move ?_; exact ⟨[], rfl, rfl, rfl⟩)
  · simp only [withD, nthD, Step2, nthDst, putO, postD]
    ((first | refine op_indexC ?_ | refine op_indexAddr1 ?_ | refine op_indexAddr ?_); exact ⟨[], rfl, rfl, rfl⟩)
  · simp only [withD, nthD, Step2, nthDst, putO, postD]
    ((first | refine op_load ?_ | refine op_load_agg ?_ | refine op_load ?_ (hm := Sub.mem (by assumption) (by (repeat (apply List.mem_cons_of_mem)); assumption)) | refine op_load_agg ?_ (hm := Sub.mem (by assumption) (by (repeat (apply List.mem_cons_of_mem)); assumption)) | refine op_loadH hG rfl ?_ | refine op_load_aggH hG rfl ?_); exact ⟨[], rfl, rfl, rfl⟩)
  · simp only [withD, nthD, Step2, nthDst, putO, postD]
    ((first | refine op_itof ?_ | refine op_itoi ?_ | refine op_ftoi ?_); exact ⟨[], rfl, rfl, rfl⟩)
  · simp only [withD, nthD, Step2, nthDst, putO, postD]
    (refine op_shl (v := 8) ?_ (by decide); exact ⟨[], rfl, rfl, rfl⟩)
  · simp only [withD, nthD, Step2, nthDst, putO, postD]
    (refine op_ibits ?_; exact ⟨[], rfl, rfl, rfl⟩)
  · simp only [withD, nthD, Step2, nthDst, putO, postD]
    (refine op_move ?_; exact ⟨[], rfl, rfl, rfl⟩)
  · simp only [withD, nthD, Step2, nthDst, putO, postD]
    ((first | refine op_indexC ?_ | refine op_indexAddr1 ?_ | refine op_indexAddr ?_); exact ⟨[], rfl, rfl, rfl⟩)
  · simp only [withD, nthD, Step2, nthDst, putO, postD]
    ((first | refine op_load ?_ | refine op_load_agg ?_ | refine op_load ?_ (hm := Sub.mem (by assumption) (by (repeat (apply List.mem_cons_of_mem)); assumption)) | refine op_load_agg ?_ (hm := Sub.mem (by assumption) (by (repeat (apply List.mem_cons_of_mem)); assumption)) | refine op_loadH hG rfl ?_ | refine op_load_aggH hG rfl ?_); exact ⟨[], rfl, rfl, rfl⟩)
  · simp only [withD, nthD, Step2, nthDst, putO, postD]
    ((first | refine op_itof ?_ | refine op_itoi ?_ | refine op_ftoi ?_); exact ⟨[], rfl, rfl, rfl⟩)
  · simp only [withD, nthD, Step2, nthDst, putO, postD]
    (refine op_shl (v := 16) ?_ (by decide); exact ⟨[], rfl, rfl, rfl⟩)
  · simp only [withD, nthD, Step2, nthDst, putO, postD]
    (refine op_ibits ?_; exact ⟨[], rfl, rfl, rfl⟩)
  · simp only [withD, nthD, Step2, nthDst, putO, postD]
    (refine op_move ?_; exact ⟨[], rfl, rfl, rfl⟩)
  · simp only [withD, nthD, Step2, nthDst, putO, postD]
    ((first | refine op_indexC ?_ | refine op_indexAddr1 ?_ | refine op_indexAddr ?_); exact ⟨[], rfl, rfl, rfl⟩)
  · simp only [withD, nthD, Step2, nthDst, putO, postD]
    ((first | refine op_load ?_ | refine op_load_agg ?_ | refine op_load ?_ (hm := Sub.mem (by assumption) (by (repeat (apply List.mem_cons_of_mem)); assumption)) | refine op_load_agg ?_ (hm := Sub.mem (by assumption) (by (repeat (apply List.mem_cons_of_mem)); assumption)) | refine op_loadH hG rfl ?_ | refine op_load_aggH hG rfl ?_); exact ⟨[], rfl, rfl, rfl⟩)
  · simp only [withD, nthD, Step2, nthDst, putO, postD]
    ((first | refine op_itof ?_ | refine op_itoi ?_ | refine op_ftoi ?_); exact ⟨[], rfl, rfl, rfl⟩)
  · simp only [withD, nthD, Step2, nthDst, putO, postD]
    (refine op_shl (v := 24) ?_ (by decide); exact ⟨[], rfl, rfl, rfl⟩)
  · simp only [withD, nthD, Step2, nthDst, putO, postD]
    (refine op_ibits ?_; exact ⟨[], rfl, rfl, rfl⟩)
  · simp only [withD, nthD, Step2, nthDst, putO, postD]
    (refine op_move ?_; exact ⟨[], rfl, rfl, rfl⟩)
  · simp only [withD, nthD, Step2, nthDst, putO, postD]
    ((first | refine op_indexC ?_ | refine op_indexAddr1 ?_ | refine op_indexAddr ?_); exact ⟨[], rfl, rfl, rfl⟩)
  · simp only [withD, nthD, Step2, nthDst, putO, postD]
    ((first | refine op_load ?_ | refine op_load_agg ?_ | refine op_load ?_ (hm := Sub.mem (by assumption) (by (repeat (apply List.mem_cons_of_mem)); assumption)) | refine op_load_agg ?_ (hm := Sub.mem (by assumption) (by (repeat (apply List.mem_cons_of_mem)); assumption)) | refine op_loadH hG rfl ?_ | refine op_load_aggH hG rfl ?_); exact ⟨[], rfl, rfl, rfl⟩)
  · simp only [withD, nthD, Step2, nthDst, putO, postD]
    ((first | refine op_itof ?_ | refine op_itoi ?_ | refine op_ftoi ?_); exact ⟨[], rfl, rfl, rfl⟩)
  · simp only [withD, nthD, Step2, nthDst, putO, postD]
    (refine op_shl (v := 32) ?_ (by decide); exact ⟨[], rfl, rfl, rfl⟩)
  · simp only [withD, nthD, Step2, nthDst, putO, postD]
    (refine op_ibits ?_; exact ⟨[], rfl, rfl, rfl⟩)
  · simp only [withD, nthD, Step2, nthDst, putO, postD]
    (refine op_move ?_; exact ⟨[], rfl, rfl, rfl⟩)
  · simp only [withD, nthD, Step2, nthDst, putO, postD]
    ((first | refine op_indexC ?_ | refine op_indexAddr1 ?_ | refine op_indexAddr ?_); exact ⟨[], rfl, rfl, rfl⟩)
  · simp only [withD, nthD, Step2, nthDst, putO, postD]
    ((first | refine op_load ?_ | refine op_load_agg ?_ | refine op_load ?_ (hm := Sub.mem (by assumption) (by (repeat (apply List.mem_cons_of_mem)); assumption)) | refine op_load_agg ?_ (hm := Sub.mem (by assumption) (by (repeat (apply List.mem_cons_of_mem)); assumption)) | refine op_loadH hG rfl ?_ | refine op_load_aggH hG rfl ?_); exact ⟨[], rfl, rfl, rfl⟩)
  · simp only [withD, nthD, Step2, nthDst, putO, postD]
    ((first | refine op_itof ?_ | refine op_itoi ?_ | refine op_ftoi ?_); exact ⟨[], rfl, rfl, rfl⟩)
  · simp only [withD, nthD, Step2, nthDst, putO, postD]
    (refine op_shl (v := 40) ?_ (by decide); exact ⟨[], rfl, rfl, rfl⟩)
  · simp only [withD, nthD, Step2, nthDst, putO, postD]
    (refine op_ibits ?_; exact ⟨[], rfl, rfl, rfl⟩)
  · simp only [withD, nthD, Step2, nthDst, putO, postD]
    (refine op_move ?_; exact ⟨[], rfl, rfl, rfl⟩)
  · simp only [withD, nthD, Step2, nthDst, putO, postD]
    ((first | refine op_indexC ?_ | refine op_indexAddr1 ?_ | refine op_indexAddr ?_); exact ⟨[], rfl, rfl, rfl⟩)
  · simp only [withD, nthD, Step2, nthDst, putO, postD]
    ((first | refine op_load ?_ | refine op_load_agg ?_ | refine op_load ?_ (hm := Sub.mem (by assumption) (by (repeat (apply List.mem_cons_of_mem)); assumption)) | refine op_load_agg ?_ (hm := Sub.mem (by assumption) (by (repeat (apply List.mem_cons_of_mem)); assumption)) | refine op_loadH hG rfl ?_ | refine op_load_aggH hG rfl ?_); exact ⟨[], rfl, rfl, rfl⟩)
  · simp only [withD, nthD, Step2, nthDst, putO, postD]
    ((first | refine op_itof ?_ | refine op_itoi ?_ | refine op_ftoi ?_); exact ⟨[], rfl, rfl, rfl⟩)
  · simp only [withD, nthD, Step2, nthDst, putO, postD]
    (refine op_shl (v := 48) ?_ (by decide); exact ⟨[], rfl, rfl, rfl⟩)
  · simp only [withD, nthD, Step2, nthDst, putO, postD]
    (refine op_ibits ?_; exact ⟨[], rfl, rfl, rfl⟩)
  · simp only [withD, nthD, Step2, nthDst, putO, postD]
    (refine op_move ?_; exact ⟨[], rfl, rfl, rfl⟩)
  · simp only [withD, nthD, Step2, nthDst, putO, postD]
    ((first | refine op_indexC ?_ | refine op_indexAddr1 ?_ | refine op_indexAddr ?_); exact ⟨[], rfl, rfl, rfl⟩)
  · simp only [withD, nthD, Step2, nthDst, putO, postD]
    ((first | refine op_load ?_ | refine op_load_agg ?_ | refine op_load ?_ (hm := Sub.mem (by assumption) (by (repeat (apply List.mem_cons_of_mem)); assumption)) | refine op_load_agg ?_ (hm := Sub.mem (by assumption) (by (repeat (apply List.mem_cons_of_mem)); assumption)) | refine op_loadH hG rfl ?_ | refine op_load_aggH hG rfl ?_); exact ⟨[], rfl, rfl, rfl⟩)
  · simp only [withD, nthD, Step2, nthDst, putO, postD]
    ((first | refine op_itof ?_ | refine op_itoi ?_ | refine op_ftoi ?_); exact ⟨[], rfl, rfl, rfl⟩)
  · simp only [withD, nthD, Step2, nthDst, putO, postD]
    (refine op_shl (v := 56) ?_ (by decide); exact ⟨[], rfl, rfl, rfl⟩)
  · simp only [withD, nthD, Step2, nthDst, putO, postD]
    (refine op_ibits ?_; exact ⟨[], rfl, rfl, rfl⟩)
  simp only [FinalsD, nthDst, putO, List.drop_succ_cons, List.drop_zero]
  rintro -
  repeat' first
    | refine tc_seq ?_ | refine tc_region ?_ | refine at_seq_normal ?_ | refine tl_nil ?_ | refine tl_cons ?_ | refine op_move ?_ | refine op_assign ?_ | refine op_load ?_ | refine op_load_agg ?_ | refine op_indexC ?_
    | refine op_indexAddr1 ?_ | refine op_indexAddr ?_ | refine op_itof ?_ | refine op_itoi ?_ | refine op_ftoi ?_ | refine op_ibits ?_ | refine op_shl ?_ | (refine op_box ?_; intro _) | refine op_loadK rfl ?_ | refine op_load_aggK rfl ?_
    | refine tc_ret ?_ | refine at_seq_ret ?_
  exact ret_tmp (hG := List.Sublist.refl _) (hk := ⟨congrArg (Value.int .u64) h8r, ExC.ex⟩)
set_option maxHeartbeats 4000000 in
theorem le64 (u : Value) (a : Option Addr) (n c : Nat) (bs : List Nat) (H : Heap) (hv : BS H (.slice a n c) bs) (h8 : 8 ≤ n) (hb : ∀ x ∈ bs, x < 256) :
    Does Tryd.prog 89 [u, .slice a n c] H fun w H' => w = .int .u64 ((w8 (gb false bs) : Nat) : Int) ∧ ∃ ex, H' = ex ++ H := by
  obtain ⟨k, o, L, T, fz, rfl, hm, hn, hc, hL⟩ := bs_block hv (by rintro rfl; have := hv.cap; simp at this; omega)
  have l0 : 0 < n := by omega
  have l1 : 1 < n := by omega
  have l2 : 2 < n := by omega
  have l3 : 3 < n := by omega
  have l4 : 4 < n := by omega
  have l5 : 5 < n := by omega
  have l6 : 6 < n := by omega
  have l7 : 7 < n := by omega
  have g0 := hL 0 (by omega)
  have g1 := hL 1 (by omega)
  have g2 := hL 2 (by omega)
  have g3 := hL 3 (by omega)
  have g4 := hL 4 (by omega)
  have g5 := hL 5 (by omega)
  have g6 := hL 6 (by omega)
  have g7 := hL 7 (by omega)
  have h8r := or8 (g := gb false bs) (gb_lt hb)
  refine fn_enter 54 Tryd.func89 fun W => ?_
  repeat' first
    | refine tc_seq ?_ | refine tc_region ?_ | refine at_seq_normal ?_ | refine tl_nil ?_ | refine tl_cons ?_ | refine op_move ?_ | refine op_assign ?_ | refine op_load ?_ | refine op_load_agg ?_ | refine op_indexC ?_
    | refine op_indexAddr1 ?_ | refine op_indexAddr ?_ | refine op_itof ?_ | refine op_itoi ?_ | refine op_ftoi ?_ | refine op_ibits ?_ | refine op_shl ?_ | (refine op_box ?_; intro _) | refine op_loadK rfl ?_ | refine op_load_aggK rfl ?_
    | refine tc_ret ?_ | refine at_seq_ret ?_
  apply fun hole0 hole1 hole2 hole3 hole4 hole5 hole6 hole7 hole8 hole9 hole10 hole11 hole12 hole13 hole14 hole15 hole16 hole17 hole18 hole19 hole20 hole21 hole22 hole23 hole24 hole25 hole26 hole27 hole28 hole29 hole30 hole31 hole32 hole33 hole34 hole35 hole36 hole37 hole38 hole39 hole40 hole41 hole42 hole43 hole44 hole45 hE hD hml hdl hpr prem fin => tc_drawnD 46 [PhiD.is hole0, PhiD.is hole1, PhiD.is hole2, PhiD.is hole3, PhiD.is hole4, PhiD.is hole5, PhiD.is hole6, PhiD.is hole7, PhiD.is hole8, PhiD.is hole9, PhiD.is hole10, PhiD.is hole11, PhiD.is hole12, PhiD.is hole13, PhiD.is hole14, PhiD.is hole15, PhiD.is hole16, PhiD.is hole17, PhiD.is hole18, PhiD.is hole19, PhiD.is hole20, PhiD.is hole21, PhiD.is hole22, PhiD.is hole23, PhiD.is hole24, PhiD.is hole25, PhiD.is hole26, PhiD.is hole27, PhiD.is hole28, PhiD.is hole29, PhiD.is hole30, PhiD.is hole31, PhiD.is hole32, PhiD.is hole33, PhiD.is hole34, PhiD.is hole35, PhiD.is hole36, PhiD.is hole37, PhiD.is hole38, PhiD.is hole39, PhiD.is hole40, PhiD.is hole41, PhiD.is hole42, PhiD.is hole43, PhiD.is hole44, PhiD.is hole45]
    [some 8, some 9, some 10, some 11, some 12, some 13, some 14, some 15, some 16, some 17, some 18, some 19, some 20, some 21, some 22, some 23, some 24, some 25, some 26, some 27, some 28, some 29, some 30, some 31, some 32, some 33, some 34, some 35, some 36, some 37, some 38, some 39, some 40, some 41, some 42, some 43, some 44, some 45, some 46, some 47, some 48, some 49, some 50, some 51, some 52, some 53, some 4] [[], [0], [1], [2], [], [4], [5], [6], [7], [3, 8], [], [10], [11], [12], [13], [9, 14], [], [16], [17], [18], [19], [15, 20], [], [22], [23], [24], [25], [21, 26], [], [28], [29], [30], [31], [27, 32], [], [34], [35], [36], [37], [33, 38], [], [40], [41], [42], [43], [39, 44]] mixed trivial prem fin hE hD rfl hml hdl hpr
  rotate_left 47
  · first | kernel_rfl | exact rfl
  · first | kernel_rfl | exact rfl
  · exact Nat.le_of_ble_eq_true rfl
  · first | kernel_rfl | exact rfl
  · first | kernel_rfl | exact rfl
  refine ⟨fun G hG => ?_, fun G hG => ?_, fun G hG => ?_, fun G hG => ?_, fun G hG => ?_, fun G hG => ?_, fun G hG => ?_, fun G hG => ?_, fun G hG => ?_, fun G hG => ?_, fun G hG => ?_, fun G hG => ?_, fun G hG => ?_, fun G hG => ?_, fun G hG => ?_, fun G hG => ?_, fun G hG => ?_, fun G hG => ?_, fun G hG => ?_, fun G hG => ?_, fun G hG => ?_, fun G hG => ?_, fun G hG => ?_, fun G hG => ?_, fun G hG => ?_, fun G hG => ?_, fun G hG => ?_, fun G hG => ?_, fun G hG => ?_, fun G hG => ?_, fun G hG => ?_, fun G hG => ?_, fun G hG => ?_, fun G hG => ?_, fun G hG => ?_, fun G hG => ?_, fun G hG => ?_, fun G hG => ?_, fun G hG => ?_, fun G hG => ?_, fun G hG => ?_, fun G hG => ?_, fun G hG => ?_, fun G hG => ?_, fun G hG => ?_, fun G hG => ?_, trivial⟩
  · simp only [withD, nthD, Step2, nthDst, putO, postD]
    (refine op_move ?_; exact ⟨[], rfl, rfl, rfl⟩)
  · simp only [withD, nthD, Step2, nthDst, putO, postD]
    ((first | refine op_indexC ?_ | refine op_indexAddr1 ?_ | refine op_indexAddr ?_); exact ⟨[], rfl, rfl, rfl⟩)
  · simp only [withD, nthD, Step2, nthDst, putO, postD]
    ((first | refine op_load ?_ | refine op_load_agg ?_ | refine op_load ?_ (hm := Sub.mem (by assumption) (by (repeat (apply List.mem_cons_of_mem)); assumption)) | refine op_load_agg ?_ (hm := Sub.mem (by assumption) (by (repeat (apply List.mem_cons_of_mem)); assumption)) | refine op_loadH hG rfl ?_ | refine op_load_aggH hG rfl ?_); exact ⟨[], rfl, rfl, rfl⟩)
  · simp only [withD, nthD, Step2, nthDst, putO, postD]
    ((first | refine op_itof ?_ | refine op_itoi ?_ | refine op_ftoi ?_); exact ⟨[], rfl, rfl, rfl⟩)
  · simp only [withD, nthD, Step2, nthDst, putO, postD]
    (refine op_move ?_; exact ⟨[], rfl, rfl, rfl⟩)
  · simp only [withD, nthD, Step2, nthDst, putO, postD]
    ((first | refine op_indexC ?_ | refine op_indexAddr1 ?_ | refine op_indexAddr ?_); exact ⟨[], rfl, rfl, rfl⟩)
  · simp only [withD, nthD, Step2, nthDst, putO, postD]
    ((first | refine op_load ?_ | refine op_load_agg ?_ | refine op_load ?_ (hm := Sub.mem (by assumption) (by (repeat (apply List.mem_cons_of_mem)); assumption)) | refine op_load_agg ?_ (hm := Sub.mem (by assumption) (by (repeat (apply List.mem_cons_of_mem)); assumption)) | refine op_loadH hG rfl ?_ | refine op_load_aggH hG rfl ?_); exact ⟨[], rfl, rfl, rfl⟩)
  · simp only [withD, nthD, Step2, nthDst, putO, postD]
    ((first | refine op_itof ?_ | refine op_itoi ?_ | refine op_ftoi ?_); exact ⟨[], rfl, rfl, rfl⟩)
  · simp only [withD, nthD, Step2, nthDst, putO, postD]
    (refine op_shl (v := 8) ?_ (by decide); exact ⟨[], rfl, rfl, rfl⟩)
  · simp only [withD, nthD, Step2, nthDst, putO, postD]
    (refine op_ibits ?_; exact ⟨[], rfl, rfl, rfl⟩)
  · simp only [withD, nthD, Step2, nthDst, putO, postD]
    (refine op_move ?_; exact ⟨[], rfl, rfl, rfl⟩)
  · simp only [withD, nthD, Step2, nthDst, putO, postD]
    ((first | refine op_indexC ?_ | refine op_indexAddr1 ?_ | refine op_indexAddr ?_); exact ⟨[], rfl, rfl, rfl⟩)
  · simp only [withD, nthD, Step2, nthDst, putO, postD]
    ((first | refine op_load ?_ | refine op_load_agg ?_ | refine op_load ?_ (hm := Sub.mem (by assumption) (by (repeat (apply List.mem_cons_of_mem)); assumption)) | refine op_load_agg ?_ (hm := Sub.mem (by assumption) (by (repeat (apply List.mem_cons_of_mem)); assumption)) | refine op_loadH hG rfl ?_ | refine op_load_aggH hG rfl ?_); exact ⟨[], rfl, rfl, rfl⟩)
  · simp only [withD, nthD, Step2, nthDst, putO, postD]
    ((first | refine op_itof ?_ | refine op_itoi ?_ | refine op_ftoi ?_); exact ⟨[], rfl, rfl, rfl⟩)
  · simp only [withD, nthD, Step2, nthDst, putO, postD]
    (refine op_shl (v := 16) ?_ (by decide); exact ⟨[], rfl, rfl, rfl⟩)
  · simp only [withD, nthD, Step2, nthDst, putO, postD]
    (refine op_ibits ?_; exact ⟨[], rfl, rfl, rfl⟩)
  · simp only [withD, nthD, Step2, nthDst, putO, postD]
    (refine op_move ?_; exact ⟨[], rfl, rfl, rfl⟩)
  · simp only [withD, nthD, Step2, nthDst, putO, postD]
    ((first | refine op_indexC ?_ | refine op_indexAddr1 ?_ | refine op_indexAddr ?_); exact ⟨[], rfl, rfl, rfl⟩)
  · simp only [withD, nthD, Step2, nthDst, putO, postD]
    ((first | refine op_load ?_ | refine op_load_agg ?_ | refine op_load ?_ (hm := Sub.mem (by assumption) (by (repeat (apply List.mem_cons_of_mem)); assumption)) | refine op_load_agg ?_ (hm := Sub.mem (by assumption) (by (repeat (apply List.mem_cons_of_mem)); assumption)) | refine op_loadH hG rfl ?_ | refine op_load_aggH hG rfl ?_); exact ⟨[], rfl, rfl, rfl⟩)
  · simp only [withD, nthD, Step2, nthDst, putO, postD]
    ((first | refine op_itof ?_ | refine op_itoi ?_ | refine op_ftoi ?_); exact ⟨[], rfl, rfl, rfl⟩)
  · simp only [withD, nthD, Step2, nthDst, putO, postD]
    (refine op_shl (v := 24) ?_ (by decide); exact ⟨[], rfl, rfl, rfl⟩)
  · simp only [withD, nthD, Step2, nthDst, putO, postD]
    (refine op_ibits ?_; exact ⟨[], rfl, rfl, rfl⟩)
  · simp only [withD, nthD, Step2, nthDst, putO, postD]
    (refine op_move ?_; exact ⟨[], rfl, rfl, rfl⟩)
  · simp only [withD, nthD, Step2, nthDst, putO, postD]
    ((first | refine op_indexC ?_ | refine op_indexAddr1 ?_ | refine op_indexAddr ?_); exact ⟨[], rfl, rfl, rfl⟩)
  · simp only [withD, nthD, Step2, nthDst, putO, postD]
    ((first | refine op_load ?_ | refine op_load_agg ?_ | refine op_load ?_ (hm := Sub.mem (by assumption) (by (repeat (apply List.mem_cons_of_mem)); assumption)) | refine op_load_agg ?_ (hm := Sub.mem (by assumption) (by (repeat (apply List.mem_cons_of_mem)); assumption)) | refine op_loadH hG rfl ?_ | refine op_load_aggH hG rfl ?_); exact ⟨[], rfl, rfl, rfl⟩)
  · simp only [withD, nthD, Step2, nthDst, putO, postD]
    ((first | refine op_itof ?_ | refine op_itoi ?_ | refine op_ftoi ?_); exact ⟨[], rfl, rfl, rfl⟩)
  · simp only [withD, nthD, Step2, nthDst, putO, postD]
    (refine op_shl (v := 32) ?_ (by decide); exact ⟨[], rfl, rfl, rfl⟩)
  · simp only [withD, nthD, Step2, nthDst, putO, postD]
    (refine op_ibits ?_; exact ⟨[], rfl, rfl, rfl⟩)
  · simp only [withD, nthD, Step2, nthDst, putO, postD]
    (refine op_move ?_; exact ⟨[], rfl, rfl, rfl⟩)
  · simp only [withD, nthD, Step2, nthDst, putO, postD]
    ((first | refine op_indexC ?_ | refine op_indexAddr1 ?_ | refine op_indexAddr ?_); exact ⟨[], rfl, rfl, rfl⟩)
  · simp only [withD, nthD, Step2, nthDst, putO, postD]
    ((first | refine op_load ?_ | refine op_load_agg ?_ | refine op_load ?_ (hm := Sub.mem (by assumption) (by (repeat (apply List.mem_cons_of_mem)); assumption)) | refine op_load_agg ?_ (hm := Sub.mem (by assumption) (by (repeat (apply List.mem_cons_of_mem)); assumption)) | refine op_loadH hG rfl ?_ | refine op_load_aggH hG rfl ?_); exact ⟨[], rfl, rfl, rfl⟩)
  · simp only [withD, nthD, Step2, nthDst, putO, postD]
    ((first | refine op_itof ?_ | refine op_itoi ?_ | refine op_ftoi ?_); exact ⟨[], rfl, rfl, rfl⟩)
  · simp only [withD, nthD, Step2, nthDst, putO, postD]
    (refine op_shl (v := 40) ?_ (by decide); exact ⟨[], rfl, rfl, rfl⟩)
  · simp only [withD, nthD, Step2, nthDst, putO, postD]
    (refine op_ibits ?_; exact ⟨[], rfl, rfl, rfl⟩)
  · simp only [withD, nthD, Step2, nthDst, putO, postD]
    (refine op_move ?_; exact ⟨[], rfl, rfl, rfl⟩)
  · simp only [withD, nthD, Step2, nthDst, putO, postD]
    ((first | refine op_indexC ?_ | refine op_indexAddr1 ?_ | refine op_indexAddr ?_); exact ⟨[], rfl, rfl, rfl⟩)
  · simp only [withD, nthD, Step2, nthDst, putO, postD]
    ((first | refine op_load ?_ | refine op_load_agg ?_ | refine op_load ?_ (hm := Sub.mem (by assumption) (by (repeat (apply List.mem_cons_of_mem)); assumption)) | refine op_load_agg ?_ (hm := Sub.mem (by assumption) (by (repeat (apply List.mem_cons_of_mem)); assumption)) | refine op_loadH hG rfl ?_ | refine op_load_aggH hG rfl ?_); exact ⟨[], rfl, rfl, rfl⟩)
  · simp only [withD, nthD, Step2, nthDst, putO, postD]
    ((first | refine op_itof ?_ | refine op_itoi ?_ | refine op_ftoi ?_); exact ⟨[], rfl, rfl, rfl⟩)
  · simp only [withD, nthD, Step2, nthDst, putO, postD]
    (refine op_shl (v := 48) ?_ (by decide); exact ⟨[], rfl, rfl, rfl⟩)
  · simp only [withD, nthD, Step2, nthDst, putO, postD]
    (refine op_ibits ?_; exact ⟨[], rfl, rfl, rfl⟩)
  · simp only [withD, nthD, Step2, nthDst, putO, postD]
    (refine op_move ?_; exact ⟨[], rfl, rfl, rfl⟩)
  · simp only [withD, nthD, Step2, nthDst, putO, postD]
    ((first | refine op_indexC ?_ | refine op_indexAddr1 ?_ | refine op_indexAddr ?_); exact ⟨[], rfl, rfl, rfl⟩)
  · simp only [withD, nthD, Step2, nthDst, putO, postD]
    ((first | refine op_load ?_ | refine op_load_agg ?_ | refine op_load ?_ (hm := Sub.mem (by assumption) (by (repeat (apply List.mem_cons_of_mem)); assumption)) | refine op_load_agg ?_ (hm := Sub.mem (by assumption) (by (repeat (apply List.mem_cons_of_mem)); assumption)) | refine op_loadH hG rfl ?_ | refine op_load_aggH hG rfl ?_); exact ⟨[], rfl, rfl, rfl⟩)
  · simp only [withD, nthD, Step2, nthDst, putO, postD]
    ((first | refine op_itof ?_ | refine op_itoi ?_ | refine op_ftoi ?_); exact ⟨[], rfl, rfl, rfl⟩)
  · simp only [withD, nthD, Step2, nthDst, putO, postD]
    (refine op_shl (v := 56) ?_ (by decide); exact ⟨[], rfl, rfl, rfl⟩)
  · simp only [withD, nthD, Step2, nthDst, putO, postD]
    (refine op_ibits ?_; exact ⟨[], rfl, rfl, rfl⟩)
  simp only [FinalsD, nthDst, putO, List.drop_succ_cons, List.drop_zero]
  rintro -
  repeat' first
    | refine tc_seq ?_ | refine tc_region ?_ | refine at_seq_normal ?_ | refine tl_nil ?_ | refine tl_cons ?_ | refine op_move ?_ | refine op_assign ?_ | refine op_load ?_ | refine op_load_agg ?_ | refine op_indexC ?_
    | refine op_indexAddr1 ?_ | refine op_indexAddr ?_ | refine op_itof ?_ | refine op_itoi ?_ | refine op_ftoi ?_ | refine op_ibits ?_ | refine op_shl ?_ | (refine op_box ?_; intro _) | refine op_loadK rfl ?_ | refine op_load_aggK rfl ?_
    | refine tc_ret ?_ | refine at_seq_ret ?_
  exact ret_tmp (hG := List.Sublist.refl _) (hk := ⟨congrArg (Value.int .u64) h8r, ExC.ex⟩)
end Go.Proofs.YtddpdmmikheoeaaDoor.Byt

set_option linter.unusedVariables false
set_option linter.unusedSimpArgs false
namespace Go.Proofs.YtddpdmmikheoeaaDoor.Byt
open Go.Lg

theorem BS.cut {G : Heap} {xs : List Nat} {a : Option Addr} {n c : Nat} (hs : BS G (.slice a n c) xs) {l : Nat} (hl : l ≤ n) : BS G (slAt a l 1 n c) (xs.drop l) := by
  have hc := hs.cap
  have := (BS.toN hs).cut rfl hl (by omega)
  rw [Nat.mul_one, Nat.mul_one, ← List.map_drop, ← List.map_take, List.take_of_length_le (by rw [List.length_drop]; omega)] at this
  exact this.toSl.1
def wk (v : Value) (big bad : Bool) : List Value := [v, .bool false, .bool false, .bool big, .bool bad, .bool false]
set_option maxHeartbeats 4000000 in
theorem uint8 (k : Nat) (T : TypeId) (a : Option Addr) (n c : Nat) (bs : List Nat) (big bad : Bool) (H : Heap) (hv : BS H (.slice a n c) bs) (hb : ∀ x ∈ bs, x < 256) :
    Does Tryd.prog 32 [.pointer (some ⟨k, 0, none⟩), .int .i64 8] ((k, Obj.cells ⟨wk (.slice a n c) big bad⟩ T (0, 0)) :: H) fun w H' => (bad = false ∧ 8 ≤ n ∧ w = .int .u64 ((w8 (gb big bs) : Nat) : Int) ∧ H' = (k, Obj.cells ⟨wk (slAt a 8 1 n c) big false⟩ T (0, 0)) :: H) ∨ ((bad = true ∨ n < 8) ∧ w = .int .u64 0 ∧ H' = (k, Obj.cells ⟨wk (.slice a n c) big true⟩ T (0, 0)) :: H) := by
  unfold wk
  have hcap := hv.cap
  cases bad with
  | true =>
    refine fn_enter 66 Tryd.func32 fun W => ?_
    repeat' first
      | refine tc_seq ?_ | refine tc_region ?_ | refine at_seq_normal ?_ | refine tl_nil ?_ | refine tl_cons ?_ | refine tl_cons_none ?_ | refine op_move ?_ | refine op_assign ?_ | refine op_fieldAddr ?_ | refine op_load ?_
      | refine op_load_agg ?_ | refine op_indexC ?_ | refine op_indexAddr1 ?_ | refine op_indexAddr ?_ | refine op_icmp ?_ | refine op_fcmp ?_ | refine op_iarith ?_ | refine op_bcmp ?_ | refine op_unop_not ?_ | refine op_unop_neg_float ?_
      | refine op_unop_neg_int ?_ | refine op_len_slice ?_ | refine op_pick_true ?_ | refine op_pick_false ?_ | refine op_pick_true' ?_ | refine op_pick_false' ?_ | refine op_build ?_ | refine op_extract ?_ | refine op_makeInterface ?_ | refine op_typeAssert ?_
      | refine op_ptr_nil ?_ | refine op_nilCheck_ptr ?_ | refine op_nilCheck_meth ?_ | refine op_makeMeth ?_ | refine op_makeFunc ?_ | refine op_itof ?_ | refine op_itoi ?_ | refine op_ftoi ?_ | refine op_iquo ?_ | refine op_irem ?_
      | refine op_ibits ?_ | refine op_slice_isnil ?_ | refine op_slice_notnil ?_ | refine op_imax ?_ | refine op_imin ?_ | refine op_shl ?_ | refine op_shr ?_ | (refine op_alloc ?_; intro _) | (refine op_box ?_; intro _) | (refine op_buildSlice ?_; intro _)
      | (refine op_farith ?_; intro _ _) | refine op_store0 ?_ | refine op_store1 ?_ | refine op_store2 ?_ | refine op_store3 ?_ | refine op_store4 ?_ | refine op_store5 ?_ | refine op_storeK rfl ?_ | refine op_loadK rfl ?_ | refine op_load_aggK rfl ?_
      | refine tc_cond_t ?_ | refine tc_cond_f ?_ | refine tc_cond (fun _ => ?_) (fun _ => ?_) | refine tc_block ?_ | refine tc_skip ?_ | refine tc_ret ?_ | refine tc_exit ?_ | refine at_seq_ret ?_ | refine at_seq_exit ?_ | refine at_block_normal ?_
      | refine at_block_ret ?_ | refine at_block_exit_self ?_ | refine at_block_exit_ne ?_ | refine at_loop_ret ?_ | refine at_loop_exit ?_ | refine tl_guard_yes ?_ | refine tl_guard_no ?_ | refine tl_guard_yes' ?_ | refine tl_guard_no' ?_ | refine tl_guard_undef ?_
      | refine tl_guard_split (fun _ => ?_) (fun _ => ?_)
    exact ret_tmp (hk := .inr ⟨.inl rfl, rfl, rfl⟩)
  | false =>
    by_cases h8 : 8 ≤ n
    rotate_left
    · have hc : icmp .lss (n : Int) 8 = true := by simp only [icmp]; exact decide_eq_true (by omega)
      refine fn_enter 66 Tryd.func32 fun W => ?_
      repeat' first
        | refine tc_seq ?_ | refine tc_region ?_ | refine at_seq_normal ?_ | refine tl_nil ?_ | refine tl_cons ?_ | refine tl_cons_none ?_ | refine op_move ?_ | refine op_assign ?_ | refine op_fieldAddr ?_ | refine op_load ?_
        | refine op_load_agg ?_ | refine op_indexC ?_ | refine op_indexAddr1 ?_ | refine op_indexAddr ?_ | refine op_icmp ?_ | refine op_fcmp ?_ | refine op_iarith ?_ | refine op_bcmp ?_ | refine op_unop_not ?_ | refine op_unop_neg_float ?_
        | refine op_unop_neg_int ?_ | refine op_len_slice ?_ | refine op_pick_true ?_ | refine op_pick_false ?_ | refine op_pick_true' ?_ | refine op_pick_false' ?_ | refine op_build ?_ | refine op_extract ?_ | refine op_makeInterface ?_ | refine op_typeAssert ?_
        | refine op_ptr_nil ?_ | refine op_nilCheck_ptr ?_ | refine op_nilCheck_meth ?_ | refine op_makeMeth ?_ | refine op_makeFunc ?_ | refine op_itof ?_ | refine op_itoi ?_ | refine op_ftoi ?_ | refine op_iquo ?_ | refine op_irem ?_
        | refine op_ibits ?_ | refine op_slice_isnil ?_ | refine op_slice_notnil ?_ | refine op_imax ?_ | refine op_imin ?_ | refine op_shl ?_ | refine op_shr ?_ | (refine op_alloc ?_; intro _) | (refine op_box ?_; intro _) | (refine op_buildSlice ?_; intro _)
        | (refine op_farith ?_; intro _ _) | refine op_store0 ?_ | refine op_store1 ?_ | refine op_store2 ?_ | refine op_store3 ?_ | refine op_store4 ?_ | refine op_store5 ?_ | refine op_storeK rfl ?_ | refine op_loadK rfl ?_ | refine op_load_aggK rfl ?_
        | refine tc_cond_t ?_ | refine tc_cond_f ?_ | refine tc_cond (fun _ => ?_) (fun _ => ?_) | refine tc_block ?_ | refine tc_skip ?_ | refine tc_ret ?_ | refine tc_exit ?_ | refine at_seq_ret ?_ | refine at_seq_exit ?_ | refine at_block_normal ?_
        | refine at_block_ret ?_ | refine at_block_exit_self ?_ | refine at_block_exit_ne ?_ | refine at_loop_ret ?_ | refine at_loop_exit ?_ | refine tl_guard_yes ?_ | refine tl_guard_no ?_ | refine tl_guard_yes' ?_ | refine tl_guard_no' ?_ | refine tl_guard_undef ?_
        | refine tl_guard_split (fun _ => ?_) (fun _ => ?_)
      exact ret_tmp (hk := .inr ⟨.inr (by omega), rfl, rfl⟩)
    have hc : icmp .lss (n : Int) 8 = false := by simp only [icmp]; exact decide_eq_false (by omega)
    have hacc := acc8_w8 (gb big bs)
    have hg := gb_lt (big := big) hb
    obtain ⟨k2, o, L, T2, fz, rfl, hm, hn, hcc, hL⟩ := bs_block hv (by rintro rfl; simp at hcap; omega)
    refine fn_enter 66 Tryd.func32 fun W => ?_
    repeat' first
      | refine tc_seq ?_ | refine tc_region ?_ | refine at_seq_normal ?_ | refine tl_nil ?_ | refine tl_cons ?_ | refine tl_cons_none ?_ | refine op_move ?_ | refine op_assign ?_ | refine op_fieldAddr ?_ | refine op_load ?_
      | refine op_load_agg ?_ | refine op_indexC ?_ | refine op_indexAddr1 ?_ | refine op_indexAddr ?_ | refine op_icmp ?_ | refine op_fcmp ?_ | refine op_iarith ?_ | refine op_bcmp ?_ | refine op_unop_not ?_ | refine op_unop_neg_float ?_
      | refine op_unop_neg_int ?_ | refine op_len_slice ?_ | refine op_pick_true ?_ | refine op_pick_false ?_ | refine op_pick_true' ?_ | refine op_pick_false' ?_ | refine op_build ?_ | refine op_extract ?_ | refine op_makeInterface ?_ | refine op_typeAssert ?_
      | refine op_ptr_nil ?_ | refine op_nilCheck_ptr ?_ | refine op_nilCheck_meth ?_ | refine op_makeMeth ?_ | refine op_makeFunc ?_ | refine op_itof ?_ | refine op_itoi ?_ | refine op_ftoi ?_ | refine op_iquo ?_ | refine op_irem ?_
      | refine op_ibits ?_ | refine op_slice_isnil ?_ | refine op_slice_notnil ?_ | refine op_imax ?_ | refine op_imin ?_ | refine op_shl ?_ | refine op_shr ?_ | (refine op_alloc ?_; intro _) | (refine op_box ?_; intro _) | (refine op_buildSlice ?_; intro _)
      | (refine op_farith ?_; intro _ _) | refine op_store0 ?_ | refine op_store1 ?_ | refine op_store2 ?_ | refine op_store3 ?_ | refine op_store4 ?_ | refine op_store5 ?_ | refine op_storeK rfl ?_ | refine op_loadK rfl ?_ | refine op_load_aggK rfl ?_
      | refine tc_cond_t ?_ | refine tc_cond_f ?_ | refine tc_cond (fun _ => ?_) (fun _ => ?_) | refine tc_block ?_ | refine tc_skip ?_ | refine tc_ret ?_ | refine tc_exit ?_ | refine at_seq_ret ?_ | refine at_seq_exit ?_ | refine at_block_normal ?_
      | refine at_block_ret ?_ | refine at_block_exit_self ?_ | refine at_block_exit_ne ?_ | refine at_loop_ret ?_ | refine at_loop_exit ?_ | refine tl_guard_yes ?_ | refine tl_guard_no ?_ | refine tl_guard_yes' ?_ | refine tl_guard_no' ?_ | refine tl_guard_undef ?_
      | refine tl_guard_split (fun _ => ?_) (fun _ => ?_)
    refine tc_loopH [(0, _), (1, _), (4, _), (30, _)] (by repeat (first | exact trivial | refine ⟨rfl, ?_⟩)) (fun i : Nat => [(31, .int .i64 (i : Int)), (5, .int .u64 ((acc8 (gb big bs) i : Nat) : Int))]) (fun i => i ≤ 8) (fun i => 8 - i) 0 (Nat.zero_le _) ⟨rfl, rfl, trivial⟩ ?_
    intro i hi
    by_cases hlt : i < 8
    · have hbb : icmp .lss (i : Int) 8 = true := by simp only [icmp]; exact decide_eq_true (by omega)
      have hin : i < n := by omega
      have hin2 : 7 - i < n := by omega
      have e7 : IntKind.i64.wrap (iarith .sub 8 1) = 7 := by decide
      have hsub : IntKind.i64.wrap (iarith .sub 7 (i : Int)) = ((7 - i : Nat) : Int) := by rw [wrap_sub (by omega) (by omega)]; omega
      have hL1 := hL i (by omega)
      have hL2 := hL (7 - i) (by omega)
      have h1 := acc8_lt hg i
      have h1' : acc8 (gb big bs) i < 256 ^ 7 := Nat.lt_of_lt_of_le h1 (Nat.pow_le_pow_right (by decide) (by omega))
      have hor : ∀ b : Nat, gb big bs (7 - i) = b → ibits .or .u64 (IntKind.u64.wrap (((acc8 (gb big bs) i : Nat) : Int) * 2 ^ min (8 : Int).toNat IntKind.u64.bits)) (IntKind.u64.wrap ((b : Nat) : Int)) = ((acc8 (gb big bs) (i + 1) : Nat) : Int) := by
        rintro b rfl
        have := hg (7 - i)
        rw [shl_u64 (n := 8) rfl (by omega) (by decide), wrap_u64 (by omega) (by omega), ior_u64 (by omega) (by omega), Nat.or_comm, or_add (by omega), acc8]
        congr 1; omega
      cases big with
      | true =>
        have hor := hor (bs.getD i 0) (by simp only [gb, if_true]; congr 1; omega)
        repeat' first
          | (refine op_shl (v := 8) ?_ (by decide))
          | (refine op_ibits ?_; rw [hor])
          | (first | refine tc_seq ?_ | refine tc_region ?_ | refine at_seq_normal ?_ | refine tl_nil ?_ | refine tl_cons ?_ | refine tl_cons_none ?_ | refine op_move ?_ | refine op_assign ?_ | refine op_fieldAddr ?_ | refine op_load ?_ | refine op_load_agg ?_ | refine op_indexC ?_ | refine op_indexAddr1 ?_ | refine op_indexAddr ?_ | refine op_icmp ?_ | refine op_fcmp ?_ | refine op_iarith ?_ | refine op_bcmp ?_ | refine op_unop_not ?_ | refine op_unop_neg_float ?_ | refine op_unop_neg_int ?_ | refine op_len_slice ?_ | refine op_pick_true ?_ | refine op_pick_false ?_ | refine op_pick_true' ?_ | refine op_pick_false' ?_ | refine op_build ?_ | refine op_extract ?_ | refine op_makeInterface ?_ | refine op_typeAssert ?_ | refine op_ptr_nil ?_ | refine op_nilCheck_ptr ?_ | refine op_nilCheck_meth ?_ | refine op_makeMeth ?_ | refine op_makeFunc ?_ | refine op_itof ?_ | refine op_itoi ?_ | refine op_ftoi ?_ | refine op_iquo ?_ | refine op_irem ?_ | refine op_ibits ?_ | refine op_slice_isnil ?_ | refine op_slice_notnil ?_ | refine op_imax ?_ | refine op_imin ?_ | refine op_shl ?_ | refine op_shr ?_ | (refine op_alloc ?_; intro _) | (refine op_box ?_; intro _) | (refine op_buildSlice ?_; intro _) | (refine op_farith ?_; intro _ _) | refine op_store0 ?_ | refine op_store1 ?_ | refine op_store2 ?_ | refine op_store3 ?_ | refine op_store4 ?_ | refine op_store5 ?_ | refine op_storeK rfl ?_ | refine op_loadK rfl ?_ | refine op_load_aggK rfl ?_ | refine tc_cond_t ?_ | refine tc_cond_f ?_ | refine tc_cond (fun _ => ?_) (fun _ => ?_) | refine tc_block ?_ | refine tc_skip ?_ | refine tc_ret ?_ | refine tc_exit ?_ | refine at_seq_ret ?_ | refine at_seq_exit ?_ | refine at_block_normal ?_ | refine at_block_ret ?_ | refine at_block_exit_self ?_ | refine at_block_exit_ne ?_ | refine at_loop_ret ?_ | refine at_loop_exit ?_ | refine tl_guard_yes ?_ | refine tl_guard_no ?_ | refine tl_guard_yes' ?_ | refine tl_guard_no' ?_ | refine tl_guard_undef ?_ | refine tl_guard_split (fun _ => ?_) (fun _ => ?_) | fail)
          | fail
        exact at_loopK (i + 1) hlt (by omega) ⟨next_nat (by omega), rfl, trivial⟩ (by repeat (first | exact trivial | refine ⟨rfl, ?_⟩)) (List.Sublist.refl _)
      | false =>
        have hor := hor (bs.getD (7 - i) 0) (by simp only [gb]; rfl)
        repeat' first
          | (refine op_shl (v := 8) ?_ (by decide))
          | (refine op_ibits ?_; rw [hor])
          | (refine op_iarith ?_; rw [e7])
          | (refine op_iarith ?_; rw [hsub])
          | (first | refine tc_seq ?_ | refine tc_region ?_ | refine at_seq_normal ?_ | refine tl_nil ?_ | refine tl_cons ?_ | refine tl_cons_none ?_ | refine op_move ?_ | refine op_assign ?_ | refine op_fieldAddr ?_ | refine op_load ?_ | refine op_load_agg ?_ | refine op_indexC ?_ | refine op_indexAddr1 ?_ | refine op_indexAddr ?_ | refine op_icmp ?_ | refine op_fcmp ?_ | refine op_iarith ?_ | refine op_bcmp ?_ | refine op_unop_not ?_ | refine op_unop_neg_float ?_ | refine op_unop_neg_int ?_ | refine op_len_slice ?_ | refine op_pick_true ?_ | refine op_pick_false ?_ | refine op_pick_true' ?_ | refine op_pick_false' ?_ | refine op_build ?_ | refine op_extract ?_ | refine op_makeInterface ?_ | refine op_typeAssert ?_ | refine op_ptr_nil ?_ | refine op_nilCheck_ptr ?_ | refine op_nilCheck_meth ?_ | refine op_makeMeth ?_ | refine op_makeFunc ?_ | refine op_itof ?_ | refine op_itoi ?_ | refine op_ftoi ?_ | refine op_iquo ?_ | refine op_irem ?_ | refine op_ibits ?_ | refine op_slice_isnil ?_ | refine op_slice_notnil ?_ | refine op_imax ?_ | refine op_imin ?_ | refine op_shl ?_ | refine op_shr ?_ | (refine op_alloc ?_; intro _) | (refine op_box ?_; intro _) | (refine op_buildSlice ?_; intro _) | (refine op_farith ?_; intro _ _) | refine op_store0 ?_ | refine op_store1 ?_ | refine op_store2 ?_ | refine op_store3 ?_ | refine op_store4 ?_ | refine op_store5 ?_ | refine op_storeK rfl ?_ | refine op_loadK rfl ?_ | refine op_load_aggK rfl ?_ | refine tc_cond_t ?_ | refine tc_cond_f ?_ | refine tc_cond (fun _ => ?_) (fun _ => ?_) | refine tc_block ?_ | refine tc_skip ?_ | refine tc_ret ?_ | refine tc_exit ?_ | refine at_seq_ret ?_ | refine at_seq_exit ?_ | refine at_block_normal ?_ | refine at_block_ret ?_ | refine at_block_exit_self ?_ | refine at_block_exit_ne ?_ | refine at_loop_ret ?_ | refine at_loop_exit ?_ | refine tl_guard_yes ?_ | refine tl_guard_no ?_ | refine tl_guard_yes' ?_ | refine tl_guard_no' ?_ | refine tl_guard_undef ?_ | refine tl_guard_split (fun _ => ?_) (fun _ => ?_) | fail)
          | fail
        exact at_loopK (i + 1) hlt (by omega) ⟨next_nat (by omega), rfl, trivial⟩ (by repeat (first | exact trivial | refine ⟨rfl, ?_⟩)) (List.Sublist.refl _)
    · obtain rfl : i = 8 := by omega
      have hbb : icmp .lss ((8 : Nat) : Int) 8 = false := by decide
      rw [hacc]
      repeat' first
        | refine op_slice_l (l := 8) ?_
        | (first | refine tc_seq ?_ | refine tc_region ?_ | refine at_seq_normal ?_ | refine tl_nil ?_ | refine tl_cons ?_ | refine tl_cons_none ?_ | refine op_move ?_ | refine op_assign ?_ | refine op_fieldAddr ?_ | refine op_load ?_ | refine op_load_agg ?_ | refine op_indexC ?_ | refine op_indexAddr1 ?_ | refine op_indexAddr ?_ | refine op_icmp ?_ | refine op_fcmp ?_ | refine op_iarith ?_ | refine op_bcmp ?_ | refine op_unop_not ?_ | refine op_unop_neg_float ?_ | refine op_unop_neg_int ?_ | refine op_len_slice ?_ | refine op_pick_true ?_ | refine op_pick_false ?_ | refine op_pick_true' ?_ | refine op_pick_false' ?_ | refine op_build ?_ | refine op_extract ?_ | refine op_makeInterface ?_ | refine op_typeAssert ?_ | refine op_ptr_nil ?_ | refine op_nilCheck_ptr ?_ | refine op_nilCheck_meth ?_ | refine op_makeMeth ?_ | refine op_makeFunc ?_ | refine op_itof ?_ | refine op_itoi ?_ | refine op_ftoi ?_ | refine op_iquo ?_ | refine op_irem ?_ | refine op_ibits ?_ | refine op_slice_isnil ?_ | refine op_slice_notnil ?_ | refine op_imax ?_ | refine op_imin ?_ | refine op_shl ?_ | refine op_shr ?_ | (refine op_alloc ?_; intro _) | (refine op_box ?_; intro _) | (refine op_buildSlice ?_; intro _) | (refine op_farith ?_; intro _ _) | refine op_store0 ?_ | refine op_store1 ?_ | refine op_store2 ?_ | refine op_store3 ?_ | refine op_store4 ?_ | refine op_store5 ?_ | refine op_storeK rfl ?_ | refine op_loadK rfl ?_ | refine op_load_aggK rfl ?_ | refine tc_cond_t ?_ | refine tc_cond_f ?_ | refine tc_cond (fun _ => ?_) (fun _ => ?_) | refine tc_block ?_ | refine tc_skip ?_ | refine tc_ret ?_ | refine tc_exit ?_ | refine at_seq_ret ?_ | refine at_seq_exit ?_ | refine at_block_normal ?_ | refine at_block_ret ?_ | refine at_block_exit_self ?_ | refine at_block_exit_ne ?_ | refine at_loop_ret ?_ | refine at_loop_exit ?_ | refine tl_guard_yes ?_ | refine tl_guard_no ?_ | refine tl_guard_yes' ?_ | refine tl_guard_no' ?_ | refine tl_guard_undef ?_ | refine tl_guard_split (fun _ => ?_) (fun _ => ?_) | fail)
        | fail
      exact ret_tmp (hk := .inl ⟨rfl, h8, rfl, rfl⟩)
end Go.Proofs.YtddpdmmikheoeaaDoor.Byt

set_option linter.unusedVariables false
set_option linter.unusedSimpArgs false
namespace Go.Lg
section
variable {P : Program} {n : Nat} {ds : List Deferred} {E : Env}
variable {dst : Option Tmp} {g : Option (Nat × Bool)} {ty pos af}
theorem y_fieldAddr {t i x k off o} [hf : FieldAt P t i o] (hx : evalE E x = some (.pointer (some ⟨k, off, none⟩)) := by exact rfl) :
    YT P n ds ⟨dst, .fieldAddr t x i, ty, pos, af, g⟩ E (.pointer (some ⟨k, off + o, none⟩)) := y_of fun a w ho => by
  obtain ⟨fs, f, j, h1, h2, h3, h4, h5⟩ := hf.eq
  simp only [execOp, ho.eval hx]
  refine run_v ?_
  haveI : Und P t (.struct fs) := ⟨h1⟩
  refine (sem_run_bind P _ _ w _ w (run_underlying (t := t) w)).trans ?_
  simp only [h2]
  refine (sem_run_bind P _ _ w ⟨k, off, none⟩ w rfl).trans ?_
  refine (sem_run_bind P _ _ w ⟨k, off + o, none⟩ w ?_).trans rfl
  refine (sem_run_bind P _ _ w j.size w ((sem_run_bind P _ _ w j w (run_typeInfo h4 w)).trans rfl)).trans ?_
  rw [if_neg h5, h3, addr_add]; rfl
end
end Go.Lg

set_option linter.unusedVariables false
set_option linter.unusedSimpArgs false
namespace Go.Proofs.YtddpdmmikheoeaaDoor.Byt
open Go.Lg

theorem bufV_val {buf : Buf} {n : Nat} {ws : List Value} (h : bufOk 1 buf n ws) : ∃ a c, bufV buf n = .slice a n c := by
  cases buf with
  | none => exact ⟨none, 0, by rw [h.1]; rfl⟩
  | some b => exact ⟨_, _, rfl⟩
def word (big : Bool) (bs : List Nat) (j : Nat) : Nat := w8 (gb big (bs.drop (8 * j)))
def words (big : Bool) (bs : List Nat) (s : Nat) : List Nat := (List.range s).map (word big bs)
theorem words_succ (big : Bool) (bs : List Nat) (s : Nat) : words big bs (s + 1) = words big bs s ++ [word big bs s] := by
  unfold words; rw [List.range_succ, List.map_append]; rfl
theorem words_len (big : Bool) (bs : List Nat) (s : Nat) : (words big bs s).length = s := by simp [words]
theorem slAt_form (a : Option Addr) (l n c : Nat) : ∃ a', slAt a l 1 n c = .slice a' (n - l) (c - l) := ⟨_, rfl⟩
theorem bufH_mono {e : TypeId} {buf : Buf} {ws : List Value} {H G : Heap} (h : List.Sublist H G) : List.Sublist (bufH e buf ws H) (bufH e buf ws G) := by
  cases buf with
  | none => exact h
  | some b => exact h.cons_cons _
set_option maxHeartbeats 8000000 in
theorem nums (k : Nat) (T : TypeId) (a : Option Addr) (n c : Nat) (bs : List Nat) (big : Bool) (s : Nat) (H : Heap) (hv : BS H (.slice a n c) bs) (hb : ∀ x ∈ bs, x < 256) (hs : s ≤ 1000) :
    Does Tryd.prog 15 [.pointer (some ⟨k, 0, none⟩), .int .i64 (s : Int)] ((k, Obj.cells ⟨wk (.slice a n c) big false⟩ T (0, 0)) :: H) fun w H' => ∃ ex a' n' c' bad, H' = ex ++ (k, Obj.cells ⟨wk (.slice a' n' c') big bad⟩ T (0, 0)) :: H ∧
      ((bad = false ∧ 8 * s ≤ n ∧ n' = n - 8 * s ∧ ∃ av cv, w = .slice av s cv ∧ FS ex (.slice av s cv) (words big bs s)) ∨ (bad = true ∧ n < 8 * s ∧ ∃ av l cv, w = .slice av l cv)) := by
  have hcap := hv.cap
  refine fn_enter 33 Tryd.func15 fun W => ?_
  repeat' first
    | refine tc_seq ?_ | refine tc_region ?_ | refine at_seq_normal ?_ | refine tl_nil ?_ | refine tl_cons ?_ | refine op_move ?_ | refine op_assign ?_ | refine op_fieldAddr ?_ | refine op_load ?_ | refine op_load_agg ?_
    | refine op_icmp ?_ | refine op_iarith ?_ | refine op_unop_not ?_ | refine op_pick_true ?_ | refine op_pick_false ?_ | refine op_pick_true' ?_ | refine op_pick_false' ?_ | refine op_nilCheck_ptr ?_ | refine op_nilCheck_meth ?_ | (refine op_buildSlice ?_; intro _)
    | refine op_loadK rfl ?_ | refine op_load_aggK rfl ?_ | refine tc_cond_t ?_ | refine tc_cond_f ?_ | refine tc_cond (fun _ => ?_) (fun _ => ?_) | refine tc_block ?_ | refine tc_skip ?_ | refine tc_ret ?_ | refine tc_exit ?_ | refine at_seq_ret ?_
    | refine at_seq_exit ?_ | refine at_block_normal ?_ | refine at_block_ret ?_ | refine at_block_exit_self ?_ | refine at_block_exit_ne ?_ | refine at_loop_ret ?_ | refine at_loop_exit ?_ | refine tl_guard_yes ?_ | refine tl_guard_no ?_ | refine tl_guard_yes' ?_
    | refine tl_guard_no' ?_ | refine tl_guard_undef ?_ | refine tl_guard_split (fun _ => ?_) (fun _ => ?_)
  refine tc_loopK [(0, _), (1, _), (4, _)] (by repeat (first | exact trivial | refine ⟨rfl, ?_⟩)) (fun p : Nat × Bool × Option Addr × Nat × Nat × Buf × List Value => [(6, .int .i64 (p.1 : Int)), (5, bufV p.2.2.2.2.2.1 p.1)]) (fun p => bufH 57 p.2.2.2.2.2.1 p.2.2.2.2.2.2 ((k, Obj.cells ⟨wk (.slice p.2.2.1 p.2.2.2.1 p.2.2.2.2.1) big p.2.1⟩ T (0, 0)) :: H))
    (fun p => p.1 ≤ s ∧ bufOk 1 p.2.2.2.2.2.1 p.1 p.2.2.2.2.2.2 ∧ ((p.2.1 = false ∧ 8 * p.1 ≤ n ∧ p.2.2.2.1 = n - 8 * p.1 ∧ BS H (.slice p.2.2.1 p.2.2.2.1 p.2.2.2.2.1) (bs.drop (8 * p.1)) ∧ p.2.2.2.2.2.2 = (words big bs p.1).map fl) ∨ (p.2.1 = true ∧ n < 8 * p.1))) (fun p => s - p.1) (0, false, a, n, c, none, []) ⟨Nat.zero_le _, ⟨rfl, rfl⟩, .inl ⟨rfl, Nat.zero_le _, by simp, by simpa using hv, rfl⟩⟩ ⟨rfl, rfl, trivial⟩ (List.Sublist.refl _) ?_
  rintro ⟨i, bad, a1, n1, c1, buf, ws⟩ ⟨hi, hok, hst⟩
  simp only at hi hok hst ⊢
  unfold wk at *
  obtain ⟨aB, cB, hbV⟩ := bufV_val hok
  have hmk : ∀ e ∈ (k, Obj.cells ⟨[Value.slice a1 n1 c1, .bool false, .bool false, .bool big, .bool bad, .bool false]⟩ T (0, 0)) :: H, e ∈ bufH 57 buf ws ((k, Obj.cells ⟨[Value.slice a1 n1 c1, .bool false, .bool false, .bool big, .bool bad, .bool false]⟩ T (0, 0)) :: H) := fun e he => (bufH_sub _ _ _ _).subset he
  have hmm := hmk _ List.mem_cons_self
  have hdone : ∀ W0 : World, 0 = 0 := fun _ => rfl
  rcases hst with ⟨rfl, h8, rfl, hv1, rfl⟩ | ⟨rfl, h8⟩
  · by_cases hlt : i < s
    · have hc : icmp .lss (i : Int) (s : Int) = true := by rw [lss_nat]; simpa using hlt
      have hu := uint8 k T a1 (n - 8 * i) c1 (bs.drop (8 * i)) big false (bufH 57 buf ((words big bs i).map fl) H) (hv1.mono fun e he => (bufH_sub _ _ _ _).subset he) (fun x hx => hb x (List.mem_of_mem_drop hx))
      unfold wk at hu
      repeat' first
        | (refine op_perm (G' := _ :: bufH 57 buf ((words big bs i).map fl) H) (bufH_swap _ _ _ _ _).symm ?_
           refine op_call (hu.mono ?_)
           rintro _ _ (⟨-, hn8, rfl, rfl⟩ | ⟨hn8, rfl, rfl⟩))
        | (refine op_call ((frombits _ _).mono ?_); rintro _ _ ⟨rfl, rfl⟩)
        | (refine op_call ((frombits 0 _).mono ?_); rintro _ _ ⟨rfl, rfl⟩)
        | (refine op_perm (bufH_app 57 buf ((words big bs i).map fl) ((_, _) :: (_, _) :: []) H) ?_
           refine op_append (H' := (_, _) :: (_, _) :: H) buf i ((words big bs i).map fl) [_] (m := 1) hok (fun buf' hok' => ?_) (by exact rfl) (by exact rfl) (List.Sublist.refl _) ((bufH_sub _ _ _ _).subset List.mem_cons_self) rfl rfl (by simp [Value.oneCell']) (by decide) (by simp only [maxLen]; omega) (by omega))
        | (first | refine tc_seq ?_ | refine tc_region ?_ | refine at_seq_normal ?_ | refine tl_nil ?_ | refine tl_cons ?_ | refine op_move ?_ | refine op_assign ?_ | refine op_fieldAddr ?_ | refine op_load ?_ | refine op_load_agg ?_ | refine op_icmp ?_ | refine op_iarith ?_ | refine op_unop_not ?_ | refine op_pick_true ?_ | refine op_pick_false ?_ | refine op_pick_true' ?_ | refine op_pick_false' ?_ | refine op_nilCheck_ptr ?_ | refine op_nilCheck_meth ?_ | (refine op_buildSlice ?_; intro _) | refine op_loadK rfl ?_ | refine op_load_aggK rfl ?_ | refine tc_cond_t ?_ | refine tc_cond_f ?_ | refine tc_cond (fun _ => ?_) (fun _ => ?_) | refine tc_block ?_ | refine tc_skip ?_ | refine tc_ret ?_ | refine tc_exit ?_ | refine at_seq_ret ?_ | refine at_seq_exit ?_ | refine at_block_normal ?_ | refine at_block_ret ?_ | refine at_block_exit_self ?_ | refine at_block_exit_ne ?_ | refine at_loop_ret ?_ | refine at_loop_exit ?_ | refine tl_guard_yes ?_ | refine tl_guard_no ?_ | refine tl_guard_yes' ?_ | refine tl_guard_no' ?_ | refine tl_guard_undef ?_ | refine tl_guard_split (fun _ => ?_) (fun _ => ?_) | fail)
        | fail
      · refine at_loopK (i + 1, false, _, n - 8 * i - 8, c1 - 8, buf', (words big bs i).map fl ++ [_]) ⟨hlt, hok', .inl ⟨rfl, (by show 8 * (i + 1) ≤ n; omega), (by show n - 8 * i - 8 = n - 8 * (i + 1); omega), ?_, ?_⟩⟩ (by simp only; omega) ⟨next_nat (by omega), rfl, trivial⟩ (by repeat (first | exact trivial | refine ⟨rfl, ?_⟩)) (bufH_mono (List.sublist_cons_self _ _))
        · have := BS.cut hv1 (l := 8) hn8
          rw [List.drop_drop] at this
          exact this
        · simp only
          rw [words_succ, List.map_append]; rfl
      · refine at_loopK (i + 1, true, a1, n - 8 * i, c1, buf', (words big bs i).map fl ++ [_]) ⟨hlt, hok', .inr ⟨rfl, (by show n < 8 * (i + 1); exact hn8.elim (fun h => by cases h) (fun h => by omega))⟩⟩ (by simp only; omega) ⟨next_nat (by omega), rfl, trivial⟩ (by repeat (first | exact trivial | refine ⟨rfl, ?_⟩)) (bufH_mono (List.sublist_cons_self _ _))
    · have hc : icmp .lss (i : Int) (s : Int) = false := by rw [lss_nat]; simpa using hlt
      obtain rfl : i = s := by omega
      have hfs := fs_buf (e := 57) (H := []) hok
      rw [hbV] at hfs ⊢
      repeat' first
        | (first | refine tc_seq ?_ | refine tc_region ?_ | refine at_seq_normal ?_ | refine tl_nil ?_ | refine tl_cons ?_ | refine op_move ?_ | refine op_assign ?_ | refine op_fieldAddr ?_ | refine op_load ?_ | refine op_load_agg ?_ | refine op_icmp ?_ | refine op_iarith ?_ | refine op_unop_not ?_ | refine op_pick_true ?_ | refine op_pick_false ?_ | refine op_pick_true' ?_ | refine op_pick_false' ?_ | refine op_nilCheck_ptr ?_ | refine op_nilCheck_meth ?_ | (refine op_buildSlice ?_; intro _) | refine op_loadK rfl ?_ | refine op_load_aggK rfl ?_ | refine tc_cond_t ?_ | refine tc_cond_f ?_ | refine tc_cond (fun _ => ?_) (fun _ => ?_) | refine tc_block ?_ | refine tc_skip ?_ | refine tc_ret ?_ | refine tc_exit ?_ | refine at_seq_ret ?_ | refine at_seq_exit ?_ | refine at_block_normal ?_ | refine at_block_ret ?_ | refine at_block_exit_self ?_ | refine at_block_exit_ne ?_ | refine at_loop_ret ?_ | refine at_loop_exit ?_ | refine tl_guard_yes ?_ | refine tl_guard_no ?_ | refine tl_guard_yes' ?_ | refine tl_guard_no' ?_ | refine tl_guard_undef ?_ | refine tl_guard_split (fun _ => ?_) (fun _ => ?_) | fail)
        | fail
      exact ret_tmp (hG := List.Sublist.refl _) (hk := ⟨bufH 57 buf ((words big bs i).map fl) [], _, _, _, false, by cases buf <;> rfl, .inl ⟨rfl, h8, rfl, aB, cB, rfl, hfs⟩⟩)
  · rw [hbV]
    by_cases hlt : i < s
    · have hc : icmp .lss (i : Int) (s : Int) = true := by rw [lss_nat]; simpa using hlt
      repeat' first
        | (first | refine tc_seq ?_ | refine tc_region ?_ | refine at_seq_normal ?_ | refine tl_nil ?_ | refine tl_cons ?_ | refine op_move ?_ | refine op_assign ?_ | refine op_fieldAddr ?_ | refine op_load ?_ | refine op_load_agg ?_ | refine op_icmp ?_ | refine op_iarith ?_ | refine op_unop_not ?_ | refine op_pick_true ?_ | refine op_pick_false ?_ | refine op_pick_true' ?_ | refine op_pick_false' ?_ | refine op_nilCheck_ptr ?_ | refine op_nilCheck_meth ?_ | (refine op_buildSlice ?_; intro _) | refine op_loadK rfl ?_ | refine op_load_aggK rfl ?_ | refine tc_cond_t ?_ | refine tc_cond_f ?_ | refine tc_cond (fun _ => ?_) (fun _ => ?_) | refine tc_block ?_ | refine tc_skip ?_ | refine tc_ret ?_ | refine tc_exit ?_ | refine at_seq_ret ?_ | refine at_seq_exit ?_ | refine at_block_normal ?_ | refine at_block_ret ?_ | refine at_block_exit_self ?_ | refine at_block_exit_ne ?_ | refine at_loop_ret ?_ | refine at_loop_exit ?_ | refine tl_guard_yes ?_ | refine tl_guard_no ?_ | refine tl_guard_yes' ?_ | refine tl_guard_no' ?_ | refine tl_guard_undef ?_ | refine tl_guard_split (fun _ => ?_) (fun _ => ?_) | fail)
        | fail
      exact ret_tmp (hG := List.Sublist.refl _) (hk := ⟨bufH 57 buf ws [], _, _, _, true, by cases buf <;> rfl, .inr ⟨rfl, by omega, aB, _, cB, rfl⟩⟩)
    · have hc : icmp .lss (i : Int) (s : Int) = false := by rw [lss_nat]; simpa using hlt
      repeat' first
        | (first | refine tc_seq ?_ | refine tc_region ?_ | refine at_seq_normal ?_ | refine tl_nil ?_ | refine tl_cons ?_ | refine op_move ?_ | refine op_assign ?_ | refine op_fieldAddr ?_ | refine op_load ?_ | refine op_load_agg ?_ | refine op_icmp ?_ | refine op_iarith ?_ | refine op_unop_not ?_ | refine op_pick_true ?_ | refine op_pick_false ?_ | refine op_pick_true' ?_ | refine op_pick_false' ?_ | refine op_nilCheck_ptr ?_ | refine op_nilCheck_meth ?_ | (refine op_buildSlice ?_; intro _) | refine op_loadK rfl ?_ | refine op_load_aggK rfl ?_ | refine tc_cond_t ?_ | refine tc_cond_f ?_ | refine tc_cond (fun _ => ?_) (fun _ => ?_) | refine tc_block ?_ | refine tc_skip ?_ | refine tc_ret ?_ | refine tc_exit ?_ | refine at_seq_ret ?_ | refine at_seq_exit ?_ | refine at_block_normal ?_ | refine at_block_ret ?_ | refine at_block_exit_self ?_ | refine at_block_exit_ne ?_ | refine at_loop_ret ?_ | refine at_loop_exit ?_ | refine tl_guard_yes ?_ | refine tl_guard_no ?_ | refine tl_guard_yes' ?_ | refine tl_guard_no' ?_ | refine tl_guard_undef ?_ | refine tl_guard_split (fun _ => ?_) (fun _ => ?_) | fail)
        | fail
      exact ret_tmp (hG := List.Sublist.refl _) (hk := ⟨bufH 57 buf ws [], _, _, _, true, by cases buf <;> rfl, .inr ⟨rfl, by omega, aB, _, cB, rfl⟩⟩)
set_option maxHeartbeats 8000000 in
theorem takeFloats (a : Option Addr) (n c : Nat) (bs : List Nat) (big : Bool) (s : Nat) (H : Heap) (hv : BS H (.slice a n c) bs) (hb : ∀ x ∈ bs, x < 256) (hs : s ≤ 1000) (hn : n ≤ 1048576) :
    Does Tryd.prog 6 [.slice a n c, .bool big, .int .i64 (s : Int)] H fun w H' => ∃ ex, H' = ex ++ H ∧
      ((8 * s ≤ n ∧ ∃ av cv, w = .tuple #[.slice av s cv, .int .i64 ((n - 8 * s : Nat) : Int), .bool true] ∧ FS H' (.slice av s cv) (words big bs s)) ∨ (n < 8 * s ∧ ∃ v l, w = .tuple #[v, .int .i64 l, .bool false])) := by
  refine fn_enter 28 Tryd.func6 fun W => ?_
  repeat' first
    | (refine op_call ((nums _ _ a n c bs big s H hv hb hs).mono ?_); rintro _ _ ⟨ex, a', n', c', bad, rfl, hst⟩)
    | (first | refine tc_seq ?_ | refine tc_region ?_ | refine at_seq_normal ?_ | refine tl_nil ?_ | refine tl_cons ?_ | refine op_move ?_ | refine op_assign ?_ | refine op_fieldAddr ?_ | refine op_load ?_ | refine op_load_agg ?_ | refine op_unop_not ?_ | refine op_len_slice ?_ | refine op_build ?_ | refine op_nilCheck_ptr ?_ | refine op_nilCheck_meth ?_ | (refine op_box ?_; intro _) | refine op_loadK rfl ?_ | refine op_load_aggK rfl ?_ | refine tc_ret ?_ | refine at_seq_ret ?_ | fail)
    | fail
  rename_i k _
  unfold wk at *
  have hmk : (k, Obj.cells ⟨[Value.slice a' n' c', .bool false, .bool false, .bool big, .bool bad, .bool false]⟩ 45 (0, 0)) ∈ ex ++ (k, Obj.cells ⟨[Value.slice a' n' c', .bool false, .bool false, .bool big, .bool bad, .bool false]⟩ 45 (0, 0)) :: H := by simp
  rcases hst with ⟨rfl, h8, rfl, av, cv, rfl, hF⟩ | ⟨rfl, h8, av, l, cv, rfl⟩
  · skip
    refine tc_anyQ mixed (by repeat (first | refine pq_seq ?_ | refine pq_block ?_ | refine pq_loop ?_ | exact pq_body)) fun hpq => ?_
    refine ta_take 0 rfl (by kernel_rfl) (by kernel_rfl) (by kernel_rfl) hpq rfl rfl (by decide) (by exact y_move) ?_
    refine ta_take 1 rfl (by kernel_rfl) (by kernel_rfl) (by kernel_rfl) hpq rfl rfl (by decide) (by exact y_move) ?_
    refine ta_take 6 rfl (by kernel_rfl) (by kernel_rfl) (by kernel_rfl) hpq rfl rfl (by decide) (by exact y_move) ?_
    refine ta_take 11 rfl (by kernel_rfl) (by kernel_rfl) (by kernel_rfl) hpq rfl rfl (by decide) (by exact y_assign) ?_
    refine ta_two 2 7 (by kernel_rfl) rfl (by decide) rfl (by decide) ?_ ?_
    · refine op_nilCheck_ptr ?_
      refine ta_take 3 rfl (by kernel_rfl) (by kernel_rfl) (by kernel_rfl) hpq rfl rfl (by decide) (by exact y_fieldAddr) ?_
      refine ta_two 4 7 (by kernel_rfl) rfl (by decide) rfl (by decide) ?_ ?_
      · refine op_loadK rfl ?_
        refine ta_two 5 7 (by kernel_rfl) rfl (by decide) rfl (by decide) ?_ ?_
        · refine op_len_slice ?_
          refine ta_take 12 rfl (by kernel_rfl) (by kernel_rfl) (by kernel_rfl) hpq rfl rfl (by decide) (by exact y_assign) ?_
          refine ta_only 7 (by kernel_rfl) rfl (by decide) ?_
          refine op_nilCheck_ptr ?_
          refine ta_take 8 rfl (by kernel_rfl) (by kernel_rfl) (by kernel_rfl) hpq rfl rfl (by decide) (by exact y_fieldAddr) ?_
          refine ta_only 9 (by kernel_rfl) rfl (by decide) ?_
          refine op_loadK rfl ?_
          refine ta_only 10 (by kernel_rfl) rfl (by decide) ?_
          refine op_unop_not ?_
          refine ta_take 13 rfl (by kernel_rfl) (by kernel_rfl) (by kernel_rfl) hpq rfl rfl (by decide) (by exact y_assign) ?_
          refine ta_done (by kernel_rfl) ?_
          repeat' first
            | refine tc_seq ?_ | refine tc_region ?_ | refine at_seq_normal ?_ | refine tl_nil ?_ | refine tl_cons ?_ | refine op_move ?_ | refine op_assign ?_ | refine op_fieldAddr ?_ | refine op_load ?_ | refine op_load_agg ?_
            | refine op_unop_not ?_ | refine op_len_slice ?_ | refine op_build ?_ | refine op_nilCheck_ptr ?_ | refine op_nilCheck_meth ?_ | (refine op_box ?_; intro _) | refine op_loadK rfl ?_ | refine op_load_aggK rfl ?_ | refine tc_ret ?_ | refine at_seq_ret ?_
          exact ret_list rfl (.cons (.tmp rfl) (.cons (.tmp rfl) (.cons (.tmp rfl) .nil))) rfl (List.Sublist.refl _) (exq (.inl ⟨h8, av, cv, rfl, hF.mono fun e he => List.mem_append_left _ he⟩)) (.inl rfl)
        · refine op_nilCheck_ptr ?_
          refine ta_take 8 rfl (by kernel_rfl) (by kernel_rfl) (by kernel_rfl) hpq rfl rfl (by decide) (by exact y_fieldAddr) ?_
          refine ta_two 5 9 (by kernel_rfl) rfl (by decide) rfl (by decide) ?_ ?_
          · refine op_len_slice ?_
            refine ta_take 12 rfl (by kernel_rfl) (by kernel_rfl) (by kernel_rfl) hpq rfl rfl (by decide) (by exact y_assign) ?_
            refine ta_only 9 (by kernel_rfl) rfl (by decide) ?_
            refine op_loadK rfl ?_
            refine ta_only 10 (by kernel_rfl) rfl (by decide) ?_
            refine op_unop_not ?_
            refine ta_take 13 rfl (by kernel_rfl) (by kernel_rfl) (by kernel_rfl) hpq rfl rfl (by decide) (by exact y_assign) ?_
            refine ta_done (by kernel_rfl) ?_
            repeat' first
              | refine tc_seq ?_ | refine tc_region ?_ | refine at_seq_normal ?_ | refine tl_nil ?_ | refine tl_cons ?_ | refine op_move ?_ | refine op_assign ?_ | refine op_fieldAddr ?_ | refine op_load ?_ | refine op_load_agg ?_
              | refine op_unop_not ?_ | refine op_len_slice ?_ | refine op_build ?_ | refine op_nilCheck_ptr ?_ | refine op_nilCheck_meth ?_ | (refine op_box ?_; intro _) | refine op_loadK rfl ?_ | refine op_load_aggK rfl ?_ | refine tc_ret ?_ | refine at_seq_ret ?_
            exact ret_list rfl (.cons (.tmp rfl) (.cons (.tmp rfl) (.cons (.tmp rfl) .nil))) rfl (List.Sublist.refl _) (exq (.inl ⟨h8, av, cv, rfl, hF.mono fun e he => List.mem_append_left _ he⟩)) (.inl rfl)
          · refine op_loadK rfl ?_
            refine ta_two 5 10 (by kernel_rfl) rfl (by decide) rfl (by decide) ?_ ?_
            · refine op_len_slice ?_
              refine ta_take 12 rfl (by kernel_rfl) (by kernel_rfl) (by kernel_rfl) hpq rfl rfl (by decide) (by exact y_assign) ?_
              refine ta_only 10 (by kernel_rfl) rfl (by decide) ?_
              refine op_unop_not ?_
              refine ta_take 13 rfl (by kernel_rfl) (by kernel_rfl) (by kernel_rfl) hpq rfl rfl (by decide) (by exact y_assign) ?_
              refine ta_done (by kernel_rfl) ?_
              repeat' first
                | refine tc_seq ?_ | refine tc_region ?_ | refine at_seq_normal ?_ | refine tl_nil ?_ | refine tl_cons ?_ | refine op_move ?_ | refine op_assign ?_ | refine op_fieldAddr ?_ | refine op_load ?_ | refine op_load_agg ?_
                | refine op_unop_not ?_ | refine op_len_slice ?_ | refine op_build ?_ | refine op_nilCheck_ptr ?_ | refine op_nilCheck_meth ?_ | (refine op_box ?_; intro _) | refine op_loadK rfl ?_ | refine op_load_aggK rfl ?_ | refine tc_ret ?_ | refine at_seq_ret ?_
              exact ret_list rfl (.cons (.tmp rfl) (.cons (.tmp rfl) (.cons (.tmp rfl) .nil))) rfl (List.Sublist.refl _) (exq (.inl ⟨h8, av, cv, rfl, hF.mono fun e he => List.mem_append_left _ he⟩)) (.inl rfl)
            · refine op_unop_not ?_
              refine ta_only 5 (by kernel_rfl) rfl (by decide) ?_
              refine op_len_slice ?_
              refine ta_take 12 rfl (by kernel_rfl) (by kernel_rfl) (by kernel_rfl) hpq rfl rfl (by decide) (by exact y_assign) ?_
              refine ta_take 13 rfl (by kernel_rfl) (by kernel_rfl) (by kernel_rfl) hpq rfl rfl (by decide) (by exact y_assign) ?_
              refine ta_done (by kernel_rfl) ?_
              repeat' first
                | refine tc_seq ?_ | refine tc_region ?_ | refine at_seq_normal ?_ | refine tl_nil ?_ | refine tl_cons ?_ | refine op_move ?_ | refine op_assign ?_ | refine op_fieldAddr ?_ | refine op_load ?_ | refine op_load_agg ?_
                | refine op_unop_not ?_ | refine op_len_slice ?_ | refine op_build ?_ | refine op_nilCheck_ptr ?_ | refine op_nilCheck_meth ?_ | (refine op_box ?_; intro _) | refine op_loadK rfl ?_ | refine op_load_aggK rfl ?_ | refine tc_ret ?_ | refine at_seq_ret ?_
              exact ret_list rfl (.cons (.tmp rfl) (.cons (.tmp rfl) (.cons (.tmp rfl) .nil))) rfl (List.Sublist.refl _) (exq (.inl ⟨h8, av, cv, rfl, hF.mono fun e he => List.mem_append_left _ he⟩)) (.inl rfl)
      · refine op_nilCheck_ptr ?_
        refine ta_take 8 rfl (by kernel_rfl) (by kernel_rfl) (by kernel_rfl) hpq rfl rfl (by decide) (by exact y_fieldAddr) ?_
        refine ta_two 4 9 (by kernel_rfl) rfl (by decide) rfl (by decide) ?_ ?_
        · refine op_loadK rfl ?_
          refine ta_two 5 9 (by kernel_rfl) rfl (by decide) rfl (by decide) ?_ ?_
          · refine op_len_slice ?_
            refine ta_take 12 rfl (by kernel_rfl) (by kernel_rfl) (by kernel_rfl) hpq rfl rfl (by decide) (by exact y_assign) ?_
            refine ta_only 9 (by kernel_rfl) rfl (by decide) ?_
            refine op_loadK rfl ?_
            refine ta_only 10 (by kernel_rfl) rfl (by decide) ?_
            refine op_unop_not ?_
            refine ta_take 13 rfl (by kernel_rfl) (by kernel_rfl) (by kernel_rfl) hpq rfl rfl (by decide) (by exact y_assign) ?_
            refine ta_done (by kernel_rfl) ?_
            repeat' first
              | refine tc_seq ?_ | refine tc_region ?_ | refine at_seq_normal ?_ | refine tl_nil ?_ | refine tl_cons ?_ | refine op_move ?_ | refine op_assign ?_ | refine op_fieldAddr ?_ | refine op_load ?_ | refine op_load_agg ?_
              | refine op_unop_not ?_ | refine op_len_slice ?_ | refine op_build ?_ | refine op_nilCheck_ptr ?_ | refine op_nilCheck_meth ?_ | (refine op_box ?_; intro _) | refine op_loadK rfl ?_ | refine op_load_aggK rfl ?_ | refine tc_ret ?_ | refine at_seq_ret ?_
            exact ret_list rfl (.cons (.tmp rfl) (.cons (.tmp rfl) (.cons (.tmp rfl) .nil))) rfl (List.Sublist.refl _) (exq (.inl ⟨h8, av, cv, rfl, hF.mono fun e he => List.mem_append_left _ he⟩)) (.inl rfl)
          · refine op_loadK rfl ?_
            refine ta_two 5 10 (by kernel_rfl) rfl (by decide) rfl (by decide) ?_ ?_
            · refine op_len_slice ?_
              refine ta_take 12 rfl (by kernel_rfl) (by kernel_rfl) (by kernel_rfl) hpq rfl rfl (by decide) (by exact y_assign) ?_
              refine ta_only 10 (by kernel_rfl) rfl (by decide) ?_
              refine op_unop_not ?_
              refine ta_take 13 rfl (by kernel_rfl) (by kernel_rfl) (by kernel_rfl) hpq rfl rfl (by decide) (by exact y_assign) ?_
              refine ta_done (by kernel_rfl) ?_
              repeat' first
                | refine tc_seq ?_ | refine tc_region ?_ | refine at_seq_normal ?_ | refine tl_nil ?_ | refine tl_cons ?_ | refine op_move ?_ | refine op_assign ?_ | refine op_fieldAddr ?_ | refine op_load ?_ | refine op_load_agg ?_
                | refine op_unop_not ?_ | refine op_len_slice ?_ | refine op_build ?_ | refine op_nilCheck_ptr ?_ | refine op_nilCheck_meth ?_ | (refine op_box ?_; intro _) | refine op_loadK rfl ?_ | refine op_load_aggK rfl ?_ | refine tc_ret ?_ | refine at_seq_ret ?_
              exact ret_list rfl (.cons (.tmp rfl) (.cons (.tmp rfl) (.cons (.tmp rfl) .nil))) rfl (List.Sublist.refl _) (exq (.inl ⟨h8, av, cv, rfl, hF.mono fun e he => List.mem_append_left _ he⟩)) (.inl rfl)
            · refine op_unop_not ?_
              refine ta_only 5 (by kernel_rfl) rfl (by decide) ?_
              refine op_len_slice ?_
              refine ta_take 12 rfl (by kernel_rfl) (by kernel_rfl) (by kernel_rfl) hpq rfl rfl (by decide) (by exact y_assign) ?_
              refine ta_take 13 rfl (by kernel_rfl) (by kernel_rfl) (by kernel_rfl) hpq rfl rfl (by decide) (by exact y_assign) ?_
              refine ta_done (by kernel_rfl) ?_
              repeat' first
                | refine tc_seq ?_ | refine tc_region ?_ | refine at_seq_normal ?_ | refine tl_nil ?_ | refine tl_cons ?_ | refine op_move ?_ | refine op_assign ?_ | refine op_fieldAddr ?_ | refine op_load ?_ | refine op_load_agg ?_
                | refine op_unop_not ?_ | refine op_len_slice ?_ | refine op_build ?_ | refine op_nilCheck_ptr ?_ | refine op_nilCheck_meth ?_ | (refine op_box ?_; intro _) | refine op_loadK rfl ?_ | refine op_load_aggK rfl ?_ | refine tc_ret ?_ | refine at_seq_ret ?_
              exact ret_list rfl (.cons (.tmp rfl) (.cons (.tmp rfl) (.cons (.tmp rfl) .nil))) rfl (List.Sublist.refl _) (exq (.inl ⟨h8, av, cv, rfl, hF.mono fun e he => List.mem_append_left _ he⟩)) (.inl rfl)
        · refine op_loadK rfl ?_
          refine ta_two 4 10 (by kernel_rfl) rfl (by decide) rfl (by decide) ?_ ?_
          · refine op_loadK rfl ?_
            refine ta_two 5 10 (by kernel_rfl) rfl (by decide) rfl (by decide) ?_ ?_
            · refine op_len_slice ?_
              refine ta_take 12 rfl (by kernel_rfl) (by kernel_rfl) (by kernel_rfl) hpq rfl rfl (by decide) (by exact y_assign) ?_
              refine ta_only 10 (by kernel_rfl) rfl (by decide) ?_
              refine op_unop_not ?_
              refine ta_take 13 rfl (by kernel_rfl) (by kernel_rfl) (by kernel_rfl) hpq rfl rfl (by decide) (by exact y_assign) ?_
              refine ta_done (by kernel_rfl) ?_
              repeat' first
                | refine tc_seq ?_ | refine tc_region ?_ | refine at_seq_normal ?_ | refine tl_nil ?_ | refine tl_cons ?_ | refine op_move ?_ | refine op_assign ?_ | refine op_fieldAddr ?_ | refine op_load ?_ | refine op_load_agg ?_
                | refine op_unop_not ?_ | refine op_len_slice ?_ | refine op_build ?_ | refine op_nilCheck_ptr ?_ | refine op_nilCheck_meth ?_ | (refine op_box ?_; intro _) | refine op_loadK rfl ?_ | refine op_load_aggK rfl ?_ | refine tc_ret ?_ | refine at_seq_ret ?_
              exact ret_list rfl (.cons (.tmp rfl) (.cons (.tmp rfl) (.cons (.tmp rfl) .nil))) rfl (List.Sublist.refl _) (exq (.inl ⟨h8, av, cv, rfl, hF.mono fun e he => List.mem_append_left _ he⟩)) (.inl rfl)
            · refine op_unop_not ?_
              refine ta_only 5 (by kernel_rfl) rfl (by decide) ?_
              refine op_len_slice ?_
              refine ta_take 12 rfl (by kernel_rfl) (by kernel_rfl) (by kernel_rfl) hpq rfl rfl (by decide) (by exact y_assign) ?_
              refine ta_take 13 rfl (by kernel_rfl) (by kernel_rfl) (by kernel_rfl) hpq rfl rfl (by decide) (by exact y_assign) ?_
              refine ta_done (by kernel_rfl) ?_
              repeat' first
                | refine tc_seq ?_ | refine tc_region ?_ | refine at_seq_normal ?_ | refine tl_nil ?_ | refine tl_cons ?_ | refine op_move ?_ | refine op_assign ?_ | refine op_fieldAddr ?_ | refine op_load ?_ | refine op_load_agg ?_
                | refine op_unop_not ?_ | refine op_len_slice ?_ | refine op_build ?_ | refine op_nilCheck_ptr ?_ | refine op_nilCheck_meth ?_ | (refine op_box ?_; intro _) | refine op_loadK rfl ?_ | refine op_load_aggK rfl ?_ | refine tc_ret ?_ | refine at_seq_ret ?_
              exact ret_list rfl (.cons (.tmp rfl) (.cons (.tmp rfl) (.cons (.tmp rfl) .nil))) rfl (List.Sublist.refl _) (exq (.inl ⟨h8, av, cv, rfl, hF.mono fun e he => List.mem_append_left _ he⟩)) (.inl rfl)
          · refine op_unop_not ?_
            refine ta_only 4 (by kernel_rfl) rfl (by decide) ?_
            refine op_loadK rfl ?_
            refine ta_only 5 (by kernel_rfl) rfl (by decide) ?_
            refine op_len_slice ?_
            refine ta_take 12 rfl (by kernel_rfl) (by kernel_rfl) (by kernel_rfl) hpq rfl rfl (by decide) (by exact y_assign) ?_
            refine ta_take 13 rfl (by kernel_rfl) (by kernel_rfl) (by kernel_rfl) hpq rfl rfl (by decide) (by exact y_assign) ?_
            refine ta_done (by kernel_rfl) ?_
            repeat' first
              | refine tc_seq ?_ | refine tc_region ?_ | refine at_seq_normal ?_ | refine tl_nil ?_ | refine tl_cons ?_ | refine op_move ?_ | refine op_assign ?_ | refine op_fieldAddr ?_ | refine op_load ?_ | refine op_load_agg ?_
              | refine op_unop_not ?_ | refine op_len_slice ?_ | refine op_build ?_ | refine op_nilCheck_ptr ?_ | refine op_nilCheck_meth ?_ | (refine op_box ?_; intro _) | refine op_loadK rfl ?_ | refine op_load_aggK rfl ?_ | refine tc_ret ?_ | refine at_seq_ret ?_
            exact ret_list rfl (.cons (.tmp rfl) (.cons (.tmp rfl) (.cons (.tmp rfl) .nil))) rfl (List.Sublist.refl _) (exq (.inl ⟨h8, av, cv, rfl, hF.mono fun e he => List.mem_append_left _ he⟩)) (.inl rfl)
    · refine op_nilCheck_ptr ?_
      refine ta_take 8 rfl (by kernel_rfl) (by kernel_rfl) (by kernel_rfl) hpq rfl rfl (by decide) (by exact y_fieldAddr) ?_
      refine ta_two 2 9 (by kernel_rfl) rfl (by decide) rfl (by decide) ?_ ?_
      · refine op_nilCheck_ptr ?_
        refine ta_take 3 rfl (by kernel_rfl) (by kernel_rfl) (by kernel_rfl) hpq rfl rfl (by decide) (by exact y_fieldAddr) ?_
        refine ta_two 4 9 (by kernel_rfl) rfl (by decide) rfl (by decide) ?_ ?_
        · refine op_loadK rfl ?_
          refine ta_two 5 9 (by kernel_rfl) rfl (by decide) rfl (by decide) ?_ ?_
          · refine op_len_slice ?_
            refine ta_take 12 rfl (by kernel_rfl) (by kernel_rfl) (by kernel_rfl) hpq rfl rfl (by decide) (by exact y_assign) ?_
            refine ta_only 9 (by kernel_rfl) rfl (by decide) ?_
            refine op_loadK rfl ?_
            refine ta_only 10 (by kernel_rfl) rfl (by decide) ?_
            refine op_unop_not ?_
            refine ta_take 13 rfl (by kernel_rfl) (by kernel_rfl) (by kernel_rfl) hpq rfl rfl (by decide) (by exact y_assign) ?_
            refine ta_done (by kernel_rfl) ?_
            repeat' first
              | refine tc_seq ?_ | refine tc_region ?_ | refine at_seq_normal ?_ | refine tl_nil ?_ | refine tl_cons ?_ | refine op_move ?_ | refine op_assign ?_ | refine op_fieldAddr ?_ | refine op_load ?_ | refine op_load_agg ?_
              | refine op_unop_not ?_ | refine op_len_slice ?_ | refine op_build ?_ | refine op_nilCheck_ptr ?_ | refine op_nilCheck_meth ?_ | (refine op_box ?_; intro _) | refine op_loadK rfl ?_ | refine op_load_aggK rfl ?_ | refine tc_ret ?_ | refine at_seq_ret ?_
            exact ret_list rfl (.cons (.tmp rfl) (.cons (.tmp rfl) (.cons (.tmp rfl) .nil))) rfl (List.Sublist.refl _) (exq (.inl ⟨h8, av, cv, rfl, hF.mono fun e he => List.mem_append_left _ he⟩)) (.inl rfl)
          · refine op_loadK rfl ?_
            refine ta_two 5 10 (by kernel_rfl) rfl (by decide) rfl (by decide) ?_ ?_
            · refine op_len_slice ?_
              refine ta_take 12 rfl (by kernel_rfl) (by kernel_rfl) (by kernel_rfl) hpq rfl rfl (by decide) (by exact y_assign) ?_
              refine ta_only 10 (by kernel_rfl) rfl (by decide) ?_
              refine op_unop_not ?_
              refine ta_take 13 rfl (by kernel_rfl) (by kernel_rfl) (by kernel_rfl) hpq rfl rfl (by decide) (by exact y_assign) ?_
              refine ta_done (by kernel_rfl) ?_
              repeat' first
                | refine tc_seq ?_ | refine tc_region ?_ | refine at_seq_normal ?_ | refine tl_nil ?_ | refine tl_cons ?_ | refine op_move ?_ | refine op_assign ?_ | refine op_fieldAddr ?_ | refine op_load ?_ | refine op_load_agg ?_
                | refine op_unop_not ?_ | refine op_len_slice ?_ | refine op_build ?_ | refine op_nilCheck_ptr ?_ | refine op_nilCheck_meth ?_ | (refine op_box ?_; intro _) | refine op_loadK rfl ?_ | refine op_load_aggK rfl ?_ | refine tc_ret ?_ | refine at_seq_ret ?_
              exact ret_list rfl (.cons (.tmp rfl) (.cons (.tmp rfl) (.cons (.tmp rfl) .nil))) rfl (List.Sublist.refl _) (exq (.inl ⟨h8, av, cv, rfl, hF.mono fun e he => List.mem_append_left _ he⟩)) (.inl rfl)
            · refine op_unop_not ?_
              refine ta_only 5 (by kernel_rfl) rfl (by decide) ?_
              refine op_len_slice ?_
              refine ta_take 12 rfl (by kernel_rfl) (by kernel_rfl) (by kernel_rfl) hpq rfl rfl (by decide) (by exact y_assign) ?_
              refine ta_take 13 rfl (by kernel_rfl) (by kernel_rfl) (by kernel_rfl) hpq rfl rfl (by decide) (by exact y_assign) ?_
              refine ta_done (by kernel_rfl) ?_
              repeat' first
                | refine tc_seq ?_ | refine tc_region ?_ | refine at_seq_normal ?_ | refine tl_nil ?_ | refine tl_cons ?_ | refine op_move ?_ | refine op_assign ?_ | refine op_fieldAddr ?_ | refine op_load ?_ | refine op_load_agg ?_
                | refine op_unop_not ?_ | refine op_len_slice ?_ | refine op_build ?_ | refine op_nilCheck_ptr ?_ | refine op_nilCheck_meth ?_ | (refine op_box ?_; intro _) | refine op_loadK rfl ?_ | refine op_load_aggK rfl ?_ | refine tc_ret ?_ | refine at_seq_ret ?_
              exact ret_list rfl (.cons (.tmp rfl) (.cons (.tmp rfl) (.cons (.tmp rfl) .nil))) rfl (List.Sublist.refl _) (exq (.inl ⟨h8, av, cv, rfl, hF.mono fun e he => List.mem_append_left _ he⟩)) (.inl rfl)
        · refine op_loadK rfl ?_
          refine ta_two 4 10 (by kernel_rfl) rfl (by decide) rfl (by decide) ?_ ?_
          · refine op_loadK rfl ?_
            refine ta_two 5 10 (by kernel_rfl) rfl (by decide) rfl (by decide) ?_ ?_
            · refine op_len_slice ?_
              refine ta_take 12 rfl (by kernel_rfl) (by kernel_rfl) (by kernel_rfl) hpq rfl rfl (by decide) (by exact y_assign) ?_
              refine ta_only 10 (by kernel_rfl) rfl (by decide) ?_
              refine op_unop_not ?_
              refine ta_take 13 rfl (by kernel_rfl) (by kernel_rfl) (by kernel_rfl) hpq rfl rfl (by decide) (by exact y_assign) ?_
              refine ta_done (by kernel_rfl) ?_
              repeat' first
                | refine tc_seq ?_ | refine tc_region ?_ | refine at_seq_normal ?_ | refine tl_nil ?_ | refine tl_cons ?_ | refine op_move ?_ | refine op_assign ?_ | refine op_fieldAddr ?_ | refine op_load ?_ | refine op_load_agg ?_
                | refine op_unop_not ?_ | refine op_len_slice ?_ | refine op_build ?_ | refine op_nilCheck_ptr ?_ | refine op_nilCheck_meth ?_ | (refine op_box ?_; intro _) | refine op_loadK rfl ?_ | refine op_load_aggK rfl ?_ | refine tc_ret ?_ | refine at_seq_ret ?_
              exact ret_list rfl (.cons (.tmp rfl) (.cons (.tmp rfl) (.cons (.tmp rfl) .nil))) rfl (List.Sublist.refl _) (exq (.inl ⟨h8, av, cv, rfl, hF.mono fun e he => List.mem_append_left _ he⟩)) (.inl rfl)
            · refine op_unop_not ?_
              refine ta_only 5 (by kernel_rfl) rfl (by decide) ?_
              refine op_len_slice ?_
              refine ta_take 12 rfl (by kernel_rfl) (by kernel_rfl) (by kernel_rfl) hpq rfl rfl (by decide) (by exact y_assign) ?_
              refine ta_take 13 rfl (by kernel_rfl) (by kernel_rfl) (by kernel_rfl) hpq rfl rfl (by decide) (by exact y_assign) ?_
              refine ta_done (by kernel_rfl) ?_
              repeat' first
                | refine tc_seq ?_ | refine tc_region ?_ | refine at_seq_normal ?_ | refine tl_nil ?_ | refine tl_cons ?_ | refine op_move ?_ | refine op_assign ?_ | refine op_fieldAddr ?_ | refine op_load ?_ | refine op_load_agg ?_
                | refine op_unop_not ?_ | refine op_len_slice ?_ | refine op_build ?_ | refine op_nilCheck_ptr ?_ | refine op_nilCheck_meth ?_ | (refine op_box ?_; intro _) | refine op_loadK rfl ?_ | refine op_load_aggK rfl ?_ | refine tc_ret ?_ | refine at_seq_ret ?_
              exact ret_list rfl (.cons (.tmp rfl) (.cons (.tmp rfl) (.cons (.tmp rfl) .nil))) rfl (List.Sublist.refl _) (exq (.inl ⟨h8, av, cv, rfl, hF.mono fun e he => List.mem_append_left _ he⟩)) (.inl rfl)
          · refine op_unop_not ?_
            refine ta_only 4 (by kernel_rfl) rfl (by decide) ?_
            refine op_loadK rfl ?_
            refine ta_only 5 (by kernel_rfl) rfl (by decide) ?_
            refine op_len_slice ?_
            refine ta_take 12 rfl (by kernel_rfl) (by kernel_rfl) (by kernel_rfl) hpq rfl rfl (by decide) (by exact y_assign) ?_
            refine ta_take 13 rfl (by kernel_rfl) (by kernel_rfl) (by kernel_rfl) hpq rfl rfl (by decide) (by exact y_assign) ?_
            refine ta_done (by kernel_rfl) ?_
            repeat' first
              | refine tc_seq ?_ | refine tc_region ?_ | refine at_seq_normal ?_ | refine tl_nil ?_ | refine tl_cons ?_ | refine op_move ?_ | refine op_assign ?_ | refine op_fieldAddr ?_ | refine op_load ?_ | refine op_load_agg ?_
              | refine op_unop_not ?_ | refine op_len_slice ?_ | refine op_build ?_ | refine op_nilCheck_ptr ?_ | refine op_nilCheck_meth ?_ | (refine op_box ?_; intro _) | refine op_loadK rfl ?_ | refine op_load_aggK rfl ?_ | refine tc_ret ?_ | refine at_seq_ret ?_
            exact ret_list rfl (.cons (.tmp rfl) (.cons (.tmp rfl) (.cons (.tmp rfl) .nil))) rfl (List.Sublist.refl _) (exq (.inl ⟨h8, av, cv, rfl, hF.mono fun e he => List.mem_append_left _ he⟩)) (.inl rfl)
      · refine op_loadK rfl ?_
        refine ta_two 2 10 (by kernel_rfl) rfl (by decide) rfl (by decide) ?_ ?_
        · refine op_nilCheck_ptr ?_
          refine ta_take 3 rfl (by kernel_rfl) (by kernel_rfl) (by kernel_rfl) hpq rfl rfl (by decide) (by exact y_fieldAddr) ?_
          refine ta_two 4 10 (by kernel_rfl) rfl (by decide) rfl (by decide) ?_ ?_
          · refine op_loadK rfl ?_
            refine ta_two 5 10 (by kernel_rfl) rfl (by decide) rfl (by decide) ?_ ?_
            · refine op_len_slice ?_
              refine ta_take 12 rfl (by kernel_rfl) (by kernel_rfl) (by kernel_rfl) hpq rfl rfl (by decide) (by exact y_assign) ?_
              refine ta_only 10 (by kernel_rfl) rfl (by decide) ?_
              refine op_unop_not ?_
              refine ta_take 13 rfl (by kernel_rfl) (by kernel_rfl) (by kernel_rfl) hpq rfl rfl (by decide) (by exact y_assign) ?_
              refine ta_done (by kernel_rfl) ?_
              repeat' first
                | refine tc_seq ?_ | refine tc_region ?_ | refine at_seq_normal ?_ | refine tl_nil ?_ | refine tl_cons ?_ | refine op_move ?_ | refine op_assign ?_ | refine op_fieldAddr ?_ | refine op_load ?_ | refine op_load_agg ?_
                | refine op_unop_not ?_ | refine op_len_slice ?_ | refine op_build ?_ | refine op_nilCheck_ptr ?_ | refine op_nilCheck_meth ?_ | (refine op_box ?_; intro _) | refine op_loadK rfl ?_ | refine op_load_aggK rfl ?_ | refine tc_ret ?_ | refine at_seq_ret ?_
              exact ret_list rfl (.cons (.tmp rfl) (.cons (.tmp rfl) (.cons (.tmp rfl) .nil))) rfl (List.Sublist.refl _) (exq (.inl ⟨h8, av, cv, rfl, hF.mono fun e he => List.mem_append_left _ he⟩)) (.inl rfl)
            · refine op_unop_not ?_
              refine ta_only 5 (by kernel_rfl) rfl (by decide) ?_
              refine op_len_slice ?_
              refine ta_take 12 rfl (by kernel_rfl) (by kernel_rfl) (by kernel_rfl) hpq rfl rfl (by decide) (by exact y_assign) ?_
              refine ta_take 13 rfl (by kernel_rfl) (by kernel_rfl) (by kernel_rfl) hpq rfl rfl (by decide) (by exact y_assign) ?_
              refine ta_done (by kernel_rfl) ?_
              repeat' first
                | refine tc_seq ?_ | refine tc_region ?_ | refine at_seq_normal ?_ | refine tl_nil ?_ | refine tl_cons ?_ | refine op_move ?_ | refine op_assign ?_ | refine op_fieldAddr ?_ | refine op_load ?_ | refine op_load_agg ?_
                | refine op_unop_not ?_ | refine op_len_slice ?_ | refine op_build ?_ | refine op_nilCheck_ptr ?_ | refine op_nilCheck_meth ?_ | (refine op_box ?_; intro _) | refine op_loadK rfl ?_ | refine op_load_aggK rfl ?_ | refine tc_ret ?_ | refine at_seq_ret ?_
              exact ret_list rfl (.cons (.tmp rfl) (.cons (.tmp rfl) (.cons (.tmp rfl) .nil))) rfl (List.Sublist.refl _) (exq (.inl ⟨h8, av, cv, rfl, hF.mono fun e he => List.mem_append_left _ he⟩)) (.inl rfl)
          · refine op_unop_not ?_
            refine ta_only 4 (by kernel_rfl) rfl (by decide) ?_
            refine op_loadK rfl ?_
            refine ta_only 5 (by kernel_rfl) rfl (by decide) ?_
            refine op_len_slice ?_
            refine ta_take 12 rfl (by kernel_rfl) (by kernel_rfl) (by kernel_rfl) hpq rfl rfl (by decide) (by exact y_assign) ?_
            refine ta_take 13 rfl (by kernel_rfl) (by kernel_rfl) (by kernel_rfl) hpq rfl rfl (by decide) (by exact y_assign) ?_
            refine ta_done (by kernel_rfl) ?_
            repeat' first
              | refine tc_seq ?_ | refine tc_region ?_ | refine at_seq_normal ?_ | refine tl_nil ?_ | refine tl_cons ?_ | refine op_move ?_ | refine op_assign ?_ | refine op_fieldAddr ?_ | refine op_load ?_ | refine op_load_agg ?_
              | refine op_unop_not ?_ | refine op_len_slice ?_ | refine op_build ?_ | refine op_nilCheck_ptr ?_ | refine op_nilCheck_meth ?_ | (refine op_box ?_; intro _) | refine op_loadK rfl ?_ | refine op_load_aggK rfl ?_ | refine tc_ret ?_ | refine at_seq_ret ?_
            exact ret_list rfl (.cons (.tmp rfl) (.cons (.tmp rfl) (.cons (.tmp rfl) .nil))) rfl (List.Sublist.refl _) (exq (.inl ⟨h8, av, cv, rfl, hF.mono fun e he => List.mem_append_left _ he⟩)) (.inl rfl)
        · refine op_unop_not ?_
          refine ta_only 2 (by kernel_rfl) rfl (by decide) ?_
          refine op_nilCheck_ptr ?_
          refine ta_take 3 rfl (by kernel_rfl) (by kernel_rfl) (by kernel_rfl) hpq rfl rfl (by decide) (by exact y_fieldAddr) ?_
          refine ta_only 4 (by kernel_rfl) rfl (by decide) ?_
          refine op_loadK rfl ?_
          refine ta_only 5 (by kernel_rfl) rfl (by decide) ?_
          refine op_len_slice ?_
          refine ta_take 12 rfl (by kernel_rfl) (by kernel_rfl) (by kernel_rfl) hpq rfl rfl (by decide) (by exact y_assign) ?_
          refine ta_take 13 rfl (by kernel_rfl) (by kernel_rfl) (by kernel_rfl) hpq rfl rfl (by decide) (by exact y_assign) ?_
          refine ta_done (by kernel_rfl) ?_
          repeat' first
            | refine tc_seq ?_ | refine tc_region ?_ | refine at_seq_normal ?_ | refine tl_nil ?_ | refine tl_cons ?_ | refine op_move ?_ | refine op_assign ?_ | refine op_fieldAddr ?_ | refine op_load ?_ | refine op_load_agg ?_
            | refine op_unop_not ?_ | refine op_len_slice ?_ | refine op_build ?_ | refine op_nilCheck_ptr ?_ | refine op_nilCheck_meth ?_ | (refine op_box ?_; intro _) | refine op_loadK rfl ?_ | refine op_load_aggK rfl ?_ | refine tc_ret ?_ | refine at_seq_ret ?_
          exact ret_list rfl (.cons (.tmp rfl) (.cons (.tmp rfl) (.cons (.tmp rfl) .nil))) rfl (List.Sublist.refl _) (exq (.inl ⟨h8, av, cv, rfl, hF.mono fun e he => List.mem_append_left _ he⟩)) (.inl rfl)
  · skip
    refine tc_anyQ mixed (by repeat (first | refine pq_seq ?_ | refine pq_block ?_ | refine pq_loop ?_ | exact pq_body)) fun hpq => ?_
    refine ta_take 0 rfl (by kernel_rfl) (by kernel_rfl) (by kernel_rfl) hpq rfl rfl (by decide) (by exact y_move) ?_
    refine ta_take 1 rfl (by kernel_rfl) (by kernel_rfl) (by kernel_rfl) hpq rfl rfl (by decide) (by exact y_move) ?_
    refine ta_take 6 rfl (by kernel_rfl) (by kernel_rfl) (by kernel_rfl) hpq rfl rfl (by decide) (by exact y_move) ?_
    refine ta_take 11 rfl (by kernel_rfl) (by kernel_rfl) (by kernel_rfl) hpq rfl rfl (by decide) (by exact y_assign) ?_
    refine ta_two 2 7 (by kernel_rfl) rfl (by decide) rfl (by decide) ?_ ?_
    · refine op_nilCheck_ptr ?_
      refine ta_take 3 rfl (by kernel_rfl) (by kernel_rfl) (by kernel_rfl) hpq rfl rfl (by decide) (by exact y_fieldAddr) ?_
      refine ta_two 4 7 (by kernel_rfl) rfl (by decide) rfl (by decide) ?_ ?_
      · refine op_loadK rfl ?_
        refine ta_two 5 7 (by kernel_rfl) rfl (by decide) rfl (by decide) ?_ ?_
        · refine op_len_slice ?_
          refine ta_take 12 rfl (by kernel_rfl) (by kernel_rfl) (by kernel_rfl) hpq rfl rfl (by decide) (by exact y_assign) ?_
          refine ta_only 7 (by kernel_rfl) rfl (by decide) ?_
          refine op_nilCheck_ptr ?_
          refine ta_take 8 rfl (by kernel_rfl) (by kernel_rfl) (by kernel_rfl) hpq rfl rfl (by decide) (by exact y_fieldAddr) ?_
          refine ta_only 9 (by kernel_rfl) rfl (by decide) ?_
          refine op_loadK rfl ?_
          refine ta_only 10 (by kernel_rfl) rfl (by decide) ?_
          refine op_unop_not ?_
          refine ta_take 13 rfl (by kernel_rfl) (by kernel_rfl) (by kernel_rfl) hpq rfl rfl (by decide) (by exact y_assign) ?_
          refine ta_done (by kernel_rfl) ?_
          repeat' first
            | refine tc_seq ?_ | refine tc_region ?_ | refine at_seq_normal ?_ | refine tl_nil ?_ | refine tl_cons ?_ | refine op_move ?_ | refine op_assign ?_ | refine op_fieldAddr ?_ | refine op_load ?_ | refine op_load_agg ?_
            | refine op_unop_not ?_ | refine op_len_slice ?_ | refine op_build ?_ | refine op_nilCheck_ptr ?_ | refine op_nilCheck_meth ?_ | (refine op_box ?_; intro _) | refine op_loadK rfl ?_ | refine op_load_aggK rfl ?_ | refine tc_ret ?_ | refine at_seq_ret ?_
          exact ret_list rfl (.cons (.tmp rfl) (.cons (.tmp rfl) (.cons (.tmp rfl) .nil))) rfl (List.Sublist.refl _) (exq (.inr ⟨h8, _, _, rfl⟩)) (.inl rfl)
        · refine op_nilCheck_ptr ?_
          refine ta_take 8 rfl (by kernel_rfl) (by kernel_rfl) (by kernel_rfl) hpq rfl rfl (by decide) (by exact y_fieldAddr) ?_
          refine ta_two 5 9 (by kernel_rfl) rfl (by decide) rfl (by decide) ?_ ?_
          · refine op_len_slice ?_
            refine ta_take 12 rfl (by kernel_rfl) (by kernel_rfl) (by kernel_rfl) hpq rfl rfl (by decide) (by exact y_assign) ?_
            refine ta_only 9 (by kernel_rfl) rfl (by decide) ?_
            refine op_loadK rfl ?_
            refine ta_only 10 (by kernel_rfl) rfl (by decide) ?_
            refine op_unop_not ?_
            refine ta_take 13 rfl (by kernel_rfl) (by kernel_rfl) (by kernel_rfl) hpq rfl rfl (by decide) (by exact y_assign) ?_
            refine ta_done (by kernel_rfl) ?_
            repeat' first
              | refine tc_seq ?_ | refine tc_region ?_ | refine at_seq_normal ?_ | refine tl_nil ?_ | refine tl_cons ?_ | refine op_move ?_ | refine op_assign ?_ | refine op_fieldAddr ?_ | refine op_load ?_ | refine op_load_agg ?_
              | refine op_unop_not ?_ | refine op_len_slice ?_ | refine op_build ?_ | refine op_nilCheck_ptr ?_ | refine op_nilCheck_meth ?_ | (refine op_box ?_; intro _) | refine op_loadK rfl ?_ | refine op_load_aggK rfl ?_ | refine tc_ret ?_ | refine at_seq_ret ?_
            exact ret_list rfl (.cons (.tmp rfl) (.cons (.tmp rfl) (.cons (.tmp rfl) .nil))) rfl (List.Sublist.refl _) (exq (.inr ⟨h8, _, _, rfl⟩)) (.inl rfl)
          · refine op_loadK rfl ?_
            refine ta_two 5 10 (by kernel_rfl) rfl (by decide) rfl (by decide) ?_ ?_
            · refine op_len_slice ?_
              refine ta_take 12 rfl (by kernel_rfl) (by kernel_rfl) (by kernel_rfl) hpq rfl rfl (by decide) (by exact y_assign) ?_
              refine ta_only 10 (by kernel_rfl) rfl (by decide) ?_
              refine op_unop_not ?_
              refine ta_take 13 rfl (by kernel_rfl) (by kernel_rfl) (by kernel_rfl) hpq rfl rfl (by decide) (by exact y_assign) ?_
              refine ta_done (by kernel_rfl) ?_
              repeat' first
                | refine tc_seq ?_ | refine tc_region ?_ | refine at_seq_normal ?_ | refine tl_nil ?_ | refine tl_cons ?_ | refine op_move ?_ | refine op_assign ?_ | refine op_fieldAddr ?_ | refine op_load ?_ | refine op_load_agg ?_
                | refine op_unop_not ?_ | refine op_len_slice ?_ | refine op_build ?_ | refine op_nilCheck_ptr ?_ | refine op_nilCheck_meth ?_ | (refine op_box ?_; intro _) | refine op_loadK rfl ?_ | refine op_load_aggK rfl ?_ | refine tc_ret ?_ | refine at_seq_ret ?_
              exact ret_list rfl (.cons (.tmp rfl) (.cons (.tmp rfl) (.cons (.tmp rfl) .nil))) rfl (List.Sublist.refl _) (exq (.inr ⟨h8, _, _, rfl⟩)) (.inl rfl)
            · refine op_unop_not ?_
              refine ta_only 5 (by kernel_rfl) rfl (by decide) ?_
              refine op_len_slice ?_
              refine ta_take 12 rfl (by kernel_rfl) (by kernel_rfl) (by kernel_rfl) hpq rfl rfl (by decide) (by exact y_assign) ?_
              refine ta_take 13 rfl (by kernel_rfl) (by kernel_rfl) (by kernel_rfl) hpq rfl rfl (by decide) (by exact y_assign) ?_
              refine ta_done (by kernel_rfl) ?_
              repeat' first
                | refine tc_seq ?_ | refine tc_region ?_ | refine at_seq_normal ?_ | refine tl_nil ?_ | refine tl_cons ?_ | refine op_move ?_ | refine op_assign ?_ | refine op_fieldAddr ?_ | refine op_load ?_ | refine op_load_agg ?_
                | refine op_unop_not ?_ | refine op_len_slice ?_ | refine op_build ?_ | refine op_nilCheck_ptr ?_ | refine op_nilCheck_meth ?_ | (refine op_box ?_; intro _) | refine op_loadK rfl ?_ | refine op_load_aggK rfl ?_ | refine tc_ret ?_ | refine at_seq_ret ?_
              exact ret_list rfl (.cons (.tmp rfl) (.cons (.tmp rfl) (.cons (.tmp rfl) .nil))) rfl (List.Sublist.refl _) (exq (.inr ⟨h8, _, _, rfl⟩)) (.inl rfl)
      · refine op_nilCheck_ptr ?_
        refine ta_take 8 rfl (by kernel_rfl) (by kernel_rfl) (by kernel_rfl) hpq rfl rfl (by decide) (by exact y_fieldAddr) ?_
        refine ta_two 4 9 (by kernel_rfl) rfl (by decide) rfl (by decide) ?_ ?_
        · refine op_loadK rfl ?_
          refine ta_two 5 9 (by kernel_rfl) rfl (by decide) rfl (by decide) ?_ ?_
          · refine op_len_slice ?_
            refine ta_take 12 rfl (by kernel_rfl) (by kernel_rfl) (by kernel_rfl) hpq rfl rfl (by decide) (by exact y_assign) ?_
            refine ta_only 9 (by kernel_rfl) rfl (by decide) ?_
            refine op_loadK rfl ?_
            refine ta_only 10 (by kernel_rfl) rfl (by decide) ?_
            refine op_unop_not ?_
            refine ta_take 13 rfl (by kernel_rfl) (by kernel_rfl) (by kernel_rfl) hpq rfl rfl (by decide) (by exact y_assign) ?_
            refine ta_done (by kernel_rfl) ?_
            repeat' first
              | refine tc_seq ?_ | refine tc_region ?_ | refine at_seq_normal ?_ | refine tl_nil ?_ | refine tl_cons ?_ | refine op_move ?_ | refine op_assign ?_ | refine op_fieldAddr ?_ | refine op_load ?_ | refine op_load_agg ?_
              | refine op_unop_not ?_ | refine op_len_slice ?_ | refine op_build ?_ | refine op_nilCheck_ptr ?_ | refine op_nilCheck_meth ?_ | (refine op_box ?_; intro _) | refine op_loadK rfl ?_ | refine op_load_aggK rfl ?_ | refine tc_ret ?_ | refine at_seq_ret ?_
            exact ret_list rfl (.cons (.tmp rfl) (.cons (.tmp rfl) (.cons (.tmp rfl) .nil))) rfl (List.Sublist.refl _) (exq (.inr ⟨h8, _, _, rfl⟩)) (.inl rfl)
          · refine op_loadK rfl ?_
            refine ta_two 5 10 (by kernel_rfl) rfl (by decide) rfl (by decide) ?_ ?_
            · refine op_len_slice ?_
              refine ta_take 12 rfl (by kernel_rfl) (by kernel_rfl) (by kernel_rfl) hpq rfl rfl (by decide) (by exact y_assign) ?_
              refine ta_only 10 (by kernel_rfl) rfl (by decide) ?_
              refine op_unop_not ?_
              refine ta_take 13 rfl (by kernel_rfl) (by kernel_rfl) (by kernel_rfl) hpq rfl rfl (by decide) (by exact y_assign) ?_
              refine ta_done (by kernel_rfl) ?_
              repeat' first
                | refine tc_seq ?_ | refine tc_region ?_ | refine at_seq_normal ?_ | refine tl_nil ?_ | refine tl_cons ?_ | refine op_move ?_ | refine op_assign ?_ | refine op_fieldAddr ?_ | refine op_load ?_ | refine op_load_agg ?_
                | refine op_unop_not ?_ | refine op_len_slice ?_ | refine op_build ?_ | refine op_nilCheck_ptr ?_ | refine op_nilCheck_meth ?_ | (refine op_box ?_; intro _) | refine op_loadK rfl ?_ | refine op_load_aggK rfl ?_ | refine tc_ret ?_ | refine at_seq_ret ?_
              exact ret_list rfl (.cons (.tmp rfl) (.cons (.tmp rfl) (.cons (.tmp rfl) .nil))) rfl (List.Sublist.refl _) (exq (.inr ⟨h8, _, _, rfl⟩)) (.inl rfl)
            · refine op_unop_not ?_
              refine ta_only 5 (by kernel_rfl) rfl (by decide) ?_
              refine op_len_slice ?_
              refine ta_take 12 rfl (by kernel_rfl) (by kernel_rfl) (by kernel_rfl) hpq rfl rfl (by decide) (by exact y_assign) ?_
              refine ta_take 13 rfl (by kernel_rfl) (by kernel_rfl) (by kernel_rfl) hpq rfl rfl (by decide) (by exact y_assign) ?_
              refine ta_done (by kernel_rfl) ?_
              repeat' first
                | refine tc_seq ?_ | refine tc_region ?_ | refine at_seq_normal ?_ | refine tl_nil ?_ | refine tl_cons ?_ | refine op_move ?_ | refine op_assign ?_ | refine op_fieldAddr ?_ | refine op_load ?_ | refine op_load_agg ?_
                | refine op_unop_not ?_ | refine op_len_slice ?_ | refine op_build ?_ | refine op_nilCheck_ptr ?_ | refine op_nilCheck_meth ?_ | (refine op_box ?_; intro _) | refine op_loadK rfl ?_ | refine op_load_aggK rfl ?_ | refine tc_ret ?_ | refine at_seq_ret ?_
              exact ret_list rfl (.cons (.tmp rfl) (.cons (.tmp rfl) (.cons (.tmp rfl) .nil))) rfl (List.Sublist.refl _) (exq (.inr ⟨h8, _, _, rfl⟩)) (.inl rfl)
        · refine op_loadK rfl ?_
          refine ta_two 4 10 (by kernel_rfl) rfl (by decide) rfl (by decide) ?_ ?_
          · refine op_loadK rfl ?_
            refine ta_two 5 10 (by kernel_rfl) rfl (by decide) rfl (by decide) ?_ ?_
            · refine op_len_slice ?_
              refine ta_take 12 rfl (by kernel_rfl) (by kernel_rfl) (by kernel_rfl) hpq rfl rfl (by decide) (by exact y_assign) ?_
              refine ta_only 10 (by kernel_rfl) rfl (by decide) ?_
              refine op_unop_not ?_
              refine ta_take 13 rfl (by kernel_rfl) (by kernel_rfl) (by kernel_rfl) hpq rfl rfl (by decide) (by exact y_assign) ?_
              refine ta_done (by kernel_rfl) ?_
              repeat' first
                | refine tc_seq ?_ | refine tc_region ?_ | refine at_seq_normal ?_ | refine tl_nil ?_ | refine tl_cons ?_ | refine op_move ?_ | refine op_assign ?_ | refine op_fieldAddr ?_ | refine op_load ?_ | refine op_load_agg ?_
                | refine op_unop_not ?_ | refine op_len_slice ?_ | refine op_build ?_ | refine op_nilCheck_ptr ?_ | refine op_nilCheck_meth ?_ | (refine op_box ?_; intro _) | refine op_loadK rfl ?_ | refine op_load_aggK rfl ?_ | refine tc_ret ?_ | refine at_seq_ret ?_
              exact ret_list rfl (.cons (.tmp rfl) (.cons (.tmp rfl) (.cons (.tmp rfl) .nil))) rfl (List.Sublist.refl _) (exq (.inr ⟨h8, _, _, rfl⟩)) (.inl rfl)
            · refine op_unop_not ?_
              refine ta_only 5 (by kernel_rfl) rfl (by decide) ?_
              refine op_len_slice ?_
              refine ta_take 12 rfl (by kernel_rfl) (by kernel_rfl) (by kernel_rfl) hpq rfl rfl (by decide) (by exact y_assign) ?_
              refine ta_take 13 rfl (by kernel_rfl) (by kernel_rfl) (by kernel_rfl) hpq rfl rfl (by decide) (by exact y_assign) ?_
              refine ta_done (by kernel_rfl) ?_
              repeat' first
                | refine tc_seq ?_ | refine tc_region ?_ | refine at_seq_normal ?_ | refine tl_nil ?_ | refine tl_cons ?_ | refine op_move ?_ | refine op_assign ?_ | refine op_fieldAddr ?_ | refine op_load ?_ | refine op_load_agg ?_
                | refine op_unop_not ?_ | refine op_len_slice ?_ | refine op_build ?_ | refine op_nilCheck_ptr ?_ | refine op_nilCheck_meth ?_ | (refine op_box ?_; intro _) | refine op_loadK rfl ?_ | refine op_load_aggK rfl ?_ | refine tc_ret ?_ | refine at_seq_ret ?_
              exact ret_list rfl (.cons (.tmp rfl) (.cons (.tmp rfl) (.cons (.tmp rfl) .nil))) rfl (List.Sublist.refl _) (exq (.inr ⟨h8, _, _, rfl⟩)) (.inl rfl)
          · refine op_unop_not ?_
            refine ta_only 4 (by kernel_rfl) rfl (by decide) ?_
            refine op_loadK rfl ?_
            refine ta_only 5 (by kernel_rfl) rfl (by decide) ?_
            refine op_len_slice ?_
            refine ta_take 12 rfl (by kernel_rfl) (by kernel_rfl) (by kernel_rfl) hpq rfl rfl (by decide) (by exact y_assign) ?_
            refine ta_take 13 rfl (by kernel_rfl) (by kernel_rfl) (by kernel_rfl) hpq rfl rfl (by decide) (by exact y_assign) ?_
            refine ta_done (by kernel_rfl) ?_
            repeat' first
              | refine tc_seq ?_ | refine tc_region ?_ | refine at_seq_normal ?_ | refine tl_nil ?_ | refine tl_cons ?_ | refine op_move ?_ | refine op_assign ?_ | refine op_fieldAddr ?_ | refine op_load ?_ | refine op_load_agg ?_
              | refine op_unop_not ?_ | refine op_len_slice ?_ | refine op_build ?_ | refine op_nilCheck_ptr ?_ | refine op_nilCheck_meth ?_ | (refine op_box ?_; intro _) | refine op_loadK rfl ?_ | refine op_load_aggK rfl ?_ | refine tc_ret ?_ | refine at_seq_ret ?_
            exact ret_list rfl (.cons (.tmp rfl) (.cons (.tmp rfl) (.cons (.tmp rfl) .nil))) rfl (List.Sublist.refl _) (exq (.inr ⟨h8, _, _, rfl⟩)) (.inl rfl)
    · refine op_nilCheck_ptr ?_
      refine ta_take 8 rfl (by kernel_rfl) (by kernel_rfl) (by kernel_rfl) hpq rfl rfl (by decide) (by exact y_fieldAddr) ?_
      refine ta_two 2 9 (by kernel_rfl) rfl (by decide) rfl (by decide) ?_ ?_
      · refine op_nilCheck_ptr ?_
        refine ta_take 3 rfl (by kernel_rfl) (by kernel_rfl) (by kernel_rfl) hpq rfl rfl (by decide) (by exact y_fieldAddr) ?_
        refine ta_two 4 9 (by kernel_rfl) rfl (by decide) rfl (by decide) ?_ ?_
        · refine op_loadK rfl ?_
          refine ta_two 5 9 (by kernel_rfl) rfl (by decide) rfl (by decide) ?_ ?_
          · refine op_len_slice ?_
            refine ta_take 12 rfl (by kernel_rfl) (by kernel_rfl) (by kernel_rfl) hpq rfl rfl (by decide) (by exact y_assign) ?_
            refine ta_only 9 (by kernel_rfl) rfl (by decide) ?_
            refine op_loadK rfl ?_
            refine ta_only 10 (by kernel_rfl) rfl (by decide) ?_
            refine op_unop_not ?_
            refine ta_take 13 rfl (by kernel_rfl) (by kernel_rfl) (by kernel_rfl) hpq rfl rfl (by decide) (by exact y_assign) ?_
            refine ta_done (by kernel_rfl) ?_
            repeat' first
              | refine tc_seq ?_ | refine tc_region ?_ | refine at_seq_normal ?_ | refine tl_nil ?_ | refine tl_cons ?_ | refine op_move ?_ | refine op_assign ?_ | refine op_fieldAddr ?_ | refine op_load ?_ | refine op_load_agg ?_
              | refine op_unop_not ?_ | refine op_len_slice ?_ | refine op_build ?_ | refine op_nilCheck_ptr ?_ | refine op_nilCheck_meth ?_ | (refine op_box ?_; intro _) | refine op_loadK rfl ?_ | refine op_load_aggK rfl ?_ | refine tc_ret ?_ | refine at_seq_ret ?_
            exact ret_list rfl (.cons (.tmp rfl) (.cons (.tmp rfl) (.cons (.tmp rfl) .nil))) rfl (List.Sublist.refl _) (exq (.inr ⟨h8, _, _, rfl⟩)) (.inl rfl)
          · refine op_loadK rfl ?_
            refine ta_two 5 10 (by kernel_rfl) rfl (by decide) rfl (by decide) ?_ ?_
            · refine op_len_slice ?_
              refine ta_take 12 rfl (by kernel_rfl) (by kernel_rfl) (by kernel_rfl) hpq rfl rfl (by decide) (by exact y_assign) ?_
              refine ta_only 10 (by kernel_rfl) rfl (by decide) ?_
              refine op_unop_not ?_
              refine ta_take 13 rfl (by kernel_rfl) (by kernel_rfl) (by kernel_rfl) hpq rfl rfl (by decide) (by exact y_assign) ?_
              refine ta_done (by kernel_rfl) ?_
              repeat' first
                | refine tc_seq ?_ | refine tc_region ?_ | refine at_seq_normal ?_ | refine tl_nil ?_ | refine tl_cons ?_ | refine op_move ?_ | refine op_assign ?_ | refine op_fieldAddr ?_ | refine op_load ?_ | refine op_load_agg ?_
                | refine op_unop_not ?_ | refine op_len_slice ?_ | refine op_build ?_ | refine op_nilCheck_ptr ?_ | refine op_nilCheck_meth ?_ | (refine op_box ?_; intro _) | refine op_loadK rfl ?_ | refine op_load_aggK rfl ?_ | refine tc_ret ?_ | refine at_seq_ret ?_
              exact ret_list rfl (.cons (.tmp rfl) (.cons (.tmp rfl) (.cons (.tmp rfl) .nil))) rfl (List.Sublist.refl _) (exq (.inr ⟨h8, _, _, rfl⟩)) (.inl rfl)
            · refine op_unop_not ?_
              refine ta_only 5 (by kernel_rfl) rfl (by decide) ?_
              refine op_len_slice ?_
              refine ta_take 12 rfl (by kernel_rfl) (by kernel_rfl) (by kernel_rfl) hpq rfl rfl (by decide) (by exact y_assign) ?_
              refine ta_take 13 rfl (by kernel_rfl) (by kernel_rfl) (by kernel_rfl) hpq rfl rfl (by decide) (by exact y_assign) ?_
              refine ta_done (by kernel_rfl) ?_
              repeat' first
                | refine tc_seq ?_ | refine tc_region ?_ | refine at_seq_normal ?_ | refine tl_nil ?_ | refine tl_cons ?_ | refine op_move ?_ | refine op_assign ?_ | refine op_fieldAddr ?_ | refine op_load ?_ | refine op_load_agg ?_
                | refine op_unop_not ?_ | refine op_len_slice ?_ | refine op_build ?_ | refine op_nilCheck_ptr ?_ | refine op_nilCheck_meth ?_ | (refine op_box ?_; intro _) | refine op_loadK rfl ?_ | refine op_load_aggK rfl ?_ | refine tc_ret ?_ | refine at_seq_ret ?_
              exact ret_list rfl (.cons (.tmp rfl) (.cons (.tmp rfl) (.cons (.tmp rfl) .nil))) rfl (List.Sublist.refl _) (exq (.inr ⟨h8, _, _, rfl⟩)) (.inl rfl)
        · refine op_loadK rfl ?_
          refine ta_two 4 10 (by kernel_rfl) rfl (by decide) rfl (by decide) ?_ ?_
          · refine op_loadK rfl ?_
            refine ta_two 5 10 (by kernel_rfl) rfl (by decide) rfl (by decide) ?_ ?_
            · refine op_len_slice ?_
              refine ta_take 12 rfl (by kernel_rfl) (by kernel_rfl) (by kernel_rfl) hpq rfl rfl (by decide) (by exact y_assign) ?_
              refine ta_only 10 (by kernel_rfl) rfl (by decide) ?_
              refine op_unop_not ?_
              refine ta_take 13 rfl (by kernel_rfl) (by kernel_rfl) (by kernel_rfl) hpq rfl rfl (by decide) (by exact y_assign) ?_
              refine ta_done (by kernel_rfl) ?_
              repeat' first
                | refine tc_seq ?_ | refine tc_region ?_ | refine at_seq_normal ?_ | refine tl_nil ?_ | refine tl_cons ?_ | refine op_move ?_ | refine op_assign ?_ | refine op_fieldAddr ?_ | refine op_load ?_ | refine op_load_agg ?_
                | refine op_unop_not ?_ | refine op_len_slice ?_ | refine op_build ?_ | refine op_nilCheck_ptr ?_ | refine op_nilCheck_meth ?_ | (refine op_box ?_; intro _) | refine op_loadK rfl ?_ | refine op_load_aggK rfl ?_ | refine tc_ret ?_ | refine at_seq_ret ?_
              exact ret_list rfl (.cons (.tmp rfl) (.cons (.tmp rfl) (.cons (.tmp rfl) .nil))) rfl (List.Sublist.refl _) (exq (.inr ⟨h8, _, _, rfl⟩)) (.inl rfl)
            · refine op_unop_not ?_
              refine ta_only 5 (by kernel_rfl) rfl (by decide) ?_
              refine op_len_slice ?_
              refine ta_take 12 rfl (by kernel_rfl) (by kernel_rfl) (by kernel_rfl) hpq rfl rfl (by decide) (by exact y_assign) ?_
              refine ta_take 13 rfl (by kernel_rfl) (by kernel_rfl) (by kernel_rfl) hpq rfl rfl (by decide) (by exact y_assign) ?_
              refine ta_done (by kernel_rfl) ?_
              repeat' first
                | refine tc_seq ?_ | refine tc_region ?_ | refine at_seq_normal ?_ | refine tl_nil ?_ | refine tl_cons ?_ | refine op_move ?_ | refine op_assign ?_ | refine op_fieldAddr ?_ | refine op_load ?_ | refine op_load_agg ?_
                | refine op_unop_not ?_ | refine op_len_slice ?_ | refine op_build ?_ | refine op_nilCheck_ptr ?_ | refine op_nilCheck_meth ?_ | (refine op_box ?_; intro _) | refine op_loadK rfl ?_ | refine op_load_aggK rfl ?_ | refine tc_ret ?_ | refine at_seq_ret ?_
              exact ret_list rfl (.cons (.tmp rfl) (.cons (.tmp rfl) (.cons (.tmp rfl) .nil))) rfl (List.Sublist.refl _) (exq (.inr ⟨h8, _, _, rfl⟩)) (.inl rfl)
          · refine op_unop_not ?_
            refine ta_only 4 (by kernel_rfl) rfl (by decide) ?_
            refine op_loadK rfl ?_
            refine ta_only 5 (by kernel_rfl) rfl (by decide) ?_
            refine op_len_slice ?_
            refine ta_take 12 rfl (by kernel_rfl) (by kernel_rfl) (by kernel_rfl) hpq rfl rfl (by decide) (by exact y_assign) ?_
            refine ta_take 13 rfl (by kernel_rfl) (by kernel_rfl) (by kernel_rfl) hpq rfl rfl (by decide) (by exact y_assign) ?_
            refine ta_done (by kernel_rfl) ?_
            repeat' first
              | refine tc_seq ?_ | refine tc_region ?_ | refine at_seq_normal ?_ | refine tl_nil ?_ | refine tl_cons ?_ | refine op_move ?_ | refine op_assign ?_ | refine op_fieldAddr ?_ | refine op_load ?_ | refine op_load_agg ?_
              | refine op_unop_not ?_ | refine op_len_slice ?_ | refine op_build ?_ | refine op_nilCheck_ptr ?_ | refine op_nilCheck_meth ?_ | (refine op_box ?_; intro _) | refine op_loadK rfl ?_ | refine op_load_aggK rfl ?_ | refine tc_ret ?_ | refine at_seq_ret ?_
            exact ret_list rfl (.cons (.tmp rfl) (.cons (.tmp rfl) (.cons (.tmp rfl) .nil))) rfl (List.Sublist.refl _) (exq (.inr ⟨h8, _, _, rfl⟩)) (.inl rfl)
      · refine op_loadK rfl ?_
        refine ta_two 2 10 (by kernel_rfl) rfl (by decide) rfl (by decide) ?_ ?_
        · refine op_nilCheck_ptr ?_
          refine ta_take 3 rfl (by kernel_rfl) (by kernel_rfl) (by kernel_rfl) hpq rfl rfl (by decide) (by exact y_fieldAddr) ?_
          refine ta_two 4 10 (by kernel_rfl) rfl (by decide) rfl (by decide) ?_ ?_
          · refine op_loadK rfl ?_
            refine ta_two 5 10 (by kernel_rfl) rfl (by decide) rfl (by decide) ?_ ?_
            · refine op_len_slice ?_
              refine ta_take 12 rfl (by kernel_rfl) (by kernel_rfl) (by kernel_rfl) hpq rfl rfl (by decide) (by exact y_assign) ?_
              refine ta_only 10 (by kernel_rfl) rfl (by decide) ?_
              refine op_unop_not ?_
              refine ta_take 13 rfl (by kernel_rfl) (by kernel_rfl) (by kernel_rfl) hpq rfl rfl (by decide) (by exact y_assign) ?_
              refine ta_done (by kernel_rfl) ?_
              repeat' first
                | refine tc_seq ?_ | refine tc_region ?_ | refine at_seq_normal ?_ | refine tl_nil ?_ | refine tl_cons ?_ | refine op_move ?_ | refine op_assign ?_ | refine op_fieldAddr ?_ | refine op_load ?_ | refine op_load_agg ?_
                | refine op_unop_not ?_ | refine op_len_slice ?_ | refine op_build ?_ | refine op_nilCheck_ptr ?_ | refine op_nilCheck_meth ?_ | (refine op_box ?_; intro _) | refine op_loadK rfl ?_ | refine op_load_aggK rfl ?_ | refine tc_ret ?_ | refine at_seq_ret ?_
              exact ret_list rfl (.cons (.tmp rfl) (.cons (.tmp rfl) (.cons (.tmp rfl) .nil))) rfl (List.Sublist.refl _) (exq (.inr ⟨h8, _, _, rfl⟩)) (.inl rfl)
            · refine op_unop_not ?_
              refine ta_only 5 (by kernel_rfl) rfl (by decide) ?_
              refine op_len_slice ?_
              refine ta_take 12 rfl (by kernel_rfl) (by kernel_rfl) (by kernel_rfl) hpq rfl rfl (by decide) (by exact y_assign) ?_
              refine ta_take 13 rfl (by kernel_rfl) (by kernel_rfl) (by kernel_rfl) hpq rfl rfl (by decide) (by exact y_assign) ?_
              refine ta_done (by kernel_rfl) ?_
              repeat' first
                | refine tc_seq ?_ | refine tc_region ?_ | refine at_seq_normal ?_ | refine tl_nil ?_ | refine tl_cons ?_ | refine op_move ?_ | refine op_assign ?_ | refine op_fieldAddr ?_ | refine op_load ?_ | refine op_load_agg ?_
                | refine op_unop_not ?_ | refine op_len_slice ?_ | refine op_build ?_ | refine op_nilCheck_ptr ?_ | refine op_nilCheck_meth ?_ | (refine op_box ?_; intro _) | refine op_loadK rfl ?_ | refine op_load_aggK rfl ?_ | refine tc_ret ?_ | refine at_seq_ret ?_
              exact ret_list rfl (.cons (.tmp rfl) (.cons (.tmp rfl) (.cons (.tmp rfl) .nil))) rfl (List.Sublist.refl _) (exq (.inr ⟨h8, _, _, rfl⟩)) (.inl rfl)
          · refine op_unop_not ?_
            refine ta_only 4 (by kernel_rfl) rfl (by decide) ?_
            refine op_loadK rfl ?_
            refine ta_only 5 (by kernel_rfl) rfl (by decide) ?_
            refine op_len_slice ?_
            refine ta_take 12 rfl (by kernel_rfl) (by kernel_rfl) (by kernel_rfl) hpq rfl rfl (by decide) (by exact y_assign) ?_
            refine ta_take 13 rfl (by kernel_rfl) (by kernel_rfl) (by kernel_rfl) hpq rfl rfl (by decide) (by exact y_assign) ?_
            refine ta_done (by kernel_rfl) ?_
            repeat' first
              | refine tc_seq ?_ | refine tc_region ?_ | refine at_seq_normal ?_ | refine tl_nil ?_ | refine tl_cons ?_ | refine op_move ?_ | refine op_assign ?_ | refine op_fieldAddr ?_ | refine op_load ?_ | refine op_load_agg ?_
              | refine op_unop_not ?_ | refine op_len_slice ?_ | refine op_build ?_ | refine op_nilCheck_ptr ?_ | refine op_nilCheck_meth ?_ | (refine op_box ?_; intro _) | refine op_loadK rfl ?_ | refine op_load_aggK rfl ?_ | refine tc_ret ?_ | refine at_seq_ret ?_
            exact ret_list rfl (.cons (.tmp rfl) (.cons (.tmp rfl) (.cons (.tmp rfl) .nil))) rfl (List.Sublist.refl _) (exq (.inr ⟨h8, _, _, rfl⟩)) (.inl rfl)
        · refine op_unop_not ?_
          refine ta_only 2 (by kernel_rfl) rfl (by decide) ?_
          refine op_nilCheck_ptr ?_
          refine ta_take 3 rfl (by kernel_rfl) (by kernel_rfl) (by kernel_rfl) hpq rfl rfl (by decide) (by exact y_fieldAddr) ?_
          refine ta_only 4 (by kernel_rfl) rfl (by decide) ?_
          refine op_loadK rfl ?_
          refine ta_only 5 (by kernel_rfl) rfl (by decide) ?_
          refine op_len_slice ?_
          refine ta_take 12 rfl (by kernel_rfl) (by kernel_rfl) (by kernel_rfl) hpq rfl rfl (by decide) (by exact y_assign) ?_
          refine ta_take 13 rfl (by kernel_rfl) (by kernel_rfl) (by kernel_rfl) hpq rfl rfl (by decide) (by exact y_assign) ?_
          refine ta_done (by kernel_rfl) ?_
          repeat' first
            | refine tc_seq ?_ | refine tc_region ?_ | refine at_seq_normal ?_ | refine tl_nil ?_ | refine tl_cons ?_ | refine op_move ?_ | refine op_assign ?_ | refine op_fieldAddr ?_ | refine op_load ?_ | refine op_load_agg ?_
            | refine op_unop_not ?_ | refine op_len_slice ?_ | refine op_build ?_ | refine op_nilCheck_ptr ?_ | refine op_nilCheck_meth ?_ | (refine op_box ?_; intro _) | refine op_loadK rfl ?_ | refine op_load_aggK rfl ?_ | refine tc_ret ?_ | refine at_seq_ret ?_
          exact ret_list rfl (.cons (.tmp rfl) (.cons (.tmp rfl) (.cons (.tmp rfl) .nil))) rfl (List.Sublist.refl _) (exq (.inr ⟨h8, _, _, rfl⟩)) (.inl rfl)
end Go.Proofs.YtddpdmmikheoeaaDoor.Byt
