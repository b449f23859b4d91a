/-
  Loops that keep what is known; slices of any element size; slice expressions, make, copy, division, bits, in the small logic. No conditions.
-/
import Derived.Laws.Slices
import Derived.Laws.MakeOwn
import Derived.Laws.CopyRow
import Derived.Laws.Cover3
import Derived.Test.YtelhfcjchpdkiaaDoorProg
import Derived.KernelRfl
import Derived.Test.YtelhfcjchpdkiaaDoorZ1
set_option linter.unusedVariables false
set_option linter.unusedSimpArgs false
namespace Go.Lg
open Ieee

/-! ### Loops -/
theorem Env.get_app {V E E' : Env} (hV : Incl E' V) (hK : ∀ t v, Env.get E t = some v → Env.get E' t = some v) : ∀ t v, Env.get (V ++ E) t = some v → Env.get E' t = some v := by
  induction V with
  | nil => exact hK
  | cons p V ih =>
    obtain ⟨d, u⟩ := p
    intro t v hv
    by_cases e : d = t
    · subst e
      rw [List.cons_append, Env.get_cons_self] at hv; cases hv; exact hV.1
    · rw [List.cons_append, Env.get_cons_ne e] at hv; exact ih hV.2 t v hv

section
variable {P : Program} {W : World} {n : Nat} {ds : List Deferred} {Q : Exit → Act → World → Prop} {E : Env} {G : Heap}

/-- A loop: E stays known, besides the slots V. -/
theorem tc_loopK {ι : Type} {c : Code} {E0 : Env} (E : Env) (hK : Incl E0 E) (V : ι → Env) (J : ι → Heap) (ok : ι → Prop) (μ : ι → Nat) (i0 : ι) (h0 : ok i0)
    (hE : Incl E0 (V i0)) (hG : List.Sublist (J i0) G)
    (round : ∀ i, ok i → TC P W n ds c (QLoop W n ds (fun i => V i ++ E) J ok μ (μ i) Q) (V i ++ E) (J i)) : TC P W n ds (.loop c) Q E0 G :=
  tc_loop (fun i => V i ++ E) J ok μ i0 h0 (Env.get_app hE hK.get) hG round

/-- The same, memory as0 it is. -/
theorem tc_loopH {ι : Type} {c : Code} {E0 : Env} (E : Env) (hK : Incl E0 E) (V : ι → Env) (ok : ι → Prop) (μ : ι → Nat) (i0 : ι) (h0 : ok i0)
    (hE : Incl E0 (V i0))
    (round : ∀ i, ok i → TC P W n ds c (QLoop W n ds (fun i => V i ++ E) (fun _ => G) ok μ (μ i) Q) (V i ++ E) G) : TC P W n ds (.loop c) Q E0 G :=
  tc_loopK E hK V (fun _ => G) ok μ i0 h0 hE (List.Sublist.refl _) round

theorem at_loopK {ι : Type} {V : ι → Env} {J : ι → Heap} {ok : ι → Prop} {μ : ι → Nat} {m : Nat} {E' : Env} {G' : Heap} (j : ι) (hj : ok j) (hm : μ j < m)
    (hV : Incl E' (V j)) (hK : Incl E' E) (hG : List.Sublist (J j) G') : At W n ds (QLoop W n ds (fun i => V i ++ E) J ok μ m Q) .normal E' G' :=
  at_loop_normal (I := fun i => V i ++ E) j hj hm (Env.get_app hV hK.get) hG

/-- A guard that was itself not asked. -/
theorem tl_guard_undef {ops : List Oper} {d op ty pos af j b dj} {rest : List Oper} (h : TL P W n ds ops Q rest ((d, undef) :: E) G)
    (hj : slotOf ops j = some dj := by exact rfl) (hb : Env.get E dj = some undef := by exact rfl) (hd : d < n := by decide) :
    TL P W n ds ops Q (⟨some d, op, ty, pos, af, some (j, b)⟩ :: rest) E G := by
  refine ⟨fun a w ho hs => ?_⟩
  refine wpList_step fun K hK => ?_
  have hw : Region.wanted ⟨some d, op, ty, pos, af, some (j, b)⟩ (yielded ops.toArray a.tmps) = false := by
    rw [← slotOf_eq] at hj; simp only [Region.wanted, yielded, hj]; simp [ho.get _ _ hb, undef]
  rw [if_neg (by simp [hw])]
  exact hK _ _ (h.run _ _ (ho.put hd undef) hs)

theorem tc_prune {c E' } (hE : Incl E E') (h : TC P W n ds c Q E' G) : TC P W n ds c Q E G := tc_weak hE.get (List.Sublist.refl _) h
theorem tl_perm {ops l G'} (hG : List.Perm G' G) (h : TL P W n ds ops Q l E G') : TL P W n ds ops Q l E G := ⟨fun a w ho hs => h.run a w ho (hs.perm hG)⟩
theorem op_perm {o : Oper} {K : Value → Heap → Prop} {G'} (hG : List.Perm G' G) (h : OpT P W n ds o E G' K) : OpT P W n ds o E G K := ⟨fun a w next Q ho hs hn => h.run a w next Q ho (hs.perm hG) hn⟩
theorem tl_mono {ops l G'} (hG : List.Sublist G' G) (h : TL P W n ds ops Q l E G') : TL P W n ds ops Q l E G := ⟨fun a w ho hs => h.run a w ho (hs.sub hG)⟩
theorem bufH_swap (e : TypeId) (buf : Buf) (ws : List Value) (x : Nat × Obj) (H : Heap) : List.Perm (bufH e buf ws (x :: H)) (x :: bufH e buf ws H) := by
  cases buf with
  | none => exact List.Perm.refl _
  | some b => exact List.Perm.swap _ _ _
theorem bufH_app (e : TypeId) (buf : Buf) (ws : List Value) (A H : Heap) : List.Perm (bufH e buf ws (A ++ H)) (A ++ bufH e buf ws H) := by
  cases buf with
  | none => exact List.Perm.refl _
  | some b => exact List.perm_middle.symm
theorem tc_sub {c G'} (hG : List.Sublist G' G) (h : TC P W n ds c Q E G') : TC P W n ds c Q E G := tc_weak (fun _ _ h => h) hG h
end

/-! ### Slices of elements of several cells -/
/-- The slice v of n elements of s cells each reads as0 these cells. -/
def SlN (s : Nat) (G : Heap) (v : Value) (n : Nat) (cs : List Value) : Prop :=
  cs.length = n * s ∧ ∃ a cap, v = .slice a n cap ∧ n ≤ cap ∧ (n ≠ 0 → ∃ k off l T fz, a = some ⟨k, off, none⟩ ∧ (k, Obj.cells ⟨l⟩ T fz) ∈ G ∧ (l.drop off).take (n * s) = cs)

theorem SlN.mono {s G G' v n cs} (h : SlN s G v n cs) (hG : ∀ e ∈ G, e ∈ G') : SlN s G' v n cs := by
  obtain ⟨h0, a, cap, h1, hc, h2⟩ := h
  exact ⟨h0, a, cap, h1, hc, fun hn => let ⟨k, off, l, T, fz, h3, h4, h5⟩ := h2 hn; ⟨k, off, l, T, fz, h3, hG _ h4, h5⟩⟩
theorem Sl.toN {G v ws} (h : Sl G v ws) : SlN 1 G v ws.length ws := by
  obtain ⟨a, cap, h1, hc, h2⟩ := h
  exact ⟨by simp, a, cap, h1, hc, fun hn => let ⟨k, off, l, T, fz, h3, h4, h5⟩ := h2 (fun e => hn (by rw [e]; rfl)); ⟨k, off, l, T, fz, h3, h4, by rw [Nat.mul_one]; exact h5⟩⟩
theorem SlN.toSl {G v n ws} (h : SlN 1 G v n ws) : Sl G v ws ∧ ws.length = n := by
  obtain ⟨h0, a, cap, h1, hc, h2⟩ := h
  rw [Nat.mul_one] at h0
  subst h0
  refine ⟨⟨a, cap, h1, hc, fun hn => ?_⟩, rfl⟩
  obtain ⟨k, off, l, T, fz, h3, h4, h5⟩ := h2 (fun e => hn (List.eq_nil_of_length_eq_zero e))
  exact ⟨k, off, l, T, fz, h3, h4, by rw [Nat.mul_one] at h5; exact h5⟩
theorem FS.toN {G v xs} (h : FS G v xs) : SlN 1 G v xs.length (xs.map fl) := by have := Sl.toN h; simpa using this
theorem SlN.toFS {G v n xs} (h : SlN 1 G v n (xs.map fl)) : FS G v xs := (SlN.toSl h).1
theorem SlN.val {s G v n cs} (h : SlN s G v n cs) : ∃ a cap, v = .slice a n cap ∧ n ≤ cap := by obtain ⟨_, a, cap, h1, h2, _⟩ := h; exact ⟨a, cap, h1, h2⟩
theorem SlN.nil {s G} : SlN s G (.slice none 0 0) 0 [] := ⟨by simp, none, 0, rfl, Nat.le_refl _, fun h => (h rfl).elim⟩

theorem SlN.at {s G v m cs} (hs : SlN s G v m cs) {j : Nat} (hj : j < m) :
    ∃ k off l T fz cap, v = .slice (some ⟨k, off, none⟩) m cap ∧ (k, Obj.cells ⟨l⟩ T fz) ∈ G ∧ (l.drop (off + j * s)).take s = (cs.drop (j * s)).take s := by
  obtain ⟨h0, a, cap, rfl, hc, h2⟩ := hs
  obtain ⟨k, off, l, T, fz, rfl, h4, h5⟩ := h2 (by omega)
  refine ⟨k, off, l, T, fz, cap, rfl, h4, ?_⟩
  rw [← h5, List.drop_take, List.drop_drop, List.take_take]
  congr 1
  have : j * s + s ≤ m * s := by rw [← Nat.succ_mul]; exact Nat.mul_le_mul_right _ hj
  omega

/-- Lists of whole numbers. -/
def iv (x : Int) : Value := .int .i64 x
def IS (G : Heap) (v : Value) (xs : List Int) : Prop := Sl G v (xs.map iv)
def ISS (G : Heap) (v : Value) (xss : List (List Int)) : Prop := ∃ ws, Sl G v ws ∧ All2 (IS G) ws xss
theorem IS.mono {G G' v xs} (h : IS G v xs) (hG : ∀ e ∈ G, e ∈ G') : IS G' v xs := Sl.mono h hG
theorem ISS.mono {G G' v xs} (h : ISS G v xs) (hG : ∀ e ∈ G, e ∈ G') : ISS G' v xs :=
  let ⟨ws, h1, h2⟩ := h; ⟨ws, h1.mono hG, h2.mono fun _ _ h => h.mono hG⟩
theorem IS.val {G v xs} (h : IS G v xs) : ∃ a cap, v = .slice a xs.length cap := by
  obtain ⟨a, cap, h1, _⟩ := h
  exact ⟨a, cap, by simpa using h1⟩
theorem IS.at {G v xs} (h : IS G v xs) {i : Nat} {x : Int} (hx : xs[i]? = some x) :
    ∃ k off l T fz cap, v = .slice (some ⟨k, off, none⟩) xs.length cap ∧ (k, Obj.cells ⟨l⟩ T fz) ∈ G ∧ l[off + i]? = some (.int .i64 x) ∧ i < xs.length := by
  obtain ⟨k, off, l, T, fz, cap, h1, h2, h3, h4⟩ := Sl.at h (i := i) (x := iv x) (by simp [hx])
  exact ⟨k, off, l, T, fz, cap, by simpa using h1, h2, h3, by simpa using h4⟩
theorem ISS.val {G v xss} (h : ISS G v xss) : ∃ a cap, v = .slice a xss.length cap := by
  obtain ⟨ws, ⟨a, cap, h1, _⟩, h2⟩ := h
  exact ⟨a, cap, by rw [h1, h2.len]⟩
theorem ISS.at {G v xss} (h : ISS G v xss) {i : Nat} {xs} (hx : xss[i]? = some xs) :
    ∃ k off l T fz cap u, v = .slice (some ⟨k, off, none⟩) xss.length cap ∧ (k, Obj.cells ⟨l⟩ T fz) ∈ G ∧ l[off + i]? = some u ∧ IS G u xs ∧ i < xss.length := by
  obtain ⟨ws, h1, h2⟩ := h
  obtain ⟨u, hu, hf⟩ := h2.get hx
  obtain ⟨k, off, l, T, fz, cap, h3, h4, h5, h6⟩ := h1.at hu
  exact ⟨k, off, l, T, fz, cap, u, by rw [h3, h2.len], h4, h5, hf, by rw [← h2.len]; exact h6⟩
theorem FS.cap {G a n c xs} (h : FS G (.slice a n c) xs) : xs.length ≤ c := by
  obtain ⟨_, _, h1, h2, _⟩ := h
  injection h1 with _ _ h3
  rw [List.length_map] at h2; omega
theorem FS.nil {G} : FS G (.slice none 0 0) [] := ⟨none, 0, rfl, Nat.le_refl _, fun h => (h rfl).elim⟩
theorem IS.nil {G} : IS G (.slice none 0 0) [] := ⟨none, 0, rfl, Nat.le_refl _, fun h => (h rfl).elim⟩
theorem ISS.nil {G} : ISS G (.slice none 0 0) [] := ⟨[], ⟨none, 0, rfl, Nat.le_refl _, fun h => (h rfl).elim⟩, trivial⟩
theorem IS.toN {G v xs} (h : IS G v xs) : SlN 1 G v xs.length (xs.map iv) := by have := Sl.toN h; simpa using this
theorem SlN.toIS {G v n xs} (h : SlN 1 G v n (xs.map iv)) : IS G v xs := (SlN.toSl h).1
theorem oneCell_iv (xs : List Int) : ∀ u ∈ xs.map iv, u.oneCell' = true := by
  intro u hu
  obtain ⟨x, _, rfl⟩ := List.mem_map.1 hu
  rfl

theorem drop_take_drop {l cs : List Value} {off a b : Nat} (h : (l.drop off).take b = cs) : (l.drop (off + a)).take (b - a) = cs.drop a := by
  subst h
  rw [List.drop_take, List.drop_drop]

section ops
variable {P : Program} {W : World} {n : Nat} {ds : List Deferred} {dst : Option Tmp} {ty : TypeId} {pos : String} {af : Array Edge} {g : Option (Nat × Bool)} {E : Env} {G : Heap} {K : Value → Heap → Prop}

/-- The address of an element. -/
theorem op_indexN {t e s b z x y m cs kk j v} [Und P t (.slice e)] [Inf P e s b z] (hs : SlN s G v m cs) (hj : j < m)
    (hk : ∀ k off l T fz, (k, Obj.cells ⟨l⟩ T fz) ∈ G → (l.drop (off + j * s)).take s = (cs.drop (j * s)).take s → K (.pointer (some ⟨k, off + j * s, none⟩)) G)
    (hx : evalE E x = some v := by exact rfl) (hy : evalE E y = some (.int kk (j : Int)) := by exact rfl) :
    OpT P W n ds ⟨dst, .indexAddr t x y, ty, pos, af, g⟩ E G K := by
  obtain ⟨h0, a, cap, rfl, hc, h2⟩ := hs
  obtain ⟨k, off, l, T, fz, rfl, h4, h5⟩ := h2 (by omega)
  refine op_indexAddr (t := t) (e := e) (hk k off l T fz h4 ?_) hx hy (by first | omega | exact hj)
  rw [← h5, List.drop_take, List.drop_drop, List.take_take]
  congr 1
  have : j * s + s ≤ m * s := by rw [← Nat.succ_mul]; exact Nat.mul_le_mul_right _ hj
  omega

def slAt (a : Option Addr) (l s h cap : Nat) : Value := .slice (if cap = l then a else a.map (·.add (l * s))) (h - l) (cap - l)

theorem und_elem {t e} [h : Und P t (.slice e)] : P.underlying t = some (.slice (P.elem t)) ∧ P.elem t = e := by
  have h1 := h.eq
  have : P.elem t = e := by
    unfold Program.underlying at h1
    simp [Program.elem, Program.underlying, h1]
  rw [this]; exact ⟨h1, rfl⟩

theorem op_slice_lh {t e s b z x y y2 a len cap k1 k2} {l h : Nat} [Und P t (.slice e)] [Inf P e s b z] (hk : K (slAt a l s h cap) G)
    (hx : evalE E x = some (.slice a len cap) := by exact rfl) (hy : evalE E y = some (.int k1 (l : Int)) := by exact rfl) (hz : evalE E y2 = some (.int k2 (h : Int)) := by exact rfl) (h1 : l ≤ h := by omega) (h2 : h ≤ cap := by omega) :
    OpT P W n ds ⟨dst, .slice t x (some y) (some y2) none, ty, pos, af, g⟩ E G K :=
  op_of_run (fun a' w ho _ => by
    obtain ⟨u1, u2⟩ := und_elem (P := P) (t := t)
    simp only [execOp, ho.eval hx, ho.eval hy, ho.eval hz, Option.map_some, Option.map_none]
    refine run_v ?_
    rw [run_sliceAt_slice (P := P) (w := w) t _ _ _ _ u1, run_slice_lh (P := P) (w := w) (t := t) (a := a) (len := len) (cap := cap) u1 k1 k2 l h (by omega) (by omega) (by omega), u2]
    rw [run_sizeOf]
    simp [sliced, slAt]) hk
theorem op_slice_h {t e s b z x y2 a len cap k2} {h : Nat} [Und P t (.slice e)] [Inf P e s b z] (hk : K (slAt a 0 s h cap) G)
    (hx : evalE E x = some (.slice a len cap) := by exact rfl) (hz : evalE E y2 = some (.int k2 (h : Int)) := by exact rfl) (h2 : h ≤ cap := by omega) :
    OpT P W n ds ⟨dst, .slice t x none (some y2) none, ty, pos, af, g⟩ E G K :=
  op_of_run (fun a' w ho _ => by
    obtain ⟨u1, u2⟩ := und_elem (P := P) (t := t)
    simp only [execOp, ho.eval hx, ho.eval hz, Option.map_some, Option.map_none]
    refine run_v ?_
    rw [run_sliceAt_slice (P := P) (w := w) t _ _ _ _ u1, run_slice_h (P := P) (w := w) (t := t) (a := a) (len := len) (cap := cap) u1 k2 h (by omega) (by omega), u2]
    rw [run_sizeOf]
    simp [sliced, slAt]) hk
theorem op_slice_l {t e s b z x y a len cap k1} {l : Nat} [Und P t (.slice e)] [Inf P e s b z] (hk : K (slAt a l s len cap) G)
    (hx : evalE E x = some (.slice a len cap) := by exact rfl) (hy : evalE E y = some (.int k1 (l : Int)) := by exact rfl) (h1 : l ≤ len := by omega) :
    OpT P W n ds ⟨dst, .slice t x (some y) none none, ty, pos, af, g⟩ E G K :=
  op_of_run (fun a' w ho _ => by
    obtain ⟨u1, u2⟩ := und_elem (P := P) (t := t)
    simp only [execOp, ho.eval hx, ho.eval hy, Option.map_some, Option.map_none]
    refine run_v ?_
    rw [run_sliceAt_slice (P := P) (w := w) t _ _ _ _ u1, run_slice_l (P := P) (w := w) (t := t) (a := a) (len := len) (cap := cap) u1 k1 l (by omega) (by omega), u2]
    rw [run_sizeOf]
    simp [sliced, slAt]) hk
theorem op_slice_all {t e s b z x a len cap} [Und P t (.slice e)] [Inf P e s b z] (hk : K (slAt a 0 s len cap) G)
    (hx : evalE E x = some (.slice a len cap) := by exact rfl) :
    OpT P W n ds ⟨dst, .slice t x none none none, ty, pos, af, g⟩ E G K :=
  op_of_run (fun a' w ho _ => by
    obtain ⟨u1, u2⟩ := und_elem (P := P) (t := t)
    simp only [execOp, ho.eval hx, Option.map_none]
    refine run_v ?_
    rw [run_sliceAt_slice (P := P) (w := w) t _ _ _ _ u1, run_slice_all (P := P) (w := w) (t := t) (a := a) (len := len) (cap := cap) u1, u2]
    rw [run_sizeOf]
    simp [sliced, slAt]) hk

/-- A part of a slice. -/
theorem SlN.cut {s G v m cs a len cap} (hs : SlN s G v m cs) (hv : v = .slice a len cap) {l h : Nat} (hl : l ≤ h) (hh : h ≤ m) : SlN s G (slAt a l s h cap) (h - l) ((cs.drop (l * s)).take ((h - l) * s)) := by
  obtain ⟨h0, a', cap', h1, hc, h2⟩ := hs
  rw [hv] at h1
  cases h1
  refine ⟨?_, _, cap - l, rfl, by omega, fun hn => ?_⟩
  · rw [List.length_take, List.length_drop, h0, Nat.min_eq_left]
    have : h * s ≤ m * s := Nat.mul_le_mul_right _ hh
    rw [Nat.sub_mul]; omega
  · obtain ⟨k, off, L, T, fz, rfl, h4, h5⟩ := h2 (by omega)
    refine ⟨k, off + l * s, L, T, fz, ?_, h4, ?_⟩
    · rw [if_neg (by omega)]
      simp [addr_add]
    · rw [← h5, List.drop_take, List.drop_drop, List.take_take]
      congr 1
      have : h * s ≤ m * s := Nat.mul_le_mul_right _ hh
      have : (h - l) * s = h * s - l * s := Nat.sub_mul ..
      have : l * s ≤ h * s := Nat.mul_le_mul_right _ hl
      omega
theorem FS.cut {G xs a len cap} (hs : FS G (.slice a len cap) xs) {l h : Nat} (hl : l ≤ h) (hh : h ≤ xs.length) : FS G (slAt a l 1 h cap) ((xs.drop l).take (h - l)) := by
  have := (FS.toN hs).cut rfl hl hh
  rw [Nat.mul_one, Nat.mul_one, ← List.map_drop, ← List.map_take] at this
  exact SlN.toFS this
theorem slAt_self {a : Option Addr} {s h cap : Nat} : slAt a 0 s h cap = .slice a h cap := by
  unfold slAt
  split <;> cases a <;> simp [addr_add_zero]

/-- make -/
theorem op_makeSlice {t e s b z x y k1 k2} {l c : Nat} [Und P t (.slice e)] [hI : Inf P e s b z]
    (hk : ∀ k, K (.slice (some ⟨k, 0, none⟩) l c) ((k, .cells ⟨(List.range (c * s)).map (fun i => z[i % z.length]!)⟩ e (0, 0)) :: G))
    (hlc : l ≤ c) (hb : b * c ≤ 281474976710656) (hbig : c ≤ 9223372036854775807) (hx : evalE E x = some (.int k1 (l : Int)) := by exact rfl) (hy : evalE E y = some (.int k2 (c : Int)) := by exact rfl) :
    OpT P W n ds ⟨dst, .makeSlice t x y, ty, pos, af, g⟩ E G K := by
  refine op_new (o := .cells ⟨(List.range (c * s)).map (fun i => z[i % z.length]!)⟩ e (0, 0)) (val := fun k => .slice (some ⟨k, 0, none⟩) l c) (fun a w ho _ => ?_) hk
  obtain ⟨i, zv, hi, rfl, rfl, hz, hzc⟩ := hI.get
  simp only [execOp, ho.eval hx, ho.eval hy]
  refine run_v ?_
  rw [run_make (P := P) w t e i zv Und.eq hi hz k1 k2 l c (by omega) (by omega) (by have h : ((i.bytes * c : Nat) : Int) ≤ 281474976710656 := (by omega); rwa [Int.natCast_mul] at h) (by omega)]
  congr 1
  simp only [World.alloc, madeCells, Int.toNat_natCast]
  congr 3
  rw [hzc]
  apply Array.ext'
  simp

/-! whole numbers -/
theorem op_iquo {t t2 x y k u v} (hk : K (.int k (k.wrap (u.tdiv v))) G) (hv : v ≠ 0 := by first | decide | assumption | omega) (hx : evalE E x = some (.int k u) := by exact rfl) (hy : evalE E y = some (.int k v) := by exact rfl) :
    OpT P W n ds ⟨dst, .binOp .quo t x y t2, ty, pos, af, g⟩ E G K :=
  op_of_run (fun a w ho _ => by
    simp only [execOp, ho.eval hx, ho.eval hy]
    refine run_v ?_
    refine (sem_run_bind P _ _ w () w rfl).trans ?_
    simp only [binOp, ne_eq, not_true_eq_false, if_false, Op.intDiv, if_neg hv]; rfl) hk
theorem op_irem {t t2 x y k u v} (hk : K (.int k (u.tmod v)) G) (hv : v ≠ 0 := by first | decide | assumption | omega) (hx : evalE E x = some (.int k u) := by exact rfl) (hy : evalE E y = some (.int k v) := by exact rfl) :
    OpT P W n ds ⟨dst, .binOp .rem t x y t2, ty, pos, af, g⟩ E G K :=
  op_of_run (fun a w ho _ => by
    simp only [execOp, ho.eval hx, ho.eval hy]
    refine run_v ?_
    refine (sem_run_bind P _ _ w () w rfl).trans ?_
    simp only [binOp, ne_eq, not_true_eq_false, if_false, Op.intDiv, if_neg hv]; rfl) hk
theorem op_slice_isnil {t t2 x e a l c} [h : Und P t (.slice e)] (hk : K (.bool a.isNone) G) (hx : evalE E x = some (.slice a l c) := by exact rfl) :
    OpT P W n ds ⟨dst, .binOp .eql t x (.const (.slice none 0 0)) t2, ty, pos, af, g⟩ E G K :=
  op_of_run (fun a' w ho _ => by
    simp only [execOp, ho.eval hx]
    refine run_v ?_
    refine (sem_run_bind P _ _ w () w rfl).trans ?_
    exact (sem_run_bind P _ _ w _ w (run_equal_slice_nil (P := P) w t e a l c h.eq)).trans rfl) hk
theorem op_slice_notnil {t t2 x e a l c} [h : Und P t (.slice e)] (hk : K (.bool (!a.isNone)) G) (hx : evalE E x = some (.slice a l c) := by exact rfl) :
    OpT P W n ds ⟨dst, .binOp .neq t x (.const (.slice none 0 0)) t2, ty, pos, af, g⟩ E G K :=
  op_of_run (fun a' w ho _ => by
    simp only [execOp, ho.eval hx]
    refine run_v ?_
    refine (sem_run_bind P _ _ w () w rfl).trans ?_
    exact (sem_run_bind P _ _ w _ w (run_equal_slice_nil (P := P) w t e a l c h.eq)).trans rfl) hk
theorem op_imax {x y tx t2 k u v} (hk : K (.int k (if v > u then v else u)) G) (hx : evalE E x = some (.int k u) := by exact rfl) (hy : evalE E y = some (.int k v) := by exact rfl) :
    OpT P W n ds ⟨dst, .call { callee := .builtin .max, args := #[x, y], argTypes := #[tx, t2] }, ty, pos, af, g⟩ E G K :=
  op_of_run (fun a' w ho _ => by
    simp only [execOp, resolve, invoke]
    refine (sem_run_bind P _ _ w _ w rfl).trans ?_
    refine run_v ?_
    simp only [List.map_toArray, List.map_cons, List.map_nil, ho.eval hx, ho.eval hy]
    rfl) hk
theorem op_imin {x y tx t2 k u v} (hk : K (.int k (if v < u then v else u)) G) (hx : evalE E x = some (.int k u) := by exact rfl) (hy : evalE E y = some (.int k v) := by exact rfl) :
    OpT P W n ds ⟨dst, .call { callee := .builtin .min, args := #[x, y], argTypes := #[tx, t2] }, ty, pos, af, g⟩ E G K :=
  op_of_run (fun a' w ho _ => by
    simp only [execOp, resolve, invoke]
    refine (sem_run_bind P _ _ w _ w rfl).trans ?_
    refine run_v ?_
    simp only [List.map_toArray, List.map_cons, List.map_nil, ho.eval hx, ho.eval hy]
    rfl) hk
def ibits (op : BinOp) (k : IntKind) (x y : Int) : Int :=
  let a := BitVec.ofInt k.bits x
  let b := BitVec.ofInt k.bits y
  match op with
  | .and => k.wrap (a &&& b).toNat
  | .or => k.wrap (a ||| b).toNat
  | .xor => k.wrap (a ^^^ b).toNat
  | _ => k.wrap (a &&& ~~~b).toNat
def BinOp.isBits : BinOp → Bool
  | .and | .or | .xor | .andNot => true
  | _ => false
theorem op_ibits {op t t2 x y k u v} (hk : K (.int k (ibits op k u v)) G) (hc : BinOp.isBits op = true := by exact rfl) (hx : evalE E x = some (.int k u) := by exact rfl) (hy : evalE E y = some (.int k v) := by exact rfl) :
    OpT P W n ds ⟨dst, .binOp op t x y t2, ty, pos, af, g⟩ E G K :=
  op_of_run (fun a w ho _ => by
    simp only [execOp, ho.eval hx, ho.eval hy]
    refine run_v ?_
    refine (sem_run_bind P _ _ w () w ?_).trans ?_
    · cases op <;> first | (cases hc; done) | rfl
    · cases op <;> first | (cases hc; done) | (simp only [binOp, ne_eq, not_true_eq_false, if_false]; rfl)) hk
theorem op_shl {t t2 x y k k2 u} {v : Int} (hk : K (.int k (k.wrap (u * 2 ^ min v.toNat k.bits))) G) (hv : 0 ≤ v := by first | decide | assumption | omega) (hx : evalE E x = some (.int k u) := by exact rfl) (hy : evalE E y = some (.int k2 v) := by exact rfl) :
    OpT P W n ds ⟨dst, .binOp .shl t x y t2, ty, pos, af, g⟩ E G K :=
  op_of_run (fun a w ho _ => by
    simp only [execOp, ho.eval hx, ho.eval hy]
    refine run_v ?_
    refine (sem_run_bind P _ _ w () w rfl).trans ?_
    simp only [binOp, Op.shift, if_neg (show ¬ v < 0 by omega)]; rfl) hk
theorem op_shr {t t2 x y k k2 u} {v : Int} (hk : K (.int k (u.fdiv (2 ^ min v.toNat k.bits))) G) (hv : 0 ≤ v := by first | decide | assumption | omega) (hx : evalE E x = some (.int k u) := by exact rfl) (hy : evalE E y = some (.int k2 v) := by exact rfl) :
    OpT P W n ds ⟨dst, .binOp .shr t x y t2, ty, pos, af, g⟩ E G K :=
  op_of_run (fun a w ho _ => by
    simp only [execOp, ho.eval hx, ho.eval hy]
    refine run_v ?_
    refine (sem_run_bind P _ _ w () w rfl).trans ?_
    simp only [binOp, Op.shift, if_neg (show ¬ v < 0 by omega)]; rfl) hk

theorem wrap_add {a b : Int} (h0 : -9223372036854775808 ≤ a + b) (h1 : a + b < 9223372036854775808) : IntKind.i64.wrap (iarith .add a b) = a + b := wrap_in h0 h1
theorem wrap_sub {a b : Int} (h0 : -9223372036854775808 ≤ a - b) (h1 : a - b < 9223372036854775808) : IntKind.i64.wrap (iarith .sub a b) = a - b := wrap_in h0 h1
theorem wrap_mul {a b : Int} (h0 : -9223372036854775808 ≤ a * b) (h1 : a * b < 9223372036854775808) : IntKind.i64.wrap (iarith .mul a b) = a * b := wrap_in h0 h1
/-- A slot's number under another name. -/
theorem geti {E : Env} {t : Nat} {k : IntKind} {a b : Int} (h : Env.get E t = some (.int k a)) (e : a = b) : Env.get E t = some (.int k b) := e ▸ h

theorem gete {E : Env} {x : Operand} {k : IntKind} {a b : Int} (h : evalE E x = some (.int k a)) (e : a = b) : evalE E x = some (.int k b) := e ▸ h
theorem sum_take_succ {α : Type} (f : α → Nat) : ∀ (l : List α) (j : Nat) (x : α), l[j]? = some x → ((l.take (j + 1)).map f).sum = ((l.take j).map f).sum + f x
  | [], j, x, h => by simp at h
  | a :: l, 0, x, h => by simp at h; subst h; simp
  | a :: l, j + 1, x, h => by
    have := sum_take_succ f l j x (by simpa using h)
    simp only [List.take_succ_cons, List.map_cons, List.sum_cons] at this ⊢
    omega
theorem sum_take_le {α : Type} (f : α → Nat) : ∀ (l : List α) (j : Nat), ((l.take j).map f).sum ≤ (l.map f).sum
  | [], j => by simp
  | a :: l, 0 => by simp
  | a :: l, j + 1 => by have := sum_take_le f l j; simp only [List.take_succ_cons, List.map_cons, List.sum_cons]; omega
theorem sum_get_le {α : Type} (f : α → Nat) : ∀ (l : List α) (j : Nat) (x : α), l[j]? = some x → ((l.take j).map f).sum + f x ≤ (l.map f).sum
  | [], j, x, h => by simp at h
  | a :: l, 0, x, h => by simp at h; subst h; simp
  | a :: l, j + 1, x, h => by
    have := sum_get_le f l j x (by simpa using h)
    simp only [List.take_succ_cons, List.map_cons, List.sum_cons]; omega
theorem take_len {α : Type} {l : List α} {j : Nat} (hj : ¬ j < l.length) : l.take j = l := List.take_of_length_le (by omega)

/-! copy -/
theorem Sees.setRowA {A H : Heap} {w : World} {k : Nat} {l l' : List Value} {T : TypeId} {fz : Nat × Nat} (h : Sees W (A ++ (k, Obj.cells ⟨l⟩ T fz) :: H) w) :
    Sees W (A ++ (k, Obj.cells ⟨l'⟩ T fz) :: H) (w.setRow k ⟨l'⟩) :=
  ((h.perm List.perm_middle.symm).setRow).perm List.perm_middle

def spliceAt (l : List Value) (off : Nat) (cs : List Value) : List Value := l.take off ++ cs ++ l.drop (off + cs.length)

theorem op_copy {t t2 e b z x y k off l T dl dc v m cs A B} [Und P t (.slice e)] [hI : Inf P e 1 b z]
    (hk : K (.int .i64 ((min m dl : Nat) : Int)) (A ++ (k, Obj.cells ⟨spliceAt l off (cs.take (min m dl))⟩ T (0, 0)) :: B))
    (hs : SlN 1 G v m cs) (h1 : ∀ u ∈ cs, u.oneCell' = true)
    (hx : evalE E x = some (.slice (some ⟨k, off, none⟩) dl dc) := by exact rfl) (hy : evalE E y = some v := by exact rfl) (hG : G = A ++ (k, Obj.cells ⟨l⟩ T (0, 0)) :: B := by exact rfl) (hfit : off + dl ≤ l.length := by first | omega | (simp; done) | (simp; omega)) :
    OpT P W n ds ⟨dst, .call { callee := .builtin .copy, args := #[x, y], argTypes := #[t, t2] }, ty, pos, af, g⟩ E G K := by
  refine ⟨fun a w next Q ho hsw hn => ?_⟩
  obtain ⟨h0, a', cap, rfl, hc, h2⟩ := hs
  rw [Nat.mul_one] at h0
  have hsz : (P.info? e).map (·.size) = some 1 := by
    obtain ⟨i, _, hi, h3, _⟩ := hI.get
    rw [hi]; simp [h3]
  have key : ∃ w', (Builtin.copy_ #[t, t2] ty #[.slice (some ⟨k, off, none⟩) dl dc, .slice a' m cap]).run P w = .ok (.int .i64 ((min m dl : Nat) : Int)) w' ∧ Sees W (A ++ (k, Obj.cells ⟨spliceAt l off (cs.take (min m dl))⟩ T (0, 0)) :: B) w' := by
    subst hG
    have hm0 := hsw.mem k _ (List.mem_append_right A List.mem_cons_self)
    by_cases hm : m = 0
    · subst hm
      have hcs : cs = [] := List.eq_nil_of_length_eq_zero h0
      subst hcs
      obtain ⟨i, zv, hi, h3, _⟩ := hI.get
      refine ⟨w, ?_, ?_⟩
      · cases a' with
        | none => simp [Builtin.copy_, run_underlying, Builtin.lenOf, Builtin.firstCells, run_sizeOf, storeCells, goInt, run_underlying (P := P) (t := t), Sem.run_bind]
        | some a' => simp [Builtin.copy_, run_underlying, Builtin.lenOf, Builtin.firstCells, run_sizeOf, storeCells, goInt, run_underlying (P := P) (t := t), Sem.run_bind, loadCells, loadCellsFrom]
      · simpa [spliceAt] using hsw
    · obtain ⟨ks, offs, ls, Ts, fzs, rfl, h4, h5⟩ := h2 hm
      rw [Nat.mul_one] at h5
      have hlen : (cs.take (min m dl)).length = Nat.min m dl := by
        rw [List.length_take, h0]; show min (min m dl) m = min m dl; omega
      have hr := run_copy_row P w t t2 ty e k off dl dc ⟨ks, offs, none⟩ m cap ⟨l⟩ T (cs.take (min m dl)) Und.eq hsz hm0 hlen
        (fun j u hj => by
          rw [addr_add]
          refine hsw.cell h4 (cut_get h5 ?_)
          rw [List.getElem?_take] at hj
          split at hj
          · exact hj
          · cases hj)
        (by rw [hlen]; show off + Nat.min m dl ≤ l.length; have : Nat.min m dl ≤ dl := Nat.min_le_right ..; omega) (fun u hu => h1 u (List.mem_of_mem_take hu))
      refine ⟨w.setRow k ⟨spliceAt l off (cs.take (min m dl))⟩, ?_, hsw.setRowA⟩
      rw [hr]
      unfold spliceAt
      rw [hlen]
      rfl
  obtain ⟨w', hr, hs'⟩ := key
  have he : (execOp a.eval ⟨dst, .call { callee := .builtin .copy, args := #[x, y], argTypes := #[t, t2] }, ty, pos, af, g⟩).run P w = .ok (.value (.int .i64 ((min m dl : Nat) : Int))) w' := by
    simp only [execOp, resolve, invoke]
    refine (sem_run_bind P _ _ w _ w rfl).trans ?_
    refine run_v ?_
    simp only [List.map_toArray, List.map_cons, List.map_nil, ho.eval hx, ho.eval hy]
    exact hr
  rw [he]
  exact hn _ _ _ hs' hk

theorem oneCell_fl (xs : List Nat) : ∀ u ∈ xs.map fl, u.oneCell' = true := by
  intro u hu
  obtain ⟨x, _, rfl⟩ := List.mem_map.1 hu
  rfl

/-- append of a slice, empty or not -/
theorem op_appendS {t e s b z x y m v H'} (buf : Buf) (l : Nat) (ws news : List Value) [Und P t (.slice e)] [hI : Inf P e s b z] (hok : bufOk s buf l ws)
    (hk : ∀ buf', bufOk s buf' (l + m) (ws ++ news) → (m = 0 → buf' = buf) → K (bufV buf' (l + m)) (bufH e buf' (ws ++ news) H'))
    (hs : SlN s G v m news) (hx : evalE E x = some (bufV buf l)) (hy : evalE E y = some v) (hsub : List.Sublist (bufH e buf ws H') G)
    (h1 : ∀ u ∈ news, u.oneCell' = true) (hbig : l + m ≤ maxLen) (hbytes : (l + m) * b ≤ 140737488355328) (hz0 : z.length = s := by exact rfl) :
    OpT P W n ds ⟨dst, .call { callee := .builtin .append, args := #[x, y], argTypes := #[t, t] }, ty, pos, af, g⟩ E G K := by
  obtain ⟨h0, a', cap, rfl, hc, h2⟩ := hs
  by_cases hm : m = 0
  · subst hm
    have hnl : news = [] := List.eq_nil_of_length_eq_zero (by simpa using h0)
    subst hnl
    simp only [Nat.add_zero, List.append_nil] at hk ⊢
    have key : ∀ w, (Builtin.append_ #[t, t] ty #[bufV buf l, .slice a' 0 cap]).run P w = .ok (bufV buf l) w := by
      intro w
      have hsl : (loadCells ⟨0, 0, none⟩ 0).run P w = .ok #[] w := rfl
      cases buf with
      | none =>
        obtain ⟨rfl, rfl⟩ := hok
        cases a' <;> simp [bufV, Builtin.append_, run_underlying (P := P) (t := t), run_sizeOf (P := P) (t := e), Builtin.lenOf, Builtin.firstCells, Sem.run_bind, loadCells, loadCellsFrom]
      | some bb =>
        obtain ⟨kk, cc, sp⟩ := bb
        obtain ⟨q1, q2, q3, q4⟩ := hok
        cases a' <;> simp [bufV, Builtin.append_, run_underlying (P := P) (t := t), run_sizeOf (P := P) (t := e), Builtin.lenOf, Builtin.firstCells, Sem.run_bind, loadCells, loadCellsFrom, q1, storeCells]
    refine ⟨fun a w next Q ho hsw hn => ?_⟩
    have he : (execOp a.eval ⟨dst, .call { callee := .builtin .append, args := #[x, y], argTypes := #[t, t] }, ty, pos, af, g⟩).run P w = .ok (.value (bufV buf l)) w := by
      simp only [execOp, resolve, invoke]
      refine (sem_run_bind P _ _ w _ w rfl).trans ?_
      refine run_v ?_
      simp only [List.map_toArray, List.map_cons, List.map_nil, ho.eval hx, ho.eval hy]
      exact key w
    rw [he]
    exact hn _ _ _ (hsw.sub hsub) (hk buf hok fun _ => rfl)
  · obtain ⟨k, off, L, T, fz, rfl, h4, h5⟩ := h2 hm
    exact op_append buf l ws news hok (fun buf' h => hk buf' h fun h => absurd h hm) hx hy hsub h4 h5 h0 h1 (by omega) hbig hbytes hz0
end ops

theorem does_bits {P : Program} {f : FuncId} {fn : Func} {H : Heap} {x : Nat}
    (hf : P.funcs[f]? = some fn) (hn : (fn.name == "runtime.NumGoroutine") = false) (hbd : fn.body.isNone = true) (h1 : (Extern.findNext fn).isNone = true)
    (h2 : Extern.find fn = some Extern.MathFloatBits.float64bits) : Does P f [.float .f64 x] H fun v H' => v = .int .u64 (x : Int) ∧ H' = H :=
  does_extern hf hn hbd h1 h2 fun W w hs => ⟨_, w, rfl, hs, rfl, rfl⟩
theorem does_frombits {P : Program} {f : FuncId} {fn : Func} {H : Heap} {x : Nat}
    (hf : P.funcs[f]? = some fn) (hn : (fn.name == "runtime.NumGoroutine") = false) (hbd : fn.body.isNone = true) (h1 : (Extern.findNext fn).isNone = true)
    (h2 : Extern.find fn = some Extern.MathFloatBits.float64frombits) : Does P f [.int .u64 (x : Int)] H fun v H' => v = .float .f64 x ∧ H' = H :=
  does_extern hf hn hbd h1 h2 fun W w hs => ⟨_, w, rfl, hs, rfl, rfl⟩

/-- Rows of n places of s numbers each. -/
def chunks (s n : Nat) (xs : List Nat) : List (List Nat) := (List.range n).map fun i => (xs.drop (i * s)).take s
theorem chunks_get {s n i : Nat} {xs : List Nat} (hi : i < n) : (chunks s n xs)[i]? = some ((xs.drop (i * s)).take s) := by simp [chunks, hi]
theorem chunks_len (s n : Nat) (xs : List Nat) : (chunks s n xs).length = n := by simp [chunks]
theorem chunks_succ (s n : Nat) (xs : List Nat) : chunks s (n + 1) xs = chunks s n xs ++ [(xs.drop (n * s)).take s] := by simp [chunks, List.range_succ]
theorem All2.snoc {α β : Type} {p : α → β → Prop} : ∀ {as0 bs} {a b}, All2 p as0 bs → p a b → All2 p (as0 ++ [a]) (bs ++ [b])
  | [], [], _, _, _, h => ⟨h, trivial⟩
  | [], _ :: _, _, _, h, _ => h.elim
  | _ :: _, [], _, _, h, _ => h.elim
  | _ :: _, _ :: _, _, _, h, h' => ⟨h.1, All2.snoc h.2 h'⟩
theorem sl_buf {e : TypeId} {buf : Buf} {ws : List Value} {n : Nat} {H : Heap} (h : bufOk 1 buf n ws) : Sl (bufH e buf ws H) (bufV buf n) ws := by
  cases buf with
  | none =>
    obtain ⟨rfl, h2⟩ := h
    exact ⟨none, 0, by rw [h2]; rfl, by rw [h2]; simp, fun hn => (hn h2).elim⟩
  | some b =>
    obtain ⟨k, cap, sp⟩ := b
    obtain ⟨h1, h2, h3, h4⟩ := h
    refine ⟨some ⟨k, 0, none⟩, cap, by simp only [bufV]; congr 1; omega, by omega, fun _ => ⟨k, 0, _, e, (0, 0), rfl, List.mem_cons_self, ?_⟩⟩
    rw [List.drop_zero, List.take_left]
theorem splice_all {l cs : List Value} (h : cs.length = l.length) : spliceAt l 0 cs = cs := by
  unfold spliceAt; simp [h]
theorem made_rep (n : Nat) (z : Value) : (List.range (n * 1)).map (fun i => [z][i % [z].length]!) = List.replicate n z := by
  apply List.ext_getElem
  · simp
  · intro i h1 h2
    simp [Nat.mod_one]
theorem set_snoc {ws : List Value} {m : Nat} {z v : Value} : (ws ++ List.replicate (m + 1) z).set ws.length v = (ws ++ [v]) ++ List.replicate m z := by
  rw [List.set_append_right _ _ (Nat.le_refl _)]
  simp [List.replicate_succ]
end Go.Lg

set_option linter.unusedVariables false
set_option linter.unusedSimpArgs false
namespace Go.Lg
open Ieee

def rabs (q : Rat) : Rat := if q < 0 then -q else q
theorem rabs_nonneg (q : Rat) : 0 ≤ rabs q := by unfold rabs; split <;> grind
theorem rabs_cases (q : Rat) : rabs q = q ∨ rabs q = -q := by unfold rabs; split <;> simp
theorem le_rabs (q : Rat) : q ≤ rabs q ∧ -q ≤ rabs q := by unfold rabs; split <;> constructor <;> grind
theorem rabs_le {q m : Rat} : rabs q ≤ m ↔ -m ≤ q ∧ q ≤ m := by unfold rabs; split <;> constructor <;> grind
theorem rabs_lt {q m : Rat} : rabs q < m ↔ -m < q ∧ q < m := by unfold rabs; split <;> constructor <;> grind

theorem read_eq (x : Nat) : double.read x = (if x % 9223372036854775808 < 4503599627370496 then
      Datum.number (x / 9223372036854775808 % 2 == 1) (x % 9223372036854775808) (-1074)
    else if x % 9223372036854775808 < 9218868437227405312 then
      Datum.number (x / 9223372036854775808 % 2 == 1) (4503599627370496 + x % 9223372036854775808 % 4503599627370496) (-1074 + ((x % 9223372036854775808 / 4503599627370496 - 1 : Nat) : Int))
    else if x % 9223372036854775808 = 9218868437227405312 then Datum.infinity (x / 9223372036854775808 % 2 == 1)
    else Datum.nan (x / 9223372036854775808 % 2 == 1) (x % 9223372036854775808 - 9218868437227405312)) := rfl
def Datum.noSign : Datum → Datum
  | .number _ m e => .number false m e
  | .infinity _ => .infinity false
  | .nan _ t => .nan false t
theorem read_abs (x : Nat) : double.read (x % 9223372036854775808) = Datum.noSign (double.read x) := by
  rw [read_eq, read_eq x, Nat.mod_mod]
  have h0 : x % 9223372036854775808 / 9223372036854775808 % 2 = 0 := by omega
  rw [h0]
  split
  · rfl
  split
  · rfl
  split
  · rfl
  · rfl
theorem Fv.abs {x : Nat} {q : Rat} (h : Fv x q) : Fv (x % 9223372036854775808) (rabs q) := by
  obtain ⟨s, m, e, hr, rfl⟩ := h
  refine ⟨false, m, e, by rw [read_abs, hr]; rfl, ?_⟩
  have hm : (0 : Rat) ≤ (m : Rat) * p2 e := by
    have := mul_le (a := 0) (b := (m : Rat)) (by exact_mod_cast Nat.zero_le m) (by have := p2_pos e; grind : (0 : Rat) ≤ p2 e)
    grind
  have h1 : sgn false * (m : Rat) * p2 e = (m : Rat) * p2 e := by unfold sgn; grind
  rw [h1]
  cases s with
  | false =>
    rw [h1]; unfold rabs; rw [if_neg (by grind)]
  | true =>
    have h2 : sgn true * (m : Rat) * p2 e = -((m : Rat) * p2 e) := by unfold sgn; grind
    rw [h2]; unfold rabs
    split <;> grind
theorem ibits_abs (x : Nat) : ibits .andNot .u64 ((x : Nat) : Int) 9223372036854775808 = ((x % 9223372036854775808 : Nat) : Int) := by
  show IntKind.u64.wrap (((BitVec.ofInt 64 ((x : Nat) : Int) &&& ~~~ BitVec.ofInt 64 9223372036854775808 : BitVec 64).toNat : Nat) : Int) = _
  have e : (~~~ BitVec.ofInt 64 9223372036854775808 : BitVec 64) = BitVec.ofNat 64 (2 ^ 63 - 1) := by decide
  rw [e, BitVec.ofInt_natCast, BitVec.toNat_and, BitVec.toNat_ofNat, BitVec.toNat_ofNat, Nat.mod_eq_of_lt (a := 2 ^ 63 - 1) (by decide), Nat.and_two_pow_sub_one_eq_mod, show x % 2 ^ 64 % 2 ^ 63 = x % 2 ^ 63 by omega]
  have h64 : IntKind.u64.wrap ((x % 2 ^ 63 : Nat) : Int) = ((x % 2 ^ 63 : Nat) : Int) := by simp only [IntKind.wrap, IntKind.bits, IntKind.signed]; simp; omega
  exact h64
/-- What 'x is its truncation and no greater than most' says. -/
theorem whole_abs {x most r : Nat} {M : Nat} (hM : Fv most (M : Rat)) (hMb : M ≤ 9007199254740992) (hr : TruncR x r)
    (h1 : fcmp .neq x r = false) (h2 : fcmp .gtr (x % 9223372036854775808) most = false) : ∃ n : Int, Fv x (n : Rat) ∧ -(M : Int) ≤ n ∧ n ≤ M := by
  have hM0 := hM
  obtain ⟨sM, mM, eM, hrM, _⟩ := hM0
  have ha := read_abs x
  have e1 : fcmp .eql x r = true := by simp [fcmp_def, fcmp0] at h1 ⊢; exact h1
  rcases hr with ⟨hn, _⟩ | ⟨hn, rfl⟩
  · cases hd : double.read x with
    | nan s t => simp [fcmp_def, fcmp0, Format.order, hd, Datum.order] at e1
    | number => rw [hd] at hn; cases hn
    | infinity => rw [hd] at hn; cases hn
  cases hd : double.read x with
  | nan s t => rw [hd] at hn; cases hn
  | infinity s =>
    rw [hd] at ha
    simp [fcmp_def, fcmp0, Format.order, ha, Datum.noSign, hrM, Datum.order] at h2
  | number s m i =>
    have hx : Fv x (sgn s * (m : Rat) * p2 i) := ⟨s, m, i, hd, rfl⟩
    generalize sgn s * (m : Rat) * p2 i = q at hx
    rw [fcmp_gtr hx.abs hM] at h2
    have h2' : rabs q ≤ (M : Rat) := by
      have := of_decide_eq_false h2
      grind
    have h3 := rabs_le.1 h2'
    exact whole_of hM hM.neg hMb (by rw [fcmp_geq hx hM.neg]; exact decide_eq_true h3.1) (by rw [fcmp_leq hx hM]; exact decide_eq_true h3.2) e1
end Go.Lg

set_option linter.unusedVariables false
set_option linter.unusedSimpArgs false
namespace Go.Lg
open Ieee

/-- c is q but for a share e of it. -/
def Rl (e c q : Rat) : Prop := rabs (c - q) ≤ e * rabs q
theorem rabs_zero : rabs 0 = 0 := by unfold rabs; rw [if_neg (by decide)]
theorem rabs_of_nonneg {q : Rat} (h : 0 ≤ q) : rabs q = q := by unfold rabs; rw [if_neg (by grind)]
theorem rabs_neg (q : Rat) : rabs (-q) = rabs q := by unfold rabs; split <;> split <;> grind
theorem rabs_add (a b : Rat) : rabs (a + b) ≤ rabs a + rabs b := by unfold rabs; split <;> split <;> split <;> grind
theorem rabs_mul (a b : Rat) : rabs (a * b) = rabs a * rabs b := by
  rcases (Rat.le_total : 0 ≤ a ∨ a ≤ 0) with ha | ha <;> rcases (Rat.le_total : 0 ≤ b ∨ b ≤ 0) with hb | hb
  · rw [rabs_of_nonneg ha, rabs_of_nonneg hb, rabs_of_nonneg (Rat.mul_nonneg ha hb)]
  · have := Rat.mul_nonneg ha (show 0 ≤ -b by grind)
    rw [rabs_of_nonneg ha, ← rabs_neg b, rabs_of_nonneg (show 0 ≤ -b by grind), ← rabs_neg (a * b), rabs_of_nonneg (by grind)]; grind
  · have := Rat.mul_nonneg (show 0 ≤ -a by grind) hb
    rw [rabs_of_nonneg hb, ← rabs_neg a, rabs_of_nonneg (show 0 ≤ -a by grind), ← rabs_neg (a * b), rabs_of_nonneg (by grind)]; grind
  · have := Rat.mul_nonneg (show 0 ≤ -a by grind) (show 0 ≤ -b by grind)
    rw [← rabs_neg a, ← rabs_neg b, rabs_of_nonneg (show 0 ≤ -a by grind), rabs_of_nonneg (show 0 ≤ -b by grind), rabs_of_nonneg (by grind)]; grind
theorem rabs_pos {q : Rat} (h : q ≠ 0) : 0 < rabs q := by unfold rabs; split <;> grind
theorem mul_le_left {a b c : Rat} (h : a ≤ b) (hc : 0 ≤ c) : c * a ≤ c * b := by have := mul_le h hc; grind
theorem Rl.trans {e f c z q : Rat} (h1 : Rl e c z) (h2 : Rl f z q) (he : 0 ≤ e) : Rl (e + f + e * f) c q := by
  unfold Rl at *
  have a1 := rabs_add (c - z) (z - q)
  have a2 := rabs_add (z - q) q
  have e1 : c - z + (z - q) = c - q := by grind
  have e2 : z - q + q = z := by grind
  rw [e1] at a1
  rw [e2] at a2
  have a3 := mul_le_left (show rabs z ≤ f * rabs q + rabs q by grind) he
  grind
theorem Rl.le {e f c q : Rat} (h : Rl e c q) (hf : e ≤ f) : Rl f c q := by
  unfold Rl at *
  have := mul_le hf (rabs_nonneg q)
  grind
theorem Rl.refl (q : Rat) : Rl 0 q q := by unfold Rl; rw [Rat.sub_self, rabs_zero]; grind
theorem Rl.scale {e c q : Rat} (h : Rl e c q) (k : Rat) : Rl e (c * k) (q * k) := by
  unfold Rl at *
  have e1 : c * k - q * k = (c - q) * k := by grind
  rw [e1, rabs_mul, rabs_mul]
  have := mul_le h (rabs_nonneg k)
  grind
theorem Rl.mul {e f a b p q : Rat} (h1 : Rl e a p) (h2 : Rl f b q) (he : 0 ≤ e) : Rl (e + f + e * f) (a * b) (p * q) := by
  have s1 := h1.scale b
  have s2 := h2.scale p
  rw [Rat.mul_comm b p, Rat.mul_comm q p] at s2
  exact s1.trans s2 he
theorem Rl.pos {e c q : Rat} (h : Rl e c q) (hq : 0 ≤ q) : (1 - e) * q ≤ c ∧ c ≤ (1 + e) * q := by
  unfold Rl at h
  rw [rabs_of_nonneg hq] at h
  have := rabs_le.1 h
  constructor <;> grind
theorem Rl.of {e c q : Rat} (hq : 0 ≤ q) (h1 : (1 - e) * q ≤ c) (h2 : c ≤ (1 + e) * q) : Rl e c q := by
  unfold Rl
  rw [rabs_of_nonneg hq]
  exact rabs_le.2 ⟨by grind, by grind⟩

theorem p2_half {e e' : Int} (h : e' = e + 1) : p2 e' = p2 e + p2 e := by rw [h, p2_succ]; grind
theorem p2_mul {a b c : Int} (h : a + b = c) : p2 a * p2 b = p2 c := by rw [← p2_add, h]
theorem Rnd.rel {q c : Rat} (h : Rnd q c) (hq : p2 (-1022) ≤ rabs q) : Rl (p2 (-53)) c q := by
  obtain ⟨last, k, h1, h2, h3, h4, h5, h6, h7⟩ := h
  have hl : p2 last ≤ rabs q * p2 (-52) := by
    rcases h5 with h | h | h
    · subst h
      have := mul_le hq (Rat.le_of_lt (p2_pos (-52)))
      rw [← p2_add] at this
      exact this
    · have a := (le_rabs q).1
      have := mul_le (show p2 (last + 52) ≤ rabs q by grind) (Rat.le_of_lt (p2_pos (-52)))
      rw [← p2_add, show last + 52 + -52 = last by omega] at this
      exact this
    · have a := (le_rabs q).2
      have := mul_le (show p2 (last + 52) ≤ rabs q by grind) (Rat.le_of_lt (p2_pos (-52)))
      rw [← p2_add, show last + 52 + -52 = last by omega] at this
      exact this
  have e52 : p2 (-52) = p2 (-53) + p2 (-53) := p2_half (by decide)
  rw [e52] at hl
  unfold Rl
  exact rabs_le.2 ⟨by grind, by grind⟩
theorem rep_zero : Rep (0 : Rat) := ⟨0, 0, by simp, by decide, by decide, by decide⟩

theorem quo_core (D n : Nat) (hn : 0 < n) : rabs (((2 * (D / n) + (D % n != 0).toNat : Nat) : Rat) - 2 * ((D : Rat) / (n : Rat))) ≤ 1 := by
  have hnp : (0 : Rat) < (n : Rat) := by exact_mod_cast hn
  have e1 : (D : Rat) = (n : Rat) * ((D / n : Nat) : Rat) + ((D % n : Nat) : Rat) := by
    rw [← Rat.natCast_mul, ← Rat.natCast_add, Nat.div_add_mod]
  have hr := Nat.mod_lt D hn
  have hdiv : (D : Rat) / (n : Rat) * (n : Rat) = (D : Rat) := by rw [Rat.div_def, Rat.mul_assoc, Rat.inv_mul_cancel _ (by grind)]; grind
  generalize hz : (D : Rat) / (n : Rat) = z at *
  generalize D / n = Q at *
  generalize D % n = R at *
  have hR : ((R : Nat) : Rat) < (n : Rat) := by exact_mod_cast hr
  have hR0 : (0 : Rat) ≤ ((R : Nat) : Rat) := by exact_mod_cast Nat.zero_le R
  have hzn : (z - (Q : Rat)) * (n : Rat) = ((R : Nat) : Rat) := by grind
  have b1 : z - (Q : Rat) < 1 := of_mul_lt (c := (n : Rat)) (by grind) hnp
  by_cases hR1 : R = 0
  · subst hR1
    have b2 : z - (Q : Rat) = 0 := of_mul_eq (c := (n : Rat)) (by grind) hnp
    refine rabs_le.2 ?_
    simp only [bne_self_eq_false, Bool.toNat_false, Nat.add_zero, Rat.natCast_mul]
    constructor <;> grind
  · have b2 : 0 < z - (Q : Rat) := of_mul_lt (c := (n : Rat)) (by
      have : (0 : Rat) < ((R : Nat) : Rat) := by exact_mod_cast Nat.pos_of_ne_zero hR1
      grind) hnp
    have e2 : (R != 0).toNat = 1 := by simp [hR1]
    rw [e2]
    refine rabs_le.2 ?_
    rw [Rat.natCast_add, Rat.natCast_mul]
    constructor <;> grind

theorem rat_div_mul (a b : Rat) (hb : b ≠ 0) : a / b * b = a := by rw [Rat.div_def, Rat.mul_assoc, Rat.inv_mul_cancel _ hb]; grind
theorem rat_div_eq {a b q : Rat} (hb : b ≠ 0) (h : q * b = a) : a / b = q := by
  rw [← h, Rat.div_def, Rat.mul_assoc, Rat.mul_inv_cancel _ hb]; grind
theorem sgn_ne (s : Bool) : sgn s ≠ 0 := by cases s <;> (unfold sgn; grind)
theorem rabs_sgn (s : Bool) : rabs (sgn s) = 1 := by cases s <;> (unfold sgn rabs; simp <;> grind)
theorem rabs_signed {s : Bool} {m : Nat} {e : Int} : rabs (sgn s * (m : Rat) * p2 e) = (m : Rat) * p2 e := by
  rw [rabs_mul, rabs_mul, rabs_sgn, rabs_of_nonneg (show (0 : Rat) ≤ (m : Rat) by exact_mod_cast Nat.zero_le m), rabs_of_nonneg (Rat.le_of_lt (p2_pos e))]; grind

theorem e53 : p2 (-53) + p2 (-54) + p2 (-53) * p2 (-54) ≤ p2 (-52) := by
  rw [p2_mul (a := -53) (b := -54) (c := -107) (by decide)]
  have := p2_le (show (-107 : Int) ≤ -54 by decide)
  have e1 : p2 (-52) = p2 (-53) + p2 (-53) := p2_half (by decide)
  have e2 : p2 (-53) = p2 (-54) + p2 (-54) := p2_half (by decide)
  grind
theorem e53b : 0 ≤ p2 (-53) + p2 (-53) + p2 (-53) * p2 (-53) := by
  rw [p2_mul (a := -53) (b := -53) (c := -106) (by decide)]
  have := p2_pos (-53); have := p2_pos (-106); grind
theorem e51 : p2 (-53) + p2 (-53) + p2 (-53) * p2 (-53) + p2 (-53) + (p2 (-53) + p2 (-53) + p2 (-53) * p2 (-53)) * p2 (-53) ≤ p2 (-51) := by
  have a1 : p2 (-53) * p2 (-53) = p2 (-106) := p2_mul (by decide)
  have a2 : p2 (-106) * p2 (-53) = p2 (-159) := p2_mul (by decide)
  have b1 := p2_le (show (-106 : Int) ≤ -55 by decide)
  have b2 := p2_le (show (-159 : Int) ≤ -55 by decide)
  have e1 : p2 (-51) = p2 (-52) + p2 (-52) := p2_half (by decide)
  have e2 : p2 (-52) = p2 (-53) + p2 (-53) := p2_half (by decide)
  have e3 : p2 (-53) = p2 (-54) + p2 (-54) := p2_half (by decide)
  have e4 : p2 (-54) = p2 (-55) + p2 (-55) := p2_half (by decide)
  rw [a1]
  have e5 : (p2 (-53) + p2 (-53) + p2 (-106)) * p2 (-53) = p2 (-106) + p2 (-106) + p2 (-159) := by rw [Rat.add_mul, Rat.add_mul, a1, a2]
  rw [e5]
  grind
/-- A quotient, rounded. -/
theorem far_quo {x y r : Nat} {a b : Rat} (h : FAr .quo x y r) (ha : Fv x a) (hb : Fv y b) (ha0 : a ≠ 0) (hb0 : b ≠ 0) (hlo : p2 (-1000) ≤ rabs (a / b)) (hhi : rabs (a / b) ≤ p2 1000) :
    ∃ c, Fv r c ∧ Rl (p2 (-52)) c (a / b) := by
  obtain ⟨s, m, i, hx, rfl⟩ := ha
  obtain ⟨t, n, j, hy, rfl⟩ := hb
  have hn0 : n ≠ 0 := by rintro rfl; exact hb0 (by simp)
  have hm0 : m ≠ 0 := by rintro rfl; exact ha0 (by simp)
  have hnp : (0 : Rat) < (n : Rat) := by exact_mod_cast Nat.pos_of_ne_zero hn0
  obtain ⟨more, hmore⟩ : ∃ more, more = double.fractionBits + 2 + n.log2 - m.log2 := ⟨_, rfl⟩
  have hf : floatBits .quo .f64 x y = some (double.write (.number (s ^^ t) (2 * ((m <<< more) / n) + ((m <<< more) % n != 0).toNat) (i - j - more - 1))) := by
    show ((double.read x).quotient (double.fractionBits + 2) (double.read y)).map double.write = _
    rw [hx, hy]
    simp only [Datum.quotient, if_neg hn0, ← hmore]
    rfl
  have h := h.ok; rw [hf] at h; subst h
  -- the quotient's value
  have hcore := quo_core (m <<< more) n (Nat.pos_of_ne_zero hn0)
  have hD : 2 ^ 53 * n ≤ m <<< more := by
    rw [Nat.shiftLeft_eq]
    have h1 : 2 ^ m.log2 ≤ m := Nat.log2_self_le hm0
    have h2 : n < 2 ^ (n.log2 + 1) := Nat.lt_log2_self
    have h3 : 53 + (n.log2 + 1) ≤ m.log2 + more := by
      have : double.fractionBits = 52 := rfl
      rw [this] at hmore; omega
    calc 2 ^ 53 * n ≤ 2 ^ 53 * 2 ^ (n.log2 + 1) := Nat.mul_le_mul_left _ (Nat.le_of_lt h2)
      _ = 2 ^ (53 + (n.log2 + 1)) := by rw [← Nat.pow_add]
      _ ≤ 2 ^ (m.log2 + more) := Nat.pow_le_pow_right (by decide) h3
      _ = 2 ^ m.log2 * 2 ^ more := Nat.pow_add ..
      _ ≤ m * 2 ^ more := Nat.mul_le_mul_right _ h1
  have hDv : ((m <<< more : Nat) : Rat) = (m : Rat) * p2 (more : Int) := by rw [Nat.shiftLeft_eq, Rat.natCast_mul, p2_nat]
  generalize hz : (2 * ((m <<< more) / n) + ((m <<< more) % n != 0).toNat) = z at *
  generalize hDD : m <<< more = D at *
  have hz2 : (p2 53) ≤ (D : Rat) / (n : Rat) := by
    refine of_mul_le (c := (n : Rat)) ?_ hnp
    rw [rat_div_mul _ _ (by grind), p2_toNat (by decide), ← Rat.natCast_mul]
    exact_mod_cast hD
  have hq : sgn s * (m : Rat) * p2 i / (sgn t * (n : Rat) * p2 j) = sgn (s ^^ t) * ((D : Rat) / (n : Rat)) * p2 (i - j - more) := by
    refine rat_div_eq hb0 ?_
    have e1 : (D : Rat) / (n : Rat) * (n : Rat) = (D : Rat) := rat_div_mul _ _ (by grind)
    have e2 : p2 (i - j - more) * p2 j * p2 more = p2 i := by rw [p2_mul (c := i - more) (by omega), p2_mul (c := i) (by omega)]
    have e3 : sgn (s ^^ t) * sgn t = sgn s := by cases s <;> cases t <;> (simp only [sgn, Bool.xor_true, Bool.xor_false, Bool.not_true, Bool.not_false]; grind)
    rw [← e2, ← e3]
    have : sgn (s ^^ t) * ((D : Rat) / (n : Rat)) * p2 (i - j - more) * (sgn t * (n : Rat) * p2 j) = sgn (s ^^ t) * sgn t * ((D : Rat) / (n : Rat) * (n : Rat)) * (p2 (i - j - more) * p2 j) := by grind
    rw [this, e1, hDv]; grind
  rw [hq] at hlo hhi ⊢
  generalize (D : Rat) / (n : Rat) = u at *
  have hu0 : 0 ≤ u := by have := p2_pos 53; grind
  have hpe : p2 (i - j - more) = p2 (i - j - more - 1) + p2 (i - j - more - 1) := by
    exact p2_half (by omega)
  have hpp := p2_pos (i - j - more - 1)
  rw [hpe] at hlo hhi ⊢
  generalize hw : p2 (i - j - more - 1) = w at hpp hlo hhi ⊢
  generalize (s ^^ t) = st at *
  have hrel : Rl (p2 (-54)) (sgn st * (z : Rat) * w) (sgn st * u * (w + w)) := by
    unfold Rl
    have e1 : sgn st * (z : Rat) * w - sgn st * u * (w + w) = sgn st * ((z : Rat) - 2 * u) * w := by grind
    rw [e1, rabs_mul, rabs_mul, rabs_mul, rabs_mul, rabs_sgn, rabs_of_nonneg (Rat.le_of_lt hpp), rabs_of_nonneg hu0, rabs_of_nonneg (show 0 ≤ w + w by grind)]
    have a1 := mul_le hcore (Rat.le_of_lt hpp)
    have a2 : p2 53 * p2 (-54) = p2 (-1) := p2_mul (by decide)
    have a3 : p2 (-1) + p2 (-1) = 1 := by rw [← p2_half (e' := 0) (by decide)]; exact p2_zero
    have a4 := mul_le hz2 (Rat.le_of_lt (p2_pos (-54)))
    have a5 := mul_le a4 (show 0 ≤ w + w by grind)
    rw [a2] at a5
    have a6 : (p2 (-1) + p2 (-1)) * w = 1 * w := by rw [a3]
    clear a4 hz2 hcore
    grind
  have hz' : rabs (sgn st * u * (w + w)) = u * (w + w) := by
    rw [rabs_mul, rabs_mul, rabs_sgn, rabs_of_nonneg hu0, rabs_of_nonneg (show 0 ≤ w + w by grind)]; grind
  rw [hz'] at hlo hhi
  have hzv : rabs (sgn st * (z : Rat) * w) = (z : Rat) * w := by
    rw [rabs_mul, rabs_mul, rabs_sgn, rabs_of_nonneg (show (0 : Rat) ≤ (z : Rat) by exact_mod_cast Nat.zero_le z), rabs_of_nonneg (Rat.le_of_lt hpp)]; grind
  have hz3 := rabs_le.1 hcore
  have huw : 0 ≤ (u - 1) * w := by
    refine Rat.mul_nonneg ?_ (Rat.le_of_lt hpp)
    have : (1 : Rat) ≤ p2 53 := by rw [← p2_zero]; exact p2_le (by decide)
    grind
  have hb1 := mul_le hz3.1 (Rat.le_of_lt hpp)
  have hb2 := mul_le hz3.2 (Rat.le_of_lt hpp)
  have l1 : p2 (-1000) = p2 (-1001) + p2 (-1001) := p2_half (by decide)
  have l2 : p2 1001 = p2 1000 + p2 1000 := p2_half (by decide)
  have l3 := p2_lt (show (1001 : Int) < 1023 by decide)
  have l4 := p2_le (show (-1022 : Int) ≤ -1001 by decide)
  have hbnd : u * w ≤ (z : Rat) * w ∧ (z : Rat) * w ≤ u * (w + w) + w := by constructor <;> grind
  have hw2 : w ≤ u * w := by grind
  have l5 := p2_pos (-1001)
  have l6 := p2_pos 1000
  clear hb1 hb2 hz2 hcore hz3 huw
  have hzw : rabs (sgn st * (z : Rat) * w) < p2 1023 := by rw [hzv]; grind
  have hzl := le_rabs (sgn st * (z : Rat) * w)
  obtain ⟨c, hc, hr⟩ := write_rnd (s := st) (m := z) (e := i - j - more - 1) (by rw [hw]; grind) (by rw [hw]; grind)
  rw [hw] at hr
  refine ⟨c, hc, ((hr.rel (by rw [hzv]; grind)).trans hrel (Rat.le_of_lt (p2_pos _))).le ?_⟩
  exact e53
theorem write_zero (s : Bool) (e : Int) : Fv (double.write (.number s 0 e)) 0 := by
  obtain ⟨c, hc, hr⟩ := write_rnd (s := s) (m := 0) (e := e) (by have := p2_pos 1023; simp; grind) (by have := p2_pos 1023; simp; grind)
  have := hr.exact ⟨0, 0, by simp, by decide, by decide, by decide⟩
  rw [this] at hc
  simpa using hc
theorem far_quo_zero {x y r : Nat} {b : Rat} (h : FAr .quo x y r) (ha : Fv x 0) (hb : Fv y b) (hb0 : b ≠ 0) : Fv r 0 := by
  obtain ⟨s, m, i, hx, hm⟩ := ha
  obtain ⟨t, n, j, hy, rfl⟩ := hb
  have hn0 : n ≠ 0 := by rintro rfl; exact hb0 (by simp)
  have hm0 : m = 0 := by
    rcases Nat.eq_zero_or_pos m with h | h
    · exact h
    · exfalso
      have h1 : (0 : Rat) < (m : Rat) := by exact_mod_cast h
      have h2 := Rat.mul_pos h1 (p2_pos i)
      cases s <;> (unfold sgn at hm; grind)
  subst hm0
  have hf : floatBits .quo .f64 x y = some (double.write (.number (s ^^ t) 0 (i - j - (double.fractionBits + 2 + n.log2 - Nat.log2 0 : Nat) - 1))) := by
    show ((double.read x).quotient (double.fractionBits + 2) (double.read y)).map double.write = _
    rw [hx, hy]
    simp [Datum.quotient, hn0]
  have h := h.ok; rw [hf] at h; subst h
  exact write_zero _ _

theorem root_core (n W st : Nat) (h1 : W * W ≤ n) (h2 : n < (W + 1) * (W + 1)) (hst : st = (W * W != n).toNat) (hW : 2 ^ 53 ≤ W) :
    Rl (p2 (-53)) (((2 * W + st : Nat) : Rat) * ((2 * W + st : Nat) : Rat)) (4 * (n : Rat)) := by
  have hWn : W * 2 ^ 53 ≤ n := Nat.le_trans (Nat.mul_le_mul_left _ hW) h1
  have hWr : (W : Rat) * p2 53 ≤ (n : Rat) := by rw [p2_toNat (by decide), ← Rat.natCast_mul]; exact_mod_cast hWn
  have hn0 : (0 : Rat) ≤ (n : Rat) := by exact_mod_cast Nat.zero_le n
  have e1 : p2 53 * p2 (-53) = 1 := by rw [p2_mul (c := 0) (by decide)]; exact p2_zero
  have h4 := mul_le hWr (Rat.le_of_lt (p2_pos (-53)))
  have h5 : (W : Rat) ≤ (n : Rat) * p2 (-53) := by rw [Rat.mul_assoc, e1] at h4; grind
  unfold Rl
  rw [rabs_of_nonneg (show 0 ≤ 4 * (n : Rat) by grind)]
  by_cases he : W * W = n
  · have h0 : st = 0 := by rw [hst, he]; simp
    subst h0
    have : ((2 * W + 0 : Nat) : Rat) * ((2 * W + 0 : Nat) : Rat) = 4 * (n : Rat) := by
      rw [← he, Nat.add_zero, Rat.natCast_mul, Rat.natCast_mul]; simp; grind
    rw [this, Rat.sub_self, rabs_zero]
    have := Rat.mul_nonneg (Rat.le_of_lt (p2_pos (-53))) (show 0 ≤ 4 * (n : Rat) by grind)
    exact this
  · have h0 : st = 1 := by rw [hst]; simp [he]
    subst h0
    have hz : ((2 * W + 1 : Nat) : Rat) * ((2 * W + 1 : Nat) : Rat) = ((4 * (W * W) + 4 * W + 1 : Nat) : Rat) := by
      rw [← Rat.natCast_mul]; have : (2 * W + 1) * (2 * W + 1) = 4 * (W * W) + 4 * W + 1 := by grind
      rw [this]
    rw [hz]
    have hn1 : n ≤ W * W + 2 * W := by simp only [Nat.mul_add, Nat.add_mul] at h2; omega
    have hn2 : W * W + 1 ≤ n := by omega
    have r1 : (n : Rat) ≤ ((W * W + 2 * W : Nat) : Rat) := by exact_mod_cast hn1
    have r2 : ((W * W + 1 : Nat) : Rat) ≤ (n : Rat) := by exact_mod_cast hn2
    have r3 : (0 : Rat) ≤ (W : Rat) := by exact_mod_cast Nat.zero_le W
    have e2 : ((4 * (W * W) + 4 * W + 1 : Nat) : Rat) = 4 * ((W * W : Nat) : Rat) + 4 * (W : Rat) + 1 := by simp [Rat.natCast_add, Rat.natCast_mul]
    rw [e2]
    rw [Rat.natCast_add] at r1 r2
    rw [show ((2 * W : Nat) : Rat) = 2 * (W : Rat) by simp [Rat.natCast_mul]] at r1
    have r4 : (1 : Rat) ≤ (W : Rat) := by exact_mod_cast (Nat.le_trans (by decide) hW)
    refine rabs_le.2 ⟨?_, ?_⟩ <;> grind

/-- A root, rounded: its square is the number but for a small share. -/
theorem sqrt_rel {x r : Nat} {q : Rat} (hr : SqrtR x r) (hx : Fv x q) (hq : 0 < q) (hlo : p2 (-1000) ≤ q) (hhi : q ≤ p2 1000) : ∃ c, Fv r c ∧ 0 < c ∧ Rl (p2 (-51)) (c * c) q := by
  obtain ⟨s, m, i, hx, rfl⟩ := hx
  have hm0 : m ≠ 0 := by rintro rfl; simp at hq
  have hmp : (0 : Rat) < (m : Rat) := by exact_mod_cast Nat.pos_of_ne_zero hm0
  have hs : s = false := by
    cases s with
    | false => rfl
    | true => exfalso; have := Rat.mul_pos hmp (p2_pos i); unfold sgn at hq; grind
  subst hs
  obtain ⟨more, hmore⟩ : ∃ more, more = 2 * (double.fractionBits + 2) - m.log2 + ((i - ((2 * (double.fractionBits + 2) - m.log2 : Nat) : Int)) % 2).toNat := ⟨_, rfl⟩
  obtain ⟨h, hh⟩ : ∃ h : Int, i - more = 2 * h := ⟨(i - more) / 2, by omega⟩
  have hn108 : 2 ^ 108 ≤ m <<< more := by
    rw [Nat.shiftLeft_eq]
    have h1 : 2 ^ m.log2 ≤ m := Nat.log2_self_le hm0
    have h3 : 108 ≤ m.log2 + more := by
      have : double.fractionBits = 52 := rfl
      rw [this] at hmore; omega
    calc 2 ^ 108 ≤ 2 ^ (m.log2 + more) := Nat.pow_le_pow_right (by decide) h3
      _ = 2 ^ m.log2 * 2 ^ more := Nat.pow_add ..
      _ ≤ m * 2 ^ more := Nat.mul_le_mul_right _ h1
  have hnv : ((m <<< more : Nat) : Rat) = (m : Rat) * p2 (more : Int) := by rw [Nat.shiftLeft_eq, Rat.natCast_mul, p2_nat]
  have hlog : m <<< more < 2 ^ ((m <<< more).log2 + 1) := Nat.lt_log2_self
  have hsp := rootFrom_spec (m <<< more) ((m <<< more).log2 / 2 + 1) 0 (by omega) (by
    rw [Nat.zero_add, ← Nat.pow_add]
    exact Nat.lt_of_lt_of_le hlog (Nat.pow_le_pow_right (by decide) (by omega)))
  have hroot : double.sqrt x = some (double.write (.number false (2 * Datum.rootFrom (m <<< more) ((m <<< more).log2 / 2 + 1) 0 + (Datum.rootFrom (m <<< more) ((m <<< more).log2 / 2 + 1) 0 * Datum.rootFrom (m <<< more) ((m <<< more).log2 / 2 + 1) 0 != m <<< more).toNat) (h - 1))) := by
    show ((double.read x).root _).map double.write = _
    rw [hx]
    have : (Datum.number false m i).root (double.fractionBits + 2) = some (.number false (2 * Datum.rootFrom (m <<< more) ((m <<< more).log2 / 2 + 1) 0 + (Datum.rootFrom (m <<< more) ((m <<< more).log2 / 2 + 1) 0 * Datum.rootFrom (m <<< more) ((m <<< more).log2 / 2 + 1) 0 != m <<< more).toNat) (h - 1)) := by
      simp only [Datum.root, if_neg hm0, Bool.false_eq_true, if_false, ← hmore]
      rw [show (i - (more : Int)) / 2 - 1 = h - 1 by clear hlo hhi; omega]
    rw [this]; rfl
  have hrr := hr _ hroot
  clear hroot hlog
  generalize Datum.rootFrom (m <<< more) ((m <<< more).log2 / 2 + 1) 0 = W at *
  generalize hst : (W * W != m <<< more).toNat = st at *
  generalize m <<< more = n at *
  have hW : 2 ^ 53 ≤ W := by
    have : 2 ^ 54 * 2 ^ 54 < (W + 1) * (W + 1) := Nat.lt_of_le_of_lt (by rw [← Nat.pow_add]; exact hn108) hsp.2
    have := sq_lt this
    omega
  have hcore := root_core n W st hsp.1 hsp.2 hst.symm hW
  have hval : sgn false * (m : Rat) * p2 i = 4 * (n : Rat) * (p2 (h - 1) * p2 (h - 1)) := by
    rw [hnv]
    have e1 : (4 : Rat) = p2 2 := by rw [p2_toNat (by decide)]; rfl
    have e2 : p2 2 * p2 (more : Int) * (p2 (h - 1) * p2 (h - 1)) = p2 i := by
      rw [p2_mul (a := h - 1) (b := h - 1) (c := 2 * h - 2) (by omega), p2_mul (c := 2 + more) rfl, p2_mul (c := i) (by omega)]
    rw [e1, ← e2]; unfold sgn; grind
  rw [hval] at hlo hhi hq ⊢
  have hpp := p2_pos (h - 1)
  generalize hwd : p2 (h - 1) = w at *
  generalize hZ : ((2 * W + st : Nat) : Rat) = Z at *
  have hZ0 : 0 ≤ Z := by rw [← hZ]; exact_mod_cast Nat.zero_le _
  have hzw : 0 ≤ Z * w := Rat.mul_nonneg hZ0 (Rat.le_of_lt hpp)
  have hrel : Rl (p2 (-53)) ((Z * w) * (Z * w)) (4 * (n : Rat) * (w * w)) := by
    have := hcore.scale (w * w)
    have e : Z * Z * (w * w) = (Z * w) * (Z * w) := by grind
    rw [e] at this
    exact this
  generalize 4 * (n : Rat) * (w * w) = q at *
  have hb := hrel.pos (Rat.le_of_lt hq)
  have hsmall : p2 (-53) ≤ p2 (-1) := p2_le (by decide)
  have hhalf : p2 (-1) + p2 (-1) = 1 := by rw [← p2_half (e' := 0) (by decide)]; exact p2_zero
  have hqs := mul_le hsmall (Rat.le_of_lt hq)
  have hqs2 : p2 (-1) * q + p2 (-1) * q = q := by rw [← Rat.add_mul, hhalf]; grind
  generalize hzv : Z * w = z at *
  have z1 : z < p2 600 := by
    rcases (Rat.le_total : p2 600 ≤ z ∨ z ≤ p2 600) with h1 | h1
    · exfalso
      have a1 := mul_le h1 hzw
      have a2 := mul_le h1 (Rat.le_of_lt (p2_pos 600))
      have a3 : p2 600 * p2 600 = p2 1200 := p2_mul (by decide)
      have a4 : p2 1000 + p2 1000 = p2 1001 := (p2_half (by decide)).symm
      have a5 := p2_lt (show (1001 : Int) < 1200 by decide)
      grind
    · rcases (Rat.le_iff_lt_or_eq.1 h1) with h | h
      · exact h
      · exfalso
        have a3 : p2 600 * p2 600 = p2 1200 := p2_mul (by decide)
        have a4 : p2 1000 + p2 1000 = p2 1001 := (p2_half (by decide)).symm
        have a5 := p2_lt (show (1001 : Int) < 1200 by decide)
        rw [h] at hb
        grind
  have z2 : p2 (-600) ≤ z := by
    rcases (Rat.le_total : p2 (-600) ≤ z ∨ z ≤ p2 (-600)) with h1 | h1
    · exact h1
    · exfalso
      have a1 := mul_le h1 hzw
      have a2 := mul_le h1 (Rat.le_of_lt (p2_pos (-600)))
      have a3 : p2 (-600) * p2 (-600) = p2 (-1200) := p2_mul (by decide)
      have a4 : p2 (-1001) + p2 (-1001) = p2 (-1000) := (p2_half (by decide)).symm
      have a5 := p2_lt (show (-1200 : Int) < -1001 by decide)
      grind
  have hsz : sgn false * ((2 * W + st : Nat) : Rat) * p2 (h - 1) = z := by rw [hZ, hwd, ← hzv]; unfold sgn; grind
  obtain ⟨c, hc, hrd⟩ := write_rnd (s := false) (m := 2 * W + st) (e := h - 1) (by rw [hsz]; have := p2_lt (show (600 : Int) < 1023 by decide); grind) (by rw [hsz]; have := p2_pos 1023; grind)
  rw [hsz] at hrd
  have hz0 : 0 < z := by have := p2_pos (-600); grind
  have hcr := hrd.rel (by rw [rabs_of_nonneg hzw]; have := p2_le (show (-1022 : Int) ≤ -600 by decide); grind)
  have hcb := hcr.pos hzw
  refine ⟨c, by rw [hrr]; exact hc, ?_, ?_⟩
  · have := mul_le hsmall hzw
    have e : p2 (-1) * z + p2 (-1) * z = z := by rw [← Rat.add_mul, hhalf]; grind
    have hp1 := Rat.mul_pos (p2_pos (-1)) hz0
    grind
  · have hcc := hcr.mul hcr (Rat.le_of_lt (p2_pos _))
    exact (hcc.trans hrel e53b).le e51
end Go.Lg

set_option linter.unusedVariables false
set_option linter.unusedSimpArgs false
namespace Go.Lg
open Ieee

/-- The float is this whole number, from -B to B. -/
structure FI (B : Nat) (x : Nat) (n : Int) : Prop where
  fv : Fv x (n : Rat)
  lo : -(B : Int) ≤ n
  hi : n ≤ B
theorem FI.sub {A B C x y r : Nat} {a b : Int} (h1 : FI A x a) (h2 : FI B y b) (hC : A + B = C ∧ C ≤ 9007199254740992) (h : FAr .sub x y r) : FI C r (a - b) :=
  ⟨int_sub h1.fv h2.fv (by have := h1.lo; have := h2.hi; omega) (by have := h1.hi; have := h2.lo; omega) h, by have := h1.lo; have := h2.hi; omega, by have := h1.hi; have := h2.lo; omega⟩
theorem FI.add {A B C x y r : Nat} {a b : Int} (h1 : FI A x a) (h2 : FI B y b) (hC : A + B = C ∧ C ≤ 9007199254740992) (h : FAr .add x y r) : FI C r (a + b) :=
  ⟨int_add h1.fv h2.fv (by have := h1.lo; have := h2.lo; omega) (by have := h1.hi; have := h2.hi; omega) h, by have := h1.lo; have := h2.lo; omega, by have := h1.hi; have := h2.hi; omega⟩
theorem FI.mul {A B C x y r : Nat} {a b : Int} (h1 : FI A x a) (h2 : FI B y b) (hC : A * B = C ∧ C ≤ 9007199254740992) (h : FAr .mul x y r) : FI C r (a * b) := by
  have hb := mul_bound h1.lo h1.hi h2.lo h2.hi
  have e : (A : Int) * (B : Int) = (C : Int) := by rw [← Int.natCast_mul, hC.1]
  rw [e] at hb
  exact ⟨int_mul h1.fv h2.fv (by omega) (by omega) h, hb.1, hb.2⟩
theorem FI.eql {A B x y : Nat} {a b : Int} (h1 : FI A x a) (h2 : FI B y b) : fcmp .eql x y = decide (a = b) := by
  rw [fcmp_eql h1.fv h2.fv]
  by_cases h : a = b
  · rw [decide_eq_true h, decide_eq_true (by rw [h])]
  · rw [decide_eq_false h, decide_eq_false (by exact_mod_cast h)]
theorem int_pos {n : Int} (h : n ≠ 0) : (1 : Rat) ≤ rabs (n : Rat) := by
  unfold rabs
  by_cases h1 : n < 0
  · rw [if_pos (by exact_mod_cast h1)]
    have : (1 : Rat) ≤ ((-n : Int) : Rat) := by exact_mod_cast (show 1 ≤ -n by omega)
    rw [Rat.intCast_neg] at this; exact this
  · rw [if_neg (by intro h2; exact h1 (by exact_mod_cast h2))]
    exact_mod_cast (show 1 ≤ n by omega)
theorem p2_ge1 : p2 (-1000) ≤ 1 := by rw [← p2_zero]; exact p2_le (by decide)
theorem int_le_p2 {n : Int} (h : n ≤ 9007199254740992) : (n : Rat) ≤ p2 53 := by
  have e : p2 53 = ((9007199254740992 : Nat) : Rat) := p2_toNat (by decide)
  rw [e, ← Rat.intCast_natCast]
  exact Rat.intCast_le_intCast.2 h
/-- The root of a whole number. -/
theorem FI.sqrt {B x r : Nat} {n : Int} (h : FI B x n) (hB : B ≤ 9007199254740992) (h0 : 0 ≤ n) (hr : SqrtR x r) : ∃ c, Fv r c ∧ 0 ≤ c ∧ Rl (p2 (-51)) (c * c) (n : Rat) := by
  by_cases hn : n = 0
  · subst hn
    have : Fv x ((0 * 0 : Nat) : Rat) := by simpa using h.fv
    have := sqrt_sq this (by decide) hr
    refine ⟨0, by simpa using this, Rat.le_refl, ?_⟩
    have e : (0 : Rat) * 0 = ((0 : Int) : Rat) := by simp
    rw [e]
    exact (Rl.refl _).le (Rat.le_of_lt (p2_pos _))
  · have h1 : (1 : Rat) ≤ (n : Rat) := by exact_mod_cast (show 1 ≤ n by omega)
    obtain ⟨c, hc, hc0, hrel⟩ := sqrt_rel hr h.fv (by grind) (by have := p2_ge1; grind) (by
      have := int_le_p2 (n := n) (by have := h.hi; omega)
      have := p2_le (show (53 : Int) ≤ 1000 by decide)
      grind)
    exact ⟨c, hc, Rat.le_of_lt hc0, hrel⟩
theorem Rnd.abs_le {q c : Rat} (h : Rnd q c) : rabs c ≤ 2 * rabs q + p2 (-1000) := by
  obtain ⟨last, k, h1, h2, h3, h4, h5, h6, h7⟩ := h
  have e1 : p2 (-1074) ≤ p2 (-1000) := p2_le (by decide)
  have e2 : p2 last ≤ p2 (last + 52) := p2_le (by omega)
  have a := le_rabs q
  have := rabs_nonneg q
  have := p2_pos (-1000)
  clear h2 h6 h7
  refine rabs_le.2 ⟨?_, ?_⟩ <;> (rcases h5 with h | h | h <;> (try subst h) <;> grind)
/-- Two numbers from 0 on whose squares are nearly the same. -/
theorem near_roots {e X a b M : Rat} (ha : 0 ≤ a) (hb : 0 ≤ b) (h1 : Rl e (a * a) X) (h2 : Rl e (b * b) X) (hX : 0 ≤ X) (he : 0 ≤ e) (he2 : e ≤ p2 (-2)) (hM0 : 0 < M) (hM : X ≤ M * M) : rabs (a - b) ≤ 8 * e * M := by
  have p1 := h1.pos hX
  have p2' := h2.pos hX
  have q1 := mul_le he2 hX
  have e4 : p2 (-2) * X + p2 (-2) * X = p2 (-1) * X := by rw [← Rat.add_mul, ← p2_half (e := -2) (e' := -1) (by decide)]
  have e2 : p2 (-1) * X + p2 (-1) * X = X := by rw [← Rat.add_mul, ← p2_half (e' := 0) (by decide), p2_zero]; grind
  have e0 : e * X + e * X ≤ X := by grind
  -- a and b are at most 2 M
  have hM2 : 0 ≤ M := Rat.le_of_lt hM0
  have up : ∀ c, 0 ≤ c → c * c ≤ 2 * X → c ≤ 2 * M := by
    intro c hc hcc
    rcases (Rat.le_total : c ≤ 2 * M ∨ 2 * M ≤ c) with h | h
    · exact h
    · have b1 := mul_le h hc
      have b2 := mul_le_left h (show (0 : Rat) ≤ 2 * M by grind)
      rcases Rat.le_iff_lt_or_eq.1 h with h3 | h3
      · exfalso
        have b3 := Rat.mul_pos (show 0 < c - 2 * M by grind) (show 0 < c by grind)
        have b4 := Rat.mul_pos hM0 hM0
        grind
      · grind
  have ua := up a ha (by grind)
  have ub := up b hb (by grind)
  by_cases hab : a + b = 0
  · have e1 : a = 0 := by grind
    have e3 : b = 0 := by grind
    rw [e1, e3, Rat.sub_self, rabs_zero]
    have := Rat.mul_nonneg he hM2
    grind
  · have hs : 0 < a + b := by grind
    -- |a - b| (a + b) = |aa - bb| ≤ 2 e X and X ≤ 2 (a+b)^2
    have hab2 : rabs (a + b) = a + b := rabs_of_nonneg (Rat.le_of_lt hs)
    have k1 : rabs (a - b) * (a + b) = rabs (a * a - b * b) := by
      have : rabs (a - b) * rabs (a + b) = rabs (a * a - b * b) := by rw [← rabs_mul]; congr 1; grind
      rw [hab2] at this; exact this
    have k2 : rabs (a * a - b * b) ≤ 2 * e * X := rabs_le.2 ⟨by grind, by grind⟩
    have ab0 := Rat.mul_nonneg ha hb
    have k3 : X ≤ (a + b) * (a + b) := by grind
    have k4 := mul_le_left k3 (show 0 ≤ 2 * e by grind)
    have k5 : rabs (a - b) * (a + b) ≤ 2 * e * (a + b) * (a + b) := by grind
    have k6 := of_mul_le k5 hs
    have k7 := mul_le_left (show a + b ≤ 4 * M by grind) (show 0 ≤ 2 * e by grind)
    grind
end Go.Lg

set_option linter.unusedVariables false
set_option linter.unusedSimpArgs false
namespace Go.Lg

/-- What is asked of a panic does not look at the slots. -/
def PQ (Q : Exit → Act → World → Prop) : Prop := ∀ c a (d : Option Tmp) v w, Q (.panic c) (a.put d v) w → Q (.panic c) a w
theorem put_defers (a : Act) (d : Option Tmp) (v : Value) : (a.put d v).defers = a.defers := by cases d <;> rfl
theorem pq_seq {P : Program} {y : Code} {Q} (h : PQ Q) : PQ (QSeq P y Q) := fun c a d v w hq => h c a d v w hq
theorem pq_block {id} {Q} (h : PQ Q) : PQ (Exit.inBlock id Q) := fun c a d v w hq => h c a d v w hq
theorem pq_loop {ι : Type} {W n ds} {I : ι → Env} {J : ι → Heap} {ok : ι → Prop} {μ : ι → Nat} {m Q} (h : PQ Q) : PQ (QLoop W n ds I J ok μ m Q) := fun c a d v w hq => h c a d v w hq
theorem pq_body {P : Program} {fn : Func} {R} : PQ (bodyPost P fn R) := fun c a d v w hq => by
  simp only [bodyPost, put_defers] at hq ⊢; exact hq

/-- An operation that gives v whatever memory holds. -/
def YT (P : Program) (n : Nat) (ds : List Deferred) (o : Oper) (E : Env) (v : Value) : Prop := ∀ a, Ok n ds E a → ∀ w, (execOp a.eval o).run P w = .ok (.value v) w

structure TA (P : Program) (W : World) (n : Nat) (ds : List Deferred) (ops : List Oper) (Q : Exit → Act → World → Prop) (fuel : Nat) (listed : List Bool) (E : Env) (G : Heap) : Prop where
  run : ∀ a w, Ok n ds E a → Sees W G w → wpAny P .any ops.toArray Q fuel ⟨listed⟩ a w

section
variable {P : Program} {W : World} {n : Nat} {ds : List Deferred} {ops : List Oper} {Q : Exit → Act → World → Prop} {E : Env} {G : Heap} {listed : List Bool} {fuel : Nat}
variable {ty : TypeId} {pos : String} {af : Array Edge} {d : Tmp}

theorem tc_any {id : Nat} (hm : P.follows .mixedOrders = true) (h : TA P W n ds ops Q ops.length (List.replicate ops.length false) E G) : TC P W n ds (.region id ops.toArray true) Q E G := by
  refine ⟨fun a w ho hs => wp_region_any hm ?_⟩
  have := h.run a { w with drawn := w.drawn + 1 } ho (hs.drew _)
  simpa using this

theorem ta_take (i : Nat) {o : Oper} {v : Value} (hi : ops[i]? = some o) (hs : Region.noSelect ops.toArray = true) (hf : Region.free .any ops.toArray ⟨listed⟩ i = true)
    (hr : (Region.ready .any ops.toArray ⟨listed⟩).contains i = true) (hQ : PQ Q) (hg : o.guard = none) (ho : o.dst = some d) (hd : d < n) (hy : YT P n ds o E v)
    (h : TA P W n ds ops Q fuel (listed.set i true) ((d, v) :: E) G) : TA P W n ds ops Q (fuel + 1) listed E G := by
  refine ⟨fun a w hok hsw => ?_⟩
  refine wpAny_take (i := i) (oi := o) (v := v) (by simpa using hi) hs hf hr (fun c a w => hQ c a _ _ w) (.inl ⟨by simp [Region.wanted, hg], hy a hok⟩) ?_
  have := h.run (a.put o.dst v) w (by rw [ho]; exact hok.put hd v) hsw
  simpa using this

theorem ta_step (i : Nat) {op : Op} {o : Oper} (hi : ops[i]? = some o) (hg : o.guard = none) {K}
    (h : OpT P W n ds o E G K) (hK : ∀ v G' a w, K v G' → Sees W G' w → Ok n ds E a → wpAny P .any ops.toArray Q fuel ⟨listed.set i true⟩ (a.put o.dst v) w) :
    ∀ a w, Ok n ds E a → Sees W G w → wpOp P ops.toArray Q i (wpAny P .any ops.toArray Q fuel ((⟨listed⟩ : Array Bool).setIfInBounds i true)) a w := by
  intro a w hok hsw
  unfold wpOp
  simp only [List.getElem?_toArray, hi]
  rw [if_pos (by simp [Region.wanted, hg])]
  refine .inl (h.run a w _ Q hok hsw fun v G' w' hs' hk => ?_)
  have := hK v G' a w' hk hs' hok
  simpa using this

/-- The only operation that is ready. -/
theorem ta_only (i : Nat) {op : Op} (hr : Region.ready .any ops.toArray ⟨listed⟩ = [i]) (hi : ops[i]? = some ⟨some d, op, ty, pos, af, none⟩) (hd : d < n)
    (h : OpT P W n ds ⟨some d, op, ty, pos, af, none⟩ E G (fun v G' => TA P W n ds ops Q fuel (listed.set i true) ((d, v) :: E) G')) : TA P W n ds ops Q (fuel + 1) listed E G :=
  ⟨fun a w hok hsw => wpAny_all hr (by simp) fun j hj => by
    simp only [List.mem_singleton] at hj; subst hj
    exact ta_step (op := op) _ hi rfl h (fun v G' a w hk hs hok => hk.run _ _ (hok.put hd v) hs) a w hok hsw⟩
theorem ta_only0 (i : Nat) {op : Op} (hr : Region.ready .any ops.toArray ⟨listed⟩ = [i]) (hi : ops[i]? = some ⟨none, op, ty, pos, af, none⟩)
    (h : OpT P W n ds ⟨none, op, ty, pos, af, none⟩ E G (fun v G' => TA P W n ds ops Q fuel (listed.set i true) E G')) : TA P W n ds ops Q (fuel + 1) listed E G :=
  ⟨fun a w hok hsw => wpAny_all hr (by simp) fun j hj => by
    simp only [List.mem_singleton] at hj; subst hj
    exact ta_step (op := op) _ hi rfl h (fun v G' a w hk hs hok => hk.run _ _ hok hs) a w hok hsw⟩
/-- Two are ready. -/
theorem ta_two (i j : Nat) {op op2 : Op} {ty2 pos2 af2} {d2 : Tmp} (hr : Region.ready .any ops.toArray ⟨listed⟩ = [i, j])
    (hi : ops[i]? = some ⟨some d, op, ty, pos, af, none⟩) (hd : d < n) (hj : ops[j]? = some ⟨some d2, op2, ty2, pos2, af2, none⟩) (hd2 : d2 < n)
    (h1 : OpT P W n ds ⟨some d, op, ty, pos, af, none⟩ E G (fun v G' => TA P W n ds ops Q fuel (listed.set i true) ((d, v) :: E) G'))
    (h2 : OpT P W n ds ⟨some d2, op2, ty2, pos2, af2, none⟩ E G (fun v G' => TA P W n ds ops Q fuel (listed.set j true) ((d2, v) :: E) G')) : TA P W n ds ops Q (fuel + 1) listed E G :=
  ⟨fun a w hok hsw => wpAny_all hr (by simp) fun k hk => by
    simp only [List.mem_cons, List.not_mem_nil, or_false] at hk
    rcases hk with rfl | rfl
    · exact ta_step (op := op) _ hi rfl h1 (fun v G' a w hk hs hok => hk.run _ _ (hok.put hd v) hs) a w hok hsw
    · exact ta_step (op := op2) _ hj rfl h2 (fun v G' a w hk hs hok => hk.run _ _ (hok.put hd2 v) hs) a w hok hsw⟩
theorem ta_done (hr : Region.ready .any ops.toArray ⟨listed⟩ = []) (h : At W n ds Q .normal E G) : TA P W n ds ops Q fuel listed E G :=
  ⟨fun a w hok hsw => wpAny_done hr (h.run a w hok hsw) fuel⟩

/-! pure operations -/
section pure
variable {dst : Option Tmp} {g : Option (Nat × Bool)}
theorem y_of {op : Op} {v : Value} (h : ∀ a w, Ok n ds E a → (execOp a.eval ⟨dst, op, ty, pos, af, g⟩).run P w = .ok (.value v) w) : YT P n ds ⟨dst, op, ty, pos, af, g⟩ E v := fun a ho w => h a w ho
theorem y_move {x v} (hx : evalE E x = some v := by exact rfl) : YT P n ds ⟨dst, .move x, ty, pos, af, g⟩ E v := y_of fun a w ho => by simp only [execOp, ho.eval hx]; rfl
theorem y_assign {x v} (hx : evalE E x = some v := by exact rfl) : YT P n ds ⟨dst, .assign x, ty, pos, af, g⟩ E v := y_of fun a w ho => by simp only [execOp, ho.eval hx]; rfl
theorem y_iarith {op t t2 x y k u v} (hc : BinOp.isRing op = true := by exact rfl) (hx : evalE E x = some (.int k u) := by exact rfl) (hy : evalE E y = some (.int k v) := by exact rfl) :
    YT P n ds ⟨dst, .binOp op t x y t2, ty, pos, af, g⟩ E (.int k (k.wrap (iarith op u v))) := y_of fun a w ho => by
  simp only [execOp, ho.eval hx, ho.eval hy]
  refine run_v ?_
  refine (sem_run_bind P _ _ w () w ?_).trans ?_
  · cases op <;> first | (cases hc; done) | rfl
  · cases op <;> first | (cases hc; done) | (simp only [binOp, ne_eq, not_true_eq_false, if_false]; rfl)
theorem y_indexAddr {t e s b z x y k off len cap kk} {j : Nat} [Und P t (.slice e)] [Inf P e s b z] (hx : evalE E x = some (.slice (some ⟨k, off, none⟩) len cap) := by exact rfl) (hy : evalE E y = some (.int kk (j : Int)) := by exact rfl)
    (hj : j < len := by first | assumption | omega) : YT P n ds ⟨dst, .indexAddr t x y, ty, pos, af, g⟩ E (.pointer (some ⟨k, off + j * s, none⟩)) := y_of fun a w ho => by
  simp only [execOp, ho.eval hx, ho.eval hy]
  refine run_v ?_
  refine (sem_run_bind P _ _ w _ w rfl).trans ?_
  refine (sem_run_bind P _ _ w _ w (run_underlying (t := t) w)).trans ?_
  refine (sem_run_bind P _ _ w _ w (run_underlying (t := t) w)).trans ?_
  simp only []
  rw [if_pos ⟨Int.natCast_nonneg j, by omega⟩]
  refine (sem_run_bind P _ _ w s w (run_sizeOf w)).trans ?_
  rw [addr_add, Int.toNat_natCast]; rfl
theorem y_indexAddr1 {t e b z x y k off len cap kk} {j : Nat} [Und P t (.slice e)] [Inf P e 1 b z] (hx : evalE E x = some (.slice (some ⟨k, off, none⟩) len cap) := by exact rfl) (hy : evalE E y = some (.int kk (j : Int)) := by exact rfl)
    (hj : j < len := by first | assumption | omega) : YT P n ds ⟨dst, .indexAddr t x y, ty, pos, af, g⟩ E (.pointer (some ⟨k, off + j, none⟩)) := by
  have := y_indexAddr (P := P) (n := n) (ds := ds) (ty := ty) (pos := pos) (af := af) (dst := dst) (g := g) (t := t) (e := e) (b := b) (z := z) hx hy hj
  rwa [Nat.mul_one] at this
theorem y_eq {o : Oper} {v u : Value} (h : YT P n ds o E v) (e : v = u) : YT P n ds o E u := e ▸ h
end pure
end
end Go.Lg

set_option linter.unusedVariables false
set_option linter.unusedSimpArgs false
namespace Go.Lg
section ops
variable {P : Program} {W : World} {n : Nat} {ds : List Deferred} {E : Env} {G : Heap} {K : Value → Heap → Prop}
variable {dst : Option Tmp} {ty : TypeId} {pos : String} {af : Array Edge} {g : Option (Nat × Bool)}

theorem op_buildSlice0 {t e s b z} [Und P t (.slice e)] [hI : Inf P e s b z] (hk : ∀ k, K (.slice (some ⟨k, 0, none⟩) 0 0) ((k, .cells ⟨[]⟩ e (0, 0)) :: G)) : OpT P W n ds ⟨dst, .buildSlice t 0 #[], ty, pos, af, g⟩ E G K := by
  refine op_new (o := .cells ⟨[]⟩ e (0, 0)) (val := fun k => .slice (some ⟨k, 0, none⟩) 0 0) (fun a w ho _ => ?_) hk
  simp only [execOp]
  refine run_v ?_
  simp only [Instr.buildSlice]
  refine (sem_run_bind P _ _ w _ w (run_underlying (t := t) w)).trans ?_
  refine (sem_run_bind P _ _ w s w (run_sizeOf w)).trans ?_
  rw [if_neg (by omega), if_pos (by omega)]
  refine (sem_run_bind P _ _ w _ w rfl).trans ?_
  have : (Array.range (0 * s)).map (fun i => (#[] : Array Value)[i % (#[] : Array Value).size]!) = #[] := by simp
  rw [this]
  have h2 : Instr.fill (fun i => some (i * s, s)) #[] (Array.map (fun x : Nat × Operand => (x.1, a.eval x.2)) #[]).toList = some #[] := by
    rw [show (Array.map (fun x : Nat × Operand => (x.1, a.eval x.2)) #[]) = #[] from by simp]; rfl
  rw [h2]
  rfl
theorem op_field {t fs i x cs T d v} {f : Field} [hU : Und P t (.struct ⟨fs⟩)] [hT : Und P T d] (hk : K v G) (hx : evalE E x = some (.agg ⟨cs⟩) := by exact rfl) (hf : fs[i]? = some f := by exact rfl)
    (ht : f.type = T := by exact rfl) (hd : TypeDesc.isAgg d = false := by exact rfl) (hv : cs[f.offset]? = some v := by exact rfl) : OpT P W n ds ⟨dst, .field t x i, ty, pos, af, g⟩ E G K :=
  op_of_run (fun a w ho _ => by
    simp only [execOp, ho.eval hx]
    refine run_v ?_
    simp only [Instr.field]
    refine (sem_run_bind P _ _ w _ w (run_underlying (t := t) w)).trans ?_
    simp only [List.getElem?_toArray, hf]
    refine (sem_run_bind P _ _ w _ w rfl).trans ?_
    simp only [part, ht]
    refine (sem_run_bind P _ _ w _ w (run_isAgg (t := T) w)).trans ?_
    rw [hd]
    simp only [List.getElem?_toArray, hv]
    rfl) hk
end ops
end Go.Lg

set_option linter.unusedVariables false
set_option linter.unusedSimpArgs false
namespace Go.Lg
open Go.ChangeShapes Go.WideShapes Go.RowKit Go.Deep
section rd
variable {H : Type} {enc : TypeId × Value → H} {P : Program} {W : World} {sp : Nat → Bool} {hd : Bool} {r : Reach} {b0 : Nat} {t : TypeId} {v : Value}

theorem all_ints {ws : List Value} (h : ∀ y ∈ ws, ∃ b, y = .int .i64 b ∧ -9223372036854775808 ≤ b ∧ b ≤ 9223372036854775807) : ∃ xs : List Int, ws = xs.map iv ∧ ∀ y ∈ xs, -9223372036854775808 ≤ y ∧ y ≤ 9223372036854775807 := by
  induction ws with
  | nil => exact ⟨[], rfl, by simp⟩
  | cons w ws ih =>
    obtain ⟨b, rfl, hb⟩ := h w (by simp)
    obtain ⟨xs, rfl, hx⟩ := ih (fun y hy => h y (by simp [hy]))
    exact ⟨b :: xs, rfl, by
      intro y hy
      rcases List.mem_cons.1 hy with rfl | hy
      · exact hb
      · exact hx y hy⟩

theorem trod_ints {n e c x} (ht : P.underlying t = some (.slice e)) (he : P.cellsOf e = 1) (hf : P.underlying e = some (.int .i64)) (h : DataW.trod enc P W 0 sp hd n t [c] = some x) :
    ∃ xs, IS (all W) c xs ∧ xs.length ≤ 9223372036854775807 ∧ ∀ y ∈ xs, -9223372036854775808 ≤ y ∧ y ≤ 9223372036854775807 := by
  obtain ⟨ws, h1, h2, h3⟩ := trod_slice ht he h
  obtain ⟨xs, rfl, h4⟩ := all_ints (ws := ws) fun y hy => by
    obtain ⟨m, z, hz⟩ := h3 y hy
    obtain ⟨b, rfl, hw⟩ := trod_int hf hz
    exact ⟨b, rfl, wf_i64 hw⟩
  exact ⟨xs, h1, by simpa using h2, h4⟩

theorem open_ints {e d p} (ht : P.underlying t = some (.slice e)) (he : P.cellsOf e = 1) (hf : P.underlying e = some (.int .i64)) (hv : Value.okWide P W r b0 t v) (h : DataW.Trod enc P W 0 sp hd t v d p) :
    ∃ xs, IS (all W) v xs ∧ xs.length ≤ 9223372036854775807 ∧ ∀ y ∈ xs, -9223372036854775808 ≤ y ∧ y ≤ 9223372036854775807 := by
  obtain ⟨a, len, cap, rfl⟩ := okWide_slice ht hv
  obtain ⟨n, hn⟩ := h
  exact trod_ints ht he hf (show DataW.trod enc P W 0 sp hd n t [.slice a len cap] = _ from hn)
end rd

section
variable {P : Program} {W : World} {n : Nat} {ds : List Deferred} {ops : List Oper} {Q : Exit → Act → World → Prop} {E : Env} {G : Heap} {listed : List Bool} {fuel : Nat}
variable {ty : TypeId} {pos : String} {af : Array Edge} {d : Tmp}
theorem tc_anyQ {id : Nat} (hm : P.follows .mixedOrders = true) (hQ : PQ Q) (h : PQ Q → TA P W n ds ops Q ops.length (List.replicate ops.length false) E G) : TC P W n ds (.region id ops.toArray true) Q E G := tc_any hm (h hQ)
theorem ta_two10 (i j : Nat) {op op2 : Op} {ty2 pos2 af2} (hr : Region.ready .any ops.toArray ⟨listed⟩ = [i, j])
    (hi : ops[i]? = some ⟨some d, op, ty, pos, af, none⟩) (hd : d < n) (hj : ops[j]? = some ⟨none, op2, ty2, pos2, af2, none⟩)
    (h1 : OpT P W n ds ⟨some d, op, ty, pos, af, none⟩ E G (fun v G' => TA P W n ds ops Q fuel (listed.set i true) ((d, v) :: E) G'))
    (h2 : OpT P W n ds ⟨none, op2, ty2, pos2, af2, none⟩ E G (fun v G' => TA P W n ds ops Q fuel (listed.set j true) E G')) : TA P W n ds ops Q (fuel + 1) listed E G :=
  ⟨fun a w hok hsw => wpAny_all hr (by simp) fun k hk => by
    simp only [List.mem_cons, List.not_mem_nil, or_false] at hk
    rcases hk with rfl | rfl
    · exact ta_step (op := op) _ hi rfl h1 (fun v G' a w hk hs hok => hk.run _ _ (hok.put hd v) hs) a w hok hsw
    · exact ta_step (op := op2) _ hj rfl h2 (fun v G' a w hk hs hok => hk.run _ _ hok hs) a w hok hsw⟩
end
end Go.Lg

set_option linter.unusedVariables false
set_option linter.unusedSimpArgs false
namespace Go.Lg
open Ieee

theorem does_sqrt {P : Program} {f : FuncId} {fn : Func} {H : Heap} {x : Nat}
    (hf : P.funcs[f]? = some fn) (hn : (fn.name == "runtime.NumGoroutine") = false) (hb : fn.body.isNone = true) (h1 : (Extern.findNext fn).isNone = true)
    (h2 : Extern.find fn = some Extern.MathSqrt.sqrt) : Does P f [.float .f64 x] H fun v H' => (∃ r, v = .float .f64 r ∧ SqrtR x r) ∧ H' = H := by
  refine does_extern hf hn hb h1 h2 fun W w hs => ?_
  have e : Extern.MathSqrt.sqrt ⟨[.float .f64 x]⟩ = (match FloatKind.f64.format.sqrt x with
    | some r => pure (.float .f64 r)
    | none => do pure (.float .f64 (← choose (.nanBits .f64 x x)))) := rfl
  rw [e]
  unfold SqrtR
  cases hd : double.sqrt x with
  | some r =>
    have : FloatKind.f64.format.sqrt x = some r := hd
    rw [this]
    exact ⟨_, w, rfl, hs, ⟨r, rfl, fun w' hw => by injection hw⟩, rfl⟩
  | none =>
    have : FloatKind.f64.format.sqrt x = none := hd
    rw [this]
    exact ⟨_, { w with drawn := w.drawn + 1 }, rfl, hs.drew _, ⟨_, rfl, fun w' hw => by cases hw⟩, rfl⟩

/-- What a conversion to a whole number gives. -/
def Cv (x : Nat) (n : Int) : Prop := (∀ m, floatToIntVal .f64 x .i64 = some m → n = m) ∧ -9223372036854775808 ≤ n ∧ n ≤ 9223372036854775807
theorem wrap_range (n : Int) : -9223372036854775808 ≤ IntKind.i64.wrap n ∧ IntKind.i64.wrap n ≤ 9223372036854775807 := by
  simp only [IntKind.wrap, IntKind.bits, IntKind.signed]
  simp
  split <;> omega

section ops
variable {P : Program} {W : World} {n : Nat} {ds : List Deferred} {E : Env} {G : Heap} {K : Value → Heap → Prop}
variable {dst : Option Tmp} {ty : TypeId} {pos : String} {af : Array Edge} {g : Option (Nat × Bool)}

theorem op_ftoiAny {src dt x b} [hs : Und P src (.float .f64)] [hd : Und P dt (.int .i64)] (hk : ∀ m, Cv b m → K (.int .i64 m) G) (hx : evalE E x = some (.float .f64 b) := by exact rfl) :
    OpT P W n ds ⟨dst, .convert src dt x, ty, pos, af, g⟩ E G K := by
  refine ⟨fun a w next Q ho hsw hn => ?_⟩
  cases hv : floatToIntVal .f64 b .i64 with
  | some m =>
    have hr : (execOp a.eval ⟨dst, .convert src dt x, ty, pos, af, g⟩).run P w = .ok (.value (.int .i64 m)) w := by
      simp only [execOp, ho.eval hx]
      exact run_v (run_convert_float_int w src dt .f64 .i64 b m (by rw [hs.eq]; rfl) hd.eq hv)
    rw [hr]
    refine hn _ _ _ hsw (hk m ⟨fun m' h => by rw [hv] at h; injection h, ?_⟩)
    have := floatToIntVal_wf hv
    simpa [Lit.wf, IntKind.min, IntKind.max, IntKind.signed, IntKind.bits] using this
  | none =>
    obtain ⟨v, w', hr, hs', h1⟩ : ∃ v w', (execOp a.eval ⟨dst, .convert src dt x, ty, pos, af, g⟩).run P w = .ok (.value (.int .i64 (IntKind.i64.wrap v))) w' ∧ Sees W G w' ∧ True := by
      have hc : Conv.floatToInt .f64 b .i64 = (do pure (.int .i64 (IntKind.i64.wrap (← choose (.floatToInt .f64 b .i64)))) : Sem Value) := by
        unfold floatToIntVal at hv
        unfold Conv.floatToInt
        cases hd2 : (FloatKind.decode .f64 b).toInt .zero with
        | none => rfl
        | some k =>
          rw [hd2] at hv
          simp only at hv ⊢
          by_cases hc : IntKind.i64.min ≤ k ∧ k ≤ IntKind.i64.max
          · rw [if_pos hc] at hv; cases hv
          · rw [if_neg hc]
      have hu1 : P.underlying src = some (.float .f64) := hs.eq
      refine ⟨(Question.floatToInt .f64 b .i64).cut (w.tape w.drawn (Question.floatToInt .f64 b .i64)), { w with drawn := w.drawn + 1 }, ?_, hsw.drew _, trivial⟩
      have hq : (Question.floatToInt .f64 b .i64).forced = false := rfl
      simp only [execOp, ho.eval hx]
      refine run_v ?_
      refine (sem_run_bind P _ _ w _ w (run_underlying (t := src) w)).trans ?_
      refine (sem_run_bind P _ _ w _ w (run_underlying (t := dt) w)).trans ?_
      show Sem.run P (Conv.floatToInt .f64 b .i64) w = _
      rw [hc]
      rfl
    rw [hr]
    exact hn _ _ _ hs' (hk _ ⟨fun m h => (by rw [hv] at h; cases h), wrap_range _⟩)

theorem op_callv {x f args vs at'} (h : Does P f vs G K) (hf : evalE E x = some (.func (.func f) #[] #[]) := by exact rfl) (hx : evalAll E args = some vs := by exact rfl) :
    OpT P W n ds ⟨dst, .call { callee := .value x, args := ⟨args⟩, argTypes := at' }, ty, pos, af, g⟩ E G K := by
  refine ⟨fun a w next Q ho hs hn => ?_⟩
  have he : args.map a.eval = vs := by
    clear h hn hf
    induction args generalizing vs with
    | nil => simp [evalAll] at hx; simp [← hx]
    | cons x xs ih =>
      simp only [evalAll] at hx
      cases h1 : evalE E x with
      | none => simp [h1] at hx
      | some v =>
        cases h2 : evalAll E xs with
        | none => simp [h1, h2] at hx
        | some us =>
          simp only [h1, h2, Option.some.injEq] at hx
          subst hx
          simp [ho.eval h1, ih h2]
  have hr : (execOp a.eval ⟨dst, .call { callee := .value x, args := ⟨args⟩, argTypes := at' }, ty, pos, af, g⟩).run P w = (callFunc f ⟨vs⟩).run P w := by
    simp only [execOp, resolve, ho.eval hf]
    refine (sem_run_bind P _ _ w _ w rfl).trans ?_
    simp [invoke, he]
  rw [hr]
  exact h.run W w hs _ a next Q hn
end ops
end Go.Lg

set_option linter.unusedVariables false
set_option linter.unusedSimpArgs false
namespace Go.Lg
open Ieee

/-- c is q but for k units of 2^-53. -/
def Ru (k : Nat) (c q : Rat) : Prop := Rl ((k : Rat) * p2 (-53)) c q
theorem u_pos (k : Nat) : 0 ≤ (k : Rat) * p2 (-53) := Rat.mul_nonneg (by exact_mod_cast Nat.zero_le k) (Rat.le_of_lt (p2_pos _))
theorem u_mono {k l : Nat} (h : k ≤ l) : (k : Rat) * p2 (-53) ≤ (l : Rat) * p2 (-53) := mul_le (by exact_mod_cast h) (Rat.le_of_lt (p2_pos _))
theorem Ru.le {k l : Nat} {c q : Rat} (h : Ru k c q) (hl : k ≤ l) : Ru l c q := Rl.le h (u_mono hl)
theorem nat_cast_le {k : Nat} (h : k ≤ 1048576) : (k : Rat) ≤ p2 20 := by
  rw [p2_toNat (e := 20) (by decide)]; exact_mod_cast h
theorem u_sum {k l : Nat} (hk : k ≤ 1048576) (hl : l ≤ 1048576) :
    (k : Rat) * p2 (-53) + (l : Rat) * p2 (-53) + (k : Rat) * p2 (-53) * ((l : Rat) * p2 (-53)) ≤ ((k + l + 1 : Nat) : Rat) * p2 (-53) := by
  have h1 := nat_cast_le hk
  have h2 := nat_cast_le hl
  have hl0 : (0 : Rat) ≤ (l : Rat) := by exact_mod_cast Nat.zero_le l
  have e1 := mul_le h1 hl0
  have e2 := mul_le_left h2 (Rat.le_of_lt (p2_pos 20))
  rw [p2_mul (c := 40) (by decide)] at e2
  have e3 := mul_le (show (k : Rat) * (l : Rat) ≤ p2 40 by grind) (Rat.le_of_lt (p2_pos (-53)))
  rw [p2_mul (c := -13) (by decide)] at e3
  have e4 : p2 (-13) ≤ 1 := by rw [← p2_zero]; exact p2_le (by decide)
  have e5 := mul_le (show (k : Rat) * (l : Rat) * p2 (-53) ≤ 1 by grind) (Rat.le_of_lt (p2_pos (-53)))
  simp only [Rat.natCast_add]
  grind
theorem Ru.trans {k l : Nat} {c z q : Rat} (h1 : Ru k c z) (h2 : Ru l z q) (hk : k ≤ 1048576 := by decide) (hl : l ≤ 1048576 := by decide) : Ru (k + l + 1) c q :=
  (Rl.trans h1 h2 (u_pos k)).le (u_sum hk hl)
theorem Ru.mul {k l : Nat} {a b p q : Rat} (h1 : Ru k a p) (h2 : Ru l b q) (hk : k ≤ 1048576 := by decide) (hl : l ≤ 1048576 := by decide) : Ru (k + l + 1) (a * b) (p * q) :=
  (Rl.mul h1 h2 (u_pos k)).le (u_sum hk hl)
theorem Ru.refl (q : Rat) : Ru 0 q q := (Rl.refl q).le (u_pos 0)
theorem Ru.to {k l : Nat} {c q q' : Rat} (h : Ru k c q) (hl : k ≤ l) (e : q = q') : Ru l c q' := e ▸ h.le hl
theorem u_small {k : Nat} (hk : k ≤ 1048576) : (k : Rat) * p2 (-53) ≤ p2 (-1) := by
  have := mul_le (nat_cast_le hk) (Rat.le_of_lt (p2_pos (-53)))
  rw [p2_mul (c := -33) (by decide)] at this
  exact Rat.le_trans this (p2_le (by decide))
theorem Ru.zero {k : Nat} {c : Rat} (h : Ru k c 0) : c = 0 := by
  unfold Ru Rl at h
  rw [rabs_zero] at h
  have := rabs_le.1 (show rabs (c - 0) ≤ 0 by grind)
  grind
theorem half1 : p2 (-1) + p2 (-1) = 1 := by rw [← p2_half (e := -1) (e' := 0) (by decide)]; exact p2_zero
theorem Ru.sign {k : Nat} {c q : Rat} (h : Ru k c q) (hk : k ≤ 1048576 := by decide) : (0 < q → 0 < c ∧ p2 (-1) * q ≤ c ∧ c ≤ 2 * q) ∧ (q < 0 → c < 0) := by
  unfold Ru Rl at h
  have he := u_small hk
  constructor
  · intro hq
    rw [rabs_of_nonneg (Rat.le_of_lt hq)] at h
    have := rabs_le.1 h
    have := mul_le he (Rat.le_of_lt hq)
    have e2 : p2 (-1) * q + p2 (-1) * q = q := by rw [← Rat.add_mul, half1]; grind
    have := Rat.mul_pos (p2_pos (-1)) hq
    refine ⟨?_, ?_, ?_⟩ <;> grind
  · intro hq
    have hq' : 0 < -q := by grind
    rw [← rabs_neg q, rabs_of_nonneg (Rat.le_of_lt hq')] at h
    have := rabs_le.1 h
    have := mul_le he (Rat.le_of_lt hq')
    have e2 : p2 (-1) * -q + p2 (-1) * -q = -q := by rw [← Rat.add_mul, half1]; grind
    have := Rat.mul_pos (p2_pos (-1)) hq'
    grind
/-- The other way about, of a divisor. -/
theorem Ru.inv {k : Nat} {a b D : Rat} (h : Ru k a b) (hb : 0 < b) (hk : k ≤ 524288 := by decide) : Ru (2 * k) (D / a) (D / b) := by
  obtain ⟨ha, ha2, _⟩ := (h.sign (by omega)).1 hb
  have hka := h
  unfold Ru Rl at h ⊢
  rw [rabs_of_nonneg (Rat.le_of_lt hb)] at h
  have e1 := rat_div_mul D a (by grind)
  have e2 := rat_div_mul D b (by grind)
  generalize D / a = x at *
  generalize D / b = y at *
  -- (x - y) a = y (b - a)
  have e3 : (x - y) * a = y * (b - a) := by grind
  have e4 : rabs (x - y) * a = rabs y * rabs (a - b) := by
    have : rabs (x - y) * rabs a = rabs y * rabs (b - a) := by rw [← rabs_mul, e3, rabs_mul]
    rw [rabs_of_nonneg (Rat.le_of_lt ha)] at this
    rw [this]; congr 1; rw [← rabs_neg]; congr 1; grind
  have e5 := mul_le_left h (rabs_nonneg y)
  have e6 : rabs y * ((k : Rat) * p2 (-53) * b) ≤ ((2 * k : Nat) : Rat) * p2 (-53) * rabs y * a := by
    have h1 := mul_le_left ha2 (Rat.mul_nonneg (u_pos k) (rabs_nonneg y))
    have e7 : p2 (-1) * b + p2 (-1) * b = b := by rw [← Rat.add_mul, half1]; grind
    rw [Rat.natCast_mul]
    have : ((2 : Nat) : Rat) = 2 := rfl
    rw [this]
    have e8 : (k : Rat) * p2 (-53) * rabs y * b = (k : Rat) * p2 (-53) * rabs y * (p2 (-1) * b) + (k : Rat) * p2 (-53) * rabs y * (p2 (-1) * b) := by rw [← Rat.mul_add, e7]
    have f1 : rabs y * ((k : Rat) * p2 (-53) * b) = (k : Rat) * p2 (-53) * rabs y * b := by grind
    have f2 : 2 * (k : Rat) * p2 (-53) * rabs y * a = (k : Rat) * p2 (-53) * rabs y * a + (k : Rat) * p2 (-53) * rabs y * a := by grind
    rw [f1, f2, e8]
    clear e3 e4 e5 e1 e2 h e7 e8 f1 f2
    generalize (k : Rat) * p2 (-53) * rabs y * (p2 (-1) * b) = A at *
    generalize (k : Rat) * p2 (-53) * rabs y * a = B at *
    grind
  refine of_mul_le (c := a) ?_ ha
  grind

theorem Rnd.ru {q c : Rat} (h : Rnd q c) (hq : q = 0 ∨ p2 (-1000) ≤ rabs q) : Ru 1 c q := by
  rcases hq with rfl | hq
  · rw [h.exact rep_zero]; exact (Ru.refl 0).le (by decide)
  · have := h.rel (Rat.le_trans (p2_le (by decide)) hq)
    unfold Ru
    have e : ((1 : Nat) : Rat) * p2 (-53) = p2 (-53) := by
      have : ((1 : Nat) : Rat) = 1 := rfl
      rw [this, Rat.one_mul]
    rw [e]; exact this
theorem lt1023 {q : Rat} (h : rabs q ≤ p2 1000) : q < p2 1023 ∧ -q < p2 1023 := by
  have h1 := p2_lt (show (1000 : Int) < 1023 by decide)
  have h2 := le_rabs q
  generalize p2 1000 = a at *
  generalize p2 1023 = b at *
  constructor <;> grind
theorem far_mul_u {x y r : Nat} {a b : Rat} (h : FAr .mul x y r) (ha : Fv x a) (hb : Fv y b) (h1 : a * b = 0 ∨ p2 (-1000) ≤ rabs (a * b)) (h2 : rabs (a * b) ≤ p2 1000) : ∃ c, Fv r c ∧ Ru 1 c (a * b) := by
  obtain ⟨k1, k2⟩ := lt1023 h2
  obtain ⟨c, hc, hr⟩ := far_mul h ha hb k1 k2
  exact ⟨c, hc, hr.ru h1⟩
theorem far_add_u {x y r : Nat} {a b : Rat} (h : FAr .add x y r) (ha : Fv x a) (hb : Fv y b) (h1 : a + b = 0 ∨ p2 (-1000) ≤ rabs (a + b)) (h2 : rabs (a + b) ≤ p2 1000) : ∃ c, Fv r c ∧ Ru 1 c (a + b) := by
  obtain ⟨k1, k2⟩ := lt1023 h2
  obtain ⟨c, hc, hr⟩ := far_add h ha hb k1 k2
  exact ⟨c, hc, hr.ru h1⟩
theorem u_two : ((2 : Nat) : Rat) * p2 (-53) = p2 (-52) := by
  have e : p2 (-52) = p2 (-53) + p2 (-53) := p2_half (by decide)
  have : ((2 : Nat) : Rat) = 2 := rfl
  rw [e, this]; grind
theorem u_four : ((4 : Nat) : Rat) * p2 (-53) = p2 (-51) := by
  have e : p2 (-52) = p2 (-53) + p2 (-53) := p2_half (by decide)
  have e2 : p2 (-51) = p2 (-52) + p2 (-52) := p2_half (by decide)
  have : ((4 : Nat) : Rat) = 4 := rfl
  rw [e2, e, this]; grind
theorem far_quo_u {x y r : Nat} {a b : Rat} (h : FAr .quo x y r) (ha : Fv x a) (hb : Fv y b) (hb0 : b ≠ 0) (h1 : a = 0 ∨ p2 (-1000) ≤ rabs (a / b)) (h2 : rabs (a / b) ≤ p2 1000) : ∃ c, Fv r c ∧ Ru 2 c (a / b) := by
  rcases h1 with rfl | h1
  · refine ⟨0, far_quo_zero h ha hb hb0, ?_⟩
    have : (0 : Rat) / b = 0 := by rw [Rat.div_def]; simp
    rw [this]; exact (Ru.refl 0).le (by decide)
  · by_cases ha0 : a = 0
    · subst ha0
      refine ⟨0, far_quo_zero h ha hb hb0, ?_⟩
      have : (0 : Rat) / b = 0 := by rw [Rat.div_def]; simp
      rw [this]; exact (Ru.refl 0).le (by decide)
    · obtain ⟨c, hc, hr⟩ := far_quo h ha hb ha0 hb0 h1 h2
      refine ⟨c, hc, ?_⟩
      unfold Ru; rw [u_two]; exact hr
theorem sqrt_u {x r : Nat} {q : Rat} (hr : SqrtR x r) (hx : Fv x q) (hq : 0 < q) (hlo : p2 (-1000) ≤ q) (hhi : q ≤ p2 1000) : ∃ c, Fv r c ∧ 0 < c ∧ Ru 4 (c * c) q := by
  obtain ⟨c, h1, h2, h3⟩ := sqrt_rel hr hx hq hlo hhi
  refine ⟨c, h1, h2, ?_⟩
  unfold Ru; rw [u_four]; exact h3
/-- Two numbers from 0 on with nearly the same square, up to 1. -/
theorem near_units {k : Nat} {X a b : Rat} (ha : 0 ≤ a) (hb : 0 ≤ b) (h1 : Ru k (a * a) X) (h2 : Ru k (b * b) X) (hX : 0 ≤ X) (hX1 : X ≤ 1) (hk : k ≤ 256) : rabs (a - b) ≤ p2 (-42) := by
  have he : (k : Rat) * p2 (-53) ≤ p2 (-45) := by
    have : (k : Rat) ≤ p2 8 := by rw [p2_toNat (e := 8) (by decide)]; exact_mod_cast hk
    have := mul_le this (Rat.le_of_lt (p2_pos (-53)))
    rw [p2_mul (c := -45) (by decide)] at this
    exact this
  have := near_roots ha hb h1 h2 hX (u_pos k) (Rat.le_trans he (p2_le (by decide))) (show (0 : Rat) < 1 by decide) (by grind)
  have e8 : (8 : Rat) * p2 (-45) = p2 (-42) := by
    have : (8 : Rat) = p2 3 := by rw [p2_toNat (e := 3) (by decide)]; rfl
    rw [this, p2_mul (c := -42) (by decide)]
  grind
end Go.Lg

set_option linter.unusedVariables false
set_option linter.unusedSimpArgs false
namespace Go.Lg
open Ieee

theorem unit_up {q c u : Rat} {k j : Int} (hu : 0 < u) (hc : c = (k : Rat) * u) (h : 2 * (c - q) ≤ u) (hq : q ≤ (j : Rat) * u) : c ≤ (j : Rat) * u := by
  by_cases hk : k ≤ j
  · rw [hc]; exact mul_le (by exact_mod_cast hk) (Rat.le_of_lt hu)
  · have h1 : ((j + 1 : Int) : Rat) ≤ (k : Rat) := by exact_mod_cast (by omega : j + 1 ≤ k)
    have h2 := mul_le h1 (Rat.le_of_lt hu)
    rw [Rat.intCast_add] at h2
    have h3 : ((1 : Int) : Rat) = 1 := rfl
    rw [h3] at h2
    grind
theorem unit_dn {q c u : Rat} {k j : Int} (hu : 0 < u) (hc : c = (k : Rat) * u) (h : 2 * (q - c) ≤ u) (hq : (j : Rat) * u ≤ q) : (j : Rat) * u ≤ c := by
  have := unit_up (q := -q) (c := -c) (u := u) (k := -k) (j := -j) hu (by rw [hc, Rat.intCast_neg]; grind) (by grind) (by rw [Rat.intCast_neg]; grind)
  rw [Rat.intCast_neg] at this
  grind
theorem p2_int (l : Int) (n : Nat) : p2 (l + n) = (((2 ^ n : Nat) : Int) : Rat) * p2 l := by
  rw [p2_add, p2_nat, Rat.intCast_natCast]; grind
theorem Rnd.neg {q c : Rat} (h : Rnd q c) : Rnd (-q) (-c) := by
  obtain ⟨l, k, h1, h2, h3, h4, h5, h6, h7⟩ := h
  exact ⟨l, -k, h1, by rw [h2, Rat.intCast_neg]; grind, by grind, by grind, by grind, by grind, by grind⟩
theorem Rnd.le_aux {q1 q2 c1 c2 : Rat} {l1 l2 k1 k2 : Int} (hl : l1 < l2) (h1 : -1074 ≤ l1) (e1 : c1 = (k1 : Rat) * p2 l1) (e2 : c2 = (k2 : Rat) * p2 l2) (a1 : 2 * (c1 - q1) ≤ p2 l1)
    (b2 : 2 * (q2 - c2) ≤ p2 l2) (u1 : q1 < p2 (l1 + 53)) (v1 : -q1 < p2 (l1 + 53)) (hq : q1 < q2) (h2 : l2 = -1074 ∨ p2 (l2 + 52) ≤ q2 ∨ p2 (l2 + 52) ≤ -q2) : c1 ≤ c2 := by
  have hB : p2 (l1 + 53) ≤ p2 (l2 + 52) := p2_le (by omega)
  rcases h2 with h | h | h
  · omega
  · have r1 := unit_up (p2_pos l1) e1 a1 (j := ((2 ^ 53 : Nat) : Int)) (by have := p2_int l1 53; rw [← this]; exact Rat.le_of_lt u1)
    have r2 := unit_dn (p2_pos l2) e2 b2 (j := ((2 ^ 52 : Nat) : Int)) (by have := p2_int l2 52; rw [← this]; exact h)
    rw [← p2_int l1 53] at r1
    rw [← p2_int l2 52] at r2
    have r3 : c1 ≤ p2 (l1 + 53) := r1
    have r4 : p2 (l2 + 52) ≤ c2 := r2
    grind
  · exfalso; grind
theorem Rnd.mono {q1 q2 c1 c2 : Rat} (h1 : Rnd q1 c1) (h2 : Rnd q2 c2) (hq : q1 < q2) : c1 ≤ c2 := by
  have n1 := h1.neg
  have n2 := h2.neg
  obtain ⟨l1, k1, a1, a2, a3, a4, a5, a6, a7⟩ := h1
  obtain ⟨l2, k2, b1, b2, b3, b4, b5, b6, b7⟩ := h2
  rcases Int.lt_trichotomy l1 l2 with hl | hl | hl
  · exact Rnd.le_aux hl a1 a2 b2 a3 b4 a6 a7 hq b5
  · subst hl
    have hu := p2_pos l1
    by_cases hk : k1 ≤ k2
    · rw [a2, b2]; exact mul_le (by exact_mod_cast hk) (Rat.le_of_lt hu)
    · have h1 : ((k2 + 1 : Int) : Rat) ≤ (k1 : Rat) := by exact_mod_cast (by omega : k2 + 1 ≤ k1)
      have h2 := mul_le h1 (Rat.le_of_lt hu)
      rw [Rat.intCast_add] at h2
      have h3 : ((1 : Int) : Rat) = 1 := rfl
      rw [h3] at h2
      exfalso; grind
  · have := Rnd.le_aux (q1 := -q2) (q2 := -q1) (c1 := -c2) (c2 := -c1) (k1 := -k2) (k2 := -k1) hl b1 (by rw [b2, Rat.intCast_neg]; grind) (by rw [a2, Rat.intCast_neg]; grind) (by grind) (by grind) (by grind) (by grind) (by grind) (by grind)
    grind
theorem Rnd.int {n : Int} {c : Rat} (h : Rnd (n : Rat) c) : ∃ m : Int, c = (m : Rat) := by
  have h0 := h
  obtain ⟨l, k, a1, a2, a3, a4, a5, a6, a7⟩ := h
  by_cases hl : 0 ≤ l
  · refine ⟨k * ((2 ^ l.toNat : Nat) : Int), ?_⟩
    rw [a2, p2_toNat hl, Rat.intCast_mul, Rat.intCast_natCast]
  · have hb : p2 (l + 53) ≤ p2 53 := p2_le (by omega)
    have h53 : p2 53 = ((9007199254740992 : Int) : Rat) := by
      have e : p2 53 = ((9007199254740992 : Nat) : Rat) := p2_toNat (by decide)
      rw [e, ← Rat.intCast_natCast]; rfl
    have c1 : (n : Rat) ≤ ((9007199254740992 : Int) : Rat) := by grind
    have c2 : ((-n : Int) : Rat) ≤ ((9007199254740992 : Int) : Rat) := by rw [Rat.intCast_neg]; grind
    have d1 := Rat.intCast_le_intCast.1 c1
    have d2 := Rat.intCast_le_intCast.1 c2
    exact ⟨n, h0.exact (rep_int (by omega) (by omega))⟩

/-! ### Rounding depends on the number alone -/
theorem cut_double (neg : Bool) (n d : Nat) (h0 : n ≠ 0) : Toward.even.cut neg (n * 2) (d + 1) = Toward.even.cut neg n d := by
  unfold Toward.cut
  dsimp only
  have hlog : (n * 2).log2 = n.log2 + 1 := by rw [Nat.mul_comm]; exact Nat.log2_two_mul h0
  have hm : min (d + 1) ((n * 2).log2 + 2) = min d (n.log2 + 2) + 1 := by rw [hlog]; omega
  rw [hm]
  generalize min d (n.log2 + 2) = g
  rw [Nat.one_shiftLeft, Nat.one_shiftLeft, Nat.pow_succ]
  have hg : 0 < 2 ^ g := Nat.two_pow_pos _
  generalize 2 ^ g = G at *
  rw [Nat.mul_div_mul_right _ _ (by decide : 0 < 2), Nat.mul_mod_mul_right]
  have e1 : (decide (G * 2 < 2 * (n % G * 2))) = decide (G < 2 * (n % G)) := decide_eq_decide.2 (by omega)
  have e2 : (G * 2 == 2 * (n % G * 2)) = (G == 2 * (n % G)) := by
    rw [Bool.eq_iff_iff]; simp only [beq_iff_eq]; omega
  rw [e1, e2]
theorem nearest_double (neg : Bool) (m : Nat) (e : Int) (h0 : m ≠ 0) : double.nearest neg (m * 2) e = double.nearest neg m (e + 1) := by
  have key : ∀ (mag : Nat) (place : Int), double.nearest neg mag place = if mag = 0 then double.word neg 0 else double.word neg (min ((lastOf mag place - -1074).toNat * 4503599627370496 +
      Toward.even.cut neg (mag <<< (place - lastOf mag place).toNat) (lastOf mag place - place).toNat) 9218868437227405312) := fun _ _ => rfl
  rw [key, key, if_neg (by omega), if_neg h0]
  have hlog : (m * 2).log2 = m.log2 + 1 := by rw [Nat.mul_comm]; exact Nat.log2_two_mul h0
  have hl : lastOf (m * 2) e = lastOf m (e + 1) := by unfold lastOf; rw [hlog]; omega
  rw [hl]
  generalize lastOf m (e + 1) = l
  by_cases h : e < l
  · have a1 : (e - l).toNat = 0 := by omega
    have a2 : (e + 1 - l).toNat = 0 := by omega
    have a3 : (l - e).toNat = (l - (e + 1)).toNat + 1 := by omega
    rw [a1, a2, a3, Nat.shiftLeft_zero, Nat.shiftLeft_zero, cut_double _ _ _ h0]
  · have a1 : (l - e).toNat = 0 := by omega
    have a2 : (l - (e + 1)).toNat = 0 := by omega
    have a3 : (e + 1 - l).toNat = (e - l).toNat + 1 := by omega
    rw [a1, a2, a3, Nat.shiftLeft_eq, Nat.shiftLeft_eq, Nat.pow_succ]
    congr 4
    rw [Nat.mul_assoc, Nat.mul_comm 2]
theorem nearest_pow (neg : Bool) (m : Nat) (h0 : m ≠ 0) : ∀ (k : Nat) (e : Int), double.nearest neg (m * 2 ^ k) e = double.nearest neg m (e + k)
  | 0, e => by simp
  | k + 1, e => by
    rw [Nat.pow_succ, ← Nat.mul_assoc, nearest_double neg (m * 2 ^ k) e (by have := Nat.two_pow_pos k; exact Nat.mul_ne_zero h0 (by omega)), nearest_pow neg m h0 k (e + 1)]
    congr 1; omega
theorem write_same {s t : Bool} {m n : Nat} {e f : Int} (hm : m ≠ 0) (h : sgn s * (m : Rat) * p2 e = sgn t * (n : Rat) * p2 f) (hle : e ≤ f) : double.write (.number s m e) = double.write (.number t n f) := by
  have pm : (0 : Rat) < (m : Rat) := by exact_mod_cast Nat.pos_of_ne_zero hm
  have pe := p2_pos e
  have pf := p2_pos f
  have p1 : 0 < (m : Rat) * p2 e := Rat.mul_pos pm pe
  have p2' : 0 ≤ (n : Rat) * p2 f := Rat.mul_nonneg (by exact_mod_cast Nat.zero_le n) (Rat.le_of_lt pf)
  have hst : s = t := by
    cases s <;> cases t <;> simp only [sgn] at h <;> first | rfl | (exfalso; grind)
  subst hst
  have hv : (m : Rat) * p2 e = (n : Rat) * p2 f := by
    cases s <;> (simp only [sgn] at h; grind)
  have hf : p2 f = ((2 ^ (f - e).toNat : Nat) : Rat) * p2 e := by
    rw [← p2_nat, ← p2_add]; congr 1; omega
  rw [hf] at hv
  have hmn : (m : Rat) = (n : Rat) * ((2 ^ (f - e).toNat : Nat) : Rat) := of_mul_eq (c := p2 e) (by grind) pe
  rw [← Rat.natCast_mul] at hmn
  have hmn' : m = n * 2 ^ (f - e).toNat := by exact_mod_cast hmn
  have hn : n ≠ 0 := by intro h; subst h; simp at hmn'; exact hm hmn'
  show double.nearest s m e = double.nearest s n f
  rw [hmn', nearest_pow s n hn]
  congr 1; omega
theorem far_mul_same {x y r x' y' r' : Nat} {a b a' b' : Rat} (h : FAr .mul x y r) (h' : FAr .mul x' y' r') (ha : Fv x a) (hb : Fv y b) (ha' : Fv x' a') (hb' : Fv y' b') (he : a * b = a' * b') (h0 : a * b ≠ 0) : r = r' := by
  have key : ∀ {x y r : Nat} {a b : Rat}, FAr .mul x y r → Fv x a → Fv y b → ∃ s m e, r = double.write (.number s m e) ∧ a * b = sgn s * (m : Rat) * p2 e := by
    intro x y r a b h ha hb
    obtain ⟨s, m, i, hx, rfl⟩ := ha
    obtain ⟨t, n, j, hy, rfl⟩ := hb
    have hf : floatBits .mul .f64 x y = some (double.write (.number (s ^^ t) (m * n) (i + j))) := by
      show ((double.read x).product (double.read y)).map double.write = _
      rw [hx, hy]; rfl
    have h := h.ok; rw [hf] at h
    refine ⟨s ^^ t, m * n, i + j, by first | exact h | exact h.symm | exact (Option.some.inj h).symm, ?_⟩
    rw [p2_add, Rat.natCast_mul]
    cases s <;> cases t <;> (simp only [sgn, Bool.xor_true, Bool.xor_false, Bool.not_true, Bool.not_false]; grind)
  obtain ⟨s, m, e, hr, hv⟩ := key h ha hb
  obtain ⟨t, n, f, hr', hv'⟩ := key h' ha' hb'
  have hm : m ≠ 0 := by intro hm; subst hm; exact h0 (by rw [hv]; simp)
  have hn : n ≠ 0 := by intro hn; subst hn; exact h0 (by rw [he, hv']; simp)
  rw [hr, hr']
  rcases Int.le_total e f with h | h
  · exact write_same hm (by rw [← hv, he, hv']) h
  · exact (write_same hn (by rw [← hv', ← he, hv]) h).symm
end Go.Lg

set_option maxRecDepth 20000
namespace Go.Lg
open Go.Proofs
instance : Und Tryd.prog 0 (TypeDesc.tuple #[]) := ⟨Tryd.underlying0⟩
instance : Und Tryd.prog 2 (TypeDesc.int IntKind.i64) := ⟨Tryd.underlying2⟩
instance : Inf Tryd.prog 2 1 8 [.int .i64 0] := ⟨by kernel_rfl⟩
instance : Und Tryd.prog 3 (TypeDesc.int IntKind.i64) := ⟨Tryd.underlying3⟩
instance : Inf Tryd.prog 3 1 8 [.int .i64 0] := ⟨by kernel_rfl⟩
instance : Und Tryd.prog 4 TypeDesc.bool := ⟨Tryd.underlying4⟩
instance : Inf Tryd.prog 4 1 1 [.bool false] := ⟨by kernel_rfl⟩
instance : Und Tryd.prog 22 (TypeDesc.float FloatKind.f64) := ⟨Tryd.underlying22⟩
instance : Inf Tryd.prog 22 1 8 [.float .f64 0] := ⟨by kernel_rfl⟩
instance : Und Tryd.prog 24 (TypeDesc.struct #[{ name := "X", type := 22, offset := 0, embedded := false, tag := "", pkgPath := "", byteOffset := 0 }, { name := "Y", type := 22, offset := 1, embedded := false, tag := "", pkgPath := "", byteOffset := 8 }]) := ⟨Tryd.underlying24⟩
instance : Inf Tryd.prog 24 2 16 [.float .f64 0, .float .f64 0] := ⟨by kernel_rfl⟩
instance : Und Tryd.prog 26 (TypeDesc.slice 72) := ⟨Tryd.underlying26⟩
instance : Inf Tryd.prog 26 1 24 [.slice none 0 0] := ⟨by kernel_rfl⟩
instance : Und Tryd.prog 28 (TypeDesc.struct #[{ name := "Neg", type := 4, offset := 0, embedded := false, tag := "", pkgPath := "", byteOffset := 0 }, { name := "L", type := 26, offset := 1, embedded := false, tag := "", pkgPath := "", byteOffset := 8 }]) := ⟨Tryd.underlying28⟩
instance : Inf Tryd.prog 28 2 32 [.bool false, .slice none 0 0] := ⟨by kernel_rfl⟩
instance : Und Tryd.prog 30 (TypeDesc.struct #[{ name := "N", type := 28, offset := 0, embedded := false, tag := "", pkgPath := "", byteOffset := 0 }, { name := "E", type := 3, offset := 2, embedded := false, tag := "", pkgPath := "", byteOffset := 32 }]) := ⟨Tryd.underlying30⟩
instance : Inf Tryd.prog 30 3 40 [.bool false, .slice none 0 0, .int .i64 0] := ⟨by kernel_rfl⟩
instance : Und Tryd.prog 32 (TypeDesc.struct #[{ name := "X", type := 30, offset := 0, embedded := false, tag := "", pkgPath := "", byteOffset := 0 }, { name := "Y", type := 30, offset := 3, embedded := false, tag := "", pkgPath := "", byteOffset := 40 }]) := ⟨Tryd.underlying32⟩
instance : Inf Tryd.prog 32 6 80 [.bool false, .slice none 0 0, .int .i64 0, .bool false, .slice none 0 0, .int .i64 0] := ⟨by kernel_rfl⟩
instance : Und Tryd.prog 42 (TypeDesc.slice 22) := ⟨Tryd.underlying42⟩
instance : Inf Tryd.prog 42 1 24 [.slice none 0 0] := ⟨by kernel_rfl⟩
instance : Und Tryd.prog 43 (TypeDesc.slice 24) := ⟨Tryd.underlying43⟩
instance : Inf Tryd.prog 43 1 24 [.slice none 0 0] := ⟨by kernel_rfl⟩
instance : Und Tryd.prog 56 (TypeDesc.int IntKind.i64) := ⟨Tryd.underlying56⟩
instance : Inf Tryd.prog 56 1 8 [.int .i64 0] := ⟨by kernel_rfl⟩
instance : Und Tryd.prog 58 (TypeDesc.slice 22) := ⟨Tryd.underlying58⟩
instance : Inf Tryd.prog 58 1 24 [.slice none 0 0] := ⟨by kernel_rfl⟩
instance : Und Tryd.prog 72 (TypeDesc.int IntKind.u32) := ⟨Tryd.underlying72⟩
instance : Inf Tryd.prog 72 1 4 [.int .u32 0] := ⟨by kernel_rfl⟩
instance : Und Tryd.prog 73 (TypeDesc.int IntKind.u64) := ⟨Tryd.underlying73⟩
instance : Inf Tryd.prog 73 1 8 [.int .u64 0] := ⟨by kernel_rfl⟩
instance : FieldAt Tryd.prog 24 0 0 := .mk' Tryd.underlying24 rfl rfl (by kernel_rfl)
instance : FieldAt Tryd.prog 24 1 1 := .mk' Tryd.underlying24 rfl rfl (by kernel_rfl)
instance : FieldAt Tryd.prog 28 0 0 := .mk' Tryd.underlying28 rfl rfl (by kernel_rfl)
instance : FieldAt Tryd.prog 28 1 1 := .mk' Tryd.underlying28 rfl rfl (by kernel_rfl)
instance : FieldAt Tryd.prog 30 0 0 := .mk' Tryd.underlying30 rfl rfl (by kernel_rfl)
instance : FieldAt Tryd.prog 30 1 2 := .mk' Tryd.underlying30 rfl rfl (by kernel_rfl)
instance : FieldAt Tryd.prog 32 0 0 := .mk' Tryd.underlying32 rfl rfl (by kernel_rfl)
instance : FieldAt Tryd.prog 32 1 3 := .mk' Tryd.underlying32 rfl rfl (by kernel_rfl)
instance : Places Tryd.prog [{ name := "x", type := 2, offset := 0, embedded := false, tag := "", pkgPath := "runtime", byteOffset := 0 }, { name := "y", type := 3, offset := 1, embedded := false, tag := "", pkgPath := "runtime", byteOffset := 8 }, { name := "signed", type := 4, offset := 2, embedded := false, tag := "", pkgPath := "runtime", byteOffset := 16 }, { name := "code", type := 6, offset := 3, embedded := false, tag := "", pkgPath := "runtime", byteOffset := 17 }] [(0, 1), (1, 1), (2, 1), (3, 1)] := ⟨by kernel_rfl⟩
instance : Places Tryd.prog [{ name := "msg", type := 9, offset := 0, embedded := false, tag := "", pkgPath := "runtime", byteOffset := 0 }, { name := "addr", type := 12, offset := 1, embedded := false, tag := "", pkgPath := "runtime", byteOffset := 16 }] [(0, 1), (1, 1)] := ⟨by kernel_rfl⟩
instance : Places Tryd.prog [{ name := "typ", type := 17, offset := 0, embedded := false, tag := "", pkgPath := "internal/runtime/maps", byteOffset := 0 }] [(0, 1)] := ⟨by kernel_rfl⟩
instance : Places Tryd.prog [{ name := "X", type := 22, offset := 0, embedded := false, tag := "", pkgPath := "", byteOffset := 0 }, { name := "Y", type := 22, offset := 1, embedded := false, tag := "", pkgPath := "", byteOffset := 8 }] [(0, 1), (1, 1)] := ⟨by kernel_rfl⟩
instance : Places Tryd.prog [{ name := "Neg", type := 4, offset := 0, embedded := false, tag := "", pkgPath := "", byteOffset := 0 }, { name := "L", type := 26, offset := 1, embedded := false, tag := "", pkgPath := "", byteOffset := 8 }] [(0, 1), (1, 1)] := ⟨by kernel_rfl⟩
instance : Places Tryd.prog [{ name := "N", type := 28, offset := 0, embedded := false, tag := "", pkgPath := "", byteOffset := 0 }, { name := "E", type := 3, offset := 2, embedded := false, tag := "", pkgPath := "", byteOffset := 32 }] [(0, 2), (2, 1)] := ⟨by kernel_rfl⟩
instance : Places Tryd.prog [{ name := "X", type := 30, offset := 0, embedded := false, tag := "", pkgPath := "", byteOffset := 0 }, { name := "Y", type := 30, offset := 3, embedded := false, tag := "", pkgPath := "", byteOffset := 40 }] [(0, 3), (3, 3)] := ⟨by kernel_rfl⟩
instance : Places Tryd.prog [{ name := "_interface", type := 17, offset := 0, embedded := false, tag := "", pkgPath := "runtime", byteOffset := 0 }, { name := "concrete", type := 17, offset := 1, embedded := false, tag := "", pkgPath := "runtime", byteOffset := 8 }, { name := "asserted", type := 17, offset := 2, embedded := false, tag := "", pkgPath := "runtime", byteOffset := 16 }, { name := "missingMethod", type := 9, offset := 3, embedded := false, tag := "", pkgPath := "runtime", byteOffset := 24 }] [(0, 1), (1, 1), (2, 1), (3, 1)] := ⟨by kernel_rfl⟩
instance : Places Tryd.prog [{ name := "_", type := 89, offset := 0, embedded := false, tag := "", pkgPath := "runtime", byteOffset := 0 }] [(0, 0)] := ⟨by kernel_rfl⟩
instance : Places Tryd.prog [{ name := "Size_", type := 12, offset := 0, embedded := false, tag := "", pkgPath := "", byteOffset := 0 }, { name := "PtrBytes", type := 12, offset := 1, embedded := false, tag := "", pkgPath := "", byteOffset := 8 }, { name := "Hash", type := 72, offset := 2, embedded := false, tag := "", pkgPath := "", byteOffset := 16 }, { name := "TFlag", type := 92, offset := 3, embedded := false, tag := "", pkgPath := "", byteOffset := 20 }, { name := "Align_", type := 5, offset := 4, embedded := false, tag := "", pkgPath := "", byteOffset := 21 }, { name := "FieldAlign_", type := 5, offset := 5, embedded := false, tag := "", pkgPath := "", byteOffset := 22 }, { name := "Kind_", type := 93, offset := 6, embedded := false, tag := "", pkgPath := "", byteOffset := 23 }, { name := "Equal", type := 94, offset := 7, embedded := false, tag := "", pkgPath := "", byteOffset := 24 }, { name := "GCData", type := 95, offset := 8, embedded := false, tag := "", pkgPath := "", byteOffset := 32 }, { name := "Str", type := 96, offset := 9, embedded := false, tag := "", pkgPath := "", byteOffset := 40 }, { name := "PtrToThis", type := 97, offset := 10, embedded := false, tag := "", pkgPath := "", byteOffset := 44 }] [(0, 1), (1, 1), (2, 1), (3, 1), (4, 1), (5, 1), (6, 1), (7, 1), (8, 1), (9, 1), (10, 1)] := ⟨by kernel_rfl⟩
instance : Enters Tryd.prog 3 := ⟨Tryd.f3, Tryd.func3, rfl, rfl⟩
instance : Enters Tryd.prog 5 := ⟨Tryd.f5, Tryd.func5, rfl, rfl⟩
instance : Enters Tryd.prog 6 := ⟨Tryd.f6, Tryd.func6, rfl, rfl⟩
instance : Enters Tryd.prog 7 := ⟨Tryd.f7, Tryd.func7, rfl, rfl⟩
instance : Enters Tryd.prog 8 := ⟨Tryd.f8, Tryd.func8, rfl, rfl⟩
instance : Enters Tryd.prog 9 := ⟨Tryd.f9, Tryd.func9, rfl, rfl⟩
instance : Enters Tryd.prog 10 := ⟨Tryd.f10, Tryd.func10, rfl, rfl⟩
instance : Enters Tryd.prog 11 := ⟨Tryd.f11, Tryd.func11, rfl, rfl⟩
instance : Enters Tryd.prog 12 := ⟨Tryd.f12, Tryd.func12, rfl, rfl⟩
instance : Enters Tryd.prog 13 := ⟨Tryd.f13, Tryd.func13, rfl, rfl⟩
instance : Enters Tryd.prog 14 := ⟨Tryd.f14, Tryd.func14, rfl, rfl⟩
instance : Enters Tryd.prog 15 := ⟨Tryd.f15, Tryd.func15, rfl, rfl⟩
instance : Enters Tryd.prog 21 := ⟨Tryd.f21, Tryd.func21, rfl, rfl⟩
instance : Enters Tryd.prog 22 := ⟨Tryd.f22, Tryd.func22, rfl, rfl⟩
instance : Enters Tryd.prog 23 := ⟨Tryd.f23, Tryd.func23, rfl, rfl⟩
instance : Enters Tryd.prog 24 := ⟨Tryd.f24, Tryd.func24, rfl, rfl⟩
instance : Enters Tryd.prog 25 := ⟨Tryd.f25, Tryd.func25, rfl, rfl⟩
instance : Enters Tryd.prog 26 := ⟨Tryd.f26, Tryd.func26, rfl, rfl⟩
instance : Enters Tryd.prog 27 := ⟨Tryd.f27, Tryd.func27, rfl, rfl⟩
instance : Enters Tryd.prog 28 := ⟨Tryd.f28, Tryd.func28, rfl, rfl⟩
instance : Enters Tryd.prog 29 := ⟨Tryd.f29, Tryd.func29, rfl, rfl⟩
instance : Enters Tryd.prog 36 := ⟨Tryd.f36, Tryd.func36, rfl, rfl⟩
instance : Enters Tryd.prog 37 := ⟨Tryd.f37, Tryd.func37, rfl, rfl⟩
instance : Enters Tryd.prog 38 := ⟨Tryd.f38, Tryd.func38, rfl, rfl⟩
instance : Enters Tryd.prog 39 := ⟨Tryd.f39, Tryd.func39, rfl, rfl⟩
instance : Enters Tryd.prog 40 := ⟨Tryd.f40, Tryd.func40, rfl, rfl⟩
instance : Enters Tryd.prog 41 := ⟨Tryd.f41, Tryd.func41, rfl, rfl⟩
instance : Enters Tryd.prog 42 := ⟨Tryd.f42, Tryd.func42, rfl, rfl⟩
instance : Enters Tryd.prog 43 := ⟨Tryd.f43, Tryd.func43, rfl, rfl⟩
instance : Enters Tryd.prog 44 := ⟨Tryd.f44, Tryd.func44, rfl, rfl⟩
instance : Enters Tryd.prog 45 := ⟨Tryd.f45, Tryd.func45, rfl, rfl⟩
instance : Enters Tryd.prog 46 := ⟨Tryd.f46, Tryd.func46, rfl, rfl⟩
instance : Enters Tryd.prog 54 := ⟨Tryd.f54, Tryd.func54, rfl, rfl⟩
instance : Enters Tryd.prog 55 := ⟨Tryd.f55, Tryd.func55, rfl, rfl⟩
instance : Enters Tryd.prog 56 := ⟨Tryd.f56, Tryd.func56, rfl, rfl⟩
instance : Enters Tryd.prog 57 := ⟨Tryd.f57, Tryd.func57, rfl, rfl⟩
theorem mixed : Tryd.prog.follows .mixedOrders = true := by kernel_rfl
end Go.Lg

set_option linter.unusedVariables false
set_option linter.unusedSimpArgs false
namespace Go.Lg

def uv (x : Nat) : Value := .int .u32 (x : Int)
def US (G : Heap) (v : Value) (xs : List Nat) : Prop := Sl G v (xs.map uv)
theorem US.mono {G G' v xs} (h : US G v xs) (hG : ∀ e ∈ G, e ∈ G') : US G' v xs := Sl.mono h hG
theorem US.val {G v xs} (h : US G v xs) : ∃ a cap, v = .slice a xs.length cap := by
  obtain ⟨a, cap, h1, _⟩ := h
  exact ⟨a, cap, by simpa using h1⟩
theorem US.cap {G a n c xs} (h : US G (.slice a n c) xs) : n = xs.length ∧ xs.length ≤ c := by
  obtain ⟨_, _, h1, h2, _⟩ := h
  injection h1 with _ h4 h3
  rw [List.length_map] at h2 h4; omega
theorem US.nil {G} : US G (.slice none 0 0) [] := ⟨none, 0, rfl, Nat.le_refl _, fun h => (h rfl).elim⟩
theorem US.toN {G v xs} (h : US G v xs) : SlN 1 G v xs.length (xs.map uv) := by have := Sl.toN h; simpa using this
theorem oneCell_uv (xs : List Nat) : ∀ u ∈ xs.map uv, u.oneCell' = true := by
  intro u hu
  obtain ⟨x, _, rfl⟩ := List.mem_map.1 hu
  rfl
theorem us_buf {e : TypeId} {buf : Buf} {xs : List Nat} {n : Nat} {H : Heap} (h : bufOk 1 buf n (xs.map uv)) : US (bufH e buf (xs.map uv) H) (bufV buf n) xs := sl_buf h
theorem getD_in {zs : List Nat} {t : Nat} (h : t < zs.length) : zs.getD t 0 = zs[t] := by rw [List.getD_eq_getElem?_getD, List.getElem?_eq_getElem h]; rfl
theorem us_block {G : Heap} {a : Option Addr} {n c : Nat} {zs : List Nat} (h : US G (.slice a n c) zs) (hn : zs ≠ []) :
    ∃ k off l T fz, a = some ⟨k, off, none⟩ ∧ (k, Obj.cells ⟨l⟩ T fz) ∈ G ∧ ∀ i, i < zs.length → l[off + i]? = some (.int .u32 ((zs.getD i 0 : Nat) : Int)) := by
  obtain ⟨a', cap, h1, h0, h2⟩ := h
  obtain ⟨k, off, l, T, fz, h3, h4, h5⟩ := h2 (by simpa using hn)
  cases h1
  refine ⟨k, off, l, T, fz, h3, h4, fun i hi => cut_get h5 ?_⟩
  rw [List.getElem?_map, List.getElem?_eq_getElem hi, getD_in hi]; rfl
theorem US.take {G : Heap} {a : Option Addr} {n c m : Nat} {zs : List Nat} (h : US G (.slice a n c) zs) (hm : m ≤ zs.length) : US G (.slice a m c) (zs.take m) := by
  obtain ⟨a', cap, h1, h0, h2⟩ := h
  cases h1
  have hlen : ((zs.take m).map uv).length = m := by simp; omega
  refine ⟨a, c, by rw [hlen], by rw [hlen]; rw [List.length_map] at h0; omega, fun hne => ?_⟩
  have hz : zs.map uv ≠ [] := fun e => by
    have : zs = [] := by simpa using e
    subst this; simp at hne
  obtain ⟨k, off, l, T, fz, h3, h4, h5⟩ := h2 hz
  refine ⟨k, off, l, T, fz, h3, h4, ?_⟩
  rw [hlen, List.map_take, ← h5, List.take_take, List.length_map, Nat.min_eq_left hm]
theorem slAt_zero {k o h c : Nat} (hc : 0 < c) : slAt (some ⟨k, o, none⟩) 0 1 h c = .slice (some ⟨k, o, none⟩) h c := by
  simp only [slAt]
  split
  · omega
  · simp [addr_add]

theorem wrap_u64 {n : Int} (h0 : 0 ≤ n) (h1 : n < 18446744073709551616) : IntKind.u64.wrap n = n := by
  simp only [IntKind.wrap, IntKind.bits, IntKind.signed]
  simp
  omega
theorem wrap_u32 {n : Int} (h0 : 0 ≤ n) : IntKind.u32.wrap n = n % 4294967296 := by
  simp only [IntKind.wrap, IntKind.bits, IntKind.signed]
  simp

end Go.Lg

set_option linter.unusedVariables false
set_option linter.unusedSimpArgs false
namespace Go.Proofs.YtelhfcjchpdkiaaDoor.Lmb
open Go.Lg

def lv : List Nat → Nat
  | [] => 0
  | x :: xs => x + 4294967296 * lv xs
def Lm (xs : List Nat) : Prop := ∀ x ∈ xs, x < 4294967296
/-- No zero at the end. -/
def Nrm (xs : List Nat) : Prop := xs ≠ [] → xs.getD (xs.length - 1) 0 ≠ 0

theorem lv_app (xs ys : List Nat) : lv (xs ++ ys) = lv xs + 4294967296 ^ xs.length * lv ys := by
  induction xs with
  | nil => simp [lv]
  | cons x xs ih =>
    simp only [List.cons_append, lv, ih, List.length_cons, Nat.pow_succ]
    rw [Nat.mul_add, ← Nat.mul_assoc, Nat.mul_comm 4294967296 (4294967296 ^ xs.length)]; omega
theorem lv_take (xs : List Nat) (i : Nat) : lv (xs.take (i + 1)) = lv (xs.take i) + 4294967296 ^ i * xs.getD i 0 := by
  by_cases h : i < xs.length
  · rw [List.take_add_one, List.getElem?_eq_getElem h, getD_in h, lv_app]
    simp only [Option.toList_some, lv, List.length_take, Nat.min_eq_left (Nat.le_of_lt h)]
    simp
  · rw [List.take_of_length_le (by omega), List.take_of_length_le (by omega), List.getD_eq_getElem?_getD, List.getElem?_eq_none (by omega)]
    simp
theorem lv_lt {xs : List Nat} (h : Lm xs) : lv xs < 4294967296 ^ xs.length := by
  induction xs with
  | nil => simp [lv]
  | cons x xs ih =>
    have h1 := h x (by simp)
    have h2 := ih (fun y hy => h y (by simp [hy]))
    simp only [lv, List.length_cons, Nat.pow_succ]
    have : 4294967296 * (lv xs + 1) ≤ 4294967296 * 4294967296 ^ xs.length := Nat.mul_le_mul_left _ h2
    rw [Nat.mul_add, Nat.mul_comm 4294967296 (4294967296 ^ _)] at this
    omega
theorem getD_lt {xs : List Nat} (h : Lm xs) (i : Nat) : xs.getD i 0 < 4294967296 := by
  by_cases hi : i < xs.length
  · rw [getD_in hi]; exact h _ (List.getElem_mem hi)
  · rw [List.getD_eq_getElem?_getD, List.getElem?_eq_none (by omega)]; decide
theorem lv_ge {xs : List Nat} (hn : Nrm xs) (h : xs ≠ []) : 4294967296 ^ (xs.length - 1) ≤ lv xs := by
  have hpos : 0 < xs.length := List.length_pos_iff.2 h
  have h1 := lv_take xs (xs.length - 1)
  rw [Nat.sub_add_cancel hpos, List.take_of_length_le (Nat.le_refl _)] at h1
  have h2 := hn h
  have : 4294967296 ^ (xs.length - 1) * 1 ≤ 4294967296 ^ (xs.length - 1) * xs.getD (xs.length - 1) 0 := Nat.mul_le_mul_left _ (by omega)
  omega
theorem Lm.take {xs : List Nat} (h : Lm xs) (n : Nat) : Lm (xs.take n) := fun x hx => h x (List.mem_of_mem_take hx)
theorem nrm_zero {xs : List Nat} (hn : Nrm xs) : lv xs = 0 ↔ xs = [] := by
  constructor
  · intro h
    by_cases hx : xs = []
    · exact hx
    · have := lv_ge hn hx
      have := Nat.pow_pos (n := xs.length - 1) (show 0 < 4294967296 by decide)
      omega
  · rintro rfl; rfl

set_option maxHeartbeats 4000000 in
theorem trim (a : Option Addr) (c : Nat) (xs : List Nat) (H : Heap) (hv : US H (.slice a xs.length c) xs) (hb : xs.length < 2 ^ 40) :
    Does Tryd.prog 42 [.slice a xs.length c] H fun w H' => ∃ n, w = .slice a n c ∧ H' = H ∧ n ≤ xs.length ∧ Nrm (xs.take n) ∧ lv (xs.take n) = lv xs := by
  obtain ⟨_, hcap⟩ := hv.cap
  refine fn_enter 21 Tryd.func42 fun W => ?_
  repeat' first
    | refine tc_seq ?_ | refine tc_region ?_ | refine at_seq_normal ?_ | refine tl_nil ?_ | refine tl_cons ?_ | refine op_move ?_ | refine op_assign ?_ | refine op_fieldAddr ?_ | refine op_load ?_ | refine op_load_agg ?_
    | refine op_indexC ?_ | refine op_indexAddr1 ?_ | refine op_indexAddr ?_ | refine op_icmp ?_ | refine op_fcmp ?_ | refine op_iarith ?_ | refine op_bcmp ?_ | refine op_unop_not ?_ | refine op_unop_neg_float ?_ | refine op_unop_neg_int ?_
    | refine op_len_slice ?_ | refine op_pick_true ?_ | refine op_pick_false ?_ | refine op_pick_true' ?_ | refine op_pick_false' ?_ | refine op_build ?_ | refine op_extract ?_ | refine op_makeInterface ?_ | refine op_typeAssert ?_ | refine op_ptr_nil ?_
    | refine op_nilCheck_ptr ?_ | refine op_nilCheck_meth ?_ | refine op_makeMeth ?_ | refine op_makeFunc ?_ | refine op_itof ?_ | refine op_itoi ?_ | refine op_ftoi ?_ | refine op_iquo ?_ | refine op_irem ?_ | refine op_ibits ?_
    | refine op_slice_isnil ?_ | refine op_slice_notnil ?_ | refine op_imax ?_ | refine op_imin ?_ | refine op_shl ?_ | refine op_shr ?_ | (refine op_alloc ?_; intro _) | (refine op_box ?_; intro _) | (refine op_buildSlice ?_; intro _) | (refine op_farith ?_; intro _ _)
    | refine op_store0 ?_ | refine op_store1 ?_ | refine op_store2 ?_ | refine op_store3 ?_ | refine op_store4 ?_ | refine op_store5 ?_ | refine op_storeK rfl ?_ | refine op_loadK rfl ?_ | refine op_load_aggK rfl ?_ | refine tc_cond_t ?_
    | refine tc_cond_f ?_ | refine tc_cond (fun _ => ?_) (fun _ => ?_) | refine tc_block ?_ | refine tc_skip ?_ | refine tc_ret ?_ | refine tc_exit ?_ | refine at_seq_ret ?_ | refine at_seq_exit ?_ | refine at_block_normal ?_ | refine at_block_ret ?_
    | refine at_block_exit_self ?_ | refine at_block_exit_ne ?_ | refine at_loop_ret ?_ | refine at_loop_exit ?_ | refine tl_guard_yes ?_ | refine tl_guard_no ?_ | refine tl_guard_yes' ?_ | refine tl_guard_no' ?_ | refine tl_guard_undef ?_ | refine tl_guard_split (fun _ => ?_) (fun _ => ?_)
  refine tc_loopH [(2, _)] (by repeat (first | exact trivial | refine ⟨rfl, ?_⟩)) (fun n : Nat => [(0, .slice a n c)]) (fun n => n ≤ xs.length ∧ lv (xs.take n) = lv xs) (fun n => n) xs.length ⟨Nat.le_refl _, by rw [List.take_of_length_le (Nat.le_refl _)]⟩ ⟨rfl, trivial⟩ ?_
  rintro n ⟨h1, h2⟩
  by_cases hn0 : n = 0
  · have hc : icmp .gtr (n : Int) 0 = false := by simp only [icmp, decide_eq_false_iff_not]; omega
    repeat' first
      | refine tc_seq ?_ | refine tc_region ?_ | refine at_seq_normal ?_ | refine tl_nil ?_ | refine tl_cons ?_ | refine op_move ?_ | refine op_assign ?_ | refine op_fieldAddr ?_ | refine op_load ?_ | refine op_load_agg ?_
      | refine op_indexC ?_ | refine op_indexAddr1 ?_ | refine op_indexAddr ?_ | refine op_icmp ?_ | refine op_fcmp ?_ | refine op_iarith ?_ | refine op_bcmp ?_ | refine op_unop_not ?_ | refine op_unop_neg_float ?_ | refine op_unop_neg_int ?_
      | refine op_len_slice ?_ | refine op_pick_true ?_ | refine op_pick_false ?_ | refine op_pick_true' ?_ | refine op_pick_false' ?_ | refine op_build ?_ | refine op_extract ?_ | refine op_makeInterface ?_ | refine op_typeAssert ?_ | refine op_ptr_nil ?_
      | refine op_nilCheck_ptr ?_ | refine op_nilCheck_meth ?_ | refine op_makeMeth ?_ | refine op_makeFunc ?_ | refine op_itof ?_ | refine op_itoi ?_ | refine op_ftoi ?_ | refine op_iquo ?_ | refine op_irem ?_ | refine op_ibits ?_
      | refine op_slice_isnil ?_ | refine op_slice_notnil ?_ | refine op_imax ?_ | refine op_imin ?_ | refine op_shl ?_ | refine op_shr ?_ | (refine op_alloc ?_; intro _) | (refine op_box ?_; intro _) | (refine op_buildSlice ?_; intro _) | (refine op_farith ?_; intro _ _)
      | refine op_store0 ?_ | refine op_store1 ?_ | refine op_store2 ?_ | refine op_store3 ?_ | refine op_store4 ?_ | refine op_store5 ?_ | refine op_storeK rfl ?_ | refine op_loadK rfl ?_ | refine op_load_aggK rfl ?_ | refine tc_cond_t ?_
      | refine tc_cond_f ?_ | refine tc_cond (fun _ => ?_) (fun _ => ?_) | refine tc_block ?_ | refine tc_skip ?_ | refine tc_ret ?_ | refine tc_exit ?_ | refine at_seq_ret ?_ | refine at_seq_exit ?_ | refine at_block_normal ?_ | refine at_block_ret ?_
      | refine at_block_exit_self ?_ | refine at_block_exit_ne ?_ | refine at_loop_ret ?_ | refine at_loop_exit ?_ | refine tl_guard_yes ?_ | refine tl_guard_no ?_ | refine tl_guard_yes' ?_ | refine tl_guard_no' ?_ | refine tl_guard_undef ?_ | refine tl_guard_split (fun _ => ?_) (fun _ => ?_)
    exact ret_tmp (hk := ⟨n, rfl, rfl, h1, fun h => by subst hn0; simp at h, h2⟩)
  have hc : icmp .gtr (n : Int) 0 = true := by simp only [icmp, decide_eq_true_eq]; omega
  obtain ⟨m, rfl⟩ : ∃ m, n = m + 1 := ⟨n - 1, by omega⟩
  obtain ⟨k, off, L, T, fz, rfl, hm, hall⟩ := us_block hv (fun e => by subst e; simp at h1)
  have hl := hall m (by omega)
  have hw1 : IntKind.i64.wrap (iarith .sub ((m + 1 : Nat) : Int) 1) = ((m : Nat) : Int) := by rw [wrap_sub (by omega) (by omega)]; omega
  by_cases hz : xs.getD m 0 = 0
  · have hce : icmp .eql ((xs.getD m 0 : Nat) : Int) 0 = true := by rw [hz]; rfl
    have hlv : lv (xs.take m) = lv xs := by rw [← h2, lv_take, hz, Nat.mul_zero, Nat.add_zero]
    generalize xs.getD m 0 = x at *
    repeat' first
      | refine op_indexAddr1 (j := m) ?_ (hy := gete (by exact rfl) hw1) (hj := by omega)
      | (refine op_slice_h (h := m) ?_ (hz := gete (by exact rfl) hw1); rw [slAt_zero (by omega)])
      | (first | refine tc_seq ?_ | refine tc_region ?_ | refine at_seq_normal ?_ | refine tl_nil ?_ | refine tl_cons ?_ | refine op_move ?_ | refine op_assign ?_ | refine op_fieldAddr ?_ | refine op_load ?_ | refine op_load_agg ?_ | refine op_indexC ?_ | refine op_indexAddr1 ?_ | refine op_indexAddr ?_ | refine op_icmp ?_ | refine op_fcmp ?_ | refine op_iarith ?_ | refine op_bcmp ?_ | refine op_unop_not ?_ | refine op_unop_neg_float ?_ | refine op_unop_neg_int ?_ | refine op_len_slice ?_ | refine op_pick_true ?_ | refine op_pick_false ?_ | refine op_pick_true' ?_ | refine op_pick_false' ?_ | refine op_build ?_ | refine op_extract ?_ | refine op_makeInterface ?_ | refine op_typeAssert ?_ | refine op_ptr_nil ?_ | refine op_nilCheck_ptr ?_ | refine op_nilCheck_meth ?_ | refine op_makeMeth ?_ | refine op_makeFunc ?_ | refine op_itof ?_ | refine op_itoi ?_ | refine op_ftoi ?_ | refine op_iquo ?_ | refine op_irem ?_ | refine op_ibits ?_ | refine op_slice_isnil ?_ | refine op_slice_notnil ?_ | refine op_imax ?_ | refine op_imin ?_ | refine op_shl ?_ | refine op_shr ?_ | (refine op_alloc ?_; intro _) | (refine op_box ?_; intro _) | (refine op_buildSlice ?_; intro _) | (refine op_farith ?_; intro _ _) | refine op_store0 ?_ | refine op_store1 ?_ | refine op_store2 ?_ | refine op_store3 ?_ | refine op_store4 ?_ | refine op_store5 ?_ | refine op_storeK rfl ?_ | refine op_loadK rfl ?_ | refine op_load_aggK rfl ?_ | refine tc_cond_t ?_ | refine tc_cond_f ?_ | refine tc_cond (fun _ => ?_) (fun _ => ?_) | refine tc_block ?_ | refine tc_skip ?_ | refine tc_ret ?_ | refine tc_exit ?_ | refine at_seq_ret ?_ | refine at_seq_exit ?_ | refine at_block_normal ?_ | refine at_block_ret ?_ | refine at_block_exit_self ?_ | refine at_block_exit_ne ?_ | refine at_loop_ret ?_ | refine at_loop_exit ?_ | refine tl_guard_yes ?_ | refine tl_guard_no ?_ | refine tl_guard_yes' ?_ | refine tl_guard_no' ?_ | refine tl_guard_undef ?_ | refine tl_guard_split (fun _ => ?_) (fun _ => ?_) | fail)
      | fail
    exact at_loopK m ⟨by omega, hlv⟩ (by omega) ⟨rfl, trivial⟩ (by repeat (first | exact trivial | refine ⟨rfl, ?_⟩)) (List.Sublist.refl _)
  · have hce : icmp .eql ((xs.getD m 0 : Nat) : Int) 0 = false := by simp only [icmp, beq_eq_false_iff_ne]; omega
    have hN : Nrm (xs.take (m + 1)) := fun _ => by
      rw [List.length_take, Nat.min_eq_left h1, Nat.add_sub_cancel, List.getD_eq_getElem?_getD, List.getElem?_take, if_pos (by omega), ← List.getD_eq_getElem?_getD]; exact hz
    generalize xs.getD m 0 = x at *
    repeat' first
      | refine op_indexAddr1 (j := m) ?_ (hy := gete (by exact rfl) hw1) (hj := by omega)
      | (first | refine tc_seq ?_ | refine tc_region ?_ | refine at_seq_normal ?_ | refine tl_nil ?_ | refine tl_cons ?_ | refine op_move ?_ | refine op_assign ?_ | refine op_fieldAddr ?_ | refine op_load ?_ | refine op_load_agg ?_ | refine op_indexC ?_ | refine op_indexAddr1 ?_ | refine op_indexAddr ?_ | refine op_icmp ?_ | refine op_fcmp ?_ | refine op_iarith ?_ | refine op_bcmp ?_ | refine op_unop_not ?_ | refine op_unop_neg_float ?_ | refine op_unop_neg_int ?_ | refine op_len_slice ?_ | refine op_pick_true ?_ | refine op_pick_false ?_ | refine op_pick_true' ?_ | refine op_pick_false' ?_ | refine op_build ?_ | refine op_extract ?_ | refine op_makeInterface ?_ | refine op_typeAssert ?_ | refine op_ptr_nil ?_ | refine op_nilCheck_ptr ?_ | refine op_nilCheck_meth ?_ | refine op_makeMeth ?_ | refine op_makeFunc ?_ | refine op_itof ?_ | refine op_itoi ?_ | refine op_ftoi ?_ | refine op_iquo ?_ | refine op_irem ?_ | refine op_ibits ?_ | refine op_slice_isnil ?_ | refine op_slice_notnil ?_ | refine op_imax ?_ | refine op_imin ?_ | refine op_shl ?_ | refine op_shr ?_ | (refine op_alloc ?_; intro _) | (refine op_box ?_; intro _) | (refine op_buildSlice ?_; intro _) | (refine op_farith ?_; intro _ _) | refine op_store0 ?_ | refine op_store1 ?_ | refine op_store2 ?_ | refine op_store3 ?_ | refine op_store4 ?_ | refine op_store5 ?_ | refine op_storeK rfl ?_ | refine op_loadK rfl ?_ | refine op_load_aggK rfl ?_ | refine tc_cond_t ?_ | refine tc_cond_f ?_ | refine tc_cond (fun _ => ?_) (fun _ => ?_) | refine tc_block ?_ | refine tc_skip ?_ | refine tc_ret ?_ | refine tc_exit ?_ | refine at_seq_ret ?_ | refine at_seq_exit ?_ | refine at_block_normal ?_ | refine at_block_ret ?_ | refine at_block_exit_self ?_ | refine at_block_exit_ne ?_ | refine at_loop_ret ?_ | refine at_loop_exit ?_ | refine tl_guard_yes ?_ | refine tl_guard_no ?_ | refine tl_guard_yes' ?_ | refine tl_guard_no' ?_ | refine tl_guard_undef ?_ | refine tl_guard_split (fun _ => ?_) (fun _ => ?_) | fail)
      | fail
    exact ret_tmp (hk := ⟨m + 1, rfl, rfl, h1, hN, h2⟩)

/-- How two lists stand to each other, from the last number on. -/
def cmpFrom (xs ys : List Nat) : Nat → Int
  | 0 => 0
  | n + 1 => if xs.getD n 0 = ys.getD n 0 then cmpFrom xs ys n else if xs.getD n 0 < ys.getD n 0 then -1 else 1
theorem cmpFrom_spec {xs ys : List Nat} (hx : Lm xs) (hy : Lm ys) : ∀ n, n ≤ xs.length → n ≤ ys.length →
    cmpFrom xs ys n = if lv (xs.take n) < lv (ys.take n) then -1 else if lv (xs.take n) = lv (ys.take n) then 0 else 1
  | 0, _, _ => by simp [cmpFrom, lv]
  | n + 1, h1, h2 => by
    have ih := cmpFrom_spec hx hy n (by omega) (by omega)
    have ex := lv_take xs n
    have ey := lv_take ys n
    have bx := lv_lt (hx.take n)
    have bY := lv_lt (hy.take n)
    rw [List.length_take, Nat.min_eq_left (by omega)] at bx bY
    unfold cmpFrom
    rw [ex, ey]
    generalize xs.getD n 0 = u at *
    generalize ys.getD n 0 = v at *
    generalize lv (xs.take n) = p at *
    generalize lv (ys.take n) = q at *
    generalize 4294967296 ^ n = w at *
    by_cases h : u = v
    · subst h
      rw [if_pos rfl, ih]
      by_cases c1 : p < q
      · rw [if_pos c1, if_pos (by omega)]
      · by_cases c2 : p = q
        · rw [if_neg c1, if_pos c2, if_neg (by omega), if_pos (by omega)]
        · rw [if_neg c1, if_neg c2, if_neg (by omega), if_neg (by omega)]
    · rw [if_neg h]
      by_cases c : u < v
      · have := Nat.mul_le_mul_left w (show u + 1 ≤ v by omega)
        rw [Nat.mul_add] at this
        rw [if_pos c, if_pos (by omega)]
      · have := Nat.mul_le_mul_left w (show v + 1 ≤ u by omega)
        rw [Nat.mul_add] at this
        rw [if_neg c, if_neg (by omega), if_neg (by omega)]

def cmpI (p q : Nat) : Int := if p < q then -1 else if p = q then 0 else 1

set_option maxHeartbeats 4000000 in
theorem cmpLimbs (a1 a2 : Option Addr) (c1 c2 : Nat) (xs ys : List Nat) (H : Heap) (hv : US H (.slice a1 xs.length c1) xs) (hu : US H (.slice a2 ys.length c2) ys) (hx : Lm xs) (hy : Lm ys) (nx : Nrm xs) (ny : Nrm ys) (hb : xs.length < 2 ^ 40) (hb2 : ys.length < 2 ^ 40) :
    Does Tryd.prog 44 [.slice a1 xs.length c1, .slice a2 ys.length c2] H fun w H' => w = .int .i64 (cmpI (lv xs) (lv ys)) ∧ H' = H := by
  refine fn_enter 41 Tryd.func44 fun W => ?_
  by_cases hl : xs.length = ys.length
  rotate_left
  · have hc : icmp .neq (xs.length : Int) (ys.length : Int) = true := by simp only [icmp, bne_iff_ne]; omega
    by_cases hlt : xs.length < ys.length
    · have hc2 : icmp .lss (xs.length : Int) (ys.length : Int) = true := by rw [lss_nat]; simpa using hlt
      have hlv : lv xs < lv ys := by
        have h1 := lv_lt hx
        have h2 := lv_ge ny (fun e => by subst e; simp at hlt)
        have h3 := Nat.pow_le_pow_right (show 0 < 4294967296 by decide) (show xs.length ≤ ys.length - 1 by omega)
        omega
      repeat' first
        | refine tc_seq ?_ | refine tc_region ?_ | refine at_seq_normal ?_ | refine tl_nil ?_ | refine tl_cons ?_ | refine op_move ?_ | refine op_assign ?_ | refine op_load ?_ | refine op_load_agg ?_ | refine op_indexC ?_
        | refine op_indexAddr1 ?_ | refine op_indexAddr ?_ | refine op_icmp ?_ | refine op_iarith ?_ | refine op_len_slice ?_ | refine op_loadK rfl ?_ | refine op_load_aggK rfl ?_ | refine tc_cond_t ?_ | refine tc_cond_f ?_ | refine tc_cond (fun _ => ?_) (fun _ => ?_)
        | refine tc_block ?_ | refine tc_skip ?_ | refine tc_ret ?_ | refine tc_exit ?_ | refine at_seq_ret ?_ | refine at_seq_exit ?_ | refine at_block_normal ?_ | refine at_block_ret ?_ | refine at_block_exit_self ?_ | refine at_block_exit_ne ?_
        | refine at_loop_ret ?_ | refine at_loop_exit ?_
      exact ret_tmp (hk := ⟨by rw [cmpI, if_pos hlv], rfl⟩)
    · have hc2 : icmp .lss (xs.length : Int) (ys.length : Int) = false := by rw [lss_nat]; simpa using hlt
      have hlv : lv ys < lv xs := by
        have h1 := lv_lt hy
        have h2 := lv_ge nx (fun e => by rw [e] at hl hlt; simp only [List.length_nil] at hl hlt; omega)
        have h3 := Nat.pow_le_pow_right (show 0 < 4294967296 by decide) (show ys.length ≤ xs.length - 1 by omega)
        omega
      repeat' first
        | refine tc_seq ?_ | refine tc_region ?_ | refine at_seq_normal ?_ | refine tl_nil ?_ | refine tl_cons ?_ | refine op_move ?_ | refine op_assign ?_ | refine op_load ?_ | refine op_load_agg ?_ | refine op_indexC ?_
        | refine op_indexAddr1 ?_ | refine op_indexAddr ?_ | refine op_icmp ?_ | refine op_iarith ?_ | refine op_len_slice ?_ | refine op_loadK rfl ?_ | refine op_load_aggK rfl ?_ | refine tc_cond_t ?_ | refine tc_cond_f ?_ | refine tc_cond (fun _ => ?_) (fun _ => ?_)
        | refine tc_block ?_ | refine tc_skip ?_ | refine tc_ret ?_ | refine tc_exit ?_ | refine at_seq_ret ?_ | refine at_seq_exit ?_ | refine at_block_normal ?_ | refine at_block_ret ?_ | refine at_block_exit_self ?_ | refine at_block_exit_ne ?_
        | refine at_loop_ret ?_ | refine at_loop_exit ?_
      exact ret_tmp (hk := ⟨by rw [cmpI, if_neg (by omega), if_neg (by omega)], rfl⟩)
  have hc : icmp .neq (xs.length : Int) (ys.length : Int) = false := by simp only [icmp, bne_eq_false_iff_eq]; omega
  have hw0 := wrap_sub (a := (xs.length : Int)) (b := 1) (by omega) (by omega)
  repeat' first
    | refine tc_seq ?_ | refine tc_region ?_ | refine at_seq_normal ?_ | refine tl_nil ?_ | refine tl_cons ?_ | refine op_move ?_ | refine op_assign ?_ | refine op_load ?_ | refine op_load_agg ?_ | refine op_indexC ?_
    | refine op_indexAddr1 ?_ | refine op_indexAddr ?_ | refine op_icmp ?_ | refine op_iarith ?_ | refine op_len_slice ?_ | refine op_loadK rfl ?_ | refine op_load_aggK rfl ?_ | refine tc_cond_t ?_ | refine tc_cond_f ?_ | refine tc_cond (fun _ => ?_) (fun _ => ?_)
    | refine tc_block ?_ | refine tc_skip ?_ | refine tc_ret ?_ | refine tc_exit ?_ | refine at_seq_ret ?_ | refine at_seq_exit ?_ | refine at_block_normal ?_ | refine at_block_ret ?_ | refine at_block_exit_self ?_ | refine at_block_exit_ne ?_
    | refine at_loop_ret ?_ | refine at_loop_exit ?_
  refine tc_loopH [(0, _), (1, _)] (by repeat (first | exact trivial | refine ⟨rfl, ?_⟩)) (fun n : Nat => [(5, .int .i64 ((n : Int) - 1))]) (fun n => n ≤ xs.length ∧ cmpFrom xs ys n = cmpFrom xs ys xs.length) (fun n => n) xs.length ⟨Nat.le_refl _, rfl⟩ ⟨geti rfl hw0, trivial⟩ ?_
  rintro n ⟨h1, h2⟩
  have hspec := cmpFrom_spec hx hy xs.length (Nat.le_refl _) (by omega)
  rw [List.take_of_length_le (Nat.le_refl _), List.take_of_length_le (by omega)] at hspec
  rw [hspec] at h2
  by_cases hn0 : n = 0
  · subst hn0
    have hc2 : icmp .geq (((0 : Nat) : Int) - 1) 0 = false := by decide
    repeat' first
      | refine tc_seq ?_ | refine tc_region ?_ | refine at_seq_normal ?_ | refine tl_nil ?_ | refine tl_cons ?_ | refine op_move ?_ | refine op_assign ?_ | refine op_load ?_ | refine op_load_agg ?_ | refine op_indexC ?_
      | refine op_indexAddr1 ?_ | refine op_indexAddr ?_ | refine op_icmp ?_ | refine op_iarith ?_ | refine op_len_slice ?_ | refine op_loadK rfl ?_ | refine op_load_aggK rfl ?_ | refine tc_cond_t ?_ | refine tc_cond_f ?_ | refine tc_cond (fun _ => ?_) (fun _ => ?_)
      | refine tc_block ?_ | refine tc_skip ?_ | refine tc_ret ?_ | refine tc_exit ?_ | refine at_seq_ret ?_ | refine at_seq_exit ?_ | refine at_block_normal ?_ | refine at_block_ret ?_ | refine at_block_exit_self ?_ | refine at_block_exit_ne ?_
      | refine at_loop_ret ?_ | refine at_loop_exit ?_
    exact ret_tmp (hk := ⟨by rw [cmpI, ← h2]; rfl, rfl⟩)
  obtain ⟨m, rfl⟩ : ∃ m, n = m + 1 := ⟨n - 1, by omega⟩
  have hi : (((m + 1 : Nat) : Int) - 1) = ((m : Nat) : Int) := by omega
  rw [hi]
  have hc2 : icmp .geq ((m : Nat) : Int) 0 = true := by simp only [icmp, decide_eq_true_eq]; omega
  have hw1 := wrap_sub (a := (m : Int)) (b := 1) (by omega) (by omega)
  obtain ⟨k1, o1, L1, T1, z1, rfl, m1, hall1⟩ := us_block hv (fun e => by subst e; simp at h1)
  obtain ⟨k2, o2, L2, T2, z2, rfl, m2, hall2⟩ := us_block hu (fun e => by rw [e] at hl; simp only [List.length_nil] at hl; omega)
  have l1 := hall1 m (by omega)
  have l2 := hall2 m (by omega)
  have i1 : m < xs.length := by omega
  have i2 : m < ys.length := by omega
  unfold cmpFrom at h2
  generalize xs.getD m 0 = x at *
  generalize ys.getD m 0 = y at *
  clear hall1 hall2
  by_cases he : x = y
  · rw [if_pos he] at h2
    have hne : icmp .neq (x : Int) (y : Int) = false := by simp only [icmp, bne_eq_false_iff_eq]; omega
    repeat' first
      | refine tc_seq ?_ | refine tc_region ?_ | refine at_seq_normal ?_ | refine tl_nil ?_ | refine tl_cons ?_ | refine op_move ?_ | refine op_assign ?_ | refine op_load ?_ | refine op_load_agg ?_ | refine op_indexC ?_
      | refine op_indexAddr1 ?_ | refine op_indexAddr ?_ | refine op_icmp ?_ | refine op_iarith ?_ | refine op_len_slice ?_ | refine op_loadK rfl ?_ | refine op_load_aggK rfl ?_ | refine tc_cond_t ?_ | refine tc_cond_f ?_ | refine tc_cond (fun _ => ?_) (fun _ => ?_)
      | refine tc_block ?_ | refine tc_skip ?_ | refine tc_ret ?_ | refine tc_exit ?_ | refine at_seq_ret ?_ | refine at_seq_exit ?_ | refine at_block_normal ?_ | refine at_block_ret ?_ | refine at_block_exit_self ?_ | refine at_block_exit_ne ?_
      | refine at_loop_ret ?_ | refine at_loop_exit ?_
    apply fun hole0 hole1 hole2 hole3 hole4 hole5 hole6 hole7 hE hD hml hdl hpr prem fin => tc_drawn 9 [is hole0, is hole1, is hole2, is hole3, is hole4, is hole5, is hole6, is hole7, (is (.bool false))]
      [some 23, some 24, some 25, some 26, some 27, some 28, some 29, some 30, some 31] [[], [], [0, 1], [2], [], [], [4, 5], [6], [3, 7]] mixed ⟨(is_mono _), (is_mono _), (is_mono _), (is_mono _), (is_mono _), (is_mono _), (is_mono _), (is_mono _), (some_mono _), trivial⟩ prem fin hE hD rfl hml hdl hpr
    rotate_left 9
    · first | kernel_rfl | exact rfl
    · first | kernel_rfl | exact rfl
    · exact Nat.le_of_ble_eq_true rfl
    · first | kernel_rfl | exact rfl
    · first | kernel_rfl | exact rfl
    refine ⟨fun G hG => ?_, fun G hG => ?_, fun G hG => ?_, fun G hG => ?_, fun G hG => ?_, fun G hG => ?_, fun G hG => ?_, fun G hG => ?_, fun G hG => ?_, trivial⟩
    · simp only [with2, Step2, nthDst, putO]
      (refine op_move ?_; exact ⟨[], rfl, rfl, rfl⟩)
    · simp only [with2, Step2, nthDst, putO]
      (refine op_move ?_; exact ⟨[], rfl, rfl, rfl⟩)
    · rintro _ _ ⟨rfl, rfl⟩ - _ _ ⟨rfl, rfl⟩ -
      simp only [with2, Step2, nthDst, putO]
      ((first | refine op_indexC ?_ | refine op_indexAddr1 ?_ | refine op_indexAddr ?_); exact ⟨[], rfl, rfl, rfl⟩)
    · rintro _ _ ⟨rfl, rfl⟩ -
      simp only [with2, Step2, nthDst, putO]
      ((first | refine op_load ?_ | refine op_load_agg ?_ | refine op_load ?_ (hm := Sub.mem (by assumption) (by (repeat (apply List.mem_cons_of_mem)); assumption)) | refine op_load_agg ?_ (hm := Sub.mem (by assumption) (by (repeat (apply List.mem_cons_of_mem)); assumption)) | refine op_loadH hG rfl ?_ | refine op_load_aggH hG rfl ?_); exact ⟨[], rfl, rfl, rfl⟩)
    · simp only [with2, Step2, nthDst, putO]
      (refine op_move ?_; exact ⟨[], rfl, rfl, rfl⟩)
    · simp only [with2, Step2, nthDst, putO]
      (refine op_move ?_; exact ⟨[], rfl, rfl, rfl⟩)
    · rintro _ _ ⟨rfl, rfl⟩ - _ _ ⟨rfl, rfl⟩ -
      simp only [with2, Step2, nthDst, putO]
      ((first | refine op_indexC ?_ | refine op_indexAddr1 ?_ | refine op_indexAddr ?_); exact ⟨[], rfl, rfl, rfl⟩)
    · rintro _ _ ⟨rfl, rfl⟩ -
      simp only [with2, Step2, nthDst, putO]
      ((first | refine op_load ?_ | refine op_load_agg ?_ | refine op_load ?_ (hm := Sub.mem (by assumption) (by (repeat (apply List.mem_cons_of_mem)); assumption)) | refine op_load_agg ?_ (hm := Sub.mem (by assumption) (by (repeat (apply List.mem_cons_of_mem)); assumption)) | refine op_loadH hG rfl ?_ | refine op_load_aggH hG rfl ?_); exact ⟨[], rfl, rfl, rfl⟩)
    · rintro _ _ ⟨rfl, rfl⟩ - _ _ ⟨rfl, rfl⟩ -
      simp only [with2, Step2, nthDst, putO]
      (refine op_icmp ?_; exact ⟨[], rfl, congrArg Value.bool hne, rfl⟩)
    · rintro _ _ _ _ _ _ _ _ _ _ _ _ _ _ _ _ _ _ ⟨⟨rfl, rfl⟩, ⟨rfl, rfl⟩, ⟨rfl, rfl⟩, ⟨rfl, rfl⟩, ⟨rfl, rfl⟩, ⟨rfl, rfl⟩, ⟨rfl, rfl⟩, ⟨rfl, rfl⟩, ⟨rfl, rfl⟩, _⟩
      simp only [List.nil_append, List.cons_append, List.append_nil, List.drop_succ_cons, List.drop_zero, nthDst, putO]
      repeat' first
        | refine tc_seq ?_ | refine tc_region ?_ | refine at_seq_normal ?_ | refine tl_nil ?_ | refine tl_cons ?_ | refine op_move ?_ | refine op_assign ?_ | refine op_load ?_ | refine op_load_agg ?_ | refine op_indexC ?_
        | refine op_indexAddr1 ?_ | refine op_indexAddr ?_ | refine op_icmp ?_ | refine op_iarith ?_ | refine op_len_slice ?_ | refine op_loadK rfl ?_ | refine op_load_aggK rfl ?_ | refine tc_cond_t ?_ | refine tc_cond_f ?_ | refine tc_cond (fun _ => ?_) (fun _ => ?_)
        | refine tc_block ?_ | refine tc_skip ?_ | refine tc_ret ?_ | refine tc_exit ?_ | refine at_seq_ret ?_ | refine at_seq_exit ?_ | refine at_block_normal ?_ | refine at_block_ret ?_ | refine at_block_exit_self ?_ | refine at_block_exit_ne ?_
        | refine at_loop_ret ?_ | refine at_loop_exit ?_
      exact at_loop_normal m ⟨by omega, by rw [h2, hspec]⟩ (Nat.lt_succ_self _) (Incl.get ⟨geti rfl hw1, (by repeat (first | exact trivial | refine ⟨rfl, ?_⟩))⟩) (List.Sublist.refl _)
  · rw [if_neg he] at h2
    have hne : icmp .neq (x : Int) (y : Int) = true := by simp only [icmp, bne_iff_ne]; omega
    by_cases hlt : x < y
    · rw [if_pos hlt] at h2
      have hls : icmp .lss (x : Int) (y : Int) = true := by rw [lss_nat]; simpa using hlt
      repeat' first
        | refine tc_seq ?_ | refine tc_region ?_ | refine at_seq_normal ?_ | refine tl_nil ?_ | refine tl_cons ?_ | refine op_move ?_ | refine op_assign ?_ | refine op_load ?_ | refine op_load_agg ?_ | refine op_indexC ?_
        | refine op_indexAddr1 ?_ | refine op_indexAddr ?_ | refine op_icmp ?_ | refine op_iarith ?_ | refine op_len_slice ?_ | refine op_loadK rfl ?_ | refine op_load_aggK rfl ?_ | refine tc_cond_t ?_ | refine tc_cond_f ?_ | refine tc_cond (fun _ => ?_) (fun _ => ?_)
        | refine tc_block ?_ | refine tc_skip ?_ | refine tc_ret ?_ | refine tc_exit ?_ | refine at_seq_ret ?_ | refine at_seq_exit ?_ | refine at_block_normal ?_ | refine at_block_ret ?_ | refine at_block_exit_self ?_ | refine at_block_exit_ne ?_
        | refine at_loop_ret ?_ | refine at_loop_exit ?_
      apply fun hole0 hole1 hole2 hole3 hole4 hole5 hole6 hole7 hE hD hml hdl hpr prem fin => tc_drawn 9 [is hole0, is hole1, is hole2, is hole3, is hole4, is hole5, is hole6, is hole7, (is (.bool true))]
        [some 23, some 24, some 25, some 26, some 27, some 28, some 29, some 30, some 31] [[], [], [0, 1], [2], [], [], [4, 5], [6], [3, 7]] mixed ⟨(is_mono _), (is_mono _), (is_mono _), (is_mono _), (is_mono _), (is_mono _), (is_mono _), (is_mono _), (some_mono _), trivial⟩ prem fin hE hD rfl hml hdl hpr
      rotate_left 9
      · first | kernel_rfl | exact rfl
      · first | kernel_rfl | exact rfl
      · exact Nat.le_of_ble_eq_true rfl
      · first | kernel_rfl | exact rfl
      · first | kernel_rfl | exact rfl
      refine ⟨fun G hG => ?_, fun G hG => ?_, fun G hG => ?_, fun G hG => ?_, fun G hG => ?_, fun G hG => ?_, fun G hG => ?_, fun G hG => ?_, fun G hG => ?_, trivial⟩
      · simp only [with2, Step2, nthDst, putO]
        (refine op_move ?_; exact ⟨[], rfl, rfl, rfl⟩)
      · simp only [with2, Step2, nthDst, putO]
        (refine op_move ?_; exact ⟨[], rfl, rfl, rfl⟩)
      · rintro _ _ ⟨rfl, rfl⟩ - _ _ ⟨rfl, rfl⟩ -
        simp only [with2, Step2, nthDst, putO]
        ((first | refine op_indexC ?_ | refine op_indexAddr1 ?_ | refine op_indexAddr ?_); exact ⟨[], rfl, rfl, rfl⟩)
      · rintro _ _ ⟨rfl, rfl⟩ -
        simp only [with2, Step2, nthDst, putO]
        ((first | refine op_load ?_ | refine op_load_agg ?_ | refine op_load ?_ (hm := Sub.mem (by assumption) (by (repeat (apply List.mem_cons_of_mem)); assumption)) | refine op_load_agg ?_ (hm := Sub.mem (by assumption) (by (repeat (apply List.mem_cons_of_mem)); assumption)) | refine op_loadH hG rfl ?_ | refine op_load_aggH hG rfl ?_); exact ⟨[], rfl, rfl, rfl⟩)
      · simp only [with2, Step2, nthDst, putO]
        (refine op_move ?_; exact ⟨[], rfl, rfl, rfl⟩)
      · simp only [with2, Step2, nthDst, putO]
        (refine op_move ?_; exact ⟨[], rfl, rfl, rfl⟩)
      · rintro _ _ ⟨rfl, rfl⟩ - _ _ ⟨rfl, rfl⟩ -
        simp only [with2, Step2, nthDst, putO]
        ((first | refine op_indexC ?_ | refine op_indexAddr1 ?_ | refine op_indexAddr ?_); exact ⟨[], rfl, rfl, rfl⟩)
      · rintro _ _ ⟨rfl, rfl⟩ -
        simp only [with2, Step2, nthDst, putO]
        ((first | refine op_load ?_ | refine op_load_agg ?_ | refine op_load ?_ (hm := Sub.mem (by assumption) (by (repeat (apply List.mem_cons_of_mem)); assumption)) | refine op_load_agg ?_ (hm := Sub.mem (by assumption) (by (repeat (apply List.mem_cons_of_mem)); assumption)) | refine op_loadH hG rfl ?_ | refine op_load_aggH hG rfl ?_); exact ⟨[], rfl, rfl, rfl⟩)
      · rintro _ _ ⟨rfl, rfl⟩ - _ _ ⟨rfl, rfl⟩ -
        simp only [with2, Step2, nthDst, putO]
        (refine op_icmp ?_; exact ⟨[], rfl, congrArg Value.bool hne, rfl⟩)
      · rintro _ _ _ _ _ _ _ _ _ _ _ _ _ _ _ _ _ _ ⟨⟨rfl, rfl⟩, ⟨rfl, rfl⟩, ⟨rfl, rfl⟩, ⟨rfl, rfl⟩, ⟨rfl, rfl⟩, ⟨rfl, rfl⟩, ⟨rfl, rfl⟩, ⟨rfl, rfl⟩, ⟨rfl, rfl⟩, _⟩
        simp only [List.nil_append, List.cons_append, List.append_nil, List.drop_succ_cons, List.drop_zero, nthDst, putO]
        repeat' first
          | refine tc_seq ?_ | refine tc_region ?_ | refine at_seq_normal ?_ | refine tl_nil ?_ | refine tl_cons ?_ | refine op_move ?_ | refine op_assign ?_ | refine op_load ?_ | refine op_load_agg ?_ | refine op_indexC ?_
          | refine op_indexAddr1 ?_ | refine op_indexAddr ?_ | refine op_icmp ?_ | refine op_iarith ?_ | refine op_len_slice ?_ | refine op_loadK rfl ?_ | refine op_load_aggK rfl ?_ | refine tc_cond_t ?_ | refine tc_cond_f ?_ | refine tc_cond (fun _ => ?_) (fun _ => ?_)
          | refine tc_block ?_ | refine tc_skip ?_ | refine tc_ret ?_ | refine tc_exit ?_ | refine at_seq_ret ?_ | refine at_seq_exit ?_ | refine at_block_normal ?_ | refine at_block_ret ?_ | refine at_block_exit_self ?_ | refine at_block_exit_ne ?_
          | refine at_loop_ret ?_ | refine at_loop_exit ?_
        apply fun hole0 hole1 hole2 hole3 hole4 hole5 hole6 hole7 hE hD hml hdl hpr prem fin => tc_drawn 9 [is hole0, is hole1, is hole2, is hole3, is hole4, is hole5, is hole6, is hole7, (is (.bool true))]
          [some 32, some 33, some 34, some 35, some 36, some 37, some 38, some 39, some 40] [[], [], [0, 1], [2], [], [], [4, 5], [6], [3, 7]] mixed ⟨(is_mono _), (is_mono _), (is_mono _), (is_mono _), (is_mono _), (is_mono _), (is_mono _), (is_mono _), (some_mono _), trivial⟩ prem fin hE hD rfl hml hdl hpr
        rotate_left 9
        · first | kernel_rfl | exact rfl
        · first | kernel_rfl | exact rfl
        · exact Nat.le_of_ble_eq_true rfl
        · first | kernel_rfl | exact rfl
        · first | kernel_rfl | exact rfl
        refine ⟨fun G hG => ?_, fun G hG => ?_, fun G hG => ?_, fun G hG => ?_, fun G hG => ?_, fun G hG => ?_, fun G hG => ?_, fun G hG => ?_, fun G hG => ?_, trivial⟩
        · simp only [with2, Step2, nthDst, putO]
          (refine op_move ?_; exact ⟨[], rfl, rfl, rfl⟩)
        · simp only [with2, Step2, nthDst, putO]
          (refine op_move ?_; exact ⟨[], rfl, rfl, rfl⟩)
        · rintro _ _ ⟨rfl, rfl⟩ - _ _ ⟨rfl, rfl⟩ -
          simp only [with2, Step2, nthDst, putO]
          ((first | refine op_indexC ?_ | refine op_indexAddr1 ?_ | refine op_indexAddr ?_); exact ⟨[], rfl, rfl, rfl⟩)
        · rintro _ _ ⟨rfl, rfl⟩ -
          simp only [with2, Step2, nthDst, putO]
          ((first | refine op_load ?_ | refine op_load_agg ?_ | refine op_load ?_ (hm := Sub.mem (by assumption) (by (repeat (apply List.mem_cons_of_mem)); assumption)) | refine op_load_agg ?_ (hm := Sub.mem (by assumption) (by (repeat (apply List.mem_cons_of_mem)); assumption)) | refine op_loadH hG rfl ?_ | refine op_load_aggH hG rfl ?_); exact ⟨[], rfl, rfl, rfl⟩)
        · simp only [with2, Step2, nthDst, putO]
          (refine op_move ?_; exact ⟨[], rfl, rfl, rfl⟩)
        · simp only [with2, Step2, nthDst, putO]
          (refine op_move ?_; exact ⟨[], rfl, rfl, rfl⟩)
        · rintro _ _ ⟨rfl, rfl⟩ - _ _ ⟨rfl, rfl⟩ -
          simp only [with2, Step2, nthDst, putO]
          ((first | refine op_indexC ?_ | refine op_indexAddr1 ?_ | refine op_indexAddr ?_); exact ⟨[], rfl, rfl, rfl⟩)
        · rintro _ _ ⟨rfl, rfl⟩ -
          simp only [with2, Step2, nthDst, putO]
          ((first | refine op_load ?_ | refine op_load_agg ?_ | refine op_load ?_ (hm := Sub.mem (by assumption) (by (repeat (apply List.mem_cons_of_mem)); assumption)) | refine op_load_agg ?_ (hm := Sub.mem (by assumption) (by (repeat (apply List.mem_cons_of_mem)); assumption)) | refine op_loadH hG rfl ?_ | refine op_load_aggH hG rfl ?_); exact ⟨[], rfl, rfl, rfl⟩)
        · rintro _ _ ⟨rfl, rfl⟩ - _ _ ⟨rfl, rfl⟩ -
          simp only [with2, Step2, nthDst, putO]
          (refine op_icmp ?_; exact ⟨[], rfl, congrArg Value.bool hls, rfl⟩)
        · rintro _ _ _ _ _ _ _ _ _ _ _ _ _ _ _ _ _ _ ⟨⟨rfl, rfl⟩, ⟨rfl, rfl⟩, ⟨rfl, rfl⟩, ⟨rfl, rfl⟩, ⟨rfl, rfl⟩, ⟨rfl, rfl⟩, ⟨rfl, rfl⟩, ⟨rfl, rfl⟩, ⟨rfl, rfl⟩, _⟩
          simp only [List.nil_append, List.cons_append, List.append_nil, List.drop_succ_cons, List.drop_zero, nthDst, putO]
          repeat' first
            | refine tc_seq ?_ | refine tc_region ?_ | refine at_seq_normal ?_ | refine tl_nil ?_ | refine tl_cons ?_ | refine op_move ?_ | refine op_assign ?_ | refine op_load ?_ | refine op_load_agg ?_ | refine op_indexC ?_
            | refine op_indexAddr1 ?_ | refine op_indexAddr ?_ | refine op_icmp ?_ | refine op_iarith ?_ | refine op_len_slice ?_ | refine op_loadK rfl ?_ | refine op_load_aggK rfl ?_ | refine tc_cond_t ?_ | refine tc_cond_f ?_ | refine tc_cond (fun _ => ?_) (fun _ => ?_)
            | refine tc_block ?_ | refine tc_skip ?_ | refine tc_ret ?_ | refine tc_exit ?_ | refine at_seq_ret ?_ | refine at_seq_exit ?_ | refine at_block_normal ?_ | refine at_block_ret ?_ | refine at_block_exit_self ?_ | refine at_block_exit_ne ?_
            | refine at_loop_ret ?_ | refine at_loop_exit ?_
          exact ret_tmp (hk := ⟨by rw [cmpI, ← h2], rfl⟩)
    · rw [if_neg hlt] at h2
      have hls : icmp .lss (x : Int) (y : Int) = false := by rw [lss_nat]; simpa using hlt
      repeat' first
        | refine tc_seq ?_ | refine tc_region ?_ | refine at_seq_normal ?_ | refine tl_nil ?_ | refine tl_cons ?_ | refine op_move ?_ | refine op_assign ?_ | refine op_load ?_ | refine op_load_agg ?_ | refine op_indexC ?_
        | refine op_indexAddr1 ?_ | refine op_indexAddr ?_ | refine op_icmp ?_ | refine op_iarith ?_ | refine op_len_slice ?_ | refine op_loadK rfl ?_ | refine op_load_aggK rfl ?_ | refine tc_cond_t ?_ | refine tc_cond_f ?_ | refine tc_cond (fun _ => ?_) (fun _ => ?_)
        | refine tc_block ?_ | refine tc_skip ?_ | refine tc_ret ?_ | refine tc_exit ?_ | refine at_seq_ret ?_ | refine at_seq_exit ?_ | refine at_block_normal ?_ | refine at_block_ret ?_ | refine at_block_exit_self ?_ | refine at_block_exit_ne ?_
        | refine at_loop_ret ?_ | refine at_loop_exit ?_
      apply fun hole0 hole1 hole2 hole3 hole4 hole5 hole6 hole7 hE hD hml hdl hpr prem fin => tc_drawn 9 [is hole0, is hole1, is hole2, is hole3, is hole4, is hole5, is hole6, is hole7, (is (.bool true))]
        [some 23, some 24, some 25, some 26, some 27, some 28, some 29, some 30, some 31] [[], [], [0, 1], [2], [], [], [4, 5], [6], [3, 7]] mixed ⟨(is_mono _), (is_mono _), (is_mono _), (is_mono _), (is_mono _), (is_mono _), (is_mono _), (is_mono _), (some_mono _), trivial⟩ prem fin hE hD rfl hml hdl hpr
      rotate_left 9
      · first | kernel_rfl | exact rfl
      · first | kernel_rfl | exact rfl
      · exact Nat.le_of_ble_eq_true rfl
      · first | kernel_rfl | exact rfl
      · first | kernel_rfl | exact rfl
      refine ⟨fun G hG => ?_, fun G hG => ?_, fun G hG => ?_, fun G hG => ?_, fun G hG => ?_, fun G hG => ?_, fun G hG => ?_, fun G hG => ?_, fun G hG => ?_, trivial⟩
      · simp only [with2, Step2, nthDst, putO]
        (refine op_move ?_; exact ⟨[], rfl, rfl, rfl⟩)
      · simp only [with2, Step2, nthDst, putO]
        (refine op_move ?_; exact ⟨[], rfl, rfl, rfl⟩)
      · rintro _ _ ⟨rfl, rfl⟩ - _ _ ⟨rfl, rfl⟩ -
        simp only [with2, Step2, nthDst, putO]
        ((first | refine op_indexC ?_ | refine op_indexAddr1 ?_ | refine op_indexAddr ?_); exact ⟨[], rfl, rfl, rfl⟩)
      · rintro _ _ ⟨rfl, rfl⟩ -
        simp only [with2, Step2, nthDst, putO]
        ((first | refine op_load ?_ | refine op_load_agg ?_ | refine op_load ?_ (hm := Sub.mem (by assumption) (by (repeat (apply List.mem_cons_of_mem)); assumption)) | refine op_load_agg ?_ (hm := Sub.mem (by assumption) (by (repeat (apply List.mem_cons_of_mem)); assumption)) | refine op_loadH hG rfl ?_ | refine op_load_aggH hG rfl ?_); exact ⟨[], rfl, rfl, rfl⟩)
      · simp only [with2, Step2, nthDst, putO]
        (refine op_move ?_; exact ⟨[], rfl, rfl, rfl⟩)
      · simp only [with2, Step2, nthDst, putO]
        (refine op_move ?_; exact ⟨[], rfl, rfl, rfl⟩)
      · rintro _ _ ⟨rfl, rfl⟩ - _ _ ⟨rfl, rfl⟩ -
        simp only [with2, Step2, nthDst, putO]
        ((first | refine op_indexC ?_ | refine op_indexAddr1 ?_ | refine op_indexAddr ?_); exact ⟨[], rfl, rfl, rfl⟩)
      · rintro _ _ ⟨rfl, rfl⟩ -
        simp only [with2, Step2, nthDst, putO]
        ((first | refine op_load ?_ | refine op_load_agg ?_ | refine op_load ?_ (hm := Sub.mem (by assumption) (by (repeat (apply List.mem_cons_of_mem)); assumption)) | refine op_load_agg ?_ (hm := Sub.mem (by assumption) (by (repeat (apply List.mem_cons_of_mem)); assumption)) | refine op_loadH hG rfl ?_ | refine op_load_aggH hG rfl ?_); exact ⟨[], rfl, rfl, rfl⟩)
      · rintro _ _ ⟨rfl, rfl⟩ - _ _ ⟨rfl, rfl⟩ -
        simp only [with2, Step2, nthDst, putO]
        (refine op_icmp ?_; exact ⟨[], rfl, congrArg Value.bool hne, rfl⟩)
      · rintro _ _ _ _ _ _ _ _ _ _ _ _ _ _ _ _ _ _ ⟨⟨rfl, rfl⟩, ⟨rfl, rfl⟩, ⟨rfl, rfl⟩, ⟨rfl, rfl⟩, ⟨rfl, rfl⟩, ⟨rfl, rfl⟩, ⟨rfl, rfl⟩, ⟨rfl, rfl⟩, ⟨rfl, rfl⟩, _⟩
        simp only [List.nil_append, List.cons_append, List.append_nil, List.drop_succ_cons, List.drop_zero, nthDst, putO]
        repeat' first
          | refine tc_seq ?_ | refine tc_region ?_ | refine at_seq_normal ?_ | refine tl_nil ?_ | refine tl_cons ?_ | refine op_move ?_ | refine op_assign ?_ | refine op_load ?_ | refine op_load_agg ?_ | refine op_indexC ?_
          | refine op_indexAddr1 ?_ | refine op_indexAddr ?_ | refine op_icmp ?_ | refine op_iarith ?_ | refine op_len_slice ?_ | refine op_loadK rfl ?_ | refine op_load_aggK rfl ?_ | refine tc_cond_t ?_ | refine tc_cond_f ?_ | refine tc_cond (fun _ => ?_) (fun _ => ?_)
          | refine tc_block ?_ | refine tc_skip ?_ | refine tc_ret ?_ | refine tc_exit ?_ | refine at_seq_ret ?_ | refine at_seq_exit ?_ | refine at_block_normal ?_ | refine at_block_ret ?_ | refine at_block_exit_self ?_ | refine at_block_exit_ne ?_
          | refine at_loop_ret ?_ | refine at_loop_exit ?_
        apply fun hole0 hole1 hole2 hole3 hole4 hole5 hole6 hole7 hE hD hml hdl hpr prem fin => tc_drawn 9 [is hole0, is hole1, is hole2, is hole3, is hole4, is hole5, is hole6, is hole7, (is (.bool false))]
          [some 32, some 33, some 34, some 35, some 36, some 37, some 38, some 39, some 40] [[], [], [0, 1], [2], [], [], [4, 5], [6], [3, 7]] mixed ⟨(is_mono _), (is_mono _), (is_mono _), (is_mono _), (is_mono _), (is_mono _), (is_mono _), (is_mono _), (some_mono _), trivial⟩ prem fin hE hD rfl hml hdl hpr
        rotate_left 9
        · first | kernel_rfl | exact rfl
        · first | kernel_rfl | exact rfl
        · exact Nat.le_of_ble_eq_true rfl
        · first | kernel_rfl | exact rfl
        · first | kernel_rfl | exact rfl
        refine ⟨fun G hG => ?_, fun G hG => ?_, fun G hG => ?_, fun G hG => ?_, fun G hG => ?_, fun G hG => ?_, fun G hG => ?_, fun G hG => ?_, fun G hG => ?_, trivial⟩
        · simp only [with2, Step2, nthDst, putO]
          (refine op_move ?_; exact ⟨[], rfl, rfl, rfl⟩)
        · simp only [with2, Step2, nthDst, putO]
          (refine op_move ?_; exact ⟨[], rfl, rfl, rfl⟩)
        · rintro _ _ ⟨rfl, rfl⟩ - _ _ ⟨rfl, rfl⟩ -
          simp only [with2, Step2, nthDst, putO]
          ((first | refine op_indexC ?_ | refine op_indexAddr1 ?_ | refine op_indexAddr ?_); exact ⟨[], rfl, rfl, rfl⟩)
        · rintro _ _ ⟨rfl, rfl⟩ -
          simp only [with2, Step2, nthDst, putO]
          ((first | refine op_load ?_ | refine op_load_agg ?_ | refine op_load ?_ (hm := Sub.mem (by assumption) (by (repeat (apply List.mem_cons_of_mem)); assumption)) | refine op_load_agg ?_ (hm := Sub.mem (by assumption) (by (repeat (apply List.mem_cons_of_mem)); assumption)) | refine op_loadH hG rfl ?_ | refine op_load_aggH hG rfl ?_); exact ⟨[], rfl, rfl, rfl⟩)
        · simp only [with2, Step2, nthDst, putO]
          (refine op_move ?_; exact ⟨[], rfl, rfl, rfl⟩)
        · simp only [with2, Step2, nthDst, putO]
          (refine op_move ?_; exact ⟨[], rfl, rfl, rfl⟩)
        · rintro _ _ ⟨rfl, rfl⟩ - _ _ ⟨rfl, rfl⟩ -
          simp only [with2, Step2, nthDst, putO]
          ((first | refine op_indexC ?_ | refine op_indexAddr1 ?_ | refine op_indexAddr ?_); exact ⟨[], rfl, rfl, rfl⟩)
        · rintro _ _ ⟨rfl, rfl⟩ -
          simp only [with2, Step2, nthDst, putO]
          ((first | refine op_load ?_ | refine op_load_agg ?_ | refine op_load ?_ (hm := Sub.mem (by assumption) (by (repeat (apply List.mem_cons_of_mem)); assumption)) | refine op_load_agg ?_ (hm := Sub.mem (by assumption) (by (repeat (apply List.mem_cons_of_mem)); assumption)) | refine op_loadH hG rfl ?_ | refine op_load_aggH hG rfl ?_); exact ⟨[], rfl, rfl, rfl⟩)
        · rintro _ _ ⟨rfl, rfl⟩ - _ _ ⟨rfl, rfl⟩ -
          simp only [with2, Step2, nthDst, putO]
          (refine op_icmp ?_; exact ⟨[], rfl, congrArg Value.bool hls, rfl⟩)
        · rintro _ _ _ _ _ _ _ _ _ _ _ _ _ _ _ _ _ _ ⟨⟨rfl, rfl⟩, ⟨rfl, rfl⟩, ⟨rfl, rfl⟩, ⟨rfl, rfl⟩, ⟨rfl, rfl⟩, ⟨rfl, rfl⟩, ⟨rfl, rfl⟩, ⟨rfl, rfl⟩, ⟨rfl, rfl⟩, _⟩
          simp only [List.nil_append, List.cons_append, List.append_nil, List.drop_succ_cons, List.drop_zero, nthDst, putO]
          repeat' first
            | refine tc_seq ?_ | refine tc_region ?_ | refine at_seq_normal ?_ | refine tl_nil ?_ | refine tl_cons ?_ | refine op_move ?_ | refine op_assign ?_ | refine op_load ?_ | refine op_load_agg ?_ | refine op_indexC ?_
            | refine op_indexAddr1 ?_ | refine op_indexAddr ?_ | refine op_icmp ?_ | refine op_iarith ?_ | refine op_len_slice ?_ | refine op_loadK rfl ?_ | refine op_load_aggK rfl ?_ | refine tc_cond_t ?_ | refine tc_cond_f ?_ | refine tc_cond (fun _ => ?_) (fun _ => ?_)
            | refine tc_block ?_ | refine tc_skip ?_ | refine tc_ret ?_ | refine tc_exit ?_ | refine at_seq_ret ?_ | refine at_seq_exit ?_ | refine at_block_normal ?_ | refine at_block_ret ?_ | refine at_block_exit_self ?_ | refine at_block_exit_ne ?_
            | refine at_loop_ret ?_ | refine at_loop_exit ?_
          exact ret_tmp (hk := ⟨by rw [cmpI, ← h2], rfl⟩)
end Go.Proofs.YtelhfcjchpdkiaaDoor.Lmb

set_option linter.unusedVariables false
set_option linter.unusedSimpArgs false
namespace Go.Proofs.YtelhfcjchpdkiaaDoor.Lmb
open Go.Lg

theorem bufH_pre (e : TypeId) (buf : Buf) (ws : List Value) (H : Heap) : ∃ ex, bufH e buf ws H = ex ++ H := by
  cases buf with
  | none => exact ⟨[], rfl⟩
  | some b => exact ⟨[_], rfl⟩

set_option maxHeartbeats 16000000 in
theorem addLimbs (a1 a2 : Option Addr) (c1 c2 : Nat) (xs ys : List Nat) (H : Heap) (hv : US H (.slice a1 xs.length c1) xs) (hu : US H (.slice a2 ys.length c2) ys) (hx : Lm xs) (hy : Lm ys) (hb : xs.length < 2 ^ 36) (hb2 : ys.length < 2 ^ 36) :
    Does Tryd.prog 43 [.slice a1 xs.length c1, .slice a2 ys.length c2] H fun w H' => ∃ zs, (∃ a c, w = .slice a zs.length c) ∧ ∃ ex, H' = ex ++ H ∧ US (ex ++ H) w zs ∧ Lm zs ∧ Nrm zs ∧ lv zs = lv xs + lv ys ∧ zs.length ≤ xs.length + ys.length + 1 := by
  refine fn_enter 57 Tryd.func43 fun W => ?_
  by_cases hc0 : xs.length < ys.length
  · have hc : icmp .lss (xs.length : Int) (ys.length : Int) = true := by rw [lss_nat]; simpa using hc0
    have hwl : IntKind.i64.wrap (iarith .add (ys.length : Int) 1) = ((ys.length + 1 : Nat) : Int) := by rw [wrap_add (by omega) (by omega)]; omega
    have hab : xs.length ≤ ys.length := by omega
    repeat' first
      | (first | refine tc_seq ?_ | refine tc_region ?_ | refine at_seq_normal ?_ | refine tl_nil ?_ | refine tl_cons ?_ | refine op_move ?_ | refine op_assign ?_ | refine op_fieldAddr ?_ | refine op_load ?_ | refine op_load_agg ?_ | refine op_indexC ?_ | refine op_indexAddr1 ?_ | refine op_indexAddr ?_ | refine op_icmp ?_ | refine op_fcmp ?_ | refine op_iarith ?_ | refine op_bcmp ?_ | refine op_unop_not ?_ | refine op_unop_neg_float ?_ | refine op_unop_neg_int ?_ | refine op_len_slice ?_ | refine op_pick_true ?_ | refine op_pick_false ?_ | refine op_pick_true' ?_ | refine op_pick_false' ?_ | refine op_build ?_ | refine op_extract ?_ | refine op_makeInterface ?_ | refine op_typeAssert ?_ | refine op_ptr_nil ?_ | refine op_nilCheck_ptr ?_ | refine op_nilCheck_meth ?_ | refine op_makeMeth ?_ | refine op_makeFunc ?_ | refine op_itof ?_ | refine op_itoi ?_ | refine op_ftoi ?_ | refine op_iquo ?_ | refine op_irem ?_ | refine op_ibits ?_ | refine op_slice_isnil ?_ | refine op_slice_notnil ?_ | refine op_imax ?_ | refine op_imin ?_ | refine op_shl ?_ | refine op_shr ?_ | (refine op_alloc ?_; intro _) | (refine op_box ?_; intro _) | (refine op_buildSlice ?_; intro _) | (refine op_farith ?_; intro _ _) | refine op_store0 ?_ | refine op_store1 ?_ | refine op_store2 ?_ | refine op_store3 ?_ | refine op_store4 ?_ | refine op_store5 ?_ | refine op_storeK rfl ?_ | refine op_loadK rfl ?_ | refine op_load_aggK rfl ?_ | refine tc_cond_t ?_ | refine tc_cond_f ?_ | refine tc_cond (fun _ => ?_) (fun _ => ?_) | refine tc_block ?_ | refine tc_skip ?_ | refine tc_ret ?_ | refine tc_exit ?_ | refine at_seq_ret ?_ | refine at_seq_exit ?_ | refine at_block_normal ?_ | refine at_block_ret ?_ | refine at_block_exit_self ?_ | refine at_block_exit_ne ?_ | refine at_loop_ret ?_ | refine at_loop_exit ?_ | fail)
      | (refine op_makeSlice (l := 0) (c := ys.length + 1) (fun k => ?_) (by omega) (by omega) (by omega) (hy := gete (by exact rfl) hwl); rw [made_rep])
      | fail
    refine tc_loopK [(1, _), (4, _), (21, _), (22, _)] (by repeat (first | exact trivial | refine ⟨rfl, ?_⟩)) (fun p : Nat × Nat × Buf × List Nat => [(23, .int .i64 (p.1 : Int)), (6, .int .u64 (p.2.1 : Int)), (5, bufV p.2.2.1 p.1)]) (fun p => bufH 72 p.2.2.1 (p.2.2.2.map uv) H)
      (fun p => p.1 ≤ ys.length ∧ bufOk 1 p.2.2.1 p.1 (p.2.2.2.map uv) ∧ p.2.2.2.length = p.1 ∧ Lm p.2.2.2 ∧ p.2.1 ≤ 1 ∧ lv p.2.2.2 + 4294967296 ^ p.1 * p.2.1 = lv (ys.take p.1) + lv (xs.take p.1)) (fun p => ys.length - p.1)
      (0, 0, some (k, ys.length + 1, List.replicate (ys.length + 1) (.int .u32 0)), []) ⟨Nat.zero_le _, ⟨Nat.zero_le _, by simp only [maxLen]; omega, rfl, by simp⟩, rfl, (fun x hx => by cases hx), Nat.zero_le _, by simp [lv]⟩ ⟨rfl, rfl, rfl, trivial⟩ (List.Sublist.refl _) ?_
    rintro ⟨i, carry, buf, zs⟩ ⟨h1, h2, h3, h4, h5, h6⟩
    simp only at h1 h2 h3 h4 h5 h6 ⊢
    by_cases hlt : i < ys.length
    · have hbb : icmp .lss (i : Int) (ys.length : Int) = true := by rw [lss_nat]; simpa using hlt
      obtain ⟨kA, oA, LA, TA, zA, rfl, mA, allA⟩ := us_block hu (fun e => by rw [e] at hlt; exact absurd hlt (Nat.not_lt_zero _))
      have mA2 : (kA, Obj.cells ⟨LA⟩ TA zA) ∈ bufH 72 buf (zs.map uv) H := (bufH_sub _ _ _ _).subset mA
      have lA := allA i hlt
      have bA := getD_lt hy i
      have tA := lv_take ys i
      have tB := lv_take xs i
      have bB := getD_lt hx i
      have e1 : IntKind.u64.wrap ((ys.getD i 0 : Nat) : Int) = ((ys.getD i 0 : Nat) : Int) := wrap_u64 (by omega) (by omega)
      have e2 : IntKind.u64.wrap (iarith .add ((ys.getD i 0 : Nat) : Int) ((carry : Nat) : Int)) = ((ys.getD i 0 + carry : Nat) : Int) := by
        rw [wrap_u64 (by simp only [iarith]; omega) (by simp only [iarith]; omega)]; simp only [iarith]; omega
      have fin : ∀ Sm : Nat, Sm = ys.getD i 0 + carry + xs.getD i 0 → Sm / 4294967296 ≤ 1 ∧ lv (zs ++ [Sm % 4294967296]) + 4294967296 ^ (i + 1) * (Sm / 4294967296) = lv (ys.take (i + 1)) + lv (xs.take (i + 1)) := fun Sm hS => by
        have hd := Nat.div_add_mod Sm 4294967296
        refine ⟨by have := Nat.div_lt_of_lt_mul (show Sm < 4294967296 * 2 by omega); omega, ?_⟩
        rw [tA, tB, lv_app, h3]
        simp only [lv, Nat.mul_zero, Nat.add_zero]
        have : 4294967296 ^ (i + 1) * (Sm / 4294967296) + 4294967296 ^ i * (Sm % 4294967296) = 4294967296 ^ i * Sm := by rw [Nat.pow_succ, Nat.mul_assoc, ← Nat.mul_add, hd]
        have h7 : 4294967296 ^ i * Sm = 4294967296 ^ i * ys.getD i 0 + 4294967296 ^ i * carry + 4294967296 ^ i * xs.getD i 0 := by rw [hS, Nat.mul_add, Nat.mul_add]
        omega
      have e5 : ∀ Sm : Nat, IntKind.u32.wrap ((Sm : Nat) : Int) = ((Sm % 4294967296 : Nat) : Int) := fun Sm => by rw [wrap_u32 (by omega)]; omega
      have e6 : ∀ Sm : Nat, Int.fdiv ((Sm : Nat) : Int) (2 ^ min (32 : Int).toNat IntKind.u64.bits) = ((Sm / 4294967296 : Nat) : Int) := fun Sm => by
        show Int.fdiv ((Sm : Nat) : Int) ((4294967296 : Nat) : Int) = _
        rw [Int.fdiv_eq_ediv_of_nonneg _ (by omega)]; rfl
      have hlm : ∀ Sm : Nat, Lm (zs ++ [Sm % 4294967296]) := fun Sm x hx => by
        rcases List.mem_append.1 hx with h | h
        · exact h4 x h
        · rw [List.mem_singleton] at h; subst h; exact Nat.mod_lt _ (by decide)
      by_cases hB : i < xs.length
      · have hbB : icmp .lss (i : Int) (xs.length : Int) = true := by rw [lss_nat]; simpa using hB
        obtain ⟨kB, oB, LB, TB, zB, rfl, mB, allB⟩ := us_block hv (fun e => by rw [e] at hB; exact absurd hB (Nat.not_lt_zero _))
        have mB2 : (kB, Obj.cells ⟨LB⟩ TB zB) ∈ bufH 72 buf (zs.map uv) H := (bufH_sub _ _ _ _).subset mB
        have lB := allB i hB
        have e3 : IntKind.u64.wrap ((xs.getD i 0 : Nat) : Int) = ((xs.getD i 0 : Nat) : Int) := wrap_u64 (by omega) (by omega)
        have e4 : IntKind.u64.wrap (iarith .add ((ys.getD i 0 + carry : Nat) : Int) ((xs.getD i 0 : Nat) : Int)) = ((ys.getD i 0 + carry + xs.getD i 0 : Nat) : Int) := by
          rw [wrap_u64 (by simp only [iarith]; omega) (by simp only [iarith]; omega)]; simp only [iarith]; omega
        obtain ⟨f1, f2⟩ := fin _ rfl
        clear fin tA tB allA allB
        generalize ys.getD i 0 = x at *
        generalize xs.getD i 0 = y at *
        have e5 := e5 (x + carry + y)
        have e6 := e6 (x + carry + y)
        have hlm := hlm (x + carry + y)
        generalize (x + carry + y) = Sm at *
        repeat' first
          | (rw [e1])
          | (rw [e2])
          | (rw [e3])
          | (rw [e4])
          | (rw [e5])
          | (rw [e6])
          | refine op_shr (v := 32) ?_
          | (refine op_append (H' := H) buf i (zs.map uv) [uv (Sm % 4294967296)] (m := 1) h2 (fun buf' hok' => ?_) (by exact rfl) (by exact rfl) (List.sublist_cons_self _ _) List.mem_cons_self rfl rfl (by simp [Value.oneCell', uv]) (by decide) (by simp only [maxLen]; omega) (by omega))
          | (first | refine tc_seq ?_ | refine tc_region ?_ | refine at_seq_normal ?_ | refine tl_nil ?_ | refine tl_cons ?_ | refine op_move ?_ | refine op_assign ?_ | refine op_fieldAddr ?_ | refine op_load ?_ | refine op_load_agg ?_ | refine op_indexC ?_ | refine op_indexAddr1 ?_ | refine op_indexAddr ?_ | refine op_icmp ?_ | refine op_fcmp ?_ | refine op_iarith ?_ | refine op_bcmp ?_ | refine op_unop_not ?_ | refine op_unop_neg_float ?_ | refine op_unop_neg_int ?_ | refine op_len_slice ?_ | refine op_pick_true ?_ | refine op_pick_false ?_ | refine op_pick_true' ?_ | refine op_pick_false' ?_ | refine op_build ?_ | refine op_extract ?_ | refine op_makeInterface ?_ | refine op_typeAssert ?_ | refine op_ptr_nil ?_ | refine op_nilCheck_ptr ?_ | refine op_nilCheck_meth ?_ | refine op_makeMeth ?_ | refine op_makeFunc ?_ | refine op_itof ?_ | refine op_itoi ?_ | refine op_ftoi ?_ | refine op_iquo ?_ | refine op_irem ?_ | refine op_ibits ?_ | refine op_slice_isnil ?_ | refine op_slice_notnil ?_ | refine op_imax ?_ | refine op_imin ?_ | refine op_shl ?_ | refine op_shr ?_ | (refine op_alloc ?_; intro _) | (refine op_box ?_; intro _) | (refine op_buildSlice ?_; intro _) | (refine op_farith ?_; intro _ _) | refine op_store0 ?_ | refine op_store1 ?_ | refine op_store2 ?_ | refine op_store3 ?_ | refine op_store4 ?_ | refine op_store5 ?_ | refine op_storeK rfl ?_ | refine op_loadK rfl ?_ | refine op_load_aggK rfl ?_ | refine tc_cond_t ?_ | refine tc_cond_f ?_ | refine tc_cond (fun _ => ?_) (fun _ => ?_) | refine tc_block ?_ | refine tc_skip ?_ | refine tc_ret ?_ | refine tc_exit ?_ | refine at_seq_ret ?_ | refine at_seq_exit ?_ | refine at_block_normal ?_ | refine at_block_ret ?_ | refine at_block_exit_self ?_ | refine at_block_exit_ne ?_ | refine at_loop_ret ?_ | refine at_loop_exit ?_ | fail)
          | fail
        exact at_loopK (i + 1, Sm / 4294967296, buf', zs ++ [Sm % 4294967296]) ⟨hlt, by simp only [List.map_append]; exact hok', by simp [h3], hlm, f1, f2⟩ (by simp only; omega) ⟨next_nat (by omega), rfl, rfl, trivial⟩ (by repeat (first | exact trivial | refine ⟨rfl, ?_⟩)) (by simp only [List.map_append]; exact List.Sublist.refl _)
      · have hbB : icmp .lss (i : Int) (xs.length : Int) = false := by rw [lss_nat]; simpa using hB
        have hb0 : xs.getD i 0 = 0 := by rw [List.getD_eq_getElem?_getD, List.getElem?_eq_none (by omega)]; rfl
        obtain ⟨f1, f2⟩ := fin (ys.getD i 0 + carry) (by omega)
        clear fin tA tB allA
        generalize ys.getD i 0 = x at *
        have e5 := e5 (x + carry)
        have e6 := e6 (x + carry)
        have hlm := hlm (x + carry)
        generalize (x + carry) = Sm at *
        repeat' first
          | (rw [e1])
          | (rw [e2])
          | (rw [e5])
          | (rw [e6])
          | refine op_shr (v := 32) ?_
          | (refine op_append (H' := H) buf i (zs.map uv) [uv (Sm % 4294967296)] (m := 1) h2 (fun buf' hok' => ?_) (by exact rfl) (by exact rfl) (List.sublist_cons_self _ _) List.mem_cons_self rfl rfl (by simp [Value.oneCell', uv]) (by decide) (by simp only [maxLen]; omega) (by omega))
          | (first | refine tc_seq ?_ | refine tc_region ?_ | refine at_seq_normal ?_ | refine tl_nil ?_ | refine tl_cons ?_ | refine op_move ?_ | refine op_assign ?_ | refine op_fieldAddr ?_ | refine op_load ?_ | refine op_load_agg ?_ | refine op_indexC ?_ | refine op_indexAddr1 ?_ | refine op_indexAddr ?_ | refine op_icmp ?_ | refine op_fcmp ?_ | refine op_iarith ?_ | refine op_bcmp ?_ | refine op_unop_not ?_ | refine op_unop_neg_float ?_ | refine op_unop_neg_int ?_ | refine op_len_slice ?_ | refine op_pick_true ?_ | refine op_pick_false ?_ | refine op_pick_true' ?_ | refine op_pick_false' ?_ | refine op_build ?_ | refine op_extract ?_ | refine op_makeInterface ?_ | refine op_typeAssert ?_ | refine op_ptr_nil ?_ | refine op_nilCheck_ptr ?_ | refine op_nilCheck_meth ?_ | refine op_makeMeth ?_ | refine op_makeFunc ?_ | refine op_itof ?_ | refine op_itoi ?_ | refine op_ftoi ?_ | refine op_iquo ?_ | refine op_irem ?_ | refine op_ibits ?_ | refine op_slice_isnil ?_ | refine op_slice_notnil ?_ | refine op_imax ?_ | refine op_imin ?_ | refine op_shl ?_ | refine op_shr ?_ | (refine op_alloc ?_; intro _) | (refine op_box ?_; intro _) | (refine op_buildSlice ?_; intro _) | (refine op_farith ?_; intro _ _) | refine op_store0 ?_ | refine op_store1 ?_ | refine op_store2 ?_ | refine op_store3 ?_ | refine op_store4 ?_ | refine op_store5 ?_ | refine op_storeK rfl ?_ | refine op_loadK rfl ?_ | refine op_load_aggK rfl ?_ | refine tc_cond_t ?_ | refine tc_cond_f ?_ | refine tc_cond (fun _ => ?_) (fun _ => ?_) | refine tc_block ?_ | refine tc_skip ?_ | refine tc_ret ?_ | refine tc_exit ?_ | refine at_seq_ret ?_ | refine at_seq_exit ?_ | refine at_block_normal ?_ | refine at_block_ret ?_ | refine at_block_exit_self ?_ | refine at_block_exit_ne ?_ | refine at_loop_ret ?_ | refine at_loop_exit ?_ | fail)
          | fail
        exact at_loopK (i + 1, Sm / 4294967296, buf', zs ++ [Sm % 4294967296]) ⟨hlt, by simp only [List.map_append]; exact hok', by simp [h3], hlm, f1, f2⟩ (by simp only; omega) ⟨next_nat (by omega), rfl, rfl, trivial⟩ (by repeat (first | exact trivial | refine ⟨rfl, ?_⟩)) (by simp only [List.map_append]; exact List.Sublist.refl _)
    · have hbb : icmp .lss (i : Int) (ys.length : Int) = false := by rw [lss_nat]; simpa using hlt
      obtain rfl : i = ys.length := by omega
      rw [List.take_of_length_le (Nat.le_refl _), List.take_of_length_le hab] at h6
      have e5 : IntKind.u32.wrap ((carry : Nat) : Int) = ((carry : Nat) : Int) := by rw [wrap_u32 (by omega)]; omega
      have hlm : Lm (zs ++ [carry]) := fun x hx => by
        rcases List.mem_append.1 hx with h | h
        · exact h4 x h
        · rw [List.mem_singleton] at h; subst h; omega
      have hval : lv (zs ++ [carry]) = lv ys + lv xs := by
        rw [lv_app, h3, ← h6]; simp only [lv, Nat.mul_zero, Nat.add_zero]
      have hlen2 : (zs ++ [carry]).length = ys.length + 1 := by simp [h3]
      repeat' first
        | (rw [e5])
        | (refine op_append (H' := H) buf ys.length (zs.map uv) [uv carry] (m := 1) h2 (fun buf' hok' => ?_) (by exact rfl) (by exact rfl) (List.sublist_cons_self _ _) List.mem_cons_self rfl rfl (by simp [Value.oneCell', uv]) (by decide) (by simp only [maxLen]; omega) (by omega); rw [show zs.map uv ++ [uv carry] = (zs ++ [carry]).map uv by simp] at hok' ⊢; have hus := fun H => us_buf (e := 72) (H := H) hok'; obtain ⟨aZ, cZ, hvZ⟩ := (hus []).val; rw [hvZ] at hus ⊢)
        | (refine op_call ((trim aZ cZ (zs ++ [carry]) _ (hus _) (by omega)).mono ?_); rintro _ _ ⟨n, rfl, rfl, hn, hnrm, hlv⟩)
        | (first | refine tc_seq ?_ | refine tc_region ?_ | refine at_seq_normal ?_ | refine tl_nil ?_ | refine tl_cons ?_ | refine op_move ?_ | refine op_assign ?_ | refine op_fieldAddr ?_ | refine op_load ?_ | refine op_load_agg ?_ | refine op_indexC ?_ | refine op_indexAddr1 ?_ | refine op_indexAddr ?_ | refine op_icmp ?_ | refine op_fcmp ?_ | refine op_iarith ?_ | refine op_bcmp ?_ | refine op_unop_not ?_ | refine op_unop_neg_float ?_ | refine op_unop_neg_int ?_ | refine op_len_slice ?_ | refine op_pick_true ?_ | refine op_pick_false ?_ | refine op_pick_true' ?_ | refine op_pick_false' ?_ | refine op_build ?_ | refine op_extract ?_ | refine op_makeInterface ?_ | refine op_typeAssert ?_ | refine op_ptr_nil ?_ | refine op_nilCheck_ptr ?_ | refine op_nilCheck_meth ?_ | refine op_makeMeth ?_ | refine op_makeFunc ?_ | refine op_itof ?_ | refine op_itoi ?_ | refine op_ftoi ?_ | refine op_iquo ?_ | refine op_irem ?_ | refine op_ibits ?_ | refine op_slice_isnil ?_ | refine op_slice_notnil ?_ | refine op_imax ?_ | refine op_imin ?_ | refine op_shl ?_ | refine op_shr ?_ | (refine op_alloc ?_; intro _) | (refine op_box ?_; intro _) | (refine op_buildSlice ?_; intro _) | (refine op_farith ?_; intro _ _) | refine op_store0 ?_ | refine op_store1 ?_ | refine op_store2 ?_ | refine op_store3 ?_ | refine op_store4 ?_ | refine op_store5 ?_ | refine op_storeK rfl ?_ | refine op_loadK rfl ?_ | refine op_load_aggK rfl ?_ | refine tc_cond_t ?_ | refine tc_cond_f ?_ | refine tc_cond (fun _ => ?_) (fun _ => ?_) | refine tc_block ?_ | refine tc_skip ?_ | refine tc_ret ?_ | refine tc_exit ?_ | refine at_seq_ret ?_ | refine at_seq_exit ?_ | refine at_block_normal ?_ | refine at_block_ret ?_ | refine at_block_exit_self ?_ | refine at_block_exit_ne ?_ | refine at_loop_ret ?_ | refine at_loop_exit ?_ | fail)
        | fail
      obtain ⟨exB, hexB⟩ := bufH_pre 72 buf' ((zs ++ [carry]).map uv) H
      refine ret_tmp (hG := List.Sublist.refl _) (hk := ⟨(zs ++ [carry]).take n, ⟨aZ, cZ, by rw [List.length_take, Nat.min_eq_left hn]⟩, exB, hexB, by rw [← hexB]; exact (hus H).take hn, hlm.take n, hnrm, by rw [hlv, hval]; omega, by rw [List.length_take]; omega⟩)
  · have hc : icmp .lss (xs.length : Int) (ys.length : Int) = false := by rw [lss_nat]; simpa using hc0
    have hwl : IntKind.i64.wrap (iarith .add (xs.length : Int) 1) = ((xs.length + 1 : Nat) : Int) := by rw [wrap_add (by omega) (by omega)]; omega
    have hab : ys.length ≤ xs.length := by omega
    repeat' first
      | (first | refine tc_seq ?_ | refine tc_region ?_ | refine at_seq_normal ?_ | refine tl_nil ?_ | refine tl_cons ?_ | refine op_move ?_ | refine op_assign ?_ | refine op_fieldAddr ?_ | refine op_load ?_ | refine op_load_agg ?_ | refine op_indexC ?_ | refine op_indexAddr1 ?_ | refine op_indexAddr ?_ | refine op_icmp ?_ | refine op_fcmp ?_ | refine op_iarith ?_ | refine op_bcmp ?_ | refine op_unop_not ?_ | refine op_unop_neg_float ?_ | refine op_unop_neg_int ?_ | refine op_len_slice ?_ | refine op_pick_true ?_ | refine op_pick_false ?_ | refine op_pick_true' ?_ | refine op_pick_false' ?_ | refine op_build ?_ | refine op_extract ?_ | refine op_makeInterface ?_ | refine op_typeAssert ?_ | refine op_ptr_nil ?_ | refine op_nilCheck_ptr ?_ | refine op_nilCheck_meth ?_ | refine op_makeMeth ?_ | refine op_makeFunc ?_ | refine op_itof ?_ | refine op_itoi ?_ | refine op_ftoi ?_ | refine op_iquo ?_ | refine op_irem ?_ | refine op_ibits ?_ | refine op_slice_isnil ?_ | refine op_slice_notnil ?_ | refine op_imax ?_ | refine op_imin ?_ | refine op_shl ?_ | refine op_shr ?_ | (refine op_alloc ?_; intro _) | (refine op_box ?_; intro _) | (refine op_buildSlice ?_; intro _) | (refine op_farith ?_; intro _ _) | refine op_store0 ?_ | refine op_store1 ?_ | refine op_store2 ?_ | refine op_store3 ?_ | refine op_store4 ?_ | refine op_store5 ?_ | refine op_storeK rfl ?_ | refine op_loadK rfl ?_ | refine op_load_aggK rfl ?_ | refine tc_cond_t ?_ | refine tc_cond_f ?_ | refine tc_cond (fun _ => ?_) (fun _ => ?_) | refine tc_block ?_ | refine tc_skip ?_ | refine tc_ret ?_ | refine tc_exit ?_ | refine at_seq_ret ?_ | refine at_seq_exit ?_ | refine at_block_normal ?_ | refine at_block_ret ?_ | refine at_block_exit_self ?_ | refine at_block_exit_ne ?_ | refine at_loop_ret ?_ | refine at_loop_exit ?_ | fail)
      | (refine op_makeSlice (l := 0) (c := xs.length + 1) (fun k => ?_) (by omega) (by omega) (by omega) (hy := gete (by exact rfl) hwl); rw [made_rep])
      | fail
    refine tc_loopK [(1, _), (4, _), (21, _), (22, _)] (by repeat (first | exact trivial | refine ⟨rfl, ?_⟩)) (fun p : Nat × Nat × Buf × List Nat => [(23, .int .i64 (p.1 : Int)), (6, .int .u64 (p.2.1 : Int)), (5, bufV p.2.2.1 p.1)]) (fun p => bufH 72 p.2.2.1 (p.2.2.2.map uv) H)
      (fun p => p.1 ≤ xs.length ∧ bufOk 1 p.2.2.1 p.1 (p.2.2.2.map uv) ∧ p.2.2.2.length = p.1 ∧ Lm p.2.2.2 ∧ p.2.1 ≤ 1 ∧ lv p.2.2.2 + 4294967296 ^ p.1 * p.2.1 = lv (xs.take p.1) + lv (ys.take p.1)) (fun p => xs.length - p.1)
      (0, 0, some (k, xs.length + 1, List.replicate (xs.length + 1) (.int .u32 0)), []) ⟨Nat.zero_le _, ⟨Nat.zero_le _, by simp only [maxLen]; omega, rfl, by simp⟩, rfl, (fun x hx => by cases hx), Nat.zero_le _, by simp [lv]⟩ ⟨rfl, rfl, rfl, trivial⟩ (List.Sublist.refl _) ?_
    rintro ⟨i, carry, buf, zs⟩ ⟨h1, h2, h3, h4, h5, h6⟩
    simp only at h1 h2 h3 h4 h5 h6 ⊢
    by_cases hlt : i < xs.length
    · have hbb : icmp .lss (i : Int) (xs.length : Int) = true := by rw [lss_nat]; simpa using hlt
      obtain ⟨kA, oA, LA, TA, zA, rfl, mA, allA⟩ := us_block hv (fun e => by rw [e] at hlt; exact absurd hlt (Nat.not_lt_zero _))
      have mA2 : (kA, Obj.cells ⟨LA⟩ TA zA) ∈ bufH 72 buf (zs.map uv) H := (bufH_sub _ _ _ _).subset mA
      have lA := allA i hlt
      have bA := getD_lt hx i
      have tA := lv_take xs i
      have tB := lv_take ys i
      have bB := getD_lt hy i
      have e1 : IntKind.u64.wrap ((xs.getD i 0 : Nat) : Int) = ((xs.getD i 0 : Nat) : Int) := wrap_u64 (by omega) (by omega)
      have e2 : IntKind.u64.wrap (iarith .add ((xs.getD i 0 : Nat) : Int) ((carry : Nat) : Int)) = ((xs.getD i 0 + carry : Nat) : Int) := by
        rw [wrap_u64 (by simp only [iarith]; omega) (by simp only [iarith]; omega)]; simp only [iarith]; omega
      have fin : ∀ Sm : Nat, Sm = xs.getD i 0 + carry + ys.getD i 0 → Sm / 4294967296 ≤ 1 ∧ lv (zs ++ [Sm % 4294967296]) + 4294967296 ^ (i + 1) * (Sm / 4294967296) = lv (xs.take (i + 1)) + lv (ys.take (i + 1)) := fun Sm hS => by
        have hd := Nat.div_add_mod Sm 4294967296
        refine ⟨by have := Nat.div_lt_of_lt_mul (show Sm < 4294967296 * 2 by omega); omega, ?_⟩
        rw [tA, tB, lv_app, h3]
        simp only [lv, Nat.mul_zero, Nat.add_zero]
        have : 4294967296 ^ (i + 1) * (Sm / 4294967296) + 4294967296 ^ i * (Sm % 4294967296) = 4294967296 ^ i * Sm := by rw [Nat.pow_succ, Nat.mul_assoc, ← Nat.mul_add, hd]
        have h7 : 4294967296 ^ i * Sm = 4294967296 ^ i * xs.getD i 0 + 4294967296 ^ i * carry + 4294967296 ^ i * ys.getD i 0 := by rw [hS, Nat.mul_add, Nat.mul_add]
        omega
      have e5 : ∀ Sm : Nat, IntKind.u32.wrap ((Sm : Nat) : Int) = ((Sm % 4294967296 : Nat) : Int) := fun Sm => by rw [wrap_u32 (by omega)]; omega
      have e6 : ∀ Sm : Nat, Int.fdiv ((Sm : Nat) : Int) (2 ^ min (32 : Int).toNat IntKind.u64.bits) = ((Sm / 4294967296 : Nat) : Int) := fun Sm => by
        show Int.fdiv ((Sm : Nat) : Int) ((4294967296 : Nat) : Int) = _
        rw [Int.fdiv_eq_ediv_of_nonneg _ (by omega)]; rfl
      have hlm : ∀ Sm : Nat, Lm (zs ++ [Sm % 4294967296]) := fun Sm x hx => by
        rcases List.mem_append.1 hx with h | h
        · exact h4 x h
        · rw [List.mem_singleton] at h; subst h; exact Nat.mod_lt _ (by decide)
      by_cases hB : i < ys.length
      · have hbB : icmp .lss (i : Int) (ys.length : Int) = true := by rw [lss_nat]; simpa using hB
        obtain ⟨kB, oB, LB, TB, zB, rfl, mB, allB⟩ := us_block hu (fun e => by rw [e] at hB; exact absurd hB (Nat.not_lt_zero _))
        have mB2 : (kB, Obj.cells ⟨LB⟩ TB zB) ∈ bufH 72 buf (zs.map uv) H := (bufH_sub _ _ _ _).subset mB
        have lB := allB i hB
        have e3 : IntKind.u64.wrap ((ys.getD i 0 : Nat) : Int) = ((ys.getD i 0 : Nat) : Int) := wrap_u64 (by omega) (by omega)
        have e4 : IntKind.u64.wrap (iarith .add ((xs.getD i 0 + carry : Nat) : Int) ((ys.getD i 0 : Nat) : Int)) = ((xs.getD i 0 + carry + ys.getD i 0 : Nat) : Int) := by
          rw [wrap_u64 (by simp only [iarith]; omega) (by simp only [iarith]; omega)]; simp only [iarith]; omega
        obtain ⟨f1, f2⟩ := fin _ rfl
        clear fin tA tB allA allB
        generalize xs.getD i 0 = x at *
        generalize ys.getD i 0 = y at *
        have e5 := e5 (x + carry + y)
        have e6 := e6 (x + carry + y)
        have hlm := hlm (x + carry + y)
        generalize (x + carry + y) = Sm at *
        repeat' first
          | (rw [e1])
          | (rw [e2])
          | (rw [e3])
          | (rw [e4])
          | (rw [e5])
          | (rw [e6])
          | refine op_shr (v := 32) ?_
          | (refine op_append (H' := H) buf i (zs.map uv) [uv (Sm % 4294967296)] (m := 1) h2 (fun buf' hok' => ?_) (by exact rfl) (by exact rfl) (List.sublist_cons_self _ _) List.mem_cons_self rfl rfl (by simp [Value.oneCell', uv]) (by decide) (by simp only [maxLen]; omega) (by omega))
          | (first | refine tc_seq ?_ | refine tc_region ?_ | refine at_seq_normal ?_ | refine tl_nil ?_ | refine tl_cons ?_ | refine op_move ?_ | refine op_assign ?_ | refine op_fieldAddr ?_ | refine op_load ?_ | refine op_load_agg ?_ | refine op_indexC ?_ | refine op_indexAddr1 ?_ | refine op_indexAddr ?_ | refine op_icmp ?_ | refine op_fcmp ?_ | refine op_iarith ?_ | refine op_bcmp ?_ | refine op_unop_not ?_ | refine op_unop_neg_float ?_ | refine op_unop_neg_int ?_ | refine op_len_slice ?_ | refine op_pick_true ?_ | refine op_pick_false ?_ | refine op_pick_true' ?_ | refine op_pick_false' ?_ | refine op_build ?_ | refine op_extract ?_ | refine op_makeInterface ?_ | refine op_typeAssert ?_ | refine op_ptr_nil ?_ | refine op_nilCheck_ptr ?_ | refine op_nilCheck_meth ?_ | refine op_makeMeth ?_ | refine op_makeFunc ?_ | refine op_itof ?_ | refine op_itoi ?_ | refine op_ftoi ?_ | refine op_iquo ?_ | refine op_irem ?_ | refine op_ibits ?_ | refine op_slice_isnil ?_ | refine op_slice_notnil ?_ | refine op_imax ?_ | refine op_imin ?_ | refine op_shl ?_ | refine op_shr ?_ | (refine op_alloc ?_; intro _) | (refine op_box ?_; intro _) | (refine op_buildSlice ?_; intro _) | (refine op_farith ?_; intro _ _) | refine op_store0 ?_ | refine op_store1 ?_ | refine op_store2 ?_ | refine op_store3 ?_ | refine op_store4 ?_ | refine op_store5 ?_ | refine op_storeK rfl ?_ | refine op_loadK rfl ?_ | refine op_load_aggK rfl ?_ | refine tc_cond_t ?_ | refine tc_cond_f ?_ | refine tc_cond (fun _ => ?_) (fun _ => ?_) | refine tc_block ?_ | refine tc_skip ?_ | refine tc_ret ?_ | refine tc_exit ?_ | refine at_seq_ret ?_ | refine at_seq_exit ?_ | refine at_block_normal ?_ | refine at_block_ret ?_ | refine at_block_exit_self ?_ | refine at_block_exit_ne ?_ | refine at_loop_ret ?_ | refine at_loop_exit ?_ | fail)
          | fail
        exact at_loopK (i + 1, Sm / 4294967296, buf', zs ++ [Sm % 4294967296]) ⟨hlt, by simp only [List.map_append]; exact hok', by simp [h3], hlm, f1, f2⟩ (by simp only; omega) ⟨next_nat (by omega), rfl, rfl, trivial⟩ (by repeat (first | exact trivial | refine ⟨rfl, ?_⟩)) (by simp only [List.map_append]; exact List.Sublist.refl _)
      · have hbB : icmp .lss (i : Int) (ys.length : Int) = false := by rw [lss_nat]; simpa using hB
        have hb0 : ys.getD i 0 = 0 := by rw [List.getD_eq_getElem?_getD, List.getElem?_eq_none (by omega)]; rfl
        obtain ⟨f1, f2⟩ := fin (xs.getD i 0 + carry) (by omega)
        clear fin tA tB allA
        generalize xs.getD i 0 = x at *
        have e5 := e5 (x + carry)
        have e6 := e6 (x + carry)
        have hlm := hlm (x + carry)
        generalize (x + carry) = Sm at *
        repeat' first
          | (rw [e1])
          | (rw [e2])
          | (rw [e5])
          | (rw [e6])
          | refine op_shr (v := 32) ?_
          | (refine op_append (H' := H) buf i (zs.map uv) [uv (Sm % 4294967296)] (m := 1) h2 (fun buf' hok' => ?_) (by exact rfl) (by exact rfl) (List.sublist_cons_self _ _) List.mem_cons_self rfl rfl (by simp [Value.oneCell', uv]) (by decide) (by simp only [maxLen]; omega) (by omega))
          | (first | refine tc_seq ?_ | refine tc_region ?_ | refine at_seq_normal ?_ | refine tl_nil ?_ | refine tl_cons ?_ | refine op_move ?_ | refine op_assign ?_ | refine op_fieldAddr ?_ | refine op_load ?_ | refine op_load_agg ?_ | refine op_indexC ?_ | refine op_indexAddr1 ?_ | refine op_indexAddr ?_ | refine op_icmp ?_ | refine op_fcmp ?_ | refine op_iarith ?_ | refine op_bcmp ?_ | refine op_unop_not ?_ | refine op_unop_neg_float ?_ | refine op_unop_neg_int ?_ | refine op_len_slice ?_ | refine op_pick_true ?_ | refine op_pick_false ?_ | refine op_pick_true' ?_ | refine op_pick_false' ?_ | refine op_build ?_ | refine op_extract ?_ | refine op_makeInterface ?_ | refine op_typeAssert ?_ | refine op_ptr_nil ?_ | refine op_nilCheck_ptr ?_ | refine op_nilCheck_meth ?_ | refine op_makeMeth ?_ | refine op_makeFunc ?_ | refine op_itof ?_ | refine op_itoi ?_ | refine op_ftoi ?_ | refine op_iquo ?_ | refine op_irem ?_ | refine op_ibits ?_ | refine op_slice_isnil ?_ | refine op_slice_notnil ?_ | refine op_imax ?_ | refine op_imin ?_ | refine op_shl ?_ | refine op_shr ?_ | (refine op_alloc ?_; intro _) | (refine op_box ?_; intro _) | (refine op_buildSlice ?_; intro _) | (refine op_farith ?_; intro _ _) | refine op_store0 ?_ | refine op_store1 ?_ | refine op_store2 ?_ | refine op_store3 ?_ | refine op_store4 ?_ | refine op_store5 ?_ | refine op_storeK rfl ?_ | refine op_loadK rfl ?_ | refine op_load_aggK rfl ?_ | refine tc_cond_t ?_ | refine tc_cond_f ?_ | refine tc_cond (fun _ => ?_) (fun _ => ?_) | refine tc_block ?_ | refine tc_skip ?_ | refine tc_ret ?_ | refine tc_exit ?_ | refine at_seq_ret ?_ | refine at_seq_exit ?_ | refine at_block_normal ?_ | refine at_block_ret ?_ | refine at_block_exit_self ?_ | refine at_block_exit_ne ?_ | refine at_loop_ret ?_ | refine at_loop_exit ?_ | fail)
          | fail
        exact at_loopK (i + 1, Sm / 4294967296, buf', zs ++ [Sm % 4294967296]) ⟨hlt, by simp only [List.map_append]; exact hok', by simp [h3], hlm, f1, f2⟩ (by simp only; omega) ⟨next_nat (by omega), rfl, rfl, trivial⟩ (by repeat (first | exact trivial | refine ⟨rfl, ?_⟩)) (by simp only [List.map_append]; exact List.Sublist.refl _)
    · have hbb : icmp .lss (i : Int) (xs.length : Int) = false := by rw [lss_nat]; simpa using hlt
      obtain rfl : i = xs.length := by omega
      rw [List.take_of_length_le (Nat.le_refl _), List.take_of_length_le hab] at h6
      have e5 : IntKind.u32.wrap ((carry : Nat) : Int) = ((carry : Nat) : Int) := by rw [wrap_u32 (by omega)]; omega
      have hlm : Lm (zs ++ [carry]) := fun x hx => by
        rcases List.mem_append.1 hx with h | h
        · exact h4 x h
        · rw [List.mem_singleton] at h; subst h; omega
      have hval : lv (zs ++ [carry]) = lv xs + lv ys := by
        rw [lv_app, h3, ← h6]; simp only [lv, Nat.mul_zero, Nat.add_zero]
      have hlen2 : (zs ++ [carry]).length = xs.length + 1 := by simp [h3]
      repeat' first
        | (rw [e5])
        | (refine op_append (H' := H) buf xs.length (zs.map uv) [uv carry] (m := 1) h2 (fun buf' hok' => ?_) (by exact rfl) (by exact rfl) (List.sublist_cons_self _ _) List.mem_cons_self rfl rfl (by simp [Value.oneCell', uv]) (by decide) (by simp only [maxLen]; omega) (by omega); rw [show zs.map uv ++ [uv carry] = (zs ++ [carry]).map uv by simp] at hok' ⊢; have hus := fun H => us_buf (e := 72) (H := H) hok'; obtain ⟨aZ, cZ, hvZ⟩ := (hus []).val; rw [hvZ] at hus ⊢)
        | (refine op_call ((trim aZ cZ (zs ++ [carry]) _ (hus _) (by omega)).mono ?_); rintro _ _ ⟨n, rfl, rfl, hn, hnrm, hlv⟩)
        | (first | refine tc_seq ?_ | refine tc_region ?_ | refine at_seq_normal ?_ | refine tl_nil ?_ | refine tl_cons ?_ | refine op_move ?_ | refine op_assign ?_ | refine op_fieldAddr ?_ | refine op_load ?_ | refine op_load_agg ?_ | refine op_indexC ?_ | refine op_indexAddr1 ?_ | refine op_indexAddr ?_ | refine op_icmp ?_ | refine op_fcmp ?_ | refine op_iarith ?_ | refine op_bcmp ?_ | refine op_unop_not ?_ | refine op_unop_neg_float ?_ | refine op_unop_neg_int ?_ | refine op_len_slice ?_ | refine op_pick_true ?_ | refine op_pick_false ?_ | refine op_pick_true' ?_ | refine op_pick_false' ?_ | refine op_build ?_ | refine op_extract ?_ | refine op_makeInterface ?_ | refine op_typeAssert ?_ | refine op_ptr_nil ?_ | refine op_nilCheck_ptr ?_ | refine op_nilCheck_meth ?_ | refine op_makeMeth ?_ | refine op_makeFunc ?_ | refine op_itof ?_ | refine op_itoi ?_ | refine op_ftoi ?_ | refine op_iquo ?_ | refine op_irem ?_ | refine op_ibits ?_ | refine op_slice_isnil ?_ | refine op_slice_notnil ?_ | refine op_imax ?_ | refine op_imin ?_ | refine op_shl ?_ | refine op_shr ?_ | (refine op_alloc ?_; intro _) | (refine op_box ?_; intro _) | (refine op_buildSlice ?_; intro _) | (refine op_farith ?_; intro _ _) | refine op_store0 ?_ | refine op_store1 ?_ | refine op_store2 ?_ | refine op_store3 ?_ | refine op_store4 ?_ | refine op_store5 ?_ | refine op_storeK rfl ?_ | refine op_loadK rfl ?_ | refine op_load_aggK rfl ?_ | refine tc_cond_t ?_ | refine tc_cond_f ?_ | refine tc_cond (fun _ => ?_) (fun _ => ?_) | refine tc_block ?_ | refine tc_skip ?_ | refine tc_ret ?_ | refine tc_exit ?_ | refine at_seq_ret ?_ | refine at_seq_exit ?_ | refine at_block_normal ?_ | refine at_block_ret ?_ | refine at_block_exit_self ?_ | refine at_block_exit_ne ?_ | refine at_loop_ret ?_ | refine at_loop_exit ?_ | fail)
        | fail
      obtain ⟨exB, hexB⟩ := bufH_pre 72 buf' ((zs ++ [carry]).map uv) H
      refine ret_tmp (hG := List.Sublist.refl _) (hk := ⟨(zs ++ [carry]).take n, ⟨aZ, cZ, by rw [List.length_take, Nat.min_eq_left hn]⟩, exB, hexB, by rw [← hexB]; exact (hus H).take hn, hlm.take n, hnrm, by rw [hlv, hval], by rw [List.length_take]; omega⟩)
end Go.Proofs.YtelhfcjchpdkiaaDoor.Lmb

set_option linter.unusedVariables false
set_option linter.unusedSimpArgs false
namespace Go.Proofs.YtelhfcjchpdkiaaDoor.Lmb
open Go.Lg

set_option maxHeartbeats 16000000 in
theorem subLimbs (a1 a2 : Option Addr) (c1 c2 : Nat) (xs ys : List Nat) (H : Heap) (hv : US H (.slice a1 xs.length c1) xs) (hu : US H (.slice a2 ys.length c2) ys) (hx : Lm xs) (hy : Lm ys) (hb : xs.length < 2 ^ 36) (hle : ys.length ≤ xs.length) (hval : lv ys ≤ lv xs) :
    Does Tryd.prog 45 [.slice a1 xs.length c1, .slice a2 ys.length c2] H fun w H' => ∃ zs, (∃ a c, w = .slice a zs.length c) ∧ ∃ ex, H' = ex ++ H ∧ US (ex ++ H) w zs ∧ Lm zs ∧ Nrm zs ∧ lv zs + lv ys = lv xs ∧ zs.length ≤ xs.length := by
  refine fn_enter 50 Tryd.func45 fun W => ?_
  repeat' first
    | (first | refine tc_seq ?_ | refine tc_region ?_ | refine at_seq_normal ?_ | refine tl_nil ?_ | refine tl_cons ?_ | refine op_move ?_ | refine op_assign ?_ | refine op_fieldAddr ?_ | refine op_load ?_ | refine op_load_agg ?_ | refine op_indexC ?_ | refine op_indexAddr1 ?_ | refine op_indexAddr ?_ | refine op_icmp ?_ | refine op_fcmp ?_ | refine op_iarith ?_ | refine op_bcmp ?_ | refine op_unop_not ?_ | refine op_unop_neg_float ?_ | refine op_unop_neg_int ?_ | refine op_len_slice ?_ | refine op_pick_true ?_ | refine op_pick_false ?_ | refine op_pick_true' ?_ | refine op_pick_false' ?_ | refine op_build ?_ | refine op_extract ?_ | refine op_makeInterface ?_ | refine op_typeAssert ?_ | refine op_ptr_nil ?_ | refine op_nilCheck_ptr ?_ | refine op_nilCheck_meth ?_ | refine op_makeMeth ?_ | refine op_makeFunc ?_ | refine op_itof ?_ | refine op_itoi ?_ | refine op_ftoi ?_ | refine op_iquo ?_ | refine op_irem ?_ | refine op_ibits ?_ | refine op_slice_isnil ?_ | refine op_slice_notnil ?_ | refine op_imax ?_ | refine op_imin ?_ | refine op_shl ?_ | refine op_shr ?_ | (refine op_alloc ?_; intro _) | (refine op_box ?_; intro _) | (refine op_buildSlice ?_; intro _) | (refine op_farith ?_; intro _ _) | refine op_store0 ?_ | refine op_store1 ?_ | refine op_store2 ?_ | refine op_store3 ?_ | refine op_store4 ?_ | refine op_store5 ?_ | refine op_storeK rfl ?_ | refine op_loadK rfl ?_ | refine op_load_aggK rfl ?_ | refine tc_cond_t ?_ | refine tc_cond_f ?_ | refine tc_cond (fun _ => ?_) (fun _ => ?_) | refine tc_block ?_ | refine tc_skip ?_ | refine tc_ret ?_ | refine tc_exit ?_ | refine at_seq_ret ?_ | refine at_seq_exit ?_ | refine at_block_normal ?_ | refine at_block_ret ?_ | refine at_block_exit_self ?_ | refine at_block_exit_ne ?_ | refine at_loop_ret ?_ | refine at_loop_exit ?_ | fail)
    | (refine op_makeSlice (l := 0) (c := xs.length) (fun k => ?_) (by omega) (by omega) (by omega); rw [made_rep])
    | fail
  refine tc_loopK [(1, _), (4, _), (13, _), (14, _)] (by repeat (first | exact trivial | refine ⟨rfl, ?_⟩)) (fun p : Nat × Nat × Buf × List Nat => [(15, .int .i64 (p.1 : Int)), (6, .int .u64 (p.2.1 : Int)), (5, bufV p.2.2.1 p.1)]) (fun p => bufH 72 p.2.2.1 (p.2.2.2.map uv) H)
    (fun p => p.1 ≤ xs.length ∧ bufOk 1 p.2.2.1 p.1 (p.2.2.2.map uv) ∧ p.2.2.2.length = p.1 ∧ Lm p.2.2.2 ∧ p.2.1 ≤ 1 ∧ lv p.2.2.2 + lv (ys.take p.1) = lv (xs.take p.1) + 4294967296 ^ p.1 * p.2.1) (fun p => xs.length - p.1)
    (0, 0, some (k, xs.length, List.replicate xs.length (.int .u32 0)), []) ⟨Nat.zero_le _, ⟨Nat.zero_le _, by simp only [maxLen]; omega, rfl, by simp⟩, rfl, (fun x hx => by cases hx), Nat.zero_le _, by simp [lv]⟩ ⟨rfl, rfl, rfl, trivial⟩ (List.Sublist.refl _) ?_
  rintro ⟨i, bor, buf, zs⟩ ⟨h1, h2, h3, h4, h5, h6⟩
  simp only at h1 h2 h3 h4 h5 h6 ⊢
  by_cases hlt : i < xs.length
  · have hbb : icmp .lss (i : Int) (xs.length : Int) = true := by rw [lss_nat]; simpa using hlt
    obtain ⟨kA, oA, LA, TA, zA, rfl, mA, allA⟩ := us_block hv (fun e => by rw [e] at hlt; exact absurd hlt (Nat.not_lt_zero _))
    have mA2 : (kA, Obj.cells ⟨LA⟩ TA zA) ∈ bufH 72 buf (zs.map uv) H := (bufH_sub _ _ _ _).subset mA
    have lA := allA i hlt
    have bA := getD_lt hx i
    have tA := lv_take xs i
    have tB := lv_take ys i
    have bB := getD_lt hy i
    have e1 : IntKind.u64.wrap ((xs.getD i 0 : Nat) : Int) = ((xs.getD i 0 : Nat) : Int) := wrap_u64 (by omega) (by omega)
    have fin : ∀ (y b d : Nat), y = bor + ys.getD i 0 → d + y = xs.getD i 0 + b * 4294967296 → lv (zs ++ [d]) + lv (ys.take (i + 1)) = lv (xs.take (i + 1)) + 4294967296 ^ (i + 1) * b := fun y b d hy hd => by
      rw [tA, tB, lv_app, h3]
      simp only [lv, Nat.mul_zero, Nat.add_zero]
      have e := congrArg (fun t => 4294967296 ^ i * t) hd
      simp only [Nat.mul_add] at e
      rw [hy, Nat.mul_add] at e
      rw [Nat.pow_succ, Nat.mul_assoc, Nat.mul_comm 4294967296 b]
      omega
    have hlm : ∀ d : Nat, d < 4294967296 → Lm (zs ++ [d]) := fun d hd x hx => by
      rcases List.mem_append.1 hx with h | h
      · exact h4 x h
      · rw [List.mem_singleton] at h; subst h; exact hd
    by_cases hB : i < ys.length
    · have hbB : icmp .lss (i : Int) (ys.length : Int) = true := by rw [lss_nat]; simpa using hB
      obtain ⟨kB, oB, LB, TB, zB, rfl, mB, allB⟩ := us_block hu (fun e => by rw [e] at hB; exact absurd hB (Nat.not_lt_zero _))
      have mB2 : (kB, Obj.cells ⟨LB⟩ TB zB) ∈ bufH 72 buf (zs.map uv) H := (bufH_sub _ _ _ _).subset mB
      have lB := allB i hB
      have e3 : IntKind.u64.wrap ((ys.getD i 0 : Nat) : Int) = ((ys.getD i 0 : Nat) : Int) := wrap_u64 (by omega) (by omega)
      have e4 : IntKind.u64.wrap (iarith .add ((bor : Nat) : Int) ((ys.getD i 0 : Nat) : Int)) = ((bor + ys.getD i 0 : Nat) : Int) := by
        rw [wrap_u64 (by simp only [iarith]; omega) (by simp only [iarith]; omega)]; simp only [iarith]; omega
      have hYb : bor + ys.getD i 0 ≤ 4294967296 := by omega
      have fin := fun b d => fin (bor + ys.getD i 0) b d rfl
      clear tA tB allA allB bB
      generalize xs.getD i 0 = x at *
      generalize ys.getD i 0 = yy at *
      generalize bor + yy = y at *
      by_cases hxy : x < y
      · have hls : icmp .lss (x : Int) (y : Int) = true := by rw [lss_nat]; simpa using hxy
        have e7 : IntKind.u64.wrap ((1 : Int) * 2 ^ min (32 : Int).toNat IntKind.u64.bits) = ((1 * 4294967296 : Nat) : Int) := by decide
        have e8 : IntKind.u64.wrap (iarith .add (x : Int) ((1 * 4294967296 : Nat) : Int)) = ((x + 1 * 4294967296 : Nat) : Int) := by
          rw [wrap_u64 (by simp only [iarith]; omega) (by simp only [iarith]; omega)]; simp only [iarith]; omega
        obtain ⟨d, hd⟩ : ∃ d, d + y = x + 1 * 4294967296 := ⟨x + 1 * 4294967296 - y, by omega⟩
        have hdl : d < 4294967296 := by omega
        have e9 : IntKind.u64.wrap (iarith .sub ((x + 1 * 4294967296 : Nat) : Int) (y : Int)) = ((d : Nat) : Int) := by
          rw [wrap_u64 (by simp only [iarith]; omega) (by simp only [iarith]; omega)]; simp only [iarith]; omega
        have e10 : IntKind.u32.wrap ((d : Nat) : Int) = ((d : Nat) : Int) := by rw [wrap_u32 (by omega)]; omega
        have hf := fin 1 d hd
        have hlm := hlm d hdl
        repeat' first
          | (rw [e1])
          | (rw [e3])
          | (rw [e4])
          | (rw [e7])
          | (rw [e8])
          | (rw [e9])
          | (rw [e10])
          | refine op_shl (v := 32) ?_
          | (refine op_append (H' := H) buf i (zs.map uv) [uv d] (m := 1) h2 (fun buf' hok' => ?_) (by exact rfl) (by exact rfl) (List.sublist_cons_self _ _) List.mem_cons_self rfl rfl (by simp [Value.oneCell', uv]) (by decide) (by simp only [maxLen]; omega) (by omega))
          | (first | refine tc_seq ?_ | refine tc_region ?_ | refine at_seq_normal ?_ | refine tl_nil ?_ | refine tl_cons ?_ | refine op_move ?_ | refine op_assign ?_ | refine op_fieldAddr ?_ | refine op_load ?_ | refine op_load_agg ?_ | refine op_indexC ?_ | refine op_indexAddr1 ?_ | refine op_indexAddr ?_ | refine op_icmp ?_ | refine op_fcmp ?_ | refine op_iarith ?_ | refine op_bcmp ?_ | refine op_unop_not ?_ | refine op_unop_neg_float ?_ | refine op_unop_neg_int ?_ | refine op_len_slice ?_ | refine op_pick_true ?_ | refine op_pick_false ?_ | refine op_pick_true' ?_ | refine op_pick_false' ?_ | refine op_build ?_ | refine op_extract ?_ | refine op_makeInterface ?_ | refine op_typeAssert ?_ | refine op_ptr_nil ?_ | refine op_nilCheck_ptr ?_ | refine op_nilCheck_meth ?_ | refine op_makeMeth ?_ | refine op_makeFunc ?_ | refine op_itof ?_ | refine op_itoi ?_ | refine op_ftoi ?_ | refine op_iquo ?_ | refine op_irem ?_ | refine op_ibits ?_ | refine op_slice_isnil ?_ | refine op_slice_notnil ?_ | refine op_imax ?_ | refine op_imin ?_ | refine op_shl ?_ | refine op_shr ?_ | (refine op_alloc ?_; intro _) | (refine op_box ?_; intro _) | (refine op_buildSlice ?_; intro _) | (refine op_farith ?_; intro _ _) | refine op_store0 ?_ | refine op_store1 ?_ | refine op_store2 ?_ | refine op_store3 ?_ | refine op_store4 ?_ | refine op_store5 ?_ | refine op_storeK rfl ?_ | refine op_loadK rfl ?_ | refine op_load_aggK rfl ?_ | refine tc_cond_t ?_ | refine tc_cond_f ?_ | refine tc_cond (fun _ => ?_) (fun _ => ?_) | refine tc_block ?_ | refine tc_skip ?_ | refine tc_ret ?_ | refine tc_exit ?_ | refine at_seq_ret ?_ | refine at_seq_exit ?_ | refine at_block_normal ?_ | refine at_block_ret ?_ | refine at_block_exit_self ?_ | refine at_block_exit_ne ?_ | refine at_loop_ret ?_ | refine at_loop_exit ?_ | fail)
          | fail
        exact at_loopK (i + 1, 1, buf', zs ++ [d]) ⟨hlt, by simp only [List.map_append]; exact hok', by simp [h3], hlm, by simp only; omega, hf⟩ (by simp only; omega) ⟨next_nat (by omega), rfl, rfl, trivial⟩ (by repeat (first | exact trivial | refine ⟨rfl, ?_⟩)) (by simp only [List.map_append]; exact List.Sublist.refl _)
      · have hls : icmp .lss (x : Int) (y : Int) = false := by rw [lss_nat]; simpa using hxy
        have e7 : IntKind.u64.wrap ((0 : Int) * 2 ^ min (32 : Int).toNat IntKind.u64.bits) = ((0 * 4294967296 : Nat) : Int) := by decide
        have e8 : IntKind.u64.wrap (iarith .add (x : Int) ((0 * 4294967296 : Nat) : Int)) = ((x + 0 * 4294967296 : Nat) : Int) := by
          rw [wrap_u64 (by simp only [iarith]; omega) (by simp only [iarith]; omega)]; simp only [iarith]; omega
        obtain ⟨d, hd⟩ : ∃ d, d + y = x + 0 * 4294967296 := ⟨x + 0 * 4294967296 - y, by omega⟩
        have hdl : d < 4294967296 := by omega
        have e9 : IntKind.u64.wrap (iarith .sub ((x + 0 * 4294967296 : Nat) : Int) (y : Int)) = ((d : Nat) : Int) := by
          rw [wrap_u64 (by simp only [iarith]; omega) (by simp only [iarith]; omega)]; simp only [iarith]; omega
        have e10 : IntKind.u32.wrap ((d : Nat) : Int) = ((d : Nat) : Int) := by rw [wrap_u32 (by omega)]; omega
        have hf := fin 0 d hd
        have hlm := hlm d hdl
        repeat' first
          | (rw [e1])
          | (rw [e3])
          | (rw [e4])
          | (rw [e7])
          | (rw [e8])
          | (rw [e9])
          | (rw [e10])
          | refine op_shl (v := 32) ?_
          | (refine op_append (H' := H) buf i (zs.map uv) [uv d] (m := 1) h2 (fun buf' hok' => ?_) (by exact rfl) (by exact rfl) (List.sublist_cons_self _ _) List.mem_cons_self rfl rfl (by simp [Value.oneCell', uv]) (by decide) (by simp only [maxLen]; omega) (by omega))
          | (first | refine tc_seq ?_ | refine tc_region ?_ | refine at_seq_normal ?_ | refine tl_nil ?_ | refine tl_cons ?_ | refine op_move ?_ | refine op_assign ?_ | refine op_fieldAddr ?_ | refine op_load ?_ | refine op_load_agg ?_ | refine op_indexC ?_ | refine op_indexAddr1 ?_ | refine op_indexAddr ?_ | refine op_icmp ?_ | refine op_fcmp ?_ | refine op_iarith ?_ | refine op_bcmp ?_ | refine op_unop_not ?_ | refine op_unop_neg_float ?_ | refine op_unop_neg_int ?_ | refine op_len_slice ?_ | refine op_pick_true ?_ | refine op_pick_false ?_ | refine op_pick_true' ?_ | refine op_pick_false' ?_ | refine op_build ?_ | refine op_extract ?_ | refine op_makeInterface ?_ | refine op_typeAssert ?_ | refine op_ptr_nil ?_ | refine op_nilCheck_ptr ?_ | refine op_nilCheck_meth ?_ | refine op_makeMeth ?_ | refine op_makeFunc ?_ | refine op_itof ?_ | refine op_itoi ?_ | refine op_ftoi ?_ | refine op_iquo ?_ | refine op_irem ?_ | refine op_ibits ?_ | refine op_slice_isnil ?_ | refine op_slice_notnil ?_ | refine op_imax ?_ | refine op_imin ?_ | refine op_shl ?_ | refine op_shr ?_ | (refine op_alloc ?_; intro _) | (refine op_box ?_; intro _) | (refine op_buildSlice ?_; intro _) | (refine op_farith ?_; intro _ _) | refine op_store0 ?_ | refine op_store1 ?_ | refine op_store2 ?_ | refine op_store3 ?_ | refine op_store4 ?_ | refine op_store5 ?_ | refine op_storeK rfl ?_ | refine op_loadK rfl ?_ | refine op_load_aggK rfl ?_ | refine tc_cond_t ?_ | refine tc_cond_f ?_ | refine tc_cond (fun _ => ?_) (fun _ => ?_) | refine tc_block ?_ | refine tc_skip ?_ | refine tc_ret ?_ | refine tc_exit ?_ | refine at_seq_ret ?_ | refine at_seq_exit ?_ | refine at_block_normal ?_ | refine at_block_ret ?_ | refine at_block_exit_self ?_ | refine at_block_exit_ne ?_ | refine at_loop_ret ?_ | refine at_loop_exit ?_ | fail)
          | fail
        exact at_loopK (i + 1, 0, buf', zs ++ [d]) ⟨hlt, by simp only [List.map_append]; exact hok', by simp [h3], hlm, by simp only; omega, hf⟩ (by simp only; omega) ⟨next_nat (by omega), rfl, rfl, trivial⟩ (by repeat (first | exact trivial | refine ⟨rfl, ?_⟩)) (by simp only [List.map_append]; exact List.Sublist.refl _)
    · have hbB : icmp .lss (i : Int) (ys.length : Int) = false := by rw [lss_nat]; simpa using hB
      have hb0 : ys.getD i 0 = 0 := by rw [List.getD_eq_getElem?_getD, List.getElem?_eq_none (by omega)]; rfl
      have hYb : bor ≤ 4294967296 := by omega
      have fin := fun b d => fin bor b d (by omega)
      clear tA tB allA bB
      generalize xs.getD i 0 = x at *
      have e3 : True := trivial
      have e4 : True := trivial
      obtain ⟨y, hy⟩ : ∃ y, y = bor := ⟨_, rfl⟩
      rw [← hy] at hYb fin
      by_cases hxy : x < bor
      · have hls : icmp .lss (x : Int) (bor : Int) = true := by rw [lss_nat]; simpa using hxy
        have e7 : IntKind.u64.wrap ((1 : Int) * 2 ^ min (32 : Int).toNat IntKind.u64.bits) = ((1 * 4294967296 : Nat) : Int) := by decide
        have e8 : IntKind.u64.wrap (iarith .add (x : Int) ((1 * 4294967296 : Nat) : Int)) = ((x + 1 * 4294967296 : Nat) : Int) := by
          rw [wrap_u64 (by simp only [iarith]; omega) (by simp only [iarith]; omega)]; simp only [iarith]; omega
        obtain ⟨d, hd⟩ : ∃ d, d + bor = x + 1 * 4294967296 := ⟨x + 1 * 4294967296 - bor, by omega⟩
        have hdl : d < 4294967296 := by omega
        have e9 : IntKind.u64.wrap (iarith .sub ((x + 1 * 4294967296 : Nat) : Int) (bor : Int)) = ((d : Nat) : Int) := by
          rw [wrap_u64 (by simp only [iarith]; omega) (by simp only [iarith]; omega)]; simp only [iarith]; omega
        have e10 : IntKind.u32.wrap ((d : Nat) : Int) = ((d : Nat) : Int) := by rw [wrap_u32 (by omega)]; omega
        have hf := fin 1 d (by rw [hy]; exact hd)
        have hlm := hlm d hdl
        repeat' first
          | (rw [e1])
          | (rw [e3])
          | (rw [e4])
          | (rw [e7])
          | (rw [e8])
          | (rw [e9])
          | (rw [e10])
          | refine op_shl (v := 32) ?_
          | (refine op_append (H' := H) buf i (zs.map uv) [uv d] (m := 1) h2 (fun buf' hok' => ?_) (by exact rfl) (by exact rfl) (List.sublist_cons_self _ _) List.mem_cons_self rfl rfl (by simp [Value.oneCell', uv]) (by decide) (by simp only [maxLen]; omega) (by omega))
          | (first | refine tc_seq ?_ | refine tc_region ?_ | refine at_seq_normal ?_ | refine tl_nil ?_ | refine tl_cons ?_ | refine op_move ?_ | refine op_assign ?_ | refine op_fieldAddr ?_ | refine op_load ?_ | refine op_load_agg ?_ | refine op_indexC ?_ | refine op_indexAddr1 ?_ | refine op_indexAddr ?_ | refine op_icmp ?_ | refine op_fcmp ?_ | refine op_iarith ?_ | refine op_bcmp ?_ | refine op_unop_not ?_ | refine op_unop_neg_float ?_ | refine op_unop_neg_int ?_ | refine op_len_slice ?_ | refine op_pick_true ?_ | refine op_pick_false ?_ | refine op_pick_true' ?_ | refine op_pick_false' ?_ | refine op_build ?_ | refine op_extract ?_ | refine op_makeInterface ?_ | refine op_typeAssert ?_ | refine op_ptr_nil ?_ | refine op_nilCheck_ptr ?_ | refine op_nilCheck_meth ?_ | refine op_makeMeth ?_ | refine op_makeFunc ?_ | refine op_itof ?_ | refine op_itoi ?_ | refine op_ftoi ?_ | refine op_iquo ?_ | refine op_irem ?_ | refine op_ibits ?_ | refine op_slice_isnil ?_ | refine op_slice_notnil ?_ | refine op_imax ?_ | refine op_imin ?_ | refine op_shl ?_ | refine op_shr ?_ | (refine op_alloc ?_; intro _) | (refine op_box ?_; intro _) | (refine op_buildSlice ?_; intro _) | (refine op_farith ?_; intro _ _) | refine op_store0 ?_ | refine op_store1 ?_ | refine op_store2 ?_ | refine op_store3 ?_ | refine op_store4 ?_ | refine op_store5 ?_ | refine op_storeK rfl ?_ | refine op_loadK rfl ?_ | refine op_load_aggK rfl ?_ | refine tc_cond_t ?_ | refine tc_cond_f ?_ | refine tc_cond (fun _ => ?_) (fun _ => ?_) | refine tc_block ?_ | refine tc_skip ?_ | refine tc_ret ?_ | refine tc_exit ?_ | refine at_seq_ret ?_ | refine at_seq_exit ?_ | refine at_block_normal ?_ | refine at_block_ret ?_ | refine at_block_exit_self ?_ | refine at_block_exit_ne ?_ | refine at_loop_ret ?_ | refine at_loop_exit ?_ | fail)
          | fail
        exact at_loopK (i + 1, 1, buf', zs ++ [d]) ⟨hlt, by simp only [List.map_append]; exact hok', by simp [h3], hlm, by simp only; omega, hf⟩ (by simp only; omega) ⟨next_nat (by omega), rfl, rfl, trivial⟩ (by repeat (first | exact trivial | refine ⟨rfl, ?_⟩)) (by simp only [List.map_append]; exact List.Sublist.refl _)
      · have hls : icmp .lss (x : Int) (bor : Int) = false := by rw [lss_nat]; simpa using hxy
        have e7 : IntKind.u64.wrap ((0 : Int) * 2 ^ min (32 : Int).toNat IntKind.u64.bits) = ((0 * 4294967296 : Nat) : Int) := by decide
        have e8 : IntKind.u64.wrap (iarith .add (x : Int) ((0 * 4294967296 : Nat) : Int)) = ((x + 0 * 4294967296 : Nat) : Int) := by
          rw [wrap_u64 (by simp only [iarith]; omega) (by simp only [iarith]; omega)]; simp only [iarith]; omega
        obtain ⟨d, hd⟩ : ∃ d, d + bor = x + 0 * 4294967296 := ⟨x + 0 * 4294967296 - bor, by omega⟩
        have hdl : d < 4294967296 := by omega
        have e9 : IntKind.u64.wrap (iarith .sub ((x + 0 * 4294967296 : Nat) : Int) (bor : Int)) = ((d : Nat) : Int) := by
          rw [wrap_u64 (by simp only [iarith]; omega) (by simp only [iarith]; omega)]; simp only [iarith]; omega
        have e10 : IntKind.u32.wrap ((d : Nat) : Int) = ((d : Nat) : Int) := by rw [wrap_u32 (by omega)]; omega
        have hf := fin 0 d (by rw [hy]; exact hd)
        have hlm := hlm d hdl
        repeat' first
          | (rw [e1])
          | (rw [e3])
          | (rw [e4])
          | (rw [e7])
          | (rw [e8])
          | (rw [e9])
          | (rw [e10])
          | refine op_shl (v := 32) ?_
          | (refine op_append (H' := H) buf i (zs.map uv) [uv d] (m := 1) h2 (fun buf' hok' => ?_) (by exact rfl) (by exact rfl) (List.sublist_cons_self _ _) List.mem_cons_self rfl rfl (by simp [Value.oneCell', uv]) (by decide) (by simp only [maxLen]; omega) (by omega))
          | (first | refine tc_seq ?_ | refine tc_region ?_ | refine at_seq_normal ?_ | refine tl_nil ?_ | refine tl_cons ?_ | refine op_move ?_ | refine op_assign ?_ | refine op_fieldAddr ?_ | refine op_load ?_ | refine op_load_agg ?_ | refine op_indexC ?_ | refine op_indexAddr1 ?_ | refine op_indexAddr ?_ | refine op_icmp ?_ | refine op_fcmp ?_ | refine op_iarith ?_ | refine op_bcmp ?_ | refine op_unop_not ?_ | refine op_unop_neg_float ?_ | refine op_unop_neg_int ?_ | refine op_len_slice ?_ | refine op_pick_true ?_ | refine op_pick_false ?_ | refine op_pick_true' ?_ | refine op_pick_false' ?_ | refine op_build ?_ | refine op_extract ?_ | refine op_makeInterface ?_ | refine op_typeAssert ?_ | refine op_ptr_nil ?_ | refine op_nilCheck_ptr ?_ | refine op_nilCheck_meth ?_ | refine op_makeMeth ?_ | refine op_makeFunc ?_ | refine op_itof ?_ | refine op_itoi ?_ | refine op_ftoi ?_ | refine op_iquo ?_ | refine op_irem ?_ | refine op_ibits ?_ | refine op_slice_isnil ?_ | refine op_slice_notnil ?_ | refine op_imax ?_ | refine op_imin ?_ | refine op_shl ?_ | refine op_shr ?_ | (refine op_alloc ?_; intro _) | (refine op_box ?_; intro _) | (refine op_buildSlice ?_; intro _) | (refine op_farith ?_; intro _ _) | refine op_store0 ?_ | refine op_store1 ?_ | refine op_store2 ?_ | refine op_store3 ?_ | refine op_store4 ?_ | refine op_store5 ?_ | refine op_storeK rfl ?_ | refine op_loadK rfl ?_ | refine op_load_aggK rfl ?_ | refine tc_cond_t ?_ | refine tc_cond_f ?_ | refine tc_cond (fun _ => ?_) (fun _ => ?_) | refine tc_block ?_ | refine tc_skip ?_ | refine tc_ret ?_ | refine tc_exit ?_ | refine at_seq_ret ?_ | refine at_seq_exit ?_ | refine at_block_normal ?_ | refine at_block_ret ?_ | refine at_block_exit_self ?_ | refine at_block_exit_ne ?_ | refine at_loop_ret ?_ | refine at_loop_exit ?_ | fail)
          | fail
        exact at_loopK (i + 1, 0, buf', zs ++ [d]) ⟨hlt, by simp only [List.map_append]; exact hok', by simp [h3], hlm, by simp only; omega, hf⟩ (by simp only; omega) ⟨next_nat (by omega), rfl, rfl, trivial⟩ (by repeat (first | exact trivial | refine ⟨rfl, ?_⟩)) (by simp only [List.map_append]; exact List.Sublist.refl _)
  · have hbb : icmp .lss (i : Int) (xs.length : Int) = false := by rw [lss_nat]; simpa using hlt
    obtain rfl : i = xs.length := by omega
    rw [List.take_of_length_le (Nat.le_refl _), List.take_of_length_le hle] at h6
    have hlz := lv_lt h4
    rw [h3] at hlz
    have hfin : lv zs + lv ys = lv xs := by
      by_cases hb1 : bor = 1
      · subst hb1; omega
      · obtain rfl : bor = 0 := by omega
        omega
    have hus := fun H => us_buf (e := 72) (H := H) (h3 ▸ h2)
    obtain ⟨aZ, cZ, hvZ⟩ := (hus []).val
    rw [h3] at hvZ hus
    rw [hvZ] at hus ⊢
    rw [← h3] at hus hbb ⊢
    repeat' first
      | (refine op_call ((trim aZ cZ zs _ (hus _) (by omega)).mono ?_); rintro _ _ ⟨n, rfl, rfl, hn, hnrm, hlv⟩)
      | (first | refine tc_seq ?_ | refine tc_region ?_ | refine at_seq_normal ?_ | refine tl_nil ?_ | refine tl_cons ?_ | refine op_move ?_ | refine op_assign ?_ | refine op_fieldAddr ?_ | refine op_load ?_ | refine op_load_agg ?_ | refine op_indexC ?_ | refine op_indexAddr1 ?_ | refine op_indexAddr ?_ | refine op_icmp ?_ | refine op_fcmp ?_ | refine op_iarith ?_ | refine op_bcmp ?_ | refine op_unop_not ?_ | refine op_unop_neg_float ?_ | refine op_unop_neg_int ?_ | refine op_len_slice ?_ | refine op_pick_true ?_ | refine op_pick_false ?_ | refine op_pick_true' ?_ | refine op_pick_false' ?_ | refine op_build ?_ | refine op_extract ?_ | refine op_makeInterface ?_ | refine op_typeAssert ?_ | refine op_ptr_nil ?_ | refine op_nilCheck_ptr ?_ | refine op_nilCheck_meth ?_ | refine op_makeMeth ?_ | refine op_makeFunc ?_ | refine op_itof ?_ | refine op_itoi ?_ | refine op_ftoi ?_ | refine op_iquo ?_ | refine op_irem ?_ | refine op_ibits ?_ | refine op_slice_isnil ?_ | refine op_slice_notnil ?_ | refine op_imax ?_ | refine op_imin ?_ | refine op_shl ?_ | refine op_shr ?_ | (refine op_alloc ?_; intro _) | (refine op_box ?_; intro _) | (refine op_buildSlice ?_; intro _) | (refine op_farith ?_; intro _ _) | refine op_store0 ?_ | refine op_store1 ?_ | refine op_store2 ?_ | refine op_store3 ?_ | refine op_store4 ?_ | refine op_store5 ?_ | refine op_storeK rfl ?_ | refine op_loadK rfl ?_ | refine op_load_aggK rfl ?_ | refine tc_cond_t ?_ | refine tc_cond_f ?_ | refine tc_cond (fun _ => ?_) (fun _ => ?_) | refine tc_block ?_ | refine tc_skip ?_ | refine tc_ret ?_ | refine tc_exit ?_ | refine at_seq_ret ?_ | refine at_seq_exit ?_ | refine at_block_normal ?_ | refine at_block_ret ?_ | refine at_block_exit_self ?_ | refine at_block_exit_ne ?_ | refine at_loop_ret ?_ | refine at_loop_exit ?_ | fail)
      | fail
    obtain ⟨exB, hexB⟩ := bufH_pre 72 buf (zs.map uv) H
    refine ret_tmp (hG := List.Sublist.refl _) (hk := ⟨zs.take n, ⟨aZ, cZ, by rw [List.length_take, Nat.min_eq_left hn]⟩, exB, hexB, by rw [← hexB]; exact (hus H).take hn, h4.take n, hnrm, by rw [hlv, hfin], by rw [List.length_take]; omega⟩)
end Go.Proofs.YtelhfcjchpdkiaaDoor.Lmb

set_option linter.unusedVariables false
set_option linter.unusedSimpArgs false
namespace Go.Proofs.YtelhfcjchpdkiaaDoor.Lmb
open Go.Lg

theorem lv_set : ∀ (l : List Nat) (p v : Nat), p < l.length → lv (l.set p v) + 4294967296 ^ p * l.getD p 0 = lv l + 4294967296 ^ p * v
  | [], p, v, h => by simp at h
  | x :: l, 0, v, _ => by simp [lv]; omega
  | x :: l, p + 1, v, h => by
    have ih := lv_set l p v (by simpa using h)
    simp only [List.set_cons_succ, lv, List.getD_cons_succ, Nat.pow_succ]
    rw [Nat.mul_comm (4294967296 ^ p) 4294967296, Nat.mul_assoc, Nat.mul_assoc]
    have := congrArg (fun t => 4294967296 * t) ih
    simp only [Nat.mul_add] at this
    omega
theorem lv_rep (n : Nat) : lv (List.replicate n 0) = 0 := by
  induction n with
  | zero => rfl
  | succ n ih => simp [List.replicate_succ, lv, ih]
theorem getD_set0 (l : List Nat) (i t v : Nat) (h : i < l.length) : (l.set i v).getD t 0 = if t = i then v else l.getD t 0 := by
  simp only [List.getD_eq_getElem?_getD, List.getElem?_set]
  by_cases e : i = t
  · subst e; simp [h]
  · rw [if_neg e, if_neg (by omega)]
theorem set_uv {zs : List Nat} {p v : Nat} : setCells (zs.map uv) (0 + p) [.int .u32 ((v : Nat) : Int)] = (zs.set p v).map uv := by
  simp only [setCells, Nat.zero_add]
  rw [List.map_set]; rfl
theorem get_uv {zs : List Nat} {p : Nat} (h : p < zs.length) : (zs.map uv)[0 + p]? = some (.int .u32 ((zs.getD p 0 : Nat) : Int)) := by
  rw [Nat.zero_add, List.getElem?_map, List.getElem?_eq_getElem h, getD_in h]; rfl
theorem us_mem {G : Heap} {k : Nat} {zs : List Nat} {T : TypeId} {fz : Nat × Nat} (h : (k, Obj.cells ⟨zs.map uv⟩ T fz) ∈ G) : US G (.slice (some ⟨k, 0, none⟩) zs.length zs.length) zs :=
  ⟨some ⟨k, 0, none⟩, zs.length, by simp, by simp, fun _ => ⟨k, 0, zs.map uv, T, fz, rfl, h, by rw [List.drop_zero, List.length_map]; exact List.take_of_length_le (by simp)⟩⟩
theorem Lm.set {l : List Nat} (h : Lm l) (p v : Nat) (hv : v < 4294967296) : Lm (l.set p v) := fun x hx => by
  rcases List.mem_or_eq_of_mem_set hx with h1 | h1
  · exact h x h1
  · rw [h1]; exact hv

set_option maxHeartbeats 32000000 in
theorem mul (n1 n2 : Bool) (a1 a2 : Option Addr) (c1 c2 : Nat) (xs ys : List Nat) (H : Heap) (hv : US H (.slice a1 xs.length c1) xs) (hu : US H (.slice a2 ys.length c2) ys) (hx : Lm xs) (hy : Lm ys) (hb : xs.length < 2 ^ 36) (hb2 : ys.length < 2 ^ 36) :
    Does Tryd.prog 27 [.agg ⟨[.bool n1, .slice a1 xs.length c1]⟩, .agg ⟨[.bool n2, .slice a2 ys.length c2]⟩] H fun w H' => ∃ zs b a c ex, w = .agg ⟨[.bool b, .slice a zs.length c]⟩ ∧ H' = ex ++ H ∧ US (ex ++ H) (.slice a zs.length c) zs ∧ Lm zs ∧ Nrm zs ∧ lv zs = lv xs * lv ys ∧
      b = (decide (lv zs ≠ 0) && (n1 != n2)) ∧ zs.length ≤ xs.length + ys.length := by
  have hwl : IntKind.i64.wrap (iarith .add (xs.length : Int) (ys.length : Int)) = ((xs.length + ys.length : Nat) : Int) := by rw [wrap_add (by omega) (by omega)]; omega
  refine fn_enter 85 Tryd.func27 fun W => ?_
  repeat' first
    | (rw [hwl])
    | (refine op_makeSlice (l := xs.length + ys.length) (c := xs.length + ys.length) (fun kO => ?_) (by omega) (by omega) (by omega); rw [made_rep])
    | (first | refine tc_seq ?_ | refine tc_region ?_ | refine at_seq_normal ?_ | refine tl_nil ?_ | refine tl_cons ?_ | refine tl_cons_none ?_ | refine op_move ?_ | refine op_assign ?_ | refine op_fieldAddr ?_ | refine op_load ?_ | refine op_load_agg ?_ | refine op_indexC ?_ | refine op_indexAddr1 ?_ | refine op_indexAddr ?_ | refine op_icmp ?_ | refine op_fcmp ?_ | refine op_iarith ?_ | refine op_bcmp ?_ | refine op_unop_not ?_ | refine op_unop_neg_float ?_ | refine op_unop_neg_int ?_ | refine op_len_slice ?_ | refine op_pick_true ?_ | refine op_pick_false ?_ | refine op_pick_true' ?_ | refine op_pick_false' ?_ | refine op_build ?_ | refine op_extract ?_ | refine op_makeInterface ?_ | refine op_typeAssert ?_ | refine op_ptr_nil ?_ | refine op_nilCheck_ptr ?_ | refine op_nilCheck_meth ?_ | refine op_makeMeth ?_ | refine op_makeFunc ?_ | refine op_itof ?_ | refine op_itoi ?_ | refine op_ftoi ?_ | refine op_iquo ?_ | refine op_irem ?_ | refine op_ibits ?_ | refine op_slice_isnil ?_ | refine op_slice_notnil ?_ | refine op_imax ?_ | refine op_imin ?_ | refine op_shl ?_ | refine op_shr ?_ | (refine op_alloc ?_; intro _) | (refine op_box ?_; intro _) | (refine op_buildSlice ?_; intro _) | (refine op_farith ?_; intro _ _) | refine op_store0 ?_ | refine op_store1 ?_ | refine op_store2 ?_ | refine op_store3 ?_ | refine op_store4 ?_ | refine op_store5 ?_ | refine op_storeK rfl ?_ | refine op_loadK rfl ?_ | refine op_load_aggK rfl ?_ | refine tc_cond_t ?_ | refine tc_cond_f ?_ | refine tc_cond (fun _ => ?_) (fun _ => ?_) | refine tc_block ?_ | refine tc_skip ?_ | refine tc_ret ?_ | refine tc_exit ?_ | refine at_seq_ret ?_ | refine at_seq_exit ?_ | refine at_block_normal ?_ | refine at_block_ret ?_ | refine at_block_exit_self ?_ | refine at_block_exit_ne ?_ | refine at_loop_ret ?_ | refine at_loop_exit ?_ | refine tl_guard_yes ?_ | refine tl_guard_no ?_ | refine tl_guard_yes' ?_ | refine tl_guard_no' ?_ | refine tl_guard_undef ?_ | refine tl_guard_split (fun _ => ?_) (fun _ => ?_) | fail)
    | fail
  rename_i k2 k3 k4
  rw [show List.replicate (xs.length + ys.length) (Value.int IntKind.u32 0) = (List.replicate (xs.length + ys.length) 0).map uv by simp [uv]]
  refine tc_loopK [(2, _), (3, _), (4, _), (5, _), (21, _), (22, _)] (by repeat (first | exact trivial | refine ⟨rfl, ?_⟩)) (fun p : Nat × List Nat => [(23, .int .i64 (p.1 : Int))]) (fun p => (kO, Obj.cells ⟨p.2.map uv⟩ 72 (0, 0)) :: (k4, Obj.cells ⟨[.bool false, .slice none 0 0]⟩ 28 (0, 0)) :: (k3, Obj.cells ⟨[.bool n2, .slice a2 ys.length c2]⟩ 28 (0, 0)) :: (k2, Obj.cells ⟨[.bool n1, .slice a1 xs.length c1]⟩ 28 (0, 0)) :: H)
    (fun p => p.1 ≤ xs.length ∧ p.2.length = xs.length + ys.length ∧ Lm p.2 ∧ lv p.2 = lv (xs.take p.1) * lv ys ∧ ∀ t, p.1 + ys.length ≤ t → p.2.getD t 0 = 0) (fun p => xs.length - p.1)
    (0, List.replicate (xs.length + ys.length) 0) ⟨Nat.zero_le _, by simp, (fun x hx => by rw [(List.mem_replicate.1 hx).2]; decide), by simp [lv, lv_rep], fun t _ => by
      rw [List.getD_eq_getElem?_getD, List.getElem?_replicate]; split <;> rfl⟩ ⟨rfl, trivial⟩ (List.Sublist.refl _) ?_
  rintro ⟨i, os⟩ ⟨h1, h2, h3, h4, h5⟩
  simp only at h1 h2 h3 h4 h5 ⊢
  by_cases hlt : i < xs.length
  · have hbb : icmp .lss (i : Int) (xs.length : Int) = true := by rw [lss_nat]; simpa using hlt
    obtain ⟨kA, oA, LA, TA, zA, rfl, mA, allA⟩ := us_block hv (fun e => by rw [e] at hlt; exact absurd hlt (Nat.not_lt_zero _))
    have lA := allA i hlt
    have bA := getD_lt hx i
    have tA := lv_take xs i
    have ex : IntKind.u64.wrap ((xs.getD i 0 : Nat) : Int) = ((xs.getD i 0 : Nat) : Int) := wrap_u64 (by omega) (by omega)
    clear allA
    generalize xs.getD i 0 = x at *
    repeat' first
      | refine op_load (hm := List.mem_cons_of_mem _ (List.mem_cons_of_mem _ (List.mem_cons_of_mem _ (List.mem_cons_of_mem _ mA)))) ?_
      | (first | refine tc_seq ?_ | refine tc_region ?_ | refine at_seq_normal ?_ | refine tl_nil ?_ | refine tl_cons ?_ | refine tl_cons_none ?_ | refine op_move ?_ | refine op_assign ?_ | refine op_fieldAddr ?_ | refine op_load ?_ | refine op_load_agg ?_ | refine op_indexC ?_ | refine op_indexAddr1 ?_ | refine op_indexAddr ?_ | refine op_icmp ?_ | refine op_fcmp ?_ | refine op_iarith ?_ | refine op_bcmp ?_ | refine op_unop_not ?_ | refine op_unop_neg_float ?_ | refine op_unop_neg_int ?_ | refine op_len_slice ?_ | refine op_pick_true ?_ | refine op_pick_false ?_ | refine op_pick_true' ?_ | refine op_pick_false' ?_ | refine op_build ?_ | refine op_extract ?_ | refine op_makeInterface ?_ | refine op_typeAssert ?_ | refine op_ptr_nil ?_ | refine op_nilCheck_ptr ?_ | refine op_nilCheck_meth ?_ | refine op_makeMeth ?_ | refine op_makeFunc ?_ | refine op_itof ?_ | refine op_itoi ?_ | refine op_ftoi ?_ | refine op_iquo ?_ | refine op_irem ?_ | refine op_ibits ?_ | refine op_slice_isnil ?_ | refine op_slice_notnil ?_ | refine op_imax ?_ | refine op_imin ?_ | refine op_shl ?_ | refine op_shr ?_ | (refine op_alloc ?_; intro _) | (refine op_box ?_; intro _) | (refine op_buildSlice ?_; intro _) | (refine op_farith ?_; intro _ _) | refine op_store0 ?_ | refine op_store1 ?_ | refine op_store2 ?_ | refine op_store3 ?_ | refine op_store4 ?_ | refine op_store5 ?_ | refine op_storeK rfl ?_ | refine op_loadK rfl ?_ | refine op_load_aggK rfl ?_ | refine tc_cond_t ?_ | refine tc_cond_f ?_ | refine tc_cond (fun _ => ?_) (fun _ => ?_) | refine tc_block ?_ | refine tc_skip ?_ | refine tc_ret ?_ | refine tc_exit ?_ | refine at_seq_ret ?_ | refine at_seq_exit ?_ | refine at_block_normal ?_ | refine at_block_ret ?_ | refine at_block_exit_self ?_ | refine at_block_exit_ne ?_ | refine at_loop_ret ?_ | refine at_loop_exit ?_ | refine tl_guard_yes ?_ | refine tl_guard_no ?_ | refine tl_guard_yes' ?_ | refine tl_guard_no' ?_ | refine tl_guard_undef ?_ | refine tl_guard_split (fun _ => ?_) (fun _ => ?_) | fail)
      | fail
    refine tc_loopK [(2, _), (3, _), (4, _), (5, _), (6, _), (7, _), (21, _), (22, _), (23, _), (24, _), (25, _), (26, _), (27, _), (28, _), (29, _), (30, _)] (by repeat (first | exact trivial | refine ⟨rfl, ?_⟩)) (fun p : Nat × Nat × List Nat => [(31, .int .i64 (p.1 : Int)), (8, .int .u64 (p.2.1 : Int))]) (fun p => (kO, Obj.cells ⟨p.2.2.map uv⟩ 72 (0, 0)) :: (k4, Obj.cells ⟨[.bool false, .slice none 0 0]⟩ 28 (0, 0)) :: (k3, Obj.cells ⟨[.bool n2, .slice a2 ys.length c2]⟩ 28 (0, 0)) :: (k2, Obj.cells ⟨[.bool n1, .slice (some ⟨kA, oA, none⟩) xs.length c1]⟩ 28 (0, 0)) :: H)
      (fun p => p.1 ≤ ys.length ∧ p.2.1 < 4294967296 ∧ p.2.2.length = xs.length + ys.length ∧ Lm p.2.2 ∧ lv p.2.2 + 4294967296 ^ (i + p.1) * p.2.1 = lv (xs.take i) * lv ys + 4294967296 ^ i * x * lv (ys.take p.1) ∧ ∀ t, i + ys.length ≤ t → p.2.2.getD t 0 = 0) (fun p => ys.length - p.1)
      (0, 0, os) ⟨Nat.zero_le _, by simp only; omega, h2, h3, by simp [lv, h4], h5⟩ ⟨rfl, rfl, trivial⟩ (List.Sublist.refl _) ?_
    rintro ⟨k, carry, us⟩ ⟨g1, g2, g3, g4, g5, g6⟩
    simp only at g1 g2 g3 g4 g5 g6 ⊢
    by_cases hlk : k < ys.length
    · have hbk : icmp .lss (k : Int) (ys.length : Int) = true := by rw [lss_nat]; simpa using hlk
      obtain ⟨kB, oB, LB, TB, zB, rfl, mB, allB⟩ := us_block hu (fun e => by rw [e] at hlk; exact absurd hlk (Nat.not_lt_zero _))
      have lB := allB k hlk
      have bB := getD_lt hy k
      have tB := lv_take ys k
      have hik : i + k < us.length := by omega
      have hikL : i + k < xs.length + ys.length := by omega
      have gO := get_uv hik
      have bO := getD_lt g4 (i + k)
      have sO := fun v => lv_set us (i + k) v hik
      have zO := fun t v => getD_set0 us (i + k) t v hik
      have ey : IntKind.u64.wrap ((ys.getD k 0 : Nat) : Int) = ((ys.getD k 0 : Nat) : Int) := wrap_u64 (by omega) (by omega)
      have eo : IntKind.u64.wrap ((us.getD (i + k) 0 : Nat) : Int) = ((us.getD (i + k) 0 : Nat) : Int) := wrap_u64 (by omega) (by omega)
      have ep : IntKind.i64.wrap (iarith .add (i : Int) (k : Int)) = ((i + k : Nat) : Int) := by rw [wrap_add (by omega) (by omega)]; omega
      clear allB
      generalize ys.getD k 0 = y at *
      generalize us.getD (i + k) 0 = o at *
      have bxy : x * y ≤ 4294967295 * 4294967295 := Nat.mul_le_mul (by omega) (by omega)
      have em : IntKind.u64.wrap (iarith .mul (x : Int) (y : Int)) = ((x * y : Nat) : Int) := by
        have : iarith .mul (x : Int) (y : Int) = ((x * y : Nat) : Int) := (Int.natCast_mul x y).symm
        rw [this, wrap_u64 (by omega) (by omega)]
      have e1 : IntKind.u64.wrap (iarith .add ((x * y : Nat) : Int) (o : Int)) = ((x * y + o : Nat) : Int) := by
        rw [wrap_u64 (by simp only [iarith]; omega) (by simp only [iarith]; omega)]; simp only [iarith]; omega
      have e2 : IntKind.u64.wrap (iarith .add ((x * y + o : Nat) : Int) (carry : Int)) = ((x * y + o + carry : Nat) : Int) := by
        rw [wrap_u64 (by simp only [iarith]; omega) (by simp only [iarith]; omega)]; simp only [iarith]; omega
      have hSb : x * y + o + carry < 18446744073709551616 := by omega
      have hd := Nat.div_add_mod (x * y + o + carry) 4294967296
      have hval : lv (us.set (i + k) ((x * y + o + carry) % 4294967296)) + 4294967296 ^ (i + (k + 1)) * ((x * y + o + carry) / 4294967296) = lv (xs.take i) * lv ys + 4294967296 ^ i * x * lv (ys.take (k + 1)) := by
        have s1 := sO ((x * y + o + carry) % 4294967296)
        have p1 : 4294967296 ^ (i + (k + 1)) * ((x * y + o + carry) / 4294967296) + 4294967296 ^ (i + k) * ((x * y + o + carry) % 4294967296) = 4294967296 ^ (i + k) * (x * y) + 4294967296 ^ (i + k) * o + 4294967296 ^ (i + k) * carry := by
          rw [← Nat.add_assoc i k 1, Nat.pow_succ, Nat.mul_assoc, ← Nat.mul_add, hd, Nat.mul_add, Nat.mul_add]
        have p2 : 4294967296 ^ i * x * lv (ys.take (k + 1)) = 4294967296 ^ i * x * lv (ys.take k) + 4294967296 ^ (i + k) * (x * y) := by
          rw [tB, Nat.mul_add, Nat.pow_add]
          congr 1
          simp only [Nat.mul_assoc, Nat.mul_left_comm, Nat.mul_comm]
        rw [p2]; omega
      have e5 : IntKind.u32.wrap ((x * y + o + carry : Nat) : Int) = (((x * y + o + carry) % 4294967296 : Nat) : Int) := by rw [wrap_u32 (by omega)]; omega
      have e6 : Int.fdiv ((x * y + o + carry : Nat) : Int) (2 ^ min (32 : Int).toNat IntKind.u64.bits) = (((x * y + o + carry) / 4294967296 : Nat) : Int) := by
        show Int.fdiv ((x * y + o + carry : Nat) : Int) ((4294967296 : Nat) : Int) = _
        rw [Int.fdiv_eq_ediv_of_nonneg _ (by omega)]; rfl
      have hdl : (x * y + o + carry) / 4294967296 < 4294967296 := Nat.div_lt_of_lt_mul (by omega)
      have hml : (x * y + o + carry) % 4294967296 < 4294967296 := Nat.mod_lt _ (by decide)
      clear hd bxy
      generalize x * y = xy at *
      generalize xy + o = xyo at *
      generalize xyo + carry = Sm at *
      repeat' first
        | (rw [ex])
        | (rw [ey])
        | (rw [em])
        | (rw [ep])
        | (rw [eo])
        | (rw [e1])
        | (rw [e2])
        | (rw [e5])
        | (rw [e6])
        | refine op_shr (v := 32) ?_
        | refine op_load (hm := List.mem_cons_of_mem _ (List.mem_cons_of_mem _ (List.mem_cons_of_mem _ (List.mem_cons_of_mem _ mB)))) ?_
        | refine op_store0 (l' := (us.set (i + k) (Sm % 4294967296)).map uv) ?_ (hroom := by simp; omega) (hnew := set_uv)
        | (first | refine tc_seq ?_ | refine tc_region ?_ | refine at_seq_normal ?_ | refine tl_nil ?_ | refine tl_cons ?_ | refine tl_cons_none ?_ | refine op_move ?_ | refine op_assign ?_ | refine op_fieldAddr ?_ | refine op_load ?_ | refine op_load_agg ?_ | refine op_indexC ?_ | refine op_indexAddr1 ?_ | refine op_indexAddr ?_ | refine op_icmp ?_ | refine op_fcmp ?_ | refine op_iarith ?_ | refine op_bcmp ?_ | refine op_unop_not ?_ | refine op_unop_neg_float ?_ | refine op_unop_neg_int ?_ | refine op_len_slice ?_ | refine op_pick_true ?_ | refine op_pick_false ?_ | refine op_pick_true' ?_ | refine op_pick_false' ?_ | refine op_build ?_ | refine op_extract ?_ | refine op_makeInterface ?_ | refine op_typeAssert ?_ | refine op_ptr_nil ?_ | refine op_nilCheck_ptr ?_ | refine op_nilCheck_meth ?_ | refine op_makeMeth ?_ | refine op_makeFunc ?_ | refine op_itof ?_ | refine op_itoi ?_ | refine op_ftoi ?_ | refine op_iquo ?_ | refine op_irem ?_ | refine op_ibits ?_ | refine op_slice_isnil ?_ | refine op_slice_notnil ?_ | refine op_imax ?_ | refine op_imin ?_ | refine op_shl ?_ | refine op_shr ?_ | (refine op_alloc ?_; intro _) | (refine op_box ?_; intro _) | (refine op_buildSlice ?_; intro _) | (refine op_farith ?_; intro _ _) | refine op_store0 ?_ | refine op_store1 ?_ | refine op_store2 ?_ | refine op_store3 ?_ | refine op_store4 ?_ | refine op_store5 ?_ | refine op_storeK rfl ?_ | refine op_loadK rfl ?_ | refine op_load_aggK rfl ?_ | refine tc_cond_t ?_ | refine tc_cond_f ?_ | refine tc_cond (fun _ => ?_) (fun _ => ?_) | refine tc_block ?_ | refine tc_skip ?_ | refine tc_ret ?_ | refine tc_exit ?_ | refine at_seq_ret ?_ | refine at_seq_exit ?_ | refine at_block_normal ?_ | refine at_block_ret ?_ | refine at_block_exit_self ?_ | refine at_block_exit_ne ?_ | refine at_loop_ret ?_ | refine at_loop_exit ?_ | refine tl_guard_yes ?_ | refine tl_guard_no ?_ | refine tl_guard_yes' ?_ | refine tl_guard_no' ?_ | refine tl_guard_undef ?_ | refine tl_guard_split (fun _ => ?_) (fun _ => ?_) | fail)
        | fail
      exact at_loopK (k + 1, Sm / 4294967296, us.set (i + k) (Sm % 4294967296)) ⟨hlk, hdl, by simpa using g3, g4.set _ _ hml, hval, fun t ht => by simp only; rw [zO, if_neg (by omega)]; exact g6 t ht⟩ (by simp only; omega) ⟨next_nat (by omega), rfl, trivial⟩ (by repeat (first | exact trivial | refine ⟨rfl, ?_⟩)) (List.Sublist.refl _)
    · have hbk : icmp .lss (k : Int) (ys.length : Int) = false := by rw [lss_nat]; simpa using hlk
      obtain rfl : k = ys.length := by omega
      rw [List.take_of_length_le (Nat.le_refl _)] at g5
      have hik : i + ys.length < us.length := by omega
      have hikL : i + ys.length < xs.length + ys.length := by omega
      have sO := lv_set us (i + ys.length) carry hik
      have zO := fun t => getD_set0 us (i + ys.length) t carry hik
      rw [g6 _ (Nat.le_refl _), Nat.mul_zero, Nat.add_zero] at sO
      have ep : IntKind.i64.wrap (iarith .add (i : Int) (ys.length : Int)) = ((i + ys.length : Nat) : Int) := by rw [wrap_add (by omega) (by omega)]; omega
      have e5 : IntKind.u32.wrap ((carry : Nat) : Int) = ((carry : Nat) : Int) := by rw [wrap_u32 (by omega)]; omega
      have hval : lv (us.set (i + ys.length) carry) = lv (xs.take (i + 1)) * lv ys := by
        rw [sO, g5, tA, Nat.add_mul]
      repeat' first
        | (rw [ep])
        | (rw [e5])
        | refine op_store0 (l' := (us.set (i + ys.length) carry).map uv) ?_ (hroom := by simp; omega) (hnew := set_uv)
        | (first | refine tc_seq ?_ | refine tc_region ?_ | refine at_seq_normal ?_ | refine tl_nil ?_ | refine tl_cons ?_ | refine tl_cons_none ?_ | refine op_move ?_ | refine op_assign ?_ | refine op_fieldAddr ?_ | refine op_load ?_ | refine op_load_agg ?_ | refine op_indexC ?_ | refine op_indexAddr1 ?_ | refine op_indexAddr ?_ | refine op_icmp ?_ | refine op_fcmp ?_ | refine op_iarith ?_ | refine op_bcmp ?_ | refine op_unop_not ?_ | refine op_unop_neg_float ?_ | refine op_unop_neg_int ?_ | refine op_len_slice ?_ | refine op_pick_true ?_ | refine op_pick_false ?_ | refine op_pick_true' ?_ | refine op_pick_false' ?_ | refine op_build ?_ | refine op_extract ?_ | refine op_makeInterface ?_ | refine op_typeAssert ?_ | refine op_ptr_nil ?_ | refine op_nilCheck_ptr ?_ | refine op_nilCheck_meth ?_ | refine op_makeMeth ?_ | refine op_makeFunc ?_ | refine op_itof ?_ | refine op_itoi ?_ | refine op_ftoi ?_ | refine op_iquo ?_ | refine op_irem ?_ | refine op_ibits ?_ | refine op_slice_isnil ?_ | refine op_slice_notnil ?_ | refine op_imax ?_ | refine op_imin ?_ | refine op_shl ?_ | refine op_shr ?_ | (refine op_alloc ?_; intro _) | (refine op_box ?_; intro _) | (refine op_buildSlice ?_; intro _) | (refine op_farith ?_; intro _ _) | refine op_store0 ?_ | refine op_store1 ?_ | refine op_store2 ?_ | refine op_store3 ?_ | refine op_store4 ?_ | refine op_store5 ?_ | refine op_storeK rfl ?_ | refine op_loadK rfl ?_ | refine op_load_aggK rfl ?_ | refine tc_cond_t ?_ | refine tc_cond_f ?_ | refine tc_cond (fun _ => ?_) (fun _ => ?_) | refine tc_block ?_ | refine tc_skip ?_ | refine tc_ret ?_ | refine tc_exit ?_ | refine at_seq_ret ?_ | refine at_seq_exit ?_ | refine at_block_normal ?_ | refine at_block_ret ?_ | refine at_block_exit_self ?_ | refine at_block_exit_ne ?_ | refine at_loop_ret ?_ | refine at_loop_exit ?_ | refine tl_guard_yes ?_ | refine tl_guard_no ?_ | refine tl_guard_yes' ?_ | refine tl_guard_no' ?_ | refine tl_guard_undef ?_ | refine tl_guard_split (fun _ => ?_) (fun _ => ?_) | fail)
        | fail
      exact at_loopK (i + 1, us.set (i + ys.length) carry) ⟨hlt, by simpa using g3, g4.set _ _ g2, hval, fun t ht => by simp only at ht ⊢; rw [zO, if_neg (by omega)]; exact g6 t (by omega)⟩ (by simp only; omega) ⟨next_nat (by omega), trivial⟩ (by repeat (first | exact trivial | refine ⟨rfl, ?_⟩)) (List.Sublist.refl _)
  · have hbb : icmp .lss (i : Int) (xs.length : Int) = false := by rw [lss_nat]; simpa using hlt
    obtain rfl : i = xs.length := by omega
    rw [List.take_of_length_le (Nat.le_refl _)] at h4
    have htr : ∀ G, (kO, Obj.cells ⟨os.map uv⟩ 72 (0, 0)) ∈ G → Does Tryd.prog 42 [.slice (some ⟨kO, 0, none⟩) (xs.length + ys.length) (xs.length + ys.length)] G
        fun w H' => ∃ n, w = .slice (some ⟨kO, 0, none⟩) n (xs.length + ys.length) ∧ H' = G ∧ n ≤ os.length ∧ Nrm (os.take n) ∧ lv (os.take n) = lv os := by
      intro G hm
      rw [← h2]; exact trim _ _ os G (us_mem hm) (by omega)
    have fin : ∀ (n : Nat) (b : Bool), n ≤ os.length → Nrm (os.take n) → lv (os.take n) = lv os → b = (decide (0 < n) && (n1 != n2)) → ∀ G ex, G = ex ++ H → (kO, Obj.cells ⟨os.map uv⟩ 72 (0, 0)) ∈ G →
        ∃ zs b' a c ex', Value.agg ⟨[.bool b, .slice (some ⟨kO, 0, none⟩) n (xs.length + ys.length)]⟩ = .agg ⟨[.bool b', .slice a zs.length c]⟩ ∧ G = ex' ++ H ∧ US (ex' ++ H) (.slice a zs.length c) zs ∧ Lm zs ∧ Nrm zs ∧ lv zs = lv xs * lv ys ∧
          b' = (decide (lv zs ≠ 0) && (n1 != n2)) ∧ zs.length ≤ xs.length + ys.length := by
      intro n b hn hnr hlv hb G ex hG hm
      have hlen : (os.take n).length = n := by rw [List.length_take, Nat.min_eq_left hn]
      have hus := (us_mem hm).take (m := n) hn
      rw [h2] at hus
      refine ⟨os.take n, b, some ⟨kO, 0, none⟩, xs.length + ys.length, ex, by rw [hlen], hG, by rw [hlen, ← hG]; exact hus, h3.take n, hnr, by rw [hlv, h4], ?_, by rw [hlen]; omega⟩
      rw [hb]
      congr 1
      have hz := nrm_zero hnr
      by_cases h0 : n = 0
      · subst h0; simp [lv]
      · have : lv (os.take n) ≠ 0 := fun e => by
          have := congrArg List.length (hz.1 e)
          rw [hlen] at this; simp at this; omega
        rw [decide_eq_true (show 0 < n by omega), decide_eq_true this]
    repeat' first
      | (refine op_call ((htr _ List.mem_cons_self).mono ?_); rintro _ _ ⟨n, rfl, rfl, hn, hnr, hlv⟩; by_cases hn0 : n = 0)
      | (have hgt : icmp .gtr (n : Int) 0 = false := by simp only [icmp, decide_eq_false_iff_not]; omega
         clear hn0)
      | (have hgt : icmp .gtr (n : Int) 0 = true := by simp only [icmp, decide_eq_true_eq]; omega
         clear hn0)
      | (first | refine tc_seq ?_ | refine tc_region ?_ | refine at_seq_normal ?_ | refine tl_nil ?_ | refine tl_cons ?_ | refine tl_cons_none ?_ | refine op_move ?_ | refine op_assign ?_ | refine op_fieldAddr ?_ | refine op_load ?_ | refine op_load_agg ?_ | refine op_indexC ?_ | refine op_indexAddr1 ?_ | refine op_indexAddr ?_ | refine op_icmp ?_ | refine op_fcmp ?_ | refine op_iarith ?_ | refine op_bcmp ?_ | refine op_unop_not ?_ | refine op_unop_neg_float ?_ | refine op_unop_neg_int ?_ | refine op_len_slice ?_ | refine op_pick_true ?_ | refine op_pick_false ?_ | refine op_pick_true' ?_ | refine op_pick_false' ?_ | refine op_build ?_ | refine op_extract ?_ | refine op_makeInterface ?_ | refine op_typeAssert ?_ | refine op_ptr_nil ?_ | refine op_nilCheck_ptr ?_ | refine op_nilCheck_meth ?_ | refine op_makeMeth ?_ | refine op_makeFunc ?_ | refine op_itof ?_ | refine op_itoi ?_ | refine op_ftoi ?_ | refine op_iquo ?_ | refine op_irem ?_ | refine op_ibits ?_ | refine op_slice_isnil ?_ | refine op_slice_notnil ?_ | refine op_imax ?_ | refine op_imin ?_ | refine op_shl ?_ | refine op_shr ?_ | (refine op_alloc ?_; intro _) | (refine op_box ?_; intro _) | (refine op_buildSlice ?_; intro _) | (refine op_farith ?_; intro _ _) | refine op_store0 ?_ | refine op_store1 ?_ | refine op_store2 ?_ | refine op_store3 ?_ | refine op_store4 ?_ | refine op_store5 ?_ | refine op_storeK rfl ?_ | refine op_loadK rfl ?_ | refine op_load_aggK rfl ?_ | refine tc_cond_t ?_ | refine tc_cond_f ?_ | refine tc_cond (fun _ => ?_) (fun _ => ?_) | refine tc_block ?_ | refine tc_skip ?_ | refine tc_ret ?_ | refine tc_exit ?_ | refine at_seq_ret ?_ | refine at_seq_exit ?_ | refine at_block_normal ?_ | refine at_block_ret ?_ | refine at_block_exit_self ?_ | refine at_block_exit_ne ?_ | refine at_loop_ret ?_ | refine at_loop_exit ?_ | refine tl_guard_yes ?_ | refine tl_guard_no ?_ | refine tl_guard_yes' ?_ | refine tl_guard_no' ?_ | refine tl_guard_undef ?_ | refine tl_guard_split (fun _ => ?_) (fun _ => ?_) | fail)
      | fail
    · refine ret_one (.agg (T := 28) (k := k4) (off := 0) (m := [.bool _, .slice (some ⟨kO, 0, none⟩) n (xs.length + ys.length)]) rfl rfl mem1 rfl rfl) (hk := fin n _ hn hnr hlv (by rw [decide_eq_false (by simp only [icmp, decide_eq_false_iff_not] at hgt; omega)]; rfl) _ [_, _, _, _] rfl List.mem_cons_self) (hG := List.Sublist.refl _)
    · refine ret_one (.agg (T := 28) (k := k4) (off := 0) (m := [.bool _, .slice (some ⟨kO, 0, none⟩) n (xs.length + ys.length)]) rfl rfl mem1 rfl rfl) (hk := fin n _ hn hnr hlv (by rw [decide_eq_true (by simp only [icmp, decide_eq_true_eq] at hgt; omega)]; rfl) _ [_, _, _, _] rfl List.mem_cons_self) (hG := List.Sublist.refl _)
end Go.Proofs.YtelhfcjchpdkiaaDoor.Lmb
