/-
  More operations in the small logic: the lesser and the greater of two numbers; rows that grow by append; closures, deferred calls that recover nothing. No conditions.
-/
import Derived.Test.YthafjfgmbmpfoaaLg5
import Derived.Test.YthafjfgmbmpfoaaFl3
import Derived.Laws.AppendOwn
import Derived.Recover
set_option linter.unusedVariables false
set_option linter.unusedSimpArgs false
namespace Go.Lg
open Ieee

def rmin (a b : Rat) : Rat := if a < b then a else b
def rmax (a b : Rat) : Rat := if a < b then b else a

/-- Not a number, nor infinite: what 'x - x == 0' asks. -/
theorem finite_of {x r : Nat} (h : FAr .sub x x r) (he : fcmp .eql r 0 = true) : ∃ a, Fv x a := by
  cases hx : double.read x with
  | number s m e => exact ⟨_, s, m, e, hx, rfl⟩
  | infinity s =>
    exfalso
    have hn : (double.read r).isNaN = true := by
      have := h.ok
      have e : floatBits .sub .f64 x x = none := by
        cases s <;> simp [floatBits, FloatKind.format, Format.sub, hx, Datum.sum, Datum.opposite]
      rw [e] at this; exact this.1
    cases hr : double.read r with
    | nan s t => simp [fcmp_def, fcmp0, Format.order, hr, Datum.order] at he
    | number => rw [hr] at hn; cases hn
    | infinity => rw [hr] at hn; cases hn
  | nan s t =>
    exfalso
    have hn : (double.read r).isNaN = true := by
      have := h.ok
      cases hb : floatBits .sub .f64 x x with
      | none => rw [hb] at this; exact this.1
      | some q =>
        rw [hb] at this
        exfalso
        simp [floatBits, FloatKind.format, Format.sub, hx, Datum.sum, Datum.opposite] at hb
    cases hr : double.read r with
    | nan s t => simp [fcmp_def, fcmp0, Format.order, hr, Datum.order] at he
    | number => rw [hr] at hn; cases hn
    | infinity => rw [hr] at hn; cases hn

section
variable {P : Program} {W : World} {n : Nat} {ds : List Deferred} {dst : Option Tmp} {ty : TypeId} {pos : String} {af : Array Edge} {g : Option (Nat × Bool)} {E : Env} {G : Heap} {K : Value → Heap → Prop}

theorem op_fmax {x y tx t2 u v} {a b : Rat} (hk : ∀ r, Fv r (rmax a b) → K (.float .f64 r) G) (hx : evalE E x = some (.float .f64 u) := by exact rfl) (hy : evalE E y = some (.float .f64 v) := by exact rfl) (ha : Fv u a := by assumption) (hb : Fv v b := by assumption) :
    OpT P W n ds ⟨dst, .call { callee := .builtin .max, args := #[x, y], argTypes := #[tx, t2] }, ty, pos, af, g⟩ E G K := by
  have ho := order_val ha hb
  have key : ∃ r, Fv r (rmax a b) ∧ ∀ w : World, (Builtin.max_ #[tx, t2] ty #[.float .f64 u, .float .f64 v]).run P w = .ok (.float .f64 r) w := by
    have ho' : FloatKind.f64.format.order u v = double.order u v := rfl
    unfold rmax
    by_cases h1 : a < b
    · rw [if_pos h1] at ho ⊢
      exact ⟨v, hb, fun w => by simp [Builtin.max_, Builtin.max2, ho', ho]⟩
    · rw [if_neg h1] at ho ⊢
      by_cases h2 : a = b
      · subst h2
        rw [if_pos rfl] at ho
        refine ⟨if (FloatKind.f64.decode u).neg then v else u, ?_, fun w => by simp [Builtin.max_, Builtin.max2, ho', ho]⟩
        split
        · exact hb
        · exact ha
      · rw [if_neg h2] at ho
        exact ⟨u, ha, fun w => by simp [Builtin.max_, Builtin.max2, ho', ho]⟩
  obtain ⟨r, hr, hrun⟩ := key
  exact op_of_run (fun a' w ho _ => by
    simp only [execOp, resolve, invoke]
    refine (sem_run_bind P _ _ w _ w rfl).trans ?_
    refine run_v ?_
    simp only [List.map_toArray, List.map_cons, List.map_nil, ho.eval hx, ho.eval hy]
    exact hrun w) (hk r hr)

theorem op_fmin {x y tx t2 u v} {a b : Rat} (hk : ∀ r, Fv r (rmin a b) → K (.float .f64 r) G) (hx : evalE E x = some (.float .f64 u) := by exact rfl) (hy : evalE E y = some (.float .f64 v) := by exact rfl) (ha : Fv u a := by assumption) (hb : Fv v b := by assumption) :
    OpT P W n ds ⟨dst, .call { callee := .builtin .min, args := #[x, y], argTypes := #[tx, t2] }, ty, pos, af, g⟩ E G K := by
  have ho := order_val ha hb
  have key : ∃ r, Fv r (rmin a b) ∧ ∀ w : World, (Builtin.min_ #[tx, t2] ty #[.float .f64 u, .float .f64 v]).run P w = .ok (.float .f64 r) w := by
    have ho' : FloatKind.f64.format.order u v = double.order u v := rfl
    unfold rmin
    by_cases h1 : a < b
    · rw [if_pos h1] at ho ⊢
      exact ⟨u, ha, fun w => by simp [Builtin.min_, Builtin.min2, ho', ho]⟩
    · rw [if_neg h1] at ho ⊢
      by_cases h2 : a = b
      · subst h2
        rw [if_pos rfl] at ho
        refine ⟨if (FloatKind.f64.decode u).neg then u else v, ?_, fun w => by simp [Builtin.min_, Builtin.min2, ho', ho]⟩
        split
        · exact ha
        · exact hb
      · rw [if_neg h2] at ho
        exact ⟨v, hb, fun w => by simp [Builtin.min_, Builtin.min2, ho', ho]⟩
  obtain ⟨r, hr, hrun⟩ := key
  exact op_of_run (fun a' w ho _ => by
    simp only [execOp, resolve, invoke]
    refine (sem_run_bind P _ _ w _ w rfl).trans ?_
    refine run_v ?_
    simp only [List.map_toArray, List.map_cons, List.map_nil, ho.eval hx, ho.eval hy]
    exact hrun w) (hk r hr)
end

/-- math.Max and math.Min of the machine, of two numbers. -/
theorem pick_run {P : Program} {nm : String} {neg : Bool} {win : Ordering} {x y : Nat} {a b : Rat} (ha : Fv x a) (hb : Fv y b) :
    ∃ r, (∀ w : World, (Extern.MathDim.pick nm neg win ⟨[.float .f64 x, .float .f64 y]⟩).run P w = .ok (.float .f64 r) w) ∧ (r = x ∨ r = y) ∧ (a < b → win = .gt → r = y) ∧ (a < b → win = .lt → r = x) ∧ (b < a → win = .gt → r = x) ∧ (b < a → win = .lt → r = y) := by
  have ho := order_val ha hb
  have ho' : (FloatKind.f64.decode x).order (FloatKind.f64.decode y) = double.order x y := rfl
  obtain ⟨s, m, i, hx, rfl⟩ := ha
  obtain ⟨t, l, j, hy, rfl⟩ := hb
  have dx : FloatKind.f64.decode x = .number s m i := hx
  have dy : FloatKind.f64.decode y = .number t l j := hy
  have hz : (FloatKind.f64.decode x).isZero = true → (FloatKind.f64.decode y).isZero = true → sgn s * (m : Rat) * p2 i = 0 ∧ sgn t * (l : Rat) * p2 j = 0 := by
    rw [dx, dy]
    intro h1 h2
    have h1' : m = 0 := by cases m with
      | zero => rfl
      | succ m => simp [Datum.isZero] at h1
    have h2' : l = 0 := by cases l with
      | zero => rfl
      | succ l => simp [Datum.isZero] at h2
    subst h1'; subst h2'
    constructor <;> simp
  refine ⟨_, fun w => rfl, ?_⟩
  have hni : (FloatKind.f64.decode x == Datum.infinity neg || FloatKind.f64.decode y == Datum.infinity neg) = false := by rw [dx, dy]; rfl
  have hnn : ((FloatKind.f64.decode x).isNaN || (FloatKind.f64.decode y).isNaN) = false := by rw [dx, dy]; rfl
  simp only [hni, hnn, Bool.false_eq_true, if_false, ho', ho]
  generalize sgn s * (m : Rat) * p2 i = a at *
  generalize sgn t * (l : Rat) * p2 j = b at *
  by_cases hzz : ((FloatKind.f64.decode x).isZero && (FloatKind.f64.decode y).isZero) = true
  · rw [if_pos hzz]
    simp only [Bool.and_eq_true] at hzz
    obtain ⟨rfl, rfl⟩ := hz hzz.1 hzz.2
    exact ⟨by split <;> simp, fun h => absurd h (by grind), fun h => absurd h (by grind), fun h => absurd h (by grind), fun h => absurd h (by grind)⟩
  · rw [if_neg hzz]
    refine ⟨?_, ?_, ?_, ?_, ?_⟩
    · generalize (if a < b then Ordering.lt else if a = b then Ordering.eq else Ordering.gt) = o
      by_cases h : (some o == some win) = true
      · rw [if_pos h]; exact .inl rfl
      · rw [if_neg h]; exact .inr rfl
    · rintro h rfl; simp [h]
    · rintro h rfl; simp [h]
    · rintro h rfl
      have h1 : ¬ a < b := by grind
      have h2 : ¬ a = b := by grind
      simp [h1, h2]
    · rintro h rfl
      have h1 : ¬ a < b := by grind
      have h2 : ¬ a = b := by grind
      simp [h1, h2]

theorem does_archMax {P : Program} {f : FuncId} {fn : Func} {H : Heap} {x y : Nat} {a b : Rat} (ha : Fv x a) (hb : Fv y b)
    (hf : P.funcs[f]? = some fn) (hn : (fn.name == "runtime.NumGoroutine") = false) (hbd : fn.body.isNone = true) (h1 : (Extern.findNext fn).isNone = true)
    (h2 : Extern.find fn = some (Extern.MathDim.pick "math.archMax" false .gt)) : Does P f [.float .f64 x, .float .f64 y] H fun v H' => (∃ r, v = .float .f64 r ∧ Fv r (rmax a b)) ∧ H' = H := by
  refine does_extern hf hn hbd h1 h2 fun W w hs => ?_
  obtain ⟨r, hr, h0, h3, _, h4, _⟩ := pick_run (P := P) (nm := "math.archMax") (neg := false) (win := .gt) ha hb
  refine ⟨_, w, hr w, hs, ⟨r, rfl, ?_⟩, rfl⟩
  unfold rmax
  by_cases h : a < b
  · rw [if_pos h, h3 h rfl]; exact hb
  · rw [if_neg h]
    by_cases h' : b < a
    · rw [h4 h' rfl]; exact ha
    · have : a = b := by grind
      subst this
      rcases h0 with rfl | rfl
      · exact ha
      · exact hb

theorem does_archMin {P : Program} {f : FuncId} {fn : Func} {H : Heap} {x y : Nat} {a b : Rat} (ha : Fv x a) (hb : Fv y b)
    (hf : P.funcs[f]? = some fn) (hn : (fn.name == "runtime.NumGoroutine") = false) (hbd : fn.body.isNone = true) (h1 : (Extern.findNext fn).isNone = true)
    (h2 : Extern.find fn = some (Extern.MathDim.pick "math.archMin" true .lt)) : Does P f [.float .f64 x, .float .f64 y] H fun v H' => (∃ r, v = .float .f64 r ∧ Fv r (rmin a b)) ∧ H' = H := by
  refine does_extern hf hn hbd h1 h2 fun W w hs => ?_
  obtain ⟨r, hr, h0, _, h3, _, h4⟩ := pick_run (P := P) (nm := "math.archMin") (neg := true) (win := .lt) ha hb
  refine ⟨_, w, hr w, hs, ⟨r, rfl, ?_⟩, rfl⟩
  unfold rmin
  by_cases h : a < b
  · rw [if_pos h, h3 h rfl]; exact ha
  · rw [if_neg h]
    by_cases h' : b < a
    · rw [h4 h' rfl]; exact hb
    · have : a = b := by grind
      subst this
      rcases h0 with rfl | rfl
      · exact ha
      · exact hb

/-! ### Rows that grow -/

/-- A row of one's own: nil, or a block with its capacity and the cells behind the row. -/
abbrev Buf := Option (Nat × Nat × List Value)
def bufV : Buf → Nat → Value
  | none, _ => .slice none 0 0
  | some (k, cap, _), n => .slice (some ⟨k, 0, none⟩) n cap
def bufH (e : TypeId) : Buf → List Value → Heap → Heap
  | none, _, H => H
  | some (k, _, sp), ws, H => (k, .cells ⟨ws ++ sp⟩ e (0, 0)) :: H
def bufOk (s : Nat) : Buf → Nat → List Value → Prop
  | none, n, ws => n = 0 ∧ ws = []
  | some (_, cap, sp), n, ws => n ≤ cap ∧ cap ≤ maxLen ∧ ws.length = n * s ∧ (ws ++ sp).length = cap * s

theorem bufH_sub (e : TypeId) (buf : Buf) (ws : List Value) (H : Heap) : List.Sublist H (bufH e buf ws H) := by
  cases buf with
  | none => exact List.Sublist.refl _
  | some b => exact List.sublist_cons_self _ _

theorem Sees.setRow {W w : World} {k : Nat} {l l' : List Value} {T : TypeId} {fz : Nat × Nat} {H : Heap} (h : Sees W ((k, Obj.cells ⟨l⟩ T fz) :: H) w) :
    Sees W ((k, Obj.cells ⟨l'⟩ T fz) :: H) (w.setRow k ⟨l'⟩) := by
  have hk := h.mem k _ List.mem_cons_self
  refine ⟨h.os, h.tape, h.output, by simpa using h.nodup, ?_⟩
  intro k' o ho
  have hn := h.nodup
  simp only [List.map_cons, List.nodup_cons] at hn
  cases ho with
  | head => exact setRow_heap w k _ _ T fz hk
  | tail _ ho =>
    have : k' ≠ k := fun e => hn.1 (List.mem_map.2 ⟨_, ho, e⟩)
    rw [setRow_other w k k' _ this]
    exact h.mem _ _ (List.mem_cons_of_mem _ ho)

section
variable {P : Program} {W : World} {n : Nat} {ds : List Deferred} {dst : Option Tmp} {ty : TypeId} {pos : String} {af : Array Edge} {g : Option (Nat × Bool)} {E : Env} {G : Heap} {K : Value → Heap → Prop}

theorem tl_sub {ops l Q G'} (hG : List.Sublist G' G) (h : TL P W n ds ops Q l E G') : TL P W n ds ops Q l E G := ⟨fun a w ho hs => h.run a w ho (hs.sub hG)⟩

theorem op_append {t e s b z x y kn offn m c ln Tn fzn H'} (buf : Buf) (l : Nat) (ws news : List Value) [Und P t (.slice e)] [hI : Inf P e s b z] (hok : bufOk s buf l ws)
    (hk : ∀ buf', bufOk s buf' (l + m) (ws ++ news) → K (bufV buf' (l + m)) (bufH e buf' (ws ++ news) H'))
    (hx : evalE E x = some (bufV buf l)) (hy : evalE E y = some (.slice (some ⟨kn, offn, none⟩) m c)) (hsub : List.Sublist (bufH e buf ws H') G) (hn : (kn, Obj.cells ⟨ln⟩ Tn fzn) ∈ G)
    (hnews : (ln.drop offn).take (m * s) = news) (hlen : news.length = m * s) (h1 : ∀ u ∈ news, u.oneCell' = true) (hm : 0 < m) (hbig : l + m ≤ maxLen) (hbytes : (l + m) * b ≤ 140737488355328) (hz0 : z.length = s := by exact rfl) :
    OpT P W n ds ⟨dst, .call { callee := .builtin .append, args := #[x, y], argTypes := #[t, t] }, ty, pos, af, g⟩ E G K := by
  have ht : P.underlying t = some (.slice e) := Und.eq
  obtain ⟨i, zv, hi, rfl, hb, hz, hzc⟩ := hI.get
  subst hb
  have hsmall : l + m ≤ 9223372036854775807 := by simp only [maxLen] at hbig; omega
  have zlen : zv.cells.size = i.size := by rw [hzc]; exact hz0
  refine ⟨fun a w next Q ho hs hnx => ?_⟩
  have hcell : ∀ j u, news[j]? = some u → w.cell? ((⟨kn, offn, none⟩ : Addr).add j) = some u := fun j u hj => by
    rw [addr_add]; exact hs.cell hn (cut_get hnews hj)
  have run : ∃ v' w' buf', (Builtin.append_ #[t, t] ty #[bufV buf l, .slice (some ⟨kn, offn, none⟩) m c]).run P w = .ok v' w' ∧ v' = bufV buf' (l + m) ∧ bufOk i.size buf' (l + m) (ws ++ news) ∧ Sees W (bufH e buf' (ws ++ news) H') w' := by
    have hs2 := hs.sub hsub
    have grown : ∀ old, old < l + m → ws.length = l * i.size → Sees W H' w →
        bufOk i.size (some (w.heap.size, grownCap w (l + m) old e, (Builtin.zeroCells zv.cells (grownCap w (l + m) old e - (l + m))).toList)) (l + m) (ws ++ news) ∧
        Sees W (bufH e (some (w.heap.size, grownCap w (l + m) old e, (Builtin.zeroCells zv.cells (grownCap w (l + m) old e - (l + m))).toList)) (ws ++ news) H') (w.drew.alloc (.cells (ws.toArray ++ news.toArray ++ Builtin.zeroCells zv.cells (grownCap w (l + m) old e - (l + m))) e)) := by
      intro old hold hwl hsH
      have hge := grownCap_ge w (l + m) old e
      refine ⟨⟨hge, grownCap_le_maxLen w (l + m) old e hbig, by rw [List.length_append, hwl, hlen, Nat.add_mul], ?_⟩, ?_⟩
      · rw [List.length_append, List.length_append, hwl, hlen, Array.length_toList, size_zeroCells, zlen, ← Nat.add_mul, ← Nat.add_mul]
        congr 1; omega
      · have := (hsH.drew (w.drawn + 1)).push (.cells (ws.toArray ++ news.toArray ++ Builtin.zeroCells zv.cells (grownCap w (l + m) old e - (l + m))) e)
        have e1 : (ws.toArray ++ news.toArray ++ Builtin.zeroCells zv.cells (grownCap w (l + m) old e - (l + m))) = ⟨(ws ++ news) ++ (Builtin.zeroCells zv.cells (grownCap w (l + m) old e - (l + m))).toList⟩ := by
          apply Array.ext'; simp
        rw [e1] at this ⊢
        exact this
    match buf, hok with
    | none, hok =>
      obtain ⟨rfl, rfl⟩ := hok
      have hr := run_append_nil (P := P) w t ty e i zv ht hi hz ⟨kn, offn, none⟩ m c news hlen hcell hm (by omega) (by have := hbytes; simp only [Nat.zero_add] at this; omega)
      have hg := grown 0 (by omega) (by simp) hs2
      simp only [Nat.zero_add] at hg ⊢
      refine ⟨_, _, some (w.heap.size, _, _), hr, rfl, hg.1, ?_⟩
      have := hg.2
      simpa using this
    | some (k, cap, sp), hok =>
      obtain ⟨h2, h3, h4, h5⟩ := hok
      have hkm := hs2.mem k _ List.mem_cons_self
      by_cases hroom : l + m ≤ cap
      · have hfit : l * i.size + news.length ≤ (⟨ws ++ sp⟩ : Array Value).size := by
          rw [hlen, ← Nat.add_mul]; show _ ≤ (ws ++ sp).length; rw [h5]; exact Nat.mul_le_mul_right _ hroom
        have hr := run_append_room (P := P) w t ty e i ht hi k l cap ⟨ws ++ sp⟩ hkm ⟨kn, offn, none⟩ m c news hlen hcell h1 hroom hfit
        have e1 : (((⟨ws ++ sp⟩ : Array Value).toList.take (l * i.size) ++ news ++ (⟨ws ++ sp⟩ : Array Value).toList.drop (l * i.size + news.length)).toArray) = ⟨(ws ++ news) ++ sp.drop news.length⟩ := by
          apply Array.ext'
          show (ws ++ sp).take (l * i.size) ++ news ++ (ws ++ sp).drop (l * i.size + news.length) = _
          rw [← h4, List.take_left, List.drop_append]
          simp
        rw [e1] at hr
        refine ⟨_, _, some (k, cap, sp.drop news.length), hr, rfl, ⟨hroom, h3, by rw [List.length_append, h4, hlen, Nat.add_mul], ?_⟩, hs2.setRow⟩
        have : (ws ++ sp).length = cap * i.size := h5
        have h6 : (l + m) * i.size ≤ cap * i.size := Nat.mul_le_mul_right _ hroom
        rw [Nat.add_mul] at h6
        simp only [List.length_append, List.length_drop] at this ⊢
        omega
      · have holds : ∀ j u, ws[j]? = some u → w.cell? ((⟨k, 0, none⟩ : Addr).add j) = some u := fun j u hj => by
          rw [addr_add]
          refine hs2.cell List.mem_cons_self ?_
          have hlt := (List.getElem?_eq_some_iff.1 hj).1
          rw [Nat.zero_add, List.getElem?_append_left hlt]; exact hj
        have hr := run_append_grow (P := P) w t ty e i zv ht hi hz ⟨k, 0, none⟩ l cap ws h4 holds ⟨kn, offn, none⟩ m c news hlen hcell (by omega) (by omega) (growslice_fits (by omega) hbytes)
        have hg := grown cap (by omega) h4 (hs2.sub (List.sublist_cons_self _ _))
        exact ⟨_, _, some (w.heap.size, _, _), hr, rfl, hg.1, hg.2⟩
  obtain ⟨v', w', buf', hrun, rfl, hok', hs'⟩ := run
  have he : (execOp a.eval ⟨dst, .call { callee := .builtin .append, args := #[x, y], argTypes := #[t, t] }, ty, pos, af, g⟩).run P w = .ok (.value (bufV buf' (l + m))) w' := by
    simp only [execOp, resolve, invoke]
    refine (sem_run_bind P _ _ w _ w rfl).trans ?_
    refine run_v ?_
    simp only [List.map_toArray, List.map_cons, List.map_nil, ho.eval hx, ho.eval hy]
    exact hrun
  rw [he]
  exact hnx _ _ _ hs' (hk buf' hok')
end
theorem fs_buf {e : TypeId} {buf : Buf} {xs : List Nat} {n : Nat} {H : Heap} (h : bufOk 1 buf n (xs.map fl)) : FS (bufH e buf (xs.map fl) H) (bufV buf n) xs := by
  cases buf with
  | none =>
    obtain ⟨rfl, h2⟩ := h
    exact ⟨none, 0, by rw [h2]; rfl, by rw [h2]; simp, fun hn => (hn h2).elim⟩
  | some b =>
    obtain ⟨k, cap, sp⟩ := b
    obtain ⟨h1, h2, h3, h4⟩ := h
    refine ⟨some ⟨k, 0, none⟩, cap, by simp only [bufV]; congr 1; omega, by omega, fun _ => ⟨k, 0, _, e, (0, 0), rfl, List.mem_cons_self, ?_⟩⟩
    rw [List.drop_zero, List.take_left]

end Go.Lg
