/-
  A small logic for walking Go code: what is known of a call's slots (an environment) and of memory (a list of blocks). No conditions.
-/
import Derived.Calls
import Derived.Orders
import Derived.Tactics
import Derived.WalkKit
import Derived.KernelRfl
import Derived.Laws.FloatArith
import Derived.Test.YtddpdmmikheoeaaDoorProg
import Derived.ProofKit
import Derived.OpenShut
import Derived.Carry
import Derived.Lib.SmallJoins
import Ieee.Arith
import Derived.Laws.AppendOwn
import Derived.Recover
import Derived.Laws.Build
import Derived.Laws.Pointers
set_option linter.unusedVariables false
set_option linter.unusedSimpArgs false
namespace Go.Lg

abbrev Env := List (Nat × Value)
abbrev Heap := List (Nat × Obj)

def Env.get : Env → Nat → Option Value
  | [], _ => none
  | (k, v) :: E, t => cond (Nat.beq k t) (some v) (Env.get E t)

def evalE (E : Env) : Operand → Option Value
  | .tmp t => Env.get E t
  | .const v => some v
  | .global g => some (.pointer (some ⟨g, 0, none⟩))
  | .func f => some (.func (.func f) #[] #[])

def evalAll (E : Env) : List Operand → Option (List Value)
  | [] => some []
  | x :: xs => match evalE E x with
    | none => none
    | some v => match evalAll E xs with
      | none => none
      | some vs => some (v :: vs)

/-- The frame agrees with the environment. -/
structure Ok (n : Nat) (ds : List Deferred) (E : Env) (a : Act) : Prop where
  size : a.tmps.size = n
  defers : a.defers = ds
  get : ∀ t v, Env.get E t = some v → a.tmps[t]? = some v

/-- The world holds the listed blocks; streams as0 in W. -/
structure Sees (W : World) (H : Heap) (w : World) : Prop where
  os : w.os = W.os
  tape : w.tape = W.tape
  output : w.output = W.output
  nodup : (H.map (·.1)).Nodup
  mem : ∀ k o, (k, o) ∈ H → w.heap[k]? = some o

theorem Ok.eval {n ds E a x v} (h : Ok n ds E a) (hx : evalE E x = some v) : a.eval x = v := by
  cases x with
  | tmp t =>
    have := h.get t v hx
    show a.tmps.getD t undef = v
    rw [Array.getD_eq_getD_getElem?, this]; rfl
  | const u => simpa [evalE, Act.eval] using hx
  | global g => simpa [evalE, Act.eval] using hx
  | func f => simpa [evalE, Act.eval] using hx

theorem Env.get_cons_self (E : Env) (d : Nat) (v : Value) : Env.get ((d, v) :: E) d = some v := by
  simp [Env.get]

theorem Env.get_cons_ne {E : Env} {d t : Nat} {v : Value} (h : d ≠ t) : Env.get ((d, v) :: E) t = Env.get E t := by
  have : Nat.beq d t = false := by
    cases hb : Nat.beq d t with
    | false => rfl
    | true => exact absurd (Nat.eq_of_beq_eq_true hb) h
  simp [Env.get, this]

theorem Ok.put {n ds E a} (h : Ok n ds E a) {d : Nat} (hd : d < n) (v : Value) : Ok n ds ((d, v) :: E) (a.put (some d) v) := by
  refine ⟨by simp [Act.put, h.size], by simp [Act.put, h.defers], fun t u hu => ?_⟩
  by_cases e : d = t
  · subst e
    rw [Env.get_cons_self] at hu
    cases hu
    simp [Act.put, h.size, hd]
  · rw [Env.get_cons_ne e] at hu
    simp [Act.put, e, h.get t u hu]

theorem Ok.mono {n ds E E' a} (h : Ok n ds E a) (hE : ∀ t v, Env.get E' t = some v → Env.get E t = some v) : Ok n ds E' a :=
  ⟨h.size, h.defers, fun t v hv => h.get t v (hE t v hv)⟩

theorem Sees.sub {W H H' w} (h : Sees W H w) (hs : List.Sublist H' H) : Sees W H' w :=
  ⟨h.os, h.tape, h.output, (hs.map _).nodup h.nodup, fun k o ho => h.mem k o (hs.subset ho)⟩

theorem Sees.perm {W H H' w} (h : Sees W H w) (hs : List.Perm H' H) : Sees W H' w :=
  ⟨h.os, h.tape, h.output, ((hs.map _).nodup_iff).2 h.nodup, fun k o ho => h.mem k o (hs.mem_iff.1 ho)⟩

theorem Sees.lt {W H w k o} (h : Sees W H w) (hk : (k, o) ∈ H) : k < w.heap.size := by
  have := h.mem k o hk
  rcases Nat.lt_or_ge k w.heap.size with h | h
  · exact h
  · rw [Array.getElem?_eq_none h] at this; cases this

theorem Sees.drew {W H w} (h : Sees W H w) (n : Nat) : Sees W H { w with drawn := n } :=
  ⟨h.os, h.tape, h.output, h.nodup, h.mem⟩

theorem Sees.push {W H w} (h : Sees W H w) (o : Obj) : Sees W ((w.heap.size, o) :: H) { w with heap := w.heap.push o } := by
  refine ⟨h.os, h.tape, h.output, ?_, ?_⟩
  · simp only [List.map_cons, List.nodup_cons]
    refine ⟨?_, h.nodup⟩
    intro hm
    obtain ⟨⟨k, o'⟩, hk, he⟩ := List.mem_map.1 hm
    have := h.lt hk
    simp only at he
    omega
  · intro k o' hk
    simp only [Array.getElem?_push]
    cases hk with
    | head => simp
    | tail _ hk =>
      have := h.lt hk
      rw [if_neg (by omega)]
      exact h.mem k o' hk

theorem Sees.cell {W H w k l T fz off v} (h : Sees W H w) (hk : (k, Obj.cells ⟨l⟩ T fz) ∈ H) (hv : l[off]? = some v) : w.cell? ⟨k, off, none⟩ = some v := by
  simp [World.cell?, h.mem _ _ hk, hv]

/-- One cell of a listed block is set. -/
theorem Sees.set {W A B w k l T fz off v} (h : Sees W (A ++ (k, Obj.cells ⟨l⟩ T fz) :: B) w) :
    Sees W (A ++ (k, Obj.cells ⟨l.set off v⟩ T fz) :: B) (w.setCell ⟨k, off, none⟩ v) := by
  have hk := h.mem k _ (List.mem_append_right A (List.mem_cons_self))
  refine ⟨h.os, h.tape, h.output, by simpa using h.nodup, ?_⟩
  intro k' o ho
  simp only [World.setCell, Array.getElem?_modify]
  have hn := h.nodup
  simp only [List.map_append, List.map_cons, List.nodup_append, List.nodup_cons] at hn
  rcases List.mem_append.1 ho with ho | ho
  · have : k ≠ k' := fun e => by
      have := hn.2.2 k' (List.mem_map.2 ⟨_, ho, rfl⟩) k (List.mem_cons_self)
      omega
    rw [if_neg this]; exact h.mem _ _ (List.mem_append_left _ ho)
  · cases ho with
    | head => simp [hk]
    | tail _ ho =>
      have : k ≠ k' := fun e => hn.2.1.1 (List.mem_map.2 ⟨_, ho, e.symm⟩)
      rw [if_neg this]; exact h.mem _ _ (List.mem_append_right _ (List.mem_cons_of_mem _ ho))

/-- All that is listed in H is listed in G. -/
def Sub (H G : Heap) : Prop := ∀ e ∈ H, e ∈ G
theorem Sub.mem {H G : Heap} {e : Nat × Obj} (h : Sub H G) (he : e ∈ H) : e ∈ G := h e he

/-! ### One operation -/

/-- Operation o, from the environment E and the memory G, gives a value and a memory of which K holds; it never panics. -/
structure OpT (P : Program) (W : World) (n : Nat) (ds : List Deferred) (o : Oper) (E : Env) (G : Heap) (K : Value → Heap → Prop) : Prop where
  run : ∀ a w next Q, Ok n ds E a → Sees W G w → (∀ v G' w', Sees W G' w' → K v G' → next (a.put o.dst v) w') →
    o.upon P a next Q ((execOp a.eval o).run P w)

/-- A call of function f with these arguments, from the memory H. -/
structure Does (P : Program) (f : FuncId) (args : List Value) (H : Heap) (K : Value → Heap → Prop) : Prop where
  run : ∀ W w, Sees W H w → ∀ (o : Oper) a next Q, (∀ v H' w', Sees W H' w' → K v H' → next (a.put o.dst v) w') →
    o.upon P a next Q ((callFunc f ⟨args⟩).run P w)

theorem Does.mono {P f args H K K'} (h : Does P f args H K) (hk : ∀ v H', K v H' → K' v H') : Does P f args H K' :=
  ⟨fun W w hs o a next Q hn => h.run W w hs o a next Q fun v H' w' hs' k => hn v H' w' hs' (hk _ _ k)⟩

theorem OpT.mono {P W n ds o E G K K'} (h : OpT P W n ds o E G K) (hk : ∀ v H', K v H' → K' v H') : OpT P W n ds o E G K' :=
  ⟨fun a w next Q ho hs hn => h.run a w next Q ho hs fun v H' w' hs' k => hn v H' w' hs' (hk _ _ k)⟩

/-! ### Lists of operations, code -/

/-- The slot that operation j writes. -/
def slotOf : List Oper → Nat → Option Tmp
  | [], _ => none
  | o :: _, 0 => o.dst
  | _ :: l, j + 1 => slotOf l j
theorem slotOf_eq : ∀ (l : List Oper) (j : Nat), (l.toArray[j]?).bind (·.dst) = slotOf l j := by
  intro l
  induction l with
  | nil => intro j; rfl
  | cons o l ih => intro j; cases j with
    | zero => rfl
    | succ j => have h := ih j; simp only [slotOf]; rw [← h]; simp

structure TL (P : Program) (W : World) (n : Nat) (ds : List Deferred) (ops : List Oper) (Q : Exit → Act → World → Prop) (l : List Oper) (E : Env) (G : Heap) : Prop where
  run : ∀ a w, Ok n ds E a → Sees W G w → wpList P ops.toArray Q l a w

structure TC (P : Program) (W : World) (n : Nat) (ds : List Deferred) (c : Code) (Q : Exit → Act → World → Prop) (E : Env) (G : Heap) : Prop where
  run : ∀ a w, Ok n ds E a → Sees W G w → c.wp P Q a w

/-- The post Q holds at an exit e with E and G. -/
structure At (W : World) (n : Nat) (ds : List Deferred) (Q : Exit → Act → World → Prop) (e : Exit) (E : Env) (G : Heap) : Prop where
  run : ∀ a w, Ok n ds E a → Sees W G w → Q e a w

section rules
variable {P : Program} {W : World} {n : Nat} {ds : List Deferred} {ops : List Oper} {Q : Exit → Act → World → Prop} {E : Env} {G : Heap}

theorem tl_nil (h : At W n ds Q .normal E G) : TL P W n ds ops Q [] E G := ⟨fun a w ho hs => h.run a w ho hs⟩

theorem tl_cons {d op ty pos af} {rest : List Oper}
    (h : OpT P W n ds ⟨some d, op, ty, pos, af, none⟩ E G (fun v G' => TL P W n ds ops Q rest ((d, v) :: E) G')) (hd : d < n := by decide) :
    TL P W n ds ops Q (⟨some d, op, ty, pos, af, none⟩ :: rest) E G := by
  refine ⟨fun a w ho hs => ?_⟩
  refine wpList_plain rfl fun K hK => ?_
  exact h.run a w K Q ho hs fun v G' w' hs' hk => hK _ _ (hk.run _ _ (ho.put hd v) hs')

theorem tl_cons_none {op ty pos af} {rest : List Oper}
    (h : OpT P W n ds ⟨none, op, ty, pos, af, none⟩ E G (fun _ G' => TL P W n ds ops Q rest E G')) :
    TL P W n ds ops Q (⟨none, op, ty, pos, af, none⟩ :: rest) E G := by
  refine ⟨fun a w ho hs => ?_⟩
  refine wpList_plain rfl fun K hK => ?_
  exact h.run a w K Q ho hs fun v G' w' hs' hk => hK _ _ (hk.run _ _ ho hs')

/-- A guarded operation whose guard stands. -/
theorem tl_guard_yes {d op ty pos af j b dj} {rest : List Oper}
    (h : OpT P W n ds ⟨some d, op, ty, pos, af, some (j, b)⟩ E G (fun v G' => TL P W n ds ops Q rest ((d, v) :: E) G'))
    (hj : slotOf ops j = some dj := by exact rfl) (hb : Env.get E dj = some (.bool b) := by exact rfl) (hd : d < n := by decide) :
    TL P W n ds ops Q (⟨some d, op, ty, pos, af, some (j, b)⟩ :: rest) E G := by
  refine ⟨fun a w ho hs => ?_⟩
  refine wpList_step fun K hK => ?_
  have hw : Region.wanted ⟨some d, op, ty, pos, af, some (j, b)⟩ (yielded ops.toArray a.tmps) = true := by
    rw [← slotOf_eq] at hj; simp only [Region.wanted, yielded, hj]; simp [ho.get _ _ hb]
  rw [if_pos hw]
  exact h.run a w K Q ho hs fun v G' w' hs' hk => hK _ _ (hk.run _ _ (ho.put hd v) hs')

/-- A guarded operation whose guard does not stand. -/
theorem tl_guard_no {d op ty pos af j b dj} {rest : List Oper} (h : TL P W n ds ops Q rest ((d, undef) :: E) G)
    (hj : slotOf ops j = some dj := by exact rfl) (hb : Env.get E dj = some (.bool (!b)) := by exact rfl) (hd : d < n := by decide) :
    TL P W n ds ops Q (⟨some d, op, ty, pos, af, some (j, b)⟩ :: rest) E G := by
  refine ⟨fun a w ho hs => ?_⟩
  refine wpList_step fun K hK => ?_
  have hw : Region.wanted ⟨some d, op, ty, pos, af, some (j, b)⟩ (yielded ops.toArray a.tmps) = false := by
    rw [← slotOf_eq] at hj; simp only [Region.wanted, yielded, hj]; simp [ho.get _ _ hb]
  rw [if_neg (by simp [hw])]
  exact hK _ _ (h.run _ _ (ho.put hd undef) hs)

theorem tl_guard_yes' {d op ty pos af j want b dj} {rest : List Oper}
    (h : TL P W n ds ops Q (⟨some d, op, ty, pos, af, some (j, want)⟩ :: rest) ((dj, .bool want) :: E) G)
    (hj : slotOf ops j = some dj := by exact rfl) (hb : Env.get E dj = some (.bool b) := by exact rfl) (hw : b = want := by assumption) :
    TL P W n ds ops Q (⟨some d, op, ty, pos, af, some (j, want)⟩ :: rest) E G := by
  refine ⟨fun a w ho hs => ?_⟩
  refine h.run a w ⟨ho.size, ho.defers, fun t v hv => ?_⟩ hs
  by_cases e : dj = t
  · subst e; rw [Env.get_cons_self] at hv; cases hv; rw [← hw]; exact ho.get _ _ hb
  · rw [Env.get_cons_ne e] at hv; exact ho.get _ _ hv

theorem tl_guard_no' {d op ty pos af j want b dj} {rest : List Oper}
    (h : TL P W n ds ops Q rest ((d, undef) :: (dj, .bool (!want)) :: E) G)
    (hj : slotOf ops j = some dj := by exact rfl) (hb : Env.get E dj = some (.bool b) := by exact rfl) (hw : b = !want := by assumption) (hd : d < n := by decide) :
    TL P W n ds ops Q (⟨some d, op, ty, pos, af, some (j, want)⟩ :: rest) E G := by
  subst hw
  refine tl_guard_no ?_ hj hb hd
  refine ⟨fun a w ho hs => ?_⟩
  refine h.run a w ⟨ho.size, ho.defers, fun t v hv => ?_⟩ hs
  by_cases e : d = t
  · subst e; exact ho.get _ _ (by rw [Env.get_cons_self] at hv ⊢; exact hv)
  · rw [Env.get_cons_ne e] at hv
    by_cases e' : dj = t
    · subst e'; rw [Env.get_cons_self] at hv; cases hv; exact ho.get _ _ (by rw [Env.get_cons_ne e]; exact hb)
    · rw [Env.get_cons_ne e'] at hv; exact ho.get _ _ (by rw [Env.get_cons_ne e]; exact hv)

/-- A guard that is not known: both ways. -/
theorem tl_guard_split {d op ty pos af j want dj} {b : Bool} {rest : List Oper}
    (h1 : b = true → TL P W n ds ops Q (⟨some d, op, ty, pos, af, some (j, want)⟩ :: rest) ((dj, .bool true) :: E) G)
    (h2 : b = false → TL P W n ds ops Q (⟨some d, op, ty, pos, af, some (j, want)⟩ :: rest) ((dj, .bool false) :: E) G)
    (_hj : slotOf ops j = some dj := by exact rfl) (_hb : Env.get E dj = some (.bool b) := by exact rfl) :
    TL P W n ds ops Q (⟨some d, op, ty, pos, af, some (j, want)⟩ :: rest) E G := by
  refine ⟨fun a w ho hs => ?_⟩
  have key : ∀ c, b = c → Ok n ds ((dj, .bool c) :: E) a := by
    intro c hc
    subst hc
    refine ⟨ho.size, ho.defers, fun t v hv => ?_⟩
    by_cases e : dj = t
    · subst e; rw [Env.get_cons_self] at hv; cases hv; exact ho.get _ _ _hb
    · rw [Env.get_cons_ne e] at hv; exact ho.get _ _ hv
  cases hc : b with
  | true => exact (h1 hc).run a w (key _ hc) hs
  | false => exact (h2 hc).run a w (key _ hc) hs

theorem tc_skip (h : At W n ds Q .normal E G) : TC P W n ds .skip Q E G := ⟨fun a w ho hs => wp_skip (h.run a w ho hs)⟩
theorem tc_label {l} (h : At W n ds Q .normal E G) : TC P W n ds (.label l) Q E G := ⟨fun a w ho hs => wp_label (h.run a w ho hs)⟩
theorem tc_ret (h : At W n ds Q .ret E G) : TC P W n ds .ret Q E G := ⟨fun a w ho hs => wp_ret (h.run a w ho hs)⟩
theorem tc_exit {id} (h : At W n ds Q (.exit id) E G) : TC P W n ds (.exit id) Q E G := ⟨fun a w ho hs => wp_exit (h.run a w ho hs)⟩
theorem tc_goto {l} (h : At W n ds Q (.goto l) E G) : TC P W n ds (.goto l) Q E G := ⟨fun a w ho hs => wp_goto (h.run a w ho hs)⟩

def QSeq (P : Program) (y : Code) (Q : Exit → Act → World → Prop) : Exit → Act → World → Prop := Exit.then (y.wp P Q) Q
theorem tc_seq {x y : Code} (h : TC P W n ds x (QSeq P y Q) E G) : TC P W n ds (.seq x y) Q E G := ⟨fun a w ho hs => wp_seq (h.run a w ho hs)⟩
theorem at_seq_normal {y : Code} (h : TC P W n ds y Q E G) : At W n ds (QSeq P y Q) .normal E G := ⟨h.run⟩
theorem at_seq_ret {y : Code} (h : At W n ds Q .ret E G) : At W n ds (QSeq P y Q) .ret E G := ⟨h.run⟩
theorem at_seq_exit {y : Code} {id} (h : At W n ds Q (.exit id) E G) : At W n ds (QSeq P y Q) (.exit id) E G := ⟨h.run⟩
theorem at_seq_goto {y : Code} {id} (h : At W n ds Q (.goto id) E G) : At W n ds (QSeq P y Q) (.goto id) E G := ⟨h.run⟩

theorem tc_block {id} {c : Code} (h : TC P W n ds c (Exit.inBlock id Q) E G) : TC P W n ds (.block id c) Q E G := ⟨fun a w ho hs => wp_block (h.run a w ho hs)⟩
theorem at_block_normal {id} (h : At W n ds Q .normal E G) : At W n ds (Exit.inBlock id Q) .normal E G := ⟨h.run⟩
theorem at_block_ret {id} (h : At W n ds Q .ret E G) : At W n ds (Exit.inBlock id Q) .ret E G := ⟨h.run⟩
theorem at_block_exit_self {id} (h : At W n ds Q .normal E G) : At W n ds (Exit.inBlock id Q) (.exit id) E G := ⟨fun a w ho hs => by
  simp only [Exit.inBlock, if_true]; exact h.run a w ho hs⟩
theorem at_block_exit_ne {id id'} (h : At W n ds Q (.exit id') E G) (hne : id' ≠ id := by decide) : At W n ds (Exit.inBlock id Q) (.exit id') E G := ⟨fun a w ho hs => by
  simp only [Exit.inBlock, if_neg hne]; exact h.run a w ho hs⟩

theorem tc_cond_true {c x y} (h : TC P W n ds x Q E G) (hc : evalE E c = some (.bool true) := by exact rfl) : TC P W n ds (.cond c x y) Q E G :=
  ⟨fun a w ho hs => wp_cond_true (ho.eval hc) (h.run a w ho hs)⟩
theorem tc_cond_false {c x y} (h : TC P W n ds y Q E G) (hc : evalE E c = some (.bool false) := by exact rfl) : TC P W n ds (.cond c x y) Q E G :=
  ⟨fun a w ho hs => wp_cond_false (ho.eval hc) (h.run a w ho hs)⟩
theorem tc_cond_t {c x y b} (h : TC P W n ds x Q E G) (hc : evalE E c = some (.bool b) := by exact rfl) (hb : b = true := by first | exact rfl | assumption) : TC P W n ds (.cond c x y) Q E G :=
  ⟨fun a w ho hs => wp_cond_true (ho.eval (hb ▸ hc)) (h.run a w ho hs)⟩
theorem tc_cond_f {c x y b} (h : TC P W n ds y Q E G) (hc : evalE E c = some (.bool b) := by exact rfl) (hb : b = false := by first | exact rfl | assumption) : TC P W n ds (.cond c x y) Q E G :=
  ⟨fun a w ho hs => wp_cond_false (ho.eval (hb ▸ hc)) (h.run a w ho hs)⟩
theorem tc_cond {c x y b} (h1 : b = true → TC P W n ds x Q E G) (h2 : b = false → TC P W n ds y Q E G) (hc : evalE E c = some (.bool b) := by exact rfl) :
    TC P W n ds (.cond c x y) Q E G :=
  ⟨fun a w ho hs => wp_cond_split (ho.eval hc) (fun e => (h1 e).run a w ho hs) (fun e => (h2 e).run a w ho hs)⟩

theorem op_same {o : Oper} {b c : Bool} {dj : Nat} {K : Value → Heap → Prop} (hb : Env.get E dj = some (.bool b)) (hc : b = c) (h : OpT P W n ds o ((dj, .bool c) :: E) G K) : OpT P W n ds o E G K := by
  refine ⟨fun a w next Q ho hs hn => ?_⟩
  refine h.run a w next Q ⟨ho.size, ho.defers, fun t v hv => ?_⟩ hs hn
  by_cases e : dj = t
  · subst e; rw [Env.get_cons_self] at hv; cases hv; rw [← hc]; exact ho.get _ _ hb
  · rw [Env.get_cons_ne e] at hv; exact ho.get _ _ hv

/-- Each entry of the second list is known in the first. -/
def Incl (E : Env) : Env → Prop
  | [] => True
  | (t, v) :: I => Env.get E t = some v ∧ Incl E I

theorem Incl.get {E : Env} : ∀ {I : Env}, Incl E I → ∀ t v, Env.get I t = some v → Env.get E t = some v := by
  intro I
  induction I with
  | nil => intro _ t v h; cases h
  | cons p I ih =>
    obtain ⟨d, u⟩ := p
    intro h t v hv
    by_cases e : d = t
    · subst e; rw [Env.get_cons_self] at hv; cases hv; exact h.1
    · rw [Env.get_cons_ne e] at hv; exact ih h.2 t v hv

theorem tc_region {id} {l : List Oper} (h : TL P W n ds l Q l E G) : TC P W n ds (.region id l.toArray false) Q E G :=
  ⟨fun a w ho hs => wp_region_lit (h.run a w ho hs)⟩

/-- What is known may be forgotten. -/
theorem tc_weak {c E' G'} (hE : ∀ t v, Env.get E' t = some v → Env.get E t = some v) (hG : List.Sublist G' G) (h : TC P W n ds c Q E' G') : TC P W n ds c Q E G :=
  ⟨fun a w ho hs => h.run a w (ho.mono hE) (hs.sub hG)⟩
theorem at_weak {e E' G'} (hE : ∀ t v, Env.get E' t = some v → Env.get E t = some v) (hG : List.Sublist G' G) (h : At W n ds Q e E' G') : At W n ds Q e E G :=
  ⟨fun a w ho hs => h.run a w (ho.mono hE) (hs.sub hG)⟩
theorem tc_perm {c G'} (hG : List.Perm G' G) (h : TC P W n ds c Q E G') : TC P W n ds c Q E G :=
  ⟨fun a w ho hs => h.run a w ho (hs.perm hG)⟩

/-- The post of a loop's round. -/
def QLoop {ι : Type} (W : World) (n : Nat) (ds : List Deferred) (I : ι → Env) (J : ι → Heap) (ok : ι → Prop) (μ : ι → Nat) (m : Nat) (Q : Exit → Act → World → Prop) : Exit → Act → World → Prop
  | .normal, a, w => ∃ j, ok j ∧ μ j < m ∧ Ok n ds (I j) a ∧ Sees W (J j) w
  | e, a, w => Q e a w

/-- A loop: the states of its head are told by an index. -/
theorem tc_loop {ι : Type} {c : Code} (I : ι → Env) (J : ι → Heap) (ok : ι → Prop) (μ : ι → Nat) (i0 : ι) (h0 : ok i0)
    (hE : ∀ t v, Env.get (I i0) t = some v → Env.get E t = some v) (hG : List.Sublist (J i0) G)
    (round : ∀ i, ok i → TC P W n ds c (QLoop W n ds I J ok μ (μ i) Q) (I i) (J i)) : TC P W n ds (.loop c) Q E G := by
  refine ⟨fun a w ho hs b k cs => ?_⟩
  have key : ∀ m i, μ i = m → ok i → ∀ a w, Ok n ds (I i) a → Sees W (J i) w →
      ∃ e a' w', Q e a' w' ∧ Arrives P (lone (b.at a (.code c :: .inLoop c :: k)) cs w) b k cs e a' w' := by
    intro m
    induction m using Nat.strongRecOn with
    | _ m ih =>
      intro i hm hi a w ho hs
      obtain ⟨e, a1, w1, hq, harr⟩ := (round i hi).run a w ho hs b (.inLoop c :: k) cs
      cases e with
      | normal =>
        obtain ⟨j, hj, hlt, hoj, hsj⟩ := hq
        obtain ⟨e2, a2, w2, hq2, harr2⟩ := ih (μ j) (hm ▸ hlt) j rfl hj a1 w1 hoj hsj
        exact ⟨e2, a2, w2, hq2, .of_steps (Steps.trans harr (.one step_inLoop)) harr2⟩
      | exit id => exact ⟨_, a1, w1, hq, .pass (x := .inLoop c) rfl (fun _ _ => .inl (by simp)) harr⟩
      | goto l => exact ⟨_, a1, w1, hq, .pass (x := .inLoop c) rfl (fun _ _ => .inl (by simp)) harr⟩
      | ret => exact ⟨_, a1, w1, hq, .pass (x := .inLoop c) rfl (fun _ _ => .inl (by simp)) harr⟩
      | panic ch => exact ⟨_, a1, w1, hq, .pass (x := .inLoop c) rfl (fun _ _ => .inl (by simp)) harr⟩
      | outgrown => exact ⟨_, a1, w1, hq, .pass (x := .inLoop c) rfl (fun _ _ => .inl (by simp)) harr⟩
  obtain ⟨e, a', w', hq, harr⟩ := key _ i0 rfl h0 a w (ho.mono hE) (hs.sub hG)
  exact ⟨e, a', w', hq, .of_steps (.one step_loop) harr⟩

theorem at_loop_normal {ι : Type} {I : ι → Env} {J : ι → Heap} {ok : ι → Prop} {μ : ι → Nat} {m : Nat} (j : ι) (hj : ok j) (hm : μ j < m)
    (hE : ∀ t v, Env.get (I j) t = some v → Env.get E t = some v) (hG : List.Sublist (J j) G) : At W n ds (QLoop W n ds I J ok μ m Q) .normal E G :=
  ⟨fun _ _ ho hs => ⟨j, hj, hm, ho.mono hE, hs.sub hG⟩⟩
theorem at_loop_ret {ι : Type} {I : ι → Env} {J : ι → Heap} {ok : ι → Prop} {μ : ι → Nat} {m : Nat} (h : At W n ds Q .ret E G) :
    At W n ds (QLoop W n ds I J ok μ m Q) .ret E G := ⟨h.run⟩
theorem at_loop_exit {ι : Type} {I : ι → Env} {J : ι → Heap} {ok : ι → Prop} {μ : ι → Nat} {m : Nat} {id} (h : At W n ds Q (.exit id) E G) :
    At W n ds (QLoop W n ds I J ok μ m Q) (.exit id) E G := ⟨h.run⟩
theorem at_loop_goto {ι : Type} {I : ι → Env} {J : ι → Heap} {ok : ι → Prop} {μ : ι → Nat} {m : Nat} {id} (h : At W n ds Q (.goto id) E G) :
    At W n ds (QLoop W n ds I J ok μ m Q) (.goto id) E G := ⟨h.run⟩
end rules
end Go.Lg

set_option linter.unusedVariables false
set_option linter.unusedSimpArgs false
namespace Go.Lg

class Und (P : Program) (t : TypeId) (d : outParam TypeDesc) : Prop where
  eq : P.underlying t = some d

class Inf (P : Program) (t : TypeId) (s b : outParam Nat) (z : outParam (List Value)) : Prop where
  eq : (P.info? t).map (fun i => (i.size, i.bytes, i.zero.map Value.cells)) = some (s, b, some ⟨z⟩)

class Enters (P : Program) (f : FuncId) : Prop where
  eq : ∃ fn, P.funcs[f]? = some fn ∧ (fn.name == "runtime.NumGoroutine") = false ∧ fn.body.isNone = false

theorem Inf.get {P t s b z} (h : Inf P t s b z) : ∃ i v, P.info? t = some i ∧ i.size = s ∧ i.bytes = b ∧ i.zero = some v ∧ v.cells = ⟨z⟩ := by
  have := h.eq
  cases hi : P.info? t with
  | none => rw [hi] at this; cases this
  | some i =>
    rw [hi] at this
    simp only [Option.map_some, Option.some.injEq, Prod.mk.injEq] at this
    cases hz : i.zero with
    | none => rw [hz] at this; simp at this
    | some v => rw [hz] at this; exact ⟨i, v, rfl, this.1, this.2.1, hz, by simpa using this.2.2⟩

@[simp] theorem run_pure {α : Type} (P : Program) (x : α) (w : World) : (pure x : Sem α).run P w = .ok x w := rfl

theorem sem_run_bind {α β : Type} (P : Program) (m : Sem α) (f : α → Sem β) (w : World) (x : α) (w' : World) (h : m.run P w = .ok x w') :
    (m >>= f).run P w = (f x).run P w' := by
  show (m.bind f).run P w = _
  induction m generalizing w with
  | pure a => simp only [Sem.run] at h; cases h; rfl
  | load m a k ih =>
    simp only [Sem.run, Sem.bind] at h ⊢
    split
    · rename_i v hv; rw [hv] at h; exact ih _ _ h
    · rename_i hv; rw [hv] at h
      simp only at h
      split
      · rename_i v hv; rw [hv] at h; exact ih _ _ h
      · rename_i hv; rw [hv] at h; cases h
  | store m a v k ih =>
    cases v
    case agg => simp only [Sem.run] at h; cases h
    case tuple => simp only [Sem.run] at h; cases h
    all_goals
      simp only [Sem.run, Sem.bind] at h ⊢
      split
      · rename_i v hv; rw [hv] at h
        simp only at h
        split
        · rename_i hf; rw [if_pos hf] at h; cases h
        · rename_i hf; rw [if_neg hf] at h; exact ih _ h
      · rename_i hv; rw [hv] at h
        simp only at h
        split
        · rename_i hv; rw [hv] at h; exact ih _ h
        · rename_i hv; rw [hv] at h; cases h
  | new o k ih => exact ih _ _ h
  | shape r k ih => exact ih _ _ h
  | freeze a n k ih => exact ih _ h
  | frozen a k ih => exact ih _ _ h
  | getObj r k ih =>
    simp only [Sem.run, Sem.bind] at h ⊢
    split <;> simp_all
  | setObj r o k ih =>
    simp only [Sem.run, Sem.bind] at h ⊢
    split <;> simp_all
  | choose q k ih =>
    simp only [Sem.run, Sem.bind] at h ⊢
    split <;> rename_i hq
    · rw [if_pos hq] at h; exact ih _ _ h
    · rw [if_neg hq] at h; exact ih _ _ h
  | sys c k ih => exact ih _ _ h
  | program k ih => exact ih _ _ h
  | mark m k ih => exact ih _ h
  | halt x => cases h

theorem run_typeInfo {P : Program} {t : TypeId} {i : TypeInfo} (hi : P.info? t = some i) (w : World) : (typeInfo t).run P w = .ok i w := by
  show Sem.run P (match P.info? t with | some i => pure i | none => stuck "no such type") w = _
  rw [hi]; rfl

theorem run_sizeOf {P t s b z} [h : Inf P t s b z] (w : World) : (sizeOf t).run P w = .ok s w := by
  obtain ⟨i, v, hi, hs, _⟩ := h.get
  refine (sem_run_bind P _ _ w i w (run_typeInfo hi w)).trans ?_
  rw [hs]; rfl

theorem run_underlying {P t d} [h : Und P t d] (w : World) : (underlying t).run P w = .ok d w := by
  show (match P.underlying t with | some i => (pure i : Sem TypeDesc) | none => stuck "no such type").run P w = _
  rw [h.eq]; rfl

def TypeDesc.isAgg : TypeDesc → Bool
  | .struct _ | .array _ _ => true
  | _ => false

theorem run_isAgg {P t d} [h : Und P t d] (w : World) : (isAgg t).run P w = .ok (TypeDesc.isAgg d) w := by
  refine (sem_run_bind P _ _ w d w (run_underlying w)).trans ?_
  cases d <;> rfl

theorem run_zeroValue {P t s b z} [h : Inf P t s b z] (w : World) : ∃ v, v.cells = ⟨z⟩ ∧ (zeroValue t).run P w = .ok v w := by
  obtain ⟨i, v, hi, _, _, hz, hc⟩ := h.get
  refine ⟨v, hc, ?_⟩
  refine (sem_run_bind P _ _ w i w (run_typeInfo hi w)).trans ?_
  rw [hz]; rfl

section ops
variable {P : Program} {W : World} {n : Nat} {ds : List Deferred} {E : Env} {G : Heap} {K : Value → Heap → Prop}
variable {dst : Option Tmp} {ty : TypeId} {pos : String} {af : Array Edge} {g : Option (Nat × Bool)}

/-- An operation that is one Sem program of a value, the world as0 it is. -/
theorem op_of_run {op : Op} {v : Value}
    (h : ∀ (a : Act) (w : World), Ok n ds E a → Sees W G w → (execOp a.eval ⟨dst, op, ty, pos, af, g⟩).run P w = .ok (.value v) w) (hk : K v G) :
    OpT P W n ds ⟨dst, op, ty, pos, af, g⟩ E G K := by
  refine ⟨fun a w next Q ho hs hn => ?_⟩
  rw [h a w ho hs]
  exact hn _ _ _ hs hk

theorem run_v {s : Sem Value} {w w' : World} {v : Value} (h : s.run P w = .ok v w') : (do pure (Next.value (← s)) : Sem Next).run P w = .ok (.value v) w' := by
  refine (sem_run_bind P _ _ w v w' h).trans rfl

theorem op_move {x v} (hk : K v G) (hx : evalE E x = some v := by exact rfl) : OpT P W n ds ⟨dst, .move x, ty, pos, af, g⟩ E G K :=
  op_of_run (fun a w ho _ => by simp only [execOp, ho.eval hx]; rfl) hk
theorem op_assign {x v} (hk : K v G) (hx : evalE E x = some v := by exact rfl) : OpT P W n ds ⟨dst, .assign x, ty, pos, af, g⟩ E G K :=
  op_of_run (fun a w ho _ => by simp only [execOp, ho.eval hx]; rfl) hk
theorem op_pick_true {c x y v} (hk : K v G) (hc : evalE E c = some (.bool true) := by exact rfl) (hx : evalE E x = some v := by exact rfl) :
    OpT P W n ds ⟨dst, .pick c x y, ty, pos, af, g⟩ E G K :=
  op_of_run (fun a w ho _ => by simp only [execOp, ho.eval hc, ho.eval hx]; rfl) hk
theorem op_pick_false {c x y v} (hk : K v G) (hc : evalE E c = some (.bool false) := by exact rfl) (hx : evalE E y = some v := by exact rfl) :
    OpT P W n ds ⟨dst, .pick c x y, ty, pos, af, g⟩ E G K :=
  op_of_run (fun a w ho _ => by simp only [execOp, ho.eval hc, ho.eval hx]; rfl) hk

theorem op_pick_true' {c x y v b} (hk : K v G) (hc : evalE E c = some (.bool b) := by exact rfl) (hb : b = true := by first | exact rfl | assumption) (hx : evalE E x = some v := by exact rfl) :
    OpT P W n ds ⟨dst, .pick c x y, ty, pos, af, g⟩ E G K := op_pick_true hk (hb ▸ hc) hx
theorem op_pick_false' {c x y v b} (hk : K v G) (hc : evalE E c = some (.bool b) := by exact rfl) (hb : b = false := by first | exact rfl | assumption) (hx : evalE E y = some v := by exact rfl) :
    OpT P W n ds ⟨dst, .pick c x y, ty, pos, af, g⟩ E G K := op_pick_false hk (hb ▸ hc) hx

/-- A new block. -/
theorem op_new {op : Op} {o : Obj} {val : Nat → Value}
    (h : ∀ (a : Act) (w : World), Ok n ds E a → Sees W G w → (execOp a.eval ⟨dst, op, ty, pos, af, g⟩).run P w = .ok (.value (val w.heap.size)) { w with heap := w.heap.push o })
    (hk : ∀ k, K (val k) ((k, o) :: G)) : OpT P W n ds ⟨dst, op, ty, pos, af, g⟩ E G K := by
  refine ⟨fun a w next Q ho hs hn => ?_⟩
  rw [h a w ho hs]
  exact hn _ _ _ (hs.push o) (hk _)

theorem op_alloc {e s b z} [Inf P e s b z] (hk : ∀ k, K (.pointer (some ⟨k, 0, none⟩)) ((k, .cells ⟨z⟩ e (0, 0)) :: G)) :
    OpT P W n ds ⟨dst, .alloc e, ty, pos, af, g⟩ E G K := by
  refine op_new (o := .cells ⟨z⟩ e (0, 0)) (val := fun k => .pointer (some ⟨k, 0, none⟩)) (fun a w ho _ => ?_) hk
  obtain ⟨v, hc, hr⟩ := run_zeroValue (P := P) (t := e) w
  simp only [execOp]
  refine run_v ?_
  refine (sem_run_bind P _ _ w v w hr).trans ?_
  show (Sem.run P (.new (.cells v.cells e) _) w) = _
  rw [hc]; rfl

theorem op_box {e x v l} (hk : ∀ k, K (.pointer (some ⟨k, 0, none⟩)) ((k, .cells ⟨l⟩ e (0, 0)) :: G)) (hx : evalE E x = some v := by exact rfl) (hl : v.cells = ⟨l⟩ := by exact rfl) :
    OpT P W n ds ⟨dst, .box e x, ty, pos, af, g⟩ E G K := by
  refine op_new (o := .cells ⟨l⟩ e (0, 0)) (val := fun k => .pointer (some ⟨k, 0, none⟩)) (fun a w ho _ => ?_) hk
  simp only [execOp, ho.eval hx]
  refine run_v ?_
  show (Sem.run P (.new (.cells v.cells e) _) w) = _
  rw [hl]; rfl

theorem mem0 {e : Nat × Obj} {l : Heap} : e ∈ e :: l := by simp
theorem mem1 {a0 e : Nat × Obj} {l : Heap} : e ∈ a0 :: e :: l := by simp
theorem mem2 {a0 a1 e : Nat × Obj} {l : Heap} : e ∈ a0 :: a1 :: e :: l := by simp
theorem mem3 {a0 a1 a2 e : Nat × Obj} {l : Heap} : e ∈ a0 :: a1 :: a2 :: e :: l := by simp
theorem mem4 {a0 a1 a2 a3 e : Nat × Obj} {l : Heap} : e ∈ a0 :: a1 :: a2 :: a3 :: e :: l := by simp
theorem mem5 {a0 a1 a2 a3 a4 e : Nat × Obj} {l : Heap} : e ∈ a0 :: a1 :: a2 :: a3 :: a4 :: e :: l := by simp
theorem mem6 {a0 a1 a2 a3 a4 a5 e : Nat × Obj} {l : Heap} : e ∈ a0 :: a1 :: a2 :: a3 :: a4 :: a5 :: e :: l := by simp
theorem mem7 {a0 a1 a2 a3 a4 a5 a6 e : Nat × Obj} {l : Heap} : e ∈ a0 :: a1 :: a2 :: a3 :: a4 :: a5 :: a6 :: e :: l := by simp
theorem mem8 {a0 a1 a2 a3 a4 a5 a6 a7 e : Nat × Obj} {l : Heap} : e ∈ a0 :: a1 :: a2 :: a3 :: a4 :: a5 :: a6 :: a7 :: e :: l := by simp
theorem mem9 {a0 a1 a2 a3 a4 a5 a6 a7 a8 e : Nat × Obj} {l : Heap} : e ∈ a0 :: a1 :: a2 :: a3 :: a4 :: a5 :: a6 :: a7 :: a8 :: e :: l := by simp

theorem addr_add_zero (a : Addr) : a.add 0 = a := rfl
theorem addr_add (k off i : Nat) : (⟨k, off, none⟩ : Addr).add i = ⟨k, off + i, none⟩ := by
  unfold Addr.add; split
  · subst_vars; rfl
  · rfl

theorem run_load {w : World} {a : Addr} {v : Value} (h : w.cell? a = some v) : (load a).run P w = .ok v w := by
  simp [load, Sem.run, h]

theorem run_loadCellsFrom {w : World} {k off : Nat} (s : Nat) : ∀ (i : Nat) (l : List Value) (acc : List Value), l.length = s →
    (∀ j v, l[j]? = some v → w.cell? ⟨k, off + (i + j), none⟩ = some v) → (loadCellsFrom ⟨k, off, none⟩ i s ⟨acc⟩).run P w = .ok ⟨acc ++ l⟩ w := by
  induction s with
  | zero => intro i l acc hl _; obtain rfl := List.eq_nil_of_length_eq_zero hl; simp [loadCellsFrom]
  | succ s ih =>
    intro i l acc hl h
    match l, hl with
    | v :: l, hl =>
      simp only [loadCellsFrom]
      refine (sem_run_bind P _ _ w v w (run_load (by rw [addr_add]; exact h 0 v rfl))).trans ?_
      refine Eq.trans (by rw [List.push_toArray]) ((ih (i + 1) l (acc ++ [v]) (by simpa using hl) (fun j u hu => ?_)).trans (by simp))
      have := h (j + 1) u (by simpa using hu)
      rw [show i + 1 + j = i + (j + 1) by omega]; exact this

theorem run_loadVar_scalar {t d} [Und P t d] (hd : TypeDesc.isAgg d = false) {w : World} {a : Addr} {v : Value} (h : w.cell? a = some v) : (loadVar t a).run P w = .ok v w := by
  refine (sem_run_bind P _ _ w _ w (run_isAgg w)).trans ?_
  rw [hd]; exact run_load h

theorem run_loadVar_agg {t d s b z} [Und P t d] [Inf P t s b z] (hd : TypeDesc.isAgg d = true) {w : World} {k off : Nat} {l : List Value} (hl : l.length = s)
    (h : ∀ j v, l[j]? = some v → w.cell? ⟨k, off + j, none⟩ = some v) : (loadVar t ⟨k, off, none⟩).run P w = .ok (.agg ⟨l⟩) w := by
  refine (sem_run_bind P _ _ w _ w (run_isAgg w)).trans ?_
  rw [hd]
  simp only [if_true]
  refine (sem_run_bind P _ _ w s w (run_sizeOf w)).trans ?_
  refine (sem_run_bind P _ _ w ⟨l⟩ w ?_).trans rfl
  have := run_loadCellsFrom (P := P) (w := w) (k := k) (off := off) s 0 l [] hl (fun j v hv => by rw [Nat.zero_add]; exact h j v hv)
  simpa [loadCells] using this

theorem op_load {t d x k off l T fz v} [Und P t d] (hk : K v G) (hx : evalE E x = some (.pointer (some ⟨k, off, none⟩)) := by exact rfl) (hd : TypeDesc.isAgg d = false := by exact rfl) (hm : (k, Obj.cells ⟨l⟩ T fz) ∈ G := by first | exact mem0 | exact mem1 | exact mem2 | exact mem3 | exact mem4 | exact mem5 | exact mem6 | exact mem7 | exact mem8 | exact mem9 | assumption | (refine Sub.mem (by assumption) ?_; first | exact mem0 | exact mem1 | exact mem2 | exact mem3 | exact mem4 | exact mem5 | exact mem6 | exact mem7 | exact mem8 | exact mem9 | assumption) | ((repeat (apply List.mem_cons_of_mem)); first | assumption | (refine Sub.mem (by assumption) ?_; assumption))) (hv : l[off]? = some v := by first | exact rfl | assumption) : OpT P W n ds ⟨dst, .load t x, ty, pos, af, g⟩ E G K :=
  op_of_run (fun a w ho hs => by
    simp only [execOp, ho.eval hx]
    refine run_v ?_
    exact run_loadVar_scalar hd (hs.cell hm hv)) hk

theorem cut_get {l m : List Value} {off s : Nat} (h : (l.drop off).take s = m) {j : Nat} {v : Value} (hv : m[j]? = some v) : l[off + j]? = some v := by
  subst h
  rw [List.getElem?_take] at hv
  split at hv
  · simpa using hv
  · cases hv

theorem op_load_agg {t d s b z x k off l T fz m} [Und P t d] [Inf P t s b z] (hk : K (.agg ⟨m⟩) G) (hx : evalE E x = some (.pointer (some ⟨k, off, none⟩)) := by exact rfl) (hd : TypeDesc.isAgg d = true := by exact rfl) (hm : (k, Obj.cells ⟨l⟩ T fz) ∈ G := by first | exact mem0 | exact mem1 | exact mem2 | exact mem3 | exact mem4 | exact mem5 | exact mem6 | exact mem7 | exact mem8 | exact mem9 | assumption | (refine Sub.mem (by assumption) ?_; first | exact mem0 | exact mem1 | exact mem2 | exact mem3 | exact mem4 | exact mem5 | exact mem6 | exact mem7 | exact mem8 | exact mem9 | assumption) | ((repeat (apply List.mem_cons_of_mem)); first | assumption | (refine Sub.mem (by assumption) ?_; assumption))) (hv : (l.drop off).take s = m := by first | assumption | (simp only [setCells, List.set_cons_zero, List.set_cons_succ, List.take_succ_cons, List.take_zero, List.drop_zero, List.drop_succ_cons, Nat.zero_add, Nat.add_zero, Nat.reduceAdd]; exact rfl) | exact rfl) (hlen : m.length = s := by exact rfl) : OpT P W n ds ⟨dst, .load t x, ty, pos, af, g⟩ E G K :=
  op_of_run (fun a w ho hs => by
    simp only [execOp, ho.eval hx]
    refine run_v ?_
    exact run_loadVar_agg hd hlen (fun j v hj => hs.cell hm (cut_get hv hj))) hk

/-- A value that may be stored into one cell. -/
def Value.plain : Value → Bool
  | .agg _ | .tuple _ => false
  | _ => true

theorem run_store {w : World} {a : Addr} {v u : Value} (hp : Value.plain v = true) (h : w.cell? a = some u) (hf : w.frozen? a = false) : (store a v).run P w = .ok () (w.setCell a v) := by
  cases v <;> first | (cases hp; done) | (simp [store, Sem.run, h, hf])

theorem Sees.frozen {W H w k c T off} (h : Sees W H w) (hk : (k, Obj.cells c T (0, 0)) ∈ H) : w.frozen? ⟨k, off, none⟩ = false := by
  simp [World.frozen?, h.mem _ _ hk]

/-- Cells written one behind the other. -/
def setCells : List Value → Nat → List Value → List Value
  | l, _, [] => l
  | l, off, v :: vs => setCells (l.set off v) (off + 1) vs

theorem setCells_length (vs : List Value) : ∀ (l : List Value) (off : Nat), (setCells l off vs).length = l.length := by
  induction vs with
  | nil => intro l off; rfl
  | cons v vs ih => intro l off; simp [setCells, ih]

theorem run_storeCells {A B : Heap} {k T} (vs : List Value) (hp : vs.all Value.plain = true) : ∀ (l : List Value) (w : World) (off i : Nat), off + i + vs.length ≤ l.length →
    Sees W (A ++ (k, Obj.cells ⟨l⟩ T (0, 0)) :: B) w →
    ∃ w', (storeCells ⟨k, off, none⟩ vs i).run P w = .ok () w' ∧ Sees W (A ++ (k, Obj.cells ⟨setCells l (off + i) vs⟩ T (0, 0)) :: B) w' := by
  induction vs with
  | nil => intro l w off i _ hs; exact ⟨w, rfl, hs⟩
  | cons v vs ih =>
    intro l w off i hl hs
    simp only [List.all_cons, Bool.and_eq_true] at hp
    simp only [List.length_cons] at hl
    have hm : (k, Obj.cells ⟨l⟩ T (0, 0)) ∈ A ++ (k, Obj.cells ⟨l⟩ T (0, 0)) :: B := List.mem_append_right A List.mem_cons_self
    have hc : w.cell? ⟨k, off + i, none⟩ = some l[off + i] := hs.cell hm (List.getElem?_eq_getElem (by omega))
    obtain ⟨w', hr, hs'⟩ := ih hp.2 (l.set (off + i) v) (w.setCell ⟨k, off + i, none⟩ v) off (i + 1) (by simp; omega) hs.set
    refine ⟨w', ?_, by simpa [setCells, Nat.add_assoc] using hs'⟩
    simp only [storeCells]
    refine (sem_run_bind P _ _ w () _ (by rw [addr_add]; exact run_store hp.1 hc (hs.frozen hm))).trans hr

/-- A store of a value of one or more cells into a listed block. -/
theorem op_store {t s b z x y k off l T v m l' A B} [Inf P t s b z] (hk : K undef (A ++ (k, Obj.cells ⟨l'⟩ T (0, 0)) :: B)) (hx : evalE E x = some (.pointer (some ⟨k, off, none⟩)) := by exact rfl) (hy : evalE E y = some v := by exact rfl) (hG : G = A ++ (k, Obj.cells ⟨l⟩ T (0, 0)) :: B := by exact rfl) (hm : v.cells = ⟨m⟩ := by exact rfl) (hlen : m.length = s := by exact rfl) (hp : m.all Value.plain = true := by exact rfl) (hroom : off + s ≤ l.length := by exact Nat.le_of_ble_eq_true rfl) (hnew : setCells l off m = l' := by first | (simp only [setCells, List.set_cons_zero, List.set_cons_succ, List.take_succ_cons, List.take_zero, List.drop_zero, List.drop_succ_cons, Nat.zero_add, Nat.add_zero, Nat.reduceAdd]; exact rfl) | exact rfl) : OpT P W n ds ⟨dst, .store t x y, ty, pos, af, g⟩ E G K := by
  subst hG
  subst hnew
  refine ⟨fun a w next Q ho hs hn => ?_⟩
  obtain ⟨w', hr, hs'⟩ := run_storeCells (P := P) (W := W) m hp l w off 0 (by omega) hs
  have : (execOp a.eval ⟨dst, .store t x y, ty, pos, af, g⟩).run P w = .ok .skip w' := by
    simp only [execOp, ho.eval hx, ho.eval hy]
    refine (sem_run_bind P _ _ w () w' ?_).trans rfl
    refine (sem_run_bind P _ _ w ⟨k, off, none⟩ w rfl).trans ?_
    refine (sem_run_bind P _ _ w s w (run_sizeOf w)).trans ?_
    rw [hm]
    simp only [List.size_toArray, hlen, ne_eq, not_true_eq_false, if_false]
    exact hr
  rw [this]
  exact hn _ _ _ hs' hk

theorem op_store0 {t s b z x y k off l T v m l' B} [Inf P t s b z] (hk : K undef ((k, Obj.cells ⟨l'⟩ T (0, 0)) :: B)) (hx : evalE E x = some (.pointer (some ⟨k, off, none⟩)) := by exact rfl) (hy : evalE E y = some v := by exact rfl) (hG : G = (k, Obj.cells ⟨l⟩ T (0, 0)) :: B := by exact rfl) (hm : v.cells = ⟨m⟩ := by exact rfl) (hlen : m.length = s := by exact rfl) (hp : m.all Value.plain = true := by exact rfl) (hroom : off + s ≤ l.length := by exact Nat.le_of_ble_eq_true rfl) (hnew : setCells l off m = l' := by first | (simp only [setCells, List.set_cons_zero, List.set_cons_succ, List.take_succ_cons, List.take_zero, List.drop_zero, List.drop_succ_cons, Nat.zero_add, Nat.add_zero, Nat.reduceAdd]; exact rfl) | exact rfl) : OpT P W n ds ⟨dst, .store t x y, ty, pos, af, g⟩ E G K :=
  op_store (A := []) hk hx hy hG hm hlen hp hroom hnew
theorem op_store1 {t s b z x y k off l T v m l' B e0} [Inf P t s b z] (hk : K undef (e0 :: (k, Obj.cells ⟨l'⟩ T (0, 0)) :: B)) (hx : evalE E x = some (.pointer (some ⟨k, off, none⟩)) := by exact rfl) (hy : evalE E y = some v := by exact rfl) (hG : G = e0 :: (k, Obj.cells ⟨l⟩ T (0, 0)) :: B := by exact rfl) (hm : v.cells = ⟨m⟩ := by exact rfl) (hlen : m.length = s := by exact rfl) (hp : m.all Value.plain = true := by exact rfl) (hroom : off + s ≤ l.length := by exact Nat.le_of_ble_eq_true rfl) (hnew : setCells l off m = l' := by first | (simp only [setCells, List.set_cons_zero, List.set_cons_succ, List.take_succ_cons, List.take_zero, List.drop_zero, List.drop_succ_cons, Nat.zero_add, Nat.add_zero, Nat.reduceAdd]; exact rfl) | exact rfl) : OpT P W n ds ⟨dst, .store t x y, ty, pos, af, g⟩ E G K :=
  op_store (A := [e0]) hk hx hy hG hm hlen hp hroom hnew
theorem op_store2 {t s b z x y k off l T v m l' B e0 e1} [Inf P t s b z] (hk : K undef (e0 :: e1 :: (k, Obj.cells ⟨l'⟩ T (0, 0)) :: B)) (hx : evalE E x = some (.pointer (some ⟨k, off, none⟩)) := by exact rfl) (hy : evalE E y = some v := by exact rfl) (hG : G = e0 :: e1 :: (k, Obj.cells ⟨l⟩ T (0, 0)) :: B := by exact rfl) (hm : v.cells = ⟨m⟩ := by exact rfl) (hlen : m.length = s := by exact rfl) (hp : m.all Value.plain = true := by exact rfl) (hroom : off + s ≤ l.length := by exact Nat.le_of_ble_eq_true rfl) (hnew : setCells l off m = l' := by first | (simp only [setCells, List.set_cons_zero, List.set_cons_succ, List.take_succ_cons, List.take_zero, List.drop_zero, List.drop_succ_cons, Nat.zero_add, Nat.add_zero, Nat.reduceAdd]; exact rfl) | exact rfl) : OpT P W n ds ⟨dst, .store t x y, ty, pos, af, g⟩ E G K :=
  op_store (A := [e0, e1]) hk hx hy hG hm hlen hp hroom hnew
theorem op_store3 {t s b z x y k off l T v m l' B e0 e1 e2} [Inf P t s b z] (hk : K undef (e0 :: e1 :: e2 :: (k, Obj.cells ⟨l'⟩ T (0, 0)) :: B)) (hx : evalE E x = some (.pointer (some ⟨k, off, none⟩)) := by exact rfl) (hy : evalE E y = some v := by exact rfl) (hG : G = e0 :: e1 :: e2 :: (k, Obj.cells ⟨l⟩ T (0, 0)) :: B := by exact rfl) (hm : v.cells = ⟨m⟩ := by exact rfl) (hlen : m.length = s := by exact rfl) (hp : m.all Value.plain = true := by exact rfl) (hroom : off + s ≤ l.length := by exact Nat.le_of_ble_eq_true rfl) (hnew : setCells l off m = l' := by first | (simp only [setCells, List.set_cons_zero, List.set_cons_succ, List.take_succ_cons, List.take_zero, List.drop_zero, List.drop_succ_cons, Nat.zero_add, Nat.add_zero, Nat.reduceAdd]; exact rfl) | exact rfl) : OpT P W n ds ⟨dst, .store t x y, ty, pos, af, g⟩ E G K :=
  op_store (A := [e0, e1, e2]) hk hx hy hG hm hlen hp hroom hnew

/-- Field i of the struct type t lies at this offset, and has cells. -/
class FieldAt (P : Program) (t i : Nat) (off : outParam Nat) : Prop where
  eq : ∃ fs f j, P.underlying t = some (.struct fs) ∧ fs[i]? = some f ∧ f.offset = off ∧ P.info? f.type = some j ∧ j.size ≠ 0

theorem FieldAt.mk' {P : Program} {t i off : Nat} {fs f} (h1 : P.underlying t = some (.struct fs)) (h2 : fs[i]? = some f) (h3 : f.offset = off)
    (h4 : (P.info? f.type).map (fun j => Nat.beq j.size 0) = some false) : FieldAt P t i off := by
  cases hj : P.info? f.type with
  | none => rw [hj] at h4; cases h4
  | some j =>
    rw [hj] at h4
    exact ⟨fs, f, j, h1, h2, h3, hj, fun e => by simp [e] at h4⟩

theorem op_fieldAddr {t i x k off o} [hf : FieldAt P t i o] (hk : K (.pointer (some ⟨k, off + o, none⟩)) G) (hx : evalE E x = some (.pointer (some ⟨k, off, none⟩)) := by exact rfl) :
    OpT P W n ds ⟨dst, .fieldAddr t x i, ty, pos, af, g⟩ E G K :=
  op_of_run (fun a w ho hs => by
    obtain ⟨fs, f, j, h1, h2, h3, h4, h5⟩ := hf.eq
    simp only [execOp, ho.eval hx]
    refine run_v ?_
    haveI : Und P t (.struct fs) := ⟨h1⟩
    refine (sem_run_bind P _ _ w _ w (run_underlying (t := t) w)).trans ?_
    simp only [h2]
    refine (sem_run_bind P _ _ w ⟨k, off, none⟩ w rfl).trans ?_
    refine (sem_run_bind P _ _ w ⟨k, off + o, none⟩ w ?_).trans rfl
    refine (sem_run_bind P _ _ w j.size w ((sem_run_bind P _ _ w j w (run_typeInfo h4 w)).trans rfl)).trans ?_
    rw [if_neg h5, h3, addr_add]; rfl) hk

/-! structs and slices written out -/
def fillL (place : Nat → Option (Nat × Nat)) (cells : List Value) : List (Nat × Value) → Option (List Value)
  | [] => some cells
  | (i, v) :: rest =>
    match place i with
    | none => none
    | some (off, size) =>
      if v.cells.size ≠ size || off + v.cells.size > cells.length then none
      else fillL place (setCells cells off v.cells.toList) rest

theorem setCells_fold (vs : List Value) : ∀ (cells : List Value) (off j : Nat),
    (vs.zipIdx j).foldl (fun cs (x : Value × Nat) => cs.setIfInBounds (off + x.2) x.1) (⟨cells⟩ : Array Value) = ⟨setCells cells (off + j) vs⟩ := by
  induction vs with
  | nil => intro cells off j; rfl
  | cons v vs ih =>
    intro cells off j
    simp only [List.zipIdx_cons, List.foldl_cons, setCells]
    rw [List.setIfInBounds_toArray, ih, Nat.add_assoc]

theorem fill_eq (place : Nat → Option (Nat × Nat)) : ∀ (parts : List (Nat × Value)) (cells : List Value), Instr.fill place ⟨cells⟩ parts = (fillL place cells parts).map (fun l => ⟨l⟩) := by
  intro parts
  induction parts with
  | nil => intro cells; rfl
  | cons p parts ih =>
    obtain ⟨i, v⟩ := p
    intro cells
    simp only [Instr.fill, fillL]
    cases place i with
    | none => rfl
    | some q =>
      obtain ⟨off, size⟩ := q
      simp only [List.size_toArray]
      split
      · rfl
      · have : v.cells.zipIdx.foldl (fun cs (x : Value × Nat) => cs.setIfInBounds (off + x.2) x.1) (⟨cells⟩ : Array Value) = ⟨setCells cells off v.cells.toList⟩ := by
          have h := setCells_fold v.cells.toList cells off 0
          rw [Nat.add_zero] at h
          rw [← h, ← Array.foldl_toList, Array.toList_zipIdx]
        rw [this]; exact ih _

def partsE (E : Env) : List (Nat × Operand) → Option (List (Nat × Value))
  | [] => some []
  | (i, x) :: xs => match evalE E x with
    | none => none
    | some v => match partsE E xs with
      | none => none
      | some vs => some ((i, v) :: vs)

theorem Ok.parts {E : Env} {a : Act} (ho : Ok n ds E a) : ∀ {ps : List (Nat × Operand)} {vs}, partsE E ps = some vs → ps.map (fun (x : Nat × Operand) => (x.1, a.eval x.2)) = vs := by
  intro ps
  induction ps with
  | nil => intro vs h; simp [partsE] at h; simp [← h]
  | cons p ps ih =>
    intro vs h
    obtain ⟨i, x⟩ := p
    simp only [partsE] at h
    cases h1 : evalE E x with
    | none => simp [h1] at h
    | some v =>
      cases h2 : partsE E ps with
      | none => simp [h1, h2] at h
      | some us =>
        simp only [h1, h2, Option.some.injEq] at h
        subst h
        simp [ho.eval h1, ih h2]

/-- The places of a struct's fields: of each its offset and its size. -/
class Places (P : Program) (fs : List Field) (ps : outParam (List (Nat × Nat))) : Prop where
  eq : fs.map (fun f => (P.info? f.type).map (fun i => (f.offset, i.size))) = ps.map some

theorem run_places {fs : List Field} {ps : List (Nat × Nat)} (h : fs.map (fun f => (P.info? f.type).map (fun i => (f.offset, i.size))) = ps.map some) (w : World) :
    (fs.mapM (fun f => do pure (f.offset, ← sizeOf f.type) : Field → Sem (Nat × Nat))).run P w = .ok ps w := by
  induction fs generalizing ps with
  | nil => cases ps with
    | nil => rfl
    | cons p ps => simp at h
  | cons f fs ih =>
    cases ps with
    | nil => simp at h
    | cons p ps =>
      simp only [List.map_cons, List.cons.injEq] at h
      cases hi : P.info? f.type with
      | none => rw [hi] at h; simp at h
      | some i =>
        rw [hi] at h
        simp only [Option.map_some, Option.some.injEq] at h
        simp only [List.mapM_cons]
        refine (sem_run_bind P _ _ w p w ?_).trans ((sem_run_bind P _ _ w ps w (ih h.2)).trans rfl)
        refine (sem_run_bind P _ _ w i.size w ?_).trans (by rw [← h.1]; rfl)
        exact (sem_run_bind P _ _ w i w (run_typeInfo hi w)).trans rfl

theorem op_build {t fs s b z ps vs pl l l'} [Und P t (.struct ⟨fs⟩)] [Inf P t s b z] [hp : Places P fs pl] (hk : K (.agg ⟨l'⟩) G) (hps : partsE E ps = some vs := by exact rfl) (hf : fillL (fun i => pl[i]?) z vs = some l := by exact rfl) (hnew : l = l' := by first | (simp only [setCells, rowZero, Value.cells, List.range, List.range.loop, List.map_cons, List.map_nil, List.length_cons, List.length_nil, Nat.reduceMod, List.getElem!_cons_zero, List.getElem!_cons_succ, Nat.mod_self, List.set_cons_zero, List.set_cons_succ, Nat.zero_add, Nat.zero_mul, Nat.one_mul, Nat.mul_one, Nat.add_zero, Nat.reduceAdd, Nat.reduceMul]; exact rfl) | exact rfl) : OpT P W n ds ⟨dst, .build t ⟨ps⟩, ty, pos, af, g⟩ E G K :=
  op_of_run (fun a w ho _ => by
    simp only [execOp]
    refine run_v ?_
    obtain ⟨v, hc, hr⟩ := run_zeroValue (P := P) (t := t) w
    simp only [Instr.build]
    refine (sem_run_bind P _ _ w v w hr).trans ?_
    refine (sem_run_bind P _ _ w _ w (run_underlying (t := t) w)).trans ?_
    simp only [List.mapM_toArray]
    refine (sem_run_bind P _ _ w ⟨pl⟩ w ?_).trans ?_
    · exact (sem_run_bind P _ _ w pl w (run_places hp.eq w)).trans rfl
    · have hpv := ho.parts hps
      have hfl : Instr.fill (fun x => (⟨pl⟩ : Array (Nat × Nat))[x]?) v.cells ((⟨ps⟩ : Array (Nat × Operand)).map (fun (x : Nat × Operand) => (x.1, a.eval x.2))).toList = some ⟨l⟩ := by
        rw [hc]
        simp only [Array.toList_map, hpv]
        rw [fill_eq]
        have : (fun x => (⟨pl⟩ : Array (Nat × Nat))[x]?) = (fun (i : Nat) => pl[i]?) := by funext i; simp
        rw [this, hf]; rfl
      rw [hfl]; rfl) (hnew ▸ hk)

/-- The cells of a slice before its parts are laid in. -/
def rowZero (z : List Value) (k : Nat) : List Value := (List.range k).map fun i => z[i % z.length]!

theorem op_buildSlice {t e s b z len ps vs l l'} [Und P t (.slice e)] [hI : Inf P e s b z] (hk : ∀ k, K (.slice (some ⟨k, 0, none⟩) len len) ((k, .cells ⟨l'⟩ e (0, 0)) :: G)) (hps : partsE E ps = some vs := by exact rfl) (hsz : (Nat.ble (len * s) 16777216 && !(Nat.beq (len * s) 0)) = true := by exact rfl) (hf : fillL (fun i => some (i * s, s)) (rowZero z (len * s)) vs = some l := by exact rfl) (hnew : l = l' := by first | (simp only [setCells, rowZero, Value.cells, List.range, List.range.loop, List.map_cons, List.map_nil, List.length_cons, List.length_nil, Nat.reduceMod, List.getElem!_cons_zero, List.getElem!_cons_succ, Nat.mod_self, List.set_cons_zero, List.set_cons_succ, Nat.zero_add, Nat.zero_mul, Nat.one_mul, Nat.mul_one, Nat.add_zero, Nat.reduceAdd, Nat.reduceMul]; exact rfl) | exact rfl) : OpT P W n ds ⟨dst, .buildSlice t len ⟨ps⟩, ty, pos, af, g⟩ E G K := by
  subst hnew
  refine op_new (o := .cells ⟨l⟩ e (0, 0)) (val := fun k => .slice (some ⟨k, 0, none⟩) len len) (fun a w ho _ => ?_) hk
  simp only [execOp]
  refine run_v ?_
  obtain ⟨v, hc, hr⟩ := run_zeroValue (P := P) (t := e) w
  simp only [Bool.and_eq_true, Bool.not_eq_true'] at hsz
  have h1 : len * s ≤ 16777216 := Nat.le_of_ble_eq_true hsz.1
  have h0 : len * s ≠ 0 := fun h => by rw [h] at hsz; cases hsz.2
  simp only [Instr.buildSlice]
  refine (sem_run_bind P _ _ w _ w (run_underlying (t := t) w)).trans ?_
  refine (sem_run_bind P _ _ w s w (run_sizeOf w)).trans ?_
  rw [if_neg (by omega), if_neg h0]
  refine (sem_run_bind P _ _ w v w hr).trans ?_
  refine (sem_run_bind P _ _ w (⟨z⟩ : Array Value) w (by rw [hc]; rfl)).trans ?_
  · have hpv := ho.parts hps
    have hz : (Array.range (len * s)).map (fun i => (⟨z⟩ : Array Value)[i % (⟨z⟩ : Array Value).size]!) = ⟨rowZero z (len * s)⟩ := by
      apply Array.ext'
      simp [rowZero]
    have hfl : Instr.fill (fun i => some (i * s, s)) ((Array.range (len * s)).map (fun i => (⟨z⟩ : Array Value)[i % (⟨z⟩ : Array Value).size]!)) ((⟨ps⟩ : Array (Nat × Operand)).map (fun (x : Nat × Operand) => (x.1, a.eval x.2))).toList = some ⟨l⟩ := by
      rw [hz]
      simp only [Array.toList_map, hpv]
      rw [fill_eq, hf]; rfl
    rw [hfl]; rfl

theorem op_indexAddr {t e s b z x y k off len cap kk j} [Und P t (.slice e)] [Inf P e s b z] (hk : K (.pointer (some ⟨k, off + j * s, none⟩)) G) (hx : evalE E x = some (.slice (some ⟨k, off, none⟩) len cap) := by exact rfl) (hy : evalE E y = some (.int kk ((j : Nat) : Int)) := by exact rfl) (hj : j < len := by assumption) :
    OpT P W n ds ⟨dst, .indexAddr t x y, ty, pos, af, g⟩ E G K :=
  op_of_run (fun a w ho hs => by
    simp only [execOp, ho.eval hx, ho.eval hy]
    refine run_v ?_
    refine (sem_run_bind P _ _ w _ w rfl).trans ?_
    refine (sem_run_bind P _ _ w _ w (run_underlying (t := t) w)).trans ?_
    refine (sem_run_bind P _ _ w _ w (run_underlying (t := t) w)).trans ?_
    simp only []
    rw [if_pos ⟨Int.natCast_nonneg j, by omega⟩]
    refine (sem_run_bind P _ _ w s w (run_sizeOf w)).trans ?_
    rw [addr_add, Int.toNat_natCast]; rfl) hk

theorem op_indexC {t e s b z x y k off len cap kk} {i : Int} [Und P t (.slice e)] [Inf P e s b z] (hk : K (.pointer (some ⟨k, off + i.toNat * s, none⟩)) G) (hx : evalE E x = some (.slice (some ⟨k, off, none⟩) len cap) := by exact rfl) (hy : evalE E y = some (.int kk i) := by exact rfl) (h0 : 0 ≤ i := by decide) (hj : i.toNat < len := by decide) :
    OpT P W n ds ⟨dst, .indexAddr t x y, ty, pos, af, g⟩ E G K := by
  have e : ((i.toNat : Nat) : Int) = i := Int.toNat_of_nonneg h0
  exact op_indexAddr hk hx (by rw [e]; exact hy) hj
theorem op_indexAddr1 {t e b z x y k off len cap kk j} [Und P t (.slice e)] [Inf P e 1 b z] (hk : K (.pointer (some ⟨k, off + j, none⟩)) G) (hx : evalE E x = some (.slice (some ⟨k, off, none⟩) len cap) := by exact rfl) (hy : evalE E y = some (.int kk ((j : Nat) : Int)) := by exact rfl) (hj : j < len := by assumption) :
    OpT P W n ds ⟨dst, .indexAddr t x y, ty, pos, af, g⟩ E G K :=
  op_indexAddr (t := t) (e := e) (by rw [Nat.mul_one]; exact hk) hx hy hj

theorem op_store4 {t s b z x y k off l T v m l' B e0 e1 e2 e3} [Inf P t s b z] (hk : K undef (e0 :: e1 :: e2 :: e3 :: (k, Obj.cells ⟨l'⟩ T (0, 0)) :: B)) (hx : evalE E x = some (.pointer (some ⟨k, off, none⟩)) := by exact rfl) (hy : evalE E y = some v := by exact rfl) (hG : G = e0 :: e1 :: e2 :: e3 :: (k, Obj.cells ⟨l⟩ T (0, 0)) :: B := by exact rfl) (hm : v.cells = ⟨m⟩ := by exact rfl) (hlen : m.length = s := by exact rfl) (hp : m.all Value.plain = true := by exact rfl) (hroom : off + s ≤ l.length := by exact Nat.le_of_ble_eq_true rfl) (hnew : setCells l off m = l' := by first | (simp only [setCells, List.set_cons_zero, List.set_cons_succ, List.take_succ_cons, List.take_zero, List.drop_zero, List.drop_succ_cons, Nat.zero_add, Nat.add_zero, Nat.reduceAdd]; exact rfl) | exact rfl) : OpT P W n ds ⟨dst, .store t x y, ty, pos, af, g⟩ E G K :=
  op_store (A := [e0, e1, e2, e3]) hk hx hy hG hm hlen hp hroom hnew
theorem op_store5 {t s b z x y k off l T v m l' B e0 e1 e2 e3 e4} [Inf P t s b z] (hk : K undef (e0 :: e1 :: e2 :: e3 :: e4 :: (k, Obj.cells ⟨l'⟩ T (0, 0)) :: B)) (hx : evalE E x = some (.pointer (some ⟨k, off, none⟩)) := by exact rfl) (hy : evalE E y = some v := by exact rfl) (hG : G = e0 :: e1 :: e2 :: e3 :: e4 :: (k, Obj.cells ⟨l⟩ T (0, 0)) :: B := by exact rfl) (hm : v.cells = ⟨m⟩ := by exact rfl) (hlen : m.length = s := by exact rfl) (hp : m.all Value.plain = true := by exact rfl) (hroom : off + s ≤ l.length := by exact Nat.le_of_ble_eq_true rfl) (hnew : setCells l off m = l' := by first | (simp only [setCells, List.set_cons_zero, List.set_cons_succ, List.take_succ_cons, List.take_zero, List.drop_zero, List.drop_succ_cons, Nat.zero_add, Nat.add_zero, Nat.reduceAdd]; exact rfl) | exact rfl) : OpT P W n ds ⟨dst, .store t x y, ty, pos, af, g⟩ E G K :=
  op_store (A := [e0, e1, e2, e3, e4]) hk hx hy hG hm hlen hp hroom hnew

theorem op_ftoi {src dt x b n' k} [hs : Und P src (.float .f64)] [hd : Und P dt (.int k)] (hk : K (.int k n') G) (hx : evalE E x = some (.float .f64 b) := by exact rfl) (h : floatToIntVal .f64 b k = some n' := by assumption) :
    OpT P W n ds ⟨dst, .convert src dt x, ty, pos, af, g⟩ E G K :=
  op_of_run (fun a w ho _ => by
    simp only [execOp, ho.eval hx]
    exact run_v (run_convert_float_int w src dt .f64 k b n' (by rw [hs.eq]; rfl) hd.eq h)) hk
theorem op_itof {src dt x k u} [hs : Und P src (.int k)] [hd : Und P dt (.float .f64)] (hk : K (.float .f64 (floatOfInt .f64 u)) G) (hx : evalE E x = some (.int k u) := by exact rfl) :
    OpT P W n ds ⟨dst, .convert src dt x, ty, pos, af, g⟩ E G K :=
  op_of_run (fun a w ho _ => by
    simp only [execOp, ho.eval hx]
    refine run_v ?_
    refine (sem_run_bind P _ _ w _ w (run_underlying (t := src) w)).trans ?_
    refine (sem_run_bind P _ _ w _ w (run_underlying (t := dt) w)).trans ?_
    rfl) hk
theorem op_itoi {src dt x k k2 u} [hs : Und P src (.int k)] [hd : Und P dt (.int k2)] (hk : K (.int k2 (k2.wrap u)) G) (hx : evalE E x = some (.int k u) := by exact rfl) :
    OpT P W n ds ⟨dst, .convert src dt x, ty, pos, af, g⟩ E G K :=
  op_of_run (fun a w ho _ => by
    simp only [execOp, ho.eval hx]
    refine run_v ?_
    refine (sem_run_bind P _ _ w _ w (run_underlying (t := src) w)).trans ?_
    refine (sem_run_bind P _ _ w _ w (run_underlying (t := dt) w)).trans ?_
    rfl) hk

theorem op_unop_not {t x b} (hk : K (.bool (!b)) G) (hx : evalE E x = some (.bool b) := by exact rfl) : OpT P W n ds ⟨dst, .unOp .not t x, ty, pos, af, g⟩ E G K :=
  op_of_run (fun a w ho _ => by simp only [execOp, ho.eval hx]; rfl) hk
theorem op_unop_neg_float {t x k r} (hk : K (.float k (Op.negFloat k r)) G) (hx : evalE E x = some (.float k r) := by exact rfl) : OpT P W n ds ⟨dst, .unOp .neg t x, ty, pos, af, g⟩ E G K :=
  op_of_run (fun a w ho _ => by simp only [execOp, ho.eval hx]; rfl) hk
theorem op_unop_neg_int {t x k r} (hk : K (.int k (k.wrap (0 - r))) G) (hx : evalE E x = some (.int k r) := by exact rfl) : OpT P W n ds ⟨dst, .unOp .neg t x, ty, pos, af, g⟩ E G K :=
  op_of_run (fun a w ho _ => by simp only [execOp, ho.eval hx]; rfl) hk

/-! floats: comparisons, sums -/
def fcmp0 (op : BinOp) (x y : Nat) : Bool :=
  match op with
  | .eql => Ieee.double.order x y == some .eq
  | .neq => Ieee.double.order x y != some .eq
  | .lss => Ieee.double.order x y == some .lt
  | .leq => Ieee.double.order x y == some .lt || Ieee.double.order x y == some .eq
  | .gtr => Ieee.double.order x y == some .gt
  | _ => Ieee.double.order x y == some .gt || Ieee.double.order x y == some .eq

theorem fcmp_ex : ∃ f : BinOp → Nat → Nat → Bool, ∀ op x y, f op x y = fcmp0 op x y := ⟨fcmp0, fun _ _ _ => rfl⟩
/-- A comparison, its make kept shut. -/
noncomputable def fcmp : BinOp → Nat → Nat → Bool := Classical.choose fcmp_ex
theorem fcmp_def (op : BinOp) (x y : Nat) : fcmp op x y = fcmp0 op x y := Classical.choose_spec fcmp_ex op x y

def BinOp.isCmp : BinOp → Bool
  | .eql | .neq | .lss | .leq | .gtr | .geq => true
  | _ => false

theorem op_fcmp {op t t2 x y u v} (hk : K (.bool (fcmp op u v)) G) (hc : BinOp.isCmp op = true := by exact rfl) (hx : evalE E x = some (.float .f64 u) := by exact rfl) (hy : evalE E y = some (.float .f64 v) := by exact rfl) :
    OpT P W n ds ⟨dst, .binOp op t x y t2, ty, pos, af, g⟩ E G K :=
  op_of_run (fun a w ho _ => by
    rw [fcmp_def]
    simp only [execOp, ho.eval hx, ho.eval hy]
    cases op <;> first | (cases hc; done) | rfl) hk

/-- What a float operation may give: the rounded result; a NaN of whatever bits where the operation is invalid. -/
structure FAr (op : BinOp) (x y r : Nat) : Prop where
  ok : match floatBits op .f64 x y with
  | some s => r = s
  | none => (Ieee.double.read r).isNaN = true ∧ r < 2 ^ 64

def BinOp.isArith : BinOp → Bool
  | .add | .sub | .mul | .quo => true
  | _ => false

theorem nan_bits (t : Nat) : (Ieee.double.read ((t % 2) * 2 ^ 63 + 0x7ff0000000000000 + 1 + (t / 2) % (2 ^ 52 - 1))).isNaN = true ∧ (t % 2) * 2 ^ 63 + 0x7ff0000000000000 + 1 + (t / 2) % (2 ^ 52 - 1) < 2 ^ 64 := by
  have h1 : (t / 2) % (2 ^ 52 - 1) < 2 ^ 52 - 1 := Nat.mod_lt _ (by decide)
  have h2 : t % 2 < 2 := Nat.mod_lt _ (by decide)
  generalize t % 2 = u at *
  generalize (t / 2) % (2 ^ 52 - 1) = v at *
  refine ⟨?_, by omega⟩
  have hb : Ieee.double.binade = 4503599627370496 := rfl
  have hi : Ieee.double.infRung = 9218868437227405312 := rfl
  have hw : Ieee.double.signWeight = 9223372036854775808 := rfl
  simp only [Ieee.Format.read, hb, hi, hw]
  have e : (u * 2 ^ 63 + 0x7ff0000000000000 + 1 + v) % 9223372036854775808 = 9218868437227405313 + v := by omega
  rw [e, if_neg (by omega), if_neg (by omega), if_neg (by omega)]
  rfl

theorem op_farith {op t t2 x y u v} (hk : ∀ r, FAr op u v r → K (.float .f64 r) G) (hc : BinOp.isArith op = true := by exact rfl) (hx : evalE E x = some (.float .f64 u) := by exact rfl) (hy : evalE E y = some (.float .f64 v) := by exact rfl) : OpT P W n ds ⟨dst, .binOp op t x y t2, ty, pos, af, g⟩ E G K := by
  refine ⟨fun a w next Q ho hs hn => ?_⟩
  have key : ∃ r w', FAr op u v r ∧ Sees W G w' ∧ (execOp a.eval ⟨dst, .binOp op t x y t2, ty, pos, af, g⟩).run P w = .ok (.value (.float .f64 r)) w' := by
    cases hb : floatBits op .f64 u v with
    | some r =>
      refine ⟨r, w, ⟨by rw [hb]⟩, hs, ?_⟩
      simp only [execOp, ho.eval hx, ho.eval hy]
      refine run_v ?_
      refine (sem_run_bind P _ _ w () w ?_).trans (run_float_arith w op t .f64 u v r hb)
      cases op <;> first | (cases hc; done) | rfl
    | none =>
      have hq : (Question.nanBits .f64 u v).forced = false := rfl
      refine ⟨(Question.nanBits .f64 u v).cut (w.tape w.drawn (Question.nanBits .f64 u v)), { w with drawn := w.drawn + 1 }, ?_, hs.drew _, ?_⟩
      rotate_left
      · simp only [execOp, ho.eval hx, ho.eval hy]
        refine run_v ?_
        refine (sem_run_bind P _ _ w () w ?_).trans ?_
        · cases op <;> first | (cases hc; done) | rfl
        · unfold floatBits at hb
          cases op <;> simp only at hb <;> first | (cases hc; done) | skip
          all_goals
            simp only [binOp, Op.floatArith, ne_eq, not_true_eq_false, if_false, hb]
            rfl
      · exact ⟨by rw [hb]; exact nan_bits _⟩
  obtain ⟨r, w', hr, hs', he⟩ := key
  rw [he]
  exact hn _ _ _ hs' (hk r hr)

/-! whole numbers -/
def icmp (op : BinOp) (x y : Int) : Bool :=
  match op with
  | .eql => x == y
  | .neq => x != y
  | .lss => decide (x < y)
  | .leq => decide (x ≤ y)
  | .gtr => decide (x > y)
  | _ => decide (x ≥ y)

theorem op_icmp {op t t2 x y k u v} (hk : K (.bool (icmp op u v)) G) (hc : BinOp.isCmp op = true := by exact rfl) (hx : evalE E x = some (.int k u) := by exact rfl) (hy : evalE E y = some (.int k v) := by exact rfl) :
    OpT P W n ds ⟨dst, .binOp op t x y t2, ty, pos, af, g⟩ E G K :=
  op_of_run (fun a w ho _ => by
    simp only [execOp, ho.eval hx, ho.eval hy]
    refine run_v ?_
    refine (sem_run_bind P _ _ w () w ?_).trans ?_
    · cases op <;> first | (cases hc; done) | rfl
    · cases op <;> first | (cases hc; done) | (simp only [binOp, ne_eq, not_true_eq_false, if_false]; rfl)) hk

def iarith (op : BinOp) (x y : Int) : Int :=
  match op with
  | .add => x + y
  | .sub => x - y
  | _ => x * y
def BinOp.isRing : BinOp → Bool
  | .add | .sub | .mul => true
  | _ => false
theorem op_iarith {op t t2 x y k u v} (hk : K (.int k (k.wrap (iarith op u v))) G) (hc : BinOp.isRing op = true := by exact rfl) (hx : evalE E x = some (.int k u) := by exact rfl) (hy : evalE E y = some (.int k v) := by exact rfl) :
    OpT P W n ds ⟨dst, .binOp op t x y t2, ty, pos, af, g⟩ E G K :=
  op_of_run (fun a w ho _ => by
    simp only [execOp, ho.eval hx, ho.eval hy]
    refine run_v ?_
    refine (sem_run_bind P _ _ w () w ?_).trans ?_
    · cases op <;> first | (cases hc; done) | rfl
    · cases op <;> first | (cases hc; done) | (simp only [binOp, ne_eq, not_true_eq_false, if_false]; rfl)) hk

def bcmp (op : BinOp) (x y : Bool) : Bool :=
  match op with
  | .eql => x == y
  | _ => x != y
def BinOp.isBcmp : BinOp → Bool
  | .eql | .neq => true
  | _ => false
theorem op_bcmp {op t t2 x y u v} [hT : Und P t .bool] (hk : K (.bool (bcmp op u v)) G) (hc : BinOp.isBcmp op = true := by exact rfl) (hx : evalE E x = some (.bool u) := by exact rfl) (hy : evalE E y = some (.bool v) := by exact rfl) :
    OpT P W n ds ⟨dst, .binOp op t x y t2, ty, pos, af, g⟩ E G K :=
  op_of_run (fun a w ho _ => by
    simp only [execOp, ho.eval hx, ho.eval hy]
    refine run_v ?_
    cases op <;> first | (cases hc; done) | skip
    · refine (sem_run_bind P _ _ w () w rfl).trans ?_
      exact run_eql_bool w t u v hT.eq
    · refine (sem_run_bind P _ _ w () w rfl).trans ?_
      exact run_neq_bool w t u v hT.eq) hk
theorem op_extract {x i vs v} (hk : K v G) (hx : evalE E x = some (.tuple ⟨vs⟩) := by exact rfl) (hv : vs[i]? = some v := by exact rfl) :
    OpT P W n ds ⟨dst, .extract x i, ty, pos, af, g⟩ E G K :=
  op_of_run (fun a w ho _ => by
    simp only [execOp, ho.eval hx]
    refine run_v ?_
    simp only [Instr.extract, List.getElem?_toArray, hv]
    rfl) hk
theorem op_len_slice {x tq e a} {len cap : Nat} [Und P tq (.slice e)] (hk : K (.int .i64 len) G) (hx : evalE E x = some (.slice a len cap) := by exact rfl) :
    OpT P W n ds ⟨dst, .call { callee := .builtin .len, args := #[x], argTypes := #[tq] }, ty, pos, af, g⟩ E G K :=
  op_of_run (fun a' w ho _ => by
    simp only [execOp, resolve, invoke]
    refine (sem_run_bind P _ _ w _ w rfl).trans ?_
    refine run_v ?_
    simp only [List.map_toArray, List.map_cons, List.map_nil, ho.eval hx]
    show (Builtin.len_ #[tq] ty #[.slice a len cap]).run P w = _
    simp only [Builtin.len_, List.getElem?_toArray, List.getElem?_cons_zero]
    refine (sem_run_bind P _ _ w _ w (run_underlying (t := tq) w)).trans ?_
    rfl) hk

theorem op_call {f args vs at' } (h : Does P f vs G K) (hx : evalAll E args = some vs := by exact rfl) :
    OpT P W n ds ⟨dst, .call { callee := .value (.func f), args := ⟨args⟩, argTypes := at' }, ty, pos, af, g⟩ E G K := by
  refine ⟨fun a w next Q ho hs hn => ?_⟩
  have he : args.map a.eval = vs := by
    clear h hn
    induction args generalizing vs with
    | nil => simp [evalAll] at hx; simp [← hx]
    | cons x xs ih =>
      simp only [evalAll] at hx
      cases h1 : evalE E x with
      | none => simp [h1] at hx
      | some v =>
        cases h2 : evalAll E xs with
        | none => simp [h1, h2] at hx
        | some us =>
          simp only [h1, h2, Option.some.injEq] at hx
          subst hx
          simp [ho.eval h1, ih h2]
  have hr : (execOp a.eval ⟨dst, .call { callee := .value (.func f), args := ⟨args⟩, argTypes := at' }, ty, pos, af, g⟩).run P w = (callFunc f ⟨vs⟩).run P w := by
    simp only [execOp, resolve]
    refine (sem_run_bind P _ _ w _ w rfl).trans ?_
    simp [invoke, he]
  rw [hr]
  exact h.run W w hs _ a next Q hn
end ops
end Go.Lg

set_option linter.unusedVariables false
set_option linter.unusedSimpArgs false
namespace Go.Lg

/-! ### Functions -/

def argEnv : Nat → List Value → Env
  | _, [] => []
  | i, v :: vs => (i, v) :: argEnv (i + 1) vs

theorem argEnv_get : ∀ (vs : List Value) (i t : Nat) (v : Value), Env.get (argEnv i vs) t = some v → i ≤ t ∧ vs[t - i]? = some v := by
  intro vs
  induction vs with
  | nil => intro i t v h; cases h
  | cons u us ih =>
    intro i t v h
    by_cases e : i = t
    · subst e; simp only [argEnv] at h; rw [Env.get_cons_self] at h; cases h; exact ⟨Nat.le_refl _, by simp⟩
    · simp only [argEnv] at h; rw [Env.get_cons_ne e] at h
      obtain ⟨h1, h2⟩ := ih _ _ _ h
      refine ⟨by omega, ?_⟩
      rw [show t - i = (t - (i + 1)) + 1 by omega]
      simpa using h2

def RetK (W : World) (K : Value → Heap → Prop) (e : Ending) (w' : World) : Prop := ∃ v H', e = .returned v ∧ Sees W H' w' ∧ K v H'

theorem run_callFunc {P : Program} {f : FuncId} [h : Enters P f] (args : Array Value) (w : World) : (callFunc f args).run P w = .ok (.enter f args) w := by
  obtain ⟨fn, hf, hn, hb⟩ := h.eq
  show Sem.run P (match P.funcs[f]? with | none => _ | some fn => _) w = _
  rw [hf]
  simp only [hn, hb, Bool.false_eq_true, if_false]
  rfl

/-- What a call comes to, as0 the claim asks it. -/
theorem calls_of_body {P : Program} {f : FuncId} {fn : Func} {c : Code} {args : List Value} {W w : World} {H : Heap} {K : Value → Heap → Prop}
    (hf : P.funcs[f]? = some fn) (hb : fn.body = some c) (hsz : args.length ≤ fn.ntmps) (hs : Sees W H w)
    (h : TC P W fn.ntmps [] c (bodyPost P fn (RetK W K)) (argEnv 0 args) H) : Calls P f ⟨args⟩ w (RetK W K) := by
  refine calls_of_wp hf hb (h.run _ _ ⟨?_, rfl, fun t v hv => ?_⟩ hs)
  · simp; omega
  · obtain ⟨_, h2⟩ := argEnv_get _ _ _ _ hv
    have h3 : args[t]? = some v := by simpa using h2
    have hlt : t < args.length := by
      rcases Nat.lt_or_ge t args.length with h | h
      · exact h
      · rw [List.getElem?_eq_none h] at h3; cases h3
    simp [Array.getElem?_append, hlt]
    simpa [hlt] using h3

/-- The same, the frame's size written out. -/
theorem fn_enter {P : Program} {f : FuncId} {fn : Func} {c : Code} {args : List Value} {H : Heap} {K : Value → Heap → Prop} [Enters P f] (n : Nat)
    (hf : P.funcs[f]? = some fn) (h : ∀ W, TC P W n [] c (bodyPost P fn (RetK W K)) (argEnv 0 args) H) (hb : fn.body = some c := by exact rfl)
    (hn : fn.ntmps = n := by exact rfl) (hsz : args.length ≤ n := by exact Nat.le_of_ble_eq_true rfl) : Does P f args H K := by
  refine ⟨fun W w hs o a next Q hnx => ?_⟩
  rw [run_callFunc, Oper.upon_enter]
  refine (calls_of_body (K := K) hf hb (by omega) hs (by rw [hn]; exact h W)).mono fun e w' ⟨v, H', he, hs', hk⟩ => ?_
  subst he
  exact hnx v H' w' hs' hk

theorem fn_of_body {P : Program} {f : FuncId} {fn : Func} {c : Code} {args : List Value} {H : Heap} {K : Value → Heap → Prop} [Enters P f]
    (hf : P.funcs[f]? = some fn) (hb : fn.body = some c) (hsz : args.length ≤ fn.ntmps)
    (h : ∀ W, TC P W fn.ntmps [] c (bodyPost P fn (RetK W K)) (argEnv 0 args) H) : Does P f args H K := by
  refine ⟨fun W w hs o a next Q hn => ?_⟩
  rw [run_callFunc, Oper.upon_enter]
  refine (calls_of_body hf hb hsz hs (h W)).mono fun e w' ⟨v, H', he, hs', hk⟩ => ?_
  subst he
  exact hn v H' w' hs' hk

/-- A function without a body, which the model knows. -/
theorem does_extern {P : Program} {f : FuncId} {fn : Func} {x : Array Value → Sem Value} {args : List Value} {H : Heap} {K : Value → Heap → Prop}
    (hf : P.funcs[f]? = some fn) (hn : (fn.name == "runtime.NumGoroutine") = false) (hb : fn.body.isNone = true) (h1 : (Extern.findNext fn).isNone = true)
    (h2 : Extern.find fn = some x) (h : ∀ W w, Sees W H w → ∃ v w', (x ⟨args⟩).run P w = .ok v w' ∧ Sees W H w' ∧ K v H) : Does P f args H K := by
  refine ⟨fun W w hs o a next Q hnx => ?_⟩
  obtain ⟨v, w', hr, hs', hk⟩ := h W w hs
  have : (callFunc f ⟨args⟩).run P w = .ok (.value v) w' := by
    show Sem.run P (match P.funcs[f]? with | none => _ | some fn => _) w = _
    rw [hf]
    have h1' : Extern.findNext fn = none := by simpa using h1
    simp only [hn, hb, Bool.false_eq_true, if_false, if_true]
    refine (sem_run_bind P _ _ w () w rfl).trans ?_
    rw [h1']
    simp only [h2]
    refine (sem_run_bind P _ _ w v w' hr).trans rfl
  rw [this]
  exact hnx v H w' hs' hk

/-- What math.Trunc gives: of a NaN a NaN. -/
def TruncR (x r : Nat) : Prop :=
  ((Ieee.double.read x).isNaN = true ∧ (Ieee.double.read r).isNaN = true) ∨ ((Ieee.double.read x).isNaN = false ∧ r = Ieee.double.write ((Ieee.double.read x).integral .zero))

theorem nan_frac {x : Nat} {s t} (h : Ieee.double.read x = .nan s t) : t < 2 ^ 52 := by
  have hb : Ieee.double.binade = 4503599627370496 := rfl
  have hi : Ieee.double.infRung = 9218868437227405312 := rfl
  have hw : Ieee.double.signWeight = 9223372036854775808 := rfl
  simp only [Ieee.Format.read, hb, hi, hw] at h
  split at h
  · cases h
  · split at h
    · cases h
    · split at h
      · cases h
      · cases h; omega

theorem quiet_lt {t : Nat} (h : t < 2 ^ 52) : Ieee.double.quiet t < 2 ^ 52 :=
  Nat.or_lt_two_pow h (by decide)

theorem quiet_pos (t : Nat) : 0 < Ieee.double.quiet t := by
  have h : 2 ^ 51 ≤ Ieee.double.quiet t := Nat.right_le_or
  have : 0 < 2 ^ 51 := by decide
  omega

theorem nan_write (s : Bool) {t : Nat} (h : t < 2 ^ 52) (h0 : 0 < t) : (Ieee.double.read (Ieee.double.write (.nan s t))).isNaN = true := by
  have hb : Ieee.double.binade = 4503599627370496 := rfl
  have hi : Ieee.double.infRung = 9218868437227405312 := rfl
  have hw : Ieee.double.signWeight = 9223372036854775808 := rfl
  simp only [Ieee.Format.write, Ieee.Format.word, Ieee.Format.read, hb, hi, hw]
  have e : t % 4503599627370496 = t := Nat.mod_eq_of_lt (by omega)
  rw [e]
  have e2 : (if s = true then 9223372036854775808 + (9218868437227405312 + t) else 9218868437227405312 + t) % 9223372036854775808 = 9218868437227405312 + t := by
    split <;> omega
  rw [e2, if_neg (by omega), if_neg (by omega), if_neg (by omega)]
  rfl

theorem does_trunc {P : Program} {f : FuncId} {fn : Func} {H : Heap} {x : Nat}
    (hf : P.funcs[f]? = some fn) (hn : (fn.name == "runtime.NumGoroutine") = false) (hb : fn.body.isNone = true) (h1 : (Extern.findNext fn).isNone = true)
    (h2 : Extern.find fn = some (Extern.MathFloor.toIntegral "math.archTrunc" .zero)) : Does P f [.float .f64 x] H fun v H' => (∃ r, v = .float .f64 r ∧ TruncR x r) ∧ H' = H := by
  refine does_extern hf hn hb h1 h2 fun W w hs => ?_
  have e : Extern.MathFloor.toIntegral "math.archTrunc" .zero ⟨[.float .f64 x]⟩ = (match Ieee.double.read x with
    | .nan s t =>
      if Ieee.double.quiet t = t then pure (.float .f64 x) else do
      let kept ← choose (.extern "math.Floor,Ceil,Trunc,RoundToEven.signallingNaN kept" 2)
      pure (.float .f64 (if kept == 1 then x else Ieee.double.write (.nan s (Ieee.double.quiet t))))
    | d => pure (.float .f64 (Ieee.double.write (d.integral .zero)))) := rfl
  rw [e]
  unfold TruncR
  cases hd : Ieee.double.read x with
  | number s m i => exact ⟨_, w, rfl, hs, ⟨_, rfl, .inr ⟨rfl, rfl⟩⟩, rfl⟩
  | infinity s => exact ⟨_, w, rfl, hs, ⟨_, rfl, .inr ⟨rfl, rfl⟩⟩, rfl⟩
  | nan s t =>
    simp only
    have hx : (Ieee.double.read x).isNaN = true := by rw [hd]; rfl
    split
    · exact ⟨_, w, rfl, hs, ⟨_, rfl, .inl ⟨rfl, hx⟩⟩, trivial⟩
    · refine ⟨_, { w with drawn := w.drawn + 1 }, rfl, hs.drew _, ⟨_, rfl, .inl ⟨rfl, ?_⟩⟩, trivial⟩
      split
      · exact hx
      · exact nan_write s (quiet_lt (nan_frac hd)) (quiet_pos t)

/-- A result variable's value. -/
inductive RV (P : Program) (E : Env) (G : Heap) : ResultVar → Value → Prop
  | tmp {t v} : Env.get E t = some v → RV P E G (.tmp t) v
  | cell {t T d k off l S fz v} [Und P T d] : TypeDesc.isAgg d = false → Env.get E t = some (.pointer (some ⟨k, off, none⟩)) → (k, Obj.cells ⟨l⟩ S fz) ∈ G → l[off]? = some v → RV P E G (.cell t T) v
  | agg {t T d s b z k off l S fz m} [Und P T d] [Inf P T s b z] : TypeDesc.isAgg d = true → Env.get E t = some (.pointer (some ⟨k, off, none⟩)) → (k, Obj.cells ⟨l⟩ S fz) ∈ G →
      (l.drop off).take s = m → m.length = s → RV P E G (.cell t T) (.agg ⟨m⟩)

def resSem (tmps : Array Value) : ResultVar → Sem Value
  | .tmp t => pure (tmps.getD t undef)
  | .cell a t => do loadVar t (← asAddr (tmps.getD a undef))

theorem run_res {P W n ds E G r v} (h : RV P E G r v) {a : Act} {w : World} (ho : Ok n ds E a) (hs : Sees W G w) : (resSem a.tmps r).run P w = .ok v w := by
  cases h with
  | tmp h =>
    have := ho.eval (x := .tmp _) h
    simp only [Act.eval] at this
    simp only [resSem, this]; rfl
  | cell hd h hm hv =>
    have := ho.eval (x := .tmp _) h
    simp only [Act.eval] at this
    simp only [resSem, this]
    refine (sem_run_bind P _ _ w _ w rfl).trans ?_
    exact run_loadVar_scalar hd (hs.cell hm hv)
  | agg hd h hm hv hl =>
    have := ho.eval (x := .tmp _) h
    simp only [Act.eval] at this
    simp only [resSem, this]
    refine (sem_run_bind P _ _ w _ w rfl).trans ?_
    exact run_loadVar_agg hd hl (fun j v hj => hs.cell hm (cut_get hv hj))

inductive RVs (P : Program) (E : Env) (G : Heap) : List ResultVar → List Value → Prop
  | nil : RVs P E G [] []
  | cons {r v rs vs} : RV P E G r v → RVs P E G rs vs → RVs P E G (r :: rs) (v :: vs)

theorem results_eq (fn : Func) (tmps : Array Value) : results fn tmps = (do let vs ← fn.results.mapM (resSem tmps); pure (if h : vs.size = 1 then vs[0] else .tuple vs)) := by
  unfold results
  congr 1

section
variable {P : Program} {W : World} {n : Nat} {E : Env} {G G' : Heap} {K : Value → Heap → Prop} {fn : Func} {e : Exit}

theorem ret_list {rs : List ResultVar} {vs : List Value} {v : Value} (hr : fn.results = ⟨rs⟩) (h : RVs P E G rs vs)
    (hv : v = (if h : (⟨vs⟩ : Array Value).size = 1 then (⟨vs⟩ : Array Value)[0] else .tuple ⟨vs⟩)) (hG : List.Sublist G' G) (hk : K v G') (he : e = .ret ∨ e = .normal) :
    At W n [] (bodyPost P fn (RetK W K)) e E G := by
  refine ⟨fun a w ho hs => ?_⟩
  have key : (results fn a.tmps).run P w = .ok v w := by
    rw [results_eq, hr]
    have : ∀ (rs : List ResultVar) (vs : List Value), RVs P E G rs vs → (rs.mapM (resSem a.tmps)).run P w = .ok vs w := by
      intro rs
      induction rs with
      | nil => intro vs h; cases h; rfl
      | cons r rs ih =>
        intro vs h
        cases h with
        | cons h1 h2 =>
          simp only [List.mapM_cons]
          refine (sem_run_bind P _ _ w _ w (run_res h1 ho hs)).trans ?_
          refine (sem_run_bind P _ _ w _ w (ih _ h2)).trans rfl
    refine (sem_run_bind P _ _ w ⟨vs⟩ w ?_).trans (by rw [hv]; rfl)
    rw [List.mapM_toArray]
    exact (sem_run_bind P _ _ w vs w (this rs vs h)).trans rfl
  have h2 : a.defers = [] ∧ ∃ v, (results fn a.tmps).run P w = .ok v w ∧ RetK W K (.returned v) w := ⟨ho.defers, v, key, v, G', rfl, hs.sub hG, hk⟩
  rcases he with rfl | rfl
  · exact h2
  · exact h2

theorem ret_one {r v} (h : RV P E G r v) (hk : K v G') (hr : fn.results = ⟨[r]⟩ := by exact rfl) (hG : List.Sublist G' G := by repeat (first | exact List.Sublist.refl _ | apply List.Sublist.cons_cons | apply List.Sublist.cons)) : At W n [] (bodyPost P fn (RetK W K)) .ret E G :=
  ret_list hr (.cons h .nil) rfl hG hk (.inl rfl)
theorem ret_two {r s v u} (h : RV P E G r v) (h' : RV P E G s u) (hk : K (.tuple #[v, u]) G') (hr : fn.results = ⟨[r, s]⟩ := by exact rfl) (hG : List.Sublist G' G := by repeat (first | exact List.Sublist.refl _ | apply List.Sublist.cons_cons | apply List.Sublist.cons)) : At W n [] (bodyPost P fn (RetK W K)) .ret E G :=
  ret_list hr (.cons h (.cons h' .nil)) rfl hG hk (.inl rfl)
theorem ret_three {r s t v u x} (h : RV P E G r v) (h' : RV P E G s u) (h'' : RV P E G t x) (hk : K (.tuple #[v, u, x]) G') (hr : fn.results = ⟨[r, s, t]⟩ := by exact rfl) (hG : List.Sublist G' G := by repeat (first | exact List.Sublist.refl _ | apply List.Sublist.cons_cons | apply List.Sublist.cons)) :
    At W n [] (bodyPost P fn (RetK W K)) .ret E G :=
  ret_list hr (.cons h (.cons h' (.cons h'' .nil))) rfl hG hk (.inl rfl)
theorem ret_none (hk : K (.tuple #[]) G') (hr : fn.results = ⟨[]⟩ := by exact rfl) (hG : List.Sublist G' G := by repeat (first | exact List.Sublist.refl _ | apply List.Sublist.cons_cons | apply List.Sublist.cons)) (he : e = .ret ∨ e = .normal := by first | exact .inl rfl | exact .inr rfl) : At W n [] (bodyPost P fn (RetK W K)) e E G :=
  ret_list hr .nil rfl hG hk he
/-- One result: in a slot; in a variable of one cell; of several cells. -/
theorem ret_tmp {t v} (hr : fn.results = ⟨[.tmp t]⟩ := by exact rfl) (h : Env.get E t = some v := by exact rfl) (hk : K v G')
    (hG : List.Sublist G' G := by repeat (first | exact List.Sublist.refl _ | apply List.Sublist.cons_cons | apply List.Sublist.cons)) : At W n [] (bodyPost P fn (RetK W K)) .ret E G :=
  ret_one (.tmp h) hk hr hG
theorem ret_cell {t T d k off l S fz v} [Und P T d] (hr : fn.results = ⟨[.cell t T]⟩ := by exact rfl) (hd : TypeDesc.isAgg d = false := by exact rfl)
    (hx : Env.get E t = some (.pointer (some ⟨k, off, none⟩)) := by exact rfl) (hm : (k, Obj.cells ⟨l⟩ S fz) ∈ G := by first | exact mem0 | exact mem1 | exact mem2 | exact mem3 | exact mem4 | exact mem5 | exact mem6 | exact mem7 | exact mem8 | exact mem9 | assumption | (refine Sub.mem (by assumption) ?_; first | exact mem0 | exact mem1 | exact mem2 | exact mem3 | exact mem4 | exact mem5 | exact mem6 | exact mem7 | exact mem8 | exact mem9 | assumption) | ((repeat (apply List.mem_cons_of_mem)); first | assumption | (refine Sub.mem (by assumption) ?_; assumption))) (hv : l[off]? = some v := by first | exact rfl | assumption) (hk : K v G')
    (hG : List.Sublist G' G := by repeat (first | exact List.Sublist.refl _ | apply List.Sublist.cons_cons | apply List.Sublist.cons)) : At W n [] (bodyPost P fn (RetK W K)) .ret E G :=
  ret_one (.cell hd hx hm hv) hk hr hG
theorem ret_agg {t T d s b z k off l S fz m} [Und P T d] [Inf P T s b z] (hr : fn.results = ⟨[.cell t T]⟩ := by exact rfl) (hd : TypeDesc.isAgg d = true := by exact rfl)
    (hx : Env.get E t = some (.pointer (some ⟨k, off, none⟩)) := by exact rfl) (hm : (k, Obj.cells ⟨l⟩ S fz) ∈ G := by first | exact mem0 | exact mem1 | exact mem2 | exact mem3 | exact mem4 | exact mem5 | exact mem6 | exact mem7 | exact mem8 | exact mem9 | assumption | (refine Sub.mem (by assumption) ?_; first | exact mem0 | exact mem1 | exact mem2 | exact mem3 | exact mem4 | exact mem5 | exact mem6 | exact mem7 | exact mem8 | exact mem9 | assumption) | ((repeat (apply List.mem_cons_of_mem)); first | assumption | (refine Sub.mem (by assumption) ?_; assumption))) (hv : (l.drop off).take s = m := by first | (simp only [setCells, List.set_cons_zero, List.set_cons_succ, List.take_succ_cons, List.take_zero, List.drop_zero, List.drop_succ_cons, Nat.zero_add, Nat.add_zero, Nat.reduceAdd]; exact rfl) | exact rfl) (hl : m.length = s := by exact rfl) (hk : K (.agg ⟨m⟩) G')
    (hG : List.Sublist G' G := by repeat (first | exact List.Sublist.refl _ | apply List.Sublist.cons_cons | apply List.Sublist.cons)) : At W n [] (bodyPost P fn (RetK W K)) .ret E G :=
  ret_one (.agg hd hx hm hv hl) hk hr hG
end

/-! ### A region whose order is drawn -/

/-- What an operation of the head gives: a value, new blocks; a fact on memory that stays true where memory grows. -/
abbrev Phi := Value → Heap → Heap → Prop

def Phi.Mono (φ : Phi) : Prop := ∀ v ex G G', φ v ex G → (∀ e ∈ G, e ∈ G') → φ v ex G'

def is (v0 : Value) : Phi := fun v ex _ => v = v0 ∧ ex = []
theorem is_mono (v0 : Value) : Phi.Mono (is v0) := fun _ _ _ _ h _ => h
/-- One new block, k its number. -/
def fresh (f : Nat → Value) (o : Obj) : Phi := fun v ex _ => ∃ k, v = f k ∧ ex = [(k, o)]
theorem fresh_mono (f : Nat → Value) (o : Obj) : Phi.Mono (fresh f o) := fun _ _ _ _ h _ => h
/-- A fact on the value and the new blocks alone. -/
def some' (p : Value → Heap → Prop) : Phi := fun v ex _ => p v ex
theorem some_mono (p : Value → Heap → Prop) : Phi.Mono (some' p) := fun _ _ _ _ h _ => h

def putO : Option Tmp → Value → Env → Env
  | some d, v, E => (d, v) :: E
  | none, _, E => E

def dstOf (l : List Oper) (j : Nat) : Option Tmp := (l[j]?).bind (·.dst)

def preds (o : Oper) : List Nat := ((o.after.toList.filter (Region.binds .any)).map (·.on)).eraseDups

/-- One operation with its guard. -/
def StepG (P : Program) (W : World) (n : Nat) (ds : List Deferred) (l : List Oper) (o : Oper) (E : Env) (G : Heap) (K : Value → Heap → Prop) : Prop :=
  match o.guard with
  | none => OpT P W n ds o E G K
  | some (j, want) => (∃ dj b, dstOf l j = some dj ∧ Env.get E dj = some (.bool b) ∧ (b = want → OpT P W n ds o E G K) ∧ (b = !want → K undef G)) ∨ (∃ dj, dstOf l j = some dj ∧ Env.get E dj = some undef ∧ K undef G)

def withPreds (l : List Oper) (Φ : Nat → Phi) (G : Heap) : List Nat → Env → (Env → Prop) → Prop
  | [], E, k => k E
  | j :: js, E, k => ∀ v ex, Φ j v ex G → (∀ e ∈ ex, e ∈ G) → withPreds l Φ G js (putO (dstOf l j) v E) k

def PremOne (P : Program) (W : World) (n : Nat) (ds : List Deferred) (l : List Oper) (Φ : Nat → Phi) (E0 : Env) (H : Heap) (i : Nat) (o : Oper) : Prop :=
  ∀ G, (∀ e ∈ H, e ∈ G) → withPreds l Φ G (preds o) E0 fun E => StepG P W n ds l o E G fun v G' => ∃ ex, G' = ex ++ G ∧ Φ i v ex G'

def Prems (P : Program) (W : World) (n : Nat) (ds : List Deferred) (l : List Oper) (Φ : Nat → Phi) (E0 : Env) (H : Heap) : Nat → List Oper → Prop
  | _, [] => True
  | i, o :: rest => PremOne P W n ds l Φ E0 H i o ∧ Prems P W n ds l Φ E0 H (i + 1) rest

def Finals (l : List Oper) (K : Env → Heap → Prop) : Nat → List Phi → Env → Heap → (Heap → Prop) → Prop
  | _, [], E, G, h => h G → K E G
  | i, φ :: φs, E, G, h => ∀ v ex, Finals l K (i + 1) φs (putO (dstOf l i) v E) (ex ++ G) (fun G => φ v ex G ∧ h G)

def Monos : List Phi → Prop
  | [] => True
  | φ :: φs => Phi.Mono φ ∧ Monos φs
theorem Monos.all {φs : List Phi} (h : Monos φs) : ∀ φ ∈ φs, Phi.Mono φ := by
  induction φs with
  | nil => intro φ h; cases h
  | cons x xs ih =>
    intro φ hm
    cases hm with
    | head => exact h.1
    | tail _ hm => exact ih h.2 φ hm

/-- Operation j surely comes ahead of operation i. -/
def reachB (l : List Oper) : Nat → Nat → Nat → Bool
  | 0, _, _ => false
  | k + 1, i, j => match l[i]? with
    | none => false
    | some o => (preds o).contains j || (preds o).any fun p => reachB l k p j

def edgesOk (l : List Oper) (m : Nat) : Bool :=
  (List.range l.length).all fun i => match l[i]? with
    | none => false
    | some o => (preds o).all (· < i) && (o.after.toList.all fun e => !(Region.binds .any e) || e.on < i) && (i < m || (List.range i).all fun j => reachB l 9 i j)

def dstsOk (l : List Oper) (m n : Nat) (E0 : Env) : Bool :=
  (List.range m).all fun i => match l[i]? with
    | none => false
    | some o => match o.dst with
      | none => true
      | some d => d < n && (Env.get E0 d).isNone && (List.range m).all fun j => j == i || !(dstOf l j == some d)

section draw
variable {P : Program} {W : World} {n : Nat} {ds : List Deferred} {Q : Exit → Act → World → Prop} {E0 : Env} {H : Heap}

theorem binds_any_mem {l : List Oper} {m i : Nat} {o : Oper} (hE : edgesOk l m = true) (ho : l[i]? = some o) :
    (∀ j ∈ preds o, j < i) ∧ (m ≤ i → ∀ j, j < i → reachB l 9 i j = true) := by
  have hi : i < l.length := by
    rcases Nat.lt_or_ge i l.length with h | h
    · exact h
    · rw [List.getElem?_eq_none h] at ho; cases ho
  simp only [edgesOk, List.all_eq_true, List.mem_range] at hE
  have := hE i hi
  rw [ho] at this
  simp only [Bool.and_eq_true, Bool.or_eq_true, decide_eq_true_eq, List.all_eq_true, List.mem_range] at this
  refine ⟨this.1.1, fun h => ?_⟩
  rcases this.2 with h' | h'
  · omega
  · exact h'

/-- What is listed was ready once: its predecessors are listed. -/
def Closed (l : List Oper) (listed : Array Bool) : Prop := ∀ i o, l[i]? = some o → listed.getD i false = true → ∀ j ∈ preds o, listed.getD j false = true

theorem reach_listed {l : List Oper} {listed : Array Bool} (hc : Closed l listed) : ∀ (k i j : Nat) (o : Oper), l[i]? = some o → (∀ p ∈ preds o, listed.getD p false = true) → reachB l k i j = true → listed.getD j false = true := by
  intro k
  induction k with
  | zero => intro i j o _ _ h; simp [reachB] at h
  | succ k ih =>
    intro i j o ho hp h
    simp only [reachB, ho, Bool.or_eq_true, List.contains_iff_mem, List.any_eq_true] at h
    rcases h with h | ⟨p, hpm, hpr⟩
    · exact hp j h
    · cases hlp : l[p]? with
      | none => cases k <;> simp [reachB, hlp] at hpr
      | some op => exact ih p j op hlp (hc p op hlp (hp p hpm)) hpr

theorem Closed.set {l : List Oper} {listed : Array Bool} {i : Nat} (hc : Closed l listed) (hi : ∀ o, l[i]? = some o → ∀ j ∈ preds o, listed.getD j false = true) (hsz : i < listed.size) : Closed l (listed.setIfInBounds i true) := by
  have hgd : ∀ j, (listed.setIfInBounds i true).getD j false = (j == i || listed.getD j false) := fun j => by
    rw [Array.getD_eq_getD_getElem?, Array.getElem?_setIfInBounds, Array.getD_eq_getD_getElem?]
    by_cases e : i = j
    · subst e; simp [hsz]
    · rw [if_neg e]
      have : (j == i) = false := by simp; exact fun h => e h.symm
      simp [this]
  intro k o ho hk j hj
  rw [hgd] at hk ⊢
  rw [Bool.or_eq_true]
  right
  by_cases e : k = i
  · subst e; exact hi o ho j hj
  · exact hc k o ho (by simpa [e] using hk) j hj

theorem ready_iff {l : List Oper} {listed : Array Bool} {i : Nat} (hsz : listed.size = l.length) :
    i ∈ Region.ready .any l.toArray listed ↔ i < l.length ∧ listed[i]? = some false ∧ ∃ o, l[i]? = some o ∧ ∀ j ∈ preds o, listed.getD j false = true := by
  simp only [Region.ready, List.mem_filter, List.mem_range, List.size_toArray, List.getElem?_toArray, Bool.and_eq_true, Bool.not_eq_true']
  constructor
  · rintro ⟨h1, h2, h3⟩
    refine ⟨h1, ?_, l[i], List.getElem?_eq_getElem h1, ?_⟩
    · have hb : i < listed.size := by omega
      rw [Array.getElem?_eq_getElem hb]
      simpa [Array.getD, hb] using h2
    · rw [List.getElem?_eq_getElem h1] at h3
      simp only [Option.map_some, Option.getD_some] at h3
      intro j hj
      simp only [preds, List.mem_eraseDups, List.mem_map, List.mem_filter] at hj
      obtain ⟨e, ⟨he, hbnd⟩, rfl⟩ := hj
      rw [Array.all_eq_true'] at h3
      have := h3 e (by simpa using he)
      simpa [hbnd] using this
  · rintro ⟨h1, h2, o, ho, h3⟩
    refine ⟨h1, ?_, ?_⟩
    · have hb : i < listed.size := by omega
      rw [Array.getElem?_eq_getElem hb] at h2
      simpa [Array.getD, hb] using h2
    · rw [ho]
      simp only [Option.map_some, Option.getD_some]
      rw [Array.all_eq_true']
      intro e he
      by_cases hbnd : Region.binds .any e = true
      · have := h3 e.on (by simp only [preds, List.mem_eraseDups, List.mem_map, List.mem_filter]; exact ⟨e, ⟨by simpa using he, hbnd⟩, rfl⟩)
        simp [this]
      · simp [hbnd]

/-- The tail comes in order. -/
theorem any_of_tail {l : List Oper} {m : Nat} (hE : edgesOk l m = true) : ∀ (fuel t : Nat) (listed : Array Bool) (a : Act) (w : World),
    listed.size = l.length → Closed l listed → t + fuel = l.length → m ≤ t → (∀ i, i < t → listed[i]? = some true) → (∀ i, t ≤ i → i < l.length → listed[i]? = some false) →
    wpList P l.toArray Q (l.drop t) a w → wpAny P .any l.toArray Q fuel listed a w := by
  intro fuel
  induction fuel with
  | zero =>
    intro t listed a w hsz _ ht _ h1 _ hw
    obtain rfl : t = l.length := by omega
    refine ⟨?_, by simpa [wpList] using hw⟩
    refine List.eq_nil_iff_forall_not_mem.2 fun i hi => ?_
    obtain ⟨hi1, hi2, _⟩ := (ready_iff hsz).1 hi
    rw [h1 i hi1] at hi2; cases hi2
  | succ fuel ih =>
    intro t listed a w hsz hcl ht hm h1 h2 hw
    have htl : t < l.length := by omega
    have hget : l[t]? = some l[t] := List.getElem?_eq_getElem htl
    have hgd : ∀ j, j < t → listed.getD j false = true := fun j hj => by
      have := h1 j hj
      rw [Array.getD_eq_getD_getElem?, this]; rfl
    refine ⟨fun hr => ?_, fun i hi => ?_⟩
    · have : t ∈ Region.ready .any l.toArray listed := (ready_iff hsz).2 ⟨htl, h2 t (Nat.le_refl _) htl, _, hget, fun j hj => hgd j ((binds_any_mem hE hget).1 j hj)⟩
      rw [hr] at this; cases this
    · obtain ⟨hi1, hi2, o, ho, hp⟩ := (ready_iff hsz).1 hi
      have hge : t ≤ i := by
        rcases Nat.lt_or_ge i t with h | h
        · rw [h1 i h] at hi2; cases hi2
        · exact h
      have : i = t := by
        rcases Nat.lt_or_ge t i with h | h
        · have := reach_listed hcl 9 i t o ho hp ((binds_any_mem hE ho).2 (by omega) t h)
          rw [Array.getD_eq_getD_getElem?, h2 t (Nat.le_refl _) htl] at this; cases this
        · omega
      subst this
      have hd : l.drop i = l[i] :: l.drop (i + 1) := by rw [List.drop_eq_getElem_cons htl]
      rw [hd] at hw
      unfold wpOp
      simp only [List.getElem?_toArray, hget]
      simp only [wpList] at hw
      have step : ∀ a w, wpList P l.toArray Q (l.drop (i + 1)) a w → wpAny P .any l.toArray Q fuel (listed.setIfInBounds i true) a w := by
        intro a w hw
        refine ih (i + 1) _ a w (by simpa using hsz) (hcl.set (fun o' ho' j hj => by rw [ho] at ho'; cases ho'; exact hp j hj) (by omega)) (by omega) (by omega) (fun j hj => ?_) (fun j hj hj' => ?_) hw
        · rw [Array.getElem?_setIfInBounds]
          by_cases e : i = j
          · subst e; simp [hsz, htl]
          · rw [if_neg e]; exact h1 j (by omega)
        · rw [Array.getElem?_setIfInBounds, if_neg (by omega)]; exact h2 j (by omega) hj'
      split
      · rename_i hwt
        rw [if_pos hwt] at hw
        exact hw.imp (Oper.wp_mono step) id
      · rename_i hwt
        rw [if_neg hwt] at hw
        exact step _ _ hw

/-- The memory that the operations done so far have made. -/
def made (outs : Nat → Value × Heap) (listed : Nat → Bool) : Nat → Heap → Heap
  | 0, H => H
  | i + 1, H => (if listed i then (outs i).2 else []) ++ made outs listed i H

theorem made_congr {outs outs' : Nat → Value × Heap} {f f' : Nat → Bool} (m : Nat) (H : Heap) (h : ∀ i, i < m → f i = f' i ∧ (f i = true → outs i = outs' i)) : made outs f m H = made outs' f' m H := by
  induction m with
  | zero => rfl
  | succ m ih =>
    simp only [made]
    rw [ih fun i hi => h i (by omega)]
    obtain ⟨h1, h2⟩ := h m (by omega)
    rw [← h1]
    cases hf : f m with
    | false => simp
    | true => rw [h2 hf]

theorem made_add {outs : Nat → Value × Heap} {f : Nat → Bool} {i : Nat} (o : Value × Heap) (m : Nat) (H : Heap) (hi : i < m) (hf : f i = false) :
    (made (fun j => if j = i then o else outs j) (fun j => j == i || f j) m H).Perm (o.2 ++ made outs f m H) := by
  induction m with
  | zero => omega
  | succ m ih =>
    simp only [made]
    by_cases e : m = i
    · subst e
      have : made (fun j => if j = m then o else outs j) (fun j => j == m || f j) m H = made outs f m H :=
        made_congr _ _ fun j hj => ⟨by simp; omega, fun _ => by simp; omega⟩
      rw [this, hf]; simp
    · have := ih (by omega)
      rw [if_neg e]
      have hb : (m == i || f m) = f m := by simp [e]
      rw [hb]
      exact (List.Perm.append_left _ this).trans (by rw [← List.append_assoc, ← List.append_assoc]; exact List.Perm.append_right _ List.perm_append_comm)

theorem made_sub {outs : Nat → Value × Heap} {f : Nat → Bool} {j : Nat} (m : Nat) (H : Heap) (hj : j < m) (hf : f j = true) : ∀ e ∈ (outs j).2, e ∈ made outs f m H := by
  induction m with
  | zero => omega
  | succ m ih =>
    intro e he
    simp only [made]
    by_cases h : j = m
    · subst h; rw [hf]; exact List.mem_append_left _ he
    · exact List.mem_append_right _ (ih (by omega) e he)

theorem made_base {outs : Nat → Value × Heap} {f : Nat → Bool} (m : Nat) (H : Heap) : ∀ e ∈ H, e ∈ made outs f m H := by
  induction m with
  | zero => intro e he; exact he
  | succ m ih => intro e he; exact List.mem_append_right _ (ih e he)

theorem made_none (f : Nat → Bool) (m : Nat) (H : Heap) : made (fun _ => (undef, [])) f m H = H := by
  induction m with
  | zero => rfl
  | succ m ih => simp only [made, ih]; split <;> rfl

theorem ok_of_withPreds {l : List Oper} {Φ : Nat → Phi} {G : Heap} {a : Act} {outs : Nat → Value × Heap} {k : Env → Prop} : ∀ (js : List Nat) (E : Env),
    withPreds l Φ G js E k → (∀ j ∈ js, Φ j (outs j).1 (outs j).2 G ∧ (∀ e ∈ (outs j).2, e ∈ G) ∧ ∀ d, dstOf l j = some d → a.tmps[d]? = some (outs j).1) → Ok n ds E a →
    ∃ E', k E' ∧ Ok n ds E' a := by
  intro js
  induction js with
  | nil => intro E h _ ho; exact ⟨E, h, ho⟩
  | cons j js ih =>
    intro E h hj ho
    obtain ⟨h1, h2, h3⟩ := hj j List.mem_cons_self
    refine ih _ (h _ _ h1 h2) (fun j hj' => hj j (List.mem_cons_of_mem _ hj')) ?_
    cases hd : dstOf l j with
    | none => exact ho
    | some d =>
      refine ⟨ho.size, ho.defers, fun t v hv => ?_⟩
      by_cases e : d = t
      · subst e; simp only [putO] at hv; rw [Env.get_cons_self] at hv; cases hv; exact h3 d hd
      · simp only [putO] at hv; rw [Env.get_cons_ne e] at hv; exact ho.get _ _ hv

theorem prems_get {l : List Oper} {Φ : Nat → Phi} : ∀ (front : List Oper) (k : Nat), Prems P W n ds l Φ E0 H k front → ∀ i o, front[i]? = some o → PremOne P W n ds l Φ E0 H (k + i) o := by
  intro front
  induction front with
  | nil => intro k _ i o h; simp at h
  | cons x xs ih =>
    intro k h i o ho
    cases i with
    | zero => simp at ho; subst ho; exact h.1
    | succ i => have := ih (k + 1) h.2 i o (by simpa using ho); rwa [show k + 1 + i = k + (i + 1) by omega] at this

theorem finals_done {l : List Oper} {K : Env → Heap → Prop} {outs : Nat → Value × Heap} {a : Act} : ∀ (Φs : List Phi) (i : Nat) (E : Env) (hyp : Heap → Prop),
    Finals l K i Φs E (made outs (fun _ => true) i H) hyp → (∀ (j : Nat) (φ : Phi), Φs[j]? = some φ → φ (outs (i + j)).1 (outs (i + j)).2 (made outs (fun _ => true) (i + Φs.length) H)) →
    hyp (made outs (fun _ => true) (i + Φs.length) H) → Ok n ds E a → (∀ j, i ≤ j → j < i + Φs.length → ∀ d, dstOf l j = some d → a.tmps[d]? = some (outs j).1) →
    ∃ E', K E' (made outs (fun _ => true) (i + Φs.length) H) ∧ Ok n ds E' a := by
  intro Φs
  induction Φs with
  | nil => intro i E hyp h _ hh ho _; exact ⟨E, h hh, ho⟩
  | cons φ Φs ih =>
    intro i E hyp h h1 hh ho h3
    have hlen : i + 1 + Φs.length = i + (φ :: Φs).length := by simp; omega
    have := ih (i + 1) _ _ (h (outs i).1 (outs i).2) (fun j φ' hj => by
        have := h1 (j + 1) φ' (by simpa using hj)
        rw [hlen, show i + 1 + j = i + (j + 1) by omega]; exact this) ?_ ?_ ?_
    · rw [hlen] at this; exact this
    · rw [hlen]; exact ⟨h1 0 φ rfl, hh⟩
    · cases hd : dstOf l i with
      | none => exact ho
      | some d =>
        refine ⟨ho.size, ho.defers, fun t v hv => ?_⟩
        by_cases e : d = t
        · subst e; simp only [putO] at hv; rw [Env.get_cons_self] at hv; cases hv; exact h3 i (Nat.le_refl _) (by simp) d hd
        · simp only [putO] at hv; rw [Env.get_cons_ne e] at hv; exact ho.get _ _ hv
    · intro j hj hj' d hd
      exact h3 j (by omega) (by rw [← hlen]; omega) d hd

theorem least {p : Nat → Prop} [DecidablePred p] : ∀ k, (∃ i, i < k ∧ ¬ p i) → ∃ i, i < k ∧ ¬ p i ∧ ∀ j, j < i → p j := by
  intro k
  induction k with
  | zero => rintro ⟨i, hi, _⟩; omega
  | succ k ih =>
    rintro ⟨i, hi, hp⟩
    by_cases h : ∃ i, i < k ∧ ¬ p i
    · obtain ⟨j, h1, h2, h3⟩ := ih h
      exact ⟨j, by omega, h2, h3⟩
    · refine ⟨i, hi, hp, fun j hj => ?_⟩
      by_cases hpj : p j
      · exact hpj
      · exact (h ⟨j, by omega, hpj⟩).elim

theorem Ok.put_off {E : Env} {a : Act} (h : Ok n ds E a) {o : Option Tmp} (hd : ∀ d, o = some d → Env.get E d = none) (v : Value) : Ok n ds E (a.put o v) := by
  cases o with
  | none => exact h
  | some d =>
    refine ⟨by simp [Act.put, h.size], by simp [Act.put, h.defers], fun t u hu => ?_⟩
    have : d ≠ t := fun e => by subst e; rw [hd d rfl] at hu; cases hu
    simp [Act.put, this, h.get t u hu]

theorem dsts_get {l : List Oper} {m i : Nat} {o : Oper} {d : Nat} (hD : dstsOk l m n E0 = true) (him : i < m) (ho : l[i]? = some o) (hd : o.dst = some d) :
    d < n ∧ Env.get E0 d = none ∧ ∀ j, j < m → j ≠ i → dstOf l j ≠ some d := by
  simp only [dstsOk, List.all_eq_true, List.mem_range] at hD
  have := hD i him
  rw [ho] at this
  simp only [hd, Bool.and_eq_true, decide_eq_true_eq, List.all_eq_true, List.mem_range, Bool.or_eq_true, beq_iff_eq, Bool.not_eq_true', beq_eq_false_iff_ne, Option.isNone_iff_eq_none] at this
  refine ⟨this.1.1, this.1.2, fun j hj hne => ?_⟩
  rcases this.2 j hj with h | h
  · exact (hne h).elim
  · exact h

theorem count_split {l : List Bool} {m : Nat} (hm : m ≤ l.length) (h1 : ∀ i, i < m → l[i]? = some true) (h2 : ∀ i, m ≤ i → i < l.length → l[i]? = some false) : m + l.countP (fun b => !b) = l.length := by
  have : l = List.replicate m true ++ List.replicate (l.length - m) false := by
    refine List.ext_getElem? fun i => ?_
    rw [List.getElem?_append]
    simp only [List.length_replicate, List.getElem?_replicate]
    by_cases h : i < m
    · rw [if_pos h, if_pos h]; exact h1 i h
    · rw [if_neg h]
      by_cases h' : i < l.length
      · rw [if_pos (by omega)]; exact h2 i (by omega) h'
      · rw [if_neg (by omega)]; exact List.getElem?_eq_none (by omega)
  have e : l.countP (fun b => !b) = l.length - m := by
    rw [this]; simp [List.countP_append, List.countP_replicate]
  omega

theorem count_set {l : List Bool} {i : Nat} (h : l[i]? = some false) : (l.set i true).countP (fun b => !b) + 1 = l.countP (fun b => !b) := by
  induction l generalizing i with
  | nil => cases h
  | cons b l ih =>
    cases i with
    | zero => simp at h; subst h; simp
    | succ i =>
      have := ih (i := i) (by simpa using h)
      simp only [List.set_cons_succ, List.countP_cons]
      omega

theorem tc_draw {id : Nat} {l : List Oper} (m : Nat) (Φs : List Phi) (hm : P.follows .mixedOrders = true) (hE : edgesOk l m = true) (hD : dstsOk l m n E0 = true)
    (hlen : Φs.length = m) (hml : m ≤ l.length) (hmonos : Monos Φs)
    (prem : Prems P W n ds l (fun i => Φs.getD i (is undef)) E0 H 0 (l.take m))
    (fin : Finals l (fun E G => TL P W n ds l Q (l.drop m) E G) 0 Φs E0 H (fun _ => True)) :
    TC P W n ds (.region id l.toArray true) Q E0 H := by
  have hmono := hmonos.all
  refine ⟨fun a0 w0 ho0 hs0 => ?_⟩
  refine wp_region_any hm ?_
  have hΦ : ∀ i, i < m → Phi.Mono (Φs.getD i (is undef)) := fun i hi => by
    rw [List.getD_eq_getElem?_getD, List.getElem?_eq_getElem (by omega)]
    exact hmono _ (List.getElem_mem _)
  have complete : ∀ (fuel : Nat) (listed : Array Bool) (outs : Nat → Value × Heap) (a : Act) (w : World), listed.size = l.length → Closed l listed →
      fuel = listed.toList.countP (fun b => !b) → (∀ i, m ≤ i → i < l.length → listed[i]? = some false) → Ok n ds E0 a →
      Sees W (made outs (fun i => listed.getD i false) m H) w →
      (∀ i, i < m → listed.getD i false = true → (Φs.getD i (is undef)) (outs i).1 (outs i).2 (made outs (fun i => listed.getD i false) m H) ∧ ∀ d, dstOf l i = some d → a.tmps[d]? = some (outs i).1) →
      (∀ i, i < m → listed.getD i false = true) → wpAny P .any l.toArray Q fuel listed a w := by
    intro fuel listed outs a w hsz hcl hf h2 ho hs hinv hc
    have hget : ∀ i, i < m → listed[i]? = some true := fun i hi => by
      have hb : i < listed.size := by omega
      have := hc i hi
      rw [Array.getElem?_eq_getElem hb]
      simpa [Array.getD, hb] using this
    have hmade : made outs (fun i => listed.getD i false) m H = made outs (fun _ => true) m H := made_congr _ _ fun i hi => ⟨hc i hi, fun _ => rfl⟩
    rw [hmade] at hs
    obtain ⟨E', hK, ho'⟩ := finals_done (n := n) (ds := ds) (H := H) (outs := outs) (a := a) Φs 0 E0 _ fin (fun j φ hj => by
        have hjm : j < m := by
          rcases Nat.lt_or_ge j m with h | h
          · exact h
          · rw [List.getElem?_eq_none (by omega)] at hj; cases hj
        have := (hinv j hjm (hc j hjm)).1
        rw [hmade, List.getD_eq_getElem?_getD, hj] at this
        simpa [hlen] using this) trivial ho (fun j _ hj d hd => (hinv j (by omega) (hc j (by omega))).2 d hd)
    rw [Nat.zero_add, hlen] at hK
    refine any_of_tail hE fuel m listed a w hsz hcl ?_ (Nat.le_refl _) hget h2 (hK.run a w ho' hs)
    rw [hf]
    have := count_split (l := listed.toList) (m := m) (by simp; omega) (fun i hi => by simpa using hget i hi) (fun i hi hi' => by simpa using h2 i hi (by simpa [hsz] using hi'))
    simpa [hsz] using this
  -- the head's invariant
  have head : ∀ (fuel : Nat) (listed : Array Bool) (outs : Nat → Value × Heap) (a : Act) (w : World), listed.size = l.length → Closed l listed →
      fuel = listed.toList.countP (fun b => !b) → (∀ i, m ≤ i → i < l.length → listed[i]? = some false) → Ok n ds E0 a →
      Sees W (made outs (fun i => listed.getD i false) m H) w →
      (∀ i, i < m → listed.getD i false = true → (Φs.getD i (is undef)) (outs i).1 (outs i).2 (made outs (fun i => listed.getD i false) m H) ∧ ∀ d, dstOf l i = some d → a.tmps[d]? = some (outs i).1) →
      wpAny P .any l.toArray Q fuel listed a w := by
    intro fuel
    induction fuel with
    | zero =>
      intro listed outs a w hsz hcl hf h2 ho hs hinv
      refine complete 0 listed outs a w hsz hcl hf h2 ho hs hinv fun i hi => ?_
      have := List.countP_eq_zero.1 hf.symm
      have hb : i < listed.size := by omega
      have := this listed[i] (by simp [Array.getElem_mem])
      simpa [Array.getD, hb] using this
    | succ fuel ih =>
      intro listed outs a w hsz hcl hf h2 ho hs hinv
      by_cases hc : ∀ i, i < m → listed.getD i false = true
      · exact complete _ listed outs a w hsz hcl hf h2 ho hs hinv hc
      have hex : ∃ i, i < m ∧ ¬ listed.getD i false = true := by
        apply Classical.byContradiction
        intro h
        exact hc fun i hi => Classical.byContradiction fun h' => h ⟨i, hi, h'⟩
      obtain ⟨i0, hi0, hn0, hb0⟩ := least (p := fun i => listed.getD i false = true) m hex
      have hunl : ∀ i, i < l.length → ¬ listed.getD i false = true → listed[i]? = some false := fun i hi h => by
        have hb : i < listed.size := by omega
        rw [Array.getElem?_eq_getElem hb]
        simpa [Array.getD, hb] using h
      refine ⟨fun hr => ?_, fun i hi => ?_⟩
      · have hget : l[i0]? = some l[i0] := List.getElem?_eq_getElem (by omega)
        have : i0 ∈ Region.ready .any l.toArray listed := (ready_iff hsz).2 ⟨by omega, hunl i0 (by omega) hn0, _, hget, fun j hj => hb0 j ((binds_any_mem hE hget).1 j hj)⟩
        rw [hr] at this; cases this
      · obtain ⟨hi1, hi2, o, hoi, hp⟩ := (ready_iff hsz).1 hi
        have him : i < m := by
          rcases Nat.lt_or_ge i m with h | h
          · exact h
          · exact (hn0 (reach_listed hcl 9 i i0 o hoi hp ((binds_any_mem hE hoi).2 h i0 (by omega)))).elim
        have hif : listed.getD i false = false := by rw [Array.getD_eq_getD_getElem?, hi2]; rfl
        have hdst : dstOf l i = o.dst := by simp [dstOf, hoi]
        have step : ∀ v ex w', Sees W (ex ++ made outs (fun i => listed.getD i false) m H) w' → (Φs.getD i (is undef)) v ex (ex ++ made outs (fun i => listed.getD i false) m H) →
            wpAny P .any l.toArray Q fuel (listed.setIfInBounds i true) (a.put o.dst v) w' := by
          intro v ex w' hs' hφ
          have hgd : ∀ j, (listed.setIfInBounds i true).getD j false = (j == i || listed.getD j false) := fun j => by
            rw [Array.getD_eq_getD_getElem?, Array.getElem?_setIfInBounds, Array.getD_eq_getD_getElem?]
            by_cases e : i = j
            · subst e; simp [hsz, hi1]
            · rw [if_neg e]
              have : (j == i) = false := by simp; exact fun h => e h.symm
              simp [this]
          have hperm := made_add (outs := outs) (f := fun j => listed.getD j false) (v, ex) m H him hif
          have hmm : made (fun j => if j = i then (v, ex) else outs j) (fun j => (listed.setIfInBounds i true).getD j false) m H = made (fun j => if j = i then (v, ex) else outs j) (fun j => j == i || listed.getD j false) m H :=
            made_congr _ _ fun j _ => ⟨hgd j, fun _ => rfl⟩
          refine ih _ (fun j => if j = i then (v, ex) else outs j) _ _ (by simpa using hsz) (hcl.set (fun o' ho' j hj => by rw [hoi] at ho'; cases ho'; exact hp j hj) (by omega)) ?_ ?_ ?_ ?_ ?_
          · have := count_set (l := listed.toList) (i := i) (by simpa using hi2)
            simp only [Array.toList_setIfInBounds]
            omega
          · intro j hj hj'
            rw [Array.getElem?_setIfInBounds, if_neg (by omega)]; exact h2 j hj hj'
          · refine ho.put_off (fun d hd => (dsts_get hD him hoi hd).2.1) v
          · rw [hmm]; exact hs'.perm hperm
          · intro j hj hl
            rw [hmm]
            by_cases e : j = i
            · subst e
              rw [if_pos rfl]
              refine ⟨hΦ j hj _ _ _ _ hφ fun e he => (hperm.mem_iff).2 he, fun d hd => ?_⟩
              rw [hdst] at hd
              have := dsts_get hD hj hoi hd
              simp [Act.put, hd, ho.size, this.1]
            · rw [if_neg e]
              have hl' : listed.getD j false = true := by
                rw [hgd j] at hl; simpa [e] using hl
              obtain ⟨h3, h4⟩ := hinv j hj hl'
              refine ⟨hΦ j hj _ _ _ _ h3 fun e he => (hperm.mem_iff).2 (List.mem_append_right _ he), fun d hd => ?_⟩
              cases hod : o.dst with
              | none => exact h4 d hd
              | some d' =>
                have := (dsts_get hD him hoi hod).2.2 j hj e
                have hne : d' ≠ d := fun e => this (by rw [hd, e])
                simp [Act.put, hne, h4 d hd]
        have hpr := prems_get _ 0 prem i o (by simp [him, hoi])
        rw [Nat.zero_add] at hpr
        obtain ⟨E', hst, ho'⟩ := ok_of_withPreds (n := n) (ds := ds) (a := a) (outs := outs) _ _ (hpr _ (made_base m H)) (fun j hj => by
            have hjm : j < m := Nat.lt_trans ((binds_any_mem hE hoi).1 j hj) him
            obtain ⟨h3, h4⟩ := hinv j hjm (hp j hj)
            exact ⟨h3, made_sub m H hjm (hp j hj), h4⟩) ho
        unfold wpOp
        simp only [List.getElem?_toArray, hoi]
        unfold StepG at hst
        split at hst
        · rename_i hg
          rw [if_pos (by simp [Region.wanted, hg])]
          exact .inl (hst.run a w _ Q ho' hs fun v G' w' hs' ⟨ex, hG', hφ⟩ => step v ex w' (hG' ▸ hs') (hG' ▸ hφ))
        · rename_i j want hg
          rcases hst with ⟨dj, b, hdj, hbj, hy, hno⟩ | ⟨dj, hdj, hbj, hno⟩
          · have hyl : yielded l.toArray a.tmps j = some b := by
              have h5 := ho'.get _ _ hbj
              simp only [dstOf] at hdj
              simp [yielded, hdj, h5]
            by_cases hbw : b = want
            · rw [if_pos (by simp [Region.wanted, hg, hyl, hbw])]
              exact .inl ((hy hbw).run a w _ Q ho' hs fun v G' w' hs' ⟨ex, hG', hφ⟩ => step v ex w' (hG' ▸ hs') (hG' ▸ hφ))
            · rw [if_neg (by simp [Region.wanted, hg, hyl, hbw])]
              obtain ⟨ex, hG', hφ⟩ := hno (by cases b <;> cases want <;> simp_all)
              exact step undef ex w (hG' ▸ hs) (hG' ▸ hφ)
          · have hyl : yielded l.toArray a.tmps j = none := by
              have h5 := ho'.get _ _ hbj
              simp only [dstOf] at hdj
              simp [yielded, hdj, h5, undef]
            rw [if_neg (by simp [Region.wanted, hg, hyl])]
            obtain ⟨ex, hG', hφ⟩ := hno
            exact step undef ex w (hG' ▸ hs) (hG' ▸ hφ)
  refine head l.length (Array.replicate l.length false) (fun _ => (undef, [])) a0 _ (by simp) (fun i o _ h => by rw [Array.getD_eq_getD_getElem?, Array.getElem?_replicate] at h; split at h <;> cases h) (by simp [List.countP_replicate]) (fun i _ hi => by simp [hi]) ho0 ?_ ?_
  · rw [made_none]; exact hs0.drew _
  · intro i hi hl
    simp only [Array.getD_eq_getD_getElem?, Array.getElem?_replicate] at hl
    split at hl <;> cases hl
/-! The same in a form that is easy to read at a region written out. -/
def nthPhi : List Phi → Nat → Phi
  | [], _ => is undef
  | φ :: _, 0 => φ
  | _ :: φs, n + 1 => nthPhi φs n
theorem nthPhi_eq : ∀ (Φs : List Phi) (i : Nat), Φs.getD i (is undef) = nthPhi Φs i := by
  intro Φs
  induction Φs with
  | nil => intro i; rfl
  | cons φ Φs ih => intro i; cases i with
    | zero => rfl
    | succ i => simpa [nthPhi] using ih i
def nthDst : List (Option Tmp) → Nat → Option Tmp
  | [], _ => none
  | d :: _, 0 => d
  | _ :: ds, n + 1 => nthDst ds n
theorem nthDst_eq : ∀ (l : List Oper) (i : Nat), dstOf l i = nthDst (l.map (·.dst)) i := by
  intro l
  induction l with
  | nil => intro i; rfl
  | cons o l ih => intro i; cases i with
    | zero => rfl
    | succ i => simpa [nthDst, dstOf] using ih i

def Step2 (P : Program) (W : World) (n : Nat) (ds : List Deferred) (dl : List (Option Tmp)) (o : Oper) (E : Env) (G : Heap) (K : Value → Heap → Prop) : Prop :=
  match o.guard with
  | none => OpT P W n ds o E G K
  | some (j, want) => (∃ dj b, nthDst dl j = some dj ∧ Env.get E dj = some (.bool b) ∧ (b = want → OpT P W n ds o E G K) ∧ (b = !want → K undef G)) ∨ (∃ dj, nthDst dl j = some dj ∧ Env.get E dj = some undef ∧ K undef G)
def with2 (dl : List (Option Tmp)) (Φs : List Phi) (G : Heap) : List Nat → Env → (Env → Prop) → Prop
  | [], E, k => k E
  | j :: js, E, k => ∀ v ex, nthPhi Φs j v ex G → Sub ex G → with2 dl Φs G js (putO (nthDst dl j) v E) k
def Prems2 (P : Program) (W : World) (n : Nat) (ds : List Deferred) (dl : List (Option Tmp)) (Φs : List Phi) (E0 : Env) (H : Heap) : Nat → List Oper → List (List Nat) → Prop
  | i, o :: os, js :: jss => (∀ G, Sub H G → with2 dl Φs G js E0 fun E => Step2 P W n ds dl o E G fun v G' => ∃ ex, G' = ex ++ G ∧ nthPhi Φs i v ex G') ∧ Prems2 P W n ds dl Φs E0 H (i + 1) os jss
  | _, _, _ => True
def Finals2 (dl : List (Option Tmp)) (K : Env → Heap → Prop) : Nat → List Phi → Env → Heap → (Heap → Prop) → Prop
  | _, [], E, G, h => h G → K E G
  | i, φ :: φs, E, G, h => ∀ v ex, Finals2 dl K (i + 1) φs (putO (nthDst dl i) v E) (ex ++ G) (fun G => φ v ex G ∧ h G)

theorem with2_eq {l : List Oper} {Φs : List Phi} {G : Heap} {k : Env → Prop} : ∀ (js : List Nat) (E : Env), with2 (l.map (·.dst)) Φs G js E k = withPreds l (fun i => Φs.getD i (is undef)) G js E k := by
  intro js
  induction js with
  | nil => intro E; rfl
  | cons j js ih =>
    intro E
    simp only [with2, withPreds, nthPhi_eq, ih, nthDst_eq, Sub]

theorem prems2_prems {l : List Oper} {Φs : List Phi} : ∀ (os : List Oper) (i : Nat), Prems2 P W n ds (l.map (·.dst)) Φs E0 H i os (os.map preds) → Prems P W n ds l (fun i => Φs.getD i (is undef)) E0 H i os := by
  intro os
  induction os with
  | nil => intro i _; trivial
  | cons o os ih =>
    intro i h
    refine ⟨fun G hG => ?_, ih _ h.2⟩
    have := h.1 G hG
    rw [with2_eq] at this
    simp only [nthPhi_eq] at this ⊢
    have e : ∀ E K, Step2 P W n ds (l.map (·.dst)) o E G K = StepG P W n ds l o E G K := by
      intro E K; unfold Step2 StepG; simp only [nthDst_eq]
    simp only [e] at this
    exact this

theorem finals2_eq {l : List Oper} {K : Env → Heap → Prop} : ∀ (Φs : List Phi) (i : Nat) (E : Env) (G : Heap) (h : Heap → Prop), Finals2 (l.map (·.dst)) K i Φs E G h = Finals l K i Φs E G h := by
  intro Φs
  induction Φs with
  | nil => intro i E G h; rfl
  | cons φ Φs ih => intro i E G h; simp only [Finals2, Finals, ih, nthDst_eq]

theorem tc_drawn {id : Nat} {l : List Oper} (m : Nat) (Φs : List Phi) (dl : List (Option Tmp)) (prs : List (List Nat)) (hm : P.follows .mixedOrders = true) (hmonos : Monos Φs)
    (prem : Prems2 P W n ds dl Φs E0 H 0 (l.take m) prs)
    (fin : Finals2 dl (fun E G => TL P W n ds l Q (l.drop m) E G) 0 Φs E0 H (fun _ => True))
    (hE : edgesOk l m = true := by exact rfl) (hD : dstsOk l m n E0 = true := by exact rfl)
    (hlen : Φs.length = m := by exact rfl) (hml : m ≤ l.length := by exact Nat.le_of_ble_eq_true rfl) (hdl : l.map (·.dst) = dl := by exact rfl) (hpr : (l.take m).map preds = prs := by exact rfl) :
    TC P W n ds (.region id l.toArray true) Q E0 H := by
  subst hdl
  subst hpr
  exact tc_draw m Φs hm hE hD hlen hml hmonos (prems2_prems _ _ prem) (by rw [← finals2_eq]; exact fin)
end draw

theorem ne_not {b w : Bool} (h : b = w) : ¬ b = !w := by subst h; cases b <;> decide
theorem ne_not2 {b w : Bool} (h : b = !w) : ¬ b = w := by subst h; cases w <;> decide
end Go.Lg

set_option maxRecDepth 20000
namespace Go.Lg
open Go.Proofs
instance : Und Tryd.prog 0 (TypeDesc.tuple #[]) := ⟨Tryd.underlying0⟩
instance : Und Tryd.prog 1 (TypeDesc.func #[] #[] false) := ⟨Tryd.underlying1⟩
instance : Inf Tryd.prog 1 1 8 [.nilFunc] := ⟨by kernel_rfl⟩
instance : Und Tryd.prog 3 (TypeDesc.int IntKind.i64) := ⟨Tryd.underlying3⟩
instance : Inf Tryd.prog 3 1 8 [.int .i64 0] := ⟨by kernel_rfl⟩
instance : Und Tryd.prog 4 TypeDesc.bool := ⟨Tryd.underlying4⟩
instance : Inf Tryd.prog 4 1 1 [.bool false] := ⟨by kernel_rfl⟩
instance : Und Tryd.prog 5 (TypeDesc.int IntKind.u8) := ⟨Tryd.underlying5⟩
instance : Inf Tryd.prog 5 1 1 [.int .u8 0] := ⟨by kernel_rfl⟩
instance : Und Tryd.prog 9 TypeDesc.string := ⟨Tryd.underlying9⟩
instance : Inf Tryd.prog 9 1 16 [.string ⟨#[]⟩] := ⟨by kernel_rfl⟩
instance : Und Tryd.prog 20 (TypeDesc.interface #[]) := ⟨Tryd.underlying20⟩
instance : Inf Tryd.prog 20 1 16 [.nilIface] := ⟨by kernel_rfl⟩
instance : Und Tryd.prog 22 (TypeDesc.slice 5) := ⟨Tryd.underlying22⟩
instance : Inf Tryd.prog 22 1 24 [.slice none 0 0] := ⟨by kernel_rfl⟩
instance : Und Tryd.prog 24 (TypeDesc.slice 57) := ⟨Tryd.underlying24⟩
instance : Inf Tryd.prog 24 1 24 [.slice none 0 0] := ⟨by kernel_rfl⟩
instance : Und Tryd.prog 25 (TypeDesc.tuple #[24, 3, 4]) := ⟨Tryd.underlying25⟩
instance : Und Tryd.prog 43 (TypeDesc.pointer 45) := ⟨Tryd.underlying43⟩
instance : Inf Tryd.prog 43 1 8 [.pointer none] := ⟨by kernel_rfl⟩
instance : Und Tryd.prog 45 (TypeDesc.struct #[{ name := "b", type := 22, offset := 0, embedded := false, tag := "", pkgPath := "pub-orthodrome/spec", byteOffset := 0 }, { name := "extended", type := 4, offset := 1, embedded := false, tag := "", pkgPath := "pub-orthodrome/spec", byteOffset := 24 }, { name := "nan", type := 4, offset := 2, embedded := false, tag := "", pkgPath := "pub-orthodrome/spec", byteOffset := 25 }, { name := "big", type := 4, offset := 3, embedded := false, tag := "", pkgPath := "pub-orthodrome/spec", byteOffset := 26 }, { name := "bad", type := 4, offset := 4, embedded := false, tag := "", pkgPath := "pub-orthodrome/spec", byteOffset := 27 }, { name := "great", type := 4, offset := 5, embedded := false, tag := "", pkgPath := "pub-orthodrome/spec", byteOffset := 28 }]) := ⟨Tryd.underlying45⟩
instance : Inf Tryd.prog 45 6 32 [.slice none 0 0, .bool false, .bool false, .bool false, .bool false, .bool false] := ⟨by kernel_rfl⟩
instance : Und Tryd.prog 47 (TypeDesc.pointer 65) := ⟨Tryd.underlying47⟩
instance : Inf Tryd.prog 47 1 8 [.pointer none] := ⟨by kernel_rfl⟩
instance : Und Tryd.prog 50 (TypeDesc.interface #[("Error", 112)]) := ⟨Tryd.underlying50⟩
instance : Inf Tryd.prog 50 1 16 [.nilIface] := ⟨by kernel_rfl⟩
instance : Und Tryd.prog 51 (TypeDesc.tuple #[24, 50]) := ⟨Tryd.underlying51⟩
instance : Und Tryd.prog 54 (TypeDesc.interface #[("PutUint16", 129), ("PutUint32", 101), ("PutUint64", 108), ("String", 112), ("Uint16", 130), ("Uint32", 104), ("Uint64", 106)]) := ⟨Tryd.underlying54⟩
instance : Inf Tryd.prog 54 1 16 [.nilIface] := ⟨by kernel_rfl⟩
instance : Und Tryd.prog 57 (TypeDesc.float FloatKind.f64) := ⟨Tryd.underlying57⟩
instance : Inf Tryd.prog 57 1 8 [.float .f64 0] := ⟨by kernel_rfl⟩
instance : Und Tryd.prog 58 (TypeDesc.int IntKind.u64) := ⟨Tryd.underlying58⟩
instance : Inf Tryd.prog 58 1 8 [.int .u64 0] := ⟨by kernel_rfl⟩
instance : Und Tryd.prog 63 (TypeDesc.int IntKind.i8) := ⟨Tryd.underlying63⟩
instance : Inf Tryd.prog 63 1 1 [.int .i8 0] := ⟨by kernel_rfl⟩
instance : Und Tryd.prog 65 (TypeDesc.struct #[{ name := "buf", type := 22, offset := 0, embedded := false, tag := "", pkgPath := "bytes", byteOffset := 0 }, { name := "off", type := 3, offset := 1, embedded := false, tag := "", pkgPath := "bytes", byteOffset := 24 }, { name := "lastRead", type := 63, offset := 2, embedded := false, tag := "", pkgPath := "bytes", byteOffset := 32 }]) := ⟨Tryd.underlying65⟩
instance : Inf Tryd.prog 65 3 40 [.slice none 0 0, .int .i64 0, .int .i8 0] := ⟨by kernel_rfl⟩
instance : Und Tryd.prog 76 (TypeDesc.interface #[("Read", 102)]) := ⟨Tryd.underlying76⟩
instance : Inf Tryd.prog 76 1 16 [.nilIface] := ⟨by kernel_rfl⟩
instance : Und Tryd.prog 79 (TypeDesc.struct #[]) := ⟨Tryd.underlying79⟩
instance : Inf Tryd.prog 79 0 0 [] := ⟨by kernel_rfl⟩
instance : Und Tryd.prog 80 (TypeDesc.struct #[]) := ⟨Tryd.underlying80⟩
instance : Inf Tryd.prog 80 0 0 [] := ⟨by kernel_rfl⟩
instance : Und Tryd.prog 92 (TypeDesc.tuple #[3, 50]) := ⟨Tryd.underlying92⟩
instance : Und Tryd.prog 102 (TypeDesc.func #[22] #[3, 50] false) := ⟨Tryd.underlying102⟩
instance : Inf Tryd.prog 102 1 8 [.nilFunc] := ⟨by kernel_rfl⟩
instance : Und Tryd.prog 109 (TypeDesc.pointer 132) := ⟨Tryd.underlying109⟩
instance : Inf Tryd.prog 109 1 8 [.pointer none] := ⟨by kernel_rfl⟩
instance : Und Tryd.prog 132 (TypeDesc.struct #[{ name := "s", type := 9, offset := 0, embedded := false, tag := "", pkgPath := "errors", byteOffset := 0 }]) := ⟨Tryd.underlying132⟩
instance : Inf Tryd.prog 132 1 16 [.string ⟨#[]⟩] := ⟨by kernel_rfl⟩
instance : FieldAt Tryd.prog 45 0 0 := .mk' Tryd.underlying45 rfl rfl (by kernel_rfl)
instance : FieldAt Tryd.prog 45 1 1 := .mk' Tryd.underlying45 rfl rfl (by kernel_rfl)
instance : FieldAt Tryd.prog 45 2 2 := .mk' Tryd.underlying45 rfl rfl (by kernel_rfl)
instance : FieldAt Tryd.prog 45 3 3 := .mk' Tryd.underlying45 rfl rfl (by kernel_rfl)
instance : FieldAt Tryd.prog 45 4 4 := .mk' Tryd.underlying45 rfl rfl (by kernel_rfl)
instance : FieldAt Tryd.prog 45 5 5 := .mk' Tryd.underlying45 rfl rfl (by kernel_rfl)
instance : FieldAt Tryd.prog 65 0 0 := .mk' Tryd.underlying65 rfl rfl (by kernel_rfl)
instance : FieldAt Tryd.prog 65 1 1 := .mk' Tryd.underlying65 rfl rfl (by kernel_rfl)
instance : FieldAt Tryd.prog 65 2 2 := .mk' Tryd.underlying65 rfl rfl (by kernel_rfl)
instance : FieldAt Tryd.prog 132 0 0 := .mk' Tryd.underlying132 rfl rfl (by kernel_rfl)
instance : Places Tryd.prog [{ name := "x", type := 2, offset := 0, embedded := false, tag := "", pkgPath := "runtime", byteOffset := 0 }, { name := "y", type := 3, offset := 1, embedded := false, tag := "", pkgPath := "runtime", byteOffset := 8 }, { name := "signed", type := 4, offset := 2, embedded := false, tag := "", pkgPath := "runtime", byteOffset := 16 }, { name := "code", type := 6, offset := 3, embedded := false, tag := "", pkgPath := "runtime", byteOffset := 17 }] [(0, 1), (1, 1), (2, 1), (3, 1)] := ⟨by kernel_rfl⟩
instance : Places Tryd.prog [{ name := "msg", type := 9, offset := 0, embedded := false, tag := "", pkgPath := "runtime", byteOffset := 0 }, { name := "addr", type := 12, offset := 1, embedded := false, tag := "", pkgPath := "runtime", byteOffset := 16 }] [(0, 1), (1, 1)] := ⟨by kernel_rfl⟩
instance : Places Tryd.prog [{ name := "typ", type := 17, offset := 0, embedded := false, tag := "", pkgPath := "internal/runtime/maps", byteOffset := 0 }] [(0, 1)] := ⟨by kernel_rfl⟩
instance : Places Tryd.prog [{ name := "Kind", type := 3, offset := 0, embedded := false, tag := "", pkgPath := "", byteOffset := 0 }, { name := "Layout", type := 3, offset := 1, embedded := false, tag := "", pkgPath := "", byteOffset := 8 }, { name := "SRID", type := 3, offset := 2, embedded := false, tag := "", pkgPath := "", byteOffset := 16 }, { name := "Flat", type := 24, offset := 3, embedded := false, tag := "", pkgPath := "", byteOffset := 24 }, { name := "Ends", type := 29, offset := 4, embedded := false, tag := "", pkgPath := "", byteOffset := 48 }, { name := "Endss", type := 30, offset := 5, embedded := false, tag := "", pkgPath := "", byteOffset := 72 }, { name := "Kids", type := 31, offset := 6, embedded := false, tag := "", pkgPath := "", byteOffset := 96 }] [(0, 1), (1, 1), (2, 1), (3, 1), (4, 1), (5, 1), (6, 1)] := ⟨by kernel_rfl⟩
instance : Places Tryd.prog [{ name := "b", type := 22, offset := 0, embedded := false, tag := "", pkgPath := "pub-orthodrome/spec", byteOffset := 0 }, { name := "extended", type := 4, offset := 1, embedded := false, tag := "", pkgPath := "pub-orthodrome/spec", byteOffset := 24 }, { name := "nan", type := 4, offset := 2, embedded := false, tag := "", pkgPath := "pub-orthodrome/spec", byteOffset := 25 }, { name := "big", type := 4, offset := 3, embedded := false, tag := "", pkgPath := "pub-orthodrome/spec", byteOffset := 26 }, { name := "bad", type := 4, offset := 4, embedded := false, tag := "", pkgPath := "pub-orthodrome/spec", byteOffset := 27 }, { name := "great", type := 4, offset := 5, embedded := false, tag := "", pkgPath := "pub-orthodrome/spec", byteOffset := 28 }] [(0, 1), (1, 1), (2, 1), (3, 1), (4, 1), (5, 1)] := ⟨by kernel_rfl⟩
instance : Places Tryd.prog [{ name := "buf", type := 22, offset := 0, embedded := false, tag := "", pkgPath := "bytes", byteOffset := 0 }, { name := "off", type := 3, offset := 1, embedded := false, tag := "", pkgPath := "bytes", byteOffset := 24 }, { name := "lastRead", type := 63, offset := 2, embedded := false, tag := "", pkgPath := "bytes", byteOffset := 32 }] [(0, 1), (1, 1), (2, 1)] := ⟨by kernel_rfl⟩
instance : Places Tryd.prog [{ name := "b", type := 22, offset := 0, embedded := false, tag := "", pkgPath := "pub-orthodrome/spec", byteOffset := 0 }, { name := "big", type := 4, offset := 1, embedded := false, tag := "", pkgPath := "pub-orthodrome/spec", byteOffset := 24 }, { name := "extended", type := 4, offset := 2, embedded := false, tag := "", pkgPath := "pub-orthodrome/spec", byteOffset := 25 }, { name := "nan", type := 4, offset := 3, embedded := false, tag := "", pkgPath := "pub-orthodrome/spec", byteOffset := 26 }, { name := "bad", type := 4, offset := 4, embedded := false, tag := "", pkgPath := "pub-orthodrome/spec", byteOffset := 27 }] [(0, 1), (1, 1), (2, 1), (3, 1), (4, 1)] := ⟨by kernel_rfl⟩
instance : Places Tryd.prog [] [] := ⟨by kernel_rfl⟩
instance : Places Tryd.prog [{ name := "Level", type := 3, offset := 0, embedded := false, tag := "", pkgPath := "", byteOffset := 0 }, { name := "N", type := 3, offset := 1, embedded := false, tag := "", pkgPath := "", byteOffset := 8 }, { name := "Limit", type := 3, offset := 2, embedded := false, tag := "", pkgPath := "", byteOffset := 16 }] [(0, 1), (1, 1), (2, 1)] := ⟨by kernel_rfl⟩
instance : Places Tryd.prog [{ name := "_interface", type := 17, offset := 0, embedded := false, tag := "", pkgPath := "runtime", byteOffset := 0 }, { name := "concrete", type := 17, offset := 1, embedded := false, tag := "", pkgPath := "runtime", byteOffset := 8 }, { name := "asserted", type := 17, offset := 2, embedded := false, tag := "", pkgPath := "runtime", byteOffset := 16 }, { name := "missingMethod", type := 9, offset := 3, embedded := false, tag := "", pkgPath := "runtime", byteOffset := 24 }] [(0, 1), (1, 1), (2, 1), (3, 1)] := ⟨by kernel_rfl⟩
instance : Places Tryd.prog [{ name := "_", type := 115, offset := 0, embedded := false, tag := "", pkgPath := "runtime", byteOffset := 0 }] [(0, 0)] := ⟨by kernel_rfl⟩
instance : Places Tryd.prog [{ name := "Size_", type := 12, offset := 0, embedded := false, tag := "", pkgPath := "", byteOffset := 0 }, { name := "PtrBytes", type := 12, offset := 1, embedded := false, tag := "", pkgPath := "", byteOffset := 8 }, { name := "Hash", type := 39, offset := 2, embedded := false, tag := "", pkgPath := "", byteOffset := 16 }, { name := "TFlag", type := 118, offset := 3, embedded := false, tag := "", pkgPath := "", byteOffset := 20 }, { name := "Align_", type := 5, offset := 4, embedded := false, tag := "", pkgPath := "", byteOffset := 21 }, { name := "FieldAlign_", type := 5, offset := 5, embedded := false, tag := "", pkgPath := "", byteOffset := 22 }, { name := "Kind_", type := 119, offset := 6, embedded := false, tag := "", pkgPath := "", byteOffset := 23 }, { name := "Equal", type := 120, offset := 7, embedded := false, tag := "", pkgPath := "", byteOffset := 24 }, { name := "GCData", type := 121, offset := 8, embedded := false, tag := "", pkgPath := "", byteOffset := 32 }, { name := "Str", type := 122, offset := 9, embedded := false, tag := "", pkgPath := "", byteOffset := 40 }, { name := "PtrToThis", type := 123, offset := 10, embedded := false, tag := "", pkgPath := "", byteOffset := 44 }] [(0, 1), (1, 1), (2, 1), (3, 1), (4, 1), (5, 1), (6, 1), (7, 1), (8, 1), (9, 1), (10, 1)] := ⟨by kernel_rfl⟩
instance : Places Tryd.prog [{ name := "s", type := 9, offset := 0, embedded := false, tag := "", pkgPath := "errors", byteOffset := 0 }] [(0, 1)] := ⟨by kernel_rfl⟩
instance : Places Tryd.prog [{ name := "msg", type := 9, offset := 0, embedded := false, tag := "", pkgPath := "fmt", byteOffset := 0 }, { name := "err", type := 50, offset := 1, embedded := false, tag := "", pkgPath := "fmt", byteOffset := 16 }] [(0, 1), (1, 1)] := ⟨by kernel_rfl⟩
instance : Places Tryd.prog [{ name := "msg", type := 9, offset := 0, embedded := false, tag := "", pkgPath := "fmt", byteOffset := 0 }, { name := "errs", type := 135, offset := 1, embedded := false, tag := "", pkgPath := "fmt", byteOffset := 16 }] [(0, 1), (1, 1)] := ⟨by kernel_rfl⟩
instance : Enters Tryd.prog 3 := ⟨Tryd.f3, Tryd.func3, rfl, rfl⟩
instance : Enters Tryd.prog 5 := ⟨Tryd.f5, Tryd.func5, rfl, rfl⟩
instance : Enters Tryd.prog 6 := ⟨Tryd.f6, Tryd.func6, rfl, rfl⟩
instance : Enters Tryd.prog 7 := ⟨Tryd.f7, Tryd.func7, rfl, rfl⟩
instance : Enters Tryd.prog 8 := ⟨Tryd.f8, Tryd.func8, rfl, rfl⟩
instance : Enters Tryd.prog 15 := ⟨Tryd.f15, Tryd.func15, rfl, rfl⟩
instance : Enters Tryd.prog 16 := ⟨Tryd.f16, Tryd.func16, rfl, rfl⟩
instance : Enters Tryd.prog 17 := ⟨Tryd.f17, Tryd.func17, rfl, rfl⟩
instance : Enters Tryd.prog 18 := ⟨Tryd.f18, Tryd.func18, rfl, rfl⟩
instance : Enters Tryd.prog 19 := ⟨Tryd.f19, Tryd.func19, rfl, rfl⟩
instance : Enters Tryd.prog 20 := ⟨Tryd.f20, Tryd.func20, rfl, rfl⟩
instance : Enters Tryd.prog 32 := ⟨Tryd.f32, Tryd.func32, rfl, rfl⟩
instance : Enters Tryd.prog 33 := ⟨Tryd.f33, Tryd.func33, rfl, rfl⟩
instance : Enters Tryd.prog 39 := ⟨Tryd.f39, Tryd.func39, rfl, rfl⟩
instance : Enters Tryd.prog 40 := ⟨Tryd.f40, Tryd.func40, rfl, rfl⟩
instance : Enters Tryd.prog 47 := ⟨Tryd.f47, Tryd.func47, rfl, rfl⟩
instance : Enters Tryd.prog 65 := ⟨Tryd.f65, Tryd.func65, rfl, rfl⟩
instance : Enters Tryd.prog 66 := ⟨Tryd.f66, Tryd.func66, rfl, rfl⟩
instance : Enters Tryd.prog 69 := ⟨Tryd.f69, Tryd.func69, rfl, rfl⟩
instance : Enters Tryd.prog 81 := ⟨Tryd.f81, Tryd.func81, rfl, rfl⟩
instance : Enters Tryd.prog 89 := ⟨Tryd.f89, Tryd.func89, rfl, rfl⟩
theorem mixed : Tryd.prog.follows .mixedOrders = true := by kernel_rfl
end Go.Lg

set_option linter.unusedVariables false
set_option linter.unusedSimpArgs false
namespace Go.Lg

/-- The slice v reads as0 ws (elements of one cell each). -/
def Sl (G : Heap) (v : Value) (ws : List Value) : Prop :=
  ∃ a cap, v = .slice a ws.length cap ∧ ws.length ≤ cap ∧ (ws ≠ [] → ∃ k off l T fz, a = some ⟨k, off, none⟩ ∧ (k, Obj.cells ⟨l⟩ T fz) ∈ G ∧ (l.drop off).take ws.length = ws)

theorem Sl.mono {G G' v ws} (h : Sl G v ws) (hG : ∀ e ∈ G, e ∈ G') : Sl G' v ws := by
  obtain ⟨a, cap, h1, h0, h2⟩ := h
  exact ⟨a, cap, h1, h0, fun hn => let ⟨k, off, l, T, fz, h3, h4, h5⟩ := h2 hn; ⟨k, off, l, T, fz, h3, hG _ h4, h5⟩⟩

theorem Sl.at {G v ws} (h : Sl G v ws) {i : Nat} {x : Value} (hx : ws[i]? = some x) :
    ∃ k off l T fz cap, v = .slice (some ⟨k, off, none⟩) ws.length cap ∧ (k, Obj.cells ⟨l⟩ T fz) ∈ G ∧ l[off + i]? = some x ∧ i < ws.length := by
  obtain ⟨a, cap, h1, h0, h2⟩ := h
  have hn : ws ≠ [] := fun e => by rw [e] at hx; cases hx
  obtain ⟨k, off, l, T, fz, h3, h4, h5⟩ := h2 hn
  refine ⟨k, off, l, T, fz, cap, by rw [h1, h3], h4, cut_get h5 hx, ?_⟩
  rcases Nat.lt_or_ge i ws.length with h | h
  · exact h
  · rw [List.getElem?_eq_none h] at hx; cases hx

def fl (x : Nat) : Value := .float .f64 x

/-- A slice of floats; a slice of such slices. -/
def FS (G : Heap) (v : Value) (xs : List Nat) : Prop := Sl G v (xs.map fl)
def All2 {α β : Type} (p : α → β → Prop) : List α → List β → Prop
  | [], [] => True
  | a :: as0, b :: bs => p a b ∧ All2 p as0 bs
  | _, _ => False
def SS (G : Heap) (v : Value) (xss : List (List Nat)) : Prop := ∃ ws, Sl G v ws ∧ All2 (FS G) ws xss

theorem FS.mono {G G' v xs} (h : FS G v xs) (hG : ∀ e ∈ G, e ∈ G') : FS G' v xs := Sl.mono h hG
theorem All2.mono {α β : Type} {p q : α → β → Prop} (hpq : ∀ a b, p a b → q a b) : ∀ {as0 bs}, All2 p as0 bs → All2 q as0 bs := by
  intro as0
  induction as0 with
  | nil => intro bs h; cases bs with
    | nil => trivial
    | cons => exact h.elim
  | cons a as0 ih => intro bs h; cases bs with
    | nil => exact h.elim
    | cons b bs => exact ⟨hpq _ _ h.1, ih h.2⟩
theorem All2.len {α β : Type} {p : α → β → Prop} : ∀ {as0 bs}, All2 p as0 bs → as0.length = bs.length := by
  intro as0
  induction as0 with
  | nil => intro bs h; cases bs with
    | nil => rfl
    | cons => exact h.elim
  | cons a as0 ih => intro bs h; cases bs with
    | nil => exact h.elim
    | cons b bs => simp [ih h.2]
theorem All2.get {α β : Type} {p : α → β → Prop} : ∀ {as0 bs}, All2 p as0 bs → ∀ {i : Nat} {b : β}, bs[i]? = some b → ∃ a, as0[i]? = some a ∧ p a b := by
  intro as0
  induction as0 with
  | nil => intro bs h i b hb; cases bs with
    | nil => cases hb
    | cons => exact h.elim
  | cons a as0 ih => intro bs h i b hb; cases bs with
    | nil => exact h.elim
    | cons c bs => cases i with
      | zero => simp at hb; subst hb; exact ⟨a, rfl, h.1⟩
      | succ i => simpa using ih h.2 (by simpa using hb)
theorem SS.mono {G G' v xs} (h : SS G v xs) (hG : ∀ e ∈ G, e ∈ G') : SS G' v xs :=
  let ⟨ws, h1, h2⟩ := h; ⟨ws, h1.mono hG, h2.mono fun _ _ h => h.mono hG⟩

theorem FS.val {G v xs} (h : FS G v xs) : ∃ a cap, v = .slice a xs.length cap := by
  obtain ⟨a, cap, h1, _⟩ := h
  exact ⟨a, cap, by simpa using h1⟩
theorem FS.at {G v xs} (h : FS G v xs) {i x : Nat} (hx : xs[i]? = some x) :
    ∃ k off l T fz cap, v = .slice (some ⟨k, off, none⟩) xs.length cap ∧ (k, Obj.cells ⟨l⟩ T fz) ∈ G ∧ l[off + i]? = some (.float .f64 x) ∧ i < xs.length := by
  obtain ⟨k, off, l, T, fz, cap, h1, h2, h3, h4⟩ := Sl.at h (i := i) (x := fl x) (by simp [hx])
  exact ⟨k, off, l, T, fz, cap, by simpa using h1, h2, h3, by simpa using h4⟩
theorem SS.val {G v xss} (h : SS G v xss) : ∃ a cap, v = .slice a xss.length cap := by
  obtain ⟨ws, ⟨a, cap, h1, _⟩, h2⟩ := h
  exact ⟨a, cap, by rw [h1, h2.len]⟩
theorem SS.at {G v xss} (h : SS G v xss) {i : Nat} {xs} (hx : xss[i]? = some xs) :
    ∃ k off l T fz cap u, v = .slice (some ⟨k, off, none⟩) xss.length cap ∧ (k, Obj.cells ⟨l⟩ T fz) ∈ G ∧ l[off + i]? = some u ∧ FS G u xs ∧ i < xss.length := by
  obtain ⟨ws, h1, h2⟩ := h
  obtain ⟨u, hu, hf⟩ := h2.get hx
  obtain ⟨k, off, l, T, fz, cap, h3, h4, h5, h6⟩ := h1.at hu
  exact ⟨k, off, l, T, fz, cap, u, by rw [h3, h2.len], h4, h5, hf, by rw [← h2.len]; exact h6⟩

theorem fs_new {G : Heap} {k T fz} (xs : List Nat) (hm : (k, Obj.cells ⟨xs.map fl⟩ T fz) ∈ G) : FS G (.slice (some ⟨k, 0, none⟩) xs.length xs.length) xs :=
  ⟨_, xs.length, by simp, by simp, fun _ => ⟨k, 0, _, T, fz, rfl, hm, by rw [List.drop_zero]; exact List.take_length⟩⟩

theorem ss_one {G : Heap} {k k2 T fz T2 fz2} {n : Nat} (xs : List Nat) (hn : xs.length = n) (hm : (k, Obj.cells ⟨[.slice (some ⟨k2, 0, none⟩) n n]⟩ T fz) ∈ G)
    (hm2 : (k2, Obj.cells ⟨xs.map fl⟩ T2 fz2) ∈ G) : SS G (.slice (some ⟨k, 0, none⟩) 1 1) [xs] := by
  subst hn
  exact ⟨[.slice (some ⟨k2, 0, none⟩) xs.length xs.length], ⟨_, 1, rfl, by simp, fun _ => ⟨k, 0, _, T, fz, rfl, hm, rfl⟩⟩, fs_new xs hm2, trivial⟩

theorem wrap_in {n : Int} (h0 : -9223372036854775808 ≤ n) (h1 : n < 9223372036854775808) : IntKind.i64.wrap n = n := by
  have key : IntKind.i64.wrap n = if n % 18446744073709551616 ≥ 9223372036854775808 then n % 18446744073709551616 - 18446744073709551616 else n % 18446744073709551616 := by
    simp [IntKind.wrap, IntKind.signed, IntKind.bits]
  rw [key]
  split <;> omega

theorem wrap_nat {j : Nat} (h : j < 9223372036854775807) : IntKind.i64.wrap ((j : Int) + 1) = ((j + 1 : Nat) : Int) := by
  rw [wrap_in (by omega) (by omega)]; omega

/-- A counter's next value. -/
theorem next_nat {j : Nat} (h : j < 9223372036854775807) : some (Value.int .i64 (IntKind.i64.wrap ((j : Int) + 1))) = some (Value.int .i64 ((j + 1 : Nat) : Int)) := by
  rw [wrap_nat h]

theorem lss_nat {j n : Nat} : icmp .lss (j : Int) (n : Int) = decide (j < n) := by
  simp [icmp]

end Go.Lg

set_option linter.unusedVariables false
set_option linter.unusedSimpArgs false
namespace Go.Lg
open Go.ChangeShapes Go.WideShapes Go.RowKit Go.Deep

/-- All blocks of a world. -/
def all (W : World) : Heap := W.heap.toList.zipIdx.map fun x => (x.2, x.1)

theorem mem_all {W : World} {k : Nat} {o : Obj} : (k, o) ∈ all W ↔ W.heap[k]? = some o := by
  unfold all
  simp only [List.mem_map, Prod.mk.injEq, Prod.exists, List.mem_zipIdx_iff_getElem?]
  constructor
  · rintro ⟨a, b, h, rfl, rfl⟩; simpa using h
  · intro h; exact ⟨o, k, by simpa using h, rfl, rfl⟩

theorem sees_all (W : World) : Sees W (all W) W := by
  refine ⟨rfl, rfl, rfl, ?_, fun k o h => mem_all.1 h⟩
  unfold all
  rw [List.map_map]
  have : (Prod.fst ∘ fun (x : Obj × Nat) => (x.2, x.1)) = Prod.snd := by funext x; rfl
  rw [this, List.zipIdx_map_snd]
  exact List.nodup_range' ..

theorem Sees.below {W w : World} (h : Sees W (all W) w) : Below W.heap.size W w := by
  have hb : ∀ k, k < W.heap.size → w.heap[k]? = W.heap[k]? := fun k hk => by
    rw [h.mem k W.heap[k] (mem_all.2 (Array.getElem?_eq_getElem hk)), Array.getElem?_eq_getElem hk]
  refine ⟨h.os, h.tape, h.output, ?_, hb⟩
  rcases Nat.eq_zero_or_pos W.heap.size with h0 | h0
  · omega
  · have := hb (W.heap.size - 1) (by omega)
    rw [show W.heap[W.heap.size - 1]? = some W.heap[W.heap.size - 1] from Array.getElem?_eq_getElem (by omega)] at this
    have hlt : W.heap.size - 1 < w.heap.size := by
      rcases Nat.lt_or_ge (W.heap.size - 1) w.heap.size with h | h
      · exact h
      · rw [Array.getElem?_eq_none h] at this; cases this
    omega

/-- A call's contract, as0 the claim asks it. -/
theorem calls_of_does {P : Program} {f : FuncId} [Enters P f] {args : List Value} {W w : World} {H : Heap} {K : Value → Heap → Prop} (h : Does P f args H K) (hs : Sees W H w) :
    Calls P f ⟨args⟩ w (RetK W K) := by
  have := h.run W w hs ⟨some 0, .ready 0, 0, "", #[], none⟩ ⟨#[undef], []⟩ (fun a w' => ∃ v H', a.tmps[0]? = some v ∧ Sees W H' w' ∧ K v H') (fun _ _ _ => False)
    (fun v H' w' hs' hk => ⟨v, H', by simp [Act.put], hs', hk⟩)
  rw [run_callFunc, Oper.upon_enter] at this
  refine this.mono fun e w' he => ?_
  cases e with
  | returned v =>
    obtain ⟨u, H', h1, h2, h3⟩ := he
    simp [Act.put] at h1
    exact ⟨u, H', by rw [h1], h2, h3⟩
  | panicked c => exact he.elim
  | outgrown => exact he.elim fun _ h => h.elim fun _ h => h.elim

section post
variable {H : Type} {enc : TypeId × Value → H} {P : Program}

theorem trodAll_stays (hl : laidOutB P = true) {W W' : World} (hb : Below W.heap.size W W') : ∀ (ts : List TypeId) (vs : List Value) (ds : List (DataW H)) (ps : List MemPlace),
    (∀ t ∈ ts, P.readableRec t = true ∧ t < P.types.size) → DataW.TrodAll enc P W 0 (fun _ => true) true ts vs ds ps → (∀ x ∈ ps, x.block < W.heap.size) →
    DataW.TrodAll enc P W' 0 (fun b => decide (b < W.heap.size)) true ts vs ds ps := by
  intro ts
  induction ts with
  | nil => intro vs ds ps _ h _; cases vs <;> cases ds <;> simp_all [DataW.TrodAll]
  | cons t ts ih =>
    intro vs ds ps ht h hp
    obtain ⟨v, vs', d, ds', p, q, rfl, rfl, rfl, h1, h2⟩ := trodAll_cons h
    obtain ⟨h3, h4⟩ := ht t List.mem_cons_self
    refine ⟨p, q, Below.trod hl h3 h4 h1 hb (fun x hx => hp x (List.mem_append_left _ hx)), ?_, rfl⟩
    exact ih vs' ds' q (fun t h => ht t (List.mem_cons_of_mem _ h)) h2 (fun x hx => hp x (List.mem_append_right _ hx))

/-- What a law's statement asks behind the call. -/
theorem post_law {f : Func} {s : ChangeSpec} {W W' : World} {args : Array Value} {ds gs : List (DataW H)} {before : List MemPlace} {tb : TypeId} (hl : laidOutB P = true)
    (hts : ∀ t ∈ f.params.toList, P.readableRec t = true ∧ t < P.types.size) (hvars : s.vars = []) (hW : DataW.Whole enc P f.params.toList s.vars false W args.toList ds gs before)
    (hs : s.fn H (ds ++ gs) = { results := [.lit (.bool true)], args := ds }) (hr : f.resultTypes = #[tb]) (htb : P.underlying tb = some .bool) (hb : Below W.heap.size W W') :
    s.post enc P f false true false false W args (.bool true) W' := by
  have hlt := hW.lt
  have hW0 := hW
  obtain ⟨p, q, hA, hV, rfl, hfz, hnd⟩ := hW
  rw [hvars] at hV
  obtain ⟨rfl, rfl⟩ := trodVars_none hV
  refine ⟨ds, [], p ++ [], [], p, [], hW0, ?_, ?_, ?_, ?_, fun h => by cases h⟩
  · rw [hs, hr]
    exact trodAll_cons_mk (p := []) (p' := []) (shut_bool htb true) trodAll_mk0
  · rw [hs]
    refine trodAll_stays hl hb _ _ _ _ hts hA fun x hx => ?_
    have := hlt x (List.mem_append_left _ hx)
    simpa using this
  · rw [hs, hvars]; exact rfl
  · exact hb.frame _
end post

/-! ### Readings -/
section rd
variable {H : Type} {enc : TypeId × Value → H} {P : Program} {W : World} {sp : Nat → Bool} {hd : Bool} {r : Reach} {b0 : Nat} {t : TypeId} {v : Value}

theorem okWide_float {k} (ht : P.underlying t = some (.float k)) (h : Value.okWide P W r b0 t v) : ∃ b, v = .float k b := by
  simp only [Value.okWide, ht, Cell.okWide] at h
  cases v <;> simp_all [Cell.ok]

theorem trod_float {n k c x} (ht : P.underlying t = some (.float k)) (h : DataW.trod enc P W 0 sp hd n t [c] = some x) : ∃ b, c = .float k b ∧ (Lit.float k b).wf = true := by
  cases n with
  | zero => simp [DataW.trod] at h
  | succ n =>
    simp only [DataW.trod, ht] at h
    cases c <;> simp at h
    rename_i k' b
    obtain ⟨⟨rfl, hw⟩, _⟩ := h
    exact ⟨b, rfl, hw⟩

theorem trod_int {n k c x} (ht : P.underlying t = some (.int k)) (h : DataW.trod enc P W 0 sp hd n t [c] = some x) : ∃ b, c = .int k b ∧ (Lit.int k b).wf = true := by
  cases n with
  | zero => simp [DataW.trod] at h
  | succ n =>
    simp only [DataW.trod, ht] at h
    cases c <;> simp at h
    rename_i k' b
    obtain ⟨⟨rfl, hw⟩, _⟩ := h
    exact ⟨b, rfl, hw⟩

theorem wf_f64 {b : Nat} (h : (Lit.float .f64 b).wf = true) : b < 2 ^ 64 := by simpa [Lit.wf] using h
theorem wf_i64 {n : Int} (h : (Lit.int .i64 n).wf = true) : -9223372036854775808 ≤ n ∧ n ≤ 9223372036854775807 := by
  simpa [Lit.wf, IntKind.min, IntKind.max, IntKind.signed, IntKind.bits] using h

/-- A slice of one-cell elements. -/
theorem trod_slice {n e c x} (ht : P.underlying t = some (.slice e)) (he : P.cellsOf e = 1) (h : DataW.trod enc P W 0 sp hd n t [c] = some x) :
    ∃ ws, Sl (all W) c ws ∧ ws.length ≤ 9223372036854775807 ∧ ∀ y ∈ ws, ∃ m z, DataW.trod enc P W 0 sp hd m e [y] = some z := by
  cases n with
  | zero => simp [DataW.trod] at h
  | succ n =>
    simp only [DataW.trod, ht] at h
    cases c with
    | slice a len cap =>
      cases a with
      | none =>
        cases len with
        | zero =>
          cases cap with
          | zero => exact ⟨[], ⟨none, 0, rfl, by simp, fun h => (h rfl).elim⟩, by simp, fun y hy => by cases hy⟩
          | succ => simp at h
        | succ => simp at h
      | some a =>
        simp only [he] at h
        split at h
        · rename_i hc
          obtain ⟨_, hlen, hcap⟩ := hc
          rw [Option.bind_eq_some_iff] at h
          obtain ⟨elems, h1, _⟩ := h
          -- each element
          have hget : ∀ i, i < len → ∃ y z, W.cell? (a.add i) = some y ∧ DataW.trod enc P W 0 sp hd n e [y] = some z := by
            intro i hi
            have h2 : ∀ (l : List Nat) (out : List (DataW H × List MemPlace)), l.mapM (fun i => (W.cells? 0 (a.add (i * 1)) 1).bind (DataW.trod enc P W 0 sp hd n e)) = some out →
                ∀ i ∈ l, ∃ z, (W.cells? 0 (a.add (i * 1)) 1).bind (DataW.trod enc P W 0 sp hd n e) = some z := by
              intro l
              induction l with
              | nil => intro out _ i hi; cases hi
              | cons j l ih =>
                intro out ho i hi
                simp only [List.mapM_cons, Option.bind_eq_bind, Option.bind_eq_some_iff] at ho
                obtain ⟨z, hz, out', ho', _⟩ := ho
                cases hi with
                | head => exact ⟨z, by rw [Option.bind_eq_some_iff]; exact hz⟩
                | tail _ hi => exact ih out' ho' i hi
            obtain ⟨z, hz⟩ := h2 _ _ h1 i (List.mem_range.2 hi)
            rw [Option.bind_eq_some_iff] at hz
            obtain ⟨ys, hy, hz⟩ := hz
            simp only [World.cells?, Nat.zero_le, if_true, Nat.mul_one] at hy
            rw [show List.range 1 = [0] from rfl] at hy
            simp only [List.mapM_cons, List.mapM_nil, Option.bind_eq_bind, Option.bind_eq_some_iff, Option.pure_def, Option.some.injEq] at hy
            obtain ⟨y, hy, _, rfl, rfl⟩ := hy
            exact ⟨y, z, by simpa [Addr.add] using hy, hz⟩
          by_cases h0 : len = 0
          · subst h0
            exact ⟨[], ⟨some a, cap, rfl, by simp, fun h => (h rfl).elim⟩, by simp, fun y hy => by cases hy⟩
          · obtain ⟨y0, _, hy0, _⟩ := hget 0 (by omega)
            have hspot : a.spot = none ∧ ∃ cc T fz, W.heap[a.block]? = some (.cells cc T fz) := by
              simp only [Addr.add, if_true, World.cell?] at hy0
              split at hy0
              · rename_i cc T fz hh
                split at hy0
                · cases hy0
                · rename_i hs; exact ⟨by simpa using hs, cc, T, fz, hh⟩
              · cases hy0
            obtain ⟨hs, cc, T, fz, hh⟩ := hspot
            obtain ⟨k, off, spot⟩ := a
            simp only at hs hh
            subst hs
            obtain ⟨l⟩ := cc
            have hl : ∀ i, i < len → ∃ y z, l[off + i]? = some y ∧ DataW.trod enc P W 0 sp hd n e [y] = some z := by
              intro i hi
              obtain ⟨y, z, hy, hz⟩ := hget i hi
              rw [addr_add] at hy
              simp only [World.cell?, hh] at hy
              exact ⟨y, z, by simpa using hy, hz⟩
            have hll : off + len ≤ l.length := by
              obtain ⟨y, _, hy, _⟩ := hl (len - 1) (by omega)
              have := (List.getElem?_eq_some_iff.1 hy).1
              omega
            have hlen2 : ((l.drop off).take len).length = len := by simp; omega
            refine ⟨(l.drop off).take len, ⟨some ⟨k, off, none⟩, cap, by rw [hlen2], by rw [hlen2]; exact hlen, fun _ => ⟨k, off, l, T, fz, rfl, mem_all.2 hh, by rw [hlen2]⟩⟩, ?_, ?_⟩
            · rw [hlen2]; unfold maxLen at hcap; omega
            · intro y hy
              obtain ⟨i, hi⟩ := List.mem_iff_getElem?.1 hy
              rw [List.getElem?_take] at hi
              split at hi
              · rename_i hlt
                obtain ⟨y', z, hy', hz⟩ := hl i hlt
                rw [List.getElem?_drop, hy'] at hi
                cases hi
                exact ⟨n, z, hz⟩
              · cases hi
        · cases h
    | _ => simp at h

theorem all_floats {ws : List Value} (h : ∀ y ∈ ws, ∃ b, y = Value.float .f64 b ∧ b < 2 ^ 64) : ∃ xs : List Nat, ws = xs.map fl ∧ ∀ x ∈ xs, x < 2 ^ 64 := by
  induction ws with
  | nil => exact ⟨[], rfl, fun x hx => by cases hx⟩
  | cons y ws ih =>
    obtain ⟨b, rfl, hb⟩ := h y List.mem_cons_self
    obtain ⟨xs, rfl, hx⟩ := ih fun y hy => h y (List.mem_cons_of_mem _ hy)
    refine ⟨b :: xs, rfl, fun x hm => ?_⟩
    cases hm with
    | head => exact hb
    | tail _ hm => exact hx x hm

theorem trod_floats {n e c x} (ht : P.underlying t = some (.slice e)) (he : P.cellsOf e = 1) (hf : P.underlying e = some (.float .f64)) (h : DataW.trod enc P W 0 sp hd n t [c] = some x) :
    ∃ xs, FS (all W) c xs ∧ xs.length ≤ 9223372036854775807 ∧ ∀ y ∈ xs, y < 2 ^ 64 := by
  obtain ⟨ws, h1, h2, h3⟩ := trod_slice ht he h
  obtain ⟨xs, rfl, h4⟩ := all_floats (ws := ws) fun y hy => by
    obtain ⟨m, z, hz⟩ := h3 y hy
    obtain ⟨b, rfl, hw⟩ := trod_float hf hz
    exact ⟨b, rfl, wf_f64 hw⟩
  exact ⟨xs, h1, by simpa using h2, h4⟩

/-- A pair of floats, by value. -/
theorem open_p2 {f0 f1 d p} (hs : P.underlying t = some (.struct #[f0, f1])) (hone : oneCellFields P #[f0, f1] = true) (hC : P.cellsOf t = 2) (h0 : P.underlying f0.type = some (.float .f64)) (h1 : P.underlying f1.type = some (.float .f64))
    (hv : Value.okWide P W r b0 t v) (h : DataW.Trod enc P W 0 sp hd t v d p) : ∃ x y, v = .agg #[.float .f64 x, .float .f64 y] ∧ x < 2 ^ 64 ∧ y < 2 ^ 64 := by
  obtain ⟨v0, v1, y0, y1, n, rfl, _, _, e0, e1⟩ := Joins.open_agg2 hs hone hC hv h
  obtain ⟨x, rfl, hx⟩ := trod_float h0 e0
  obtain ⟨y, rfl, hy⟩ := trod_float h1 e1
  exact ⟨x, y, rfl, wf_f64 hx, wf_f64 hy⟩

theorem open_p3 {f0 f1 f2 d p} (hs : P.underlying t = some (.struct #[f0, f1, f2])) (hone : oneCellFields P #[f0, f1, f2] = true) (hC : P.cellsOf t = 3) (h0 : P.underlying f0.type = some (.float .f64)) (h1 : P.underlying f1.type = some (.float .f64))
    (h2 : P.underlying f2.type = some (.float .f64)) (hv : Value.okWide P W r b0 t v) (h : DataW.Trod enc P W 0 sp hd t v d p) :
    ∃ x y z, v = .agg #[.float .f64 x, .float .f64 y, .float .f64 z] ∧ x < 2 ^ 64 ∧ y < 2 ^ 64 ∧ z < 2 ^ 64 := by
  obtain ⟨v0, v1, v2, y0, y1, y2, n, rfl, _, _, e0, e1, e2⟩ := Joins.open_agg3 hs hone hC hv h
  obtain ⟨x, rfl, hx⟩ := trod_float h0 e0
  obtain ⟨y, rfl, hy⟩ := trod_float h1 e1
  obtain ⟨z, rfl, hz⟩ := trod_float h2 e2
  exact ⟨x, y, z, rfl, wf_f64 hx, wf_f64 hy, wf_f64 hz⟩

theorem open_float {k d p} (ht : P.underlying t = some (.float k)) (hv : Value.okWide P W r b0 t v) (h : DataW.Trod enc P W 0 sp hd t v d p) : ∃ x, v = .float k x ∧ (Lit.float k x).wf = true := by
  obtain ⟨b, rfl⟩ := okWide_float ht hv
  obtain ⟨n, hn⟩ := h
  obtain ⟨b', hb, hw⟩ := trod_float ht (show DataW.trod enc P W 0 sp hd n t [.float k b] = _ from hn)
  cases hb
  exact ⟨b, rfl, hw⟩

theorem open_floats {e d p} (ht : P.underlying t = some (.slice e)) (he : P.cellsOf e = 1) (hf : P.underlying e = some (.float .f64)) (hv : Value.okWide P W r b0 t v) (h : DataW.Trod enc P W 0 sp hd t v d p) :
    ∃ xs, FS (all W) v xs ∧ xs.length ≤ 9223372036854775807 ∧ ∀ y ∈ xs, y < 2 ^ 64 := by
  obtain ⟨a, len, cap, rfl⟩ := okWide_slice ht hv
  obtain ⟨n, hn⟩ := h
  exact trod_floats ht he hf (show DataW.trod enc P W 0 sp hd n t [.slice a len cap] = _ from hn)
end rd
end Go.Lg

set_option linter.unusedVariables false
set_option linter.unusedSimpArgs false
namespace Go.Lg
open Ieee

/-- Two to a power. -/
def p2 (e : Int) : Rat := (2 : Rat) ^ e
theorem p2_add (a b : Int) : p2 (a + b) = p2 a * p2 b := Rat.zpow_add (by decide) a b
theorem p2_pos (e : Int) : 0 < p2 e := Rat.zpow_pos (by decide)
theorem p2_zero : p2 0 = 1 := Rat.zpow_zero _
theorem p2_nat (n : Nat) : p2 (n : Int) = ((2 ^ n : Nat) : Rat) := by unfold p2; rw [Rat.zpow_natCast, Rat.natCast_pow]; rfl
theorem p2_one : p2 1 = 2 := Rat.zpow_one _
theorem p2_succ (e : Int) : p2 (e + 1) = 2 * p2 e := by rw [p2_add, p2_one]; grind
theorem p2_inv (e : Int) : p2 (-e) * p2 e = 1 := by rw [← p2_add, Int.add_left_neg, p2_zero]
theorem p2_le {a b : Int} (h : a ≤ b) : p2 a ≤ p2 b := by
  have e : p2 b = p2 (b - a) * p2 a := by rw [← p2_add]; congr 1; omega
  have e2 : p2 (b - a) = ((2 ^ (b - a).toNat : Nat) : Rat) := by rw [← p2_nat]; congr 1; omega
  have h1 : (1 : Rat) ≤ ((2 ^ (b - a).toNat : Nat) : Rat) := by
    have : 1 ≤ 2 ^ (b - a).toNat := Nat.one_le_two_pow
    exact_mod_cast this
  have h2 := p2_pos a
  rw [e, e2]
  have := Rat.mul_nonneg (a := ((2 ^ (b - a).toNat : Nat) : Rat) - 1) (b := p2 a) (by grind) (by grind)
  grind
theorem p2_lt {a b : Int} (h : a < b) : p2 a < p2 b := by
  have h1 := p2_le (show a + 1 ≤ b by omega)
  rw [p2_succ] at h1
  have := p2_pos a
  grind
theorem p2_lt_iff {a b : Int} : p2 a < p2 b ↔ a < b := by
  constructor
  · intro h
    rcases Classical.em (a < b) with h' | h'
    · exact h'
    · have := p2_le (show b ≤ a by omega); grind
  · exact p2_lt

/-- Multiplying both sides by something positive. -/
theorem mul_lt {a b c : Rat} (h : a < b) (hc : 0 < c) : a * c < b * c := by
  have := Rat.mul_pos (a := b - a) (b := c) (by grind) hc
  grind
theorem mul_le {a b c : Rat} (h : a ≤ b) (hc : 0 ≤ c) : a * c ≤ b * c := by
  have := Rat.mul_nonneg (a := b - a) (b := c) (by grind) hc
  grind
theorem of_mul_lt {a b c : Rat} (h : a * c < b * c) (hc : 0 < c) : a < b := by
  rcases Classical.em (a < b) with h' | h'
  · exact h'
  · have := mul_le (a := b) (b := a) (c := c) (by grind) (by grind)
    grind
theorem of_mul_le {a b c : Rat} (h : a * c ≤ b * c) (hc : 0 < c) : a ≤ b := by
  rcases Classical.em (a ≤ b) with h' | h'
  · exact h'
  · have := mul_lt (a := b) (b := a) (c := c) (by grind) hc
    grind
theorem of_mul_eq {a b c : Rat} (h : a * c = b * c) (hc : 0 < c) : a = b := by
  have h1 := of_mul_le (a := a) (b := b) (c := c) (by grind) hc
  have h2 := of_mul_le (a := b) (b := a) (c := c) (by grind) hc
  grind

/-! ### Rounding to a whole number -/

theorem cut_spec (neg : Bool) (n drop : Nat) : 2 * (Toward.even.cut neg n drop) * 2 ^ drop ≤ 2 * n + 2 ^ drop ∧ 2 * n ≤ 2 * (Toward.even.cut neg n drop) * 2 ^ drop + 2 ^ drop := by
  unfold Toward.cut
  dsimp only
  by_cases h : drop ≤ n.log2 + 2
  · rw [Nat.min_eq_left h, Nat.one_shiftLeft]
    have hg : 0 < 2 ^ drop := Nat.two_pow_pos _
    generalize 2 ^ drop = g at *
    have hn := Nat.div_add_mod n g
    have hr := Nat.mod_lt n hg
    generalize n / g = q at *
    generalize n % g = r at *
    subst hn
    have e : ∀ b : Bool, 2 * (q + b.toNat) * g = 2 * (g * q) + 2 * (b.toNat * g) := fun b => by
      rw [Nat.mul_add, Nat.add_mul, Nat.mul_assoc, Nat.mul_assoc, Nat.mul_comm q g]
    rw [e]
    by_cases h1 : g < 2 * r
    · simp [h1]; omega
    · by_cases h2 : g = 2 * r ∧ q % 2 = 1
      · simp [h2]; omega
      · have : (decide (g < 2 * r) || g == 2 * r && q % 2 == 1) = false := by simp; exact ⟨by omega, fun a => by omega⟩
        rw [this]; simp; omega
  · rw [Nat.min_eq_right (by omega), Nat.one_shiftLeft]
    have hlt : n < 2 ^ (n.log2 + 1) := Nat.lt_log2_self
    have e : 2 ^ (n.log2 + 2) = 2 * 2 ^ (n.log2 + 1) := by rw [Nat.pow_succ, Nat.mul_comm]
    have hd : 2 ^ (n.log2 + 2) ≤ 2 ^ drop := Nat.pow_le_pow_right (by decide) (by omega)
    have h1 : n / 2 ^ (n.log2 + 2) = 0 := Nat.div_eq_of_lt (by omega)
    have h2 : n % 2 ^ (n.log2 + 2) = n := Nat.mod_eq_of_lt (by omega)
    rw [h1, h2]
    have : (decide (2 ^ (n.log2 + 2) < 2 * n) || 2 ^ (n.log2 + 2) == 2 * n && 0 % 2 == 1) = false := by simp; omega
    rw [this]; simp; omega

/-! ### Words and numbers -/

def sgn (neg : Bool) : Rat := if neg then -1 else 1
theorem sgn_sq (s : Bool) : sgn s * sgn s = 1 := by cases s <;> (unfold sgn; grind)

/-- The word x stands for the number q. -/
structure Fv (x : Nat) (q : Rat) : Prop where
  ex : ∃ s m e, double.read x = .number s m e ∧ q = sgn s * (m : Rat) * p2 e

theorem Fv.uniq {x : Nat} {a b : Rat} (h : Fv x a) (h' : Fv x b) : a = b := by
  obtain ⟨s, m, e, h1, h2⟩ := h
  obtain ⟨s', m', e', h1', h2'⟩ := h'
  rw [h1] at h1'; cases h1'
  rw [h2, h2']

theorem dbl_binade : double.binade = 4503599627370496 := rfl
theorem dbl_inf : double.infRung = 9218868437227405312 := rfl
theorem dbl_sign : double.signWeight = 9223372036854775808 := rfl
theorem dbl_least : double.leastPlace = -1074 := rfl

/-- A rung below infinity, read. -/
theorem read_word (neg : Bool) (E k : Nat) (hk : k ≤ 9007199254740992) (hE : E ≤ 2044) (hn : 1 ≤ E → 4503599627370496 ≤ k) :
    ∃ m e, double.read (double.word neg (E * 4503599627370496 + k)) = .number neg m e ∧ (m : Rat) * p2 e = (k : Rat) * p2 (E - 1074) := by
  have hr : E * 4503599627370496 + k < 9218868437227405312 := by omega
  have h1 : (double.word neg (E * 4503599627370496 + k)) / 9223372036854775808 % 2 = (if neg then 1 else 0) := by
    unfold Format.word; rw [dbl_sign]; cases neg <;> simp <;> omega
  have h2 : (double.word neg (E * 4503599627370496 + k)) % 9223372036854775808 = E * 4503599627370496 + k := by
    unfold Format.word; rw [dbl_sign]; cases neg <;> simp <;> omega
  simp only [Format.read, dbl_sign, dbl_binade, dbl_inf, dbl_least, h1, h2]
  have hneg : ((if neg = true then 1 else 0 : Nat) == 1) = neg := by cases neg <;> rfl
  rw [hneg]
  by_cases c1 : E * 4503599627370496 + k < 4503599627370496
  · rw [if_pos c1]
    obtain rfl : E = 0 := by omega
    exact ⟨_, _, rfl, by simp⟩
  · rw [if_neg c1, if_pos hr]
    refine ⟨_, _, rfl, ?_⟩
    by_cases c2 : k < 9007199254740992
    · by_cases c3 : 4503599627370496 ≤ k
      · have e1 : (E * 4503599627370496 + k) % 4503599627370496 = k - 4503599627370496 := by omega
        have e2 : (E * 4503599627370496 + k) / 4503599627370496 = E + 1 := by omega
        rw [e1, e2]
        have e3 : 4503599627370496 + (k - 4503599627370496) = k := by omega
        rw [e3]
        congr 2
      · omega
    · obtain rfl : k = 9007199254740992 := by omega
      have e1 : (E * 4503599627370496 + 9007199254740992) % 4503599627370496 = 0 := by omega
      have e2 : (E * 4503599627370496 + 9007199254740992) / 4503599627370496 = E + 2 := by omega
      rw [e1, e2]
      have e3 : (-1074 + ((E + 2 - 1 : Nat) : Int)) = ((E : Int) - 1074) + 1 := by omega
      rw [e3, p2_succ]
      have : (((4503599627370496 + 0 : Nat) : Rat)) * 2 = ((9007199254740992 : Nat) : Rat) := by norm_cast
      grind

/-- The place of the last digit that is kept. -/
def lastOf (mag : Nat) (place : Int) : Int := max (place + mag.log2 - 52) (-1074)

theorem log2_bounds {mag : Nat} (h : mag ≠ 0) : p2 (mag.log2 : Int) ≤ (mag : Rat) ∧ (mag : Rat) < p2 ((mag.log2 : Int) + 1) := by
  have h1 : 2 ^ mag.log2 ≤ mag := Nat.log2_self_le h
  have h2 : mag < 2 ^ (mag.log2 + 1) := Nat.lt_log2_self
  refine ⟨by rw [p2_nat]; exact_mod_cast h1, ?_⟩
  have : ((mag.log2 : Int) + 1) = ((mag.log2 + 1 : Nat) : Int) := by omega
  rw [this, p2_nat]; exact_mod_cast h2

/-- What rounding does: the result is a number within half a unit of the last place kept; its digits are a whole number of such units. -/
theorem nearest_spec (neg : Bool) (mag : Nat) (place : Int) (h0 : mag ≠ 0) (hov : (mag : Rat) * p2 place < p2 1023) :
    ∃ (k m : Nat) (e : Int), double.read (double.nearest neg mag place) = .number neg m e ∧ (m : Rat) * p2 e = (k : Rat) * p2 (lastOf mag place) ∧
      2 * ((k : Rat) * p2 (lastOf mag place)) ≤ 2 * ((mag : Rat) * p2 place) + p2 (lastOf mag place) ∧ 2 * ((mag : Rat) * p2 place) ≤ 2 * ((k : Rat) * p2 (lastOf mag place)) + p2 (lastOf mag place) := by
  have hlog := log2_bounds h0
  have key : double.nearest neg mag place = if mag = 0 then double.word neg 0 else double.word neg (min ((lastOf mag place - -1074).toNat * 4503599627370496 +
      Toward.even.cut neg (mag <<< (place - lastOf mag place).toNat) (lastOf mag place - place).toNat) 9218868437227405312) := rfl
  rw [key, if_neg h0]
  clear key
  generalize hL : lastOf mag place = last
  have hlast : last = max (place + mag.log2 - 52) (-1074) := hL.symm
  have hcut := cut_spec neg (mag <<< (place - last).toNat) (last - place).toNat
  generalize Toward.even.cut neg (mag <<< (place - last).toNat) (last - place).toNat = k at *
  rw [Nat.shiftLeft_eq] at hcut
  -- both sides times 2^last / 2^drop
  have hq1 : 2 * ((k : Rat) * p2 last) ≤ 2 * ((mag : Rat) * p2 place) + p2 last ∧ 2 * ((mag : Rat) * p2 place) ≤ 2 * ((k : Rat) * p2 last) + p2 last := by
    have c1 : 2 * (k : Rat) * p2 ((last - place).toNat : Int) ≤ 2 * ((mag : Rat) * p2 ((place - last).toNat : Int)) + p2 ((last - place).toNat : Int) := by
      rw [p2_nat, p2_nat]; exact_mod_cast hcut.1
    have c2 : 2 * ((mag : Rat) * p2 ((place - last).toNat : Int)) ≤ 2 * (k : Rat) * p2 ((last - place).toNat : Int) + p2 ((last - place).toNat : Int) := by
      rw [p2_nat, p2_nat]; exact_mod_cast hcut.2
    have hp := p2_pos (last - ((last - place).toNat : Int))
    have e1 : p2 ((last - place).toNat : Int) * p2 (last - ((last - place).toNat : Int)) = p2 last := by rw [← p2_add]; congr 1; omega
    have e2 : p2 ((place - last).toNat : Int) * p2 (last - ((last - place).toNat : Int)) = p2 place := by rw [← p2_add]; congr 1; omega
    have d1 := mul_le c1 (Rat.le_of_lt hp)
    have d2 := mul_le c2 (Rat.le_of_lt hp)
    generalize p2 ((last - place).toNat : Int) = A at *
    generalize p2 ((place - last).toNat : Int) = B at *
    generalize p2 (last - ((last - place).toNat : Int)) = C at *
    have r1 : 2 * (k : Rat) * A * C = 2 * ((k : Rat) * p2 last) := by rw [← e1]; grind
    have r2 : (2 * ((mag : Rat) * B) + A) * C = 2 * ((mag : Rat) * p2 place) + p2 last := by rw [← e1, ← e2]; grind
    have r3 : 2 * ((mag : Rat) * B) * C = 2 * ((mag : Rat) * p2 place) := by rw [← e2]; grind
    have r4 : (2 * (k : Rat) * A + A) * C = 2 * ((k : Rat) * p2 last) + p2 last := by rw [← e1]; grind
    rw [r1, r2] at d1
    rw [r3, r4] at d2
    exact ⟨d1, d2⟩
  have hp := p2_pos last
  have hpp := p2_pos place
  -- k is at most 2^53
  have hvlt : (mag : Rat) * p2 place < p2 (last + 53) := by
    have h1 := mul_lt hlog.2 hpp
    rw [← p2_add] at h1
    have := p2_le (show (mag.log2 : Int) + 1 + place ≤ last + 53 by omega)
    grind
  have hk : k ≤ 9007199254740992 := by
    have h53 : p2 (last + 53) = 9007199254740992 * p2 last := by
      rw [p2_add]; have : p2 53 = 9007199254740992 := by rw [show (53 : Int) = ((53 : Nat) : Int) from rfl, p2_nat]; norm_cast
      rw [this]; grind
    have : (k : Rat) * p2 last < (9007199254740993 : Rat) * p2 last := by grind
    have := of_mul_lt this hp
    have : k < 9007199254740993 := by exact_mod_cast this
    omega
  have hlow : -1074 < last → 4503599627370496 ≤ k := by
    intro hlt
    have hle : p2 (last + 52) ≤ (mag : Rat) * p2 place := by
      have h1 := mul_le hlog.1 (Rat.le_of_lt hpp)
      rw [← p2_add] at h1
      have := p2_le (show last + 52 ≤ (mag.log2 : Int) + place by omega)
      grind
    have h52 : p2 (last + 52) = 4503599627370496 * p2 last := by
      rw [p2_add]; have : p2 52 = 4503599627370496 := by rw [show (52 : Int) = ((52 : Nat) : Int) from rfl, p2_nat]; norm_cast
      rw [this]; grind
    have : (4503599627370495 : Rat) * p2 last < (k : Rat) * p2 last := by grind
    have := of_mul_lt this hp
    have : 4503599627370495 < k := by exact_mod_cast this
    omega
  have hlast2 : last ≤ 970 := by
    have h1 := mul_le hlog.1 (Rat.le_of_lt hpp)
    rw [← p2_add] at h1
    have : p2 ((mag.log2 : Int) + place) < p2 1023 := by grind
    have := p2_lt_iff.1 this
    omega
  have hE : ((last - -1074).toNat : Int) = last + 1074 := by omega
  have hmin : min ((last - -1074).toNat * 4503599627370496 + k) 9218868437227405312 = (last - -1074).toNat * 4503599627370496 + k := by omega
  rw [hmin]
  obtain ⟨m, e, hr, hv⟩ := read_word neg (last - -1074).toNat k hk (by omega) (fun h => hlow (by omega))
  refine ⟨k, m, e, hr, ?_, hq1⟩
  rw [hv]; congr 2; omega
end Go.Lg

set_option linter.unusedVariables false
set_option linter.unusedSimpArgs false
namespace Go.Lg
open Ieee

/-- c is q, rounded. -/
def Rnd (q c : Rat) : Prop := ∃ (last k : Int), -1074 ≤ last ∧ c = (k : Rat) * p2 last ∧ 2 * (c - q) ≤ p2 last ∧ 2 * (q - c) ≤ p2 last ∧
  (last = -1074 ∨ p2 (last + 52) ≤ q ∨ p2 (last + 52) ≤ -q) ∧ q < p2 (last + 53) ∧ -q < p2 (last + 53)

/-- A number with at most 53 digits. -/
def Rep (q : Rat) : Prop := ∃ (j t : Int), q = (j : Rat) * p2 t ∧ -1074 ≤ t ∧ -9007199254740992 ≤ j ∧ j ≤ 9007199254740992

theorem p2_toNat {e : Int} (h : 0 ≤ e) : p2 e = ((2 ^ e.toNat : Nat) : Rat) := by
  rw [← p2_nat]; congr 1; omega

/-- Two whole multiples of a unit that are nearer than the unit are one. -/
theorem near_eq {a b : Int} {u : Rat} (hu : 0 < u) (h1 : 2 * ((a : Rat) * u - (b : Rat) * u) ≤ u) (h2 : 2 * ((b : Rat) * u - (a : Rat) * u) ≤ u) : (a : Rat) * u = (b : Rat) * u := by
  have e1 : 2 * ((a : Rat) - b) * u ≤ 1 * u := by grind
  have e2 : 2 * ((b : Rat) - a) * u ≤ 1 * u := by grind
  have f1 := of_mul_le e1 hu
  have f2 := of_mul_le e2 hu
  have g1 : 2 * (a - b) ≤ 1 := by exact_mod_cast f1
  have g2 : 2 * (b - a) ≤ 1 := by exact_mod_cast f2
  have : a = b := by omega
  rw [this]

/-- A representable number is a whole multiple of the unit that rounding keeps. -/
theorem rep_unit {q : Rat} {j t last : Int} (hq : q = (j : Rat) * p2 t) (hlo : -9007199254740992 ≤ j) (hhi : j ≤ 9007199254740992) (ht : -1074 ≤ t)
    (hlast : last = -1074 ∨ p2 (last + 52) ≤ q ∨ p2 (last + 52) ≤ -q) : ∃ b : Int, q = (b : Rat) * p2 last := by
  by_cases h : last ≤ t
  · refine ⟨j * 2 ^ (t - last).toNat, ?_⟩
    have e : p2 t = p2 (t - last) * p2 last := by rw [← p2_add]; congr 1; omega
    rw [hq, e, p2_toNat (by omega), Rat.intCast_mul, Rat.intCast_pow, Rat.natCast_pow]
    have : ((2 : Int) : Rat) = ((2 : Nat) : Rat) := by norm_cast
    rw [this]; grind
  · have hl : -1074 < last := by omega
    have hp := p2_pos t
    have hj : p2 (last + 52) ≤ p2 53 * p2 t → last = t + 1 := by
      intro hle
      rw [← p2_add] at hle
      have : ¬ p2 (53 + t) < p2 (last + 52) := by grind
      rw [p2_lt_iff] at this
      omega
    have hjr1 : (j : Rat) ≤ p2 53 := by
      rw [p2_toNat (by decide), ← Rat.intCast_natCast]; exact Rat.intCast_le_intCast.2 hhi
    have hjr2 : -p2 53 ≤ (j : Rat) := by
      have : ((-j : Int) : Rat) ≤ p2 53 := by
        rw [p2_toNat (by decide), ← Rat.intCast_natCast]; exact Rat.intCast_le_intCast.2 (show -j ≤ 9007199254740992 by omega)
      rw [Rat.intCast_neg] at this; grind
    have hb1 := mul_le hjr1 (Rat.le_of_lt hp)
    have hb2 := mul_le hjr2 (Rat.le_of_lt hp)
    have hlt : last = t + 1 := by
      rcases hlast with h1 | h1 | h1
      · omega
      · exact hj (by grind)
      · exact hj (by grind)
    have e52 : p2 (last + 52) = p2 53 * p2 t := by rw [hlt, ← p2_add]; congr 1; omega
    have eb : (((2 ^ 52 : Nat) : Int) : Rat) * p2 last = p2 (last + 52) := by
      rw [Rat.intCast_natCast, p2_add, p2_toNat (e := 52) (by decide)]; exact Rat.mul_comm _ _
    rcases hlast with h1 | h1 | h1
    · omega
    · exact ⟨((2 ^ 52 : Nat) : Int), by rw [eb]; grind⟩
    · exact ⟨-((2 ^ 52 : Nat) : Int), by rw [Rat.intCast_neg, show ∀ u v : Rat, -u * v = -(u * v) by intro u v; grind, eb]; grind⟩

theorem Rnd.exact {q c : Rat} (h : Rnd q c) (hr : Rep q) : c = q := by
  obtain ⟨last, k, _, hc, h1, h2, h3, _⟩ := h
  obtain ⟨j, t, hq, ht, hlo, hhi⟩ := hr
  obtain ⟨b, hb⟩ := rep_unit hq hlo hhi ht h3
  rw [hb, hc]
  rw [hb, hc] at h1 h2
  exact near_eq (p2_pos _) h1 h2

theorem rep_int {n : Int} (h1 : -9007199254740992 ≤ n) (h2 : n ≤ 9007199254740992) : Rep (n : Rat) :=
  ⟨n, 0, by rw [p2_zero]; grind, by decide, h1, h2⟩

theorem Fv.rep {x : Nat} {q : Rat} (h : Fv x q) : Rep q := by
  obtain ⟨s, m, e, hr, hq⟩ := h
  have key : m < 9007199254740992 ∧ -1074 ≤ e := by
    have hread : double.read x = (if x % 9223372036854775808 < 4503599627370496 then
        Datum.number (x / 9223372036854775808 % 2 == 1) (x % 9223372036854775808) (-1074)
      else if x % 9223372036854775808 < 9218868437227405312 then
        Datum.number (x / 9223372036854775808 % 2 == 1) (4503599627370496 + x % 9223372036854775808 % 4503599627370496) (-1074 + ((x % 9223372036854775808 / 4503599627370496 - 1 : Nat) : Int))
      else if x % 9223372036854775808 = 9218868437227405312 then Datum.infinity (x / 9223372036854775808 % 2 == 1)
      else Datum.nan (x / 9223372036854775808 % 2 == 1) (x % 9223372036854775808 - 9218868437227405312)) := rfl
    rw [hread] at hr
    by_cases c1 : x % 9223372036854775808 < 4503599627370496
    · rw [if_pos c1] at hr; cases hr; omega
    · rw [if_neg c1] at hr
      by_cases c2 : x % 9223372036854775808 < 9218868437227405312
      · rw [if_pos c2] at hr; cases hr; omega
      · rw [if_neg c2] at hr
        by_cases c3 : x % 9223372036854775808 = 9218868437227405312
        · rw [if_pos c3] at hr; cases hr
        · rw [if_neg c3] at hr; cases hr
  cases s with
  | true => exact ⟨-(m : Int), e, by rw [hq, Rat.intCast_neg, Rat.intCast_natCast]; unfold sgn; grind, key.2, by omega, by omega⟩
  | false => exact ⟨(m : Int), e, by rw [hq, Rat.intCast_natCast]; unfold sgn; grind, key.2, by omega, by omega⟩

/-- An exact result, written. -/
theorem write_rnd {s : Bool} {m : Nat} {e : Int} (h1 : sgn s * (m : Rat) * p2 e < p2 1023) (h2 : -(sgn s * (m : Rat) * p2 e) < p2 1023) :
    ∃ c, Fv (double.write (.number s m e)) c ∧ Rnd (sgn s * (m : Rat) * p2 e) c := by
  by_cases h0 : m = 0
  · subst h0
    have : double.write (.number s 0 e) = double.word s (0 * 4503599627370496 + 0) := by
      show double.nearest s 0 e = _
      unfold Format.nearest; rw [if_pos rfl]
    obtain ⟨m', e', hr, hv⟩ := read_word s 0 0 (by decide) (by decide) (by intro h; omega)
    have hz : sgn s * ((0 : Nat) : Rat) * p2 e = 0 := by grind
    refine ⟨0, ⟨s, m', e', by rw [this]; exact hr, ?_⟩, -1074, 0, by decide, ?_⟩
    · have : (m' : Rat) * p2 e' = 0 := by rw [hv]; grind
      grind
    · rw [hz]
      have := p2_pos (-1074)
      have := p2_pos (-1074 + 53)
      refine ⟨by grind, by grind, by grind, .inl rfl, by grind, by grind⟩
  · have habs : (m : Rat) * p2 e < p2 1023 := by
      cases s <;> (unfold sgn at h1 h2; grind)
    obtain ⟨k, m', e', hr, hv, hb1, hb2⟩ := nearest_spec s m e h0 habs
    refine ⟨sgn s * (m' : Rat) * p2 e', ⟨s, m', e', hr, rfl⟩, lastOf m e, (if s then -(k : Int) else k), ?_, ?_, ?_, ?_, ?_, ?_⟩
    · unfold lastOf; omega
    · rw [show sgn s * (m' : Rat) * p2 e' = sgn s * ((m' : Rat) * p2 e') by grind, hv]
      cases s <;> simp [sgn, Rat.intCast_neg, Rat.intCast_natCast] <;> grind
    · rw [show sgn s * (m' : Rat) * p2 e' = sgn s * ((m' : Rat) * p2 e') by grind, hv]
      cases s <;> (unfold sgn; grind)
    · rw [show sgn s * (m' : Rat) * p2 e' = sgn s * ((m' : Rat) * p2 e') by grind, hv]
      cases s <;> (unfold sgn; grind)
    · have hlog := log2_bounds h0
      have hpp := p2_pos e
      by_cases hl : lastOf m e = -1074
      · exact .inl hl
      · right
        have h1 := mul_le hlog.1 (Rat.le_of_lt hpp)
        rw [← p2_add] at h1
        have : lastOf m e + 52 = (m.log2 : Int) + e := by unfold lastOf at *; omega
        rw [this]
        cases s <;> (unfold sgn; grind)
    · have hlog := log2_bounds h0
      have hpp := p2_pos e
      have h1 := mul_lt hlog.2 hpp
      rw [← p2_add] at h1
      have := p2_le (show (m.log2 : Int) + 1 + e ≤ lastOf m e + 53 by unfold lastOf; omega)
      have hm : 0 ≤ (m : Rat) * p2 e := Rat.mul_nonneg (by exact_mod_cast Nat.zero_le m) (Rat.le_of_lt hpp)
      have := p2_pos (lastOf m e + 53)
      cases s <;> (unfold sgn; constructor <;> grind)

/-! ### The operations -/

theorem signed_val (s : Bool) (m : Nat) (up : Nat) : ((signed s m up : Int) : Rat) = sgn s * (m : Rat) * p2 (up : Int) := by
  rw [p2_nat]
  unfold signed sgn
  rw [Nat.shiftLeft_eq]
  cases s <;> simp [Rat.intCast_neg, Rat.intCast_natCast, Rat.natCast_mul] <;> grind

theorem sum_val {s t : Bool} {m n : Nat} {i j : Int} : ∃ u k, Datum.sum (.number s m i) (.number t n j) = some (.number u k (min i j)) ∧
    sgn u * (k : Rat) * p2 (min i j) = sgn s * (m : Rat) * p2 i + sgn t * (n : Rat) * p2 j := by
  refine ⟨_, _, rfl, ?_⟩
  have e1 : p2 i = p2 ((i - min i j).toNat : Int) * p2 (min i j) := by rw [← p2_add]; congr 1; omega
  have e2 : p2 j = p2 ((j - min i j).toNat : Int) * p2 (min i j) := by rw [← p2_add]; congr 1; omega
  have v1 := signed_val s m (i - min i j).toNat
  have v2 := signed_val t n (j - min i j).toNat
  generalize signed s m (i - min i j).toNat = A at *
  generalize signed t n (j - min i j).toNat = B at *
  rw [e1, e2]
  have key : sgn (if A + B = 0 then s && t else decide (A + B < 0)) * ((A + B).natAbs : Rat) = ((A + B : Int) : Rat) := by
    by_cases h0 : A + B = 0
    · rw [h0]; simp
    · rw [if_neg h0]
      by_cases hneg : A + B < 0
      · have : (((A + B).natAbs : Int)) = -(A + B) := by omega
        have h2 : ((A + B).natAbs : Rat) = ((-(A + B) : Int) : Rat) := by rw [← this, Rat.intCast_natCast]
        rw [h2, Rat.intCast_neg]; simp [hneg, sgn]; grind
      · have : (((A + B).natAbs : Int)) = (A + B) := by omega
        have h2 : ((A + B).natAbs : Rat) = (((A + B) : Int) : Rat) := by rw [← Rat.intCast_natCast, this]
        rw [h2]; simp [hneg, sgn]
  rw [key, Rat.intCast_add, v1, v2]
  grind

theorem far_add {x y r : Nat} {a b : Rat} (h : FAr .add x y r) (ha : Fv x a) (hb : Fv y b) (h1 : a + b < p2 1023) (h2 : -(a + b) < p2 1023) : ∃ c, Fv r c ∧ Rnd (a + b) c := by
  obtain ⟨s, m, i, hx, rfl⟩ := ha
  obtain ⟨t, n, j, hy, rfl⟩ := hb
  obtain ⟨u, k, hs, hv⟩ := sum_val (s := s) (t := t) (m := m) (n := n) (i := i) (j := j)
  have hf : floatBits .add .f64 x y = some (double.write (.number u k (min i j))) := by
    show ((double.read x).sum (double.read y)).map double.write = _
    rw [hx, hy, hs]; rfl
  have h := h.ok; rw [hf] at h; subst h
  rw [← hv] at h1 h2 ⊢
  exact write_rnd h1 h2

theorem far_sub {x y r : Nat} {a b : Rat} (h : FAr .sub x y r) (ha : Fv x a) (hb : Fv y b) (h1 : a - b < p2 1023) (h2 : -(a - b) < p2 1023) : ∃ c, Fv r c ∧ Rnd (a - b) c := by
  obtain ⟨s, m, i, hx, rfl⟩ := ha
  obtain ⟨t, n, j, hy, rfl⟩ := hb
  obtain ⟨u, k, hs, hv⟩ := sum_val (s := s) (t := !t) (m := m) (n := n) (i := i) (j := j)
  have hf : floatBits .sub .f64 x y = some (double.write (.number u k (min i j))) := by
    show ((double.read x).sum (double.read y).opposite).map double.write = _
    rw [hx, hy]
    show (Datum.sum (.number s m i) (.number (!t) n j)).map double.write = _
    rw [hs]; rfl
  have h := h.ok; rw [hf] at h; subst h
  have : sgn s * (m : Rat) * p2 i - sgn t * (n : Rat) * p2 j = sgn u * (k : Rat) * p2 (min i j) := by
    rw [hv]; cases t <;> (simp only [sgn, Bool.not_true, Bool.not_false]; grind)
  rw [this] at h1 h2 ⊢
  exact write_rnd h1 h2

theorem far_mul {x y r : Nat} {a b : Rat} (h : FAr .mul x y r) (ha : Fv x a) (hb : Fv y b) (h1 : a * b < p2 1023) (h2 : -(a * b) < p2 1023) : ∃ c, Fv r c ∧ Rnd (a * b) c := by
  obtain ⟨s, m, i, hx, rfl⟩ := ha
  obtain ⟨t, n, j, hy, rfl⟩ := hb
  have hf : floatBits .mul .f64 x y = some (double.write (.number (s ^^ t) (m * n) (i + j))) := by
    show ((double.read x).product (double.read y)).map double.write = _
    rw [hx, hy]; rfl
  have h := h.ok; rw [hf] at h; subst h
  have : sgn s * (m : Rat) * p2 i * (sgn t * (n : Rat) * p2 j) = sgn (s ^^ t) * ((m * n : Nat) : Rat) * p2 (i + j) := by
    rw [p2_add, Rat.natCast_mul]
    cases s <;> cases t <;> (simp only [sgn, Bool.xor_true, Bool.xor_false, Bool.not_true, Bool.not_false]; grind)
  rw [this] at h1 h2 ⊢
  exact write_rnd h1 h2

/-! ### Comparisons -/

theorem order_val {x y : Nat} {a b : Rat} (ha : Fv x a) (hb : Fv y b) : double.order x y = some (if a < b then .lt else if a = b then .eq else .gt) := by
  obtain ⟨s, m, i, hx, rfl⟩ := ha
  obtain ⟨t, n, j, hy, rfl⟩ := hb
  have e1 : p2 i = p2 ((i - min i j).toNat : Int) * p2 (min i j) := by rw [← p2_add]; congr 1; omega
  have e2 : p2 j = p2 ((j - min i j).toNat : Int) * p2 (min i j) := by rw [← p2_add]; congr 1; omega
  have v1 := signed_val s m (i - min i j).toNat
  have v2 := signed_val t n (j - min i j).toNat
  have hp := p2_pos (min i j)
  have f1 : sgn s * (m : Rat) * p2 i = ((signed s m (i - min i j).toNat : Int) : Rat) * p2 (min i j) := by rw [v1, e1]; grind
  have f2 : sgn t * (n : Rat) * p2 j = ((signed t n (j - min i j).toNat : Int) : Rat) * p2 (min i j) := by rw [v2, e2]; grind
  have ho : double.order x y = some (compare (signed s m (i - min i j).toNat) (signed t n (j - min i j).toNat)) := by
    show (double.read x).order (double.read y) = _
    rw [hx, hy]; rfl
  rw [ho, f1, f2]
  generalize signed s m (i - min i j).toNat = A at *
  generalize signed t n (j - min i j).toNat = B at *
  congr 1
  rw [show compare A B = compareOfLessAndEq A B from rfl]
  unfold compareOfLessAndEq
  by_cases h : A < B
  · have : (A : Rat) < B := by exact_mod_cast h
    have := mul_lt this hp
    rw [if_pos h, if_pos this]
  · have h' : (B : Rat) ≤ A := by exact_mod_cast (show B ≤ A by omega)
    have := mul_le h' (Rat.le_of_lt hp)
    rw [if_neg h]
    by_cases he : A = B
    · rw [if_pos he, if_neg (by grind), if_pos (by rw [he])]
    · rw [if_neg he, if_neg (by grind), if_neg]
      intro hh
      have := of_mul_eq hh hp
      exact he (by exact_mod_cast this)

section cmp
variable {x y : Nat} {a b : Rat} (ha : Fv x a) (hb : Fv y b)
include ha hb
theorem fcmp_lss : fcmp .lss x y = decide (a < b) := by
  simp only [fcmp_def, fcmp0, order_val ha hb]
  by_cases h : a < b
  · simp [h]
  · by_cases h' : a = b <;> simp [h, h']
theorem fcmp_leq : fcmp .leq x y = decide (a ≤ b) := by
  simp only [fcmp_def, fcmp0, order_val ha hb]
  by_cases h : a < b
  · have : a ≤ b := by grind
    simp [h, this]
  · by_cases h' : a = b
    · have : a ≤ b := by grind
      simp [h']
    · have : ¬ a ≤ b := by grind
      simp [h, h', this]
theorem fcmp_gtr : fcmp .gtr x y = decide (b < a) := by
  simp only [fcmp_def, fcmp0, order_val ha hb]
  by_cases h : a < b
  · have : ¬ b < a := by grind
    simp [h, this]
  · by_cases h' : a = b
    · have : ¬ b < a := by grind
      simp [h']
    · have : b < a := by grind
      simp [h, h', this]
theorem fcmp_geq : fcmp .geq x y = decide (b ≤ a) := by
  simp only [fcmp_def, fcmp0, order_val ha hb]
  by_cases h : a < b
  · have : ¬ b ≤ a := by grind
    simp [h, this]
  · by_cases h' : a = b
    · have : b ≤ a := by grind
      simp [h']
    · have : b ≤ a := by grind
      simp [h, h', this]
theorem fcmp_eql : fcmp .eql x y = decide (a = b) := by
  simp only [fcmp_def, fcmp0, order_val ha hb]
  by_cases h : a < b
  · have : ¬ a = b := by grind
    simp [h, this]
  · by_cases h' : a = b <;> simp [h, h']
theorem fcmp_neq : fcmp .neq x y = decide (a ≠ b) := by
  have := fcmp_eql ha hb
  simp only [fcmp_def, fcmp0] at this ⊢
  simp only [bne, this]
  by_cases h' : a = b <;> simp [h']
end cmp
end Go.Lg

set_option linter.unusedVariables false
set_option linter.unusedSimpArgs false
namespace Go.Lg
open Ieee

theorem fv_of {x s m e} {q : Rat} (h : double.read x = .number s m e) (hq : q = sgn s * (m : Rat) * p2 e) : Fv x q := ⟨s, m, e, h, hq⟩

/-- A whole number, written. -/
theorem write_int {n : Int} (h1 : -9007199254740992 ≤ n) (h2 : n ≤ 9007199254740992) : Fv (double.write (.number (n < 0) n.natAbs 0)) (n : Rat) := by
  have hv : sgn (decide (n < 0)) * (n.natAbs : Rat) * p2 0 = (n : Rat) := by
    rw [p2_zero]
    by_cases h : n < 0
    · have e : (n.natAbs : Rat) = ((-n : Int) : Rat) := by rw [← Rat.intCast_natCast]; congr 1; omega
      rw [e, Rat.intCast_neg]; simp [h, sgn]; grind
    · have e : (n.natAbs : Rat) = (n : Rat) := by rw [← Rat.intCast_natCast]; congr 1; omega
      rw [e]; simp [h, sgn]
  have hb1 : (n : Rat) ≤ p2 53 := by
    rw [p2_toNat (by decide), ← Rat.intCast_natCast]; exact Rat.intCast_le_intCast.2 h2
  have hb2 : ((-n : Int) : Rat) ≤ p2 53 := by
    rw [p2_toNat (by decide), ← Rat.intCast_natCast]; exact Rat.intCast_le_intCast.2 (show -n ≤ 9007199254740992 by omega)
  rw [Rat.intCast_neg] at hb2
  have h53 := p2_lt (show (53 : Int) < 1023 by decide)
  obtain ⟨c, hc, hr⟩ := write_rnd (s := decide (n < 0)) (m := n.natAbs) (e := 0) (by rw [hv]; grind) (by rw [hv]; grind)
  rw [hv] at hr
  rw [hr.exact (rep_int h1 h2)] at hc
  exact hc

/-- Cutting towards zero. -/
theorem integral_zero (s : Bool) (m : Nat) (i : Int) : ∃ k : Nat, (Datum.number s m i).integral .zero = .number s k 0 ∧ (k : Rat) ≤ (m : Rat) * p2 i := by
  refine ⟨_, rfl, ?_⟩
  unfold Toward.cut
  simp only [Bool.false_and, Bool.toNat_false, Nat.add_zero]
  generalize hg : 1 <<< min (-i).toNat ((m <<< i.toNat).log2 + 2) = g
  rw [Nat.one_shiftLeft] at hg
  have hd : m <<< i.toNat / g * g ≤ m <<< i.toNat := Nat.div_mul_le_self _ _
  have hgp : 0 < g := by rw [← hg]; exact Nat.two_pow_pos _
  have key : ((m <<< i.toNat / g : Nat) : Rat) * p2 ((-i).toNat : Int) ≤ (m : Rat) * p2 (i.toNat : Int) := by
    by_cases hc : (-i).toNat ≤ (m <<< i.toNat).log2 + 2
    · rw [Nat.min_eq_left hc] at hg
      rw [p2_nat, p2_nat, hg]
      rw [Nat.shiftLeft_eq] at hd ⊢
      exact_mod_cast hd
    · rw [Nat.min_eq_right (by omega)] at hg
      have : m <<< i.toNat / g = 0 := by
        rw [← hg]; refine Nat.div_eq_of_lt ?_
        have := Nat.lt_log2_self (n := m <<< i.toNat)
        have e : 2 ^ ((m <<< i.toNat).log2 + 2) = 2 * 2 ^ ((m <<< i.toNat).log2 + 1) := by rw [Nat.pow_succ, Nat.mul_comm]
        omega
      rw [this]
      have h1 := Rat.mul_nonneg (a := (m : Rat)) (b := p2 (i.toNat : Int)) (by exact_mod_cast Nat.zero_le m) (Rat.le_of_lt (p2_pos _))
      grind
  have hp := p2_pos (-((-i).toNat : Int))
  have h2 := mul_le key (Rat.le_of_lt hp)
  have e1 : p2 ((-i).toNat : Int) * p2 (-((-i).toNat : Int)) = 1 := by rw [← p2_add, Int.add_right_neg, p2_zero]
  have e2 : p2 (i.toNat : Int) * p2 (-((-i).toNat : Int)) = p2 i := by rw [← p2_add]; congr 1; omega
  have r1 : ((m <<< i.toNat / g : Nat) : Rat) * p2 ((-i).toNat : Int) * p2 (-((-i).toNat : Int)) = ((m <<< i.toNat / g : Nat) : Rat) := by
    rw [Rat.mul_assoc, e1]; grind
  have r2 : (m : Rat) * p2 (i.toNat : Int) * p2 (-((-i).toNat : Int)) = (m : Rat) * p2 i := by rw [Rat.mul_assoc, e2]
  rw [r1, r2] at h2
  exact h2

theorem sgn_mul_nat (s : Bool) (k : Nat) : ∃ n : Int, sgn s * (k : Rat) = (n : Rat) ∧ n.natAbs = k := by
  cases s with
  | true => exact ⟨-(k : Int), by rw [Rat.intCast_neg, Rat.intCast_natCast]; unfold sgn; grind, by omega⟩
  | false => exact ⟨(k : Int), by rw [Rat.intCast_natCast]; unfold sgn; grind, by omega⟩

/-- What the reference's test of a whole number says. -/
theorem whole_of {x most : Nat} {M : Nat} (hM : Fv most (M : Rat)) (hMn : Fv (Op.negFloat .f64 most) (-(M : Rat))) (hMb : M ≤ 9007199254740992)
    (h1 : fcmp .geq x (Op.negFloat .f64 most) = true) (h2 : fcmp .leq x most = true) (h3 : fcmp .eql x (double.write ((double.read x).integral .zero)) = true) :
    ∃ n : Int, Fv x (n : Rat) ∧ -(M : Int) ≤ n ∧ n ≤ M := by
  have hM0 := hM
  obtain ⟨sM, mM, eM, hrM, _⟩ := hM0
  cases hd : double.read x with
  | nan s t => simp [fcmp_def, fcmp0, Format.order, hd, Datum.order] at h2
  | infinity s =>
    obtain ⟨s2, m2, e2, hr2, _⟩ := hMn
    cases s with
    | true => simp [fcmp_def, fcmp0, Format.order, hd, hr2, Datum.order] at h1
    | false => simp [fcmp_def, fcmp0, Format.order, hd, hrM, Datum.order] at h2
  | number s m i =>
    have hx : Fv x (sgn s * (m : Rat) * p2 i) := ⟨s, m, i, hd, rfl⟩
    rw [fcmp_leq hx hM] at h2
    rw [fcmp_geq hx hMn] at h1
    have h1 := of_decide_eq_true h1
    have h2 := of_decide_eq_true h2
    obtain ⟨k, hk, hkb⟩ := integral_zero s m i
    rw [hd, hk] at h3
    obtain ⟨n, hn, hna⟩ := sgn_mul_nat s k
    have hmabs : (m : Rat) * p2 i ≤ (M : Rat) := by cases s <;> (unfold sgn at h1 h2; grind)
    have hkM : k ≤ M := by
      have : (k : Rat) ≤ (M : Rat) := by grind
      exact_mod_cast this
    have hw : Fv (double.write (.number s k 0)) (n : Rat) := by
      have h53 := p2_lt (show (53 : Int) < 1023 by decide)
      have hk53 : (k : Rat) ≤ p2 53 := by
        rw [p2_toNat (by decide)]; exact_mod_cast (show k ≤ 2 ^ 53 by omega)
      have hk0 : (0 : Rat) ≤ (k : Rat) := by exact_mod_cast Nat.zero_le k
      have hv : sgn s * (k : Rat) * p2 0 = (n : Rat) := by rw [p2_zero, hn]; grind
      obtain ⟨c, hc, hr⟩ := write_rnd (s := s) (m := k) (e := 0) (by rw [p2_zero]; cases s <;> (unfold sgn; grind)) (by rw [p2_zero]; cases s <;> (unfold sgn; grind))
      rw [hv] at hr
      rw [hr.exact (rep_int (by omega) (by omega))] at hc
      exact hc
    rw [fcmp_eql hx hw] at h3
    have h3 := of_decide_eq_true h3
    exact ⟨n, by rw [← h3]; exact hx, by omega, by omega⟩

theorem neg_read {x : Nat} {s m e} (h : double.read x = .number s m e) : double.read (Op.negFloat .f64 x) = .number (!s) m e := by
  have hx : Op.negFloat .f64 x = x ^^^ 2 ^ 63 := rfl
  have h1 : (x ^^^ 2 ^ 63) % 9223372036854775808 = x % 9223372036854775808 := by
    have := Nat.xor_mod_two_pow (a := x) (b := 2 ^ 63) (n := 63)
    rw [Nat.mod_self, Nat.xor_zero] at this
    exact this
  have h2 : (x ^^^ 2 ^ 63) / 9223372036854775808 % 2 = 1 - x / 9223372036854775808 % 2 := by
    have e1 : (x ^^^ 2 ^ 63) / 2 ^ 63 = (x / 2 ^ 63) ^^^ 1 := by
      have := Nat.xor_div_two_pow (a := x) (b := 2 ^ 63) (n := 63)
      rw [Nat.div_self (Nat.two_pow_pos 63)] at this
      exact this
    have e2 : ((x / 2 ^ 63) ^^^ 1) % 2 = 1 - x / 2 ^ 63 % 2 := by
      have h3 := Nat.xor_mod_two_pow (a := x / 2 ^ 63) (b := 1) (n := 1)
      have h4 : x / 2 ^ 63 % 2 ^ 1 = 0 ∨ x / 2 ^ 63 % 2 ^ 1 = 1 := by omega
      rw [show (2 : Nat) = 2 ^ 1 from rfl, h3]
      rcases h4 with h4 | h4 <;> rw [h4] <;> rfl
    have e3 : (9223372036854775808 : Nat) = 2 ^ 63 := rfl
    rw [e3, e1, e2]
  have hread : ∀ y, double.read y = (if y % 9223372036854775808 < 4503599627370496 then
      Datum.number (y / 9223372036854775808 % 2 == 1) (y % 9223372036854775808) (-1074)
    else if y % 9223372036854775808 < 9218868437227405312 then
      Datum.number (y / 9223372036854775808 % 2 == 1) (4503599627370496 + y % 9223372036854775808 % 4503599627370496) (-1074 + ((y % 9223372036854775808 / 4503599627370496 - 1 : Nat) : Int))
    else if y % 9223372036854775808 = 9218868437227405312 then Datum.infinity (y / 9223372036854775808 % 2 == 1)
    else Datum.nan (y / 9223372036854775808 % 2 == 1) (y % 9223372036854775808 - 9218868437227405312)) := fun y => rfl
  have hs : (1 - x / 9223372036854775808 % 2 == 1) = !(x / 9223372036854775808 % 2 == 1) := by
    have h4 : x / 9223372036854775808 % 2 = 0 ∨ x / 9223372036854775808 % 2 = 1 := by omega
    rcases h4 with h4 | h4 <;> rw [h4] <;> rfl
  rw [hread] at h
  rw [hread, hx, h1, h2, hs]
  by_cases c1 : x % 9223372036854775808 < 4503599627370496
  · rw [if_pos c1] at h ⊢; cases h; rfl
  · rw [if_neg c1] at h ⊢
    by_cases c2 : x % 9223372036854775808 < 9218868437227405312
    · rw [if_pos c2] at h ⊢; cases h; rfl
    · rw [if_neg c2] at h
      by_cases c3 : x % 9223372036854775808 = 9218868437227405312
      · rw [if_pos c3] at h; cases h
      · rw [if_neg c3] at h; cases h

theorem Fv.neg {x : Nat} {q : Rat} (h : Fv x q) : Fv (Op.negFloat .f64 x) (-q) := by
  obtain ⟨s, m, e, hr, rfl⟩ := h
  exact ⟨!s, m, e, neg_read hr, by cases s <;> (simp only [sgn, Bool.not_true, Bool.not_false]; grind)⟩

/-- 2^20 as0 a float. -/
theorem fv_most : Fv 4697254411347427328 ((1048576 : Nat) : Rat) := by
  refine fv_of (s := false) (m := 4503599627370496) (e := -32) rfl ?_
  have h1 : ((4503599627370496 : Nat) : Rat) = p2 52 := by rw [p2_toNat (by decide)]; norm_cast
  have h2 : ((1048576 : Nat) : Rat) = p2 20 := by rw [p2_toNat (by decide)]; norm_cast
  rw [h1, h2, show sgn false * p2 52 * p2 (-32) = p2 52 * p2 (-32) by unfold sgn; grind, ← p2_add]; rfl

/-- A valid operation has one result, and that equals itself. -/
theorem far_uniq {op : BinOp} {x y r r' : Nat} {a b : Rat} (hx : Fv x a) (hy : Fv y b) (hop : op = .add ∨ op = .sub ∨ op = .mul) (h : FAr op x y r) (h' : FAr op x y r') : r = r' := by
  obtain ⟨s, m, i, hx, rfl⟩ := hx
  obtain ⟨t, n, j, hy, rfl⟩ := hy
  have : ∃ w, floatBits op .f64 x y = some w := by
    rcases hop with rfl | rfl | rfl
    · exact ⟨_, show ((double.read x).sum (double.read y)).map double.write = _ by rw [hx, hy]; rfl⟩
    · exact ⟨_, show ((double.read x).sum (double.read y).opposite).map double.write = _ by rw [hx, hy]; rfl⟩
    · exact ⟨_, show ((double.read x).product (double.read y)).map double.write = _ by rw [hx, hy]; rfl⟩
  obtain ⟨w, hw⟩ := this
  have h := h.ok
  have h' := h'.ok
  rw [hw] at h h'
  rw [h, h']

theorem eql_self {r : Nat} {c : Rat} (h : Fv r c) : fcmp .eql r r = true := by rw [fcmp_eql h h]; simp

/-- Sums, differences and products of whole numbers. -/
theorem int_bound {n : Int} (h1 : -9007199254740992 ≤ n) (h2 : n ≤ 9007199254740992) : (n : Rat) < p2 1023 ∧ -(n : Rat) < p2 1023 := by
  have hb1 : (n : Rat) ≤ p2 53 := by
    rw [p2_toNat (by decide), ← Rat.intCast_natCast]; exact Rat.intCast_le_intCast.2 h2
  have hb2 : ((-n : Int) : Rat) ≤ p2 53 := by
    rw [p2_toNat (by decide), ← Rat.intCast_natCast]; exact Rat.intCast_le_intCast.2 (show -n ≤ 9007199254740992 by omega)
  rw [Rat.intCast_neg] at hb2
  have h53 := p2_lt (show (53 : Int) < 1023 by decide)
  constructor <;> grind

theorem int_add {x y r : Nat} {a b : Int} (ha : Fv x (a : Rat)) (hb : Fv y (b : Rat)) (h1 : -9007199254740992 ≤ a + b) (h2 : a + b ≤ 9007199254740992) (h : FAr .add x y r) : Fv r ((a + b : Int) : Rat) := by
  have hbd := int_bound h1 h2
  have e : ((a + b : Int) : Rat) = (a : Rat) + (b : Rat) := Rat.intCast_add a b
  obtain ⟨c, hc, hr⟩ := far_add h ha hb (by rw [← e]; exact hbd.1) (by rw [← e]; exact hbd.2)
  rw [← e] at hr
  rw [hr.exact (rep_int h1 h2)] at hc
  exact hc
theorem int_sub {x y r : Nat} {a b : Int} (ha : Fv x (a : Rat)) (hb : Fv y (b : Rat)) (h1 : -9007199254740992 ≤ a - b) (h2 : a - b ≤ 9007199254740992) (h : FAr .sub x y r) : Fv r ((a - b : Int) : Rat) := by
  have hbd := int_bound h1 h2
  have e : ((a - b : Int) : Rat) = (a : Rat) - (b : Rat) := Rat.intCast_sub a b
  obtain ⟨c, hc, hr⟩ := far_sub h ha hb (by rw [← e]; exact hbd.1) (by rw [← e]; exact hbd.2)
  rw [← e] at hr
  rw [hr.exact (rep_int h1 h2)] at hc
  exact hc
theorem int_mul {x y r : Nat} {a b : Int} (ha : Fv x (a : Rat)) (hb : Fv y (b : Rat)) (h1 : -9007199254740992 ≤ a * b) (h2 : a * b ≤ 9007199254740992) (h : FAr .mul x y r) : Fv r ((a * b : Int) : Rat) := by
  have hbd := int_bound h1 h2
  have e : ((a * b : Int) : Rat) = (a : Rat) * (b : Rat) := Rat.intCast_mul a b
  obtain ⟨c, hc, hr⟩ := far_mul h ha hb (by rw [← e]; exact hbd.1) (by rw [← e]; exact hbd.2)
  rw [← e] at hr
  rw [hr.exact (rep_int h1 h2)] at hc
  exact hc

/-- What is not equal can't both be the sum of two whole numbers. -/
theorem no_add {x y r r' : Nat} {a b : Int} (hf : fcmp .eql r r' = false) (h : FAr .add x y r) (h' : FAr .add x y r') (ha : Fv x (a : Rat)) (hb : Fv y (b : Rat)) (h1 : -9007199254740992 ≤ a + b) (h2 : a + b ≤ 9007199254740992) : False := by
  have := far_uniq ha hb (.inl rfl) h h'
  subst this
  rw [eql_self (int_add ha hb h1 h2 h)] at hf; cases hf
theorem no_sub {x y r r' : Nat} {a b : Int} (hf : fcmp .eql r r' = false) (h : FAr .sub x y r) (h' : FAr .sub x y r') (ha : Fv x (a : Rat)) (hb : Fv y (b : Rat)) (h1 : -9007199254740992 ≤ a - b) (h2 : a - b ≤ 9007199254740992) : False := by
  have := far_uniq ha hb (.inr (.inl rfl)) h h'
  subst this
  rw [eql_self (int_sub ha hb h1 h2 h)] at hf; cases hf
theorem true_of_no {b : Bool} (h : b = false → False) : b = true := by cases b with
  | true => rfl
  | false => exact (h rfl).elim

theorem mul_bound {a b : Int} {A B : Int} (h1 : -A ≤ a) (h2 : a ≤ A) (h3 : -B ≤ b) (h4 : b ≤ B) : -(A * B) ≤ a * b ∧ a * b ≤ A * B := by
  have hA : 0 ≤ A := by omega
  have hB : 0 ≤ B := by omega
  have k1 := Int.mul_nonneg (show 0 ≤ A - a by omega) (show 0 ≤ B - b by omega)
  have k2 := Int.mul_nonneg (show 0 ≤ A + a by omega) (show 0 ≤ B + b by omega)
  have k3 := Int.mul_nonneg (show 0 ≤ A - a by omega) (show 0 ≤ B + b by omega)
  have k4 := Int.mul_nonneg (show 0 ≤ A + a by omega) (show 0 ≤ B - b by omega)
  constructor <;> grind
end Go.Lg

set_option linter.unusedVariables false
set_option linter.unusedSimpArgs false
namespace Go.Lg
open Ieee

def rmin (a b : Rat) : Rat := if a < b then a else b
def rmax (a b : Rat) : Rat := if a < b then b else a

/-- Not a number, nor infinite: what 'x - x == 0' asks. -/
theorem finite_of {x r : Nat} (h : FAr .sub x x r) (he : fcmp .eql r 0 = true) : ∃ a, Fv x a := by
  cases hx : double.read x with
  | number s m e => exact ⟨_, s, m, e, hx, rfl⟩
  | infinity s =>
    exfalso
    have hn : (double.read r).isNaN = true := by
      have := h.ok
      have e : floatBits .sub .f64 x x = none := by
        cases s <;> simp [floatBits, FloatKind.format, Format.sub, hx, Datum.sum, Datum.opposite]
      rw [e] at this; exact this.1
    cases hr : double.read r with
    | nan s t => simp [fcmp_def, fcmp0, Format.order, hr, Datum.order] at he
    | number => rw [hr] at hn; cases hn
    | infinity => rw [hr] at hn; cases hn
  | nan s t =>
    exfalso
    have hn : (double.read r).isNaN = true := by
      have := h.ok
      cases hb : floatBits .sub .f64 x x with
      | none => rw [hb] at this; exact this.1
      | some q =>
        rw [hb] at this
        exfalso
        simp [floatBits, FloatKind.format, Format.sub, hx, Datum.sum, Datum.opposite] at hb
    cases hr : double.read r with
    | nan s t => simp [fcmp_def, fcmp0, Format.order, hr, Datum.order] at he
    | number => rw [hr] at hn; cases hn
    | infinity => rw [hr] at hn; cases hn

section
variable {P : Program} {W : World} {n : Nat} {ds : List Deferred} {dst : Option Tmp} {ty : TypeId} {pos : String} {af : Array Edge} {g : Option (Nat × Bool)} {E : Env} {G : Heap} {K : Value → Heap → Prop}

theorem op_fmax {x y tx t2 u v} {a b : Rat} (hk : ∀ r, Fv r (rmax a b) → K (.float .f64 r) G) (hx : evalE E x = some (.float .f64 u) := by exact rfl) (hy : evalE E y = some (.float .f64 v) := by exact rfl) (ha : Fv u a := by assumption) (hb : Fv v b := by assumption) :
    OpT P W n ds ⟨dst, .call { callee := .builtin .max, args := #[x, y], argTypes := #[tx, t2] }, ty, pos, af, g⟩ E G K := by
  have ho := order_val ha hb
  have key : ∃ r, Fv r (rmax a b) ∧ ∀ w : World, (Builtin.max_ #[tx, t2] ty #[.float .f64 u, .float .f64 v]).run P w = .ok (.float .f64 r) w := by
    have ho' : FloatKind.f64.format.order u v = double.order u v := rfl
    unfold rmax
    by_cases h1 : a < b
    · rw [if_pos h1] at ho ⊢
      exact ⟨v, hb, fun w => by simp [Builtin.max_, Builtin.max2, ho', ho]⟩
    · rw [if_neg h1] at ho ⊢
      by_cases h2 : a = b
      · subst h2
        rw [if_pos rfl] at ho
        refine ⟨if (FloatKind.f64.decode u).neg then v else u, ?_, fun w => by simp [Builtin.max_, Builtin.max2, ho', ho]⟩
        split
        · exact hb
        · exact ha
      · rw [if_neg h2] at ho
        exact ⟨u, ha, fun w => by simp [Builtin.max_, Builtin.max2, ho', ho]⟩
  obtain ⟨r, hr, hrun⟩ := key
  exact op_of_run (fun a' w ho _ => by
    simp only [execOp, resolve, invoke]
    refine (sem_run_bind P _ _ w _ w rfl).trans ?_
    refine run_v ?_
    simp only [List.map_toArray, List.map_cons, List.map_nil, ho.eval hx, ho.eval hy]
    exact hrun w) (hk r hr)

theorem op_fmin {x y tx t2 u v} {a b : Rat} (hk : ∀ r, Fv r (rmin a b) → K (.float .f64 r) G) (hx : evalE E x = some (.float .f64 u) := by exact rfl) (hy : evalE E y = some (.float .f64 v) := by exact rfl) (ha : Fv u a := by assumption) (hb : Fv v b := by assumption) :
    OpT P W n ds ⟨dst, .call { callee := .builtin .min, args := #[x, y], argTypes := #[tx, t2] }, ty, pos, af, g⟩ E G K := by
  have ho := order_val ha hb
  have key : ∃ r, Fv r (rmin a b) ∧ ∀ w : World, (Builtin.min_ #[tx, t2] ty #[.float .f64 u, .float .f64 v]).run P w = .ok (.float .f64 r) w := by
    have ho' : FloatKind.f64.format.order u v = double.order u v := rfl
    unfold rmin
    by_cases h1 : a < b
    · rw [if_pos h1] at ho ⊢
      exact ⟨u, ha, fun w => by simp [Builtin.min_, Builtin.min2, ho', ho]⟩
    · rw [if_neg h1] at ho ⊢
      by_cases h2 : a = b
      · subst h2
        rw [if_pos rfl] at ho
        refine ⟨if (FloatKind.f64.decode u).neg then u else v, ?_, fun w => by simp [Builtin.min_, Builtin.min2, ho', ho]⟩
        split
        · exact ha
        · exact hb
      · rw [if_neg h2] at ho
        exact ⟨v, hb, fun w => by simp [Builtin.min_, Builtin.min2, ho', ho]⟩
  obtain ⟨r, hr, hrun⟩ := key
  exact op_of_run (fun a' w ho _ => by
    simp only [execOp, resolve, invoke]
    refine (sem_run_bind P _ _ w _ w rfl).trans ?_
    refine run_v ?_
    simp only [List.map_toArray, List.map_cons, List.map_nil, ho.eval hx, ho.eval hy]
    exact hrun w) (hk r hr)
end

/-- math.Max and math.Min of the machine, of two numbers. -/
theorem pick_run {P : Program} {nm : String} {neg : Bool} {win : Ordering} {x y : Nat} {a b : Rat} (ha : Fv x a) (hb : Fv y b) :
    ∃ r, (∀ w : World, (Extern.MathDim.pick nm neg win ⟨[.float .f64 x, .float .f64 y]⟩).run P w = .ok (.float .f64 r) w) ∧ (r = x ∨ r = y) ∧ (a < b → win = .gt → r = y) ∧ (a < b → win = .lt → r = x) ∧ (b < a → win = .gt → r = x) ∧ (b < a → win = .lt → r = y) := by
  have ho := order_val ha hb
  have ho' : (FloatKind.f64.decode x).order (FloatKind.f64.decode y) = double.order x y := rfl
  obtain ⟨s, m, i, hx, rfl⟩ := ha
  obtain ⟨t, l, j, hy, rfl⟩ := hb
  have dx : FloatKind.f64.decode x = .number s m i := hx
  have dy : FloatKind.f64.decode y = .number t l j := hy
  have hz : (FloatKind.f64.decode x).isZero = true → (FloatKind.f64.decode y).isZero = true → sgn s * (m : Rat) * p2 i = 0 ∧ sgn t * (l : Rat) * p2 j = 0 := by
    rw [dx, dy]
    intro h1 h2
    have h1' : m = 0 := by cases m with
      | zero => rfl
      | succ m => simp [Datum.isZero] at h1
    have h2' : l = 0 := by cases l with
      | zero => rfl
      | succ l => simp [Datum.isZero] at h2
    subst h1'; subst h2'
    constructor <;> simp
  refine ⟨_, fun w => rfl, ?_⟩
  have hni : (FloatKind.f64.decode x == Datum.infinity neg || FloatKind.f64.decode y == Datum.infinity neg) = false := by rw [dx, dy]; rfl
  have hnn : ((FloatKind.f64.decode x).isNaN || (FloatKind.f64.decode y).isNaN) = false := by rw [dx, dy]; rfl
  simp only [hni, hnn, Bool.false_eq_true, if_false, ho', ho]
  generalize sgn s * (m : Rat) * p2 i = a at *
  generalize sgn t * (l : Rat) * p2 j = b at *
  by_cases hzz : ((FloatKind.f64.decode x).isZero && (FloatKind.f64.decode y).isZero) = true
  · rw [if_pos hzz]
    simp only [Bool.and_eq_true] at hzz
    obtain ⟨rfl, rfl⟩ := hz hzz.1 hzz.2
    exact ⟨by split <;> simp, fun h => absurd h (by grind), fun h => absurd h (by grind), fun h => absurd h (by grind), fun h => absurd h (by grind)⟩
  · rw [if_neg hzz]
    refine ⟨?_, ?_, ?_, ?_, ?_⟩
    · generalize (if a < b then Ordering.lt else if a = b then Ordering.eq else Ordering.gt) = o
      by_cases h : (some o == some win) = true
      · rw [if_pos h]; exact .inl rfl
      · rw [if_neg h]; exact .inr rfl
    · rintro h rfl; simp [h]
    · rintro h rfl; simp [h]
    · rintro h rfl
      have h1 : ¬ a < b := by grind
      have h2 : ¬ a = b := by grind
      simp [h1, h2]
    · rintro h rfl
      have h1 : ¬ a < b := by grind
      have h2 : ¬ a = b := by grind
      simp [h1, h2]

theorem does_archMax {P : Program} {f : FuncId} {fn : Func} {H : Heap} {x y : Nat} {a b : Rat} (ha : Fv x a) (hb : Fv y b)
    (hf : P.funcs[f]? = some fn) (hn : (fn.name == "runtime.NumGoroutine") = false) (hbd : fn.body.isNone = true) (h1 : (Extern.findNext fn).isNone = true)
    (h2 : Extern.find fn = some (Extern.MathDim.pick "math.archMax" false .gt)) : Does P f [.float .f64 x, .float .f64 y] H fun v H' => (∃ r, v = .float .f64 r ∧ Fv r (rmax a b)) ∧ H' = H := by
  refine does_extern hf hn hbd h1 h2 fun W w hs => ?_
  obtain ⟨r, hr, h0, h3, _, h4, _⟩ := pick_run (P := P) (nm := "math.archMax") (neg := false) (win := .gt) ha hb
  refine ⟨_, w, hr w, hs, ⟨r, rfl, ?_⟩, rfl⟩
  unfold rmax
  by_cases h : a < b
  · rw [if_pos h, h3 h rfl]; exact hb
  · rw [if_neg h]
    by_cases h' : b < a
    · rw [h4 h' rfl]; exact ha
    · have : a = b := by grind
      subst this
      rcases h0 with rfl | rfl
      · exact ha
      · exact hb

theorem does_archMin {P : Program} {f : FuncId} {fn : Func} {H : Heap} {x y : Nat} {a b : Rat} (ha : Fv x a) (hb : Fv y b)
    (hf : P.funcs[f]? = some fn) (hn : (fn.name == "runtime.NumGoroutine") = false) (hbd : fn.body.isNone = true) (h1 : (Extern.findNext fn).isNone = true)
    (h2 : Extern.find fn = some (Extern.MathDim.pick "math.archMin" true .lt)) : Does P f [.float .f64 x, .float .f64 y] H fun v H' => (∃ r, v = .float .f64 r ∧ Fv r (rmin a b)) ∧ H' = H := by
  refine does_extern hf hn hbd h1 h2 fun W w hs => ?_
  obtain ⟨r, hr, h0, _, h3, _, h4⟩ := pick_run (P := P) (nm := "math.archMin") (neg := true) (win := .lt) ha hb
  refine ⟨_, w, hr w, hs, ⟨r, rfl, ?_⟩, rfl⟩
  unfold rmin
  by_cases h : a < b
  · rw [if_pos h, h3 h rfl]; exact ha
  · rw [if_neg h]
    by_cases h' : b < a
    · rw [h4 h' rfl]; exact hb
    · have : a = b := by grind
      subst this
      rcases h0 with rfl | rfl
      · exact ha
      · exact hb

/-! ### Rows that grow -/

/-- A row of one's own: nil, or a block with its capacity and the cells behind the row. -/
abbrev Buf := Option (Nat × Nat × List Value)
def bufV : Buf → Nat → Value
  | none, _ => .slice none 0 0
  | some (k, cap, _), n => .slice (some ⟨k, 0, none⟩) n cap
def bufH (e : TypeId) : Buf → List Value → Heap → Heap
  | none, _, H => H
  | some (k, _, sp), ws, H => (k, .cells ⟨ws ++ sp⟩ e (0, 0)) :: H
def bufOk (s : Nat) : Buf → Nat → List Value → Prop
  | none, n, ws => n = 0 ∧ ws = []
  | some (_, cap, sp), n, ws => n ≤ cap ∧ cap ≤ maxLen ∧ ws.length = n * s ∧ (ws ++ sp).length = cap * s

theorem bufH_sub (e : TypeId) (buf : Buf) (ws : List Value) (H : Heap) : List.Sublist H (bufH e buf ws H) := by
  cases buf with
  | none => exact List.Sublist.refl _
  | some b => exact List.sublist_cons_self _ _

theorem Sees.setRow {W w : World} {k : Nat} {l l' : List Value} {T : TypeId} {fz : Nat × Nat} {H : Heap} (h : Sees W ((k, Obj.cells ⟨l⟩ T fz) :: H) w) :
    Sees W ((k, Obj.cells ⟨l'⟩ T fz) :: H) (w.setRow k ⟨l'⟩) := by
  have hk := h.mem k _ List.mem_cons_self
  refine ⟨h.os, h.tape, h.output, by simpa using h.nodup, ?_⟩
  intro k' o ho
  have hn := h.nodup
  simp only [List.map_cons, List.nodup_cons] at hn
  cases ho with
  | head => exact setRow_heap w k _ _ T fz hk
  | tail _ ho =>
    have : k' ≠ k := fun e => hn.1 (List.mem_map.2 ⟨_, ho, e⟩)
    rw [setRow_other w k k' _ this]
    exact h.mem _ _ (List.mem_cons_of_mem _ ho)

section
variable {P : Program} {W : World} {n : Nat} {ds : List Deferred} {dst : Option Tmp} {ty : TypeId} {pos : String} {af : Array Edge} {g : Option (Nat × Bool)} {E : Env} {G : Heap} {K : Value → Heap → Prop}

theorem tl_sub {ops l Q G'} (hG : List.Sublist G' G) (h : TL P W n ds ops Q l E G') : TL P W n ds ops Q l E G := ⟨fun a w ho hs => h.run a w ho (hs.sub hG)⟩

theorem op_append {t e s b z x y kn offn m c ln Tn fzn H'} (buf : Buf) (l : Nat) (ws news : List Value) [Und P t (.slice e)] [hI : Inf P e s b z] (hok : bufOk s buf l ws)
    (hk : ∀ buf', bufOk s buf' (l + m) (ws ++ news) → K (bufV buf' (l + m)) (bufH e buf' (ws ++ news) H'))
    (hx : evalE E x = some (bufV buf l)) (hy : evalE E y = some (.slice (some ⟨kn, offn, none⟩) m c)) (hsub : List.Sublist (bufH e buf ws H') G) (hn : (kn, Obj.cells ⟨ln⟩ Tn fzn) ∈ G)
    (hnews : (ln.drop offn).take (m * s) = news) (hlen : news.length = m * s) (h1 : ∀ u ∈ news, u.oneCell' = true) (hm : 0 < m) (hbig : l + m ≤ maxLen) (hbytes : (l + m) * b ≤ 140737488355328) (hz0 : z.length = s := by exact rfl) :
    OpT P W n ds ⟨dst, .call { callee := .builtin .append, args := #[x, y], argTypes := #[t, t] }, ty, pos, af, g⟩ E G K := by
  have ht : P.underlying t = some (.slice e) := Und.eq
  obtain ⟨i, zv, hi, rfl, hb, hz, hzc⟩ := hI.get
  subst hb
  have hsmall : l + m ≤ 9223372036854775807 := by simp only [maxLen] at hbig; omega
  have zlen : zv.cells.size = i.size := by rw [hzc]; exact hz0
  refine ⟨fun a w next Q ho hs hnx => ?_⟩
  have hcell : ∀ j u, news[j]? = some u → w.cell? ((⟨kn, offn, none⟩ : Addr).add j) = some u := fun j u hj => by
    rw [addr_add]; exact hs.cell hn (cut_get hnews hj)
  have run : ∃ v' w' buf', (Builtin.append_ #[t, t] ty #[bufV buf l, .slice (some ⟨kn, offn, none⟩) m c]).run P w = .ok v' w' ∧ v' = bufV buf' (l + m) ∧ bufOk i.size buf' (l + m) (ws ++ news) ∧ Sees W (bufH e buf' (ws ++ news) H') w' := by
    have hs2 := hs.sub hsub
    have grown : ∀ old, old < l + m → ws.length = l * i.size → Sees W H' w →
        bufOk i.size (some (w.heap.size, grownCap w (l + m) old e, (Builtin.zeroCells zv.cells (grownCap w (l + m) old e - (l + m))).toList)) (l + m) (ws ++ news) ∧
        Sees W (bufH e (some (w.heap.size, grownCap w (l + m) old e, (Builtin.zeroCells zv.cells (grownCap w (l + m) old e - (l + m))).toList)) (ws ++ news) H') (w.drew.alloc (.cells (ws.toArray ++ news.toArray ++ Builtin.zeroCells zv.cells (grownCap w (l + m) old e - (l + m))) e)) := by
      intro old hold hwl hsH
      have hge := grownCap_ge w (l + m) old e
      refine ⟨⟨hge, grownCap_le_maxLen w (l + m) old e hbig, by rw [List.length_append, hwl, hlen, Nat.add_mul], ?_⟩, ?_⟩
      · rw [List.length_append, List.length_append, hwl, hlen, Array.length_toList, size_zeroCells, zlen, ← Nat.add_mul, ← Nat.add_mul]
        congr 1; omega
      · have := (hsH.drew (w.drawn + 1)).push (.cells (ws.toArray ++ news.toArray ++ Builtin.zeroCells zv.cells (grownCap w (l + m) old e - (l + m))) e)
        have e1 : (ws.toArray ++ news.toArray ++ Builtin.zeroCells zv.cells (grownCap w (l + m) old e - (l + m))) = ⟨(ws ++ news) ++ (Builtin.zeroCells zv.cells (grownCap w (l + m) old e - (l + m))).toList⟩ := by
          apply Array.ext'; simp
        rw [e1] at this ⊢
        exact this
    match buf, hok with
    | none, hok =>
      obtain ⟨rfl, rfl⟩ := hok
      have hr := run_append_nil (P := P) w t ty e i zv ht hi hz ⟨kn, offn, none⟩ m c news hlen hcell hm (by omega) (by have := hbytes; simp only [Nat.zero_add] at this; omega)
      have hg := grown 0 (by omega) (by simp) hs2
      simp only [Nat.zero_add] at hg ⊢
      refine ⟨_, _, some (w.heap.size, _, _), hr, rfl, hg.1, ?_⟩
      have := hg.2
      simpa using this
    | some (k, cap, sp), hok =>
      obtain ⟨h2, h3, h4, h5⟩ := hok
      have hkm := hs2.mem k _ List.mem_cons_self
      by_cases hroom : l + m ≤ cap
      · have hfit : l * i.size + news.length ≤ (⟨ws ++ sp⟩ : Array Value).size := by
          rw [hlen, ← Nat.add_mul]; show _ ≤ (ws ++ sp).length; rw [h5]; exact Nat.mul_le_mul_right _ hroom
        have hr := run_append_room (P := P) w t ty e i ht hi k l cap ⟨ws ++ sp⟩ hkm ⟨kn, offn, none⟩ m c news hlen hcell h1 hroom hfit
        have e1 : (((⟨ws ++ sp⟩ : Array Value).toList.take (l * i.size) ++ news ++ (⟨ws ++ sp⟩ : Array Value).toList.drop (l * i.size + news.length)).toArray) = ⟨(ws ++ news) ++ sp.drop news.length⟩ := by
          apply Array.ext'
          show (ws ++ sp).take (l * i.size) ++ news ++ (ws ++ sp).drop (l * i.size + news.length) = _
          rw [← h4, List.take_left, List.drop_append]
          simp
        rw [e1] at hr
        refine ⟨_, _, some (k, cap, sp.drop news.length), hr, rfl, ⟨hroom, h3, by rw [List.length_append, h4, hlen, Nat.add_mul], ?_⟩, hs2.setRow⟩
        have : (ws ++ sp).length = cap * i.size := h5
        have h6 : (l + m) * i.size ≤ cap * i.size := Nat.mul_le_mul_right _ hroom
        rw [Nat.add_mul] at h6
        simp only [List.length_append, List.length_drop] at this ⊢
        omega
      · have holds : ∀ j u, ws[j]? = some u → w.cell? ((⟨k, 0, none⟩ : Addr).add j) = some u := fun j u hj => by
          rw [addr_add]
          refine hs2.cell List.mem_cons_self ?_
          have hlt := (List.getElem?_eq_some_iff.1 hj).1
          rw [Nat.zero_add, List.getElem?_append_left hlt]; exact hj
        have hr := run_append_grow (P := P) w t ty e i zv ht hi hz ⟨k, 0, none⟩ l cap ws h4 holds ⟨kn, offn, none⟩ m c news hlen hcell (by omega) (by omega) (growslice_fits (by omega) hbytes)
        have hg := grown cap (by omega) h4 (hs2.sub (List.sublist_cons_self _ _))
        exact ⟨_, _, some (w.heap.size, _, _), hr, rfl, hg.1, hg.2⟩
  obtain ⟨v', w', buf', hrun, rfl, hok', hs'⟩ := run
  have he : (execOp a.eval ⟨dst, .call { callee := .builtin .append, args := #[x, y], argTypes := #[t, t] }, ty, pos, af, g⟩).run P w = .ok (.value (bufV buf' (l + m))) w' := by
    simp only [execOp, resolve, invoke]
    refine (sem_run_bind P _ _ w _ w rfl).trans ?_
    refine run_v ?_
    simp only [List.map_toArray, List.map_cons, List.map_nil, ho.eval hx, ho.eval hy]
    exact hrun
  rw [he]
  exact hnx _ _ _ hs' (hk buf' hok')
end
theorem fs_buf {e : TypeId} {buf : Buf} {xs : List Nat} {n : Nat} {H : Heap} (h : bufOk 1 buf n (xs.map fl)) : FS (bufH e buf (xs.map fl) H) (bufV buf n) xs := by
  cases buf with
  | none =>
    obtain ⟨rfl, h2⟩ := h
    exact ⟨none, 0, by rw [h2]; rfl, by rw [h2]; simp, fun hn => (hn h2).elim⟩
  | some b =>
    obtain ⟨k, cap, sp⟩ := b
    obtain ⟨h1, h2, h3, h4⟩ := h
    refine ⟨some ⟨k, 0, none⟩, cap, by simp only [bufV]; congr 1; omega, by omega, fun _ => ⟨k, 0, _, e, (0, 0), rfl, List.mem_cons_self, ?_⟩⟩
    rw [List.drop_zero, List.take_left]

end Go.Lg

set_option linter.unusedVariables false
set_option linter.unusedSimpArgs false
namespace Go.Lg

/-- Entered by a frame that returns, the deferred closure f does nothing. -/
class IdleD (P : Program) (f : FuncId) (m : outParam Nat) : Prop where
  idle : ∀ (cap : List Value) (w : World), cap.length = m → CallsD P f ⟨cap⟩ .returning w fun e u' w' => e = .returned (.tuple #[]) ∧ u' = .returning ∧ w' = w

section
variable {P : Program} {W : World} {n : Nat} {ds : List Deferred} {E : Env} {G G' : Heap} {K : Value → Heap → Prop} {fn : Func} {e : Exit} {ops : List Oper} {Q : Exit → Act → World → Prop}

theorem op_makeFunc {dst ty pos af g} {fv : Fn} {cs : List Operand} {vs : List Value} {Kv : Value → Heap → Prop} (hk : Kv (.func fv #[] ⟨vs⟩) G) (hx : evalAll E cs = some vs := by exact rfl) :
    OpT P W n ds ⟨dst, .makeFunc fv #[] ⟨cs⟩, ty, pos, af, g⟩ E G Kv :=
  op_of_run (fun a w ho _ => by
    have he : cs.map a.eval = vs := by
      clear hk
      induction cs generalizing vs with
      | nil => simp [evalAll] at hx; simp [← hx]
      | cons x xs ih =>
        simp only [evalAll] at hx
        cases h1 : evalE E x with
        | none => simp [h1] at hx
        | some v =>
          cases h2 : evalAll E xs with
          | none => simp [h1, h2] at hx
          | some us =>
            simp [h1, h2] at hx
            subst hx
            simp [ho.eval h1, ih h2]
    simp only [execOp, List.map_toArray, he]
    rfl) hk

theorem tl_defer {x ty pos af at'} {f : FuncId} {cs : List Value} {rest : List Oper} (h : TL P W n (⟨.fn (.func f) ⟨cs⟩, #[]⟩ :: ds) ops Q rest E G) (hx : evalE E x = some (.func (.func f) #[] ⟨cs⟩) := by exact rfl) :
    TL P W n ds ops Q (⟨none, .defer { callee := .value x, args := #[], argTypes := at' }, ty, pos, af, none⟩ :: rest) E G := by
  refine ⟨fun a w ho hs => ?_⟩
  refine wpList_plain rfl fun K hK => ?_
  have hr : (execOp a.eval ⟨none, .defer { callee := .value x, args := #[], argTypes := at' }, ty, pos, af, none⟩).run P w = .ok (.defer ⟨.fn (.func f) ⟨cs⟩, #[]⟩) w := by
    simp only [execOp, resolve, ho.eval hx]
    refine (sem_run_bind P _ _ w ⟨.fn (.func f) ⟨cs⟩, #[]⟩ w ?_).trans rfl
    simp [Deferred.ofValue]
  unfold Oper.wp
  rw [hr]
  exact hK _ _ (h.run _ _ ⟨ho.size, by show _ :: a.defers = _; rw [ho.defers], ho.get⟩ hs)

theorem fn_enter_d {f : FuncId} {c : Code} {args : List Value} {H : Heap} [Enters P f] (n : Nat)
    (hf : P.funcs[f]? = some fn) (h : ∀ W, TC P W n [] c (bodyPostD P fn (RetK W K)) (argEnv 0 args) H) (hb : fn.body = some c := by exact rfl)
    (hn : fn.ntmps = n := by exact rfl) (hsz : args.length ≤ n := by exact Nat.le_of_ble_eq_true rfl) : Does P f args H K := by
  subst hn
  refine ⟨fun W w hs o a next Q hnx => ?_⟩
  rw [run_callFunc, Oper.upon_enter]
  have hc : Calls P f ⟨args⟩ w (RetK W K) := by
    refine calls_of_wp_defers hf hb ((h W).run _ _ ⟨?_, rfl, fun t v hv => ?_⟩ hs)
    · simp; omega
    · obtain ⟨_, h2⟩ := argEnv_get _ _ _ _ hv
      have h3 : args[t]? = some v := by simpa using h2
      have hlt : t < args.length := by
        rcases Nat.lt_or_ge t args.length with h | h
        · exact h
        · rw [List.getElem?_eq_none h] at h3; cases h3
      simp [Array.getElem?_append, hlt]
      simpa [hlt] using h3
  refine hc.mono fun e w' ⟨v, H', he, hs', hk⟩ => ?_
  subst he
  exact hnx v H' w' hs' hk

theorem results_run {rs : List ResultVar} {vs : List Value} {v : Value} (hr : fn.results = ⟨rs⟩) (h : RVs P E G rs vs)
    (hv : v = (if h : (⟨vs⟩ : Array Value).size = 1 then (⟨vs⟩ : Array Value)[0] else .tuple ⟨vs⟩)) {a : Act} {w : World} (ho : Ok n ds E a) (hs : Sees W G w) : (results fn a.tmps).run P w = .ok v w := by
  rw [results_eq, hr]
  have : ∀ (rs : List ResultVar) (vs : List Value), RVs P E G rs vs → (rs.mapM (resSem a.tmps)).run P w = .ok vs w := by
    intro rs
    induction rs with
    | nil => intro vs h; cases h; rfl
    | cons r rs ih =>
      intro vs h
      cases h with
      | cons h1 h2 =>
        simp only [List.mapM_cons]
        refine (sem_run_bind P _ _ w _ w (run_res h1 ho hs)).trans ?_
        refine (sem_run_bind P _ _ w _ w (ih _ h2)).trans rfl
  refine (sem_run_bind P _ _ w ⟨vs⟩ w ?_).trans (by rw [hv]; rfl)
  rw [List.mapM_toArray]
  exact (sem_run_bind P _ _ w vs w (this rs vs h)).trans rfl

theorem ret_door {f : FuncId} {m : Nat} {cs : List Value} {rs : List ResultVar} {vs : List Value} {v : Value} [hI : IdleD P f m] [hE : Enters P f] (hm : cs.length = m) (hr : fn.results = ⟨rs⟩) (h : RVs P E G rs vs)
    (hv : v = (if h : (⟨vs⟩ : Array Value).size = 1 then (⟨vs⟩ : Array Value)[0] else .tuple ⟨vs⟩)) (hG : List.Sublist G' G) (hk : K v G') :
    At W n [⟨.fn (.func f) ⟨cs⟩, #[]⟩] (bodyPostD P fn (RetK W K)) .ret E G := by
  refine ⟨fun a w ho hs => ?_⟩
  show Leaves P fn a.tmps (RetK W K) a.defers .returning w
  rw [ho.defers]
  refine leaves_cons (f := f) (args := ⟨cs⟩) (by simp) ?_ ?_
  · have := run_callFunc (P := P) (f := f) ⟨cs⟩ w
    simpa [invoke] using this
  · refine (hI.idle cs w hm).mono ?_
    rintro e u' w' ⟨rfl, rfl, rfl⟩
    show Leaves P fn a.tmps (RetK W K) [] (settle .returning) w'
    exact ⟨v, results_run hr h hv ho hs, v, G', rfl, hs.sub hG, hk⟩

/-- Two results in variables of one cell each. -/
theorem ret_door2 {f : FuncId} {m : Nat} {cs : List Value} {t T d k off l S fz v t' T' d' k' off' l' S' fz' v'} [Und P T d] [Und P T' d'] [hI : IdleD P f m] [hE : Enters P f] (hr : fn.results = ⟨[.cell t T, .cell t' T']⟩ := by exact rfl) (hcs : cs.length = m := by exact rfl)
    (hd : TypeDesc.isAgg d = false := by exact rfl) (hd' : TypeDesc.isAgg d' = false := by exact rfl) (hx : Env.get E t = some (.pointer (some ⟨k, off, none⟩)) := by exact rfl) (hx' : Env.get E t' = some (.pointer (some ⟨k', off', none⟩)) := by exact rfl)
    (hm : (k, Obj.cells ⟨l⟩ S fz) ∈ G := by first | exact mem0 | exact mem1 | exact mem2 | exact mem3 | exact mem4 | exact mem5 | exact mem6 | exact mem7 | exact mem8 | exact mem9 | assumption | (refine Sub.mem (by assumption) ?_; first | exact mem0 | exact mem1 | exact mem2 | exact mem3 | exact mem4 | exact mem5 | exact mem6 | exact mem7 | exact mem8 | exact mem9 | assumption) | ((repeat (apply List.mem_cons_of_mem)); first | assumption | (refine Sub.mem (by assumption) ?_; assumption))) (hv : l[off]? = some v := by first | exact rfl | assumption) (hm' : (k', Obj.cells ⟨l'⟩ S' fz') ∈ G := by first | exact mem0 | exact mem1 | exact mem2 | exact mem3 | exact mem4 | exact mem5 | exact mem6 | exact mem7 | exact mem8 | exact mem9 | assumption | (refine Sub.mem (by assumption) ?_; first | exact mem0 | exact mem1 | exact mem2 | exact mem3 | exact mem4 | exact mem5 | exact mem6 | exact mem7 | exact mem8 | exact mem9 | assumption) | ((repeat (apply List.mem_cons_of_mem)); first | assumption | (refine Sub.mem (by assumption) ?_; assumption))) (hv' : l'[off']? = some v' := by first | exact rfl | assumption) (hk : K (.tuple #[v, v']) G')
    (hG : List.Sublist G' G := by repeat (first | exact List.Sublist.refl _ | apply List.Sublist.cons_cons | apply List.Sublist.cons)) :
    At W n [⟨.fn (.func f) ⟨cs⟩, #[]⟩] (bodyPostD P fn (RetK W K)) .ret E G :=
  ret_door hcs hr (.cons (.cell hd hx hm hv) (.cons (.cell hd' hx' hm' hv') .nil)) rfl hG hk
end
end Go.Lg

set_option linter.unusedVariables false
set_option linter.unusedSimpArgs false
namespace Go.Lg

/-- The method of a value's dynamic type t, a slice type: function f with the value as0 receiver. -/
class MethSl (P : Program) (t : TypeId) (name : String) (f : outParam FuncId) : Prop where
  eq : ∀ (a : Option Addr) (l c : Nat) (args : Array Value) (w : World), (callMethod (.iface t (.slice a l c)) name args).run P w = .ok (.enter f (#[.slice a l c] ++ args)) w
  no : ∀ (a : Option Addr) (l c : Nat) (w : World), (nilAhead (P.types.size + Made.depth) t (.slice a l c) name).run P w = .ok (some false) w
class Conc (P : Program) (t : TypeId) : Prop where
  eq : P.concrete t = true
class NotIface (P : Program) (t : TypeId) : Prop where
  eq : ∀ (x : Value) (v : Value) (w : World) (xt : TypeId), (Instr.typeAssert (.iface t v) xt t false).run P w = .ok v w

section
variable {P : Program} {W : World} {n : Nat} {ds : List Deferred} {dst : Option Tmp} {ty : TypeId} {pos : String} {af : Array Edge} {g : Option (Nat × Bool)} {E : Env} {G : Heap} {K : Value → Heap → Prop}

theorem op_makeInterface {t x v} [h : Conc P t] (hk : K (.iface t v) G) (hx : evalE E x = some v := by exact rfl) :
    OpT P W n ds ⟨dst, .makeInterface t x, ty, pos, af, g⟩ E G K :=
  op_of_run (fun a w ho _ => by
    simp only [execOp, ho.eval hx]
    exact run_v (run_makeInterface w t v h.eq)) hk

theorem op_typeAssert {t xt x v} [h : NotIface P t] (hk : K v G) (hx : evalE E x = some (.iface t v) := by exact rfl) :
    OpT P W n ds ⟨dst, .typeAssert x xt t false, ty, pos, af, g⟩ E G K :=
  op_of_run (fun a w ho _ => by
    simp only [execOp, ho.eval hx]
    exact run_v (h.eq v v w xt)) hk

theorem op_ptr_nil {t t2 x p e} [h : Und P t (.pointer e)] (hk : K (.bool p.isNone) G) (hx : evalE E x = some (.pointer p) := by exact rfl) :
    OpT P W n ds ⟨dst, .binOp .eql t x (.const (.pointer none)) t2, ty, pos, af, g⟩ E G K :=
  op_of_run (fun a w ho _ => by
    simp only [execOp, ho.eval hx]
    refine run_v ?_
    refine (sem_run_bind P _ _ w () w rfl).trans ?_
    have : P.pointee t = e := by
      have := h.eq
      unfold Program.underlying at this
      simp [Program.pointee, Program.underlying, h.eq, this]
    exact run_eql_pointer_nil w t p (by rw [this]; exact h.eq)) hk

theorem op_nilCheck_ptr {x a} (hk : K (.pointer (some a)) G) (hx : evalE E x = some (.pointer (some a)) := by exact rfl) :
    OpT P W n ds ⟨dst, .nilCheck x, ty, pos, af, g⟩ E G K :=
  op_of_run (fun a w ho _ => by
    simp only [execOp, ho.eval hx]
    rfl) hk

theorem op_makeMeth {nm : String} {x v} (hk : K (.func (.method nm) #[v] #[]) G) (hx : evalE E x = some v := by exact rfl) :
    OpT P W n ds ⟨dst, .makeFunc (.method nm) #[x] #[], ty, pos, af, g⟩ E G K :=
  op_of_run (fun a w ho _ => by
    simp only [execOp, List.map_toArray, List.map_cons, List.map_nil, ho.eval hx]
    rfl) hk

theorem op_nilCheck_meth {x nm t f a l c} [h : MethSl P t nm f] (hk : K (.func (.method nm) #[.iface t (.slice a l c)] #[]) G) (hx : evalE E x = some (.func (.method nm) #[.iface t (.slice a l c)] #[]) := by exact rfl) :
    OpT P W n ds ⟨dst, .nilCheck x, ty, pos, af, g⟩ E G K :=
  op_of_run (fun a' w ho _ => by
    simp only [execOp, ho.eval hx]
    refine (sem_run_bind P _ _ w P w rfl).trans ?_
    refine (sem_run_bind P _ _ w (some false) w (h.no a l c w)).trans ?_
    rfl) hk

theorem op_invoke {x nm t f a l c args vs at'} [h : MethSl P t nm f] [Enters P f] (hd : Does P f (.slice a l c :: vs) G K) (hx : evalE E x = some (.iface t (.slice a l c)) := by exact rfl) (hv : evalAll E args = some vs := by exact rfl) :
    OpT P W n ds ⟨dst, .call { callee := .invoke x nm, args := ⟨args⟩, argTypes := at' }, ty, pos, af, g⟩ E G K := by
  refine ⟨fun a' w next Q ho hs hn => ?_⟩
  have he : args.map a'.eval = vs := by
    clear hd hn
    induction args generalizing vs with
    | nil => simp [evalAll] at hv; simp [← hv]
    | cons x xs ih =>
      simp only [evalAll] at hv
      cases h1 : evalE E x with
      | none => simp [h1] at hv
      | some v =>
        cases h2 : evalAll E xs with
        | none => simp [h1, h2] at hv
        | some us =>
          simp [h1, h2] at hv
          subst hv
          simp [ho.eval h1, ih h2]
  have hr : (execOp a'.eval ⟨dst, .call { callee := .invoke x nm, args := ⟨args⟩, argTypes := at' }, ty, pos, af, g⟩).run P w = (callFunc f ⟨.slice a l c :: vs⟩).run P w := by
    rw [run_callFunc]
    simp only [execOp, resolve, ho.eval hx, List.map_toArray, he]
    refine (sem_run_bind P _ _ w _ w rfl).trans ?_
    have e1 : invoke (.fn (.method nm) #[]) (#[.iface t (.slice a l c)] ++ vs.toArray) = callMethod (.iface t (.slice a l c)) nm ⟨vs⟩ := by
      simp [invoke]
    show (invoke (.fn (.method nm) #[]) (#[.iface t (.slice a l c)] ++ vs.toArray)).run P w = _
    rw [e1, h.eq a l c ⟨vs⟩ w]
    simp
  rw [hr]
  exact hd.run W w hs _ a' next Q hn
end
end Go.Lg

set_option linter.unusedVariables false
set_option linter.unusedSimpArgs false
namespace Go.Lg
class MethP (P : Program) (t : TypeId) (name : String) (f : outParam FuncId) (o : outParam Nat) : Prop where
  eq : ∀ (k off : Nat) (args : Array Value) (w : World), (callMethod (.iface t (.pointer (some ⟨k, off, none⟩))) name args).run P w = .ok (.enter f (#[.pointer (some ⟨k, off + o, none⟩)] ++ args)) w
class AssertYes (P : Program) (t : TypeId) : Prop where
  eq : ∀ (v : Value) (w : World) (xt : TypeId), (Instr.typeAssert (.iface t v) xt t true).run P w = .ok (.tuple #[v, .bool true]) w
class AssertNo (P : Program) (dt t : TypeId) : Prop where
  eq : ∀ (v : Value) (w : World) (xt : TypeId), (Instr.typeAssert (.iface dt v) xt t true).run P w = .ok (.tuple #[.pointer none, .bool false]) w
section
variable {P : Program} {W : World} {n : Nat} {ds : List Deferred} {dst : Option Tmp} {ty : TypeId} {pos : String} {af : Array Edge} {g : Option (Nat × Bool)} {E : Env} {G : Heap} {K : Value → Heap → Prop}
theorem op_invokeP {x nm t f o k off args vs at'} [h : MethP P t nm f o] [Enters P f] (hd : Does P f (.pointer (some ⟨k, off + o, none⟩) :: vs) G K) (hx : evalE E x = some (.iface t (.pointer (some ⟨k, off, none⟩))) := by exact rfl) (hv : evalAll E args = some vs := by exact rfl) :
    OpT P W n ds ⟨dst, .call { callee := .invoke x nm, args := ⟨args⟩, argTypes := at' }, ty, pos, af, g⟩ E G K := by
  refine ⟨fun a' w next Q ho hs hn => ?_⟩
  have he : args.map a'.eval = vs := by
    clear hd hn
    induction args generalizing vs with
    | nil => simp [evalAll] at hv; simp [← hv]
    | cons x xs ih =>
      simp only [evalAll] at hv
      cases h1 : evalE E x with
      | none => simp [h1] at hv
      | some v =>
        cases h2 : evalAll E xs with
        | none => simp [h1, h2] at hv
        | some us =>
          simp [h1, h2] at hv
          subst hv
          simp [ho.eval h1, ih h2]
  have hr : (execOp a'.eval ⟨dst, .call { callee := .invoke x nm, args := ⟨args⟩, argTypes := at' }, ty, pos, af, g⟩).run P w = (callFunc f ⟨.pointer (some ⟨k, off + o, none⟩) :: vs⟩).run P w := by
    rw [run_callFunc]
    simp only [execOp, resolve, ho.eval hx, List.map_toArray, he]
    refine (sem_run_bind P _ _ w _ w rfl).trans ?_
    have e1 : invoke (.fn (.method nm) #[]) (#[.iface t (.pointer (some ⟨k, off, none⟩))] ++ vs.toArray) = callMethod (.iface t (.pointer (some ⟨k, off, none⟩))) nm ⟨vs⟩ := by
      simp [invoke]
    show (invoke (.fn (.method nm) #[]) (#[.iface t (.pointer (some ⟨k, off, none⟩))] ++ vs.toArray)).run P w = _
    rw [e1, h.eq k off ⟨vs⟩ w]
    simp
  rw [hr]
  exact hd.run W w hs _ a' next Q hn
theorem op_assertYes {t xt x v} [h : AssertYes P t] (hk : K (.tuple #[v, .bool true]) G) (hx : evalE E x = some (.iface t v) := by exact rfl) :
    OpT P W n ds ⟨dst, .typeAssert x xt t true, ty, pos, af, g⟩ E G K :=
  op_of_run (fun a w ho _ => by
    simp only [execOp, ho.eval hx]
    exact run_v (h.eq v w xt)) hk
theorem op_assertNo {t dt xt x v} [h : AssertNo P dt t] (hk : K (.tuple #[.pointer none, .bool false]) G) (hx : evalE E x = some (.iface dt v) := by exact rfl) :
    OpT P W n ds ⟨dst, .typeAssert x xt t true, ty, pos, af, g⟩ E G K :=
  op_of_run (fun a w ho _ => by
    simp only [execOp, ho.eval hx]
    exact run_v (h.eq v w xt)) hk
end
end Go.Lg
