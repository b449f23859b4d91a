/-
  A small logic for walking Go code: what is known of a call's slots (an environment) and of memory (a list of blocks). No conditions.
-/
import Derived.Calls
import Derived.Orders
import Derived.Tactics
import Derived.WalkKit
import Derived.KernelRfl
set_option linter.unusedVariables false
set_option linter.unusedSimpArgs false
namespace Go.Lg

abbrev Env := List (Nat × Value)
abbrev Heap := List (Nat × Obj)

def Env.get : Env → Nat → Option Value
  | [], _ => none
  | (k, v) :: E, t => cond (Nat.beq k t) (some v) (Env.get E t)

def evalE (E : Env) : Operand → Option Value
  | .tmp t => Env.get E t
  | .const v => some v
  | .global g => some (.pointer (some ⟨g, 0, none⟩))
  | .func f => some (.func (.func f) #[] #[])

def evalAll (E : Env) : List Operand → Option (List Value)
  | [] => some []
  | x :: xs => match evalE E x with
    | none => none
    | some v => match evalAll E xs with
      | none => none
      | some vs => some (v :: vs)

/-- The frame agrees with the environment. -/
structure Ok (n : Nat) (ds : List Deferred) (E : Env) (a : Act) : Prop where
  size : a.tmps.size = n
  defers : a.defers = ds
  get : ∀ t v, Env.get E t = some v → a.tmps[t]? = some v

/-- The world holds the listed blocks; streams as in W. -/
structure Sees (W : World) (H : Heap) (w : World) : Prop where
  os : w.os = W.os
  tape : w.tape = W.tape
  output : w.output = W.output
  nodup : (H.map (·.1)).Nodup
  mem : ∀ k o, (k, o) ∈ H → w.heap[k]? = some o

theorem Ok.eval {n ds E a x v} (h : Ok n ds E a) (hx : evalE E x = some v) : a.eval x = v := by
  cases x with
  | tmp t =>
    have := h.get t v hx
    show a.tmps.getD t undef = v
    rw [Array.getD_eq_getD_getElem?, this]; rfl
  | const u => simpa [evalE, Act.eval] using hx
  | global g => simpa [evalE, Act.eval] using hx
  | func f => simpa [evalE, Act.eval] using hx

theorem Env.get_cons_self (E : Env) (d : Nat) (v : Value) : Env.get ((d, v) :: E) d = some v := by
  simp [Env.get]

theorem Env.get_cons_ne {E : Env} {d t : Nat} {v : Value} (h : d ≠ t) : Env.get ((d, v) :: E) t = Env.get E t := by
  have : Nat.beq d t = false := by
    cases hb : Nat.beq d t with
    | false => rfl
    | true => exact absurd (Nat.eq_of_beq_eq_true hb) h
  simp [Env.get, this]

theorem Ok.put {n ds E a} (h : Ok n ds E a) {d : Nat} (hd : d < n) (v : Value) : Ok n ds ((d, v) :: E) (a.put (some d) v) := by
  refine ⟨by simp [Act.put, h.size], by simp [Act.put, h.defers], fun t u hu => ?_⟩
  by_cases e : d = t
  · subst e
    rw [Env.get_cons_self] at hu
    cases hu
    simp [Act.put, h.size, hd]
  · rw [Env.get_cons_ne e] at hu
    simp [Act.put, e, h.get t u hu]

theorem Ok.mono {n ds E E' a} (h : Ok n ds E a) (hE : ∀ t v, Env.get E' t = some v → Env.get E t = some v) : Ok n ds E' a :=
  ⟨h.size, h.defers, fun t v hv => h.get t v (hE t v hv)⟩

theorem Sees.sub {W H H' w} (h : Sees W H w) (hs : List.Sublist H' H) : Sees W H' w :=
  ⟨h.os, h.tape, h.output, (hs.map _).nodup h.nodup, fun k o ho => h.mem k o (hs.subset ho)⟩

theorem Sees.perm {W H H' w} (h : Sees W H w) (hs : List.Perm H' H) : Sees W H' w :=
  ⟨h.os, h.tape, h.output, ((hs.map _).nodup_iff).2 h.nodup, fun k o ho => h.mem k o (hs.mem_iff.1 ho)⟩

theorem Sees.lt {W H w k o} (h : Sees W H w) (hk : (k, o) ∈ H) : k < w.heap.size := by
  have := h.mem k o hk
  rcases Nat.lt_or_ge k w.heap.size with h | h
  · exact h
  · rw [Array.getElem?_eq_none h] at this; cases this

theorem Sees.drew {W H w} (h : Sees W H w) (n : Nat) : Sees W H { w with drawn := n } :=
  ⟨h.os, h.tape, h.output, h.nodup, h.mem⟩

theorem Sees.push {W H w} (h : Sees W H w) (o : Obj) : Sees W ((w.heap.size, o) :: H) { w with heap := w.heap.push o } := by
  refine ⟨h.os, h.tape, h.output, ?_, ?_⟩
  · simp only [List.map_cons, List.nodup_cons]
    refine ⟨?_, h.nodup⟩
    intro hm
    obtain ⟨⟨k, o'⟩, hk, he⟩ := List.mem_map.1 hm
    have := h.lt hk
    simp only at he
    omega
  · intro k o' hk
    simp only [Array.getElem?_push]
    cases hk with
    | head => simp
    | tail _ hk =>
      have := h.lt hk
      rw [if_neg (by omega)]
      exact h.mem k o' hk

theorem Sees.cell {W H w k l T fz off v} (h : Sees W H w) (hk : (k, Obj.cells ⟨l⟩ T fz) ∈ H) (hv : l[off]? = some v) : w.cell? ⟨k, off, none⟩ = some v := by
  simp [World.cell?, h.mem _ _ hk, hv]

/-- One cell of a listed block is set. -/
theorem Sees.set {W A B w k l T fz off v} (h : Sees W (A ++ (k, Obj.cells ⟨l⟩ T fz) :: B) w) :
    Sees W (A ++ (k, Obj.cells ⟨l.set off v⟩ T fz) :: B) (w.setCell ⟨k, off, none⟩ v) := by
  have hk := h.mem k _ (List.mem_append_right A (List.mem_cons_self))
  refine ⟨h.os, h.tape, h.output, by simpa using h.nodup, ?_⟩
  intro k' o ho
  simp only [World.setCell, Array.getElem?_modify]
  have hn := h.nodup
  simp only [List.map_append, List.map_cons, List.nodup_append, List.nodup_cons] at hn
  rcases List.mem_append.1 ho with ho | ho
  · have : k ≠ k' := fun e => by
      have := hn.2.2 k' (List.mem_map.2 ⟨_, ho, rfl⟩) k (List.mem_cons_self)
      omega
    rw [if_neg this]; exact h.mem _ _ (List.mem_append_left _ ho)
  · cases ho with
    | head => simp [hk]
    | tail _ ho =>
      have : k ≠ k' := fun e => hn.2.1.1 (List.mem_map.2 ⟨_, ho, e.symm⟩)
      rw [if_neg this]; exact h.mem _ _ (List.mem_append_right _ (List.mem_cons_of_mem _ ho))

/-- All that is listed in H is listed in G. -/
def Sub (H G : Heap) : Prop := ∀ e ∈ H, e ∈ G
theorem Sub.mem {H G : Heap} {e : Nat × Obj} (h : Sub H G) (he : e ∈ H) : e ∈ G := h e he

/-! ### One operation -/

/-- Operation o, from the environment E and the memory G, gives a value and a memory of which K holds; it never panics. -/
structure OpT (P : Program) (W : World) (n : Nat) (ds : List Deferred) (o : Oper) (E : Env) (G : Heap) (K : Value → Heap → Prop) : Prop where
  run : ∀ a w next Q, Ok n ds E a → Sees W G w → (∀ v G' w', Sees W G' w' → K v G' → next (a.put o.dst v) w') →
    o.upon P a next Q ((execOp a.eval o).run P w)

/-- A call of function f with these arguments, from the memory H. -/
structure Does (P : Program) (f : FuncId) (args : List Value) (H : Heap) (K : Value → Heap → Prop) : Prop where
  run : ∀ W w, Sees W H w → ∀ (o : Oper) a next Q, (∀ v H' w', Sees W H' w' → K v H' → next (a.put o.dst v) w') →
    o.upon P a next Q ((callFunc f ⟨args⟩).run P w)

theorem Does.mono {P f args H K K'} (h : Does P f args H K) (hk : ∀ v H', K v H' → K' v H') : Does P f args H K' :=
  ⟨fun W w hs o a next Q hn => h.run W w hs o a next Q fun v H' w' hs' k => hn v H' w' hs' (hk _ _ k)⟩

theorem OpT.mono {P W n ds o E G K K'} (h : OpT P W n ds o E G K) (hk : ∀ v H', K v H' → K' v H') : OpT P W n ds o E G K' :=
  ⟨fun a w next Q ho hs hn => h.run a w next Q ho hs fun v H' w' hs' k => hn v H' w' hs' (hk _ _ k)⟩

/-! ### Lists of operations, code -/

/-- The slot that operation j writes. -/
def slotOf : List Oper → Nat → Option Tmp
  | [], _ => none
  | o :: _, 0 => o.dst
  | _ :: l, j + 1 => slotOf l j
theorem slotOf_eq : ∀ (l : List Oper) (j : Nat), (l.toArray[j]?).bind (·.dst) = slotOf l j := by
  intro l
  induction l with
  | nil => intro j; rfl
  | cons o l ih => intro j; cases j with
    | zero => rfl
    | succ j => have h := ih j; simp only [slotOf]; rw [← h]; simp

structure TL (P : Program) (W : World) (n : Nat) (ds : List Deferred) (ops : List Oper) (Q : Exit → Act → World → Prop) (l : List Oper) (E : Env) (G : Heap) : Prop where
  run : ∀ a w, Ok n ds E a → Sees W G w → wpList P ops.toArray Q l a w

structure TC (P : Program) (W : World) (n : Nat) (ds : List Deferred) (c : Code) (Q : Exit → Act → World → Prop) (E : Env) (G : Heap) : Prop where
  run : ∀ a w, Ok n ds E a → Sees W G w → c.wp P Q a w

/-- The post Q holds at an exit e with E and G. -/
structure At (W : World) (n : Nat) (ds : List Deferred) (Q : Exit → Act → World → Prop) (e : Exit) (E : Env) (G : Heap) : Prop where
  run : ∀ a w, Ok n ds E a → Sees W G w → Q e a w

section rules
variable {P : Program} {W : World} {n : Nat} {ds : List Deferred} {ops : List Oper} {Q : Exit → Act → World → Prop} {E : Env} {G : Heap}

theorem tl_nil (h : At W n ds Q .normal E G) : TL P W n ds ops Q [] E G := ⟨fun a w ho hs => h.run a w ho hs⟩

theorem tl_cons {d op ty pos af} {rest : List Oper}
    (h : OpT P W n ds ⟨some d, op, ty, pos, af, none⟩ E G (fun v G' => TL P W n ds ops Q rest ((d, v) :: E) G')) (hd : d < n := by decide) :
    TL P W n ds ops Q (⟨some d, op, ty, pos, af, none⟩ :: rest) E G := by
  refine ⟨fun a w ho hs => ?_⟩
  refine wpList_plain rfl fun K hK => ?_
  exact h.run a w K Q ho hs fun v G' w' hs' hk => hK _ _ (hk.run _ _ (ho.put hd v) hs')

theorem tl_cons_none {op ty pos af} {rest : List Oper}
    (h : OpT P W n ds ⟨none, op, ty, pos, af, none⟩ E G (fun _ G' => TL P W n ds ops Q rest E G')) :
    TL P W n ds ops Q (⟨none, op, ty, pos, af, none⟩ :: rest) E G := by
  refine ⟨fun a w ho hs => ?_⟩
  refine wpList_plain rfl fun K hK => ?_
  exact h.run a w K Q ho hs fun v G' w' hs' hk => hK _ _ (hk.run _ _ ho hs')

/-- A guarded operation whose guard stands. -/
theorem tl_guard_yes {d op ty pos af j b dj} {rest : List Oper}
    (h : OpT P W n ds ⟨some d, op, ty, pos, af, some (j, b)⟩ E G (fun v G' => TL P W n ds ops Q rest ((d, v) :: E) G'))
    (hj : slotOf ops j = some dj := by exact rfl) (hb : Env.get E dj = some (.bool b) := by exact rfl) (hd : d < n := by decide) :
    TL P W n ds ops Q (⟨some d, op, ty, pos, af, some (j, b)⟩ :: rest) E G := by
  refine ⟨fun a w ho hs => ?_⟩
  refine wpList_step fun K hK => ?_
  have hw : Region.wanted ⟨some d, op, ty, pos, af, some (j, b)⟩ (yielded ops.toArray a.tmps) = true := by
    rw [← slotOf_eq] at hj; simp only [Region.wanted, yielded, hj]; simp [ho.get _ _ hb]
  rw [if_pos hw]
  exact h.run a w K Q ho hs fun v G' w' hs' hk => hK _ _ (hk.run _ _ (ho.put hd v) hs')

/-- A guarded operation whose guard does not stand. -/
theorem tl_guard_no {d op ty pos af j b dj} {rest : List Oper} (h : TL P W n ds ops Q rest ((d, undef) :: E) G)
    (hj : slotOf ops j = some dj := by exact rfl) (hb : Env.get E dj = some (.bool (!b)) := by exact rfl) (hd : d < n := by decide) :
    TL P W n ds ops Q (⟨some d, op, ty, pos, af, some (j, b)⟩ :: rest) E G := by
  refine ⟨fun a w ho hs => ?_⟩
  refine wpList_step fun K hK => ?_
  have hw : Region.wanted ⟨some d, op, ty, pos, af, some (j, b)⟩ (yielded ops.toArray a.tmps) = false := by
    rw [← slotOf_eq] at hj; simp only [Region.wanted, yielded, hj]; simp [ho.get _ _ hb]
  rw [if_neg (by simp [hw])]
  exact hK _ _ (h.run _ _ (ho.put hd undef) hs)

theorem tl_guard_yes' {d op ty pos af j want b dj} {rest : List Oper}
    (h : TL P W n ds ops Q (⟨some d, op, ty, pos, af, some (j, want)⟩ :: rest) ((dj, .bool want) :: E) G)
    (hj : slotOf ops j = some dj := by exact rfl) (hb : Env.get E dj = some (.bool b) := by exact rfl) (hw : b = want := by assumption) :
    TL P W n ds ops Q (⟨some d, op, ty, pos, af, some (j, want)⟩ :: rest) E G := by
  refine ⟨fun a w ho hs => ?_⟩
  refine h.run a w ⟨ho.size, ho.defers, fun t v hv => ?_⟩ hs
  by_cases e : dj = t
  · subst e; rw [Env.get_cons_self] at hv; cases hv; rw [← hw]; exact ho.get _ _ hb
  · rw [Env.get_cons_ne e] at hv; exact ho.get _ _ hv

theorem tl_guard_no' {d op ty pos af j want b dj} {rest : List Oper}
    (h : TL P W n ds ops Q rest ((d, undef) :: (dj, .bool (!want)) :: E) G)
    (hj : slotOf ops j = some dj := by exact rfl) (hb : Env.get E dj = some (.bool b) := by exact rfl) (hw : b = !want := by assumption) (hd : d < n := by decide) :
    TL P W n ds ops Q (⟨some d, op, ty, pos, af, some (j, want)⟩ :: rest) E G := by
  subst hw
  refine tl_guard_no ?_ hj hb hd
  refine ⟨fun a w ho hs => ?_⟩
  refine h.run a w ⟨ho.size, ho.defers, fun t v hv => ?_⟩ hs
  by_cases e : d = t
  · subst e; exact ho.get _ _ (by rw [Env.get_cons_self] at hv ⊢; exact hv)
  · rw [Env.get_cons_ne e] at hv
    by_cases e' : dj = t
    · subst e'; rw [Env.get_cons_self] at hv; cases hv; exact ho.get _ _ (by rw [Env.get_cons_ne e]; exact hb)
    · rw [Env.get_cons_ne e'] at hv; exact ho.get _ _ (by rw [Env.get_cons_ne e]; exact hv)

/-- A guard that is not known: both ways. -/
theorem tl_guard_split {d op ty pos af j want dj} {b : Bool} {rest : List Oper}
    (h1 : b = true → TL P W n ds ops Q (⟨some d, op, ty, pos, af, some (j, want)⟩ :: rest) ((dj, .bool true) :: E) G)
    (h2 : b = false → TL P W n ds ops Q (⟨some d, op, ty, pos, af, some (j, want)⟩ :: rest) ((dj, .bool false) :: E) G)
    (_hj : slotOf ops j = some dj := by exact rfl) (_hb : Env.get E dj = some (.bool b) := by exact rfl) :
    TL P W n ds ops Q (⟨some d, op, ty, pos, af, some (j, want)⟩ :: rest) E G := by
  refine ⟨fun a w ho hs => ?_⟩
  have key : ∀ c, b = c → Ok n ds ((dj, .bool c) :: E) a := by
    intro c hc
    subst hc
    refine ⟨ho.size, ho.defers, fun t v hv => ?_⟩
    by_cases e : dj = t
    · subst e; rw [Env.get_cons_self] at hv; cases hv; exact ho.get _ _ _hb
    · rw [Env.get_cons_ne e] at hv; exact ho.get _ _ hv
  cases hc : b with
  | true => exact (h1 hc).run a w (key _ hc) hs
  | false => exact (h2 hc).run a w (key _ hc) hs

theorem tc_skip (h : At W n ds Q .normal E G) : TC P W n ds .skip Q E G := ⟨fun a w ho hs => wp_skip (h.run a w ho hs)⟩
theorem tc_label {l} (h : At W n ds Q .normal E G) : TC P W n ds (.label l) Q E G := ⟨fun a w ho hs => wp_label (h.run a w ho hs)⟩
theorem tc_ret (h : At W n ds Q .ret E G) : TC P W n ds .ret Q E G := ⟨fun a w ho hs => wp_ret (h.run a w ho hs)⟩
theorem tc_exit {id} (h : At W n ds Q (.exit id) E G) : TC P W n ds (.exit id) Q E G := ⟨fun a w ho hs => wp_exit (h.run a w ho hs)⟩
theorem tc_goto {l} (h : At W n ds Q (.goto l) E G) : TC P W n ds (.goto l) Q E G := ⟨fun a w ho hs => wp_goto (h.run a w ho hs)⟩

def QSeq (P : Program) (y : Code) (Q : Exit → Act → World → Prop) : Exit → Act → World → Prop := Exit.then (y.wp P Q) Q
theorem tc_seq {x y : Code} (h : TC P W n ds x (QSeq P y Q) E G) : TC P W n ds (.seq x y) Q E G := ⟨fun a w ho hs => wp_seq (h.run a w ho hs)⟩
theorem at_seq_normal {y : Code} (h : TC P W n ds y Q E G) : At W n ds (QSeq P y Q) .normal E G := ⟨h.run⟩
theorem at_seq_ret {y : Code} (h : At W n ds Q .ret E G) : At W n ds (QSeq P y Q) .ret E G := ⟨h.run⟩
theorem at_seq_exit {y : Code} {id} (h : At W n ds Q (.exit id) E G) : At W n ds (QSeq P y Q) (.exit id) E G := ⟨h.run⟩
theorem at_seq_goto {y : Code} {id} (h : At W n ds Q (.goto id) E G) : At W n ds (QSeq P y Q) (.goto id) E G := ⟨h.run⟩

theorem tc_block {id} {c : Code} (h : TC P W n ds c (Exit.inBlock id Q) E G) : TC P W n ds (.block id c) Q E G := ⟨fun a w ho hs => wp_block (h.run a w ho hs)⟩
theorem at_block_normal {id} (h : At W n ds Q .normal E G) : At W n ds (Exit.inBlock id Q) .normal E G := ⟨h.run⟩
theorem at_block_ret {id} (h : At W n ds Q .ret E G) : At W n ds (Exit.inBlock id Q) .ret E G := ⟨h.run⟩
theorem at_block_exit_self {id} (h : At W n ds Q .normal E G) : At W n ds (Exit.inBlock id Q) (.exit id) E G := ⟨fun a w ho hs => by
  simp only [Exit.inBlock, if_true]; exact h.run a w ho hs⟩
theorem at_block_exit_ne {id id'} (h : At W n ds Q (.exit id') E G) (hne : id' ≠ id := by decide) : At W n ds (Exit.inBlock id Q) (.exit id') E G := ⟨fun a w ho hs => by
  simp only [Exit.inBlock, if_neg hne]; exact h.run a w ho hs⟩

theorem tc_cond_true {c x y} (h : TC P W n ds x Q E G) (hc : evalE E c = some (.bool true) := by exact rfl) : TC P W n ds (.cond c x y) Q E G :=
  ⟨fun a w ho hs => wp_cond_true (ho.eval hc) (h.run a w ho hs)⟩
theorem tc_cond_false {c x y} (h : TC P W n ds y Q E G) (hc : evalE E c = some (.bool false) := by exact rfl) : TC P W n ds (.cond c x y) Q E G :=
  ⟨fun a w ho hs => wp_cond_false (ho.eval hc) (h.run a w ho hs)⟩
theorem tc_cond_t {c x y b} (h : TC P W n ds x Q E G) (hc : evalE E c = some (.bool b) := by exact rfl) (hb : b = true := by first | exact rfl | assumption) : TC P W n ds (.cond c x y) Q E G :=
  ⟨fun a w ho hs => wp_cond_true (ho.eval (hb ▸ hc)) (h.run a w ho hs)⟩
theorem tc_cond_f {c x y b} (h : TC P W n ds y Q E G) (hc : evalE E c = some (.bool b) := by exact rfl) (hb : b = false := by first | exact rfl | assumption) : TC P W n ds (.cond c x y) Q E G :=
  ⟨fun a w ho hs => wp_cond_false (ho.eval (hb ▸ hc)) (h.run a w ho hs)⟩
theorem tc_cond {c x y b} (h1 : b = true → TC P W n ds x Q E G) (h2 : b = false → TC P W n ds y Q E G) (hc : evalE E c = some (.bool b) := by exact rfl) :
    TC P W n ds (.cond c x y) Q E G :=
  ⟨fun a w ho hs => wp_cond_split (ho.eval hc) (fun e => (h1 e).run a w ho hs) (fun e => (h2 e).run a w ho hs)⟩

theorem op_same {o : Oper} {b c : Bool} {dj : Nat} {K : Value → Heap → Prop} (hb : Env.get E dj = some (.bool b)) (hc : b = c) (h : OpT P W n ds o ((dj, .bool c) :: E) G K) : OpT P W n ds o E G K := by
  refine ⟨fun a w next Q ho hs hn => ?_⟩
  refine h.run a w next Q ⟨ho.size, ho.defers, fun t v hv => ?_⟩ hs hn
  by_cases e : dj = t
  · subst e; rw [Env.get_cons_self] at hv; cases hv; rw [← hc]; exact ho.get _ _ hb
  · rw [Env.get_cons_ne e] at hv; exact ho.get _ _ hv

/-- Each entry of the second list is known in the first. -/
def Incl (E : Env) : Env → Prop
  | [] => True
  | (t, v) :: I => Env.get E t = some v ∧ Incl E I

theorem Incl.get {E : Env} : ∀ {I : Env}, Incl E I → ∀ t v, Env.get I t = some v → Env.get E t = some v := by
  intro I
  induction I with
  | nil => intro _ t v h; cases h
  | cons p I ih =>
    obtain ⟨d, u⟩ := p
    intro h t v hv
    by_cases e : d = t
    · subst e; rw [Env.get_cons_self] at hv; cases hv; exact h.1
    · rw [Env.get_cons_ne e] at hv; exact ih h.2 t v hv

theorem tc_region {id} {l : List Oper} (h : TL P W n ds l Q l E G) : TC P W n ds (.region id l.toArray false) Q E G :=
  ⟨fun a w ho hs => wp_region_lit (h.run a w ho hs)⟩

/-- What is known may be forgotten. -/
theorem tc_weak {c E' G'} (hE : ∀ t v, Env.get E' t = some v → Env.get E t = some v) (hG : List.Sublist G' G) (h : TC P W n ds c Q E' G') : TC P W n ds c Q E G :=
  ⟨fun a w ho hs => h.run a w (ho.mono hE) (hs.sub hG)⟩
theorem at_weak {e E' G'} (hE : ∀ t v, Env.get E' t = some v → Env.get E t = some v) (hG : List.Sublist G' G) (h : At W n ds Q e E' G') : At W n ds Q e E G :=
  ⟨fun a w ho hs => h.run a w (ho.mono hE) (hs.sub hG)⟩
theorem tc_perm {c G'} (hG : List.Perm G' G) (h : TC P W n ds c Q E G') : TC P W n ds c Q E G :=
  ⟨fun a w ho hs => h.run a w ho (hs.perm hG)⟩

/-- The post of a loop's round. -/
def QLoop {ι : Type} (W : World) (n : Nat) (ds : List Deferred) (I : ι → Env) (J : ι → Heap) (ok : ι → Prop) (μ : ι → Nat) (m : Nat) (Q : Exit → Act → World → Prop) : Exit → Act → World → Prop
  | .normal, a, w => ∃ j, ok j ∧ μ j < m ∧ Ok n ds (I j) a ∧ Sees W (J j) w
  | e, a, w => Q e a w

/-- A loop: the states of its head are told by an index. -/
theorem tc_loop {ι : Type} {c : Code} (I : ι → Env) (J : ι → Heap) (ok : ι → Prop) (μ : ι → Nat) (i0 : ι) (h0 : ok i0)
    (hE : ∀ t v, Env.get (I i0) t = some v → Env.get E t = some v) (hG : List.Sublist (J i0) G)
    (round : ∀ i, ok i → TC P W n ds c (QLoop W n ds I J ok μ (μ i) Q) (I i) (J i)) : TC P W n ds (.loop c) Q E G := by
  refine ⟨fun a w ho hs b k cs => ?_⟩
  have key : ∀ m i, μ i = m → ok i → ∀ a w, Ok n ds (I i) a → Sees W (J i) w →
      ∃ e a' w', Q e a' w' ∧ Arrives P (lone (b.at a (.code c :: .inLoop c :: k)) cs w) b k cs e a' w' := by
    intro m
    induction m using Nat.strongRecOn with
    | _ m ih =>
      intro i hm hi a w ho hs
      obtain ⟨e, a1, w1, hq, harr⟩ := (round i hi).run a w ho hs b (.inLoop c :: k) cs
      cases e with
      | normal =>
        obtain ⟨j, hj, hlt, hoj, hsj⟩ := hq
        obtain ⟨e2, a2, w2, hq2, harr2⟩ := ih (μ j) (hm ▸ hlt) j rfl hj a1 w1 hoj hsj
        exact ⟨e2, a2, w2, hq2, .of_steps (Steps.trans harr (.one step_inLoop)) harr2⟩
      | exit id => exact ⟨_, a1, w1, hq, .pass (x := .inLoop c) rfl (fun _ _ => .inl (by simp)) harr⟩
      | goto l => exact ⟨_, a1, w1, hq, .pass (x := .inLoop c) rfl (fun _ _ => .inl (by simp)) harr⟩
      | ret => exact ⟨_, a1, w1, hq, .pass (x := .inLoop c) rfl (fun _ _ => .inl (by simp)) harr⟩
      | panic ch => exact ⟨_, a1, w1, hq, .pass (x := .inLoop c) rfl (fun _ _ => .inl (by simp)) harr⟩
      | outgrown => exact ⟨_, a1, w1, hq, .pass (x := .inLoop c) rfl (fun _ _ => .inl (by simp)) harr⟩
  obtain ⟨e, a', w', hq, harr⟩ := key _ i0 rfl h0 a w (ho.mono hE) (hs.sub hG)
  exact ⟨e, a', w', hq, .of_steps (.one step_loop) harr⟩

theorem at_loop_normal {ι : Type} {I : ι → Env} {J : ι → Heap} {ok : ι → Prop} {μ : ι → Nat} {m : Nat} (j : ι) (hj : ok j) (hm : μ j < m)
    (hE : ∀ t v, Env.get (I j) t = some v → Env.get E t = some v) (hG : List.Sublist (J j) G) : At W n ds (QLoop W n ds I J ok μ m Q) .normal E G :=
  ⟨fun _ _ ho hs => ⟨j, hj, hm, ho.mono hE, hs.sub hG⟩⟩
theorem at_loop_ret {ι : Type} {I : ι → Env} {J : ι → Heap} {ok : ι → Prop} {μ : ι → Nat} {m : Nat} (h : At W n ds Q .ret E G) :
    At W n ds (QLoop W n ds I J ok μ m Q) .ret E G := ⟨h.run⟩
theorem at_loop_exit {ι : Type} {I : ι → Env} {J : ι → Heap} {ok : ι → Prop} {μ : ι → Nat} {m : Nat} {id} (h : At W n ds Q (.exit id) E G) :
    At W n ds (QLoop W n ds I J ok μ m Q) (.exit id) E G := ⟨h.run⟩
theorem at_loop_goto {ι : Type} {I : ι → Env} {J : ι → Heap} {ok : ι → Prop} {μ : ι → Nat} {m : Nat} {id} (h : At W n ds Q (.goto id) E G) :
    At W n ds (QLoop W n ds I J ok μ m Q) (.goto id) E G := ⟨h.run⟩
end rules
end Go.Lg
