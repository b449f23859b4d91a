/-
  Slices as lists, in the small logic; whole numbers that do not wrap. No conditions.
-/
import Derived.Test.YthafjfgmbmpfoaaLg3
set_option linter.unusedVariables false
set_option linter.unusedSimpArgs false
namespace Go.Lg

/-- The slice v reads as ws (elements of one cell each). -/
def Sl (G : Heap) (v : Value) (ws : List Value) : Prop :=
  ∃ a cap, v = .slice a ws.length cap ∧ ws.length ≤ cap ∧ (ws ≠ [] → ∃ k off l T fz, a = some ⟨k, off, none⟩ ∧ (k, Obj.cells ⟨l⟩ T fz) ∈ G ∧ (l.drop off).take ws.length = ws)

theorem Sl.mono {G G' v ws} (h : Sl G v ws) (hG : ∀ e ∈ G, e ∈ G') : Sl G' v ws := by
  obtain ⟨a, cap, h1, h0, h2⟩ := h
  exact ⟨a, cap, h1, h0, fun hn => let ⟨k, off, l, T, fz, h3, h4, h5⟩ := h2 hn; ⟨k, off, l, T, fz, h3, hG _ h4, h5⟩⟩

theorem Sl.at {G v ws} (h : Sl G v ws) {i : Nat} {x : Value} (hx : ws[i]? = some x) :
    ∃ k off l T fz cap, v = .slice (some ⟨k, off, none⟩) ws.length cap ∧ (k, Obj.cells ⟨l⟩ T fz) ∈ G ∧ l[off + i]? = some x ∧ i < ws.length := by
  obtain ⟨a, cap, h1, h0, h2⟩ := h
  have hn : ws ≠ [] := fun e => by rw [e] at hx; cases hx
  obtain ⟨k, off, l, T, fz, h3, h4, h5⟩ := h2 hn
  refine ⟨k, off, l, T, fz, cap, by rw [h1, h3], h4, cut_get h5 hx, ?_⟩
  rcases Nat.lt_or_ge i ws.length with h | h
  · exact h
  · rw [List.getElem?_eq_none h] at hx; cases hx

def fl (x : Nat) : Value := .float .f64 x

/-- A slice of floats; a slice of such slices. -/
def FS (G : Heap) (v : Value) (xs : List Nat) : Prop := Sl G v (xs.map fl)
def All2 {α β : Type} (p : α → β → Prop) : List α → List β → Prop
  | [], [] => True
  | a :: as, b :: bs => p a b ∧ All2 p as bs
  | _, _ => False
def SS (G : Heap) (v : Value) (xss : List (List Nat)) : Prop := ∃ ws, Sl G v ws ∧ All2 (FS G) ws xss

theorem FS.mono {G G' v xs} (h : FS G v xs) (hG : ∀ e ∈ G, e ∈ G') : FS G' v xs := Sl.mono h hG
theorem All2.mono {α β : Type} {p q : α → β → Prop} (hpq : ∀ a b, p a b → q a b) : ∀ {as bs}, All2 p as bs → All2 q as bs := by
  intro as
  induction as with
  | nil => intro bs h; cases bs with
    | nil => trivial
    | cons => exact h.elim
  | cons a as ih => intro bs h; cases bs with
    | nil => exact h.elim
    | cons b bs => exact ⟨hpq _ _ h.1, ih h.2⟩
theorem All2.len {α β : Type} {p : α → β → Prop} : ∀ {as bs}, All2 p as bs → as.length = bs.length := by
  intro as
  induction as with
  | nil => intro bs h; cases bs with
    | nil => rfl
    | cons => exact h.elim
  | cons a as ih => intro bs h; cases bs with
    | nil => exact h.elim
    | cons b bs => simp [ih h.2]
theorem All2.get {α β : Type} {p : α → β → Prop} : ∀ {as bs}, All2 p as bs → ∀ {i : Nat} {b : β}, bs[i]? = some b → ∃ a, as[i]? = some a ∧ p a b := by
  intro as
  induction as with
  | nil => intro bs h i b hb; cases bs with
    | nil => cases hb
    | cons => exact h.elim
  | cons a as ih => intro bs h i b hb; cases bs with
    | nil => exact h.elim
    | cons c bs => cases i with
      | zero => simp at hb; subst hb; exact ⟨a, rfl, h.1⟩
      | succ i => simpa using ih h.2 (by simpa using hb)
theorem SS.mono {G G' v xs} (h : SS G v xs) (hG : ∀ e ∈ G, e ∈ G') : SS G' v xs :=
  let ⟨ws, h1, h2⟩ := h; ⟨ws, h1.mono hG, h2.mono fun _ _ h => h.mono hG⟩

theorem FS.val {G v xs} (h : FS G v xs) : ∃ a cap, v = .slice a xs.length cap := by
  obtain ⟨a, cap, h1, _⟩ := h
  exact ⟨a, cap, by simpa using h1⟩
theorem FS.at {G v xs} (h : FS G v xs) {i x : Nat} (hx : xs[i]? = some x) :
    ∃ k off l T fz cap, v = .slice (some ⟨k, off, none⟩) xs.length cap ∧ (k, Obj.cells ⟨l⟩ T fz) ∈ G ∧ l[off + i]? = some (.float .f64 x) ∧ i < xs.length := by
  obtain ⟨k, off, l, T, fz, cap, h1, h2, h3, h4⟩ := Sl.at h (i := i) (x := fl x) (by simp [hx])
  exact ⟨k, off, l, T, fz, cap, by simpa using h1, h2, h3, by simpa using h4⟩
theorem SS.val {G v xss} (h : SS G v xss) : ∃ a cap, v = .slice a xss.length cap := by
  obtain ⟨ws, ⟨a, cap, h1, _⟩, h2⟩ := h
  exact ⟨a, cap, by rw [h1, h2.len]⟩
theorem SS.at {G v xss} (h : SS G v xss) {i : Nat} {xs} (hx : xss[i]? = some xs) :
    ∃ k off l T fz cap u, v = .slice (some ⟨k, off, none⟩) xss.length cap ∧ (k, Obj.cells ⟨l⟩ T fz) ∈ G ∧ l[off + i]? = some u ∧ FS G u xs ∧ i < xss.length := by
  obtain ⟨ws, h1, h2⟩ := h
  obtain ⟨u, hu, hf⟩ := h2.get hx
  obtain ⟨k, off, l, T, fz, cap, h3, h4, h5, h6⟩ := h1.at hu
  exact ⟨k, off, l, T, fz, cap, u, by rw [h3, h2.len], h4, h5, hf, by rw [← h2.len]; exact h6⟩

theorem fs_new {G : Heap} {k T fz} (xs : List Nat) (hm : (k, Obj.cells ⟨xs.map fl⟩ T fz) ∈ G) : FS G (.slice (some ⟨k, 0, none⟩) xs.length xs.length) xs :=
  ⟨_, xs.length, by simp, by simp, fun _ => ⟨k, 0, _, T, fz, rfl, hm, by rw [List.drop_zero]; exact List.take_length⟩⟩

theorem ss_one {G : Heap} {k k2 T fz T2 fz2} {n : Nat} (xs : List Nat) (hn : xs.length = n) (hm : (k, Obj.cells ⟨[.slice (some ⟨k2, 0, none⟩) n n]⟩ T fz) ∈ G)
    (hm2 : (k2, Obj.cells ⟨xs.map fl⟩ T2 fz2) ∈ G) : SS G (.slice (some ⟨k, 0, none⟩) 1 1) [xs] := by
  subst hn
  exact ⟨[.slice (some ⟨k2, 0, none⟩) xs.length xs.length], ⟨_, 1, rfl, by simp, fun _ => ⟨k, 0, _, T, fz, rfl, hm, rfl⟩⟩, fs_new xs hm2, trivial⟩

theorem wrap_in {n : Int} (h0 : -9223372036854775808 ≤ n) (h1 : n < 9223372036854775808) : IntKind.i64.wrap n = n := by
  have key : IntKind.i64.wrap n = if n % 18446744073709551616 ≥ 9223372036854775808 then n % 18446744073709551616 - 18446744073709551616 else n % 18446744073709551616 := by
    simp [IntKind.wrap, IntKind.signed, IntKind.bits]
  rw [key]
  split <;> omega

theorem wrap_nat {j : Nat} (h : j < 9223372036854775807) : IntKind.i64.wrap ((j : Int) + 1) = ((j + 1 : Nat) : Int) := by
  rw [wrap_in (by omega) (by omega)]; omega

/-- A counter's next value. -/
theorem next_nat {j : Nat} (h : j < 9223372036854775807) : some (Value.int .i64 (IntKind.i64.wrap ((j : Int) + 1))) = some (Value.int .i64 ((j + 1 : Nat) : Int)) := by
  rw [wrap_nat h]

theorem lss_nat {j n : Nat} : icmp .lss (j : Int) (n : Int) = decide (j < n) := by
  simp [icmp]

end Go.Lg
