/-
  A region in an order left open, told in a shorter way: an operation that gives one value leaves no quantifier behind. No conditions.
-/
import Derived.Test.YthafjfgmbmpfoaaLg20
set_option linter.unusedVariables false
set_option linter.unusedSimpArgs false
namespace Go.Lg
section draw
variable {P : Program} {W : World} {n : Nat} {ds : List Deferred} {Q : Exit → Act → World → Prop} {E0 : Env} {H : Heap}

inductive PhiD where
  | is (v : Value)
  | fresh (f : Nat → Value) (o : Obj)
  | gen (φ : Phi)
def PhiD.phi : PhiD → Phi
  | .is v => Lg.is v
  | .fresh f o => Lg.fresh f o
  | .gen φ => φ
def nthD : List PhiD → Nat → PhiD
  | [], _ => .is undef
  | p :: _, 0 => p
  | _ :: ps, k + 1 => nthD ps k
def MonosD : List PhiD → Prop
  | [] => True
  | .is _ :: r => MonosD r
  | .fresh _ _ :: r => MonosD r
  | .gen φ :: r => Phi.Mono φ ∧ MonosD r
def withD (dl : List (Option Tmp)) (Φs : List PhiD) (G : Heap) : List Nat → Env → (Env → Prop) → Prop
  | [], E, k => k E
  | j :: js, E, k => match nthD Φs j with
    | .is v => withD dl Φs G js (putO (nthDst dl j) v E) k
    | .fresh f o => ∀ b, (b, o) ∈ G → withD dl Φs G js (putO (nthDst dl j) (f b) E) k
    | .gen φ => ∀ v ex, φ v ex G → Sub ex G → withD dl Φs G js (putO (nthDst dl j) v E) k
def postD : PhiD → Value → Heap → Heap → Prop
  | .is v0, v, ex, _ => v = v0 ∧ ex = []
  | .fresh f o, v, ex, _ => ∃ k, v = f k ∧ ex = [(k, o)]
  | .gen φ, v, ex, G => φ v ex G
def PremsD (P : Program) (W : World) (n : Nat) (ds : List Deferred) (dl : List (Option Tmp)) (Φs : List PhiD) (E0 : Env) (H : Heap) : Nat → List Oper → List (List Nat) → Prop
  | i, o :: os, js :: jss => (∀ G, Sub H G → withD dl Φs G js E0 fun E => Step2 P W n ds dl o E G fun v G' => ∃ ex, G' = ex ++ G ∧ postD (nthD Φs i) v ex G') ∧ PremsD P W n ds dl Φs E0 H (i + 1) os jss
  | _, _, _ => True
def FinalsD (dl : List (Option Tmp)) (K : Env → Heap → Prop) : Nat → List PhiD → Env → Heap → (Heap → Prop) → Prop
  | _, [], E, G, h => h G → K E G
  | i, .is v :: φs, E, G, h => FinalsD dl K (i + 1) φs (putO (nthDst dl i) v E) G h
  | i, .fresh f o :: φs, E, G, h => ∀ b, FinalsD dl K (i + 1) φs (putO (nthDst dl i) (f b) E) ((b, o) :: G) h
  | i, .gen φ :: φs, E, G, h => ∀ v ex, FinalsD dl K (i + 1) φs (putO (nthDst dl i) v E) (ex ++ G) (fun G => φ v ex G ∧ h G)

theorem nthD_phi : ∀ (Φs : List PhiD) (j : Nat), nthPhi (Φs.map PhiD.phi) j = (nthD Φs j).phi
  | [], _ => rfl
  | _ :: _, 0 => rfl
  | _ :: ps, k + 1 => nthD_phi ps k
theorem postD_eq (p : PhiD) (v : Value) (ex G : Heap) : postD p v ex G = p.phi v ex G := by cases p <;> rfl
theorem monosD : ∀ {Φs : List PhiD}, MonosD Φs → Monos (Φs.map PhiD.phi)
  | [], _ => trivial
  | .is v :: r, h => ⟨is_mono v, monosD (Φs := r) h⟩
  | .fresh f o :: r, h => ⟨fresh_mono f o, monosD (Φs := r) h⟩
  | .gen φ :: r, h => ⟨h.1, monosD (Φs := r) h.2⟩
theorem withD_with2 {dl : List (Option Tmp)} {Φs : List PhiD} {G : Heap} {k : Env → Prop} : ∀ (js : List Nat) (E : Env), withD dl Φs G js E k → with2 dl (Φs.map PhiD.phi) G js E k
  | [], E, h => h
  | j :: js, E, h => by
    intro v ex hφ hs
    rw [nthD_phi] at hφ
    unfold withD at h
    cases hj : nthD Φs j with
    | is v0 =>
      rw [hj] at hφ h
      obtain ⟨rfl, rfl⟩ := hφ
      exact withD_with2 js _ h
    | fresh f o =>
      rw [hj] at hφ h
      obtain ⟨b, rfl, rfl⟩ := hφ
      exact withD_with2 js _ (h b (hs _ List.mem_cons_self))
    | gen φ =>
      rw [hj] at hφ h
      exact withD_with2 js _ (h v ex hφ hs)
theorem finals2_mono {dl : List (Option Tmp)} {K : Env → Heap → Prop} : ∀ (Φs : List Phi) (i : Nat) (E : Env) (G : Heap) (h h' : Heap → Prop), (∀ G, h' G → h G) → Finals2 dl K i Φs E G h → Finals2 dl K i Φs E G h'
  | [], _, _, _, _, _, hm, hf => fun hh => hf (hm _ hh)
  | _ :: φs, i, E, G, h, h', hm, hf => fun v ex => finals2_mono φs _ _ _ _ _ (fun G hg => ⟨hg.1, hm G hg.2⟩) (hf v ex)
theorem finals2_no {dl : List (Option Tmp)} {K : Env → Heap → Prop} : ∀ (Φs : List Phi) (i : Nat) (E : Env) (G : Heap) (h : Heap → Prop), (∀ G, ¬ h G) → Finals2 dl K i Φs E G h
  | [], _, _, G, _, hn => fun hh => (hn G hh).elim
  | _ :: φs, i, E, G, h, hn => fun v ex => finals2_no φs _ _ _ _ fun G hg => hn G hg.2
theorem finalsD_finals2 {dl : List (Option Tmp)} {K : Env → Heap → Prop} : ∀ (Φs : List PhiD) (i : Nat) (E : Env) (G : Heap) (h : Heap → Prop), FinalsD dl K i Φs E G h → Finals2 dl K i (Φs.map PhiD.phi) E G h
  | [], _, _, _, _, hf => hf
  | .is v0 :: φs, i, E, G, h, hf => by
    intro v ex
    by_cases hv : v = v0 ∧ ex = []
    · obtain ⟨rfl, rfl⟩ := hv
      exact finals2_mono _ _ _ _ _ _ (fun G hg => hg.2) (finalsD_finals2 φs _ _ _ _ hf)
    · exact finals2_no _ _ _ _ _ fun G hg => hv hg.1
  | .fresh f o :: φs, i, E, G, h, hf => by
    intro v ex
    by_cases hv : ∃ k, v = f k ∧ ex = [(k, o)]
    · obtain ⟨k, rfl, rfl⟩ := hv
      exact finals2_mono _ _ _ _ _ _ (fun G hg => hg.2) (finalsD_finals2 φs _ _ _ _ (hf k))
    · exact finals2_no _ _ _ _ _ fun G hg => hv hg.1
  | .gen φ :: φs, i, E, G, h, hf => fun v ex => finalsD_finals2 φs _ _ _ _ (hf v ex)
theorem premsD_prems2 {dl : List (Option Tmp)} {Φs : List PhiD} : ∀ (os : List Oper) (i : Nat) (jss : List (List Nat)), PremsD P W n ds dl Φs E0 H i os jss → Prems2 P W n ds dl (Φs.map PhiD.phi) E0 H i os jss
  | [], _, _, _ => by unfold Prems2; trivial
  | o :: os, i, [], _ => trivial
  | o :: os, i, js :: jss, h => by
    refine ⟨fun G hG => ?_, premsD_prems2 os _ jss h.2⟩
    have := withD_with2 js E0 (h.1 G hG)
    simp only [postD_eq, ← nthD_phi] at this
    exact this

theorem tc_drawnD {id : Nat} {l : List Oper} (m : Nat) (Φs : List PhiD) (dl : List (Option Tmp)) (prs : List (List Nat)) (hm : P.follows .mixedOrders = true) (hmonos : MonosD Φs)
    (prem : PremsD P W n ds dl Φs E0 H 0 (l.take m) prs)
    (fin : FinalsD dl (fun E G => TL P W n ds l Q (l.drop m) E G) 0 Φs E0 H (fun _ => True))
    (hE : edgesOk l m = true := by exact rfl) (hD : dstsOk l m n E0 = true := by exact rfl)
    (hlen : Φs.length = m := by exact rfl) (hml : m ≤ l.length := by exact Nat.le_of_ble_eq_true rfl) (hdl : l.map (·.dst) = dl := by exact rfl) (hpr : (l.take m).map preds = prs := by exact rfl) :
    TC P W n ds (.region id l.toArray true) Q E0 H :=
  tc_drawn m (Φs.map PhiD.phi) dl prs hm (monosD hmonos) (premsD_prems2 _ _ _ prem) (finalsD_finals2 _ _ _ _ _ fin) hE hD (by rw [List.length_map]; exact hlen) hml hdl hpr
end draw
end Go.Lg
