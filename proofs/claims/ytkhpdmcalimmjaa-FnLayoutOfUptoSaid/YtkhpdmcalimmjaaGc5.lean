/-
  Geometries of plain data of all kinds, as far as their layout is told. UNDER WAY.
-/
import Derived.Test.YtkhpdmcalimmjaaGc4
set_option linter.unusedVariables false
set_option linter.unusedSimpArgs false
namespace Go.Proofs.Ytkhpdmcalimmjaa.Gm
open Go.Lg Go.Proofs.Ytkhpdmcalimmjaa.Geom

theorem bufH_twoC (e : TypeId) (buf : Buf) (ws : List Value) (x : Nat × Obj) (ex : Heap) (y : Nat × Obj) (H : Heap) : List.Perm (bufH e buf ws (x :: (ex ++ y :: H))) (x :: (ex ++ y :: bufH e buf ws H)) :=
  (bufH_app e buf ws (x :: ex) (y :: H)).trans (List.Perm.append_left (x :: ex) (bufH_swap e buf ws y H))
theorem col_perm (e : TypeId) (buf : Buf) (ws : List Value) (c x : Nat × Obj) (A : Heap) (y : Nat × Obj) (R : Heap) : List.Perm (c :: bufH e buf ws (x :: (A ++ y :: R))) (x :: (A ++ y :: c :: bufH e buf ws R)) := by
  refine (List.Perm.cons c (bufH_twoC e buf ws x A y R)).trans ?_
  have h : List.Perm (c :: ((x :: (A ++ [y])) ++ bufH e buf ws R)) ((x :: (A ++ [y])) ++ c :: bufH e buf ws R) := List.perm_middle.symm
  simpa using h
mutual
theorem HasL.mono {G G' : Heap} (hG : ∀ e ∈ G, e ∈ G') : ∀ (g : Geo) (w : Value), HasL G g w → HasL G' g w
  | .mk k l s f e ee ks, w, h => by
    unfold HasL at h ⊢
    rcases h with ⟨h7, t, kp, rest, T, ht, he, hm⟩ | ⟨h7, kp, a, c, ws, T, r, he, hm, hs, hls⟩
    · exact .inl ⟨h7, t, kp, rest, T, ht, he, hG _ hm⟩
    · exact .inr ⟨h7, kp, a, c, ws, T, r, he, hG _ hm, hs.mono hG, HasLs.mono hG ks ws hls⟩
theorem HasLs.mono {G G' : Heap} (hG : ∀ e ∈ G, e ∈ G') : ∀ (gs : List Geo) (ws : List Value), HasLs G gs ws → HasLs G' gs ws
  | [], [], _ => by unfold HasLs; trivial
  | g :: gs, w :: ws, h => by
    unfold HasLs at h ⊢
    exact ⟨HasL.mono hG g w h.1, HasLs.mono hG gs ws h.2⟩
  | [], _ :: _, h => by simp [HasLs] at h
  | _ :: _, [], h => by simp [HasLs] at h
end
theorem HasLs.snoc {G : Heap} {g : Geo} {w : Value} : ∀ (gs : List Geo) (ws : List Value), HasLs G gs ws → HasL G g w → HasLs G (gs ++ [g]) (ws ++ [w])
  | [], [], _, h => by
    show HasLs G [g] [w]
    unfold HasLs
    exact ⟨h, by unfold HasLs; trivial⟩
  | q :: gs, v :: ws, h1, h => by
    unfold HasLs at h1
    show HasLs G (q :: (gs ++ [g])) (v :: (ws ++ [w]))
    unfold HasLs
    exact ⟨h1.1, HasLs.snoc gs ws h1.2 h⟩
  | [], _ :: _, h1, _ => by simp [HasLs] at h1
  | _ :: _, [], h1, _ => by simp [HasLs] at h1
theorem mkL {ex : Heap} {k l s : Int} {f : List Nat} {e : List Int} {ee : List (List Int)} {ks : List Geo} {kp : Nat} {t T : TypeId} {rest : List Value} (h7 : k ≠ 7) (ht : t ∈ simpleT) : HasL ((kp, Obj.cells ⟨.int .i64 l :: rest⟩ T (0, 0)) :: ex) (.mk k l s f e ee ks) (.iface t (.pointer (some ⟨kp, 0, none⟩))) := by
  unfold HasL
  exact .inl ⟨h7, t, kp, rest, T, ht, rfl, List.mem_cons_self⟩
/-- What geometry gives: a new geometry of this layout. -/
def NewL (g : Geo) (H : Heap) (w : Value) (H' : Heap) : Prop := ∃ ex t kp, H' = ex ++ H ∧ w = .iface t (.pointer (some ⟨kp, 0, none⟩)) ∧ HasL ex g w
theorem row_newL {k l s s' : Int} {f : List Nat} {e : List Int} {ee : List (List Int)} {ks : List Geo} {t : TypeId} {H : Heap} {w : Value} {H' : Heap} (h7 : k ≠ 7) (ht : t ∈ simpleT) (h : IsRow t l s' f H w H') : NewL (.mk k l s f e ee ks) H w H' := by
  obtain ⟨kp, T, a, c, R, rfl, rfl, _, ex, rfl⟩ := h
  exact ⟨_ :: ex, t, kp, rfl, rfl, mkL h7 ht⟩
theorem ends_newL {k l s s' : Int} {f : List Nat} {e e' : List Int} {ee : List (List Int)} {ks : List Geo} {t : TypeId} {H : Heap} {w : Value} {H' : Heap} (h7 : k ≠ 7) (ht : t ∈ simpleT) (h : IsEnds t l s' f e' H w H') : NewL (.mk k l s f e ee ks) H w H' := by
  obtain ⟨kp, T, a, c, ae, ce, R, rfl, rfl, _, _, ex, rfl⟩ := h
  exact ⟨_ :: ex, t, kp, rfl, rfl, mkL h7 ht⟩
theorem mp_newL {k l s s' : Int} {f : List Nat} {e e' : List Int} {ee : List (List Int)} {ks : List Geo} {H : Heap} {w : Value} {H' : Heap} (h7 : k ≠ 7) (h : IsMP l s' f e' H w H') : NewL (.mk k l s f e ee ks) H w H' := by
  obtain ⟨kp, T, a, c, ae, ce, R, rfl, rfl, _, _, ex, rfl⟩ := h
  exact ⟨_ :: ex, _, kp, rfl, rfl, mkL h7 (by decide)⟩
theorem mg_newL {k l s s' : Int} {f : List Nat} {e : List Int} {ee ee' : List (List Int)} {ks : List Geo} {H : Heap} {w : Value} {H' : Heap} (h7 : k ≠ 7) (h : IsMG l s' f ee' H w H') : NewL (.mk k l s f e ee ks) H w H' := by
  obtain ⟨kp, T, a, c, ae, ce, R, rfl, rfl, _, _, ex, rfl⟩ := h
  exact ⟨_ :: ex, _, kp, rfl, rfl, mkL h7 (by decide)⟩
end Go.Proofs.Ytkhpdmcalimmjaa.Gm
