/-
  Package variables that hold errors, as the row lays them. No conditions.
-/
import Derived.Test.YtmilmnedgadidaaDoorLg5
set_option linter.unusedVariables false
set_option linter.unusedSimpArgs false
namespace Go.Lg
theorem trod_iface {H : Type} {enc : TypeId × Value → H} {P : Program} {W : World} {b : Nat} {sp : Nat → Bool} {hd : Bool} {n t : Nat} {cs : List Value} {nm : String} {d : DataW H} {p : List MemPlace} {ms} (ht : P.underlying t = some (.interface ms)) (h : DataW.trod enc P W b sp hd n t cs = some (.iface nm d, p)) : ∃ u v, cs = [.iface u v] := by
  cases n with
  | zero => simp [DataW.trod] at h
  | succ n =>
    simp only [DataW.trod, ht] at h
    split at h <;> simp_all
theorem laid_iface {P : Program} {W : World} : ∀ {laid : List (String × DataW Unit)} {ps : List MemPlace}, DataW.LaidVars P W laid ps → ∀ {n nm : String} {d : DataW Unit}, (n, DataW.iface nm d) ∈ laid → ∀ {g t : Nat} {ms}, P.globalNamed n = some g → (P.globals[g]?).map (·.type) = some t → P.underlying t = some (.interface ms) →
    ∃ u v T fz, (g, Obj.cells ⟨[.iface u v]⟩ T fz) ∈ all W
  | [], _, _, n, nm, d, hm, _, _, _, _, _, _ => by cases hm
  | (n0, d0) :: r, ps, h, n, nm, d, hm, g, t, ms, hg, ht, hu => by
    obtain ⟨g0, t0, cs, fuel, p, q, h1, h2, h3, h4, h5, h6⟩ := h
    rcases List.mem_cons.1 hm with h | h
    · cases h
      rw [h1] at hg
      cases hg
      rw [h2] at ht
      cases ht
      obtain ⟨u, v, he⟩ := trod_iface hu h4
      unfold World.var? at h3
      rw [h1] at h3
      simp only [Option.bind_some] at h3
      split at h3
      · rename_i cs' T fz heq
        cases h3
        refine ⟨u, v, T, fz, mem_all.2 ?_⟩
        rw [heq, ← he]
      · cases h3
    · exact laid_iface h5 h hg ht hu
end Go.Lg
