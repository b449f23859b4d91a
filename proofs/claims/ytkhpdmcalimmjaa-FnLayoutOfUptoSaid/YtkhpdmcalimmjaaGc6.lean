/-
  Geometries of plain data that are no collections. No conditions.
-/
import Derived.Test.YtkhpdmcalimmjaaGc5
import Derived.Test.YtkhpdmcalimmjaaGeo4
set_option linter.unusedVariables false
set_option linter.unusedSimpArgs false
namespace Go.Proofs.Ytkhpdmcalimmjaa.Gm
open Go.Lg Go.Proofs.Ytkhpdmcalimmjaa.Geom

theorem len_in {ee : List (List Int)} {e : List Int} (h : e ∈ ee) : e.length ≤ (ee.map (fun l => 1 + l.length)).sum := by
  induction ee with
  | nil => cases h
  | cons a ee ih =>
    simp only [List.map_cons, List.sum_cons]
    rcases List.mem_cons.1 h with h | h
    · subst h; omega
    · have := ih h; omega
theorem len_all (ee : List (List Int)) : ee.length ≤ (ee.map (fun l => 1 + l.length)).sum := by
  induction ee with
  | nil => simp
  | cons a ee ih => simp only [List.map_cons, List.sum_cons, List.length_cons]; omega
set_option maxHeartbeats 4000000 in
theorem geoSimple (g : Geo) (cs : List Value) (H : Heap) (hw : g.wt ≤ 2000) (hgood : g.Good) (hg : IsG H g cs) (h7 : ∀ l s f e ee ks, g ≠ .mk 7 l s f e ee ks) :
    Does Try.prog 12 [.agg ⟨cs⟩] H fun w H' => NewL g H w H' := by
  match g, hw, hgood, hg, h7 with
  | .mk k l s f e ee ks, hw, hgood, hg, h7 =>
  have hk7 : k ≠ 7 := fun h => h7 l s f e ee ks (by rw [h])
  unfold Geo.Good at hgood
  rcases hgood with ⟨h, _⟩ | ⟨_, hst, hm, hks, hee0, hk⟩
  · exact absurd h hk7
  have hl : 1 ≤ l := by
    rcases Int.lt_or_le l 1 with h | h
    · exact absurd (by unfold strideI; rw [if_pos h]) hst
    · exact h
  unfold Geo.wt at hw
  obtain ⟨vf, ve, vee, vk, rows, rfl, hf, he, hee, hkk, _⟩ := hg
  have hlen := len_all ee
  unfold Kd at hk
  rcases hk with ⟨rfl, _⟩ | ⟨rfl | rfl, _⟩ | ⟨rfl | rfl | rfl, hasc⟩ | ⟨rfl, _⟩
  · exact (geometryPoint l s vf ve vee vk f H hl hf (by omega)).mono fun w H' h => row_newL hk7 (by decide) h
  · exact (geometryLineString l s vf ve vee vk f H hl hf (by omega)).mono fun w H' h => row_newL hk7 (by decide) h
  · exact (geometryLinearRing l s vf ve vee vk f H hl hf (by omega)).mono fun w H' h => row_newL hk7 (by decide) h
  · exact (geometryPolygon l s vf ve vee vk f e H hl hf he (by omega) (by omega)).mono fun w H' h => ends_newL hk7 (by decide) h
  · exact (geometryMultiPoint l s vf ve vee vk f e H hl hf he (by omega) (by omega) (fun h0 => by
      rw [h0] at hasc
      have h6 : (0 : Int) = f.length := hasc
      omega)).mono fun w H' h => mp_newL hk7 h
  · exact (geometryMultiLineString l s vf ve vee vk f e H hl hf he (by omega) (by omega)).mono fun w H' h => ends_newL hk7 (by decide) h
  · exact (geometryMultiPolygon l s vf ve vee vk f ee H hl hf hee (by omega) (by omega) (fun x hx => by have := len_in hx; omega)).mono fun w H' h => mg_newL hk7 h
end Go.Proofs.Ytkhpdmcalimmjaa.Gm
