/-
  The layout of a geometry behind an interface, collections among them. No conditions.
-/
import Derived.Test.YtkhpdmcalimmjaaGm6
import Derived.Test.YtkhpdmcalimmjaaGm7
import Derived.Test.YtkhpdmcalimmjaaLg19
set_option linter.unusedVariables false
set_option linter.unusedSimpArgs false
namespace Go.Proofs.Ytkhpdmcalimmjaa.Gm
open Go.Lg Go.Proofs.Ytkhpdmcalimmjaa.Geom

set_option maxRecDepth 20000 in
instance mLayPoint : MethP Try.prog 45 "Layout" 68 0 where
  eq := fun k off args w => by kernel_rfl
set_option maxRecDepth 20000 in
instance mLayLineString : MethP Try.prog 48 "Layout" 68 0 where
  eq := fun k off args w => by kernel_rfl
set_option maxRecDepth 20000 in
instance mLayLinearRing : MethP Try.prog 51 "Layout" 68 0 where
  eq := fun k off args w => by kernel_rfl
set_option maxRecDepth 20000 in
instance mLayPolygon : MethP Try.prog 54 "Layout" 68 0 where
  eq := fun k off args w => by kernel_rfl
set_option maxRecDepth 20000 in
instance mLayMultiPoint : MethP Try.prog 58 "Layout" 68 0 where
  eq := fun k off args w => by kernel_rfl
set_option maxRecDepth 20000 in
instance mLayMultiLineString : MethP Try.prog 64 "Layout" 68 0 where
  eq := fun k off args w => by kernel_rfl
set_option maxRecDepth 20000 in
instance mLayMultiPolygon : MethP Try.prog 67 "Layout" 68 0 where
  eq := fun k off args w => by kernel_rfl
set_option maxRecDepth 20000 in
instance mLayCol : MethP Try.prog 71 "Layout" 81 0 where
  eq := fun k off args w => by kernel_rfl
def simpleT : List TypeId := [45, 48, 51, 54, 58, 64, 67]
abbrev colT : TypeId := 71
mutual
/-- A geometry behind an interface, as far as its layout is told. -/
def HasL (G : Heap) : Geo → Value → Prop
  | .mk k l s f e ee ks, w => (k ≠ 7 ∧ ∃ t kp rest T, t ∈ simpleT ∧ w = .iface t (.pointer (some ⟨kp, 0, none⟩)) ∧ (kp, Obj.cells ⟨.int .i64 l :: rest⟩ T (0, 0)) ∈ G) ∨
      (k = 7 ∧ ∃ kp a c ws T r, w = .iface colT (.pointer (some ⟨kp, 0, none⟩)) ∧ (kp, Obj.cells ⟨[.int .i64 l, .slice a ks.length c, r]⟩ T (0, 0)) ∈ G ∧ Sl G (.slice a ks.length c) ws ∧ HasLs G ks ws)
def HasLs (G : Heap) : List Geo → List Value → Prop
  | [], [] => True
  | g :: gs, w :: ws => HasL G g w ∧ HasLs G gs ws
  | _, _ => False
end
theorem HasLs.get {G : Heap} : ∀ {gs : List Geo} {ws : List Value}, HasLs G gs ws → gs.length = ws.length ∧ ∀ (i : Nat) (g : Geo), gs[i]? = some g → ∃ w, ws[i]? = some w ∧ HasL G g w
  | [], [], _ => ⟨rfl, fun i g h => by simp at h⟩
  | g :: gs, w :: ws, h => by
    unfold HasLs at h
    obtain ⟨h1, h2⟩ := HasLs.get h.2
    refine ⟨by simp [h1], fun i q hq => ?_⟩
    cases i with
    | zero =>
      have : g = q := by simpa using hq
      subst this
      exact ⟨w, rfl, h.1⟩
    | succ i => exact h2 i q (by simpa using hq)
  | [], _ :: _, h => by simp [HasLs] at h
  | _ :: _, [], h => by simp [HasLs] at h
theorem g0Layout (kp : Nat) (T : TypeId) (l : Int) (rest : List Value) (H : Heap) (hm : (kp, Obj.cells ⟨.int .i64 l :: rest⟩ T (0, 0)) ∈ H) : Does Try.prog 68 [.pointer (some ⟨kp, 0 + 0, none⟩)] H fun w H' => w = .int .i64 l ∧ H' = H := by
  refine fn_enter 7 Try.func68 fun W => ?_
  repeat' first
    | (refine op_load ?_ (hm := hm))
    | (first | refine tc_seq ?_ | refine tc_region ?_ | refine at_seq_normal ?_ | refine tl_nil ?_ | refine tl_cons ?_ | refine op_move ?_ | refine op_assign ?_ | refine op_fieldAddr ?_ | refine op_load ?_ | refine op_load_agg ?_ | refine op_nilCheck_ptr ?_ | refine op_nilCheck_meth ?_ | refine op_loadK rfl ?_ | refine op_load_aggK rfl ?_ | refine tc_ret ?_ | refine at_seq_ret ?_ | fail)
    | fail
  exact ret_tmp (hk := ⟨rfl, rfl⟩)
section
variable {W : World} {n : Nat} {ds : List Deferred} {dst : Option Tmp} {ty : TypeId} {pos : String} {af : Array Edge} {gd : Option (Nat × Bool)} {E : Env} {G : Heap} {K : Value → Heap → Prop}
theorem op_lay {x : Operand} {w : Value} {at' : Array TypeId} (g : Geo) (h : HasL G g w) (hcl : ∀ kp, w = .iface colT (.pointer (some ⟨kp, 0, none⟩)) → Does Try.prog 81 [.pointer (some ⟨kp, 0 + 0, none⟩)] G fun v H' => v = .int .i64 g.lof ∧ H' = G)
    (hk : K (.int .i64 g.lof) G) (hx : evalE E x = some w) : OpT Try.prog W n ds ⟨dst, .call { callee := .invoke x "Layout", args := ⟨[]⟩, argTypes := at' }, ty, pos, af, gd⟩ E G K := by
  match g, h, hcl, hk with
  | .mk k l s f e ee ks, h, hcl, hk =>
  unfold HasL at h
  rcases h with ⟨hk7, t, kp, rest, T, ht, rfl, hm⟩ | ⟨hk7, kp, a, c, ws, T, r, rfl, hm, hs, hls⟩
  · have hlof : (Geo.mk k l s f e ee ks).lof = l := by rw [Geo.lof, if_pos (.inl hk7)]
    rw [hlof] at hk
    have hd := (g0Layout kp T l rest G hm).mono (K' := K) (by rintro _ _ ⟨rfl, rfl⟩; exact hk)
    simp only [simpleT, List.mem_cons, List.not_mem_nil, or_false] at ht
    rcases ht with rfl | rfl | rfl | rfl | rfl | rfl | rfl
    all_goals exact op_invokeP hd hx rfl
  · have hd := (hcl kp rfl).mono (K' := K) (by rintro _ _ ⟨rfl, rfl⟩; exact hk)
    exact op_invokeP hd hx rfl
end
end Go.Proofs.Ytkhpdmcalimmjaa.Gm
