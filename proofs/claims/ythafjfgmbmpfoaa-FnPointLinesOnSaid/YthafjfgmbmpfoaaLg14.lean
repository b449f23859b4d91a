/-
  Lists of 32-bit numbers; conversions between whole numbers. No conditions.
-/
import Derived.Test.YthafjfgmbmpfoaaLg11
set_option linter.unusedVariables false
set_option linter.unusedSimpArgs false
namespace Go.Lg

def uv (x : Nat) : Value := .int .u32 (x : Int)
def US (G : Heap) (v : Value) (xs : List Nat) : Prop := Sl G v (xs.map uv)
theorem US.mono {G G' v xs} (h : US G v xs) (hG : ∀ e ∈ G, e ∈ G') : US G' v xs := Sl.mono h hG
theorem US.val {G v xs} (h : US G v xs) : ∃ a cap, v = .slice a xs.length cap := by
  obtain ⟨a, cap, h1, _⟩ := h
  exact ⟨a, cap, by simpa using h1⟩
theorem US.cap {G a n c xs} (h : US G (.slice a n c) xs) : n = xs.length ∧ xs.length ≤ c := by
  obtain ⟨_, _, h1, h2, _⟩ := h
  injection h1 with _ h4 h3
  rw [List.length_map] at h2 h4; omega
theorem US.nil {G} : US G (.slice none 0 0) [] := ⟨none, 0, rfl, Nat.le_refl _, fun h => (h rfl).elim⟩
theorem US.toN {G v xs} (h : US G v xs) : SlN 1 G v xs.length (xs.map uv) := by have := Sl.toN h; simpa using this
theorem oneCell_uv (xs : List Nat) : ∀ u ∈ xs.map uv, u.oneCell' = true := by
  intro u hu
  obtain ⟨x, _, rfl⟩ := List.mem_map.1 hu
  rfl
theorem us_buf {e : TypeId} {buf : Buf} {xs : List Nat} {n : Nat} {H : Heap} (h : bufOk 1 buf n (xs.map uv)) : US (bufH e buf (xs.map uv) H) (bufV buf n) xs := sl_buf h
theorem getD_in {zs : List Nat} {t : Nat} (h : t < zs.length) : zs.getD t 0 = zs[t] := by rw [List.getD_eq_getElem?_getD, List.getElem?_eq_getElem h]; rfl
theorem us_block {G : Heap} {a : Option Addr} {n c : Nat} {zs : List Nat} (h : US G (.slice a n c) zs) (hn : zs ≠ []) :
    ∃ k off l T fz, a = some ⟨k, off, none⟩ ∧ (k, Obj.cells ⟨l⟩ T fz) ∈ G ∧ ∀ i, i < zs.length → l[off + i]? = some (.int .u32 ((zs.getD i 0 : Nat) : Int)) := by
  obtain ⟨a', cap, h1, h0, h2⟩ := h
  obtain ⟨k, off, l, T, fz, h3, h4, h5⟩ := h2 (by simpa using hn)
  cases h1
  refine ⟨k, off, l, T, fz, h3, h4, fun i hi => cut_get h5 ?_⟩
  rw [List.getElem?_map, List.getElem?_eq_getElem hi, getD_in hi]; rfl
theorem US.take {G : Heap} {a : Option Addr} {n c m : Nat} {zs : List Nat} (h : US G (.slice a n c) zs) (hm : m ≤ zs.length) : US G (.slice a m c) (zs.take m) := by
  obtain ⟨a', cap, h1, h0, h2⟩ := h
  cases h1
  have hlen : ((zs.take m).map uv).length = m := by simp; omega
  refine ⟨a, c, by rw [hlen], by rw [hlen]; rw [List.length_map] at h0; omega, fun hne => ?_⟩
  have hz : zs.map uv ≠ [] := fun e => by
    have : zs = [] := by simpa using e
    subst this; simp at hne
  obtain ⟨k, off, l, T, fz, h3, h4, h5⟩ := h2 hz
  refine ⟨k, off, l, T, fz, h3, h4, ?_⟩
  rw [hlen, List.map_take, ← h5, List.take_take, List.length_map, Nat.min_eq_left hm]
theorem slAt_zero {k o h c : Nat} (hc : 0 < c) : slAt (some ⟨k, o, none⟩) 0 1 h c = .slice (some ⟨k, o, none⟩) h c := by
  simp only [slAt]
  split
  · omega
  · simp [addr_add]

theorem wrap_u64 {n : Int} (h0 : 0 ≤ n) (h1 : n < 18446744073709551616) : IntKind.u64.wrap n = n := by
  simp only [IntKind.wrap, IntKind.bits, IntKind.signed]
  simp
  omega
theorem wrap_u32 {n : Int} (h0 : 0 ≤ n) : IntKind.u32.wrap n = n % 4294967296 := by
  simp only [IntKind.wrap, IntKind.bits, IntKind.signed]
  simp

end Go.Lg
