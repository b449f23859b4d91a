/-
  The sizes and the make of this translation's types, and which functions have a body: closed facts, written by a small program (seatty.py). No conditions.
-/
import Derived.Test.YtomhkbijijdghaaProg
import Derived.KernelRfl
import Derived.ProofKit
import Derived.OpenShut
import Derived.Carry
import Derived.Lib.SmallJoins
import Ieee.Arith
import Derived.Test.YtomhkbijijdghaaZL3
set_option maxRecDepth 20000
namespace Go.Lg
open Go.Proofs
instance : Und Try.prog 0 (TypeDesc.tuple #[]) := ⟨Try.underlying0⟩
instance : Und Try.prog 1 (TypeDesc.func #[] #[] false) := ⟨Try.underlying1⟩
instance : Inf Try.prog 1 1 8 [.nilFunc] := ⟨by kernel_rfl⟩
instance : Und Try.prog 2 (TypeDesc.int IntKind.i64) := ⟨Try.underlying2⟩
instance : Inf Try.prog 2 1 8 [.int .i64 0] := ⟨by kernel_rfl⟩
instance : Und Try.prog 3 (TypeDesc.int IntKind.i64) := ⟨Try.underlying3⟩
instance : Inf Try.prog 3 1 8 [.int .i64 0] := ⟨by kernel_rfl⟩
instance : Und Try.prog 4 TypeDesc.bool := ⟨Try.underlying4⟩
instance : Inf Try.prog 4 1 1 [.bool false] := ⟨by kernel_rfl⟩
instance : Und Try.prog 20 (TypeDesc.interface #[]) := ⟨Try.underlying20⟩
instance : Inf Try.prog 20 1 16 [.nilIface] := ⟨by kernel_rfl⟩
instance : Und Try.prog 25 (TypeDesc.slice 36) := ⟨Try.underlying25⟩
instance : Inf Try.prog 25 1 24 [.slice none 0 0] := ⟨by kernel_rfl⟩
instance : Und Try.prog 36 (TypeDesc.float FloatKind.f64) := ⟨Try.underlying36⟩
instance : Inf Try.prog 36 1 8 [.float .f64 0] := ⟨by kernel_rfl⟩
instance : Und Try.prog 37 (TypeDesc.slice 71) := ⟨Try.underlying37⟩
instance : Inf Try.prog 37 1 24 [.slice none 0 0] := ⟨by kernel_rfl⟩
instance : Und Try.prog 57 (TypeDesc.struct #[{ name := "X", type := 36, offset := 0, embedded := false, tag := "", pkgPath := "", byteOffset := 0 }, { name := "Y", type := 36, offset := 1, embedded := false, tag := "", pkgPath := "", byteOffset := 8 }]) := ⟨Try.underlying57⟩
instance : Inf Try.prog 57 2 16 [.float .f64 0, .float .f64 0] := ⟨by kernel_rfl⟩
instance : Und Try.prog 64 (TypeDesc.slice 189) := ⟨Try.underlying64⟩
instance : Inf Try.prog 64 1 24 [.slice none 0 0] := ⟨by kernel_rfl⟩
instance : Und Try.prog 66 (TypeDesc.struct #[{ name := "Neg", type := 4, offset := 0, embedded := false, tag := "", pkgPath := "", byteOffset := 0 }, { name := "L", type := 64, offset := 1, embedded := false, tag := "", pkgPath := "", byteOffset := 8 }]) := ⟨Try.underlying66⟩
instance : Inf Try.prog 66 2 32 [.bool false, .slice none 0 0] := ⟨by kernel_rfl⟩
instance : Und Try.prog 68 (TypeDesc.struct #[{ name := "N", type := 66, offset := 0, embedded := false, tag := "", pkgPath := "", byteOffset := 0 }, { name := "E", type := 3, offset := 2, embedded := false, tag := "", pkgPath := "", byteOffset := 32 }]) := ⟨Try.underlying68⟩
instance : Inf Try.prog 68 3 40 [.bool false, .slice none 0 0, .int .i64 0] := ⟨by kernel_rfl⟩
instance : Und Try.prog 71 (TypeDesc.struct #[{ name := "X", type := 68, offset := 0, embedded := false, tag := "", pkgPath := "", byteOffset := 0 }, { name := "Y", type := 68, offset := 3, embedded := false, tag := "", pkgPath := "", byteOffset := 40 }]) := ⟨Try.underlying71⟩
instance : Inf Try.prog 71 6 80 [.bool false, .slice none 0 0, .int .i64 0, .bool false, .slice none 0 0, .int .i64 0] := ⟨by kernel_rfl⟩
instance : Und Try.prog 93 (TypeDesc.slice 57) := ⟨Try.underlying93⟩
instance : Inf Try.prog 93 1 24 [.slice none 0 0] := ⟨by kernel_rfl⟩
instance : Und Try.prog 94 (TypeDesc.tuple #[93, 4]) := ⟨Try.underlying94⟩
instance : Und Try.prog 97 (TypeDesc.tuple #[3, 4]) := ⟨Try.underlying97⟩
instance : Und Try.prog 119 (TypeDesc.int IntKind.u64) := ⟨Try.underlying119⟩
instance : Inf Try.prog 119 1 8 [.int .u64 0] := ⟨by kernel_rfl⟩
instance : Und Try.prog 140 (TypeDesc.slice 36) := ⟨Try.underlying140⟩
instance : Inf Try.prog 140 1 24 [.slice none 0 0] := ⟨by kernel_rfl⟩
instance : Und Try.prog 164 (TypeDesc.int IntKind.i64) := ⟨Try.underlying164⟩
instance : Inf Try.prog 164 1 8 [.int .i64 0] := ⟨by kernel_rfl⟩
instance : Und Try.prog 166 (TypeDesc.int IntKind.i64) := ⟨Try.underlying166⟩
instance : Inf Try.prog 166 1 8 [.int .i64 0] := ⟨by kernel_rfl⟩
instance : Und Try.prog 189 (TypeDesc.int IntKind.u32) := ⟨Try.underlying189⟩
instance : Inf Try.prog 189 1 4 [.int .u32 0] := ⟨by kernel_rfl⟩
instance : Und Try.prog 212 (TypeDesc.struct #[{ name := "p", type := 140, offset := 0, embedded := false, tag := "", pkgPath := "pub-orthodrome/pub/gogeom/xy/inner/raycrossing", byteOffset := 0 }, { name := "crossingCount", type := 3, offset := 1, embedded := false, tag := "", pkgPath := "pub-orthodrome/pub/gogeom/xy/inner/raycrossing", byteOffset := 24 }, { name := "isPointOnSegment", type := 4, offset := 2, embedded := false, tag := "", pkgPath := "pub-orthodrome/pub/gogeom/xy/inner/raycrossing", byteOffset := 32 }]) := ⟨Try.underlying212⟩
instance : Inf Try.prog 212 3 40 [.slice none 0 0, .int .i64 0, .bool false] := ⟨by kernel_rfl⟩
instance : Und Try.prog 217 (TypeDesc.pointer 212) := ⟨Try.underlying217⟩
instance : Inf Try.prog 217 1 8 [.pointer none] := ⟨by kernel_rfl⟩
instance : Und Try.prog 218 (TypeDesc.int IntKind.i64) := ⟨Try.underlying218⟩
instance : Inf Try.prog 218 1 8 [.int .i64 0] := ⟨by kernel_rfl⟩
instance : FieldAt Try.prog 57 0 0 := .mk' Try.underlying57 rfl rfl (by kernel_rfl)
instance : FieldAt Try.prog 57 1 1 := .mk' Try.underlying57 rfl rfl (by kernel_rfl)
instance : FieldAt Try.prog 66 0 0 := .mk' Try.underlying66 rfl rfl (by kernel_rfl)
instance : FieldAt Try.prog 66 1 1 := .mk' Try.underlying66 rfl rfl (by kernel_rfl)
instance : FieldAt Try.prog 68 0 0 := .mk' Try.underlying68 rfl rfl (by kernel_rfl)
instance : FieldAt Try.prog 68 1 2 := .mk' Try.underlying68 rfl rfl (by kernel_rfl)
instance : FieldAt Try.prog 71 0 0 := .mk' Try.underlying71 rfl rfl (by kernel_rfl)
instance : FieldAt Try.prog 71 1 3 := .mk' Try.underlying71 rfl rfl (by kernel_rfl)
instance : FieldAt Try.prog 212 0 0 := .mk' Try.underlying212 rfl rfl (by kernel_rfl)
instance : FieldAt Try.prog 212 1 1 := .mk' Try.underlying212 rfl rfl (by kernel_rfl)
instance : FieldAt Try.prog 212 2 2 := .mk' Try.underlying212 rfl rfl (by kernel_rfl)
instance : Places Try.prog [{ name := "x", type := 2, offset := 0, embedded := false, tag := "", pkgPath := "runtime", byteOffset := 0 }, { name := "y", type := 3, offset := 1, embedded := false, tag := "", pkgPath := "runtime", byteOffset := 8 }, { name := "signed", type := 4, offset := 2, embedded := false, tag := "", pkgPath := "runtime", byteOffset := 16 }, { name := "code", type := 6, offset := 3, embedded := false, tag := "", pkgPath := "runtime", byteOffset := 17 }] [(0, 1), (1, 1), (2, 1), (3, 1)] := ⟨by kernel_rfl⟩
instance : Places Try.prog [{ name := "msg", type := 9, offset := 0, embedded := false, tag := "", pkgPath := "runtime", byteOffset := 0 }, { name := "addr", type := 12, offset := 1, embedded := false, tag := "", pkgPath := "runtime", byteOffset := 16 }] [(0, 1), (1, 1)] := ⟨by kernel_rfl⟩
instance : Places Try.prog [{ name := "typ", type := 17, offset := 0, embedded := false, tag := "", pkgPath := "internal/runtime/maps", byteOffset := 0 }] [(0, 1)] := ⟨by kernel_rfl⟩
instance : Places Try.prog [{ name := "Point", type := 25, offset := 0, embedded := false, tag := "", pkgPath := "", byteOffset := 0 }, { name := "Plane", type := 3, offset := 1, embedded := false, tag := "", pkgPath := "", byteOffset := 24 }, { name := "Left", type := 3, offset := 2, embedded := false, tag := "", pkgPath := "", byteOffset := 32 }, { name := "Right", type := 3, offset := 3, embedded := false, tag := "", pkgPath := "", byteOffset := 40 }, { name := "Min", type := 25, offset := 4, embedded := false, tag := "", pkgPath := "", byteOffset := 48 }, { name := "Max", type := 25, offset := 5, embedded := false, tag := "", pkgPath := "", byteOffset := 72 }] [(0, 1), (1, 1), (2, 1), (3, 1), (4, 1), (5, 1)] := ⟨by kernel_rfl⟩
instance : Places Try.prog [{ name := "Point", type := 25, offset := 0, embedded := false, tag := "", pkgPath := "", byteOffset := 0 }, { name := "Dist", type := 36, offset := 1, embedded := false, tag := "", pkgPath := "", byteOffset := 24 }] [(0, 1), (1, 1)] := ⟨by kernel_rfl⟩
instance : Places Try.prog [{ name := "X", type := 36, offset := 0, embedded := false, tag := "", pkgPath := "", byteOffset := 0 }, { name := "Y", type := 36, offset := 1, embedded := false, tag := "", pkgPath := "", byteOffset := 8 }] [(0, 1), (1, 1)] := ⟨by kernel_rfl⟩
instance : Places Try.prog [{ name := "X", type := 36, offset := 0, embedded := false, tag := "", pkgPath := "", byteOffset := 0 }, { name := "Y", type := 36, offset := 1, embedded := false, tag := "", pkgPath := "", byteOffset := 8 }, { name := "Z", type := 36, offset := 2, embedded := false, tag := "", pkgPath := "", byteOffset := 16 }] [(0, 1), (1, 1), (2, 1)] := ⟨by kernel_rfl⟩
instance : Places Try.prog [{ name := "Neg", type := 4, offset := 0, embedded := false, tag := "", pkgPath := "", byteOffset := 0 }, { name := "L", type := 64, offset := 1, embedded := false, tag := "", pkgPath := "", byteOffset := 8 }] [(0, 1), (1, 1)] := ⟨by kernel_rfl⟩
instance : Places Try.prog [{ name := "N", type := 66, offset := 0, embedded := false, tag := "", pkgPath := "", byteOffset := 0 }, { name := "E", type := 3, offset := 2, embedded := false, tag := "", pkgPath := "", byteOffset := 32 }] [(0, 2), (2, 1)] := ⟨by kernel_rfl⟩
instance : Places Try.prog [{ name := "X", type := 68, offset := 0, embedded := false, tag := "", pkgPath := "", byteOffset := 0 }, { name := "Y", type := 68, offset := 3, embedded := false, tag := "", pkgPath := "", byteOffset := 40 }] [(0, 3), (3, 3)] := ⟨by kernel_rfl⟩
instance : Places Try.prog [{ name := "X", type := 68, offset := 0, embedded := false, tag := "", pkgPath := "", byteOffset := 0 }, { name := "Y", type := 68, offset := 3, embedded := false, tag := "", pkgPath := "", byteOffset := 40 }, { name := "Z", type := 68, offset := 6, embedded := false, tag := "", pkgPath := "", byteOffset := 80 }] [(0, 3), (3, 3), (6, 3)] := ⟨by kernel_rfl⟩
instance : Places Try.prog [{ name := "N", type := 68, offset := 0, embedded := false, tag := "", pkgPath := "", byteOffset := 0 }, { name := "D", type := 68, offset := 3, embedded := false, tag := "", pkgPath := "", byteOffset := 40 }] [(0, 3), (3, 3)] := ⟨by kernel_rfl⟩
instance : Places Try.prog [{ name := "Point", type := 25, offset := 0, embedded := false, tag := "", pkgPath := "", byteOffset := 0 }, { name := "Radius", type := 36, offset := 1, embedded := false, tag := "", pkgPath := "", byteOffset := 24 }, { name := "Closer", type := 3, offset := 2, embedded := false, tag := "", pkgPath := "", byteOffset := 32 }, { name := "Further", type := 3, offset := 3, embedded := false, tag := "", pkgPath := "", byteOffset := 40 }] [(0, 1), (1, 1), (2, 1), (3, 1)] := ⟨by kernel_rfl⟩
instance : Places Try.prog [{ name := "Root", type := 169, offset := 0, embedded := false, tag := "", pkgPath := "", byteOffset := 0 }, { name := "Count", type := 3, offset := 1, embedded := false, tag := "", pkgPath := "", byteOffset := 8 }] [(0, 1), (1, 1)] := ⟨by kernel_rfl⟩
instance : Places Try.prog [{ name := "Root", type := 180, offset := 0, embedded := false, tag := "", pkgPath := "", byteOffset := 0 }, { name := "Count", type := 3, offset := 1, embedded := false, tag := "", pkgPath := "", byteOffset := 8 }] [(0, 1), (1, 1)] := ⟨by kernel_rfl⟩
instance : Places Try.prog [{ name := "Point", type := 132, offset := 0, embedded := false, tag := "", pkgPath := "", byteOffset := 0 }, { name := "Radius", type := 36, offset := 1, embedded := false, tag := "", pkgPath := "", byteOffset := 16 }, { name := "Closer", type := 180, offset := 2, embedded := false, tag := "", pkgPath := "", byteOffset := 24 }, { name := "Further", type := 180, offset := 3, embedded := false, tag := "", pkgPath := "", byteOffset := 32 }] [(0, 1), (1, 1), (2, 1), (3, 1)] := ⟨by kernel_rfl⟩
instance : Places Try.prog [{ name := "Point", type := 109, offset := 0, embedded := false, tag := "", pkgPath := "", byteOffset := 0 }, { name := "Plane", type := 197, offset := 1, embedded := false, tag := "", pkgPath := "", byteOffset := 16 }, { name := "Left", type := 169, offset := 2, embedded := false, tag := "", pkgPath := "", byteOffset := 24 }, { name := "Right", type := 169, offset := 3, embedded := false, tag := "", pkgPath := "", byteOffset := 32 }, { name := "Bounding", type := 110, offset := 4, embedded := true, tag := "", pkgPath := "", byteOffset := 40 }] [(0, 1), (1, 1), (2, 1), (3, 1), (4, 1)] := ⟨by kernel_rfl⟩
instance : Places Try.prog [{ name := "s", type := 9, offset := 0, embedded := false, tag := "", pkgPath := "errors", byteOffset := 0 }] [(0, 1)] := ⟨by kernel_rfl⟩
instance : Places Try.prog [{ name := "p", type := 140, offset := 0, embedded := false, tag := "", pkgPath := "pub-orthodrome/pub/gogeom/xy/inner/raycrossing", byteOffset := 0 }, { name := "crossingCount", type := 3, offset := 1, embedded := false, tag := "", pkgPath := "pub-orthodrome/pub/gogeom/xy/inner/raycrossing", byteOffset := 24 }, { name := "isPointOnSegment", type := 4, offset := 2, embedded := false, tag := "", pkgPath := "pub-orthodrome/pub/gogeom/xy/inner/raycrossing", byteOffset := 32 }] [(0, 1), (1, 1), (2, 1)] := ⟨by kernel_rfl⟩
instance : Places Try.prog [{ name := "Min", type := 109, offset := 0, embedded := false, tag := "", pkgPath := "", byteOffset := 0 }, { name := "Max", type := 109, offset := 1, embedded := false, tag := "", pkgPath := "", byteOffset := 16 }] [(0, 1), (1, 1)] := ⟨by kernel_rfl⟩
instance : Places Try.prog [{ name := "_interface", type := 17, offset := 0, embedded := false, tag := "", pkgPath := "runtime", byteOffset := 0 }, { name := "concrete", type := 17, offset := 1, embedded := false, tag := "", pkgPath := "runtime", byteOffset := 8 }, { name := "asserted", type := 17, offset := 2, embedded := false, tag := "", pkgPath := "runtime", byteOffset := 16 }, { name := "missingMethod", type := 9, offset := 3, embedded := false, tag := "", pkgPath := "runtime", byteOffset := 24 }] [(0, 1), (1, 1), (2, 1), (3, 1)] := ⟨by kernel_rfl⟩
instance : Places Try.prog [{ name := "_", type := 225, offset := 0, embedded := false, tag := "", pkgPath := "runtime", byteOffset := 0 }] [(0, 0)] := ⟨by kernel_rfl⟩
instance : Places Try.prog [{ name := "Size_", type := 12, offset := 0, embedded := false, tag := "", pkgPath := "", byteOffset := 0 }, { name := "PtrBytes", type := 12, offset := 1, embedded := false, tag := "", pkgPath := "", byteOffset := 8 }, { name := "Hash", type := 189, offset := 2, embedded := false, tag := "", pkgPath := "", byteOffset := 16 }, { name := "TFlag", type := 228, offset := 3, embedded := false, tag := "", pkgPath := "", byteOffset := 20 }, { name := "Align_", type := 5, offset := 4, embedded := false, tag := "", pkgPath := "", byteOffset := 21 }, { name := "FieldAlign_", type := 5, offset := 5, embedded := false, tag := "", pkgPath := "", byteOffset := 22 }, { name := "Kind_", type := 229, offset := 6, embedded := false, tag := "", pkgPath := "", byteOffset := 23 }, { name := "Equal", type := 230, offset := 7, embedded := false, tag := "", pkgPath := "", byteOffset := 24 }, { name := "GCData", type := 231, offset := 8, embedded := false, tag := "", pkgPath := "", byteOffset := 32 }, { name := "Str", type := 232, offset := 9, embedded := false, tag := "", pkgPath := "", byteOffset := 40 }, { name := "PtrToThis", type := 233, offset := 10, embedded := false, tag := "", pkgPath := "", byteOffset := 44 }] [(0, 1), (1, 1), (2, 1), (3, 1), (4, 1), (5, 1), (6, 1), (7, 1), (8, 1), (9, 1), (10, 1)] := ⟨by kernel_rfl⟩
instance : Enters Try.prog 9 := ⟨Try.f9, Try.func9, rfl, rfl⟩
instance : Enters Try.prog 16 := ⟨Try.f16, Try.func16, rfl, rfl⟩
instance : Enters Try.prog 25 := ⟨Try.f25, Try.func25, rfl, rfl⟩
instance : Enters Try.prog 31 := ⟨Try.f31, Try.func31, rfl, rfl⟩
instance : Enters Try.prog 40 := ⟨Try.f40, Try.func40, rfl, rfl⟩
instance : Enters Try.prog 41 := ⟨Try.f41, Try.func41, rfl, rfl⟩
instance : Enters Try.prog 42 := ⟨Try.f42, Try.func42, rfl, rfl⟩
instance : Enters Try.prog 44 := ⟨Try.f44, Try.func44, rfl, rfl⟩
instance : Enters Try.prog 45 := ⟨Try.f45, Try.func45, rfl, rfl⟩
instance : Enters Try.prog 46 := ⟨Try.f46, Try.func46, rfl, rfl⟩
instance : Enters Try.prog 47 := ⟨Try.f47, Try.func47, rfl, rfl⟩
instance : Enters Try.prog 48 := ⟨Try.f48, Try.func48, rfl, rfl⟩
instance : Enters Try.prog 57 := ⟨Try.f57, Try.func57, rfl, rfl⟩
instance : Enters Try.prog 60 := ⟨Try.f60, Try.func60, rfl, rfl⟩
instance : Enters Try.prog 80 := ⟨Try.f80, Try.func80, rfl, rfl⟩
instance : Enters Try.prog 81 := ⟨Try.f81, Try.func81, rfl, rfl⟩
instance : Enters Try.prog 82 := ⟨Try.f82, Try.func82, rfl, rfl⟩
instance : Enters Try.prog 91 := ⟨Try.f91, Try.func91, rfl, rfl⟩
instance : Enters Try.prog 93 := ⟨Try.f93, Try.func93, rfl, rfl⟩
instance : Enters Try.prog 96 := ⟨Try.f96, Try.func96, rfl, rfl⟩
instance : Enters Try.prog 98 := ⟨Try.f98, Try.func98, rfl, rfl⟩
instance : Enters Try.prog 99 := ⟨Try.f99, Try.func99, rfl, rfl⟩
instance : Enters Try.prog 100 := ⟨Try.f100, Try.func100, rfl, rfl⟩
instance : Enters Try.prog 102 := ⟨Try.f102, Try.func102, rfl, rfl⟩
instance : Enters Try.prog 104 := ⟨Try.f104, Try.func104, rfl, rfl⟩
instance : Enters Try.prog 105 := ⟨Try.f105, Try.func105, rfl, rfl⟩
instance : Enters Try.prog 106 := ⟨Try.f106, Try.func106, rfl, rfl⟩
instance : Enters Try.prog 107 := ⟨Try.f107, Try.func107, rfl, rfl⟩
instance : Enters Try.prog 108 := ⟨Try.f108, Try.func108, rfl, rfl⟩
instance : Enters Try.prog 109 := ⟨Try.f109, Try.func109, rfl, rfl⟩
instance : Enters Try.prog 120 := ⟨Try.f120, Try.func120, rfl, rfl⟩
instance : Enters Try.prog 123 := ⟨Try.f123, Try.func123, rfl, rfl⟩
instance : Enters Try.prog 124 := ⟨Try.f124, Try.func124, rfl, rfl⟩
instance : Enters Try.prog 127 := ⟨Try.f127, Try.func127, rfl, rfl⟩
instance : Enters Try.prog 128 := ⟨Try.f128, Try.func128, rfl, rfl⟩
instance : Enters Try.prog 129 := ⟨Try.f129, Try.func129, rfl, rfl⟩
instance : Enters Try.prog 130 := ⟨Try.f130, Try.func130, rfl, rfl⟩
instance : Enters Try.prog 131 := ⟨Try.f131, Try.func131, rfl, rfl⟩
instance : Enters Try.prog 140 := ⟨Try.f140, Try.func140, rfl, rfl⟩
instance : Enters Try.prog 141 := ⟨Try.f141, Try.func141, rfl, rfl⟩
instance : Enters Try.prog 142 := ⟨Try.f142, Try.func142, rfl, rfl⟩
instance : Enters Try.prog 143 := ⟨Try.f143, Try.func143, rfl, rfl⟩
instance : Enters Try.prog 144 := ⟨Try.f144, Try.func144, rfl, rfl⟩
instance : Enters Try.prog 145 := ⟨Try.f145, Try.func145, rfl, rfl⟩
instance : Enters Try.prog 148 := ⟨Try.f148, Try.func148, rfl, rfl⟩
instance : Enters Try.prog 150 := ⟨Try.f150, Try.func150, rfl, rfl⟩
theorem mixed : Try.prog.follows .mixedOrders = true := by kernel_rfl
end Go.Lg

set_option linter.unusedVariables false
set_option linter.unusedSimpArgs false
namespace Go.Lg

/-- The slice v reads as0 ws (elements of one cell each). -/
def Sl (G : Heap) (v : Value) (ws : List Value) : Prop :=
  ∃ a cap, v = .slice a ws.length cap ∧ ws.length ≤ cap ∧ (ws ≠ [] → ∃ k off l T fz, a = some ⟨k, off, none⟩ ∧ (k, Obj.cells ⟨l⟩ T fz) ∈ G ∧ (l.drop off).take ws.length = ws)

theorem Sl.mono {G G' v ws} (h : Sl G v ws) (hG : ∀ e ∈ G, e ∈ G') : Sl G' v ws := by
  obtain ⟨a, cap, h1, h0, h2⟩ := h
  exact ⟨a, cap, h1, h0, fun hn => let ⟨k, off, l, T, fz, h3, h4, h5⟩ := h2 hn; ⟨k, off, l, T, fz, h3, hG _ h4, h5⟩⟩

theorem Sl.at {G v ws} (h : Sl G v ws) {i : Nat} {x : Value} (hx : ws[i]? = some x) :
    ∃ k off l T fz cap, v = .slice (some ⟨k, off, none⟩) ws.length cap ∧ (k, Obj.cells ⟨l⟩ T fz) ∈ G ∧ l[off + i]? = some x ∧ i < ws.length := by
  obtain ⟨a, cap, h1, h0, h2⟩ := h
  have hn : ws ≠ [] := fun e => by rw [e] at hx; cases hx
  obtain ⟨k, off, l, T, fz, h3, h4, h5⟩ := h2 hn
  refine ⟨k, off, l, T, fz, cap, by rw [h1, h3], h4, cut_get h5 hx, ?_⟩
  rcases Nat.lt_or_ge i ws.length with h | h
  · exact h
  · rw [List.getElem?_eq_none h] at hx; cases hx

def fl (x : Nat) : Value := .float .f64 x

/-- A slice of floats; a slice of such slices. -/
def FS (G : Heap) (v : Value) (xs : List Nat) : Prop := Sl G v (xs.map fl)
def All2 {α β : Type} (p : α → β → Prop) : List α → List β → Prop
  | [], [] => True
  | a :: as0, b :: bs => p a b ∧ All2 p as0 bs
  | _, _ => False
def SS (G : Heap) (v : Value) (xss : List (List Nat)) : Prop := ∃ ws, Sl G v ws ∧ All2 (FS G) ws xss

theorem FS.mono {G G' v xs} (h : FS G v xs) (hG : ∀ e ∈ G, e ∈ G') : FS G' v xs := Sl.mono h hG
theorem All2.mono {α β : Type} {p q : α → β → Prop} (hpq : ∀ a b, p a b → q a b) : ∀ {as0 bs}, All2 p as0 bs → All2 q as0 bs := by
  intro as0
  induction as0 with
  | nil => intro bs h; cases bs with
    | nil => trivial
    | cons => exact h.elim
  | cons a as0 ih => intro bs h; cases bs with
    | nil => exact h.elim
    | cons b bs => exact ⟨hpq _ _ h.1, ih h.2⟩
theorem All2.len {α β : Type} {p : α → β → Prop} : ∀ {as0 bs}, All2 p as0 bs → as0.length = bs.length := by
  intro as0
  induction as0 with
  | nil => intro bs h; cases bs with
    | nil => rfl
    | cons => exact h.elim
  | cons a as0 ih => intro bs h; cases bs with
    | nil => exact h.elim
    | cons b bs => simp [ih h.2]
theorem All2.get {α β : Type} {p : α → β → Prop} : ∀ {as0 bs}, All2 p as0 bs → ∀ {i : Nat} {b : β}, bs[i]? = some b → ∃ a, as0[i]? = some a ∧ p a b := by
  intro as0
  induction as0 with
  | nil => intro bs h i b hb; cases bs with
    | nil => cases hb
    | cons => exact h.elim
  | cons a as0 ih => intro bs h i b hb; cases bs with
    | nil => exact h.elim
    | cons c bs => cases i with
      | zero => simp at hb; subst hb; exact ⟨a, rfl, h.1⟩
      | succ i => simpa using ih h.2 (by simpa using hb)
theorem SS.mono {G G' v xs} (h : SS G v xs) (hG : ∀ e ∈ G, e ∈ G') : SS G' v xs :=
  let ⟨ws, h1, h2⟩ := h; ⟨ws, h1.mono hG, h2.mono fun _ _ h => h.mono hG⟩

theorem FS.val {G v xs} (h : FS G v xs) : ∃ a cap, v = .slice a xs.length cap := by
  obtain ⟨a, cap, h1, _⟩ := h
  exact ⟨a, cap, by simpa using h1⟩
theorem FS.at {G v xs} (h : FS G v xs) {i x : Nat} (hx : xs[i]? = some x) :
    ∃ k off l T fz cap, v = .slice (some ⟨k, off, none⟩) xs.length cap ∧ (k, Obj.cells ⟨l⟩ T fz) ∈ G ∧ l[off + i]? = some (.float .f64 x) ∧ i < xs.length := by
  obtain ⟨k, off, l, T, fz, cap, h1, h2, h3, h4⟩ := Sl.at h (i := i) (x := fl x) (by simp [hx])
  exact ⟨k, off, l, T, fz, cap, by simpa using h1, h2, h3, by simpa using h4⟩
theorem SS.val {G v xss} (h : SS G v xss) : ∃ a cap, v = .slice a xss.length cap := by
  obtain ⟨ws, ⟨a, cap, h1, _⟩, h2⟩ := h
  exact ⟨a, cap, by rw [h1, h2.len]⟩
theorem SS.at {G v xss} (h : SS G v xss) {i : Nat} {xs} (hx : xss[i]? = some xs) :
    ∃ k off l T fz cap u, v = .slice (some ⟨k, off, none⟩) xss.length cap ∧ (k, Obj.cells ⟨l⟩ T fz) ∈ G ∧ l[off + i]? = some u ∧ FS G u xs ∧ i < xss.length := by
  obtain ⟨ws, h1, h2⟩ := h
  obtain ⟨u, hu, hf⟩ := h2.get hx
  obtain ⟨k, off, l, T, fz, cap, h3, h4, h5, h6⟩ := h1.at hu
  exact ⟨k, off, l, T, fz, cap, u, by rw [h3, h2.len], h4, h5, hf, by rw [← h2.len]; exact h6⟩

theorem fs_new {G : Heap} {k T fz} (xs : List Nat) (hm : (k, Obj.cells ⟨xs.map fl⟩ T fz) ∈ G) : FS G (.slice (some ⟨k, 0, none⟩) xs.length xs.length) xs :=
  ⟨_, xs.length, by simp, by simp, fun _ => ⟨k, 0, _, T, fz, rfl, hm, by rw [List.drop_zero]; exact List.take_length⟩⟩

theorem ss_one {G : Heap} {k k2 T fz T2 fz2} {n : Nat} (xs : List Nat) (hn : xs.length = n) (hm : (k, Obj.cells ⟨[.slice (some ⟨k2, 0, none⟩) n n]⟩ T fz) ∈ G)
    (hm2 : (k2, Obj.cells ⟨xs.map fl⟩ T2 fz2) ∈ G) : SS G (.slice (some ⟨k, 0, none⟩) 1 1) [xs] := by
  subst hn
  exact ⟨[.slice (some ⟨k2, 0, none⟩) xs.length xs.length], ⟨_, 1, rfl, by simp, fun _ => ⟨k, 0, _, T, fz, rfl, hm, rfl⟩⟩, fs_new xs hm2, trivial⟩

theorem wrap_in {n : Int} (h0 : -9223372036854775808 ≤ n) (h1 : n < 9223372036854775808) : IntKind.i64.wrap n = n := by
  have key : IntKind.i64.wrap n = if n % 18446744073709551616 ≥ 9223372036854775808 then n % 18446744073709551616 - 18446744073709551616 else n % 18446744073709551616 := by
    simp [IntKind.wrap, IntKind.signed, IntKind.bits]
  rw [key]
  split <;> omega

theorem wrap_nat {j : Nat} (h : j < 9223372036854775807) : IntKind.i64.wrap ((j : Int) + 1) = ((j + 1 : Nat) : Int) := by
  rw [wrap_in (by omega) (by omega)]; omega

/-- A counter's next value. -/
theorem next_nat {j : Nat} (h : j < 9223372036854775807) : some (Value.int .i64 (IntKind.i64.wrap ((j : Int) + 1))) = some (Value.int .i64 ((j + 1 : Nat) : Int)) := by
  rw [wrap_nat h]

theorem lss_nat {j n : Nat} : icmp .lss (j : Int) (n : Int) = decide (j < n) := by
  simp [icmp]

end Go.Lg

set_option linter.unusedVariables false
set_option linter.unusedSimpArgs false
namespace Go.Lg
open Go.ChangeShapes Go.WideShapes Go.RowKit Go.Deep

/-- All blocks of a world. -/
def all (W : World) : Heap := W.heap.toList.zipIdx.map fun x => (x.2, x.1)

theorem mem_all {W : World} {k : Nat} {o : Obj} : (k, o) ∈ all W ↔ W.heap[k]? = some o := by
  unfold all
  simp only [List.mem_map, Prod.mk.injEq, Prod.exists, List.mem_zipIdx_iff_getElem?]
  constructor
  · rintro ⟨a, b, h, rfl, rfl⟩; simpa using h
  · intro h; exact ⟨o, k, by simpa using h, rfl, rfl⟩

theorem sees_all (W : World) : Sees W (all W) W := by
  refine ⟨rfl, rfl, rfl, ?_, fun k o h => mem_all.1 h⟩
  unfold all
  rw [List.map_map]
  have : (Prod.fst ∘ fun (x : Obj × Nat) => (x.2, x.1)) = Prod.snd := by funext x; rfl
  rw [this, List.zipIdx_map_snd]
  exact List.nodup_range' ..

theorem Sees.below {W w : World} (h : Sees W (all W) w) : Below W.heap.size W w := by
  have hb : ∀ k, k < W.heap.size → w.heap[k]? = W.heap[k]? := fun k hk => by
    rw [h.mem k W.heap[k] (mem_all.2 (Array.getElem?_eq_getElem hk)), Array.getElem?_eq_getElem hk]
  refine ⟨h.os, h.tape, h.output, ?_, hb⟩
  rcases Nat.eq_zero_or_pos W.heap.size with h0 | h0
  · omega
  · have := hb (W.heap.size - 1) (by omega)
    rw [show W.heap[W.heap.size - 1]? = some W.heap[W.heap.size - 1] from Array.getElem?_eq_getElem (by omega)] at this
    have hlt : W.heap.size - 1 < w.heap.size := by
      rcases Nat.lt_or_ge (W.heap.size - 1) w.heap.size with h | h
      · exact h
      · rw [Array.getElem?_eq_none h] at this; cases this
    omega

/-- A call's contract, as0 the claim asks it. -/
theorem calls_of_does {P : Program} {f : FuncId} [Enters P f] {args : List Value} {W w : World} {H : Heap} {K : Value → Heap → Prop} (h : Does P f args H K) (hs : Sees W H w) :
    Calls P f ⟨args⟩ w (RetK W K) := by
  have := h.run W w hs ⟨some 0, .ready 0, 0, "", #[], none⟩ ⟨#[undef], []⟩ (fun a w' => ∃ v H', a.tmps[0]? = some v ∧ Sees W H' w' ∧ K v H') (fun _ _ _ => False)
    (fun v H' w' hs' hk => ⟨v, H', by simp [Act.put], hs', hk⟩)
  rw [run_callFunc, Oper.upon_enter] at this
  refine this.mono fun e w' he => ?_
  cases e with
  | returned v =>
    obtain ⟨u, H', h1, h2, h3⟩ := he
    simp [Act.put] at h1
    exact ⟨u, H', by rw [h1], h2, h3⟩
  | panicked c => exact he.elim
  | outgrown => exact he.elim fun _ h => h.elim fun _ h => h.elim

section post
variable {H : Type} {enc : TypeId × Value → H} {P : Program}

theorem trodAll_stays (hl : laidOutB P = true) {W W' : World} (hb : Below W.heap.size W W') : ∀ (ts : List TypeId) (vs : List Value) (ds : List (DataW H)) (ps : List MemPlace),
    (∀ t ∈ ts, P.readableRec t = true ∧ t < P.types.size) → DataW.TrodAll enc P W 0 (fun _ => true) true ts vs ds ps → (∀ x ∈ ps, x.block < W.heap.size) →
    DataW.TrodAll enc P W' 0 (fun b => decide (b < W.heap.size)) true ts vs ds ps := by
  intro ts
  induction ts with
  | nil => intro vs ds ps _ h _; cases vs <;> cases ds <;> simp_all [DataW.TrodAll]
  | cons t ts ih =>
    intro vs ds ps ht h hp
    obtain ⟨v, vs', d, ds', p, q, rfl, rfl, rfl, h1, h2⟩ := trodAll_cons h
    obtain ⟨h3, h4⟩ := ht t List.mem_cons_self
    refine ⟨p, q, Below.trod hl h3 h4 h1 hb (fun x hx => hp x (List.mem_append_left _ hx)), ?_, rfl⟩
    exact ih vs' ds' q (fun t h => ht t (List.mem_cons_of_mem _ h)) h2 (fun x hx => hp x (List.mem_append_right _ hx))

/-- What a law's statement asks behind the call. -/
theorem post_law {f : Func} {s : ChangeSpec} {W W' : World} {args : Array Value} {ds gs : List (DataW H)} {before : List MemPlace} {tb : TypeId} (hl : laidOutB P = true)
    (hts : ∀ t ∈ f.params.toList, P.readableRec t = true ∧ t < P.types.size) (hvars : s.vars = []) (hW : DataW.Whole enc P f.params.toList s.vars false W args.toList ds gs before)
    (hs : s.fn H (ds ++ gs) = { results := [.lit (.bool true)], args := ds }) (hr : f.resultTypes = #[tb]) (htb : P.underlying tb = some .bool) (hb : Below W.heap.size W W') :
    s.post enc P f false true false false W args (.bool true) W' := by
  have hlt := hW.lt
  have hW0 := hW
  obtain ⟨p, q, hA, hV, rfl, hfz, hnd⟩ := hW
  rw [hvars] at hV
  obtain ⟨rfl, rfl⟩ := trodVars_none hV
  refine ⟨ds, [], p ++ [], [], p, [], hW0, ?_, ?_, ?_, ?_, fun h => by cases h⟩
  · rw [hs, hr]
    exact trodAll_cons_mk (p := []) (p' := []) (shut_bool htb true) trodAll_mk0
  · rw [hs]
    refine trodAll_stays hl hb _ _ _ _ hts hA fun x hx => ?_
    have := hlt x (List.mem_append_left _ hx)
    simpa using this
  · rw [hs, hvars]; exact rfl
  · exact hb.frame _
end post

/-! ### Readings -/
section rd
variable {H : Type} {enc : TypeId × Value → H} {P : Program} {W : World} {sp : Nat → Bool} {hd : Bool} {r : Reach} {b0 : Nat} {t : TypeId} {v : Value}

theorem okWide_float {k} (ht : P.underlying t = some (.float k)) (h : Value.okWide P W r b0 t v) : ∃ b, v = .float k b := by
  simp only [Value.okWide, ht, Cell.okWide] at h
  cases v <;> simp_all [Cell.ok]

theorem trod_float {n k c x} (ht : P.underlying t = some (.float k)) (h : DataW.trod enc P W 0 sp hd n t [c] = some x) : ∃ b, c = .float k b ∧ (Lit.float k b).wf = true := by
  cases n with
  | zero => simp [DataW.trod] at h
  | succ n =>
    simp only [DataW.trod, ht] at h
    cases c <;> simp at h
    rename_i k' b
    obtain ⟨⟨rfl, hw⟩, _⟩ := h
    exact ⟨b, rfl, hw⟩

theorem trod_int {n k c x} (ht : P.underlying t = some (.int k)) (h : DataW.trod enc P W 0 sp hd n t [c] = some x) : ∃ b, c = .int k b ∧ (Lit.int k b).wf = true := by
  cases n with
  | zero => simp [DataW.trod] at h
  | succ n =>
    simp only [DataW.trod, ht] at h
    cases c <;> simp at h
    rename_i k' b
    obtain ⟨⟨rfl, hw⟩, _⟩ := h
    exact ⟨b, rfl, hw⟩

theorem wf_f64 {b : Nat} (h : (Lit.float .f64 b).wf = true) : b < 2 ^ 64 := by simpa [Lit.wf] using h
theorem wf_i64 {n : Int} (h : (Lit.int .i64 n).wf = true) : -9223372036854775808 ≤ n ∧ n ≤ 9223372036854775807 := by
  simpa [Lit.wf, IntKind.min, IntKind.max, IntKind.signed, IntKind.bits] using h

/-- A slice of one-cell elements. -/
theorem trod_slice {n e c x} (ht : P.underlying t = some (.slice e)) (he : P.cellsOf e = 1) (h : DataW.trod enc P W 0 sp hd n t [c] = some x) :
    ∃ ws, Sl (all W) c ws ∧ ws.length ≤ 9223372036854775807 ∧ ∀ y ∈ ws, ∃ m z, DataW.trod enc P W 0 sp hd m e [y] = some z := by
  cases n with
  | zero => simp [DataW.trod] at h
  | succ n =>
    simp only [DataW.trod, ht] at h
    cases c with
    | slice a len cap =>
      cases a with
      | none =>
        cases len with
        | zero =>
          cases cap with
          | zero => exact ⟨[], ⟨none, 0, rfl, by simp, fun h => (h rfl).elim⟩, by simp, fun y hy => by cases hy⟩
          | succ => simp at h
        | succ => simp at h
      | some a =>
        simp only [he] at h
        split at h
        · rename_i hc
          obtain ⟨_, hlen, hcap⟩ := hc
          rw [Option.bind_eq_some_iff] at h
          obtain ⟨elems, h1, _⟩ := h
          -- each element
          have hget : ∀ i, i < len → ∃ y z, W.cell? (a.add i) = some y ∧ DataW.trod enc P W 0 sp hd n e [y] = some z := by
            intro i hi
            have h2 : ∀ (l : List Nat) (out : List (DataW H × List MemPlace)), l.mapM (fun i => (W.cells? 0 (a.add (i * 1)) 1).bind (DataW.trod enc P W 0 sp hd n e)) = some out →
                ∀ i ∈ l, ∃ z, (W.cells? 0 (a.add (i * 1)) 1).bind (DataW.trod enc P W 0 sp hd n e) = some z := by
              intro l
              induction l with
              | nil => intro out _ i hi; cases hi
              | cons j l ih =>
                intro out ho i hi
                simp only [List.mapM_cons, Option.bind_eq_bind, Option.bind_eq_some_iff] at ho
                obtain ⟨z, hz, out', ho', _⟩ := ho
                cases hi with
                | head => exact ⟨z, by rw [Option.bind_eq_some_iff]; exact hz⟩
                | tail _ hi => exact ih out' ho' i hi
            obtain ⟨z, hz⟩ := h2 _ _ h1 i (List.mem_range.2 hi)
            rw [Option.bind_eq_some_iff] at hz
            obtain ⟨ys, hy, hz⟩ := hz
            simp only [World.cells?, Nat.zero_le, if_true, Nat.mul_one] at hy
            rw [show List.range 1 = [0] from rfl] at hy
            simp only [List.mapM_cons, List.mapM_nil, Option.bind_eq_bind, Option.bind_eq_some_iff, Option.pure_def, Option.some.injEq] at hy
            obtain ⟨y, hy, _, rfl, rfl⟩ := hy
            exact ⟨y, z, by simpa [Addr.add] using hy, hz⟩
          by_cases h0 : len = 0
          · subst h0
            exact ⟨[], ⟨some a, cap, rfl, by simp, fun h => (h rfl).elim⟩, by simp, fun y hy => by cases hy⟩
          · obtain ⟨y0, _, hy0, _⟩ := hget 0 (by omega)
            have hspot : a.spot = none ∧ ∃ cc T fz, W.heap[a.block]? = some (.cells cc T fz) := by
              simp only [Addr.add, if_true, World.cell?] at hy0
              split at hy0
              · rename_i cc T fz hh
                split at hy0
                · cases hy0
                · rename_i hs; exact ⟨by simpa using hs, cc, T, fz, hh⟩
              · cases hy0
            obtain ⟨hs, cc, T, fz, hh⟩ := hspot
            obtain ⟨k, off, spot⟩ := a
            simp only at hs hh
            subst hs
            obtain ⟨l⟩ := cc
            have hl : ∀ i, i < len → ∃ y z, l[off + i]? = some y ∧ DataW.trod enc P W 0 sp hd n e [y] = some z := by
              intro i hi
              obtain ⟨y, z, hy, hz⟩ := hget i hi
              rw [addr_add] at hy
              simp only [World.cell?, hh] at hy
              exact ⟨y, z, by simpa using hy, hz⟩
            have hll : off + len ≤ l.length := by
              obtain ⟨y, _, hy, _⟩ := hl (len - 1) (by omega)
              have := (List.getElem?_eq_some_iff.1 hy).1
              omega
            have hlen2 : ((l.drop off).take len).length = len := by simp; omega
            refine ⟨(l.drop off).take len, ⟨some ⟨k, off, none⟩, cap, by rw [hlen2], by rw [hlen2]; exact hlen, fun _ => ⟨k, off, l, T, fz, rfl, mem_all.2 hh, by rw [hlen2]⟩⟩, ?_, ?_⟩
            · rw [hlen2]; unfold maxLen at hcap; omega
            · intro y hy
              obtain ⟨i, hi⟩ := List.mem_iff_getElem?.1 hy
              rw [List.getElem?_take] at hi
              split at hi
              · rename_i hlt
                obtain ⟨y', z, hy', hz⟩ := hl i hlt
                rw [List.getElem?_drop, hy'] at hi
                cases hi
                exact ⟨n, z, hz⟩
              · cases hi
        · cases h
    | _ => simp at h

theorem all_floats {ws : List Value} (h : ∀ y ∈ ws, ∃ b, y = Value.float .f64 b ∧ b < 2 ^ 64) : ∃ xs : List Nat, ws = xs.map fl ∧ ∀ x ∈ xs, x < 2 ^ 64 := by
  induction ws with
  | nil => exact ⟨[], rfl, fun x hx => by cases hx⟩
  | cons y ws ih =>
    obtain ⟨b, rfl, hb⟩ := h y List.mem_cons_self
    obtain ⟨xs, rfl, hx⟩ := ih fun y hy => h y (List.mem_cons_of_mem _ hy)
    refine ⟨b :: xs, rfl, fun x hm => ?_⟩
    cases hm with
    | head => exact hb
    | tail _ hm => exact hx x hm

theorem trod_floats {n e c x} (ht : P.underlying t = some (.slice e)) (he : P.cellsOf e = 1) (hf : P.underlying e = some (.float .f64)) (h : DataW.trod enc P W 0 sp hd n t [c] = some x) :
    ∃ xs, FS (all W) c xs ∧ xs.length ≤ 9223372036854775807 ∧ ∀ y ∈ xs, y < 2 ^ 64 := by
  obtain ⟨ws, h1, h2, h3⟩ := trod_slice ht he h
  obtain ⟨xs, rfl, h4⟩ := all_floats (ws := ws) fun y hy => by
    obtain ⟨m, z, hz⟩ := h3 y hy
    obtain ⟨b, rfl, hw⟩ := trod_float hf hz
    exact ⟨b, rfl, wf_f64 hw⟩
  exact ⟨xs, h1, by simpa using h2, h4⟩

/-- A pair of floats, by value. -/
theorem open_p2 {f0 f1 d p} (hs : P.underlying t = some (.struct #[f0, f1])) (hone : oneCellFields P #[f0, f1] = true) (hC : P.cellsOf t = 2) (h0 : P.underlying f0.type = some (.float .f64)) (h1 : P.underlying f1.type = some (.float .f64))
    (hv : Value.okWide P W r b0 t v) (h : DataW.Trod enc P W 0 sp hd t v d p) : ∃ x y, v = .agg #[.float .f64 x, .float .f64 y] ∧ x < 2 ^ 64 ∧ y < 2 ^ 64 := by
  obtain ⟨v0, v1, y0, y1, n, rfl, _, _, e0, e1⟩ := Joins.open_agg2 hs hone hC hv h
  obtain ⟨x, rfl, hx⟩ := trod_float h0 e0
  obtain ⟨y, rfl, hy⟩ := trod_float h1 e1
  exact ⟨x, y, rfl, wf_f64 hx, wf_f64 hy⟩

theorem open_p3 {f0 f1 f2 d p} (hs : P.underlying t = some (.struct #[f0, f1, f2])) (hone : oneCellFields P #[f0, f1, f2] = true) (hC : P.cellsOf t = 3) (h0 : P.underlying f0.type = some (.float .f64)) (h1 : P.underlying f1.type = some (.float .f64))
    (h2 : P.underlying f2.type = some (.float .f64)) (hv : Value.okWide P W r b0 t v) (h : DataW.Trod enc P W 0 sp hd t v d p) :
    ∃ x y z, v = .agg #[.float .f64 x, .float .f64 y, .float .f64 z] ∧ x < 2 ^ 64 ∧ y < 2 ^ 64 ∧ z < 2 ^ 64 := by
  obtain ⟨v0, v1, v2, y0, y1, y2, n, rfl, _, _, e0, e1, e2⟩ := Joins.open_agg3 hs hone hC hv h
  obtain ⟨x, rfl, hx⟩ := trod_float h0 e0
  obtain ⟨y, rfl, hy⟩ := trod_float h1 e1
  obtain ⟨z, rfl, hz⟩ := trod_float h2 e2
  exact ⟨x, y, z, rfl, wf_f64 hx, wf_f64 hy, wf_f64 hz⟩

theorem open_float {k d p} (ht : P.underlying t = some (.float k)) (hv : Value.okWide P W r b0 t v) (h : DataW.Trod enc P W 0 sp hd t v d p) : ∃ x, v = .float k x ∧ (Lit.float k x).wf = true := by
  obtain ⟨b, rfl⟩ := okWide_float ht hv
  obtain ⟨n, hn⟩ := h
  obtain ⟨b', hb, hw⟩ := trod_float ht (show DataW.trod enc P W 0 sp hd n t [.float k b] = _ from hn)
  cases hb
  exact ⟨b, rfl, hw⟩

theorem open_floats {e d p} (ht : P.underlying t = some (.slice e)) (he : P.cellsOf e = 1) (hf : P.underlying e = some (.float .f64)) (hv : Value.okWide P W r b0 t v) (h : DataW.Trod enc P W 0 sp hd t v d p) :
    ∃ xs, FS (all W) v xs ∧ xs.length ≤ 9223372036854775807 ∧ ∀ y ∈ xs, y < 2 ^ 64 := by
  obtain ⟨a, len, cap, rfl⟩ := okWide_slice ht hv
  obtain ⟨n, hn⟩ := h
  exact trod_floats ht he hf (show DataW.trod enc P W 0 sp hd n t [.slice a len cap] = _ from hn)
end rd
end Go.Lg

set_option linter.unusedVariables false
set_option linter.unusedSimpArgs false
namespace Go.Lg
open Ieee

/-- Two to a power. -/
def p2 (e : Int) : Rat := (2 : Rat) ^ e
theorem p2_add (a b : Int) : p2 (a + b) = p2 a * p2 b := Rat.zpow_add (by decide) a b
theorem p2_pos (e : Int) : 0 < p2 e := Rat.zpow_pos (by decide)
theorem p2_zero : p2 0 = 1 := Rat.zpow_zero _
theorem p2_nat (n : Nat) : p2 (n : Int) = ((2 ^ n : Nat) : Rat) := by unfold p2; rw [Rat.zpow_natCast, Rat.natCast_pow]; rfl
theorem p2_one : p2 1 = 2 := Rat.zpow_one _
theorem p2_succ (e : Int) : p2 (e + 1) = 2 * p2 e := by rw [p2_add, p2_one]; grind
theorem p2_inv (e : Int) : p2 (-e) * p2 e = 1 := by rw [← p2_add, Int.add_left_neg, p2_zero]
theorem p2_le {a b : Int} (h : a ≤ b) : p2 a ≤ p2 b := by
  have e : p2 b = p2 (b - a) * p2 a := by rw [← p2_add]; congr 1; omega
  have e2 : p2 (b - a) = ((2 ^ (b - a).toNat : Nat) : Rat) := by rw [← p2_nat]; congr 1; omega
  have h1 : (1 : Rat) ≤ ((2 ^ (b - a).toNat : Nat) : Rat) := by
    have : 1 ≤ 2 ^ (b - a).toNat := Nat.one_le_two_pow
    exact_mod_cast this
  have h2 := p2_pos a
  rw [e, e2]
  have := Rat.mul_nonneg (a := ((2 ^ (b - a).toNat : Nat) : Rat) - 1) (b := p2 a) (by grind) (by grind)
  grind
theorem p2_lt {a b : Int} (h : a < b) : p2 a < p2 b := by
  have h1 := p2_le (show a + 1 ≤ b by omega)
  rw [p2_succ] at h1
  have := p2_pos a
  grind
theorem p2_lt_iff {a b : Int} : p2 a < p2 b ↔ a < b := by
  constructor
  · intro h
    rcases Classical.em (a < b) with h' | h'
    · exact h'
    · have := p2_le (show b ≤ a by omega); grind
  · exact p2_lt

/-- Multiplying both sides by something positive. -/
theorem mul_lt {a b c : Rat} (h : a < b) (hc : 0 < c) : a * c < b * c := by
  have := Rat.mul_pos (a := b - a) (b := c) (by grind) hc
  grind
theorem mul_le {a b c : Rat} (h : a ≤ b) (hc : 0 ≤ c) : a * c ≤ b * c := by
  have := Rat.mul_nonneg (a := b - a) (b := c) (by grind) hc
  grind
theorem of_mul_lt {a b c : Rat} (h : a * c < b * c) (hc : 0 < c) : a < b := by
  rcases Classical.em (a < b) with h' | h'
  · exact h'
  · have := mul_le (a := b) (b := a) (c := c) (by grind) (by grind)
    grind
theorem of_mul_le {a b c : Rat} (h : a * c ≤ b * c) (hc : 0 < c) : a ≤ b := by
  rcases Classical.em (a ≤ b) with h' | h'
  · exact h'
  · have := mul_lt (a := b) (b := a) (c := c) (by grind) hc
    grind
theorem of_mul_eq {a b c : Rat} (h : a * c = b * c) (hc : 0 < c) : a = b := by
  have h1 := of_mul_le (a := a) (b := b) (c := c) (by grind) hc
  have h2 := of_mul_le (a := b) (b := a) (c := c) (by grind) hc
  grind

/-! ### Rounding to a whole number -/

theorem cut_spec (neg : Bool) (n drop : Nat) : 2 * (Toward.even.cut neg n drop) * 2 ^ drop ≤ 2 * n + 2 ^ drop ∧ 2 * n ≤ 2 * (Toward.even.cut neg n drop) * 2 ^ drop + 2 ^ drop := by
  unfold Toward.cut
  dsimp only
  by_cases h : drop ≤ n.log2 + 2
  · rw [Nat.min_eq_left h, Nat.one_shiftLeft]
    have hg : 0 < 2 ^ drop := Nat.two_pow_pos _
    generalize 2 ^ drop = g at *
    have hn := Nat.div_add_mod n g
    have hr := Nat.mod_lt n hg
    generalize n / g = q at *
    generalize n % g = r at *
    subst hn
    have e : ∀ b : Bool, 2 * (q + b.toNat) * g = 2 * (g * q) + 2 * (b.toNat * g) := fun b => by
      rw [Nat.mul_add, Nat.add_mul, Nat.mul_assoc, Nat.mul_assoc, Nat.mul_comm q g]
    rw [e]
    by_cases h1 : g < 2 * r
    · simp [h1]; omega
    · by_cases h2 : g = 2 * r ∧ q % 2 = 1
      · simp [h2]; omega
      · have : (decide (g < 2 * r) || g == 2 * r && q % 2 == 1) = false := by simp; exact ⟨by omega, fun a => by omega⟩
        rw [this]; simp; omega
  · rw [Nat.min_eq_right (by omega), Nat.one_shiftLeft]
    have hlt : n < 2 ^ (n.log2 + 1) := Nat.lt_log2_self
    have e : 2 ^ (n.log2 + 2) = 2 * 2 ^ (n.log2 + 1) := by rw [Nat.pow_succ, Nat.mul_comm]
    have hd : 2 ^ (n.log2 + 2) ≤ 2 ^ drop := Nat.pow_le_pow_right (by decide) (by omega)
    have h1 : n / 2 ^ (n.log2 + 2) = 0 := Nat.div_eq_of_lt (by omega)
    have h2 : n % 2 ^ (n.log2 + 2) = n := Nat.mod_eq_of_lt (by omega)
    rw [h1, h2]
    have : (decide (2 ^ (n.log2 + 2) < 2 * n) || 2 ^ (n.log2 + 2) == 2 * n && 0 % 2 == 1) = false := by simp; omega
    rw [this]; simp; omega

/-! ### Words and numbers -/

def sgn (neg : Bool) : Rat := if neg then -1 else 1
theorem sgn_sq (s : Bool) : sgn s * sgn s = 1 := by cases s <;> (unfold sgn; grind)

/-- The word x stands for the number q. -/
structure Fv (x : Nat) (q : Rat) : Prop where
  ex : ∃ s m e, double.read x = .number s m e ∧ q = sgn s * (m : Rat) * p2 e

theorem Fv.uniq {x : Nat} {a b : Rat} (h : Fv x a) (h' : Fv x b) : a = b := by
  obtain ⟨s, m, e, h1, h2⟩ := h
  obtain ⟨s', m', e', h1', h2'⟩ := h'
  rw [h1] at h1'; cases h1'
  rw [h2, h2']

theorem dbl_binade : double.binade = 4503599627370496 := rfl
theorem dbl_inf : double.infRung = 9218868437227405312 := rfl
theorem dbl_sign : double.signWeight = 9223372036854775808 := rfl
theorem dbl_least : double.leastPlace = -1074 := rfl

/-- A rung below infinity, read. -/
theorem read_word (neg : Bool) (E k : Nat) (hk : k ≤ 9007199254740992) (hE : E ≤ 2044) (hn : 1 ≤ E → 4503599627370496 ≤ k) :
    ∃ m e, double.read (double.word neg (E * 4503599627370496 + k)) = .number neg m e ∧ (m : Rat) * p2 e = (k : Rat) * p2 (E - 1074) := by
  have hr : E * 4503599627370496 + k < 9218868437227405312 := by omega
  have h1 : (double.word neg (E * 4503599627370496 + k)) / 9223372036854775808 % 2 = (if neg then 1 else 0) := by
    unfold Format.word; rw [dbl_sign]; cases neg <;> simp <;> omega
  have h2 : (double.word neg (E * 4503599627370496 + k)) % 9223372036854775808 = E * 4503599627370496 + k := by
    unfold Format.word; rw [dbl_sign]; cases neg <;> simp <;> omega
  simp only [Format.read, dbl_sign, dbl_binade, dbl_inf, dbl_least, h1, h2]
  have hneg : ((if neg = true then 1 else 0 : Nat) == 1) = neg := by cases neg <;> rfl
  rw [hneg]
  by_cases c1 : E * 4503599627370496 + k < 4503599627370496
  · rw [if_pos c1]
    obtain rfl : E = 0 := by omega
    exact ⟨_, _, rfl, by simp⟩
  · rw [if_neg c1, if_pos hr]
    refine ⟨_, _, rfl, ?_⟩
    by_cases c2 : k < 9007199254740992
    · by_cases c3 : 4503599627370496 ≤ k
      · have e1 : (E * 4503599627370496 + k) % 4503599627370496 = k - 4503599627370496 := by omega
        have e2 : (E * 4503599627370496 + k) / 4503599627370496 = E + 1 := by omega
        rw [e1, e2]
        have e3 : 4503599627370496 + (k - 4503599627370496) = k := by omega
        rw [e3]
        congr 2
      · omega
    · obtain rfl : k = 9007199254740992 := by omega
      have e1 : (E * 4503599627370496 + 9007199254740992) % 4503599627370496 = 0 := by omega
      have e2 : (E * 4503599627370496 + 9007199254740992) / 4503599627370496 = E + 2 := by omega
      rw [e1, e2]
      have e3 : (-1074 + ((E + 2 - 1 : Nat) : Int)) = ((E : Int) - 1074) + 1 := by omega
      rw [e3, p2_succ]
      have : (((4503599627370496 + 0 : Nat) : Rat)) * 2 = ((9007199254740992 : Nat) : Rat) := by norm_cast
      grind

/-- The place of the last digit that is kept. -/
def lastOf (mag : Nat) (place : Int) : Int := max (place + mag.log2 - 52) (-1074)

theorem log2_bounds {mag : Nat} (h : mag ≠ 0) : p2 (mag.log2 : Int) ≤ (mag : Rat) ∧ (mag : Rat) < p2 ((mag.log2 : Int) + 1) := by
  have h1 : 2 ^ mag.log2 ≤ mag := Nat.log2_self_le h
  have h2 : mag < 2 ^ (mag.log2 + 1) := Nat.lt_log2_self
  refine ⟨by rw [p2_nat]; exact_mod_cast h1, ?_⟩
  have : ((mag.log2 : Int) + 1) = ((mag.log2 + 1 : Nat) : Int) := by omega
  rw [this, p2_nat]; exact_mod_cast h2

/-- What rounding does: the result is a number within half a unit of the last place kept; its digits are a whole number of such units. -/
theorem nearest_spec (neg : Bool) (mag : Nat) (place : Int) (h0 : mag ≠ 0) (hov : (mag : Rat) * p2 place < p2 1023) :
    ∃ (k m : Nat) (e : Int), double.read (double.nearest neg mag place) = .number neg m e ∧ (m : Rat) * p2 e = (k : Rat) * p2 (lastOf mag place) ∧
      2 * ((k : Rat) * p2 (lastOf mag place)) ≤ 2 * ((mag : Rat) * p2 place) + p2 (lastOf mag place) ∧ 2 * ((mag : Rat) * p2 place) ≤ 2 * ((k : Rat) * p2 (lastOf mag place)) + p2 (lastOf mag place) := by
  have hlog := log2_bounds h0
  have key : double.nearest neg mag place = if mag = 0 then double.word neg 0 else double.word neg (min ((lastOf mag place - -1074).toNat * 4503599627370496 +
      Toward.even.cut neg (mag <<< (place - lastOf mag place).toNat) (lastOf mag place - place).toNat) 9218868437227405312) := rfl
  rw [key, if_neg h0]
  clear key
  generalize hL : lastOf mag place = last
  have hlast : last = max (place + mag.log2 - 52) (-1074) := hL.symm
  have hcut := cut_spec neg (mag <<< (place - last).toNat) (last - place).toNat
  generalize Toward.even.cut neg (mag <<< (place - last).toNat) (last - place).toNat = k at *
  rw [Nat.shiftLeft_eq] at hcut
  -- both sides times 2^last / 2^drop
  have hq1 : 2 * ((k : Rat) * p2 last) ≤ 2 * ((mag : Rat) * p2 place) + p2 last ∧ 2 * ((mag : Rat) * p2 place) ≤ 2 * ((k : Rat) * p2 last) + p2 last := by
    have c1 : 2 * (k : Rat) * p2 ((last - place).toNat : Int) ≤ 2 * ((mag : Rat) * p2 ((place - last).toNat : Int)) + p2 ((last - place).toNat : Int) := by
      rw [p2_nat, p2_nat]; exact_mod_cast hcut.1
    have c2 : 2 * ((mag : Rat) * p2 ((place - last).toNat : Int)) ≤ 2 * (k : Rat) * p2 ((last - place).toNat : Int) + p2 ((last - place).toNat : Int) := by
      rw [p2_nat, p2_nat]; exact_mod_cast hcut.2
    have hp := p2_pos (last - ((last - place).toNat : Int))
    have e1 : p2 ((last - place).toNat : Int) * p2 (last - ((last - place).toNat : Int)) = p2 last := by rw [← p2_add]; congr 1; omega
    have e2 : p2 ((place - last).toNat : Int) * p2 (last - ((last - place).toNat : Int)) = p2 place := by rw [← p2_add]; congr 1; omega
    have d1 := mul_le c1 (Rat.le_of_lt hp)
    have d2 := mul_le c2 (Rat.le_of_lt hp)
    generalize p2 ((last - place).toNat : Int) = A at *
    generalize p2 ((place - last).toNat : Int) = B at *
    generalize p2 (last - ((last - place).toNat : Int)) = C at *
    have r1 : 2 * (k : Rat) * A * C = 2 * ((k : Rat) * p2 last) := by rw [← e1]; grind
    have r2 : (2 * ((mag : Rat) * B) + A) * C = 2 * ((mag : Rat) * p2 place) + p2 last := by rw [← e1, ← e2]; grind
    have r3 : 2 * ((mag : Rat) * B) * C = 2 * ((mag : Rat) * p2 place) := by rw [← e2]; grind
    have r4 : (2 * (k : Rat) * A + A) * C = 2 * ((k : Rat) * p2 last) + p2 last := by rw [← e1]; grind
    rw [r1, r2] at d1
    rw [r3, r4] at d2
    exact ⟨d1, d2⟩
  have hp := p2_pos last
  have hpp := p2_pos place
  -- k is at most 2^53
  have hvlt : (mag : Rat) * p2 place < p2 (last + 53) := by
    have h1 := mul_lt hlog.2 hpp
    rw [← p2_add] at h1
    have := p2_le (show (mag.log2 : Int) + 1 + place ≤ last + 53 by omega)
    grind
  have hk : k ≤ 9007199254740992 := by
    have h53 : p2 (last + 53) = 9007199254740992 * p2 last := by
      rw [p2_add]; have : p2 53 = 9007199254740992 := by rw [show (53 : Int) = ((53 : Nat) : Int) from rfl, p2_nat]; norm_cast
      rw [this]; grind
    have : (k : Rat) * p2 last < (9007199254740993 : Rat) * p2 last := by grind
    have := of_mul_lt this hp
    have : k < 9007199254740993 := by exact_mod_cast this
    omega
  have hlow : -1074 < last → 4503599627370496 ≤ k := by
    intro hlt
    have hle : p2 (last + 52) ≤ (mag : Rat) * p2 place := by
      have h1 := mul_le hlog.1 (Rat.le_of_lt hpp)
      rw [← p2_add] at h1
      have := p2_le (show last + 52 ≤ (mag.log2 : Int) + place by omega)
      grind
    have h52 : p2 (last + 52) = 4503599627370496 * p2 last := by
      rw [p2_add]; have : p2 52 = 4503599627370496 := by rw [show (52 : Int) = ((52 : Nat) : Int) from rfl, p2_nat]; norm_cast
      rw [this]; grind
    have : (4503599627370495 : Rat) * p2 last < (k : Rat) * p2 last := by grind
    have := of_mul_lt this hp
    have : 4503599627370495 < k := by exact_mod_cast this
    omega
  have hlast2 : last ≤ 970 := by
    have h1 := mul_le hlog.1 (Rat.le_of_lt hpp)
    rw [← p2_add] at h1
    have : p2 ((mag.log2 : Int) + place) < p2 1023 := by grind
    have := p2_lt_iff.1 this
    omega
  have hE : ((last - -1074).toNat : Int) = last + 1074 := by omega
  have hmin : min ((last - -1074).toNat * 4503599627370496 + k) 9218868437227405312 = (last - -1074).toNat * 4503599627370496 + k := by omega
  rw [hmin]
  obtain ⟨m, e, hr, hv⟩ := read_word neg (last - -1074).toNat k hk (by omega) (fun h => hlow (by omega))
  refine ⟨k, m, e, hr, ?_, hq1⟩
  rw [hv]; congr 2; omega
end Go.Lg
