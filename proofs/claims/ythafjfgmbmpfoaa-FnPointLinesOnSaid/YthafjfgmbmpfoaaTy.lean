/-
  The sizes and the make of this translation's types, and which functions have a body: closed facts, written by a small program (seatty.py). No conditions.
-/
import Derived.Test.YthafjfgmbmpfoaaProg
import Derived.Test.YthafjfgmbmpfoaaLg3
import Derived.KernelRfl
set_option maxRecDepth 20000
namespace Go.Lg
open Go.Proofs
instance : Und Try.prog 0 (TypeDesc.tuple #[]) := ⟨Try.underlying0⟩
instance : Und Try.prog 1 (TypeDesc.func #[] #[] false) := ⟨Try.underlying1⟩
instance : Inf Try.prog 1 1 8 [.nilFunc] := ⟨by kernel_rfl⟩
instance : Und Try.prog 2 (TypeDesc.int IntKind.i64) := ⟨Try.underlying2⟩
instance : Inf Try.prog 2 1 8 [.int .i64 0] := ⟨by kernel_rfl⟩
instance : Und Try.prog 3 (TypeDesc.int IntKind.i64) := ⟨Try.underlying3⟩
instance : Inf Try.prog 3 1 8 [.int .i64 0] := ⟨by kernel_rfl⟩
instance : Und Try.prog 4 TypeDesc.bool := ⟨Try.underlying4⟩
instance : Inf Try.prog 4 1 1 [.bool false] := ⟨by kernel_rfl⟩
instance : Und Try.prog 5 (TypeDesc.int IntKind.u8) := ⟨Try.underlying5⟩
instance : Inf Try.prog 5 1 1 [.int .u8 0] := ⟨by kernel_rfl⟩
instance : Und Try.prog 6 (TypeDesc.int IntKind.u8) := ⟨Try.underlying6⟩
instance : Inf Try.prog 6 1 1 [.int .u8 0] := ⟨by kernel_rfl⟩
instance : Und Try.prog 7 (TypeDesc.struct #[{ name := "x", type := 2, offset := 0, embedded := false, tag := "", pkgPath := "runtime", byteOffset := 0 }, { name := "y", type := 3, offset := 1, embedded := false, tag := "", pkgPath := "runtime", byteOffset := 8 }, { name := "signed", type := 4, offset := 2, embedded := false, tag := "", pkgPath := "runtime", byteOffset := 16 }, { name := "code", type := 6, offset := 3, embedded := false, tag := "", pkgPath := "runtime", byteOffset := 17 }]) := ⟨Try.underlying7⟩
instance : Inf Try.prog 7 4 24 [.int .i64 0, .int .i64 0, .bool false, .int .u8 0] := ⟨by kernel_rfl⟩
instance : Und Try.prog 8 (TypeDesc.struct #[{ name := "x", type := 2, offset := 0, embedded := false, tag := "", pkgPath := "runtime", byteOffset := 0 }, { name := "y", type := 3, offset := 1, embedded := false, tag := "", pkgPath := "runtime", byteOffset := 8 }, { name := "signed", type := 4, offset := 2, embedded := false, tag := "", pkgPath := "runtime", byteOffset := 16 }, { name := "code", type := 6, offset := 3, embedded := false, tag := "", pkgPath := "runtime", byteOffset := 17 }]) := ⟨Try.underlying8⟩
instance : Inf Try.prog 8 4 24 [.int .i64 0, .int .i64 0, .bool false, .int .u8 0] := ⟨by kernel_rfl⟩
instance : Und Try.prog 9 TypeDesc.string := ⟨Try.underlying9⟩
instance : Inf Try.prog 9 1 16 [.string ⟨#[]⟩] := ⟨by kernel_rfl⟩
instance : Und Try.prog 10 TypeDesc.string := ⟨Try.underlying10⟩
instance : Inf Try.prog 10 1 16 [.string ⟨#[]⟩] := ⟨by kernel_rfl⟩
instance : Und Try.prog 11 TypeDesc.string := ⟨Try.underlying11⟩
instance : Inf Try.prog 11 1 16 [.string ⟨#[]⟩] := ⟨by kernel_rfl⟩
instance : Und Try.prog 12 (TypeDesc.int IntKind.u64) := ⟨Try.underlying12⟩
instance : Inf Try.prog 12 1 8 [.int .u64 0] := ⟨by kernel_rfl⟩
instance : Und Try.prog 13 (TypeDesc.struct #[{ name := "msg", type := 9, offset := 0, embedded := false, tag := "", pkgPath := "runtime", byteOffset := 0 }, { name := "addr", type := 12, offset := 1, embedded := false, tag := "", pkgPath := "runtime", byteOffset := 16 }]) := ⟨Try.underlying13⟩
instance : Inf Try.prog 13 2 24 [.string ⟨#[]⟩, .int .u64 0] := ⟨by kernel_rfl⟩
instance : Und Try.prog 14 (TypeDesc.struct #[{ name := "msg", type := 9, offset := 0, embedded := false, tag := "", pkgPath := "runtime", byteOffset := 0 }, { name := "addr", type := 12, offset := 1, embedded := false, tag := "", pkgPath := "runtime", byteOffset := 16 }]) := ⟨Try.underlying14⟩
instance : Inf Try.prog 14 2 24 [.string ⟨#[]⟩, .int .u64 0] := ⟨by kernel_rfl⟩
instance : Und Try.prog 15 (TypeDesc.pointer 105) := ⟨Try.underlying15⟩
instance : Inf Try.prog 15 1 8 [.pointer none] := ⟨by kernel_rfl⟩
instance : Und Try.prog 16 (TypeDesc.pointer 108) := ⟨Try.underlying16⟩
instance : Inf Try.prog 16 1 8 [.pointer none] := ⟨by kernel_rfl⟩
instance : Und Try.prog 17 (TypeDesc.pointer 117) := ⟨Try.underlying17⟩
instance : Inf Try.prog 17 1 8 [.pointer none] := ⟨by kernel_rfl⟩
instance : Und Try.prog 18 (TypeDesc.struct #[{ name := "typ", type := 17, offset := 0, embedded := false, tag := "", pkgPath := "internal/runtime/maps", byteOffset := 0 }]) := ⟨Try.underlying18⟩
instance : Inf Try.prog 18 1 8 [.pointer none] := ⟨by kernel_rfl⟩
instance : Und Try.prog 19 (TypeDesc.struct #[{ name := "typ", type := 17, offset := 0, embedded := false, tag := "", pkgPath := "internal/runtime/maps", byteOffset := 0 }]) := ⟨Try.underlying19⟩
instance : Inf Try.prog 19 1 8 [.pointer none] := ⟨by kernel_rfl⟩
instance : Und Try.prog 20 (TypeDesc.interface #[]) := ⟨Try.underlying20⟩
instance : Inf Try.prog 20 1 16 [.nilIface] := ⟨by kernel_rfl⟩
instance : Und Try.prog 21 (TypeDesc.int IntKind.i32) := ⟨Try.underlying21⟩
instance : Inf Try.prog 21 1 4 [.int .i32 0] := ⟨by kernel_rfl⟩
instance : Und Try.prog 22 (TypeDesc.slice 34) := ⟨Try.underlying22⟩
instance : Inf Try.prog 22 1 24 [.slice none 0 0] := ⟨by kernel_rfl⟩
instance : Und Try.prog 23 (TypeDesc.func #[22] #[4] false) := ⟨Try.underlying23⟩
instance : Inf Try.prog 23 1 8 [.nilFunc] := ⟨by kernel_rfl⟩
instance : Und Try.prog 24 (TypeDesc.func #[22, 3, 25] #[4] false) := ⟨Try.underlying24⟩
instance : Inf Try.prog 24 1 8 [.nilFunc] := ⟨by kernel_rfl⟩
instance : Und Try.prog 25 (TypeDesc.slice 36) := ⟨Try.underlying25⟩
instance : Inf Try.prog 25 1 24 [.slice none 0 0] := ⟨by kernel_rfl⟩
instance : Und Try.prog 26 (TypeDesc.slice 25) := ⟨Try.underlying26⟩
instance : Inf Try.prog 26 1 24 [.slice none 0 0] := ⟨by kernel_rfl⟩
instance : Und Try.prog 27 (TypeDesc.slice 3) := ⟨Try.underlying27⟩
instance : Inf Try.prog 27 1 24 [.slice none 0 0] := ⟨by kernel_rfl⟩
instance : Und Try.prog 28 (TypeDesc.tuple #[26, 27, 4]) := ⟨Try.underlying28⟩
instance : Und Try.prog 29 (TypeDesc.func #[22, 3] #[26, 27, 4] false) := ⟨Try.underlying29⟩
instance : Inf Try.prog 29 1 8 [.nilFunc] := ⟨by kernel_rfl⟩
instance : Und Try.prog 30 (TypeDesc.tuple #[27, 27, 4]) := ⟨Try.underlying30⟩
instance : Und Try.prog 31 (TypeDesc.func #[22, 3] #[27, 27, 4] false) := ⟨Try.underlying31⟩
instance : Inf Try.prog 31 1 8 [.nilFunc] := ⟨by kernel_rfl⟩
instance : Und Try.prog 32 (TypeDesc.func #[25, 25] #[4] false) := ⟨Try.underlying32⟩
instance : Inf Try.prog 32 1 8 [.nilFunc] := ⟨by kernel_rfl⟩
instance : Und Try.prog 33 (TypeDesc.struct #[{ name := "Point", type := 25, offset := 0, embedded := false, tag := "", pkgPath := "", byteOffset := 0 }, { name := "Plane", type := 3, offset := 1, embedded := false, tag := "", pkgPath := "", byteOffset := 24 }, { name := "Left", type := 3, offset := 2, embedded := false, tag := "", pkgPath := "", byteOffset := 32 }, { name := "Right", type := 3, offset := 3, embedded := false, tag := "", pkgPath := "", byteOffset := 40 }, { name := "Min", type := 25, offset := 4, embedded := false, tag := "", pkgPath := "", byteOffset := 48 }, { name := "Max", type := 25, offset := 5, embedded := false, tag := "", pkgPath := "", byteOffset := 72 }]) := ⟨Try.underlying33⟩
instance : Inf Try.prog 33 6 96 [.slice none 0 0, .int .i64 0, .int .i64 0, .int .i64 0, .slice none 0 0, .slice none 0 0] := ⟨by kernel_rfl⟩
instance : Und Try.prog 34 (TypeDesc.struct #[{ name := "Point", type := 25, offset := 0, embedded := false, tag := "", pkgPath := "", byteOffset := 0 }, { name := "Plane", type := 3, offset := 1, embedded := false, tag := "", pkgPath := "", byteOffset := 24 }, { name := "Left", type := 3, offset := 2, embedded := false, tag := "", pkgPath := "", byteOffset := 32 }, { name := "Right", type := 3, offset := 3, embedded := false, tag := "", pkgPath := "", byteOffset := 40 }, { name := "Min", type := 25, offset := 4, embedded := false, tag := "", pkgPath := "", byteOffset := 48 }, { name := "Max", type := 25, offset := 5, embedded := false, tag := "", pkgPath := "", byteOffset := 72 }]) := ⟨Try.underlying34⟩
instance : Inf Try.prog 34 6 96 [.slice none 0 0, .int .i64 0, .int .i64 0, .int .i64 0, .slice none 0 0, .slice none 0 0] := ⟨by kernel_rfl⟩
instance : Und Try.prog 35 (TypeDesc.func #[22, 3, 3] #[4] false) := ⟨Try.underlying35⟩
instance : Inf Try.prog 35 1 8 [.nilFunc] := ⟨by kernel_rfl⟩
instance : Und Try.prog 36 (TypeDesc.float FloatKind.f64) := ⟨Try.underlying36⟩
instance : Inf Try.prog 36 1 8 [.float .f64 0] := ⟨by kernel_rfl⟩
instance : Und Try.prog 37 (TypeDesc.struct #[{ name := "X", type := 36, offset := 0, embedded := false, tag := "", pkgPath := "", byteOffset := 0 }, { name := "Y", type := 36, offset := 1, embedded := false, tag := "", pkgPath := "", byteOffset := 8 }]) := ⟨Try.underlying37⟩
instance : Inf Try.prog 37 2 16 [.float .f64 0, .float .f64 0] := ⟨by kernel_rfl⟩
instance : Und Try.prog 38 (TypeDesc.struct #[{ name := "X", type := 36, offset := 0, embedded := false, tag := "", pkgPath := "", byteOffset := 0 }, { name := "Y", type := 36, offset := 1, embedded := false, tag := "", pkgPath := "", byteOffset := 8 }]) := ⟨Try.underlying38⟩
instance : Inf Try.prog 38 2 16 [.float .f64 0, .float .f64 0] := ⟨by kernel_rfl⟩
instance : Und Try.prog 39 (TypeDesc.slice 38) := ⟨Try.underlying39⟩
instance : Inf Try.prog 39 1 24 [.slice none 0 0] := ⟨by kernel_rfl⟩
instance : Und Try.prog 40 (TypeDesc.func #[36, 39] #[4] true) := ⟨Try.underlying40⟩
instance : Inf Try.prog 40 1 8 [.nilFunc] := ⟨by kernel_rfl⟩
instance : Und Try.prog 41 (TypeDesc.tuple #[36, 4]) := ⟨Try.underlying41⟩
instance : Und Try.prog 42 (TypeDesc.func #[3, 38, 25] #[36, 4] false) := ⟨Try.underlying42⟩
instance : Inf Try.prog 42 1 8 [.nilFunc] := ⟨by kernel_rfl⟩
instance : Und Try.prog 43 (TypeDesc.func #[39] #[25] false) := ⟨Try.underlying43⟩
instance : Inf Try.prog 43 1 8 [.nilFunc] := ⟨by kernel_rfl⟩
instance : Und Try.prog 44 (TypeDesc.tuple #[4, 4]) := ⟨Try.underlying44⟩
instance : Und Try.prog 45 (TypeDesc.func #[3, 38, 25] #[4, 4] false) := ⟨Try.underlying45⟩
instance : Inf Try.prog 45 1 8 [.nilFunc] := ⟨by kernel_rfl⟩
instance : Und Try.prog 46 (TypeDesc.func #[38, 39] #[4] false) := ⟨Try.underlying46⟩
instance : Inf Try.prog 46 1 8 [.nilFunc] := ⟨by kernel_rfl⟩
instance : Und Try.prog 47 (TypeDesc.func #[34] #[4] false) := ⟨Try.underlying47⟩
instance : Inf Try.prog 47 1 8 [.nilFunc] := ⟨by kernel_rfl⟩
instance : Und Try.prog 48 (TypeDesc.func #[26, 3, 36] #[4] false) := ⟨Try.underlying48⟩
instance : Inf Try.prog 48 1 8 [.nilFunc] := ⟨by kernel_rfl⟩
instance : Und Try.prog 49 (TypeDesc.func #[22, 3] #[26] false) := ⟨Try.underlying49⟩
instance : Inf Try.prog 49 1 8 [.nilFunc] := ⟨by kernel_rfl⟩
instance : Und Try.prog 50 (TypeDesc.pointer 71) := ⟨Try.underlying50⟩
instance : Inf Try.prog 50 1 8 [.pointer none] := ⟨by kernel_rfl⟩
instance : Und Try.prog 51 (TypeDesc.func #[22, 3] #[50] false) := ⟨Try.underlying51⟩
instance : Inf Try.prog 51 1 8 [.nilFunc] := ⟨by kernel_rfl⟩
instance : Und Try.prog 52 (TypeDesc.func #[72] #[4] false) := ⟨Try.underlying52⟩
instance : Inf Try.prog 52 1 8 [.nilFunc] := ⟨by kernel_rfl⟩
instance : Und Try.prog 53 (TypeDesc.interface #[("Compare", 118), ("Dims", 78), ("Distance", 119)]) := ⟨Try.underlying53⟩
instance : Inf Try.prog 53 1 16 [.nilIface] := ⟨by kernel_rfl⟩
instance : Und Try.prog 54 (TypeDesc.interface #[("Compare", 118), ("Dims", 78), ("Distance", 119)]) := ⟨Try.underlying54⟩
instance : Inf Try.prog 54 1 16 [.nilIface] := ⟨by kernel_rfl⟩
instance : Und Try.prog 55 (TypeDesc.pointer 102) := ⟨Try.underlying55⟩
instance : Inf Try.prog 55 1 8 [.pointer none] := ⟨by kernel_rfl⟩
instance : Und Try.prog 56 (TypeDesc.func #[25] #[25] false) := ⟨Try.underlying56⟩
instance : Inf Try.prog 56 1 8 [.nilFunc] := ⟨by kernel_rfl⟩
instance : Und Try.prog 57 (TypeDesc.slice 36) := ⟨Try.underlying57⟩
instance : Inf Try.prog 57 1 24 [.slice none 0 0] := ⟨by kernel_rfl⟩
instance : Und Try.prog 58 (TypeDesc.func #[54, 55, 3] #[4] false) := ⟨Try.underlying58⟩
instance : Inf Try.prog 58 1 8 [.nilFunc] := ⟨by kernel_rfl⟩
instance : Und Try.prog 59 (TypeDesc.func #[3, 3, 60] #[27, 27, 4] false) := ⟨Try.underlying59⟩
instance : Inf Try.prog 59 1 8 [.nilFunc] := ⟨by kernel_rfl⟩
instance : Und Try.prog 60 (TypeDesc.func #[3] #[3, 3] false) := ⟨Try.underlying60⟩
instance : Inf Try.prog 60 1 8 [.nilFunc] := ⟨by kernel_rfl⟩
instance : Und Try.prog 61 (TypeDesc.func #[36, 25] #[4] true) := ⟨Try.underlying61⟩
instance : Inf Try.prog 61 1 8 [.nilFunc] := ⟨by kernel_rfl⟩
instance : Und Try.prog 62 (TypeDesc.func #[63, 64, 25] #[36] false) := ⟨Try.underlying62⟩
instance : Inf Try.prog 62 1 8 [.nilFunc] := ⟨by kernel_rfl⟩
instance : Und Try.prog 63 (TypeDesc.int IntKind.i64) := ⟨Try.underlying63⟩
instance : Inf Try.prog 63 1 8 [.int .i64 0] := ⟨by kernel_rfl⟩
instance : Und Try.prog 64 (TypeDesc.slice 36) := ⟨Try.underlying64⟩
instance : Inf Try.prog 64 1 24 [.slice none 0 0] := ⟨by kernel_rfl⟩
instance : Und Try.prog 65 (TypeDesc.func #[38] #[64] false) := ⟨Try.underlying65⟩
instance : Inf Try.prog 65 1 8 [.nilFunc] := ⟨by kernel_rfl⟩
instance : Und Try.prog 66 (TypeDesc.func #[63, 64, 25] #[4] false) := ⟨Try.underlying66⟩
instance : Inf Try.prog 66 1 8 [.nilFunc] := ⟨by kernel_rfl⟩
instance : Und Try.prog 67 (TypeDesc.func #[36] #[36] false) := ⟨Try.underlying67⟩
instance : Inf Try.prog 67 1 8 [.nilFunc] := ⟨by kernel_rfl⟩
instance : Und Try.prog 68 (TypeDesc.pointer 86) := ⟨Try.underlying68⟩
instance : Inf Try.prog 68 1 8 [.pointer none] := ⟨by kernel_rfl⟩
instance : Und Try.prog 69 (TypeDesc.func #[22, 3] #[68] false) := ⟨Try.underlying69⟩
instance : Inf Try.prog 69 1 8 [.nilFunc] := ⟨by kernel_rfl⟩
instance : Und Try.prog 70 (TypeDesc.struct #[{ name := "Root", type := 68, offset := 0, embedded := false, tag := "", pkgPath := "", byteOffset := 0 }, { name := "Count", type := 3, offset := 1, embedded := false, tag := "", pkgPath := "", byteOffset := 8 }]) := ⟨Try.underlying70⟩
instance : Inf Try.prog 70 2 16 [.pointer none, .int .i64 0] := ⟨by kernel_rfl⟩
instance : Und Try.prog 71 (TypeDesc.struct #[{ name := "Root", type := 68, offset := 0, embedded := false, tag := "", pkgPath := "", byteOffset := 0 }, { name := "Count", type := 3, offset := 1, embedded := false, tag := "", pkgPath := "", byteOffset := 8 }]) := ⟨Try.underlying71⟩
instance : Inf Try.prog 71 2 16 [.pointer none, .int .i64 0] := ⟨by kernel_rfl⟩
instance : Und Try.prog 72 (TypeDesc.func #[54, 55, 3] #[4] false) := ⟨Try.underlying72⟩
instance : Inf Try.prog 72 1 8 [.nilFunc] := ⟨by kernel_rfl⟩
instance : Und Try.prog 73 (TypeDesc.func #[72, 3] #[4] false) := ⟨Try.underlying73⟩
instance : Inf Try.prog 73 1 8 [.nilFunc] := ⟨by kernel_rfl⟩
instance : Und Try.prog 74 (TypeDesc.slice 4) := ⟨Try.underlying74⟩
instance : Inf Try.prog 74 1 24 [.slice none 0 0] := ⟨by kernel_rfl⟩
instance : Und Try.prog 75 (TypeDesc.func #[3, 3, 3] #[] false) := ⟨Try.underlying75⟩
instance : Inf Try.prog 75 1 8 [.nilFunc] := ⟨by kernel_rfl⟩
instance : Und Try.prog 76 (TypeDesc.tuple #[3, 3]) := ⟨Try.underlying76⟩
instance : Und Try.prog 77 (TypeDesc.func #[64, 64] #[36] false) := ⟨Try.underlying77⟩
instance : Inf Try.prog 77 1 8 [.nilFunc] := ⟨by kernel_rfl⟩
instance : Und Try.prog 78 (TypeDesc.func #[] #[3] false) := ⟨Try.underlying78⟩
instance : Inf Try.prog 78 1 8 [.nilFunc] := ⟨by kernel_rfl⟩
instance : Und Try.prog 79 (TypeDesc.func #[64, 64, 64] #[36] false) := ⟨Try.underlying79⟩
instance : Inf Try.prog 79 1 8 [.nilFunc] := ⟨by kernel_rfl⟩
instance : Und Try.prog 80 (TypeDesc.struct #[]) := ⟨Try.underlying80⟩
instance : Inf Try.prog 80 0 0 [] := ⟨by kernel_rfl⟩
instance : Und Try.prog 81 (TypeDesc.struct #[]) := ⟨Try.underlying81⟩
instance : Inf Try.prog 81 0 0 [] := ⟨by kernel_rfl⟩
instance : Und Try.prog 82 (TypeDesc.func #[91, 64, 64, 64] #[4] false) := ⟨Try.underlying82⟩
instance : Inf Try.prog 82 1 8 [.nilFunc] := ⟨by kernel_rfl⟩
instance : Und Try.prog 83 (TypeDesc.int IntKind.i64) := ⟨Try.underlying83⟩
instance : Inf Try.prog 83 1 8 [.int .i64 0] := ⟨by kernel_rfl⟩
instance : Und Try.prog 84 (TypeDesc.func #[25, 25] #[55] false) := ⟨Try.underlying84⟩
instance : Inf Try.prog 84 1 8 [.nilFunc] := ⟨by kernel_rfl⟩
instance : Und Try.prog 85 (TypeDesc.struct #[{ name := "Point", type := 54, offset := 0, embedded := false, tag := "", pkgPath := "", byteOffset := 0 }, { name := "Plane", type := 83, offset := 1, embedded := false, tag := "", pkgPath := "", byteOffset := 16 }, { name := "Left", type := 68, offset := 2, embedded := false, tag := "", pkgPath := "", byteOffset := 24 }, { name := "Right", type := 68, offset := 3, embedded := false, tag := "", pkgPath := "", byteOffset := 32 }, { name := "Bounding", type := 55, offset := 4, embedded := true, tag := "", pkgPath := "", byteOffset := 40 }]) := ⟨Try.underlying85⟩
instance : Inf Try.prog 85 5 48 [.nilIface, .int .i64 0, .pointer none, .pointer none, .pointer none] := ⟨by kernel_rfl⟩
instance : Und Try.prog 86 (TypeDesc.struct #[{ name := "Point", type := 54, offset := 0, embedded := false, tag := "", pkgPath := "", byteOffset := 0 }, { name := "Plane", type := 83, offset := 1, embedded := false, tag := "", pkgPath := "", byteOffset := 16 }, { name := "Left", type := 68, offset := 2, embedded := false, tag := "", pkgPath := "", byteOffset := 24 }, { name := "Right", type := 68, offset := 3, embedded := false, tag := "", pkgPath := "", byteOffset := 32 }, { name := "Bounding", type := 55, offset := 4, embedded := true, tag := "", pkgPath := "", byteOffset := 40 }]) := ⟨Try.underlying86⟩
instance : Inf Try.prog 86 5 48 [.nilIface, .int .i64 0, .pointer none, .pointer none, .pointer none] := ⟨by kernel_rfl⟩
instance : Und Try.prog 87 (TypeDesc.func #[88] #[36] false) := ⟨Try.underlying87⟩
instance : Inf Try.prog 87 1 8 [.nilFunc] := ⟨by kernel_rfl⟩
instance : Und Try.prog 88 (TypeDesc.int IntKind.u64) := ⟨Try.underlying88⟩
instance : Inf Try.prog 88 1 8 [.int .u64 0] := ⟨by kernel_rfl⟩
instance : Und Try.prog 89 (TypeDesc.func #[36] #[88] false) := ⟨Try.underlying89⟩
instance : Inf Try.prog 89 1 8 [.nilFunc] := ⟨by kernel_rfl⟩
instance : Und Try.prog 90 (TypeDesc.interface #[("pub-orthodrome/pub/gogeom/xy/lineintersector.computeLineOnLineIntersection", 130), ("pub-orthodrome/pub/gogeom/xy/lineintersector.computePointOnLineIntersection", 98)]) := ⟨Try.underlying90⟩
instance : Inf Try.prog 90 1 16 [.nilIface] := ⟨by kernel_rfl⟩
instance : Und Try.prog 91 (TypeDesc.interface #[("pub-orthodrome/pub/gogeom/xy/lineintersector.computeLineOnLineIntersection", 130), ("pub-orthodrome/pub/gogeom/xy/lineintersector.computePointOnLineIntersection", 98)]) := ⟨Try.underlying91⟩
instance : Inf Try.prog 91 1 16 [.nilIface] := ⟨by kernel_rfl⟩
instance : Und Try.prog 92 (TypeDesc.pointer 97) := ⟨Try.underlying92⟩
instance : Inf Try.prog 92 1 8 [.pointer none] := ⟨by kernel_rfl⟩
instance : Und Try.prog 93 (TypeDesc.array 2 64) := ⟨Try.underlying93⟩
instance : Inf Try.prog 93 2 48 [.slice none 0 0, .slice none 0 0] := ⟨by kernel_rfl⟩
instance : Und Try.prog 94 (TypeDesc.array 2 93) := ⟨Try.underlying94⟩
instance : Inf Try.prog 94 4 96 [.slice none 0 0, .slice none 0 0, .slice none 0 0, .slice none 0 0] := ⟨by kernel_rfl⟩
instance : Und Try.prog 95 (TypeDesc.int IntKind.i64) := ⟨Try.underlying95⟩
instance : Inf Try.prog 95 1 8 [.int .i64 0] := ⟨by kernel_rfl⟩
instance : Und Try.prog 96 (TypeDesc.struct #[{ name := "inputLines", type := 94, offset := 0, embedded := false, tag := "", pkgPath := "pub-orthodrome/pub/gogeom/xy/lineintersector", byteOffset := 0 }, { name := "intersectionPoints", type := 93, offset := 4, embedded := false, tag := "", pkgPath := "pub-orthodrome/pub/gogeom/xy/lineintersector", byteOffset := 96 }, { name := "intersectionType", type := 95, offset := 6, embedded := false, tag := "", pkgPath := "pub-orthodrome/pub/gogeom/xy/lineintersector", byteOffset := 144 }, { name := "isProper", type := 4, offset := 7, embedded := false, tag := "", pkgPath := "pub-orthodrome/pub/gogeom/xy/lineintersector", byteOffset := 152 }, { name := "pa", type := 64, offset := 8, embedded := false, tag := "", pkgPath := "pub-orthodrome/pub/gogeom/xy/lineintersector", byteOffset := 160 }, { name := "pb", type := 64, offset := 9, embedded := false, tag := "", pkgPath := "pub-orthodrome/pub/gogeom/xy/lineintersector", byteOffset := 184 }, { name := "strategy", type := 91, offset := 10, embedded := false, tag := "", pkgPath := "pub-orthodrome/pub/gogeom/xy/lineintersector", byteOffset := 208 }]) := ⟨Try.underlying96⟩
instance : Inf Try.prog 96 11 224 [.slice none 0 0, .slice none 0 0, .slice none 0 0, .slice none 0 0, .slice none 0 0, .slice none 0 0, .int .i64 0, .bool false, .slice none 0 0, .slice none 0 0, .nilIface] := ⟨by kernel_rfl⟩
instance : Und Try.prog 97 (TypeDesc.struct #[{ name := "inputLines", type := 94, offset := 0, embedded := false, tag := "", pkgPath := "pub-orthodrome/pub/gogeom/xy/lineintersector", byteOffset := 0 }, { name := "intersectionPoints", type := 93, offset := 4, embedded := false, tag := "", pkgPath := "pub-orthodrome/pub/gogeom/xy/lineintersector", byteOffset := 96 }, { name := "intersectionType", type := 95, offset := 6, embedded := false, tag := "", pkgPath := "pub-orthodrome/pub/gogeom/xy/lineintersector", byteOffset := 144 }, { name := "isProper", type := 4, offset := 7, embedded := false, tag := "", pkgPath := "pub-orthodrome/pub/gogeom/xy/lineintersector", byteOffset := 152 }, { name := "pa", type := 64, offset := 8, embedded := false, tag := "", pkgPath := "pub-orthodrome/pub/gogeom/xy/lineintersector", byteOffset := 160 }, { name := "pb", type := 64, offset := 9, embedded := false, tag := "", pkgPath := "pub-orthodrome/pub/gogeom/xy/lineintersector", byteOffset := 184 }, { name := "strategy", type := 91, offset := 10, embedded := false, tag := "", pkgPath := "pub-orthodrome/pub/gogeom/xy/lineintersector", byteOffset := 208 }]) := ⟨Try.underlying97⟩
instance : Inf Try.prog 97 11 224 [.slice none 0 0, .slice none 0 0, .slice none 0 0, .slice none 0 0, .slice none 0 0, .slice none 0 0, .int .i64 0, .bool false, .slice none 0 0, .slice none 0 0, .nilIface] := ⟨by kernel_rfl⟩
instance : Und Try.prog 98 (TypeDesc.func #[92, 64, 64, 64] #[] false) := ⟨Try.underlying98⟩
instance : Inf Try.prog 98 1 8 [.nilFunc] := ⟨by kernel_rfl⟩
instance : Und Try.prog 99 (TypeDesc.func #[36, 36] #[36] false) := ⟨Try.underlying99⟩
instance : Inf Try.prog 99 1 8 [.nilFunc] := ⟨by kernel_rfl⟩
instance : Und Try.prog 100 (TypeDesc.int IntKind.u64) := ⟨Try.underlying100⟩
instance : Inf Try.prog 100 1 8 [.int .u64 0] := ⟨by kernel_rfl⟩
instance : Und Try.prog 101 (TypeDesc.struct #[{ name := "Min", type := 54, offset := 0, embedded := false, tag := "", pkgPath := "", byteOffset := 0 }, { name := "Max", type := 54, offset := 1, embedded := false, tag := "", pkgPath := "", byteOffset := 16 }]) := ⟨Try.underlying101⟩
instance : Inf Try.prog 101 2 32 [.nilIface, .nilIface] := ⟨by kernel_rfl⟩
instance : Und Try.prog 102 (TypeDesc.struct #[{ name := "Min", type := 54, offset := 0, embedded := false, tag := "", pkgPath := "", byteOffset := 0 }, { name := "Max", type := 54, offset := 1, embedded := false, tag := "", pkgPath := "", byteOffset := 16 }]) := ⟨Try.underlying102⟩
instance : Inf Try.prog 102 2 32 [.nilIface, .nilIface] := ⟨by kernel_rfl⟩
instance : Und Try.prog 103 (TypeDesc.func #[] #[9] false) := ⟨Try.underlying103⟩
instance : Inf Try.prog 103 1 8 [.nilFunc] := ⟨by kernel_rfl⟩
instance : Und Try.prog 104 (TypeDesc.struct #[{ name := "_interface", type := 17, offset := 0, embedded := false, tag := "", pkgPath := "runtime", byteOffset := 0 }, { name := "concrete", type := 17, offset := 1, embedded := false, tag := "", pkgPath := "runtime", byteOffset := 8 }, { name := "asserted", type := 17, offset := 2, embedded := false, tag := "", pkgPath := "runtime", byteOffset := 16 }, { name := "missingMethod", type := 9, offset := 3, embedded := false, tag := "", pkgPath := "runtime", byteOffset := 24 }]) := ⟨Try.underlying104⟩
instance : Inf Try.prog 104 4 40 [.pointer none, .pointer none, .pointer none, .string ⟨#[]⟩] := ⟨by kernel_rfl⟩
instance : Und Try.prog 105 (TypeDesc.struct #[{ name := "_interface", type := 17, offset := 0, embedded := false, tag := "", pkgPath := "runtime", byteOffset := 0 }, { name := "concrete", type := 17, offset := 1, embedded := false, tag := "", pkgPath := "runtime", byteOffset := 8 }, { name := "asserted", type := 17, offset := 2, embedded := false, tag := "", pkgPath := "runtime", byteOffset := 16 }, { name := "missingMethod", type := 9, offset := 3, embedded := false, tag := "", pkgPath := "runtime", byteOffset := 24 }]) := ⟨Try.underlying105⟩
instance : Inf Try.prog 105 4 40 [.pointer none, .pointer none, .pointer none, .string ⟨#[]⟩] := ⟨by kernel_rfl⟩
instance : Und Try.prog 106 (TypeDesc.array 0 16) := ⟨Try.underlying106⟩
instance : Inf Try.prog 106 0 0 [] := ⟨by kernel_rfl⟩
instance : Und Try.prog 107 (TypeDesc.struct #[{ name := "_", type := 106, offset := 0, embedded := false, tag := "", pkgPath := "runtime", byteOffset := 0 }]) := ⟨Try.underlying107⟩
instance : Inf Try.prog 107 0 0 [] := ⟨by kernel_rfl⟩
instance : Und Try.prog 108 (TypeDesc.struct #[{ name := "_", type := 106, offset := 0, embedded := false, tag := "", pkgPath := "runtime", byteOffset := 0 }]) := ⟨Try.underlying108⟩
instance : Inf Try.prog 108 0 0 [] := ⟨by kernel_rfl⟩
instance : Und Try.prog 109 (TypeDesc.int IntKind.u32) := ⟨Try.underlying109⟩
instance : Inf Try.prog 109 1 4 [.int .u32 0] := ⟨by kernel_rfl⟩
instance : Und Try.prog 110 (TypeDesc.int IntKind.u8) := ⟨Try.underlying110⟩
instance : Inf Try.prog 110 1 1 [.int .u8 0] := ⟨by kernel_rfl⟩
instance : Und Try.prog 111 (TypeDesc.int IntKind.u8) := ⟨Try.underlying111⟩
instance : Inf Try.prog 111 1 1 [.int .u8 0] := ⟨by kernel_rfl⟩
instance : Und Try.prog 112 (TypeDesc.func #[131, 131] #[4] false) := ⟨Try.underlying112⟩
instance : Inf Try.prog 112 1 8 [.nilFunc] := ⟨by kernel_rfl⟩
instance : Und Try.prog 113 (TypeDesc.pointer 5) := ⟨Try.underlying113⟩
instance : Inf Try.prog 113 1 8 [.pointer none] := ⟨by kernel_rfl⟩
instance : Und Try.prog 114 (TypeDesc.int IntKind.i32) := ⟨Try.underlying114⟩
instance : Inf Try.prog 114 1 4 [.int .i32 0] := ⟨by kernel_rfl⟩
instance : Und Try.prog 115 (TypeDesc.int IntKind.i32) := ⟨Try.underlying115⟩
instance : Inf Try.prog 115 1 4 [.int .i32 0] := ⟨by kernel_rfl⟩
instance : Und Try.prog 116 (TypeDesc.struct #[{ name := "Size_", type := 12, offset := 0, embedded := false, tag := "", pkgPath := "", byteOffset := 0 }, { name := "PtrBytes", type := 12, offset := 1, embedded := false, tag := "", pkgPath := "", byteOffset := 8 }, { name := "Hash", type := 109, offset := 2, embedded := false, tag := "", pkgPath := "", byteOffset := 16 }, { name := "TFlag", type := 110, offset := 3, embedded := false, tag := "", pkgPath := "", byteOffset := 20 }, { name := "Align_", type := 5, offset := 4, embedded := false, tag := "", pkgPath := "", byteOffset := 21 }, { name := "FieldAlign_", type := 5, offset := 5, embedded := false, tag := "", pkgPath := "", byteOffset := 22 }, { name := "Kind_", type := 111, offset := 6, embedded := false, tag := "", pkgPath := "", byteOffset := 23 }, { name := "Equal", type := 112, offset := 7, embedded := false, tag := "", pkgPath := "", byteOffset := 24 }, { name := "GCData", type := 113, offset := 8, embedded := false, tag := "", pkgPath := "", byteOffset := 32 }, { name := "Str", type := 114, offset := 9, embedded := false, tag := "", pkgPath := "", byteOffset := 40 }, { name := "PtrToThis", type := 115, offset := 10, embedded := false, tag := "", pkgPath := "", byteOffset := 44 }]) := ⟨Try.underlying116⟩
instance : Inf Try.prog 116 11 48 [.int .u64 0, .int .u64 0, .int .u32 0, .int .u8 0, .int .u8 0, .int .u8 0, .int .u8 0, .nilFunc, .pointer none, .int .i32 0, .int .i32 0] := ⟨by kernel_rfl⟩
instance : Und Try.prog 117 (TypeDesc.struct #[{ name := "Size_", type := 12, offset := 0, embedded := false, tag := "", pkgPath := "", byteOffset := 0 }, { name := "PtrBytes", type := 12, offset := 1, embedded := false, tag := "", pkgPath := "", byteOffset := 8 }, { name := "Hash", type := 109, offset := 2, embedded := false, tag := "", pkgPath := "", byteOffset := 16 }, { name := "TFlag", type := 110, offset := 3, embedded := false, tag := "", pkgPath := "", byteOffset := 20 }, { name := "Align_", type := 5, offset := 4, embedded := false, tag := "", pkgPath := "", byteOffset := 21 }, { name := "FieldAlign_", type := 5, offset := 5, embedded := false, tag := "", pkgPath := "", byteOffset := 22 }, { name := "Kind_", type := 111, offset := 6, embedded := false, tag := "", pkgPath := "", byteOffset := 23 }, { name := "Equal", type := 112, offset := 7, embedded := false, tag := "", pkgPath := "", byteOffset := 24 }, { name := "GCData", type := 113, offset := 8, embedded := false, tag := "", pkgPath := "", byteOffset := 32 }, { name := "Str", type := 114, offset := 9, embedded := false, tag := "", pkgPath := "", byteOffset := 40 }, { name := "PtrToThis", type := 115, offset := 10, embedded := false, tag := "", pkgPath := "", byteOffset := 44 }]) := ⟨Try.underlying117⟩
instance : Inf Try.prog 117 11 48 [.int .u64 0, .int .u64 0, .int .u32 0, .int .u8 0, .int .u8 0, .int .u8 0, .int .u8 0, .nilFunc, .pointer none, .int .i32 0, .int .i32 0] := ⟨by kernel_rfl⟩
instance : Und Try.prog 118 (TypeDesc.func #[54, 83] #[36] false) := ⟨Try.underlying118⟩
instance : Inf Try.prog 118 1 8 [.nilFunc] := ⟨by kernel_rfl⟩
instance : Und Try.prog 119 (TypeDesc.func #[54] #[36] false) := ⟨Try.underlying119⟩
instance : Inf Try.prog 119 1 8 [.nilFunc] := ⟨by kernel_rfl⟩
instance : Und Try.prog 120 (TypeDesc.func #[54] #[4] false) := ⟨Try.underlying120⟩
instance : Inf Try.prog 120 1 8 [.nilFunc] := ⟨by kernel_rfl⟩
instance : Und Try.prog 121 (TypeDesc.func #[] #[36] false) := ⟨Try.underlying121⟩
instance : Inf Try.prog 121 1 8 [.nilFunc] := ⟨by kernel_rfl⟩
instance : Und Try.prog 122 (TypeDesc.func #[64, 64, 64] #[4] false) := ⟨Try.underlying122⟩
instance : Inf Try.prog 122 1 8 [.nilFunc] := ⟨by kernel_rfl⟩
instance : Und Try.prog 123 (TypeDesc.int IntKind.i64) := ⟨Try.underlying123⟩
instance : Inf Try.prog 123 1 8 [.int .i64 0] := ⟨by kernel_rfl⟩
instance : Und Try.prog 124 (TypeDesc.func #[64, 64, 64] #[123] false) := ⟨Try.underlying124⟩
instance : Inf Try.prog 124 1 8 [.nilFunc] := ⟨by kernel_rfl⟩
instance : Und Try.prog 125 (TypeDesc.func #[25, 3, 25, 3] #[4] false) := ⟨Try.underlying125⟩
instance : Inf Try.prog 125 1 8 [.nilFunc] := ⟨by kernel_rfl⟩
instance : Und Try.prog 126 (TypeDesc.func #[36] #[123] false) := ⟨Try.underlying126⟩
instance : Inf Try.prog 126 1 8 [.nilFunc] := ⟨by kernel_rfl⟩
instance : Und Try.prog 127 (TypeDesc.func #[36, 3] #[4] false) := ⟨Try.underlying127⟩
instance : Inf Try.prog 127 1 8 [.nilFunc] := ⟨by kernel_rfl⟩
instance : Und Try.prog 128 (TypeDesc.func #[3] #[36] false) := ⟨Try.underlying128⟩
instance : Inf Try.prog 128 1 8 [.nilFunc] := ⟨by kernel_rfl⟩
instance : Und Try.prog 129 (TypeDesc.func #[36] #[4] false) := ⟨Try.underlying129⟩
instance : Inf Try.prog 129 1 8 [.nilFunc] := ⟨by kernel_rfl⟩
instance : Und Try.prog 130 (TypeDesc.func #[92, 64, 64, 64, 64] #[] false) := ⟨Try.underlying130⟩
instance : Inf Try.prog 130 1 8 [.nilFunc] := ⟨by kernel_rfl⟩
instance : Und Try.prog 131 TypeDesc.unsafePointer := ⟨Try.underlying131⟩
instance : Inf Try.prog 131 1 8 [.pointer none] := ⟨by kernel_rfl⟩
instance : FieldAt Try.prog 7 0 0 := .mk' Try.underlying7 rfl rfl (by kernel_rfl)
instance : FieldAt Try.prog 7 1 1 := .mk' Try.underlying7 rfl rfl (by kernel_rfl)
instance : FieldAt Try.prog 7 2 2 := .mk' Try.underlying7 rfl rfl (by kernel_rfl)
instance : FieldAt Try.prog 7 3 3 := .mk' Try.underlying7 rfl rfl (by kernel_rfl)
instance : FieldAt Try.prog 8 0 0 := .mk' Try.underlying8 rfl rfl (by kernel_rfl)
instance : FieldAt Try.prog 8 1 1 := .mk' Try.underlying8 rfl rfl (by kernel_rfl)
instance : FieldAt Try.prog 8 2 2 := .mk' Try.underlying8 rfl rfl (by kernel_rfl)
instance : FieldAt Try.prog 8 3 3 := .mk' Try.underlying8 rfl rfl (by kernel_rfl)
instance : FieldAt Try.prog 13 0 0 := .mk' Try.underlying13 rfl rfl (by kernel_rfl)
instance : FieldAt Try.prog 13 1 1 := .mk' Try.underlying13 rfl rfl (by kernel_rfl)
instance : FieldAt Try.prog 14 0 0 := .mk' Try.underlying14 rfl rfl (by kernel_rfl)
instance : FieldAt Try.prog 14 1 1 := .mk' Try.underlying14 rfl rfl (by kernel_rfl)
instance : FieldAt Try.prog 18 0 0 := .mk' Try.underlying18 rfl rfl (by kernel_rfl)
instance : FieldAt Try.prog 19 0 0 := .mk' Try.underlying19 rfl rfl (by kernel_rfl)
instance : FieldAt Try.prog 33 0 0 := .mk' Try.underlying33 rfl rfl (by kernel_rfl)
instance : FieldAt Try.prog 33 1 1 := .mk' Try.underlying33 rfl rfl (by kernel_rfl)
instance : FieldAt Try.prog 33 2 2 := .mk' Try.underlying33 rfl rfl (by kernel_rfl)
instance : FieldAt Try.prog 33 3 3 := .mk' Try.underlying33 rfl rfl (by kernel_rfl)
instance : FieldAt Try.prog 33 4 4 := .mk' Try.underlying33 rfl rfl (by kernel_rfl)
instance : FieldAt Try.prog 33 5 5 := .mk' Try.underlying33 rfl rfl (by kernel_rfl)
instance : FieldAt Try.prog 34 0 0 := .mk' Try.underlying34 rfl rfl (by kernel_rfl)
instance : FieldAt Try.prog 34 1 1 := .mk' Try.underlying34 rfl rfl (by kernel_rfl)
instance : FieldAt Try.prog 34 2 2 := .mk' Try.underlying34 rfl rfl (by kernel_rfl)
instance : FieldAt Try.prog 34 3 3 := .mk' Try.underlying34 rfl rfl (by kernel_rfl)
instance : FieldAt Try.prog 34 4 4 := .mk' Try.underlying34 rfl rfl (by kernel_rfl)
instance : FieldAt Try.prog 34 5 5 := .mk' Try.underlying34 rfl rfl (by kernel_rfl)
instance : FieldAt Try.prog 37 0 0 := .mk' Try.underlying37 rfl rfl (by kernel_rfl)
instance : FieldAt Try.prog 37 1 1 := .mk' Try.underlying37 rfl rfl (by kernel_rfl)
instance : FieldAt Try.prog 38 0 0 := .mk' Try.underlying38 rfl rfl (by kernel_rfl)
instance : FieldAt Try.prog 38 1 1 := .mk' Try.underlying38 rfl rfl (by kernel_rfl)
instance : FieldAt Try.prog 70 0 0 := .mk' Try.underlying70 rfl rfl (by kernel_rfl)
instance : FieldAt Try.prog 70 1 1 := .mk' Try.underlying70 rfl rfl (by kernel_rfl)
instance : FieldAt Try.prog 71 0 0 := .mk' Try.underlying71 rfl rfl (by kernel_rfl)
instance : FieldAt Try.prog 71 1 1 := .mk' Try.underlying71 rfl rfl (by kernel_rfl)
instance : FieldAt Try.prog 85 0 0 := .mk' Try.underlying85 rfl rfl (by kernel_rfl)
instance : FieldAt Try.prog 85 1 1 := .mk' Try.underlying85 rfl rfl (by kernel_rfl)
instance : FieldAt Try.prog 85 2 2 := .mk' Try.underlying85 rfl rfl (by kernel_rfl)
instance : FieldAt Try.prog 85 3 3 := .mk' Try.underlying85 rfl rfl (by kernel_rfl)
instance : FieldAt Try.prog 85 4 4 := .mk' Try.underlying85 rfl rfl (by kernel_rfl)
instance : FieldAt Try.prog 86 0 0 := .mk' Try.underlying86 rfl rfl (by kernel_rfl)
instance : FieldAt Try.prog 86 1 1 := .mk' Try.underlying86 rfl rfl (by kernel_rfl)
instance : FieldAt Try.prog 86 2 2 := .mk' Try.underlying86 rfl rfl (by kernel_rfl)
instance : FieldAt Try.prog 86 3 3 := .mk' Try.underlying86 rfl rfl (by kernel_rfl)
instance : FieldAt Try.prog 86 4 4 := .mk' Try.underlying86 rfl rfl (by kernel_rfl)
instance : FieldAt Try.prog 96 0 0 := .mk' Try.underlying96 rfl rfl (by kernel_rfl)
instance : FieldAt Try.prog 96 1 4 := .mk' Try.underlying96 rfl rfl (by kernel_rfl)
instance : FieldAt Try.prog 96 2 6 := .mk' Try.underlying96 rfl rfl (by kernel_rfl)
instance : FieldAt Try.prog 96 3 7 := .mk' Try.underlying96 rfl rfl (by kernel_rfl)
instance : FieldAt Try.prog 96 4 8 := .mk' Try.underlying96 rfl rfl (by kernel_rfl)
instance : FieldAt Try.prog 96 5 9 := .mk' Try.underlying96 rfl rfl (by kernel_rfl)
instance : FieldAt Try.prog 96 6 10 := .mk' Try.underlying96 rfl rfl (by kernel_rfl)
instance : FieldAt Try.prog 97 0 0 := .mk' Try.underlying97 rfl rfl (by kernel_rfl)
instance : FieldAt Try.prog 97 1 4 := .mk' Try.underlying97 rfl rfl (by kernel_rfl)
instance : FieldAt Try.prog 97 2 6 := .mk' Try.underlying97 rfl rfl (by kernel_rfl)
instance : FieldAt Try.prog 97 3 7 := .mk' Try.underlying97 rfl rfl (by kernel_rfl)
instance : FieldAt Try.prog 97 4 8 := .mk' Try.underlying97 rfl rfl (by kernel_rfl)
instance : FieldAt Try.prog 97 5 9 := .mk' Try.underlying97 rfl rfl (by kernel_rfl)
instance : FieldAt Try.prog 97 6 10 := .mk' Try.underlying97 rfl rfl (by kernel_rfl)
instance : FieldAt Try.prog 101 0 0 := .mk' Try.underlying101 rfl rfl (by kernel_rfl)
instance : FieldAt Try.prog 101 1 1 := .mk' Try.underlying101 rfl rfl (by kernel_rfl)
instance : FieldAt Try.prog 102 0 0 := .mk' Try.underlying102 rfl rfl (by kernel_rfl)
instance : FieldAt Try.prog 102 1 1 := .mk' Try.underlying102 rfl rfl (by kernel_rfl)
instance : FieldAt Try.prog 104 0 0 := .mk' Try.underlying104 rfl rfl (by kernel_rfl)
instance : FieldAt Try.prog 104 1 1 := .mk' Try.underlying104 rfl rfl (by kernel_rfl)
instance : FieldAt Try.prog 104 2 2 := .mk' Try.underlying104 rfl rfl (by kernel_rfl)
instance : FieldAt Try.prog 104 3 3 := .mk' Try.underlying104 rfl rfl (by kernel_rfl)
instance : FieldAt Try.prog 105 0 0 := .mk' Try.underlying105 rfl rfl (by kernel_rfl)
instance : FieldAt Try.prog 105 1 1 := .mk' Try.underlying105 rfl rfl (by kernel_rfl)
instance : FieldAt Try.prog 105 2 2 := .mk' Try.underlying105 rfl rfl (by kernel_rfl)
instance : FieldAt Try.prog 105 3 3 := .mk' Try.underlying105 rfl rfl (by kernel_rfl)
instance : FieldAt Try.prog 116 0 0 := .mk' Try.underlying116 rfl rfl (by kernel_rfl)
instance : FieldAt Try.prog 116 1 1 := .mk' Try.underlying116 rfl rfl (by kernel_rfl)
instance : FieldAt Try.prog 116 2 2 := .mk' Try.underlying116 rfl rfl (by kernel_rfl)
instance : FieldAt Try.prog 116 3 3 := .mk' Try.underlying116 rfl rfl (by kernel_rfl)
instance : FieldAt Try.prog 116 4 4 := .mk' Try.underlying116 rfl rfl (by kernel_rfl)
instance : FieldAt Try.prog 116 5 5 := .mk' Try.underlying116 rfl rfl (by kernel_rfl)
instance : FieldAt Try.prog 116 6 6 := .mk' Try.underlying116 rfl rfl (by kernel_rfl)
instance : FieldAt Try.prog 116 7 7 := .mk' Try.underlying116 rfl rfl (by kernel_rfl)
instance : FieldAt Try.prog 116 8 8 := .mk' Try.underlying116 rfl rfl (by kernel_rfl)
instance : FieldAt Try.prog 116 9 9 := .mk' Try.underlying116 rfl rfl (by kernel_rfl)
instance : FieldAt Try.prog 116 10 10 := .mk' Try.underlying116 rfl rfl (by kernel_rfl)
instance : FieldAt Try.prog 117 0 0 := .mk' Try.underlying117 rfl rfl (by kernel_rfl)
instance : FieldAt Try.prog 117 1 1 := .mk' Try.underlying117 rfl rfl (by kernel_rfl)
instance : FieldAt Try.prog 117 2 2 := .mk' Try.underlying117 rfl rfl (by kernel_rfl)
instance : FieldAt Try.prog 117 3 3 := .mk' Try.underlying117 rfl rfl (by kernel_rfl)
instance : FieldAt Try.prog 117 4 4 := .mk' Try.underlying117 rfl rfl (by kernel_rfl)
instance : FieldAt Try.prog 117 5 5 := .mk' Try.underlying117 rfl rfl (by kernel_rfl)
instance : FieldAt Try.prog 117 6 6 := .mk' Try.underlying117 rfl rfl (by kernel_rfl)
instance : FieldAt Try.prog 117 7 7 := .mk' Try.underlying117 rfl rfl (by kernel_rfl)
instance : FieldAt Try.prog 117 8 8 := .mk' Try.underlying117 rfl rfl (by kernel_rfl)
instance : FieldAt Try.prog 117 9 9 := .mk' Try.underlying117 rfl rfl (by kernel_rfl)
instance : FieldAt Try.prog 117 10 10 := .mk' Try.underlying117 rfl rfl (by kernel_rfl)
instance : Places Try.prog [{ name := "x", type := 2, offset := 0, embedded := false, tag := "", pkgPath := "runtime", byteOffset := 0 }, { name := "y", type := 3, offset := 1, embedded := false, tag := "", pkgPath := "runtime", byteOffset := 8 }, { name := "signed", type := 4, offset := 2, embedded := false, tag := "", pkgPath := "runtime", byteOffset := 16 }, { name := "code", type := 6, offset := 3, embedded := false, tag := "", pkgPath := "runtime", byteOffset := 17 }] [(0, 1), (1, 1), (2, 1), (3, 1)] := ⟨by kernel_rfl⟩
instance : Places Try.prog [{ name := "msg", type := 9, offset := 0, embedded := false, tag := "", pkgPath := "runtime", byteOffset := 0 }, { name := "addr", type := 12, offset := 1, embedded := false, tag := "", pkgPath := "runtime", byteOffset := 16 }] [(0, 1), (1, 1)] := ⟨by kernel_rfl⟩
instance : Places Try.prog [{ name := "typ", type := 17, offset := 0, embedded := false, tag := "", pkgPath := "internal/runtime/maps", byteOffset := 0 }] [(0, 1)] := ⟨by kernel_rfl⟩
instance : Places Try.prog [{ name := "Point", type := 25, offset := 0, embedded := false, tag := "", pkgPath := "", byteOffset := 0 }, { name := "Plane", type := 3, offset := 1, embedded := false, tag := "", pkgPath := "", byteOffset := 24 }, { name := "Left", type := 3, offset := 2, embedded := false, tag := "", pkgPath := "", byteOffset := 32 }, { name := "Right", type := 3, offset := 3, embedded := false, tag := "", pkgPath := "", byteOffset := 40 }, { name := "Min", type := 25, offset := 4, embedded := false, tag := "", pkgPath := "", byteOffset := 48 }, { name := "Max", type := 25, offset := 5, embedded := false, tag := "", pkgPath := "", byteOffset := 72 }] [(0, 1), (1, 1), (2, 1), (3, 1), (4, 1), (5, 1)] := ⟨by kernel_rfl⟩
instance : Places Try.prog [{ name := "X", type := 36, offset := 0, embedded := false, tag := "", pkgPath := "", byteOffset := 0 }, { name := "Y", type := 36, offset := 1, embedded := false, tag := "", pkgPath := "", byteOffset := 8 }] [(0, 1), (1, 1)] := ⟨by kernel_rfl⟩
instance : Places Try.prog [{ name := "Root", type := 68, offset := 0, embedded := false, tag := "", pkgPath := "", byteOffset := 0 }, { name := "Count", type := 3, offset := 1, embedded := false, tag := "", pkgPath := "", byteOffset := 8 }] [(0, 1), (1, 1)] := ⟨by kernel_rfl⟩
instance : Places Try.prog [] [] := ⟨by kernel_rfl⟩
instance : Places Try.prog [{ name := "Point", type := 54, offset := 0, embedded := false, tag := "", pkgPath := "", byteOffset := 0 }, { name := "Plane", type := 83, offset := 1, embedded := false, tag := "", pkgPath := "", byteOffset := 16 }, { name := "Left", type := 68, offset := 2, embedded := false, tag := "", pkgPath := "", byteOffset := 24 }, { name := "Right", type := 68, offset := 3, embedded := false, tag := "", pkgPath := "", byteOffset := 32 }, { name := "Bounding", type := 55, offset := 4, embedded := true, tag := "", pkgPath := "", byteOffset := 40 }] [(0, 1), (1, 1), (2, 1), (3, 1), (4, 1)] := ⟨by kernel_rfl⟩
instance : Places Try.prog [{ name := "inputLines", type := 94, offset := 0, embedded := false, tag := "", pkgPath := "pub-orthodrome/pub/gogeom/xy/lineintersector", byteOffset := 0 }, { name := "intersectionPoints", type := 93, offset := 4, embedded := false, tag := "", pkgPath := "pub-orthodrome/pub/gogeom/xy/lineintersector", byteOffset := 96 }, { name := "intersectionType", type := 95, offset := 6, embedded := false, tag := "", pkgPath := "pub-orthodrome/pub/gogeom/xy/lineintersector", byteOffset := 144 }, { name := "isProper", type := 4, offset := 7, embedded := false, tag := "", pkgPath := "pub-orthodrome/pub/gogeom/xy/lineintersector", byteOffset := 152 }, { name := "pa", type := 64, offset := 8, embedded := false, tag := "", pkgPath := "pub-orthodrome/pub/gogeom/xy/lineintersector", byteOffset := 160 }, { name := "pb", type := 64, offset := 9, embedded := false, tag := "", pkgPath := "pub-orthodrome/pub/gogeom/xy/lineintersector", byteOffset := 184 }, { name := "strategy", type := 91, offset := 10, embedded := false, tag := "", pkgPath := "pub-orthodrome/pub/gogeom/xy/lineintersector", byteOffset := 208 }] [(0, 4), (4, 2), (6, 1), (7, 1), (8, 1), (9, 1), (10, 1)] := ⟨by kernel_rfl⟩
instance : Places Try.prog [{ name := "Min", type := 54, offset := 0, embedded := false, tag := "", pkgPath := "", byteOffset := 0 }, { name := "Max", type := 54, offset := 1, embedded := false, tag := "", pkgPath := "", byteOffset := 16 }] [(0, 1), (1, 1)] := ⟨by kernel_rfl⟩
instance : Places Try.prog [{ name := "_interface", type := 17, offset := 0, embedded := false, tag := "", pkgPath := "runtime", byteOffset := 0 }, { name := "concrete", type := 17, offset := 1, embedded := false, tag := "", pkgPath := "runtime", byteOffset := 8 }, { name := "asserted", type := 17, offset := 2, embedded := false, tag := "", pkgPath := "runtime", byteOffset := 16 }, { name := "missingMethod", type := 9, offset := 3, embedded := false, tag := "", pkgPath := "runtime", byteOffset := 24 }] [(0, 1), (1, 1), (2, 1), (3, 1)] := ⟨by kernel_rfl⟩
instance : Places Try.prog [{ name := "_", type := 106, offset := 0, embedded := false, tag := "", pkgPath := "runtime", byteOffset := 0 }] [(0, 0)] := ⟨by kernel_rfl⟩
instance : Places Try.prog [{ name := "Size_", type := 12, offset := 0, embedded := false, tag := "", pkgPath := "", byteOffset := 0 }, { name := "PtrBytes", type := 12, offset := 1, embedded := false, tag := "", pkgPath := "", byteOffset := 8 }, { name := "Hash", type := 109, offset := 2, embedded := false, tag := "", pkgPath := "", byteOffset := 16 }, { name := "TFlag", type := 110, offset := 3, embedded := false, tag := "", pkgPath := "", byteOffset := 20 }, { name := "Align_", type := 5, offset := 4, embedded := false, tag := "", pkgPath := "", byteOffset := 21 }, { name := "FieldAlign_", type := 5, offset := 5, embedded := false, tag := "", pkgPath := "", byteOffset := 22 }, { name := "Kind_", type := 111, offset := 6, embedded := false, tag := "", pkgPath := "", byteOffset := 23 }, { name := "Equal", type := 112, offset := 7, embedded := false, tag := "", pkgPath := "", byteOffset := 24 }, { name := "GCData", type := 113, offset := 8, embedded := false, tag := "", pkgPath := "", byteOffset := 32 }, { name := "Str", type := 114, offset := 9, embedded := false, tag := "", pkgPath := "", byteOffset := 40 }, { name := "PtrToThis", type := 115, offset := 10, embedded := false, tag := "", pkgPath := "", byteOffset := 44 }] [(0, 1), (1, 1), (2, 1), (3, 1), (4, 1), (5, 1), (6, 1), (7, 1), (8, 1), (9, 1), (10, 1)] := ⟨by kernel_rfl⟩
instance : Enters Try.prog 3 := ⟨Try.f3, Try.func3, rfl, rfl⟩
instance : Enters Try.prog 4 := ⟨Try.f4, Try.func4, rfl, rfl⟩
instance : Enters Try.prog 5 := ⟨Try.f5, Try.func5, rfl, rfl⟩
instance : Enters Try.prog 6 := ⟨Try.f6, Try.func6, rfl, rfl⟩
instance : Enters Try.prog 7 := ⟨Try.f7, Try.func7, rfl, rfl⟩
instance : Enters Try.prog 8 := ⟨Try.f8, Try.func8, rfl, rfl⟩
instance : Enters Try.prog 9 := ⟨Try.f9, Try.func9, rfl, rfl⟩
instance : Enters Try.prog 10 := ⟨Try.f10, Try.func10, rfl, rfl⟩
instance : Enters Try.prog 11 := ⟨Try.f11, Try.func11, rfl, rfl⟩
instance : Enters Try.prog 12 := ⟨Try.f12, Try.func12, rfl, rfl⟩
instance : Enters Try.prog 13 := ⟨Try.f13, Try.func13, rfl, rfl⟩
instance : Enters Try.prog 14 := ⟨Try.f14, Try.func14, rfl, rfl⟩
instance : Enters Try.prog 15 := ⟨Try.f15, Try.func15, rfl, rfl⟩
instance : Enters Try.prog 16 := ⟨Try.f16, Try.func16, rfl, rfl⟩
instance : Enters Try.prog 17 := ⟨Try.f17, Try.func17, rfl, rfl⟩
instance : Enters Try.prog 18 := ⟨Try.f18, Try.func18, rfl, rfl⟩
instance : Enters Try.prog 19 := ⟨Try.f19, Try.func19, rfl, rfl⟩
instance : Enters Try.prog 20 := ⟨Try.f20, Try.func20, rfl, rfl⟩
instance : Enters Try.prog 21 := ⟨Try.f21, Try.func21, rfl, rfl⟩
instance : Enters Try.prog 22 := ⟨Try.f22, Try.func22, rfl, rfl⟩
instance : Enters Try.prog 23 := ⟨Try.f23, Try.func23, rfl, rfl⟩
instance : Enters Try.prog 24 := ⟨Try.f24, Try.func24, rfl, rfl⟩
instance : Enters Try.prog 25 := ⟨Try.f25, Try.func25, rfl, rfl⟩
instance : Enters Try.prog 26 := ⟨Try.f26, Try.func26, rfl, rfl⟩
instance : Enters Try.prog 27 := ⟨Try.f27, Try.func27, rfl, rfl⟩
instance : Enters Try.prog 28 := ⟨Try.f28, Try.func28, rfl, rfl⟩
instance : Enters Try.prog 29 := ⟨Try.f29, Try.func29, rfl, rfl⟩
instance : Enters Try.prog 30 := ⟨Try.f30, Try.func30, rfl, rfl⟩
instance : Enters Try.prog 31 := ⟨Try.f31, Try.func31, rfl, rfl⟩
instance : Enters Try.prog 32 := ⟨Try.f32, Try.func32, rfl, rfl⟩
instance : Enters Try.prog 33 := ⟨Try.f33, Try.func33, rfl, rfl⟩
instance : Enters Try.prog 34 := ⟨Try.f34, Try.func34, rfl, rfl⟩
instance : Enters Try.prog 35 := ⟨Try.f35, Try.func35, rfl, rfl⟩
instance : Enters Try.prog 36 := ⟨Try.f36, Try.func36, rfl, rfl⟩
instance : Enters Try.prog 37 := ⟨Try.f37, Try.func37, rfl, rfl⟩
instance : Enters Try.prog 38 := ⟨Try.f38, Try.func38, rfl, rfl⟩
instance : Enters Try.prog 39 := ⟨Try.f39, Try.func39, rfl, rfl⟩
instance : Enters Try.prog 41 := ⟨Try.f41, Try.func41, rfl, rfl⟩
instance : Enters Try.prog 42 := ⟨Try.f42, Try.func42, rfl, rfl⟩
instance : Enters Try.prog 45 := ⟨Try.f45, Try.func45, rfl, rfl⟩
instance : Enters Try.prog 46 := ⟨Try.f46, Try.func46, rfl, rfl⟩
instance : Enters Try.prog 71 := ⟨Try.f71, Try.func71, rfl, rfl⟩
instance : Enters Try.prog 72 := ⟨Try.f72, Try.func72, rfl, rfl⟩
instance : Enters Try.prog 73 := ⟨Try.f73, Try.func73, rfl, rfl⟩
instance : Enters Try.prog 74 := ⟨Try.f74, Try.func74, rfl, rfl⟩
instance : Enters Try.prog 75 := ⟨Try.f75, Try.func75, rfl, rfl⟩
instance : Enters Try.prog 76 := ⟨Try.f76, Try.func76, rfl, rfl⟩
instance : Enters Try.prog 77 := ⟨Try.f77, Try.func77, rfl, rfl⟩
instance : Enters Try.prog 78 := ⟨Try.f78, Try.func78, rfl, rfl⟩
instance : Enters Try.prog 80 := ⟨Try.f80, Try.func80, rfl, rfl⟩
instance : Enters Try.prog 82 := ⟨Try.f82, Try.func82, rfl, rfl⟩
instance : Enters Try.prog 83 := ⟨Try.f83, Try.func83, rfl, rfl⟩
instance : Enters Try.prog 84 := ⟨Try.f84, Try.func84, rfl, rfl⟩
instance : Enters Try.prog 85 := ⟨Try.f85, Try.func85, rfl, rfl⟩
instance : Enters Try.prog 86 := ⟨Try.f86, Try.func86, rfl, rfl⟩
instance : Enters Try.prog 87 := ⟨Try.f87, Try.func87, rfl, rfl⟩
instance : Enters Try.prog 92 := ⟨Try.f92, Try.func92, rfl, rfl⟩
theorem mixed : Try.prog.follows .mixedOrders = true := by kernel_rfl
end Go.Lg
