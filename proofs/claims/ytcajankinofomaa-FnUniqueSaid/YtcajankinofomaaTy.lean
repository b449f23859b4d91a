/-
  The sizes and the make of this translation's types, and which functions have a body: closed facts, written by a small program (seatty.py). No conditions.
-/
import Derived.Test.YtcajankinofomaaProg
import Derived.Test.YtcajankinofomaaLg3
import Derived.KernelRfl
set_option maxRecDepth 20000
namespace Go.Lg
open Go.Proofs
instance : Und Try.prog 0 (TypeDesc.tuple #[]) := ⟨Try.underlying0⟩
instance : Und Try.prog 1 (TypeDesc.func #[] #[] false) := ⟨Try.underlying1⟩
instance : Inf Try.prog 1 1 8 [.nilFunc] := ⟨by kernel_rfl⟩
instance : Und Try.prog 2 (TypeDesc.int IntKind.i64) := ⟨Try.underlying2⟩
instance : Inf Try.prog 2 1 8 [.int .i64 0] := ⟨by kernel_rfl⟩
instance : Und Try.prog 3 (TypeDesc.int IntKind.i64) := ⟨Try.underlying3⟩
instance : Inf Try.prog 3 1 8 [.int .i64 0] := ⟨by kernel_rfl⟩
instance : Und Try.prog 4 TypeDesc.bool := ⟨Try.underlying4⟩
instance : Inf Try.prog 4 1 1 [.bool false] := ⟨by kernel_rfl⟩
instance : Und Try.prog 5 (TypeDesc.int IntKind.u8) := ⟨Try.underlying5⟩
instance : Inf Try.prog 5 1 1 [.int .u8 0] := ⟨by kernel_rfl⟩
instance : Und Try.prog 6 (TypeDesc.int IntKind.u8) := ⟨Try.underlying6⟩
instance : Inf Try.prog 6 1 1 [.int .u8 0] := ⟨by kernel_rfl⟩
instance : Und Try.prog 7 (TypeDesc.struct #[{ name := "x", type := 2, offset := 0, embedded := false, tag := "", pkgPath := "runtime", byteOffset := 0 }, { name := "y", type := 3, offset := 1, embedded := false, tag := "", pkgPath := "runtime", byteOffset := 8 }, { name := "signed", type := 4, offset := 2, embedded := false, tag := "", pkgPath := "runtime", byteOffset := 16 }, { name := "code", type := 6, offset := 3, embedded := false, tag := "", pkgPath := "runtime", byteOffset := 17 }]) := ⟨Try.underlying7⟩
instance : Inf Try.prog 7 4 24 [.int .i64 0, .int .i64 0, .bool false, .int .u8 0] := ⟨by kernel_rfl⟩
instance : Und Try.prog 8 (TypeDesc.struct #[{ name := "x", type := 2, offset := 0, embedded := false, tag := "", pkgPath := "runtime", byteOffset := 0 }, { name := "y", type := 3, offset := 1, embedded := false, tag := "", pkgPath := "runtime", byteOffset := 8 }, { name := "signed", type := 4, offset := 2, embedded := false, tag := "", pkgPath := "runtime", byteOffset := 16 }, { name := "code", type := 6, offset := 3, embedded := false, tag := "", pkgPath := "runtime", byteOffset := 17 }]) := ⟨Try.underlying8⟩
instance : Inf Try.prog 8 4 24 [.int .i64 0, .int .i64 0, .bool false, .int .u8 0] := ⟨by kernel_rfl⟩
instance : Und Try.prog 9 TypeDesc.string := ⟨Try.underlying9⟩
instance : Inf Try.prog 9 1 16 [.string ⟨#[]⟩] := ⟨by kernel_rfl⟩
instance : Und Try.prog 10 TypeDesc.string := ⟨Try.underlying10⟩
instance : Inf Try.prog 10 1 16 [.string ⟨#[]⟩] := ⟨by kernel_rfl⟩
instance : Und Try.prog 11 TypeDesc.string := ⟨Try.underlying11⟩
instance : Inf Try.prog 11 1 16 [.string ⟨#[]⟩] := ⟨by kernel_rfl⟩
instance : Und Try.prog 12 (TypeDesc.int IntKind.u64) := ⟨Try.underlying12⟩
instance : Inf Try.prog 12 1 8 [.int .u64 0] := ⟨by kernel_rfl⟩
instance : Und Try.prog 13 (TypeDesc.struct #[{ name := "msg", type := 9, offset := 0, embedded := false, tag := "", pkgPath := "runtime", byteOffset := 0 }, { name := "addr", type := 12, offset := 1, embedded := false, tag := "", pkgPath := "runtime", byteOffset := 16 }]) := ⟨Try.underlying13⟩
instance : Inf Try.prog 13 2 24 [.string ⟨#[]⟩, .int .u64 0] := ⟨by kernel_rfl⟩
instance : Und Try.prog 14 (TypeDesc.struct #[{ name := "msg", type := 9, offset := 0, embedded := false, tag := "", pkgPath := "runtime", byteOffset := 0 }, { name := "addr", type := 12, offset := 1, embedded := false, tag := "", pkgPath := "runtime", byteOffset := 16 }]) := ⟨Try.underlying14⟩
instance : Inf Try.prog 14 2 24 [.string ⟨#[]⟩, .int .u64 0] := ⟨by kernel_rfl⟩
instance : Und Try.prog 15 (TypeDesc.pointer 132) := ⟨Try.underlying15⟩
instance : Inf Try.prog 15 1 8 [.pointer none] := ⟨by kernel_rfl⟩
instance : Und Try.prog 16 (TypeDesc.pointer 135) := ⟨Try.underlying16⟩
instance : Inf Try.prog 16 1 8 [.pointer none] := ⟨by kernel_rfl⟩
instance : Und Try.prog 17 (TypeDesc.pointer 144) := ⟨Try.underlying17⟩
instance : Inf Try.prog 17 1 8 [.pointer none] := ⟨by kernel_rfl⟩
instance : Und Try.prog 18 (TypeDesc.struct #[{ name := "typ", type := 17, offset := 0, embedded := false, tag := "", pkgPath := "internal/runtime/maps", byteOffset := 0 }]) := ⟨Try.underlying18⟩
instance : Inf Try.prog 18 1 8 [.pointer none] := ⟨by kernel_rfl⟩
instance : Und Try.prog 19 (TypeDesc.struct #[{ name := "typ", type := 17, offset := 0, embedded := false, tag := "", pkgPath := "internal/runtime/maps", byteOffset := 0 }]) := ⟨Try.underlying19⟩
instance : Inf Try.prog 19 1 8 [.pointer none] := ⟨by kernel_rfl⟩
instance : Und Try.prog 20 (TypeDesc.interface #[]) := ⟨Try.underlying20⟩
instance : Inf Try.prog 20 1 16 [.nilIface] := ⟨by kernel_rfl⟩
instance : Und Try.prog 21 (TypeDesc.int IntKind.i32) := ⟨Try.underlying21⟩
instance : Inf Try.prog 21 1 4 [.int .i32 0] := ⟨by kernel_rfl⟩
instance : Und Try.prog 22 (TypeDesc.slice 46) := ⟨Try.underlying22⟩
instance : Inf Try.prog 22 1 24 [.slice none 0 0] := ⟨by kernel_rfl⟩
instance : Und Try.prog 23 (TypeDesc.func #[3, 22] #[4] false) := ⟨Try.underlying23⟩
instance : Inf Try.prog 23 1 8 [.nilFunc] := ⟨by kernel_rfl⟩
instance : Und Try.prog 24 (TypeDesc.func #[3] #[4] false) := ⟨Try.underlying24⟩
instance : Inf Try.prog 24 1 8 [.nilFunc] := ⟨by kernel_rfl⟩
instance : Und Try.prog 25 (TypeDesc.slice 22) := ⟨Try.underlying25⟩
instance : Inf Try.prog 25 1 24 [.slice none 0 0] := ⟨by kernel_rfl⟩
instance : Und Try.prog 26 (TypeDesc.func #[3, 25] #[25] false) := ⟨Try.underlying26⟩
instance : Inf Try.prog 26 1 8 [.nilFunc] := ⟨by kernel_rfl⟩
instance : Und Try.prog 27 (TypeDesc.func #[22, 3] #[25] false) := ⟨Try.underlying27⟩
instance : Inf Try.prog 27 1 8 [.nilFunc] := ⟨by kernel_rfl⟩
instance : Und Try.prog 28 (TypeDesc.func #[3] #[3] false) := ⟨Try.underlying28⟩
instance : Inf Try.prog 28 1 8 [.nilFunc] := ⟨by kernel_rfl⟩
instance : Und Try.prog 29 (TypeDesc.tuple #[22, 4]) := ⟨Try.underlying29⟩
instance : Und Try.prog 30 (TypeDesc.func #[3, 3, 22] #[22, 4] false) := ⟨Try.underlying30⟩
instance : Inf Try.prog 30 1 8 [.nilFunc] := ⟨by kernel_rfl⟩
instance : Und Try.prog 31 (TypeDesc.func #[22, 22] #[4] false) := ⟨Try.underlying31⟩
instance : Inf Try.prog 31 1 8 [.nilFunc] := ⟨by kernel_rfl⟩
instance : Und Try.prog 32 (TypeDesc.func #[3, 3, 22] #[4] false) := ⟨Try.underlying32⟩
instance : Inf Try.prog 32 1 8 [.nilFunc] := ⟨by kernel_rfl⟩
instance : Und Try.prog 33 (TypeDesc.slice 25) := ⟨Try.underlying33⟩
instance : Inf Try.prog 33 1 24 [.slice none 0 0] := ⟨by kernel_rfl⟩
instance : Und Try.prog 34 (TypeDesc.func #[33] #[4] false) := ⟨Try.underlying34⟩
instance : Inf Try.prog 34 1 8 [.nilFunc] := ⟨by kernel_rfl⟩
instance : Und Try.prog 35 (TypeDesc.func #[36] #[3] false) := ⟨Try.underlying35⟩
instance : Inf Try.prog 35 1 8 [.nilFunc] := ⟨by kernel_rfl⟩
instance : Und Try.prog 36 (TypeDesc.slice 33) := ⟨Try.underlying36⟩
instance : Inf Try.prog 36 1 24 [.slice none 0 0] := ⟨by kernel_rfl⟩
instance : Und Try.prog 37 (TypeDesc.slice 3) := ⟨Try.underlying37⟩
instance : Inf Try.prog 37 1 24 [.slice none 0 0] := ⟨by kernel_rfl⟩
instance : Und Try.prog 38 (TypeDesc.tuple #[22, 37, 4]) := ⟨Try.underlying38⟩
instance : Und Try.prog 39 (TypeDesc.func #[3, 3, 33] #[22, 37, 4] false) := ⟨Try.underlying39⟩
instance : Inf Try.prog 39 1 8 [.nilFunc] := ⟨by kernel_rfl⟩
instance : Und Try.prog 40 (TypeDesc.slice 37) := ⟨Try.underlying40⟩
instance : Inf Try.prog 40 1 24 [.slice none 0 0] := ⟨by kernel_rfl⟩
instance : Und Try.prog 41 (TypeDesc.slice 43) := ⟨Try.underlying41⟩
instance : Inf Try.prog 41 1 24 [.slice none 0 0] := ⟨by kernel_rfl⟩
instance : Und Try.prog 42 (TypeDesc.struct #[{ name := "Kind", type := 3, offset := 0, embedded := false, tag := "", pkgPath := "", byteOffset := 0 }, { name := "Layout", type := 3, offset := 1, embedded := false, tag := "", pkgPath := "", byteOffset := 8 }, { name := "SRID", type := 3, offset := 2, embedded := false, tag := "", pkgPath := "", byteOffset := 16 }, { name := "Flat", type := 22, offset := 3, embedded := false, tag := "", pkgPath := "", byteOffset := 24 }, { name := "Ends", type := 37, offset := 4, embedded := false, tag := "", pkgPath := "", byteOffset := 48 }, { name := "Endss", type := 40, offset := 5, embedded := false, tag := "", pkgPath := "", byteOffset := 72 }, { name := "Kids", type := 41, offset := 6, embedded := false, tag := "", pkgPath := "", byteOffset := 96 }]) := ⟨Try.underlying42⟩
instance : Inf Try.prog 42 7 120 [.int .i64 0, .int .i64 0, .int .i64 0, .slice none 0 0, .slice none 0 0, .slice none 0 0, .slice none 0 0] := ⟨by kernel_rfl⟩
instance : Und Try.prog 43 (TypeDesc.struct #[{ name := "Kind", type := 3, offset := 0, embedded := false, tag := "", pkgPath := "", byteOffset := 0 }, { name := "Layout", type := 3, offset := 1, embedded := false, tag := "", pkgPath := "", byteOffset := 8 }, { name := "SRID", type := 3, offset := 2, embedded := false, tag := "", pkgPath := "", byteOffset := 16 }, { name := "Flat", type := 22, offset := 3, embedded := false, tag := "", pkgPath := "", byteOffset := 24 }, { name := "Ends", type := 37, offset := 4, embedded := false, tag := "", pkgPath := "", byteOffset := 48 }, { name := "Endss", type := 40, offset := 5, embedded := false, tag := "", pkgPath := "", byteOffset := 72 }, { name := "Kids", type := 41, offset := 6, embedded := false, tag := "", pkgPath := "", byteOffset := 96 }]) := ⟨Try.underlying43⟩
instance : Inf Try.prog 43 7 120 [.int .i64 0, .int .i64 0, .int .i64 0, .slice none 0 0, .slice none 0 0, .slice none 0 0, .slice none 0 0] := ⟨by kernel_rfl⟩
instance : Und Try.prog 44 (TypeDesc.tuple #[43, 4]) := ⟨Try.underlying44⟩
instance : Und Try.prog 45 (TypeDesc.func #[3, 3, 33] #[43, 4] false) := ⟨Try.underlying45⟩
instance : Inf Try.prog 45 1 8 [.nilFunc] := ⟨by kernel_rfl⟩
instance : Und Try.prog 46 (TypeDesc.float FloatKind.f64) := ⟨Try.underlying46⟩
instance : Inf Try.prog 46 1 8 [.float .f64 0] := ⟨by kernel_rfl⟩
instance : Und Try.prog 47 (TypeDesc.func #[43, 43] #[4] false) := ⟨Try.underlying47⟩
instance : Inf Try.prog 47 1 8 [.nilFunc] := ⟨by kernel_rfl⟩
instance : Und Try.prog 48 (TypeDesc.func #[3, 3, 33] #[4] false) := ⟨Try.underlying48⟩
instance : Inf Try.prog 48 1 8 [.nilFunc] := ⟨by kernel_rfl⟩
instance : Und Try.prog 49 (TypeDesc.func #[43, 50] #[4] false) := ⟨Try.underlying49⟩
instance : Inf Try.prog 49 1 8 [.nilFunc] := ⟨by kernel_rfl⟩
instance : Und Try.prog 50 (TypeDesc.func #[46] #[4] false) := ⟨Try.underlying50⟩
instance : Inf Try.prog 50 1 8 [.nilFunc] := ⟨by kernel_rfl⟩
instance : Und Try.prog 51 (TypeDesc.func #[3, 22, 22] #[4] false) := ⟨Try.underlying51⟩
instance : Inf Try.prog 51 1 8 [.nilFunc] := ⟨by kernel_rfl⟩
instance : Und Try.prog 52 (TypeDesc.func #[22] #[22] false) := ⟨Try.underlying52⟩
instance : Inf Try.prog 52 1 8 [.nilFunc] := ⟨by kernel_rfl⟩
instance : Und Try.prog 53 (TypeDesc.func #[54, 77, 22] #[22] false) := ⟨Try.underlying53⟩
instance : Inf Try.prog 53 1 8 [.nilFunc] := ⟨by kernel_rfl⟩
instance : Und Try.prog 54 (TypeDesc.int IntKind.i64) := ⟨Try.underlying54⟩
instance : Inf Try.prog 54 1 8 [.int .i64 0] := ⟨by kernel_rfl⟩
instance : Und Try.prog 55 (TypeDesc.int IntKind.i64) := ⟨Try.underlying55⟩
instance : Inf Try.prog 55 1 8 [.int .i64 0] := ⟨by kernel_rfl⟩
instance : Und Try.prog 56 (TypeDesc.int IntKind.u64) := ⟨Try.underlying56⟩
instance : Inf Try.prog 56 1 8 [.int .u64 0] := ⟨by kernel_rfl⟩
instance : Und Try.prog 57 (TypeDesc.func #[46] #[56] false) := ⟨Try.underlying57⟩
instance : Inf Try.prog 57 1 8 [.nilFunc] := ⟨by kernel_rfl⟩
instance : Und Try.prog 58 (TypeDesc.func #[25] #[4] false) := ⟨Try.underlying58⟩
instance : Inf Try.prog 58 1 8 [.nilFunc] := ⟨by kernel_rfl⟩
instance : Und Try.prog 59 (TypeDesc.func #[3, 4, 25] #[22, 37, 4] false) := ⟨Try.underlying59⟩
instance : Inf Try.prog 59 1 8 [.nilFunc] := ⟨by kernel_rfl⟩
instance : Und Try.prog 60 (TypeDesc.interface #[("Bounds", 146), ("Empty", 147), ("Ends", 109), ("Endss", 111), ("FlatCoords", 107), ("Layout", 106), ("SRID", 80), ("Stride", 80)]) := ⟨Try.underlying60⟩
instance : Inf Try.prog 60 1 16 [.nilIface] := ⟨by kernel_rfl⟩
instance : Und Try.prog 61 (TypeDesc.interface #[("Bounds", 146), ("Empty", 147), ("Ends", 109), ("Endss", 111), ("FlatCoords", 107), ("Layout", 106), ("SRID", 80), ("Stride", 80)]) := ⟨Try.underlying61⟩
instance : Inf Try.prog 61 1 16 [.nilIface] := ⟨by kernel_rfl⟩
instance : Und Try.prog 62 (TypeDesc.interface #[("Error", 130)]) := ⟨Try.underlying62⟩
instance : Inf Try.prog 62 1 16 [.nilIface] := ⟨by kernel_rfl⟩
instance : Und Try.prog 63 (TypeDesc.interface #[("Error", 130)]) := ⟨Try.underlying63⟩
instance : Inf Try.prog 63 1 16 [.nilIface] := ⟨by kernel_rfl⟩
instance : Und Try.prog 64 (TypeDesc.pointer 92) := ⟨Try.underlying64⟩
instance : Inf Try.prog 64 1 8 [.pointer none] := ⟨by kernel_rfl⟩
instance : Und Try.prog 65 (TypeDesc.tuple #[64, 63]) := ⟨Try.underlying65⟩
instance : Und Try.prog 66 (TypeDesc.func #[54] #[64] false) := ⟨Try.underlying66⟩
instance : Inf Try.prog 66 1 8 [.nilFunc] := ⟨by kernel_rfl⟩
instance : Und Try.prog 67 (TypeDesc.func #[68] #[64, 63] false) := ⟨Try.underlying67⟩
instance : Inf Try.prog 67 1 8 [.nilFunc] := ⟨by kernel_rfl⟩
instance : Und Try.prog 68 (TypeDesc.slice 93) := ⟨Try.underlying68⟩
instance : Inf Try.prog 68 1 24 [.slice none 0 0] := ⟨by kernel_rfl⟩
instance : Und Try.prog 69 (TypeDesc.func #[33] #[68] false) := ⟨Try.underlying69⟩
instance : Inf Try.prog 69 1 8 [.nilFunc] := ⟨by kernel_rfl⟩
instance : Und Try.prog 70 (TypeDesc.pointer 96) := ⟨Try.underlying70⟩
instance : Inf Try.prog 70 1 8 [.pointer none] := ⟨by kernel_rfl⟩
instance : Und Try.prog 71 (TypeDesc.tuple #[70, 63]) := ⟨Try.underlying71⟩
instance : Und Try.prog 72 (TypeDesc.func #[54] #[70] false) := ⟨Try.underlying72⟩
instance : Inf Try.prog 72 1 8 [.nilFunc] := ⟨by kernel_rfl⟩
instance : Und Try.prog 73 (TypeDesc.func #[68] #[70, 63] false) := ⟨Try.underlying73⟩
instance : Inf Try.prog 73 1 8 [.nilFunc] := ⟨by kernel_rfl⟩
instance : Und Try.prog 74 (TypeDesc.func #[61] #[43] false) := ⟨Try.underlying74⟩
instance : Inf Try.prog 74 1 8 [.nilFunc] := ⟨by kernel_rfl⟩
instance : Und Try.prog 75 (TypeDesc.func #[37, 37] #[4] false) := ⟨Try.underlying75⟩
instance : Inf Try.prog 75 1 8 [.nilFunc] := ⟨by kernel_rfl⟩
instance : Und Try.prog 76 (TypeDesc.interface #[("IsEquals", 124), ("IsLess", 124)]) := ⟨Try.underlying76⟩
instance : Inf Try.prog 76 1 16 [.nilIface] := ⟨by kernel_rfl⟩
instance : Und Try.prog 77 (TypeDesc.interface #[("IsEquals", 124), ("IsLess", 124)]) := ⟨Try.underlying77⟩
instance : Inf Try.prog 77 1 16 [.nilIface] := ⟨by kernel_rfl⟩
instance : Und Try.prog 78 (TypeDesc.pointer 114) := ⟨Try.underlying78⟩
instance : Inf Try.prog 78 1 8 [.pointer none] := ⟨by kernel_rfl⟩
instance : Und Try.prog 79 (TypeDesc.func #[54, 77] #[78] false) := ⟨Try.underlying79⟩
instance : Inf Try.prog 79 1 8 [.nilFunc] := ⟨by kernel_rfl⟩
instance : Und Try.prog 80 (TypeDesc.func #[] #[3] false) := ⟨Try.underlying80⟩
instance : Inf Try.prog 80 1 8 [.nilFunc] := ⟨by kernel_rfl⟩
instance : Und Try.prog 81 (TypeDesc.func #[82] #[4] false) := ⟨Try.underlying81⟩
instance : Inf Try.prog 81 1 8 [.nilFunc] := ⟨by kernel_rfl⟩
instance : Und Try.prog 82 (TypeDesc.slice 46) := ⟨Try.underlying82⟩
instance : Inf Try.prog 82 1 24 [.slice none 0 0] := ⟨by kernel_rfl⟩
instance : Und Try.prog 83 (TypeDesc.func #[54, 22, 37] #[64] false) := ⟨Try.underlying83⟩
instance : Inf Try.prog 83 1 8 [.nilFunc] := ⟨by kernel_rfl⟩
instance : Und Try.prog 84 (TypeDesc.func #[68] #[63] false) := ⟨Try.underlying84⟩
instance : Inf Try.prog 84 1 8 [.nilFunc] := ⟨by kernel_rfl⟩
instance : Und Try.prog 85 (TypeDesc.struct #[{ name := "layout", type := 54, offset := 0, embedded := false, tag := "", pkgPath := "pub-orthodrome/pub/gogeom", byteOffset := 0 }, { name := "stride", type := 3, offset := 1, embedded := false, tag := "", pkgPath := "pub-orthodrome/pub/gogeom", byteOffset := 8 }, { name := "flatCoords", type := 22, offset := 2, embedded := false, tag := "", pkgPath := "pub-orthodrome/pub/gogeom", byteOffset := 16 }, { name := "srid", type := 3, offset := 3, embedded := false, tag := "", pkgPath := "pub-orthodrome/pub/gogeom", byteOffset := 40 }]) := ⟨Try.underlying85⟩
instance : Inf Try.prog 85 4 48 [.int .i64 0, .int .i64 0, .slice none 0 0, .int .i64 0] := ⟨by kernel_rfl⟩
instance : Und Try.prog 86 (TypeDesc.struct #[{ name := "layout", type := 54, offset := 0, embedded := false, tag := "", pkgPath := "pub-orthodrome/pub/gogeom", byteOffset := 0 }, { name := "stride", type := 3, offset := 1, embedded := false, tag := "", pkgPath := "pub-orthodrome/pub/gogeom", byteOffset := 8 }, { name := "flatCoords", type := 22, offset := 2, embedded := false, tag := "", pkgPath := "pub-orthodrome/pub/gogeom", byteOffset := 16 }, { name := "srid", type := 3, offset := 3, embedded := false, tag := "", pkgPath := "pub-orthodrome/pub/gogeom", byteOffset := 40 }]) := ⟨Try.underlying86⟩
instance : Inf Try.prog 86 4 48 [.int .i64 0, .int .i64 0, .slice none 0 0, .int .i64 0] := ⟨by kernel_rfl⟩
instance : Und Try.prog 87 (TypeDesc.struct #[{ name := "geom0", type := 86, offset := 0, embedded := true, tag := "", pkgPath := "pub-orthodrome/pub/gogeom", byteOffset := 0 }]) := ⟨Try.underlying87⟩
instance : Inf Try.prog 87 4 48 [.int .i64 0, .int .i64 0, .slice none 0 0, .int .i64 0] := ⟨by kernel_rfl⟩
instance : Und Try.prog 88 (TypeDesc.struct #[{ name := "geom0", type := 86, offset := 0, embedded := true, tag := "", pkgPath := "pub-orthodrome/pub/gogeom", byteOffset := 0 }]) := ⟨Try.underlying88⟩
instance : Inf Try.prog 88 4 48 [.int .i64 0, .int .i64 0, .slice none 0 0, .int .i64 0] := ⟨by kernel_rfl⟩
instance : Und Try.prog 89 (TypeDesc.struct #[{ name := "geom1", type := 88, offset := 0, embedded := true, tag := "", pkgPath := "pub-orthodrome/pub/gogeom", byteOffset := 0 }, { name := "ends", type := 37, offset := 4, embedded := false, tag := "", pkgPath := "pub-orthodrome/pub/gogeom", byteOffset := 48 }]) := ⟨Try.underlying89⟩
instance : Inf Try.prog 89 5 72 [.int .i64 0, .int .i64 0, .slice none 0 0, .int .i64 0, .slice none 0 0] := ⟨by kernel_rfl⟩
instance : Und Try.prog 90 (TypeDesc.struct #[{ name := "geom1", type := 88, offset := 0, embedded := true, tag := "", pkgPath := "pub-orthodrome/pub/gogeom", byteOffset := 0 }, { name := "ends", type := 37, offset := 4, embedded := false, tag := "", pkgPath := "pub-orthodrome/pub/gogeom", byteOffset := 48 }]) := ⟨Try.underlying90⟩
instance : Inf Try.prog 90 5 72 [.int .i64 0, .int .i64 0, .slice none 0 0, .int .i64 0, .slice none 0 0] := ⟨by kernel_rfl⟩
instance : Und Try.prog 91 (TypeDesc.struct #[{ name := "geom2", type := 90, offset := 0, embedded := true, tag := "", pkgPath := "pub-orthodrome/pub/gogeom", byteOffset := 0 }]) := ⟨Try.underlying91⟩
instance : Inf Try.prog 91 5 72 [.int .i64 0, .int .i64 0, .slice none 0 0, .int .i64 0, .slice none 0 0] := ⟨by kernel_rfl⟩
instance : Und Try.prog 92 (TypeDesc.struct #[{ name := "geom2", type := 90, offset := 0, embedded := true, tag := "", pkgPath := "pub-orthodrome/pub/gogeom", byteOffset := 0 }]) := ⟨Try.underlying92⟩
instance : Inf Try.prog 92 5 72 [.int .i64 0, .int .i64 0, .slice none 0 0, .int .i64 0, .slice none 0 0] := ⟨by kernel_rfl⟩
instance : Und Try.prog 93 (TypeDesc.slice 82) := ⟨Try.underlying93⟩
instance : Inf Try.prog 93 1 24 [.slice none 0 0] := ⟨by kernel_rfl⟩
instance : Und Try.prog 94 (TypeDesc.func #[25] #[93] false) := ⟨Try.underlying94⟩
instance : Inf Try.prog 94 1 8 [.nilFunc] := ⟨by kernel_rfl⟩
instance : Und Try.prog 95 (TypeDesc.func #[54, 22, 37] #[70] false) := ⟨Try.underlying95⟩
instance : Inf Try.prog 95 1 8 [.nilFunc] := ⟨by kernel_rfl⟩
instance : Und Try.prog 96 (TypeDesc.struct #[{ name := "geom2", type := 90, offset := 0, embedded := true, tag := "", pkgPath := "pub-orthodrome/pub/gogeom", byteOffset := 0 }]) := ⟨Try.underlying96⟩
instance : Inf Try.prog 96 5 72 [.int .i64 0, .int .i64 0, .slice none 0 0, .int .i64 0, .slice none 0 0] := ⟨by kernel_rfl⟩
instance : Und Try.prog 97 (TypeDesc.pointer 150) := ⟨Try.underlying97⟩
instance : Inf Try.prog 97 1 8 [.pointer none] := ⟨by kernel_rfl⟩
instance : Und Try.prog 98 (TypeDesc.pointer 152) := ⟨Try.underlying98⟩
instance : Inf Try.prog 98 1 8 [.pointer none] := ⟨by kernel_rfl⟩
instance : Und Try.prog 99 (TypeDesc.pointer 153) := ⟨Try.underlying99⟩
instance : Inf Try.prog 99 1 8 [.pointer none] := ⟨by kernel_rfl⟩
instance : Und Try.prog 100 (TypeDesc.pointer 154) := ⟨Try.underlying100⟩
instance : Inf Try.prog 100 1 8 [.pointer none] := ⟨by kernel_rfl⟩
instance : Und Try.prog 101 (TypeDesc.pointer 158) := ⟨Try.underlying101⟩
instance : Inf Try.prog 101 1 8 [.pointer none] := ⟨by kernel_rfl⟩
instance : Und Try.prog 102 (TypeDesc.pointer 121) := ⟨Try.underlying102⟩
instance : Inf Try.prog 102 1 8 [.pointer none] := ⟨by kernel_rfl⟩
instance : Und Try.prog 103 (TypeDesc.func #[102] #[54] false) := ⟨Try.underlying103⟩
instance : Inf Try.prog 103 1 8 [.nilFunc] := ⟨by kernel_rfl⟩
instance : Und Try.prog 104 (TypeDesc.slice 61) := ⟨Try.underlying104⟩
instance : Inf Try.prog 104 1 24 [.slice none 0 0] := ⟨by kernel_rfl⟩
instance : Und Try.prog 105 (TypeDesc.func #[] #[104] false) := ⟨Try.underlying105⟩
instance : Inf Try.prog 105 1 8 [.nilFunc] := ⟨by kernel_rfl⟩
instance : Und Try.prog 106 (TypeDesc.func #[] #[54] false) := ⟨Try.underlying106⟩
instance : Inf Try.prog 106 1 8 [.nilFunc] := ⟨by kernel_rfl⟩
instance : Und Try.prog 107 (TypeDesc.func #[] #[22] false) := ⟨Try.underlying107⟩
instance : Inf Try.prog 107 1 8 [.nilFunc] := ⟨by kernel_rfl⟩
instance : Und Try.prog 108 (TypeDesc.func #[37] #[37] false) := ⟨Try.underlying108⟩
instance : Inf Try.prog 108 1 8 [.nilFunc] := ⟨by kernel_rfl⟩
instance : Und Try.prog 109 (TypeDesc.func #[] #[37] false) := ⟨Try.underlying109⟩
instance : Inf Try.prog 109 1 8 [.nilFunc] := ⟨by kernel_rfl⟩
instance : Und Try.prog 110 (TypeDesc.func #[40] #[40] false) := ⟨Try.underlying110⟩
instance : Inf Try.prog 110 1 8 [.nilFunc] := ⟨by kernel_rfl⟩
instance : Und Try.prog 111 (TypeDesc.func #[] #[40] false) := ⟨Try.underlying111⟩
instance : Inf Try.prog 111 1 8 [.nilFunc] := ⟨by kernel_rfl⟩
instance : Und Try.prog 112 (TypeDesc.pointer 123) := ⟨Try.underlying112⟩
instance : Inf Try.prog 112 1 8 [.pointer none] := ⟨by kernel_rfl⟩
instance : Und Try.prog 113 (TypeDesc.struct #[{ name := "compare", type := 77, offset := 0, embedded := false, tag := "", pkgPath := "pub-orthodrome/pub/gogeom/transform", byteOffset := 0 }, { name := "tree", type := 112, offset := 1, embedded := false, tag := "", pkgPath := "pub-orthodrome/pub/gogeom/transform", byteOffset := 16 }, { name := "size", type := 3, offset := 2, embedded := false, tag := "", pkgPath := "pub-orthodrome/pub/gogeom/transform", byteOffset := 24 }, { name := "layout", type := 54, offset := 3, embedded := false, tag := "", pkgPath := "pub-orthodrome/pub/gogeom/transform", byteOffset := 32 }, { name := "stride", type := 3, offset := 4, embedded := false, tag := "", pkgPath := "pub-orthodrome/pub/gogeom/transform", byteOffset := 40 }]) := ⟨Try.underlying113⟩
instance : Inf Try.prog 113 5 48 [.nilIface, .pointer none, .int .i64 0, .int .i64 0, .int .i64 0] := ⟨by kernel_rfl⟩
instance : Und Try.prog 114 (TypeDesc.struct #[{ name := "compare", type := 77, offset := 0, embedded := false, tag := "", pkgPath := "pub-orthodrome/pub/gogeom/transform", byteOffset := 0 }, { name := "tree", type := 112, offset := 1, embedded := false, tag := "", pkgPath := "pub-orthodrome/pub/gogeom/transform", byteOffset := 16 }, { name := "size", type := 3, offset := 2, embedded := false, tag := "", pkgPath := "pub-orthodrome/pub/gogeom/transform", byteOffset := 24 }, { name := "layout", type := 54, offset := 3, embedded := false, tag := "", pkgPath := "pub-orthodrome/pub/gogeom/transform", byteOffset := 32 }, { name := "stride", type := 3, offset := 4, embedded := false, tag := "", pkgPath := "pub-orthodrome/pub/gogeom/transform", byteOffset := 40 }]) := ⟨Try.underlying114⟩
instance : Inf Try.prog 114 5 48 [.nilIface, .pointer none, .int .i64 0, .int .i64 0, .int .i64 0] := ⟨by kernel_rfl⟩
instance : Und Try.prog 115 (TypeDesc.tuple #[112, 4]) := ⟨Try.underlying115⟩
instance : Und Try.prog 116 (TypeDesc.func #[112, 22] #[112, 4] false) := ⟨Try.underlying116⟩
instance : Inf Try.prog 116 1 8 [.nilFunc] := ⟨by kernel_rfl⟩
instance : Und Try.prog 117 (TypeDesc.pointer 90) := ⟨Try.underlying117⟩
instance : Inf Try.prog 117 1 8 [.pointer none] := ⟨by kernel_rfl⟩
instance : Und Try.prog 118 (TypeDesc.tuple #[22, 37, 63]) := ⟨Try.underlying118⟩
instance : Und Try.prog 119 (TypeDesc.func #[22, 37, 68, 3] #[22, 37, 63] false) := ⟨Try.underlying119⟩
instance : Inf Try.prog 119 1 8 [.nilFunc] := ⟨by kernel_rfl⟩
instance : Und Try.prog 120 (TypeDesc.struct #[{ name := "layout", type := 54, offset := 0, embedded := false, tag := "", pkgPath := "pub-orthodrome/pub/gogeom", byteOffset := 0 }, { name := "geoms", type := 104, offset := 1, embedded := false, tag := "", pkgPath := "pub-orthodrome/pub/gogeom", byteOffset := 8 }, { name := "srid", type := 3, offset := 2, embedded := false, tag := "", pkgPath := "pub-orthodrome/pub/gogeom", byteOffset := 32 }]) := ⟨Try.underlying120⟩
instance : Inf Try.prog 120 3 40 [.int .i64 0, .slice none 0 0, .int .i64 0] := ⟨by kernel_rfl⟩
instance : Und Try.prog 121 (TypeDesc.struct #[{ name := "layout", type := 54, offset := 0, embedded := false, tag := "", pkgPath := "pub-orthodrome/pub/gogeom", byteOffset := 0 }, { name := "geoms", type := 104, offset := 1, embedded := false, tag := "", pkgPath := "pub-orthodrome/pub/gogeom", byteOffset := 8 }, { name := "srid", type := 3, offset := 2, embedded := false, tag := "", pkgPath := "pub-orthodrome/pub/gogeom", byteOffset := 32 }]) := ⟨Try.underlying121⟩
instance : Inf Try.prog 121 3 40 [.int .i64 0, .slice none 0 0, .int .i64 0] := ⟨by kernel_rfl⟩
instance : Und Try.prog 122 (TypeDesc.struct #[{ name := "left", type := 112, offset := 0, embedded := false, tag := "", pkgPath := "pub-orthodrome/pub/gogeom/transform", byteOffset := 0 }, { name := "value", type := 82, offset := 1, embedded := false, tag := "", pkgPath := "pub-orthodrome/pub/gogeom/transform", byteOffset := 8 }, { name := "right", type := 112, offset := 2, embedded := false, tag := "", pkgPath := "pub-orthodrome/pub/gogeom/transform", byteOffset := 32 }]) := ⟨Try.underlying122⟩
instance : Inf Try.prog 122 3 40 [.pointer none, .slice none 0 0, .pointer none] := ⟨by kernel_rfl⟩
instance : Und Try.prog 123 (TypeDesc.struct #[{ name := "left", type := 112, offset := 0, embedded := false, tag := "", pkgPath := "pub-orthodrome/pub/gogeom/transform", byteOffset := 0 }, { name := "value", type := 82, offset := 1, embedded := false, tag := "", pkgPath := "pub-orthodrome/pub/gogeom/transform", byteOffset := 8 }, { name := "right", type := 112, offset := 2, embedded := false, tag := "", pkgPath := "pub-orthodrome/pub/gogeom/transform", byteOffset := 32 }]) := ⟨Try.underlying123⟩
instance : Inf Try.prog 123 3 40 [.pointer none, .slice none 0 0, .pointer none] := ⟨by kernel_rfl⟩
instance : Und Try.prog 124 (TypeDesc.func #[82, 82] #[4] false) := ⟨Try.underlying124⟩
instance : Inf Try.prog 124 1 8 [.nilFunc] := ⟨by kernel_rfl⟩
instance : Und Try.prog 125 (TypeDesc.tuple #[22, 63]) := ⟨Try.underlying125⟩
instance : Und Try.prog 126 (TypeDesc.func #[22, 93, 3] #[22, 63] false) := ⟨Try.underlying126⟩
instance : Inf Try.prog 126 1 8 [.nilFunc] := ⟨by kernel_rfl⟩
instance : Und Try.prog 127 (TypeDesc.func #[22, 82, 3] #[22, 63] false) := ⟨Try.underlying127⟩
instance : Inf Try.prog 127 1 8 [.nilFunc] := ⟨by kernel_rfl⟩
instance : Und Try.prog 128 (TypeDesc.struct #[{ name := "Got", type := 3, offset := 0, embedded := false, tag := "", pkgPath := "", byteOffset := 0 }, { name := "Want", type := 3, offset := 1, embedded := false, tag := "", pkgPath := "", byteOffset := 8 }]) := ⟨Try.underlying128⟩
instance : Inf Try.prog 128 2 16 [.int .i64 0, .int .i64 0] := ⟨by kernel_rfl⟩
instance : Und Try.prog 129 (TypeDesc.struct #[{ name := "Got", type := 3, offset := 0, embedded := false, tag := "", pkgPath := "", byteOffset := 0 }, { name := "Want", type := 3, offset := 1, embedded := false, tag := "", pkgPath := "", byteOffset := 8 }]) := ⟨Try.underlying129⟩
instance : Inf Try.prog 129 2 16 [.int .i64 0, .int .i64 0] := ⟨by kernel_rfl⟩
instance : Und Try.prog 130 (TypeDesc.func #[] #[9] false) := ⟨Try.underlying130⟩
instance : Inf Try.prog 130 1 8 [.nilFunc] := ⟨by kernel_rfl⟩
instance : Und Try.prog 131 (TypeDesc.struct #[{ name := "_interface", type := 17, offset := 0, embedded := false, tag := "", pkgPath := "runtime", byteOffset := 0 }, { name := "concrete", type := 17, offset := 1, embedded := false, tag := "", pkgPath := "runtime", byteOffset := 8 }, { name := "asserted", type := 17, offset := 2, embedded := false, tag := "", pkgPath := "runtime", byteOffset := 16 }, { name := "missingMethod", type := 9, offset := 3, embedded := false, tag := "", pkgPath := "runtime", byteOffset := 24 }]) := ⟨Try.underlying131⟩
instance : Inf Try.prog 131 4 40 [.pointer none, .pointer none, .pointer none, .string ⟨#[]⟩] := ⟨by kernel_rfl⟩
instance : Und Try.prog 132 (TypeDesc.struct #[{ name := "_interface", type := 17, offset := 0, embedded := false, tag := "", pkgPath := "runtime", byteOffset := 0 }, { name := "concrete", type := 17, offset := 1, embedded := false, tag := "", pkgPath := "runtime", byteOffset := 8 }, { name := "asserted", type := 17, offset := 2, embedded := false, tag := "", pkgPath := "runtime", byteOffset := 16 }, { name := "missingMethod", type := 9, offset := 3, embedded := false, tag := "", pkgPath := "runtime", byteOffset := 24 }]) := ⟨Try.underlying132⟩
instance : Inf Try.prog 132 4 40 [.pointer none, .pointer none, .pointer none, .string ⟨#[]⟩] := ⟨by kernel_rfl⟩
instance : Und Try.prog 133 (TypeDesc.array 0 16) := ⟨Try.underlying133⟩
instance : Inf Try.prog 133 0 0 [] := ⟨by kernel_rfl⟩
instance : Und Try.prog 134 (TypeDesc.struct #[{ name := "_", type := 133, offset := 0, embedded := false, tag := "", pkgPath := "runtime", byteOffset := 0 }]) := ⟨Try.underlying134⟩
instance : Inf Try.prog 134 0 0 [] := ⟨by kernel_rfl⟩
instance : Und Try.prog 135 (TypeDesc.struct #[{ name := "_", type := 133, offset := 0, embedded := false, tag := "", pkgPath := "runtime", byteOffset := 0 }]) := ⟨Try.underlying135⟩
instance : Inf Try.prog 135 0 0 [] := ⟨by kernel_rfl⟩
instance : Und Try.prog 136 (TypeDesc.int IntKind.u32) := ⟨Try.underlying136⟩
instance : Inf Try.prog 136 1 4 [.int .u32 0] := ⟨by kernel_rfl⟩
instance : Und Try.prog 137 (TypeDesc.int IntKind.u8) := ⟨Try.underlying137⟩
instance : Inf Try.prog 137 1 1 [.int .u8 0] := ⟨by kernel_rfl⟩
instance : Und Try.prog 138 (TypeDesc.int IntKind.u8) := ⟨Try.underlying138⟩
instance : Inf Try.prog 138 1 1 [.int .u8 0] := ⟨by kernel_rfl⟩
instance : Und Try.prog 139 (TypeDesc.func #[160, 160] #[4] false) := ⟨Try.underlying139⟩
instance : Inf Try.prog 139 1 8 [.nilFunc] := ⟨by kernel_rfl⟩
instance : Und Try.prog 140 (TypeDesc.pointer 5) := ⟨Try.underlying140⟩
instance : Inf Try.prog 140 1 8 [.pointer none] := ⟨by kernel_rfl⟩
instance : Und Try.prog 141 (TypeDesc.int IntKind.i32) := ⟨Try.underlying141⟩
instance : Inf Try.prog 141 1 4 [.int .i32 0] := ⟨by kernel_rfl⟩
instance : Und Try.prog 142 (TypeDesc.int IntKind.i32) := ⟨Try.underlying142⟩
instance : Inf Try.prog 142 1 4 [.int .i32 0] := ⟨by kernel_rfl⟩
instance : Und Try.prog 143 (TypeDesc.struct #[{ name := "Size_", type := 12, offset := 0, embedded := false, tag := "", pkgPath := "", byteOffset := 0 }, { name := "PtrBytes", type := 12, offset := 1, embedded := false, tag := "", pkgPath := "", byteOffset := 8 }, { name := "Hash", type := 136, offset := 2, embedded := false, tag := "", pkgPath := "", byteOffset := 16 }, { name := "TFlag", type := 137, offset := 3, embedded := false, tag := "", pkgPath := "", byteOffset := 20 }, { name := "Align_", type := 5, offset := 4, embedded := false, tag := "", pkgPath := "", byteOffset := 21 }, { name := "FieldAlign_", type := 5, offset := 5, embedded := false, tag := "", pkgPath := "", byteOffset := 22 }, { name := "Kind_", type := 138, offset := 6, embedded := false, tag := "", pkgPath := "", byteOffset := 23 }, { name := "Equal", type := 139, offset := 7, embedded := false, tag := "", pkgPath := "", byteOffset := 24 }, { name := "GCData", type := 140, offset := 8, embedded := false, tag := "", pkgPath := "", byteOffset := 32 }, { name := "Str", type := 141, offset := 9, embedded := false, tag := "", pkgPath := "", byteOffset := 40 }, { name := "PtrToThis", type := 142, offset := 10, embedded := false, tag := "", pkgPath := "", byteOffset := 44 }]) := ⟨Try.underlying143⟩
instance : Inf Try.prog 143 11 48 [.int .u64 0, .int .u64 0, .int .u32 0, .int .u8 0, .int .u8 0, .int .u8 0, .int .u8 0, .nilFunc, .pointer none, .int .i32 0, .int .i32 0] := ⟨by kernel_rfl⟩
instance : Und Try.prog 144 (TypeDesc.struct #[{ name := "Size_", type := 12, offset := 0, embedded := false, tag := "", pkgPath := "", byteOffset := 0 }, { name := "PtrBytes", type := 12, offset := 1, embedded := false, tag := "", pkgPath := "", byteOffset := 8 }, { name := "Hash", type := 136, offset := 2, embedded := false, tag := "", pkgPath := "", byteOffset := 16 }, { name := "TFlag", type := 137, offset := 3, embedded := false, tag := "", pkgPath := "", byteOffset := 20 }, { name := "Align_", type := 5, offset := 4, embedded := false, tag := "", pkgPath := "", byteOffset := 21 }, { name := "FieldAlign_", type := 5, offset := 5, embedded := false, tag := "", pkgPath := "", byteOffset := 22 }, { name := "Kind_", type := 138, offset := 6, embedded := false, tag := "", pkgPath := "", byteOffset := 23 }, { name := "Equal", type := 139, offset := 7, embedded := false, tag := "", pkgPath := "", byteOffset := 24 }, { name := "GCData", type := 140, offset := 8, embedded := false, tag := "", pkgPath := "", byteOffset := 32 }, { name := "Str", type := 141, offset := 9, embedded := false, tag := "", pkgPath := "", byteOffset := 40 }, { name := "PtrToThis", type := 142, offset := 10, embedded := false, tag := "", pkgPath := "", byteOffset := 44 }]) := ⟨Try.underlying144⟩
instance : Inf Try.prog 144 11 48 [.int .u64 0, .int .u64 0, .int .u32 0, .int .u8 0, .int .u8 0, .int .u8 0, .int .u8 0, .nilFunc, .pointer none, .int .i32 0, .int .i32 0] := ⟨by kernel_rfl⟩
instance : Und Try.prog 145 (TypeDesc.func #[82] #[3] false) := ⟨Try.underlying145⟩
instance : Inf Try.prog 145 1 8 [.nilFunc] := ⟨by kernel_rfl⟩
instance : Und Try.prog 146 (TypeDesc.func #[] #[161] false) := ⟨Try.underlying146⟩
instance : Inf Try.prog 146 1 8 [.nilFunc] := ⟨by kernel_rfl⟩
instance : Und Try.prog 147 (TypeDesc.func #[] #[4] false) := ⟨Try.underlying147⟩
instance : Inf Try.prog 147 1 8 [.nilFunc] := ⟨by kernel_rfl⟩
instance : Und Try.prog 148 (TypeDesc.pointer 86) := ⟨Try.underlying148⟩
instance : Inf Try.prog 148 1 8 [.pointer none] := ⟨by kernel_rfl⟩
instance : Und Try.prog 149 (TypeDesc.func #[] #[46] false) := ⟨Try.underlying149⟩
instance : Inf Try.prog 149 1 8 [.nilFunc] := ⟨by kernel_rfl⟩
instance : Und Try.prog 150 (TypeDesc.struct #[{ name := "geom0", type := 86, offset := 0, embedded := true, tag := "", pkgPath := "pub-orthodrome/pub/gogeom", byteOffset := 0 }]) := ⟨Try.underlying150⟩
instance : Inf Try.prog 150 4 48 [.int .i64 0, .int .i64 0, .slice none 0 0, .int .i64 0] := ⟨by kernel_rfl⟩
instance : Und Try.prog 151 (TypeDesc.struct #[{ name := "geom1", type := 88, offset := 0, embedded := true, tag := "", pkgPath := "pub-orthodrome/pub/gogeom", byteOffset := 0 }]) := ⟨Try.underlying151⟩
instance : Inf Try.prog 151 4 48 [.int .i64 0, .int .i64 0, .slice none 0 0, .int .i64 0] := ⟨by kernel_rfl⟩
instance : Und Try.prog 152 (TypeDesc.struct #[{ name := "geom1", type := 88, offset := 0, embedded := true, tag := "", pkgPath := "pub-orthodrome/pub/gogeom", byteOffset := 0 }]) := ⟨Try.underlying152⟩
instance : Inf Try.prog 152 4 48 [.int .i64 0, .int .i64 0, .slice none 0 0, .int .i64 0] := ⟨by kernel_rfl⟩
instance : Und Try.prog 153 (TypeDesc.struct #[{ name := "geom1", type := 88, offset := 0, embedded := true, tag := "", pkgPath := "pub-orthodrome/pub/gogeom", byteOffset := 0 }]) := ⟨Try.underlying153⟩
instance : Inf Try.prog 153 4 48 [.int .i64 0, .int .i64 0, .slice none 0 0, .int .i64 0] := ⟨by kernel_rfl⟩
instance : Und Try.prog 154 (TypeDesc.struct #[{ name := "geom2", type := 90, offset := 0, embedded := true, tag := "", pkgPath := "pub-orthodrome/pub/gogeom", byteOffset := 0 }]) := ⟨Try.underlying154⟩
instance : Inf Try.prog 154 5 72 [.int .i64 0, .int .i64 0, .slice none 0 0, .int .i64 0, .slice none 0 0] := ⟨by kernel_rfl⟩
instance : Und Try.prog 155 (TypeDesc.struct #[{ name := "geom1", type := 88, offset := 0, embedded := true, tag := "", pkgPath := "pub-orthodrome/pub/gogeom", byteOffset := 0 }, { name := "endss", type := 40, offset := 4, embedded := false, tag := "", pkgPath := "pub-orthodrome/pub/gogeom", byteOffset := 48 }]) := ⟨Try.underlying155⟩
instance : Inf Try.prog 155 5 72 [.int .i64 0, .int .i64 0, .slice none 0 0, .int .i64 0, .slice none 0 0] := ⟨by kernel_rfl⟩
instance : Und Try.prog 156 (TypeDesc.struct #[{ name := "geom1", type := 88, offset := 0, embedded := true, tag := "", pkgPath := "pub-orthodrome/pub/gogeom", byteOffset := 0 }, { name := "endss", type := 40, offset := 4, embedded := false, tag := "", pkgPath := "pub-orthodrome/pub/gogeom", byteOffset := 48 }]) := ⟨Try.underlying156⟩
instance : Inf Try.prog 156 5 72 [.int .i64 0, .int .i64 0, .slice none 0 0, .int .i64 0, .slice none 0 0] := ⟨by kernel_rfl⟩
instance : Und Try.prog 157 (TypeDesc.struct #[{ name := "geom3", type := 156, offset := 0, embedded := true, tag := "", pkgPath := "pub-orthodrome/pub/gogeom", byteOffset := 0 }]) := ⟨Try.underlying157⟩
instance : Inf Try.prog 157 5 72 [.int .i64 0, .int .i64 0, .slice none 0 0, .int .i64 0, .slice none 0 0] := ⟨by kernel_rfl⟩
instance : Und Try.prog 158 (TypeDesc.struct #[{ name := "geom3", type := 156, offset := 0, embedded := true, tag := "", pkgPath := "pub-orthodrome/pub/gogeom", byteOffset := 0 }]) := ⟨Try.underlying158⟩
instance : Inf Try.prog 158 5 72 [.int .i64 0, .int .i64 0, .slice none 0 0, .int .i64 0, .slice none 0 0] := ⟨by kernel_rfl⟩
instance : Und Try.prog 159 (TypeDesc.pointer 156) := ⟨Try.underlying159⟩
instance : Inf Try.prog 159 1 8 [.pointer none] := ⟨by kernel_rfl⟩
instance : Und Try.prog 160 TypeDesc.unsafePointer := ⟨Try.underlying160⟩
instance : Inf Try.prog 160 1 8 [.pointer none] := ⟨by kernel_rfl⟩
instance : Und Try.prog 161 (TypeDesc.pointer 163) := ⟨Try.underlying161⟩
instance : Inf Try.prog 161 1 8 [.pointer none] := ⟨by kernel_rfl⟩
instance : Und Try.prog 162 (TypeDesc.struct #[{ name := "layout", type := 54, offset := 0, embedded := false, tag := "", pkgPath := "pub-orthodrome/pub/gogeom", byteOffset := 0 }, { name := "min", type := 82, offset := 1, embedded := false, tag := "", pkgPath := "pub-orthodrome/pub/gogeom", byteOffset := 8 }, { name := "max", type := 82, offset := 2, embedded := false, tag := "", pkgPath := "pub-orthodrome/pub/gogeom", byteOffset := 32 }]) := ⟨Try.underlying162⟩
instance : Inf Try.prog 162 3 56 [.int .i64 0, .slice none 0 0, .slice none 0 0] := ⟨by kernel_rfl⟩
instance : Und Try.prog 163 (TypeDesc.struct #[{ name := "layout", type := 54, offset := 0, embedded := false, tag := "", pkgPath := "pub-orthodrome/pub/gogeom", byteOffset := 0 }, { name := "min", type := 82, offset := 1, embedded := false, tag := "", pkgPath := "pub-orthodrome/pub/gogeom", byteOffset := 8 }, { name := "max", type := 82, offset := 2, embedded := false, tag := "", pkgPath := "pub-orthodrome/pub/gogeom", byteOffset := 32 }]) := ⟨Try.underlying163⟩
instance : Inf Try.prog 163 3 56 [.int .i64 0, .slice none 0 0, .slice none 0 0] := ⟨by kernel_rfl⟩
instance : Und Try.prog 164 (TypeDesc.pointer 88) := ⟨Try.underlying164⟩
instance : Inf Try.prog 164 1 8 [.pointer none] := ⟨by kernel_rfl⟩
instance : FieldAt Try.prog 7 0 0 := .mk' Try.underlying7 rfl rfl (by kernel_rfl)
instance : FieldAt Try.prog 7 1 1 := .mk' Try.underlying7 rfl rfl (by kernel_rfl)
instance : FieldAt Try.prog 7 2 2 := .mk' Try.underlying7 rfl rfl (by kernel_rfl)
instance : FieldAt Try.prog 7 3 3 := .mk' Try.underlying7 rfl rfl (by kernel_rfl)
instance : FieldAt Try.prog 8 0 0 := .mk' Try.underlying8 rfl rfl (by kernel_rfl)
instance : FieldAt Try.prog 8 1 1 := .mk' Try.underlying8 rfl rfl (by kernel_rfl)
instance : FieldAt Try.prog 8 2 2 := .mk' Try.underlying8 rfl rfl (by kernel_rfl)
instance : FieldAt Try.prog 8 3 3 := .mk' Try.underlying8 rfl rfl (by kernel_rfl)
instance : FieldAt Try.prog 13 0 0 := .mk' Try.underlying13 rfl rfl (by kernel_rfl)
instance : FieldAt Try.prog 13 1 1 := .mk' Try.underlying13 rfl rfl (by kernel_rfl)
instance : FieldAt Try.prog 14 0 0 := .mk' Try.underlying14 rfl rfl (by kernel_rfl)
instance : FieldAt Try.prog 14 1 1 := .mk' Try.underlying14 rfl rfl (by kernel_rfl)
instance : FieldAt Try.prog 18 0 0 := .mk' Try.underlying18 rfl rfl (by kernel_rfl)
instance : FieldAt Try.prog 19 0 0 := .mk' Try.underlying19 rfl rfl (by kernel_rfl)
instance : FieldAt Try.prog 42 0 0 := .mk' Try.underlying42 rfl rfl (by kernel_rfl)
instance : FieldAt Try.prog 42 1 1 := .mk' Try.underlying42 rfl rfl (by kernel_rfl)
instance : FieldAt Try.prog 42 2 2 := .mk' Try.underlying42 rfl rfl (by kernel_rfl)
instance : FieldAt Try.prog 42 3 3 := .mk' Try.underlying42 rfl rfl (by kernel_rfl)
instance : FieldAt Try.prog 42 4 4 := .mk' Try.underlying42 rfl rfl (by kernel_rfl)
instance : FieldAt Try.prog 42 5 5 := .mk' Try.underlying42 rfl rfl (by kernel_rfl)
instance : FieldAt Try.prog 42 6 6 := .mk' Try.underlying42 rfl rfl (by kernel_rfl)
instance : FieldAt Try.prog 43 0 0 := .mk' Try.underlying43 rfl rfl (by kernel_rfl)
instance : FieldAt Try.prog 43 1 1 := .mk' Try.underlying43 rfl rfl (by kernel_rfl)
instance : FieldAt Try.prog 43 2 2 := .mk' Try.underlying43 rfl rfl (by kernel_rfl)
instance : FieldAt Try.prog 43 3 3 := .mk' Try.underlying43 rfl rfl (by kernel_rfl)
instance : FieldAt Try.prog 43 4 4 := .mk' Try.underlying43 rfl rfl (by kernel_rfl)
instance : FieldAt Try.prog 43 5 5 := .mk' Try.underlying43 rfl rfl (by kernel_rfl)
instance : FieldAt Try.prog 43 6 6 := .mk' Try.underlying43 rfl rfl (by kernel_rfl)
instance : FieldAt Try.prog 85 0 0 := .mk' Try.underlying85 rfl rfl (by kernel_rfl)
instance : FieldAt Try.prog 85 1 1 := .mk' Try.underlying85 rfl rfl (by kernel_rfl)
instance : FieldAt Try.prog 85 2 2 := .mk' Try.underlying85 rfl rfl (by kernel_rfl)
instance : FieldAt Try.prog 85 3 3 := .mk' Try.underlying85 rfl rfl (by kernel_rfl)
instance : FieldAt Try.prog 86 0 0 := .mk' Try.underlying86 rfl rfl (by kernel_rfl)
instance : FieldAt Try.prog 86 1 1 := .mk' Try.underlying86 rfl rfl (by kernel_rfl)
instance : FieldAt Try.prog 86 2 2 := .mk' Try.underlying86 rfl rfl (by kernel_rfl)
instance : FieldAt Try.prog 86 3 3 := .mk' Try.underlying86 rfl rfl (by kernel_rfl)
instance : FieldAt Try.prog 87 0 0 := .mk' Try.underlying87 rfl rfl (by kernel_rfl)
instance : FieldAt Try.prog 88 0 0 := .mk' Try.underlying88 rfl rfl (by kernel_rfl)
instance : FieldAt Try.prog 89 0 0 := .mk' Try.underlying89 rfl rfl (by kernel_rfl)
instance : FieldAt Try.prog 89 1 4 := .mk' Try.underlying89 rfl rfl (by kernel_rfl)
instance : FieldAt Try.prog 90 0 0 := .mk' Try.underlying90 rfl rfl (by kernel_rfl)
instance : FieldAt Try.prog 90 1 4 := .mk' Try.underlying90 rfl rfl (by kernel_rfl)
instance : FieldAt Try.prog 91 0 0 := .mk' Try.underlying91 rfl rfl (by kernel_rfl)
instance : FieldAt Try.prog 92 0 0 := .mk' Try.underlying92 rfl rfl (by kernel_rfl)
instance : FieldAt Try.prog 96 0 0 := .mk' Try.underlying96 rfl rfl (by kernel_rfl)
instance : FieldAt Try.prog 113 0 0 := .mk' Try.underlying113 rfl rfl (by kernel_rfl)
instance : FieldAt Try.prog 113 1 1 := .mk' Try.underlying113 rfl rfl (by kernel_rfl)
instance : FieldAt Try.prog 113 2 2 := .mk' Try.underlying113 rfl rfl (by kernel_rfl)
instance : FieldAt Try.prog 113 3 3 := .mk' Try.underlying113 rfl rfl (by kernel_rfl)
instance : FieldAt Try.prog 113 4 4 := .mk' Try.underlying113 rfl rfl (by kernel_rfl)
instance : FieldAt Try.prog 114 0 0 := .mk' Try.underlying114 rfl rfl (by kernel_rfl)
instance : FieldAt Try.prog 114 1 1 := .mk' Try.underlying114 rfl rfl (by kernel_rfl)
instance : FieldAt Try.prog 114 2 2 := .mk' Try.underlying114 rfl rfl (by kernel_rfl)
instance : FieldAt Try.prog 114 3 3 := .mk' Try.underlying114 rfl rfl (by kernel_rfl)
instance : FieldAt Try.prog 114 4 4 := .mk' Try.underlying114 rfl rfl (by kernel_rfl)
instance : FieldAt Try.prog 120 0 0 := .mk' Try.underlying120 rfl rfl (by kernel_rfl)
instance : FieldAt Try.prog 120 1 1 := .mk' Try.underlying120 rfl rfl (by kernel_rfl)
instance : FieldAt Try.prog 120 2 2 := .mk' Try.underlying120 rfl rfl (by kernel_rfl)
instance : FieldAt Try.prog 121 0 0 := .mk' Try.underlying121 rfl rfl (by kernel_rfl)
instance : FieldAt Try.prog 121 1 1 := .mk' Try.underlying121 rfl rfl (by kernel_rfl)
instance : FieldAt Try.prog 121 2 2 := .mk' Try.underlying121 rfl rfl (by kernel_rfl)
instance : FieldAt Try.prog 122 0 0 := .mk' Try.underlying122 rfl rfl (by kernel_rfl)
instance : FieldAt Try.prog 122 1 1 := .mk' Try.underlying122 rfl rfl (by kernel_rfl)
instance : FieldAt Try.prog 122 2 2 := .mk' Try.underlying122 rfl rfl (by kernel_rfl)
instance : FieldAt Try.prog 123 0 0 := .mk' Try.underlying123 rfl rfl (by kernel_rfl)
instance : FieldAt Try.prog 123 1 1 := .mk' Try.underlying123 rfl rfl (by kernel_rfl)
instance : FieldAt Try.prog 123 2 2 := .mk' Try.underlying123 rfl rfl (by kernel_rfl)
instance : FieldAt Try.prog 128 0 0 := .mk' Try.underlying128 rfl rfl (by kernel_rfl)
instance : FieldAt Try.prog 128 1 1 := .mk' Try.underlying128 rfl rfl (by kernel_rfl)
instance : FieldAt Try.prog 129 0 0 := .mk' Try.underlying129 rfl rfl (by kernel_rfl)
instance : FieldAt Try.prog 129 1 1 := .mk' Try.underlying129 rfl rfl (by kernel_rfl)
instance : FieldAt Try.prog 131 0 0 := .mk' Try.underlying131 rfl rfl (by kernel_rfl)
instance : FieldAt Try.prog 131 1 1 := .mk' Try.underlying131 rfl rfl (by kernel_rfl)
instance : FieldAt Try.prog 131 2 2 := .mk' Try.underlying131 rfl rfl (by kernel_rfl)
instance : FieldAt Try.prog 131 3 3 := .mk' Try.underlying131 rfl rfl (by kernel_rfl)
instance : FieldAt Try.prog 132 0 0 := .mk' Try.underlying132 rfl rfl (by kernel_rfl)
instance : FieldAt Try.prog 132 1 1 := .mk' Try.underlying132 rfl rfl (by kernel_rfl)
instance : FieldAt Try.prog 132 2 2 := .mk' Try.underlying132 rfl rfl (by kernel_rfl)
instance : FieldAt Try.prog 132 3 3 := .mk' Try.underlying132 rfl rfl (by kernel_rfl)
instance : FieldAt Try.prog 143 0 0 := .mk' Try.underlying143 rfl rfl (by kernel_rfl)
instance : FieldAt Try.prog 143 1 1 := .mk' Try.underlying143 rfl rfl (by kernel_rfl)
instance : FieldAt Try.prog 143 2 2 := .mk' Try.underlying143 rfl rfl (by kernel_rfl)
instance : FieldAt Try.prog 143 3 3 := .mk' Try.underlying143 rfl rfl (by kernel_rfl)
instance : FieldAt Try.prog 143 4 4 := .mk' Try.underlying143 rfl rfl (by kernel_rfl)
instance : FieldAt Try.prog 143 5 5 := .mk' Try.underlying143 rfl rfl (by kernel_rfl)
instance : FieldAt Try.prog 143 6 6 := .mk' Try.underlying143 rfl rfl (by kernel_rfl)
instance : FieldAt Try.prog 143 7 7 := .mk' Try.underlying143 rfl rfl (by kernel_rfl)
instance : FieldAt Try.prog 143 8 8 := .mk' Try.underlying143 rfl rfl (by kernel_rfl)
instance : FieldAt Try.prog 143 9 9 := .mk' Try.underlying143 rfl rfl (by kernel_rfl)
instance : FieldAt Try.prog 143 10 10 := .mk' Try.underlying143 rfl rfl (by kernel_rfl)
instance : FieldAt Try.prog 144 0 0 := .mk' Try.underlying144 rfl rfl (by kernel_rfl)
instance : FieldAt Try.prog 144 1 1 := .mk' Try.underlying144 rfl rfl (by kernel_rfl)
instance : FieldAt Try.prog 144 2 2 := .mk' Try.underlying144 rfl rfl (by kernel_rfl)
instance : FieldAt Try.prog 144 3 3 := .mk' Try.underlying144 rfl rfl (by kernel_rfl)
instance : FieldAt Try.prog 144 4 4 := .mk' Try.underlying144 rfl rfl (by kernel_rfl)
instance : FieldAt Try.prog 144 5 5 := .mk' Try.underlying144 rfl rfl (by kernel_rfl)
instance : FieldAt Try.prog 144 6 6 := .mk' Try.underlying144 rfl rfl (by kernel_rfl)
instance : FieldAt Try.prog 144 7 7 := .mk' Try.underlying144 rfl rfl (by kernel_rfl)
instance : FieldAt Try.prog 144 8 8 := .mk' Try.underlying144 rfl rfl (by kernel_rfl)
instance : FieldAt Try.prog 144 9 9 := .mk' Try.underlying144 rfl rfl (by kernel_rfl)
instance : FieldAt Try.prog 144 10 10 := .mk' Try.underlying144 rfl rfl (by kernel_rfl)
instance : FieldAt Try.prog 150 0 0 := .mk' Try.underlying150 rfl rfl (by kernel_rfl)
instance : FieldAt Try.prog 151 0 0 := .mk' Try.underlying151 rfl rfl (by kernel_rfl)
instance : FieldAt Try.prog 152 0 0 := .mk' Try.underlying152 rfl rfl (by kernel_rfl)
instance : FieldAt Try.prog 153 0 0 := .mk' Try.underlying153 rfl rfl (by kernel_rfl)
instance : FieldAt Try.prog 154 0 0 := .mk' Try.underlying154 rfl rfl (by kernel_rfl)
instance : FieldAt Try.prog 155 0 0 := .mk' Try.underlying155 rfl rfl (by kernel_rfl)
instance : FieldAt Try.prog 155 1 4 := .mk' Try.underlying155 rfl rfl (by kernel_rfl)
instance : FieldAt Try.prog 156 0 0 := .mk' Try.underlying156 rfl rfl (by kernel_rfl)
instance : FieldAt Try.prog 156 1 4 := .mk' Try.underlying156 rfl rfl (by kernel_rfl)
instance : FieldAt Try.prog 157 0 0 := .mk' Try.underlying157 rfl rfl (by kernel_rfl)
instance : FieldAt Try.prog 158 0 0 := .mk' Try.underlying158 rfl rfl (by kernel_rfl)
instance : FieldAt Try.prog 162 0 0 := .mk' Try.underlying162 rfl rfl (by kernel_rfl)
instance : FieldAt Try.prog 162 1 1 := .mk' Try.underlying162 rfl rfl (by kernel_rfl)
instance : FieldAt Try.prog 162 2 2 := .mk' Try.underlying162 rfl rfl (by kernel_rfl)
instance : FieldAt Try.prog 163 0 0 := .mk' Try.underlying163 rfl rfl (by kernel_rfl)
instance : FieldAt Try.prog 163 1 1 := .mk' Try.underlying163 rfl rfl (by kernel_rfl)
instance : FieldAt Try.prog 163 2 2 := .mk' Try.underlying163 rfl rfl (by kernel_rfl)
instance : Places Try.prog [{ name := "x", type := 2, offset := 0, embedded := false, tag := "", pkgPath := "runtime", byteOffset := 0 }, { name := "y", type := 3, offset := 1, embedded := false, tag := "", pkgPath := "runtime", byteOffset := 8 }, { name := "signed", type := 4, offset := 2, embedded := false, tag := "", pkgPath := "runtime", byteOffset := 16 }, { name := "code", type := 6, offset := 3, embedded := false, tag := "", pkgPath := "runtime", byteOffset := 17 }] [(0, 1), (1, 1), (2, 1), (3, 1)] := ⟨by kernel_rfl⟩
instance : Places Try.prog [{ name := "msg", type := 9, offset := 0, embedded := false, tag := "", pkgPath := "runtime", byteOffset := 0 }, { name := "addr", type := 12, offset := 1, embedded := false, tag := "", pkgPath := "runtime", byteOffset := 16 }] [(0, 1), (1, 1)] := ⟨by kernel_rfl⟩
instance : Places Try.prog [{ name := "typ", type := 17, offset := 0, embedded := false, tag := "", pkgPath := "internal/runtime/maps", byteOffset := 0 }] [(0, 1)] := ⟨by kernel_rfl⟩
instance : Places Try.prog [{ name := "Kind", type := 3, offset := 0, embedded := false, tag := "", pkgPath := "", byteOffset := 0 }, { name := "Layout", type := 3, offset := 1, embedded := false, tag := "", pkgPath := "", byteOffset := 8 }, { name := "SRID", type := 3, offset := 2, embedded := false, tag := "", pkgPath := "", byteOffset := 16 }, { name := "Flat", type := 22, offset := 3, embedded := false, tag := "", pkgPath := "", byteOffset := 24 }, { name := "Ends", type := 37, offset := 4, embedded := false, tag := "", pkgPath := "", byteOffset := 48 }, { name := "Endss", type := 40, offset := 5, embedded := false, tag := "", pkgPath := "", byteOffset := 72 }, { name := "Kids", type := 41, offset := 6, embedded := false, tag := "", pkgPath := "", byteOffset := 96 }] [(0, 1), (1, 1), (2, 1), (3, 1), (4, 1), (5, 1), (6, 1)] := ⟨by kernel_rfl⟩
instance : Places Try.prog [{ name := "layout", type := 54, offset := 0, embedded := false, tag := "", pkgPath := "pub-orthodrome/pub/gogeom", byteOffset := 0 }, { name := "stride", type := 3, offset := 1, embedded := false, tag := "", pkgPath := "pub-orthodrome/pub/gogeom", byteOffset := 8 }, { name := "flatCoords", type := 22, offset := 2, embedded := false, tag := "", pkgPath := "pub-orthodrome/pub/gogeom", byteOffset := 16 }, { name := "srid", type := 3, offset := 3, embedded := false, tag := "", pkgPath := "pub-orthodrome/pub/gogeom", byteOffset := 40 }] [(0, 1), (1, 1), (2, 1), (3, 1)] := ⟨by kernel_rfl⟩
instance : Places Try.prog [{ name := "geom0", type := 86, offset := 0, embedded := true, tag := "", pkgPath := "pub-orthodrome/pub/gogeom", byteOffset := 0 }] [(0, 4)] := ⟨by kernel_rfl⟩
instance : Places Try.prog [{ name := "geom1", type := 88, offset := 0, embedded := true, tag := "", pkgPath := "pub-orthodrome/pub/gogeom", byteOffset := 0 }, { name := "ends", type := 37, offset := 4, embedded := false, tag := "", pkgPath := "pub-orthodrome/pub/gogeom", byteOffset := 48 }] [(0, 4), (4, 1)] := ⟨by kernel_rfl⟩
instance : Places Try.prog [{ name := "geom2", type := 90, offset := 0, embedded := true, tag := "", pkgPath := "pub-orthodrome/pub/gogeom", byteOffset := 0 }] [(0, 5)] := ⟨by kernel_rfl⟩
instance : Places Try.prog [{ name := "compare", type := 77, offset := 0, embedded := false, tag := "", pkgPath := "pub-orthodrome/pub/gogeom/transform", byteOffset := 0 }, { name := "tree", type := 112, offset := 1, embedded := false, tag := "", pkgPath := "pub-orthodrome/pub/gogeom/transform", byteOffset := 16 }, { name := "size", type := 3, offset := 2, embedded := false, tag := "", pkgPath := "pub-orthodrome/pub/gogeom/transform", byteOffset := 24 }, { name := "layout", type := 54, offset := 3, embedded := false, tag := "", pkgPath := "pub-orthodrome/pub/gogeom/transform", byteOffset := 32 }, { name := "stride", type := 3, offset := 4, embedded := false, tag := "", pkgPath := "pub-orthodrome/pub/gogeom/transform", byteOffset := 40 }] [(0, 1), (1, 1), (2, 1), (3, 1), (4, 1)] := ⟨by kernel_rfl⟩
instance : Places Try.prog [{ name := "layout", type := 54, offset := 0, embedded := false, tag := "", pkgPath := "pub-orthodrome/pub/gogeom", byteOffset := 0 }, { name := "geoms", type := 104, offset := 1, embedded := false, tag := "", pkgPath := "pub-orthodrome/pub/gogeom", byteOffset := 8 }, { name := "srid", type := 3, offset := 2, embedded := false, tag := "", pkgPath := "pub-orthodrome/pub/gogeom", byteOffset := 32 }] [(0, 1), (1, 1), (2, 1)] := ⟨by kernel_rfl⟩
instance : Places Try.prog [{ name := "left", type := 112, offset := 0, embedded := false, tag := "", pkgPath := "pub-orthodrome/pub/gogeom/transform", byteOffset := 0 }, { name := "value", type := 82, offset := 1, embedded := false, tag := "", pkgPath := "pub-orthodrome/pub/gogeom/transform", byteOffset := 8 }, { name := "right", type := 112, offset := 2, embedded := false, tag := "", pkgPath := "pub-orthodrome/pub/gogeom/transform", byteOffset := 32 }] [(0, 1), (1, 1), (2, 1)] := ⟨by kernel_rfl⟩
instance : Places Try.prog [{ name := "Got", type := 3, offset := 0, embedded := false, tag := "", pkgPath := "", byteOffset := 0 }, { name := "Want", type := 3, offset := 1, embedded := false, tag := "", pkgPath := "", byteOffset := 8 }] [(0, 1), (1, 1)] := ⟨by kernel_rfl⟩
instance : Places Try.prog [{ name := "_interface", type := 17, offset := 0, embedded := false, tag := "", pkgPath := "runtime", byteOffset := 0 }, { name := "concrete", type := 17, offset := 1, embedded := false, tag := "", pkgPath := "runtime", byteOffset := 8 }, { name := "asserted", type := 17, offset := 2, embedded := false, tag := "", pkgPath := "runtime", byteOffset := 16 }, { name := "missingMethod", type := 9, offset := 3, embedded := false, tag := "", pkgPath := "runtime", byteOffset := 24 }] [(0, 1), (1, 1), (2, 1), (3, 1)] := ⟨by kernel_rfl⟩
instance : Places Try.prog [{ name := "_", type := 133, offset := 0, embedded := false, tag := "", pkgPath := "runtime", byteOffset := 0 }] [(0, 0)] := ⟨by kernel_rfl⟩
instance : Places Try.prog [{ name := "Size_", type := 12, offset := 0, embedded := false, tag := "", pkgPath := "", byteOffset := 0 }, { name := "PtrBytes", type := 12, offset := 1, embedded := false, tag := "", pkgPath := "", byteOffset := 8 }, { name := "Hash", type := 136, offset := 2, embedded := false, tag := "", pkgPath := "", byteOffset := 16 }, { name := "TFlag", type := 137, offset := 3, embedded := false, tag := "", pkgPath := "", byteOffset := 20 }, { name := "Align_", type := 5, offset := 4, embedded := false, tag := "", pkgPath := "", byteOffset := 21 }, { name := "FieldAlign_", type := 5, offset := 5, embedded := false, tag := "", pkgPath := "", byteOffset := 22 }, { name := "Kind_", type := 138, offset := 6, embedded := false, tag := "", pkgPath := "", byteOffset := 23 }, { name := "Equal", type := 139, offset := 7, embedded := false, tag := "", pkgPath := "", byteOffset := 24 }, { name := "GCData", type := 140, offset := 8, embedded := false, tag := "", pkgPath := "", byteOffset := 32 }, { name := "Str", type := 141, offset := 9, embedded := false, tag := "", pkgPath := "", byteOffset := 40 }, { name := "PtrToThis", type := 142, offset := 10, embedded := false, tag := "", pkgPath := "", byteOffset := 44 }] [(0, 1), (1, 1), (2, 1), (3, 1), (4, 1), (5, 1), (6, 1), (7, 1), (8, 1), (9, 1), (10, 1)] := ⟨by kernel_rfl⟩
instance : Places Try.prog [{ name := "geom1", type := 88, offset := 0, embedded := true, tag := "", pkgPath := "pub-orthodrome/pub/gogeom", byteOffset := 0 }] [(0, 4)] := ⟨by kernel_rfl⟩
instance : Places Try.prog [{ name := "geom1", type := 88, offset := 0, embedded := true, tag := "", pkgPath := "pub-orthodrome/pub/gogeom", byteOffset := 0 }, { name := "endss", type := 40, offset := 4, embedded := false, tag := "", pkgPath := "pub-orthodrome/pub/gogeom", byteOffset := 48 }] [(0, 4), (4, 1)] := ⟨by kernel_rfl⟩
instance : Places Try.prog [{ name := "geom3", type := 156, offset := 0, embedded := true, tag := "", pkgPath := "pub-orthodrome/pub/gogeom", byteOffset := 0 }] [(0, 5)] := ⟨by kernel_rfl⟩
instance : Places Try.prog [{ name := "layout", type := 54, offset := 0, embedded := false, tag := "", pkgPath := "pub-orthodrome/pub/gogeom", byteOffset := 0 }, { name := "min", type := 82, offset := 1, embedded := false, tag := "", pkgPath := "pub-orthodrome/pub/gogeom", byteOffset := 8 }, { name := "max", type := 82, offset := 2, embedded := false, tag := "", pkgPath := "pub-orthodrome/pub/gogeom", byteOffset := 32 }] [(0, 1), (1, 1), (2, 1)] := ⟨by kernel_rfl⟩
instance : Enters Try.prog 3 := ⟨Try.f3, Try.func3, rfl, rfl⟩
instance : Enters Try.prog 4 := ⟨Try.f4, Try.func4, rfl, rfl⟩
instance : Enters Try.prog 5 := ⟨Try.f5, Try.func5, rfl, rfl⟩
instance : Enters Try.prog 6 := ⟨Try.f6, Try.func6, rfl, rfl⟩
instance : Enters Try.prog 7 := ⟨Try.f7, Try.func7, rfl, rfl⟩
instance : Enters Try.prog 8 := ⟨Try.f8, Try.func8, rfl, rfl⟩
instance : Enters Try.prog 9 := ⟨Try.f9, Try.func9, rfl, rfl⟩
instance : Enters Try.prog 10 := ⟨Try.f10, Try.func10, rfl, rfl⟩
instance : Enters Try.prog 11 := ⟨Try.f11, Try.func11, rfl, rfl⟩
instance : Enters Try.prog 12 := ⟨Try.f12, Try.func12, rfl, rfl⟩
instance : Enters Try.prog 13 := ⟨Try.f13, Try.func13, rfl, rfl⟩
instance : Enters Try.prog 14 := ⟨Try.f14, Try.func14, rfl, rfl⟩
instance : Enters Try.prog 15 := ⟨Try.f15, Try.func15, rfl, rfl⟩
instance : Enters Try.prog 16 := ⟨Try.f16, Try.func16, rfl, rfl⟩
instance : Enters Try.prog 17 := ⟨Try.f17, Try.func17, rfl, rfl⟩
instance : Enters Try.prog 18 := ⟨Try.f18, Try.func18, rfl, rfl⟩
instance : Enters Try.prog 19 := ⟨Try.f19, Try.func19, rfl, rfl⟩
instance : Enters Try.prog 20 := ⟨Try.f20, Try.func20, rfl, rfl⟩
instance : Enters Try.prog 21 := ⟨Try.f21, Try.func21, rfl, rfl⟩
instance : Enters Try.prog 22 := ⟨Try.f22, Try.func22, rfl, rfl⟩
instance : Enters Try.prog 24 := ⟨Try.f24, Try.func24, rfl, rfl⟩
instance : Enters Try.prog 25 := ⟨Try.f25, Try.func25, rfl, rfl⟩
instance : Enters Try.prog 26 := ⟨Try.f26, Try.func26, rfl, rfl⟩
instance : Enters Try.prog 27 := ⟨Try.f27, Try.func27, rfl, rfl⟩
instance : Enters Try.prog 28 := ⟨Try.f28, Try.func28, rfl, rfl⟩
instance : Enters Try.prog 29 := ⟨Try.f29, Try.func29, rfl, rfl⟩
instance : Enters Try.prog 30 := ⟨Try.f30, Try.func30, rfl, rfl⟩
instance : Enters Try.prog 31 := ⟨Try.f31, Try.func31, rfl, rfl⟩
instance : Enters Try.prog 32 := ⟨Try.f32, Try.func32, rfl, rfl⟩
instance : Enters Try.prog 33 := ⟨Try.f33, Try.func33, rfl, rfl⟩
instance : Enters Try.prog 34 := ⟨Try.f34, Try.func34, rfl, rfl⟩
instance : Enters Try.prog 35 := ⟨Try.f35, Try.func35, rfl, rfl⟩
instance : Enters Try.prog 36 := ⟨Try.f36, Try.func36, rfl, rfl⟩
instance : Enters Try.prog 37 := ⟨Try.f37, Try.func37, rfl, rfl⟩
instance : Enters Try.prog 38 := ⟨Try.f38, Try.func38, rfl, rfl⟩
instance : Enters Try.prog 39 := ⟨Try.f39, Try.func39, rfl, rfl⟩
instance : Enters Try.prog 40 := ⟨Try.f40, Try.func40, rfl, rfl⟩
instance : Enters Try.prog 41 := ⟨Try.f41, Try.func41, rfl, rfl⟩
instance : Enters Try.prog 42 := ⟨Try.f42, Try.func42, rfl, rfl⟩
instance : Enters Try.prog 43 := ⟨Try.f43, Try.func43, rfl, rfl⟩
instance : Enters Try.prog 44 := ⟨Try.f44, Try.func44, rfl, rfl⟩
instance : Enters Try.prog 45 := ⟨Try.f45, Try.func45, rfl, rfl⟩
instance : Enters Try.prog 46 := ⟨Try.f46, Try.func46, rfl, rfl⟩
instance : Enters Try.prog 47 := ⟨Try.f47, Try.func47, rfl, rfl⟩
instance : Enters Try.prog 48 := ⟨Try.f48, Try.func48, rfl, rfl⟩
instance : Enters Try.prog 49 := ⟨Try.f49, Try.func49, rfl, rfl⟩
instance : Enters Try.prog 67 := ⟨Try.f67, Try.func67, rfl, rfl⟩
instance : Enters Try.prog 68 := ⟨Try.f68, Try.func68, rfl, rfl⟩
instance : Enters Try.prog 69 := ⟨Try.f69, Try.func69, rfl, rfl⟩
instance : Enters Try.prog 72 := ⟨Try.f72, Try.func72, rfl, rfl⟩
instance : Enters Try.prog 73 := ⟨Try.f73, Try.func73, rfl, rfl⟩
instance : Enters Try.prog 74 := ⟨Try.f74, Try.func74, rfl, rfl⟩
instance : Enters Try.prog 75 := ⟨Try.f75, Try.func75, rfl, rfl⟩
instance : Enters Try.prog 77 := ⟨Try.f77, Try.func77, rfl, rfl⟩
instance : Enters Try.prog 82 := ⟨Try.f82, Try.func82, rfl, rfl⟩
instance : Enters Try.prog 84 := ⟨Try.f84, Try.func84, rfl, rfl⟩
instance : Enters Try.prog 88 := ⟨Try.f88, Try.func88, rfl, rfl⟩
instance : Enters Try.prog 89 := ⟨Try.f89, Try.func89, rfl, rfl⟩
instance : Enters Try.prog 90 := ⟨Try.f90, Try.func90, rfl, rfl⟩
instance : Enters Try.prog 91 := ⟨Try.f91, Try.func91, rfl, rfl⟩
instance : Enters Try.prog 92 := ⟨Try.f92, Try.func92, rfl, rfl⟩
instance : Enters Try.prog 97 := ⟨Try.f97, Try.func97, rfl, rfl⟩
theorem mixed : Try.prog.follows .mixedOrders = true := by kernel_rfl
end Go.Lg
