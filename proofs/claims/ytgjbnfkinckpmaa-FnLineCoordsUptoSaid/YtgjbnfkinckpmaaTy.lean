/-
  The sizes and the make of this translation's types, and which functions have a body: closed facts, written by a small program (seatty.py). No conditions.
-/
import Derived.Test.YtgjbnfkinckpmaaProg
import Derived.Test.YtgjbnfkinckpmaaLg3
import Derived.KernelRfl
set_option maxRecDepth 20000
namespace Go.Lg
open Go.Proofs
instance : Und Try.prog 0 (TypeDesc.tuple #[]) := ⟨Try.underlying0⟩
instance : Und Try.prog 1 (TypeDesc.func #[] #[] false) := ⟨Try.underlying1⟩
instance : Inf Try.prog 1 1 8 [.nilFunc] := ⟨by kernel_rfl⟩
instance : Und Try.prog 2 (TypeDesc.int IntKind.i64) := ⟨Try.underlying2⟩
instance : Inf Try.prog 2 1 8 [.int .i64 0] := ⟨by kernel_rfl⟩
instance : Und Try.prog 3 (TypeDesc.int IntKind.i64) := ⟨Try.underlying3⟩
instance : Inf Try.prog 3 1 8 [.int .i64 0] := ⟨by kernel_rfl⟩
instance : Und Try.prog 4 TypeDesc.bool := ⟨Try.underlying4⟩
instance : Inf Try.prog 4 1 1 [.bool false] := ⟨by kernel_rfl⟩
instance : Und Try.prog 5 (TypeDesc.int IntKind.u8) := ⟨Try.underlying5⟩
instance : Inf Try.prog 5 1 1 [.int .u8 0] := ⟨by kernel_rfl⟩
instance : Und Try.prog 6 (TypeDesc.int IntKind.u8) := ⟨Try.underlying6⟩
instance : Inf Try.prog 6 1 1 [.int .u8 0] := ⟨by kernel_rfl⟩
instance : Und Try.prog 7 (TypeDesc.struct #[{ name := "x", type := 2, offset := 0, embedded := false, tag := "", pkgPath := "runtime", byteOffset := 0 }, { name := "y", type := 3, offset := 1, embedded := false, tag := "", pkgPath := "runtime", byteOffset := 8 }, { name := "signed", type := 4, offset := 2, embedded := false, tag := "", pkgPath := "runtime", byteOffset := 16 }, { name := "code", type := 6, offset := 3, embedded := false, tag := "", pkgPath := "runtime", byteOffset := 17 }]) := ⟨Try.underlying7⟩
instance : Inf Try.prog 7 4 24 [.int .i64 0, .int .i64 0, .bool false, .int .u8 0] := ⟨by kernel_rfl⟩
instance : Und Try.prog 8 (TypeDesc.struct #[{ name := "x", type := 2, offset := 0, embedded := false, tag := "", pkgPath := "runtime", byteOffset := 0 }, { name := "y", type := 3, offset := 1, embedded := false, tag := "", pkgPath := "runtime", byteOffset := 8 }, { name := "signed", type := 4, offset := 2, embedded := false, tag := "", pkgPath := "runtime", byteOffset := 16 }, { name := "code", type := 6, offset := 3, embedded := false, tag := "", pkgPath := "runtime", byteOffset := 17 }]) := ⟨Try.underlying8⟩
instance : Inf Try.prog 8 4 24 [.int .i64 0, .int .i64 0, .bool false, .int .u8 0] := ⟨by kernel_rfl⟩
instance : Und Try.prog 9 TypeDesc.string := ⟨Try.underlying9⟩
instance : Inf Try.prog 9 1 16 [.string ⟨#[]⟩] := ⟨by kernel_rfl⟩
instance : Und Try.prog 10 TypeDesc.string := ⟨Try.underlying10⟩
instance : Inf Try.prog 10 1 16 [.string ⟨#[]⟩] := ⟨by kernel_rfl⟩
instance : Und Try.prog 11 TypeDesc.string := ⟨Try.underlying11⟩
instance : Inf Try.prog 11 1 16 [.string ⟨#[]⟩] := ⟨by kernel_rfl⟩
instance : Und Try.prog 12 (TypeDesc.int IntKind.u64) := ⟨Try.underlying12⟩
instance : Inf Try.prog 12 1 8 [.int .u64 0] := ⟨by kernel_rfl⟩
instance : Und Try.prog 13 (TypeDesc.struct #[{ name := "msg", type := 9, offset := 0, embedded := false, tag := "", pkgPath := "runtime", byteOffset := 0 }, { name := "addr", type := 12, offset := 1, embedded := false, tag := "", pkgPath := "runtime", byteOffset := 16 }]) := ⟨Try.underlying13⟩
instance : Inf Try.prog 13 2 24 [.string ⟨#[]⟩, .int .u64 0] := ⟨by kernel_rfl⟩
instance : Und Try.prog 14 (TypeDesc.struct #[{ name := "msg", type := 9, offset := 0, embedded := false, tag := "", pkgPath := "runtime", byteOffset := 0 }, { name := "addr", type := 12, offset := 1, embedded := false, tag := "", pkgPath := "runtime", byteOffset := 16 }]) := ⟨Try.underlying14⟩
instance : Inf Try.prog 14 2 24 [.string ⟨#[]⟩, .int .u64 0] := ⟨by kernel_rfl⟩
instance : Und Try.prog 15 (TypeDesc.pointer 129) := ⟨Try.underlying15⟩
instance : Inf Try.prog 15 1 8 [.pointer none] := ⟨by kernel_rfl⟩
instance : Und Try.prog 16 (TypeDesc.pointer 132) := ⟨Try.underlying16⟩
instance : Inf Try.prog 16 1 8 [.pointer none] := ⟨by kernel_rfl⟩
instance : Und Try.prog 17 (TypeDesc.pointer 141) := ⟨Try.underlying17⟩
instance : Inf Try.prog 17 1 8 [.pointer none] := ⟨by kernel_rfl⟩
instance : Und Try.prog 18 (TypeDesc.struct #[{ name := "typ", type := 17, offset := 0, embedded := false, tag := "", pkgPath := "internal/runtime/maps", byteOffset := 0 }]) := ⟨Try.underlying18⟩
instance : Inf Try.prog 18 1 8 [.pointer none] := ⟨by kernel_rfl⟩
instance : Und Try.prog 19 (TypeDesc.struct #[{ name := "typ", type := 17, offset := 0, embedded := false, tag := "", pkgPath := "internal/runtime/maps", byteOffset := 0 }]) := ⟨Try.underlying19⟩
instance : Inf Try.prog 19 1 8 [.pointer none] := ⟨by kernel_rfl⟩
instance : Und Try.prog 20 (TypeDesc.interface #[]) := ⟨Try.underlying20⟩
instance : Inf Try.prog 20 1 16 [.nilIface] := ⟨by kernel_rfl⟩
instance : Und Try.prog 21 (TypeDesc.int IntKind.i32) := ⟨Try.underlying21⟩
instance : Inf Try.prog 21 1 4 [.int .i32 0] := ⟨by kernel_rfl⟩
instance : Und Try.prog 22 (TypeDesc.slice 93) := ⟨Try.underlying22⟩
instance : Inf Try.prog 22 1 24 [.slice none 0 0] := ⟨by kernel_rfl⟩
instance : Und Try.prog 23 (TypeDesc.slice 3) := ⟨Try.underlying23⟩
instance : Inf Try.prog 23 1 24 [.slice none 0 0] := ⟨by kernel_rfl⟩
instance : Und Try.prog 24 (TypeDesc.slice 23) := ⟨Try.underlying24⟩
instance : Inf Try.prog 24 1 24 [.slice none 0 0] := ⟨by kernel_rfl⟩
instance : Und Try.prog 25 (TypeDesc.slice 27) := ⟨Try.underlying25⟩
instance : Inf Try.prog 25 1 24 [.slice none 0 0] := ⟨by kernel_rfl⟩
instance : Und Try.prog 26 (TypeDesc.struct #[{ name := "Kind", type := 3, offset := 0, embedded := false, tag := "", pkgPath := "", byteOffset := 0 }, { name := "Layout", type := 3, offset := 1, embedded := false, tag := "", pkgPath := "", byteOffset := 8 }, { name := "SRID", type := 3, offset := 2, embedded := false, tag := "", pkgPath := "", byteOffset := 16 }, { name := "Flat", type := 22, offset := 3, embedded := false, tag := "", pkgPath := "", byteOffset := 24 }, { name := "Ends", type := 23, offset := 4, embedded := false, tag := "", pkgPath := "", byteOffset := 48 }, { name := "Endss", type := 24, offset := 5, embedded := false, tag := "", pkgPath := "", byteOffset := 72 }, { name := "Kids", type := 25, offset := 6, embedded := false, tag := "", pkgPath := "", byteOffset := 96 }]) := ⟨Try.underlying26⟩
instance : Inf Try.prog 26 7 120 [.int .i64 0, .int .i64 0, .int .i64 0, .slice none 0 0, .slice none 0 0, .slice none 0 0, .slice none 0 0] := ⟨by kernel_rfl⟩
instance : Und Try.prog 27 (TypeDesc.struct #[{ name := "Kind", type := 3, offset := 0, embedded := false, tag := "", pkgPath := "", byteOffset := 0 }, { name := "Layout", type := 3, offset := 1, embedded := false, tag := "", pkgPath := "", byteOffset := 8 }, { name := "SRID", type := 3, offset := 2, embedded := false, tag := "", pkgPath := "", byteOffset := 16 }, { name := "Flat", type := 22, offset := 3, embedded := false, tag := "", pkgPath := "", byteOffset := 24 }, { name := "Ends", type := 23, offset := 4, embedded := false, tag := "", pkgPath := "", byteOffset := 48 }, { name := "Endss", type := 24, offset := 5, embedded := false, tag := "", pkgPath := "", byteOffset := 72 }, { name := "Kids", type := 25, offset := 6, embedded := false, tag := "", pkgPath := "", byteOffset := 96 }]) := ⟨Try.underlying27⟩
instance : Inf Try.prog 27 7 120 [.int .i64 0, .int .i64 0, .int .i64 0, .slice none 0 0, .slice none 0 0, .slice none 0 0, .slice none 0 0] := ⟨by kernel_rfl⟩
instance : Und Try.prog 28 (TypeDesc.func #[27] #[4] false) := ⟨Try.underlying28⟩
instance : Inf Try.prog 28 1 8 [.nilFunc] := ⟨by kernel_rfl⟩
instance : Und Try.prog 29 (TypeDesc.func #[25] #[4] true) := ⟨Try.underlying29⟩
instance : Inf Try.prog 29 1 8 [.nilFunc] := ⟨by kernel_rfl⟩
instance : Und Try.prog 30 (TypeDesc.slice 22) := ⟨Try.underlying30⟩
instance : Inf Try.prog 30 1 24 [.slice none 0 0] := ⟨by kernel_rfl⟩
instance : Und Try.prog 31 (TypeDesc.tuple #[30, 4]) := ⟨Try.underlying31⟩
instance : Und Try.prog 32 (TypeDesc.func #[27] #[30, 4] false) := ⟨Try.underlying32⟩
instance : Inf Try.prog 32 1 8 [.nilFunc] := ⟨by kernel_rfl⟩
instance : Und Try.prog 33 (TypeDesc.func #[30, 30] #[4] false) := ⟨Try.underlying33⟩
instance : Inf Try.prog 33 1 8 [.nilFunc] := ⟨by kernel_rfl⟩
instance : Und Try.prog 34 (TypeDesc.func #[27] #[30] false) := ⟨Try.underlying34⟩
instance : Inf Try.prog 34 1 8 [.nilFunc] := ⟨by kernel_rfl⟩
instance : Und Try.prog 35 (TypeDesc.tuple #[22, 4]) := ⟨Try.underlying35⟩
instance : Und Try.prog 36 (TypeDesc.func #[27, 3] #[22, 4] false) := ⟨Try.underlying36⟩
instance : Inf Try.prog 36 1 8 [.nilFunc] := ⟨by kernel_rfl⟩
instance : Und Try.prog 37 (TypeDesc.func #[22, 22] #[4] false) := ⟨Try.underlying37⟩
instance : Inf Try.prog 37 1 8 [.nilFunc] := ⟨by kernel_rfl⟩
instance : Und Try.prog 38 (TypeDesc.func #[27, 3] #[4] false) := ⟨Try.underlying38⟩
instance : Inf Try.prog 38 1 8 [.nilFunc] := ⟨by kernel_rfl⟩
instance : Und Try.prog 39 (TypeDesc.func #[24] #[4] false) := ⟨Try.underlying39⟩
instance : Inf Try.prog 39 1 8 [.nilFunc] := ⟨by kernel_rfl⟩
instance : Und Try.prog 40 (TypeDesc.interface #[("Coords", 47)]) := ⟨Try.underlying40⟩
instance : Inf Try.prog 40 1 16 [.nilIface] := ⟨by kernel_rfl⟩
instance : Und Try.prog 41 (TypeDesc.tuple #[40, 4]) := ⟨Try.underlying41⟩
instance : Und Try.prog 42 (TypeDesc.interface #[("Bounds", 142), ("Empty", 143), ("Ends", 144), ("Endss", 145), ("FlatCoords", 146), ("Layout", 124), ("SRID", 101), ("Stride", 101)]) := ⟨Try.underlying42⟩
instance : Inf Try.prog 42 1 16 [.nilIface] := ⟨by kernel_rfl⟩
instance : Und Try.prog 43 (TypeDesc.interface #[("Bounds", 142), ("Empty", 143), ("Ends", 144), ("Endss", 145), ("FlatCoords", 146), ("Layout", 124), ("SRID", 101), ("Stride", 101)]) := ⟨Try.underlying43⟩
instance : Inf Try.prog 43 1 16 [.nilIface] := ⟨by kernel_rfl⟩
instance : Und Try.prog 44 (TypeDesc.func #[27] #[43] false) := ⟨Try.underlying44⟩
instance : Inf Try.prog 44 1 8 [.nilFunc] := ⟨by kernel_rfl⟩
instance : Und Try.prog 45 (TypeDesc.func #[46] #[30] false) := ⟨Try.underlying45⟩
instance : Inf Try.prog 45 1 8 [.nilFunc] := ⟨by kernel_rfl⟩
instance : Und Try.prog 46 (TypeDesc.slice 54) := ⟨Try.underlying46⟩
instance : Inf Try.prog 46 1 24 [.slice none 0 0] := ⟨by kernel_rfl⟩
instance : Und Try.prog 47 (TypeDesc.func #[] #[46] false) := ⟨Try.underlying47⟩
instance : Inf Try.prog 47 1 8 [.nilFunc] := ⟨by kernel_rfl⟩
instance : Und Try.prog 48 (TypeDesc.func #[22, 3] #[30] false) := ⟨Try.underlying48⟩
instance : Inf Try.prog 48 1 8 [.nilFunc] := ⟨by kernel_rfl⟩
instance : Und Try.prog 49 (TypeDesc.func #[3] #[3] false) := ⟨Try.underlying49⟩
instance : Inf Try.prog 49 1 8 [.nilFunc] := ⟨by kernel_rfl⟩
instance : Und Try.prog 50 (TypeDesc.func #[27] #[25] false) := ⟨Try.underlying50⟩
instance : Inf Try.prog 50 1 8 [.nilFunc] := ⟨by kernel_rfl⟩
instance : Und Try.prog 51 (TypeDesc.interface #[("Coord", 55)]) := ⟨Try.underlying51⟩
instance : Inf Try.prog 51 1 16 [.nilIface] := ⟨by kernel_rfl⟩
instance : Und Try.prog 52 (TypeDesc.tuple #[51, 4]) := ⟨Try.underlying52⟩
instance : Und Try.prog 53 (TypeDesc.func #[22] #[22] false) := ⟨Try.underlying53⟩
instance : Inf Try.prog 53 1 8 [.nilFunc] := ⟨by kernel_rfl⟩
instance : Und Try.prog 54 (TypeDesc.slice 93) := ⟨Try.underlying54⟩
instance : Inf Try.prog 54 1 24 [.slice none 0 0] := ⟨by kernel_rfl⟩
instance : Und Try.prog 55 (TypeDesc.func #[3] #[54] false) := ⟨Try.underlying55⟩
instance : Inf Try.prog 55 1 8 [.nilFunc] := ⟨by kernel_rfl⟩
instance : Und Try.prog 56 (TypeDesc.func #[27, 3] #[3] false) := ⟨Try.underlying56⟩
instance : Inf Try.prog 56 1 8 [.nilFunc] := ⟨by kernel_rfl⟩
instance : Und Try.prog 57 (TypeDesc.func #[27] #[3] false) := ⟨Try.underlying57⟩
instance : Inf Try.prog 57 1 8 [.nilFunc] := ⟨by kernel_rfl⟩
instance : Und Try.prog 58 (TypeDesc.tuple #[3, 4]) := ⟨Try.underlying58⟩
instance : Und Try.prog 59 (TypeDesc.func #[23, 3, 3, 4] #[3, 4] false) := ⟨Try.underlying59⟩
instance : Inf Try.prog 59 1 8 [.nilFunc] := ⟨by kernel_rfl⟩
instance : Und Try.prog 60 (TypeDesc.int IntKind.i64) := ⟨Try.underlying60⟩
instance : Inf Try.prog 60 1 8 [.int .i64 0] := ⟨by kernel_rfl⟩
instance : Und Try.prog 61 (TypeDesc.pointer 100) := ⟨Try.underlying61⟩
instance : Inf Try.prog 61 1 8 [.pointer none] := ⟨by kernel_rfl⟩
instance : Und Try.prog 62 (TypeDesc.func #[60, 22] #[61] false) := ⟨Try.underlying62⟩
instance : Inf Try.prog 62 1 8 [.nilFunc] := ⟨by kernel_rfl⟩
instance : Und Try.prog 63 (TypeDesc.func #[3] #[61] false) := ⟨Try.underlying63⟩
instance : Inf Try.prog 63 1 8 [.nilFunc] := ⟨by kernel_rfl⟩
instance : Und Try.prog 64 (TypeDesc.pointer 104) := ⟨Try.underlying64⟩
instance : Inf Try.prog 64 1 8 [.pointer none] := ⟨by kernel_rfl⟩
instance : Und Try.prog 65 (TypeDesc.func #[60, 22] #[64] false) := ⟨Try.underlying65⟩
instance : Inf Try.prog 65 1 8 [.nilFunc] := ⟨by kernel_rfl⟩
instance : Und Try.prog 66 (TypeDesc.func #[3] #[64] false) := ⟨Try.underlying66⟩
instance : Inf Try.prog 66 1 8 [.nilFunc] := ⟨by kernel_rfl⟩
instance : Und Try.prog 67 (TypeDesc.pointer 105) := ⟨Try.underlying67⟩
instance : Inf Try.prog 67 1 8 [.pointer none] := ⟨by kernel_rfl⟩
instance : Und Try.prog 68 (TypeDesc.func #[60, 22] #[67] false) := ⟨Try.underlying68⟩
instance : Inf Try.prog 68 1 8 [.nilFunc] := ⟨by kernel_rfl⟩
instance : Und Try.prog 69 (TypeDesc.func #[3] #[67] false) := ⟨Try.underlying69⟩
instance : Inf Try.prog 69 1 8 [.nilFunc] := ⟨by kernel_rfl⟩
instance : Und Try.prog 70 (TypeDesc.pointer 109) := ⟨Try.underlying70⟩
instance : Inf Try.prog 70 1 8 [.pointer none] := ⟨by kernel_rfl⟩
instance : Und Try.prog 71 (TypeDesc.func #[60, 22, 23] #[70] false) := ⟨Try.underlying71⟩
instance : Inf Try.prog 71 1 8 [.nilFunc] := ⟨by kernel_rfl⟩
instance : Und Try.prog 72 (TypeDesc.func #[23] #[23] false) := ⟨Try.underlying72⟩
instance : Inf Try.prog 72 1 8 [.nilFunc] := ⟨by kernel_rfl⟩
instance : Und Try.prog 73 (TypeDesc.func #[3] #[70] false) := ⟨Try.underlying73⟩
instance : Inf Try.prog 73 1 8 [.nilFunc] := ⟨by kernel_rfl⟩
instance : Und Try.prog 74 (TypeDesc.pointer 111) := ⟨Try.underlying74⟩
instance : Inf Try.prog 74 1 8 [.pointer none] := ⟨by kernel_rfl⟩
instance : Und Try.prog 75 (TypeDesc.func #[60, 22, 110] #[74] true) := ⟨Try.underlying75⟩
instance : Inf Try.prog 75 1 8 [.nilFunc] := ⟨by kernel_rfl⟩
instance : Und Try.prog 76 (TypeDesc.func #[74] #[] false) := ⟨Try.underlying76⟩
instance : Inf Try.prog 76 1 8 [.nilFunc] := ⟨by kernel_rfl⟩
instance : Und Try.prog 77 (TypeDesc.func #[74] #[] false) := ⟨Try.underlying77⟩
instance : Inf Try.prog 77 1 8 [.nilFunc] := ⟨by kernel_rfl⟩
instance : Und Try.prog 78 (TypeDesc.func #[23] #[77] false) := ⟨Try.underlying78⟩
instance : Inf Try.prog 78 1 8 [.nilFunc] := ⟨by kernel_rfl⟩
instance : Und Try.prog 79 (TypeDesc.func #[3] #[74] false) := ⟨Try.underlying79⟩
instance : Inf Try.prog 79 1 8 [.nilFunc] := ⟨by kernel_rfl⟩
instance : Und Try.prog 80 (TypeDesc.pointer 112) := ⟨Try.underlying80⟩
instance : Inf Try.prog 80 1 8 [.pointer none] := ⟨by kernel_rfl⟩
instance : Und Try.prog 81 (TypeDesc.func #[60, 22, 23] #[80] false) := ⟨Try.underlying81⟩
instance : Inf Try.prog 81 1 8 [.nilFunc] := ⟨by kernel_rfl⟩
instance : Und Try.prog 82 (TypeDesc.func #[3] #[80] false) := ⟨Try.underlying82⟩
instance : Inf Try.prog 82 1 8 [.nilFunc] := ⟨by kernel_rfl⟩
instance : Und Try.prog 83 (TypeDesc.pointer 116) := ⟨Try.underlying83⟩
instance : Inf Try.prog 83 1 8 [.pointer none] := ⟨by kernel_rfl⟩
instance : Und Try.prog 84 (TypeDesc.func #[60, 22, 24] #[83] false) := ⟨Try.underlying84⟩
instance : Inf Try.prog 84 1 8 [.nilFunc] := ⟨by kernel_rfl⟩
instance : Und Try.prog 85 (TypeDesc.func #[24] #[24] false) := ⟨Try.underlying85⟩
instance : Inf Try.prog 85 1 8 [.nilFunc] := ⟨by kernel_rfl⟩
instance : Und Try.prog 86 (TypeDesc.func #[3] #[83] false) := ⟨Try.underlying86⟩
instance : Inf Try.prog 86 1 8 [.nilFunc] := ⟨by kernel_rfl⟩
instance : Und Try.prog 87 (TypeDesc.pointer 119) := ⟨Try.underlying87⟩
instance : Inf Try.prog 87 1 8 [.pointer none] := ⟨by kernel_rfl⟩
instance : Und Try.prog 88 (TypeDesc.func #[] #[87] false) := ⟨Try.underlying88⟩
instance : Inf Try.prog 88 1 8 [.nilFunc] := ⟨by kernel_rfl⟩
instance : Und Try.prog 89 (TypeDesc.func #[3] #[87] false) := ⟨Try.underlying89⟩
instance : Inf Try.prog 89 1 8 [.nilFunc] := ⟨by kernel_rfl⟩
instance : Und Try.prog 90 (TypeDesc.func #[117] #[87] true) := ⟨Try.underlying90⟩
instance : Inf Try.prog 90 1 8 [.nilFunc] := ⟨by kernel_rfl⟩
instance : Und Try.prog 91 (TypeDesc.func #[60] #[87] false) := ⟨Try.underlying91⟩
instance : Inf Try.prog 91 1 8 [.nilFunc] := ⟨by kernel_rfl⟩
instance : Und Try.prog 92 (TypeDesc.func #[27, 3] #[27] false) := ⟨Try.underlying92⟩
instance : Inf Try.prog 92 1 8 [.nilFunc] := ⟨by kernel_rfl⟩
instance : Und Try.prog 93 (TypeDesc.float FloatKind.f64) := ⟨Try.underlying93⟩
instance : Inf Try.prog 93 1 8 [.float .f64 0] := ⟨by kernel_rfl⟩
instance : Und Try.prog 94 (TypeDesc.int IntKind.u64) := ⟨Try.underlying94⟩
instance : Inf Try.prog 94 1 8 [.int .u64 0] := ⟨by kernel_rfl⟩
instance : Und Try.prog 95 (TypeDesc.func #[93] #[94] false) := ⟨Try.underlying95⟩
instance : Inf Try.prog 95 1 8 [.nilFunc] := ⟨by kernel_rfl⟩
instance : Und Try.prog 96 (TypeDesc.func #[3, 3] #[3] false) := ⟨Try.underlying96⟩
instance : Inf Try.prog 96 1 8 [.nilFunc] := ⟨by kernel_rfl⟩
instance : Und Try.prog 97 (TypeDesc.struct #[{ name := "layout", type := 60, offset := 0, embedded := false, tag := "", pkgPath := "pub-orthodrome/pub/gogeom", byteOffset := 0 }, { name := "stride", type := 3, offset := 1, embedded := false, tag := "", pkgPath := "pub-orthodrome/pub/gogeom", byteOffset := 8 }, { name := "flatCoords", type := 22, offset := 2, embedded := false, tag := "", pkgPath := "pub-orthodrome/pub/gogeom", byteOffset := 16 }, { name := "srid", type := 3, offset := 3, embedded := false, tag := "", pkgPath := "pub-orthodrome/pub/gogeom", byteOffset := 40 }]) := ⟨Try.underlying97⟩
instance : Inf Try.prog 97 4 48 [.int .i64 0, .int .i64 0, .slice none 0 0, .int .i64 0] := ⟨by kernel_rfl⟩
instance : Und Try.prog 98 (TypeDesc.struct #[{ name := "layout", type := 60, offset := 0, embedded := false, tag := "", pkgPath := "pub-orthodrome/pub/gogeom", byteOffset := 0 }, { name := "stride", type := 3, offset := 1, embedded := false, tag := "", pkgPath := "pub-orthodrome/pub/gogeom", byteOffset := 8 }, { name := "flatCoords", type := 22, offset := 2, embedded := false, tag := "", pkgPath := "pub-orthodrome/pub/gogeom", byteOffset := 16 }, { name := "srid", type := 3, offset := 3, embedded := false, tag := "", pkgPath := "pub-orthodrome/pub/gogeom", byteOffset := 40 }]) := ⟨Try.underlying98⟩
instance : Inf Try.prog 98 4 48 [.int .i64 0, .int .i64 0, .slice none 0 0, .int .i64 0] := ⟨by kernel_rfl⟩
instance : Und Try.prog 99 (TypeDesc.struct #[{ name := "geom0", type := 98, offset := 0, embedded := true, tag := "", pkgPath := "pub-orthodrome/pub/gogeom", byteOffset := 0 }]) := ⟨Try.underlying99⟩
instance : Inf Try.prog 99 4 48 [.int .i64 0, .int .i64 0, .slice none 0 0, .int .i64 0] := ⟨by kernel_rfl⟩
instance : Und Try.prog 100 (TypeDesc.struct #[{ name := "geom0", type := 98, offset := 0, embedded := true, tag := "", pkgPath := "pub-orthodrome/pub/gogeom", byteOffset := 0 }]) := ⟨Try.underlying100⟩
instance : Inf Try.prog 100 4 48 [.int .i64 0, .int .i64 0, .slice none 0 0, .int .i64 0] := ⟨by kernel_rfl⟩
instance : Und Try.prog 101 (TypeDesc.func #[] #[3] false) := ⟨Try.underlying101⟩
instance : Inf Try.prog 101 1 8 [.nilFunc] := ⟨by kernel_rfl⟩
instance : Und Try.prog 102 (TypeDesc.struct #[{ name := "geom0", type := 98, offset := 0, embedded := true, tag := "", pkgPath := "pub-orthodrome/pub/gogeom", byteOffset := 0 }]) := ⟨Try.underlying102⟩
instance : Inf Try.prog 102 4 48 [.int .i64 0, .int .i64 0, .slice none 0 0, .int .i64 0] := ⟨by kernel_rfl⟩
instance : Und Try.prog 103 (TypeDesc.struct #[{ name := "geom1", type := 102, offset := 0, embedded := true, tag := "", pkgPath := "pub-orthodrome/pub/gogeom", byteOffset := 0 }]) := ⟨Try.underlying103⟩
instance : Inf Try.prog 103 4 48 [.int .i64 0, .int .i64 0, .slice none 0 0, .int .i64 0] := ⟨by kernel_rfl⟩
instance : Und Try.prog 104 (TypeDesc.struct #[{ name := "geom1", type := 102, offset := 0, embedded := true, tag := "", pkgPath := "pub-orthodrome/pub/gogeom", byteOffset := 0 }]) := ⟨Try.underlying104⟩
instance : Inf Try.prog 104 4 48 [.int .i64 0, .int .i64 0, .slice none 0 0, .int .i64 0] := ⟨by kernel_rfl⟩
instance : Und Try.prog 105 (TypeDesc.struct #[{ name := "geom1", type := 102, offset := 0, embedded := true, tag := "", pkgPath := "pub-orthodrome/pub/gogeom", byteOffset := 0 }]) := ⟨Try.underlying105⟩
instance : Inf Try.prog 105 4 48 [.int .i64 0, .int .i64 0, .slice none 0 0, .int .i64 0] := ⟨by kernel_rfl⟩
instance : Und Try.prog 106 (TypeDesc.struct #[{ name := "geom1", type := 102, offset := 0, embedded := true, tag := "", pkgPath := "pub-orthodrome/pub/gogeom", byteOffset := 0 }, { name := "ends", type := 23, offset := 4, embedded := false, tag := "", pkgPath := "pub-orthodrome/pub/gogeom", byteOffset := 48 }]) := ⟨Try.underlying106⟩
instance : Inf Try.prog 106 5 72 [.int .i64 0, .int .i64 0, .slice none 0 0, .int .i64 0, .slice none 0 0] := ⟨by kernel_rfl⟩
instance : Und Try.prog 107 (TypeDesc.struct #[{ name := "geom1", type := 102, offset := 0, embedded := true, tag := "", pkgPath := "pub-orthodrome/pub/gogeom", byteOffset := 0 }, { name := "ends", type := 23, offset := 4, embedded := false, tag := "", pkgPath := "pub-orthodrome/pub/gogeom", byteOffset := 48 }]) := ⟨Try.underlying107⟩
instance : Inf Try.prog 107 5 72 [.int .i64 0, .int .i64 0, .slice none 0 0, .int .i64 0, .slice none 0 0] := ⟨by kernel_rfl⟩
instance : Und Try.prog 108 (TypeDesc.struct #[{ name := "geom2", type := 107, offset := 0, embedded := true, tag := "", pkgPath := "pub-orthodrome/pub/gogeom", byteOffset := 0 }]) := ⟨Try.underlying108⟩
instance : Inf Try.prog 108 5 72 [.int .i64 0, .int .i64 0, .slice none 0 0, .int .i64 0, .slice none 0 0] := ⟨by kernel_rfl⟩
instance : Und Try.prog 109 (TypeDesc.struct #[{ name := "geom2", type := 107, offset := 0, embedded := true, tag := "", pkgPath := "pub-orthodrome/pub/gogeom", byteOffset := 0 }]) := ⟨Try.underlying109⟩
instance : Inf Try.prog 109 5 72 [.int .i64 0, .int .i64 0, .slice none 0 0, .int .i64 0, .slice none 0 0] := ⟨by kernel_rfl⟩
instance : Und Try.prog 110 (TypeDesc.slice 77) := ⟨Try.underlying110⟩
instance : Inf Try.prog 110 1 24 [.slice none 0 0] := ⟨by kernel_rfl⟩
instance : Und Try.prog 111 (TypeDesc.struct #[{ name := "geom2", type := 107, offset := 0, embedded := true, tag := "", pkgPath := "pub-orthodrome/pub/gogeom", byteOffset := 0 }]) := ⟨Try.underlying111⟩
instance : Inf Try.prog 111 5 72 [.int .i64 0, .int .i64 0, .slice none 0 0, .int .i64 0, .slice none 0 0] := ⟨by kernel_rfl⟩
instance : Und Try.prog 112 (TypeDesc.struct #[{ name := "geom2", type := 107, offset := 0, embedded := true, tag := "", pkgPath := "pub-orthodrome/pub/gogeom", byteOffset := 0 }]) := ⟨Try.underlying112⟩
instance : Inf Try.prog 112 5 72 [.int .i64 0, .int .i64 0, .slice none 0 0, .int .i64 0, .slice none 0 0] := ⟨by kernel_rfl⟩
instance : Und Try.prog 113 (TypeDesc.struct #[{ name := "geom1", type := 102, offset := 0, embedded := true, tag := "", pkgPath := "pub-orthodrome/pub/gogeom", byteOffset := 0 }, { name := "endss", type := 24, offset := 4, embedded := false, tag := "", pkgPath := "pub-orthodrome/pub/gogeom", byteOffset := 48 }]) := ⟨Try.underlying113⟩
instance : Inf Try.prog 113 5 72 [.int .i64 0, .int .i64 0, .slice none 0 0, .int .i64 0, .slice none 0 0] := ⟨by kernel_rfl⟩
instance : Und Try.prog 114 (TypeDesc.struct #[{ name := "geom1", type := 102, offset := 0, embedded := true, tag := "", pkgPath := "pub-orthodrome/pub/gogeom", byteOffset := 0 }, { name := "endss", type := 24, offset := 4, embedded := false, tag := "", pkgPath := "pub-orthodrome/pub/gogeom", byteOffset := 48 }]) := ⟨Try.underlying114⟩
instance : Inf Try.prog 114 5 72 [.int .i64 0, .int .i64 0, .slice none 0 0, .int .i64 0, .slice none 0 0] := ⟨by kernel_rfl⟩
instance : Und Try.prog 115 (TypeDesc.struct #[{ name := "geom3", type := 114, offset := 0, embedded := true, tag := "", pkgPath := "pub-orthodrome/pub/gogeom", byteOffset := 0 }]) := ⟨Try.underlying115⟩
instance : Inf Try.prog 115 5 72 [.int .i64 0, .int .i64 0, .slice none 0 0, .int .i64 0, .slice none 0 0] := ⟨by kernel_rfl⟩
instance : Und Try.prog 116 (TypeDesc.struct #[{ name := "geom3", type := 114, offset := 0, embedded := true, tag := "", pkgPath := "pub-orthodrome/pub/gogeom", byteOffset := 0 }]) := ⟨Try.underlying116⟩
instance : Inf Try.prog 116 5 72 [.int .i64 0, .int .i64 0, .slice none 0 0, .int .i64 0, .slice none 0 0] := ⟨by kernel_rfl⟩
instance : Und Try.prog 117 (TypeDesc.slice 43) := ⟨Try.underlying117⟩
instance : Inf Try.prog 117 1 24 [.slice none 0 0] := ⟨by kernel_rfl⟩
instance : Und Try.prog 118 (TypeDesc.struct #[{ name := "layout", type := 60, offset := 0, embedded := false, tag := "", pkgPath := "pub-orthodrome/pub/gogeom", byteOffset := 0 }, { name := "geoms", type := 117, offset := 1, embedded := false, tag := "", pkgPath := "pub-orthodrome/pub/gogeom", byteOffset := 8 }, { name := "srid", type := 3, offset := 2, embedded := false, tag := "", pkgPath := "pub-orthodrome/pub/gogeom", byteOffset := 32 }]) := ⟨Try.underlying118⟩
instance : Inf Try.prog 118 3 40 [.int .i64 0, .slice none 0 0, .int .i64 0] := ⟨by kernel_rfl⟩
instance : Und Try.prog 119 (TypeDesc.struct #[{ name := "layout", type := 60, offset := 0, embedded := false, tag := "", pkgPath := "pub-orthodrome/pub/gogeom", byteOffset := 0 }, { name := "geoms", type := 117, offset := 1, embedded := false, tag := "", pkgPath := "pub-orthodrome/pub/gogeom", byteOffset := 8 }, { name := "srid", type := 3, offset := 2, embedded := false, tag := "", pkgPath := "pub-orthodrome/pub/gogeom", byteOffset := 32 }]) := ⟨Try.underlying119⟩
instance : Inf Try.prog 119 3 40 [.int .i64 0, .slice none 0 0, .int .i64 0] := ⟨by kernel_rfl⟩
instance : Und Try.prog 120 (TypeDesc.interface #[("Error", 127)]) := ⟨Try.underlying120⟩
instance : Inf Try.prog 120 1 16 [.nilIface] := ⟨by kernel_rfl⟩
instance : Und Try.prog 121 (TypeDesc.interface #[("Error", 127)]) := ⟨Try.underlying121⟩
instance : Inf Try.prog 121 1 16 [.nilIface] := ⟨by kernel_rfl⟩
instance : Und Try.prog 122 (TypeDesc.func #[117] #[121] true) := ⟨Try.underlying122⟩
instance : Inf Try.prog 122 1 8 [.nilFunc] := ⟨by kernel_rfl⟩
instance : Und Try.prog 123 (TypeDesc.func #[60] #[121] false) := ⟨Try.underlying123⟩
instance : Inf Try.prog 123 1 8 [.nilFunc] := ⟨by kernel_rfl⟩
instance : Und Try.prog 124 (TypeDesc.func #[] #[60] false) := ⟨Try.underlying124⟩
instance : Inf Try.prog 124 1 8 [.nilFunc] := ⟨by kernel_rfl⟩
instance : Und Try.prog 125 (TypeDesc.struct #[{ name := "Got", type := 60, offset := 0, embedded := false, tag := "", pkgPath := "", byteOffset := 0 }, { name := "Want", type := 60, offset := 1, embedded := false, tag := "", pkgPath := "", byteOffset := 8 }]) := ⟨Try.underlying125⟩
instance : Inf Try.prog 125 2 16 [.int .i64 0, .int .i64 0] := ⟨by kernel_rfl⟩
instance : Und Try.prog 126 (TypeDesc.struct #[{ name := "Got", type := 60, offset := 0, embedded := false, tag := "", pkgPath := "", byteOffset := 0 }, { name := "Want", type := 60, offset := 1, embedded := false, tag := "", pkgPath := "", byteOffset := 8 }]) := ⟨Try.underlying126⟩
instance : Inf Try.prog 126 2 16 [.int .i64 0, .int .i64 0] := ⟨by kernel_rfl⟩
instance : Und Try.prog 127 (TypeDesc.func #[] #[9] false) := ⟨Try.underlying127⟩
instance : Inf Try.prog 127 1 8 [.nilFunc] := ⟨by kernel_rfl⟩
instance : Und Try.prog 128 (TypeDesc.struct #[{ name := "_interface", type := 17, offset := 0, embedded := false, tag := "", pkgPath := "runtime", byteOffset := 0 }, { name := "concrete", type := 17, offset := 1, embedded := false, tag := "", pkgPath := "runtime", byteOffset := 8 }, { name := "asserted", type := 17, offset := 2, embedded := false, tag := "", pkgPath := "runtime", byteOffset := 16 }, { name := "missingMethod", type := 9, offset := 3, embedded := false, tag := "", pkgPath := "runtime", byteOffset := 24 }]) := ⟨Try.underlying128⟩
instance : Inf Try.prog 128 4 40 [.pointer none, .pointer none, .pointer none, .string ⟨#[]⟩] := ⟨by kernel_rfl⟩
instance : Und Try.prog 129 (TypeDesc.struct #[{ name := "_interface", type := 17, offset := 0, embedded := false, tag := "", pkgPath := "runtime", byteOffset := 0 }, { name := "concrete", type := 17, offset := 1, embedded := false, tag := "", pkgPath := "runtime", byteOffset := 8 }, { name := "asserted", type := 17, offset := 2, embedded := false, tag := "", pkgPath := "runtime", byteOffset := 16 }, { name := "missingMethod", type := 9, offset := 3, embedded := false, tag := "", pkgPath := "runtime", byteOffset := 24 }]) := ⟨Try.underlying129⟩
instance : Inf Try.prog 129 4 40 [.pointer none, .pointer none, .pointer none, .string ⟨#[]⟩] := ⟨by kernel_rfl⟩
instance : Und Try.prog 130 (TypeDesc.array 0 16) := ⟨Try.underlying130⟩
instance : Inf Try.prog 130 0 0 [] := ⟨by kernel_rfl⟩
instance : Und Try.prog 131 (TypeDesc.struct #[{ name := "_", type := 130, offset := 0, embedded := false, tag := "", pkgPath := "runtime", byteOffset := 0 }]) := ⟨Try.underlying131⟩
instance : Inf Try.prog 131 0 0 [] := ⟨by kernel_rfl⟩
instance : Und Try.prog 132 (TypeDesc.struct #[{ name := "_", type := 130, offset := 0, embedded := false, tag := "", pkgPath := "runtime", byteOffset := 0 }]) := ⟨Try.underlying132⟩
instance : Inf Try.prog 132 0 0 [] := ⟨by kernel_rfl⟩
instance : Und Try.prog 133 (TypeDesc.int IntKind.u32) := ⟨Try.underlying133⟩
instance : Inf Try.prog 133 1 4 [.int .u32 0] := ⟨by kernel_rfl⟩
instance : Und Try.prog 134 (TypeDesc.int IntKind.u8) := ⟨Try.underlying134⟩
instance : Inf Try.prog 134 1 1 [.int .u8 0] := ⟨by kernel_rfl⟩
instance : Und Try.prog 135 (TypeDesc.int IntKind.u8) := ⟨Try.underlying135⟩
instance : Inf Try.prog 135 1 1 [.int .u8 0] := ⟨by kernel_rfl⟩
instance : Und Try.prog 136 (TypeDesc.func #[161, 161] #[4] false) := ⟨Try.underlying136⟩
instance : Inf Try.prog 136 1 8 [.nilFunc] := ⟨by kernel_rfl⟩
instance : Und Try.prog 137 (TypeDesc.pointer 5) := ⟨Try.underlying137⟩
instance : Inf Try.prog 137 1 8 [.pointer none] := ⟨by kernel_rfl⟩
instance : Und Try.prog 138 (TypeDesc.int IntKind.i32) := ⟨Try.underlying138⟩
instance : Inf Try.prog 138 1 4 [.int .i32 0] := ⟨by kernel_rfl⟩
instance : Und Try.prog 139 (TypeDesc.int IntKind.i32) := ⟨Try.underlying139⟩
instance : Inf Try.prog 139 1 4 [.int .i32 0] := ⟨by kernel_rfl⟩
instance : Und Try.prog 140 (TypeDesc.struct #[{ name := "Size_", type := 12, offset := 0, embedded := false, tag := "", pkgPath := "", byteOffset := 0 }, { name := "PtrBytes", type := 12, offset := 1, embedded := false, tag := "", pkgPath := "", byteOffset := 8 }, { name := "Hash", type := 133, offset := 2, embedded := false, tag := "", pkgPath := "", byteOffset := 16 }, { name := "TFlag", type := 134, offset := 3, embedded := false, tag := "", pkgPath := "", byteOffset := 20 }, { name := "Align_", type := 5, offset := 4, embedded := false, tag := "", pkgPath := "", byteOffset := 21 }, { name := "FieldAlign_", type := 5, offset := 5, embedded := false, tag := "", pkgPath := "", byteOffset := 22 }, { name := "Kind_", type := 135, offset := 6, embedded := false, tag := "", pkgPath := "", byteOffset := 23 }, { name := "Equal", type := 136, offset := 7, embedded := false, tag := "", pkgPath := "", byteOffset := 24 }, { name := "GCData", type := 137, offset := 8, embedded := false, tag := "", pkgPath := "", byteOffset := 32 }, { name := "Str", type := 138, offset := 9, embedded := false, tag := "", pkgPath := "", byteOffset := 40 }, { name := "PtrToThis", type := 139, offset := 10, embedded := false, tag := "", pkgPath := "", byteOffset := 44 }]) := ⟨Try.underlying140⟩
instance : Inf Try.prog 140 11 48 [.int .u64 0, .int .u64 0, .int .u32 0, .int .u8 0, .int .u8 0, .int .u8 0, .int .u8 0, .nilFunc, .pointer none, .int .i32 0, .int .i32 0] := ⟨by kernel_rfl⟩
instance : Und Try.prog 141 (TypeDesc.struct #[{ name := "Size_", type := 12, offset := 0, embedded := false, tag := "", pkgPath := "", byteOffset := 0 }, { name := "PtrBytes", type := 12, offset := 1, embedded := false, tag := "", pkgPath := "", byteOffset := 8 }, { name := "Hash", type := 133, offset := 2, embedded := false, tag := "", pkgPath := "", byteOffset := 16 }, { name := "TFlag", type := 134, offset := 3, embedded := false, tag := "", pkgPath := "", byteOffset := 20 }, { name := "Align_", type := 5, offset := 4, embedded := false, tag := "", pkgPath := "", byteOffset := 21 }, { name := "FieldAlign_", type := 5, offset := 5, embedded := false, tag := "", pkgPath := "", byteOffset := 22 }, { name := "Kind_", type := 135, offset := 6, embedded := false, tag := "", pkgPath := "", byteOffset := 23 }, { name := "Equal", type := 136, offset := 7, embedded := false, tag := "", pkgPath := "", byteOffset := 24 }, { name := "GCData", type := 137, offset := 8, embedded := false, tag := "", pkgPath := "", byteOffset := 32 }, { name := "Str", type := 138, offset := 9, embedded := false, tag := "", pkgPath := "", byteOffset := 40 }, { name := "PtrToThis", type := 139, offset := 10, embedded := false, tag := "", pkgPath := "", byteOffset := 44 }]) := ⟨Try.underlying141⟩
instance : Inf Try.prog 141 11 48 [.int .u64 0, .int .u64 0, .int .u32 0, .int .u8 0, .int .u8 0, .int .u8 0, .int .u8 0, .nilFunc, .pointer none, .int .i32 0, .int .i32 0] := ⟨by kernel_rfl⟩
instance : Und Try.prog 142 (TypeDesc.func #[] #[162] false) := ⟨Try.underlying142⟩
instance : Inf Try.prog 142 1 8 [.nilFunc] := ⟨by kernel_rfl⟩
instance : Und Try.prog 143 (TypeDesc.func #[] #[4] false) := ⟨Try.underlying143⟩
instance : Inf Try.prog 143 1 8 [.nilFunc] := ⟨by kernel_rfl⟩
instance : Und Try.prog 144 (TypeDesc.func #[] #[23] false) := ⟨Try.underlying144⟩
instance : Inf Try.prog 144 1 8 [.nilFunc] := ⟨by kernel_rfl⟩
instance : Und Try.prog 145 (TypeDesc.func #[] #[24] false) := ⟨Try.underlying145⟩
instance : Inf Try.prog 145 1 8 [.nilFunc] := ⟨by kernel_rfl⟩
instance : Und Try.prog 146 (TypeDesc.func #[] #[22] false) := ⟨Try.underlying146⟩
instance : Inf Try.prog 146 1 8 [.nilFunc] := ⟨by kernel_rfl⟩
instance : Und Try.prog 147 (TypeDesc.func #[] #[93] false) := ⟨Try.underlying147⟩
instance : Inf Try.prog 147 1 8 [.nilFunc] := ⟨by kernel_rfl⟩
instance : Und Try.prog 148 (TypeDesc.func #[] #[54] false) := ⟨Try.underlying148⟩
instance : Inf Try.prog 148 1 8 [.nilFunc] := ⟨by kernel_rfl⟩
instance : Und Try.prog 149 (TypeDesc.pointer 98) := ⟨Try.underlying149⟩
instance : Inf Try.prog 149 1 8 [.pointer none] := ⟨by kernel_rfl⟩
instance : Und Try.prog 150 (TypeDesc.func #[22, 3, 3, 3] #[54] false) := ⟨Try.underlying150⟩
instance : Inf Try.prog 150 1 8 [.nilFunc] := ⟨by kernel_rfl⟩
instance : Und Try.prog 151 (TypeDesc.pointer 102) := ⟨Try.underlying151⟩
instance : Inf Try.prog 151 1 8 [.pointer none] := ⟨by kernel_rfl⟩
instance : Und Try.prog 152 (TypeDesc.func #[22, 3, 3, 3] #[46] false) := ⟨Try.underlying152⟩
instance : Inf Try.prog 152 1 8 [.nilFunc] := ⟨by kernel_rfl⟩
instance : Und Try.prog 153 (TypeDesc.func #[] #[155] false) := ⟨Try.underlying153⟩
instance : Inf Try.prog 153 1 8 [.nilFunc] := ⟨by kernel_rfl⟩
instance : Und Try.prog 154 (TypeDesc.pointer 107) := ⟨Try.underlying154⟩
instance : Inf Try.prog 154 1 8 [.pointer none] := ⟨by kernel_rfl⟩
instance : Und Try.prog 155 (TypeDesc.slice 46) := ⟨Try.underlying155⟩
instance : Inf Try.prog 155 1 24 [.slice none 0 0] := ⟨by kernel_rfl⟩
instance : Und Try.prog 156 (TypeDesc.func #[22, 3, 23, 3] #[155] false) := ⟨Try.underlying156⟩
instance : Inf Try.prog 156 1 8 [.nilFunc] := ⟨by kernel_rfl⟩
instance : Und Try.prog 157 (TypeDesc.func #[] #[159] false) := ⟨Try.underlying157⟩
instance : Inf Try.prog 157 1 8 [.nilFunc] := ⟨by kernel_rfl⟩
instance : Und Try.prog 158 (TypeDesc.pointer 114) := ⟨Try.underlying158⟩
instance : Inf Try.prog 158 1 8 [.pointer none] := ⟨by kernel_rfl⟩
instance : Und Try.prog 159 (TypeDesc.slice 155) := ⟨Try.underlying159⟩
instance : Inf Try.prog 159 1 24 [.slice none 0 0] := ⟨by kernel_rfl⟩
instance : Und Try.prog 160 (TypeDesc.func #[22, 3, 24, 3] #[159] false) := ⟨Try.underlying160⟩
instance : Inf Try.prog 160 1 8 [.nilFunc] := ⟨by kernel_rfl⟩
instance : Und Try.prog 161 TypeDesc.unsafePointer := ⟨Try.underlying161⟩
instance : Inf Try.prog 161 1 8 [.pointer none] := ⟨by kernel_rfl⟩
instance : Und Try.prog 162 (TypeDesc.pointer 164) := ⟨Try.underlying162⟩
instance : Inf Try.prog 162 1 8 [.pointer none] := ⟨by kernel_rfl⟩
instance : Und Try.prog 163 (TypeDesc.struct #[{ name := "layout", type := 60, offset := 0, embedded := false, tag := "", pkgPath := "pub-orthodrome/pub/gogeom", byteOffset := 0 }, { name := "min", type := 54, offset := 1, embedded := false, tag := "", pkgPath := "pub-orthodrome/pub/gogeom", byteOffset := 8 }, { name := "max", type := 54, offset := 2, embedded := false, tag := "", pkgPath := "pub-orthodrome/pub/gogeom", byteOffset := 32 }]) := ⟨Try.underlying163⟩
instance : Inf Try.prog 163 3 56 [.int .i64 0, .slice none 0 0, .slice none 0 0] := ⟨by kernel_rfl⟩
instance : Und Try.prog 164 (TypeDesc.struct #[{ name := "layout", type := 60, offset := 0, embedded := false, tag := "", pkgPath := "pub-orthodrome/pub/gogeom", byteOffset := 0 }, { name := "min", type := 54, offset := 1, embedded := false, tag := "", pkgPath := "pub-orthodrome/pub/gogeom", byteOffset := 8 }, { name := "max", type := 54, offset := 2, embedded := false, tag := "", pkgPath := "pub-orthodrome/pub/gogeom", byteOffset := 32 }]) := ⟨Try.underlying164⟩
instance : Inf Try.prog 164 3 56 [.int .i64 0, .slice none 0 0, .slice none 0 0] := ⟨by kernel_rfl⟩
instance : FieldAt Try.prog 7 0 0 := .mk' Try.underlying7 rfl rfl (by kernel_rfl)
instance : FieldAt Try.prog 7 1 1 := .mk' Try.underlying7 rfl rfl (by kernel_rfl)
instance : FieldAt Try.prog 7 2 2 := .mk' Try.underlying7 rfl rfl (by kernel_rfl)
instance : FieldAt Try.prog 7 3 3 := .mk' Try.underlying7 rfl rfl (by kernel_rfl)
instance : FieldAt Try.prog 8 0 0 := .mk' Try.underlying8 rfl rfl (by kernel_rfl)
instance : FieldAt Try.prog 8 1 1 := .mk' Try.underlying8 rfl rfl (by kernel_rfl)
instance : FieldAt Try.prog 8 2 2 := .mk' Try.underlying8 rfl rfl (by kernel_rfl)
instance : FieldAt Try.prog 8 3 3 := .mk' Try.underlying8 rfl rfl (by kernel_rfl)
instance : FieldAt Try.prog 13 0 0 := .mk' Try.underlying13 rfl rfl (by kernel_rfl)
instance : FieldAt Try.prog 13 1 1 := .mk' Try.underlying13 rfl rfl (by kernel_rfl)
instance : FieldAt Try.prog 14 0 0 := .mk' Try.underlying14 rfl rfl (by kernel_rfl)
instance : FieldAt Try.prog 14 1 1 := .mk' Try.underlying14 rfl rfl (by kernel_rfl)
instance : FieldAt Try.prog 18 0 0 := .mk' Try.underlying18 rfl rfl (by kernel_rfl)
instance : FieldAt Try.prog 19 0 0 := .mk' Try.underlying19 rfl rfl (by kernel_rfl)
instance : FieldAt Try.prog 26 0 0 := .mk' Try.underlying26 rfl rfl (by kernel_rfl)
instance : FieldAt Try.prog 26 1 1 := .mk' Try.underlying26 rfl rfl (by kernel_rfl)
instance : FieldAt Try.prog 26 2 2 := .mk' Try.underlying26 rfl rfl (by kernel_rfl)
instance : FieldAt Try.prog 26 3 3 := .mk' Try.underlying26 rfl rfl (by kernel_rfl)
instance : FieldAt Try.prog 26 4 4 := .mk' Try.underlying26 rfl rfl (by kernel_rfl)
instance : FieldAt Try.prog 26 5 5 := .mk' Try.underlying26 rfl rfl (by kernel_rfl)
instance : FieldAt Try.prog 26 6 6 := .mk' Try.underlying26 rfl rfl (by kernel_rfl)
instance : FieldAt Try.prog 27 0 0 := .mk' Try.underlying27 rfl rfl (by kernel_rfl)
instance : FieldAt Try.prog 27 1 1 := .mk' Try.underlying27 rfl rfl (by kernel_rfl)
instance : FieldAt Try.prog 27 2 2 := .mk' Try.underlying27 rfl rfl (by kernel_rfl)
instance : FieldAt Try.prog 27 3 3 := .mk' Try.underlying27 rfl rfl (by kernel_rfl)
instance : FieldAt Try.prog 27 4 4 := .mk' Try.underlying27 rfl rfl (by kernel_rfl)
instance : FieldAt Try.prog 27 5 5 := .mk' Try.underlying27 rfl rfl (by kernel_rfl)
instance : FieldAt Try.prog 27 6 6 := .mk' Try.underlying27 rfl rfl (by kernel_rfl)
instance : FieldAt Try.prog 97 0 0 := .mk' Try.underlying97 rfl rfl (by kernel_rfl)
instance : FieldAt Try.prog 97 1 1 := .mk' Try.underlying97 rfl rfl (by kernel_rfl)
instance : FieldAt Try.prog 97 2 2 := .mk' Try.underlying97 rfl rfl (by kernel_rfl)
instance : FieldAt Try.prog 97 3 3 := .mk' Try.underlying97 rfl rfl (by kernel_rfl)
instance : FieldAt Try.prog 98 0 0 := .mk' Try.underlying98 rfl rfl (by kernel_rfl)
instance : FieldAt Try.prog 98 1 1 := .mk' Try.underlying98 rfl rfl (by kernel_rfl)
instance : FieldAt Try.prog 98 2 2 := .mk' Try.underlying98 rfl rfl (by kernel_rfl)
instance : FieldAt Try.prog 98 3 3 := .mk' Try.underlying98 rfl rfl (by kernel_rfl)
instance : FieldAt Try.prog 99 0 0 := .mk' Try.underlying99 rfl rfl (by kernel_rfl)
instance : FieldAt Try.prog 100 0 0 := .mk' Try.underlying100 rfl rfl (by kernel_rfl)
instance : FieldAt Try.prog 102 0 0 := .mk' Try.underlying102 rfl rfl (by kernel_rfl)
instance : FieldAt Try.prog 103 0 0 := .mk' Try.underlying103 rfl rfl (by kernel_rfl)
instance : FieldAt Try.prog 104 0 0 := .mk' Try.underlying104 rfl rfl (by kernel_rfl)
instance : FieldAt Try.prog 105 0 0 := .mk' Try.underlying105 rfl rfl (by kernel_rfl)
instance : FieldAt Try.prog 106 0 0 := .mk' Try.underlying106 rfl rfl (by kernel_rfl)
instance : FieldAt Try.prog 106 1 4 := .mk' Try.underlying106 rfl rfl (by kernel_rfl)
instance : FieldAt Try.prog 107 0 0 := .mk' Try.underlying107 rfl rfl (by kernel_rfl)
instance : FieldAt Try.prog 107 1 4 := .mk' Try.underlying107 rfl rfl (by kernel_rfl)
instance : FieldAt Try.prog 108 0 0 := .mk' Try.underlying108 rfl rfl (by kernel_rfl)
instance : FieldAt Try.prog 109 0 0 := .mk' Try.underlying109 rfl rfl (by kernel_rfl)
instance : FieldAt Try.prog 111 0 0 := .mk' Try.underlying111 rfl rfl (by kernel_rfl)
instance : FieldAt Try.prog 112 0 0 := .mk' Try.underlying112 rfl rfl (by kernel_rfl)
instance : FieldAt Try.prog 113 0 0 := .mk' Try.underlying113 rfl rfl (by kernel_rfl)
instance : FieldAt Try.prog 113 1 4 := .mk' Try.underlying113 rfl rfl (by kernel_rfl)
instance : FieldAt Try.prog 114 0 0 := .mk' Try.underlying114 rfl rfl (by kernel_rfl)
instance : FieldAt Try.prog 114 1 4 := .mk' Try.underlying114 rfl rfl (by kernel_rfl)
instance : FieldAt Try.prog 115 0 0 := .mk' Try.underlying115 rfl rfl (by kernel_rfl)
instance : FieldAt Try.prog 116 0 0 := .mk' Try.underlying116 rfl rfl (by kernel_rfl)
instance : FieldAt Try.prog 118 0 0 := .mk' Try.underlying118 rfl rfl (by kernel_rfl)
instance : FieldAt Try.prog 118 1 1 := .mk' Try.underlying118 rfl rfl (by kernel_rfl)
instance : FieldAt Try.prog 118 2 2 := .mk' Try.underlying118 rfl rfl (by kernel_rfl)
instance : FieldAt Try.prog 119 0 0 := .mk' Try.underlying119 rfl rfl (by kernel_rfl)
instance : FieldAt Try.prog 119 1 1 := .mk' Try.underlying119 rfl rfl (by kernel_rfl)
instance : FieldAt Try.prog 119 2 2 := .mk' Try.underlying119 rfl rfl (by kernel_rfl)
instance : FieldAt Try.prog 125 0 0 := .mk' Try.underlying125 rfl rfl (by kernel_rfl)
instance : FieldAt Try.prog 125 1 1 := .mk' Try.underlying125 rfl rfl (by kernel_rfl)
instance : FieldAt Try.prog 126 0 0 := .mk' Try.underlying126 rfl rfl (by kernel_rfl)
instance : FieldAt Try.prog 126 1 1 := .mk' Try.underlying126 rfl rfl (by kernel_rfl)
instance : FieldAt Try.prog 128 0 0 := .mk' Try.underlying128 rfl rfl (by kernel_rfl)
instance : FieldAt Try.prog 128 1 1 := .mk' Try.underlying128 rfl rfl (by kernel_rfl)
instance : FieldAt Try.prog 128 2 2 := .mk' Try.underlying128 rfl rfl (by kernel_rfl)
instance : FieldAt Try.prog 128 3 3 := .mk' Try.underlying128 rfl rfl (by kernel_rfl)
instance : FieldAt Try.prog 129 0 0 := .mk' Try.underlying129 rfl rfl (by kernel_rfl)
instance : FieldAt Try.prog 129 1 1 := .mk' Try.underlying129 rfl rfl (by kernel_rfl)
instance : FieldAt Try.prog 129 2 2 := .mk' Try.underlying129 rfl rfl (by kernel_rfl)
instance : FieldAt Try.prog 129 3 3 := .mk' Try.underlying129 rfl rfl (by kernel_rfl)
instance : FieldAt Try.prog 140 0 0 := .mk' Try.underlying140 rfl rfl (by kernel_rfl)
instance : FieldAt Try.prog 140 1 1 := .mk' Try.underlying140 rfl rfl (by kernel_rfl)
instance : FieldAt Try.prog 140 2 2 := .mk' Try.underlying140 rfl rfl (by kernel_rfl)
instance : FieldAt Try.prog 140 3 3 := .mk' Try.underlying140 rfl rfl (by kernel_rfl)
instance : FieldAt Try.prog 140 4 4 := .mk' Try.underlying140 rfl rfl (by kernel_rfl)
instance : FieldAt Try.prog 140 5 5 := .mk' Try.underlying140 rfl rfl (by kernel_rfl)
instance : FieldAt Try.prog 140 6 6 := .mk' Try.underlying140 rfl rfl (by kernel_rfl)
instance : FieldAt Try.prog 140 7 7 := .mk' Try.underlying140 rfl rfl (by kernel_rfl)
instance : FieldAt Try.prog 140 8 8 := .mk' Try.underlying140 rfl rfl (by kernel_rfl)
instance : FieldAt Try.prog 140 9 9 := .mk' Try.underlying140 rfl rfl (by kernel_rfl)
instance : FieldAt Try.prog 140 10 10 := .mk' Try.underlying140 rfl rfl (by kernel_rfl)
instance : FieldAt Try.prog 141 0 0 := .mk' Try.underlying141 rfl rfl (by kernel_rfl)
instance : FieldAt Try.prog 141 1 1 := .mk' Try.underlying141 rfl rfl (by kernel_rfl)
instance : FieldAt Try.prog 141 2 2 := .mk' Try.underlying141 rfl rfl (by kernel_rfl)
instance : FieldAt Try.prog 141 3 3 := .mk' Try.underlying141 rfl rfl (by kernel_rfl)
instance : FieldAt Try.prog 141 4 4 := .mk' Try.underlying141 rfl rfl (by kernel_rfl)
instance : FieldAt Try.prog 141 5 5 := .mk' Try.underlying141 rfl rfl (by kernel_rfl)
instance : FieldAt Try.prog 141 6 6 := .mk' Try.underlying141 rfl rfl (by kernel_rfl)
instance : FieldAt Try.prog 141 7 7 := .mk' Try.underlying141 rfl rfl (by kernel_rfl)
instance : FieldAt Try.prog 141 8 8 := .mk' Try.underlying141 rfl rfl (by kernel_rfl)
instance : FieldAt Try.prog 141 9 9 := .mk' Try.underlying141 rfl rfl (by kernel_rfl)
instance : FieldAt Try.prog 141 10 10 := .mk' Try.underlying141 rfl rfl (by kernel_rfl)
instance : FieldAt Try.prog 163 0 0 := .mk' Try.underlying163 rfl rfl (by kernel_rfl)
instance : FieldAt Try.prog 163 1 1 := .mk' Try.underlying163 rfl rfl (by kernel_rfl)
instance : FieldAt Try.prog 163 2 2 := .mk' Try.underlying163 rfl rfl (by kernel_rfl)
instance : FieldAt Try.prog 164 0 0 := .mk' Try.underlying164 rfl rfl (by kernel_rfl)
instance : FieldAt Try.prog 164 1 1 := .mk' Try.underlying164 rfl rfl (by kernel_rfl)
instance : FieldAt Try.prog 164 2 2 := .mk' Try.underlying164 rfl rfl (by kernel_rfl)
instance : Places Try.prog [{ name := "x", type := 2, offset := 0, embedded := false, tag := "", pkgPath := "runtime", byteOffset := 0 }, { name := "y", type := 3, offset := 1, embedded := false, tag := "", pkgPath := "runtime", byteOffset := 8 }, { name := "signed", type := 4, offset := 2, embedded := false, tag := "", pkgPath := "runtime", byteOffset := 16 }, { name := "code", type := 6, offset := 3, embedded := false, tag := "", pkgPath := "runtime", byteOffset := 17 }] [(0, 1), (1, 1), (2, 1), (3, 1)] := ⟨by kernel_rfl⟩
instance : Places Try.prog [{ name := "msg", type := 9, offset := 0, embedded := false, tag := "", pkgPath := "runtime", byteOffset := 0 }, { name := "addr", type := 12, offset := 1, embedded := false, tag := "", pkgPath := "runtime", byteOffset := 16 }] [(0, 1), (1, 1)] := ⟨by kernel_rfl⟩
instance : Places Try.prog [{ name := "typ", type := 17, offset := 0, embedded := false, tag := "", pkgPath := "internal/runtime/maps", byteOffset := 0 }] [(0, 1)] := ⟨by kernel_rfl⟩
instance : Places Try.prog [{ name := "Kind", type := 3, offset := 0, embedded := false, tag := "", pkgPath := "", byteOffset := 0 }, { name := "Layout", type := 3, offset := 1, embedded := false, tag := "", pkgPath := "", byteOffset := 8 }, { name := "SRID", type := 3, offset := 2, embedded := false, tag := "", pkgPath := "", byteOffset := 16 }, { name := "Flat", type := 22, offset := 3, embedded := false, tag := "", pkgPath := "", byteOffset := 24 }, { name := "Ends", type := 23, offset := 4, embedded := false, tag := "", pkgPath := "", byteOffset := 48 }, { name := "Endss", type := 24, offset := 5, embedded := false, tag := "", pkgPath := "", byteOffset := 72 }, { name := "Kids", type := 25, offset := 6, embedded := false, tag := "", pkgPath := "", byteOffset := 96 }] [(0, 1), (1, 1), (2, 1), (3, 1), (4, 1), (5, 1), (6, 1)] := ⟨by kernel_rfl⟩
instance : Places Try.prog [{ name := "layout", type := 60, offset := 0, embedded := false, tag := "", pkgPath := "pub-orthodrome/pub/gogeom", byteOffset := 0 }, { name := "stride", type := 3, offset := 1, embedded := false, tag := "", pkgPath := "pub-orthodrome/pub/gogeom", byteOffset := 8 }, { name := "flatCoords", type := 22, offset := 2, embedded := false, tag := "", pkgPath := "pub-orthodrome/pub/gogeom", byteOffset := 16 }, { name := "srid", type := 3, offset := 3, embedded := false, tag := "", pkgPath := "pub-orthodrome/pub/gogeom", byteOffset := 40 }] [(0, 1), (1, 1), (2, 1), (3, 1)] := ⟨by kernel_rfl⟩
instance : Places Try.prog [{ name := "geom0", type := 98, offset := 0, embedded := true, tag := "", pkgPath := "pub-orthodrome/pub/gogeom", byteOffset := 0 }] [(0, 4)] := ⟨by kernel_rfl⟩
instance : Places Try.prog [{ name := "geom1", type := 102, offset := 0, embedded := true, tag := "", pkgPath := "pub-orthodrome/pub/gogeom", byteOffset := 0 }] [(0, 4)] := ⟨by kernel_rfl⟩
instance : Places Try.prog [{ name := "geom1", type := 102, offset := 0, embedded := true, tag := "", pkgPath := "pub-orthodrome/pub/gogeom", byteOffset := 0 }, { name := "ends", type := 23, offset := 4, embedded := false, tag := "", pkgPath := "pub-orthodrome/pub/gogeom", byteOffset := 48 }] [(0, 4), (4, 1)] := ⟨by kernel_rfl⟩
instance : Places Try.prog [{ name := "geom2", type := 107, offset := 0, embedded := true, tag := "", pkgPath := "pub-orthodrome/pub/gogeom", byteOffset := 0 }] [(0, 5)] := ⟨by kernel_rfl⟩
instance : Places Try.prog [{ name := "geom1", type := 102, offset := 0, embedded := true, tag := "", pkgPath := "pub-orthodrome/pub/gogeom", byteOffset := 0 }, { name := "endss", type := 24, offset := 4, embedded := false, tag := "", pkgPath := "pub-orthodrome/pub/gogeom", byteOffset := 48 }] [(0, 4), (4, 1)] := ⟨by kernel_rfl⟩
instance : Places Try.prog [{ name := "geom3", type := 114, offset := 0, embedded := true, tag := "", pkgPath := "pub-orthodrome/pub/gogeom", byteOffset := 0 }] [(0, 5)] := ⟨by kernel_rfl⟩
instance : Places Try.prog [{ name := "layout", type := 60, offset := 0, embedded := false, tag := "", pkgPath := "pub-orthodrome/pub/gogeom", byteOffset := 0 }, { name := "geoms", type := 117, offset := 1, embedded := false, tag := "", pkgPath := "pub-orthodrome/pub/gogeom", byteOffset := 8 }, { name := "srid", type := 3, offset := 2, embedded := false, tag := "", pkgPath := "pub-orthodrome/pub/gogeom", byteOffset := 32 }] [(0, 1), (1, 1), (2, 1)] := ⟨by kernel_rfl⟩
instance : Places Try.prog [{ name := "Got", type := 60, offset := 0, embedded := false, tag := "", pkgPath := "", byteOffset := 0 }, { name := "Want", type := 60, offset := 1, embedded := false, tag := "", pkgPath := "", byteOffset := 8 }] [(0, 1), (1, 1)] := ⟨by kernel_rfl⟩
instance : Places Try.prog [{ name := "_interface", type := 17, offset := 0, embedded := false, tag := "", pkgPath := "runtime", byteOffset := 0 }, { name := "concrete", type := 17, offset := 1, embedded := false, tag := "", pkgPath := "runtime", byteOffset := 8 }, { name := "asserted", type := 17, offset := 2, embedded := false, tag := "", pkgPath := "runtime", byteOffset := 16 }, { name := "missingMethod", type := 9, offset := 3, embedded := false, tag := "", pkgPath := "runtime", byteOffset := 24 }] [(0, 1), (1, 1), (2, 1), (3, 1)] := ⟨by kernel_rfl⟩
instance : Places Try.prog [{ name := "_", type := 130, offset := 0, embedded := false, tag := "", pkgPath := "runtime", byteOffset := 0 }] [(0, 0)] := ⟨by kernel_rfl⟩
instance : Places Try.prog [{ name := "Size_", type := 12, offset := 0, embedded := false, tag := "", pkgPath := "", byteOffset := 0 }, { name := "PtrBytes", type := 12, offset := 1, embedded := false, tag := "", pkgPath := "", byteOffset := 8 }, { name := "Hash", type := 133, offset := 2, embedded := false, tag := "", pkgPath := "", byteOffset := 16 }, { name := "TFlag", type := 134, offset := 3, embedded := false, tag := "", pkgPath := "", byteOffset := 20 }, { name := "Align_", type := 5, offset := 4, embedded := false, tag := "", pkgPath := "", byteOffset := 21 }, { name := "FieldAlign_", type := 5, offset := 5, embedded := false, tag := "", pkgPath := "", byteOffset := 22 }, { name := "Kind_", type := 135, offset := 6, embedded := false, tag := "", pkgPath := "", byteOffset := 23 }, { name := "Equal", type := 136, offset := 7, embedded := false, tag := "", pkgPath := "", byteOffset := 24 }, { name := "GCData", type := 137, offset := 8, embedded := false, tag := "", pkgPath := "", byteOffset := 32 }, { name := "Str", type := 138, offset := 9, embedded := false, tag := "", pkgPath := "", byteOffset := 40 }, { name := "PtrToThis", type := 139, offset := 10, embedded := false, tag := "", pkgPath := "", byteOffset := 44 }] [(0, 1), (1, 1), (2, 1), (3, 1), (4, 1), (5, 1), (6, 1), (7, 1), (8, 1), (9, 1), (10, 1)] := ⟨by kernel_rfl⟩
instance : Places Try.prog [{ name := "layout", type := 60, offset := 0, embedded := false, tag := "", pkgPath := "pub-orthodrome/pub/gogeom", byteOffset := 0 }, { name := "min", type := 54, offset := 1, embedded := false, tag := "", pkgPath := "pub-orthodrome/pub/gogeom", byteOffset := 8 }, { name := "max", type := 54, offset := 2, embedded := false, tag := "", pkgPath := "pub-orthodrome/pub/gogeom", byteOffset := 32 }] [(0, 1), (1, 1), (2, 1)] := ⟨by kernel_rfl⟩
instance : Enters Try.prog 3 := ⟨Try.f3, Try.func3, rfl, rfl⟩
instance : Enters Try.prog 4 := ⟨Try.f4, Try.func4, rfl, rfl⟩
instance : Enters Try.prog 5 := ⟨Try.f5, Try.func5, rfl, rfl⟩
instance : Enters Try.prog 6 := ⟨Try.f6, Try.func6, rfl, rfl⟩
instance : Enters Try.prog 7 := ⟨Try.f7, Try.func7, rfl, rfl⟩
instance : Enters Try.prog 8 := ⟨Try.f8, Try.func8, rfl, rfl⟩
instance : Enters Try.prog 9 := ⟨Try.f9, Try.func9, rfl, rfl⟩
instance : Enters Try.prog 10 := ⟨Try.f10, Try.func10, rfl, rfl⟩
instance : Enters Try.prog 11 := ⟨Try.f11, Try.func11, rfl, rfl⟩
instance : Enters Try.prog 12 := ⟨Try.f12, Try.func12, rfl, rfl⟩
instance : Enters Try.prog 13 := ⟨Try.f13, Try.func13, rfl, rfl⟩
instance : Enters Try.prog 14 := ⟨Try.f14, Try.func14, rfl, rfl⟩
instance : Enters Try.prog 15 := ⟨Try.f15, Try.func15, rfl, rfl⟩
instance : Enters Try.prog 16 := ⟨Try.f16, Try.func16, rfl, rfl⟩
instance : Enters Try.prog 17 := ⟨Try.f17, Try.func17, rfl, rfl⟩
instance : Enters Try.prog 18 := ⟨Try.f18, Try.func18, rfl, rfl⟩
instance : Enters Try.prog 19 := ⟨Try.f19, Try.func19, rfl, rfl⟩
instance : Enters Try.prog 20 := ⟨Try.f20, Try.func20, rfl, rfl⟩
instance : Enters Try.prog 21 := ⟨Try.f21, Try.func21, rfl, rfl⟩
instance : Enters Try.prog 22 := ⟨Try.f22, Try.func22, rfl, rfl⟩
instance : Enters Try.prog 23 := ⟨Try.f23, Try.func23, rfl, rfl⟩
instance : Enters Try.prog 24 := ⟨Try.f24, Try.func24, rfl, rfl⟩
instance : Enters Try.prog 25 := ⟨Try.f25, Try.func25, rfl, rfl⟩
instance : Enters Try.prog 26 := ⟨Try.f26, Try.func26, rfl, rfl⟩
instance : Enters Try.prog 27 := ⟨Try.f27, Try.func27, rfl, rfl⟩
instance : Enters Try.prog 28 := ⟨Try.f28, Try.func28, rfl, rfl⟩
instance : Enters Try.prog 29 := ⟨Try.f29, Try.func29, rfl, rfl⟩
instance : Enters Try.prog 30 := ⟨Try.f30, Try.func30, rfl, rfl⟩
instance : Enters Try.prog 31 := ⟨Try.f31, Try.func31, rfl, rfl⟩
instance : Enters Try.prog 32 := ⟨Try.f32, Try.func32, rfl, rfl⟩
instance : Enters Try.prog 33 := ⟨Try.f33, Try.func33, rfl, rfl⟩
instance : Enters Try.prog 34 := ⟨Try.f34, Try.func34, rfl, rfl⟩
instance : Enters Try.prog 35 := ⟨Try.f35, Try.func35, rfl, rfl⟩
instance : Enters Try.prog 36 := ⟨Try.f36, Try.func36, rfl, rfl⟩
instance : Enters Try.prog 37 := ⟨Try.f37, Try.func37, rfl, rfl⟩
instance : Enters Try.prog 38 := ⟨Try.f38, Try.func38, rfl, rfl⟩
instance : Enters Try.prog 39 := ⟨Try.f39, Try.func39, rfl, rfl⟩
instance : Enters Try.prog 40 := ⟨Try.f40, Try.func40, rfl, rfl⟩
instance : Enters Try.prog 41 := ⟨Try.f41, Try.func41, rfl, rfl⟩
instance : Enters Try.prog 42 := ⟨Try.f42, Try.func42, rfl, rfl⟩
instance : Enters Try.prog 43 := ⟨Try.f43, Try.func43, rfl, rfl⟩
instance : Enters Try.prog 44 := ⟨Try.f44, Try.func44, rfl, rfl⟩
instance : Enters Try.prog 45 := ⟨Try.f45, Try.func45, rfl, rfl⟩
instance : Enters Try.prog 46 := ⟨Try.f46, Try.func46, rfl, rfl⟩
instance : Enters Try.prog 47 := ⟨Try.f47, Try.func47, rfl, rfl⟩
instance : Enters Try.prog 48 := ⟨Try.f48, Try.func48, rfl, rfl⟩
instance : Enters Try.prog 49 := ⟨Try.f49, Try.func49, rfl, rfl⟩
instance : Enters Try.prog 50 := ⟨Try.f50, Try.func50, rfl, rfl⟩
instance : Enters Try.prog 52 := ⟨Try.f52, Try.func52, rfl, rfl⟩
instance : Enters Try.prog 53 := ⟨Try.f53, Try.func53, rfl, rfl⟩
instance : Enters Try.prog 54 := ⟨Try.f54, Try.func54, rfl, rfl⟩
instance : Enters Try.prog 55 := ⟨Try.f55, Try.func55, rfl, rfl⟩
instance : Enters Try.prog 56 := ⟨Try.f56, Try.func56, rfl, rfl⟩
instance : Enters Try.prog 57 := ⟨Try.f57, Try.func57, rfl, rfl⟩
instance : Enters Try.prog 58 := ⟨Try.f58, Try.func58, rfl, rfl⟩
instance : Enters Try.prog 79 := ⟨Try.f79, Try.func79, rfl, rfl⟩
instance : Enters Try.prog 84 := ⟨Try.f84, Try.func84, rfl, rfl⟩
instance : Enters Try.prog 87 := ⟨Try.f87, Try.func87, rfl, rfl⟩
instance : Enters Try.prog 88 := ⟨Try.f88, Try.func88, rfl, rfl⟩
instance : Enters Try.prog 89 := ⟨Try.f89, Try.func89, rfl, rfl⟩
instance : Enters Try.prog 91 := ⟨Try.f91, Try.func91, rfl, rfl⟩
instance : Enters Try.prog 92 := ⟨Try.f92, Try.func92, rfl, rfl⟩
instance : Enters Try.prog 95 := ⟨Try.f95, Try.func95, rfl, rfl⟩
instance : Enters Try.prog 96 := ⟨Try.f96, Try.func96, rfl, rfl⟩
instance : Enters Try.prog 97 := ⟨Try.f97, Try.func97, rfl, rfl⟩
instance : Enters Try.prog 98 := ⟨Try.f98, Try.func98, rfl, rfl⟩
instance : Enters Try.prog 101 := ⟨Try.f101, Try.func101, rfl, rfl⟩
instance : Enters Try.prog 107 := ⟨Try.f107, Try.func107, rfl, rfl⟩
instance : Enters Try.prog 113 := ⟨Try.f113, Try.func113, rfl, rfl⟩
theorem mixed : Try.prog.follows .mixedOrders = true := by kernel_rfl
end Go.Lg
