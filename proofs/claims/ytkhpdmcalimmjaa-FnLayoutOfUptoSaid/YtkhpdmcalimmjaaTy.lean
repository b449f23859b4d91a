/-
  The sizes and the make of this translation's types, and which functions have a body: closed facts, written by a small program (seatty.py). No conditions.
-/
import Derived.Test.YtkhpdmcalimmjaaProg
import Derived.Test.YtkhpdmcalimmjaaLg3
import Derived.KernelRfl
set_option maxRecDepth 20000
namespace Go.Lg
open Go.Proofs
instance : Und Try.prog 0 (TypeDesc.tuple #[]) := ⟨Try.underlying0⟩
instance : Und Try.prog 1 (TypeDesc.func #[] #[] false) := ⟨Try.underlying1⟩
instance : Inf Try.prog 1 1 8 [.nilFunc] := ⟨by kernel_rfl⟩
instance : Und Try.prog 2 (TypeDesc.int IntKind.i64) := ⟨Try.underlying2⟩
instance : Inf Try.prog 2 1 8 [.int .i64 0] := ⟨by kernel_rfl⟩
instance : Und Try.prog 3 (TypeDesc.int IntKind.i64) := ⟨Try.underlying3⟩
instance : Inf Try.prog 3 1 8 [.int .i64 0] := ⟨by kernel_rfl⟩
instance : Und Try.prog 4 TypeDesc.bool := ⟨Try.underlying4⟩
instance : Inf Try.prog 4 1 1 [.bool false] := ⟨by kernel_rfl⟩
instance : Und Try.prog 5 (TypeDesc.int IntKind.u8) := ⟨Try.underlying5⟩
instance : Inf Try.prog 5 1 1 [.int .u8 0] := ⟨by kernel_rfl⟩
instance : Und Try.prog 6 (TypeDesc.int IntKind.u8) := ⟨Try.underlying6⟩
instance : Inf Try.prog 6 1 1 [.int .u8 0] := ⟨by kernel_rfl⟩
instance : Und Try.prog 7 (TypeDesc.struct #[{ name := "x", type := 2, offset := 0, embedded := false, tag := "", pkgPath := "runtime", byteOffset := 0 }, { name := "y", type := 3, offset := 1, embedded := false, tag := "", pkgPath := "runtime", byteOffset := 8 }, { name := "signed", type := 4, offset := 2, embedded := false, tag := "", pkgPath := "runtime", byteOffset := 16 }, { name := "code", type := 6, offset := 3, embedded := false, tag := "", pkgPath := "runtime", byteOffset := 17 }]) := ⟨Try.underlying7⟩
instance : Inf Try.prog 7 4 24 [.int .i64 0, .int .i64 0, .bool false, .int .u8 0] := ⟨by kernel_rfl⟩
instance : Und Try.prog 8 (TypeDesc.struct #[{ name := "x", type := 2, offset := 0, embedded := false, tag := "", pkgPath := "runtime", byteOffset := 0 }, { name := "y", type := 3, offset := 1, embedded := false, tag := "", pkgPath := "runtime", byteOffset := 8 }, { name := "signed", type := 4, offset := 2, embedded := false, tag := "", pkgPath := "runtime", byteOffset := 16 }, { name := "code", type := 6, offset := 3, embedded := false, tag := "", pkgPath := "runtime", byteOffset := 17 }]) := ⟨Try.underlying8⟩
instance : Inf Try.prog 8 4 24 [.int .i64 0, .int .i64 0, .bool false, .int .u8 0] := ⟨by kernel_rfl⟩
instance : Und Try.prog 9 TypeDesc.string := ⟨Try.underlying9⟩
instance : Inf Try.prog 9 1 16 [.string ⟨#[]⟩] := ⟨by kernel_rfl⟩
instance : Und Try.prog 10 TypeDesc.string := ⟨Try.underlying10⟩
instance : Inf Try.prog 10 1 16 [.string ⟨#[]⟩] := ⟨by kernel_rfl⟩
instance : Und Try.prog 11 TypeDesc.string := ⟨Try.underlying11⟩
instance : Inf Try.prog 11 1 16 [.string ⟨#[]⟩] := ⟨by kernel_rfl⟩
instance : Und Try.prog 12 (TypeDesc.int IntKind.u64) := ⟨Try.underlying12⟩
instance : Inf Try.prog 12 1 8 [.int .u64 0] := ⟨by kernel_rfl⟩
instance : Und Try.prog 13 (TypeDesc.struct #[{ name := "msg", type := 9, offset := 0, embedded := false, tag := "", pkgPath := "runtime", byteOffset := 0 }, { name := "addr", type := 12, offset := 1, embedded := false, tag := "", pkgPath := "runtime", byteOffset := 16 }]) := ⟨Try.underlying13⟩
instance : Inf Try.prog 13 2 24 [.string ⟨#[]⟩, .int .u64 0] := ⟨by kernel_rfl⟩
instance : Und Try.prog 14 (TypeDesc.struct #[{ name := "msg", type := 9, offset := 0, embedded := false, tag := "", pkgPath := "runtime", byteOffset := 0 }, { name := "addr", type := 12, offset := 1, embedded := false, tag := "", pkgPath := "runtime", byteOffset := 16 }]) := ⟨Try.underlying14⟩
instance : Inf Try.prog 14 2 24 [.string ⟨#[]⟩, .int .u64 0] := ⟨by kernel_rfl⟩
instance : Und Try.prog 15 (TypeDesc.pointer 107) := ⟨Try.underlying15⟩
instance : Inf Try.prog 15 1 8 [.pointer none] := ⟨by kernel_rfl⟩
instance : Und Try.prog 16 (TypeDesc.pointer 110) := ⟨Try.underlying16⟩
instance : Inf Try.prog 16 1 8 [.pointer none] := ⟨by kernel_rfl⟩
instance : Und Try.prog 17 (TypeDesc.pointer 119) := ⟨Try.underlying17⟩
instance : Inf Try.prog 17 1 8 [.pointer none] := ⟨by kernel_rfl⟩
instance : Und Try.prog 18 (TypeDesc.struct #[{ name := "typ", type := 17, offset := 0, embedded := false, tag := "", pkgPath := "internal/runtime/maps", byteOffset := 0 }]) := ⟨Try.underlying18⟩
instance : Inf Try.prog 18 1 8 [.pointer none] := ⟨by kernel_rfl⟩
instance : Und Try.prog 19 (TypeDesc.struct #[{ name := "typ", type := 17, offset := 0, embedded := false, tag := "", pkgPath := "internal/runtime/maps", byteOffset := 0 }]) := ⟨Try.underlying19⟩
instance : Inf Try.prog 19 1 8 [.pointer none] := ⟨by kernel_rfl⟩
instance : Und Try.prog 20 (TypeDesc.interface #[]) := ⟨Try.underlying20⟩
instance : Inf Try.prog 20 1 16 [.nilIface] := ⟨by kernel_rfl⟩
instance : Und Try.prog 21 (TypeDesc.int IntKind.i32) := ⟨Try.underlying21⟩
instance : Inf Try.prog 21 1 4 [.int .i32 0] := ⟨by kernel_rfl⟩
instance : Und Try.prog 22 (TypeDesc.slice 120) := ⟨Try.underlying22⟩
instance : Inf Try.prog 22 1 24 [.slice none 0 0] := ⟨by kernel_rfl⟩
instance : Und Try.prog 23 (TypeDesc.slice 3) := ⟨Try.underlying23⟩
instance : Inf Try.prog 23 1 24 [.slice none 0 0] := ⟨by kernel_rfl⟩
instance : Und Try.prog 24 (TypeDesc.slice 23) := ⟨Try.underlying24⟩
instance : Inf Try.prog 24 1 24 [.slice none 0 0] := ⟨by kernel_rfl⟩
instance : Und Try.prog 25 (TypeDesc.slice 27) := ⟨Try.underlying25⟩
instance : Inf Try.prog 25 1 24 [.slice none 0 0] := ⟨by kernel_rfl⟩
instance : Und Try.prog 26 (TypeDesc.struct #[{ name := "Kind", type := 3, offset := 0, embedded := false, tag := "", pkgPath := "", byteOffset := 0 }, { name := "Layout", type := 3, offset := 1, embedded := false, tag := "", pkgPath := "", byteOffset := 8 }, { name := "SRID", type := 3, offset := 2, embedded := false, tag := "", pkgPath := "", byteOffset := 16 }, { name := "Flat", type := 22, offset := 3, embedded := false, tag := "", pkgPath := "", byteOffset := 24 }, { name := "Ends", type := 23, offset := 4, embedded := false, tag := "", pkgPath := "", byteOffset := 48 }, { name := "Endss", type := 24, offset := 5, embedded := false, tag := "", pkgPath := "", byteOffset := 72 }, { name := "Kids", type := 25, offset := 6, embedded := false, tag := "", pkgPath := "", byteOffset := 96 }]) := ⟨Try.underlying26⟩
instance : Inf Try.prog 26 7 120 [.int .i64 0, .int .i64 0, .int .i64 0, .slice none 0 0, .slice none 0 0, .slice none 0 0, .slice none 0 0] := ⟨by kernel_rfl⟩
instance : Und Try.prog 27 (TypeDesc.struct #[{ name := "Kind", type := 3, offset := 0, embedded := false, tag := "", pkgPath := "", byteOffset := 0 }, { name := "Layout", type := 3, offset := 1, embedded := false, tag := "", pkgPath := "", byteOffset := 8 }, { name := "SRID", type := 3, offset := 2, embedded := false, tag := "", pkgPath := "", byteOffset := 16 }, { name := "Flat", type := 22, offset := 3, embedded := false, tag := "", pkgPath := "", byteOffset := 24 }, { name := "Ends", type := 23, offset := 4, embedded := false, tag := "", pkgPath := "", byteOffset := 48 }, { name := "Endss", type := 24, offset := 5, embedded := false, tag := "", pkgPath := "", byteOffset := 72 }, { name := "Kids", type := 25, offset := 6, embedded := false, tag := "", pkgPath := "", byteOffset := 96 }]) := ⟨Try.underlying27⟩
instance : Inf Try.prog 27 7 120 [.int .i64 0, .int .i64 0, .int .i64 0, .slice none 0 0, .slice none 0 0, .slice none 0 0, .slice none 0 0] := ⟨by kernel_rfl⟩
instance : Und Try.prog 28 (TypeDesc.func #[27] #[4] false) := ⟨Try.underlying28⟩
instance : Inf Try.prog 28 1 8 [.nilFunc] := ⟨by kernel_rfl⟩
instance : Und Try.prog 29 (TypeDesc.func #[25] #[4] true) := ⟨Try.underlying29⟩
instance : Inf Try.prog 29 1 8 [.nilFunc] := ⟨by kernel_rfl⟩
instance : Und Try.prog 30 (TypeDesc.tuple #[3, 4]) := ⟨Try.underlying30⟩
instance : Und Try.prog 31 (TypeDesc.func #[27] #[3, 4] false) := ⟨Try.underlying31⟩
instance : Inf Try.prog 31 1 8 [.nilFunc] := ⟨by kernel_rfl⟩
instance : Und Try.prog 32 (TypeDesc.func #[27] #[3] false) := ⟨Try.underlying32⟩
instance : Inf Try.prog 32 1 8 [.nilFunc] := ⟨by kernel_rfl⟩
instance : Und Try.prog 33 (TypeDesc.func #[24] #[4] false) := ⟨Try.underlying33⟩
instance : Inf Try.prog 33 1 8 [.nilFunc] := ⟨by kernel_rfl⟩
instance : Und Try.prog 34 (TypeDesc.int IntKind.i64) := ⟨Try.underlying34⟩
instance : Inf Try.prog 34 1 8 [.int .i64 0] := ⟨by kernel_rfl⟩
instance : Und Try.prog 35 (TypeDesc.interface #[("Bounds", 121), ("Empty", 122), ("Ends", 123), ("Endss", 124), ("FlatCoords", 125), ("Layout", 38), ("SRID", 80), ("Stride", 80)]) := ⟨Try.underlying35⟩
instance : Inf Try.prog 35 1 16 [.nilIface] := ⟨by kernel_rfl⟩
instance : Und Try.prog 36 (TypeDesc.interface #[("Bounds", 121), ("Empty", 122), ("Ends", 123), ("Endss", 124), ("FlatCoords", 125), ("Layout", 38), ("SRID", 80), ("Stride", 80)]) := ⟨Try.underlying36⟩
instance : Inf Try.prog 36 1 16 [.nilIface] := ⟨by kernel_rfl⟩
instance : Und Try.prog 37 (TypeDesc.func #[27] #[36] false) := ⟨Try.underlying37⟩
instance : Inf Try.prog 37 1 8 [.nilFunc] := ⟨by kernel_rfl⟩
instance : Und Try.prog 38 (TypeDesc.func #[] #[34] false) := ⟨Try.underlying38⟩
instance : Inf Try.prog 38 1 8 [.nilFunc] := ⟨by kernel_rfl⟩
instance : Und Try.prog 39 (TypeDesc.func #[3, 3] #[3] false) := ⟨Try.underlying39⟩
instance : Inf Try.prog 39 1 8 [.nilFunc] := ⟨by kernel_rfl⟩
instance : Und Try.prog 40 (TypeDesc.func #[27, 3] #[3] false) := ⟨Try.underlying40⟩
instance : Inf Try.prog 40 1 8 [.nilFunc] := ⟨by kernel_rfl⟩
instance : Und Try.prog 41 (TypeDesc.func #[27, 3] #[4] false) := ⟨Try.underlying41⟩
instance : Inf Try.prog 41 1 8 [.nilFunc] := ⟨by kernel_rfl⟩
instance : Und Try.prog 42 (TypeDesc.func #[3] #[3] false) := ⟨Try.underlying42⟩
instance : Inf Try.prog 42 1 8 [.nilFunc] := ⟨by kernel_rfl⟩
instance : Und Try.prog 43 (TypeDesc.func #[23, 3, 3, 4] #[3, 4] false) := ⟨Try.underlying43⟩
instance : Inf Try.prog 43 1 8 [.nilFunc] := ⟨by kernel_rfl⟩
instance : Und Try.prog 44 (TypeDesc.func #[22] #[22] false) := ⟨Try.underlying44⟩
instance : Inf Try.prog 44 1 8 [.nilFunc] := ⟨by kernel_rfl⟩
instance : Und Try.prog 45 (TypeDesc.pointer 79) := ⟨Try.underlying45⟩
instance : Inf Try.prog 45 1 8 [.pointer none] := ⟨by kernel_rfl⟩
instance : Und Try.prog 46 (TypeDesc.func #[34, 22] #[45] false) := ⟨Try.underlying46⟩
instance : Inf Try.prog 46 1 8 [.nilFunc] := ⟨by kernel_rfl⟩
instance : Und Try.prog 47 (TypeDesc.func #[3] #[45] false) := ⟨Try.underlying47⟩
instance : Inf Try.prog 47 1 8 [.nilFunc] := ⟨by kernel_rfl⟩
instance : Und Try.prog 48 (TypeDesc.pointer 83) := ⟨Try.underlying48⟩
instance : Inf Try.prog 48 1 8 [.pointer none] := ⟨by kernel_rfl⟩
instance : Und Try.prog 49 (TypeDesc.func #[34, 22] #[48] false) := ⟨Try.underlying49⟩
instance : Inf Try.prog 49 1 8 [.nilFunc] := ⟨by kernel_rfl⟩
instance : Und Try.prog 50 (TypeDesc.func #[3] #[48] false) := ⟨Try.underlying50⟩
instance : Inf Try.prog 50 1 8 [.nilFunc] := ⟨by kernel_rfl⟩
instance : Und Try.prog 51 (TypeDesc.pointer 84) := ⟨Try.underlying51⟩
instance : Inf Try.prog 51 1 8 [.pointer none] := ⟨by kernel_rfl⟩
instance : Und Try.prog 52 (TypeDesc.func #[34, 22] #[51] false) := ⟨Try.underlying52⟩
instance : Inf Try.prog 52 1 8 [.nilFunc] := ⟨by kernel_rfl⟩
instance : Und Try.prog 53 (TypeDesc.func #[3] #[51] false) := ⟨Try.underlying53⟩
instance : Inf Try.prog 53 1 8 [.nilFunc] := ⟨by kernel_rfl⟩
instance : Und Try.prog 54 (TypeDesc.pointer 88) := ⟨Try.underlying54⟩
instance : Inf Try.prog 54 1 8 [.pointer none] := ⟨by kernel_rfl⟩
instance : Und Try.prog 55 (TypeDesc.func #[34, 22, 23] #[54] false) := ⟨Try.underlying55⟩
instance : Inf Try.prog 55 1 8 [.nilFunc] := ⟨by kernel_rfl⟩
instance : Und Try.prog 56 (TypeDesc.func #[23] #[23] false) := ⟨Try.underlying56⟩
instance : Inf Try.prog 56 1 8 [.nilFunc] := ⟨by kernel_rfl⟩
instance : Und Try.prog 57 (TypeDesc.func #[3] #[54] false) := ⟨Try.underlying57⟩
instance : Inf Try.prog 57 1 8 [.nilFunc] := ⟨by kernel_rfl⟩
instance : Und Try.prog 58 (TypeDesc.pointer 90) := ⟨Try.underlying58⟩
instance : Inf Try.prog 58 1 8 [.pointer none] := ⟨by kernel_rfl⟩
instance : Und Try.prog 59 (TypeDesc.func #[34, 22, 89] #[58] true) := ⟨Try.underlying59⟩
instance : Inf Try.prog 59 1 8 [.nilFunc] := ⟨by kernel_rfl⟩
instance : Und Try.prog 60 (TypeDesc.func #[58] #[] false) := ⟨Try.underlying60⟩
instance : Inf Try.prog 60 1 8 [.nilFunc] := ⟨by kernel_rfl⟩
instance : Und Try.prog 61 (TypeDesc.func #[58] #[] false) := ⟨Try.underlying61⟩
instance : Inf Try.prog 61 1 8 [.nilFunc] := ⟨by kernel_rfl⟩
instance : Und Try.prog 62 (TypeDesc.func #[23] #[61] false) := ⟨Try.underlying62⟩
instance : Inf Try.prog 62 1 8 [.nilFunc] := ⟨by kernel_rfl⟩
instance : Und Try.prog 63 (TypeDesc.func #[3] #[58] false) := ⟨Try.underlying63⟩
instance : Inf Try.prog 63 1 8 [.nilFunc] := ⟨by kernel_rfl⟩
instance : Und Try.prog 64 (TypeDesc.pointer 91) := ⟨Try.underlying64⟩
instance : Inf Try.prog 64 1 8 [.pointer none] := ⟨by kernel_rfl⟩
instance : Und Try.prog 65 (TypeDesc.func #[34, 22, 23] #[64] false) := ⟨Try.underlying65⟩
instance : Inf Try.prog 65 1 8 [.nilFunc] := ⟨by kernel_rfl⟩
instance : Und Try.prog 66 (TypeDesc.func #[3] #[64] false) := ⟨Try.underlying66⟩
instance : Inf Try.prog 66 1 8 [.nilFunc] := ⟨by kernel_rfl⟩
instance : Und Try.prog 67 (TypeDesc.pointer 95) := ⟨Try.underlying67⟩
instance : Inf Try.prog 67 1 8 [.pointer none] := ⟨by kernel_rfl⟩
instance : Und Try.prog 68 (TypeDesc.func #[34, 22, 24] #[67] false) := ⟨Try.underlying68⟩
instance : Inf Try.prog 68 1 8 [.nilFunc] := ⟨by kernel_rfl⟩
instance : Und Try.prog 69 (TypeDesc.func #[24] #[24] false) := ⟨Try.underlying69⟩
instance : Inf Try.prog 69 1 8 [.nilFunc] := ⟨by kernel_rfl⟩
instance : Und Try.prog 70 (TypeDesc.func #[3] #[67] false) := ⟨Try.underlying70⟩
instance : Inf Try.prog 70 1 8 [.nilFunc] := ⟨by kernel_rfl⟩
instance : Und Try.prog 71 (TypeDesc.pointer 98) := ⟨Try.underlying71⟩
instance : Inf Try.prog 71 1 8 [.pointer none] := ⟨by kernel_rfl⟩
instance : Und Try.prog 72 (TypeDesc.func #[] #[71] false) := ⟨Try.underlying72⟩
instance : Inf Try.prog 72 1 8 [.nilFunc] := ⟨by kernel_rfl⟩
instance : Und Try.prog 73 (TypeDesc.func #[3] #[71] false) := ⟨Try.underlying73⟩
instance : Inf Try.prog 73 1 8 [.nilFunc] := ⟨by kernel_rfl⟩
instance : Und Try.prog 74 (TypeDesc.func #[96] #[71] true) := ⟨Try.underlying74⟩
instance : Inf Try.prog 74 1 8 [.nilFunc] := ⟨by kernel_rfl⟩
instance : Und Try.prog 75 (TypeDesc.func #[34] #[71] false) := ⟨Try.underlying75⟩
instance : Inf Try.prog 75 1 8 [.nilFunc] := ⟨by kernel_rfl⟩
instance : Und Try.prog 76 (TypeDesc.struct #[{ name := "layout", type := 34, offset := 0, embedded := false, tag := "", pkgPath := "pub-orthodrome/pub/gogeom", byteOffset := 0 }, { name := "stride", type := 3, offset := 1, embedded := false, tag := "", pkgPath := "pub-orthodrome/pub/gogeom", byteOffset := 8 }, { name := "flatCoords", type := 22, offset := 2, embedded := false, tag := "", pkgPath := "pub-orthodrome/pub/gogeom", byteOffset := 16 }, { name := "srid", type := 3, offset := 3, embedded := false, tag := "", pkgPath := "pub-orthodrome/pub/gogeom", byteOffset := 40 }]) := ⟨Try.underlying76⟩
instance : Inf Try.prog 76 4 48 [.int .i64 0, .int .i64 0, .slice none 0 0, .int .i64 0] := ⟨by kernel_rfl⟩
instance : Und Try.prog 77 (TypeDesc.struct #[{ name := "layout", type := 34, offset := 0, embedded := false, tag := "", pkgPath := "pub-orthodrome/pub/gogeom", byteOffset := 0 }, { name := "stride", type := 3, offset := 1, embedded := false, tag := "", pkgPath := "pub-orthodrome/pub/gogeom", byteOffset := 8 }, { name := "flatCoords", type := 22, offset := 2, embedded := false, tag := "", pkgPath := "pub-orthodrome/pub/gogeom", byteOffset := 16 }, { name := "srid", type := 3, offset := 3, embedded := false, tag := "", pkgPath := "pub-orthodrome/pub/gogeom", byteOffset := 40 }]) := ⟨Try.underlying77⟩
instance : Inf Try.prog 77 4 48 [.int .i64 0, .int .i64 0, .slice none 0 0, .int .i64 0] := ⟨by kernel_rfl⟩
instance : Und Try.prog 78 (TypeDesc.struct #[{ name := "geom0", type := 77, offset := 0, embedded := true, tag := "", pkgPath := "pub-orthodrome/pub/gogeom", byteOffset := 0 }]) := ⟨Try.underlying78⟩
instance : Inf Try.prog 78 4 48 [.int .i64 0, .int .i64 0, .slice none 0 0, .int .i64 0] := ⟨by kernel_rfl⟩
instance : Und Try.prog 79 (TypeDesc.struct #[{ name := "geom0", type := 77, offset := 0, embedded := true, tag := "", pkgPath := "pub-orthodrome/pub/gogeom", byteOffset := 0 }]) := ⟨Try.underlying79⟩
instance : Inf Try.prog 79 4 48 [.int .i64 0, .int .i64 0, .slice none 0 0, .int .i64 0] := ⟨by kernel_rfl⟩
instance : Und Try.prog 80 (TypeDesc.func #[] #[3] false) := ⟨Try.underlying80⟩
instance : Inf Try.prog 80 1 8 [.nilFunc] := ⟨by kernel_rfl⟩
instance : Und Try.prog 81 (TypeDesc.struct #[{ name := "geom0", type := 77, offset := 0, embedded := true, tag := "", pkgPath := "pub-orthodrome/pub/gogeom", byteOffset := 0 }]) := ⟨Try.underlying81⟩
instance : Inf Try.prog 81 4 48 [.int .i64 0, .int .i64 0, .slice none 0 0, .int .i64 0] := ⟨by kernel_rfl⟩
instance : Und Try.prog 82 (TypeDesc.struct #[{ name := "geom1", type := 81, offset := 0, embedded := true, tag := "", pkgPath := "pub-orthodrome/pub/gogeom", byteOffset := 0 }]) := ⟨Try.underlying82⟩
instance : Inf Try.prog 82 4 48 [.int .i64 0, .int .i64 0, .slice none 0 0, .int .i64 0] := ⟨by kernel_rfl⟩
instance : Und Try.prog 83 (TypeDesc.struct #[{ name := "geom1", type := 81, offset := 0, embedded := true, tag := "", pkgPath := "pub-orthodrome/pub/gogeom", byteOffset := 0 }]) := ⟨Try.underlying83⟩
instance : Inf Try.prog 83 4 48 [.int .i64 0, .int .i64 0, .slice none 0 0, .int .i64 0] := ⟨by kernel_rfl⟩
instance : Und Try.prog 84 (TypeDesc.struct #[{ name := "geom1", type := 81, offset := 0, embedded := true, tag := "", pkgPath := "pub-orthodrome/pub/gogeom", byteOffset := 0 }]) := ⟨Try.underlying84⟩
instance : Inf Try.prog 84 4 48 [.int .i64 0, .int .i64 0, .slice none 0 0, .int .i64 0] := ⟨by kernel_rfl⟩
instance : Und Try.prog 85 (TypeDesc.struct #[{ name := "geom1", type := 81, offset := 0, embedded := true, tag := "", pkgPath := "pub-orthodrome/pub/gogeom", byteOffset := 0 }, { name := "ends", type := 23, offset := 4, embedded := false, tag := "", pkgPath := "pub-orthodrome/pub/gogeom", byteOffset := 48 }]) := ⟨Try.underlying85⟩
instance : Inf Try.prog 85 5 72 [.int .i64 0, .int .i64 0, .slice none 0 0, .int .i64 0, .slice none 0 0] := ⟨by kernel_rfl⟩
instance : Und Try.prog 86 (TypeDesc.struct #[{ name := "geom1", type := 81, offset := 0, embedded := true, tag := "", pkgPath := "pub-orthodrome/pub/gogeom", byteOffset := 0 }, { name := "ends", type := 23, offset := 4, embedded := false, tag := "", pkgPath := "pub-orthodrome/pub/gogeom", byteOffset := 48 }]) := ⟨Try.underlying86⟩
instance : Inf Try.prog 86 5 72 [.int .i64 0, .int .i64 0, .slice none 0 0, .int .i64 0, .slice none 0 0] := ⟨by kernel_rfl⟩
instance : Und Try.prog 87 (TypeDesc.struct #[{ name := "geom2", type := 86, offset := 0, embedded := true, tag := "", pkgPath := "pub-orthodrome/pub/gogeom", byteOffset := 0 }]) := ⟨Try.underlying87⟩
instance : Inf Try.prog 87 5 72 [.int .i64 0, .int .i64 0, .slice none 0 0, .int .i64 0, .slice none 0 0] := ⟨by kernel_rfl⟩
instance : Und Try.prog 88 (TypeDesc.struct #[{ name := "geom2", type := 86, offset := 0, embedded := true, tag := "", pkgPath := "pub-orthodrome/pub/gogeom", byteOffset := 0 }]) := ⟨Try.underlying88⟩
instance : Inf Try.prog 88 5 72 [.int .i64 0, .int .i64 0, .slice none 0 0, .int .i64 0, .slice none 0 0] := ⟨by kernel_rfl⟩
instance : Und Try.prog 89 (TypeDesc.slice 61) := ⟨Try.underlying89⟩
instance : Inf Try.prog 89 1 24 [.slice none 0 0] := ⟨by kernel_rfl⟩
instance : Und Try.prog 90 (TypeDesc.struct #[{ name := "geom2", type := 86, offset := 0, embedded := true, tag := "", pkgPath := "pub-orthodrome/pub/gogeom", byteOffset := 0 }]) := ⟨Try.underlying90⟩
instance : Inf Try.prog 90 5 72 [.int .i64 0, .int .i64 0, .slice none 0 0, .int .i64 0, .slice none 0 0] := ⟨by kernel_rfl⟩
instance : Und Try.prog 91 (TypeDesc.struct #[{ name := "geom2", type := 86, offset := 0, embedded := true, tag := "", pkgPath := "pub-orthodrome/pub/gogeom", byteOffset := 0 }]) := ⟨Try.underlying91⟩
instance : Inf Try.prog 91 5 72 [.int .i64 0, .int .i64 0, .slice none 0 0, .int .i64 0, .slice none 0 0] := ⟨by kernel_rfl⟩
instance : Und Try.prog 92 (TypeDesc.struct #[{ name := "geom1", type := 81, offset := 0, embedded := true, tag := "", pkgPath := "pub-orthodrome/pub/gogeom", byteOffset := 0 }, { name := "endss", type := 24, offset := 4, embedded := false, tag := "", pkgPath := "pub-orthodrome/pub/gogeom", byteOffset := 48 }]) := ⟨Try.underlying92⟩
instance : Inf Try.prog 92 5 72 [.int .i64 0, .int .i64 0, .slice none 0 0, .int .i64 0, .slice none 0 0] := ⟨by kernel_rfl⟩
instance : Und Try.prog 93 (TypeDesc.struct #[{ name := "geom1", type := 81, offset := 0, embedded := true, tag := "", pkgPath := "pub-orthodrome/pub/gogeom", byteOffset := 0 }, { name := "endss", type := 24, offset := 4, embedded := false, tag := "", pkgPath := "pub-orthodrome/pub/gogeom", byteOffset := 48 }]) := ⟨Try.underlying93⟩
instance : Inf Try.prog 93 5 72 [.int .i64 0, .int .i64 0, .slice none 0 0, .int .i64 0, .slice none 0 0] := ⟨by kernel_rfl⟩
instance : Und Try.prog 94 (TypeDesc.struct #[{ name := "geom3", type := 93, offset := 0, embedded := true, tag := "", pkgPath := "pub-orthodrome/pub/gogeom", byteOffset := 0 }]) := ⟨Try.underlying94⟩
instance : Inf Try.prog 94 5 72 [.int .i64 0, .int .i64 0, .slice none 0 0, .int .i64 0, .slice none 0 0] := ⟨by kernel_rfl⟩
instance : Und Try.prog 95 (TypeDesc.struct #[{ name := "geom3", type := 93, offset := 0, embedded := true, tag := "", pkgPath := "pub-orthodrome/pub/gogeom", byteOffset := 0 }]) := ⟨Try.underlying95⟩
instance : Inf Try.prog 95 5 72 [.int .i64 0, .int .i64 0, .slice none 0 0, .int .i64 0, .slice none 0 0] := ⟨by kernel_rfl⟩
instance : Und Try.prog 96 (TypeDesc.slice 36) := ⟨Try.underlying96⟩
instance : Inf Try.prog 96 1 24 [.slice none 0 0] := ⟨by kernel_rfl⟩
instance : Und Try.prog 97 (TypeDesc.struct #[{ name := "layout", type := 34, offset := 0, embedded := false, tag := "", pkgPath := "pub-orthodrome/pub/gogeom", byteOffset := 0 }, { name := "geoms", type := 96, offset := 1, embedded := false, tag := "", pkgPath := "pub-orthodrome/pub/gogeom", byteOffset := 8 }, { name := "srid", type := 3, offset := 2, embedded := false, tag := "", pkgPath := "pub-orthodrome/pub/gogeom", byteOffset := 32 }]) := ⟨Try.underlying97⟩
instance : Inf Try.prog 97 3 40 [.int .i64 0, .slice none 0 0, .int .i64 0] := ⟨by kernel_rfl⟩
instance : Und Try.prog 98 (TypeDesc.struct #[{ name := "layout", type := 34, offset := 0, embedded := false, tag := "", pkgPath := "pub-orthodrome/pub/gogeom", byteOffset := 0 }, { name := "geoms", type := 96, offset := 1, embedded := false, tag := "", pkgPath := "pub-orthodrome/pub/gogeom", byteOffset := 8 }, { name := "srid", type := 3, offset := 2, embedded := false, tag := "", pkgPath := "pub-orthodrome/pub/gogeom", byteOffset := 32 }]) := ⟨Try.underlying98⟩
instance : Inf Try.prog 98 3 40 [.int .i64 0, .slice none 0 0, .int .i64 0] := ⟨by kernel_rfl⟩
instance : Und Try.prog 99 (TypeDesc.interface #[("Error", 105)]) := ⟨Try.underlying99⟩
instance : Inf Try.prog 99 1 16 [.nilIface] := ⟨by kernel_rfl⟩
instance : Und Try.prog 100 (TypeDesc.interface #[("Error", 105)]) := ⟨Try.underlying100⟩
instance : Inf Try.prog 100 1 16 [.nilIface] := ⟨by kernel_rfl⟩
instance : Und Try.prog 101 (TypeDesc.func #[96] #[100] true) := ⟨Try.underlying101⟩
instance : Inf Try.prog 101 1 8 [.nilFunc] := ⟨by kernel_rfl⟩
instance : Und Try.prog 102 (TypeDesc.func #[34] #[100] false) := ⟨Try.underlying102⟩
instance : Inf Try.prog 102 1 8 [.nilFunc] := ⟨by kernel_rfl⟩
instance : Und Try.prog 103 (TypeDesc.struct #[{ name := "Got", type := 34, offset := 0, embedded := false, tag := "", pkgPath := "", byteOffset := 0 }, { name := "Want", type := 34, offset := 1, embedded := false, tag := "", pkgPath := "", byteOffset := 8 }]) := ⟨Try.underlying103⟩
instance : Inf Try.prog 103 2 16 [.int .i64 0, .int .i64 0] := ⟨by kernel_rfl⟩
instance : Und Try.prog 104 (TypeDesc.struct #[{ name := "Got", type := 34, offset := 0, embedded := false, tag := "", pkgPath := "", byteOffset := 0 }, { name := "Want", type := 34, offset := 1, embedded := false, tag := "", pkgPath := "", byteOffset := 8 }]) := ⟨Try.underlying104⟩
instance : Inf Try.prog 104 2 16 [.int .i64 0, .int .i64 0] := ⟨by kernel_rfl⟩
instance : Und Try.prog 105 (TypeDesc.func #[] #[9] false) := ⟨Try.underlying105⟩
instance : Inf Try.prog 105 1 8 [.nilFunc] := ⟨by kernel_rfl⟩
instance : Und Try.prog 106 (TypeDesc.struct #[{ name := "_interface", type := 17, offset := 0, embedded := false, tag := "", pkgPath := "runtime", byteOffset := 0 }, { name := "concrete", type := 17, offset := 1, embedded := false, tag := "", pkgPath := "runtime", byteOffset := 8 }, { name := "asserted", type := 17, offset := 2, embedded := false, tag := "", pkgPath := "runtime", byteOffset := 16 }, { name := "missingMethod", type := 9, offset := 3, embedded := false, tag := "", pkgPath := "runtime", byteOffset := 24 }]) := ⟨Try.underlying106⟩
instance : Inf Try.prog 106 4 40 [.pointer none, .pointer none, .pointer none, .string ⟨#[]⟩] := ⟨by kernel_rfl⟩
instance : Und Try.prog 107 (TypeDesc.struct #[{ name := "_interface", type := 17, offset := 0, embedded := false, tag := "", pkgPath := "runtime", byteOffset := 0 }, { name := "concrete", type := 17, offset := 1, embedded := false, tag := "", pkgPath := "runtime", byteOffset := 8 }, { name := "asserted", type := 17, offset := 2, embedded := false, tag := "", pkgPath := "runtime", byteOffset := 16 }, { name := "missingMethod", type := 9, offset := 3, embedded := false, tag := "", pkgPath := "runtime", byteOffset := 24 }]) := ⟨Try.underlying107⟩
instance : Inf Try.prog 107 4 40 [.pointer none, .pointer none, .pointer none, .string ⟨#[]⟩] := ⟨by kernel_rfl⟩
instance : Und Try.prog 108 (TypeDesc.array 0 16) := ⟨Try.underlying108⟩
instance : Inf Try.prog 108 0 0 [] := ⟨by kernel_rfl⟩
instance : Und Try.prog 109 (TypeDesc.struct #[{ name := "_", type := 108, offset := 0, embedded := false, tag := "", pkgPath := "runtime", byteOffset := 0 }]) := ⟨Try.underlying109⟩
instance : Inf Try.prog 109 0 0 [] := ⟨by kernel_rfl⟩
instance : Und Try.prog 110 (TypeDesc.struct #[{ name := "_", type := 108, offset := 0, embedded := false, tag := "", pkgPath := "runtime", byteOffset := 0 }]) := ⟨Try.underlying110⟩
instance : Inf Try.prog 110 0 0 [] := ⟨by kernel_rfl⟩
instance : Und Try.prog 111 (TypeDesc.int IntKind.u32) := ⟨Try.underlying111⟩
instance : Inf Try.prog 111 1 4 [.int .u32 0] := ⟨by kernel_rfl⟩
instance : Und Try.prog 112 (TypeDesc.int IntKind.u8) := ⟨Try.underlying112⟩
instance : Inf Try.prog 112 1 1 [.int .u8 0] := ⟨by kernel_rfl⟩
instance : Und Try.prog 113 (TypeDesc.int IntKind.u8) := ⟨Try.underlying113⟩
instance : Inf Try.prog 113 1 1 [.int .u8 0] := ⟨by kernel_rfl⟩
instance : Und Try.prog 114 (TypeDesc.func #[128, 128] #[4] false) := ⟨Try.underlying114⟩
instance : Inf Try.prog 114 1 8 [.nilFunc] := ⟨by kernel_rfl⟩
instance : Und Try.prog 115 (TypeDesc.pointer 5) := ⟨Try.underlying115⟩
instance : Inf Try.prog 115 1 8 [.pointer none] := ⟨by kernel_rfl⟩
instance : Und Try.prog 116 (TypeDesc.int IntKind.i32) := ⟨Try.underlying116⟩
instance : Inf Try.prog 116 1 4 [.int .i32 0] := ⟨by kernel_rfl⟩
instance : Und Try.prog 117 (TypeDesc.int IntKind.i32) := ⟨Try.underlying117⟩
instance : Inf Try.prog 117 1 4 [.int .i32 0] := ⟨by kernel_rfl⟩
instance : Und Try.prog 118 (TypeDesc.struct #[{ name := "Size_", type := 12, offset := 0, embedded := false, tag := "", pkgPath := "", byteOffset := 0 }, { name := "PtrBytes", type := 12, offset := 1, embedded := false, tag := "", pkgPath := "", byteOffset := 8 }, { name := "Hash", type := 111, offset := 2, embedded := false, tag := "", pkgPath := "", byteOffset := 16 }, { name := "TFlag", type := 112, offset := 3, embedded := false, tag := "", pkgPath := "", byteOffset := 20 }, { name := "Align_", type := 5, offset := 4, embedded := false, tag := "", pkgPath := "", byteOffset := 21 }, { name := "FieldAlign_", type := 5, offset := 5, embedded := false, tag := "", pkgPath := "", byteOffset := 22 }, { name := "Kind_", type := 113, offset := 6, embedded := false, tag := "", pkgPath := "", byteOffset := 23 }, { name := "Equal", type := 114, offset := 7, embedded := false, tag := "", pkgPath := "", byteOffset := 24 }, { name := "GCData", type := 115, offset := 8, embedded := false, tag := "", pkgPath := "", byteOffset := 32 }, { name := "Str", type := 116, offset := 9, embedded := false, tag := "", pkgPath := "", byteOffset := 40 }, { name := "PtrToThis", type := 117, offset := 10, embedded := false, tag := "", pkgPath := "", byteOffset := 44 }]) := ⟨Try.underlying118⟩
instance : Inf Try.prog 118 11 48 [.int .u64 0, .int .u64 0, .int .u32 0, .int .u8 0, .int .u8 0, .int .u8 0, .int .u8 0, .nilFunc, .pointer none, .int .i32 0, .int .i32 0] := ⟨by kernel_rfl⟩
instance : Und Try.prog 119 (TypeDesc.struct #[{ name := "Size_", type := 12, offset := 0, embedded := false, tag := "", pkgPath := "", byteOffset := 0 }, { name := "PtrBytes", type := 12, offset := 1, embedded := false, tag := "", pkgPath := "", byteOffset := 8 }, { name := "Hash", type := 111, offset := 2, embedded := false, tag := "", pkgPath := "", byteOffset := 16 }, { name := "TFlag", type := 112, offset := 3, embedded := false, tag := "", pkgPath := "", byteOffset := 20 }, { name := "Align_", type := 5, offset := 4, embedded := false, tag := "", pkgPath := "", byteOffset := 21 }, { name := "FieldAlign_", type := 5, offset := 5, embedded := false, tag := "", pkgPath := "", byteOffset := 22 }, { name := "Kind_", type := 113, offset := 6, embedded := false, tag := "", pkgPath := "", byteOffset := 23 }, { name := "Equal", type := 114, offset := 7, embedded := false, tag := "", pkgPath := "", byteOffset := 24 }, { name := "GCData", type := 115, offset := 8, embedded := false, tag := "", pkgPath := "", byteOffset := 32 }, { name := "Str", type := 116, offset := 9, embedded := false, tag := "", pkgPath := "", byteOffset := 40 }, { name := "PtrToThis", type := 117, offset := 10, embedded := false, tag := "", pkgPath := "", byteOffset := 44 }]) := ⟨Try.underlying119⟩
instance : Inf Try.prog 119 11 48 [.int .u64 0, .int .u64 0, .int .u32 0, .int .u8 0, .int .u8 0, .int .u8 0, .int .u8 0, .nilFunc, .pointer none, .int .i32 0, .int .i32 0] := ⟨by kernel_rfl⟩
instance : Und Try.prog 120 (TypeDesc.float FloatKind.f64) := ⟨Try.underlying120⟩
instance : Inf Try.prog 120 1 8 [.float .f64 0] := ⟨by kernel_rfl⟩
instance : Und Try.prog 121 (TypeDesc.func #[] #[129] false) := ⟨Try.underlying121⟩
instance : Inf Try.prog 121 1 8 [.nilFunc] := ⟨by kernel_rfl⟩
instance : Und Try.prog 122 (TypeDesc.func #[] #[4] false) := ⟨Try.underlying122⟩
instance : Inf Try.prog 122 1 8 [.nilFunc] := ⟨by kernel_rfl⟩
instance : Und Try.prog 123 (TypeDesc.func #[] #[23] false) := ⟨Try.underlying123⟩
instance : Inf Try.prog 123 1 8 [.nilFunc] := ⟨by kernel_rfl⟩
instance : Und Try.prog 124 (TypeDesc.func #[] #[24] false) := ⟨Try.underlying124⟩
instance : Inf Try.prog 124 1 8 [.nilFunc] := ⟨by kernel_rfl⟩
instance : Und Try.prog 125 (TypeDesc.func #[] #[22] false) := ⟨Try.underlying125⟩
instance : Inf Try.prog 125 1 8 [.nilFunc] := ⟨by kernel_rfl⟩
instance : Und Try.prog 126 (TypeDesc.func #[] #[120] false) := ⟨Try.underlying126⟩
instance : Inf Try.prog 126 1 8 [.nilFunc] := ⟨by kernel_rfl⟩
instance : Und Try.prog 127 (TypeDesc.pointer 77) := ⟨Try.underlying127⟩
instance : Inf Try.prog 127 1 8 [.pointer none] := ⟨by kernel_rfl⟩
instance : Und Try.prog 128 TypeDesc.unsafePointer := ⟨Try.underlying128⟩
instance : Inf Try.prog 128 1 8 [.pointer none] := ⟨by kernel_rfl⟩
instance : Und Try.prog 129 (TypeDesc.pointer 132) := ⟨Try.underlying129⟩
instance : Inf Try.prog 129 1 8 [.pointer none] := ⟨by kernel_rfl⟩
instance : Und Try.prog 130 (TypeDesc.slice 120) := ⟨Try.underlying130⟩
instance : Inf Try.prog 130 1 24 [.slice none 0 0] := ⟨by kernel_rfl⟩
instance : Und Try.prog 131 (TypeDesc.struct #[{ name := "layout", type := 34, offset := 0, embedded := false, tag := "", pkgPath := "pub-orthodrome/pub/gogeom", byteOffset := 0 }, { name := "min", type := 130, offset := 1, embedded := false, tag := "", pkgPath := "pub-orthodrome/pub/gogeom", byteOffset := 8 }, { name := "max", type := 130, offset := 2, embedded := false, tag := "", pkgPath := "pub-orthodrome/pub/gogeom", byteOffset := 32 }]) := ⟨Try.underlying131⟩
instance : Inf Try.prog 131 3 56 [.int .i64 0, .slice none 0 0, .slice none 0 0] := ⟨by kernel_rfl⟩
instance : Und Try.prog 132 (TypeDesc.struct #[{ name := "layout", type := 34, offset := 0, embedded := false, tag := "", pkgPath := "pub-orthodrome/pub/gogeom", byteOffset := 0 }, { name := "min", type := 130, offset := 1, embedded := false, tag := "", pkgPath := "pub-orthodrome/pub/gogeom", byteOffset := 8 }, { name := "max", type := 130, offset := 2, embedded := false, tag := "", pkgPath := "pub-orthodrome/pub/gogeom", byteOffset := 32 }]) := ⟨Try.underlying132⟩
instance : Inf Try.prog 132 3 56 [.int .i64 0, .slice none 0 0, .slice none 0 0] := ⟨by kernel_rfl⟩
instance : Und Try.prog 133 (TypeDesc.pointer 81) := ⟨Try.underlying133⟩
instance : Inf Try.prog 133 1 8 [.pointer none] := ⟨by kernel_rfl⟩
instance : Und Try.prog 134 (TypeDesc.pointer 86) := ⟨Try.underlying134⟩
instance : Inf Try.prog 134 1 8 [.pointer none] := ⟨by kernel_rfl⟩
instance : Und Try.prog 135 (TypeDesc.pointer 93) := ⟨Try.underlying135⟩
instance : Inf Try.prog 135 1 8 [.pointer none] := ⟨by kernel_rfl⟩
instance : FieldAt Try.prog 7 0 0 := .mk' Try.underlying7 rfl rfl (by kernel_rfl)
instance : FieldAt Try.prog 7 1 1 := .mk' Try.underlying7 rfl rfl (by kernel_rfl)
instance : FieldAt Try.prog 7 2 2 := .mk' Try.underlying7 rfl rfl (by kernel_rfl)
instance : FieldAt Try.prog 7 3 3 := .mk' Try.underlying7 rfl rfl (by kernel_rfl)
instance : FieldAt Try.prog 8 0 0 := .mk' Try.underlying8 rfl rfl (by kernel_rfl)
instance : FieldAt Try.prog 8 1 1 := .mk' Try.underlying8 rfl rfl (by kernel_rfl)
instance : FieldAt Try.prog 8 2 2 := .mk' Try.underlying8 rfl rfl (by kernel_rfl)
instance : FieldAt Try.prog 8 3 3 := .mk' Try.underlying8 rfl rfl (by kernel_rfl)
instance : FieldAt Try.prog 13 0 0 := .mk' Try.underlying13 rfl rfl (by kernel_rfl)
instance : FieldAt Try.prog 13 1 1 := .mk' Try.underlying13 rfl rfl (by kernel_rfl)
instance : FieldAt Try.prog 14 0 0 := .mk' Try.underlying14 rfl rfl (by kernel_rfl)
instance : FieldAt Try.prog 14 1 1 := .mk' Try.underlying14 rfl rfl (by kernel_rfl)
instance : FieldAt Try.prog 18 0 0 := .mk' Try.underlying18 rfl rfl (by kernel_rfl)
instance : FieldAt Try.prog 19 0 0 := .mk' Try.underlying19 rfl rfl (by kernel_rfl)
instance : FieldAt Try.prog 26 0 0 := .mk' Try.underlying26 rfl rfl (by kernel_rfl)
instance : FieldAt Try.prog 26 1 1 := .mk' Try.underlying26 rfl rfl (by kernel_rfl)
instance : FieldAt Try.prog 26 2 2 := .mk' Try.underlying26 rfl rfl (by kernel_rfl)
instance : FieldAt Try.prog 26 3 3 := .mk' Try.underlying26 rfl rfl (by kernel_rfl)
instance : FieldAt Try.prog 26 4 4 := .mk' Try.underlying26 rfl rfl (by kernel_rfl)
instance : FieldAt Try.prog 26 5 5 := .mk' Try.underlying26 rfl rfl (by kernel_rfl)
instance : FieldAt Try.prog 26 6 6 := .mk' Try.underlying26 rfl rfl (by kernel_rfl)
instance : FieldAt Try.prog 27 0 0 := .mk' Try.underlying27 rfl rfl (by kernel_rfl)
instance : FieldAt Try.prog 27 1 1 := .mk' Try.underlying27 rfl rfl (by kernel_rfl)
instance : FieldAt Try.prog 27 2 2 := .mk' Try.underlying27 rfl rfl (by kernel_rfl)
instance : FieldAt Try.prog 27 3 3 := .mk' Try.underlying27 rfl rfl (by kernel_rfl)
instance : FieldAt Try.prog 27 4 4 := .mk' Try.underlying27 rfl rfl (by kernel_rfl)
instance : FieldAt Try.prog 27 5 5 := .mk' Try.underlying27 rfl rfl (by kernel_rfl)
instance : FieldAt Try.prog 27 6 6 := .mk' Try.underlying27 rfl rfl (by kernel_rfl)
instance : FieldAt Try.prog 76 0 0 := .mk' Try.underlying76 rfl rfl (by kernel_rfl)
instance : FieldAt Try.prog 76 1 1 := .mk' Try.underlying76 rfl rfl (by kernel_rfl)
instance : FieldAt Try.prog 76 2 2 := .mk' Try.underlying76 rfl rfl (by kernel_rfl)
instance : FieldAt Try.prog 76 3 3 := .mk' Try.underlying76 rfl rfl (by kernel_rfl)
instance : FieldAt Try.prog 77 0 0 := .mk' Try.underlying77 rfl rfl (by kernel_rfl)
instance : FieldAt Try.prog 77 1 1 := .mk' Try.underlying77 rfl rfl (by kernel_rfl)
instance : FieldAt Try.prog 77 2 2 := .mk' Try.underlying77 rfl rfl (by kernel_rfl)
instance : FieldAt Try.prog 77 3 3 := .mk' Try.underlying77 rfl rfl (by kernel_rfl)
instance : FieldAt Try.prog 78 0 0 := .mk' Try.underlying78 rfl rfl (by kernel_rfl)
instance : FieldAt Try.prog 79 0 0 := .mk' Try.underlying79 rfl rfl (by kernel_rfl)
instance : FieldAt Try.prog 81 0 0 := .mk' Try.underlying81 rfl rfl (by kernel_rfl)
instance : FieldAt Try.prog 82 0 0 := .mk' Try.underlying82 rfl rfl (by kernel_rfl)
instance : FieldAt Try.prog 83 0 0 := .mk' Try.underlying83 rfl rfl (by kernel_rfl)
instance : FieldAt Try.prog 84 0 0 := .mk' Try.underlying84 rfl rfl (by kernel_rfl)
instance : FieldAt Try.prog 85 0 0 := .mk' Try.underlying85 rfl rfl (by kernel_rfl)
instance : FieldAt Try.prog 85 1 4 := .mk' Try.underlying85 rfl rfl (by kernel_rfl)
instance : FieldAt Try.prog 86 0 0 := .mk' Try.underlying86 rfl rfl (by kernel_rfl)
instance : FieldAt Try.prog 86 1 4 := .mk' Try.underlying86 rfl rfl (by kernel_rfl)
instance : FieldAt Try.prog 87 0 0 := .mk' Try.underlying87 rfl rfl (by kernel_rfl)
instance : FieldAt Try.prog 88 0 0 := .mk' Try.underlying88 rfl rfl (by kernel_rfl)
instance : FieldAt Try.prog 90 0 0 := .mk' Try.underlying90 rfl rfl (by kernel_rfl)
instance : FieldAt Try.prog 91 0 0 := .mk' Try.underlying91 rfl rfl (by kernel_rfl)
instance : FieldAt Try.prog 92 0 0 := .mk' Try.underlying92 rfl rfl (by kernel_rfl)
instance : FieldAt Try.prog 92 1 4 := .mk' Try.underlying92 rfl rfl (by kernel_rfl)
instance : FieldAt Try.prog 93 0 0 := .mk' Try.underlying93 rfl rfl (by kernel_rfl)
instance : FieldAt Try.prog 93 1 4 := .mk' Try.underlying93 rfl rfl (by kernel_rfl)
instance : FieldAt Try.prog 94 0 0 := .mk' Try.underlying94 rfl rfl (by kernel_rfl)
instance : FieldAt Try.prog 95 0 0 := .mk' Try.underlying95 rfl rfl (by kernel_rfl)
instance : FieldAt Try.prog 97 0 0 := .mk' Try.underlying97 rfl rfl (by kernel_rfl)
instance : FieldAt Try.prog 97 1 1 := .mk' Try.underlying97 rfl rfl (by kernel_rfl)
instance : FieldAt Try.prog 97 2 2 := .mk' Try.underlying97 rfl rfl (by kernel_rfl)
instance : FieldAt Try.prog 98 0 0 := .mk' Try.underlying98 rfl rfl (by kernel_rfl)
instance : FieldAt Try.prog 98 1 1 := .mk' Try.underlying98 rfl rfl (by kernel_rfl)
instance : FieldAt Try.prog 98 2 2 := .mk' Try.underlying98 rfl rfl (by kernel_rfl)
instance : FieldAt Try.prog 103 0 0 := .mk' Try.underlying103 rfl rfl (by kernel_rfl)
instance : FieldAt Try.prog 103 1 1 := .mk' Try.underlying103 rfl rfl (by kernel_rfl)
instance : FieldAt Try.prog 104 0 0 := .mk' Try.underlying104 rfl rfl (by kernel_rfl)
instance : FieldAt Try.prog 104 1 1 := .mk' Try.underlying104 rfl rfl (by kernel_rfl)
instance : FieldAt Try.prog 106 0 0 := .mk' Try.underlying106 rfl rfl (by kernel_rfl)
instance : FieldAt Try.prog 106 1 1 := .mk' Try.underlying106 rfl rfl (by kernel_rfl)
instance : FieldAt Try.prog 106 2 2 := .mk' Try.underlying106 rfl rfl (by kernel_rfl)
instance : FieldAt Try.prog 106 3 3 := .mk' Try.underlying106 rfl rfl (by kernel_rfl)
instance : FieldAt Try.prog 107 0 0 := .mk' Try.underlying107 rfl rfl (by kernel_rfl)
instance : FieldAt Try.prog 107 1 1 := .mk' Try.underlying107 rfl rfl (by kernel_rfl)
instance : FieldAt Try.prog 107 2 2 := .mk' Try.underlying107 rfl rfl (by kernel_rfl)
instance : FieldAt Try.prog 107 3 3 := .mk' Try.underlying107 rfl rfl (by kernel_rfl)
instance : FieldAt Try.prog 118 0 0 := .mk' Try.underlying118 rfl rfl (by kernel_rfl)
instance : FieldAt Try.prog 118 1 1 := .mk' Try.underlying118 rfl rfl (by kernel_rfl)
instance : FieldAt Try.prog 118 2 2 := .mk' Try.underlying118 rfl rfl (by kernel_rfl)
instance : FieldAt Try.prog 118 3 3 := .mk' Try.underlying118 rfl rfl (by kernel_rfl)
instance : FieldAt Try.prog 118 4 4 := .mk' Try.underlying118 rfl rfl (by kernel_rfl)
instance : FieldAt Try.prog 118 5 5 := .mk' Try.underlying118 rfl rfl (by kernel_rfl)
instance : FieldAt Try.prog 118 6 6 := .mk' Try.underlying118 rfl rfl (by kernel_rfl)
instance : FieldAt Try.prog 118 7 7 := .mk' Try.underlying118 rfl rfl (by kernel_rfl)
instance : FieldAt Try.prog 118 8 8 := .mk' Try.underlying118 rfl rfl (by kernel_rfl)
instance : FieldAt Try.prog 118 9 9 := .mk' Try.underlying118 rfl rfl (by kernel_rfl)
instance : FieldAt Try.prog 118 10 10 := .mk' Try.underlying118 rfl rfl (by kernel_rfl)
instance : FieldAt Try.prog 119 0 0 := .mk' Try.underlying119 rfl rfl (by kernel_rfl)
instance : FieldAt Try.prog 119 1 1 := .mk' Try.underlying119 rfl rfl (by kernel_rfl)
instance : FieldAt Try.prog 119 2 2 := .mk' Try.underlying119 rfl rfl (by kernel_rfl)
instance : FieldAt Try.prog 119 3 3 := .mk' Try.underlying119 rfl rfl (by kernel_rfl)
instance : FieldAt Try.prog 119 4 4 := .mk' Try.underlying119 rfl rfl (by kernel_rfl)
instance : FieldAt Try.prog 119 5 5 := .mk' Try.underlying119 rfl rfl (by kernel_rfl)
instance : FieldAt Try.prog 119 6 6 := .mk' Try.underlying119 rfl rfl (by kernel_rfl)
instance : FieldAt Try.prog 119 7 7 := .mk' Try.underlying119 rfl rfl (by kernel_rfl)
instance : FieldAt Try.prog 119 8 8 := .mk' Try.underlying119 rfl rfl (by kernel_rfl)
instance : FieldAt Try.prog 119 9 9 := .mk' Try.underlying119 rfl rfl (by kernel_rfl)
instance : FieldAt Try.prog 119 10 10 := .mk' Try.underlying119 rfl rfl (by kernel_rfl)
instance : FieldAt Try.prog 131 0 0 := .mk' Try.underlying131 rfl rfl (by kernel_rfl)
instance : FieldAt Try.prog 131 1 1 := .mk' Try.underlying131 rfl rfl (by kernel_rfl)
instance : FieldAt Try.prog 131 2 2 := .mk' Try.underlying131 rfl rfl (by kernel_rfl)
instance : FieldAt Try.prog 132 0 0 := .mk' Try.underlying132 rfl rfl (by kernel_rfl)
instance : FieldAt Try.prog 132 1 1 := .mk' Try.underlying132 rfl rfl (by kernel_rfl)
instance : FieldAt Try.prog 132 2 2 := .mk' Try.underlying132 rfl rfl (by kernel_rfl)
instance : Places Try.prog [{ name := "x", type := 2, offset := 0, embedded := false, tag := "", pkgPath := "runtime", byteOffset := 0 }, { name := "y", type := 3, offset := 1, embedded := false, tag := "", pkgPath := "runtime", byteOffset := 8 }, { name := "signed", type := 4, offset := 2, embedded := false, tag := "", pkgPath := "runtime", byteOffset := 16 }, { name := "code", type := 6, offset := 3, embedded := false, tag := "", pkgPath := "runtime", byteOffset := 17 }] [(0, 1), (1, 1), (2, 1), (3, 1)] := ⟨by kernel_rfl⟩
instance : Places Try.prog [{ name := "msg", type := 9, offset := 0, embedded := false, tag := "", pkgPath := "runtime", byteOffset := 0 }, { name := "addr", type := 12, offset := 1, embedded := false, tag := "", pkgPath := "runtime", byteOffset := 16 }] [(0, 1), (1, 1)] := ⟨by kernel_rfl⟩
instance : Places Try.prog [{ name := "typ", type := 17, offset := 0, embedded := false, tag := "", pkgPath := "internal/runtime/maps", byteOffset := 0 }] [(0, 1)] := ⟨by kernel_rfl⟩
instance : Places Try.prog [{ name := "Kind", type := 3, offset := 0, embedded := false, tag := "", pkgPath := "", byteOffset := 0 }, { name := "Layout", type := 3, offset := 1, embedded := false, tag := "", pkgPath := "", byteOffset := 8 }, { name := "SRID", type := 3, offset := 2, embedded := false, tag := "", pkgPath := "", byteOffset := 16 }, { name := "Flat", type := 22, offset := 3, embedded := false, tag := "", pkgPath := "", byteOffset := 24 }, { name := "Ends", type := 23, offset := 4, embedded := false, tag := "", pkgPath := "", byteOffset := 48 }, { name := "Endss", type := 24, offset := 5, embedded := false, tag := "", pkgPath := "", byteOffset := 72 }, { name := "Kids", type := 25, offset := 6, embedded := false, tag := "", pkgPath := "", byteOffset := 96 }] [(0, 1), (1, 1), (2, 1), (3, 1), (4, 1), (5, 1), (6, 1)] := ⟨by kernel_rfl⟩
instance : Places Try.prog [{ name := "layout", type := 34, offset := 0, embedded := false, tag := "", pkgPath := "pub-orthodrome/pub/gogeom", byteOffset := 0 }, { name := "stride", type := 3, offset := 1, embedded := false, tag := "", pkgPath := "pub-orthodrome/pub/gogeom", byteOffset := 8 }, { name := "flatCoords", type := 22, offset := 2, embedded := false, tag := "", pkgPath := "pub-orthodrome/pub/gogeom", byteOffset := 16 }, { name := "srid", type := 3, offset := 3, embedded := false, tag := "", pkgPath := "pub-orthodrome/pub/gogeom", byteOffset := 40 }] [(0, 1), (1, 1), (2, 1), (3, 1)] := ⟨by kernel_rfl⟩
instance : Places Try.prog [{ name := "geom0", type := 77, offset := 0, embedded := true, tag := "", pkgPath := "pub-orthodrome/pub/gogeom", byteOffset := 0 }] [(0, 4)] := ⟨by kernel_rfl⟩
instance : Places Try.prog [{ name := "geom1", type := 81, offset := 0, embedded := true, tag := "", pkgPath := "pub-orthodrome/pub/gogeom", byteOffset := 0 }] [(0, 4)] := ⟨by kernel_rfl⟩
instance : Places Try.prog [{ name := "geom1", type := 81, offset := 0, embedded := true, tag := "", pkgPath := "pub-orthodrome/pub/gogeom", byteOffset := 0 }, { name := "ends", type := 23, offset := 4, embedded := false, tag := "", pkgPath := "pub-orthodrome/pub/gogeom", byteOffset := 48 }] [(0, 4), (4, 1)] := ⟨by kernel_rfl⟩
instance : Places Try.prog [{ name := "geom2", type := 86, offset := 0, embedded := true, tag := "", pkgPath := "pub-orthodrome/pub/gogeom", byteOffset := 0 }] [(0, 5)] := ⟨by kernel_rfl⟩
instance : Places Try.prog [{ name := "geom1", type := 81, offset := 0, embedded := true, tag := "", pkgPath := "pub-orthodrome/pub/gogeom", byteOffset := 0 }, { name := "endss", type := 24, offset := 4, embedded := false, tag := "", pkgPath := "pub-orthodrome/pub/gogeom", byteOffset := 48 }] [(0, 4), (4, 1)] := ⟨by kernel_rfl⟩
instance : Places Try.prog [{ name := "geom3", type := 93, offset := 0, embedded := true, tag := "", pkgPath := "pub-orthodrome/pub/gogeom", byteOffset := 0 }] [(0, 5)] := ⟨by kernel_rfl⟩
instance : Places Try.prog [{ name := "layout", type := 34, offset := 0, embedded := false, tag := "", pkgPath := "pub-orthodrome/pub/gogeom", byteOffset := 0 }, { name := "geoms", type := 96, offset := 1, embedded := false, tag := "", pkgPath := "pub-orthodrome/pub/gogeom", byteOffset := 8 }, { name := "srid", type := 3, offset := 2, embedded := false, tag := "", pkgPath := "pub-orthodrome/pub/gogeom", byteOffset := 32 }] [(0, 1), (1, 1), (2, 1)] := ⟨by kernel_rfl⟩
instance : Places Try.prog [{ name := "Got", type := 34, offset := 0, embedded := false, tag := "", pkgPath := "", byteOffset := 0 }, { name := "Want", type := 34, offset := 1, embedded := false, tag := "", pkgPath := "", byteOffset := 8 }] [(0, 1), (1, 1)] := ⟨by kernel_rfl⟩
instance : Places Try.prog [{ name := "_interface", type := 17, offset := 0, embedded := false, tag := "", pkgPath := "runtime", byteOffset := 0 }, { name := "concrete", type := 17, offset := 1, embedded := false, tag := "", pkgPath := "runtime", byteOffset := 8 }, { name := "asserted", type := 17, offset := 2, embedded := false, tag := "", pkgPath := "runtime", byteOffset := 16 }, { name := "missingMethod", type := 9, offset := 3, embedded := false, tag := "", pkgPath := "runtime", byteOffset := 24 }] [(0, 1), (1, 1), (2, 1), (3, 1)] := ⟨by kernel_rfl⟩
instance : Places Try.prog [{ name := "_", type := 108, offset := 0, embedded := false, tag := "", pkgPath := "runtime", byteOffset := 0 }] [(0, 0)] := ⟨by kernel_rfl⟩
instance : Places Try.prog [{ name := "Size_", type := 12, offset := 0, embedded := false, tag := "", pkgPath := "", byteOffset := 0 }, { name := "PtrBytes", type := 12, offset := 1, embedded := false, tag := "", pkgPath := "", byteOffset := 8 }, { name := "Hash", type := 111, offset := 2, embedded := false, tag := "", pkgPath := "", byteOffset := 16 }, { name := "TFlag", type := 112, offset := 3, embedded := false, tag := "", pkgPath := "", byteOffset := 20 }, { name := "Align_", type := 5, offset := 4, embedded := false, tag := "", pkgPath := "", byteOffset := 21 }, { name := "FieldAlign_", type := 5, offset := 5, embedded := false, tag := "", pkgPath := "", byteOffset := 22 }, { name := "Kind_", type := 113, offset := 6, embedded := false, tag := "", pkgPath := "", byteOffset := 23 }, { name := "Equal", type := 114, offset := 7, embedded := false, tag := "", pkgPath := "", byteOffset := 24 }, { name := "GCData", type := 115, offset := 8, embedded := false, tag := "", pkgPath := "", byteOffset := 32 }, { name := "Str", type := 116, offset := 9, embedded := false, tag := "", pkgPath := "", byteOffset := 40 }, { name := "PtrToThis", type := 117, offset := 10, embedded := false, tag := "", pkgPath := "", byteOffset := 44 }] [(0, 1), (1, 1), (2, 1), (3, 1), (4, 1), (5, 1), (6, 1), (7, 1), (8, 1), (9, 1), (10, 1)] := ⟨by kernel_rfl⟩
instance : Places Try.prog [{ name := "layout", type := 34, offset := 0, embedded := false, tag := "", pkgPath := "pub-orthodrome/pub/gogeom", byteOffset := 0 }, { name := "min", type := 130, offset := 1, embedded := false, tag := "", pkgPath := "pub-orthodrome/pub/gogeom", byteOffset := 8 }, { name := "max", type := 130, offset := 2, embedded := false, tag := "", pkgPath := "pub-orthodrome/pub/gogeom", byteOffset := 32 }] [(0, 1), (1, 1), (2, 1)] := ⟨by kernel_rfl⟩
instance : Enters Try.prog 3 := ⟨Try.f3, Try.func3, rfl, rfl⟩
instance : Enters Try.prog 4 := ⟨Try.f4, Try.func4, rfl, rfl⟩
instance : Enters Try.prog 5 := ⟨Try.f5, Try.func5, rfl, rfl⟩
instance : Enters Try.prog 6 := ⟨Try.f6, Try.func6, rfl, rfl⟩
instance : Enters Try.prog 7 := ⟨Try.f7, Try.func7, rfl, rfl⟩
instance : Enters Try.prog 8 := ⟨Try.f8, Try.func8, rfl, rfl⟩
instance : Enters Try.prog 9 := ⟨Try.f9, Try.func9, rfl, rfl⟩
instance : Enters Try.prog 10 := ⟨Try.f10, Try.func10, rfl, rfl⟩
instance : Enters Try.prog 11 := ⟨Try.f11, Try.func11, rfl, rfl⟩
instance : Enters Try.prog 12 := ⟨Try.f12, Try.func12, rfl, rfl⟩
instance : Enters Try.prog 13 := ⟨Try.f13, Try.func13, rfl, rfl⟩
instance : Enters Try.prog 14 := ⟨Try.f14, Try.func14, rfl, rfl⟩
instance : Enters Try.prog 15 := ⟨Try.f15, Try.func15, rfl, rfl⟩
instance : Enters Try.prog 16 := ⟨Try.f16, Try.func16, rfl, rfl⟩
instance : Enters Try.prog 17 := ⟨Try.f17, Try.func17, rfl, rfl⟩
instance : Enters Try.prog 18 := ⟨Try.f18, Try.func18, rfl, rfl⟩
instance : Enters Try.prog 19 := ⟨Try.f19, Try.func19, rfl, rfl⟩
instance : Enters Try.prog 20 := ⟨Try.f20, Try.func20, rfl, rfl⟩
instance : Enters Try.prog 21 := ⟨Try.f21, Try.func21, rfl, rfl⟩
instance : Enters Try.prog 22 := ⟨Try.f22, Try.func22, rfl, rfl⟩
instance : Enters Try.prog 23 := ⟨Try.f23, Try.func23, rfl, rfl⟩
instance : Enters Try.prog 24 := ⟨Try.f24, Try.func24, rfl, rfl⟩
instance : Enters Try.prog 25 := ⟨Try.f25, Try.func25, rfl, rfl⟩
instance : Enters Try.prog 26 := ⟨Try.f26, Try.func26, rfl, rfl⟩
instance : Enters Try.prog 27 := ⟨Try.f27, Try.func27, rfl, rfl⟩
instance : Enters Try.prog 28 := ⟨Try.f28, Try.func28, rfl, rfl⟩
instance : Enters Try.prog 29 := ⟨Try.f29, Try.func29, rfl, rfl⟩
instance : Enters Try.prog 30 := ⟨Try.f30, Try.func30, rfl, rfl⟩
instance : Enters Try.prog 31 := ⟨Try.f31, Try.func31, rfl, rfl⟩
instance : Enters Try.prog 32 := ⟨Try.f32, Try.func32, rfl, rfl⟩
instance : Enters Try.prog 33 := ⟨Try.f33, Try.func33, rfl, rfl⟩
instance : Enters Try.prog 34 := ⟨Try.f34, Try.func34, rfl, rfl⟩
instance : Enters Try.prog 35 := ⟨Try.f35, Try.func35, rfl, rfl⟩
instance : Enters Try.prog 36 := ⟨Try.f36, Try.func36, rfl, rfl⟩
instance : Enters Try.prog 37 := ⟨Try.f37, Try.func37, rfl, rfl⟩
instance : Enters Try.prog 38 := ⟨Try.f38, Try.func38, rfl, rfl⟩
instance : Enters Try.prog 39 := ⟨Try.f39, Try.func39, rfl, rfl⟩
instance : Enters Try.prog 40 := ⟨Try.f40, Try.func40, rfl, rfl⟩
instance : Enters Try.prog 41 := ⟨Try.f41, Try.func41, rfl, rfl⟩
instance : Enters Try.prog 42 := ⟨Try.f42, Try.func42, rfl, rfl⟩
instance : Enters Try.prog 43 := ⟨Try.f43, Try.func43, rfl, rfl⟩
instance : Enters Try.prog 44 := ⟨Try.f44, Try.func44, rfl, rfl⟩
instance : Enters Try.prog 68 := ⟨Try.f68, Try.func68, rfl, rfl⟩
instance : Enters Try.prog 81 := ⟨Try.f81, Try.func81, rfl, rfl⟩
instance : Enters Try.prog 87 := ⟨Try.f87, Try.func87, rfl, rfl⟩
theorem mixed : Try.prog.follows .mixedOrders = true := by kernel_rfl
end Go.Lg
