/-
  The sizes and the make of this translation's types, and which functions have a body: closed facts, written by a small program (seatty.py). No conditions.
-/
import Derived.Test.YtmilmnedgadidaaDoorProg
import Derived.Test.YtmilmnedgadidaaDoorLg3
import Derived.KernelRfl
set_option maxRecDepth 20000
namespace Go.Lg
open Go.Proofs
instance : Und Tryd.prog 0 (TypeDesc.tuple #[]) := ⟨Tryd.underlying0⟩
instance : Und Tryd.prog 1 (TypeDesc.func #[] #[] false) := ⟨Tryd.underlying1⟩
instance : Inf Tryd.prog 1 1 8 [.nilFunc] := ⟨by kernel_rfl⟩
instance : Und Tryd.prog 2 (TypeDesc.int IntKind.i64) := ⟨Tryd.underlying2⟩
instance : Inf Tryd.prog 2 1 8 [.int .i64 0] := ⟨by kernel_rfl⟩
instance : Und Tryd.prog 3 (TypeDesc.int IntKind.i64) := ⟨Tryd.underlying3⟩
instance : Inf Tryd.prog 3 1 8 [.int .i64 0] := ⟨by kernel_rfl⟩
instance : Und Tryd.prog 4 TypeDesc.bool := ⟨Tryd.underlying4⟩
instance : Inf Tryd.prog 4 1 1 [.bool false] := ⟨by kernel_rfl⟩
instance : Und Tryd.prog 5 (TypeDesc.int IntKind.u8) := ⟨Tryd.underlying5⟩
instance : Inf Tryd.prog 5 1 1 [.int .u8 0] := ⟨by kernel_rfl⟩
instance : Und Tryd.prog 6 (TypeDesc.int IntKind.u8) := ⟨Tryd.underlying6⟩
instance : Inf Tryd.prog 6 1 1 [.int .u8 0] := ⟨by kernel_rfl⟩
instance : Und Tryd.prog 7 (TypeDesc.struct #[{ name := "x", type := 2, offset := 0, embedded := false, tag := "", pkgPath := "runtime", byteOffset := 0 }, { name := "y", type := 3, offset := 1, embedded := false, tag := "", pkgPath := "runtime", byteOffset := 8 }, { name := "signed", type := 4, offset := 2, embedded := false, tag := "", pkgPath := "runtime", byteOffset := 16 }, { name := "code", type := 6, offset := 3, embedded := false, tag := "", pkgPath := "runtime", byteOffset := 17 }]) := ⟨Tryd.underlying7⟩
instance : Inf Tryd.prog 7 4 24 [.int .i64 0, .int .i64 0, .bool false, .int .u8 0] := ⟨by kernel_rfl⟩
instance : Und Tryd.prog 8 (TypeDesc.struct #[{ name := "x", type := 2, offset := 0, embedded := false, tag := "", pkgPath := "runtime", byteOffset := 0 }, { name := "y", type := 3, offset := 1, embedded := false, tag := "", pkgPath := "runtime", byteOffset := 8 }, { name := "signed", type := 4, offset := 2, embedded := false, tag := "", pkgPath := "runtime", byteOffset := 16 }, { name := "code", type := 6, offset := 3, embedded := false, tag := "", pkgPath := "runtime", byteOffset := 17 }]) := ⟨Tryd.underlying8⟩
instance : Inf Tryd.prog 8 4 24 [.int .i64 0, .int .i64 0, .bool false, .int .u8 0] := ⟨by kernel_rfl⟩
instance : Und Tryd.prog 9 TypeDesc.string := ⟨Tryd.underlying9⟩
instance : Inf Tryd.prog 9 1 16 [.string ⟨#[]⟩] := ⟨by kernel_rfl⟩
instance : Und Tryd.prog 10 TypeDesc.string := ⟨Tryd.underlying10⟩
instance : Inf Tryd.prog 10 1 16 [.string ⟨#[]⟩] := ⟨by kernel_rfl⟩
instance : Und Tryd.prog 11 TypeDesc.string := ⟨Tryd.underlying11⟩
instance : Inf Tryd.prog 11 1 16 [.string ⟨#[]⟩] := ⟨by kernel_rfl⟩
instance : Und Tryd.prog 12 (TypeDesc.int IntKind.u64) := ⟨Tryd.underlying12⟩
instance : Inf Tryd.prog 12 1 8 [.int .u64 0] := ⟨by kernel_rfl⟩
instance : Und Tryd.prog 13 (TypeDesc.struct #[{ name := "msg", type := 9, offset := 0, embedded := false, tag := "", pkgPath := "runtime", byteOffset := 0 }, { name := "addr", type := 12, offset := 1, embedded := false, tag := "", pkgPath := "runtime", byteOffset := 16 }]) := ⟨Tryd.underlying13⟩
instance : Inf Tryd.prog 13 2 24 [.string ⟨#[]⟩, .int .u64 0] := ⟨by kernel_rfl⟩
instance : Und Tryd.prog 14 (TypeDesc.struct #[{ name := "msg", type := 9, offset := 0, embedded := false, tag := "", pkgPath := "runtime", byteOffset := 0 }, { name := "addr", type := 12, offset := 1, embedded := false, tag := "", pkgPath := "runtime", byteOffset := 16 }]) := ⟨Tryd.underlying14⟩
instance : Inf Tryd.prog 14 2 24 [.string ⟨#[]⟩, .int .u64 0] := ⟨by kernel_rfl⟩
instance : Und Tryd.prog 15 (TypeDesc.pointer 117) := ⟨Tryd.underlying15⟩
instance : Inf Tryd.prog 15 1 8 [.pointer none] := ⟨by kernel_rfl⟩
instance : Und Tryd.prog 16 (TypeDesc.pointer 120) := ⟨Tryd.underlying16⟩
instance : Inf Tryd.prog 16 1 8 [.pointer none] := ⟨by kernel_rfl⟩
instance : Und Tryd.prog 17 (TypeDesc.pointer 129) := ⟨Tryd.underlying17⟩
instance : Inf Tryd.prog 17 1 8 [.pointer none] := ⟨by kernel_rfl⟩
instance : Und Tryd.prog 18 (TypeDesc.struct #[{ name := "typ", type := 17, offset := 0, embedded := false, tag := "", pkgPath := "internal/runtime/maps", byteOffset := 0 }]) := ⟨Tryd.underlying18⟩
instance : Inf Tryd.prog 18 1 8 [.pointer none] := ⟨by kernel_rfl⟩
instance : Und Tryd.prog 19 (TypeDesc.struct #[{ name := "typ", type := 17, offset := 0, embedded := false, tag := "", pkgPath := "internal/runtime/maps", byteOffset := 0 }]) := ⟨Tryd.underlying19⟩
instance : Inf Tryd.prog 19 1 8 [.pointer none] := ⟨by kernel_rfl⟩
instance : Und Tryd.prog 20 (TypeDesc.interface #[]) := ⟨Tryd.underlying20⟩
instance : Inf Tryd.prog 20 1 16 [.nilIface] := ⟨by kernel_rfl⟩
instance : Und Tryd.prog 21 (TypeDesc.int IntKind.i32) := ⟨Tryd.underlying21⟩
instance : Inf Tryd.prog 21 1 4 [.int .i32 0] := ⟨by kernel_rfl⟩
instance : Und Tryd.prog 22 (TypeDesc.slice 130) := ⟨Tryd.underlying22⟩
instance : Inf Tryd.prog 22 1 24 [.slice none 0 0] := ⟨by kernel_rfl⟩
instance : Und Tryd.prog 23 (TypeDesc.slice 3) := ⟨Tryd.underlying23⟩
instance : Inf Tryd.prog 23 1 24 [.slice none 0 0] := ⟨by kernel_rfl⟩
instance : Und Tryd.prog 24 (TypeDesc.slice 23) := ⟨Tryd.underlying24⟩
instance : Inf Tryd.prog 24 1 24 [.slice none 0 0] := ⟨by kernel_rfl⟩
instance : Und Tryd.prog 25 (TypeDesc.slice 27) := ⟨Tryd.underlying25⟩
instance : Inf Tryd.prog 25 1 24 [.slice none 0 0] := ⟨by kernel_rfl⟩
instance : Und Tryd.prog 26 (TypeDesc.struct #[{ name := "Kind", type := 3, offset := 0, embedded := false, tag := "", pkgPath := "", byteOffset := 0 }, { name := "Layout", type := 3, offset := 1, embedded := false, tag := "", pkgPath := "", byteOffset := 8 }, { name := "SRID", type := 3, offset := 2, embedded := false, tag := "", pkgPath := "", byteOffset := 16 }, { name := "Flat", type := 22, offset := 3, embedded := false, tag := "", pkgPath := "", byteOffset := 24 }, { name := "Ends", type := 23, offset := 4, embedded := false, tag := "", pkgPath := "", byteOffset := 48 }, { name := "Endss", type := 24, offset := 5, embedded := false, tag := "", pkgPath := "", byteOffset := 72 }, { name := "Kids", type := 25, offset := 6, embedded := false, tag := "", pkgPath := "", byteOffset := 96 }]) := ⟨Tryd.underlying26⟩
instance : Inf Tryd.prog 26 7 120 [.int .i64 0, .int .i64 0, .int .i64 0, .slice none 0 0, .slice none 0 0, .slice none 0 0, .slice none 0 0] := ⟨by kernel_rfl⟩
instance : Und Tryd.prog 27 (TypeDesc.struct #[{ name := "Kind", type := 3, offset := 0, embedded := false, tag := "", pkgPath := "", byteOffset := 0 }, { name := "Layout", type := 3, offset := 1, embedded := false, tag := "", pkgPath := "", byteOffset := 8 }, { name := "SRID", type := 3, offset := 2, embedded := false, tag := "", pkgPath := "", byteOffset := 16 }, { name := "Flat", type := 22, offset := 3, embedded := false, tag := "", pkgPath := "", byteOffset := 24 }, { name := "Ends", type := 23, offset := 4, embedded := false, tag := "", pkgPath := "", byteOffset := 48 }, { name := "Endss", type := 24, offset := 5, embedded := false, tag := "", pkgPath := "", byteOffset := 72 }, { name := "Kids", type := 25, offset := 6, embedded := false, tag := "", pkgPath := "", byteOffset := 96 }]) := ⟨Tryd.underlying27⟩
instance : Inf Tryd.prog 27 7 120 [.int .i64 0, .int .i64 0, .int .i64 0, .slice none 0 0, .slice none 0 0, .slice none 0 0, .slice none 0 0] := ⟨by kernel_rfl⟩
instance : Und Tryd.prog 28 (TypeDesc.func #[27] #[4] false) := ⟨Tryd.underlying28⟩
instance : Inf Tryd.prog 28 1 8 [.nilFunc] := ⟨by kernel_rfl⟩
instance : Und Tryd.prog 29 (TypeDesc.func #[25] #[4] true) := ⟨Tryd.underlying29⟩
instance : Inf Tryd.prog 29 1 8 [.nilFunc] := ⟨by kernel_rfl⟩
instance : Und Tryd.prog 30 (TypeDesc.func #[3] #[3] false) := ⟨Tryd.underlying30⟩
instance : Inf Tryd.prog 30 1 8 [.nilFunc] := ⟨by kernel_rfl⟩
instance : Und Tryd.prog 31 (TypeDesc.tuple #[4, 4]) := ⟨Tryd.underlying31⟩
instance : Und Tryd.prog 32 (TypeDesc.func #[27] #[4, 4] false) := ⟨Tryd.underlying32⟩
instance : Inf Tryd.prog 32 1 8 [.nilFunc] := ⟨by kernel_rfl⟩
instance : Und Tryd.prog 33 (TypeDesc.func #[27, 3] #[4] false) := ⟨Tryd.underlying33⟩
instance : Inf Tryd.prog 33 1 8 [.nilFunc] := ⟨by kernel_rfl⟩
instance : Und Tryd.prog 34 (TypeDesc.func #[24] #[4] false) := ⟨Tryd.underlying34⟩
instance : Inf Tryd.prog 34 1 8 [.nilFunc] := ⟨by kernel_rfl⟩
instance : Und Tryd.prog 35 (TypeDesc.interface #[("Error", 115)]) := ⟨Tryd.underlying35⟩
instance : Inf Tryd.prog 35 1 16 [.nilIface] := ⟨by kernel_rfl⟩
instance : Und Tryd.prog 36 (TypeDesc.interface #[("Error", 115)]) := ⟨Tryd.underlying36⟩
instance : Inf Tryd.prog 36 1 16 [.nilIface] := ⟨by kernel_rfl⟩
instance : Und Tryd.prog 37 (TypeDesc.func #[39] #[36] false) := ⟨Tryd.underlying37⟩
instance : Inf Tryd.prog 37 1 8 [.nilFunc] := ⟨by kernel_rfl⟩
instance : Und Tryd.prog 38 (TypeDesc.interface #[("Bounds", 131), ("Empty", 132), ("Ends", 133), ("Endss", 134), ("FlatCoords", 135), ("Layout", 109), ("SRID", 99), ("Stride", 99)]) := ⟨Tryd.underlying38⟩
instance : Inf Tryd.prog 38 1 16 [.nilIface] := ⟨by kernel_rfl⟩
instance : Und Tryd.prog 39 (TypeDesc.interface #[("Bounds", 131), ("Empty", 132), ("Ends", 133), ("Endss", 134), ("FlatCoords", 135), ("Layout", 109), ("SRID", 99), ("Stride", 99)]) := ⟨Tryd.underlying39⟩
instance : Inf Tryd.prog 39 1 16 [.nilIface] := ⟨by kernel_rfl⟩
instance : Und Tryd.prog 40 (TypeDesc.func #[27] #[39] false) := ⟨Tryd.underlying40⟩
instance : Inf Tryd.prog 40 1 8 [.nilFunc] := ⟨by kernel_rfl⟩
instance : Und Tryd.prog 41 (TypeDesc.func #[27, 3] #[3] false) := ⟨Tryd.underlying41⟩
instance : Inf Tryd.prog 41 1 8 [.nilFunc] := ⟨by kernel_rfl⟩
instance : Und Tryd.prog 42 (TypeDesc.func #[27] #[3] false) := ⟨Tryd.underlying42⟩
instance : Inf Tryd.prog 42 1 8 [.nilFunc] := ⟨by kernel_rfl⟩
instance : Und Tryd.prog 43 (TypeDesc.tuple #[3, 4]) := ⟨Tryd.underlying43⟩
instance : Und Tryd.prog 44 (TypeDesc.func #[23, 3, 3, 4] #[3, 4] false) := ⟨Tryd.underlying44⟩
instance : Inf Tryd.prog 44 1 8 [.nilFunc] := ⟨by kernel_rfl⟩
instance : Und Tryd.prog 45 (TypeDesc.pointer 51) := ⟨Tryd.underlying45⟩
instance : Inf Tryd.prog 45 1 8 [.pointer none] := ⟨by kernel_rfl⟩
instance : Und Tryd.prog 46 (TypeDesc.func #[] #[36] false) := ⟨Tryd.underlying46⟩
instance : Inf Tryd.prog 46 1 8 [.nilFunc] := ⟨by kernel_rfl⟩
instance : Und Tryd.prog 47 (TypeDesc.int IntKind.i64) := ⟨Tryd.underlying47⟩
instance : Inf Tryd.prog 47 1 8 [.int .i64 0] := ⟨by kernel_rfl⟩
instance : Und Tryd.prog 48 (TypeDesc.struct #[{ name := "layout", type := 47, offset := 0, embedded := false, tag := "", pkgPath := "pub-orthodrome/pub/gogeom", byteOffset := 0 }, { name := "stride", type := 3, offset := 1, embedded := false, tag := "", pkgPath := "pub-orthodrome/pub/gogeom", byteOffset := 8 }, { name := "flatCoords", type := 22, offset := 2, embedded := false, tag := "", pkgPath := "pub-orthodrome/pub/gogeom", byteOffset := 16 }, { name := "srid", type := 3, offset := 3, embedded := false, tag := "", pkgPath := "pub-orthodrome/pub/gogeom", byteOffset := 40 }]) := ⟨Tryd.underlying48⟩
instance : Inf Tryd.prog 48 4 48 [.int .i64 0, .int .i64 0, .slice none 0 0, .int .i64 0] := ⟨by kernel_rfl⟩
instance : Und Tryd.prog 49 (TypeDesc.struct #[{ name := "layout", type := 47, offset := 0, embedded := false, tag := "", pkgPath := "pub-orthodrome/pub/gogeom", byteOffset := 0 }, { name := "stride", type := 3, offset := 1, embedded := false, tag := "", pkgPath := "pub-orthodrome/pub/gogeom", byteOffset := 8 }, { name := "flatCoords", type := 22, offset := 2, embedded := false, tag := "", pkgPath := "pub-orthodrome/pub/gogeom", byteOffset := 16 }, { name := "srid", type := 3, offset := 3, embedded := false, tag := "", pkgPath := "pub-orthodrome/pub/gogeom", byteOffset := 40 }]) := ⟨Tryd.underlying49⟩
instance : Inf Tryd.prog 49 4 48 [.int .i64 0, .int .i64 0, .slice none 0 0, .int .i64 0] := ⟨by kernel_rfl⟩
instance : Und Tryd.prog 50 (TypeDesc.struct #[{ name := "geom0", type := 49, offset := 0, embedded := true, tag := "", pkgPath := "pub-orthodrome/pub/gogeom", byteOffset := 0 }]) := ⟨Tryd.underlying50⟩
instance : Inf Tryd.prog 50 4 48 [.int .i64 0, .int .i64 0, .slice none 0 0, .int .i64 0] := ⟨by kernel_rfl⟩
instance : Und Tryd.prog 51 (TypeDesc.struct #[{ name := "geom0", type := 49, offset := 0, embedded := true, tag := "", pkgPath := "pub-orthodrome/pub/gogeom", byteOffset := 0 }]) := ⟨Tryd.underlying51⟩
instance : Inf Tryd.prog 51 4 48 [.int .i64 0, .int .i64 0, .slice none 0 0, .int .i64 0] := ⟨by kernel_rfl⟩
instance : Und Tryd.prog 52 (TypeDesc.pointer 55) := ⟨Tryd.underlying52⟩
instance : Inf Tryd.prog 52 1 8 [.pointer none] := ⟨by kernel_rfl⟩
instance : Und Tryd.prog 53 (TypeDesc.struct #[{ name := "geom0", type := 49, offset := 0, embedded := true, tag := "", pkgPath := "pub-orthodrome/pub/gogeom", byteOffset := 0 }]) := ⟨Tryd.underlying53⟩
instance : Inf Tryd.prog 53 4 48 [.int .i64 0, .int .i64 0, .slice none 0 0, .int .i64 0] := ⟨by kernel_rfl⟩
instance : Und Tryd.prog 54 (TypeDesc.struct #[{ name := "geom1", type := 53, offset := 0, embedded := true, tag := "", pkgPath := "pub-orthodrome/pub/gogeom", byteOffset := 0 }]) := ⟨Tryd.underlying54⟩
instance : Inf Tryd.prog 54 4 48 [.int .i64 0, .int .i64 0, .slice none 0 0, .int .i64 0] := ⟨by kernel_rfl⟩
instance : Und Tryd.prog 55 (TypeDesc.struct #[{ name := "geom1", type := 53, offset := 0, embedded := true, tag := "", pkgPath := "pub-orthodrome/pub/gogeom", byteOffset := 0 }]) := ⟨Tryd.underlying55⟩
instance : Inf Tryd.prog 55 4 48 [.int .i64 0, .int .i64 0, .slice none 0 0, .int .i64 0] := ⟨by kernel_rfl⟩
instance : Und Tryd.prog 56 (TypeDesc.pointer 57) := ⟨Tryd.underlying56⟩
instance : Inf Tryd.prog 56 1 8 [.pointer none] := ⟨by kernel_rfl⟩
instance : Und Tryd.prog 57 (TypeDesc.struct #[{ name := "geom1", type := 53, offset := 0, embedded := true, tag := "", pkgPath := "pub-orthodrome/pub/gogeom", byteOffset := 0 }]) := ⟨Tryd.underlying57⟩
instance : Inf Tryd.prog 57 4 48 [.int .i64 0, .int .i64 0, .slice none 0 0, .int .i64 0] := ⟨by kernel_rfl⟩
instance : Und Tryd.prog 58 (TypeDesc.pointer 62) := ⟨Tryd.underlying58⟩
instance : Inf Tryd.prog 58 1 8 [.pointer none] := ⟨by kernel_rfl⟩
instance : Und Tryd.prog 59 (TypeDesc.struct #[{ name := "geom1", type := 53, offset := 0, embedded := true, tag := "", pkgPath := "pub-orthodrome/pub/gogeom", byteOffset := 0 }, { name := "ends", type := 23, offset := 4, embedded := false, tag := "", pkgPath := "pub-orthodrome/pub/gogeom", byteOffset := 48 }]) := ⟨Tryd.underlying59⟩
instance : Inf Tryd.prog 59 5 72 [.int .i64 0, .int .i64 0, .slice none 0 0, .int .i64 0, .slice none 0 0] := ⟨by kernel_rfl⟩
instance : Und Tryd.prog 60 (TypeDesc.struct #[{ name := "geom1", type := 53, offset := 0, embedded := true, tag := "", pkgPath := "pub-orthodrome/pub/gogeom", byteOffset := 0 }, { name := "ends", type := 23, offset := 4, embedded := false, tag := "", pkgPath := "pub-orthodrome/pub/gogeom", byteOffset := 48 }]) := ⟨Tryd.underlying60⟩
instance : Inf Tryd.prog 60 5 72 [.int .i64 0, .int .i64 0, .slice none 0 0, .int .i64 0, .slice none 0 0] := ⟨by kernel_rfl⟩
instance : Und Tryd.prog 61 (TypeDesc.struct #[{ name := "geom2", type := 60, offset := 0, embedded := true, tag := "", pkgPath := "pub-orthodrome/pub/gogeom", byteOffset := 0 }]) := ⟨Tryd.underlying61⟩
instance : Inf Tryd.prog 61 5 72 [.int .i64 0, .int .i64 0, .slice none 0 0, .int .i64 0, .slice none 0 0] := ⟨by kernel_rfl⟩
instance : Und Tryd.prog 62 (TypeDesc.struct #[{ name := "geom2", type := 60, offset := 0, embedded := true, tag := "", pkgPath := "pub-orthodrome/pub/gogeom", byteOffset := 0 }]) := ⟨Tryd.underlying62⟩
instance : Inf Tryd.prog 62 5 72 [.int .i64 0, .int .i64 0, .slice none 0 0, .int .i64 0, .slice none 0 0] := ⟨by kernel_rfl⟩
instance : Und Tryd.prog 63 (TypeDesc.pointer 64) := ⟨Tryd.underlying63⟩
instance : Inf Tryd.prog 63 1 8 [.pointer none] := ⟨by kernel_rfl⟩
instance : Und Tryd.prog 64 (TypeDesc.struct #[{ name := "geom2", type := 60, offset := 0, embedded := true, tag := "", pkgPath := "pub-orthodrome/pub/gogeom", byteOffset := 0 }]) := ⟨Tryd.underlying64⟩
instance : Inf Tryd.prog 64 5 72 [.int .i64 0, .int .i64 0, .slice none 0 0, .int .i64 0, .slice none 0 0] := ⟨by kernel_rfl⟩
instance : Und Tryd.prog 65 (TypeDesc.pointer 66) := ⟨Tryd.underlying65⟩
instance : Inf Tryd.prog 65 1 8 [.pointer none] := ⟨by kernel_rfl⟩
instance : Und Tryd.prog 66 (TypeDesc.struct #[{ name := "geom2", type := 60, offset := 0, embedded := true, tag := "", pkgPath := "pub-orthodrome/pub/gogeom", byteOffset := 0 }]) := ⟨Tryd.underlying66⟩
instance : Inf Tryd.prog 66 5 72 [.int .i64 0, .int .i64 0, .slice none 0 0, .int .i64 0, .slice none 0 0] := ⟨by kernel_rfl⟩
instance : Und Tryd.prog 67 (TypeDesc.pointer 71) := ⟨Tryd.underlying67⟩
instance : Inf Tryd.prog 67 1 8 [.pointer none] := ⟨by kernel_rfl⟩
instance : Und Tryd.prog 68 (TypeDesc.struct #[{ name := "geom1", type := 53, offset := 0, embedded := true, tag := "", pkgPath := "pub-orthodrome/pub/gogeom", byteOffset := 0 }, { name := "endss", type := 24, offset := 4, embedded := false, tag := "", pkgPath := "pub-orthodrome/pub/gogeom", byteOffset := 48 }]) := ⟨Tryd.underlying68⟩
instance : Inf Tryd.prog 68 5 72 [.int .i64 0, .int .i64 0, .slice none 0 0, .int .i64 0, .slice none 0 0] := ⟨by kernel_rfl⟩
instance : Und Tryd.prog 69 (TypeDesc.struct #[{ name := "geom1", type := 53, offset := 0, embedded := true, tag := "", pkgPath := "pub-orthodrome/pub/gogeom", byteOffset := 0 }, { name := "endss", type := 24, offset := 4, embedded := false, tag := "", pkgPath := "pub-orthodrome/pub/gogeom", byteOffset := 48 }]) := ⟨Tryd.underlying69⟩
instance : Inf Tryd.prog 69 5 72 [.int .i64 0, .int .i64 0, .slice none 0 0, .int .i64 0, .slice none 0 0] := ⟨by kernel_rfl⟩
instance : Und Tryd.prog 70 (TypeDesc.struct #[{ name := "geom3", type := 69, offset := 0, embedded := true, tag := "", pkgPath := "pub-orthodrome/pub/gogeom", byteOffset := 0 }]) := ⟨Tryd.underlying70⟩
instance : Inf Tryd.prog 70 5 72 [.int .i64 0, .int .i64 0, .slice none 0 0, .int .i64 0, .slice none 0 0] := ⟨by kernel_rfl⟩
instance : Und Tryd.prog 71 (TypeDesc.struct #[{ name := "geom3", type := 69, offset := 0, embedded := true, tag := "", pkgPath := "pub-orthodrome/pub/gogeom", byteOffset := 0 }]) := ⟨Tryd.underlying71⟩
instance : Inf Tryd.prog 71 5 72 [.int .i64 0, .int .i64 0, .slice none 0 0, .int .i64 0, .slice none 0 0] := ⟨by kernel_rfl⟩
instance : Und Tryd.prog 72 (TypeDesc.func #[22] #[22] false) := ⟨Tryd.underlying72⟩
instance : Inf Tryd.prog 72 1 8 [.nilFunc] := ⟨by kernel_rfl⟩
instance : Und Tryd.prog 73 (TypeDesc.func #[47, 22] #[45] false) := ⟨Tryd.underlying73⟩
instance : Inf Tryd.prog 73 1 8 [.nilFunc] := ⟨by kernel_rfl⟩
instance : Und Tryd.prog 74 (TypeDesc.func #[3] #[45] false) := ⟨Tryd.underlying74⟩
instance : Inf Tryd.prog 74 1 8 [.nilFunc] := ⟨by kernel_rfl⟩
instance : Und Tryd.prog 75 (TypeDesc.func #[47, 22] #[52] false) := ⟨Tryd.underlying75⟩
instance : Inf Tryd.prog 75 1 8 [.nilFunc] := ⟨by kernel_rfl⟩
instance : Und Tryd.prog 76 (TypeDesc.func #[3] #[52] false) := ⟨Tryd.underlying76⟩
instance : Inf Tryd.prog 76 1 8 [.nilFunc] := ⟨by kernel_rfl⟩
instance : Und Tryd.prog 77 (TypeDesc.func #[47, 22] #[56] false) := ⟨Tryd.underlying77⟩
instance : Inf Tryd.prog 77 1 8 [.nilFunc] := ⟨by kernel_rfl⟩
instance : Und Tryd.prog 78 (TypeDesc.func #[3] #[56] false) := ⟨Tryd.underlying78⟩
instance : Inf Tryd.prog 78 1 8 [.nilFunc] := ⟨by kernel_rfl⟩
instance : Und Tryd.prog 79 (TypeDesc.func #[47, 22, 23] #[58] false) := ⟨Tryd.underlying79⟩
instance : Inf Tryd.prog 79 1 8 [.nilFunc] := ⟨by kernel_rfl⟩
instance : Und Tryd.prog 80 (TypeDesc.func #[23] #[23] false) := ⟨Tryd.underlying80⟩
instance : Inf Tryd.prog 80 1 8 [.nilFunc] := ⟨by kernel_rfl⟩
instance : Und Tryd.prog 81 (TypeDesc.func #[3] #[58] false) := ⟨Tryd.underlying81⟩
instance : Inf Tryd.prog 81 1 8 [.nilFunc] := ⟨by kernel_rfl⟩
instance : Und Tryd.prog 82 (TypeDesc.func #[47, 22, 103] #[63] true) := ⟨Tryd.underlying82⟩
instance : Inf Tryd.prog 82 1 8 [.nilFunc] := ⟨by kernel_rfl⟩
instance : Und Tryd.prog 83 (TypeDesc.func #[63] #[] false) := ⟨Tryd.underlying83⟩
instance : Inf Tryd.prog 83 1 8 [.nilFunc] := ⟨by kernel_rfl⟩
instance : Und Tryd.prog 84 (TypeDesc.func #[63] #[] false) := ⟨Tryd.underlying84⟩
instance : Inf Tryd.prog 84 1 8 [.nilFunc] := ⟨by kernel_rfl⟩
instance : Und Tryd.prog 85 (TypeDesc.func #[23] #[84] false) := ⟨Tryd.underlying85⟩
instance : Inf Tryd.prog 85 1 8 [.nilFunc] := ⟨by kernel_rfl⟩
instance : Und Tryd.prog 86 (TypeDesc.func #[3] #[63] false) := ⟨Tryd.underlying86⟩
instance : Inf Tryd.prog 86 1 8 [.nilFunc] := ⟨by kernel_rfl⟩
instance : Und Tryd.prog 87 (TypeDesc.func #[47, 22, 23] #[65] false) := ⟨Tryd.underlying87⟩
instance : Inf Tryd.prog 87 1 8 [.nilFunc] := ⟨by kernel_rfl⟩
instance : Und Tryd.prog 88 (TypeDesc.func #[3] #[65] false) := ⟨Tryd.underlying88⟩
instance : Inf Tryd.prog 88 1 8 [.nilFunc] := ⟨by kernel_rfl⟩
instance : Und Tryd.prog 89 (TypeDesc.func #[47, 22, 24] #[67] false) := ⟨Tryd.underlying89⟩
instance : Inf Tryd.prog 89 1 8 [.nilFunc] := ⟨by kernel_rfl⟩
instance : Und Tryd.prog 90 (TypeDesc.func #[24] #[24] false) := ⟨Tryd.underlying90⟩
instance : Inf Tryd.prog 90 1 8 [.nilFunc] := ⟨by kernel_rfl⟩
instance : Und Tryd.prog 91 (TypeDesc.func #[3] #[67] false) := ⟨Tryd.underlying91⟩
instance : Inf Tryd.prog 91 1 8 [.nilFunc] := ⟨by kernel_rfl⟩
instance : Und Tryd.prog 92 (TypeDesc.pointer 106) := ⟨Tryd.underlying92⟩
instance : Inf Tryd.prog 92 1 8 [.pointer none] := ⟨by kernel_rfl⟩
instance : Und Tryd.prog 93 (TypeDesc.func #[] #[92] false) := ⟨Tryd.underlying93⟩
instance : Inf Tryd.prog 93 1 8 [.nilFunc] := ⟨by kernel_rfl⟩
instance : Und Tryd.prog 94 (TypeDesc.func #[3] #[92] false) := ⟨Tryd.underlying94⟩
instance : Inf Tryd.prog 94 1 8 [.nilFunc] := ⟨by kernel_rfl⟩
instance : Und Tryd.prog 95 (TypeDesc.func #[104] #[92] true) := ⟨Tryd.underlying95⟩
instance : Inf Tryd.prog 95 1 8 [.nilFunc] := ⟨by kernel_rfl⟩
instance : Und Tryd.prog 96 (TypeDesc.func #[47] #[92] false) := ⟨Tryd.underlying96⟩
instance : Inf Tryd.prog 96 1 8 [.nilFunc] := ⟨by kernel_rfl⟩
instance : Und Tryd.prog 97 (TypeDesc.func #[3, 3] #[3] false) := ⟨Tryd.underlying97⟩
instance : Inf Tryd.prog 97 1 8 [.nilFunc] := ⟨by kernel_rfl⟩
instance : Und Tryd.prog 98 (TypeDesc.pointer 49) := ⟨Tryd.underlying98⟩
instance : Inf Tryd.prog 98 1 8 [.pointer none] := ⟨by kernel_rfl⟩
instance : Und Tryd.prog 99 (TypeDesc.func #[] #[3] false) := ⟨Tryd.underlying99⟩
instance : Inf Tryd.prog 99 1 8 [.nilFunc] := ⟨by kernel_rfl⟩
instance : Und Tryd.prog 100 (TypeDesc.pointer 53) := ⟨Tryd.underlying100⟩
instance : Inf Tryd.prog 100 1 8 [.pointer none] := ⟨by kernel_rfl⟩
instance : Und Tryd.prog 101 (TypeDesc.pointer 60) := ⟨Tryd.underlying101⟩
instance : Inf Tryd.prog 101 1 8 [.pointer none] := ⟨by kernel_rfl⟩
instance : Und Tryd.prog 102 (TypeDesc.pointer 69) := ⟨Tryd.underlying102⟩
instance : Inf Tryd.prog 102 1 8 [.pointer none] := ⟨by kernel_rfl⟩
instance : Und Tryd.prog 103 (TypeDesc.slice 84) := ⟨Tryd.underlying103⟩
instance : Inf Tryd.prog 103 1 24 [.slice none 0 0] := ⟨by kernel_rfl⟩
instance : Und Tryd.prog 104 (TypeDesc.slice 39) := ⟨Tryd.underlying104⟩
instance : Inf Tryd.prog 104 1 24 [.slice none 0 0] := ⟨by kernel_rfl⟩
instance : Und Tryd.prog 105 (TypeDesc.struct #[{ name := "layout", type := 47, offset := 0, embedded := false, tag := "", pkgPath := "pub-orthodrome/pub/gogeom", byteOffset := 0 }, { name := "geoms", type := 104, offset := 1, embedded := false, tag := "", pkgPath := "pub-orthodrome/pub/gogeom", byteOffset := 8 }, { name := "srid", type := 3, offset := 2, embedded := false, tag := "", pkgPath := "pub-orthodrome/pub/gogeom", byteOffset := 32 }]) := ⟨Tryd.underlying105⟩
instance : Inf Tryd.prog 105 3 40 [.int .i64 0, .slice none 0 0, .int .i64 0] := ⟨by kernel_rfl⟩
instance : Und Tryd.prog 106 (TypeDesc.struct #[{ name := "layout", type := 47, offset := 0, embedded := false, tag := "", pkgPath := "pub-orthodrome/pub/gogeom", byteOffset := 0 }, { name := "geoms", type := 104, offset := 1, embedded := false, tag := "", pkgPath := "pub-orthodrome/pub/gogeom", byteOffset := 8 }, { name := "srid", type := 3, offset := 2, embedded := false, tag := "", pkgPath := "pub-orthodrome/pub/gogeom", byteOffset := 32 }]) := ⟨Tryd.underlying106⟩
instance : Inf Tryd.prog 106 3 40 [.int .i64 0, .slice none 0 0, .int .i64 0] := ⟨by kernel_rfl⟩
instance : Und Tryd.prog 107 (TypeDesc.func #[104] #[36] true) := ⟨Tryd.underlying107⟩
instance : Inf Tryd.prog 107 1 8 [.nilFunc] := ⟨by kernel_rfl⟩
instance : Und Tryd.prog 108 (TypeDesc.func #[47] #[36] false) := ⟨Tryd.underlying108⟩
instance : Inf Tryd.prog 108 1 8 [.nilFunc] := ⟨by kernel_rfl⟩
instance : Und Tryd.prog 109 (TypeDesc.func #[] #[47] false) := ⟨Tryd.underlying109⟩
instance : Inf Tryd.prog 109 1 8 [.nilFunc] := ⟨by kernel_rfl⟩
instance : Und Tryd.prog 110 (TypeDesc.struct #[{ name := "Got", type := 47, offset := 0, embedded := false, tag := "", pkgPath := "", byteOffset := 0 }, { name := "Want", type := 47, offset := 1, embedded := false, tag := "", pkgPath := "", byteOffset := 8 }]) := ⟨Tryd.underlying110⟩
instance : Inf Tryd.prog 110 2 16 [.int .i64 0, .int .i64 0] := ⟨by kernel_rfl⟩
instance : Und Tryd.prog 111 (TypeDesc.struct #[{ name := "Got", type := 47, offset := 0, embedded := false, tag := "", pkgPath := "", byteOffset := 0 }, { name := "Want", type := 47, offset := 1, embedded := false, tag := "", pkgPath := "", byteOffset := 8 }]) := ⟨Tryd.underlying111⟩
instance : Inf Tryd.prog 111 2 16 [.int .i64 0, .int .i64 0] := ⟨by kernel_rfl⟩
instance : Und Tryd.prog 112 (TypeDesc.pointer 138) := ⟨Tryd.underlying112⟩
instance : Inf Tryd.prog 112 1 8 [.pointer none] := ⟨by kernel_rfl⟩
instance : Und Tryd.prog 113 (TypeDesc.pointer 140) := ⟨Tryd.underlying113⟩
instance : Inf Tryd.prog 113 1 8 [.pointer none] := ⟨by kernel_rfl⟩
instance : Und Tryd.prog 114 (TypeDesc.pointer 143) := ⟨Tryd.underlying114⟩
instance : Inf Tryd.prog 114 1 8 [.pointer none] := ⟨by kernel_rfl⟩
instance : Und Tryd.prog 115 (TypeDesc.func #[] #[9] false) := ⟨Tryd.underlying115⟩
instance : Inf Tryd.prog 115 1 8 [.nilFunc] := ⟨by kernel_rfl⟩
instance : Und Tryd.prog 116 (TypeDesc.struct #[{ name := "_interface", type := 17, offset := 0, embedded := false, tag := "", pkgPath := "runtime", byteOffset := 0 }, { name := "concrete", type := 17, offset := 1, embedded := false, tag := "", pkgPath := "runtime", byteOffset := 8 }, { name := "asserted", type := 17, offset := 2, embedded := false, tag := "", pkgPath := "runtime", byteOffset := 16 }, { name := "missingMethod", type := 9, offset := 3, embedded := false, tag := "", pkgPath := "runtime", byteOffset := 24 }]) := ⟨Tryd.underlying116⟩
instance : Inf Tryd.prog 116 4 40 [.pointer none, .pointer none, .pointer none, .string ⟨#[]⟩] := ⟨by kernel_rfl⟩
instance : Und Tryd.prog 117 (TypeDesc.struct #[{ name := "_interface", type := 17, offset := 0, embedded := false, tag := "", pkgPath := "runtime", byteOffset := 0 }, { name := "concrete", type := 17, offset := 1, embedded := false, tag := "", pkgPath := "runtime", byteOffset := 8 }, { name := "asserted", type := 17, offset := 2, embedded := false, tag := "", pkgPath := "runtime", byteOffset := 16 }, { name := "missingMethod", type := 9, offset := 3, embedded := false, tag := "", pkgPath := "runtime", byteOffset := 24 }]) := ⟨Tryd.underlying117⟩
instance : Inf Tryd.prog 117 4 40 [.pointer none, .pointer none, .pointer none, .string ⟨#[]⟩] := ⟨by kernel_rfl⟩
instance : Und Tryd.prog 118 (TypeDesc.array 0 16) := ⟨Tryd.underlying118⟩
instance : Inf Tryd.prog 118 0 0 [] := ⟨by kernel_rfl⟩
instance : Und Tryd.prog 119 (TypeDesc.struct #[{ name := "_", type := 118, offset := 0, embedded := false, tag := "", pkgPath := "runtime", byteOffset := 0 }]) := ⟨Tryd.underlying119⟩
instance : Inf Tryd.prog 119 0 0 [] := ⟨by kernel_rfl⟩
instance : Und Tryd.prog 120 (TypeDesc.struct #[{ name := "_", type := 118, offset := 0, embedded := false, tag := "", pkgPath := "runtime", byteOffset := 0 }]) := ⟨Tryd.underlying120⟩
instance : Inf Tryd.prog 120 0 0 [] := ⟨by kernel_rfl⟩
instance : Und Tryd.prog 121 (TypeDesc.int IntKind.u32) := ⟨Tryd.underlying121⟩
instance : Inf Tryd.prog 121 1 4 [.int .u32 0] := ⟨by kernel_rfl⟩
instance : Und Tryd.prog 122 (TypeDesc.int IntKind.u8) := ⟨Tryd.underlying122⟩
instance : Inf Tryd.prog 122 1 1 [.int .u8 0] := ⟨by kernel_rfl⟩
instance : Und Tryd.prog 123 (TypeDesc.int IntKind.u8) := ⟨Tryd.underlying123⟩
instance : Inf Tryd.prog 123 1 1 [.int .u8 0] := ⟨by kernel_rfl⟩
instance : Und Tryd.prog 124 (TypeDesc.func #[144, 144] #[4] false) := ⟨Tryd.underlying124⟩
instance : Inf Tryd.prog 124 1 8 [.nilFunc] := ⟨by kernel_rfl⟩
instance : Und Tryd.prog 125 (TypeDesc.pointer 5) := ⟨Tryd.underlying125⟩
instance : Inf Tryd.prog 125 1 8 [.pointer none] := ⟨by kernel_rfl⟩
instance : Und Tryd.prog 126 (TypeDesc.int IntKind.i32) := ⟨Tryd.underlying126⟩
instance : Inf Tryd.prog 126 1 4 [.int .i32 0] := ⟨by kernel_rfl⟩
instance : Und Tryd.prog 127 (TypeDesc.int IntKind.i32) := ⟨Tryd.underlying127⟩
instance : Inf Tryd.prog 127 1 4 [.int .i32 0] := ⟨by kernel_rfl⟩
instance : Und Tryd.prog 128 (TypeDesc.struct #[{ name := "Size_", type := 12, offset := 0, embedded := false, tag := "", pkgPath := "", byteOffset := 0 }, { name := "PtrBytes", type := 12, offset := 1, embedded := false, tag := "", pkgPath := "", byteOffset := 8 }, { name := "Hash", type := 121, offset := 2, embedded := false, tag := "", pkgPath := "", byteOffset := 16 }, { name := "TFlag", type := 122, offset := 3, embedded := false, tag := "", pkgPath := "", byteOffset := 20 }, { name := "Align_", type := 5, offset := 4, embedded := false, tag := "", pkgPath := "", byteOffset := 21 }, { name := "FieldAlign_", type := 5, offset := 5, embedded := false, tag := "", pkgPath := "", byteOffset := 22 }, { name := "Kind_", type := 123, offset := 6, embedded := false, tag := "", pkgPath := "", byteOffset := 23 }, { name := "Equal", type := 124, offset := 7, embedded := false, tag := "", pkgPath := "", byteOffset := 24 }, { name := "GCData", type := 125, offset := 8, embedded := false, tag := "", pkgPath := "", byteOffset := 32 }, { name := "Str", type := 126, offset := 9, embedded := false, tag := "", pkgPath := "", byteOffset := 40 }, { name := "PtrToThis", type := 127, offset := 10, embedded := false, tag := "", pkgPath := "", byteOffset := 44 }]) := ⟨Tryd.underlying128⟩
instance : Inf Tryd.prog 128 11 48 [.int .u64 0, .int .u64 0, .int .u32 0, .int .u8 0, .int .u8 0, .int .u8 0, .int .u8 0, .nilFunc, .pointer none, .int .i32 0, .int .i32 0] := ⟨by kernel_rfl⟩
instance : Und Tryd.prog 129 (TypeDesc.struct #[{ name := "Size_", type := 12, offset := 0, embedded := false, tag := "", pkgPath := "", byteOffset := 0 }, { name := "PtrBytes", type := 12, offset := 1, embedded := false, tag := "", pkgPath := "", byteOffset := 8 }, { name := "Hash", type := 121, offset := 2, embedded := false, tag := "", pkgPath := "", byteOffset := 16 }, { name := "TFlag", type := 122, offset := 3, embedded := false, tag := "", pkgPath := "", byteOffset := 20 }, { name := "Align_", type := 5, offset := 4, embedded := false, tag := "", pkgPath := "", byteOffset := 21 }, { name := "FieldAlign_", type := 5, offset := 5, embedded := false, tag := "", pkgPath := "", byteOffset := 22 }, { name := "Kind_", type := 123, offset := 6, embedded := false, tag := "", pkgPath := "", byteOffset := 23 }, { name := "Equal", type := 124, offset := 7, embedded := false, tag := "", pkgPath := "", byteOffset := 24 }, { name := "GCData", type := 125, offset := 8, embedded := false, tag := "", pkgPath := "", byteOffset := 32 }, { name := "Str", type := 126, offset := 9, embedded := false, tag := "", pkgPath := "", byteOffset := 40 }, { name := "PtrToThis", type := 127, offset := 10, embedded := false, tag := "", pkgPath := "", byteOffset := 44 }]) := ⟨Tryd.underlying129⟩
instance : Inf Tryd.prog 129 11 48 [.int .u64 0, .int .u64 0, .int .u32 0, .int .u8 0, .int .u8 0, .int .u8 0, .int .u8 0, .nilFunc, .pointer none, .int .i32 0, .int .i32 0] := ⟨by kernel_rfl⟩
instance : Und Tryd.prog 130 (TypeDesc.float FloatKind.f64) := ⟨Tryd.underlying130⟩
instance : Inf Tryd.prog 130 1 8 [.float .f64 0] := ⟨by kernel_rfl⟩
instance : Und Tryd.prog 131 (TypeDesc.func #[] #[145] false) := ⟨Tryd.underlying131⟩
instance : Inf Tryd.prog 131 1 8 [.nilFunc] := ⟨by kernel_rfl⟩
instance : Und Tryd.prog 132 (TypeDesc.func #[] #[4] false) := ⟨Tryd.underlying132⟩
instance : Inf Tryd.prog 132 1 8 [.nilFunc] := ⟨by kernel_rfl⟩
instance : Und Tryd.prog 133 (TypeDesc.func #[] #[23] false) := ⟨Tryd.underlying133⟩
instance : Inf Tryd.prog 133 1 8 [.nilFunc] := ⟨by kernel_rfl⟩
instance : Und Tryd.prog 134 (TypeDesc.func #[] #[24] false) := ⟨Tryd.underlying134⟩
instance : Inf Tryd.prog 134 1 8 [.nilFunc] := ⟨by kernel_rfl⟩
instance : Und Tryd.prog 135 (TypeDesc.func #[] #[22] false) := ⟨Tryd.underlying135⟩
instance : Inf Tryd.prog 135 1 8 [.nilFunc] := ⟨by kernel_rfl⟩
instance : Und Tryd.prog 136 (TypeDesc.func #[] #[130] false) := ⟨Tryd.underlying136⟩
instance : Inf Tryd.prog 136 1 8 [.nilFunc] := ⟨by kernel_rfl⟩
instance : Und Tryd.prog 137 (TypeDesc.struct #[{ name := "s", type := 9, offset := 0, embedded := false, tag := "", pkgPath := "errors", byteOffset := 0 }]) := ⟨Tryd.underlying137⟩
instance : Inf Tryd.prog 137 1 16 [.string ⟨#[]⟩] := ⟨by kernel_rfl⟩
instance : Und Tryd.prog 138 (TypeDesc.struct #[{ name := "s", type := 9, offset := 0, embedded := false, tag := "", pkgPath := "errors", byteOffset := 0 }]) := ⟨Tryd.underlying138⟩
instance : Inf Tryd.prog 138 1 16 [.string ⟨#[]⟩] := ⟨by kernel_rfl⟩
instance : Und Tryd.prog 139 (TypeDesc.struct #[{ name := "msg", type := 9, offset := 0, embedded := false, tag := "", pkgPath := "fmt", byteOffset := 0 }, { name := "err", type := 36, offset := 1, embedded := false, tag := "", pkgPath := "fmt", byteOffset := 16 }]) := ⟨Tryd.underlying139⟩
instance : Inf Tryd.prog 139 2 32 [.string ⟨#[]⟩, .nilIface] := ⟨by kernel_rfl⟩
instance : Und Tryd.prog 140 (TypeDesc.struct #[{ name := "msg", type := 9, offset := 0, embedded := false, tag := "", pkgPath := "fmt", byteOffset := 0 }, { name := "err", type := 36, offset := 1, embedded := false, tag := "", pkgPath := "fmt", byteOffset := 16 }]) := ⟨Tryd.underlying140⟩
instance : Inf Tryd.prog 140 2 32 [.string ⟨#[]⟩, .nilIface] := ⟨by kernel_rfl⟩
instance : Und Tryd.prog 141 (TypeDesc.slice 36) := ⟨Tryd.underlying141⟩
instance : Inf Tryd.prog 141 1 24 [.slice none 0 0] := ⟨by kernel_rfl⟩
instance : Und Tryd.prog 142 (TypeDesc.struct #[{ name := "msg", type := 9, offset := 0, embedded := false, tag := "", pkgPath := "fmt", byteOffset := 0 }, { name := "errs", type := 141, offset := 1, embedded := false, tag := "", pkgPath := "fmt", byteOffset := 16 }]) := ⟨Tryd.underlying142⟩
instance : Inf Tryd.prog 142 2 40 [.string ⟨#[]⟩, .slice none 0 0] := ⟨by kernel_rfl⟩
instance : Und Tryd.prog 143 (TypeDesc.struct #[{ name := "msg", type := 9, offset := 0, embedded := false, tag := "", pkgPath := "fmt", byteOffset := 0 }, { name := "errs", type := 141, offset := 1, embedded := false, tag := "", pkgPath := "fmt", byteOffset := 16 }]) := ⟨Tryd.underlying143⟩
instance : Inf Tryd.prog 143 2 40 [.string ⟨#[]⟩, .slice none 0 0] := ⟨by kernel_rfl⟩
instance : Und Tryd.prog 144 TypeDesc.unsafePointer := ⟨Tryd.underlying144⟩
instance : Inf Tryd.prog 144 1 8 [.pointer none] := ⟨by kernel_rfl⟩
instance : Und Tryd.prog 145 (TypeDesc.pointer 148) := ⟨Tryd.underlying145⟩
instance : Inf Tryd.prog 145 1 8 [.pointer none] := ⟨by kernel_rfl⟩
instance : Und Tryd.prog 146 (TypeDesc.slice 130) := ⟨Tryd.underlying146⟩
instance : Inf Tryd.prog 146 1 24 [.slice none 0 0] := ⟨by kernel_rfl⟩
instance : Und Tryd.prog 147 (TypeDesc.struct #[{ name := "layout", type := 47, offset := 0, embedded := false, tag := "", pkgPath := "pub-orthodrome/pub/gogeom", byteOffset := 0 }, { name := "min", type := 146, offset := 1, embedded := false, tag := "", pkgPath := "pub-orthodrome/pub/gogeom", byteOffset := 8 }, { name := "max", type := 146, offset := 2, embedded := false, tag := "", pkgPath := "pub-orthodrome/pub/gogeom", byteOffset := 32 }]) := ⟨Tryd.underlying147⟩
instance : Inf Tryd.prog 147 3 56 [.int .i64 0, .slice none 0 0, .slice none 0 0] := ⟨by kernel_rfl⟩
instance : Und Tryd.prog 148 (TypeDesc.struct #[{ name := "layout", type := 47, offset := 0, embedded := false, tag := "", pkgPath := "pub-orthodrome/pub/gogeom", byteOffset := 0 }, { name := "min", type := 146, offset := 1, embedded := false, tag := "", pkgPath := "pub-orthodrome/pub/gogeom", byteOffset := 8 }, { name := "max", type := 146, offset := 2, embedded := false, tag := "", pkgPath := "pub-orthodrome/pub/gogeom", byteOffset := 32 }]) := ⟨Tryd.underlying148⟩
instance : Inf Tryd.prog 148 3 56 [.int .i64 0, .slice none 0 0, .slice none 0 0] := ⟨by kernel_rfl⟩
instance : Und Tryd.prog 149 (TypeDesc.func #[9] #[36] false) := ⟨Tryd.underlying149⟩
instance : Inf Tryd.prog 149 1 8 [.nilFunc] := ⟨by kernel_rfl⟩
instance : FieldAt Tryd.prog 7 0 0 := .mk' Tryd.underlying7 rfl rfl (by kernel_rfl)
instance : FieldAt Tryd.prog 7 1 1 := .mk' Tryd.underlying7 rfl rfl (by kernel_rfl)
instance : FieldAt Tryd.prog 7 2 2 := .mk' Tryd.underlying7 rfl rfl (by kernel_rfl)
instance : FieldAt Tryd.prog 7 3 3 := .mk' Tryd.underlying7 rfl rfl (by kernel_rfl)
instance : FieldAt Tryd.prog 8 0 0 := .mk' Tryd.underlying8 rfl rfl (by kernel_rfl)
instance : FieldAt Tryd.prog 8 1 1 := .mk' Tryd.underlying8 rfl rfl (by kernel_rfl)
instance : FieldAt Tryd.prog 8 2 2 := .mk' Tryd.underlying8 rfl rfl (by kernel_rfl)
instance : FieldAt Tryd.prog 8 3 3 := .mk' Tryd.underlying8 rfl rfl (by kernel_rfl)
instance : FieldAt Tryd.prog 13 0 0 := .mk' Tryd.underlying13 rfl rfl (by kernel_rfl)
instance : FieldAt Tryd.prog 13 1 1 := .mk' Tryd.underlying13 rfl rfl (by kernel_rfl)
instance : FieldAt Tryd.prog 14 0 0 := .mk' Tryd.underlying14 rfl rfl (by kernel_rfl)
instance : FieldAt Tryd.prog 14 1 1 := .mk' Tryd.underlying14 rfl rfl (by kernel_rfl)
instance : FieldAt Tryd.prog 18 0 0 := .mk' Tryd.underlying18 rfl rfl (by kernel_rfl)
instance : FieldAt Tryd.prog 19 0 0 := .mk' Tryd.underlying19 rfl rfl (by kernel_rfl)
instance : FieldAt Tryd.prog 26 0 0 := .mk' Tryd.underlying26 rfl rfl (by kernel_rfl)
instance : FieldAt Tryd.prog 26 1 1 := .mk' Tryd.underlying26 rfl rfl (by kernel_rfl)
instance : FieldAt Tryd.prog 26 2 2 := .mk' Tryd.underlying26 rfl rfl (by kernel_rfl)
instance : FieldAt Tryd.prog 26 3 3 := .mk' Tryd.underlying26 rfl rfl (by kernel_rfl)
instance : FieldAt Tryd.prog 26 4 4 := .mk' Tryd.underlying26 rfl rfl (by kernel_rfl)
instance : FieldAt Tryd.prog 26 5 5 := .mk' Tryd.underlying26 rfl rfl (by kernel_rfl)
instance : FieldAt Tryd.prog 26 6 6 := .mk' Tryd.underlying26 rfl rfl (by kernel_rfl)
instance : FieldAt Tryd.prog 27 0 0 := .mk' Tryd.underlying27 rfl rfl (by kernel_rfl)
instance : FieldAt Tryd.prog 27 1 1 := .mk' Tryd.underlying27 rfl rfl (by kernel_rfl)
instance : FieldAt Tryd.prog 27 2 2 := .mk' Tryd.underlying27 rfl rfl (by kernel_rfl)
instance : FieldAt Tryd.prog 27 3 3 := .mk' Tryd.underlying27 rfl rfl (by kernel_rfl)
instance : FieldAt Tryd.prog 27 4 4 := .mk' Tryd.underlying27 rfl rfl (by kernel_rfl)
instance : FieldAt Tryd.prog 27 5 5 := .mk' Tryd.underlying27 rfl rfl (by kernel_rfl)
instance : FieldAt Tryd.prog 27 6 6 := .mk' Tryd.underlying27 rfl rfl (by kernel_rfl)
instance : FieldAt Tryd.prog 48 0 0 := .mk' Tryd.underlying48 rfl rfl (by kernel_rfl)
instance : FieldAt Tryd.prog 48 1 1 := .mk' Tryd.underlying48 rfl rfl (by kernel_rfl)
instance : FieldAt Tryd.prog 48 2 2 := .mk' Tryd.underlying48 rfl rfl (by kernel_rfl)
instance : FieldAt Tryd.prog 48 3 3 := .mk' Tryd.underlying48 rfl rfl (by kernel_rfl)
instance : FieldAt Tryd.prog 49 0 0 := .mk' Tryd.underlying49 rfl rfl (by kernel_rfl)
instance : FieldAt Tryd.prog 49 1 1 := .mk' Tryd.underlying49 rfl rfl (by kernel_rfl)
instance : FieldAt Tryd.prog 49 2 2 := .mk' Tryd.underlying49 rfl rfl (by kernel_rfl)
instance : FieldAt Tryd.prog 49 3 3 := .mk' Tryd.underlying49 rfl rfl (by kernel_rfl)
instance : FieldAt Tryd.prog 50 0 0 := .mk' Tryd.underlying50 rfl rfl (by kernel_rfl)
instance : FieldAt Tryd.prog 51 0 0 := .mk' Tryd.underlying51 rfl rfl (by kernel_rfl)
instance : FieldAt Tryd.prog 53 0 0 := .mk' Tryd.underlying53 rfl rfl (by kernel_rfl)
instance : FieldAt Tryd.prog 54 0 0 := .mk' Tryd.underlying54 rfl rfl (by kernel_rfl)
instance : FieldAt Tryd.prog 55 0 0 := .mk' Tryd.underlying55 rfl rfl (by kernel_rfl)
instance : FieldAt Tryd.prog 57 0 0 := .mk' Tryd.underlying57 rfl rfl (by kernel_rfl)
instance : FieldAt Tryd.prog 59 0 0 := .mk' Tryd.underlying59 rfl rfl (by kernel_rfl)
instance : FieldAt Tryd.prog 59 1 4 := .mk' Tryd.underlying59 rfl rfl (by kernel_rfl)
instance : FieldAt Tryd.prog 60 0 0 := .mk' Tryd.underlying60 rfl rfl (by kernel_rfl)
instance : FieldAt Tryd.prog 60 1 4 := .mk' Tryd.underlying60 rfl rfl (by kernel_rfl)
instance : FieldAt Tryd.prog 61 0 0 := .mk' Tryd.underlying61 rfl rfl (by kernel_rfl)
instance : FieldAt Tryd.prog 62 0 0 := .mk' Tryd.underlying62 rfl rfl (by kernel_rfl)
instance : FieldAt Tryd.prog 64 0 0 := .mk' Tryd.underlying64 rfl rfl (by kernel_rfl)
instance : FieldAt Tryd.prog 66 0 0 := .mk' Tryd.underlying66 rfl rfl (by kernel_rfl)
instance : FieldAt Tryd.prog 68 0 0 := .mk' Tryd.underlying68 rfl rfl (by kernel_rfl)
instance : FieldAt Tryd.prog 68 1 4 := .mk' Tryd.underlying68 rfl rfl (by kernel_rfl)
instance : FieldAt Tryd.prog 69 0 0 := .mk' Tryd.underlying69 rfl rfl (by kernel_rfl)
instance : FieldAt Tryd.prog 69 1 4 := .mk' Tryd.underlying69 rfl rfl (by kernel_rfl)
instance : FieldAt Tryd.prog 70 0 0 := .mk' Tryd.underlying70 rfl rfl (by kernel_rfl)
instance : FieldAt Tryd.prog 71 0 0 := .mk' Tryd.underlying71 rfl rfl (by kernel_rfl)
instance : FieldAt Tryd.prog 105 0 0 := .mk' Tryd.underlying105 rfl rfl (by kernel_rfl)
instance : FieldAt Tryd.prog 105 1 1 := .mk' Tryd.underlying105 rfl rfl (by kernel_rfl)
instance : FieldAt Tryd.prog 105 2 2 := .mk' Tryd.underlying105 rfl rfl (by kernel_rfl)
instance : FieldAt Tryd.prog 106 0 0 := .mk' Tryd.underlying106 rfl rfl (by kernel_rfl)
instance : FieldAt Tryd.prog 106 1 1 := .mk' Tryd.underlying106 rfl rfl (by kernel_rfl)
instance : FieldAt Tryd.prog 106 2 2 := .mk' Tryd.underlying106 rfl rfl (by kernel_rfl)
instance : FieldAt Tryd.prog 110 0 0 := .mk' Tryd.underlying110 rfl rfl (by kernel_rfl)
instance : FieldAt Tryd.prog 110 1 1 := .mk' Tryd.underlying110 rfl rfl (by kernel_rfl)
instance : FieldAt Tryd.prog 111 0 0 := .mk' Tryd.underlying111 rfl rfl (by kernel_rfl)
instance : FieldAt Tryd.prog 111 1 1 := .mk' Tryd.underlying111 rfl rfl (by kernel_rfl)
instance : FieldAt Tryd.prog 116 0 0 := .mk' Tryd.underlying116 rfl rfl (by kernel_rfl)
instance : FieldAt Tryd.prog 116 1 1 := .mk' Tryd.underlying116 rfl rfl (by kernel_rfl)
instance : FieldAt Tryd.prog 116 2 2 := .mk' Tryd.underlying116 rfl rfl (by kernel_rfl)
instance : FieldAt Tryd.prog 116 3 3 := .mk' Tryd.underlying116 rfl rfl (by kernel_rfl)
instance : FieldAt Tryd.prog 117 0 0 := .mk' Tryd.underlying117 rfl rfl (by kernel_rfl)
instance : FieldAt Tryd.prog 117 1 1 := .mk' Tryd.underlying117 rfl rfl (by kernel_rfl)
instance : FieldAt Tryd.prog 117 2 2 := .mk' Tryd.underlying117 rfl rfl (by kernel_rfl)
instance : FieldAt Tryd.prog 117 3 3 := .mk' Tryd.underlying117 rfl rfl (by kernel_rfl)
instance : FieldAt Tryd.prog 128 0 0 := .mk' Tryd.underlying128 rfl rfl (by kernel_rfl)
instance : FieldAt Tryd.prog 128 1 1 := .mk' Tryd.underlying128 rfl rfl (by kernel_rfl)
instance : FieldAt Tryd.prog 128 2 2 := .mk' Tryd.underlying128 rfl rfl (by kernel_rfl)
instance : FieldAt Tryd.prog 128 3 3 := .mk' Tryd.underlying128 rfl rfl (by kernel_rfl)
instance : FieldAt Tryd.prog 128 4 4 := .mk' Tryd.underlying128 rfl rfl (by kernel_rfl)
instance : FieldAt Tryd.prog 128 5 5 := .mk' Tryd.underlying128 rfl rfl (by kernel_rfl)
instance : FieldAt Tryd.prog 128 6 6 := .mk' Tryd.underlying128 rfl rfl (by kernel_rfl)
instance : FieldAt Tryd.prog 128 7 7 := .mk' Tryd.underlying128 rfl rfl (by kernel_rfl)
instance : FieldAt Tryd.prog 128 8 8 := .mk' Tryd.underlying128 rfl rfl (by kernel_rfl)
instance : FieldAt Tryd.prog 128 9 9 := .mk' Tryd.underlying128 rfl rfl (by kernel_rfl)
instance : FieldAt Tryd.prog 128 10 10 := .mk' Tryd.underlying128 rfl rfl (by kernel_rfl)
instance : FieldAt Tryd.prog 129 0 0 := .mk' Tryd.underlying129 rfl rfl (by kernel_rfl)
instance : FieldAt Tryd.prog 129 1 1 := .mk' Tryd.underlying129 rfl rfl (by kernel_rfl)
instance : FieldAt Tryd.prog 129 2 2 := .mk' Tryd.underlying129 rfl rfl (by kernel_rfl)
instance : FieldAt Tryd.prog 129 3 3 := .mk' Tryd.underlying129 rfl rfl (by kernel_rfl)
instance : FieldAt Tryd.prog 129 4 4 := .mk' Tryd.underlying129 rfl rfl (by kernel_rfl)
instance : FieldAt Tryd.prog 129 5 5 := .mk' Tryd.underlying129 rfl rfl (by kernel_rfl)
instance : FieldAt Tryd.prog 129 6 6 := .mk' Tryd.underlying129 rfl rfl (by kernel_rfl)
instance : FieldAt Tryd.prog 129 7 7 := .mk' Tryd.underlying129 rfl rfl (by kernel_rfl)
instance : FieldAt Tryd.prog 129 8 8 := .mk' Tryd.underlying129 rfl rfl (by kernel_rfl)
instance : FieldAt Tryd.prog 129 9 9 := .mk' Tryd.underlying129 rfl rfl (by kernel_rfl)
instance : FieldAt Tryd.prog 129 10 10 := .mk' Tryd.underlying129 rfl rfl (by kernel_rfl)
instance : FieldAt Tryd.prog 137 0 0 := .mk' Tryd.underlying137 rfl rfl (by kernel_rfl)
instance : FieldAt Tryd.prog 138 0 0 := .mk' Tryd.underlying138 rfl rfl (by kernel_rfl)
instance : FieldAt Tryd.prog 139 0 0 := .mk' Tryd.underlying139 rfl rfl (by kernel_rfl)
instance : FieldAt Tryd.prog 139 1 1 := .mk' Tryd.underlying139 rfl rfl (by kernel_rfl)
instance : FieldAt Tryd.prog 140 0 0 := .mk' Tryd.underlying140 rfl rfl (by kernel_rfl)
instance : FieldAt Tryd.prog 140 1 1 := .mk' Tryd.underlying140 rfl rfl (by kernel_rfl)
instance : FieldAt Tryd.prog 142 0 0 := .mk' Tryd.underlying142 rfl rfl (by kernel_rfl)
instance : FieldAt Tryd.prog 142 1 1 := .mk' Tryd.underlying142 rfl rfl (by kernel_rfl)
instance : FieldAt Tryd.prog 143 0 0 := .mk' Tryd.underlying143 rfl rfl (by kernel_rfl)
instance : FieldAt Tryd.prog 143 1 1 := .mk' Tryd.underlying143 rfl rfl (by kernel_rfl)
instance : FieldAt Tryd.prog 147 0 0 := .mk' Tryd.underlying147 rfl rfl (by kernel_rfl)
instance : FieldAt Tryd.prog 147 1 1 := .mk' Tryd.underlying147 rfl rfl (by kernel_rfl)
instance : FieldAt Tryd.prog 147 2 2 := .mk' Tryd.underlying147 rfl rfl (by kernel_rfl)
instance : FieldAt Tryd.prog 148 0 0 := .mk' Tryd.underlying148 rfl rfl (by kernel_rfl)
instance : FieldAt Tryd.prog 148 1 1 := .mk' Tryd.underlying148 rfl rfl (by kernel_rfl)
instance : FieldAt Tryd.prog 148 2 2 := .mk' Tryd.underlying148 rfl rfl (by kernel_rfl)
instance : Places Tryd.prog [{ name := "x", type := 2, offset := 0, embedded := false, tag := "", pkgPath := "runtime", byteOffset := 0 }, { name := "y", type := 3, offset := 1, embedded := false, tag := "", pkgPath := "runtime", byteOffset := 8 }, { name := "signed", type := 4, offset := 2, embedded := false, tag := "", pkgPath := "runtime", byteOffset := 16 }, { name := "code", type := 6, offset := 3, embedded := false, tag := "", pkgPath := "runtime", byteOffset := 17 }] [(0, 1), (1, 1), (2, 1), (3, 1)] := ⟨by kernel_rfl⟩
instance : Places Tryd.prog [{ name := "msg", type := 9, offset := 0, embedded := false, tag := "", pkgPath := "runtime", byteOffset := 0 }, { name := "addr", type := 12, offset := 1, embedded := false, tag := "", pkgPath := "runtime", byteOffset := 16 }] [(0, 1), (1, 1)] := ⟨by kernel_rfl⟩
instance : Places Tryd.prog [{ name := "typ", type := 17, offset := 0, embedded := false, tag := "", pkgPath := "internal/runtime/maps", byteOffset := 0 }] [(0, 1)] := ⟨by kernel_rfl⟩
instance : Places Tryd.prog [{ name := "Kind", type := 3, offset := 0, embedded := false, tag := "", pkgPath := "", byteOffset := 0 }, { name := "Layout", type := 3, offset := 1, embedded := false, tag := "", pkgPath := "", byteOffset := 8 }, { name := "SRID", type := 3, offset := 2, embedded := false, tag := "", pkgPath := "", byteOffset := 16 }, { name := "Flat", type := 22, offset := 3, embedded := false, tag := "", pkgPath := "", byteOffset := 24 }, { name := "Ends", type := 23, offset := 4, embedded := false, tag := "", pkgPath := "", byteOffset := 48 }, { name := "Endss", type := 24, offset := 5, embedded := false, tag := "", pkgPath := "", byteOffset := 72 }, { name := "Kids", type := 25, offset := 6, embedded := false, tag := "", pkgPath := "", byteOffset := 96 }] [(0, 1), (1, 1), (2, 1), (3, 1), (4, 1), (5, 1), (6, 1)] := ⟨by kernel_rfl⟩
instance : Places Tryd.prog [{ name := "layout", type := 47, offset := 0, embedded := false, tag := "", pkgPath := "pub-orthodrome/pub/gogeom", byteOffset := 0 }, { name := "stride", type := 3, offset := 1, embedded := false, tag := "", pkgPath := "pub-orthodrome/pub/gogeom", byteOffset := 8 }, { name := "flatCoords", type := 22, offset := 2, embedded := false, tag := "", pkgPath := "pub-orthodrome/pub/gogeom", byteOffset := 16 }, { name := "srid", type := 3, offset := 3, embedded := false, tag := "", pkgPath := "pub-orthodrome/pub/gogeom", byteOffset := 40 }] [(0, 1), (1, 1), (2, 1), (3, 1)] := ⟨by kernel_rfl⟩
instance : Places Tryd.prog [{ name := "geom0", type := 49, offset := 0, embedded := true, tag := "", pkgPath := "pub-orthodrome/pub/gogeom", byteOffset := 0 }] [(0, 4)] := ⟨by kernel_rfl⟩
instance : Places Tryd.prog [{ name := "geom1", type := 53, offset := 0, embedded := true, tag := "", pkgPath := "pub-orthodrome/pub/gogeom", byteOffset := 0 }] [(0, 4)] := ⟨by kernel_rfl⟩
instance : Places Tryd.prog [{ name := "geom1", type := 53, offset := 0, embedded := true, tag := "", pkgPath := "pub-orthodrome/pub/gogeom", byteOffset := 0 }, { name := "ends", type := 23, offset := 4, embedded := false, tag := "", pkgPath := "pub-orthodrome/pub/gogeom", byteOffset := 48 }] [(0, 4), (4, 1)] := ⟨by kernel_rfl⟩
instance : Places Tryd.prog [{ name := "geom2", type := 60, offset := 0, embedded := true, tag := "", pkgPath := "pub-orthodrome/pub/gogeom", byteOffset := 0 }] [(0, 5)] := ⟨by kernel_rfl⟩
instance : Places Tryd.prog [{ name := "geom1", type := 53, offset := 0, embedded := true, tag := "", pkgPath := "pub-orthodrome/pub/gogeom", byteOffset := 0 }, { name := "endss", type := 24, offset := 4, embedded := false, tag := "", pkgPath := "pub-orthodrome/pub/gogeom", byteOffset := 48 }] [(0, 4), (4, 1)] := ⟨by kernel_rfl⟩
instance : Places Tryd.prog [{ name := "geom3", type := 69, offset := 0, embedded := true, tag := "", pkgPath := "pub-orthodrome/pub/gogeom", byteOffset := 0 }] [(0, 5)] := ⟨by kernel_rfl⟩
instance : Places Tryd.prog [{ name := "layout", type := 47, offset := 0, embedded := false, tag := "", pkgPath := "pub-orthodrome/pub/gogeom", byteOffset := 0 }, { name := "geoms", type := 104, offset := 1, embedded := false, tag := "", pkgPath := "pub-orthodrome/pub/gogeom", byteOffset := 8 }, { name := "srid", type := 3, offset := 2, embedded := false, tag := "", pkgPath := "pub-orthodrome/pub/gogeom", byteOffset := 32 }] [(0, 1), (1, 1), (2, 1)] := ⟨by kernel_rfl⟩
instance : Places Tryd.prog [{ name := "Got", type := 47, offset := 0, embedded := false, tag := "", pkgPath := "", byteOffset := 0 }, { name := "Want", type := 47, offset := 1, embedded := false, tag := "", pkgPath := "", byteOffset := 8 }] [(0, 1), (1, 1)] := ⟨by kernel_rfl⟩
instance : Places Tryd.prog [{ name := "_interface", type := 17, offset := 0, embedded := false, tag := "", pkgPath := "runtime", byteOffset := 0 }, { name := "concrete", type := 17, offset := 1, embedded := false, tag := "", pkgPath := "runtime", byteOffset := 8 }, { name := "asserted", type := 17, offset := 2, embedded := false, tag := "", pkgPath := "runtime", byteOffset := 16 }, { name := "missingMethod", type := 9, offset := 3, embedded := false, tag := "", pkgPath := "runtime", byteOffset := 24 }] [(0, 1), (1, 1), (2, 1), (3, 1)] := ⟨by kernel_rfl⟩
instance : Places Tryd.prog [{ name := "_", type := 118, offset := 0, embedded := false, tag := "", pkgPath := "runtime", byteOffset := 0 }] [(0, 0)] := ⟨by kernel_rfl⟩
instance : Places Tryd.prog [{ name := "Size_", type := 12, offset := 0, embedded := false, tag := "", pkgPath := "", byteOffset := 0 }, { name := "PtrBytes", type := 12, offset := 1, embedded := false, tag := "", pkgPath := "", byteOffset := 8 }, { name := "Hash", type := 121, offset := 2, embedded := false, tag := "", pkgPath := "", byteOffset := 16 }, { name := "TFlag", type := 122, offset := 3, embedded := false, tag := "", pkgPath := "", byteOffset := 20 }, { name := "Align_", type := 5, offset := 4, embedded := false, tag := "", pkgPath := "", byteOffset := 21 }, { name := "FieldAlign_", type := 5, offset := 5, embedded := false, tag := "", pkgPath := "", byteOffset := 22 }, { name := "Kind_", type := 123, offset := 6, embedded := false, tag := "", pkgPath := "", byteOffset := 23 }, { name := "Equal", type := 124, offset := 7, embedded := false, tag := "", pkgPath := "", byteOffset := 24 }, { name := "GCData", type := 125, offset := 8, embedded := false, tag := "", pkgPath := "", byteOffset := 32 }, { name := "Str", type := 126, offset := 9, embedded := false, tag := "", pkgPath := "", byteOffset := 40 }, { name := "PtrToThis", type := 127, offset := 10, embedded := false, tag := "", pkgPath := "", byteOffset := 44 }] [(0, 1), (1, 1), (2, 1), (3, 1), (4, 1), (5, 1), (6, 1), (7, 1), (8, 1), (9, 1), (10, 1)] := ⟨by kernel_rfl⟩
instance : Places Tryd.prog [{ name := "s", type := 9, offset := 0, embedded := false, tag := "", pkgPath := "errors", byteOffset := 0 }] [(0, 1)] := ⟨by kernel_rfl⟩
instance : Places Tryd.prog [{ name := "msg", type := 9, offset := 0, embedded := false, tag := "", pkgPath := "fmt", byteOffset := 0 }, { name := "err", type := 36, offset := 1, embedded := false, tag := "", pkgPath := "fmt", byteOffset := 16 }] [(0, 1), (1, 1)] := ⟨by kernel_rfl⟩
instance : Places Tryd.prog [{ name := "msg", type := 9, offset := 0, embedded := false, tag := "", pkgPath := "fmt", byteOffset := 0 }, { name := "errs", type := 141, offset := 1, embedded := false, tag := "", pkgPath := "fmt", byteOffset := 16 }] [(0, 1), (1, 1)] := ⟨by kernel_rfl⟩
instance : Places Tryd.prog [{ name := "layout", type := 47, offset := 0, embedded := false, tag := "", pkgPath := "pub-orthodrome/pub/gogeom", byteOffset := 0 }, { name := "min", type := 146, offset := 1, embedded := false, tag := "", pkgPath := "pub-orthodrome/pub/gogeom", byteOffset := 8 }, { name := "max", type := 146, offset := 2, embedded := false, tag := "", pkgPath := "pub-orthodrome/pub/gogeom", byteOffset := 32 }] [(0, 1), (1, 1), (2, 1)] := ⟨by kernel_rfl⟩
instance : Enters Tryd.prog 3 := ⟨Tryd.f3, Tryd.func3, rfl, rfl⟩
instance : Enters Tryd.prog 4 := ⟨Tryd.f4, Tryd.func4, rfl, rfl⟩
instance : Enters Tryd.prog 5 := ⟨Tryd.f5, Tryd.func5, rfl, rfl⟩
instance : Enters Tryd.prog 6 := ⟨Tryd.f6, Tryd.func6, rfl, rfl⟩
instance : Enters Tryd.prog 7 := ⟨Tryd.f7, Tryd.func7, rfl, rfl⟩
instance : Enters Tryd.prog 8 := ⟨Tryd.f8, Tryd.func8, rfl, rfl⟩
instance : Enters Tryd.prog 9 := ⟨Tryd.f9, Tryd.func9, rfl, rfl⟩
instance : Enters Tryd.prog 10 := ⟨Tryd.f10, Tryd.func10, rfl, rfl⟩
instance : Enters Tryd.prog 11 := ⟨Tryd.f11, Tryd.func11, rfl, rfl⟩
instance : Enters Tryd.prog 12 := ⟨Tryd.f12, Tryd.func12, rfl, rfl⟩
instance : Enters Tryd.prog 13 := ⟨Tryd.f13, Tryd.func13, rfl, rfl⟩
instance : Enters Tryd.prog 14 := ⟨Tryd.f14, Tryd.func14, rfl, rfl⟩
instance : Enters Tryd.prog 15 := ⟨Tryd.f15, Tryd.func15, rfl, rfl⟩
instance : Enters Tryd.prog 16 := ⟨Tryd.f16, Tryd.func16, rfl, rfl⟩
instance : Enters Tryd.prog 17 := ⟨Tryd.f17, Tryd.func17, rfl, rfl⟩
instance : Enters Tryd.prog 18 := ⟨Tryd.f18, Tryd.func18, rfl, rfl⟩
instance : Enters Tryd.prog 19 := ⟨Tryd.f19, Tryd.func19, rfl, rfl⟩
instance : Enters Tryd.prog 20 := ⟨Tryd.f20, Tryd.func20, rfl, rfl⟩
instance : Enters Tryd.prog 21 := ⟨Tryd.f21, Tryd.func21, rfl, rfl⟩
instance : Enters Tryd.prog 22 := ⟨Tryd.f22, Tryd.func22, rfl, rfl⟩
instance : Enters Tryd.prog 23 := ⟨Tryd.f23, Tryd.func23, rfl, rfl⟩
instance : Enters Tryd.prog 24 := ⟨Tryd.f24, Tryd.func24, rfl, rfl⟩
instance : Enters Tryd.prog 25 := ⟨Tryd.f25, Tryd.func25, rfl, rfl⟩
instance : Enters Tryd.prog 26 := ⟨Tryd.f26, Tryd.func26, rfl, rfl⟩
instance : Enters Tryd.prog 27 := ⟨Tryd.f27, Tryd.func27, rfl, rfl⟩
instance : Enters Tryd.prog 28 := ⟨Tryd.f28, Tryd.func28, rfl, rfl⟩
instance : Enters Tryd.prog 29 := ⟨Tryd.f29, Tryd.func29, rfl, rfl⟩
instance : Enters Tryd.prog 30 := ⟨Tryd.f30, Tryd.func30, rfl, rfl⟩
instance : Enters Tryd.prog 31 := ⟨Tryd.f31, Tryd.func31, rfl, rfl⟩
instance : Enters Tryd.prog 32 := ⟨Tryd.f32, Tryd.func32, rfl, rfl⟩
instance : Enters Tryd.prog 33 := ⟨Tryd.f33, Tryd.func33, rfl, rfl⟩
instance : Enters Tryd.prog 34 := ⟨Tryd.f34, Tryd.func34, rfl, rfl⟩
instance : Enters Tryd.prog 35 := ⟨Tryd.f35, Tryd.func35, rfl, rfl⟩
instance : Enters Tryd.prog 36 := ⟨Tryd.f36, Tryd.func36, rfl, rfl⟩
instance : Enters Tryd.prog 37 := ⟨Tryd.f37, Tryd.func37, rfl, rfl⟩
instance : Enters Tryd.prog 38 := ⟨Tryd.f38, Tryd.func38, rfl, rfl⟩
instance : Enters Tryd.prog 39 := ⟨Tryd.f39, Tryd.func39, rfl, rfl⟩
instance : Enters Tryd.prog 40 := ⟨Tryd.f40, Tryd.func40, rfl, rfl⟩
instance : Enters Tryd.prog 41 := ⟨Tryd.f41, Tryd.func41, rfl, rfl⟩
instance : Enters Tryd.prog 42 := ⟨Tryd.f42, Tryd.func42, rfl, rfl⟩
instance : Enters Tryd.prog 43 := ⟨Tryd.f43, Tryd.func43, rfl, rfl⟩
instance : Enters Tryd.prog 44 := ⟨Tryd.f44, Tryd.func44, rfl, rfl⟩
instance : Enters Tryd.prog 45 := ⟨Tryd.f45, Tryd.func45, rfl, rfl⟩
instance : Enters Tryd.prog 46 := ⟨Tryd.f46, Tryd.func46, rfl, rfl⟩
instance : Enters Tryd.prog 47 := ⟨Tryd.f47, Tryd.func47, rfl, rfl⟩
instance : Enters Tryd.prog 48 := ⟨Tryd.f48, Tryd.func48, rfl, rfl⟩
instance : Enters Tryd.prog 49 := ⟨Tryd.f49, Tryd.func49, rfl, rfl⟩
instance : Enters Tryd.prog 71 := ⟨Tryd.f71, Tryd.func71, rfl, rfl⟩
instance : Enters Tryd.prog 86 := ⟨Tryd.f86, Tryd.func86, rfl, rfl⟩
instance : Enters Tryd.prog 95 := ⟨Tryd.f95, Tryd.func95, rfl, rfl⟩
instance : Enters Tryd.prog 97 := ⟨Tryd.f97, Tryd.func97, rfl, rfl⟩
instance : Enters Tryd.prog 108 := ⟨Tryd.f108, Tryd.func108, rfl, rfl⟩
theorem mixed : Tryd.prog.follows .mixedOrders = true := by kernel_rfl
end Go.Lg
