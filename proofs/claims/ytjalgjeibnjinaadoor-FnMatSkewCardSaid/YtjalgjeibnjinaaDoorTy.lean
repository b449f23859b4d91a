/-
  The sizes and the make of this translation's types, and which functions have a body: closed facts, written by a small program (seatty.py). No conditions.
-/
import Derived.Test.YtjalgjeibnjinaaDoorProg
import Derived.Test.YtjalgjeibnjinaaDoorLg3
import Derived.KernelRfl
set_option maxRecDepth 20000
namespace Go.Lg
open Go.Proofs
instance : Und Tryd.prog 0 (TypeDesc.tuple #[]) := ⟨Tryd.underlying0⟩
instance : Und Tryd.prog 1 (TypeDesc.func #[] #[] false) := ⟨Tryd.underlying1⟩
instance : Inf Tryd.prog 1 1 8 [.nilFunc] := ⟨by kernel_rfl⟩
instance : Und Tryd.prog 2 (TypeDesc.int IntKind.i64) := ⟨Tryd.underlying2⟩
instance : Inf Tryd.prog 2 1 8 [.int .i64 0] := ⟨by kernel_rfl⟩
instance : Und Tryd.prog 3 (TypeDesc.int IntKind.i64) := ⟨Tryd.underlying3⟩
instance : Inf Tryd.prog 3 1 8 [.int .i64 0] := ⟨by kernel_rfl⟩
instance : Und Tryd.prog 4 TypeDesc.bool := ⟨Tryd.underlying4⟩
instance : Inf Tryd.prog 4 1 1 [.bool false] := ⟨by kernel_rfl⟩
instance : Und Tryd.prog 5 (TypeDesc.int IntKind.u8) := ⟨Tryd.underlying5⟩
instance : Inf Tryd.prog 5 1 1 [.int .u8 0] := ⟨by kernel_rfl⟩
instance : Und Tryd.prog 6 (TypeDesc.int IntKind.u8) := ⟨Tryd.underlying6⟩
instance : Inf Tryd.prog 6 1 1 [.int .u8 0] := ⟨by kernel_rfl⟩
instance : Und Tryd.prog 7 (TypeDesc.struct #[{ name := "x", type := 2, offset := 0, embedded := false, tag := "", pkgPath := "runtime", byteOffset := 0 }, { name := "y", type := 3, offset := 1, embedded := false, tag := "", pkgPath := "runtime", byteOffset := 8 }, { name := "signed", type := 4, offset := 2, embedded := false, tag := "", pkgPath := "runtime", byteOffset := 16 }, { name := "code", type := 6, offset := 3, embedded := false, tag := "", pkgPath := "runtime", byteOffset := 17 }]) := ⟨Tryd.underlying7⟩
instance : Inf Tryd.prog 7 4 24 [.int .i64 0, .int .i64 0, .bool false, .int .u8 0] := ⟨by kernel_rfl⟩
instance : Und Tryd.prog 8 (TypeDesc.struct #[{ name := "x", type := 2, offset := 0, embedded := false, tag := "", pkgPath := "runtime", byteOffset := 0 }, { name := "y", type := 3, offset := 1, embedded := false, tag := "", pkgPath := "runtime", byteOffset := 8 }, { name := "signed", type := 4, offset := 2, embedded := false, tag := "", pkgPath := "runtime", byteOffset := 16 }, { name := "code", type := 6, offset := 3, embedded := false, tag := "", pkgPath := "runtime", byteOffset := 17 }]) := ⟨Tryd.underlying8⟩
instance : Inf Tryd.prog 8 4 24 [.int .i64 0, .int .i64 0, .bool false, .int .u8 0] := ⟨by kernel_rfl⟩
instance : Und Tryd.prog 9 TypeDesc.string := ⟨Tryd.underlying9⟩
instance : Inf Tryd.prog 9 1 16 [.string ⟨#[]⟩] := ⟨by kernel_rfl⟩
instance : Und Tryd.prog 10 TypeDesc.string := ⟨Tryd.underlying10⟩
instance : Inf Tryd.prog 10 1 16 [.string ⟨#[]⟩] := ⟨by kernel_rfl⟩
instance : Und Tryd.prog 11 TypeDesc.string := ⟨Tryd.underlying11⟩
instance : Inf Tryd.prog 11 1 16 [.string ⟨#[]⟩] := ⟨by kernel_rfl⟩
instance : Und Tryd.prog 12 (TypeDesc.int IntKind.u64) := ⟨Tryd.underlying12⟩
instance : Inf Tryd.prog 12 1 8 [.int .u64 0] := ⟨by kernel_rfl⟩
instance : Und Tryd.prog 13 (TypeDesc.struct #[{ name := "msg", type := 9, offset := 0, embedded := false, tag := "", pkgPath := "runtime", byteOffset := 0 }, { name := "addr", type := 12, offset := 1, embedded := false, tag := "", pkgPath := "runtime", byteOffset := 16 }]) := ⟨Tryd.underlying13⟩
instance : Inf Tryd.prog 13 2 24 [.string ⟨#[]⟩, .int .u64 0] := ⟨by kernel_rfl⟩
instance : Und Tryd.prog 14 (TypeDesc.struct #[{ name := "msg", type := 9, offset := 0, embedded := false, tag := "", pkgPath := "runtime", byteOffset := 0 }, { name := "addr", type := 12, offset := 1, embedded := false, tag := "", pkgPath := "runtime", byteOffset := 16 }]) := ⟨Tryd.underlying14⟩
instance : Inf Tryd.prog 14 2 24 [.string ⟨#[]⟩, .int .u64 0] := ⟨by kernel_rfl⟩
instance : Und Tryd.prog 15 (TypeDesc.pointer 181) := ⟨Tryd.underlying15⟩
instance : Inf Tryd.prog 15 1 8 [.pointer none] := ⟨by kernel_rfl⟩
instance : Und Tryd.prog 16 (TypeDesc.pointer 184) := ⟨Tryd.underlying16⟩
instance : Inf Tryd.prog 16 1 8 [.pointer none] := ⟨by kernel_rfl⟩
instance : Und Tryd.prog 17 (TypeDesc.pointer 192) := ⟨Tryd.underlying17⟩
instance : Inf Tryd.prog 17 1 8 [.pointer none] := ⟨by kernel_rfl⟩
instance : Und Tryd.prog 18 (TypeDesc.struct #[{ name := "typ", type := 17, offset := 0, embedded := false, tag := "", pkgPath := "internal/runtime/maps", byteOffset := 0 }]) := ⟨Tryd.underlying18⟩
instance : Inf Tryd.prog 18 1 8 [.pointer none] := ⟨by kernel_rfl⟩
instance : Und Tryd.prog 19 (TypeDesc.struct #[{ name := "typ", type := 17, offset := 0, embedded := false, tag := "", pkgPath := "internal/runtime/maps", byteOffset := 0 }]) := ⟨Tryd.underlying19⟩
instance : Inf Tryd.prog 19 1 8 [.pointer none] := ⟨by kernel_rfl⟩
instance : Und Tryd.prog 20 (TypeDesc.interface #[]) := ⟨Tryd.underlying20⟩
instance : Inf Tryd.prog 20 1 16 [.nilIface] := ⟨by kernel_rfl⟩
instance : Und Tryd.prog 21 (TypeDesc.int IntKind.i32) := ⟨Tryd.underlying21⟩
instance : Inf Tryd.prog 21 1 4 [.int .i32 0] := ⟨by kernel_rfl⟩
instance : Und Tryd.prog 22 (TypeDesc.func #[3, 3] #[4] false) := ⟨Tryd.underlying22⟩
instance : Inf Tryd.prog 22 1 8 [.nilFunc] := ⟨by kernel_rfl⟩
instance : Und Tryd.prog 23 (TypeDesc.slice 3) := ⟨Tryd.underlying23⟩
instance : Inf Tryd.prog 23 1 24 [.slice none 0 0] := ⟨by kernel_rfl⟩
instance : Und Tryd.prog 24 (TypeDesc.tuple #[23, 4]) := ⟨Tryd.underlying24⟩
instance : Und Tryd.prog 25 (TypeDesc.func #[3, 3, 3] #[23, 4] false) := ⟨Tryd.underlying25⟩
instance : Inf Tryd.prog 25 1 8 [.nilFunc] := ⟨by kernel_rfl⟩
instance : Und Tryd.prog 26 (TypeDesc.func #[3, 3, 23] #[4] false) := ⟨Tryd.underlying26⟩
instance : Inf Tryd.prog 26 1 8 [.nilFunc] := ⟨by kernel_rfl⟩
instance : Und Tryd.prog 27 (TypeDesc.func #[23, 3] #[4] false) := ⟨Tryd.underlying27⟩
instance : Inf Tryd.prog 27 1 8 [.nilFunc] := ⟨by kernel_rfl⟩
instance : Und Tryd.prog 28 (TypeDesc.tuple #[3, 4]) := ⟨Tryd.underlying28⟩
instance : Und Tryd.prog 29 (TypeDesc.func #[3, 3, 23] #[3, 4] false) := ⟨Tryd.underlying29⟩
instance : Inf Tryd.prog 29 1 8 [.nilFunc] := ⟨by kernel_rfl⟩
instance : Und Tryd.prog 30 (TypeDesc.func #[23, 23] #[4] false) := ⟨Tryd.underlying30⟩
instance : Inf Tryd.prog 30 1 8 [.nilFunc] := ⟨by kernel_rfl⟩
instance : Und Tryd.prog 31 (TypeDesc.slice 5) := ⟨Tryd.underlying31⟩
instance : Inf Tryd.prog 31 1 24 [.slice none 0 0] := ⟨by kernel_rfl⟩
instance : Und Tryd.prog 32 (TypeDesc.func #[3] #[4] false) := ⟨Tryd.underlying32⟩
instance : Inf Tryd.prog 32 1 8 [.nilFunc] := ⟨by kernel_rfl⟩
instance : Und Tryd.prog 33 (TypeDesc.slice 51) := ⟨Tryd.underlying33⟩
instance : Inf Tryd.prog 33 1 24 [.slice none 0 0] := ⟨by kernel_rfl⟩
instance : Und Tryd.prog 34 (TypeDesc.tuple #[33, 3, 4]) := ⟨Tryd.underlying34⟩
instance : Und Tryd.prog 35 (TypeDesc.func #[31, 4, 3] #[33, 3, 4] false) := ⟨Tryd.underlying35⟩
instance : Inf Tryd.prog 35 1 8 [.nilFunc] := ⟨by kernel_rfl⟩
instance : Und Tryd.prog 36 (TypeDesc.func #[33, 33] #[4] false) := ⟨Tryd.underlying36⟩
instance : Inf Tryd.prog 36 1 8 [.nilFunc] := ⟨by kernel_rfl⟩
instance : Und Tryd.prog 37 (TypeDesc.func #[31, 4, 3] #[4] false) := ⟨Tryd.underlying37⟩
instance : Inf Tryd.prog 37 1 8 [.nilFunc] := ⟨by kernel_rfl⟩
instance : Und Tryd.prog 38 (TypeDesc.slice 23) := ⟨Tryd.underlying38⟩
instance : Inf Tryd.prog 38 1 24 [.slice none 0 0] := ⟨by kernel_rfl⟩
instance : Und Tryd.prog 39 (TypeDesc.slice 41) := ⟨Tryd.underlying39⟩
instance : Inf Tryd.prog 39 1 24 [.slice none 0 0] := ⟨by kernel_rfl⟩
instance : Und Tryd.prog 40 (TypeDesc.struct #[{ name := "Kind", type := 3, offset := 0, embedded := false, tag := "", pkgPath := "", byteOffset := 0 }, { name := "Layout", type := 3, offset := 1, embedded := false, tag := "", pkgPath := "", byteOffset := 8 }, { name := "SRID", type := 3, offset := 2, embedded := false, tag := "", pkgPath := "", byteOffset := 16 }, { name := "Flat", type := 33, offset := 3, embedded := false, tag := "", pkgPath := "", byteOffset := 24 }, { name := "Ends", type := 23, offset := 4, embedded := false, tag := "", pkgPath := "", byteOffset := 48 }, { name := "Endss", type := 38, offset := 5, embedded := false, tag := "", pkgPath := "", byteOffset := 72 }, { name := "Kids", type := 39, offset := 6, embedded := false, tag := "", pkgPath := "", byteOffset := 96 }]) := ⟨Tryd.underlying40⟩
instance : Inf Tryd.prog 40 7 120 [.int .i64 0, .int .i64 0, .int .i64 0, .slice none 0 0, .slice none 0 0, .slice none 0 0, .slice none 0 0] := ⟨by kernel_rfl⟩
instance : Und Tryd.prog 41 (TypeDesc.struct #[{ name := "Kind", type := 3, offset := 0, embedded := false, tag := "", pkgPath := "", byteOffset := 0 }, { name := "Layout", type := 3, offset := 1, embedded := false, tag := "", pkgPath := "", byteOffset := 8 }, { name := "SRID", type := 3, offset := 2, embedded := false, tag := "", pkgPath := "", byteOffset := 16 }, { name := "Flat", type := 33, offset := 3, embedded := false, tag := "", pkgPath := "", byteOffset := 24 }, { name := "Ends", type := 23, offset := 4, embedded := false, tag := "", pkgPath := "", byteOffset := 48 }, { name := "Endss", type := 38, offset := 5, embedded := false, tag := "", pkgPath := "", byteOffset := 72 }, { name := "Kids", type := 39, offset := 6, embedded := false, tag := "", pkgPath := "", byteOffset := 96 }]) := ⟨Tryd.underlying41⟩
instance : Inf Tryd.prog 41 7 120 [.int .i64 0, .int .i64 0, .int .i64 0, .slice none 0 0, .slice none 0 0, .slice none 0 0, .slice none 0 0] := ⟨by kernel_rfl⟩
instance : Und Tryd.prog 42 (TypeDesc.tuple #[41, 4]) := ⟨Tryd.underlying42⟩
instance : Und Tryd.prog 43 (TypeDesc.func #[33, 3] #[41, 4] false) := ⟨Tryd.underlying43⟩
instance : Inf Tryd.prog 43 1 8 [.nilFunc] := ⟨by kernel_rfl⟩
instance : Und Tryd.prog 44 (TypeDesc.tuple #[31, 4]) := ⟨Tryd.underlying44⟩
instance : Und Tryd.prog 45 (TypeDesc.func #[33, 3, 4] #[31, 4] false) := ⟨Tryd.underlying45⟩
instance : Inf Tryd.prog 45 1 8 [.nilFunc] := ⟨by kernel_rfl⟩
instance : Und Tryd.prog 46 (TypeDesc.func #[47, 4] #[31] false) := ⟨Tryd.underlying46⟩
instance : Inf Tryd.prog 46 1 8 [.nilFunc] := ⟨by kernel_rfl⟩
instance : Und Tryd.prog 47 (TypeDesc.int IntKind.u32) := ⟨Tryd.underlying47⟩
instance : Inf Tryd.prog 47 1 4 [.int .u32 0] := ⟨by kernel_rfl⟩
instance : Und Tryd.prog 48 (TypeDesc.func #[33, 4] #[31] false) := ⟨Tryd.underlying48⟩
instance : Inf Tryd.prog 48 1 8 [.nilFunc] := ⟨by kernel_rfl⟩
instance : Und Tryd.prog 49 (TypeDesc.func #[31, 31] #[4] false) := ⟨Tryd.underlying49⟩
instance : Inf Tryd.prog 49 1 8 [.nilFunc] := ⟨by kernel_rfl⟩
instance : Und Tryd.prog 50 (TypeDesc.func #[33, 3, 4] #[4] false) := ⟨Tryd.underlying50⟩
instance : Inf Tryd.prog 50 1 8 [.nilFunc] := ⟨by kernel_rfl⟩
instance : Und Tryd.prog 51 (TypeDesc.float FloatKind.f64) := ⟨Tryd.underlying51⟩
instance : Inf Tryd.prog 51 1 8 [.float .f64 0] := ⟨by kernel_rfl⟩
instance : Und Tryd.prog 52 (TypeDesc.array 9 51) := ⟨Tryd.underlying52⟩
instance : Inf Tryd.prog 52 9 72 [.float .f64 0, .float .f64 0, .float .f64 0, .float .f64 0, .float .f64 0, .float .f64 0, .float .f64 0, .float .f64 0, .float .f64 0] := ⟨by kernel_rfl⟩
instance : Und Tryd.prog 53 (TypeDesc.array 9 51) := ⟨Tryd.underlying53⟩
instance : Inf Tryd.prog 53 9 72 [.float .f64 0, .float .f64 0, .float .f64 0, .float .f64 0, .float .f64 0, .float .f64 0, .float .f64 0, .float .f64 0, .float .f64 0] := ⟨by kernel_rfl⟩
instance : Und Tryd.prog 54 (TypeDesc.struct #[{ name := "X", type := 51, offset := 0, embedded := false, tag := "", pkgPath := "", byteOffset := 0 }, { name := "Y", type := 51, offset := 1, embedded := false, tag := "", pkgPath := "", byteOffset := 8 }, { name := "Z", type := 51, offset := 2, embedded := false, tag := "", pkgPath := "", byteOffset := 16 }]) := ⟨Tryd.underlying54⟩
instance : Inf Tryd.prog 54 3 24 [.float .f64 0, .float .f64 0, .float .f64 0] := ⟨by kernel_rfl⟩
instance : Und Tryd.prog 55 (TypeDesc.struct #[{ name := "X", type := 51, offset := 0, embedded := false, tag := "", pkgPath := "", byteOffset := 0 }, { name := "Y", type := 51, offset := 1, embedded := false, tag := "", pkgPath := "", byteOffset := 8 }, { name := "Z", type := 51, offset := 2, embedded := false, tag := "", pkgPath := "", byteOffset := 16 }]) := ⟨Tryd.underlying55⟩
instance : Inf Tryd.prog 55 3 24 [.float .f64 0, .float .f64 0, .float .f64 0] := ⟨by kernel_rfl⟩
instance : Und Tryd.prog 56 (TypeDesc.func #[106] #[4] true) := ⟨Tryd.underlying56⟩
instance : Inf Tryd.prog 56 1 8 [.nilFunc] := ⟨by kernel_rfl⟩
instance : Und Tryd.prog 57 (TypeDesc.func #[109] #[4] true) := ⟨Tryd.underlying57⟩
instance : Inf Tryd.prog 57 1 8 [.nilFunc] := ⟨by kernel_rfl⟩
instance : Und Tryd.prog 58 (TypeDesc.func #[3, 3] #[51] false) := ⟨Tryd.underlying58⟩
instance : Inf Tryd.prog 58 1 8 [.nilFunc] := ⟨by kernel_rfl⟩
instance : Und Tryd.prog 59 (TypeDesc.func #[53, 55] #[55] false) := ⟨Tryd.underlying59⟩
instance : Inf Tryd.prog 59 1 8 [.nilFunc] := ⟨by kernel_rfl⟩
instance : Und Tryd.prog 60 (TypeDesc.func #[53, 55] #[4] false) := ⟨Tryd.underlying60⟩
instance : Inf Tryd.prog 60 1 8 [.nilFunc] := ⟨by kernel_rfl⟩
instance : Und Tryd.prog 61 (TypeDesc.func #[55] #[53] false) := ⟨Tryd.underlying61⟩
instance : Inf Tryd.prog 61 1 8 [.nilFunc] := ⟨by kernel_rfl⟩
instance : Und Tryd.prog 62 (TypeDesc.func #[55, 55] #[55] false) := ⟨Tryd.underlying62⟩
instance : Inf Tryd.prog 62 1 8 [.nilFunc] := ⟨by kernel_rfl⟩
instance : Und Tryd.prog 63 (TypeDesc.func #[55, 55] #[4] false) := ⟨Tryd.underlying63⟩
instance : Inf Tryd.prog 63 1 8 [.nilFunc] := ⟨by kernel_rfl⟩
instance : Und Tryd.prog 64 (TypeDesc.func #[3] #[3] false) := ⟨Tryd.underlying64⟩
instance : Inf Tryd.prog 64 1 8 [.nilFunc] := ⟨by kernel_rfl⟩
instance : Und Tryd.prog 65 (TypeDesc.struct #[{ name := "order", type := 3, offset := 0, embedded := false, tag := "", pkgPath := "pub-orthodrome/pub/gonum/spatial/curve", byteOffset := 0 }]) := ⟨Tryd.underlying65⟩
instance : Inf Tryd.prog 65 1 8 [.int .i64 0] := ⟨by kernel_rfl⟩
instance : Und Tryd.prog 66 (TypeDesc.struct #[{ name := "order", type := 3, offset := 0, embedded := false, tag := "", pkgPath := "pub-orthodrome/pub/gonum/spatial/curve", byteOffset := 0 }]) := ⟨Tryd.underlying66⟩
instance : Inf Tryd.prog 66 1 8 [.int .i64 0] := ⟨by kernel_rfl⟩
instance : Und Tryd.prog 67 (TypeDesc.interface #[("Error", 179)]) := ⟨Tryd.underlying67⟩
instance : Inf Tryd.prog 67 1 16 [.nilIface] := ⟨by kernel_rfl⟩
instance : Und Tryd.prog 68 (TypeDesc.interface #[("Error", 179)]) := ⟨Tryd.underlying68⟩
instance : Inf Tryd.prog 68 1 16 [.nilIface] := ⟨by kernel_rfl⟩
instance : Und Tryd.prog 69 (TypeDesc.tuple #[66, 68]) := ⟨Tryd.underlying69⟩
instance : Und Tryd.prog 70 (TypeDesc.func #[3] #[66, 68] false) := ⟨Tryd.underlying70⟩
instance : Inf Tryd.prog 70 1 8 [.nilFunc] := ⟨by kernel_rfl⟩
instance : Und Tryd.prog 71 (TypeDesc.func #[23, 3] #[23] false) := ⟨Tryd.underlying71⟩
instance : Inf Tryd.prog 71 1 8 [.nilFunc] := ⟨by kernel_rfl⟩
instance : Und Tryd.prog 72 (TypeDesc.struct #[{ name := "order", type := 3, offset := 0, embedded := false, tag := "", pkgPath := "pub-orthodrome/pub/gonum/spatial/curve", byteOffset := 0 }]) := ⟨Tryd.underlying72⟩
instance : Inf Tryd.prog 72 1 8 [.int .i64 0] := ⟨by kernel_rfl⟩
instance : Und Tryd.prog 73 (TypeDesc.tuple #[72, 68]) := ⟨Tryd.underlying73⟩
instance : Und Tryd.prog 74 (TypeDesc.func #[3] #[72, 68] false) := ⟨Tryd.underlying74⟩
instance : Inf Tryd.prog 74 1 8 [.nilFunc] := ⟨by kernel_rfl⟩
instance : Und Tryd.prog 75 (TypeDesc.struct #[{ name := "order", type := 3, offset := 0, embedded := false, tag := "", pkgPath := "pub-orthodrome/pub/gonum/spatial/curve", byteOffset := 0 }]) := ⟨Tryd.underlying75⟩
instance : Inf Tryd.prog 75 1 8 [.int .i64 0] := ⟨by kernel_rfl⟩
instance : Und Tryd.prog 76 (TypeDesc.tuple #[75, 68]) := ⟨Tryd.underlying76⟩
instance : Und Tryd.prog 77 (TypeDesc.func #[3] #[75, 68] false) := ⟨Tryd.underlying77⟩
instance : Inf Tryd.prog 77 1 8 [.nilFunc] := ⟨by kernel_rfl⟩
instance : Und Tryd.prog 78 (TypeDesc.func #[23] #[3] false) := ⟨Tryd.underlying78⟩
instance : Inf Tryd.prog 78 1 8 [.nilFunc] := ⟨by kernel_rfl⟩
instance : Und Tryd.prog 79 (TypeDesc.func #[23] #[23] false) := ⟨Tryd.underlying79⟩
instance : Inf Tryd.prog 79 1 8 [.nilFunc] := ⟨by kernel_rfl⟩
instance : Und Tryd.prog 80 (TypeDesc.pointer 82) := ⟨Tryd.underlying80⟩
instance : Inf Tryd.prog 80 1 8 [.pointer none] := ⟨by kernel_rfl⟩
instance : Und Tryd.prog 81 (TypeDesc.struct #[{ name := "b", type := 31, offset := 0, embedded := false, tag := "", pkgPath := "pub-orthodrome/spec", byteOffset := 0 }, { name := "extended", type := 4, offset := 1, embedded := false, tag := "", pkgPath := "pub-orthodrome/spec", byteOffset := 24 }, { name := "nan", type := 4, offset := 2, embedded := false, tag := "", pkgPath := "pub-orthodrome/spec", byteOffset := 25 }, { name := "big", type := 4, offset := 3, embedded := false, tag := "", pkgPath := "pub-orthodrome/spec", byteOffset := 26 }, { name := "bad", type := 4, offset := 4, embedded := false, tag := "", pkgPath := "pub-orthodrome/spec", byteOffset := 27 }, { name := "great", type := 4, offset := 5, embedded := false, tag := "", pkgPath := "pub-orthodrome/spec", byteOffset := 28 }]) := ⟨Tryd.underlying81⟩
instance : Inf Tryd.prog 81 6 32 [.slice none 0 0, .bool false, .bool false, .bool false, .bool false, .bool false] := ⟨by kernel_rfl⟩
instance : Und Tryd.prog 82 (TypeDesc.struct #[{ name := "b", type := 31, offset := 0, embedded := false, tag := "", pkgPath := "pub-orthodrome/spec", byteOffset := 0 }, { name := "extended", type := 4, offset := 1, embedded := false, tag := "", pkgPath := "pub-orthodrome/spec", byteOffset := 24 }, { name := "nan", type := 4, offset := 2, embedded := false, tag := "", pkgPath := "pub-orthodrome/spec", byteOffset := 25 }, { name := "big", type := 4, offset := 3, embedded := false, tag := "", pkgPath := "pub-orthodrome/spec", byteOffset := 26 }, { name := "bad", type := 4, offset := 4, embedded := false, tag := "", pkgPath := "pub-orthodrome/spec", byteOffset := 27 }, { name := "great", type := 4, offset := 5, embedded := false, tag := "", pkgPath := "pub-orthodrome/spec", byteOffset := 28 }]) := ⟨Tryd.underlying82⟩
instance : Inf Tryd.prog 82 6 32 [.slice none 0 0, .bool false, .bool false, .bool false, .bool false, .bool false] := ⟨by kernel_rfl⟩
instance : Und Tryd.prog 83 (TypeDesc.func #[3] #[33] false) := ⟨Tryd.underlying83⟩
instance : Inf Tryd.prog 83 1 8 [.nilFunc] := ⟨by kernel_rfl⟩
instance : Und Tryd.prog 84 (TypeDesc.pointer 98) := ⟨Tryd.underlying84⟩
instance : Inf Tryd.prog 84 1 8 [.pointer none] := ⟨by kernel_rfl⟩
instance : Und Tryd.prog 85 (TypeDesc.func #[31] #[84] false) := ⟨Tryd.underlying85⟩
instance : Inf Tryd.prog 85 1 8 [.nilFunc] := ⟨by kernel_rfl⟩
instance : Und Tryd.prog 86 (TypeDesc.tuple #[33, 68]) := ⟨Tryd.underlying86⟩
instance : Und Tryd.prog 87 (TypeDesc.func #[126, 89, 3] #[33, 68] false) := ⟨Tryd.underlying87⟩
instance : Inf Tryd.prog 87 1 8 [.nilFunc] := ⟨by kernel_rfl⟩
instance : Und Tryd.prog 88 (TypeDesc.interface #[("PutUint16", 196), ("PutUint32", 164), ("PutUint64", 174), ("String", 179), ("Uint16", 197), ("Uint32", 167), ("Uint64", 172)]) := ⟨Tryd.underlying88⟩
instance : Inf Tryd.prog 88 1 16 [.nilIface] := ⟨by kernel_rfl⟩
instance : Und Tryd.prog 89 (TypeDesc.interface #[("PutUint16", 196), ("PutUint32", 164), ("PutUint64", 174), ("String", 179), ("Uint16", 197), ("Uint32", 167), ("Uint64", 172)]) := ⟨Tryd.underlying89⟩
instance : Inf Tryd.prog 89 1 16 [.nilIface] := ⟨by kernel_rfl⟩
instance : Und Tryd.prog 90 (TypeDesc.func #[4] #[89] false) := ⟨Tryd.underlying90⟩
instance : Inf Tryd.prog 90 1 8 [.nilFunc] := ⟨by kernel_rfl⟩
instance : Und Tryd.prog 91 (TypeDesc.func #[] #[3] false) := ⟨Tryd.underlying91⟩
instance : Inf Tryd.prog 91 1 8 [.nilFunc] := ⟨by kernel_rfl⟩
instance : Und Tryd.prog 92 (TypeDesc.int IntKind.u64) := ⟨Tryd.underlying92⟩
instance : Inf Tryd.prog 92 1 8 [.int .u64 0] := ⟨by kernel_rfl⟩
instance : Und Tryd.prog 93 (TypeDesc.func #[51] #[92] false) := ⟨Tryd.underlying93⟩
instance : Inf Tryd.prog 93 1 8 [.nilFunc] := ⟨by kernel_rfl⟩
instance : Und Tryd.prog 94 (TypeDesc.func #[39] #[4] true) := ⟨Tryd.underlying94⟩
instance : Inf Tryd.prog 94 1 8 [.nilFunc] := ⟨by kernel_rfl⟩
instance : Und Tryd.prog 95 (TypeDesc.int IntKind.i8) := ⟨Tryd.underlying95⟩
instance : Inf Tryd.prog 95 1 1 [.int .i8 0] := ⟨by kernel_rfl⟩
instance : Und Tryd.prog 96 (TypeDesc.int IntKind.i8) := ⟨Tryd.underlying96⟩
instance : Inf Tryd.prog 96 1 1 [.int .i8 0] := ⟨by kernel_rfl⟩
instance : Und Tryd.prog 97 (TypeDesc.struct #[{ name := "buf", type := 31, offset := 0, embedded := false, tag := "", pkgPath := "bytes", byteOffset := 0 }, { name := "off", type := 3, offset := 1, embedded := false, tag := "", pkgPath := "bytes", byteOffset := 24 }, { name := "lastRead", type := 96, offset := 2, embedded := false, tag := "", pkgPath := "bytes", byteOffset := 32 }]) := ⟨Tryd.underlying97⟩
instance : Inf Tryd.prog 97 3 40 [.slice none 0 0, .int .i64 0, .int .i8 0] := ⟨by kernel_rfl⟩
instance : Und Tryd.prog 98 (TypeDesc.struct #[{ name := "buf", type := 31, offset := 0, embedded := false, tag := "", pkgPath := "bytes", byteOffset := 0 }, { name := "off", type := 3, offset := 1, embedded := false, tag := "", pkgPath := "bytes", byteOffset := 24 }, { name := "lastRead", type := 96, offset := 2, embedded := false, tag := "", pkgPath := "bytes", byteOffset := 32 }]) := ⟨Tryd.underlying98⟩
instance : Inf Tryd.prog 98 3 40 [.slice none 0 0, .int .i64 0, .int .i8 0] := ⟨by kernel_rfl⟩
instance : Und Tryd.prog 99 (TypeDesc.func #[133, 89, 33, 3] #[68] false) := ⟨Tryd.underlying99⟩
instance : Inf Tryd.prog 99 1 8 [.nilFunc] := ⟨by kernel_rfl⟩
instance : Und Tryd.prog 100 (TypeDesc.func #[] #[31] false) := ⟨Tryd.underlying100⟩
instance : Inf Tryd.prog 100 1 8 [.nilFunc] := ⟨by kernel_rfl⟩
instance : Und Tryd.prog 101 (TypeDesc.pointer 103) := ⟨Tryd.underlying101⟩
instance : Inf Tryd.prog 101 1 8 [.pointer none] := ⟨by kernel_rfl⟩
instance : Und Tryd.prog 102 (TypeDesc.struct #[{ name := "b", type := 31, offset := 0, embedded := false, tag := "", pkgPath := "pub-orthodrome/spec", byteOffset := 0 }, { name := "big", type := 4, offset := 1, embedded := false, tag := "", pkgPath := "pub-orthodrome/spec", byteOffset := 24 }, { name := "extended", type := 4, offset := 2, embedded := false, tag := "", pkgPath := "pub-orthodrome/spec", byteOffset := 25 }, { name := "nan", type := 4, offset := 3, embedded := false, tag := "", pkgPath := "pub-orthodrome/spec", byteOffset := 26 }, { name := "bad", type := 4, offset := 4, embedded := false, tag := "", pkgPath := "pub-orthodrome/spec", byteOffset := 27 }]) := ⟨Tryd.underlying102⟩
instance : Inf Tryd.prog 102 5 32 [.slice none 0 0, .bool false, .bool false, .bool false, .bool false] := ⟨by kernel_rfl⟩
instance : Und Tryd.prog 103 (TypeDesc.struct #[{ name := "b", type := 31, offset := 0, embedded := false, tag := "", pkgPath := "pub-orthodrome/spec", byteOffset := 0 }, { name := "big", type := 4, offset := 1, embedded := false, tag := "", pkgPath := "pub-orthodrome/spec", byteOffset := 24 }, { name := "extended", type := 4, offset := 2, embedded := false, tag := "", pkgPath := "pub-orthodrome/spec", byteOffset := 25 }, { name := "nan", type := 4, offset := 3, embedded := false, tag := "", pkgPath := "pub-orthodrome/spec", byteOffset := 26 }, { name := "bad", type := 4, offset := 4, embedded := false, tag := "", pkgPath := "pub-orthodrome/spec", byteOffset := 27 }]) := ⟨Tryd.underlying103⟩
instance : Inf Tryd.prog 103 5 32 [.slice none 0 0, .bool false, .bool false, .bool false, .bool false] := ⟨by kernel_rfl⟩
instance : Und Tryd.prog 104 (TypeDesc.func #[92, 3] #[] false) := ⟨Tryd.underlying104⟩
instance : Inf Tryd.prog 104 1 8 [.nilFunc] := ⟨by kernel_rfl⟩
instance : Und Tryd.prog 105 (TypeDesc.func #[33] #[] false) := ⟨Tryd.underlying105⟩
instance : Inf Tryd.prog 105 1 8 [.nilFunc] := ⟨by kernel_rfl⟩
instance : Und Tryd.prog 106 (TypeDesc.slice 53) := ⟨Tryd.underlying106⟩
instance : Inf Tryd.prog 106 1 24 [.slice none 0 0] := ⟨by kernel_rfl⟩
instance : Und Tryd.prog 107 (TypeDesc.func #[108, 3, 51] #[4] false) := ⟨Tryd.underlying107⟩
instance : Inf Tryd.prog 107 1 8 [.nilFunc] := ⟨by kernel_rfl⟩
instance : Und Tryd.prog 108 (TypeDesc.slice 33) := ⟨Tryd.underlying108⟩
instance : Inf Tryd.prog 108 1 24 [.slice none 0 0] := ⟨by kernel_rfl⟩
instance : Und Tryd.prog 109 (TypeDesc.slice 55) := ⟨Tryd.underlying109⟩
instance : Inf Tryd.prog 109 1 24 [.slice none 0 0] := ⟨by kernel_rfl⟩
instance : Und Tryd.prog 110 (TypeDesc.func #[55] #[33] false) := ⟨Tryd.underlying110⟩
instance : Inf Tryd.prog 110 1 8 [.nilFunc] := ⟨by kernel_rfl⟩
instance : Und Tryd.prog 111 (TypeDesc.func #[112] #[55] false) := ⟨Tryd.underlying111⟩
instance : Inf Tryd.prog 111 1 8 [.nilFunc] := ⟨by kernel_rfl⟩
instance : Und Tryd.prog 112 (TypeDesc.struct #[{ name := "X", type := 51, offset := 0, embedded := false, tag := "", pkgPath := "", byteOffset := 0 }, { name := "Y", type := 51, offset := 1, embedded := false, tag := "", pkgPath := "", byteOffset := 8 }, { name := "Z", type := 51, offset := 2, embedded := false, tag := "", pkgPath := "", byteOffset := 16 }]) := ⟨Tryd.underlying112⟩
instance : Inf Tryd.prog 112 3 24 [.float .f64 0, .float .f64 0, .float .f64 0] := ⟨by kernel_rfl⟩
instance : Und Tryd.prog 113 (TypeDesc.pointer 146) := ⟨Tryd.underlying113⟩
instance : Inf Tryd.prog 113 1 8 [.pointer none] := ⟨by kernel_rfl⟩
instance : Und Tryd.prog 114 (TypeDesc.func #[53] #[113] false) := ⟨Tryd.underlying114⟩
instance : Inf Tryd.prog 114 1 8 [.nilFunc] := ⟨by kernel_rfl⟩
instance : Und Tryd.prog 115 (TypeDesc.func #[112] #[112] false) := ⟨Tryd.underlying115⟩
instance : Inf Tryd.prog 115 1 8 [.nilFunc] := ⟨by kernel_rfl⟩
instance : Und Tryd.prog 116 (TypeDesc.func #[55] #[112] false) := ⟨Tryd.underlying116⟩
instance : Inf Tryd.prog 116 1 8 [.nilFunc] := ⟨by kernel_rfl⟩
instance : Und Tryd.prog 117 (TypeDesc.func #[113] #[53] false) := ⟨Tryd.underlying117⟩
instance : Inf Tryd.prog 117 1 8 [.nilFunc] := ⟨by kernel_rfl⟩
instance : Und Tryd.prog 118 (TypeDesc.func #[112] #[113] false) := ⟨Tryd.underlying118⟩
instance : Inf Tryd.prog 118 1 8 [.nilFunc] := ⟨by kernel_rfl⟩
instance : Und Tryd.prog 119 (TypeDesc.func #[112, 112] #[112] false) := ⟨Tryd.underlying119⟩
instance : Inf Tryd.prog 119 1 8 [.nilFunc] := ⟨by kernel_rfl⟩
instance : Und Tryd.prog 120 (TypeDesc.func #[3, 23, 3] #[] false) := ⟨Tryd.underlying120⟩
instance : Inf Tryd.prog 120 1 8 [.nilFunc] := ⟨by kernel_rfl⟩
instance : Und Tryd.prog 121 (TypeDesc.int IntKind.u64) := ⟨Tryd.underlying121⟩
instance : Inf Tryd.prog 121 1 8 [.int .u64 0] := ⟨by kernel_rfl⟩
instance : Und Tryd.prog 122 (TypeDesc.func #[4, 3, 23, 3] #[] false) := ⟨Tryd.underlying122⟩
instance : Inf Tryd.prog 122 1 8 [.nilFunc] := ⟨by kernel_rfl⟩
instance : Und Tryd.prog 123 (TypeDesc.func #[92] #[51] false) := ⟨Tryd.underlying123⟩
instance : Inf Tryd.prog 123 1 8 [.nilFunc] := ⟨by kernel_rfl⟩
instance : Und Tryd.prog 124 (TypeDesc.func #[3] #[92] false) := ⟨Tryd.underlying124⟩
instance : Inf Tryd.prog 124 1 8 [.nilFunc] := ⟨by kernel_rfl⟩
instance : Und Tryd.prog 125 (TypeDesc.interface #[("Read", 165)]) := ⟨Tryd.underlying125⟩
instance : Inf Tryd.prog 125 1 16 [.nilIface] := ⟨by kernel_rfl⟩
instance : Und Tryd.prog 126 (TypeDesc.interface #[("Read", 165)]) := ⟨Tryd.underlying126⟩
instance : Inf Tryd.prog 126 1 16 [.nilIface] := ⟨by kernel_rfl⟩
instance : Und Tryd.prog 127 (TypeDesc.func #[126, 89, 33] #[68] false) := ⟨Tryd.underlying127⟩
instance : Inf Tryd.prog 127 1 8 [.nilFunc] := ⟨by kernel_rfl⟩
instance : Und Tryd.prog 128 (TypeDesc.struct #[]) := ⟨Tryd.underlying128⟩
instance : Inf Tryd.prog 128 0 0 [] := ⟨by kernel_rfl⟩
instance : Und Tryd.prog 129 (TypeDesc.struct #[]) := ⟨Tryd.underlying129⟩
instance : Inf Tryd.prog 129 0 0 [] := ⟨by kernel_rfl⟩
instance : Und Tryd.prog 130 (TypeDesc.struct #[]) := ⟨Tryd.underlying130⟩
instance : Inf Tryd.prog 130 0 0 [] := ⟨by kernel_rfl⟩
instance : Und Tryd.prog 131 (TypeDesc.func #[41] #[4] false) := ⟨Tryd.underlying131⟩
instance : Inf Tryd.prog 131 1 8 [.nilFunc] := ⟨by kernel_rfl⟩
instance : Und Tryd.prog 132 (TypeDesc.interface #[("Write", 165)]) := ⟨Tryd.underlying132⟩
instance : Inf Tryd.prog 132 1 16 [.nilIface] := ⟨by kernel_rfl⟩
instance : Und Tryd.prog 133 (TypeDesc.interface #[("Write", 165)]) := ⟨Tryd.underlying133⟩
instance : Inf Tryd.prog 133 1 16 [.nilIface] := ⟨by kernel_rfl⟩
instance : Und Tryd.prog 134 (TypeDesc.func #[133, 89, 47] #[68] false) := ⟨Tryd.underlying134⟩
instance : Inf Tryd.prog 134 1 8 [.nilFunc] := ⟨by kernel_rfl⟩
instance : Und Tryd.prog 135 (TypeDesc.func #[133, 89, 33] #[68] false) := ⟨Tryd.underlying135⟩
instance : Inf Tryd.prog 135 1 8 [.nilFunc] := ⟨by kernel_rfl⟩
instance : Und Tryd.prog 136 (TypeDesc.tuple #[47, 68]) := ⟨Tryd.underlying136⟩
instance : Und Tryd.prog 137 (TypeDesc.func #[126, 89] #[47, 68] false) := ⟨Tryd.underlying137⟩
instance : Inf Tryd.prog 137 1 8 [.nilFunc] := ⟨by kernel_rfl⟩
instance : Und Tryd.prog 138 (TypeDesc.array 4 3) := ⟨Tryd.underlying138⟩
instance : Inf Tryd.prog 138 4 32 [.int .i64 0, .int .i64 0, .int .i64 0, .int .i64 0] := ⟨by kernel_rfl⟩
instance : Und Tryd.prog 139 (TypeDesc.struct #[{ name := "Level", type := 3, offset := 0, embedded := false, tag := "", pkgPath := "", byteOffset := 0 }, { name := "N", type := 3, offset := 1, embedded := false, tag := "", pkgPath := "", byteOffset := 8 }, { name := "Limit", type := 3, offset := 2, embedded := false, tag := "", pkgPath := "", byteOffset := 16 }]) := ⟨Tryd.underlying139⟩
instance : Inf Tryd.prog 139 3 24 [.int .i64 0, .int .i64 0, .int .i64 0] := ⟨by kernel_rfl⟩
instance : Und Tryd.prog 140 (TypeDesc.struct #[{ name := "Level", type := 3, offset := 0, embedded := false, tag := "", pkgPath := "", byteOffset := 0 }, { name := "N", type := 3, offset := 1, embedded := false, tag := "", pkgPath := "", byteOffset := 8 }, { name := "Limit", type := 3, offset := 2, embedded := false, tag := "", pkgPath := "", byteOffset := 16 }]) := ⟨Tryd.underlying140⟩
instance : Inf Tryd.prog 140 3 24 [.int .i64 0, .int .i64 0, .int .i64 0] := ⟨by kernel_rfl⟩
instance : Und Tryd.prog 141 (TypeDesc.func #[51] #[51] false) := ⟨Tryd.underlying141⟩
instance : Inf Tryd.prog 141 1 8 [.nilFunc] := ⟨by kernel_rfl⟩
instance : Und Tryd.prog 142 (TypeDesc.func #[33] #[113] false) := ⟨Tryd.underlying142⟩
instance : Inf Tryd.prog 142 1 8 [.nilFunc] := ⟨by kernel_rfl⟩
instance : Und Tryd.prog 143 (TypeDesc.func #[33] #[33] false) := ⟨Tryd.underlying143⟩
instance : Inf Tryd.prog 143 1 8 [.nilFunc] := ⟨by kernel_rfl⟩
instance : Und Tryd.prog 144 (TypeDesc.pointer 147) := ⟨Tryd.underlying144⟩
instance : Inf Tryd.prog 144 1 8 [.pointer none] := ⟨by kernel_rfl⟩
instance : Und Tryd.prog 145 (TypeDesc.struct #[{ name := "data", type := 144, offset := 0, embedded := false, tag := "", pkgPath := "pub-orthodrome/pub/gonum/spatial/r3", byteOffset := 0 }]) := ⟨Tryd.underlying145⟩
instance : Inf Tryd.prog 145 1 8 [.pointer none] := ⟨by kernel_rfl⟩
instance : Und Tryd.prog 146 (TypeDesc.struct #[{ name := "data", type := 144, offset := 0, embedded := false, tag := "", pkgPath := "pub-orthodrome/pub/gonum/spatial/r3", byteOffset := 0 }]) := ⟨Tryd.underlying146⟩
instance : Inf Tryd.prog 146 1 8 [.pointer none] := ⟨by kernel_rfl⟩
instance : Und Tryd.prog 147 (TypeDesc.array 9 51) := ⟨Tryd.underlying147⟩
instance : Inf Tryd.prog 147 9 72 [.float .f64 0, .float .f64 0, .float .f64 0, .float .f64 0, .float .f64 0, .float .f64 0, .float .f64 0, .float .f64 0, .float .f64 0] := ⟨by kernel_rfl⟩
instance : Und Tryd.prog 148 (TypeDesc.struct #[{ name := "i", type := 3, offset := 0, embedded := false, tag := "", pkgPath := "pub-orthodrome/pub/gonum/spatial/curve", byteOffset := 0 }, { name := "j", type := 3, offset := 1, embedded := false, tag := "", pkgPath := "pub-orthodrome/pub/gonum/spatial/curve", byteOffset := 8 }]) := ⟨Tryd.underlying148⟩
instance : Inf Tryd.prog 148 2 16 [.int .i64 0, .int .i64 0] := ⟨by kernel_rfl⟩
instance : Und Tryd.prog 149 (TypeDesc.struct #[{ name := "i", type := 3, offset := 0, embedded := false, tag := "", pkgPath := "pub-orthodrome/pub/gonum/spatial/curve", byteOffset := 0 }, { name := "j", type := 3, offset := 1, embedded := false, tag := "", pkgPath := "pub-orthodrome/pub/gonum/spatial/curve", byteOffset := 8 }]) := ⟨Tryd.underlying149⟩
instance : Inf Tryd.prog 149 2 16 [.int .i64 0, .int .i64 0] := ⟨by kernel_rfl⟩
instance : Und Tryd.prog 150 (TypeDesc.func #[3, 23] #[] false) := ⟨Tryd.underlying150⟩
instance : Inf Tryd.prog 150 1 8 [.nilFunc] := ⟨by kernel_rfl⟩
instance : Und Tryd.prog 151 (TypeDesc.struct #[{ name := "i", type := 3, offset := 0, embedded := false, tag := "", pkgPath := "pub-orthodrome/pub/gonum/spatial/curve", byteOffset := 0 }, { name := "j", type := 3, offset := 1, embedded := false, tag := "", pkgPath := "pub-orthodrome/pub/gonum/spatial/curve", byteOffset := 8 }]) := ⟨Tryd.underlying151⟩
instance : Inf Tryd.prog 151 2 16 [.int .i64 0, .int .i64 0] := ⟨by kernel_rfl⟩
instance : Und Tryd.prog 152 (TypeDesc.func #[4, 3, 23, 149, 149] #[] false) := ⟨Tryd.underlying152⟩
instance : Inf Tryd.prog 152 1 8 [.nilFunc] := ⟨by kernel_rfl⟩
instance : Und Tryd.prog 153 (TypeDesc.struct #[{ name := "i", type := 3, offset := 0, embedded := false, tag := "", pkgPath := "pub-orthodrome/pub/gonum/spatial/curve", byteOffset := 0 }, { name := "j", type := 3, offset := 1, embedded := false, tag := "", pkgPath := "pub-orthodrome/pub/gonum/spatial/curve", byteOffset := 8 }]) := ⟨Tryd.underlying153⟩
instance : Inf Tryd.prog 153 2 16 [.int .i64 0, .int .i64 0] := ⟨by kernel_rfl⟩
instance : Und Tryd.prog 154 (TypeDesc.func #[4, 3, 23, 151, 151] #[] false) := ⟨Tryd.underlying154⟩
instance : Inf Tryd.prog 154 1 8 [.nilFunc] := ⟨by kernel_rfl⟩
instance : Und Tryd.prog 155 (TypeDesc.func #[4, 3, 23, 151, 149] #[] false) := ⟨Tryd.underlying155⟩
instance : Inf Tryd.prog 155 1 8 [.nilFunc] := ⟨by kernel_rfl⟩
instance : Und Tryd.prog 156 (TypeDesc.tuple #[3, 68]) := ⟨Tryd.underlying156⟩
instance : Und Tryd.prog 157 (TypeDesc.func #[126, 31] #[3, 68] false) := ⟨Tryd.underlying157⟩
instance : Inf Tryd.prog 157 1 8 [.nilFunc] := ⟨by kernel_rfl⟩
instance : Und Tryd.prog 158 (TypeDesc.func #[31, 89] #[51] false) := ⟨Tryd.underlying158⟩
instance : Inf Tryd.prog 158 1 8 [.nilFunc] := ⟨by kernel_rfl⟩
instance : Und Tryd.prog 159 (TypeDesc.func #[41, 3] #[3] false) := ⟨Tryd.underlying159⟩
instance : Inf Tryd.prog 159 1 8 [.nilFunc] := ⟨by kernel_rfl⟩
instance : Und Tryd.prog 160 (TypeDesc.func #[41, 3] #[4] false) := ⟨Tryd.underlying160⟩
instance : Inf Tryd.prog 160 1 8 [.nilFunc] := ⟨by kernel_rfl⟩
instance : Und Tryd.prog 161 (TypeDesc.func #[41] #[3] false) := ⟨Tryd.underlying161⟩
instance : Inf Tryd.prog 161 1 8 [.nilFunc] := ⟨by kernel_rfl⟩
instance : Und Tryd.prog 162 (TypeDesc.func #[23, 3, 3, 4] #[3, 4] false) := ⟨Tryd.underlying162⟩
instance : Inf Tryd.prog 162 1 8 [.nilFunc] := ⟨by kernel_rfl⟩
instance : Und Tryd.prog 163 (TypeDesc.array 4 5) := ⟨Tryd.underlying163⟩
instance : Inf Tryd.prog 163 4 4 [.int .u8 0, .int .u8 0, .int .u8 0, .int .u8 0] := ⟨by kernel_rfl⟩
instance : Und Tryd.prog 164 (TypeDesc.func #[31, 47] #[] false) := ⟨Tryd.underlying164⟩
instance : Inf Tryd.prog 164 1 8 [.nilFunc] := ⟨by kernel_rfl⟩
instance : Und Tryd.prog 165 (TypeDesc.func #[31] #[3, 68] false) := ⟨Tryd.underlying165⟩
instance : Inf Tryd.prog 165 1 8 [.nilFunc] := ⟨by kernel_rfl⟩
instance : Und Tryd.prog 166 (TypeDesc.func #[31, 89, 51] #[] false) := ⟨Tryd.underlying166⟩
instance : Inf Tryd.prog 166 1 8 [.nilFunc] := ⟨by kernel_rfl⟩
instance : Und Tryd.prog 167 (TypeDesc.func #[31] #[47] false) := ⟨Tryd.underlying167⟩
instance : Inf Tryd.prog 167 1 8 [.nilFunc] := ⟨by kernel_rfl⟩
instance : Und Tryd.prog 168 (TypeDesc.func #[33] #[144] false) := ⟨Tryd.underlying168⟩
instance : Inf Tryd.prog 168 1 8 [.nilFunc] := ⟨by kernel_rfl⟩
instance : Und Tryd.prog 169 (TypeDesc.struct #[{ name := "string", type := 9, offset := 0, embedded := true, tag := "", pkgPath := "pub-orthodrome/pub/gonum/mat", byteOffset := 0 }]) := ⟨Tryd.underlying169⟩
instance : Inf Tryd.prog 169 1 16 [.string ⟨#[]⟩] := ⟨by kernel_rfl⟩
instance : Und Tryd.prog 170 (TypeDesc.struct #[{ name := "string", type := 9, offset := 0, embedded := true, tag := "", pkgPath := "pub-orthodrome/pub/gonum/mat", byteOffset := 0 }]) := ⟨Tryd.underlying170⟩
instance : Inf Tryd.prog 170 1 16 [.string ⟨#[]⟩] := ⟨by kernel_rfl⟩
instance : Und Tryd.prog 171 (TypeDesc.func #[126, 31, 3] #[3, 68] false) := ⟨Tryd.underlying171⟩
instance : Inf Tryd.prog 171 1 8 [.nilFunc] := ⟨by kernel_rfl⟩
instance : Und Tryd.prog 172 (TypeDesc.func #[31] #[92] false) := ⟨Tryd.underlying172⟩
instance : Inf Tryd.prog 172 1 8 [.nilFunc] := ⟨by kernel_rfl⟩
instance : Und Tryd.prog 173 (TypeDesc.func #[3, 3] #[3] false) := ⟨Tryd.underlying173⟩
instance : Inf Tryd.prog 173 1 8 [.nilFunc] := ⟨by kernel_rfl⟩
instance : Und Tryd.prog 174 (TypeDesc.func #[31, 92] #[] false) := ⟨Tryd.underlying174⟩
instance : Inf Tryd.prog 174 1 8 [.nilFunc] := ⟨by kernel_rfl⟩
instance : Und Tryd.prog 175 (TypeDesc.func #[51, 51] #[51] false) := ⟨Tryd.underlying175⟩
instance : Inf Tryd.prog 175 1 8 [.nilFunc] := ⟨by kernel_rfl⟩
instance : Und Tryd.prog 176 (TypeDesc.pointer 200) := ⟨Tryd.underlying176⟩
instance : Inf Tryd.prog 176 1 8 [.pointer none] := ⟨by kernel_rfl⟩
instance : Und Tryd.prog 177 (TypeDesc.pointer 202) := ⟨Tryd.underlying177⟩
instance : Inf Tryd.prog 177 1 8 [.pointer none] := ⟨by kernel_rfl⟩
instance : Und Tryd.prog 178 (TypeDesc.pointer 205) := ⟨Tryd.underlying178⟩
instance : Inf Tryd.prog 178 1 8 [.pointer none] := ⟨by kernel_rfl⟩
instance : Und Tryd.prog 179 (TypeDesc.func #[] #[9] false) := ⟨Tryd.underlying179⟩
instance : Inf Tryd.prog 179 1 8 [.nilFunc] := ⟨by kernel_rfl⟩
instance : Und Tryd.prog 180 (TypeDesc.struct #[{ name := "_interface", type := 17, offset := 0, embedded := false, tag := "", pkgPath := "runtime", byteOffset := 0 }, { name := "concrete", type := 17, offset := 1, embedded := false, tag := "", pkgPath := "runtime", byteOffset := 8 }, { name := "asserted", type := 17, offset := 2, embedded := false, tag := "", pkgPath := "runtime", byteOffset := 16 }, { name := "missingMethod", type := 9, offset := 3, embedded := false, tag := "", pkgPath := "runtime", byteOffset := 24 }]) := ⟨Tryd.underlying180⟩
instance : Inf Tryd.prog 180 4 40 [.pointer none, .pointer none, .pointer none, .string ⟨#[]⟩] := ⟨by kernel_rfl⟩
instance : Und Tryd.prog 181 (TypeDesc.struct #[{ name := "_interface", type := 17, offset := 0, embedded := false, tag := "", pkgPath := "runtime", byteOffset := 0 }, { name := "concrete", type := 17, offset := 1, embedded := false, tag := "", pkgPath := "runtime", byteOffset := 8 }, { name := "asserted", type := 17, offset := 2, embedded := false, tag := "", pkgPath := "runtime", byteOffset := 16 }, { name := "missingMethod", type := 9, offset := 3, embedded := false, tag := "", pkgPath := "runtime", byteOffset := 24 }]) := ⟨Tryd.underlying181⟩
instance : Inf Tryd.prog 181 4 40 [.pointer none, .pointer none, .pointer none, .string ⟨#[]⟩] := ⟨by kernel_rfl⟩
instance : Und Tryd.prog 182 (TypeDesc.array 0 16) := ⟨Tryd.underlying182⟩
instance : Inf Tryd.prog 182 0 0 [] := ⟨by kernel_rfl⟩
instance : Und Tryd.prog 183 (TypeDesc.struct #[{ name := "_", type := 182, offset := 0, embedded := false, tag := "", pkgPath := "runtime", byteOffset := 0 }]) := ⟨Tryd.underlying183⟩
instance : Inf Tryd.prog 183 0 0 [] := ⟨by kernel_rfl⟩
instance : Und Tryd.prog 184 (TypeDesc.struct #[{ name := "_", type := 182, offset := 0, embedded := false, tag := "", pkgPath := "runtime", byteOffset := 0 }]) := ⟨Tryd.underlying184⟩
instance : Inf Tryd.prog 184 0 0 [] := ⟨by kernel_rfl⟩
instance : Und Tryd.prog 185 (TypeDesc.int IntKind.u8) := ⟨Tryd.underlying185⟩
instance : Inf Tryd.prog 185 1 1 [.int .u8 0] := ⟨by kernel_rfl⟩
instance : Und Tryd.prog 186 (TypeDesc.int IntKind.u8) := ⟨Tryd.underlying186⟩
instance : Inf Tryd.prog 186 1 1 [.int .u8 0] := ⟨by kernel_rfl⟩
instance : Und Tryd.prog 187 (TypeDesc.func #[206, 206] #[4] false) := ⟨Tryd.underlying187⟩
instance : Inf Tryd.prog 187 1 8 [.nilFunc] := ⟨by kernel_rfl⟩
instance : Und Tryd.prog 188 (TypeDesc.pointer 5) := ⟨Tryd.underlying188⟩
instance : Inf Tryd.prog 188 1 8 [.pointer none] := ⟨by kernel_rfl⟩
instance : Und Tryd.prog 189 (TypeDesc.int IntKind.i32) := ⟨Tryd.underlying189⟩
instance : Inf Tryd.prog 189 1 4 [.int .i32 0] := ⟨by kernel_rfl⟩
instance : Und Tryd.prog 190 (TypeDesc.int IntKind.i32) := ⟨Tryd.underlying190⟩
instance : Inf Tryd.prog 190 1 4 [.int .i32 0] := ⟨by kernel_rfl⟩
instance : Und Tryd.prog 191 (TypeDesc.struct #[{ name := "Size_", type := 12, offset := 0, embedded := false, tag := "", pkgPath := "", byteOffset := 0 }, { name := "PtrBytes", type := 12, offset := 1, embedded := false, tag := "", pkgPath := "", byteOffset := 8 }, { name := "Hash", type := 47, offset := 2, embedded := false, tag := "", pkgPath := "", byteOffset := 16 }, { name := "TFlag", type := 185, offset := 3, embedded := false, tag := "", pkgPath := "", byteOffset := 20 }, { name := "Align_", type := 5, offset := 4, embedded := false, tag := "", pkgPath := "", byteOffset := 21 }, { name := "FieldAlign_", type := 5, offset := 5, embedded := false, tag := "", pkgPath := "", byteOffset := 22 }, { name := "Kind_", type := 186, offset := 6, embedded := false, tag := "", pkgPath := "", byteOffset := 23 }, { name := "Equal", type := 187, offset := 7, embedded := false, tag := "", pkgPath := "", byteOffset := 24 }, { name := "GCData", type := 188, offset := 8, embedded := false, tag := "", pkgPath := "", byteOffset := 32 }, { name := "Str", type := 189, offset := 9, embedded := false, tag := "", pkgPath := "", byteOffset := 40 }, { name := "PtrToThis", type := 190, offset := 10, embedded := false, tag := "", pkgPath := "", byteOffset := 44 }]) := ⟨Tryd.underlying191⟩
instance : Inf Tryd.prog 191 11 48 [.int .u64 0, .int .u64 0, .int .u32 0, .int .u8 0, .int .u8 0, .int .u8 0, .int .u8 0, .nilFunc, .pointer none, .int .i32 0, .int .i32 0] := ⟨by kernel_rfl⟩
instance : Und Tryd.prog 192 (TypeDesc.struct #[{ name := "Size_", type := 12, offset := 0, embedded := false, tag := "", pkgPath := "", byteOffset := 0 }, { name := "PtrBytes", type := 12, offset := 1, embedded := false, tag := "", pkgPath := "", byteOffset := 8 }, { name := "Hash", type := 47, offset := 2, embedded := false, tag := "", pkgPath := "", byteOffset := 16 }, { name := "TFlag", type := 185, offset := 3, embedded := false, tag := "", pkgPath := "", byteOffset := 20 }, { name := "Align_", type := 5, offset := 4, embedded := false, tag := "", pkgPath := "", byteOffset := 21 }, { name := "FieldAlign_", type := 5, offset := 5, embedded := false, tag := "", pkgPath := "", byteOffset := 22 }, { name := "Kind_", type := 186, offset := 6, embedded := false, tag := "", pkgPath := "", byteOffset := 23 }, { name := "Equal", type := 187, offset := 7, embedded := false, tag := "", pkgPath := "", byteOffset := 24 }, { name := "GCData", type := 188, offset := 8, embedded := false, tag := "", pkgPath := "", byteOffset := 32 }, { name := "Str", type := 189, offset := 9, embedded := false, tag := "", pkgPath := "", byteOffset := 40 }, { name := "PtrToThis", type := 190, offset := 10, embedded := false, tag := "", pkgPath := "", byteOffset := 44 }]) := ⟨Tryd.underlying192⟩
instance : Inf Tryd.prog 192 11 48 [.int .u64 0, .int .u64 0, .int .u32 0, .int .u8 0, .int .u8 0, .int .u8 0, .int .u8 0, .nilFunc, .pointer none, .int .i32 0, .int .i32 0] := ⟨by kernel_rfl⟩
instance : Und Tryd.prog 193 (TypeDesc.func #[] #[4] false) := ⟨Tryd.underlying193⟩
instance : Inf Tryd.prog 193 1 8 [.nilFunc] := ⟨by kernel_rfl⟩
instance : Und Tryd.prog 194 (TypeDesc.func #[3] #[3, 4] false) := ⟨Tryd.underlying194⟩
instance : Inf Tryd.prog 194 1 8 [.nilFunc] := ⟨by kernel_rfl⟩
instance : Und Tryd.prog 195 (TypeDesc.func #[31, 3] #[31] false) := ⟨Tryd.underlying195⟩
instance : Inf Tryd.prog 195 1 8 [.nilFunc] := ⟨by kernel_rfl⟩
instance : Und Tryd.prog 196 (TypeDesc.func #[31, 207] #[] false) := ⟨Tryd.underlying196⟩
instance : Inf Tryd.prog 196 1 8 [.nilFunc] := ⟨by kernel_rfl⟩
instance : Und Tryd.prog 197 (TypeDesc.func #[31] #[207] false) := ⟨Tryd.underlying197⟩
instance : Inf Tryd.prog 197 1 8 [.nilFunc] := ⟨by kernel_rfl⟩
instance : Und Tryd.prog 198 (TypeDesc.func #[] #[51] false) := ⟨Tryd.underlying198⟩
instance : Inf Tryd.prog 198 1 8 [.nilFunc] := ⟨by kernel_rfl⟩
instance : Und Tryd.prog 199 (TypeDesc.struct #[{ name := "s", type := 9, offset := 0, embedded := false, tag := "", pkgPath := "errors", byteOffset := 0 }]) := ⟨Tryd.underlying199⟩
instance : Inf Tryd.prog 199 1 16 [.string ⟨#[]⟩] := ⟨by kernel_rfl⟩
instance : Und Tryd.prog 200 (TypeDesc.struct #[{ name := "s", type := 9, offset := 0, embedded := false, tag := "", pkgPath := "errors", byteOffset := 0 }]) := ⟨Tryd.underlying200⟩
instance : Inf Tryd.prog 200 1 16 [.string ⟨#[]⟩] := ⟨by kernel_rfl⟩
instance : Und Tryd.prog 201 (TypeDesc.struct #[{ name := "msg", type := 9, offset := 0, embedded := false, tag := "", pkgPath := "fmt", byteOffset := 0 }, { name := "err", type := 68, offset := 1, embedded := false, tag := "", pkgPath := "fmt", byteOffset := 16 }]) := ⟨Tryd.underlying201⟩
instance : Inf Tryd.prog 201 2 32 [.string ⟨#[]⟩, .nilIface] := ⟨by kernel_rfl⟩
instance : Und Tryd.prog 202 (TypeDesc.struct #[{ name := "msg", type := 9, offset := 0, embedded := false, tag := "", pkgPath := "fmt", byteOffset := 0 }, { name := "err", type := 68, offset := 1, embedded := false, tag := "", pkgPath := "fmt", byteOffset := 16 }]) := ⟨Tryd.underlying202⟩
instance : Inf Tryd.prog 202 2 32 [.string ⟨#[]⟩, .nilIface] := ⟨by kernel_rfl⟩
instance : Und Tryd.prog 203 (TypeDesc.slice 68) := ⟨Tryd.underlying203⟩
instance : Inf Tryd.prog 203 1 24 [.slice none 0 0] := ⟨by kernel_rfl⟩
instance : Und Tryd.prog 204 (TypeDesc.struct #[{ name := "msg", type := 9, offset := 0, embedded := false, tag := "", pkgPath := "fmt", byteOffset := 0 }, { name := "errs", type := 203, offset := 1, embedded := false, tag := "", pkgPath := "fmt", byteOffset := 16 }]) := ⟨Tryd.underlying204⟩
instance : Inf Tryd.prog 204 2 40 [.string ⟨#[]⟩, .slice none 0 0] := ⟨by kernel_rfl⟩
instance : Und Tryd.prog 205 (TypeDesc.struct #[{ name := "msg", type := 9, offset := 0, embedded := false, tag := "", pkgPath := "fmt", byteOffset := 0 }, { name := "errs", type := 203, offset := 1, embedded := false, tag := "", pkgPath := "fmt", byteOffset := 16 }]) := ⟨Tryd.underlying205⟩
instance : Inf Tryd.prog 205 2 40 [.string ⟨#[]⟩, .slice none 0 0] := ⟨by kernel_rfl⟩
instance : Und Tryd.prog 206 TypeDesc.unsafePointer := ⟨Tryd.underlying206⟩
instance : Inf Tryd.prog 206 1 8 [.pointer none] := ⟨by kernel_rfl⟩
instance : Und Tryd.prog 207 (TypeDesc.int IntKind.u16) := ⟨Tryd.underlying207⟩
instance : Inf Tryd.prog 207 1 2 [.int .u16 0] := ⟨by kernel_rfl⟩
instance : Und Tryd.prog 208 (TypeDesc.func #[9] #[68] false) := ⟨Tryd.underlying208⟩
instance : Inf Tryd.prog 208 1 8 [.nilFunc] := ⟨by kernel_rfl⟩
instance : FieldAt Tryd.prog 7 0 0 := .mk' Tryd.underlying7 rfl rfl (by kernel_rfl)
instance : FieldAt Tryd.prog 7 1 1 := .mk' Tryd.underlying7 rfl rfl (by kernel_rfl)
instance : FieldAt Tryd.prog 7 2 2 := .mk' Tryd.underlying7 rfl rfl (by kernel_rfl)
instance : FieldAt Tryd.prog 7 3 3 := .mk' Tryd.underlying7 rfl rfl (by kernel_rfl)
instance : FieldAt Tryd.prog 8 0 0 := .mk' Tryd.underlying8 rfl rfl (by kernel_rfl)
instance : FieldAt Tryd.prog 8 1 1 := .mk' Tryd.underlying8 rfl rfl (by kernel_rfl)
instance : FieldAt Tryd.prog 8 2 2 := .mk' Tryd.underlying8 rfl rfl (by kernel_rfl)
instance : FieldAt Tryd.prog 8 3 3 := .mk' Tryd.underlying8 rfl rfl (by kernel_rfl)
instance : FieldAt Tryd.prog 13 0 0 := .mk' Tryd.underlying13 rfl rfl (by kernel_rfl)
instance : FieldAt Tryd.prog 13 1 1 := .mk' Tryd.underlying13 rfl rfl (by kernel_rfl)
instance : FieldAt Tryd.prog 14 0 0 := .mk' Tryd.underlying14 rfl rfl (by kernel_rfl)
instance : FieldAt Tryd.prog 14 1 1 := .mk' Tryd.underlying14 rfl rfl (by kernel_rfl)
instance : FieldAt Tryd.prog 18 0 0 := .mk' Tryd.underlying18 rfl rfl (by kernel_rfl)
instance : FieldAt Tryd.prog 19 0 0 := .mk' Tryd.underlying19 rfl rfl (by kernel_rfl)
instance : FieldAt Tryd.prog 40 0 0 := .mk' Tryd.underlying40 rfl rfl (by kernel_rfl)
instance : FieldAt Tryd.prog 40 1 1 := .mk' Tryd.underlying40 rfl rfl (by kernel_rfl)
instance : FieldAt Tryd.prog 40 2 2 := .mk' Tryd.underlying40 rfl rfl (by kernel_rfl)
instance : FieldAt Tryd.prog 40 3 3 := .mk' Tryd.underlying40 rfl rfl (by kernel_rfl)
instance : FieldAt Tryd.prog 40 4 4 := .mk' Tryd.underlying40 rfl rfl (by kernel_rfl)
instance : FieldAt Tryd.prog 40 5 5 := .mk' Tryd.underlying40 rfl rfl (by kernel_rfl)
instance : FieldAt Tryd.prog 40 6 6 := .mk' Tryd.underlying40 rfl rfl (by kernel_rfl)
instance : FieldAt Tryd.prog 41 0 0 := .mk' Tryd.underlying41 rfl rfl (by kernel_rfl)
instance : FieldAt Tryd.prog 41 1 1 := .mk' Tryd.underlying41 rfl rfl (by kernel_rfl)
instance : FieldAt Tryd.prog 41 2 2 := .mk' Tryd.underlying41 rfl rfl (by kernel_rfl)
instance : FieldAt Tryd.prog 41 3 3 := .mk' Tryd.underlying41 rfl rfl (by kernel_rfl)
instance : FieldAt Tryd.prog 41 4 4 := .mk' Tryd.underlying41 rfl rfl (by kernel_rfl)
instance : FieldAt Tryd.prog 41 5 5 := .mk' Tryd.underlying41 rfl rfl (by kernel_rfl)
instance : FieldAt Tryd.prog 41 6 6 := .mk' Tryd.underlying41 rfl rfl (by kernel_rfl)
instance : FieldAt Tryd.prog 54 0 0 := .mk' Tryd.underlying54 rfl rfl (by kernel_rfl)
instance : FieldAt Tryd.prog 54 1 1 := .mk' Tryd.underlying54 rfl rfl (by kernel_rfl)
instance : FieldAt Tryd.prog 54 2 2 := .mk' Tryd.underlying54 rfl rfl (by kernel_rfl)
instance : FieldAt Tryd.prog 55 0 0 := .mk' Tryd.underlying55 rfl rfl (by kernel_rfl)
instance : FieldAt Tryd.prog 55 1 1 := .mk' Tryd.underlying55 rfl rfl (by kernel_rfl)
instance : FieldAt Tryd.prog 55 2 2 := .mk' Tryd.underlying55 rfl rfl (by kernel_rfl)
instance : FieldAt Tryd.prog 65 0 0 := .mk' Tryd.underlying65 rfl rfl (by kernel_rfl)
instance : FieldAt Tryd.prog 66 0 0 := .mk' Tryd.underlying66 rfl rfl (by kernel_rfl)
instance : FieldAt Tryd.prog 72 0 0 := .mk' Tryd.underlying72 rfl rfl (by kernel_rfl)
instance : FieldAt Tryd.prog 75 0 0 := .mk' Tryd.underlying75 rfl rfl (by kernel_rfl)
instance : FieldAt Tryd.prog 81 0 0 := .mk' Tryd.underlying81 rfl rfl (by kernel_rfl)
instance : FieldAt Tryd.prog 81 1 1 := .mk' Tryd.underlying81 rfl rfl (by kernel_rfl)
instance : FieldAt Tryd.prog 81 2 2 := .mk' Tryd.underlying81 rfl rfl (by kernel_rfl)
instance : FieldAt Tryd.prog 81 3 3 := .mk' Tryd.underlying81 rfl rfl (by kernel_rfl)
instance : FieldAt Tryd.prog 81 4 4 := .mk' Tryd.underlying81 rfl rfl (by kernel_rfl)
instance : FieldAt Tryd.prog 81 5 5 := .mk' Tryd.underlying81 rfl rfl (by kernel_rfl)
instance : FieldAt Tryd.prog 82 0 0 := .mk' Tryd.underlying82 rfl rfl (by kernel_rfl)
instance : FieldAt Tryd.prog 82 1 1 := .mk' Tryd.underlying82 rfl rfl (by kernel_rfl)
instance : FieldAt Tryd.prog 82 2 2 := .mk' Tryd.underlying82 rfl rfl (by kernel_rfl)
instance : FieldAt Tryd.prog 82 3 3 := .mk' Tryd.underlying82 rfl rfl (by kernel_rfl)
instance : FieldAt Tryd.prog 82 4 4 := .mk' Tryd.underlying82 rfl rfl (by kernel_rfl)
instance : FieldAt Tryd.prog 82 5 5 := .mk' Tryd.underlying82 rfl rfl (by kernel_rfl)
instance : FieldAt Tryd.prog 97 0 0 := .mk' Tryd.underlying97 rfl rfl (by kernel_rfl)
instance : FieldAt Tryd.prog 97 1 1 := .mk' Tryd.underlying97 rfl rfl (by kernel_rfl)
instance : FieldAt Tryd.prog 97 2 2 := .mk' Tryd.underlying97 rfl rfl (by kernel_rfl)
instance : FieldAt Tryd.prog 98 0 0 := .mk' Tryd.underlying98 rfl rfl (by kernel_rfl)
instance : FieldAt Tryd.prog 98 1 1 := .mk' Tryd.underlying98 rfl rfl (by kernel_rfl)
instance : FieldAt Tryd.prog 98 2 2 := .mk' Tryd.underlying98 rfl rfl (by kernel_rfl)
instance : FieldAt Tryd.prog 102 0 0 := .mk' Tryd.underlying102 rfl rfl (by kernel_rfl)
instance : FieldAt Tryd.prog 102 1 1 := .mk' Tryd.underlying102 rfl rfl (by kernel_rfl)
instance : FieldAt Tryd.prog 102 2 2 := .mk' Tryd.underlying102 rfl rfl (by kernel_rfl)
instance : FieldAt Tryd.prog 102 3 3 := .mk' Tryd.underlying102 rfl rfl (by kernel_rfl)
instance : FieldAt Tryd.prog 102 4 4 := .mk' Tryd.underlying102 rfl rfl (by kernel_rfl)
instance : FieldAt Tryd.prog 103 0 0 := .mk' Tryd.underlying103 rfl rfl (by kernel_rfl)
instance : FieldAt Tryd.prog 103 1 1 := .mk' Tryd.underlying103 rfl rfl (by kernel_rfl)
instance : FieldAt Tryd.prog 103 2 2 := .mk' Tryd.underlying103 rfl rfl (by kernel_rfl)
instance : FieldAt Tryd.prog 103 3 3 := .mk' Tryd.underlying103 rfl rfl (by kernel_rfl)
instance : FieldAt Tryd.prog 103 4 4 := .mk' Tryd.underlying103 rfl rfl (by kernel_rfl)
instance : FieldAt Tryd.prog 112 0 0 := .mk' Tryd.underlying112 rfl rfl (by kernel_rfl)
instance : FieldAt Tryd.prog 112 1 1 := .mk' Tryd.underlying112 rfl rfl (by kernel_rfl)
instance : FieldAt Tryd.prog 112 2 2 := .mk' Tryd.underlying112 rfl rfl (by kernel_rfl)
instance : FieldAt Tryd.prog 139 0 0 := .mk' Tryd.underlying139 rfl rfl (by kernel_rfl)
instance : FieldAt Tryd.prog 139 1 1 := .mk' Tryd.underlying139 rfl rfl (by kernel_rfl)
instance : FieldAt Tryd.prog 139 2 2 := .mk' Tryd.underlying139 rfl rfl (by kernel_rfl)
instance : FieldAt Tryd.prog 140 0 0 := .mk' Tryd.underlying140 rfl rfl (by kernel_rfl)
instance : FieldAt Tryd.prog 140 1 1 := .mk' Tryd.underlying140 rfl rfl (by kernel_rfl)
instance : FieldAt Tryd.prog 140 2 2 := .mk' Tryd.underlying140 rfl rfl (by kernel_rfl)
instance : FieldAt Tryd.prog 145 0 0 := .mk' Tryd.underlying145 rfl rfl (by kernel_rfl)
instance : FieldAt Tryd.prog 146 0 0 := .mk' Tryd.underlying146 rfl rfl (by kernel_rfl)
instance : FieldAt Tryd.prog 148 0 0 := .mk' Tryd.underlying148 rfl rfl (by kernel_rfl)
instance : FieldAt Tryd.prog 148 1 1 := .mk' Tryd.underlying148 rfl rfl (by kernel_rfl)
instance : FieldAt Tryd.prog 149 0 0 := .mk' Tryd.underlying149 rfl rfl (by kernel_rfl)
instance : FieldAt Tryd.prog 149 1 1 := .mk' Tryd.underlying149 rfl rfl (by kernel_rfl)
instance : FieldAt Tryd.prog 151 0 0 := .mk' Tryd.underlying151 rfl rfl (by kernel_rfl)
instance : FieldAt Tryd.prog 151 1 1 := .mk' Tryd.underlying151 rfl rfl (by kernel_rfl)
instance : FieldAt Tryd.prog 153 0 0 := .mk' Tryd.underlying153 rfl rfl (by kernel_rfl)
instance : FieldAt Tryd.prog 153 1 1 := .mk' Tryd.underlying153 rfl rfl (by kernel_rfl)
instance : FieldAt Tryd.prog 169 0 0 := .mk' Tryd.underlying169 rfl rfl (by kernel_rfl)
instance : FieldAt Tryd.prog 170 0 0 := .mk' Tryd.underlying170 rfl rfl (by kernel_rfl)
instance : FieldAt Tryd.prog 180 0 0 := .mk' Tryd.underlying180 rfl rfl (by kernel_rfl)
instance : FieldAt Tryd.prog 180 1 1 := .mk' Tryd.underlying180 rfl rfl (by kernel_rfl)
instance : FieldAt Tryd.prog 180 2 2 := .mk' Tryd.underlying180 rfl rfl (by kernel_rfl)
instance : FieldAt Tryd.prog 180 3 3 := .mk' Tryd.underlying180 rfl rfl (by kernel_rfl)
instance : FieldAt Tryd.prog 181 0 0 := .mk' Tryd.underlying181 rfl rfl (by kernel_rfl)
instance : FieldAt Tryd.prog 181 1 1 := .mk' Tryd.underlying181 rfl rfl (by kernel_rfl)
instance : FieldAt Tryd.prog 181 2 2 := .mk' Tryd.underlying181 rfl rfl (by kernel_rfl)
instance : FieldAt Tryd.prog 181 3 3 := .mk' Tryd.underlying181 rfl rfl (by kernel_rfl)
instance : FieldAt Tryd.prog 191 0 0 := .mk' Tryd.underlying191 rfl rfl (by kernel_rfl)
instance : FieldAt Tryd.prog 191 1 1 := .mk' Tryd.underlying191 rfl rfl (by kernel_rfl)
instance : FieldAt Tryd.prog 191 2 2 := .mk' Tryd.underlying191 rfl rfl (by kernel_rfl)
instance : FieldAt Tryd.prog 191 3 3 := .mk' Tryd.underlying191 rfl rfl (by kernel_rfl)
instance : FieldAt Tryd.prog 191 4 4 := .mk' Tryd.underlying191 rfl rfl (by kernel_rfl)
instance : FieldAt Tryd.prog 191 5 5 := .mk' Tryd.underlying191 rfl rfl (by kernel_rfl)
instance : FieldAt Tryd.prog 191 6 6 := .mk' Tryd.underlying191 rfl rfl (by kernel_rfl)
instance : FieldAt Tryd.prog 191 7 7 := .mk' Tryd.underlying191 rfl rfl (by kernel_rfl)
instance : FieldAt Tryd.prog 191 8 8 := .mk' Tryd.underlying191 rfl rfl (by kernel_rfl)
instance : FieldAt Tryd.prog 191 9 9 := .mk' Tryd.underlying191 rfl rfl (by kernel_rfl)
instance : FieldAt Tryd.prog 191 10 10 := .mk' Tryd.underlying191 rfl rfl (by kernel_rfl)
instance : FieldAt Tryd.prog 192 0 0 := .mk' Tryd.underlying192 rfl rfl (by kernel_rfl)
instance : FieldAt Tryd.prog 192 1 1 := .mk' Tryd.underlying192 rfl rfl (by kernel_rfl)
instance : FieldAt Tryd.prog 192 2 2 := .mk' Tryd.underlying192 rfl rfl (by kernel_rfl)
instance : FieldAt Tryd.prog 192 3 3 := .mk' Tryd.underlying192 rfl rfl (by kernel_rfl)
instance : FieldAt Tryd.prog 192 4 4 := .mk' Tryd.underlying192 rfl rfl (by kernel_rfl)
instance : FieldAt Tryd.prog 192 5 5 := .mk' Tryd.underlying192 rfl rfl (by kernel_rfl)
instance : FieldAt Tryd.prog 192 6 6 := .mk' Tryd.underlying192 rfl rfl (by kernel_rfl)
instance : FieldAt Tryd.prog 192 7 7 := .mk' Tryd.underlying192 rfl rfl (by kernel_rfl)
instance : FieldAt Tryd.prog 192 8 8 := .mk' Tryd.underlying192 rfl rfl (by kernel_rfl)
instance : FieldAt Tryd.prog 192 9 9 := .mk' Tryd.underlying192 rfl rfl (by kernel_rfl)
instance : FieldAt Tryd.prog 192 10 10 := .mk' Tryd.underlying192 rfl rfl (by kernel_rfl)
instance : FieldAt Tryd.prog 199 0 0 := .mk' Tryd.underlying199 rfl rfl (by kernel_rfl)
instance : FieldAt Tryd.prog 200 0 0 := .mk' Tryd.underlying200 rfl rfl (by kernel_rfl)
instance : FieldAt Tryd.prog 201 0 0 := .mk' Tryd.underlying201 rfl rfl (by kernel_rfl)
instance : FieldAt Tryd.prog 201 1 1 := .mk' Tryd.underlying201 rfl rfl (by kernel_rfl)
instance : FieldAt Tryd.prog 202 0 0 := .mk' Tryd.underlying202 rfl rfl (by kernel_rfl)
instance : FieldAt Tryd.prog 202 1 1 := .mk' Tryd.underlying202 rfl rfl (by kernel_rfl)
instance : FieldAt Tryd.prog 204 0 0 := .mk' Tryd.underlying204 rfl rfl (by kernel_rfl)
instance : FieldAt Tryd.prog 204 1 1 := .mk' Tryd.underlying204 rfl rfl (by kernel_rfl)
instance : FieldAt Tryd.prog 205 0 0 := .mk' Tryd.underlying205 rfl rfl (by kernel_rfl)
instance : FieldAt Tryd.prog 205 1 1 := .mk' Tryd.underlying205 rfl rfl (by kernel_rfl)
instance : Places Tryd.prog [{ name := "x", type := 2, offset := 0, embedded := false, tag := "", pkgPath := "runtime", byteOffset := 0 }, { name := "y", type := 3, offset := 1, embedded := false, tag := "", pkgPath := "runtime", byteOffset := 8 }, { name := "signed", type := 4, offset := 2, embedded := false, tag := "", pkgPath := "runtime", byteOffset := 16 }, { name := "code", type := 6, offset := 3, embedded := false, tag := "", pkgPath := "runtime", byteOffset := 17 }] [(0, 1), (1, 1), (2, 1), (3, 1)] := ⟨by kernel_rfl⟩
instance : Places Tryd.prog [{ name := "msg", type := 9, offset := 0, embedded := false, tag := "", pkgPath := "runtime", byteOffset := 0 }, { name := "addr", type := 12, offset := 1, embedded := false, tag := "", pkgPath := "runtime", byteOffset := 16 }] [(0, 1), (1, 1)] := ⟨by kernel_rfl⟩
instance : Places Tryd.prog [{ name := "typ", type := 17, offset := 0, embedded := false, tag := "", pkgPath := "internal/runtime/maps", byteOffset := 0 }] [(0, 1)] := ⟨by kernel_rfl⟩
instance : Places Tryd.prog [{ name := "Kind", type := 3, offset := 0, embedded := false, tag := "", pkgPath := "", byteOffset := 0 }, { name := "Layout", type := 3, offset := 1, embedded := false, tag := "", pkgPath := "", byteOffset := 8 }, { name := "SRID", type := 3, offset := 2, embedded := false, tag := "", pkgPath := "", byteOffset := 16 }, { name := "Flat", type := 33, offset := 3, embedded := false, tag := "", pkgPath := "", byteOffset := 24 }, { name := "Ends", type := 23, offset := 4, embedded := false, tag := "", pkgPath := "", byteOffset := 48 }, { name := "Endss", type := 38, offset := 5, embedded := false, tag := "", pkgPath := "", byteOffset := 72 }, { name := "Kids", type := 39, offset := 6, embedded := false, tag := "", pkgPath := "", byteOffset := 96 }] [(0, 1), (1, 1), (2, 1), (3, 1), (4, 1), (5, 1), (6, 1)] := ⟨by kernel_rfl⟩
instance : Places Tryd.prog [{ name := "X", type := 51, offset := 0, embedded := false, tag := "", pkgPath := "", byteOffset := 0 }, { name := "Y", type := 51, offset := 1, embedded := false, tag := "", pkgPath := "", byteOffset := 8 }, { name := "Z", type := 51, offset := 2, embedded := false, tag := "", pkgPath := "", byteOffset := 16 }] [(0, 1), (1, 1), (2, 1)] := ⟨by kernel_rfl⟩
instance : Places Tryd.prog [{ name := "order", type := 3, offset := 0, embedded := false, tag := "", pkgPath := "pub-orthodrome/pub/gonum/spatial/curve", byteOffset := 0 }] [(0, 1)] := ⟨by kernel_rfl⟩
instance : Places Tryd.prog [{ name := "b", type := 31, offset := 0, embedded := false, tag := "", pkgPath := "pub-orthodrome/spec", byteOffset := 0 }, { name := "extended", type := 4, offset := 1, embedded := false, tag := "", pkgPath := "pub-orthodrome/spec", byteOffset := 24 }, { name := "nan", type := 4, offset := 2, embedded := false, tag := "", pkgPath := "pub-orthodrome/spec", byteOffset := 25 }, { name := "big", type := 4, offset := 3, embedded := false, tag := "", pkgPath := "pub-orthodrome/spec", byteOffset := 26 }, { name := "bad", type := 4, offset := 4, embedded := false, tag := "", pkgPath := "pub-orthodrome/spec", byteOffset := 27 }, { name := "great", type := 4, offset := 5, embedded := false, tag := "", pkgPath := "pub-orthodrome/spec", byteOffset := 28 }] [(0, 1), (1, 1), (2, 1), (3, 1), (4, 1), (5, 1)] := ⟨by kernel_rfl⟩
instance : Places Tryd.prog [{ name := "buf", type := 31, offset := 0, embedded := false, tag := "", pkgPath := "bytes", byteOffset := 0 }, { name := "off", type := 3, offset := 1, embedded := false, tag := "", pkgPath := "bytes", byteOffset := 24 }, { name := "lastRead", type := 96, offset := 2, embedded := false, tag := "", pkgPath := "bytes", byteOffset := 32 }] [(0, 1), (1, 1), (2, 1)] := ⟨by kernel_rfl⟩
instance : Places Tryd.prog [{ name := "b", type := 31, offset := 0, embedded := false, tag := "", pkgPath := "pub-orthodrome/spec", byteOffset := 0 }, { name := "big", type := 4, offset := 1, embedded := false, tag := "", pkgPath := "pub-orthodrome/spec", byteOffset := 24 }, { name := "extended", type := 4, offset := 2, embedded := false, tag := "", pkgPath := "pub-orthodrome/spec", byteOffset := 25 }, { name := "nan", type := 4, offset := 3, embedded := false, tag := "", pkgPath := "pub-orthodrome/spec", byteOffset := 26 }, { name := "bad", type := 4, offset := 4, embedded := false, tag := "", pkgPath := "pub-orthodrome/spec", byteOffset := 27 }] [(0, 1), (1, 1), (2, 1), (3, 1), (4, 1)] := ⟨by kernel_rfl⟩
instance : Places Tryd.prog [] [] := ⟨by kernel_rfl⟩
instance : Places Tryd.prog [{ name := "Level", type := 3, offset := 0, embedded := false, tag := "", pkgPath := "", byteOffset := 0 }, { name := "N", type := 3, offset := 1, embedded := false, tag := "", pkgPath := "", byteOffset := 8 }, { name := "Limit", type := 3, offset := 2, embedded := false, tag := "", pkgPath := "", byteOffset := 16 }] [(0, 1), (1, 1), (2, 1)] := ⟨by kernel_rfl⟩
instance : Places Tryd.prog [{ name := "data", type := 144, offset := 0, embedded := false, tag := "", pkgPath := "pub-orthodrome/pub/gonum/spatial/r3", byteOffset := 0 }] [(0, 1)] := ⟨by kernel_rfl⟩
instance : Places Tryd.prog [{ name := "i", type := 3, offset := 0, embedded := false, tag := "", pkgPath := "pub-orthodrome/pub/gonum/spatial/curve", byteOffset := 0 }, { name := "j", type := 3, offset := 1, embedded := false, tag := "", pkgPath := "pub-orthodrome/pub/gonum/spatial/curve", byteOffset := 8 }] [(0, 1), (1, 1)] := ⟨by kernel_rfl⟩
instance : Places Tryd.prog [{ name := "string", type := 9, offset := 0, embedded := true, tag := "", pkgPath := "pub-orthodrome/pub/gonum/mat", byteOffset := 0 }] [(0, 1)] := ⟨by kernel_rfl⟩
instance : Places Tryd.prog [{ name := "_interface", type := 17, offset := 0, embedded := false, tag := "", pkgPath := "runtime", byteOffset := 0 }, { name := "concrete", type := 17, offset := 1, embedded := false, tag := "", pkgPath := "runtime", byteOffset := 8 }, { name := "asserted", type := 17, offset := 2, embedded := false, tag := "", pkgPath := "runtime", byteOffset := 16 }, { name := "missingMethod", type := 9, offset := 3, embedded := false, tag := "", pkgPath := "runtime", byteOffset := 24 }] [(0, 1), (1, 1), (2, 1), (3, 1)] := ⟨by kernel_rfl⟩
instance : Places Tryd.prog [{ name := "_", type := 182, offset := 0, embedded := false, tag := "", pkgPath := "runtime", byteOffset := 0 }] [(0, 0)] := ⟨by kernel_rfl⟩
instance : Places Tryd.prog [{ name := "Size_", type := 12, offset := 0, embedded := false, tag := "", pkgPath := "", byteOffset := 0 }, { name := "PtrBytes", type := 12, offset := 1, embedded := false, tag := "", pkgPath := "", byteOffset := 8 }, { name := "Hash", type := 47, offset := 2, embedded := false, tag := "", pkgPath := "", byteOffset := 16 }, { name := "TFlag", type := 185, offset := 3, embedded := false, tag := "", pkgPath := "", byteOffset := 20 }, { name := "Align_", type := 5, offset := 4, embedded := false, tag := "", pkgPath := "", byteOffset := 21 }, { name := "FieldAlign_", type := 5, offset := 5, embedded := false, tag := "", pkgPath := "", byteOffset := 22 }, { name := "Kind_", type := 186, offset := 6, embedded := false, tag := "", pkgPath := "", byteOffset := 23 }, { name := "Equal", type := 187, offset := 7, embedded := false, tag := "", pkgPath := "", byteOffset := 24 }, { name := "GCData", type := 188, offset := 8, embedded := false, tag := "", pkgPath := "", byteOffset := 32 }, { name := "Str", type := 189, offset := 9, embedded := false, tag := "", pkgPath := "", byteOffset := 40 }, { name := "PtrToThis", type := 190, offset := 10, embedded := false, tag := "", pkgPath := "", byteOffset := 44 }] [(0, 1), (1, 1), (2, 1), (3, 1), (4, 1), (5, 1), (6, 1), (7, 1), (8, 1), (9, 1), (10, 1)] := ⟨by kernel_rfl⟩
instance : Places Tryd.prog [{ name := "s", type := 9, offset := 0, embedded := false, tag := "", pkgPath := "errors", byteOffset := 0 }] [(0, 1)] := ⟨by kernel_rfl⟩
instance : Places Tryd.prog [{ name := "msg", type := 9, offset := 0, embedded := false, tag := "", pkgPath := "fmt", byteOffset := 0 }, { name := "err", type := 68, offset := 1, embedded := false, tag := "", pkgPath := "fmt", byteOffset := 16 }] [(0, 1), (1, 1)] := ⟨by kernel_rfl⟩
instance : Places Tryd.prog [{ name := "msg", type := 9, offset := 0, embedded := false, tag := "", pkgPath := "fmt", byteOffset := 0 }, { name := "errs", type := 203, offset := 1, embedded := false, tag := "", pkgPath := "fmt", byteOffset := 16 }] [(0, 1), (1, 1)] := ⟨by kernel_rfl⟩
instance : Enters Tryd.prog 3 := ⟨Tryd.f3, Tryd.func3, rfl, rfl⟩
instance : Enters Tryd.prog 4 := ⟨Tryd.f4, Tryd.func4, rfl, rfl⟩
instance : Enters Tryd.prog 5 := ⟨Tryd.f5, Tryd.func5, rfl, rfl⟩
instance : Enters Tryd.prog 6 := ⟨Tryd.f6, Tryd.func6, rfl, rfl⟩
instance : Enters Tryd.prog 7 := ⟨Tryd.f7, Tryd.func7, rfl, rfl⟩
instance : Enters Tryd.prog 8 := ⟨Tryd.f8, Tryd.func8, rfl, rfl⟩
instance : Enters Tryd.prog 9 := ⟨Tryd.f9, Tryd.func9, rfl, rfl⟩
instance : Enters Tryd.prog 10 := ⟨Tryd.f10, Tryd.func10, rfl, rfl⟩
instance : Enters Tryd.prog 11 := ⟨Tryd.f11, Tryd.func11, rfl, rfl⟩
instance : Enters Tryd.prog 12 := ⟨Tryd.f12, Tryd.func12, rfl, rfl⟩
instance : Enters Tryd.prog 13 := ⟨Tryd.f13, Tryd.func13, rfl, rfl⟩
instance : Enters Tryd.prog 14 := ⟨Tryd.f14, Tryd.func14, rfl, rfl⟩
instance : Enters Tryd.prog 15 := ⟨Tryd.f15, Tryd.func15, rfl, rfl⟩
instance : Enters Tryd.prog 16 := ⟨Tryd.f16, Tryd.func16, rfl, rfl⟩
instance : Enters Tryd.prog 17 := ⟨Tryd.f17, Tryd.func17, rfl, rfl⟩
instance : Enters Tryd.prog 18 := ⟨Tryd.f18, Tryd.func18, rfl, rfl⟩
instance : Enters Tryd.prog 19 := ⟨Tryd.f19, Tryd.func19, rfl, rfl⟩
instance : Enters Tryd.prog 20 := ⟨Tryd.f20, Tryd.func20, rfl, rfl⟩
instance : Enters Tryd.prog 21 := ⟨Tryd.f21, Tryd.func21, rfl, rfl⟩
instance : Enters Tryd.prog 22 := ⟨Tryd.f22, Tryd.func22, rfl, rfl⟩
instance : Enters Tryd.prog 23 := ⟨Tryd.f23, Tryd.func23, rfl, rfl⟩
instance : Enters Tryd.prog 24 := ⟨Tryd.f24, Tryd.func24, rfl, rfl⟩
instance : Enters Tryd.prog 25 := ⟨Tryd.f25, Tryd.func25, rfl, rfl⟩
instance : Enters Tryd.prog 26 := ⟨Tryd.f26, Tryd.func26, rfl, rfl⟩
instance : Enters Tryd.prog 27 := ⟨Tryd.f27, Tryd.func27, rfl, rfl⟩
instance : Enters Tryd.prog 28 := ⟨Tryd.f28, Tryd.func28, rfl, rfl⟩
instance : Enters Tryd.prog 29 := ⟨Tryd.f29, Tryd.func29, rfl, rfl⟩
instance : Enters Tryd.prog 30 := ⟨Tryd.f30, Tryd.func30, rfl, rfl⟩
instance : Enters Tryd.prog 31 := ⟨Tryd.f31, Tryd.func31, rfl, rfl⟩
instance : Enters Tryd.prog 32 := ⟨Tryd.f32, Tryd.func32, rfl, rfl⟩
instance : Enters Tryd.prog 33 := ⟨Tryd.f33, Tryd.func33, rfl, rfl⟩
instance : Enters Tryd.prog 34 := ⟨Tryd.f34, Tryd.func34, rfl, rfl⟩
instance : Enters Tryd.prog 35 := ⟨Tryd.f35, Tryd.func35, rfl, rfl⟩
instance : Enters Tryd.prog 36 := ⟨Tryd.f36, Tryd.func36, rfl, rfl⟩
instance : Enters Tryd.prog 37 := ⟨Tryd.f37, Tryd.func37, rfl, rfl⟩
instance : Enters Tryd.prog 38 := ⟨Tryd.f38, Tryd.func38, rfl, rfl⟩
instance : Enters Tryd.prog 39 := ⟨Tryd.f39, Tryd.func39, rfl, rfl⟩
instance : Enters Tryd.prog 40 := ⟨Tryd.f40, Tryd.func40, rfl, rfl⟩
instance : Enters Tryd.prog 41 := ⟨Tryd.f41, Tryd.func41, rfl, rfl⟩
instance : Enters Tryd.prog 42 := ⟨Tryd.f42, Tryd.func42, rfl, rfl⟩
instance : Enters Tryd.prog 43 := ⟨Tryd.f43, Tryd.func43, rfl, rfl⟩
instance : Enters Tryd.prog 44 := ⟨Tryd.f44, Tryd.func44, rfl, rfl⟩
instance : Enters Tryd.prog 45 := ⟨Tryd.f45, Tryd.func45, rfl, rfl⟩
instance : Enters Tryd.prog 46 := ⟨Tryd.f46, Tryd.func46, rfl, rfl⟩
instance : Enters Tryd.prog 47 := ⟨Tryd.f47, Tryd.func47, rfl, rfl⟩
instance : Enters Tryd.prog 48 := ⟨Tryd.f48, Tryd.func48, rfl, rfl⟩
instance : Enters Tryd.prog 49 := ⟨Tryd.f49, Tryd.func49, rfl, rfl⟩
instance : Enters Tryd.prog 50 := ⟨Tryd.f50, Tryd.func50, rfl, rfl⟩
instance : Enters Tryd.prog 52 := ⟨Tryd.f52, Tryd.func52, rfl, rfl⟩
instance : Enters Tryd.prog 53 := ⟨Tryd.f53, Tryd.func53, rfl, rfl⟩
instance : Enters Tryd.prog 54 := ⟨Tryd.f54, Tryd.func54, rfl, rfl⟩
instance : Enters Tryd.prog 55 := ⟨Tryd.f55, Tryd.func55, rfl, rfl⟩
instance : Enters Tryd.prog 56 := ⟨Tryd.f56, Tryd.func56, rfl, rfl⟩
instance : Enters Tryd.prog 57 := ⟨Tryd.f57, Tryd.func57, rfl, rfl⟩
instance : Enters Tryd.prog 58 := ⟨Tryd.f58, Tryd.func58, rfl, rfl⟩
instance : Enters Tryd.prog 59 := ⟨Tryd.f59, Tryd.func59, rfl, rfl⟩
instance : Enters Tryd.prog 60 := ⟨Tryd.f60, Tryd.func60, rfl, rfl⟩
instance : Enters Tryd.prog 61 := ⟨Tryd.f61, Tryd.func61, rfl, rfl⟩
instance : Enters Tryd.prog 62 := ⟨Tryd.f62, Tryd.func62, rfl, rfl⟩
instance : Enters Tryd.prog 63 := ⟨Tryd.f63, Tryd.func63, rfl, rfl⟩
instance : Enters Tryd.prog 64 := ⟨Tryd.f64, Tryd.func64, rfl, rfl⟩
instance : Enters Tryd.prog 65 := ⟨Tryd.f65, Tryd.func65, rfl, rfl⟩
instance : Enters Tryd.prog 66 := ⟨Tryd.f66, Tryd.func66, rfl, rfl⟩
instance : Enters Tryd.prog 67 := ⟨Tryd.f67, Tryd.func67, rfl, rfl⟩
instance : Enters Tryd.prog 68 := ⟨Tryd.f68, Tryd.func68, rfl, rfl⟩
instance : Enters Tryd.prog 69 := ⟨Tryd.f69, Tryd.func69, rfl, rfl⟩
instance : Enters Tryd.prog 70 := ⟨Tryd.f70, Tryd.func70, rfl, rfl⟩
instance : Enters Tryd.prog 71 := ⟨Tryd.f71, Tryd.func71, rfl, rfl⟩
instance : Enters Tryd.prog 72 := ⟨Tryd.f72, Tryd.func72, rfl, rfl⟩
instance : Enters Tryd.prog 73 := ⟨Tryd.f73, Tryd.func73, rfl, rfl⟩
instance : Enters Tryd.prog 75 := ⟨Tryd.f75, Tryd.func75, rfl, rfl⟩
instance : Enters Tryd.prog 76 := ⟨Tryd.f76, Tryd.func76, rfl, rfl⟩
instance : Enters Tryd.prog 77 := ⟨Tryd.f77, Tryd.func77, rfl, rfl⟩
instance : Enters Tryd.prog 78 := ⟨Tryd.f78, Tryd.func78, rfl, rfl⟩
instance : Enters Tryd.prog 79 := ⟨Tryd.f79, Tryd.func79, rfl, rfl⟩
instance : Enters Tryd.prog 80 := ⟨Tryd.f80, Tryd.func80, rfl, rfl⟩
instance : Enters Tryd.prog 81 := ⟨Tryd.f81, Tryd.func81, rfl, rfl⟩
instance : Enters Tryd.prog 82 := ⟨Tryd.f82, Tryd.func82, rfl, rfl⟩
instance : Enters Tryd.prog 83 := ⟨Tryd.f83, Tryd.func83, rfl, rfl⟩
instance : Enters Tryd.prog 84 := ⟨Tryd.f84, Tryd.func84, rfl, rfl⟩
instance : Enters Tryd.prog 85 := ⟨Tryd.f85, Tryd.func85, rfl, rfl⟩
instance : Enters Tryd.prog 86 := ⟨Tryd.f86, Tryd.func86, rfl, rfl⟩
instance : Enters Tryd.prog 87 := ⟨Tryd.f87, Tryd.func87, rfl, rfl⟩
instance : Enters Tryd.prog 88 := ⟨Tryd.f88, Tryd.func88, rfl, rfl⟩
instance : Enters Tryd.prog 89 := ⟨Tryd.f89, Tryd.func89, rfl, rfl⟩
instance : Enters Tryd.prog 90 := ⟨Tryd.f90, Tryd.func90, rfl, rfl⟩
instance : Enters Tryd.prog 91 := ⟨Tryd.f91, Tryd.func91, rfl, rfl⟩
instance : Enters Tryd.prog 92 := ⟨Tryd.f92, Tryd.func92, rfl, rfl⟩
instance : Enters Tryd.prog 93 := ⟨Tryd.f93, Tryd.func93, rfl, rfl⟩
instance : Enters Tryd.prog 94 := ⟨Tryd.f94, Tryd.func94, rfl, rfl⟩
instance : Enters Tryd.prog 95 := ⟨Tryd.f95, Tryd.func95, rfl, rfl⟩
instance : Enters Tryd.prog 96 := ⟨Tryd.f96, Tryd.func96, rfl, rfl⟩
instance : Enters Tryd.prog 97 := ⟨Tryd.f97, Tryd.func97, rfl, rfl⟩
instance : Enters Tryd.prog 98 := ⟨Tryd.f98, Tryd.func98, rfl, rfl⟩
instance : Enters Tryd.prog 99 := ⟨Tryd.f99, Tryd.func99, rfl, rfl⟩
instance : Enters Tryd.prog 101 := ⟨Tryd.f101, Tryd.func101, rfl, rfl⟩
instance : Enters Tryd.prog 102 := ⟨Tryd.f102, Tryd.func102, rfl, rfl⟩
instance : Enters Tryd.prog 103 := ⟨Tryd.f103, Tryd.func103, rfl, rfl⟩
instance : Enters Tryd.prog 104 := ⟨Tryd.f104, Tryd.func104, rfl, rfl⟩
instance : Enters Tryd.prog 105 := ⟨Tryd.f105, Tryd.func105, rfl, rfl⟩
instance : Enters Tryd.prog 106 := ⟨Tryd.f106, Tryd.func106, rfl, rfl⟩
instance : Enters Tryd.prog 126 := ⟨Tryd.f126, Tryd.func126, rfl, rfl⟩
instance : Enters Tryd.prog 127 := ⟨Tryd.f127, Tryd.func127, rfl, rfl⟩
instance : Enters Tryd.prog 129 := ⟨Tryd.f129, Tryd.func129, rfl, rfl⟩
instance : Enters Tryd.prog 130 := ⟨Tryd.f130, Tryd.func130, rfl, rfl⟩
instance : Enters Tryd.prog 131 := ⟨Tryd.f131, Tryd.func131, rfl, rfl⟩
instance : Enters Tryd.prog 132 := ⟨Tryd.f132, Tryd.func132, rfl, rfl⟩
instance : Enters Tryd.prog 133 := ⟨Tryd.f133, Tryd.func133, rfl, rfl⟩
instance : Enters Tryd.prog 134 := ⟨Tryd.f134, Tryd.func134, rfl, rfl⟩
instance : Enters Tryd.prog 138 := ⟨Tryd.f138, Tryd.func138, rfl, rfl⟩
instance : Enters Tryd.prog 139 := ⟨Tryd.f139, Tryd.func139, rfl, rfl⟩
instance : Enters Tryd.prog 142 := ⟨Tryd.f142, Tryd.func142, rfl, rfl⟩
instance : Enters Tryd.prog 143 := ⟨Tryd.f143, Tryd.func143, rfl, rfl⟩
instance : Enters Tryd.prog 146 := ⟨Tryd.f146, Tryd.func146, rfl, rfl⟩
instance : Enters Tryd.prog 147 := ⟨Tryd.f147, Tryd.func147, rfl, rfl⟩
instance : Enters Tryd.prog 150 := ⟨Tryd.f150, Tryd.func150, rfl, rfl⟩
instance : Enters Tryd.prog 151 := ⟨Tryd.f151, Tryd.func151, rfl, rfl⟩
instance : Enters Tryd.prog 158 := ⟨Tryd.f158, Tryd.func158, rfl, rfl⟩
instance : Enters Tryd.prog 171 := ⟨Tryd.f171, Tryd.func171, rfl, rfl⟩
theorem mixed : Tryd.prog.follows .mixedOrders = true := by kernel_rfl
end Go.Lg
