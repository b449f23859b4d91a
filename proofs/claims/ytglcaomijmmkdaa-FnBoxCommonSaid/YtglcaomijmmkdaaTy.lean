/-
  The sizes and the make of this translation's types, and which functions have a body: closed facts, written by a small program (seatty.py). No conditions.
-/
import Derived.Test.YtglcaomijmmkdaaProg
import Derived.Test.YtglcaomijmmkdaaLg3
import Derived.KernelRfl
namespace Go.Lg
open Go.Proofs
instance : Und Try.prog 0 (TypeDesc.tuple #[]) := ⟨Try.underlying0⟩
instance : Und Try.prog 1 (TypeDesc.func #[] #[] false) := ⟨Try.underlying1⟩
instance : Inf Try.prog 1 1 8 [.nilFunc] := ⟨by kernel_rfl⟩
instance : Und Try.prog 2 (TypeDesc.int IntKind.i64) := ⟨Try.underlying2⟩
instance : Inf Try.prog 2 1 8 [.int .i64 0] := ⟨by kernel_rfl⟩
instance : Und Try.prog 3 (TypeDesc.int IntKind.i64) := ⟨Try.underlying3⟩
instance : Inf Try.prog 3 1 8 [.int .i64 0] := ⟨by kernel_rfl⟩
instance : Und Try.prog 4 TypeDesc.bool := ⟨Try.underlying4⟩
instance : Inf Try.prog 4 1 1 [.bool false] := ⟨by kernel_rfl⟩
instance : Und Try.prog 5 (TypeDesc.int IntKind.u8) := ⟨Try.underlying5⟩
instance : Inf Try.prog 5 1 1 [.int .u8 0] := ⟨by kernel_rfl⟩
instance : Und Try.prog 6 (TypeDesc.int IntKind.u8) := ⟨Try.underlying6⟩
instance : Inf Try.prog 6 1 1 [.int .u8 0] := ⟨by kernel_rfl⟩
instance : Und Try.prog 7 (TypeDesc.struct #[{ name := "x", type := 2, offset := 0, embedded := false, tag := "", pkgPath := "runtime", byteOffset := 0 }, { name := "y", type := 3, offset := 1, embedded := false, tag := "", pkgPath := "runtime", byteOffset := 8 }, { name := "signed", type := 4, offset := 2, embedded := false, tag := "", pkgPath := "runtime", byteOffset := 16 }, { name := "code", type := 6, offset := 3, embedded := false, tag := "", pkgPath := "runtime", byteOffset := 17 }]) := ⟨Try.underlying7⟩
instance : Inf Try.prog 7 4 24 [.int .i64 0, .int .i64 0, .bool false, .int .u8 0] := ⟨by kernel_rfl⟩
instance : Und Try.prog 8 (TypeDesc.struct #[{ name := "x", type := 2, offset := 0, embedded := false, tag := "", pkgPath := "runtime", byteOffset := 0 }, { name := "y", type := 3, offset := 1, embedded := false, tag := "", pkgPath := "runtime", byteOffset := 8 }, { name := "signed", type := 4, offset := 2, embedded := false, tag := "", pkgPath := "runtime", byteOffset := 16 }, { name := "code", type := 6, offset := 3, embedded := false, tag := "", pkgPath := "runtime", byteOffset := 17 }]) := ⟨Try.underlying8⟩
instance : Inf Try.prog 8 4 24 [.int .i64 0, .int .i64 0, .bool false, .int .u8 0] := ⟨by kernel_rfl⟩
instance : Und Try.prog 9 TypeDesc.string := ⟨Try.underlying9⟩
instance : Inf Try.prog 9 1 16 [.string ⟨#[]⟩] := ⟨by kernel_rfl⟩
instance : Und Try.prog 10 TypeDesc.string := ⟨Try.underlying10⟩
instance : Inf Try.prog 10 1 16 [.string ⟨#[]⟩] := ⟨by kernel_rfl⟩
instance : Und Try.prog 11 TypeDesc.string := ⟨Try.underlying11⟩
instance : Inf Try.prog 11 1 16 [.string ⟨#[]⟩] := ⟨by kernel_rfl⟩
instance : Und Try.prog 12 (TypeDesc.int IntKind.u64) := ⟨Try.underlying12⟩
instance : Inf Try.prog 12 1 8 [.int .u64 0] := ⟨by kernel_rfl⟩
instance : Und Try.prog 13 (TypeDesc.struct #[{ name := "msg", type := 9, offset := 0, embedded := false, tag := "", pkgPath := "runtime", byteOffset := 0 }, { name := "addr", type := 12, offset := 1, embedded := false, tag := "", pkgPath := "runtime", byteOffset := 16 }]) := ⟨Try.underlying13⟩
instance : Inf Try.prog 13 2 24 [.string ⟨#[]⟩, .int .u64 0] := ⟨by kernel_rfl⟩
instance : Und Try.prog 14 (TypeDesc.struct #[{ name := "msg", type := 9, offset := 0, embedded := false, tag := "", pkgPath := "runtime", byteOffset := 0 }, { name := "addr", type := 12, offset := 1, embedded := false, tag := "", pkgPath := "runtime", byteOffset := 16 }]) := ⟨Try.underlying14⟩
instance : Inf Try.prog 14 2 24 [.string ⟨#[]⟩, .int .u64 0] := ⟨by kernel_rfl⟩
instance : Und Try.prog 15 (TypeDesc.pointer 69) := ⟨Try.underlying15⟩
instance : Inf Try.prog 15 1 8 [.pointer none] := ⟨by kernel_rfl⟩
instance : Und Try.prog 16 (TypeDesc.pointer 72) := ⟨Try.underlying16⟩
instance : Inf Try.prog 16 1 8 [.pointer none] := ⟨by kernel_rfl⟩
instance : Und Try.prog 17 (TypeDesc.pointer 81) := ⟨Try.underlying17⟩
instance : Inf Try.prog 17 1 8 [.pointer none] := ⟨by kernel_rfl⟩
instance : Und Try.prog 18 (TypeDesc.struct #[{ name := "typ", type := 17, offset := 0, embedded := false, tag := "", pkgPath := "internal/runtime/maps", byteOffset := 0 }]) := ⟨Try.underlying18⟩
instance : Inf Try.prog 18 1 8 [.pointer none] := ⟨by kernel_rfl⟩
instance : Und Try.prog 19 (TypeDesc.struct #[{ name := "typ", type := 17, offset := 0, embedded := false, tag := "", pkgPath := "internal/runtime/maps", byteOffset := 0 }]) := ⟨Try.underlying19⟩
instance : Inf Try.prog 19 1 8 [.pointer none] := ⟨by kernel_rfl⟩
instance : Und Try.prog 20 (TypeDesc.interface #[]) := ⟨Try.underlying20⟩
instance : Inf Try.prog 20 1 16 [.nilIface] := ⟨by kernel_rfl⟩
instance : Und Try.prog 21 (TypeDesc.int IntKind.i32) := ⟨Try.underlying21⟩
instance : Inf Try.prog 21 1 4 [.int .i32 0] := ⟨by kernel_rfl⟩
instance : Und Try.prog 22 (TypeDesc.slice 32) := ⟨Try.underlying22⟩
instance : Inf Try.prog 22 1 24 [.slice none 0 0] := ⟨by kernel_rfl⟩
instance : Und Try.prog 23 (TypeDesc.func #[24, 22] #[4] false) := ⟨Try.underlying23⟩
instance : Inf Try.prog 23 1 8 [.nilFunc] := ⟨by kernel_rfl⟩
instance : Und Try.prog 24 (TypeDesc.slice 22) := ⟨Try.underlying24⟩
instance : Inf Try.prog 24 1 24 [.slice none 0 0] := ⟨by kernel_rfl⟩
instance : Und Try.prog 25 (TypeDesc.tuple #[4, 4]) := ⟨Try.underlying25⟩
instance : Und Try.prog 26 (TypeDesc.func #[22, 22, 22] #[4, 4] false) := ⟨Try.underlying26⟩
instance : Inf Try.prog 26 1 8 [.nilFunc] := ⟨by kernel_rfl⟩
instance : Und Try.prog 27 (TypeDesc.func #[22, 22, 22] #[4] false) := ⟨Try.underlying27⟩
instance : Inf Try.prog 27 1 8 [.nilFunc] := ⟨by kernel_rfl⟩
instance : Und Try.prog 28 (TypeDesc.struct #[{ name := "Layout", type := 3, offset := 0, embedded := false, tag := "", pkgPath := "", byteOffset := 0 }, { name := "Min", type := 22, offset := 1, embedded := false, tag := "", pkgPath := "", byteOffset := 8 }, { name := "Max", type := 22, offset := 2, embedded := false, tag := "", pkgPath := "", byteOffset := 32 }]) := ⟨Try.underlying28⟩
instance : Inf Try.prog 28 3 56 [.int .i64 0, .slice none 0 0, .slice none 0 0] := ⟨by kernel_rfl⟩
instance : Und Try.prog 29 (TypeDesc.struct #[{ name := "Layout", type := 3, offset := 0, embedded := false, tag := "", pkgPath := "", byteOffset := 0 }, { name := "Min", type := 22, offset := 1, embedded := false, tag := "", pkgPath := "", byteOffset := 8 }, { name := "Max", type := 22, offset := 2, embedded := false, tag := "", pkgPath := "", byteOffset := 32 }]) := ⟨Try.underlying29⟩
instance : Inf Try.prog 29 3 56 [.int .i64 0, .slice none 0 0, .slice none 0 0] := ⟨by kernel_rfl⟩
instance : Und Try.prog 30 (TypeDesc.func #[29] #[4] false) := ⟨Try.underlying30⟩
instance : Inf Try.prog 30 1 8 [.nilFunc] := ⟨by kernel_rfl⟩
instance : Und Try.prog 31 (TypeDesc.func #[41] #[4] true) := ⟨Try.underlying31⟩
instance : Inf Try.prog 31 1 8 [.nilFunc] := ⟨by kernel_rfl⟩
instance : Und Try.prog 32 (TypeDesc.float FloatKind.f64) := ⟨Try.underlying32⟩
instance : Inf Try.prog 32 1 8 [.float .f64 0] := ⟨by kernel_rfl⟩
instance : Und Try.prog 33 (TypeDesc.func #[3, 29, 29] #[4, 4] false) := ⟨Try.underlying33⟩
instance : Inf Try.prog 33 1 8 [.nilFunc] := ⟨by kernel_rfl⟩
instance : Und Try.prog 34 (TypeDesc.func #[3, 29, 22] #[4, 4] false) := ⟨Try.underlying34⟩
instance : Inf Try.prog 34 1 8 [.nilFunc] := ⟨by kernel_rfl⟩
instance : Und Try.prog 35 (TypeDesc.func #[29, 29] #[4] false) := ⟨Try.underlying35⟩
instance : Inf Try.prog 35 1 8 [.nilFunc] := ⟨by kernel_rfl⟩
instance : Und Try.prog 36 (TypeDesc.func #[24, 3, 32] #[4] false) := ⟨Try.underlying36⟩
instance : Inf Try.prog 36 1 8 [.nilFunc] := ⟨by kernel_rfl⟩
instance : Und Try.prog 37 (TypeDesc.pointer 55) := ⟨Try.underlying37⟩
instance : Inf Try.prog 37 1 8 [.pointer none] := ⟨by kernel_rfl⟩
instance : Und Try.prog 38 (TypeDesc.func #[22, 22] #[37] false) := ⟨Try.underlying38⟩
instance : Inf Try.prog 38 1 8 [.nilFunc] := ⟨by kernel_rfl⟩
instance : Und Try.prog 39 (TypeDesc.func #[53] #[4] false) := ⟨Try.underlying39⟩
instance : Inf Try.prog 39 1 8 [.nilFunc] := ⟨by kernel_rfl⟩
instance : Und Try.prog 40 (TypeDesc.slice 32) := ⟨Try.underlying40⟩
instance : Inf Try.prog 40 1 24 [.slice none 0 0] := ⟨by kernel_rfl⟩
instance : Und Try.prog 41 (TypeDesc.slice 29) := ⟨Try.underlying41⟩
instance : Inf Try.prog 41 1 24 [.slice none 0 0] := ⟨by kernel_rfl⟩
instance : Und Try.prog 42 (TypeDesc.func #[3] #[3] false) := ⟨Try.underlying42⟩
instance : Inf Try.prog 42 1 8 [.nilFunc] := ⟨by kernel_rfl⟩
instance : Und Try.prog 43 (TypeDesc.func #[32] #[4] false) := ⟨Try.underlying43⟩
instance : Inf Try.prog 43 1 8 [.nilFunc] := ⟨by kernel_rfl⟩
instance : Und Try.prog 44 (TypeDesc.pointer 61) := ⟨Try.underlying44⟩
instance : Inf Try.prog 44 1 8 [.pointer none] := ⟨by kernel_rfl⟩
instance : Und Try.prog 45 (TypeDesc.func #[29] #[44] false) := ⟨Try.underlying45⟩
instance : Inf Try.prog 45 1 8 [.nilFunc] := ⟨by kernel_rfl⟩
instance : Und Try.prog 46 (TypeDesc.func #[47, 44] #[4] false) := ⟨Try.underlying46⟩
instance : Inf Try.prog 46 1 8 [.nilFunc] := ⟨by kernel_rfl⟩
instance : Und Try.prog 47 (TypeDesc.int IntKind.i64) := ⟨Try.underlying47⟩
instance : Inf Try.prog 47 1 8 [.int .i64 0] := ⟨by kernel_rfl⟩
instance : Und Try.prog 48 (TypeDesc.func #[47, 49] #[4] false) := ⟨Try.underlying48⟩
instance : Inf Try.prog 48 1 8 [.nilFunc] := ⟨by kernel_rfl⟩
instance : Und Try.prog 49 (TypeDesc.slice 32) := ⟨Try.underlying49⟩
instance : Inf Try.prog 49 1 24 [.slice none 0 0] := ⟨by kernel_rfl⟩
instance : Und Try.prog 50 (TypeDesc.func #[32] #[32] false) := ⟨Try.underlying50⟩
instance : Inf Try.prog 50 1 8 [.nilFunc] := ⟨by kernel_rfl⟩
instance : Und Try.prog 51 (TypeDesc.func #[22] #[22] false) := ⟨Try.underlying51⟩
instance : Inf Try.prog 51 1 8 [.nilFunc] := ⟨by kernel_rfl⟩
instance : Und Try.prog 52 (TypeDesc.interface #[("Compare", 58), ("Dims", 57), ("Distance", 84)]) := ⟨Try.underlying52⟩
instance : Inf Try.prog 52 1 16 [.nilIface] := ⟨by kernel_rfl⟩
instance : Und Try.prog 53 (TypeDesc.interface #[("Compare", 58), ("Dims", 57), ("Distance", 84)]) := ⟨Try.underlying53⟩
instance : Inf Try.prog 53 1 16 [.nilIface] := ⟨by kernel_rfl⟩
instance : Und Try.prog 54 (TypeDesc.struct #[{ name := "Min", type := 53, offset := 0, embedded := false, tag := "", pkgPath := "", byteOffset := 0 }, { name := "Max", type := 53, offset := 1, embedded := false, tag := "", pkgPath := "", byteOffset := 16 }]) := ⟨Try.underlying54⟩
instance : Inf Try.prog 54 2 32 [.nilIface, .nilIface] := ⟨by kernel_rfl⟩
instance : Und Try.prog 55 (TypeDesc.struct #[{ name := "Min", type := 53, offset := 0, embedded := false, tag := "", pkgPath := "", byteOffset := 0 }, { name := "Max", type := 53, offset := 1, embedded := false, tag := "", pkgPath := "", byteOffset := 16 }]) := ⟨Try.underlying55⟩
instance : Inf Try.prog 55 2 32 [.nilIface, .nilIface] := ⟨by kernel_rfl⟩
instance : Und Try.prog 56 (TypeDesc.int IntKind.i64) := ⟨Try.underlying56⟩
instance : Inf Try.prog 56 1 8 [.int .i64 0] := ⟨by kernel_rfl⟩
instance : Und Try.prog 57 (TypeDesc.func #[] #[3] false) := ⟨Try.underlying57⟩
instance : Inf Try.prog 57 1 8 [.nilFunc] := ⟨by kernel_rfl⟩
instance : Und Try.prog 58 (TypeDesc.func #[53, 56] #[32] false) := ⟨Try.underlying58⟩
instance : Inf Try.prog 58 1 8 [.nilFunc] := ⟨by kernel_rfl⟩
instance : Und Try.prog 59 (TypeDesc.func #[47, 49, 49] #[44] false) := ⟨Try.underlying59⟩
instance : Inf Try.prog 59 1 8 [.nilFunc] := ⟨by kernel_rfl⟩
instance : Und Try.prog 60 (TypeDesc.struct #[{ name := "layout", type := 47, offset := 0, embedded := false, tag := "", pkgPath := "pub-orthodrome/pub/gogeom", byteOffset := 0 }, { name := "min", type := 49, offset := 1, embedded := false, tag := "", pkgPath := "pub-orthodrome/pub/gogeom", byteOffset := 8 }, { name := "max", type := 49, offset := 2, embedded := false, tag := "", pkgPath := "pub-orthodrome/pub/gogeom", byteOffset := 32 }]) := ⟨Try.underlying60⟩
instance : Inf Try.prog 60 3 56 [.int .i64 0, .slice none 0 0, .slice none 0 0] := ⟨by kernel_rfl⟩
instance : Und Try.prog 61 (TypeDesc.struct #[{ name := "layout", type := 47, offset := 0, embedded := false, tag := "", pkgPath := "pub-orthodrome/pub/gogeom", byteOffset := 0 }, { name := "min", type := 49, offset := 1, embedded := false, tag := "", pkgPath := "pub-orthodrome/pub/gogeom", byteOffset := 8 }, { name := "max", type := 49, offset := 2, embedded := false, tag := "", pkgPath := "pub-orthodrome/pub/gogeom", byteOffset := 32 }]) := ⟨Try.underlying61⟩
instance : Inf Try.prog 61 3 56 [.int .i64 0, .slice none 0 0, .slice none 0 0] := ⟨by kernel_rfl⟩
instance : Und Try.prog 62 (TypeDesc.func #[32, 32] #[32] false) := ⟨Try.underlying62⟩
instance : Inf Try.prog 62 1 8 [.nilFunc] := ⟨by kernel_rfl⟩
instance : Und Try.prog 63 (TypeDesc.int IntKind.u64) := ⟨Try.underlying63⟩
instance : Inf Try.prog 63 1 8 [.int .u64 0] := ⟨by kernel_rfl⟩
instance : Und Try.prog 64 (TypeDesc.func #[32] #[63] false) := ⟨Try.underlying64⟩
instance : Inf Try.prog 64 1 8 [.nilFunc] := ⟨by kernel_rfl⟩
instance : Und Try.prog 65 (TypeDesc.int IntKind.u64) := ⟨Try.underlying65⟩
instance : Inf Try.prog 65 1 8 [.int .u64 0] := ⟨by kernel_rfl⟩
instance : Und Try.prog 66 (TypeDesc.func #[63] #[32] false) := ⟨Try.underlying66⟩
instance : Inf Try.prog 66 1 8 [.nilFunc] := ⟨by kernel_rfl⟩
instance : Und Try.prog 67 (TypeDesc.func #[] #[9] false) := ⟨Try.underlying67⟩
instance : Inf Try.prog 67 1 8 [.nilFunc] := ⟨by kernel_rfl⟩
instance : Und Try.prog 68 (TypeDesc.struct #[{ name := "_interface", type := 17, offset := 0, embedded := false, tag := "", pkgPath := "runtime", byteOffset := 0 }, { name := "concrete", type := 17, offset := 1, embedded := false, tag := "", pkgPath := "runtime", byteOffset := 8 }, { name := "asserted", type := 17, offset := 2, embedded := false, tag := "", pkgPath := "runtime", byteOffset := 16 }, { name := "missingMethod", type := 9, offset := 3, embedded := false, tag := "", pkgPath := "runtime", byteOffset := 24 }]) := ⟨Try.underlying68⟩
instance : Inf Try.prog 68 4 40 [.pointer none, .pointer none, .pointer none, .string ⟨#[]⟩] := ⟨by kernel_rfl⟩
instance : Und Try.prog 69 (TypeDesc.struct #[{ name := "_interface", type := 17, offset := 0, embedded := false, tag := "", pkgPath := "runtime", byteOffset := 0 }, { name := "concrete", type := 17, offset := 1, embedded := false, tag := "", pkgPath := "runtime", byteOffset := 8 }, { name := "asserted", type := 17, offset := 2, embedded := false, tag := "", pkgPath := "runtime", byteOffset := 16 }, { name := "missingMethod", type := 9, offset := 3, embedded := false, tag := "", pkgPath := "runtime", byteOffset := 24 }]) := ⟨Try.underlying69⟩
instance : Inf Try.prog 69 4 40 [.pointer none, .pointer none, .pointer none, .string ⟨#[]⟩] := ⟨by kernel_rfl⟩
instance : Und Try.prog 70 (TypeDesc.array 0 16) := ⟨Try.underlying70⟩
instance : Inf Try.prog 70 0 0 [] := ⟨by kernel_rfl⟩
instance : Und Try.prog 71 (TypeDesc.struct #[{ name := "_", type := 70, offset := 0, embedded := false, tag := "", pkgPath := "runtime", byteOffset := 0 }]) := ⟨Try.underlying71⟩
instance : Inf Try.prog 71 0 0 [] := ⟨by kernel_rfl⟩
instance : Und Try.prog 72 (TypeDesc.struct #[{ name := "_", type := 70, offset := 0, embedded := false, tag := "", pkgPath := "runtime", byteOffset := 0 }]) := ⟨Try.underlying72⟩
instance : Inf Try.prog 72 0 0 [] := ⟨by kernel_rfl⟩
instance : Und Try.prog 73 (TypeDesc.int IntKind.u32) := ⟨Try.underlying73⟩
instance : Inf Try.prog 73 1 4 [.int .u32 0] := ⟨by kernel_rfl⟩
instance : Und Try.prog 74 (TypeDesc.int IntKind.u8) := ⟨Try.underlying74⟩
instance : Inf Try.prog 74 1 1 [.int .u8 0] := ⟨by kernel_rfl⟩
instance : Und Try.prog 75 (TypeDesc.int IntKind.u8) := ⟨Try.underlying75⟩
instance : Inf Try.prog 75 1 1 [.int .u8 0] := ⟨by kernel_rfl⟩
instance : Und Try.prog 76 (TypeDesc.func #[85, 85] #[4] false) := ⟨Try.underlying76⟩
instance : Inf Try.prog 76 1 8 [.nilFunc] := ⟨by kernel_rfl⟩
instance : Und Try.prog 77 (TypeDesc.pointer 5) := ⟨Try.underlying77⟩
instance : Inf Try.prog 77 1 8 [.pointer none] := ⟨by kernel_rfl⟩
instance : Und Try.prog 78 (TypeDesc.int IntKind.i32) := ⟨Try.underlying78⟩
instance : Inf Try.prog 78 1 4 [.int .i32 0] := ⟨by kernel_rfl⟩
instance : Und Try.prog 79 (TypeDesc.int IntKind.i32) := ⟨Try.underlying79⟩
instance : Inf Try.prog 79 1 4 [.int .i32 0] := ⟨by kernel_rfl⟩
instance : Und Try.prog 80 (TypeDesc.struct #[{ name := "Size_", type := 12, offset := 0, embedded := false, tag := "", pkgPath := "", byteOffset := 0 }, { name := "PtrBytes", type := 12, offset := 1, embedded := false, tag := "", pkgPath := "", byteOffset := 8 }, { name := "Hash", type := 73, offset := 2, embedded := false, tag := "", pkgPath := "", byteOffset := 16 }, { name := "TFlag", type := 74, offset := 3, embedded := false, tag := "", pkgPath := "", byteOffset := 20 }, { name := "Align_", type := 5, offset := 4, embedded := false, tag := "", pkgPath := "", byteOffset := 21 }, { name := "FieldAlign_", type := 5, offset := 5, embedded := false, tag := "", pkgPath := "", byteOffset := 22 }, { name := "Kind_", type := 75, offset := 6, embedded := false, tag := "", pkgPath := "", byteOffset := 23 }, { name := "Equal", type := 76, offset := 7, embedded := false, tag := "", pkgPath := "", byteOffset := 24 }, { name := "GCData", type := 77, offset := 8, embedded := false, tag := "", pkgPath := "", byteOffset := 32 }, { name := "Str", type := 78, offset := 9, embedded := false, tag := "", pkgPath := "", byteOffset := 40 }, { name := "PtrToThis", type := 79, offset := 10, embedded := false, tag := "", pkgPath := "", byteOffset := 44 }]) := ⟨Try.underlying80⟩
instance : Inf Try.prog 80 11 48 [.int .u64 0, .int .u64 0, .int .u32 0, .int .u8 0, .int .u8 0, .int .u8 0, .int .u8 0, .nilFunc, .pointer none, .int .i32 0, .int .i32 0] := ⟨by kernel_rfl⟩
instance : Und Try.prog 81 (TypeDesc.struct #[{ name := "Size_", type := 12, offset := 0, embedded := false, tag := "", pkgPath := "", byteOffset := 0 }, { name := "PtrBytes", type := 12, offset := 1, embedded := false, tag := "", pkgPath := "", byteOffset := 8 }, { name := "Hash", type := 73, offset := 2, embedded := false, tag := "", pkgPath := "", byteOffset := 16 }, { name := "TFlag", type := 74, offset := 3, embedded := false, tag := "", pkgPath := "", byteOffset := 20 }, { name := "Align_", type := 5, offset := 4, embedded := false, tag := "", pkgPath := "", byteOffset := 21 }, { name := "FieldAlign_", type := 5, offset := 5, embedded := false, tag := "", pkgPath := "", byteOffset := 22 }, { name := "Kind_", type := 75, offset := 6, embedded := false, tag := "", pkgPath := "", byteOffset := 23 }, { name := "Equal", type := 76, offset := 7, embedded := false, tag := "", pkgPath := "", byteOffset := 24 }, { name := "GCData", type := 77, offset := 8, embedded := false, tag := "", pkgPath := "", byteOffset := 32 }, { name := "Str", type := 78, offset := 9, embedded := false, tag := "", pkgPath := "", byteOffset := 40 }, { name := "PtrToThis", type := 79, offset := 10, embedded := false, tag := "", pkgPath := "", byteOffset := 44 }]) := ⟨Try.underlying81⟩
instance : Inf Try.prog 81 11 48 [.int .u64 0, .int .u64 0, .int .u32 0, .int .u8 0, .int .u8 0, .int .u8 0, .int .u8 0, .nilFunc, .pointer none, .int .i32 0, .int .i32 0] := ⟨by kernel_rfl⟩
instance : Und Try.prog 82 (TypeDesc.func #[] #[4] false) := ⟨Try.underlying82⟩
instance : Inf Try.prog 82 1 8 [.nilFunc] := ⟨by kernel_rfl⟩
instance : Und Try.prog 83 (TypeDesc.func #[] #[32] false) := ⟨Try.underlying83⟩
instance : Inf Try.prog 83 1 8 [.nilFunc] := ⟨by kernel_rfl⟩
instance : Und Try.prog 84 (TypeDesc.func #[53] #[32] false) := ⟨Try.underlying84⟩
instance : Inf Try.prog 84 1 8 [.nilFunc] := ⟨by kernel_rfl⟩
instance : Und Try.prog 85 TypeDesc.unsafePointer := ⟨Try.underlying85⟩
instance : Inf Try.prog 85 1 8 [.pointer none] := ⟨by kernel_rfl⟩
instance : FieldAt Try.prog 7 0 0 := .mk' Try.underlying7 rfl rfl (by kernel_rfl)
instance : FieldAt Try.prog 7 1 1 := .mk' Try.underlying7 rfl rfl (by kernel_rfl)
instance : FieldAt Try.prog 7 2 2 := .mk' Try.underlying7 rfl rfl (by kernel_rfl)
instance : FieldAt Try.prog 7 3 3 := .mk' Try.underlying7 rfl rfl (by kernel_rfl)
instance : FieldAt Try.prog 8 0 0 := .mk' Try.underlying8 rfl rfl (by kernel_rfl)
instance : FieldAt Try.prog 8 1 1 := .mk' Try.underlying8 rfl rfl (by kernel_rfl)
instance : FieldAt Try.prog 8 2 2 := .mk' Try.underlying8 rfl rfl (by kernel_rfl)
instance : FieldAt Try.prog 8 3 3 := .mk' Try.underlying8 rfl rfl (by kernel_rfl)
instance : FieldAt Try.prog 13 0 0 := .mk' Try.underlying13 rfl rfl (by kernel_rfl)
instance : FieldAt Try.prog 13 1 1 := .mk' Try.underlying13 rfl rfl (by kernel_rfl)
instance : FieldAt Try.prog 14 0 0 := .mk' Try.underlying14 rfl rfl (by kernel_rfl)
instance : FieldAt Try.prog 14 1 1 := .mk' Try.underlying14 rfl rfl (by kernel_rfl)
instance : FieldAt Try.prog 18 0 0 := .mk' Try.underlying18 rfl rfl (by kernel_rfl)
instance : FieldAt Try.prog 19 0 0 := .mk' Try.underlying19 rfl rfl (by kernel_rfl)
instance : FieldAt Try.prog 28 0 0 := .mk' Try.underlying28 rfl rfl (by kernel_rfl)
instance : FieldAt Try.prog 28 1 1 := .mk' Try.underlying28 rfl rfl (by kernel_rfl)
instance : FieldAt Try.prog 28 2 2 := .mk' Try.underlying28 rfl rfl (by kernel_rfl)
instance : FieldAt Try.prog 29 0 0 := .mk' Try.underlying29 rfl rfl (by kernel_rfl)
instance : FieldAt Try.prog 29 1 1 := .mk' Try.underlying29 rfl rfl (by kernel_rfl)
instance : FieldAt Try.prog 29 2 2 := .mk' Try.underlying29 rfl rfl (by kernel_rfl)
instance : FieldAt Try.prog 54 0 0 := .mk' Try.underlying54 rfl rfl (by kernel_rfl)
instance : FieldAt Try.prog 54 1 1 := .mk' Try.underlying54 rfl rfl (by kernel_rfl)
instance : FieldAt Try.prog 55 0 0 := .mk' Try.underlying55 rfl rfl (by kernel_rfl)
instance : FieldAt Try.prog 55 1 1 := .mk' Try.underlying55 rfl rfl (by kernel_rfl)
instance : FieldAt Try.prog 60 0 0 := .mk' Try.underlying60 rfl rfl (by kernel_rfl)
instance : FieldAt Try.prog 60 1 1 := .mk' Try.underlying60 rfl rfl (by kernel_rfl)
instance : FieldAt Try.prog 60 2 2 := .mk' Try.underlying60 rfl rfl (by kernel_rfl)
instance : FieldAt Try.prog 61 0 0 := .mk' Try.underlying61 rfl rfl (by kernel_rfl)
instance : FieldAt Try.prog 61 1 1 := .mk' Try.underlying61 rfl rfl (by kernel_rfl)
instance : FieldAt Try.prog 61 2 2 := .mk' Try.underlying61 rfl rfl (by kernel_rfl)
instance : FieldAt Try.prog 68 0 0 := .mk' Try.underlying68 rfl rfl (by kernel_rfl)
instance : FieldAt Try.prog 68 1 1 := .mk' Try.underlying68 rfl rfl (by kernel_rfl)
instance : FieldAt Try.prog 68 2 2 := .mk' Try.underlying68 rfl rfl (by kernel_rfl)
instance : FieldAt Try.prog 68 3 3 := .mk' Try.underlying68 rfl rfl (by kernel_rfl)
instance : FieldAt Try.prog 69 0 0 := .mk' Try.underlying69 rfl rfl (by kernel_rfl)
instance : FieldAt Try.prog 69 1 1 := .mk' Try.underlying69 rfl rfl (by kernel_rfl)
instance : FieldAt Try.prog 69 2 2 := .mk' Try.underlying69 rfl rfl (by kernel_rfl)
instance : FieldAt Try.prog 69 3 3 := .mk' Try.underlying69 rfl rfl (by kernel_rfl)
instance : FieldAt Try.prog 80 0 0 := .mk' Try.underlying80 rfl rfl (by kernel_rfl)
instance : FieldAt Try.prog 80 1 1 := .mk' Try.underlying80 rfl rfl (by kernel_rfl)
instance : FieldAt Try.prog 80 2 2 := .mk' Try.underlying80 rfl rfl (by kernel_rfl)
instance : FieldAt Try.prog 80 3 3 := .mk' Try.underlying80 rfl rfl (by kernel_rfl)
instance : FieldAt Try.prog 80 4 4 := .mk' Try.underlying80 rfl rfl (by kernel_rfl)
instance : FieldAt Try.prog 80 5 5 := .mk' Try.underlying80 rfl rfl (by kernel_rfl)
instance : FieldAt Try.prog 80 6 6 := .mk' Try.underlying80 rfl rfl (by kernel_rfl)
instance : FieldAt Try.prog 80 7 7 := .mk' Try.underlying80 rfl rfl (by kernel_rfl)
instance : FieldAt Try.prog 80 8 8 := .mk' Try.underlying80 rfl rfl (by kernel_rfl)
instance : FieldAt Try.prog 80 9 9 := .mk' Try.underlying80 rfl rfl (by kernel_rfl)
instance : FieldAt Try.prog 80 10 10 := .mk' Try.underlying80 rfl rfl (by kernel_rfl)
instance : FieldAt Try.prog 81 0 0 := .mk' Try.underlying81 rfl rfl (by kernel_rfl)
instance : FieldAt Try.prog 81 1 1 := .mk' Try.underlying81 rfl rfl (by kernel_rfl)
instance : FieldAt Try.prog 81 2 2 := .mk' Try.underlying81 rfl rfl (by kernel_rfl)
instance : FieldAt Try.prog 81 3 3 := .mk' Try.underlying81 rfl rfl (by kernel_rfl)
instance : FieldAt Try.prog 81 4 4 := .mk' Try.underlying81 rfl rfl (by kernel_rfl)
instance : FieldAt Try.prog 81 5 5 := .mk' Try.underlying81 rfl rfl (by kernel_rfl)
instance : FieldAt Try.prog 81 6 6 := .mk' Try.underlying81 rfl rfl (by kernel_rfl)
instance : FieldAt Try.prog 81 7 7 := .mk' Try.underlying81 rfl rfl (by kernel_rfl)
instance : FieldAt Try.prog 81 8 8 := .mk' Try.underlying81 rfl rfl (by kernel_rfl)
instance : FieldAt Try.prog 81 9 9 := .mk' Try.underlying81 rfl rfl (by kernel_rfl)
instance : FieldAt Try.prog 81 10 10 := .mk' Try.underlying81 rfl rfl (by kernel_rfl)
instance : Places Try.prog [{ name := "x", type := 2, offset := 0, embedded := false, tag := "", pkgPath := "runtime", byteOffset := 0 }, { name := "y", type := 3, offset := 1, embedded := false, tag := "", pkgPath := "runtime", byteOffset := 8 }, { name := "signed", type := 4, offset := 2, embedded := false, tag := "", pkgPath := "runtime", byteOffset := 16 }, { name := "code", type := 6, offset := 3, embedded := false, tag := "", pkgPath := "runtime", byteOffset := 17 }] [(0, 1), (1, 1), (2, 1), (3, 1)] := ⟨by kernel_rfl⟩
instance : Places Try.prog [{ name := "msg", type := 9, offset := 0, embedded := false, tag := "", pkgPath := "runtime", byteOffset := 0 }, { name := "addr", type := 12, offset := 1, embedded := false, tag := "", pkgPath := "runtime", byteOffset := 16 }] [(0, 1), (1, 1)] := ⟨by kernel_rfl⟩
instance : Places Try.prog [{ name := "typ", type := 17, offset := 0, embedded := false, tag := "", pkgPath := "internal/runtime/maps", byteOffset := 0 }] [(0, 1)] := ⟨by kernel_rfl⟩
instance : Places Try.prog [{ name := "Layout", type := 3, offset := 0, embedded := false, tag := "", pkgPath := "", byteOffset := 0 }, { name := "Min", type := 22, offset := 1, embedded := false, tag := "", pkgPath := "", byteOffset := 8 }, { name := "Max", type := 22, offset := 2, embedded := false, tag := "", pkgPath := "", byteOffset := 32 }] [(0, 1), (1, 1), (2, 1)] := ⟨by kernel_rfl⟩
instance : Places Try.prog [{ name := "Min", type := 53, offset := 0, embedded := false, tag := "", pkgPath := "", byteOffset := 0 }, { name := "Max", type := 53, offset := 1, embedded := false, tag := "", pkgPath := "", byteOffset := 16 }] [(0, 1), (1, 1)] := ⟨by kernel_rfl⟩
instance : Places Try.prog [{ name := "layout", type := 47, offset := 0, embedded := false, tag := "", pkgPath := "pub-orthodrome/pub/gogeom", byteOffset := 0 }, { name := "min", type := 49, offset := 1, embedded := false, tag := "", pkgPath := "pub-orthodrome/pub/gogeom", byteOffset := 8 }, { name := "max", type := 49, offset := 2, embedded := false, tag := "", pkgPath := "pub-orthodrome/pub/gogeom", byteOffset := 32 }] [(0, 1), (1, 1), (2, 1)] := ⟨by kernel_rfl⟩
instance : Places Try.prog [{ name := "_interface", type := 17, offset := 0, embedded := false, tag := "", pkgPath := "runtime", byteOffset := 0 }, { name := "concrete", type := 17, offset := 1, embedded := false, tag := "", pkgPath := "runtime", byteOffset := 8 }, { name := "asserted", type := 17, offset := 2, embedded := false, tag := "", pkgPath := "runtime", byteOffset := 16 }, { name := "missingMethod", type := 9, offset := 3, embedded := false, tag := "", pkgPath := "runtime", byteOffset := 24 }] [(0, 1), (1, 1), (2, 1), (3, 1)] := ⟨by kernel_rfl⟩
instance : Places Try.prog [{ name := "_", type := 70, offset := 0, embedded := false, tag := "", pkgPath := "runtime", byteOffset := 0 }] [(0, 0)] := ⟨by kernel_rfl⟩
instance : Places Try.prog [{ name := "Size_", type := 12, offset := 0, embedded := false, tag := "", pkgPath := "", byteOffset := 0 }, { name := "PtrBytes", type := 12, offset := 1, embedded := false, tag := "", pkgPath := "", byteOffset := 8 }, { name := "Hash", type := 73, offset := 2, embedded := false, tag := "", pkgPath := "", byteOffset := 16 }, { name := "TFlag", type := 74, offset := 3, embedded := false, tag := "", pkgPath := "", byteOffset := 20 }, { name := "Align_", type := 5, offset := 4, embedded := false, tag := "", pkgPath := "", byteOffset := 21 }, { name := "FieldAlign_", type := 5, offset := 5, embedded := false, tag := "", pkgPath := "", byteOffset := 22 }, { name := "Kind_", type := 75, offset := 6, embedded := false, tag := "", pkgPath := "", byteOffset := 23 }, { name := "Equal", type := 76, offset := 7, embedded := false, tag := "", pkgPath := "", byteOffset := 24 }, { name := "GCData", type := 77, offset := 8, embedded := false, tag := "", pkgPath := "", byteOffset := 32 }, { name := "Str", type := 78, offset := 9, embedded := false, tag := "", pkgPath := "", byteOffset := 40 }, { name := "PtrToThis", type := 79, offset := 10, embedded := false, tag := "", pkgPath := "", byteOffset := 44 }] [(0, 1), (1, 1), (2, 1), (3, 1), (4, 1), (5, 1), (6, 1), (7, 1), (8, 1), (9, 1), (10, 1)] := ⟨by kernel_rfl⟩
instance : Enters Try.prog 3 := ⟨Try.f3, Try.func3, rfl, rfl⟩
instance : Enters Try.prog 4 := ⟨Try.f4, Try.func4, rfl, rfl⟩
instance : Enters Try.prog 5 := ⟨Try.f5, Try.func5, rfl, rfl⟩
instance : Enters Try.prog 6 := ⟨Try.f6, Try.func6, rfl, rfl⟩
instance : Enters Try.prog 7 := ⟨Try.f7, Try.func7, rfl, rfl⟩
instance : Enters Try.prog 8 := ⟨Try.f8, Try.func8, rfl, rfl⟩
instance : Enters Try.prog 9 := ⟨Try.f9, Try.func9, rfl, rfl⟩
instance : Enters Try.prog 10 := ⟨Try.f10, Try.func10, rfl, rfl⟩
instance : Enters Try.prog 11 := ⟨Try.f11, Try.func11, rfl, rfl⟩
instance : Enters Try.prog 12 := ⟨Try.f12, Try.func12, rfl, rfl⟩
instance : Enters Try.prog 13 := ⟨Try.f13, Try.func13, rfl, rfl⟩
instance : Enters Try.prog 14 := ⟨Try.f14, Try.func14, rfl, rfl⟩
instance : Enters Try.prog 15 := ⟨Try.f15, Try.func15, rfl, rfl⟩
instance : Enters Try.prog 16 := ⟨Try.f16, Try.func16, rfl, rfl⟩
instance : Enters Try.prog 17 := ⟨Try.f17, Try.func17, rfl, rfl⟩
instance : Enters Try.prog 18 := ⟨Try.f18, Try.func18, rfl, rfl⟩
instance : Enters Try.prog 19 := ⟨Try.f19, Try.func19, rfl, rfl⟩
instance : Enters Try.prog 20 := ⟨Try.f20, Try.func20, rfl, rfl⟩
instance : Enters Try.prog 21 := ⟨Try.f21, Try.func21, rfl, rfl⟩
instance : Enters Try.prog 22 := ⟨Try.f22, Try.func22, rfl, rfl⟩
instance : Enters Try.prog 23 := ⟨Try.f23, Try.func23, rfl, rfl⟩
instance : Enters Try.prog 24 := ⟨Try.f24, Try.func24, rfl, rfl⟩
instance : Enters Try.prog 25 := ⟨Try.f25, Try.func25, rfl, rfl⟩
instance : Enters Try.prog 26 := ⟨Try.f26, Try.func26, rfl, rfl⟩
instance : Enters Try.prog 27 := ⟨Try.f27, Try.func27, rfl, rfl⟩
instance : Enters Try.prog 29 := ⟨Try.f29, Try.func29, rfl, rfl⟩
instance : Enters Try.prog 30 := ⟨Try.f30, Try.func30, rfl, rfl⟩
instance : Enters Try.prog 31 := ⟨Try.f31, Try.func31, rfl, rfl⟩
instance : Enters Try.prog 49 := ⟨Try.f49, Try.func49, rfl, rfl⟩
instance : Enters Try.prog 50 := ⟨Try.f50, Try.func50, rfl, rfl⟩
theorem mixed : Try.prog.follows .mixedOrders = true := by kernel_rfl
end Go.Lg
