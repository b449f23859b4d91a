/-
  The sizes and the make of this translation's types, and which functions have a body: closed facts, written by a small program (seatty.py). No conditions.
-/
import Derived.Test.YtmgbaahihaknpaaProg
import Derived.Test.YtmgbaahihaknpaaLg3
import Derived.KernelRfl
namespace Go.Lg
open Go.Proofs
instance : Und Try.prog 0 (TypeDesc.tuple #[]) := ⟨Try.underlying0⟩
instance : Und Try.prog 1 (TypeDesc.func #[] #[] false) := ⟨Try.underlying1⟩
instance : Inf Try.prog 1 1 8 [.nilFunc] := ⟨by kernel_rfl⟩
instance : Und Try.prog 2 (TypeDesc.int IntKind.i64) := ⟨Try.underlying2⟩
instance : Inf Try.prog 2 1 8 [.int .i64 0] := ⟨by kernel_rfl⟩
instance : Und Try.prog 3 (TypeDesc.int IntKind.i64) := ⟨Try.underlying3⟩
instance : Inf Try.prog 3 1 8 [.int .i64 0] := ⟨by kernel_rfl⟩
instance : Und Try.prog 4 TypeDesc.bool := ⟨Try.underlying4⟩
instance : Inf Try.prog 4 1 1 [.bool false] := ⟨by kernel_rfl⟩
instance : Und Try.prog 5 (TypeDesc.int IntKind.u8) := ⟨Try.underlying5⟩
instance : Inf Try.prog 5 1 1 [.int .u8 0] := ⟨by kernel_rfl⟩
instance : Und Try.prog 6 (TypeDesc.int IntKind.u8) := ⟨Try.underlying6⟩
instance : Inf Try.prog 6 1 1 [.int .u8 0] := ⟨by kernel_rfl⟩
instance : Und Try.prog 7 (TypeDesc.struct #[{ name := "x", type := 2, offset := 0, embedded := false, tag := "", pkgPath := "runtime", byteOffset := 0 }, { name := "y", type := 3, offset := 1, embedded := false, tag := "", pkgPath := "runtime", byteOffset := 8 }, { name := "signed", type := 4, offset := 2, embedded := false, tag := "", pkgPath := "runtime", byteOffset := 16 }, { name := "code", type := 6, offset := 3, embedded := false, tag := "", pkgPath := "runtime", byteOffset := 17 }]) := ⟨Try.underlying7⟩
instance : Inf Try.prog 7 4 24 [.int .i64 0, .int .i64 0, .bool false, .int .u8 0] := ⟨by kernel_rfl⟩
instance : Und Try.prog 8 (TypeDesc.struct #[{ name := "x", type := 2, offset := 0, embedded := false, tag := "", pkgPath := "runtime", byteOffset := 0 }, { name := "y", type := 3, offset := 1, embedded := false, tag := "", pkgPath := "runtime", byteOffset := 8 }, { name := "signed", type := 4, offset := 2, embedded := false, tag := "", pkgPath := "runtime", byteOffset := 16 }, { name := "code", type := 6, offset := 3, embedded := false, tag := "", pkgPath := "runtime", byteOffset := 17 }]) := ⟨Try.underlying8⟩
instance : Inf Try.prog 8 4 24 [.int .i64 0, .int .i64 0, .bool false, .int .u8 0] := ⟨by kernel_rfl⟩
instance : Und Try.prog 9 TypeDesc.string := ⟨Try.underlying9⟩
instance : Inf Try.prog 9 1 16 [.string ⟨#[]⟩] := ⟨by kernel_rfl⟩
instance : Und Try.prog 10 TypeDesc.string := ⟨Try.underlying10⟩
instance : Inf Try.prog 10 1 16 [.string ⟨#[]⟩] := ⟨by kernel_rfl⟩
instance : Und Try.prog 11 TypeDesc.string := ⟨Try.underlying11⟩
instance : Inf Try.prog 11 1 16 [.string ⟨#[]⟩] := ⟨by kernel_rfl⟩
instance : Und Try.prog 12 (TypeDesc.int IntKind.u64) := ⟨Try.underlying12⟩
instance : Inf Try.prog 12 1 8 [.int .u64 0] := ⟨by kernel_rfl⟩
instance : Und Try.prog 13 (TypeDesc.struct #[{ name := "msg", type := 9, offset := 0, embedded := false, tag := "", pkgPath := "runtime", byteOffset := 0 }, { name := "addr", type := 12, offset := 1, embedded := false, tag := "", pkgPath := "runtime", byteOffset := 16 }]) := ⟨Try.underlying13⟩
instance : Inf Try.prog 13 2 24 [.string ⟨#[]⟩, .int .u64 0] := ⟨by kernel_rfl⟩
instance : Und Try.prog 14 (TypeDesc.struct #[{ name := "msg", type := 9, offset := 0, embedded := false, tag := "", pkgPath := "runtime", byteOffset := 0 }, { name := "addr", type := 12, offset := 1, embedded := false, tag := "", pkgPath := "runtime", byteOffset := 16 }]) := ⟨Try.underlying14⟩
instance : Inf Try.prog 14 2 24 [.string ⟨#[]⟩, .int .u64 0] := ⟨by kernel_rfl⟩
instance : Und Try.prog 15 (TypeDesc.pointer 80) := ⟨Try.underlying15⟩
instance : Inf Try.prog 15 1 8 [.pointer none] := ⟨by kernel_rfl⟩
instance : Und Try.prog 16 (TypeDesc.pointer 83) := ⟨Try.underlying16⟩
instance : Inf Try.prog 16 1 8 [.pointer none] := ⟨by kernel_rfl⟩
instance : Und Try.prog 17 (TypeDesc.pointer 92) := ⟨Try.underlying17⟩
instance : Inf Try.prog 17 1 8 [.pointer none] := ⟨by kernel_rfl⟩
instance : Und Try.prog 18 (TypeDesc.struct #[{ name := "typ", type := 17, offset := 0, embedded := false, tag := "", pkgPath := "internal/runtime/maps", byteOffset := 0 }]) := ⟨Try.underlying18⟩
instance : Inf Try.prog 18 1 8 [.pointer none] := ⟨by kernel_rfl⟩
instance : Und Try.prog 19 (TypeDesc.struct #[{ name := "typ", type := 17, offset := 0, embedded := false, tag := "", pkgPath := "internal/runtime/maps", byteOffset := 0 }]) := ⟨Try.underlying19⟩
instance : Inf Try.prog 19 1 8 [.pointer none] := ⟨by kernel_rfl⟩
instance : Und Try.prog 20 (TypeDesc.interface #[]) := ⟨Try.underlying20⟩
instance : Inf Try.prog 20 1 16 [.nilIface] := ⟨by kernel_rfl⟩
instance : Und Try.prog 21 (TypeDesc.int IntKind.i32) := ⟨Try.underlying21⟩
instance : Inf Try.prog 21 1 4 [.int .i32 0] := ⟨by kernel_rfl⟩
instance : Und Try.prog 22 (TypeDesc.func #[3] #[3] false) := ⟨Try.underlying22⟩
instance : Inf Try.prog 22 1 8 [.nilFunc] := ⟨by kernel_rfl⟩
instance : Und Try.prog 23 (TypeDesc.func #[3] #[4] false) := ⟨Try.underlying23⟩
instance : Inf Try.prog 23 1 8 [.nilFunc] := ⟨by kernel_rfl⟩
instance : Und Try.prog 24 (TypeDesc.float FloatKind.f64) := ⟨Try.underlying24⟩
instance : Inf Try.prog 24 1 8 [.float .f64 0] := ⟨by kernel_rfl⟩
instance : Und Try.prog 25 (TypeDesc.struct #[{ name := "X", type := 24, offset := 0, embedded := false, tag := "", pkgPath := "", byteOffset := 0 }, { name := "Y", type := 24, offset := 1, embedded := false, tag := "", pkgPath := "", byteOffset := 8 }]) := ⟨Try.underlying25⟩
instance : Inf Try.prog 25 2 16 [.float .f64 0, .float .f64 0] := ⟨by kernel_rfl⟩
instance : Und Try.prog 26 (TypeDesc.struct #[{ name := "X", type := 24, offset := 0, embedded := false, tag := "", pkgPath := "", byteOffset := 0 }, { name := "Y", type := 24, offset := 1, embedded := false, tag := "", pkgPath := "", byteOffset := 8 }]) := ⟨Try.underlying26⟩
instance : Inf Try.prog 26 2 16 [.float .f64 0, .float .f64 0] := ⟨by kernel_rfl⟩
instance : Und Try.prog 27 (TypeDesc.func #[48] #[4] true) := ⟨Try.underlying27⟩
instance : Inf Try.prog 27 1 8 [.nilFunc] := ⟨by kernel_rfl⟩
instance : Und Try.prog 28 (TypeDesc.func #[26, 26] #[24] false) := ⟨Try.underlying28⟩
instance : Inf Try.prog 28 1 8 [.nilFunc] := ⟨by kernel_rfl⟩
instance : Und Try.prog 29 (TypeDesc.func #[26, 26] #[4] false) := ⟨Try.underlying29⟩
instance : Inf Try.prog 29 1 8 [.nilFunc] := ⟨by kernel_rfl⟩
instance : Und Try.prog 30 (TypeDesc.struct #[{ name := "Min", type := 26, offset := 0, embedded := false, tag := "", pkgPath := "", byteOffset := 0 }, { name := "Max", type := 26, offset := 2, embedded := false, tag := "", pkgPath := "", byteOffset := 16 }]) := ⟨Try.underlying30⟩
instance : Inf Try.prog 30 4 32 [.float .f64 0, .float .f64 0, .float .f64 0, .float .f64 0] := ⟨by kernel_rfl⟩
instance : Und Try.prog 31 (TypeDesc.struct #[{ name := "Min", type := 26, offset := 0, embedded := false, tag := "", pkgPath := "", byteOffset := 0 }, { name := "Max", type := 26, offset := 2, embedded := false, tag := "", pkgPath := "", byteOffset := 16 }]) := ⟨Try.underlying31⟩
instance : Inf Try.prog 31 4 32 [.float .f64 0, .float .f64 0, .float .f64 0, .float .f64 0] := ⟨by kernel_rfl⟩
instance : Und Try.prog 32 (TypeDesc.func #[31, 26] #[31] false) := ⟨Try.underlying32⟩
instance : Inf Try.prog 32 1 8 [.nilFunc] := ⟨by kernel_rfl⟩
instance : Und Try.prog 33 (TypeDesc.func #[26, 26] #[31] false) := ⟨Try.underlying33⟩
instance : Inf Try.prog 33 1 8 [.nilFunc] := ⟨by kernel_rfl⟩
instance : Und Try.prog 34 (TypeDesc.func #[26, 26, 26] #[4] false) := ⟨Try.underlying34⟩
instance : Inf Try.prog 34 1 8 [.nilFunc] := ⟨by kernel_rfl⟩
instance : Und Try.prog 35 (TypeDesc.struct #[{ name := "X", type := 24, offset := 0, embedded := false, tag := "", pkgPath := "", byteOffset := 0 }, { name := "Y", type := 24, offset := 1, embedded := false, tag := "", pkgPath := "", byteOffset := 8 }, { name := "Z", type := 24, offset := 2, embedded := false, tag := "", pkgPath := "", byteOffset := 16 }]) := ⟨Try.underlying35⟩
instance : Inf Try.prog 35 3 24 [.float .f64 0, .float .f64 0, .float .f64 0] := ⟨by kernel_rfl⟩
instance : Und Try.prog 36 (TypeDesc.struct #[{ name := "X", type := 24, offset := 0, embedded := false, tag := "", pkgPath := "", byteOffset := 0 }, { name := "Y", type := 24, offset := 1, embedded := false, tag := "", pkgPath := "", byteOffset := 8 }, { name := "Z", type := 24, offset := 2, embedded := false, tag := "", pkgPath := "", byteOffset := 16 }]) := ⟨Try.underlying36⟩
instance : Inf Try.prog 36 3 24 [.float .f64 0, .float .f64 0, .float .f64 0] := ⟨by kernel_rfl⟩
instance : Und Try.prog 37 (TypeDesc.func #[60] #[4] true) := ⟨Try.underlying37⟩
instance : Inf Try.prog 37 1 8 [.nilFunc] := ⟨by kernel_rfl⟩
instance : Und Try.prog 38 (TypeDesc.struct #[{ name := "Min", type := 36, offset := 0, embedded := false, tag := "", pkgPath := "", byteOffset := 0 }, { name := "Max", type := 36, offset := 3, embedded := false, tag := "", pkgPath := "", byteOffset := 24 }]) := ⟨Try.underlying38⟩
instance : Inf Try.prog 38 6 48 [.float .f64 0, .float .f64 0, .float .f64 0, .float .f64 0, .float .f64 0, .float .f64 0] := ⟨by kernel_rfl⟩
instance : Und Try.prog 39 (TypeDesc.struct #[{ name := "Min", type := 36, offset := 0, embedded := false, tag := "", pkgPath := "", byteOffset := 0 }, { name := "Max", type := 36, offset := 3, embedded := false, tag := "", pkgPath := "", byteOffset := 24 }]) := ⟨Try.underlying39⟩
instance : Inf Try.prog 39 6 48 [.float .f64 0, .float .f64 0, .float .f64 0, .float .f64 0, .float .f64 0, .float .f64 0] := ⟨by kernel_rfl⟩
instance : Und Try.prog 40 (TypeDesc.func #[39, 36] #[39] false) := ⟨Try.underlying40⟩
instance : Inf Try.prog 40 1 8 [.nilFunc] := ⟨by kernel_rfl⟩
instance : Und Try.prog 41 (TypeDesc.func #[36, 36] #[39] false) := ⟨Try.underlying41⟩
instance : Inf Try.prog 41 1 8 [.nilFunc] := ⟨by kernel_rfl⟩
instance : Und Try.prog 42 (TypeDesc.func #[36, 36, 36] #[4] false) := ⟨Try.underlying42⟩
instance : Inf Try.prog 42 1 8 [.nilFunc] := ⟨by kernel_rfl⟩
instance : Und Try.prog 43 (TypeDesc.func #[26, 26] #[26] false) := ⟨Try.underlying43⟩
instance : Inf Try.prog 43 1 8 [.nilFunc] := ⟨by kernel_rfl⟩
instance : Und Try.prog 44 (TypeDesc.func #[36, 36] #[36] false) := ⟨Try.underlying44⟩
instance : Inf Try.prog 44 1 8 [.nilFunc] := ⟨by kernel_rfl⟩
instance : Und Try.prog 45 (TypeDesc.func #[36, 36] #[4] false) := ⟨Try.underlying45⟩
instance : Inf Try.prog 45 1 8 [.nilFunc] := ⟨by kernel_rfl⟩
instance : Und Try.prog 46 (TypeDesc.int IntKind.i64) := ⟨Try.underlying46⟩
instance : Inf Try.prog 46 1 8 [.int .i64 0] := ⟨by kernel_rfl⟩
instance : Und Try.prog 47 (TypeDesc.func #[] #[3] false) := ⟨Try.underlying47⟩
instance : Inf Try.prog 47 1 8 [.nilFunc] := ⟨by kernel_rfl⟩
instance : Und Try.prog 48 (TypeDesc.slice 26) := ⟨Try.underlying48⟩
instance : Inf Try.prog 48 1 24 [.slice none 0 0] := ⟨by kernel_rfl⟩
instance : Und Try.prog 49 (TypeDesc.func #[52, 3, 24] #[4] false) := ⟨Try.underlying49⟩
instance : Inf Try.prog 49 1 8 [.nilFunc] := ⟨by kernel_rfl⟩
instance : Und Try.prog 50 (TypeDesc.slice 24) := ⟨Try.underlying50⟩
instance : Inf Try.prog 50 1 24 [.slice none 0 0] := ⟨by kernel_rfl⟩
instance : Und Try.prog 51 (TypeDesc.func #[26] #[50] false) := ⟨Try.underlying51⟩
instance : Inf Try.prog 51 1 8 [.nilFunc] := ⟨by kernel_rfl⟩
instance : Und Try.prog 52 (TypeDesc.slice 50) := ⟨Try.underlying52⟩
instance : Inf Try.prog 52 1 24 [.slice none 0 0] := ⟨by kernel_rfl⟩
instance : Und Try.prog 53 (TypeDesc.func #[54, 54] #[24] false) := ⟨Try.underlying53⟩
instance : Inf Try.prog 53 1 8 [.nilFunc] := ⟨by kernel_rfl⟩
instance : Und Try.prog 54 (TypeDesc.struct #[{ name := "X", type := 24, offset := 0, embedded := false, tag := "", pkgPath := "", byteOffset := 0 }, { name := "Y", type := 24, offset := 1, embedded := false, tag := "", pkgPath := "", byteOffset := 8 }]) := ⟨Try.underlying54⟩
instance : Inf Try.prog 54 2 16 [.float .f64 0, .float .f64 0] := ⟨by kernel_rfl⟩
instance : Und Try.prog 55 (TypeDesc.func #[26] #[54] false) := ⟨Try.underlying55⟩
instance : Inf Try.prog 55 1 8 [.nilFunc] := ⟨by kernel_rfl⟩
instance : Und Try.prog 56 (TypeDesc.func #[58] #[31] false) := ⟨Try.underlying56⟩
instance : Inf Try.prog 56 1 8 [.nilFunc] := ⟨by kernel_rfl⟩
instance : Und Try.prog 57 (TypeDesc.struct #[{ name := "Min", type := 54, offset := 0, embedded := false, tag := "", pkgPath := "", byteOffset := 0 }, { name := "Max", type := 54, offset := 2, embedded := false, tag := "", pkgPath := "", byteOffset := 16 }]) := ⟨Try.underlying57⟩
instance : Inf Try.prog 57 4 32 [.float .f64 0, .float .f64 0, .float .f64 0, .float .f64 0] := ⟨by kernel_rfl⟩
instance : Und Try.prog 58 (TypeDesc.struct #[{ name := "Min", type := 54, offset := 0, embedded := false, tag := "", pkgPath := "", byteOffset := 0 }, { name := "Max", type := 54, offset := 2, embedded := false, tag := "", pkgPath := "", byteOffset := 16 }]) := ⟨Try.underlying58⟩
instance : Inf Try.prog 58 4 32 [.float .f64 0, .float .f64 0, .float .f64 0, .float .f64 0] := ⟨by kernel_rfl⟩
instance : Und Try.prog 59 (TypeDesc.func #[54] #[58] false) := ⟨Try.underlying59⟩
instance : Inf Try.prog 59 1 8 [.nilFunc] := ⟨by kernel_rfl⟩
instance : Und Try.prog 60 (TypeDesc.slice 36) := ⟨Try.underlying60⟩
instance : Inf Try.prog 60 1 24 [.slice none 0 0] := ⟨by kernel_rfl⟩
instance : Und Try.prog 61 (TypeDesc.func #[36] #[50] false) := ⟨Try.underlying61⟩
instance : Inf Try.prog 61 1 8 [.nilFunc] := ⟨by kernel_rfl⟩
instance : Und Try.prog 62 (TypeDesc.func #[65] #[39] false) := ⟨Try.underlying62⟩
instance : Inf Try.prog 62 1 8 [.nilFunc] := ⟨by kernel_rfl⟩
instance : Und Try.prog 63 (TypeDesc.struct #[{ name := "X", type := 24, offset := 0, embedded := false, tag := "", pkgPath := "", byteOffset := 0 }, { name := "Y", type := 24, offset := 1, embedded := false, tag := "", pkgPath := "", byteOffset := 8 }, { name := "Z", type := 24, offset := 2, embedded := false, tag := "", pkgPath := "", byteOffset := 16 }]) := ⟨Try.underlying63⟩
instance : Inf Try.prog 63 3 24 [.float .f64 0, .float .f64 0, .float .f64 0] := ⟨by kernel_rfl⟩
instance : Und Try.prog 64 (TypeDesc.struct #[{ name := "Min", type := 63, offset := 0, embedded := false, tag := "", pkgPath := "", byteOffset := 0 }, { name := "Max", type := 63, offset := 3, embedded := false, tag := "", pkgPath := "", byteOffset := 24 }]) := ⟨Try.underlying64⟩
instance : Inf Try.prog 64 6 48 [.float .f64 0, .float .f64 0, .float .f64 0, .float .f64 0, .float .f64 0, .float .f64 0] := ⟨by kernel_rfl⟩
instance : Und Try.prog 65 (TypeDesc.struct #[{ name := "Min", type := 63, offset := 0, embedded := false, tag := "", pkgPath := "", byteOffset := 0 }, { name := "Max", type := 63, offset := 3, embedded := false, tag := "", pkgPath := "", byteOffset := 24 }]) := ⟨Try.underlying65⟩
instance : Inf Try.prog 65 6 48 [.float .f64 0, .float .f64 0, .float .f64 0, .float .f64 0, .float .f64 0, .float .f64 0] := ⟨by kernel_rfl⟩
instance : Und Try.prog 66 (TypeDesc.func #[36] #[63] false) := ⟨Try.underlying66⟩
instance : Inf Try.prog 66 1 8 [.nilFunc] := ⟨by kernel_rfl⟩
instance : Und Try.prog 67 (TypeDesc.func #[63] #[65] false) := ⟨Try.underlying67⟩
instance : Inf Try.prog 67 1 8 [.nilFunc] := ⟨by kernel_rfl⟩
instance : Und Try.prog 68 (TypeDesc.func #[54] #[26] false) := ⟨Try.underlying68⟩
instance : Inf Try.prog 68 1 8 [.nilFunc] := ⟨by kernel_rfl⟩
instance : Und Try.prog 69 (TypeDesc.func #[54, 54] #[54] false) := ⟨Try.underlying69⟩
instance : Inf Try.prog 69 1 8 [.nilFunc] := ⟨by kernel_rfl⟩
instance : Und Try.prog 70 (TypeDesc.func #[63] #[36] false) := ⟨Try.underlying70⟩
instance : Inf Try.prog 70 1 8 [.nilFunc] := ⟨by kernel_rfl⟩
instance : Und Try.prog 71 (TypeDesc.func #[63, 63] #[63] false) := ⟨Try.underlying71⟩
instance : Inf Try.prog 71 1 8 [.nilFunc] := ⟨by kernel_rfl⟩
instance : Und Try.prog 72 (TypeDesc.func #[24] #[24] false) := ⟨Try.underlying72⟩
instance : Inf Try.prog 72 1 8 [.nilFunc] := ⟨by kernel_rfl⟩
instance : Und Try.prog 73 (TypeDesc.func #[24, 24] #[24] false) := ⟨Try.underlying73⟩
instance : Inf Try.prog 73 1 8 [.nilFunc] := ⟨by kernel_rfl⟩
instance : Und Try.prog 74 (TypeDesc.int IntKind.u64) := ⟨Try.underlying74⟩
instance : Inf Try.prog 74 1 8 [.int .u64 0] := ⟨by kernel_rfl⟩
instance : Und Try.prog 75 (TypeDesc.func #[24] #[74] false) := ⟨Try.underlying75⟩
instance : Inf Try.prog 75 1 8 [.nilFunc] := ⟨by kernel_rfl⟩
instance : Und Try.prog 76 (TypeDesc.int IntKind.u64) := ⟨Try.underlying76⟩
instance : Inf Try.prog 76 1 8 [.int .u64 0] := ⟨by kernel_rfl⟩
instance : Und Try.prog 77 (TypeDesc.func #[74] #[24] false) := ⟨Try.underlying77⟩
instance : Inf Try.prog 77 1 8 [.nilFunc] := ⟨by kernel_rfl⟩
instance : Und Try.prog 78 (TypeDesc.func #[] #[9] false) := ⟨Try.underlying78⟩
instance : Inf Try.prog 78 1 8 [.nilFunc] := ⟨by kernel_rfl⟩
instance : Und Try.prog 79 (TypeDesc.struct #[{ name := "_interface", type := 17, offset := 0, embedded := false, tag := "", pkgPath := "runtime", byteOffset := 0 }, { name := "concrete", type := 17, offset := 1, embedded := false, tag := "", pkgPath := "runtime", byteOffset := 8 }, { name := "asserted", type := 17, offset := 2, embedded := false, tag := "", pkgPath := "runtime", byteOffset := 16 }, { name := "missingMethod", type := 9, offset := 3, embedded := false, tag := "", pkgPath := "runtime", byteOffset := 24 }]) := ⟨Try.underlying79⟩
instance : Inf Try.prog 79 4 40 [.pointer none, .pointer none, .pointer none, .string ⟨#[]⟩] := ⟨by kernel_rfl⟩
instance : Und Try.prog 80 (TypeDesc.struct #[{ name := "_interface", type := 17, offset := 0, embedded := false, tag := "", pkgPath := "runtime", byteOffset := 0 }, { name := "concrete", type := 17, offset := 1, embedded := false, tag := "", pkgPath := "runtime", byteOffset := 8 }, { name := "asserted", type := 17, offset := 2, embedded := false, tag := "", pkgPath := "runtime", byteOffset := 16 }, { name := "missingMethod", type := 9, offset := 3, embedded := false, tag := "", pkgPath := "runtime", byteOffset := 24 }]) := ⟨Try.underlying80⟩
instance : Inf Try.prog 80 4 40 [.pointer none, .pointer none, .pointer none, .string ⟨#[]⟩] := ⟨by kernel_rfl⟩
instance : Und Try.prog 81 (TypeDesc.array 0 16) := ⟨Try.underlying81⟩
instance : Inf Try.prog 81 0 0 [] := ⟨by kernel_rfl⟩
instance : Und Try.prog 82 (TypeDesc.struct #[{ name := "_", type := 81, offset := 0, embedded := false, tag := "", pkgPath := "runtime", byteOffset := 0 }]) := ⟨Try.underlying82⟩
instance : Inf Try.prog 82 0 0 [] := ⟨by kernel_rfl⟩
instance : Und Try.prog 83 (TypeDesc.struct #[{ name := "_", type := 81, offset := 0, embedded := false, tag := "", pkgPath := "runtime", byteOffset := 0 }]) := ⟨Try.underlying83⟩
instance : Inf Try.prog 83 0 0 [] := ⟨by kernel_rfl⟩
instance : Und Try.prog 84 (TypeDesc.int IntKind.u32) := ⟨Try.underlying84⟩
instance : Inf Try.prog 84 1 4 [.int .u32 0] := ⟨by kernel_rfl⟩
instance : Und Try.prog 85 (TypeDesc.int IntKind.u8) := ⟨Try.underlying85⟩
instance : Inf Try.prog 85 1 1 [.int .u8 0] := ⟨by kernel_rfl⟩
instance : Und Try.prog 86 (TypeDesc.int IntKind.u8) := ⟨Try.underlying86⟩
instance : Inf Try.prog 86 1 1 [.int .u8 0] := ⟨by kernel_rfl⟩
instance : Und Try.prog 87 (TypeDesc.func #[94, 94] #[4] false) := ⟨Try.underlying87⟩
instance : Inf Try.prog 87 1 8 [.nilFunc] := ⟨by kernel_rfl⟩
instance : Und Try.prog 88 (TypeDesc.pointer 5) := ⟨Try.underlying88⟩
instance : Inf Try.prog 88 1 8 [.pointer none] := ⟨by kernel_rfl⟩
instance : Und Try.prog 89 (TypeDesc.int IntKind.i32) := ⟨Try.underlying89⟩
instance : Inf Try.prog 89 1 4 [.int .i32 0] := ⟨by kernel_rfl⟩
instance : Und Try.prog 90 (TypeDesc.int IntKind.i32) := ⟨Try.underlying90⟩
instance : Inf Try.prog 90 1 4 [.int .i32 0] := ⟨by kernel_rfl⟩
instance : Und Try.prog 91 (TypeDesc.struct #[{ name := "Size_", type := 12, offset := 0, embedded := false, tag := "", pkgPath := "", byteOffset := 0 }, { name := "PtrBytes", type := 12, offset := 1, embedded := false, tag := "", pkgPath := "", byteOffset := 8 }, { name := "Hash", type := 84, offset := 2, embedded := false, tag := "", pkgPath := "", byteOffset := 16 }, { name := "TFlag", type := 85, offset := 3, embedded := false, tag := "", pkgPath := "", byteOffset := 20 }, { name := "Align_", type := 5, offset := 4, embedded := false, tag := "", pkgPath := "", byteOffset := 21 }, { name := "FieldAlign_", type := 5, offset := 5, embedded := false, tag := "", pkgPath := "", byteOffset := 22 }, { name := "Kind_", type := 86, offset := 6, embedded := false, tag := "", pkgPath := "", byteOffset := 23 }, { name := "Equal", type := 87, offset := 7, embedded := false, tag := "", pkgPath := "", byteOffset := 24 }, { name := "GCData", type := 88, offset := 8, embedded := false, tag := "", pkgPath := "", byteOffset := 32 }, { name := "Str", type := 89, offset := 9, embedded := false, tag := "", pkgPath := "", byteOffset := 40 }, { name := "PtrToThis", type := 90, offset := 10, embedded := false, tag := "", pkgPath := "", byteOffset := 44 }]) := ⟨Try.underlying91⟩
instance : Inf Try.prog 91 11 48 [.int .u64 0, .int .u64 0, .int .u32 0, .int .u8 0, .int .u8 0, .int .u8 0, .int .u8 0, .nilFunc, .pointer none, .int .i32 0, .int .i32 0] := ⟨by kernel_rfl⟩
instance : Und Try.prog 92 (TypeDesc.struct #[{ name := "Size_", type := 12, offset := 0, embedded := false, tag := "", pkgPath := "", byteOffset := 0 }, { name := "PtrBytes", type := 12, offset := 1, embedded := false, tag := "", pkgPath := "", byteOffset := 8 }, { name := "Hash", type := 84, offset := 2, embedded := false, tag := "", pkgPath := "", byteOffset := 16 }, { name := "TFlag", type := 85, offset := 3, embedded := false, tag := "", pkgPath := "", byteOffset := 20 }, { name := "Align_", type := 5, offset := 4, embedded := false, tag := "", pkgPath := "", byteOffset := 21 }, { name := "FieldAlign_", type := 5, offset := 5, embedded := false, tag := "", pkgPath := "", byteOffset := 22 }, { name := "Kind_", type := 86, offset := 6, embedded := false, tag := "", pkgPath := "", byteOffset := 23 }, { name := "Equal", type := 87, offset := 7, embedded := false, tag := "", pkgPath := "", byteOffset := 24 }, { name := "GCData", type := 88, offset := 8, embedded := false, tag := "", pkgPath := "", byteOffset := 32 }, { name := "Str", type := 89, offset := 9, embedded := false, tag := "", pkgPath := "", byteOffset := 40 }, { name := "PtrToThis", type := 90, offset := 10, embedded := false, tag := "", pkgPath := "", byteOffset := 44 }]) := ⟨Try.underlying92⟩
instance : Inf Try.prog 92 11 48 [.int .u64 0, .int .u64 0, .int .u32 0, .int .u8 0, .int .u8 0, .int .u8 0, .int .u8 0, .nilFunc, .pointer none, .int .i32 0, .int .i32 0] := ⟨by kernel_rfl⟩
instance : Und Try.prog 93 (TypeDesc.func #[] #[4] false) := ⟨Try.underlying93⟩
instance : Inf Try.prog 93 1 8 [.nilFunc] := ⟨by kernel_rfl⟩
instance : Und Try.prog 94 TypeDesc.unsafePointer := ⟨Try.underlying94⟩
instance : Inf Try.prog 94 1 8 [.pointer none] := ⟨by kernel_rfl⟩
instance : FieldAt Try.prog 7 0 0 := .mk' Try.underlying7 rfl rfl (by kernel_rfl)
instance : FieldAt Try.prog 7 1 1 := .mk' Try.underlying7 rfl rfl (by kernel_rfl)
instance : FieldAt Try.prog 7 2 2 := .mk' Try.underlying7 rfl rfl (by kernel_rfl)
instance : FieldAt Try.prog 7 3 3 := .mk' Try.underlying7 rfl rfl (by kernel_rfl)
instance : FieldAt Try.prog 8 0 0 := .mk' Try.underlying8 rfl rfl (by kernel_rfl)
instance : FieldAt Try.prog 8 1 1 := .mk' Try.underlying8 rfl rfl (by kernel_rfl)
instance : FieldAt Try.prog 8 2 2 := .mk' Try.underlying8 rfl rfl (by kernel_rfl)
instance : FieldAt Try.prog 8 3 3 := .mk' Try.underlying8 rfl rfl (by kernel_rfl)
instance : FieldAt Try.prog 13 0 0 := .mk' Try.underlying13 rfl rfl (by kernel_rfl)
instance : FieldAt Try.prog 13 1 1 := .mk' Try.underlying13 rfl rfl (by kernel_rfl)
instance : FieldAt Try.prog 14 0 0 := .mk' Try.underlying14 rfl rfl (by kernel_rfl)
instance : FieldAt Try.prog 14 1 1 := .mk' Try.underlying14 rfl rfl (by kernel_rfl)
instance : FieldAt Try.prog 18 0 0 := .mk' Try.underlying18 rfl rfl (by kernel_rfl)
instance : FieldAt Try.prog 19 0 0 := .mk' Try.underlying19 rfl rfl (by kernel_rfl)
instance : FieldAt Try.prog 25 0 0 := .mk' Try.underlying25 rfl rfl (by kernel_rfl)
instance : FieldAt Try.prog 25 1 1 := .mk' Try.underlying25 rfl rfl (by kernel_rfl)
instance : FieldAt Try.prog 26 0 0 := .mk' Try.underlying26 rfl rfl (by kernel_rfl)
instance : FieldAt Try.prog 26 1 1 := .mk' Try.underlying26 rfl rfl (by kernel_rfl)
instance : FieldAt Try.prog 30 0 0 := .mk' Try.underlying30 rfl rfl (by kernel_rfl)
instance : FieldAt Try.prog 30 1 2 := .mk' Try.underlying30 rfl rfl (by kernel_rfl)
instance : FieldAt Try.prog 31 0 0 := .mk' Try.underlying31 rfl rfl (by kernel_rfl)
instance : FieldAt Try.prog 31 1 2 := .mk' Try.underlying31 rfl rfl (by kernel_rfl)
instance : FieldAt Try.prog 35 0 0 := .mk' Try.underlying35 rfl rfl (by kernel_rfl)
instance : FieldAt Try.prog 35 1 1 := .mk' Try.underlying35 rfl rfl (by kernel_rfl)
instance : FieldAt Try.prog 35 2 2 := .mk' Try.underlying35 rfl rfl (by kernel_rfl)
instance : FieldAt Try.prog 36 0 0 := .mk' Try.underlying36 rfl rfl (by kernel_rfl)
instance : FieldAt Try.prog 36 1 1 := .mk' Try.underlying36 rfl rfl (by kernel_rfl)
instance : FieldAt Try.prog 36 2 2 := .mk' Try.underlying36 rfl rfl (by kernel_rfl)
instance : FieldAt Try.prog 38 0 0 := .mk' Try.underlying38 rfl rfl (by kernel_rfl)
instance : FieldAt Try.prog 38 1 3 := .mk' Try.underlying38 rfl rfl (by kernel_rfl)
instance : FieldAt Try.prog 39 0 0 := .mk' Try.underlying39 rfl rfl (by kernel_rfl)
instance : FieldAt Try.prog 39 1 3 := .mk' Try.underlying39 rfl rfl (by kernel_rfl)
instance : FieldAt Try.prog 54 0 0 := .mk' Try.underlying54 rfl rfl (by kernel_rfl)
instance : FieldAt Try.prog 54 1 1 := .mk' Try.underlying54 rfl rfl (by kernel_rfl)
instance : FieldAt Try.prog 57 0 0 := .mk' Try.underlying57 rfl rfl (by kernel_rfl)
instance : FieldAt Try.prog 57 1 2 := .mk' Try.underlying57 rfl rfl (by kernel_rfl)
instance : FieldAt Try.prog 58 0 0 := .mk' Try.underlying58 rfl rfl (by kernel_rfl)
instance : FieldAt Try.prog 58 1 2 := .mk' Try.underlying58 rfl rfl (by kernel_rfl)
instance : FieldAt Try.prog 63 0 0 := .mk' Try.underlying63 rfl rfl (by kernel_rfl)
instance : FieldAt Try.prog 63 1 1 := .mk' Try.underlying63 rfl rfl (by kernel_rfl)
instance : FieldAt Try.prog 63 2 2 := .mk' Try.underlying63 rfl rfl (by kernel_rfl)
instance : FieldAt Try.prog 64 0 0 := .mk' Try.underlying64 rfl rfl (by kernel_rfl)
instance : FieldAt Try.prog 64 1 3 := .mk' Try.underlying64 rfl rfl (by kernel_rfl)
instance : FieldAt Try.prog 65 0 0 := .mk' Try.underlying65 rfl rfl (by kernel_rfl)
instance : FieldAt Try.prog 65 1 3 := .mk' Try.underlying65 rfl rfl (by kernel_rfl)
instance : FieldAt Try.prog 79 0 0 := .mk' Try.underlying79 rfl rfl (by kernel_rfl)
instance : FieldAt Try.prog 79 1 1 := .mk' Try.underlying79 rfl rfl (by kernel_rfl)
instance : FieldAt Try.prog 79 2 2 := .mk' Try.underlying79 rfl rfl (by kernel_rfl)
instance : FieldAt Try.prog 79 3 3 := .mk' Try.underlying79 rfl rfl (by kernel_rfl)
instance : FieldAt Try.prog 80 0 0 := .mk' Try.underlying80 rfl rfl (by kernel_rfl)
instance : FieldAt Try.prog 80 1 1 := .mk' Try.underlying80 rfl rfl (by kernel_rfl)
instance : FieldAt Try.prog 80 2 2 := .mk' Try.underlying80 rfl rfl (by kernel_rfl)
instance : FieldAt Try.prog 80 3 3 := .mk' Try.underlying80 rfl rfl (by kernel_rfl)
instance : FieldAt Try.prog 91 0 0 := .mk' Try.underlying91 rfl rfl (by kernel_rfl)
instance : FieldAt Try.prog 91 1 1 := .mk' Try.underlying91 rfl rfl (by kernel_rfl)
instance : FieldAt Try.prog 91 2 2 := .mk' Try.underlying91 rfl rfl (by kernel_rfl)
instance : FieldAt Try.prog 91 3 3 := .mk' Try.underlying91 rfl rfl (by kernel_rfl)
instance : FieldAt Try.prog 91 4 4 := .mk' Try.underlying91 rfl rfl (by kernel_rfl)
instance : FieldAt Try.prog 91 5 5 := .mk' Try.underlying91 rfl rfl (by kernel_rfl)
instance : FieldAt Try.prog 91 6 6 := .mk' Try.underlying91 rfl rfl (by kernel_rfl)
instance : FieldAt Try.prog 91 7 7 := .mk' Try.underlying91 rfl rfl (by kernel_rfl)
instance : FieldAt Try.prog 91 8 8 := .mk' Try.underlying91 rfl rfl (by kernel_rfl)
instance : FieldAt Try.prog 91 9 9 := .mk' Try.underlying91 rfl rfl (by kernel_rfl)
instance : FieldAt Try.prog 91 10 10 := .mk' Try.underlying91 rfl rfl (by kernel_rfl)
instance : FieldAt Try.prog 92 0 0 := .mk' Try.underlying92 rfl rfl (by kernel_rfl)
instance : FieldAt Try.prog 92 1 1 := .mk' Try.underlying92 rfl rfl (by kernel_rfl)
instance : FieldAt Try.prog 92 2 2 := .mk' Try.underlying92 rfl rfl (by kernel_rfl)
instance : FieldAt Try.prog 92 3 3 := .mk' Try.underlying92 rfl rfl (by kernel_rfl)
instance : FieldAt Try.prog 92 4 4 := .mk' Try.underlying92 rfl rfl (by kernel_rfl)
instance : FieldAt Try.prog 92 5 5 := .mk' Try.underlying92 rfl rfl (by kernel_rfl)
instance : FieldAt Try.prog 92 6 6 := .mk' Try.underlying92 rfl rfl (by kernel_rfl)
instance : FieldAt Try.prog 92 7 7 := .mk' Try.underlying92 rfl rfl (by kernel_rfl)
instance : FieldAt Try.prog 92 8 8 := .mk' Try.underlying92 rfl rfl (by kernel_rfl)
instance : FieldAt Try.prog 92 9 9 := .mk' Try.underlying92 rfl rfl (by kernel_rfl)
instance : FieldAt Try.prog 92 10 10 := .mk' Try.underlying92 rfl rfl (by kernel_rfl)
instance : Places Try.prog [{ name := "x", type := 2, offset := 0, embedded := false, tag := "", pkgPath := "runtime", byteOffset := 0 }, { name := "y", type := 3, offset := 1, embedded := false, tag := "", pkgPath := "runtime", byteOffset := 8 }, { name := "signed", type := 4, offset := 2, embedded := false, tag := "", pkgPath := "runtime", byteOffset := 16 }, { name := "code", type := 6, offset := 3, embedded := false, tag := "", pkgPath := "runtime", byteOffset := 17 }] [(0, 1), (1, 1), (2, 1), (3, 1)] := ⟨by kernel_rfl⟩
instance : Places Try.prog [{ name := "msg", type := 9, offset := 0, embedded := false, tag := "", pkgPath := "runtime", byteOffset := 0 }, { name := "addr", type := 12, offset := 1, embedded := false, tag := "", pkgPath := "runtime", byteOffset := 16 }] [(0, 1), (1, 1)] := ⟨by kernel_rfl⟩
instance : Places Try.prog [{ name := "typ", type := 17, offset := 0, embedded := false, tag := "", pkgPath := "internal/runtime/maps", byteOffset := 0 }] [(0, 1)] := ⟨by kernel_rfl⟩
instance : Places Try.prog [{ name := "X", type := 24, offset := 0, embedded := false, tag := "", pkgPath := "", byteOffset := 0 }, { name := "Y", type := 24, offset := 1, embedded := false, tag := "", pkgPath := "", byteOffset := 8 }] [(0, 1), (1, 1)] := ⟨by kernel_rfl⟩
instance : Places Try.prog [{ name := "Min", type := 26, offset := 0, embedded := false, tag := "", pkgPath := "", byteOffset := 0 }, { name := "Max", type := 26, offset := 2, embedded := false, tag := "", pkgPath := "", byteOffset := 16 }] [(0, 2), (2, 2)] := ⟨by kernel_rfl⟩
instance : Places Try.prog [{ name := "X", type := 24, offset := 0, embedded := false, tag := "", pkgPath := "", byteOffset := 0 }, { name := "Y", type := 24, offset := 1, embedded := false, tag := "", pkgPath := "", byteOffset := 8 }, { name := "Z", type := 24, offset := 2, embedded := false, tag := "", pkgPath := "", byteOffset := 16 }] [(0, 1), (1, 1), (2, 1)] := ⟨by kernel_rfl⟩
instance : Places Try.prog [{ name := "Min", type := 36, offset := 0, embedded := false, tag := "", pkgPath := "", byteOffset := 0 }, { name := "Max", type := 36, offset := 3, embedded := false, tag := "", pkgPath := "", byteOffset := 24 }] [(0, 3), (3, 3)] := ⟨by kernel_rfl⟩
instance : Places Try.prog [{ name := "Min", type := 54, offset := 0, embedded := false, tag := "", pkgPath := "", byteOffset := 0 }, { name := "Max", type := 54, offset := 2, embedded := false, tag := "", pkgPath := "", byteOffset := 16 }] [(0, 2), (2, 2)] := ⟨by kernel_rfl⟩
instance : Places Try.prog [{ name := "Min", type := 63, offset := 0, embedded := false, tag := "", pkgPath := "", byteOffset := 0 }, { name := "Max", type := 63, offset := 3, embedded := false, tag := "", pkgPath := "", byteOffset := 24 }] [(0, 3), (3, 3)] := ⟨by kernel_rfl⟩
instance : Places Try.prog [{ name := "_interface", type := 17, offset := 0, embedded := false, tag := "", pkgPath := "runtime", byteOffset := 0 }, { name := "concrete", type := 17, offset := 1, embedded := false, tag := "", pkgPath := "runtime", byteOffset := 8 }, { name := "asserted", type := 17, offset := 2, embedded := false, tag := "", pkgPath := "runtime", byteOffset := 16 }, { name := "missingMethod", type := 9, offset := 3, embedded := false, tag := "", pkgPath := "runtime", byteOffset := 24 }] [(0, 1), (1, 1), (2, 1), (3, 1)] := ⟨by kernel_rfl⟩
instance : Places Try.prog [{ name := "_", type := 81, offset := 0, embedded := false, tag := "", pkgPath := "runtime", byteOffset := 0 }] [(0, 0)] := ⟨by kernel_rfl⟩
instance : Places Try.prog [{ name := "Size_", type := 12, offset := 0, embedded := false, tag := "", pkgPath := "", byteOffset := 0 }, { name := "PtrBytes", type := 12, offset := 1, embedded := false, tag := "", pkgPath := "", byteOffset := 8 }, { name := "Hash", type := 84, offset := 2, embedded := false, tag := "", pkgPath := "", byteOffset := 16 }, { name := "TFlag", type := 85, offset := 3, embedded := false, tag := "", pkgPath := "", byteOffset := 20 }, { name := "Align_", type := 5, offset := 4, embedded := false, tag := "", pkgPath := "", byteOffset := 21 }, { name := "FieldAlign_", type := 5, offset := 5, embedded := false, tag := "", pkgPath := "", byteOffset := 22 }, { name := "Kind_", type := 86, offset := 6, embedded := false, tag := "", pkgPath := "", byteOffset := 23 }, { name := "Equal", type := 87, offset := 7, embedded := false, tag := "", pkgPath := "", byteOffset := 24 }, { name := "GCData", type := 88, offset := 8, embedded := false, tag := "", pkgPath := "", byteOffset := 32 }, { name := "Str", type := 89, offset := 9, embedded := false, tag := "", pkgPath := "", byteOffset := 40 }, { name := "PtrToThis", type := 90, offset := 10, embedded := false, tag := "", pkgPath := "", byteOffset := 44 }] [(0, 1), (1, 1), (2, 1), (3, 1), (4, 1), (5, 1), (6, 1), (7, 1), (8, 1), (9, 1), (10, 1)] := ⟨by kernel_rfl⟩
instance : Enters Try.prog 3 := ⟨Try.f3, Try.func3, rfl, rfl⟩
instance : Enters Try.prog 4 := ⟨Try.f4, Try.func4, rfl, rfl⟩
instance : Enters Try.prog 5 := ⟨Try.f5, Try.func5, rfl, rfl⟩
instance : Enters Try.prog 6 := ⟨Try.f6, Try.func6, rfl, rfl⟩
instance : Enters Try.prog 7 := ⟨Try.f7, Try.func7, rfl, rfl⟩
instance : Enters Try.prog 8 := ⟨Try.f8, Try.func8, rfl, rfl⟩
instance : Enters Try.prog 9 := ⟨Try.f9, Try.func9, rfl, rfl⟩
instance : Enters Try.prog 10 := ⟨Try.f10, Try.func10, rfl, rfl⟩
instance : Enters Try.prog 11 := ⟨Try.f11, Try.func11, rfl, rfl⟩
instance : Enters Try.prog 12 := ⟨Try.f12, Try.func12, rfl, rfl⟩
instance : Enters Try.prog 13 := ⟨Try.f13, Try.func13, rfl, rfl⟩
instance : Enters Try.prog 14 := ⟨Try.f14, Try.func14, rfl, rfl⟩
instance : Enters Try.prog 15 := ⟨Try.f15, Try.func15, rfl, rfl⟩
instance : Enters Try.prog 16 := ⟨Try.f16, Try.func16, rfl, rfl⟩
instance : Enters Try.prog 17 := ⟨Try.f17, Try.func17, rfl, rfl⟩
instance : Enters Try.prog 18 := ⟨Try.f18, Try.func18, rfl, rfl⟩
instance : Enters Try.prog 19 := ⟨Try.f19, Try.func19, rfl, rfl⟩
instance : Enters Try.prog 20 := ⟨Try.f20, Try.func20, rfl, rfl⟩
instance : Enters Try.prog 21 := ⟨Try.f21, Try.func21, rfl, rfl⟩
instance : Enters Try.prog 22 := ⟨Try.f22, Try.func22, rfl, rfl⟩
instance : Enters Try.prog 23 := ⟨Try.f23, Try.func23, rfl, rfl⟩
instance : Enters Try.prog 24 := ⟨Try.f24, Try.func24, rfl, rfl⟩
instance : Enters Try.prog 25 := ⟨Try.f25, Try.func25, rfl, rfl⟩
instance : Enters Try.prog 26 := ⟨Try.f26, Try.func26, rfl, rfl⟩
instance : Enters Try.prog 27 := ⟨Try.f27, Try.func27, rfl, rfl⟩
instance : Enters Try.prog 28 := ⟨Try.f28, Try.func28, rfl, rfl⟩
instance : Enters Try.prog 29 := ⟨Try.f29, Try.func29, rfl, rfl⟩
instance : Enters Try.prog 30 := ⟨Try.f30, Try.func30, rfl, rfl⟩
instance : Enters Try.prog 31 := ⟨Try.f31, Try.func31, rfl, rfl⟩
instance : Enters Try.prog 32 := ⟨Try.f32, Try.func32, rfl, rfl⟩
instance : Enters Try.prog 33 := ⟨Try.f33, Try.func33, rfl, rfl⟩
instance : Enters Try.prog 34 := ⟨Try.f34, Try.func34, rfl, rfl⟩
instance : Enters Try.prog 35 := ⟨Try.f35, Try.func35, rfl, rfl⟩
instance : Enters Try.prog 36 := ⟨Try.f36, Try.func36, rfl, rfl⟩
instance : Enters Try.prog 37 := ⟨Try.f37, Try.func37, rfl, rfl⟩
instance : Enters Try.prog 38 := ⟨Try.f38, Try.func38, rfl, rfl⟩
instance : Enters Try.prog 39 := ⟨Try.f39, Try.func39, rfl, rfl⟩
instance : Enters Try.prog 40 := ⟨Try.f40, Try.func40, rfl, rfl⟩
instance : Enters Try.prog 42 := ⟨Try.f42, Try.func42, rfl, rfl⟩
instance : Enters Try.prog 43 := ⟨Try.f43, Try.func43, rfl, rfl⟩
instance : Enters Try.prog 44 := ⟨Try.f44, Try.func44, rfl, rfl⟩
theorem mixed : Try.prog.follows .mixedOrders = true := by kernel_rfl
end Go.Lg
