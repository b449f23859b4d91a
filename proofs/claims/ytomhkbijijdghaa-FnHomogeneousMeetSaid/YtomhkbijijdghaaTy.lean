/-
  The sizes and the make of this translation's types, and which functions have a body: closed facts, written by a small program (seatty.py). No conditions.
-/
import Derived.Test.YtomhkbijijdghaaProg
import Derived.Test.YtomhkbijijdghaaLg3
import Derived.KernelRfl
set_option maxRecDepth 20000
namespace Go.Lg
open Go.Proofs
instance : Und Try.prog 0 (TypeDesc.tuple #[]) := ⟨Try.underlying0⟩
instance : Und Try.prog 1 (TypeDesc.func #[] #[] false) := ⟨Try.underlying1⟩
instance : Inf Try.prog 1 1 8 [.nilFunc] := ⟨by kernel_rfl⟩
instance : Und Try.prog 2 (TypeDesc.int IntKind.i64) := ⟨Try.underlying2⟩
instance : Inf Try.prog 2 1 8 [.int .i64 0] := ⟨by kernel_rfl⟩
instance : Und Try.prog 3 (TypeDesc.int IntKind.i64) := ⟨Try.underlying3⟩
instance : Inf Try.prog 3 1 8 [.int .i64 0] := ⟨by kernel_rfl⟩
instance : Und Try.prog 4 TypeDesc.bool := ⟨Try.underlying4⟩
instance : Inf Try.prog 4 1 1 [.bool false] := ⟨by kernel_rfl⟩
instance : Und Try.prog 5 (TypeDesc.int IntKind.u8) := ⟨Try.underlying5⟩
instance : Inf Try.prog 5 1 1 [.int .u8 0] := ⟨by kernel_rfl⟩
instance : Und Try.prog 6 (TypeDesc.int IntKind.u8) := ⟨Try.underlying6⟩
instance : Inf Try.prog 6 1 1 [.int .u8 0] := ⟨by kernel_rfl⟩
instance : Und Try.prog 7 (TypeDesc.struct #[{ name := "x", type := 2, offset := 0, embedded := false, tag := "", pkgPath := "runtime", byteOffset := 0 }, { name := "y", type := 3, offset := 1, embedded := false, tag := "", pkgPath := "runtime", byteOffset := 8 }, { name := "signed", type := 4, offset := 2, embedded := false, tag := "", pkgPath := "runtime", byteOffset := 16 }, { name := "code", type := 6, offset := 3, embedded := false, tag := "", pkgPath := "runtime", byteOffset := 17 }]) := ⟨Try.underlying7⟩
instance : Inf Try.prog 7 4 24 [.int .i64 0, .int .i64 0, .bool false, .int .u8 0] := ⟨by kernel_rfl⟩
instance : Und Try.prog 8 (TypeDesc.struct #[{ name := "x", type := 2, offset := 0, embedded := false, tag := "", pkgPath := "runtime", byteOffset := 0 }, { name := "y", type := 3, offset := 1, embedded := false, tag := "", pkgPath := "runtime", byteOffset := 8 }, { name := "signed", type := 4, offset := 2, embedded := false, tag := "", pkgPath := "runtime", byteOffset := 16 }, { name := "code", type := 6, offset := 3, embedded := false, tag := "", pkgPath := "runtime", byteOffset := 17 }]) := ⟨Try.underlying8⟩
instance : Inf Try.prog 8 4 24 [.int .i64 0, .int .i64 0, .bool false, .int .u8 0] := ⟨by kernel_rfl⟩
instance : Und Try.prog 9 TypeDesc.string := ⟨Try.underlying9⟩
instance : Inf Try.prog 9 1 16 [.string ⟨#[]⟩] := ⟨by kernel_rfl⟩
instance : Und Try.prog 10 TypeDesc.string := ⟨Try.underlying10⟩
instance : Inf Try.prog 10 1 16 [.string ⟨#[]⟩] := ⟨by kernel_rfl⟩
instance : Und Try.prog 11 TypeDesc.string := ⟨Try.underlying11⟩
instance : Inf Try.prog 11 1 16 [.string ⟨#[]⟩] := ⟨by kernel_rfl⟩
instance : Und Try.prog 12 (TypeDesc.int IntKind.u64) := ⟨Try.underlying12⟩
instance : Inf Try.prog 12 1 8 [.int .u64 0] := ⟨by kernel_rfl⟩
instance : Und Try.prog 13 (TypeDesc.struct #[{ name := "msg", type := 9, offset := 0, embedded := false, tag := "", pkgPath := "runtime", byteOffset := 0 }, { name := "addr", type := 12, offset := 1, embedded := false, tag := "", pkgPath := "runtime", byteOffset := 16 }]) := ⟨Try.underlying13⟩
instance : Inf Try.prog 13 2 24 [.string ⟨#[]⟩, .int .u64 0] := ⟨by kernel_rfl⟩
instance : Und Try.prog 14 (TypeDesc.struct #[{ name := "msg", type := 9, offset := 0, embedded := false, tag := "", pkgPath := "runtime", byteOffset := 0 }, { name := "addr", type := 12, offset := 1, embedded := false, tag := "", pkgPath := "runtime", byteOffset := 16 }]) := ⟨Try.underlying14⟩
instance : Inf Try.prog 14 2 24 [.string ⟨#[]⟩, .int .u64 0] := ⟨by kernel_rfl⟩
instance : Und Try.prog 15 (TypeDesc.pointer 224) := ⟨Try.underlying15⟩
instance : Inf Try.prog 15 1 8 [.pointer none] := ⟨by kernel_rfl⟩
instance : Und Try.prog 16 (TypeDesc.pointer 227) := ⟨Try.underlying16⟩
instance : Inf Try.prog 16 1 8 [.pointer none] := ⟨by kernel_rfl⟩
instance : Und Try.prog 17 (TypeDesc.pointer 235) := ⟨Try.underlying17⟩
instance : Inf Try.prog 17 1 8 [.pointer none] := ⟨by kernel_rfl⟩
instance : Und Try.prog 18 (TypeDesc.struct #[{ name := "typ", type := 17, offset := 0, embedded := false, tag := "", pkgPath := "internal/runtime/maps", byteOffset := 0 }]) := ⟨Try.underlying18⟩
instance : Inf Try.prog 18 1 8 [.pointer none] := ⟨by kernel_rfl⟩
instance : Und Try.prog 19 (TypeDesc.struct #[{ name := "typ", type := 17, offset := 0, embedded := false, tag := "", pkgPath := "internal/runtime/maps", byteOffset := 0 }]) := ⟨Try.underlying19⟩
instance : Inf Try.prog 19 1 8 [.pointer none] := ⟨by kernel_rfl⟩
instance : Und Try.prog 20 (TypeDesc.interface #[]) := ⟨Try.underlying20⟩
instance : Inf Try.prog 20 1 16 [.nilIface] := ⟨by kernel_rfl⟩
instance : Und Try.prog 21 (TypeDesc.int IntKind.i32) := ⟨Try.underlying21⟩
instance : Inf Try.prog 21 1 4 [.int .i32 0] := ⟨by kernel_rfl⟩
instance : Und Try.prog 22 (TypeDesc.slice 34) := ⟨Try.underlying22⟩
instance : Inf Try.prog 22 1 24 [.slice none 0 0] := ⟨by kernel_rfl⟩
instance : Und Try.prog 23 (TypeDesc.func #[22] #[4] false) := ⟨Try.underlying23⟩
instance : Inf Try.prog 23 1 8 [.nilFunc] := ⟨by kernel_rfl⟩
instance : Und Try.prog 24 (TypeDesc.func #[22, 3, 25] #[4] false) := ⟨Try.underlying24⟩
instance : Inf Try.prog 24 1 8 [.nilFunc] := ⟨by kernel_rfl⟩
instance : Und Try.prog 25 (TypeDesc.slice 36) := ⟨Try.underlying25⟩
instance : Inf Try.prog 25 1 24 [.slice none 0 0] := ⟨by kernel_rfl⟩
instance : Und Try.prog 26 (TypeDesc.slice 25) := ⟨Try.underlying26⟩
instance : Inf Try.prog 26 1 24 [.slice none 0 0] := ⟨by kernel_rfl⟩
instance : Und Try.prog 27 (TypeDesc.slice 3) := ⟨Try.underlying27⟩
instance : Inf Try.prog 27 1 24 [.slice none 0 0] := ⟨by kernel_rfl⟩
instance : Und Try.prog 28 (TypeDesc.tuple #[26, 27, 4]) := ⟨Try.underlying28⟩
instance : Und Try.prog 29 (TypeDesc.func #[22, 3] #[26, 27, 4] false) := ⟨Try.underlying29⟩
instance : Inf Try.prog 29 1 8 [.nilFunc] := ⟨by kernel_rfl⟩
instance : Und Try.prog 30 (TypeDesc.tuple #[27, 27, 4]) := ⟨Try.underlying30⟩
instance : Und Try.prog 31 (TypeDesc.func #[22, 3] #[27, 27, 4] false) := ⟨Try.underlying31⟩
instance : Inf Try.prog 31 1 8 [.nilFunc] := ⟨by kernel_rfl⟩
instance : Und Try.prog 32 (TypeDesc.func #[25, 25] #[4] false) := ⟨Try.underlying32⟩
instance : Inf Try.prog 32 1 8 [.nilFunc] := ⟨by kernel_rfl⟩
instance : Und Try.prog 33 (TypeDesc.struct #[{ name := "Point", type := 25, offset := 0, embedded := false, tag := "", pkgPath := "", byteOffset := 0 }, { name := "Plane", type := 3, offset := 1, embedded := false, tag := "", pkgPath := "", byteOffset := 24 }, { name := "Left", type := 3, offset := 2, embedded := false, tag := "", pkgPath := "", byteOffset := 32 }, { name := "Right", type := 3, offset := 3, embedded := false, tag := "", pkgPath := "", byteOffset := 40 }, { name := "Min", type := 25, offset := 4, embedded := false, tag := "", pkgPath := "", byteOffset := 48 }, { name := "Max", type := 25, offset := 5, embedded := false, tag := "", pkgPath := "", byteOffset := 72 }]) := ⟨Try.underlying33⟩
instance : Inf Try.prog 33 6 96 [.slice none 0 0, .int .i64 0, .int .i64 0, .int .i64 0, .slice none 0 0, .slice none 0 0] := ⟨by kernel_rfl⟩
instance : Und Try.prog 34 (TypeDesc.struct #[{ name := "Point", type := 25, offset := 0, embedded := false, tag := "", pkgPath := "", byteOffset := 0 }, { name := "Plane", type := 3, offset := 1, embedded := false, tag := "", pkgPath := "", byteOffset := 24 }, { name := "Left", type := 3, offset := 2, embedded := false, tag := "", pkgPath := "", byteOffset := 32 }, { name := "Right", type := 3, offset := 3, embedded := false, tag := "", pkgPath := "", byteOffset := 40 }, { name := "Min", type := 25, offset := 4, embedded := false, tag := "", pkgPath := "", byteOffset := 48 }, { name := "Max", type := 25, offset := 5, embedded := false, tag := "", pkgPath := "", byteOffset := 72 }]) := ⟨Try.underlying34⟩
instance : Inf Try.prog 34 6 96 [.slice none 0 0, .int .i64 0, .int .i64 0, .int .i64 0, .slice none 0 0, .slice none 0 0] := ⟨by kernel_rfl⟩
instance : Und Try.prog 35 (TypeDesc.func #[22, 3, 3] #[4] false) := ⟨Try.underlying35⟩
instance : Inf Try.prog 35 1 8 [.nilFunc] := ⟨by kernel_rfl⟩
instance : Und Try.prog 36 (TypeDesc.float FloatKind.f64) := ⟨Try.underlying36⟩
instance : Inf Try.prog 36 1 8 [.float .f64 0] := ⟨by kernel_rfl⟩
instance : Und Try.prog 37 (TypeDesc.slice 71) := ⟨Try.underlying37⟩
instance : Inf Try.prog 37 1 24 [.slice none 0 0] := ⟨by kernel_rfl⟩
instance : Und Try.prog 38 (TypeDesc.tuple #[37, 4]) := ⟨Try.underlying38⟩
instance : Und Try.prog 39 (TypeDesc.func #[3, 25] #[37, 4] false) := ⟨Try.underlying39⟩
instance : Inf Try.prog 39 1 8 [.nilFunc] := ⟨by kernel_rfl⟩
instance : Und Try.prog 40 (TypeDesc.func #[36] #[36] false) := ⟨Try.underlying40⟩
instance : Inf Try.prog 40 1 8 [.nilFunc] := ⟨by kernel_rfl⟩
instance : Und Try.prog 41 (TypeDesc.tuple #[27, 4]) := ⟨Try.underlying41⟩
instance : Und Try.prog 42 (TypeDesc.func #[25, 36, 3] #[27, 4] false) := ⟨Try.underlying42⟩
instance : Inf Try.prog 42 1 8 [.nilFunc] := ⟨by kernel_rfl⟩
instance : Und Try.prog 43 (TypeDesc.func #[27, 27] #[4] false) := ⟨Try.underlying43⟩
instance : Inf Try.prog 43 1 8 [.nilFunc] := ⟨by kernel_rfl⟩
instance : Und Try.prog 44 (TypeDesc.func #[25, 36, 3] #[4] false) := ⟨Try.underlying44⟩
instance : Inf Try.prog 44 1 8 [.nilFunc] := ⟨by kernel_rfl⟩
instance : Und Try.prog 45 (TypeDesc.slice 124) := ⟨Try.underlying45⟩
instance : Inf Try.prog 45 1 24 [.slice none 0 0] := ⟨by kernel_rfl⟩
instance : Und Try.prog 46 (TypeDesc.func #[45] #[4] false) := ⟨Try.underlying46⟩
instance : Inf Try.prog 46 1 8 [.nilFunc] := ⟨by kernel_rfl⟩
instance : Und Try.prog 47 (TypeDesc.func #[45, 3, 25] #[4] false) := ⟨Try.underlying47⟩
instance : Inf Try.prog 47 1 8 [.nilFunc] := ⟨by kernel_rfl⟩
instance : Und Try.prog 48 (TypeDesc.func #[45, 3] #[26] false) := ⟨Try.underlying48⟩
instance : Inf Try.prog 48 1 8 [.nilFunc] := ⟨by kernel_rfl⟩
instance : Und Try.prog 49 (TypeDesc.tuple #[25, 36, 4]) := ⟨Try.underlying49⟩
instance : Und Try.prog 50 (TypeDesc.func #[45, 3, 25] #[25, 36, 4] false) := ⟨Try.underlying50⟩
instance : Inf Try.prog 50 1 8 [.nilFunc] := ⟨by kernel_rfl⟩
instance : Und Try.prog 51 (TypeDesc.func #[54, 26, 25, 25] #[4] false) := ⟨Try.underlying51⟩
instance : Inf Try.prog 51 1 8 [.nilFunc] := ⟨by kernel_rfl⟩
instance : Und Try.prog 52 (TypeDesc.struct #[{ name := "Point", type := 25, offset := 0, embedded := false, tag := "", pkgPath := "", byteOffset := 0 }, { name := "Dist", type := 36, offset := 1, embedded := false, tag := "", pkgPath := "", byteOffset := 24 }]) := ⟨Try.underlying52⟩
instance : Inf Try.prog 52 2 32 [.slice none 0 0, .float .f64 0] := ⟨by kernel_rfl⟩
instance : Und Try.prog 53 (TypeDesc.struct #[{ name := "Point", type := 25, offset := 0, embedded := false, tag := "", pkgPath := "", byteOffset := 0 }, { name := "Dist", type := 36, offset := 1, embedded := false, tag := "", pkgPath := "", byteOffset := 24 }]) := ⟨Try.underlying53⟩
instance : Inf Try.prog 53 2 32 [.slice none 0 0, .float .f64 0] := ⟨by kernel_rfl⟩
instance : Und Try.prog 54 (TypeDesc.slice 53) := ⟨Try.underlying54⟩
instance : Inf Try.prog 54 1 24 [.slice none 0 0] := ⟨by kernel_rfl⟩
instance : Und Try.prog 55 (TypeDesc.func #[26, 25] #[25] false) := ⟨Try.underlying55⟩
instance : Inf Try.prog 55 1 8 [.nilFunc] := ⟨by kernel_rfl⟩
instance : Und Try.prog 56 (TypeDesc.struct #[{ name := "X", type := 36, offset := 0, embedded := false, tag := "", pkgPath := "", byteOffset := 0 }, { name := "Y", type := 36, offset := 1, embedded := false, tag := "", pkgPath := "", byteOffset := 8 }]) := ⟨Try.underlying56⟩
instance : Inf Try.prog 56 2 16 [.float .f64 0, .float .f64 0] := ⟨by kernel_rfl⟩
instance : Und Try.prog 57 (TypeDesc.struct #[{ name := "X", type := 36, offset := 0, embedded := false, tag := "", pkgPath := "", byteOffset := 0 }, { name := "Y", type := 36, offset := 1, embedded := false, tag := "", pkgPath := "", byteOffset := 8 }]) := ⟨Try.underlying57⟩
instance : Inf Try.prog 57 2 16 [.float .f64 0, .float .f64 0] := ⟨by kernel_rfl⟩
instance : Und Try.prog 58 (TypeDesc.func #[36, 93] #[4] true) := ⟨Try.underlying58⟩
instance : Inf Try.prog 58 1 8 [.nilFunc] := ⟨by kernel_rfl⟩
instance : Und Try.prog 59 (TypeDesc.func #[] #[36] false) := ⟨Try.underlying59⟩
instance : Inf Try.prog 59 1 8 [.nilFunc] := ⟨by kernel_rfl⟩
instance : Und Try.prog 60 (TypeDesc.struct #[{ name := "X", type := 36, offset := 0, embedded := false, tag := "", pkgPath := "", byteOffset := 0 }, { name := "Y", type := 36, offset := 1, embedded := false, tag := "", pkgPath := "", byteOffset := 8 }, { name := "Z", type := 36, offset := 2, embedded := false, tag := "", pkgPath := "", byteOffset := 16 }]) := ⟨Try.underlying60⟩
instance : Inf Try.prog 60 3 24 [.float .f64 0, .float .f64 0, .float .f64 0] := ⟨by kernel_rfl⟩
instance : Und Try.prog 61 (TypeDesc.struct #[{ name := "X", type := 36, offset := 0, embedded := false, tag := "", pkgPath := "", byteOffset := 0 }, { name := "Y", type := 36, offset := 1, embedded := false, tag := "", pkgPath := "", byteOffset := 8 }, { name := "Z", type := 36, offset := 2, embedded := false, tag := "", pkgPath := "", byteOffset := 16 }]) := ⟨Try.underlying61⟩
instance : Inf Try.prog 61 3 24 [.float .f64 0, .float .f64 0, .float .f64 0] := ⟨by kernel_rfl⟩
instance : Und Try.prog 62 (TypeDesc.func #[36, 36] #[4] false) := ⟨Try.underlying62⟩
instance : Inf Try.prog 62 1 8 [.nilFunc] := ⟨by kernel_rfl⟩
instance : Und Try.prog 63 (TypeDesc.func #[61, 61] #[36] false) := ⟨Try.underlying63⟩
instance : Inf Try.prog 63 1 8 [.nilFunc] := ⟨by kernel_rfl⟩
instance : Und Try.prog 64 (TypeDesc.slice 189) := ⟨Try.underlying64⟩
instance : Inf Try.prog 64 1 24 [.slice none 0 0] := ⟨by kernel_rfl⟩
instance : Und Try.prog 65 (TypeDesc.struct #[{ name := "Neg", type := 4, offset := 0, embedded := false, tag := "", pkgPath := "", byteOffset := 0 }, { name := "L", type := 64, offset := 1, embedded := false, tag := "", pkgPath := "", byteOffset := 8 }]) := ⟨Try.underlying65⟩
instance : Inf Try.prog 65 2 32 [.bool false, .slice none 0 0] := ⟨by kernel_rfl⟩
instance : Und Try.prog 66 (TypeDesc.struct #[{ name := "Neg", type := 4, offset := 0, embedded := false, tag := "", pkgPath := "", byteOffset := 0 }, { name := "L", type := 64, offset := 1, embedded := false, tag := "", pkgPath := "", byteOffset := 8 }]) := ⟨Try.underlying66⟩
instance : Inf Try.prog 66 2 32 [.bool false, .slice none 0 0] := ⟨by kernel_rfl⟩
instance : Und Try.prog 67 (TypeDesc.struct #[{ name := "N", type := 66, offset := 0, embedded := false, tag := "", pkgPath := "", byteOffset := 0 }, { name := "E", type := 3, offset := 2, embedded := false, tag := "", pkgPath := "", byteOffset := 32 }]) := ⟨Try.underlying67⟩
instance : Inf Try.prog 67 3 40 [.bool false, .slice none 0 0, .int .i64 0] := ⟨by kernel_rfl⟩
instance : Und Try.prog 68 (TypeDesc.struct #[{ name := "N", type := 66, offset := 0, embedded := false, tag := "", pkgPath := "", byteOffset := 0 }, { name := "E", type := 3, offset := 2, embedded := false, tag := "", pkgPath := "", byteOffset := 32 }]) := ⟨Try.underlying68⟩
instance : Inf Try.prog 68 3 40 [.bool false, .slice none 0 0, .int .i64 0] := ⟨by kernel_rfl⟩
instance : Und Try.prog 69 (TypeDesc.func #[71, 71] #[68] false) := ⟨Try.underlying69⟩
instance : Inf Try.prog 69 1 8 [.nilFunc] := ⟨by kernel_rfl⟩
instance : Und Try.prog 70 (TypeDesc.struct #[{ name := "X", type := 68, offset := 0, embedded := false, tag := "", pkgPath := "", byteOffset := 0 }, { name := "Y", type := 68, offset := 3, embedded := false, tag := "", pkgPath := "", byteOffset := 40 }]) := ⟨Try.underlying70⟩
instance : Inf Try.prog 70 6 80 [.bool false, .slice none 0 0, .int .i64 0, .bool false, .slice none 0 0, .int .i64 0] := ⟨by kernel_rfl⟩
instance : Und Try.prog 71 (TypeDesc.struct #[{ name := "X", type := 68, offset := 0, embedded := false, tag := "", pkgPath := "", byteOffset := 0 }, { name := "Y", type := 68, offset := 3, embedded := false, tag := "", pkgPath := "", byteOffset := 40 }]) := ⟨Try.underlying71⟩
instance : Inf Try.prog 71 6 80 [.bool false, .slice none 0 0, .int .i64 0, .bool false, .slice none 0 0, .int .i64 0] := ⟨by kernel_rfl⟩
instance : Und Try.prog 72 (TypeDesc.func #[57] #[71] false) := ⟨Try.underlying72⟩
instance : Inf Try.prog 72 1 8 [.nilFunc] := ⟨by kernel_rfl⟩
instance : Und Try.prog 73 (TypeDesc.func #[57, 57, 36, 4] #[4] false) := ⟨Try.underlying73⟩
instance : Inf Try.prog 73 1 8 [.nilFunc] := ⟨by kernel_rfl⟩
instance : Und Try.prog 74 (TypeDesc.func #[36, 148] #[4] true) := ⟨Try.underlying74⟩
instance : Inf Try.prog 74 1 8 [.nilFunc] := ⟨by kernel_rfl⟩
instance : Und Try.prog 75 (TypeDesc.func #[61] #[36] false) := ⟨Try.underlying75⟩
instance : Inf Try.prog 75 1 8 [.nilFunc] := ⟨by kernel_rfl⟩
instance : Und Try.prog 76 (TypeDesc.func #[78, 78] #[68] false) := ⟨Try.underlying76⟩
instance : Inf Try.prog 76 1 8 [.nilFunc] := ⟨by kernel_rfl⟩
instance : Und Try.prog 77 (TypeDesc.struct #[{ name := "X", type := 68, offset := 0, embedded := false, tag := "", pkgPath := "", byteOffset := 0 }, { name := "Y", type := 68, offset := 3, embedded := false, tag := "", pkgPath := "", byteOffset := 40 }, { name := "Z", type := 68, offset := 6, embedded := false, tag := "", pkgPath := "", byteOffset := 80 }]) := ⟨Try.underlying77⟩
instance : Inf Try.prog 77 9 120 [.bool false, .slice none 0 0, .int .i64 0, .bool false, .slice none 0 0, .int .i64 0, .bool false, .slice none 0 0, .int .i64 0] := ⟨by kernel_rfl⟩
instance : Und Try.prog 78 (TypeDesc.struct #[{ name := "X", type := 68, offset := 0, embedded := false, tag := "", pkgPath := "", byteOffset := 0 }, { name := "Y", type := 68, offset := 3, embedded := false, tag := "", pkgPath := "", byteOffset := 40 }, { name := "Z", type := 68, offset := 6, embedded := false, tag := "", pkgPath := "", byteOffset := 80 }]) := ⟨Try.underlying78⟩
instance : Inf Try.prog 78 9 120 [.bool false, .slice none 0 0, .int .i64 0, .bool false, .slice none 0 0, .int .i64 0, .bool false, .slice none 0 0, .int .i64 0] := ⟨by kernel_rfl⟩
instance : Und Try.prog 79 (TypeDesc.func #[61] #[78] false) := ⟨Try.underlying79⟩
instance : Inf Try.prog 79 1 8 [.nilFunc] := ⟨by kernel_rfl⟩
instance : Und Try.prog 80 (TypeDesc.func #[61] #[4] false) := ⟨Try.underlying80⟩
instance : Inf Try.prog 80 1 8 [.nilFunc] := ⟨by kernel_rfl⟩
instance : Und Try.prog 81 (TypeDesc.struct #[{ name := "N", type := 68, offset := 0, embedded := false, tag := "", pkgPath := "", byteOffset := 0 }, { name := "D", type := 68, offset := 3, embedded := false, tag := "", pkgPath := "", byteOffset := 40 }]) := ⟨Try.underlying81⟩
instance : Inf Try.prog 81 6 80 [.bool false, .slice none 0 0, .int .i64 0, .bool false, .slice none 0 0, .int .i64 0] := ⟨by kernel_rfl⟩
instance : Und Try.prog 82 (TypeDesc.struct #[{ name := "N", type := 68, offset := 0, embedded := false, tag := "", pkgPath := "", byteOffset := 0 }, { name := "D", type := 68, offset := 3, embedded := false, tag := "", pkgPath := "", byteOffset := 40 }]) := ⟨Try.underlying82⟩
instance : Inf Try.prog 82 6 80 [.bool false, .slice none 0 0, .int .i64 0, .bool false, .slice none 0 0, .int .i64 0] := ⟨by kernel_rfl⟩
instance : Und Try.prog 83 (TypeDesc.tuple #[82, 82, 4]) := ⟨Try.underlying83⟩
instance : Und Try.prog 84 (TypeDesc.func #[71, 71, 71, 71] #[82, 82, 4] false) := ⟨Try.underlying84⟩
instance : Inf Try.prog 84 1 8 [.nilFunc] := ⟨by kernel_rfl⟩
instance : Und Try.prog 85 (TypeDesc.tuple #[57, 4]) := ⟨Try.underlying85⟩
instance : Und Try.prog 86 (TypeDesc.func #[57, 57, 57, 57] #[57, 4] false) := ⟨Try.underlying86⟩
instance : Inf Try.prog 86 1 8 [.nilFunc] := ⟨by kernel_rfl⟩
instance : Und Try.prog 87 (TypeDesc.func #[3] #[68] false) := ⟨Try.underlying87⟩
instance : Inf Try.prog 87 1 8 [.nilFunc] := ⟨by kernel_rfl⟩
instance : Und Try.prog 88 (TypeDesc.func #[] #[68] false) := ⟨Try.underlying88⟩
instance : Inf Try.prog 88 1 8 [.nilFunc] := ⟨by kernel_rfl⟩
instance : Und Try.prog 89 (TypeDesc.func #[68] #[3] false) := ⟨Try.underlying89⟩
instance : Inf Try.prog 89 1 8 [.nilFunc] := ⟨by kernel_rfl⟩
instance : Und Try.prog 90 (TypeDesc.func #[68] #[68] false) := ⟨Try.underlying90⟩
instance : Inf Try.prog 90 1 8 [.nilFunc] := ⟨by kernel_rfl⟩
instance : Und Try.prog 91 (TypeDesc.func #[36, 82, 3] #[4] false) := ⟨Try.underlying91⟩
instance : Inf Try.prog 91 1 8 [.nilFunc] := ⟨by kernel_rfl⟩
instance : Und Try.prog 92 (TypeDesc.func #[57, 57, 57, 57] #[4] false) := ⟨Try.underlying92⟩
instance : Inf Try.prog 92 1 8 [.nilFunc] := ⟨by kernel_rfl⟩
instance : Und Try.prog 93 (TypeDesc.slice 57) := ⟨Try.underlying93⟩
instance : Inf Try.prog 93 1 24 [.slice none 0 0] := ⟨by kernel_rfl⟩
instance : Und Try.prog 94 (TypeDesc.tuple #[93, 4]) := ⟨Try.underlying94⟩
instance : Und Try.prog 95 (TypeDesc.func #[3, 25, 36, 3] #[93, 4] false) := ⟨Try.underlying95⟩
instance : Inf Try.prog 95 1 8 [.nilFunc] := ⟨by kernel_rfl⟩
instance : Und Try.prog 96 (TypeDesc.func #[93] #[4] false) := ⟨Try.underlying96⟩
instance : Inf Try.prog 96 1 8 [.nilFunc] := ⟨by kernel_rfl⟩
instance : Und Try.prog 97 (TypeDesc.tuple #[3, 4]) := ⟨Try.underlying97⟩
instance : Und Try.prog 98 (TypeDesc.func #[3, 57, 25] #[3, 4] false) := ⟨Try.underlying98⟩
instance : Inf Try.prog 98 1 8 [.nilFunc] := ⟨by kernel_rfl⟩
instance : Und Try.prog 99 (TypeDesc.func #[37, 71] #[3] false) := ⟨Try.underlying99⟩
instance : Inf Try.prog 99 1 8 [.nilFunc] := ⟨by kernel_rfl⟩
instance : Und Try.prog 100 (TypeDesc.func #[93] #[37] false) := ⟨Try.underlying100⟩
instance : Inf Try.prog 100 1 8 [.nilFunc] := ⟨by kernel_rfl⟩
instance : Und Try.prog 101 (TypeDesc.func #[3, 57, 25] #[4] false) := ⟨Try.underlying101⟩
instance : Inf Try.prog 101 1 8 [.nilFunc] := ⟨by kernel_rfl⟩
instance : Und Try.prog 102 (TypeDesc.func #[34] #[4] false) := ⟨Try.underlying102⟩
instance : Inf Try.prog 102 1 8 [.nilFunc] := ⟨by kernel_rfl⟩
instance : Und Try.prog 103 (TypeDesc.func #[26, 3, 36] #[4] false) := ⟨Try.underlying103⟩
instance : Inf Try.prog 103 1 8 [.nilFunc] := ⟨by kernel_rfl⟩
instance : Und Try.prog 104 (TypeDesc.func #[22, 3] #[26] false) := ⟨Try.underlying104⟩
instance : Inf Try.prog 104 1 8 [.nilFunc] := ⟨by kernel_rfl⟩
instance : Und Try.prog 105 (TypeDesc.pointer 172) := ⟨Try.underlying105⟩
instance : Inf Try.prog 105 1 8 [.pointer none] := ⟨by kernel_rfl⟩
instance : Und Try.prog 106 (TypeDesc.func #[22, 3] #[105] false) := ⟨Try.underlying106⟩
instance : Inf Try.prog 106 1 8 [.nilFunc] := ⟨by kernel_rfl⟩
instance : Und Try.prog 107 (TypeDesc.func #[173] #[4] false) := ⟨Try.underlying107⟩
instance : Inf Try.prog 107 1 8 [.nilFunc] := ⟨by kernel_rfl⟩
instance : Und Try.prog 108 (TypeDesc.interface #[("Compare", 237), ("Dims", 144), ("Distance", 238)]) := ⟨Try.underlying108⟩
instance : Inf Try.prog 108 1 16 [.nilIface] := ⟨by kernel_rfl⟩
instance : Und Try.prog 109 (TypeDesc.interface #[("Compare", 237), ("Dims", 144), ("Distance", 238)]) := ⟨Try.underlying109⟩
instance : Inf Try.prog 109 1 16 [.nilIface] := ⟨by kernel_rfl⟩
instance : Und Try.prog 110 (TypeDesc.pointer 216) := ⟨Try.underlying110⟩
instance : Inf Try.prog 110 1 8 [.pointer none] := ⟨by kernel_rfl⟩
instance : Und Try.prog 111 (TypeDesc.func #[25] #[25] false) := ⟨Try.underlying111⟩
instance : Inf Try.prog 111 1 8 [.nilFunc] := ⟨by kernel_rfl⟩
instance : Und Try.prog 112 (TypeDesc.slice 36) := ⟨Try.underlying112⟩
instance : Inf Try.prog 112 1 24 [.slice none 0 0] := ⟨by kernel_rfl⟩
instance : Und Try.prog 113 (TypeDesc.func #[109, 110, 3] #[4] false) := ⟨Try.underlying113⟩
instance : Inf Try.prog 113 1 8 [.nilFunc] := ⟨by kernel_rfl⟩
instance : Und Try.prog 114 (TypeDesc.func #[3, 3, 115] #[27, 27, 4] false) := ⟨Try.underlying114⟩
instance : Inf Try.prog 114 1 8 [.nilFunc] := ⟨by kernel_rfl⟩
instance : Und Try.prog 115 (TypeDesc.func #[3] #[3, 3] false) := ⟨Try.underlying115⟩
instance : Inf Try.prog 115 1 8 [.nilFunc] := ⟨by kernel_rfl⟩
instance : Und Try.prog 116 (TypeDesc.func #[36, 25] #[4] true) := ⟨Try.underlying116⟩
instance : Inf Try.prog 116 1 8 [.nilFunc] := ⟨by kernel_rfl⟩
instance : Und Try.prog 117 (TypeDesc.func #[25, 3] #[37] false) := ⟨Try.underlying117⟩
instance : Inf Try.prog 117 1 8 [.nilFunc] := ⟨by kernel_rfl⟩
instance : Und Try.prog 118 (TypeDesc.func #[119] #[36] false) := ⟨Try.underlying118⟩
instance : Inf Try.prog 118 1 8 [.nilFunc] := ⟨by kernel_rfl⟩
instance : Und Try.prog 119 (TypeDesc.int IntKind.u64) := ⟨Try.underlying119⟩
instance : Inf Try.prog 119 1 8 [.int .u64 0] := ⟨by kernel_rfl⟩
instance : Und Try.prog 120 (TypeDesc.func #[36] #[119] false) := ⟨Try.underlying120⟩
instance : Inf Try.prog 120 1 8 [.nilFunc] := ⟨by kernel_rfl⟩
instance : Und Try.prog 121 (TypeDesc.func #[27] #[27] false) := ⟨Try.underlying121⟩
instance : Inf Try.prog 121 1 8 [.nilFunc] := ⟨by kernel_rfl⟩
instance : Und Try.prog 122 (TypeDesc.func #[25, 36, 3] #[27] false) := ⟨Try.underlying122⟩
instance : Inf Try.prog 122 1 8 [.nilFunc] := ⟨by kernel_rfl⟩
instance : Und Try.prog 123 (TypeDesc.struct #[{ name := "Point", type := 25, offset := 0, embedded := false, tag := "", pkgPath := "", byteOffset := 0 }, { name := "Radius", type := 36, offset := 1, embedded := false, tag := "", pkgPath := "", byteOffset := 24 }, { name := "Closer", type := 3, offset := 2, embedded := false, tag := "", pkgPath := "", byteOffset := 32 }, { name := "Further", type := 3, offset := 3, embedded := false, tag := "", pkgPath := "", byteOffset := 40 }]) := ⟨Try.underlying123⟩
instance : Inf Try.prog 123 4 48 [.slice none 0 0, .float .f64 0, .int .i64 0, .int .i64 0] := ⟨by kernel_rfl⟩
instance : Und Try.prog 124 (TypeDesc.struct #[{ name := "Point", type := 25, offset := 0, embedded := false, tag := "", pkgPath := "", byteOffset := 0 }, { name := "Radius", type := 36, offset := 1, embedded := false, tag := "", pkgPath := "", byteOffset := 24 }, { name := "Closer", type := 3, offset := 2, embedded := false, tag := "", pkgPath := "", byteOffset := 32 }, { name := "Further", type := 3, offset := 3, embedded := false, tag := "", pkgPath := "", byteOffset := 40 }]) := ⟨Try.underlying124⟩
instance : Inf Try.prog 124 4 48 [.slice none 0 0, .float .f64 0, .int .i64 0, .int .i64 0] := ⟨by kernel_rfl⟩
instance : Und Try.prog 125 (TypeDesc.func #[124] #[4] false) := ⟨Try.underlying125⟩
instance : Inf Try.prog 125 1 8 [.nilFunc] := ⟨by kernel_rfl⟩
instance : Und Try.prog 126 (TypeDesc.func #[45, 3, 3] #[4] false) := ⟨Try.underlying126⟩
instance : Inf Try.prog 126 1 8 [.nilFunc] := ⟨by kernel_rfl⟩
instance : Und Try.prog 127 (TypeDesc.func #[26, 25] #[4] false) := ⟨Try.underlying127⟩
instance : Inf Try.prog 127 1 8 [.nilFunc] := ⟨by kernel_rfl⟩
instance : Und Try.prog 128 (TypeDesc.func #[45, 3] #[27, 27, 4] false) := ⟨Try.underlying128⟩
instance : Inf Try.prog 128 1 8 [.nilFunc] := ⟨by kernel_rfl⟩
instance : Und Try.prog 129 (TypeDesc.pointer 183) := ⟨Try.underlying129⟩
instance : Inf Try.prog 129 1 8 [.pointer none] := ⟨by kernel_rfl⟩
instance : Und Try.prog 130 (TypeDesc.func #[45, 3] #[129] false) := ⟨Try.underlying130⟩
instance : Inf Try.prog 130 1 8 [.nilFunc] := ⟨by kernel_rfl⟩
instance : Und Try.prog 131 (TypeDesc.interface #[("Distance", 202)]) := ⟨Try.underlying131⟩
instance : Inf Try.prog 131 1 16 [.nilIface] := ⟨by kernel_rfl⟩
instance : Und Try.prog 132 (TypeDesc.interface #[("Distance", 202)]) := ⟨Try.underlying132⟩
instance : Inf Try.prog 132 1 16 [.nilIface] := ⟨by kernel_rfl⟩
instance : Und Try.prog 133 (TypeDesc.tuple #[132, 36]) := ⟨Try.underlying133⟩
instance : Und Try.prog 134 (TypeDesc.func #[132] #[132, 36] false) := ⟨Try.underlying134⟩
instance : Inf Try.prog 134 1 8 [.nilFunc] := ⟨by kernel_rfl⟩
instance : Und Try.prog 135 (TypeDesc.slice 36) := ⟨Try.underlying135⟩
instance : Inf Try.prog 135 1 24 [.slice none 0 0] := ⟨by kernel_rfl⟩
instance : Und Try.prog 136 (TypeDesc.func #[25, 25] #[36] false) := ⟨Try.underlying136⟩
instance : Inf Try.prog 136 1 8 [.nilFunc] := ⟨by kernel_rfl⟩
instance : Und Try.prog 137 (TypeDesc.func #[26, 26] #[4] false) := ⟨Try.underlying137⟩
instance : Inf Try.prog 137 1 8 [.nilFunc] := ⟨by kernel_rfl⟩
instance : Und Try.prog 138 (TypeDesc.func #[25, 36] #[25] false) := ⟨Try.underlying138⟩
instance : Inf Try.prog 138 1 8 [.nilFunc] := ⟨by kernel_rfl⟩
instance : Und Try.prog 139 (TypeDesc.func #[140, 140] #[36] false) := ⟨Try.underlying139⟩
instance : Inf Try.prog 139 1 8 [.nilFunc] := ⟨by kernel_rfl⟩
instance : Und Try.prog 140 (TypeDesc.slice 36) := ⟨Try.underlying140⟩
instance : Inf Try.prog 140 1 24 [.slice none 0 0] := ⟨by kernel_rfl⟩
instance : Und Try.prog 141 (TypeDesc.func #[61] #[140] false) := ⟨Try.underlying141⟩
instance : Inf Try.prog 141 1 8 [.nilFunc] := ⟨by kernel_rfl⟩
instance : Und Try.prog 142 (TypeDesc.func #[71, 71, 71, 71] #[68] false) := ⟨Try.underlying142⟩
instance : Inf Try.prog 142 1 8 [.nilFunc] := ⟨by kernel_rfl⟩
instance : Und Try.prog 143 (TypeDesc.func #[36, 36] #[71] false) := ⟨Try.underlying143⟩
instance : Inf Try.prog 143 1 8 [.nilFunc] := ⟨by kernel_rfl⟩
instance : Und Try.prog 144 (TypeDesc.func #[] #[3] false) := ⟨Try.underlying144⟩
instance : Inf Try.prog 144 1 8 [.nilFunc] := ⟨by kernel_rfl⟩
instance : Und Try.prog 145 (TypeDesc.int IntKind.u64) := ⟨Try.underlying145⟩
instance : Inf Try.prog 145 1 8 [.int .u64 0] := ⟨by kernel_rfl⟩
instance : Und Try.prog 146 (TypeDesc.func #[3] #[4] false) := ⟨Try.underlying146⟩
instance : Inf Try.prog 146 1 8 [.nilFunc] := ⟨by kernel_rfl⟩
instance : Und Try.prog 147 (TypeDesc.func #[36, 3] #[36] false) := ⟨Try.underlying147⟩
instance : Inf Try.prog 147 1 8 [.nilFunc] := ⟨by kernel_rfl⟩
instance : Und Try.prog 148 (TypeDesc.slice 61) := ⟨Try.underlying148⟩
instance : Inf Try.prog 148 1 24 [.slice none 0 0] := ⟨by kernel_rfl⟩
instance : Und Try.prog 149 (TypeDesc.func #[140] #[36] false) := ⟨Try.underlying149⟩
instance : Inf Try.prog 149 1 8 [.nilFunc] := ⟨by kernel_rfl⟩
instance : Und Try.prog 150 (TypeDesc.func #[78] #[78] false) := ⟨Try.underlying150⟩
instance : Inf Try.prog 150 1 8 [.nilFunc] := ⟨by kernel_rfl⟩
instance : Und Try.prog 151 (TypeDesc.func #[36, 36, 36] #[78] false) := ⟨Try.underlying151⟩
instance : Inf Try.prog 151 1 8 [.nilFunc] := ⟨by kernel_rfl⟩
instance : Und Try.prog 152 (TypeDesc.func #[68, 68] #[82] false) := ⟨Try.underlying152⟩
instance : Inf Try.prog 152 1 8 [.nilFunc] := ⟨by kernel_rfl⟩
instance : Und Try.prog 153 (TypeDesc.interface #[("Error", 222)]) := ⟨Try.underlying153⟩
instance : Inf Try.prog 153 1 16 [.nilIface] := ⟨by kernel_rfl⟩
instance : Und Try.prog 154 (TypeDesc.interface #[("Error", 222)]) := ⟨Try.underlying154⟩
instance : Inf Try.prog 154 1 16 [.nilIface] := ⟨by kernel_rfl⟩
instance : Und Try.prog 155 (TypeDesc.tuple #[140, 154]) := ⟨Try.underlying155⟩
instance : Und Try.prog 156 (TypeDesc.func #[140, 140, 140, 140] #[140, 154] false) := ⟨Try.underlying156⟩
instance : Inf Try.prog 156 1 8 [.nilFunc] := ⟨by kernel_rfl⟩
instance : Und Try.prog 157 (TypeDesc.func #[57] #[140] false) := ⟨Try.underlying157⟩
instance : Inf Try.prog 157 1 8 [.nilFunc] := ⟨by kernel_rfl⟩
instance : Und Try.prog 158 (TypeDesc.func #[140] #[57] false) := ⟨Try.underlying158⟩
instance : Inf Try.prog 158 1 8 [.nilFunc] := ⟨by kernel_rfl⟩
instance : Und Try.prog 159 (TypeDesc.func #[2] #[66] false) := ⟨Try.underlying159⟩
instance : Inf Try.prog 159 1 8 [.nilFunc] := ⟨by kernel_rfl⟩
instance : Und Try.prog 160 (TypeDesc.func #[66] #[66] false) := ⟨Try.underlying160⟩
instance : Inf Try.prog 160 1 8 [.nilFunc] := ⟨by kernel_rfl⟩
instance : Und Try.prog 161 (TypeDesc.func #[36] #[4] false) := ⟨Try.underlying161⟩
instance : Inf Try.prog 161 1 8 [.nilFunc] := ⟨by kernel_rfl⟩
instance : Und Try.prog 162 (TypeDesc.func #[36] #[68] false) := ⟨Try.underlying162⟩
instance : Inf Try.prog 162 1 8 [.nilFunc] := ⟨by kernel_rfl⟩
instance : Und Try.prog 163 (TypeDesc.func #[3] #[3] false) := ⟨Try.underlying163⟩
instance : Inf Try.prog 163 1 8 [.nilFunc] := ⟨by kernel_rfl⟩
instance : Und Try.prog 164 (TypeDesc.int IntKind.i64) := ⟨Try.underlying164⟩
instance : Inf Try.prog 164 1 8 [.int .i64 0] := ⟨by kernel_rfl⟩
instance : Und Try.prog 165 (TypeDesc.func #[166, 140, 25] #[164] false) := ⟨Try.underlying165⟩
instance : Inf Try.prog 165 1 8 [.nilFunc] := ⟨by kernel_rfl⟩
instance : Und Try.prog 166 (TypeDesc.int IntKind.i64) := ⟨Try.underlying166⟩
instance : Inf Try.prog 166 1 8 [.int .i64 0] := ⟨by kernel_rfl⟩
instance : Und Try.prog 167 (TypeDesc.func #[71, 71, 71] #[4] false) := ⟨Try.underlying167⟩
instance : Inf Try.prog 167 1 8 [.nilFunc] := ⟨by kernel_rfl⟩
instance : Und Try.prog 168 (TypeDesc.func #[71, 71, 71] #[3] false) := ⟨Try.underlying168⟩
instance : Inf Try.prog 168 1 8 [.nilFunc] := ⟨by kernel_rfl⟩
instance : Und Try.prog 169 (TypeDesc.pointer 200) := ⟨Try.underlying169⟩
instance : Inf Try.prog 169 1 8 [.pointer none] := ⟨by kernel_rfl⟩
instance : Und Try.prog 170 (TypeDesc.func #[22, 3] #[169] false) := ⟨Try.underlying170⟩
instance : Inf Try.prog 170 1 8 [.nilFunc] := ⟨by kernel_rfl⟩
instance : Und Try.prog 171 (TypeDesc.struct #[{ name := "Root", type := 169, offset := 0, embedded := false, tag := "", pkgPath := "", byteOffset := 0 }, { name := "Count", type := 3, offset := 1, embedded := false, tag := "", pkgPath := "", byteOffset := 8 }]) := ⟨Try.underlying171⟩
instance : Inf Try.prog 171 2 16 [.pointer none, .int .i64 0] := ⟨by kernel_rfl⟩
instance : Und Try.prog 172 (TypeDesc.struct #[{ name := "Root", type := 169, offset := 0, embedded := false, tag := "", pkgPath := "", byteOffset := 0 }, { name := "Count", type := 3, offset := 1, embedded := false, tag := "", pkgPath := "", byteOffset := 8 }]) := ⟨Try.underlying172⟩
instance : Inf Try.prog 172 2 16 [.pointer none, .int .i64 0] := ⟨by kernel_rfl⟩
instance : Und Try.prog 173 (TypeDesc.func #[109, 110, 3] #[4] false) := ⟨Try.underlying173⟩
instance : Inf Try.prog 173 1 8 [.nilFunc] := ⟨by kernel_rfl⟩
instance : Und Try.prog 174 (TypeDesc.func #[173, 3] #[4] false) := ⟨Try.underlying174⟩
instance : Inf Try.prog 174 1 8 [.nilFunc] := ⟨by kernel_rfl⟩
instance : Und Try.prog 175 (TypeDesc.slice 4) := ⟨Try.underlying175⟩
instance : Inf Try.prog 175 1 24 [.slice none 0 0] := ⟨by kernel_rfl⟩
instance : Und Try.prog 176 (TypeDesc.func #[3, 3, 3] #[] false) := ⟨Try.underlying176⟩
instance : Inf Try.prog 176 1 8 [.nilFunc] := ⟨by kernel_rfl⟩
instance : Und Try.prog 177 (TypeDesc.tuple #[3, 3]) := ⟨Try.underlying177⟩
instance : Und Try.prog 178 (TypeDesc.slice 5) := ⟨Try.underlying178⟩
instance : Inf Try.prog 178 1 24 [.slice none 0 0] := ⟨by kernel_rfl⟩
instance : Und Try.prog 179 (TypeDesc.func #[25, 36, 178, 3] #[3] false) := ⟨Try.underlying179⟩
instance : Inf Try.prog 179 1 8 [.nilFunc] := ⟨by kernel_rfl⟩
instance : Und Try.prog 180 (TypeDesc.pointer 188) := ⟨Try.underlying180⟩
instance : Inf Try.prog 180 1 8 [.pointer none] := ⟨by kernel_rfl⟩
instance : Und Try.prog 181 (TypeDesc.func #[45, 3] #[180] false) := ⟨Try.underlying181⟩
instance : Inf Try.prog 181 1 8 [.nilFunc] := ⟨by kernel_rfl⟩
instance : Und Try.prog 182 (TypeDesc.struct #[{ name := "Root", type := 180, offset := 0, embedded := false, tag := "", pkgPath := "", byteOffset := 0 }, { name := "Count", type := 3, offset := 1, embedded := false, tag := "", pkgPath := "", byteOffset := 8 }]) := ⟨Try.underlying182⟩
instance : Inf Try.prog 182 2 16 [.pointer none, .int .i64 0] := ⟨by kernel_rfl⟩
instance : Und Try.prog 183 (TypeDesc.struct #[{ name := "Root", type := 180, offset := 0, embedded := false, tag := "", pkgPath := "", byteOffset := 0 }, { name := "Count", type := 3, offset := 1, embedded := false, tag := "", pkgPath := "", byteOffset := 8 }]) := ⟨Try.underlying183⟩
instance : Inf Try.prog 183 2 16 [.pointer none, .int .i64 0] := ⟨by kernel_rfl⟩
instance : Und Try.prog 184 (TypeDesc.func #[3] #[36] false) := ⟨Try.underlying184⟩
instance : Inf Try.prog 184 1 8 [.nilFunc] := ⟨by kernel_rfl⟩
instance : Und Try.prog 185 (TypeDesc.tuple #[180, 36]) := ⟨Try.underlying185⟩
instance : Und Try.prog 186 (TypeDesc.func #[132, 36] #[180, 36] false) := ⟨Try.underlying186⟩
instance : Inf Try.prog 186 1 8 [.nilFunc] := ⟨by kernel_rfl⟩
instance : Und Try.prog 187 (TypeDesc.struct #[{ name := "Point", type := 132, offset := 0, embedded := false, tag := "", pkgPath := "", byteOffset := 0 }, { name := "Radius", type := 36, offset := 1, embedded := false, tag := "", pkgPath := "", byteOffset := 16 }, { name := "Closer", type := 180, offset := 2, embedded := false, tag := "", pkgPath := "", byteOffset := 24 }, { name := "Further", type := 180, offset := 3, embedded := false, tag := "", pkgPath := "", byteOffset := 32 }]) := ⟨Try.underlying187⟩
instance : Inf Try.prog 187 4 40 [.nilIface, .float .f64 0, .pointer none, .pointer none] := ⟨by kernel_rfl⟩
instance : Und Try.prog 188 (TypeDesc.struct #[{ name := "Point", type := 132, offset := 0, embedded := false, tag := "", pkgPath := "", byteOffset := 0 }, { name := "Radius", type := 36, offset := 1, embedded := false, tag := "", pkgPath := "", byteOffset := 16 }, { name := "Closer", type := 180, offset := 2, embedded := false, tag := "", pkgPath := "", byteOffset := 24 }, { name := "Further", type := 180, offset := 3, embedded := false, tag := "", pkgPath := "", byteOffset := 32 }]) := ⟨Try.underlying188⟩
instance : Inf Try.prog 188 4 40 [.nilIface, .float .f64 0, .pointer none, .pointer none] := ⟨by kernel_rfl⟩
instance : Und Try.prog 189 (TypeDesc.int IntKind.u32) := ⟨Try.underlying189⟩
instance : Inf Try.prog 189 1 4 [.int .u32 0] := ⟨by kernel_rfl⟩
instance : Und Try.prog 190 (TypeDesc.func #[3] #[66] false) := ⟨Try.underlying190⟩
instance : Inf Try.prog 190 1 8 [.nilFunc] := ⟨by kernel_rfl⟩
instance : Und Try.prog 191 (TypeDesc.func #[9] #[154] false) := ⟨Try.underlying191⟩
instance : Inf Try.prog 191 1 8 [.nilFunc] := ⟨by kernel_rfl⟩
instance : Und Try.prog 192 (TypeDesc.func #[36, 3] #[4] false) := ⟨Try.underlying192⟩
instance : Inf Try.prog 192 1 8 [.nilFunc] := ⟨by kernel_rfl⟩
instance : Und Try.prog 193 (TypeDesc.func #[64] #[64] false) := ⟨Try.underlying193⟩
instance : Inf Try.prog 193 1 8 [.nilFunc] := ⟨by kernel_rfl⟩
instance : Und Try.prog 194 (TypeDesc.func #[] #[66] false) := ⟨Try.underlying194⟩
instance : Inf Try.prog 194 1 8 [.nilFunc] := ⟨by kernel_rfl⟩
instance : Und Try.prog 195 (TypeDesc.func #[68, 68, 68] #[4] false) := ⟨Try.underlying195⟩
instance : Inf Try.prog 195 1 8 [.nilFunc] := ⟨by kernel_rfl⟩
instance : Und Try.prog 196 (TypeDesc.func #[71, 71, 71] #[68] false) := ⟨Try.underlying196⟩
instance : Inf Try.prog 196 1 8 [.nilFunc] := ⟨by kernel_rfl⟩
instance : Und Try.prog 197 (TypeDesc.int IntKind.i64) := ⟨Try.underlying197⟩
instance : Inf Try.prog 197 1 8 [.int .i64 0] := ⟨by kernel_rfl⟩
instance : Und Try.prog 198 (TypeDesc.func #[25, 25] #[110] false) := ⟨Try.underlying198⟩
instance : Inf Try.prog 198 1 8 [.nilFunc] := ⟨by kernel_rfl⟩
instance : Und Try.prog 199 (TypeDesc.struct #[{ name := "Point", type := 109, offset := 0, embedded := false, tag := "", pkgPath := "", byteOffset := 0 }, { name := "Plane", type := 197, offset := 1, embedded := false, tag := "", pkgPath := "", byteOffset := 16 }, { name := "Left", type := 169, offset := 2, embedded := false, tag := "", pkgPath := "", byteOffset := 24 }, { name := "Right", type := 169, offset := 3, embedded := false, tag := "", pkgPath := "", byteOffset := 32 }, { name := "Bounding", type := 110, offset := 4, embedded := true, tag := "", pkgPath := "", byteOffset := 40 }]) := ⟨Try.underlying199⟩
instance : Inf Try.prog 199 5 48 [.nilIface, .int .i64 0, .pointer none, .pointer none, .pointer none] := ⟨by kernel_rfl⟩
instance : Und Try.prog 200 (TypeDesc.struct #[{ name := "Point", type := 109, offset := 0, embedded := false, tag := "", pkgPath := "", byteOffset := 0 }, { name := "Plane", type := 197, offset := 1, embedded := false, tag := "", pkgPath := "", byteOffset := 16 }, { name := "Left", type := 169, offset := 2, embedded := false, tag := "", pkgPath := "", byteOffset := 24 }, { name := "Right", type := 169, offset := 3, embedded := false, tag := "", pkgPath := "", byteOffset := 32 }, { name := "Bounding", type := 110, offset := 4, embedded := true, tag := "", pkgPath := "", byteOffset := 40 }]) := ⟨Try.underlying200⟩
instance : Inf Try.prog 200 5 48 [.nilIface, .int .i64 0, .pointer none, .pointer none, .pointer none] := ⟨by kernel_rfl⟩
instance : Und Try.prog 201 (TypeDesc.func #[25, 25, 25] #[36] false) := ⟨Try.underlying201⟩
instance : Inf Try.prog 201 1 8 [.nilFunc] := ⟨by kernel_rfl⟩
instance : Und Try.prog 202 (TypeDesc.func #[132] #[36] false) := ⟨Try.underlying202⟩
instance : Inf Try.prog 202 1 8 [.nilFunc] := ⟨by kernel_rfl⟩
instance : Und Try.prog 203 (TypeDesc.func #[36, 36] #[36] false) := ⟨Try.underlying203⟩
instance : Inf Try.prog 203 1 8 [.nilFunc] := ⟨by kernel_rfl⟩
instance : Und Try.prog 204 (TypeDesc.tuple #[36, 3]) := ⟨Try.underlying204⟩
instance : Und Try.prog 205 (TypeDesc.func #[36] #[36, 3] false) := ⟨Try.underlying205⟩
instance : Inf Try.prog 205 1 8 [.nilFunc] := ⟨by kernel_rfl⟩
instance : Und Try.prog 206 (TypeDesc.func #[64, 64] #[64] false) := ⟨Try.underlying206⟩
instance : Inf Try.prog 206 1 8 [.nilFunc] := ⟨by kernel_rfl⟩
instance : Und Try.prog 207 (TypeDesc.func #[64, 64] #[3] false) := ⟨Try.underlying207⟩
instance : Inf Try.prog 207 1 8 [.nilFunc] := ⟨by kernel_rfl⟩
instance : Und Try.prog 208 (TypeDesc.pointer 210) := ⟨Try.underlying208⟩
instance : Inf Try.prog 208 1 8 [.pointer none] := ⟨by kernel_rfl⟩
instance : Und Try.prog 209 (TypeDesc.struct #[{ name := "s", type := 9, offset := 0, embedded := false, tag := "", pkgPath := "errors", byteOffset := 0 }]) := ⟨Try.underlying209⟩
instance : Inf Try.prog 209 1 16 [.string ⟨#[]⟩] := ⟨by kernel_rfl⟩
instance : Und Try.prog 210 (TypeDesc.struct #[{ name := "s", type := 9, offset := 0, embedded := false, tag := "", pkgPath := "errors", byteOffset := 0 }]) := ⟨Try.underlying210⟩
instance : Inf Try.prog 210 1 16 [.string ⟨#[]⟩] := ⟨by kernel_rfl⟩
instance : Und Try.prog 211 (TypeDesc.struct #[{ name := "p", type := 140, offset := 0, embedded := false, tag := "", pkgPath := "pub-orthodrome/pub/gogeom/xy/inner/raycrossing", byteOffset := 0 }, { name := "crossingCount", type := 3, offset := 1, embedded := false, tag := "", pkgPath := "pub-orthodrome/pub/gogeom/xy/inner/raycrossing", byteOffset := 24 }, { name := "isPointOnSegment", type := 4, offset := 2, embedded := false, tag := "", pkgPath := "pub-orthodrome/pub/gogeom/xy/inner/raycrossing", byteOffset := 32 }]) := ⟨Try.underlying211⟩
instance : Inf Try.prog 211 3 40 [.slice none 0 0, .int .i64 0, .bool false] := ⟨by kernel_rfl⟩
instance : Und Try.prog 212 (TypeDesc.struct #[{ name := "p", type := 140, offset := 0, embedded := false, tag := "", pkgPath := "pub-orthodrome/pub/gogeom/xy/inner/raycrossing", byteOffset := 0 }, { name := "crossingCount", type := 3, offset := 1, embedded := false, tag := "", pkgPath := "pub-orthodrome/pub/gogeom/xy/inner/raycrossing", byteOffset := 24 }, { name := "isPointOnSegment", type := 4, offset := 2, embedded := false, tag := "", pkgPath := "pub-orthodrome/pub/gogeom/xy/inner/raycrossing", byteOffset := 32 }]) := ⟨Try.underlying212⟩
instance : Inf Try.prog 212 3 40 [.slice none 0 0, .int .i64 0, .bool false] := ⟨by kernel_rfl⟩
instance : Und Try.prog 213 (TypeDesc.func #[140, 140] #[] false) := ⟨Try.underlying213⟩
instance : Inf Try.prog 213 1 8 [.nilFunc] := ⟨by kernel_rfl⟩
instance : Und Try.prog 214 (TypeDesc.func #[] #[164] false) := ⟨Try.underlying214⟩
instance : Inf Try.prog 214 1 8 [.nilFunc] := ⟨by kernel_rfl⟩
instance : Und Try.prog 215 (TypeDesc.struct #[{ name := "Min", type := 109, offset := 0, embedded := false, tag := "", pkgPath := "", byteOffset := 0 }, { name := "Max", type := 109, offset := 1, embedded := false, tag := "", pkgPath := "", byteOffset := 16 }]) := ⟨Try.underlying215⟩
instance : Inf Try.prog 215 2 32 [.nilIface, .nilIface] := ⟨by kernel_rfl⟩
instance : Und Try.prog 216 (TypeDesc.struct #[{ name := "Min", type := 109, offset := 0, embedded := false, tag := "", pkgPath := "", byteOffset := 0 }, { name := "Max", type := 109, offset := 1, embedded := false, tag := "", pkgPath := "", byteOffset := 16 }]) := ⟨Try.underlying216⟩
instance : Inf Try.prog 216 2 32 [.nilIface, .nilIface] := ⟨by kernel_rfl⟩
instance : Und Try.prog 217 (TypeDesc.pointer 212) := ⟨Try.underlying217⟩
instance : Inf Try.prog 217 1 8 [.pointer none] := ⟨by kernel_rfl⟩
instance : Und Try.prog 218 (TypeDesc.int IntKind.i64) := ⟨Try.underlying218⟩
instance : Inf Try.prog 218 1 8 [.int .i64 0] := ⟨by kernel_rfl⟩
instance : Und Try.prog 219 (TypeDesc.func #[36, 36, 36, 36] #[218] false) := ⟨Try.underlying219⟩
instance : Inf Try.prog 219 1 8 [.nilFunc] := ⟨by kernel_rfl⟩
instance : Und Try.prog 220 (TypeDesc.tuple #[36, 36]) := ⟨Try.underlying220⟩
instance : Und Try.prog 221 (TypeDesc.func #[36] #[36, 36] false) := ⟨Try.underlying221⟩
instance : Inf Try.prog 221 1 8 [.nilFunc] := ⟨by kernel_rfl⟩
instance : Und Try.prog 222 (TypeDesc.func #[] #[9] false) := ⟨Try.underlying222⟩
instance : Inf Try.prog 222 1 8 [.nilFunc] := ⟨by kernel_rfl⟩
instance : Und Try.prog 223 (TypeDesc.struct #[{ name := "_interface", type := 17, offset := 0, embedded := false, tag := "", pkgPath := "runtime", byteOffset := 0 }, { name := "concrete", type := 17, offset := 1, embedded := false, tag := "", pkgPath := "runtime", byteOffset := 8 }, { name := "asserted", type := 17, offset := 2, embedded := false, tag := "", pkgPath := "runtime", byteOffset := 16 }, { name := "missingMethod", type := 9, offset := 3, embedded := false, tag := "", pkgPath := "runtime", byteOffset := 24 }]) := ⟨Try.underlying223⟩
instance : Inf Try.prog 223 4 40 [.pointer none, .pointer none, .pointer none, .string ⟨#[]⟩] := ⟨by kernel_rfl⟩
instance : Und Try.prog 224 (TypeDesc.struct #[{ name := "_interface", type := 17, offset := 0, embedded := false, tag := "", pkgPath := "runtime", byteOffset := 0 }, { name := "concrete", type := 17, offset := 1, embedded := false, tag := "", pkgPath := "runtime", byteOffset := 8 }, { name := "asserted", type := 17, offset := 2, embedded := false, tag := "", pkgPath := "runtime", byteOffset := 16 }, { name := "missingMethod", type := 9, offset := 3, embedded := false, tag := "", pkgPath := "runtime", byteOffset := 24 }]) := ⟨Try.underlying224⟩
instance : Inf Try.prog 224 4 40 [.pointer none, .pointer none, .pointer none, .string ⟨#[]⟩] := ⟨by kernel_rfl⟩
instance : Und Try.prog 225 (TypeDesc.array 0 16) := ⟨Try.underlying225⟩
instance : Inf Try.prog 225 0 0 [] := ⟨by kernel_rfl⟩
instance : Und Try.prog 226 (TypeDesc.struct #[{ name := "_", type := 225, offset := 0, embedded := false, tag := "", pkgPath := "runtime", byteOffset := 0 }]) := ⟨Try.underlying226⟩
instance : Inf Try.prog 226 0 0 [] := ⟨by kernel_rfl⟩
instance : Und Try.prog 227 (TypeDesc.struct #[{ name := "_", type := 225, offset := 0, embedded := false, tag := "", pkgPath := "runtime", byteOffset := 0 }]) := ⟨Try.underlying227⟩
instance : Inf Try.prog 227 0 0 [] := ⟨by kernel_rfl⟩
instance : Und Try.prog 228 (TypeDesc.int IntKind.u8) := ⟨Try.underlying228⟩
instance : Inf Try.prog 228 1 1 [.int .u8 0] := ⟨by kernel_rfl⟩
instance : Und Try.prog 229 (TypeDesc.int IntKind.u8) := ⟨Try.underlying229⟩
instance : Inf Try.prog 229 1 1 [.int .u8 0] := ⟨by kernel_rfl⟩
instance : Und Try.prog 230 (TypeDesc.func #[241, 241] #[4] false) := ⟨Try.underlying230⟩
instance : Inf Try.prog 230 1 8 [.nilFunc] := ⟨by kernel_rfl⟩
instance : Und Try.prog 231 (TypeDesc.pointer 5) := ⟨Try.underlying231⟩
instance : Inf Try.prog 231 1 8 [.pointer none] := ⟨by kernel_rfl⟩
instance : Und Try.prog 232 (TypeDesc.int IntKind.i32) := ⟨Try.underlying232⟩
instance : Inf Try.prog 232 1 4 [.int .i32 0] := ⟨by kernel_rfl⟩
instance : Und Try.prog 233 (TypeDesc.int IntKind.i32) := ⟨Try.underlying233⟩
instance : Inf Try.prog 233 1 4 [.int .i32 0] := ⟨by kernel_rfl⟩
instance : Und Try.prog 234 (TypeDesc.struct #[{ name := "Size_", type := 12, offset := 0, embedded := false, tag := "", pkgPath := "", byteOffset := 0 }, { name := "PtrBytes", type := 12, offset := 1, embedded := false, tag := "", pkgPath := "", byteOffset := 8 }, { name := "Hash", type := 189, offset := 2, embedded := false, tag := "", pkgPath := "", byteOffset := 16 }, { name := "TFlag", type := 228, offset := 3, embedded := false, tag := "", pkgPath := "", byteOffset := 20 }, { name := "Align_", type := 5, offset := 4, embedded := false, tag := "", pkgPath := "", byteOffset := 21 }, { name := "FieldAlign_", type := 5, offset := 5, embedded := false, tag := "", pkgPath := "", byteOffset := 22 }, { name := "Kind_", type := 229, offset := 6, embedded := false, tag := "", pkgPath := "", byteOffset := 23 }, { name := "Equal", type := 230, offset := 7, embedded := false, tag := "", pkgPath := "", byteOffset := 24 }, { name := "GCData", type := 231, offset := 8, embedded := false, tag := "", pkgPath := "", byteOffset := 32 }, { name := "Str", type := 232, offset := 9, embedded := false, tag := "", pkgPath := "", byteOffset := 40 }, { name := "PtrToThis", type := 233, offset := 10, embedded := false, tag := "", pkgPath := "", byteOffset := 44 }]) := ⟨Try.underlying234⟩
instance : Inf Try.prog 234 11 48 [.int .u64 0, .int .u64 0, .int .u32 0, .int .u8 0, .int .u8 0, .int .u8 0, .int .u8 0, .nilFunc, .pointer none, .int .i32 0, .int .i32 0] := ⟨by kernel_rfl⟩
instance : Und Try.prog 235 (TypeDesc.struct #[{ name := "Size_", type := 12, offset := 0, embedded := false, tag := "", pkgPath := "", byteOffset := 0 }, { name := "PtrBytes", type := 12, offset := 1, embedded := false, tag := "", pkgPath := "", byteOffset := 8 }, { name := "Hash", type := 189, offset := 2, embedded := false, tag := "", pkgPath := "", byteOffset := 16 }, { name := "TFlag", type := 228, offset := 3, embedded := false, tag := "", pkgPath := "", byteOffset := 20 }, { name := "Align_", type := 5, offset := 4, embedded := false, tag := "", pkgPath := "", byteOffset := 21 }, { name := "FieldAlign_", type := 5, offset := 5, embedded := false, tag := "", pkgPath := "", byteOffset := 22 }, { name := "Kind_", type := 229, offset := 6, embedded := false, tag := "", pkgPath := "", byteOffset := 23 }, { name := "Equal", type := 230, offset := 7, embedded := false, tag := "", pkgPath := "", byteOffset := 24 }, { name := "GCData", type := 231, offset := 8, embedded := false, tag := "", pkgPath := "", byteOffset := 32 }, { name := "Str", type := 232, offset := 9, embedded := false, tag := "", pkgPath := "", byteOffset := 40 }, { name := "PtrToThis", type := 233, offset := 10, embedded := false, tag := "", pkgPath := "", byteOffset := 44 }]) := ⟨Try.underlying235⟩
instance : Inf Try.prog 235 11 48 [.int .u64 0, .int .u64 0, .int .u32 0, .int .u8 0, .int .u8 0, .int .u8 0, .int .u8 0, .nilFunc, .pointer none, .int .i32 0, .int .i32 0] := ⟨by kernel_rfl⟩
instance : Und Try.prog 236 (TypeDesc.func #[36, 3, 36] #[4] false) := ⟨Try.underlying236⟩
instance : Inf Try.prog 236 1 8 [.nilFunc] := ⟨by kernel_rfl⟩
instance : Und Try.prog 237 (TypeDesc.func #[109, 197] #[36] false) := ⟨Try.underlying237⟩
instance : Inf Try.prog 237 1 8 [.nilFunc] := ⟨by kernel_rfl⟩
instance : Und Try.prog 238 (TypeDesc.func #[109] #[36] false) := ⟨Try.underlying238⟩
instance : Inf Try.prog 238 1 8 [.nilFunc] := ⟨by kernel_rfl⟩
instance : Und Try.prog 239 (TypeDesc.func #[109] #[4] false) := ⟨Try.underlying239⟩
instance : Inf Try.prog 239 1 8 [.nilFunc] := ⟨by kernel_rfl⟩
instance : Und Try.prog 240 (TypeDesc.func #[243, 3] #[4] false) := ⟨Try.underlying240⟩
instance : Inf Try.prog 240 1 8 [.nilFunc] := ⟨by kernel_rfl⟩
instance : Und Try.prog 241 TypeDesc.unsafePointer := ⟨Try.underlying241⟩
instance : Inf Try.prog 241 1 8 [.pointer none] := ⟨by kernel_rfl⟩
instance : Und Try.prog 242 (TypeDesc.func #[132, 3] #[4] false) := ⟨Try.underlying242⟩
instance : Inf Try.prog 242 1 8 [.nilFunc] := ⟨by kernel_rfl⟩
instance : Und Try.prog 243 (TypeDesc.func #[132, 3] #[4] false) := ⟨Try.underlying243⟩
instance : Inf Try.prog 243 1 8 [.nilFunc] := ⟨by kernel_rfl⟩
instance : FieldAt Try.prog 7 0 0 := .mk' Try.underlying7 rfl rfl (by kernel_rfl)
instance : FieldAt Try.prog 7 1 1 := .mk' Try.underlying7 rfl rfl (by kernel_rfl)
instance : FieldAt Try.prog 7 2 2 := .mk' Try.underlying7 rfl rfl (by kernel_rfl)
instance : FieldAt Try.prog 7 3 3 := .mk' Try.underlying7 rfl rfl (by kernel_rfl)
instance : FieldAt Try.prog 8 0 0 := .mk' Try.underlying8 rfl rfl (by kernel_rfl)
instance : FieldAt Try.prog 8 1 1 := .mk' Try.underlying8 rfl rfl (by kernel_rfl)
instance : FieldAt Try.prog 8 2 2 := .mk' Try.underlying8 rfl rfl (by kernel_rfl)
instance : FieldAt Try.prog 8 3 3 := .mk' Try.underlying8 rfl rfl (by kernel_rfl)
instance : FieldAt Try.prog 13 0 0 := .mk' Try.underlying13 rfl rfl (by kernel_rfl)
instance : FieldAt Try.prog 13 1 1 := .mk' Try.underlying13 rfl rfl (by kernel_rfl)
instance : FieldAt Try.prog 14 0 0 := .mk' Try.underlying14 rfl rfl (by kernel_rfl)
instance : FieldAt Try.prog 14 1 1 := .mk' Try.underlying14 rfl rfl (by kernel_rfl)
instance : FieldAt Try.prog 18 0 0 := .mk' Try.underlying18 rfl rfl (by kernel_rfl)
instance : FieldAt Try.prog 19 0 0 := .mk' Try.underlying19 rfl rfl (by kernel_rfl)
instance : FieldAt Try.prog 33 0 0 := .mk' Try.underlying33 rfl rfl (by kernel_rfl)
instance : FieldAt Try.prog 33 1 1 := .mk' Try.underlying33 rfl rfl (by kernel_rfl)
instance : FieldAt Try.prog 33 2 2 := .mk' Try.underlying33 rfl rfl (by kernel_rfl)
instance : FieldAt Try.prog 33 3 3 := .mk' Try.underlying33 rfl rfl (by kernel_rfl)
instance : FieldAt Try.prog 33 4 4 := .mk' Try.underlying33 rfl rfl (by kernel_rfl)
instance : FieldAt Try.prog 33 5 5 := .mk' Try.underlying33 rfl rfl (by kernel_rfl)
instance : FieldAt Try.prog 34 0 0 := .mk' Try.underlying34 rfl rfl (by kernel_rfl)
instance : FieldAt Try.prog 34 1 1 := .mk' Try.underlying34 rfl rfl (by kernel_rfl)
instance : FieldAt Try.prog 34 2 2 := .mk' Try.underlying34 rfl rfl (by kernel_rfl)
instance : FieldAt Try.prog 34 3 3 := .mk' Try.underlying34 rfl rfl (by kernel_rfl)
instance : FieldAt Try.prog 34 4 4 := .mk' Try.underlying34 rfl rfl (by kernel_rfl)
instance : FieldAt Try.prog 34 5 5 := .mk' Try.underlying34 rfl rfl (by kernel_rfl)
instance : FieldAt Try.prog 52 0 0 := .mk' Try.underlying52 rfl rfl (by kernel_rfl)
instance : FieldAt Try.prog 52 1 1 := .mk' Try.underlying52 rfl rfl (by kernel_rfl)
instance : FieldAt Try.prog 53 0 0 := .mk' Try.underlying53 rfl rfl (by kernel_rfl)
instance : FieldAt Try.prog 53 1 1 := .mk' Try.underlying53 rfl rfl (by kernel_rfl)
instance : FieldAt Try.prog 56 0 0 := .mk' Try.underlying56 rfl rfl (by kernel_rfl)
instance : FieldAt Try.prog 56 1 1 := .mk' Try.underlying56 rfl rfl (by kernel_rfl)
instance : FieldAt Try.prog 57 0 0 := .mk' Try.underlying57 rfl rfl (by kernel_rfl)
instance : FieldAt Try.prog 57 1 1 := .mk' Try.underlying57 rfl rfl (by kernel_rfl)
instance : FieldAt Try.prog 60 0 0 := .mk' Try.underlying60 rfl rfl (by kernel_rfl)
instance : FieldAt Try.prog 60 1 1 := .mk' Try.underlying60 rfl rfl (by kernel_rfl)
instance : FieldAt Try.prog 60 2 2 := .mk' Try.underlying60 rfl rfl (by kernel_rfl)
instance : FieldAt Try.prog 61 0 0 := .mk' Try.underlying61 rfl rfl (by kernel_rfl)
instance : FieldAt Try.prog 61 1 1 := .mk' Try.underlying61 rfl rfl (by kernel_rfl)
instance : FieldAt Try.prog 61 2 2 := .mk' Try.underlying61 rfl rfl (by kernel_rfl)
instance : FieldAt Try.prog 65 0 0 := .mk' Try.underlying65 rfl rfl (by kernel_rfl)
instance : FieldAt Try.prog 65 1 1 := .mk' Try.underlying65 rfl rfl (by kernel_rfl)
instance : FieldAt Try.prog 66 0 0 := .mk' Try.underlying66 rfl rfl (by kernel_rfl)
instance : FieldAt Try.prog 66 1 1 := .mk' Try.underlying66 rfl rfl (by kernel_rfl)
instance : FieldAt Try.prog 67 0 0 := .mk' Try.underlying67 rfl rfl (by kernel_rfl)
instance : FieldAt Try.prog 67 1 2 := .mk' Try.underlying67 rfl rfl (by kernel_rfl)
instance : FieldAt Try.prog 68 0 0 := .mk' Try.underlying68 rfl rfl (by kernel_rfl)
instance : FieldAt Try.prog 68 1 2 := .mk' Try.underlying68 rfl rfl (by kernel_rfl)
instance : FieldAt Try.prog 70 0 0 := .mk' Try.underlying70 rfl rfl (by kernel_rfl)
instance : FieldAt Try.prog 70 1 3 := .mk' Try.underlying70 rfl rfl (by kernel_rfl)
instance : FieldAt Try.prog 71 0 0 := .mk' Try.underlying71 rfl rfl (by kernel_rfl)
instance : FieldAt Try.prog 71 1 3 := .mk' Try.underlying71 rfl rfl (by kernel_rfl)
instance : FieldAt Try.prog 77 0 0 := .mk' Try.underlying77 rfl rfl (by kernel_rfl)
instance : FieldAt Try.prog 77 1 3 := .mk' Try.underlying77 rfl rfl (by kernel_rfl)
instance : FieldAt Try.prog 77 2 6 := .mk' Try.underlying77 rfl rfl (by kernel_rfl)
instance : FieldAt Try.prog 78 0 0 := .mk' Try.underlying78 rfl rfl (by kernel_rfl)
instance : FieldAt Try.prog 78 1 3 := .mk' Try.underlying78 rfl rfl (by kernel_rfl)
instance : FieldAt Try.prog 78 2 6 := .mk' Try.underlying78 rfl rfl (by kernel_rfl)
instance : FieldAt Try.prog 81 0 0 := .mk' Try.underlying81 rfl rfl (by kernel_rfl)
instance : FieldAt Try.prog 81 1 3 := .mk' Try.underlying81 rfl rfl (by kernel_rfl)
instance : FieldAt Try.prog 82 0 0 := .mk' Try.underlying82 rfl rfl (by kernel_rfl)
instance : FieldAt Try.prog 82 1 3 := .mk' Try.underlying82 rfl rfl (by kernel_rfl)
instance : FieldAt Try.prog 123 0 0 := .mk' Try.underlying123 rfl rfl (by kernel_rfl)
instance : FieldAt Try.prog 123 1 1 := .mk' Try.underlying123 rfl rfl (by kernel_rfl)
instance : FieldAt Try.prog 123 2 2 := .mk' Try.underlying123 rfl rfl (by kernel_rfl)
instance : FieldAt Try.prog 123 3 3 := .mk' Try.underlying123 rfl rfl (by kernel_rfl)
instance : FieldAt Try.prog 124 0 0 := .mk' Try.underlying124 rfl rfl (by kernel_rfl)
instance : FieldAt Try.prog 124 1 1 := .mk' Try.underlying124 rfl rfl (by kernel_rfl)
instance : FieldAt Try.prog 124 2 2 := .mk' Try.underlying124 rfl rfl (by kernel_rfl)
instance : FieldAt Try.prog 124 3 3 := .mk' Try.underlying124 rfl rfl (by kernel_rfl)
instance : FieldAt Try.prog 171 0 0 := .mk' Try.underlying171 rfl rfl (by kernel_rfl)
instance : FieldAt Try.prog 171 1 1 := .mk' Try.underlying171 rfl rfl (by kernel_rfl)
instance : FieldAt Try.prog 172 0 0 := .mk' Try.underlying172 rfl rfl (by kernel_rfl)
instance : FieldAt Try.prog 172 1 1 := .mk' Try.underlying172 rfl rfl (by kernel_rfl)
instance : FieldAt Try.prog 182 0 0 := .mk' Try.underlying182 rfl rfl (by kernel_rfl)
instance : FieldAt Try.prog 182 1 1 := .mk' Try.underlying182 rfl rfl (by kernel_rfl)
instance : FieldAt Try.prog 183 0 0 := .mk' Try.underlying183 rfl rfl (by kernel_rfl)
instance : FieldAt Try.prog 183 1 1 := .mk' Try.underlying183 rfl rfl (by kernel_rfl)
instance : FieldAt Try.prog 187 0 0 := .mk' Try.underlying187 rfl rfl (by kernel_rfl)
instance : FieldAt Try.prog 187 1 1 := .mk' Try.underlying187 rfl rfl (by kernel_rfl)
instance : FieldAt Try.prog 187 2 2 := .mk' Try.underlying187 rfl rfl (by kernel_rfl)
instance : FieldAt Try.prog 187 3 3 := .mk' Try.underlying187 rfl rfl (by kernel_rfl)
instance : FieldAt Try.prog 188 0 0 := .mk' Try.underlying188 rfl rfl (by kernel_rfl)
instance : FieldAt Try.prog 188 1 1 := .mk' Try.underlying188 rfl rfl (by kernel_rfl)
instance : FieldAt Try.prog 188 2 2 := .mk' Try.underlying188 rfl rfl (by kernel_rfl)
instance : FieldAt Try.prog 188 3 3 := .mk' Try.underlying188 rfl rfl (by kernel_rfl)
instance : FieldAt Try.prog 199 0 0 := .mk' Try.underlying199 rfl rfl (by kernel_rfl)
instance : FieldAt Try.prog 199 1 1 := .mk' Try.underlying199 rfl rfl (by kernel_rfl)
instance : FieldAt Try.prog 199 2 2 := .mk' Try.underlying199 rfl rfl (by kernel_rfl)
instance : FieldAt Try.prog 199 3 3 := .mk' Try.underlying199 rfl rfl (by kernel_rfl)
instance : FieldAt Try.prog 199 4 4 := .mk' Try.underlying199 rfl rfl (by kernel_rfl)
instance : FieldAt Try.prog 200 0 0 := .mk' Try.underlying200 rfl rfl (by kernel_rfl)
instance : FieldAt Try.prog 200 1 1 := .mk' Try.underlying200 rfl rfl (by kernel_rfl)
instance : FieldAt Try.prog 200 2 2 := .mk' Try.underlying200 rfl rfl (by kernel_rfl)
instance : FieldAt Try.prog 200 3 3 := .mk' Try.underlying200 rfl rfl (by kernel_rfl)
instance : FieldAt Try.prog 200 4 4 := .mk' Try.underlying200 rfl rfl (by kernel_rfl)
instance : FieldAt Try.prog 209 0 0 := .mk' Try.underlying209 rfl rfl (by kernel_rfl)
instance : FieldAt Try.prog 210 0 0 := .mk' Try.underlying210 rfl rfl (by kernel_rfl)
instance : FieldAt Try.prog 211 0 0 := .mk' Try.underlying211 rfl rfl (by kernel_rfl)
instance : FieldAt Try.prog 211 1 1 := .mk' Try.underlying211 rfl rfl (by kernel_rfl)
instance : FieldAt Try.prog 211 2 2 := .mk' Try.underlying211 rfl rfl (by kernel_rfl)
instance : FieldAt Try.prog 212 0 0 := .mk' Try.underlying212 rfl rfl (by kernel_rfl)
instance : FieldAt Try.prog 212 1 1 := .mk' Try.underlying212 rfl rfl (by kernel_rfl)
instance : FieldAt Try.prog 212 2 2 := .mk' Try.underlying212 rfl rfl (by kernel_rfl)
instance : FieldAt Try.prog 215 0 0 := .mk' Try.underlying215 rfl rfl (by kernel_rfl)
instance : FieldAt Try.prog 215 1 1 := .mk' Try.underlying215 rfl rfl (by kernel_rfl)
instance : FieldAt Try.prog 216 0 0 := .mk' Try.underlying216 rfl rfl (by kernel_rfl)
instance : FieldAt Try.prog 216 1 1 := .mk' Try.underlying216 rfl rfl (by kernel_rfl)
instance : FieldAt Try.prog 223 0 0 := .mk' Try.underlying223 rfl rfl (by kernel_rfl)
instance : FieldAt Try.prog 223 1 1 := .mk' Try.underlying223 rfl rfl (by kernel_rfl)
instance : FieldAt Try.prog 223 2 2 := .mk' Try.underlying223 rfl rfl (by kernel_rfl)
instance : FieldAt Try.prog 223 3 3 := .mk' Try.underlying223 rfl rfl (by kernel_rfl)
instance : FieldAt Try.prog 224 0 0 := .mk' Try.underlying224 rfl rfl (by kernel_rfl)
instance : FieldAt Try.prog 224 1 1 := .mk' Try.underlying224 rfl rfl (by kernel_rfl)
instance : FieldAt Try.prog 224 2 2 := .mk' Try.underlying224 rfl rfl (by kernel_rfl)
instance : FieldAt Try.prog 224 3 3 := .mk' Try.underlying224 rfl rfl (by kernel_rfl)
instance : FieldAt Try.prog 234 0 0 := .mk' Try.underlying234 rfl rfl (by kernel_rfl)
instance : FieldAt Try.prog 234 1 1 := .mk' Try.underlying234 rfl rfl (by kernel_rfl)
instance : FieldAt Try.prog 234 2 2 := .mk' Try.underlying234 rfl rfl (by kernel_rfl)
instance : FieldAt Try.prog 234 3 3 := .mk' Try.underlying234 rfl rfl (by kernel_rfl)
instance : FieldAt Try.prog 234 4 4 := .mk' Try.underlying234 rfl rfl (by kernel_rfl)
instance : FieldAt Try.prog 234 5 5 := .mk' Try.underlying234 rfl rfl (by kernel_rfl)
instance : FieldAt Try.prog 234 6 6 := .mk' Try.underlying234 rfl rfl (by kernel_rfl)
instance : FieldAt Try.prog 234 7 7 := .mk' Try.underlying234 rfl rfl (by kernel_rfl)
instance : FieldAt Try.prog 234 8 8 := .mk' Try.underlying234 rfl rfl (by kernel_rfl)
instance : FieldAt Try.prog 234 9 9 := .mk' Try.underlying234 rfl rfl (by kernel_rfl)
instance : FieldAt Try.prog 234 10 10 := .mk' Try.underlying234 rfl rfl (by kernel_rfl)
instance : FieldAt Try.prog 235 0 0 := .mk' Try.underlying235 rfl rfl (by kernel_rfl)
instance : FieldAt Try.prog 235 1 1 := .mk' Try.underlying235 rfl rfl (by kernel_rfl)
instance : FieldAt Try.prog 235 2 2 := .mk' Try.underlying235 rfl rfl (by kernel_rfl)
instance : FieldAt Try.prog 235 3 3 := .mk' Try.underlying235 rfl rfl (by kernel_rfl)
instance : FieldAt Try.prog 235 4 4 := .mk' Try.underlying235 rfl rfl (by kernel_rfl)
instance : FieldAt Try.prog 235 5 5 := .mk' Try.underlying235 rfl rfl (by kernel_rfl)
instance : FieldAt Try.prog 235 6 6 := .mk' Try.underlying235 rfl rfl (by kernel_rfl)
instance : FieldAt Try.prog 235 7 7 := .mk' Try.underlying235 rfl rfl (by kernel_rfl)
instance : FieldAt Try.prog 235 8 8 := .mk' Try.underlying235 rfl rfl (by kernel_rfl)
instance : FieldAt Try.prog 235 9 9 := .mk' Try.underlying235 rfl rfl (by kernel_rfl)
instance : FieldAt Try.prog 235 10 10 := .mk' Try.underlying235 rfl rfl (by kernel_rfl)
instance : Places Try.prog [{ name := "x", type := 2, offset := 0, embedded := false, tag := "", pkgPath := "runtime", byteOffset := 0 }, { name := "y", type := 3, offset := 1, embedded := false, tag := "", pkgPath := "runtime", byteOffset := 8 }, { name := "signed", type := 4, offset := 2, embedded := false, tag := "", pkgPath := "runtime", byteOffset := 16 }, { name := "code", type := 6, offset := 3, embedded := false, tag := "", pkgPath := "runtime", byteOffset := 17 }] [(0, 1), (1, 1), (2, 1), (3, 1)] := ⟨by kernel_rfl⟩
instance : Places Try.prog [{ name := "msg", type := 9, offset := 0, embedded := false, tag := "", pkgPath := "runtime", byteOffset := 0 }, { name := "addr", type := 12, offset := 1, embedded := false, tag := "", pkgPath := "runtime", byteOffset := 16 }] [(0, 1), (1, 1)] := ⟨by kernel_rfl⟩
instance : Places Try.prog [{ name := "typ", type := 17, offset := 0, embedded := false, tag := "", pkgPath := "internal/runtime/maps", byteOffset := 0 }] [(0, 1)] := ⟨by kernel_rfl⟩
instance : Places Try.prog [{ name := "Point", type := 25, offset := 0, embedded := false, tag := "", pkgPath := "", byteOffset := 0 }, { name := "Plane", type := 3, offset := 1, embedded := false, tag := "", pkgPath := "", byteOffset := 24 }, { name := "Left", type := 3, offset := 2, embedded := false, tag := "", pkgPath := "", byteOffset := 32 }, { name := "Right", type := 3, offset := 3, embedded := false, tag := "", pkgPath := "", byteOffset := 40 }, { name := "Min", type := 25, offset := 4, embedded := false, tag := "", pkgPath := "", byteOffset := 48 }, { name := "Max", type := 25, offset := 5, embedded := false, tag := "", pkgPath := "", byteOffset := 72 }] [(0, 1), (1, 1), (2, 1), (3, 1), (4, 1), (5, 1)] := ⟨by kernel_rfl⟩
instance : Places Try.prog [{ name := "Point", type := 25, offset := 0, embedded := false, tag := "", pkgPath := "", byteOffset := 0 }, { name := "Dist", type := 36, offset := 1, embedded := false, tag := "", pkgPath := "", byteOffset := 24 }] [(0, 1), (1, 1)] := ⟨by kernel_rfl⟩
instance : Places Try.prog [{ name := "X", type := 36, offset := 0, embedded := false, tag := "", pkgPath := "", byteOffset := 0 }, { name := "Y", type := 36, offset := 1, embedded := false, tag := "", pkgPath := "", byteOffset := 8 }] [(0, 1), (1, 1)] := ⟨by kernel_rfl⟩
instance : Places Try.prog [{ name := "X", type := 36, offset := 0, embedded := false, tag := "", pkgPath := "", byteOffset := 0 }, { name := "Y", type := 36, offset := 1, embedded := false, tag := "", pkgPath := "", byteOffset := 8 }, { name := "Z", type := 36, offset := 2, embedded := false, tag := "", pkgPath := "", byteOffset := 16 }] [(0, 1), (1, 1), (2, 1)] := ⟨by kernel_rfl⟩
instance : Places Try.prog [{ name := "Neg", type := 4, offset := 0, embedded := false, tag := "", pkgPath := "", byteOffset := 0 }, { name := "L", type := 64, offset := 1, embedded := false, tag := "", pkgPath := "", byteOffset := 8 }] [(0, 1), (1, 1)] := ⟨by kernel_rfl⟩
instance : Places Try.prog [{ name := "N", type := 66, offset := 0, embedded := false, tag := "", pkgPath := "", byteOffset := 0 }, { name := "E", type := 3, offset := 2, embedded := false, tag := "", pkgPath := "", byteOffset := 32 }] [(0, 2), (2, 1)] := ⟨by kernel_rfl⟩
instance : Places Try.prog [{ name := "X", type := 68, offset := 0, embedded := false, tag := "", pkgPath := "", byteOffset := 0 }, { name := "Y", type := 68, offset := 3, embedded := false, tag := "", pkgPath := "", byteOffset := 40 }] [(0, 3), (3, 3)] := ⟨by kernel_rfl⟩
instance : Places Try.prog [{ name := "X", type := 68, offset := 0, embedded := false, tag := "", pkgPath := "", byteOffset := 0 }, { name := "Y", type := 68, offset := 3, embedded := false, tag := "", pkgPath := "", byteOffset := 40 }, { name := "Z", type := 68, offset := 6, embedded := false, tag := "", pkgPath := "", byteOffset := 80 }] [(0, 3), (3, 3), (6, 3)] := ⟨by kernel_rfl⟩
instance : Places Try.prog [{ name := "N", type := 68, offset := 0, embedded := false, tag := "", pkgPath := "", byteOffset := 0 }, { name := "D", type := 68, offset := 3, embedded := false, tag := "", pkgPath := "", byteOffset := 40 }] [(0, 3), (3, 3)] := ⟨by kernel_rfl⟩
instance : Places Try.prog [{ name := "Point", type := 25, offset := 0, embedded := false, tag := "", pkgPath := "", byteOffset := 0 }, { name := "Radius", type := 36, offset := 1, embedded := false, tag := "", pkgPath := "", byteOffset := 24 }, { name := "Closer", type := 3, offset := 2, embedded := false, tag := "", pkgPath := "", byteOffset := 32 }, { name := "Further", type := 3, offset := 3, embedded := false, tag := "", pkgPath := "", byteOffset := 40 }] [(0, 1), (1, 1), (2, 1), (3, 1)] := ⟨by kernel_rfl⟩
instance : Places Try.prog [{ name := "Root", type := 169, offset := 0, embedded := false, tag := "", pkgPath := "", byteOffset := 0 }, { name := "Count", type := 3, offset := 1, embedded := false, tag := "", pkgPath := "", byteOffset := 8 }] [(0, 1), (1, 1)] := ⟨by kernel_rfl⟩
instance : Places Try.prog [{ name := "Root", type := 180, offset := 0, embedded := false, tag := "", pkgPath := "", byteOffset := 0 }, { name := "Count", type := 3, offset := 1, embedded := false, tag := "", pkgPath := "", byteOffset := 8 }] [(0, 1), (1, 1)] := ⟨by kernel_rfl⟩
instance : Places Try.prog [{ name := "Point", type := 132, offset := 0, embedded := false, tag := "", pkgPath := "", byteOffset := 0 }, { name := "Radius", type := 36, offset := 1, embedded := false, tag := "", pkgPath := "", byteOffset := 16 }, { name := "Closer", type := 180, offset := 2, embedded := false, tag := "", pkgPath := "", byteOffset := 24 }, { name := "Further", type := 180, offset := 3, embedded := false, tag := "", pkgPath := "", byteOffset := 32 }] [(0, 1), (1, 1), (2, 1), (3, 1)] := ⟨by kernel_rfl⟩
instance : Places Try.prog [{ name := "Point", type := 109, offset := 0, embedded := false, tag := "", pkgPath := "", byteOffset := 0 }, { name := "Plane", type := 197, offset := 1, embedded := false, tag := "", pkgPath := "", byteOffset := 16 }, { name := "Left", type := 169, offset := 2, embedded := false, tag := "", pkgPath := "", byteOffset := 24 }, { name := "Right", type := 169, offset := 3, embedded := false, tag := "", pkgPath := "", byteOffset := 32 }, { name := "Bounding", type := 110, offset := 4, embedded := true, tag := "", pkgPath := "", byteOffset := 40 }] [(0, 1), (1, 1), (2, 1), (3, 1), (4, 1)] := ⟨by kernel_rfl⟩
instance : Places Try.prog [{ name := "s", type := 9, offset := 0, embedded := false, tag := "", pkgPath := "errors", byteOffset := 0 }] [(0, 1)] := ⟨by kernel_rfl⟩
instance : Places Try.prog [{ name := "p", type := 140, offset := 0, embedded := false, tag := "", pkgPath := "pub-orthodrome/pub/gogeom/xy/inner/raycrossing", byteOffset := 0 }, { name := "crossingCount", type := 3, offset := 1, embedded := false, tag := "", pkgPath := "pub-orthodrome/pub/gogeom/xy/inner/raycrossing", byteOffset := 24 }, { name := "isPointOnSegment", type := 4, offset := 2, embedded := false, tag := "", pkgPath := "pub-orthodrome/pub/gogeom/xy/inner/raycrossing", byteOffset := 32 }] [(0, 1), (1, 1), (2, 1)] := ⟨by kernel_rfl⟩
instance : Places Try.prog [{ name := "Min", type := 109, offset := 0, embedded := false, tag := "", pkgPath := "", byteOffset := 0 }, { name := "Max", type := 109, offset := 1, embedded := false, tag := "", pkgPath := "", byteOffset := 16 }] [(0, 1), (1, 1)] := ⟨by kernel_rfl⟩
instance : Places Try.prog [{ name := "_interface", type := 17, offset := 0, embedded := false, tag := "", pkgPath := "runtime", byteOffset := 0 }, { name := "concrete", type := 17, offset := 1, embedded := false, tag := "", pkgPath := "runtime", byteOffset := 8 }, { name := "asserted", type := 17, offset := 2, embedded := false, tag := "", pkgPath := "runtime", byteOffset := 16 }, { name := "missingMethod", type := 9, offset := 3, embedded := false, tag := "", pkgPath := "runtime", byteOffset := 24 }] [(0, 1), (1, 1), (2, 1), (3, 1)] := ⟨by kernel_rfl⟩
instance : Places Try.prog [{ name := "_", type := 225, offset := 0, embedded := false, tag := "", pkgPath := "runtime", byteOffset := 0 }] [(0, 0)] := ⟨by kernel_rfl⟩
instance : Places Try.prog [{ name := "Size_", type := 12, offset := 0, embedded := false, tag := "", pkgPath := "", byteOffset := 0 }, { name := "PtrBytes", type := 12, offset := 1, embedded := false, tag := "", pkgPath := "", byteOffset := 8 }, { name := "Hash", type := 189, offset := 2, embedded := false, tag := "", pkgPath := "", byteOffset := 16 }, { name := "TFlag", type := 228, offset := 3, embedded := false, tag := "", pkgPath := "", byteOffset := 20 }, { name := "Align_", type := 5, offset := 4, embedded := false, tag := "", pkgPath := "", byteOffset := 21 }, { name := "FieldAlign_", type := 5, offset := 5, embedded := false, tag := "", pkgPath := "", byteOffset := 22 }, { name := "Kind_", type := 229, offset := 6, embedded := false, tag := "", pkgPath := "", byteOffset := 23 }, { name := "Equal", type := 230, offset := 7, embedded := false, tag := "", pkgPath := "", byteOffset := 24 }, { name := "GCData", type := 231, offset := 8, embedded := false, tag := "", pkgPath := "", byteOffset := 32 }, { name := "Str", type := 232, offset := 9, embedded := false, tag := "", pkgPath := "", byteOffset := 40 }, { name := "PtrToThis", type := 233, offset := 10, embedded := false, tag := "", pkgPath := "", byteOffset := 44 }] [(0, 1), (1, 1), (2, 1), (3, 1), (4, 1), (5, 1), (6, 1), (7, 1), (8, 1), (9, 1), (10, 1)] := ⟨by kernel_rfl⟩
instance : Enters Try.prog 3 := ⟨Try.f3, Try.func3, rfl, rfl⟩
instance : Enters Try.prog 4 := ⟨Try.f4, Try.func4, rfl, rfl⟩
instance : Enters Try.prog 5 := ⟨Try.f5, Try.func5, rfl, rfl⟩
instance : Enters Try.prog 6 := ⟨Try.f6, Try.func6, rfl, rfl⟩
instance : Enters Try.prog 7 := ⟨Try.f7, Try.func7, rfl, rfl⟩
instance : Enters Try.prog 8 := ⟨Try.f8, Try.func8, rfl, rfl⟩
instance : Enters Try.prog 9 := ⟨Try.f9, Try.func9, rfl, rfl⟩
instance : Enters Try.prog 10 := ⟨Try.f10, Try.func10, rfl, rfl⟩
instance : Enters Try.prog 11 := ⟨Try.f11, Try.func11, rfl, rfl⟩
instance : Enters Try.prog 12 := ⟨Try.f12, Try.func12, rfl, rfl⟩
instance : Enters Try.prog 13 := ⟨Try.f13, Try.func13, rfl, rfl⟩
instance : Enters Try.prog 14 := ⟨Try.f14, Try.func14, rfl, rfl⟩
instance : Enters Try.prog 15 := ⟨Try.f15, Try.func15, rfl, rfl⟩
instance : Enters Try.prog 16 := ⟨Try.f16, Try.func16, rfl, rfl⟩
instance : Enters Try.prog 17 := ⟨Try.f17, Try.func17, rfl, rfl⟩
instance : Enters Try.prog 18 := ⟨Try.f18, Try.func18, rfl, rfl⟩
instance : Enters Try.prog 19 := ⟨Try.f19, Try.func19, rfl, rfl⟩
instance : Enters Try.prog 20 := ⟨Try.f20, Try.func20, rfl, rfl⟩
instance : Enters Try.prog 21 := ⟨Try.f21, Try.func21, rfl, rfl⟩
instance : Enters Try.prog 22 := ⟨Try.f22, Try.func22, rfl, rfl⟩
instance : Enters Try.prog 23 := ⟨Try.f23, Try.func23, rfl, rfl⟩
instance : Enters Try.prog 24 := ⟨Try.f24, Try.func24, rfl, rfl⟩
instance : Enters Try.prog 25 := ⟨Try.f25, Try.func25, rfl, rfl⟩
instance : Enters Try.prog 26 := ⟨Try.f26, Try.func26, rfl, rfl⟩
instance : Enters Try.prog 27 := ⟨Try.f27, Try.func27, rfl, rfl⟩
instance : Enters Try.prog 28 := ⟨Try.f28, Try.func28, rfl, rfl⟩
instance : Enters Try.prog 29 := ⟨Try.f29, Try.func29, rfl, rfl⟩
instance : Enters Try.prog 30 := ⟨Try.f30, Try.func30, rfl, rfl⟩
instance : Enters Try.prog 31 := ⟨Try.f31, Try.func31, rfl, rfl⟩
instance : Enters Try.prog 32 := ⟨Try.f32, Try.func32, rfl, rfl⟩
instance : Enters Try.prog 33 := ⟨Try.f33, Try.func33, rfl, rfl⟩
instance : Enters Try.prog 34 := ⟨Try.f34, Try.func34, rfl, rfl⟩
instance : Enters Try.prog 35 := ⟨Try.f35, Try.func35, rfl, rfl⟩
instance : Enters Try.prog 36 := ⟨Try.f36, Try.func36, rfl, rfl⟩
instance : Enters Try.prog 37 := ⟨Try.f37, Try.func37, rfl, rfl⟩
instance : Enters Try.prog 38 := ⟨Try.f38, Try.func38, rfl, rfl⟩
instance : Enters Try.prog 39 := ⟨Try.f39, Try.func39, rfl, rfl⟩
instance : Enters Try.prog 40 := ⟨Try.f40, Try.func40, rfl, rfl⟩
instance : Enters Try.prog 41 := ⟨Try.f41, Try.func41, rfl, rfl⟩
instance : Enters Try.prog 42 := ⟨Try.f42, Try.func42, rfl, rfl⟩
instance : Enters Try.prog 43 := ⟨Try.f43, Try.func43, rfl, rfl⟩
instance : Enters Try.prog 44 := ⟨Try.f44, Try.func44, rfl, rfl⟩
instance : Enters Try.prog 45 := ⟨Try.f45, Try.func45, rfl, rfl⟩
instance : Enters Try.prog 46 := ⟨Try.f46, Try.func46, rfl, rfl⟩
instance : Enters Try.prog 47 := ⟨Try.f47, Try.func47, rfl, rfl⟩
instance : Enters Try.prog 48 := ⟨Try.f48, Try.func48, rfl, rfl⟩
instance : Enters Try.prog 49 := ⟨Try.f49, Try.func49, rfl, rfl⟩
instance : Enters Try.prog 50 := ⟨Try.f50, Try.func50, rfl, rfl⟩
instance : Enters Try.prog 51 := ⟨Try.f51, Try.func51, rfl, rfl⟩
instance : Enters Try.prog 52 := ⟨Try.f52, Try.func52, rfl, rfl⟩
instance : Enters Try.prog 53 := ⟨Try.f53, Try.func53, rfl, rfl⟩
instance : Enters Try.prog 54 := ⟨Try.f54, Try.func54, rfl, rfl⟩
instance : Enters Try.prog 55 := ⟨Try.f55, Try.func55, rfl, rfl⟩
instance : Enters Try.prog 56 := ⟨Try.f56, Try.func56, rfl, rfl⟩
instance : Enters Try.prog 57 := ⟨Try.f57, Try.func57, rfl, rfl⟩
instance : Enters Try.prog 58 := ⟨Try.f58, Try.func58, rfl, rfl⟩
instance : Enters Try.prog 59 := ⟨Try.f59, Try.func59, rfl, rfl⟩
instance : Enters Try.prog 60 := ⟨Try.f60, Try.func60, rfl, rfl⟩
instance : Enters Try.prog 61 := ⟨Try.f61, Try.func61, rfl, rfl⟩
instance : Enters Try.prog 64 := ⟨Try.f64, Try.func64, rfl, rfl⟩
instance : Enters Try.prog 65 := ⟨Try.f65, Try.func65, rfl, rfl⟩
instance : Enters Try.prog 66 := ⟨Try.f66, Try.func66, rfl, rfl⟩
instance : Enters Try.prog 67 := ⟨Try.f67, Try.func67, rfl, rfl⟩
instance : Enters Try.prog 68 := ⟨Try.f68, Try.func68, rfl, rfl⟩
instance : Enters Try.prog 69 := ⟨Try.f69, Try.func69, rfl, rfl⟩
instance : Enters Try.prog 70 := ⟨Try.f70, Try.func70, rfl, rfl⟩
instance : Enters Try.prog 71 := ⟨Try.f71, Try.func71, rfl, rfl⟩
instance : Enters Try.prog 72 := ⟨Try.f72, Try.func72, rfl, rfl⟩
instance : Enters Try.prog 73 := ⟨Try.f73, Try.func73, rfl, rfl⟩
instance : Enters Try.prog 74 := ⟨Try.f74, Try.func74, rfl, rfl⟩
instance : Enters Try.prog 75 := ⟨Try.f75, Try.func75, rfl, rfl⟩
instance : Enters Try.prog 76 := ⟨Try.f76, Try.func76, rfl, rfl⟩
instance : Enters Try.prog 77 := ⟨Try.f77, Try.func77, rfl, rfl⟩
instance : Enters Try.prog 78 := ⟨Try.f78, Try.func78, rfl, rfl⟩
instance : Enters Try.prog 80 := ⟨Try.f80, Try.func80, rfl, rfl⟩
instance : Enters Try.prog 81 := ⟨Try.f81, Try.func81, rfl, rfl⟩
instance : Enters Try.prog 82 := ⟨Try.f82, Try.func82, rfl, rfl⟩
instance : Enters Try.prog 83 := ⟨Try.f83, Try.func83, rfl, rfl⟩
instance : Enters Try.prog 84 := ⟨Try.f84, Try.func84, rfl, rfl⟩
instance : Enters Try.prog 85 := ⟨Try.f85, Try.func85, rfl, rfl⟩
instance : Enters Try.prog 86 := ⟨Try.f86, Try.func86, rfl, rfl⟩
instance : Enters Try.prog 87 := ⟨Try.f87, Try.func87, rfl, rfl⟩
instance : Enters Try.prog 88 := ⟨Try.f88, Try.func88, rfl, rfl⟩
instance : Enters Try.prog 89 := ⟨Try.f89, Try.func89, rfl, rfl⟩
instance : Enters Try.prog 90 := ⟨Try.f90, Try.func90, rfl, rfl⟩
instance : Enters Try.prog 91 := ⟨Try.f91, Try.func91, rfl, rfl⟩
instance : Enters Try.prog 92 := ⟨Try.f92, Try.func92, rfl, rfl⟩
instance : Enters Try.prog 93 := ⟨Try.f93, Try.func93, rfl, rfl⟩
instance : Enters Try.prog 94 := ⟨Try.f94, Try.func94, rfl, rfl⟩
instance : Enters Try.prog 95 := ⟨Try.f95, Try.func95, rfl, rfl⟩
instance : Enters Try.prog 96 := ⟨Try.f96, Try.func96, rfl, rfl⟩
instance : Enters Try.prog 97 := ⟨Try.f97, Try.func97, rfl, rfl⟩
instance : Enters Try.prog 98 := ⟨Try.f98, Try.func98, rfl, rfl⟩
instance : Enters Try.prog 99 := ⟨Try.f99, Try.func99, rfl, rfl⟩
instance : Enters Try.prog 100 := ⟨Try.f100, Try.func100, rfl, rfl⟩
instance : Enters Try.prog 101 := ⟨Try.f101, Try.func101, rfl, rfl⟩
instance : Enters Try.prog 102 := ⟨Try.f102, Try.func102, rfl, rfl⟩
instance : Enters Try.prog 103 := ⟨Try.f103, Try.func103, rfl, rfl⟩
instance : Enters Try.prog 104 := ⟨Try.f104, Try.func104, rfl, rfl⟩
instance : Enters Try.prog 105 := ⟨Try.f105, Try.func105, rfl, rfl⟩
instance : Enters Try.prog 106 := ⟨Try.f106, Try.func106, rfl, rfl⟩
instance : Enters Try.prog 107 := ⟨Try.f107, Try.func107, rfl, rfl⟩
instance : Enters Try.prog 108 := ⟨Try.f108, Try.func108, rfl, rfl⟩
instance : Enters Try.prog 109 := ⟨Try.f109, Try.func109, rfl, rfl⟩
instance : Enters Try.prog 110 := ⟨Try.f110, Try.func110, rfl, rfl⟩
instance : Enters Try.prog 111 := ⟨Try.f111, Try.func111, rfl, rfl⟩
instance : Enters Try.prog 112 := ⟨Try.f112, Try.func112, rfl, rfl⟩
instance : Enters Try.prog 113 := ⟨Try.f113, Try.func113, rfl, rfl⟩
instance : Enters Try.prog 114 := ⟨Try.f114, Try.func114, rfl, rfl⟩
instance : Enters Try.prog 115 := ⟨Try.f115, Try.func115, rfl, rfl⟩
instance : Enters Try.prog 116 := ⟨Try.f116, Try.func116, rfl, rfl⟩
instance : Enters Try.prog 117 := ⟨Try.f117, Try.func117, rfl, rfl⟩
instance : Enters Try.prog 118 := ⟨Try.f118, Try.func118, rfl, rfl⟩
instance : Enters Try.prog 119 := ⟨Try.f119, Try.func119, rfl, rfl⟩
instance : Enters Try.prog 120 := ⟨Try.f120, Try.func120, rfl, rfl⟩
instance : Enters Try.prog 121 := ⟨Try.f121, Try.func121, rfl, rfl⟩
instance : Enters Try.prog 122 := ⟨Try.f122, Try.func122, rfl, rfl⟩
instance : Enters Try.prog 123 := ⟨Try.f123, Try.func123, rfl, rfl⟩
instance : Enters Try.prog 124 := ⟨Try.f124, Try.func124, rfl, rfl⟩
instance : Enters Try.prog 125 := ⟨Try.f125, Try.func125, rfl, rfl⟩
instance : Enters Try.prog 126 := ⟨Try.f126, Try.func126, rfl, rfl⟩
instance : Enters Try.prog 127 := ⟨Try.f127, Try.func127, rfl, rfl⟩
instance : Enters Try.prog 128 := ⟨Try.f128, Try.func128, rfl, rfl⟩
instance : Enters Try.prog 129 := ⟨Try.f129, Try.func129, rfl, rfl⟩
instance : Enters Try.prog 130 := ⟨Try.f130, Try.func130, rfl, rfl⟩
instance : Enters Try.prog 131 := ⟨Try.f131, Try.func131, rfl, rfl⟩
instance : Enters Try.prog 133 := ⟨Try.f133, Try.func133, rfl, rfl⟩
instance : Enters Try.prog 134 := ⟨Try.f134, Try.func134, rfl, rfl⟩
instance : Enters Try.prog 135 := ⟨Try.f135, Try.func135, rfl, rfl⟩
instance : Enters Try.prog 136 := ⟨Try.f136, Try.func136, rfl, rfl⟩
instance : Enters Try.prog 137 := ⟨Try.f137, Try.func137, rfl, rfl⟩
instance : Enters Try.prog 138 := ⟨Try.f138, Try.func138, rfl, rfl⟩
instance : Enters Try.prog 139 := ⟨Try.f139, Try.func139, rfl, rfl⟩
instance : Enters Try.prog 140 := ⟨Try.f140, Try.func140, rfl, rfl⟩
instance : Enters Try.prog 141 := ⟨Try.f141, Try.func141, rfl, rfl⟩
instance : Enters Try.prog 142 := ⟨Try.f142, Try.func142, rfl, rfl⟩
instance : Enters Try.prog 143 := ⟨Try.f143, Try.func143, rfl, rfl⟩
instance : Enters Try.prog 144 := ⟨Try.f144, Try.func144, rfl, rfl⟩
instance : Enters Try.prog 145 := ⟨Try.f145, Try.func145, rfl, rfl⟩
instance : Enters Try.prog 147 := ⟨Try.f147, Try.func147, rfl, rfl⟩
instance : Enters Try.prog 148 := ⟨Try.f148, Try.func148, rfl, rfl⟩
instance : Enters Try.prog 149 := ⟨Try.f149, Try.func149, rfl, rfl⟩
instance : Enters Try.prog 150 := ⟨Try.f150, Try.func150, rfl, rfl⟩
instance : Enters Try.prog 152 := ⟨Try.f152, Try.func152, rfl, rfl⟩
instance : Enters Try.prog 153 := ⟨Try.f153, Try.func153, rfl, rfl⟩
instance : Enters Try.prog 174 := ⟨Try.f174, Try.func174, rfl, rfl⟩
instance : Enters Try.prog 176 := ⟨Try.f176, Try.func176, rfl, rfl⟩
theorem mixed : Try.prog.follows .mixedOrders = true := by kernel_rfl
end Go.Lg
