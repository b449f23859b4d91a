/-
  The sizes and the make of this translation's types, and which functions have a body: closed facts, written by a small program (seatty.py). No conditions.
-/
import Derived.Test.YtefipfiajnepiaaProg
import Derived.Test.YtefipfiajnepiaaLg3
import Derived.KernelRfl
namespace Go.Lg
open Go.Proofs
instance : Und Try.prog 0 (TypeDesc.tuple #[]) := ⟨Try.underlying0⟩
instance : Und Try.prog 1 (TypeDesc.func #[] #[] false) := ⟨Try.underlying1⟩
instance : Inf Try.prog 1 1 8 [.nilFunc] := ⟨by kernel_rfl⟩
instance : Und Try.prog 2 (TypeDesc.int IntKind.i64) := ⟨Try.underlying2⟩
instance : Inf Try.prog 2 1 8 [.int .i64 0] := ⟨by kernel_rfl⟩
instance : Und Try.prog 3 (TypeDesc.int IntKind.i64) := ⟨Try.underlying3⟩
instance : Inf Try.prog 3 1 8 [.int .i64 0] := ⟨by kernel_rfl⟩
instance : Und Try.prog 4 TypeDesc.bool := ⟨Try.underlying4⟩
instance : Inf Try.prog 4 1 1 [.bool false] := ⟨by kernel_rfl⟩
instance : Und Try.prog 5 (TypeDesc.int IntKind.u8) := ⟨Try.underlying5⟩
instance : Inf Try.prog 5 1 1 [.int .u8 0] := ⟨by kernel_rfl⟩
instance : Und Try.prog 6 (TypeDesc.int IntKind.u8) := ⟨Try.underlying6⟩
instance : Inf Try.prog 6 1 1 [.int .u8 0] := ⟨by kernel_rfl⟩
instance : Und Try.prog 7 (TypeDesc.struct #[{ name := "x", type := 2, offset := 0, embedded := false, tag := "", pkgPath := "runtime", byteOffset := 0 }, { name := "y", type := 3, offset := 1, embedded := false, tag := "", pkgPath := "runtime", byteOffset := 8 }, { name := "signed", type := 4, offset := 2, embedded := false, tag := "", pkgPath := "runtime", byteOffset := 16 }, { name := "code", type := 6, offset := 3, embedded := false, tag := "", pkgPath := "runtime", byteOffset := 17 }]) := ⟨Try.underlying7⟩
instance : Inf Try.prog 7 4 24 [.int .i64 0, .int .i64 0, .bool false, .int .u8 0] := ⟨by kernel_rfl⟩
instance : Und Try.prog 8 (TypeDesc.struct #[{ name := "x", type := 2, offset := 0, embedded := false, tag := "", pkgPath := "runtime", byteOffset := 0 }, { name := "y", type := 3, offset := 1, embedded := false, tag := "", pkgPath := "runtime", byteOffset := 8 }, { name := "signed", type := 4, offset := 2, embedded := false, tag := "", pkgPath := "runtime", byteOffset := 16 }, { name := "code", type := 6, offset := 3, embedded := false, tag := "", pkgPath := "runtime", byteOffset := 17 }]) := ⟨Try.underlying8⟩
instance : Inf Try.prog 8 4 24 [.int .i64 0, .int .i64 0, .bool false, .int .u8 0] := ⟨by kernel_rfl⟩
instance : Und Try.prog 9 TypeDesc.string := ⟨Try.underlying9⟩
instance : Inf Try.prog 9 1 16 [.string ⟨#[]⟩] := ⟨by kernel_rfl⟩
instance : Und Try.prog 10 TypeDesc.string := ⟨Try.underlying10⟩
instance : Inf Try.prog 10 1 16 [.string ⟨#[]⟩] := ⟨by kernel_rfl⟩
instance : Und Try.prog 11 TypeDesc.string := ⟨Try.underlying11⟩
instance : Inf Try.prog 11 1 16 [.string ⟨#[]⟩] := ⟨by kernel_rfl⟩
instance : Und Try.prog 12 (TypeDesc.int IntKind.u64) := ⟨Try.underlying12⟩
instance : Inf Try.prog 12 1 8 [.int .u64 0] := ⟨by kernel_rfl⟩
instance : Und Try.prog 13 (TypeDesc.struct #[{ name := "msg", type := 9, offset := 0, embedded := false, tag := "", pkgPath := "runtime", byteOffset := 0 }, { name := "addr", type := 12, offset := 1, embedded := false, tag := "", pkgPath := "runtime", byteOffset := 16 }]) := ⟨Try.underlying13⟩
instance : Inf Try.prog 13 2 24 [.string ⟨#[]⟩, .int .u64 0] := ⟨by kernel_rfl⟩
instance : Und Try.prog 14 (TypeDesc.struct #[{ name := "msg", type := 9, offset := 0, embedded := false, tag := "", pkgPath := "runtime", byteOffset := 0 }, { name := "addr", type := 12, offset := 1, embedded := false, tag := "", pkgPath := "runtime", byteOffset := 16 }]) := ⟨Try.underlying14⟩
instance : Inf Try.prog 14 2 24 [.string ⟨#[]⟩, .int .u64 0] := ⟨by kernel_rfl⟩
instance : Und Try.prog 15 (TypeDesc.pointer 133) := ⟨Try.underlying15⟩
instance : Inf Try.prog 15 1 8 [.pointer none] := ⟨by kernel_rfl⟩
instance : Und Try.prog 16 (TypeDesc.pointer 136) := ⟨Try.underlying16⟩
instance : Inf Try.prog 16 1 8 [.pointer none] := ⟨by kernel_rfl⟩
instance : Und Try.prog 17 (TypeDesc.pointer 145) := ⟨Try.underlying17⟩
instance : Inf Try.prog 17 1 8 [.pointer none] := ⟨by kernel_rfl⟩
instance : Und Try.prog 18 (TypeDesc.struct #[{ name := "typ", type := 17, offset := 0, embedded := false, tag := "", pkgPath := "internal/runtime/maps", byteOffset := 0 }]) := ⟨Try.underlying18⟩
instance : Inf Try.prog 18 1 8 [.pointer none] := ⟨by kernel_rfl⟩
instance : Und Try.prog 19 (TypeDesc.struct #[{ name := "typ", type := 17, offset := 0, embedded := false, tag := "", pkgPath := "internal/runtime/maps", byteOffset := 0 }]) := ⟨Try.underlying19⟩
instance : Inf Try.prog 19 1 8 [.pointer none] := ⟨by kernel_rfl⟩
instance : Und Try.prog 20 (TypeDesc.interface #[]) := ⟨Try.underlying20⟩
instance : Inf Try.prog 20 1 16 [.nilIface] := ⟨by kernel_rfl⟩
instance : Und Try.prog 21 (TypeDesc.int IntKind.i32) := ⟨Try.underlying21⟩
instance : Inf Try.prog 21 1 4 [.int .i32 0] := ⟨by kernel_rfl⟩
instance : Und Try.prog 22 (TypeDesc.slice 35) := ⟨Try.underlying22⟩
instance : Inf Try.prog 22 1 24 [.slice none 0 0] := ⟨by kernel_rfl⟩
instance : Und Try.prog 23 (TypeDesc.struct #[{ name := "Layout", type := 3, offset := 0, embedded := false, tag := "", pkgPath := "", byteOffset := 0 }, { name := "Min", type := 22, offset := 1, embedded := false, tag := "", pkgPath := "", byteOffset := 8 }, { name := "Max", type := 22, offset := 2, embedded := false, tag := "", pkgPath := "", byteOffset := 32 }]) := ⟨Try.underlying23⟩
instance : Inf Try.prog 23 3 56 [.int .i64 0, .slice none 0 0, .slice none 0 0] := ⟨by kernel_rfl⟩
instance : Und Try.prog 24 (TypeDesc.struct #[{ name := "Layout", type := 3, offset := 0, embedded := false, tag := "", pkgPath := "", byteOffset := 0 }, { name := "Min", type := 22, offset := 1, embedded := false, tag := "", pkgPath := "", byteOffset := 8 }, { name := "Max", type := 22, offset := 2, embedded := false, tag := "", pkgPath := "", byteOffset := 32 }]) := ⟨Try.underlying24⟩
instance : Inf Try.prog 24 3 56 [.int .i64 0, .slice none 0 0, .slice none 0 0] := ⟨by kernel_rfl⟩
instance : Und Try.prog 25 (TypeDesc.func #[24] #[4] false) := ⟨Try.underlying25⟩
instance : Inf Try.prog 25 1 8 [.nilFunc] := ⟨by kernel_rfl⟩
instance : Und Try.prog 26 (TypeDesc.func #[61] #[4] true) := ⟨Try.underlying26⟩
instance : Inf Try.prog 26 1 8 [.nilFunc] := ⟨by kernel_rfl⟩
instance : Und Try.prog 27 (TypeDesc.tuple #[24, 4]) := ⟨Try.underlying27⟩
instance : Und Try.prog 28 (TypeDesc.func #[24] #[24, 4] false) := ⟨Try.underlying28⟩
instance : Inf Try.prog 28 1 8 [.nilFunc] := ⟨by kernel_rfl⟩
instance : Und Try.prog 29 (TypeDesc.func #[24, 24] #[4] false) := ⟨Try.underlying29⟩
instance : Inf Try.prog 29 1 8 [.nilFunc] := ⟨by kernel_rfl⟩
instance : Und Try.prog 30 (TypeDesc.tuple #[22, 4]) := ⟨Try.underlying30⟩
instance : Und Try.prog 31 (TypeDesc.func #[22] #[22, 4] false) := ⟨Try.underlying31⟩
instance : Inf Try.prog 31 1 8 [.nilFunc] := ⟨by kernel_rfl⟩
instance : Und Try.prog 32 (TypeDesc.tuple #[22, 3, 4]) := ⟨Try.underlying32⟩
instance : Und Try.prog 33 (TypeDesc.func #[22, 3] #[22, 3, 4] false) := ⟨Try.underlying33⟩
instance : Inf Try.prog 33 1 8 [.nilFunc] := ⟨by kernel_rfl⟩
instance : Und Try.prog 34 (TypeDesc.func #[22, 22] #[4] false) := ⟨Try.underlying34⟩
instance : Inf Try.prog 34 1 8 [.nilFunc] := ⟨by kernel_rfl⟩
instance : Und Try.prog 35 (TypeDesc.float FloatKind.f64) := ⟨Try.underlying35⟩
instance : Inf Try.prog 35 1 8 [.float .f64 0] := ⟨by kernel_rfl⟩
instance : Und Try.prog 36 (TypeDesc.func #[22, 3] #[4] false) := ⟨Try.underlying36⟩
instance : Inf Try.prog 36 1 8 [.nilFunc] := ⟨by kernel_rfl⟩
instance : Und Try.prog 37 (TypeDesc.slice 47) := ⟨Try.underlying37⟩
instance : Inf Try.prog 37 1 24 [.slice none 0 0] := ⟨by kernel_rfl⟩
instance : Und Try.prog 38 (TypeDesc.func #[37] #[4] false) := ⟨Try.underlying38⟩
instance : Inf Try.prog 38 1 8 [.nilFunc] := ⟨by kernel_rfl⟩
instance : Und Try.prog 39 (TypeDesc.func #[37, 3, 22] #[4] false) := ⟨Try.underlying39⟩
instance : Inf Try.prog 39 1 8 [.nilFunc] := ⟨by kernel_rfl⟩
instance : Und Try.prog 40 (TypeDesc.slice 22) := ⟨Try.underlying40⟩
instance : Inf Try.prog 40 1 24 [.slice none 0 0] := ⟨by kernel_rfl⟩
instance : Und Try.prog 41 (TypeDesc.slice 3) := ⟨Try.underlying41⟩
instance : Inf Try.prog 41 1 24 [.slice none 0 0] := ⟨by kernel_rfl⟩
instance : Und Try.prog 42 (TypeDesc.tuple #[40, 41, 4]) := ⟨Try.underlying42⟩
instance : Und Try.prog 43 (TypeDesc.func #[37, 3] #[40, 41, 4] false) := ⟨Try.underlying43⟩
instance : Inf Try.prog 43 1 8 [.nilFunc] := ⟨by kernel_rfl⟩
instance : Und Try.prog 44 (TypeDesc.tuple #[41, 41, 4]) := ⟨Try.underlying44⟩
instance : Und Try.prog 45 (TypeDesc.func #[37, 3] #[41, 41, 4] false) := ⟨Try.underlying45⟩
instance : Inf Try.prog 45 1 8 [.nilFunc] := ⟨by kernel_rfl⟩
instance : Und Try.prog 46 (TypeDesc.struct #[{ name := "Point", type := 22, offset := 0, embedded := false, tag := "", pkgPath := "", byteOffset := 0 }, { name := "Plane", type := 3, offset := 1, embedded := false, tag := "", pkgPath := "", byteOffset := 24 }, { name := "Left", type := 3, offset := 2, embedded := false, tag := "", pkgPath := "", byteOffset := 32 }, { name := "Right", type := 3, offset := 3, embedded := false, tag := "", pkgPath := "", byteOffset := 40 }, { name := "Min", type := 22, offset := 4, embedded := false, tag := "", pkgPath := "", byteOffset := 48 }, { name := "Max", type := 22, offset := 5, embedded := false, tag := "", pkgPath := "", byteOffset := 72 }]) := ⟨Try.underlying46⟩
instance : Inf Try.prog 46 6 96 [.slice none 0 0, .int .i64 0, .int .i64 0, .int .i64 0, .slice none 0 0, .slice none 0 0] := ⟨by kernel_rfl⟩
instance : Und Try.prog 47 (TypeDesc.struct #[{ name := "Point", type := 22, offset := 0, embedded := false, tag := "", pkgPath := "", byteOffset := 0 }, { name := "Plane", type := 3, offset := 1, embedded := false, tag := "", pkgPath := "", byteOffset := 24 }, { name := "Left", type := 3, offset := 2, embedded := false, tag := "", pkgPath := "", byteOffset := 32 }, { name := "Right", type := 3, offset := 3, embedded := false, tag := "", pkgPath := "", byteOffset := 40 }, { name := "Min", type := 22, offset := 4, embedded := false, tag := "", pkgPath := "", byteOffset := 48 }, { name := "Max", type := 22, offset := 5, embedded := false, tag := "", pkgPath := "", byteOffset := 72 }]) := ⟨Try.underlying47⟩
instance : Inf Try.prog 47 6 96 [.slice none 0 0, .int .i64 0, .int .i64 0, .int .i64 0, .slice none 0 0, .slice none 0 0] := ⟨by kernel_rfl⟩
instance : Und Try.prog 48 (TypeDesc.func #[37, 3, 3] #[4] false) := ⟨Try.underlying48⟩
instance : Inf Try.prog 48 1 8 [.nilFunc] := ⟨by kernel_rfl⟩
instance : Und Try.prog 49 (TypeDesc.slice 41) := ⟨Try.underlying49⟩
instance : Inf Try.prog 49 1 24 [.slice none 0 0] := ⟨by kernel_rfl⟩
instance : Und Try.prog 50 (TypeDesc.slice 52) := ⟨Try.underlying50⟩
instance : Inf Try.prog 50 1 24 [.slice none 0 0] := ⟨by kernel_rfl⟩
instance : Und Try.prog 51 (TypeDesc.struct #[{ name := "Kind", type := 3, offset := 0, embedded := false, tag := "", pkgPath := "", byteOffset := 0 }, { name := "Layout", type := 3, offset := 1, embedded := false, tag := "", pkgPath := "", byteOffset := 8 }, { name := "SRID", type := 3, offset := 2, embedded := false, tag := "", pkgPath := "", byteOffset := 16 }, { name := "Flat", type := 22, offset := 3, embedded := false, tag := "", pkgPath := "", byteOffset := 24 }, { name := "Ends", type := 41, offset := 4, embedded := false, tag := "", pkgPath := "", byteOffset := 48 }, { name := "Endss", type := 49, offset := 5, embedded := false, tag := "", pkgPath := "", byteOffset := 72 }, { name := "Kids", type := 50, offset := 6, embedded := false, tag := "", pkgPath := "", byteOffset := 96 }]) := ⟨Try.underlying51⟩
instance : Inf Try.prog 51 7 120 [.int .i64 0, .int .i64 0, .int .i64 0, .slice none 0 0, .slice none 0 0, .slice none 0 0, .slice none 0 0] := ⟨by kernel_rfl⟩
instance : Und Try.prog 52 (TypeDesc.struct #[{ name := "Kind", type := 3, offset := 0, embedded := false, tag := "", pkgPath := "", byteOffset := 0 }, { name := "Layout", type := 3, offset := 1, embedded := false, tag := "", pkgPath := "", byteOffset := 8 }, { name := "SRID", type := 3, offset := 2, embedded := false, tag := "", pkgPath := "", byteOffset := 16 }, { name := "Flat", type := 22, offset := 3, embedded := false, tag := "", pkgPath := "", byteOffset := 24 }, { name := "Ends", type := 41, offset := 4, embedded := false, tag := "", pkgPath := "", byteOffset := 48 }, { name := "Endss", type := 49, offset := 5, embedded := false, tag := "", pkgPath := "", byteOffset := 72 }, { name := "Kids", type := 50, offset := 6, embedded := false, tag := "", pkgPath := "", byteOffset := 96 }]) := ⟨Try.underlying52⟩
instance : Inf Try.prog 52 7 120 [.int .i64 0, .int .i64 0, .int .i64 0, .slice none 0 0, .slice none 0 0, .slice none 0 0, .slice none 0 0] := ⟨by kernel_rfl⟩
instance : Und Try.prog 53 (TypeDesc.tuple #[52, 4]) := ⟨Try.underlying53⟩
instance : Und Try.prog 54 (TypeDesc.func #[22, 3] #[52, 4] false) := ⟨Try.underlying54⟩
instance : Inf Try.prog 54 1 8 [.nilFunc] := ⟨by kernel_rfl⟩
instance : Und Try.prog 55 (TypeDesc.tuple #[3, 4]) := ⟨Try.underlying55⟩
instance : Und Try.prog 56 (TypeDesc.func #[52] #[3, 4] false) := ⟨Try.underlying56⟩
instance : Inf Try.prog 56 1 8 [.nilFunc] := ⟨by kernel_rfl⟩
instance : Und Try.prog 57 (TypeDesc.func #[52, 58] #[4] false) := ⟨Try.underlying57⟩
instance : Inf Try.prog 57 1 8 [.nilFunc] := ⟨by kernel_rfl⟩
instance : Und Try.prog 58 (TypeDesc.func #[35] #[4] false) := ⟨Try.underlying58⟩
instance : Inf Try.prog 58 1 8 [.nilFunc] := ⟨by kernel_rfl⟩
instance : Und Try.prog 59 (TypeDesc.tuple #[35, 4]) := ⟨Try.underlying59⟩
instance : Und Try.prog 60 (TypeDesc.func #[22, 3] #[35, 4] false) := ⟨Try.underlying60⟩
instance : Inf Try.prog 60 1 8 [.nilFunc] := ⟨by kernel_rfl⟩
instance : Und Try.prog 61 (TypeDesc.slice 24) := ⟨Try.underlying61⟩
instance : Inf Try.prog 61 1 24 [.slice none 0 0] := ⟨by kernel_rfl⟩
instance : Und Try.prog 62 (TypeDesc.func #[3] #[3] false) := ⟨Try.underlying62⟩
instance : Inf Try.prog 62 1 8 [.nilFunc] := ⟨by kernel_rfl⟩
instance : Und Try.prog 63 (TypeDesc.func #[64] #[24] false) := ⟨Try.underlying63⟩
instance : Inf Try.prog 63 1 8 [.nilFunc] := ⟨by kernel_rfl⟩
instance : Und Try.prog 64 (TypeDesc.pointer 112) := ⟨Try.underlying64⟩
instance : Inf Try.prog 64 1 8 [.pointer none] := ⟨by kernel_rfl⟩
instance : Und Try.prog 65 (TypeDesc.func #[24] #[64] false) := ⟨Try.underlying65⟩
instance : Inf Try.prog 65 1 8 [.nilFunc] := ⟨by kernel_rfl⟩
instance : Und Try.prog 66 (TypeDesc.func #[] #[64] false) := ⟨Try.underlying66⟩
instance : Inf Try.prog 66 1 8 [.nilFunc] := ⟨by kernel_rfl⟩
instance : Und Try.prog 67 (TypeDesc.func #[22] #[22] false) := ⟨Try.underlying67⟩
instance : Inf Try.prog 67 1 8 [.nilFunc] := ⟨by kernel_rfl⟩
instance : Und Try.prog 68 (TypeDesc.func #[96, 3] #[3] false) := ⟨Try.underlying68⟩
instance : Inf Try.prog 68 1 8 [.nilFunc] := ⟨by kernel_rfl⟩
instance : Und Try.prog 69 (TypeDesc.slice 35) := ⟨Try.underlying69⟩
instance : Inf Try.prog 69 1 24 [.slice none 0 0] := ⟨by kernel_rfl⟩
instance : Und Try.prog 70 (TypeDesc.func #[47] #[4] false) := ⟨Try.underlying70⟩
instance : Inf Try.prog 70 1 8 [.nilFunc] := ⟨by kernel_rfl⟩
instance : Und Try.prog 71 (TypeDesc.func #[40, 3, 35] #[4] false) := ⟨Try.underlying71⟩
instance : Inf Try.prog 71 1 8 [.nilFunc] := ⟨by kernel_rfl⟩
instance : Und Try.prog 72 (TypeDesc.func #[37, 3] #[40] false) := ⟨Try.underlying72⟩
instance : Inf Try.prog 72 1 8 [.nilFunc] := ⟨by kernel_rfl⟩
instance : Und Try.prog 73 (TypeDesc.pointer 103) := ⟨Try.underlying73⟩
instance : Inf Try.prog 73 1 8 [.pointer none] := ⟨by kernel_rfl⟩
instance : Und Try.prog 74 (TypeDesc.func #[37, 3] #[73] false) := ⟨Try.underlying74⟩
instance : Inf Try.prog 74 1 8 [.nilFunc] := ⟨by kernel_rfl⟩
instance : Und Try.prog 75 (TypeDesc.func #[104] #[4] false) := ⟨Try.underlying75⟩
instance : Inf Try.prog 75 1 8 [.nilFunc] := ⟨by kernel_rfl⟩
instance : Und Try.prog 76 (TypeDesc.interface #[("Compare", 147), ("Dims", 97), ("Distance", 148)]) := ⟨Try.underlying76⟩
instance : Inf Try.prog 76 1 16 [.nilIface] := ⟨by kernel_rfl⟩
instance : Und Try.prog 77 (TypeDesc.interface #[("Compare", 147), ("Dims", 97), ("Distance", 148)]) := ⟨Try.underlying77⟩
instance : Inf Try.prog 77 1 16 [.nilIface] := ⟨by kernel_rfl⟩
instance : Und Try.prog 78 (TypeDesc.pointer 129) := ⟨Try.underlying78⟩
instance : Inf Try.prog 78 1 8 [.pointer none] := ⟨by kernel_rfl⟩
instance : Und Try.prog 79 (TypeDesc.slice 35) := ⟨Try.underlying79⟩
instance : Inf Try.prog 79 1 24 [.slice none 0 0] := ⟨by kernel_rfl⟩
instance : Und Try.prog 80 (TypeDesc.func #[77, 78, 3] #[4] false) := ⟨Try.underlying80⟩
instance : Inf Try.prog 80 1 8 [.nilFunc] := ⟨by kernel_rfl⟩
instance : Und Try.prog 81 (TypeDesc.func #[3, 3, 82] #[41, 41, 4] false) := ⟨Try.underlying81⟩
instance : Inf Try.prog 81 1 8 [.nilFunc] := ⟨by kernel_rfl⟩
instance : Und Try.prog 82 (TypeDesc.func #[3] #[3, 3] false) := ⟨Try.underlying82⟩
instance : Inf Try.prog 82 1 8 [.nilFunc] := ⟨by kernel_rfl⟩
instance : Und Try.prog 83 (TypeDesc.func #[3] #[4] false) := ⟨Try.underlying83⟩
instance : Inf Try.prog 83 1 8 [.nilFunc] := ⟨by kernel_rfl⟩
instance : Und Try.prog 84 (TypeDesc.func #[50] #[4] true) := ⟨Try.underlying84⟩
instance : Inf Try.prog 84 1 8 [.nilFunc] := ⟨by kernel_rfl⟩
instance : Und Try.prog 85 (TypeDesc.func #[52] #[50] false) := ⟨Try.underlying85⟩
instance : Inf Try.prog 85 1 8 [.nilFunc] := ⟨by kernel_rfl⟩
instance : Und Try.prog 86 (TypeDesc.func #[22, 3] #[40] false) := ⟨Try.underlying86⟩
instance : Inf Try.prog 86 1 8 [.nilFunc] := ⟨by kernel_rfl⟩
instance : Und Try.prog 87 (TypeDesc.func #[35] #[35] false) := ⟨Try.underlying87⟩
instance : Inf Try.prog 87 1 8 [.nilFunc] := ⟨by kernel_rfl⟩
instance : Und Try.prog 88 (TypeDesc.func #[22, 3] #[35] false) := ⟨Try.underlying88⟩
instance : Inf Try.prog 88 1 8 [.nilFunc] := ⟨by kernel_rfl⟩
instance : Und Try.prog 89 (TypeDesc.int IntKind.i64) := ⟨Try.underlying89⟩
instance : Inf Try.prog 89 1 8 [.int .i64 0] := ⟨by kernel_rfl⟩
instance : Und Try.prog 90 (TypeDesc.slice 35) := ⟨Try.underlying90⟩
instance : Inf Try.prog 90 1 24 [.slice none 0 0] := ⟨by kernel_rfl⟩
instance : Und Try.prog 91 (TypeDesc.tuple #[89, 90, 90]) := ⟨Try.underlying91⟩
instance : Und Try.prog 92 (TypeDesc.func #[64] #[89, 90, 90] false) := ⟨Try.underlying92⟩
instance : Inf Try.prog 92 1 8 [.nilFunc] := ⟨by kernel_rfl⟩
instance : Und Try.prog 93 (TypeDesc.func #[89, 90, 90] #[64] false) := ⟨Try.underlying93⟩
instance : Inf Try.prog 93 1 8 [.nilFunc] := ⟨by kernel_rfl⟩
instance : Und Try.prog 94 (TypeDesc.func #[64] #[64] false) := ⟨Try.underlying94⟩
instance : Inf Try.prog 94 1 8 [.nilFunc] := ⟨by kernel_rfl⟩
instance : Und Try.prog 95 (TypeDesc.interface #[("Len", 97), ("Less", 99), ("Swap", 98)]) := ⟨Try.underlying95⟩
instance : Inf Try.prog 95 1 16 [.nilIface] := ⟨by kernel_rfl⟩
instance : Und Try.prog 96 (TypeDesc.interface #[("Len", 97), ("Less", 99), ("Swap", 98)]) := ⟨Try.underlying96⟩
instance : Inf Try.prog 96 1 16 [.nilIface] := ⟨by kernel_rfl⟩
instance : Und Try.prog 97 (TypeDesc.func #[] #[3] false) := ⟨Try.underlying97⟩
instance : Inf Try.prog 97 1 8 [.nilFunc] := ⟨by kernel_rfl⟩
instance : Und Try.prog 98 (TypeDesc.func #[3, 3] #[] false) := ⟨Try.underlying98⟩
instance : Inf Try.prog 98 1 8 [.nilFunc] := ⟨by kernel_rfl⟩
instance : Und Try.prog 99 (TypeDesc.func #[3, 3] #[4] false) := ⟨Try.underlying99⟩
instance : Inf Try.prog 99 1 8 [.nilFunc] := ⟨by kernel_rfl⟩
instance : Und Try.prog 100 (TypeDesc.pointer 117) := ⟨Try.underlying100⟩
instance : Inf Try.prog 100 1 8 [.pointer none] := ⟨by kernel_rfl⟩
instance : Und Try.prog 101 (TypeDesc.func #[37, 3] #[100] false) := ⟨Try.underlying101⟩
instance : Inf Try.prog 101 1 8 [.nilFunc] := ⟨by kernel_rfl⟩
instance : Und Try.prog 102 (TypeDesc.struct #[{ name := "Root", type := 100, offset := 0, embedded := false, tag := "", pkgPath := "", byteOffset := 0 }, { name := "Count", type := 3, offset := 1, embedded := false, tag := "", pkgPath := "", byteOffset := 8 }]) := ⟨Try.underlying102⟩
instance : Inf Try.prog 102 2 16 [.pointer none, .int .i64 0] := ⟨by kernel_rfl⟩
instance : Und Try.prog 103 (TypeDesc.struct #[{ name := "Root", type := 100, offset := 0, embedded := false, tag := "", pkgPath := "", byteOffset := 0 }, { name := "Count", type := 3, offset := 1, embedded := false, tag := "", pkgPath := "", byteOffset := 8 }]) := ⟨Try.underlying103⟩
instance : Inf Try.prog 103 2 16 [.pointer none, .int .i64 0] := ⟨by kernel_rfl⟩
instance : Und Try.prog 104 (TypeDesc.func #[77, 78, 3] #[4] false) := ⟨Try.underlying104⟩
instance : Inf Try.prog 104 1 8 [.nilFunc] := ⟨by kernel_rfl⟩
instance : Und Try.prog 105 (TypeDesc.func #[104, 3] #[4] false) := ⟨Try.underlying105⟩
instance : Inf Try.prog 105 1 8 [.nilFunc] := ⟨by kernel_rfl⟩
instance : Und Try.prog 106 (TypeDesc.slice 4) := ⟨Try.underlying106⟩
instance : Inf Try.prog 106 1 24 [.slice none 0 0] := ⟨by kernel_rfl⟩
instance : Und Try.prog 107 (TypeDesc.func #[3, 3, 3] #[] false) := ⟨Try.underlying107⟩
instance : Inf Try.prog 107 1 8 [.nilFunc] := ⟨by kernel_rfl⟩
instance : Und Try.prog 108 (TypeDesc.tuple #[3, 3]) := ⟨Try.underlying108⟩
instance : Und Try.prog 109 (TypeDesc.func #[52] #[4] false) := ⟨Try.underlying109⟩
instance : Inf Try.prog 109 1 8 [.nilFunc] := ⟨by kernel_rfl⟩
instance : Und Try.prog 110 (TypeDesc.func #[22, 3, 3, 3] #[35] false) := ⟨Try.underlying110⟩
instance : Inf Try.prog 110 1 8 [.nilFunc] := ⟨by kernel_rfl⟩
instance : Und Try.prog 111 (TypeDesc.struct #[{ name := "layout", type := 89, offset := 0, embedded := false, tag := "", pkgPath := "pub-orthodrome/pub/gogeom", byteOffset := 0 }, { name := "min", type := 90, offset := 1, embedded := false, tag := "", pkgPath := "pub-orthodrome/pub/gogeom", byteOffset := 8 }, { name := "max", type := 90, offset := 2, embedded := false, tag := "", pkgPath := "pub-orthodrome/pub/gogeom", byteOffset := 32 }]) := ⟨Try.underlying111⟩
instance : Inf Try.prog 111 3 56 [.int .i64 0, .slice none 0 0, .slice none 0 0] := ⟨by kernel_rfl⟩
instance : Und Try.prog 112 (TypeDesc.struct #[{ name := "layout", type := 89, offset := 0, embedded := false, tag := "", pkgPath := "pub-orthodrome/pub/gogeom", byteOffset := 0 }, { name := "min", type := 90, offset := 1, embedded := false, tag := "", pkgPath := "pub-orthodrome/pub/gogeom", byteOffset := 8 }, { name := "max", type := 90, offset := 2, embedded := false, tag := "", pkgPath := "pub-orthodrome/pub/gogeom", byteOffset := 32 }]) := ⟨Try.underlying112⟩
instance : Inf Try.prog 112 3 56 [.int .i64 0, .slice none 0 0, .slice none 0 0] := ⟨by kernel_rfl⟩
instance : Und Try.prog 113 (TypeDesc.func #[64, 64] #[] false) := ⟨Try.underlying113⟩
instance : Inf Try.prog 113 1 8 [.nilFunc] := ⟨by kernel_rfl⟩
instance : Und Try.prog 114 (TypeDesc.int IntKind.i64) := ⟨Try.underlying114⟩
instance : Inf Try.prog 114 1 8 [.int .i64 0] := ⟨by kernel_rfl⟩
instance : Und Try.prog 115 (TypeDesc.func #[22, 22] #[78] false) := ⟨Try.underlying115⟩
instance : Inf Try.prog 115 1 8 [.nilFunc] := ⟨by kernel_rfl⟩
instance : Und Try.prog 116 (TypeDesc.struct #[{ name := "Point", type := 77, offset := 0, embedded := false, tag := "", pkgPath := "", byteOffset := 0 }, { name := "Plane", type := 114, offset := 1, embedded := false, tag := "", pkgPath := "", byteOffset := 16 }, { name := "Left", type := 100, offset := 2, embedded := false, tag := "", pkgPath := "", byteOffset := 24 }, { name := "Right", type := 100, offset := 3, embedded := false, tag := "", pkgPath := "", byteOffset := 32 }, { name := "Bounding", type := 78, offset := 4, embedded := true, tag := "", pkgPath := "", byteOffset := 40 }]) := ⟨Try.underlying116⟩
instance : Inf Try.prog 116 5 48 [.nilIface, .int .i64 0, .pointer none, .pointer none, .pointer none] := ⟨by kernel_rfl⟩
instance : Und Try.prog 117 (TypeDesc.struct #[{ name := "Point", type := 77, offset := 0, embedded := false, tag := "", pkgPath := "", byteOffset := 0 }, { name := "Plane", type := 114, offset := 1, embedded := false, tag := "", pkgPath := "", byteOffset := 16 }, { name := "Left", type := 100, offset := 2, embedded := false, tag := "", pkgPath := "", byteOffset := 24 }, { name := "Right", type := 100, offset := 3, embedded := false, tag := "", pkgPath := "", byteOffset := 32 }, { name := "Bounding", type := 78, offset := 4, embedded := true, tag := "", pkgPath := "", byteOffset := 40 }]) := ⟨Try.underlying117⟩
instance : Inf Try.prog 117 5 48 [.nilIface, .int .i64 0, .pointer none, .pointer none, .pointer none] := ⟨by kernel_rfl⟩
instance : Und Try.prog 118 (TypeDesc.func #[52, 3] #[3] false) := ⟨Try.underlying118⟩
instance : Inf Try.prog 118 1 8 [.nilFunc] := ⟨by kernel_rfl⟩
instance : Und Try.prog 119 (TypeDesc.func #[52, 3] #[4] false) := ⟨Try.underlying119⟩
instance : Inf Try.prog 119 1 8 [.nilFunc] := ⟨by kernel_rfl⟩
instance : Und Try.prog 120 (TypeDesc.func #[52] #[3] false) := ⟨Try.underlying120⟩
instance : Inf Try.prog 120 1 8 [.nilFunc] := ⟨by kernel_rfl⟩
instance : Und Try.prog 121 (TypeDesc.func #[41, 3, 3, 4] #[3, 4] false) := ⟨Try.underlying121⟩
instance : Inf Try.prog 121 1 8 [.nilFunc] := ⟨by kernel_rfl⟩
instance : Und Try.prog 122 (TypeDesc.func #[52, 3] #[52] false) := ⟨Try.underlying122⟩
instance : Inf Try.prog 122 1 8 [.nilFunc] := ⟨by kernel_rfl⟩
instance : Und Try.prog 123 (TypeDesc.func #[35, 35] #[35] false) := ⟨Try.underlying123⟩
instance : Inf Try.prog 123 1 8 [.nilFunc] := ⟨by kernel_rfl⟩
instance : Und Try.prog 124 (TypeDesc.int IntKind.u64) := ⟨Try.underlying124⟩
instance : Inf Try.prog 124 1 8 [.int .u64 0] := ⟨by kernel_rfl⟩
instance : Und Try.prog 125 (TypeDesc.func #[35] #[124] false) := ⟨Try.underlying125⟩
instance : Inf Try.prog 125 1 8 [.nilFunc] := ⟨by kernel_rfl⟩
instance : Und Try.prog 126 (TypeDesc.int IntKind.u64) := ⟨Try.underlying126⟩
instance : Inf Try.prog 126 1 8 [.int .u64 0] := ⟨by kernel_rfl⟩
instance : Und Try.prog 127 (TypeDesc.func #[124] #[35] false) := ⟨Try.underlying127⟩
instance : Inf Try.prog 127 1 8 [.nilFunc] := ⟨by kernel_rfl⟩
instance : Und Try.prog 128 (TypeDesc.struct #[{ name := "Min", type := 77, offset := 0, embedded := false, tag := "", pkgPath := "", byteOffset := 0 }, { name := "Max", type := 77, offset := 1, embedded := false, tag := "", pkgPath := "", byteOffset := 16 }]) := ⟨Try.underlying128⟩
instance : Inf Try.prog 128 2 32 [.nilIface, .nilIface] := ⟨by kernel_rfl⟩
instance : Und Try.prog 129 (TypeDesc.struct #[{ name := "Min", type := 77, offset := 0, embedded := false, tag := "", pkgPath := "", byteOffset := 0 }, { name := "Max", type := 77, offset := 1, embedded := false, tag := "", pkgPath := "", byteOffset := 16 }]) := ⟨Try.underlying129⟩
instance : Inf Try.prog 129 2 32 [.nilIface, .nilIface] := ⟨by kernel_rfl⟩
instance : Und Try.prog 130 (TypeDesc.func #[3, 3] #[3] false) := ⟨Try.underlying130⟩
instance : Inf Try.prog 130 1 8 [.nilFunc] := ⟨by kernel_rfl⟩
instance : Und Try.prog 131 (TypeDesc.func #[] #[9] false) := ⟨Try.underlying131⟩
instance : Inf Try.prog 131 1 8 [.nilFunc] := ⟨by kernel_rfl⟩
instance : Und Try.prog 132 (TypeDesc.struct #[{ name := "_interface", type := 17, offset := 0, embedded := false, tag := "", pkgPath := "runtime", byteOffset := 0 }, { name := "concrete", type := 17, offset := 1, embedded := false, tag := "", pkgPath := "runtime", byteOffset := 8 }, { name := "asserted", type := 17, offset := 2, embedded := false, tag := "", pkgPath := "runtime", byteOffset := 16 }, { name := "missingMethod", type := 9, offset := 3, embedded := false, tag := "", pkgPath := "runtime", byteOffset := 24 }]) := ⟨Try.underlying132⟩
instance : Inf Try.prog 132 4 40 [.pointer none, .pointer none, .pointer none, .string ⟨#[]⟩] := ⟨by kernel_rfl⟩
instance : Und Try.prog 133 (TypeDesc.struct #[{ name := "_interface", type := 17, offset := 0, embedded := false, tag := "", pkgPath := "runtime", byteOffset := 0 }, { name := "concrete", type := 17, offset := 1, embedded := false, tag := "", pkgPath := "runtime", byteOffset := 8 }, { name := "asserted", type := 17, offset := 2, embedded := false, tag := "", pkgPath := "runtime", byteOffset := 16 }, { name := "missingMethod", type := 9, offset := 3, embedded := false, tag := "", pkgPath := "runtime", byteOffset := 24 }]) := ⟨Try.underlying133⟩
instance : Inf Try.prog 133 4 40 [.pointer none, .pointer none, .pointer none, .string ⟨#[]⟩] := ⟨by kernel_rfl⟩
instance : Und Try.prog 134 (TypeDesc.array 0 16) := ⟨Try.underlying134⟩
instance : Inf Try.prog 134 0 0 [] := ⟨by kernel_rfl⟩
instance : Und Try.prog 135 (TypeDesc.struct #[{ name := "_", type := 134, offset := 0, embedded := false, tag := "", pkgPath := "runtime", byteOffset := 0 }]) := ⟨Try.underlying135⟩
instance : Inf Try.prog 135 0 0 [] := ⟨by kernel_rfl⟩
instance : Und Try.prog 136 (TypeDesc.struct #[{ name := "_", type := 134, offset := 0, embedded := false, tag := "", pkgPath := "runtime", byteOffset := 0 }]) := ⟨Try.underlying136⟩
instance : Inf Try.prog 136 0 0 [] := ⟨by kernel_rfl⟩
instance : Und Try.prog 137 (TypeDesc.int IntKind.u32) := ⟨Try.underlying137⟩
instance : Inf Try.prog 137 1 4 [.int .u32 0] := ⟨by kernel_rfl⟩
instance : Und Try.prog 138 (TypeDesc.int IntKind.u8) := ⟨Try.underlying138⟩
instance : Inf Try.prog 138 1 1 [.int .u8 0] := ⟨by kernel_rfl⟩
instance : Und Try.prog 139 (TypeDesc.int IntKind.u8) := ⟨Try.underlying139⟩
instance : Inf Try.prog 139 1 1 [.int .u8 0] := ⟨by kernel_rfl⟩
instance : Und Try.prog 140 (TypeDesc.func #[151, 151] #[4] false) := ⟨Try.underlying140⟩
instance : Inf Try.prog 140 1 8 [.nilFunc] := ⟨by kernel_rfl⟩
instance : Und Try.prog 141 (TypeDesc.pointer 5) := ⟨Try.underlying141⟩
instance : Inf Try.prog 141 1 8 [.pointer none] := ⟨by kernel_rfl⟩
instance : Und Try.prog 142 (TypeDesc.int IntKind.i32) := ⟨Try.underlying142⟩
instance : Inf Try.prog 142 1 4 [.int .i32 0] := ⟨by kernel_rfl⟩
instance : Und Try.prog 143 (TypeDesc.int IntKind.i32) := ⟨Try.underlying143⟩
instance : Inf Try.prog 143 1 4 [.int .i32 0] := ⟨by kernel_rfl⟩
instance : Und Try.prog 144 (TypeDesc.struct #[{ name := "Size_", type := 12, offset := 0, embedded := false, tag := "", pkgPath := "", byteOffset := 0 }, { name := "PtrBytes", type := 12, offset := 1, embedded := false, tag := "", pkgPath := "", byteOffset := 8 }, { name := "Hash", type := 137, offset := 2, embedded := false, tag := "", pkgPath := "", byteOffset := 16 }, { name := "TFlag", type := 138, offset := 3, embedded := false, tag := "", pkgPath := "", byteOffset := 20 }, { name := "Align_", type := 5, offset := 4, embedded := false, tag := "", pkgPath := "", byteOffset := 21 }, { name := "FieldAlign_", type := 5, offset := 5, embedded := false, tag := "", pkgPath := "", byteOffset := 22 }, { name := "Kind_", type := 139, offset := 6, embedded := false, tag := "", pkgPath := "", byteOffset := 23 }, { name := "Equal", type := 140, offset := 7, embedded := false, tag := "", pkgPath := "", byteOffset := 24 }, { name := "GCData", type := 141, offset := 8, embedded := false, tag := "", pkgPath := "", byteOffset := 32 }, { name := "Str", type := 142, offset := 9, embedded := false, tag := "", pkgPath := "", byteOffset := 40 }, { name := "PtrToThis", type := 143, offset := 10, embedded := false, tag := "", pkgPath := "", byteOffset := 44 }]) := ⟨Try.underlying144⟩
instance : Inf Try.prog 144 11 48 [.int .u64 0, .int .u64 0, .int .u32 0, .int .u8 0, .int .u8 0, .int .u8 0, .int .u8 0, .nilFunc, .pointer none, .int .i32 0, .int .i32 0] := ⟨by kernel_rfl⟩
instance : Und Try.prog 145 (TypeDesc.struct #[{ name := "Size_", type := 12, offset := 0, embedded := false, tag := "", pkgPath := "", byteOffset := 0 }, { name := "PtrBytes", type := 12, offset := 1, embedded := false, tag := "", pkgPath := "", byteOffset := 8 }, { name := "Hash", type := 137, offset := 2, embedded := false, tag := "", pkgPath := "", byteOffset := 16 }, { name := "TFlag", type := 138, offset := 3, embedded := false, tag := "", pkgPath := "", byteOffset := 20 }, { name := "Align_", type := 5, offset := 4, embedded := false, tag := "", pkgPath := "", byteOffset := 21 }, { name := "FieldAlign_", type := 5, offset := 5, embedded := false, tag := "", pkgPath := "", byteOffset := 22 }, { name := "Kind_", type := 139, offset := 6, embedded := false, tag := "", pkgPath := "", byteOffset := 23 }, { name := "Equal", type := 140, offset := 7, embedded := false, tag := "", pkgPath := "", byteOffset := 24 }, { name := "GCData", type := 141, offset := 8, embedded := false, tag := "", pkgPath := "", byteOffset := 32 }, { name := "Str", type := 142, offset := 9, embedded := false, tag := "", pkgPath := "", byteOffset := 40 }, { name := "PtrToThis", type := 143, offset := 10, embedded := false, tag := "", pkgPath := "", byteOffset := 44 }]) := ⟨Try.underlying145⟩
instance : Inf Try.prog 145 11 48 [.int .u64 0, .int .u64 0, .int .u32 0, .int .u8 0, .int .u8 0, .int .u8 0, .int .u8 0, .nilFunc, .pointer none, .int .i32 0, .int .i32 0] := ⟨by kernel_rfl⟩
instance : Und Try.prog 146 (TypeDesc.func #[] #[4] false) := ⟨Try.underlying146⟩
instance : Inf Try.prog 146 1 8 [.nilFunc] := ⟨by kernel_rfl⟩
instance : Und Try.prog 147 (TypeDesc.func #[77, 114] #[35] false) := ⟨Try.underlying147⟩
instance : Inf Try.prog 147 1 8 [.nilFunc] := ⟨by kernel_rfl⟩
instance : Und Try.prog 148 (TypeDesc.func #[77] #[35] false) := ⟨Try.underlying148⟩
instance : Inf Try.prog 148 1 8 [.nilFunc] := ⟨by kernel_rfl⟩
instance : Und Try.prog 149 (TypeDesc.func #[77] #[4] false) := ⟨Try.underlying149⟩
instance : Inf Try.prog 149 1 8 [.nilFunc] := ⟨by kernel_rfl⟩
instance : Und Try.prog 150 (TypeDesc.func #[] #[35] false) := ⟨Try.underlying150⟩
instance : Inf Try.prog 150 1 8 [.nilFunc] := ⟨by kernel_rfl⟩
instance : Und Try.prog 151 TypeDesc.unsafePointer := ⟨Try.underlying151⟩
instance : Inf Try.prog 151 1 8 [.pointer none] := ⟨by kernel_rfl⟩
instance : FieldAt Try.prog 7 0 0 := .mk' Try.underlying7 rfl rfl (by kernel_rfl)
instance : FieldAt Try.prog 7 1 1 := .mk' Try.underlying7 rfl rfl (by kernel_rfl)
instance : FieldAt Try.prog 7 2 2 := .mk' Try.underlying7 rfl rfl (by kernel_rfl)
instance : FieldAt Try.prog 7 3 3 := .mk' Try.underlying7 rfl rfl (by kernel_rfl)
instance : FieldAt Try.prog 8 0 0 := .mk' Try.underlying8 rfl rfl (by kernel_rfl)
instance : FieldAt Try.prog 8 1 1 := .mk' Try.underlying8 rfl rfl (by kernel_rfl)
instance : FieldAt Try.prog 8 2 2 := .mk' Try.underlying8 rfl rfl (by kernel_rfl)
instance : FieldAt Try.prog 8 3 3 := .mk' Try.underlying8 rfl rfl (by kernel_rfl)
instance : FieldAt Try.prog 13 0 0 := .mk' Try.underlying13 rfl rfl (by kernel_rfl)
instance : FieldAt Try.prog 13 1 1 := .mk' Try.underlying13 rfl rfl (by kernel_rfl)
instance : FieldAt Try.prog 14 0 0 := .mk' Try.underlying14 rfl rfl (by kernel_rfl)
instance : FieldAt Try.prog 14 1 1 := .mk' Try.underlying14 rfl rfl (by kernel_rfl)
instance : FieldAt Try.prog 18 0 0 := .mk' Try.underlying18 rfl rfl (by kernel_rfl)
instance : FieldAt Try.prog 19 0 0 := .mk' Try.underlying19 rfl rfl (by kernel_rfl)
instance : FieldAt Try.prog 23 0 0 := .mk' Try.underlying23 rfl rfl (by kernel_rfl)
instance : FieldAt Try.prog 23 1 1 := .mk' Try.underlying23 rfl rfl (by kernel_rfl)
instance : FieldAt Try.prog 23 2 2 := .mk' Try.underlying23 rfl rfl (by kernel_rfl)
instance : FieldAt Try.prog 24 0 0 := .mk' Try.underlying24 rfl rfl (by kernel_rfl)
instance : FieldAt Try.prog 24 1 1 := .mk' Try.underlying24 rfl rfl (by kernel_rfl)
instance : FieldAt Try.prog 24 2 2 := .mk' Try.underlying24 rfl rfl (by kernel_rfl)
instance : FieldAt Try.prog 46 0 0 := .mk' Try.underlying46 rfl rfl (by kernel_rfl)
instance : FieldAt Try.prog 46 1 1 := .mk' Try.underlying46 rfl rfl (by kernel_rfl)
instance : FieldAt Try.prog 46 2 2 := .mk' Try.underlying46 rfl rfl (by kernel_rfl)
instance : FieldAt Try.prog 46 3 3 := .mk' Try.underlying46 rfl rfl (by kernel_rfl)
instance : FieldAt Try.prog 46 4 4 := .mk' Try.underlying46 rfl rfl (by kernel_rfl)
instance : FieldAt Try.prog 46 5 5 := .mk' Try.underlying46 rfl rfl (by kernel_rfl)
instance : FieldAt Try.prog 47 0 0 := .mk' Try.underlying47 rfl rfl (by kernel_rfl)
instance : FieldAt Try.prog 47 1 1 := .mk' Try.underlying47 rfl rfl (by kernel_rfl)
instance : FieldAt Try.prog 47 2 2 := .mk' Try.underlying47 rfl rfl (by kernel_rfl)
instance : FieldAt Try.prog 47 3 3 := .mk' Try.underlying47 rfl rfl (by kernel_rfl)
instance : FieldAt Try.prog 47 4 4 := .mk' Try.underlying47 rfl rfl (by kernel_rfl)
instance : FieldAt Try.prog 47 5 5 := .mk' Try.underlying47 rfl rfl (by kernel_rfl)
instance : FieldAt Try.prog 51 0 0 := .mk' Try.underlying51 rfl rfl (by kernel_rfl)
instance : FieldAt Try.prog 51 1 1 := .mk' Try.underlying51 rfl rfl (by kernel_rfl)
instance : FieldAt Try.prog 51 2 2 := .mk' Try.underlying51 rfl rfl (by kernel_rfl)
instance : FieldAt Try.prog 51 3 3 := .mk' Try.underlying51 rfl rfl (by kernel_rfl)
instance : FieldAt Try.prog 51 4 4 := .mk' Try.underlying51 rfl rfl (by kernel_rfl)
instance : FieldAt Try.prog 51 5 5 := .mk' Try.underlying51 rfl rfl (by kernel_rfl)
instance : FieldAt Try.prog 51 6 6 := .mk' Try.underlying51 rfl rfl (by kernel_rfl)
instance : FieldAt Try.prog 52 0 0 := .mk' Try.underlying52 rfl rfl (by kernel_rfl)
instance : FieldAt Try.prog 52 1 1 := .mk' Try.underlying52 rfl rfl (by kernel_rfl)
instance : FieldAt Try.prog 52 2 2 := .mk' Try.underlying52 rfl rfl (by kernel_rfl)
instance : FieldAt Try.prog 52 3 3 := .mk' Try.underlying52 rfl rfl (by kernel_rfl)
instance : FieldAt Try.prog 52 4 4 := .mk' Try.underlying52 rfl rfl (by kernel_rfl)
instance : FieldAt Try.prog 52 5 5 := .mk' Try.underlying52 rfl rfl (by kernel_rfl)
instance : FieldAt Try.prog 52 6 6 := .mk' Try.underlying52 rfl rfl (by kernel_rfl)
instance : FieldAt Try.prog 102 0 0 := .mk' Try.underlying102 rfl rfl (by kernel_rfl)
instance : FieldAt Try.prog 102 1 1 := .mk' Try.underlying102 rfl rfl (by kernel_rfl)
instance : FieldAt Try.prog 103 0 0 := .mk' Try.underlying103 rfl rfl (by kernel_rfl)
instance : FieldAt Try.prog 103 1 1 := .mk' Try.underlying103 rfl rfl (by kernel_rfl)
instance : FieldAt Try.prog 111 0 0 := .mk' Try.underlying111 rfl rfl (by kernel_rfl)
instance : FieldAt Try.prog 111 1 1 := .mk' Try.underlying111 rfl rfl (by kernel_rfl)
instance : FieldAt Try.prog 111 2 2 := .mk' Try.underlying111 rfl rfl (by kernel_rfl)
instance : FieldAt Try.prog 112 0 0 := .mk' Try.underlying112 rfl rfl (by kernel_rfl)
instance : FieldAt Try.prog 112 1 1 := .mk' Try.underlying112 rfl rfl (by kernel_rfl)
instance : FieldAt Try.prog 112 2 2 := .mk' Try.underlying112 rfl rfl (by kernel_rfl)
instance : FieldAt Try.prog 116 0 0 := .mk' Try.underlying116 rfl rfl (by kernel_rfl)
instance : FieldAt Try.prog 116 1 1 := .mk' Try.underlying116 rfl rfl (by kernel_rfl)
instance : FieldAt Try.prog 116 2 2 := .mk' Try.underlying116 rfl rfl (by kernel_rfl)
instance : FieldAt Try.prog 116 3 3 := .mk' Try.underlying116 rfl rfl (by kernel_rfl)
instance : FieldAt Try.prog 116 4 4 := .mk' Try.underlying116 rfl rfl (by kernel_rfl)
instance : FieldAt Try.prog 117 0 0 := .mk' Try.underlying117 rfl rfl (by kernel_rfl)
instance : FieldAt Try.prog 117 1 1 := .mk' Try.underlying117 rfl rfl (by kernel_rfl)
instance : FieldAt Try.prog 117 2 2 := .mk' Try.underlying117 rfl rfl (by kernel_rfl)
instance : FieldAt Try.prog 117 3 3 := .mk' Try.underlying117 rfl rfl (by kernel_rfl)
instance : FieldAt Try.prog 117 4 4 := .mk' Try.underlying117 rfl rfl (by kernel_rfl)
instance : FieldAt Try.prog 128 0 0 := .mk' Try.underlying128 rfl rfl (by kernel_rfl)
instance : FieldAt Try.prog 128 1 1 := .mk' Try.underlying128 rfl rfl (by kernel_rfl)
instance : FieldAt Try.prog 129 0 0 := .mk' Try.underlying129 rfl rfl (by kernel_rfl)
instance : FieldAt Try.prog 129 1 1 := .mk' Try.underlying129 rfl rfl (by kernel_rfl)
instance : FieldAt Try.prog 132 0 0 := .mk' Try.underlying132 rfl rfl (by kernel_rfl)
instance : FieldAt Try.prog 132 1 1 := .mk' Try.underlying132 rfl rfl (by kernel_rfl)
instance : FieldAt Try.prog 132 2 2 := .mk' Try.underlying132 rfl rfl (by kernel_rfl)
instance : FieldAt Try.prog 132 3 3 := .mk' Try.underlying132 rfl rfl (by kernel_rfl)
instance : FieldAt Try.prog 133 0 0 := .mk' Try.underlying133 rfl rfl (by kernel_rfl)
instance : FieldAt Try.prog 133 1 1 := .mk' Try.underlying133 rfl rfl (by kernel_rfl)
instance : FieldAt Try.prog 133 2 2 := .mk' Try.underlying133 rfl rfl (by kernel_rfl)
instance : FieldAt Try.prog 133 3 3 := .mk' Try.underlying133 rfl rfl (by kernel_rfl)
instance : FieldAt Try.prog 144 0 0 := .mk' Try.underlying144 rfl rfl (by kernel_rfl)
instance : FieldAt Try.prog 144 1 1 := .mk' Try.underlying144 rfl rfl (by kernel_rfl)
instance : FieldAt Try.prog 144 2 2 := .mk' Try.underlying144 rfl rfl (by kernel_rfl)
instance : FieldAt Try.prog 144 3 3 := .mk' Try.underlying144 rfl rfl (by kernel_rfl)
instance : FieldAt Try.prog 144 4 4 := .mk' Try.underlying144 rfl rfl (by kernel_rfl)
instance : FieldAt Try.prog 144 5 5 := .mk' Try.underlying144 rfl rfl (by kernel_rfl)
instance : FieldAt Try.prog 144 6 6 := .mk' Try.underlying144 rfl rfl (by kernel_rfl)
instance : FieldAt Try.prog 144 7 7 := .mk' Try.underlying144 rfl rfl (by kernel_rfl)
instance : FieldAt Try.prog 144 8 8 := .mk' Try.underlying144 rfl rfl (by kernel_rfl)
instance : FieldAt Try.prog 144 9 9 := .mk' Try.underlying144 rfl rfl (by kernel_rfl)
instance : FieldAt Try.prog 144 10 10 := .mk' Try.underlying144 rfl rfl (by kernel_rfl)
instance : FieldAt Try.prog 145 0 0 := .mk' Try.underlying145 rfl rfl (by kernel_rfl)
instance : FieldAt Try.prog 145 1 1 := .mk' Try.underlying145 rfl rfl (by kernel_rfl)
instance : FieldAt Try.prog 145 2 2 := .mk' Try.underlying145 rfl rfl (by kernel_rfl)
instance : FieldAt Try.prog 145 3 3 := .mk' Try.underlying145 rfl rfl (by kernel_rfl)
instance : FieldAt Try.prog 145 4 4 := .mk' Try.underlying145 rfl rfl (by kernel_rfl)
instance : FieldAt Try.prog 145 5 5 := .mk' Try.underlying145 rfl rfl (by kernel_rfl)
instance : FieldAt Try.prog 145 6 6 := .mk' Try.underlying145 rfl rfl (by kernel_rfl)
instance : FieldAt Try.prog 145 7 7 := .mk' Try.underlying145 rfl rfl (by kernel_rfl)
instance : FieldAt Try.prog 145 8 8 := .mk' Try.underlying145 rfl rfl (by kernel_rfl)
instance : FieldAt Try.prog 145 9 9 := .mk' Try.underlying145 rfl rfl (by kernel_rfl)
instance : FieldAt Try.prog 145 10 10 := .mk' Try.underlying145 rfl rfl (by kernel_rfl)
instance : Places Try.prog [{ name := "x", type := 2, offset := 0, embedded := false, tag := "", pkgPath := "runtime", byteOffset := 0 }, { name := "y", type := 3, offset := 1, embedded := false, tag := "", pkgPath := "runtime", byteOffset := 8 }, { name := "signed", type := 4, offset := 2, embedded := false, tag := "", pkgPath := "runtime", byteOffset := 16 }, { name := "code", type := 6, offset := 3, embedded := false, tag := "", pkgPath := "runtime", byteOffset := 17 }] [(0, 1), (1, 1), (2, 1), (3, 1)] := ⟨by kernel_rfl⟩
instance : Places Try.prog [{ name := "msg", type := 9, offset := 0, embedded := false, tag := "", pkgPath := "runtime", byteOffset := 0 }, { name := "addr", type := 12, offset := 1, embedded := false, tag := "", pkgPath := "runtime", byteOffset := 16 }] [(0, 1), (1, 1)] := ⟨by kernel_rfl⟩
instance : Places Try.prog [{ name := "typ", type := 17, offset := 0, embedded := false, tag := "", pkgPath := "internal/runtime/maps", byteOffset := 0 }] [(0, 1)] := ⟨by kernel_rfl⟩
instance : Places Try.prog [{ name := "Layout", type := 3, offset := 0, embedded := false, tag := "", pkgPath := "", byteOffset := 0 }, { name := "Min", type := 22, offset := 1, embedded := false, tag := "", pkgPath := "", byteOffset := 8 }, { name := "Max", type := 22, offset := 2, embedded := false, tag := "", pkgPath := "", byteOffset := 32 }] [(0, 1), (1, 1), (2, 1)] := ⟨by kernel_rfl⟩
instance : Places Try.prog [{ name := "Point", type := 22, offset := 0, embedded := false, tag := "", pkgPath := "", byteOffset := 0 }, { name := "Plane", type := 3, offset := 1, embedded := false, tag := "", pkgPath := "", byteOffset := 24 }, { name := "Left", type := 3, offset := 2, embedded := false, tag := "", pkgPath := "", byteOffset := 32 }, { name := "Right", type := 3, offset := 3, embedded := false, tag := "", pkgPath := "", byteOffset := 40 }, { name := "Min", type := 22, offset := 4, embedded := false, tag := "", pkgPath := "", byteOffset := 48 }, { name := "Max", type := 22, offset := 5, embedded := false, tag := "", pkgPath := "", byteOffset := 72 }] [(0, 1), (1, 1), (2, 1), (3, 1), (4, 1), (5, 1)] := ⟨by kernel_rfl⟩
instance : Places Try.prog [{ name := "Kind", type := 3, offset := 0, embedded := false, tag := "", pkgPath := "", byteOffset := 0 }, { name := "Layout", type := 3, offset := 1, embedded := false, tag := "", pkgPath := "", byteOffset := 8 }, { name := "SRID", type := 3, offset := 2, embedded := false, tag := "", pkgPath := "", byteOffset := 16 }, { name := "Flat", type := 22, offset := 3, embedded := false, tag := "", pkgPath := "", byteOffset := 24 }, { name := "Ends", type := 41, offset := 4, embedded := false, tag := "", pkgPath := "", byteOffset := 48 }, { name := "Endss", type := 49, offset := 5, embedded := false, tag := "", pkgPath := "", byteOffset := 72 }, { name := "Kids", type := 50, offset := 6, embedded := false, tag := "", pkgPath := "", byteOffset := 96 }] [(0, 1), (1, 1), (2, 1), (3, 1), (4, 1), (5, 1), (6, 1)] := ⟨by kernel_rfl⟩
instance : Places Try.prog [{ name := "Root", type := 100, offset := 0, embedded := false, tag := "", pkgPath := "", byteOffset := 0 }, { name := "Count", type := 3, offset := 1, embedded := false, tag := "", pkgPath := "", byteOffset := 8 }] [(0, 1), (1, 1)] := ⟨by kernel_rfl⟩
instance : Places Try.prog [{ name := "layout", type := 89, offset := 0, embedded := false, tag := "", pkgPath := "pub-orthodrome/pub/gogeom", byteOffset := 0 }, { name := "min", type := 90, offset := 1, embedded := false, tag := "", pkgPath := "pub-orthodrome/pub/gogeom", byteOffset := 8 }, { name := "max", type := 90, offset := 2, embedded := false, tag := "", pkgPath := "pub-orthodrome/pub/gogeom", byteOffset := 32 }] [(0, 1), (1, 1), (2, 1)] := ⟨by kernel_rfl⟩
instance : Places Try.prog [{ name := "Point", type := 77, offset := 0, embedded := false, tag := "", pkgPath := "", byteOffset := 0 }, { name := "Plane", type := 114, offset := 1, embedded := false, tag := "", pkgPath := "", byteOffset := 16 }, { name := "Left", type := 100, offset := 2, embedded := false, tag := "", pkgPath := "", byteOffset := 24 }, { name := "Right", type := 100, offset := 3, embedded := false, tag := "", pkgPath := "", byteOffset := 32 }, { name := "Bounding", type := 78, offset := 4, embedded := true, tag := "", pkgPath := "", byteOffset := 40 }] [(0, 1), (1, 1), (2, 1), (3, 1), (4, 1)] := ⟨by kernel_rfl⟩
instance : Places Try.prog [{ name := "Min", type := 77, offset := 0, embedded := false, tag := "", pkgPath := "", byteOffset := 0 }, { name := "Max", type := 77, offset := 1, embedded := false, tag := "", pkgPath := "", byteOffset := 16 }] [(0, 1), (1, 1)] := ⟨by kernel_rfl⟩
instance : Places Try.prog [{ name := "_interface", type := 17, offset := 0, embedded := false, tag := "", pkgPath := "runtime", byteOffset := 0 }, { name := "concrete", type := 17, offset := 1, embedded := false, tag := "", pkgPath := "runtime", byteOffset := 8 }, { name := "asserted", type := 17, offset := 2, embedded := false, tag := "", pkgPath := "runtime", byteOffset := 16 }, { name := "missingMethod", type := 9, offset := 3, embedded := false, tag := "", pkgPath := "runtime", byteOffset := 24 }] [(0, 1), (1, 1), (2, 1), (3, 1)] := ⟨by kernel_rfl⟩
instance : Places Try.prog [{ name := "_", type := 134, offset := 0, embedded := false, tag := "", pkgPath := "runtime", byteOffset := 0 }] [(0, 0)] := ⟨by kernel_rfl⟩
instance : Places Try.prog [{ name := "Size_", type := 12, offset := 0, embedded := false, tag := "", pkgPath := "", byteOffset := 0 }, { name := "PtrBytes", type := 12, offset := 1, embedded := false, tag := "", pkgPath := "", byteOffset := 8 }, { name := "Hash", type := 137, offset := 2, embedded := false, tag := "", pkgPath := "", byteOffset := 16 }, { name := "TFlag", type := 138, offset := 3, embedded := false, tag := "", pkgPath := "", byteOffset := 20 }, { name := "Align_", type := 5, offset := 4, embedded := false, tag := "", pkgPath := "", byteOffset := 21 }, { name := "FieldAlign_", type := 5, offset := 5, embedded := false, tag := "", pkgPath := "", byteOffset := 22 }, { name := "Kind_", type := 139, offset := 6, embedded := false, tag := "", pkgPath := "", byteOffset := 23 }, { name := "Equal", type := 140, offset := 7, embedded := false, tag := "", pkgPath := "", byteOffset := 24 }, { name := "GCData", type := 141, offset := 8, embedded := false, tag := "", pkgPath := "", byteOffset := 32 }, { name := "Str", type := 142, offset := 9, embedded := false, tag := "", pkgPath := "", byteOffset := 40 }, { name := "PtrToThis", type := 143, offset := 10, embedded := false, tag := "", pkgPath := "", byteOffset := 44 }] [(0, 1), (1, 1), (2, 1), (3, 1), (4, 1), (5, 1), (6, 1), (7, 1), (8, 1), (9, 1), (10, 1)] := ⟨by kernel_rfl⟩
instance : Enters Try.prog 3 := ⟨Try.f3, Try.func3, rfl, rfl⟩
instance : Enters Try.prog 4 := ⟨Try.f4, Try.func4, rfl, rfl⟩
instance : Enters Try.prog 5 := ⟨Try.f5, Try.func5, rfl, rfl⟩
instance : Enters Try.prog 6 := ⟨Try.f6, Try.func6, rfl, rfl⟩
instance : Enters Try.prog 7 := ⟨Try.f7, Try.func7, rfl, rfl⟩
instance : Enters Try.prog 8 := ⟨Try.f8, Try.func8, rfl, rfl⟩
instance : Enters Try.prog 9 := ⟨Try.f9, Try.func9, rfl, rfl⟩
instance : Enters Try.prog 10 := ⟨Try.f10, Try.func10, rfl, rfl⟩
instance : Enters Try.prog 11 := ⟨Try.f11, Try.func11, rfl, rfl⟩
instance : Enters Try.prog 12 := ⟨Try.f12, Try.func12, rfl, rfl⟩
instance : Enters Try.prog 13 := ⟨Try.f13, Try.func13, rfl, rfl⟩
instance : Enters Try.prog 14 := ⟨Try.f14, Try.func14, rfl, rfl⟩
instance : Enters Try.prog 15 := ⟨Try.f15, Try.func15, rfl, rfl⟩
instance : Enters Try.prog 16 := ⟨Try.f16, Try.func16, rfl, rfl⟩
instance : Enters Try.prog 17 := ⟨Try.f17, Try.func17, rfl, rfl⟩
instance : Enters Try.prog 18 := ⟨Try.f18, Try.func18, rfl, rfl⟩
instance : Enters Try.prog 19 := ⟨Try.f19, Try.func19, rfl, rfl⟩
instance : Enters Try.prog 20 := ⟨Try.f20, Try.func20, rfl, rfl⟩
instance : Enters Try.prog 21 := ⟨Try.f21, Try.func21, rfl, rfl⟩
instance : Enters Try.prog 22 := ⟨Try.f22, Try.func22, rfl, rfl⟩
instance : Enters Try.prog 23 := ⟨Try.f23, Try.func23, rfl, rfl⟩
instance : Enters Try.prog 24 := ⟨Try.f24, Try.func24, rfl, rfl⟩
instance : Enters Try.prog 25 := ⟨Try.f25, Try.func25, rfl, rfl⟩
instance : Enters Try.prog 26 := ⟨Try.f26, Try.func26, rfl, rfl⟩
instance : Enters Try.prog 27 := ⟨Try.f27, Try.func27, rfl, rfl⟩
instance : Enters Try.prog 28 := ⟨Try.f28, Try.func28, rfl, rfl⟩
instance : Enters Try.prog 29 := ⟨Try.f29, Try.func29, rfl, rfl⟩
instance : Enters Try.prog 30 := ⟨Try.f30, Try.func30, rfl, rfl⟩
instance : Enters Try.prog 31 := ⟨Try.f31, Try.func31, rfl, rfl⟩
instance : Enters Try.prog 32 := ⟨Try.f32, Try.func32, rfl, rfl⟩
instance : Enters Try.prog 33 := ⟨Try.f33, Try.func33, rfl, rfl⟩
instance : Enters Try.prog 34 := ⟨Try.f34, Try.func34, rfl, rfl⟩
instance : Enters Try.prog 35 := ⟨Try.f35, Try.func35, rfl, rfl⟩
instance : Enters Try.prog 36 := ⟨Try.f36, Try.func36, rfl, rfl⟩
instance : Enters Try.prog 37 := ⟨Try.f37, Try.func37, rfl, rfl⟩
instance : Enters Try.prog 38 := ⟨Try.f38, Try.func38, rfl, rfl⟩
instance : Enters Try.prog 39 := ⟨Try.f39, Try.func39, rfl, rfl⟩
instance : Enters Try.prog 40 := ⟨Try.f40, Try.func40, rfl, rfl⟩
instance : Enters Try.prog 41 := ⟨Try.f41, Try.func41, rfl, rfl⟩
instance : Enters Try.prog 42 := ⟨Try.f42, Try.func42, rfl, rfl⟩
instance : Enters Try.prog 43 := ⟨Try.f43, Try.func43, rfl, rfl⟩
instance : Enters Try.prog 44 := ⟨Try.f44, Try.func44, rfl, rfl⟩
instance : Enters Try.prog 45 := ⟨Try.f45, Try.func45, rfl, rfl⟩
instance : Enters Try.prog 46 := ⟨Try.f46, Try.func46, rfl, rfl⟩
instance : Enters Try.prog 47 := ⟨Try.f47, Try.func47, rfl, rfl⟩
instance : Enters Try.prog 48 := ⟨Try.f48, Try.func48, rfl, rfl⟩
instance : Enters Try.prog 49 := ⟨Try.f49, Try.func49, rfl, rfl⟩
instance : Enters Try.prog 50 := ⟨Try.f50, Try.func50, rfl, rfl⟩
instance : Enters Try.prog 51 := ⟨Try.f51, Try.func51, rfl, rfl⟩
instance : Enters Try.prog 52 := ⟨Try.f52, Try.func52, rfl, rfl⟩
instance : Enters Try.prog 53 := ⟨Try.f53, Try.func53, rfl, rfl⟩
instance : Enters Try.prog 54 := ⟨Try.f54, Try.func54, rfl, rfl⟩
instance : Enters Try.prog 55 := ⟨Try.f55, Try.func55, rfl, rfl⟩
instance : Enters Try.prog 56 := ⟨Try.f56, Try.func56, rfl, rfl⟩
instance : Enters Try.prog 57 := ⟨Try.f57, Try.func57, rfl, rfl⟩
instance : Enters Try.prog 58 := ⟨Try.f58, Try.func58, rfl, rfl⟩
instance : Enters Try.prog 59 := ⟨Try.f59, Try.func59, rfl, rfl⟩
instance : Enters Try.prog 61 := ⟨Try.f61, Try.func61, rfl, rfl⟩
instance : Enters Try.prog 62 := ⟨Try.f62, Try.func62, rfl, rfl⟩
instance : Enters Try.prog 63 := ⟨Try.f63, Try.func63, rfl, rfl⟩
instance : Enters Try.prog 64 := ⟨Try.f64, Try.func64, rfl, rfl⟩
instance : Enters Try.prog 65 := ⟨Try.f65, Try.func65, rfl, rfl⟩
instance : Enters Try.prog 66 := ⟨Try.f66, Try.func66, rfl, rfl⟩
instance : Enters Try.prog 67 := ⟨Try.f67, Try.func67, rfl, rfl⟩
instance : Enters Try.prog 68 := ⟨Try.f68, Try.func68, rfl, rfl⟩
instance : Enters Try.prog 69 := ⟨Try.f69, Try.func69, rfl, rfl⟩
instance : Enters Try.prog 70 := ⟨Try.f70, Try.func70, rfl, rfl⟩
instance : Enters Try.prog 71 := ⟨Try.f71, Try.func71, rfl, rfl⟩
instance : Enters Try.prog 72 := ⟨Try.f72, Try.func72, rfl, rfl⟩
instance : Enters Try.prog 75 := ⟨Try.f75, Try.func75, rfl, rfl⟩
instance : Enters Try.prog 76 := ⟨Try.f76, Try.func76, rfl, rfl⟩
instance : Enters Try.prog 77 := ⟨Try.f77, Try.func77, rfl, rfl⟩
instance : Enters Try.prog 96 := ⟨Try.f96, Try.func96, rfl, rfl⟩
instance : Enters Try.prog 97 := ⟨Try.f97, Try.func97, rfl, rfl⟩
instance : Enters Try.prog 99 := ⟨Try.f99, Try.func99, rfl, rfl⟩
instance : Enters Try.prog 100 := ⟨Try.f100, Try.func100, rfl, rfl⟩
instance : Enters Try.prog 101 := ⟨Try.f101, Try.func101, rfl, rfl⟩
theorem mixed : Try.prog.follows .mixedOrders = true := by kernel_rfl
end Go.Lg
