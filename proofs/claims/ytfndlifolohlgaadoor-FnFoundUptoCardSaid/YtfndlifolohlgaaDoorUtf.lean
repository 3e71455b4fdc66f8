/-
  The contracts of unicode/utf8's two decoders at this program, laid out of the library's shelf in plain words (lay-shelf.mjs, lay-plain.mjs): on every string, under the two tables of the package.
-/
import Derived.Shelf.Unicode.DecodeSlow
import Derived.Shelf.Unicode.DecodeAny
import Derived.Shelf.Unicode.DecodeLast
import Derived.Test.YtfndlifolohlgaaDoorProg
namespace Go.Proofs
open Go.Shelf
def Tryd.lays260_ren : Go.Shelf.Ren := ⟨fun | 260 => 57 | n => n, fun | 9 => 9 | 21 => 21 | 3 => 3 | 4 => 4 | 5 => 5 | 119 => 129 | 0 => 0 | 46 => 101 | 139 => 132 | 138 => 131 | n => n, fun | 3 => 1 | 4 => 2 | n => n⟩
theorem Tryd.lays260 : Go.Proofs.Lays.n260 Tryd.prog Tryd.lays260_ren := {
  mixed := by kernel_rfl
  f260 := Tryd.func57.trans (congrArg some (by kernel_rfl))
  t0 := Tryd.underlying0
  a0 := Tryd.isAgg0
  z0 := Tryd.sizeOf0
  v0 := Tryd.zeroValue0
  t3 := Tryd.underlying3
  a3 := Tryd.isAgg3
  z3 := Tryd.sizeOf3
  v3 := Tryd.zeroValue3
  t4 := Tryd.underlying4
  a4 := Tryd.isAgg4
  z4 := Tryd.sizeOf4
  v4 := Tryd.zeroValue4
  t5 := Tryd.underlying5
  a5 := Tryd.isAgg5
  z5 := Tryd.sizeOf5
  v5 := Tryd.zeroValue5
  t9 := Tryd.underlying9
  a9 := Tryd.isAgg9
  z9 := Tryd.sizeOf9
  v9 := Tryd.zeroValue9
  t21 := Tryd.underlying21
  a21 := Tryd.isAgg21
  z21 := Tryd.sizeOf21
  v21 := Tryd.zeroValue21
  t46 := Tryd.underlying101
  a46 := Tryd.isAgg101
  z46 := Tryd.sizeOf101
  v46 := Tryd.zeroValue101
  t119 := Tryd.underlying129
  a119 := Tryd.isAgg129
  z119 := Tryd.sizeOf129
  t138 := Tryd.underlying131
  a138 := Tryd.isAgg131
  z138 := Tryd.sizeOf131
  v138 := Tryd.zeroValue131
  t139 := Tryd.underlying132
  a139 := Tryd.isAgg132
  z139 := Tryd.sizeOf132
  v139 := Tryd.zeroValue132
  g3 := by kernel_rfl
  g4 := by kernel_rfl }
open Go.RowKit Go.Lib in
theorem Tryd.utf8_decodeRuneInStringSlow (s : ByteArray) (w : World) (hT : Lib.Utf8Tabs 1 2 w) :
    Calls Tryd.prog 57 #[.string s] w fun e w' => e = .returned (.tuple #[.int .i32 (Lib.decodeGo s).1, .int .i64 (Lib.decodeGo s).2]) ∧ Below w.heap.size w w' := Any.utf8_decodeRuneInStringSlow Tryd.lays260 s w hT
def Tryd.lays197_ren : Go.Shelf.Ren := ⟨fun | 197 => 53 | 260 => 57 | n => n, fun | 9 => 9 | 21 => 21 | 3 => 3 | 4 => 4 | 5 => 5 | 105 => 121 | 119 => 129 | 0 => 0 | 46 => 101 | 139 => 132 | 138 => 131 | n => n, fun | 3 => 1 | 4 => 2 | n => n⟩
theorem Tryd.lays197 : Go.Proofs.Lays.n197 Tryd.prog Tryd.lays197_ren := {
  mixed := by kernel_rfl
  f197 := Tryd.func53.trans (congrArg some (by kernel_rfl))
  f260 := Tryd.func57.trans (congrArg some (by kernel_rfl))
  t0 := Tryd.underlying0
  a0 := Tryd.isAgg0
  z0 := Tryd.sizeOf0
  v0 := Tryd.zeroValue0
  t3 := Tryd.underlying3
  a3 := Tryd.isAgg3
  z3 := Tryd.sizeOf3
  v3 := Tryd.zeroValue3
  t4 := Tryd.underlying4
  a4 := Tryd.isAgg4
  z4 := Tryd.sizeOf4
  v4 := Tryd.zeroValue4
  t5 := Tryd.underlying5
  a5 := Tryd.isAgg5
  z5 := Tryd.sizeOf5
  v5 := Tryd.zeroValue5
  t9 := Tryd.underlying9
  a9 := Tryd.isAgg9
  z9 := Tryd.sizeOf9
  v9 := Tryd.zeroValue9
  t21 := Tryd.underlying21
  a21 := Tryd.isAgg21
  z21 := Tryd.sizeOf21
  v21 := Tryd.zeroValue21
  t46 := Tryd.underlying101
  a46 := Tryd.isAgg101
  z46 := Tryd.sizeOf101
  v46 := Tryd.zeroValue101
  t105 := Tryd.underlying121
  a105 := Tryd.isAgg121
  z105 := Tryd.sizeOf121
  v105 := Tryd.zeroValue121
  t119 := Tryd.underlying129
  a119 := Tryd.isAgg129
  z119 := Tryd.sizeOf129
  t138 := Tryd.underlying131
  a138 := Tryd.isAgg131
  z138 := Tryd.sizeOf131
  v138 := Tryd.zeroValue131
  t139 := Tryd.underlying132
  a139 := Tryd.isAgg132
  z139 := Tryd.sizeOf132
  v139 := Tryd.zeroValue132
  g3 := by kernel_rfl
  g4 := by kernel_rfl }
open Go.RowKit Go.Lib in
/-- **unicode/utf8.DecodeRuneInString AT EVERY STRING.** (LAID: no walk: one application.) -/
theorem Tryd.utf8_DecodeRuneInString (s : ByteArray) (w : World) (hT : Lib.Utf8Tabs 1 2 w) :
    Calls Tryd.prog 53 #[.string s] w fun e w' => e = .returned (.tuple #[.int .i32 (Lib.decodeGo s).1, .int .i64 (Lib.decodeGo s).2]) ∧ Below w.heap.size w w' := Any.utf8_DecodeRuneInString Tryd.lays197 s w hT
def Tryd.lays271_ren : Go.Shelf.Ren := ⟨fun | 271 => 52 | 120 => 56 | 197 => 53 | 260 => 57 | n => n, fun | 9 => 9 | 21 => 21 | 3 => 3 | 4 => 4 | 5 => 5 | 105 => 121 | 119 => 129 | 0 => 0 | 46 => 101 | 139 => 132 | 138 => 131 | n => n, fun | 3 => 1 | 4 => 2 | n => n⟩
theorem Tryd.lays271 : Go.Proofs.Lays.n271 Tryd.prog Tryd.lays271_ren := {
  mixed := by kernel_rfl
  f120 := Tryd.func56.trans (congrArg some (by kernel_rfl))
  f197 := Tryd.func53.trans (congrArg some (by kernel_rfl))
  f260 := Tryd.func57.trans (congrArg some (by kernel_rfl))
  f271 := Tryd.func52.trans (congrArg some (by kernel_rfl))
  t0 := Tryd.underlying0
  a0 := Tryd.isAgg0
  z0 := Tryd.sizeOf0
  v0 := Tryd.zeroValue0
  t3 := Tryd.underlying3
  a3 := Tryd.isAgg3
  z3 := Tryd.sizeOf3
  v3 := Tryd.zeroValue3
  t4 := Tryd.underlying4
  a4 := Tryd.isAgg4
  z4 := Tryd.sizeOf4
  v4 := Tryd.zeroValue4
  t5 := Tryd.underlying5
  a5 := Tryd.isAgg5
  z5 := Tryd.sizeOf5
  v5 := Tryd.zeroValue5
  t9 := Tryd.underlying9
  a9 := Tryd.isAgg9
  z9 := Tryd.sizeOf9
  v9 := Tryd.zeroValue9
  t21 := Tryd.underlying21
  a21 := Tryd.isAgg21
  z21 := Tryd.sizeOf21
  v21 := Tryd.zeroValue21
  t46 := Tryd.underlying101
  a46 := Tryd.isAgg101
  z46 := Tryd.sizeOf101
  v46 := Tryd.zeroValue101
  t105 := Tryd.underlying121
  a105 := Tryd.isAgg121
  z105 := Tryd.sizeOf121
  v105 := Tryd.zeroValue121
  t119 := Tryd.underlying129
  a119 := Tryd.isAgg129
  z119 := Tryd.sizeOf129
  t138 := Tryd.underlying131
  a138 := Tryd.isAgg131
  z138 := Tryd.sizeOf131
  v138 := Tryd.zeroValue131
  t139 := Tryd.underlying132
  a139 := Tryd.isAgg132
  z139 := Tryd.sizeOf132
  v139 := Tryd.zeroValue132
  g3 := by kernel_rfl
  g4 := by kernel_rfl }
open Go.RowKit Go.Lib in
/-- **unicode/utf8.DecodeLastRuneInString AT EVERY STRING.** (LAID: no walk: one application.) -/
theorem Tryd.utf8_DecodeLastRuneInString (s : ByteArray) (w : World) (hs : s.size ≤ 9223372036854775807) (hT : Lib.Utf8Tabs 1 2 w) :
    Calls Tryd.prog 52 #[.string s] w fun e w' => e = .returned (.tuple #[.int .i32 (Lib.decodeLastL s.data.toList).1, .int .i64 (Lib.decodeLastL s.data.toList).2]) ∧ Below w.heap.size w w' := Any.utf8_DecodeLastRuneInString Tryd.lays271 s w hs hT
end Go.Proofs
