/-
  The contracts of strings.Builder.String, encoding/binary's little-endian Uint32 and PutUint32, and sort.Strings at this program, laid out of the library's shelf in plain words (lay-shelf.mjs, lay-plain.mjs).
-/
import Derived.Shelf.Strings.Builder1
import Derived.Shelf.Bin.LEUint32
import Derived.Shelf.Bin.LEPutUint32
import Derived.Shelf.Sort.Plain
import Derived.Test.YtfndlifolohlgaaDoorProg
namespace Go.Proofs
open Go.Shelf
def Tryd.lays169_ren : Go.Shelf.Ren := ⟨fun | 169 => 49 | n => n, fun | 70 => 105 | 9 => 9 | 0 => 0 | 72 => 108 | 37 => 106 | 127 => 123 | 3 => 3 | 5 => 5 | n => n, fun | n => n⟩
theorem Tryd.lays169 : Go.Proofs.Lays.n169 Tryd.prog Tryd.lays169_ren := {
  mixed := by kernel_rfl
  f169 := Tryd.func49.trans (congrArg some (by kernel_rfl))
  t0 := Tryd.underlying0
  a0 := Tryd.isAgg0
  z0 := Tryd.sizeOf0
  v0 := Tryd.zeroValue0
  t3 := Tryd.underlying3
  a3 := Tryd.isAgg3
  z3 := Tryd.sizeOf3
  v3 := Tryd.zeroValue3
  t9 := Tryd.underlying9
  a9 := Tryd.isAgg9
  z9 := Tryd.sizeOf9
  v9 := Tryd.zeroValue9
  t37 := Tryd.underlying106
  a37 := Tryd.isAgg106
  z37 := Tryd.sizeOf106
  v37 := Tryd.zeroValue106
  t70 := Tryd.underlying105
  a70 := Tryd.isAgg105
  z70 := Tryd.sizeOf105
  v70 := Tryd.zeroValue105
  t72 := Tryd.underlying108
  a72 := Tryd.isAgg108
  z72 := Tryd.sizeOf108
  v72 := Tryd.zeroValue108
  t127 := Tryd.underlying123
  a127 := Tryd.isAgg123
  z127 := Tryd.sizeOf123
  v127 := Tryd.zeroValue123 }
theorem Tryd.Builder_Extra_169 : Builder.Extra Tryd.prog Tryd.lays169_ren := {
  sizeBuilder := by kernel_rfl
  liesBuilder := by kernel_rfl
  t5 := Tryd.underlying5
  a5 := Tryd.isAgg5
  z5 := Tryd.sizeOf5
  v5 := Tryd.zeroValue5
  infoByte := by kernel_rfl
  cellsByte := by kernel_rfl
  sizeByte := by kernel_rfl
  neB5 := by decide }
open Go.RowKit in
/-- (*strings.Builder).String: "String returns the accumulated string.": WHATEVER THE BUILDER HOLDS. (LAID: no walk: one application.) -/
theorem Tryd.Builder_String_any (B b : Nat) (l : List UInt8) (w : World) (h : Lib.IsBuilder 108 5 B b (Lib.byteCells l) w) (hBw : B ≤ w.heap.size) :
    Calls Tryd.prog 49 #[.pointer (some ⟨b, 0, none⟩)] w fun e w' => e = .returned (.string ⟨l.toArray⟩) ∧ Below B w w' := Any.Builder_String_any Tryd.lays169 Tryd.Builder_Extra_169 B b l w h hBw
def Tryd.laysBin30_ren : Go.Shelf.Ren := ⟨fun | 30 => 50 | n => n, fun | 25 => 111 | 22 => 106 | 29 => 67 | 0 => 0 | 5 => 5 | 45 => 101 | n => n, fun | n => n⟩
theorem Tryd.laysBin30 : Go.Proofs.LaysBin.n30 Tryd.prog Tryd.laysBin30_ren := {
  mixed := by kernel_rfl
  f30 := Tryd.func50.trans (congrArg some (by kernel_rfl))
  t0 := Tryd.underlying0
  a0 := Tryd.isAgg0
  z0 := Tryd.sizeOf0
  v0 := Tryd.zeroValue0
  i0 := by kernel_rfl
  t5 := Tryd.underlying5
  a5 := Tryd.isAgg5
  z5 := Tryd.sizeOf5
  v5 := Tryd.zeroValue5
  i5 := by kernel_rfl
  t22 := Tryd.underlying106
  a22 := Tryd.isAgg106
  z22 := Tryd.sizeOf106
  v22 := Tryd.zeroValue106
  i22 := by kernel_rfl
  t25 := Tryd.underlying111
  a25 := Tryd.isAgg111
  z25 := Tryd.sizeOf111
  v25 := Tryd.zeroValue111
  i25 := by kernel_rfl
  t29 := Tryd.underlying67
  a29 := Tryd.isAgg67
  z29 := Tryd.sizeOf67
  v29 := Tryd.zeroValue67
  i29 := by kernel_rfl
  t45 := Tryd.underlying101
  a45 := Tryd.isAgg101
  z45 := Tryd.sizeOf101
  v45 := Tryd.zeroValue101
  i45 := by kernel_rfl }
open Go.RowKit in
/-- binary.LittleEndian.Uint32: "Uint32 returns the uint32 representation of b[0:4].": THE NUMBER THAT THE FIRST 4 BYTES SPELL, the least byte first ('Lib.leNat'). Of what was there nothing has turned (the receiver, an empty struct, is laid in a new block without cells; the statement's order is drawn). (LAID: no walk: one application.) -/
theorem Tryd.binary_LE_Uint32 (g o n c : Nat) (b0 b1 b2 b3 : UInt8) (w : World) (hn : 4 ≤ n) (c0 : w.cell? ⟨g, o, none⟩ = some (.int .u8 b0.toNat)) (c1 : w.cell? ⟨g, o + 1, none⟩ = some (.int .u8 b1.toNat)) (c2 : w.cell? ⟨g, o + 2, none⟩ = some (.int .u8 b2.toNat)) (c3 : w.cell? ⟨g, o + 3, none⟩ = some (.int .u8 b3.toNat)) :
    Calls Tryd.prog 50 #[.agg #[], .slice (some ⟨g, o, none⟩) n c] w fun e w' => e = .returned (.int .u32 (Lib.leNat [b0, b1, b2, b3])) ∧ Below w.heap.size w w' := Any.binary_LE_Uint32 Tryd.laysBin30 g o n c b0 b1 b2 b3 w hn c0 c1 c2 c3
def Tryd.laysBin31_ren : Go.Shelf.Ren := ⟨fun | 31 => 46 | n => n, fun | 25 => 111 | 22 => 106 | 29 => 67 | 0 => 0 | 5 => 5 | 45 => 101 | n => n, fun | n => n⟩
theorem Tryd.laysBin31 : Go.Proofs.LaysBin.n31 Tryd.prog Tryd.laysBin31_ren := {
  mixed := by kernel_rfl
  f31 := Tryd.func46.trans (congrArg some (by kernel_rfl))
  t0 := Tryd.underlying0
  a0 := Tryd.isAgg0
  z0 := Tryd.sizeOf0
  v0 := Tryd.zeroValue0
  i0 := by kernel_rfl
  t5 := Tryd.underlying5
  a5 := Tryd.isAgg5
  z5 := Tryd.sizeOf5
  v5 := Tryd.zeroValue5
  i5 := by kernel_rfl
  t22 := Tryd.underlying106
  a22 := Tryd.isAgg106
  z22 := Tryd.sizeOf106
  v22 := Tryd.zeroValue106
  i22 := by kernel_rfl
  t25 := Tryd.underlying111
  a25 := Tryd.isAgg111
  z25 := Tryd.sizeOf111
  v25 := Tryd.zeroValue111
  i25 := by kernel_rfl
  t29 := Tryd.underlying67
  a29 := Tryd.isAgg67
  z29 := Tryd.sizeOf67
  v29 := Tryd.zeroValue67
  i29 := by kernel_rfl
  t45 := Tryd.underlying101
  a45 := Tryd.isAgg101
  z45 := Tryd.sizeOf101
  v45 := Tryd.zeroValue101
  i45 := by kernel_rfl }
open Go.RowKit in
/-- binary.LittleEndian.PutUint32: "PutUint32 stores v into b[0:4].": v's 4 BYTES, the least first ('Lib.leBytes 4 v'), ARE LAID IN THE SLICE's FIRST 4 CELLS ('World.setCells'); nothing else turns (the receiver, an empty struct, is laid in a new block without cells). (LAID: no walk: one application.) -/
theorem Tryd.binary_LE_PutUint32 (g o n c v : Nat) (hv : v < 4294967296) (x0 x1 x2 x3 : Value) (w : World) (hn : 4 ≤ n) (c0 : w.cell? ⟨g, o, none⟩ = some x0) (c1 : w.cell? ⟨g, o + 1, none⟩ = some x1) (c2 : w.cell? ⟨g, o + 2, none⟩ = some x2) (c3 : w.cell? ⟨g, o + 3, none⟩ = some x3) (f0 : w.frozen? ⟨g, o, none⟩ = false) (f1 : w.frozen? ⟨g, o + 1, none⟩ = false) (f2 : w.frozen? ⟨g, o + 2, none⟩ = false) (f3 : w.frozen? ⟨g, o + 3, none⟩ = false) :
    Calls Tryd.prog 46 #[.agg #[], .slice (some ⟨g, o, none⟩) n c, .int .u32 v] w fun e w' => e = .returned (.tuple #[]) ∧ w' = (w.alloc (.cells #[] 111)).setCells g o (Lib.byteCells (Lib.leBytes 4 v)) := Any.binary_LE_PutUint32 Tryd.laysBin31 g o n c v hv x0 x1 x2 x3 w hn c0 c1 c2 c3 f0 f1 f2 f3
def Tryd.lays192_ren : Go.Shelf.Ren := ⟨fun | 192 => 45 | 190 => 54 | 125 => 59 | 258 => 58 | 128 => 70 | 129 => 71 | 302 => 61 | 303 => 62 | 304 => 63 | 305 => 64 | 306 => 65 | 307 => 66 | 308 => 67 | 309 => 68 | 310 => 69 | 333 => 72 | 329 => 73 | 330 => 74 | 334 => 75 | 335 => 76 | 336 => 77 | 344 => 78 | n => n, fun | 31 => 103 | 0 => 0 | 9 => 9 | 3 => 3 | 46 => 101 | 51 => 67 | 53 => 143 | 4 => 4 | 183 => 135 | 182 => 134 | 131 => 42 | 5 => 5 | 218 => 144 | 222 => 148 | 228 => 150 | 229 => 83 | n => n, fun | n => n⟩
theorem Tryd.lays192 : Go.Proofs.Lays.n192 Tryd.prog Tryd.lays192_ren := {
  mixed := by kernel_rfl
  f125 := Tryd.func59.trans (congrArg some (by kernel_rfl))
  f128 := Tryd.func70.trans (congrArg some (by kernel_rfl))
  f129 := Tryd.func71.trans (congrArg some (by kernel_rfl))
  f190 := Tryd.func54.trans (congrArg some (by kernel_rfl))
  f192 := Tryd.func45.trans (congrArg some (by kernel_rfl))
  f258 := Tryd.func58.trans (congrArg some (by kernel_rfl))
  f302 := Tryd.func61.trans (congrArg some (by kernel_rfl))
  f303 := Tryd.func62.trans (congrArg some (by kernel_rfl))
  f304 := Tryd.func63.trans (congrArg some (by kernel_rfl))
  f305 := Tryd.func64.trans (congrArg some (by kernel_rfl))
  f306 := Tryd.func65.trans (congrArg some (by kernel_rfl))
  f307 := Tryd.func66.trans (congrArg some (by kernel_rfl))
  f308 := Tryd.func67.trans (congrArg some (by kernel_rfl))
  f309 := Tryd.func68.trans (congrArg some (by kernel_rfl))
  f310 := Tryd.func69.trans (congrArg some (by kernel_rfl))
  f329 := Tryd.func73.trans (congrArg some (by kernel_rfl))
  f330 := Tryd.func74.trans (congrArg some (by kernel_rfl))
  f333 := Tryd.func72.trans (congrArg some (by kernel_rfl))
  f334 := Tryd.func75.trans (congrArg some (by kernel_rfl))
  f335 := Tryd.func76.trans (congrArg some (by kernel_rfl))
  f336 := Tryd.func77.trans (congrArg some (by kernel_rfl))
  f344 := Tryd.func78.trans (congrArg some (by kernel_rfl))
  t0 := Tryd.underlying0
  a0 := Tryd.isAgg0
  z0 := Tryd.sizeOf0
  v0 := Tryd.zeroValue0
  t3 := Tryd.underlying3
  a3 := Tryd.isAgg3
  z3 := Tryd.sizeOf3
  v3 := Tryd.zeroValue3
  t4 := Tryd.underlying4
  a4 := Tryd.isAgg4
  z4 := Tryd.sizeOf4
  v4 := Tryd.zeroValue4
  t5 := Tryd.underlying5
  a5 := Tryd.isAgg5
  z5 := Tryd.sizeOf5
  v5 := Tryd.zeroValue5
  t9 := Tryd.underlying9
  a9 := Tryd.isAgg9
  z9 := Tryd.sizeOf9
  v9 := Tryd.zeroValue9
  t31 := Tryd.underlying103
  a31 := Tryd.isAgg103
  z31 := Tryd.sizeOf103
  v31 := Tryd.zeroValue103
  t46 := Tryd.underlying101
  a46 := Tryd.isAgg101
  z46 := Tryd.sizeOf101
  v46 := Tryd.zeroValue101
  t51 := Tryd.underlying67
  a51 := Tryd.isAgg67
  z51 := Tryd.sizeOf67
  v51 := Tryd.zeroValue67
  t53 := Tryd.underlying143
  a53 := Tryd.isAgg143
  z53 := Tryd.sizeOf143
  v53 := Tryd.zeroValue143
  t131 := Tryd.underlying42
  a131 := Tryd.isAgg42
  z131 := Tryd.sizeOf42
  v131 := Tryd.zeroValue42
  t182 := Tryd.underlying134
  a182 := Tryd.isAgg134
  z182 := Tryd.sizeOf134
  v182 := Tryd.zeroValue134
  t183 := Tryd.underlying135
  a183 := Tryd.isAgg135
  z183 := Tryd.sizeOf135
  v183 := Tryd.zeroValue135
  t218 := Tryd.underlying144
  a218 := Tryd.isAgg144
  z218 := Tryd.sizeOf144
  v218 := Tryd.zeroValue144
  t222 := Tryd.underlying148
  a222 := Tryd.isAgg148
  z222 := Tryd.sizeOf148
  v222 := Tryd.zeroValue148
  t228 := Tryd.underlying150
  a228 := Tryd.isAgg150
  z228 := Tryd.sizeOf150
  v228 := Tryd.zeroValue150
  t229 := Tryd.underlying83
  a229 := Tryd.isAgg83
  z229 := Tryd.sizeOf83
  v229 := Tryd.zeroValue83 }
open Go.Sort Go.RowKit in
theorem Tryd.sort_Strings (blk off cap : Nat) (ss : List (List UInt8)) (w : World) (hH : Holds encStr w blk off ss.toArray) (hblk : blk < w.heap.size) (hsz : ss.length < 4611686018427387904) :
    Calls Tryd.prog 45 #[.slice (some ⟨blk, off, none⟩) ss.length cap] w fun e w' =>
      e = .returned (.tuple #[]) ∧ ∃ n os, w' = grow (putRow encStr (Sort.ahead w n) blk off (ss.mergeSort fun x y => decide (x ≤ y)).toArray) os := Any.sort_Strings Tryd.lays192 blk off cap ss w hH hblk hsz
end Go.Proofs
