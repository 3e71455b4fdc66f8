/-
  What every statement's frame needs: the two tables of unicode/utf8 read out of the row's list, and a world in which they lie as the program's text lays them.
-/
import Derived.Test.YtfndlifolohlgaaDoorCards
import Derived.Test.YtfndlifolohlgaaDoorTie
import Derived.Test.YtfndlifolohlgaaDoorUtf
import Derived.Lib.LaidU8
import Derived.WalkKit
import Derived.ProofKit
import Derived.OpenShut
import Derived.Deep.DeepHandedRow
namespace Go.Proofs.YtfndlifolohlgaaDoor
open Go.ChangeShapes Go.WideShapes Go.ChangeAt Go.RowKit
set_option maxRecDepth 100000

theorem own : ownKnob Tryd.prog.godebug = none := by kernel_rfl
/-- the list of every row of this seat -/
def laidAll : List (String × DataW Unit) := [("unicode/utf8.acceptRanges", Rows.laid_unicode_utf8_acceptRanges), ("unicode/utf8.first", Rows.laid_unicode_utf8_first)]
theorem u8x : U8Extra Tryd.prog Tryd.lays260_ren := { n3 := by kernel_rfl, n4 := by kernel_rfl, y3 := by kernel_rfl, y4 := by kernel_rfl, c5 := by kernel_rfl, c119 := by kernel_rfl, c138 := by kernel_rfl }
theorem first_eq : Rows.laid_unicode_utf8_first = Lib.firstData := by kernel_rfl
theorem accept_eq : Rows.laid_unicode_utf8_acceptRanges = Lib.acceptData := by kernel_rfl
theorem met_eq (W : World) : laidMetH Tryd.prog laidAll W = laidMet Tryd.prog laidAll W := rfl
/-- WHAT THE ROW's LIST GIVES -/
theorem tabs_of {W : World} (h : laidMetH Tryd.prog laidAll W) : Lib.Utf8Tabs 1 2 W := by
  rw [met_eq] at h
  have h3 := Lib.laidMet.reads h (n := "unicode/utf8.first") (d := Rows.laid_unicode_utf8_first) (by unfold laidAll; simp)
  have h4 := Lib.laidMet.reads h (n := "unicode/utf8.acceptRanges") (d := Rows.laid_unicode_utf8_acceptRanges) (by unfold laidAll; simp)
  rw [first_eq] at h3
  rw [accept_eq] at h4
  exact utf8Tabs_of_reads Tryd.lays260 u8x h3 h4

/-- A WORLD FOR THE WITNESS: the settled one, the two tables holding what the text lays. -/
def firstCells : Array Value := (Go.Pinned.utf8FirstZ.map fun n => Value.int .u8 (n : Nat)).toArray
def acceptCells : Array Value := #[.int .u8 128, .int .u8 191, .int .u8 160, .int .u8 191, .int .u8 128, .int .u8 159, .int .u8 144, .int .u8 191, .int .u8 128, .int .u8 143, .int .u8 0, .int .u8 0, .int .u8 0, .int .u8 0, .int .u8 0, .int .u8 0, .int .u8 0, .int .u8 0, .int .u8 0, .int .u8 0, .int .u8 0, .int .u8 0, .int .u8 0, .int .u8 0, .int .u8 0, .int .u8 0, .int .u8 0, .int .u8 0, .int .u8 0, .int .u8 0, .int .u8 0, .int .u8 0]
def withCells (cs : Array Value) : Obj → Obj
  | .cells _ t frozen => .cells cs t frozen
  | o => o
noncomputable def laidWorld (os : Os) : World :=
  { World.holding Tryd.prog os ⟨#[], #[], []⟩ with heap := ((World.holding Tryd.prog os ⟨#[], #[], []⟩).heap.modify 1 (withCells firstCells)).modify 2 (withCells acceptCells) }
theorem laid_met (os : Os) (args : Array Value) : laidMet Tryd.prog laidAll ((laidWorld os).forCall (fun _ _ => 0) ⟨#[], args, []⟩).memory :=
  laidMet_of_run' 8 (by kernel_rfl) (by kernel_rfl)
end Go.Proofs.YtfndlifolohlgaaDoor
