/-
  NARROWER THAN 'FOR EVERY INPUT', by the rows' own cells (each row's printed sentence says how): FnLinesInOrder: laid · FnSpots: laid · FnTrackersForgetNothing: laid · FnCutIsThere: laid · FnExpandedHasAll: laid · FnQuoted: laid · FnAlike: laid · FnStoredComeBack: laid · FnFound: laid.
  DERIVED. THE GIVEN ROWS OF THIS SEAT. 9 by the template 'for every input the law returns true; each argument reads behind the call as it read before'; 0 by the template 'total and deterministic' (their statements: YtfndlifolohlgaaDoorTotals.lean).
  GIVEN WITH THE SEED: the statements are not yours to turn. If you find one false, say at which input.
  Laid BY PROGRAM, IN A SANDBOX (cutbox-rows.mjs): the forced cells as the released guide's own fill.sh prints them over the translation 46cba767cd81639a… (all of the seat's roots in one cut). By AI agents, Wed Nov 11 2026. No macro, syntax, notation, axiom, sorry.
-/
import Derived.Test.YtfndlifolohlgaaDoorChecked
import GoSem.PinnedTables
import GoSem.Claim
import GoSem.ClaimJoined
import GoSem.ClaimMapViews
import Derived.JoinedTies
import Derived.KernelRfl
namespace Go.Proofs.YtfndlifolohlgaaDoor
/- THE CELL 'sum', in the pinned program and in every row, IS THE sha256 OF THE DUMP (.gsa) THAT YtfndlifolohlgaaDoorProg.lean LOADS. Nothing in Lean hashes anything: it is a label: what it is worth is what the hold of that sum in a sandbox is worth. -/
noncomputable def Tryd.pinned : Pinned := { name := "ytfndlifolohlgaadoor", sum := "46cba767cd81639a9a0917d061143310145c9b1a280f09793ac7ef4658a0a414", checked := Tryd.checked }
namespace Rows
def none {H : Type} : Left H := { results := [], args := [] }

/- WHAT THE LISTED PACKAGE-LEVEL VARIABLES READ AS WHEN THE CALL BEGINS. Each datum BY PROGRAM (the guide's laid-datum.mjs) off the statement by which the dump's own 'gosem.cut.vars' lays the variable. In a bare row this is a premise. The card (YtfndlifolohlgaaDoorCards.lean) ties it to the program's text. -/
def laid_unicode_utf8_acceptRanges {H : Type} : DataW H := .agg [.agg [.lit (.int .u8 128), .lit (.int .u8 191)], .agg [.lit (.int .u8 160), .lit (.int .u8 191)], .agg [.lit (.int .u8 128), .lit (.int .u8 159)], .agg [.lit (.int .u8 144), .lit (.int .u8 191)], .agg [.lit (.int .u8 128), .lit (.int .u8 143)], .agg [.lit (.int .u8 0), .lit (.int .u8 0)], .agg [.lit (.int .u8 0), .lit (.int .u8 0)], .agg [.lit (.int .u8 0), .lit (.int .u8 0)], .agg [.lit (.int .u8 0), .lit (.int .u8 0)], .agg [.lit (.int .u8 0), .lit (.int .u8 0)], .agg [.lit (.int .u8 0), .lit (.int .u8 0)], .agg [.lit (.int .u8 0), .lit (.int .u8 0)], .agg [.lit (.int .u8 0), .lit (.int .u8 0)], .agg [.lit (.int .u8 0), .lit (.int .u8 0)], .agg [.lit (.int .u8 0), .lit (.int .u8 0)], .agg [.lit (.int .u8 0), .lit (.int .u8 0)]]
/-- One of Go's own tables, pinned by name: the form's constant. -/
def laid_unicode_utf8_first : DataW Unit := Go.Pinned.utf8First

/-- 'laws.FnLinesInOrder': WHATEVER THE INPUT: true; the input reads as it did. -/
def fnLinesInOrderSpec : ChangeSpec := { name := "fnLinesInOrder", fn := fun _ => fun
  | [d1, d2, d3] => { results := [.lit (.bool true)], args := [d1, d2, d3] }
  | _ => none }
def fnLinesInOrderRow : OpenClaim := { program := "ytfndlifolohlgaadoor", sum := "46cba767cd81639a9a0917d061143310145c9b1a280f09793ac7ef4658a0a414", func := "linesandcolumns/laws.FnLinesInOrder", spec := "fnLinesInOrder", named := ["unicode/utf8.first", "unicode/utf8.acceptRanges"], apart := false, laid := [("unicode/utf8.acceptRanges", laid_unicode_utf8_acceptRanges), ("unicode/utf8.first", laid_unicode_utf8_first)] }
def FnLinesInOrderSaid : Prop := fnLinesInOrderRow.holds Tryd.pinned (OpenSpec.ofChange fnLinesInOrderSpec)

/-- ITS FALSE NEIGHBOUR: 'it returns false'. Refute it at one input. -/
def fnLinesInOrderWrong : ChangeSpec := { name := "fnLinesInOrder", fn := fun _ => fun
  | [d1, d2, d3] => { results := [.lit (.bool false)], args := [d1, d2, d3] }
  | _ => none }
def FnLinesInOrderWrongFalsely : Prop := fnLinesInOrderRow.holds Tryd.pinned (OpenSpec.ofChange fnLinesInOrderWrong)

/-- 'laws.FnSpots': WHATEVER THE INPUT: true; the input reads as it did. -/
def fnSpotsSpec : ChangeSpec := { name := "fnSpots", fn := fun _ => fun
  | [d1, d2] => { results := [.lit (.bool true)], args := [d1, d2] }
  | _ => none }
def fnSpotsRow : OpenClaim := { program := "ytfndlifolohlgaadoor", sum := "46cba767cd81639a9a0917d061143310145c9b1a280f09793ac7ef4658a0a414", func := "linesandcolumns/laws.FnSpots", spec := "fnSpots", named := ["unicode/utf8.first", "unicode/utf8.acceptRanges"], apart := false, laid := [("unicode/utf8.acceptRanges", laid_unicode_utf8_acceptRanges), ("unicode/utf8.first", laid_unicode_utf8_first)] }
def FnSpotsSaid : Prop := fnSpotsRow.holds Tryd.pinned (OpenSpec.ofChange fnSpotsSpec)

/-- ITS FALSE NEIGHBOUR: 'it returns false'. Refute it at one input. -/
def fnSpotsWrong : ChangeSpec := { name := "fnSpots", fn := fun _ => fun
  | [d1, d2] => { results := [.lit (.bool false)], args := [d1, d2] }
  | _ => none }
def FnSpotsWrongFalsely : Prop := fnSpotsRow.holds Tryd.pinned (OpenSpec.ofChange fnSpotsWrong)

/-- 'laws.FnTrackersForgetNothing': WHATEVER THE INPUT: true; the input reads as it did. -/
def fnTrackersForgetNothingSpec : ChangeSpec := { name := "fnTrackersForgetNothing", fn := fun _ => fun
  | [d1, d2] => { results := [.lit (.bool true)], args := [d1, d2] }
  | _ => none }
def fnTrackersForgetNothingRow : OpenClaim := { program := "ytfndlifolohlgaadoor", sum := "46cba767cd81639a9a0917d061143310145c9b1a280f09793ac7ef4658a0a414", func := "linesandcolumns/laws.FnTrackersForgetNothing", spec := "fnTrackersForgetNothing", named := ["unicode/utf8.first", "unicode/utf8.acceptRanges"], apart := false, laid := [("unicode/utf8.acceptRanges", laid_unicode_utf8_acceptRanges), ("unicode/utf8.first", laid_unicode_utf8_first)] }
def FnTrackersForgetNothingSaid : Prop := fnTrackersForgetNothingRow.holds Tryd.pinned (OpenSpec.ofChange fnTrackersForgetNothingSpec)

/-- ITS FALSE NEIGHBOUR: 'it returns false'. Refute it at one input. -/
def fnTrackersForgetNothingWrong : ChangeSpec := { name := "fnTrackersForgetNothing", fn := fun _ => fun
  | [d1, d2] => { results := [.lit (.bool false)], args := [d1, d2] }
  | _ => none }
def FnTrackersForgetNothingWrongFalsely : Prop := fnTrackersForgetNothingRow.holds Tryd.pinned (OpenSpec.ofChange fnTrackersForgetNothingWrong)

/-- 'laws.FnCutIsThere': WHATEVER THE INPUT: true; the input reads as it did. -/
def fnCutIsThereSpec : ChangeSpec := { name := "fnCutIsThere", fn := fun _ => fun
  | [d1, d2] => { results := [.lit (.bool true)], args := [d1, d2] }
  | _ => none }
def fnCutIsThereRow : OpenClaim := { program := "ytfndlifolohlgaadoor", sum := "46cba767cd81639a9a0917d061143310145c9b1a280f09793ac7ef4658a0a414", func := "linesandcolumns/laws.FnCutIsThere", spec := "fnCutIsThere", named := ["unicode/utf8.first", "unicode/utf8.acceptRanges"], apart := false, laid := [("unicode/utf8.acceptRanges", laid_unicode_utf8_acceptRanges), ("unicode/utf8.first", laid_unicode_utf8_first)] }
def FnCutIsThereSaid : Prop := fnCutIsThereRow.holds Tryd.pinned (OpenSpec.ofChange fnCutIsThereSpec)

/-- ITS FALSE NEIGHBOUR: 'it returns false'. Refute it at one input. -/
def fnCutIsThereWrong : ChangeSpec := { name := "fnCutIsThere", fn := fun _ => fun
  | [d1, d2] => { results := [.lit (.bool false)], args := [d1, d2] }
  | _ => none }
def FnCutIsThereWrongFalsely : Prop := fnCutIsThereRow.holds Tryd.pinned (OpenSpec.ofChange fnCutIsThereWrong)

/-- 'laws.FnExpandedHasAll': WHATEVER THE INPUT: true; the input reads as it did. -/
def fnExpandedHasAllSpec : ChangeSpec := { name := "fnExpandedHasAll", fn := fun _ => fun
  | [d1, d2] => { results := [.lit (.bool true)], args := [d1, d2] }
  | _ => none }
def fnExpandedHasAllRow : OpenClaim := { program := "ytfndlifolohlgaadoor", sum := "46cba767cd81639a9a0917d061143310145c9b1a280f09793ac7ef4658a0a414", func := "linesandcolumns/laws.FnExpandedHasAll", spec := "fnExpandedHasAll", named := ["unicode/utf8.first", "unicode/utf8.acceptRanges"], apart := false, laid := [("unicode/utf8.acceptRanges", laid_unicode_utf8_acceptRanges), ("unicode/utf8.first", laid_unicode_utf8_first)] }
def FnExpandedHasAllSaid : Prop := fnExpandedHasAllRow.holds Tryd.pinned (OpenSpec.ofChange fnExpandedHasAllSpec)

/-- ITS FALSE NEIGHBOUR: 'it returns false'. Refute it at one input. -/
def fnExpandedHasAllWrong : ChangeSpec := { name := "fnExpandedHasAll", fn := fun _ => fun
  | [d1, d2] => { results := [.lit (.bool false)], args := [d1, d2] }
  | _ => none }
def FnExpandedHasAllWrongFalsely : Prop := fnExpandedHasAllRow.holds Tryd.pinned (OpenSpec.ofChange fnExpandedHasAllWrong)

/-- 'laws.FnQuoted': WHATEVER THE INPUT: true; the input reads as it did. -/
def fnQuotedSpec : ChangeSpec := { name := "fnQuoted", fn := fun _ => fun
  | [d1, d2] => { results := [.lit (.bool true)], args := [d1, d2] }
  | _ => none }
def fnQuotedRow : OpenClaim := { program := "ytfndlifolohlgaadoor", sum := "46cba767cd81639a9a0917d061143310145c9b1a280f09793ac7ef4658a0a414", func := "linesandcolumns/laws.FnQuoted", spec := "fnQuoted", named := ["unicode/utf8.first", "unicode/utf8.acceptRanges"], apart := false, laid := [("unicode/utf8.acceptRanges", laid_unicode_utf8_acceptRanges), ("unicode/utf8.first", laid_unicode_utf8_first)] }
def FnQuotedSaid : Prop := fnQuotedRow.holds Tryd.pinned (OpenSpec.ofChange fnQuotedSpec)

/-- ITS FALSE NEIGHBOUR: 'it returns false'. Refute it at one input. -/
def fnQuotedWrong : ChangeSpec := { name := "fnQuoted", fn := fun _ => fun
  | [d1, d2] => { results := [.lit (.bool false)], args := [d1, d2] }
  | _ => none }
def FnQuotedWrongFalsely : Prop := fnQuotedRow.holds Tryd.pinned (OpenSpec.ofChange fnQuotedWrong)

/-- 'laws.FnAlike': WHATEVER THE INPUT: true; the input reads as it did. -/
def fnAlikeSpec : ChangeSpec := { name := "fnAlike", fn := fun _ => fun
  | [d1, d2] => { results := [.lit (.bool true)], args := [d1, d2] }
  | _ => none }
def fnAlikeRow : OpenClaim := { program := "ytfndlifolohlgaadoor", sum := "46cba767cd81639a9a0917d061143310145c9b1a280f09793ac7ef4658a0a414", func := "linesandcolumns/laws.FnAlike", spec := "fnAlike", inPlace := ["internal/abi.NoEscape"], recurses := true, named := ["unicode/utf8.first", "unicode/utf8.acceptRanges", "encoding/binary.LittleEndian"], apart := false, laid := [("unicode/utf8.acceptRanges", laid_unicode_utf8_acceptRanges), ("unicode/utf8.first", laid_unicode_utf8_first)] }
def FnAlikeSaid : Prop := fnAlikeRow.holds Tryd.pinned (OpenSpec.ofChange fnAlikeSpec)

/-- ITS FALSE NEIGHBOUR: 'it returns false'. Refute it at one input. -/
def fnAlikeWrong : ChangeSpec := { name := "fnAlike", fn := fun _ => fun
  | [d1, d2] => { results := [.lit (.bool false)], args := [d1, d2] }
  | _ => none }
def FnAlikeWrongFalsely : Prop := fnAlikeRow.holds Tryd.pinned (OpenSpec.ofChange fnAlikeWrong)

/-- 'laws.FnStoredComeBack': WHATEVER THE INPUT: true; the input reads as it did. -/
def fnStoredComeBackSpec : ChangeSpec := { name := "fnStoredComeBack", fn := fun _ => fun
  | [d] => { results := [.lit (.bool true)], args := [d] }
  | _ => none }
def fnStoredComeBackRow : OpenClaim := { program := "ytfndlifolohlgaadoor", sum := "46cba767cd81639a9a0917d061143310145c9b1a280f09793ac7ef4658a0a414", func := "linesandcolumns/laws.FnStoredComeBack", spec := "fnStoredComeBack", inPlace := ["internal/abi.NoEscape"], recurses := true, named := ["unicode/utf8.first", "unicode/utf8.acceptRanges", "encoding/binary.LittleEndian"], apart := false, laid := [("unicode/utf8.acceptRanges", laid_unicode_utf8_acceptRanges), ("unicode/utf8.first", laid_unicode_utf8_first)] }
def FnStoredComeBackSaid : Prop := fnStoredComeBackRow.holds Tryd.pinned (OpenSpec.ofChange fnStoredComeBackSpec)

/-- ITS FALSE NEIGHBOUR: 'it returns false'. Refute it at one input. -/
def fnStoredComeBackWrong : ChangeSpec := { name := "fnStoredComeBack", fn := fun _ => fun
  | [d] => { results := [.lit (.bool false)], args := [d] }
  | _ => none }
def FnStoredComeBackWrongFalsely : Prop := fnStoredComeBackRow.holds Tryd.pinned (OpenSpec.ofChange fnStoredComeBackWrong)

/-- 'laws.FnFound': WHATEVER THE INPUT: true; the input reads as it did. -/
def fnFoundSpec : ChangeSpec := { name := "fnFound", fn := fun _ => fun
  | [d1, d2] => { results := [.lit (.bool true)], args := [d1, d2] }
  | _ => none }
def fnFoundRow : OpenClaim := { program := "ytfndlifolohlgaadoor", sum := "46cba767cd81639a9a0917d061143310145c9b1a280f09793ac7ef4658a0a414", func := "linesandcolumns/laws.FnFound", spec := "fnFound", inPlace := ["internal/abi.NoEscape"], recurses := true, named := ["unicode/utf8.first", "unicode/utf8.acceptRanges", "encoding/binary.LittleEndian"], apart := false, laid := [("unicode/utf8.acceptRanges", laid_unicode_utf8_acceptRanges), ("unicode/utf8.first", laid_unicode_utf8_first)] }
def FnFoundSaid : Prop := fnFoundRow.holds Tryd.pinned (OpenSpec.ofChange fnFoundSpec)

/-- ITS FALSE NEIGHBOUR: 'it returns false'. Refute it at one input. -/
def fnFoundWrong : ChangeSpec := { name := "fnFound", fn := fun _ => fun
  | [d1, d2] => { results := [.lit (.bool false)], args := [d1, d2] }
  | _ => none }
def FnFoundWrongFalsely : Prop := fnFoundRow.holds Tryd.pinned (OpenSpec.ofChange fnFoundWrong)

/- THE SECOND FORM. 'bulk': how many values and letters a reading holds, each counted each time it is reached (what is shared counts as often as it is met; a slice's spare places count too). A statement '..UptoSaid' is the law's where the arguments, and the package variables that the reading takes, are together of bulk at most 1048576: NARROWER than '..Said'. Prove '..Said' where nothing that the law and all that it calls make is longer than what came in: it says more and counts as full. Else prove '..UptoSaid'. A law counts once. -/
mutual
def uptoBulk {H : Type} : DataW H → Nat
  | .lit (.string bytes) => bytes.length + 1
  | .lit _ => 1
  | .nil => 1
  | .ptr d => uptoBulk d + 1
  | .slice elems spare => uptoBulkAll elems + uptoBulkAll spare + 1
  | .agg parts => uptoBulkAll parts + 1
  | .iface _ d => uptoBulk d + 1
  | .map entries => uptoBulkEntries entries + 1
  | .held _ => 1
def uptoBulkAll {H : Type} : List (DataW H) → Nat
  | [] => 0
  | d :: r => uptoBulk d + uptoBulkAll r
def uptoBulkEntries {H : Type} : List (Lit × DataW H) → Nat
  | [] => 0
  | x :: r => uptoBulkEntry x + uptoBulkEntries r
def uptoBulkEntry {H : Type} : Lit × DataW H → Nat
  | (.string bytes, d) => bytes.length + uptoBulk d + 1
  | (_, d) => uptoBulk d + 1
 end
def uptoSmall : (H : Type) → List (DataW H) → Bool := fun _ ds => decide (uptoBulkAll ds ≤ 1048576)
def OpenSpec.upto (s : _root_.Go.ChangeSpec) : _root_.Go.OpenSpec := { _root_.Go.OpenSpec.ofChange s with cond := some uptoSmall }

/-- 'laws.FnLinesInOrder', WHERE WHAT IT READS IS OF BULK AT MOST 1048576: true; the input reads as it did. -/
def fnLinesInOrderUptoRow : OpenClaim := { program := "ytfndlifolohlgaadoor", sum := "46cba767cd81639a9a0917d061143310145c9b1a280f09793ac7ef4658a0a414", func := "linesandcolumns/laws.FnLinesInOrder", spec := "fnLinesInOrder", named := ["unicode/utf8.first", "unicode/utf8.acceptRanges"], apart := false, laid := [("unicode/utf8.acceptRanges", laid_unicode_utf8_acceptRanges), ("unicode/utf8.first", laid_unicode_utf8_first)], narrowed := true }
def FnLinesInOrderUptoSaid : Prop := fnLinesInOrderUptoRow.holds Tryd.pinned (OpenSpec.upto fnLinesInOrderSpec)

/-- 'laws.FnSpots', WHERE WHAT IT READS IS OF BULK AT MOST 1048576: true; the input reads as it did. -/
def fnSpotsUptoRow : OpenClaim := { program := "ytfndlifolohlgaadoor", sum := "46cba767cd81639a9a0917d061143310145c9b1a280f09793ac7ef4658a0a414", func := "linesandcolumns/laws.FnSpots", spec := "fnSpots", named := ["unicode/utf8.first", "unicode/utf8.acceptRanges"], apart := false, laid := [("unicode/utf8.acceptRanges", laid_unicode_utf8_acceptRanges), ("unicode/utf8.first", laid_unicode_utf8_first)], narrowed := true }
def FnSpotsUptoSaid : Prop := fnSpotsUptoRow.holds Tryd.pinned (OpenSpec.upto fnSpotsSpec)

/-- 'laws.FnTrackersForgetNothing', WHERE WHAT IT READS IS OF BULK AT MOST 1048576: true; the input reads as it did. -/
def fnTrackersForgetNothingUptoRow : OpenClaim := { program := "ytfndlifolohlgaadoor", sum := "46cba767cd81639a9a0917d061143310145c9b1a280f09793ac7ef4658a0a414", func := "linesandcolumns/laws.FnTrackersForgetNothing", spec := "fnTrackersForgetNothing", named := ["unicode/utf8.first", "unicode/utf8.acceptRanges"], apart := false, laid := [("unicode/utf8.acceptRanges", laid_unicode_utf8_acceptRanges), ("unicode/utf8.first", laid_unicode_utf8_first)], narrowed := true }
def FnTrackersForgetNothingUptoSaid : Prop := fnTrackersForgetNothingUptoRow.holds Tryd.pinned (OpenSpec.upto fnTrackersForgetNothingSpec)

/-- 'laws.FnCutIsThere', WHERE WHAT IT READS IS OF BULK AT MOST 1048576: true; the input reads as it did. -/
def fnCutIsThereUptoRow : OpenClaim := { program := "ytfndlifolohlgaadoor", sum := "46cba767cd81639a9a0917d061143310145c9b1a280f09793ac7ef4658a0a414", func := "linesandcolumns/laws.FnCutIsThere", spec := "fnCutIsThere", named := ["unicode/utf8.first", "unicode/utf8.acceptRanges"], apart := false, laid := [("unicode/utf8.acceptRanges", laid_unicode_utf8_acceptRanges), ("unicode/utf8.first", laid_unicode_utf8_first)], narrowed := true }
def FnCutIsThereUptoSaid : Prop := fnCutIsThereUptoRow.holds Tryd.pinned (OpenSpec.upto fnCutIsThereSpec)

/-- 'laws.FnExpandedHasAll', WHERE WHAT IT READS IS OF BULK AT MOST 1048576: true; the input reads as it did. -/
def fnExpandedHasAllUptoRow : OpenClaim := { program := "ytfndlifolohlgaadoor", sum := "46cba767cd81639a9a0917d061143310145c9b1a280f09793ac7ef4658a0a414", func := "linesandcolumns/laws.FnExpandedHasAll", spec := "fnExpandedHasAll", named := ["unicode/utf8.first", "unicode/utf8.acceptRanges"], apart := false, laid := [("unicode/utf8.acceptRanges", laid_unicode_utf8_acceptRanges), ("unicode/utf8.first", laid_unicode_utf8_first)], narrowed := true }
def FnExpandedHasAllUptoSaid : Prop := fnExpandedHasAllUptoRow.holds Tryd.pinned (OpenSpec.upto fnExpandedHasAllSpec)

/-- 'laws.FnQuoted', WHERE WHAT IT READS IS OF BULK AT MOST 1048576: true; the input reads as it did. -/
def fnQuotedUptoRow : OpenClaim := { program := "ytfndlifolohlgaadoor", sum := "46cba767cd81639a9a0917d061143310145c9b1a280f09793ac7ef4658a0a414", func := "linesandcolumns/laws.FnQuoted", spec := "fnQuoted", named := ["unicode/utf8.first", "unicode/utf8.acceptRanges"], apart := false, laid := [("unicode/utf8.acceptRanges", laid_unicode_utf8_acceptRanges), ("unicode/utf8.first", laid_unicode_utf8_first)], narrowed := true }
def FnQuotedUptoSaid : Prop := fnQuotedUptoRow.holds Tryd.pinned (OpenSpec.upto fnQuotedSpec)

/-- 'laws.FnAlike', WHERE WHAT IT READS IS OF BULK AT MOST 1048576: true; the input reads as it did. -/
def fnAlikeUptoRow : OpenClaim := { program := "ytfndlifolohlgaadoor", sum := "46cba767cd81639a9a0917d061143310145c9b1a280f09793ac7ef4658a0a414", func := "linesandcolumns/laws.FnAlike", spec := "fnAlike", inPlace := ["internal/abi.NoEscape"], recurses := true, named := ["unicode/utf8.first", "unicode/utf8.acceptRanges", "encoding/binary.LittleEndian"], apart := false, laid := [("unicode/utf8.acceptRanges", laid_unicode_utf8_acceptRanges), ("unicode/utf8.first", laid_unicode_utf8_first)], narrowed := true }
def FnAlikeUptoSaid : Prop := fnAlikeUptoRow.holds Tryd.pinned (OpenSpec.upto fnAlikeSpec)

/-- 'laws.FnStoredComeBack', WHERE WHAT IT READS IS OF BULK AT MOST 1048576: true; the input reads as it did. -/
def fnStoredComeBackUptoRow : OpenClaim := { program := "ytfndlifolohlgaadoor", sum := "46cba767cd81639a9a0917d061143310145c9b1a280f09793ac7ef4658a0a414", func := "linesandcolumns/laws.FnStoredComeBack", spec := "fnStoredComeBack", inPlace := ["internal/abi.NoEscape"], recurses := true, named := ["unicode/utf8.first", "unicode/utf8.acceptRanges", "encoding/binary.LittleEndian"], apart := false, laid := [("unicode/utf8.acceptRanges", laid_unicode_utf8_acceptRanges), ("unicode/utf8.first", laid_unicode_utf8_first)], narrowed := true }
def FnStoredComeBackUptoSaid : Prop := fnStoredComeBackUptoRow.holds Tryd.pinned (OpenSpec.upto fnStoredComeBackSpec)

/-- 'laws.FnFound', WHERE WHAT IT READS IS OF BULK AT MOST 1048576: true; the input reads as it did. -/
def fnFoundUptoRow : OpenClaim := { program := "ytfndlifolohlgaadoor", sum := "46cba767cd81639a9a0917d061143310145c9b1a280f09793ac7ef4658a0a414", func := "linesandcolumns/laws.FnFound", spec := "fnFound", inPlace := ["internal/abi.NoEscape"], recurses := true, named := ["unicode/utf8.first", "unicode/utf8.acceptRanges", "encoding/binary.LittleEndian"], apart := false, laid := [("unicode/utf8.acceptRanges", laid_unicode_utf8_acceptRanges), ("unicode/utf8.first", laid_unicode_utf8_first)], narrowed := true }
def FnFoundUptoSaid : Prop := fnFoundUptoRow.holds Tryd.pinned (OpenSpec.upto fnFoundSpec)

end Rows
end Go.Proofs.YtfndlifolohlgaaDoor
