/-
  DERIVED. GIVEN WITH THE SEED: THE CARDS: each row of YtfndlifolohlgaaDoorRows.lean that lists a variable, with what it lists TIED to the program's text (the seventh form; the later family's looks); each row that meets fmt, with fmt's text TOLD by the authors' own Lean function (tested against real Go, not proved from fmt's source: count such statements apart). THE CARD IS WHAT COUNTS. Prove the row's statement (the work); the ties are given (YtfndlifolohlgaaDoorTie.lean); close each card by the builder's one call (the guide's Derived/Test/ToyasCard.lean, 'card_holds'). Laid BY PROGRAM, IN A SANDBOX (cutbox-door.mjs). By AI agents, Wed Nov 11 2026. No macro, syntax, notation, axiom, sorry.
-/
import Derived.Test.YtfndlifolohlgaaDoorRows
import GoSem.ClaimSeven
namespace Go.Proofs.YtfndlifolohlgaaDoor
namespace Rows

/-- THE TIED CARD OF 'laws.FnLinesInOrder'. -/
def fnLinesInOrderCard : Claim7 := { stood := { row := fnLinesInOrderRow, standIns := [], harness := (true, "3cb3046b69d1835529bf509c7cbffaacfd6949f88466ba69462e985210f4f1bd"), looks := false }, kinds := [], alts := [], laidByText := true, laidKinds := [.data, .pinned], laidTests := true, laidLooks := .later }
def FnLinesInOrderCardSaid : Prop := Claim7.holds Tryd.pinned (.plain (OpenSpec.ofChange fnLinesInOrderSpec)) fnLinesInOrderCard

/-- THE TIED CARD OF 'laws.FnSpots'. -/
def fnSpotsCard : Claim7 := { stood := { row := fnSpotsRow, standIns := [], harness := (true, "3cb3046b69d1835529bf509c7cbffaacfd6949f88466ba69462e985210f4f1bd"), looks := false }, kinds := [], alts := [], laidByText := true, laidKinds := [.data, .pinned], laidTests := true, laidLooks := .later }
def FnSpotsCardSaid : Prop := Claim7.holds Tryd.pinned (.plain (OpenSpec.ofChange fnSpotsSpec)) fnSpotsCard

/-- THE TIED CARD OF 'laws.FnTrackersForgetNothing'. -/
def fnTrackersForgetNothingCard : Claim7 := { stood := { row := fnTrackersForgetNothingRow, standIns := [], harness := (true, "3cb3046b69d1835529bf509c7cbffaacfd6949f88466ba69462e985210f4f1bd"), looks := false }, kinds := [], alts := [], laidByText := true, laidKinds := [.data, .pinned], laidTests := true, laidLooks := .later }
def FnTrackersForgetNothingCardSaid : Prop := Claim7.holds Tryd.pinned (.plain (OpenSpec.ofChange fnTrackersForgetNothingSpec)) fnTrackersForgetNothingCard

/-- THE TIED CARD OF 'laws.FnCutIsThere'. -/
def fnCutIsThereCard : Claim7 := { stood := { row := fnCutIsThereRow, standIns := [], harness := (true, "3cb3046b69d1835529bf509c7cbffaacfd6949f88466ba69462e985210f4f1bd"), looks := false }, kinds := [], alts := [], laidByText := true, laidKinds := [.data, .pinned], laidTests := true, laidLooks := .later }
def FnCutIsThereCardSaid : Prop := Claim7.holds Tryd.pinned (.plain (OpenSpec.ofChange fnCutIsThereSpec)) fnCutIsThereCard

/-- THE TIED CARD OF 'laws.FnExpandedHasAll'. -/
def fnExpandedHasAllCard : Claim7 := { stood := { row := fnExpandedHasAllRow, standIns := [], harness := (true, "3cb3046b69d1835529bf509c7cbffaacfd6949f88466ba69462e985210f4f1bd"), looks := false }, kinds := [], alts := [], laidByText := true, laidKinds := [.data, .pinned], laidTests := true, laidLooks := .later }
def FnExpandedHasAllCardSaid : Prop := Claim7.holds Tryd.pinned (.plain (OpenSpec.ofChange fnExpandedHasAllSpec)) fnExpandedHasAllCard

/-- THE TIED CARD OF 'laws.FnQuoted'. -/
def fnQuotedCard : Claim7 := { stood := { row := fnQuotedRow, standIns := [], harness := (true, "3cb3046b69d1835529bf509c7cbffaacfd6949f88466ba69462e985210f4f1bd"), looks := false }, kinds := [], alts := [], laidByText := true, laidKinds := [.data, .pinned], laidTests := true, laidLooks := .later }
def FnQuotedCardSaid : Prop := Claim7.holds Tryd.pinned (.plain (OpenSpec.ofChange fnQuotedSpec)) fnQuotedCard

/-- THE TIED CARD OF 'laws.FnAlike'. -/
def fnAlikeCard : Claim7 := { stood := { row := fnAlikeRow, standIns := [], harness := (true, "3cb3046b69d1835529bf509c7cbffaacfd6949f88466ba69462e985210f4f1bd"), looks := false }, kinds := [], alts := [], laidByText := true, laidKinds := [.data, .pinned], laidTests := true, laidLooks := .later }
def FnAlikeCardSaid : Prop := Claim7.holds Tryd.pinned (.plain (OpenSpec.ofChange fnAlikeSpec)) fnAlikeCard

/-- THE TIED CARD OF 'laws.FnStoredComeBack'. -/
def fnStoredComeBackCard : Claim7 := { stood := { row := fnStoredComeBackRow, standIns := [], harness := (true, "3cb3046b69d1835529bf509c7cbffaacfd6949f88466ba69462e985210f4f1bd"), looks := false }, kinds := [], alts := [], laidByText := true, laidKinds := [.data, .pinned], laidTests := true, laidLooks := .later }
def FnStoredComeBackCardSaid : Prop := Claim7.holds Tryd.pinned (.plain (OpenSpec.ofChange fnStoredComeBackSpec)) fnStoredComeBackCard

/-- THE TIED CARD OF 'laws.FnFound'. -/
def fnFoundCard : Claim7 := { stood := { row := fnFoundRow, standIns := [], harness := (true, "3cb3046b69d1835529bf509c7cbffaacfd6949f88466ba69462e985210f4f1bd"), looks := false }, kinds := [], alts := [], laidByText := true, laidKinds := [.data, .pinned], laidTests := true, laidLooks := .later }
def FnFoundCardSaid : Prop := Claim7.holds Tryd.pinned (.plain (OpenSpec.ofChange fnFoundSpec)) fnFoundCard

/-- THE SECOND FORM's CARD OF 'laws.FnLinesInOrder'. -/
def fnLinesInOrderUptoCard : Claim7 := { stood := { row := fnLinesInOrderUptoRow, standIns := [], harness := (true, "3cb3046b69d1835529bf509c7cbffaacfd6949f88466ba69462e985210f4f1bd"), looks := false }, kinds := [], alts := [], laidByText := true, laidKinds := [.data, .pinned], laidTests := true, laidLooks := .later }
def FnLinesInOrderUptoCardSaid : Prop := Claim7.holds Tryd.pinned (.plain (OpenSpec.upto fnLinesInOrderSpec)) fnLinesInOrderUptoCard

/-- THE SECOND FORM's CARD OF 'laws.FnSpots'. -/
def fnSpotsUptoCard : Claim7 := { stood := { row := fnSpotsUptoRow, standIns := [], harness := (true, "3cb3046b69d1835529bf509c7cbffaacfd6949f88466ba69462e985210f4f1bd"), looks := false }, kinds := [], alts := [], laidByText := true, laidKinds := [.data, .pinned], laidTests := true, laidLooks := .later }
def FnSpotsUptoCardSaid : Prop := Claim7.holds Tryd.pinned (.plain (OpenSpec.upto fnSpotsSpec)) fnSpotsUptoCard

/-- THE SECOND FORM's CARD OF 'laws.FnTrackersForgetNothing'. -/
def fnTrackersForgetNothingUptoCard : Claim7 := { stood := { row := fnTrackersForgetNothingUptoRow, standIns := [], harness := (true, "3cb3046b69d1835529bf509c7cbffaacfd6949f88466ba69462e985210f4f1bd"), looks := false }, kinds := [], alts := [], laidByText := true, laidKinds := [.data, .pinned], laidTests := true, laidLooks := .later }
def FnTrackersForgetNothingUptoCardSaid : Prop := Claim7.holds Tryd.pinned (.plain (OpenSpec.upto fnTrackersForgetNothingSpec)) fnTrackersForgetNothingUptoCard

/-- THE SECOND FORM's CARD OF 'laws.FnCutIsThere'. -/
def fnCutIsThereUptoCard : Claim7 := { stood := { row := fnCutIsThereUptoRow, standIns := [], harness := (true, "3cb3046b69d1835529bf509c7cbffaacfd6949f88466ba69462e985210f4f1bd"), looks := false }, kinds := [], alts := [], laidByText := true, laidKinds := [.data, .pinned], laidTests := true, laidLooks := .later }
def FnCutIsThereUptoCardSaid : Prop := Claim7.holds Tryd.pinned (.plain (OpenSpec.upto fnCutIsThereSpec)) fnCutIsThereUptoCard

/-- THE SECOND FORM's CARD OF 'laws.FnExpandedHasAll'. -/
def fnExpandedHasAllUptoCard : Claim7 := { stood := { row := fnExpandedHasAllUptoRow, standIns := [], harness := (true, "3cb3046b69d1835529bf509c7cbffaacfd6949f88466ba69462e985210f4f1bd"), looks := false }, kinds := [], alts := [], laidByText := true, laidKinds := [.data, .pinned], laidTests := true, laidLooks := .later }
def FnExpandedHasAllUptoCardSaid : Prop := Claim7.holds Tryd.pinned (.plain (OpenSpec.upto fnExpandedHasAllSpec)) fnExpandedHasAllUptoCard

/-- THE SECOND FORM's CARD OF 'laws.FnQuoted'. -/
def fnQuotedUptoCard : Claim7 := { stood := { row := fnQuotedUptoRow, standIns := [], harness := (true, "3cb3046b69d1835529bf509c7cbffaacfd6949f88466ba69462e985210f4f1bd"), looks := false }, kinds := [], alts := [], laidByText := true, laidKinds := [.data, .pinned], laidTests := true, laidLooks := .later }
def FnQuotedUptoCardSaid : Prop := Claim7.holds Tryd.pinned (.plain (OpenSpec.upto fnQuotedSpec)) fnQuotedUptoCard

/-- THE SECOND FORM's CARD OF 'laws.FnAlike'. -/
def fnAlikeUptoCard : Claim7 := { stood := { row := fnAlikeUptoRow, standIns := [], harness := (true, "3cb3046b69d1835529bf509c7cbffaacfd6949f88466ba69462e985210f4f1bd"), looks := false }, kinds := [], alts := [], laidByText := true, laidKinds := [.data, .pinned], laidTests := true, laidLooks := .later }
def FnAlikeUptoCardSaid : Prop := Claim7.holds Tryd.pinned (.plain (OpenSpec.upto fnAlikeSpec)) fnAlikeUptoCard

/-- THE SECOND FORM's CARD OF 'laws.FnStoredComeBack'. -/
def fnStoredComeBackUptoCard : Claim7 := { stood := { row := fnStoredComeBackUptoRow, standIns := [], harness := (true, "3cb3046b69d1835529bf509c7cbffaacfd6949f88466ba69462e985210f4f1bd"), looks := false }, kinds := [], alts := [], laidByText := true, laidKinds := [.data, .pinned], laidTests := true, laidLooks := .later }
def FnStoredComeBackUptoCardSaid : Prop := Claim7.holds Tryd.pinned (.plain (OpenSpec.upto fnStoredComeBackSpec)) fnStoredComeBackUptoCard

/-- THE SECOND FORM's CARD OF 'laws.FnFound'. -/
def fnFoundUptoCard : Claim7 := { stood := { row := fnFoundUptoRow, standIns := [], harness := (true, "3cb3046b69d1835529bf509c7cbffaacfd6949f88466ba69462e985210f4f1bd"), looks := false }, kinds := [], alts := [], laidByText := true, laidKinds := [.data, .pinned], laidTests := true, laidLooks := .later }
def FnFoundUptoCardSaid : Prop := Claim7.holds Tryd.pinned (.plain (OpenSpec.upto fnFoundSpec)) fnFoundUptoCard
end Rows
end Go.Proofs.YtfndlifolohlgaaDoor
