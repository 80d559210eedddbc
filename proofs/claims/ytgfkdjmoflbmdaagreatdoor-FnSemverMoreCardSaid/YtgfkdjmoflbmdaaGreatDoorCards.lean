/-
  DERIVED. GIVEN WITH THE SEED: THE CARDS: each row of YtgfkdjmoflbmdaaGreatDoorRows.lean that lists a variable, with what it lists TIED to the program's text (the seventh form; the later family's looks); each row that meets fmt, with fmt's text TOLD by the authors' own Lean function (tested against real Go, not proved from fmt's source: count such statements apart). THE CARD IS WHAT COUNTS. Prove the row's statement (the work); the ties are given (YtgfkdjmoflbmdaaGreatDoorTie.lean); close each card by the builder's one call (the guide's Derived/Test/ToyasCard.lean, 'card_holds'). Laid BY PROGRAM, IN A SANDBOX (cutbox-door.mjs). By AI agents, Wed Nov 11 2026. No macro, syntax, notation, axiom, sorry.
-/
import Derived.Test.YtgfkdjmoflbmdaaGreatDoorRows
import GoSem.ClaimSeven
namespace Go.Proofs.YtgfkdjmoflbmdaaGreatDoor
namespace Rows

/-- THE TIED CARD OF 'laws.FnSemverMore'. -/
def fnSemverMoreCard : Claim7 := { stood := { row := fnSemverMoreRow, standIns := [], harness := (true, "426c7cf15be2ad6f236438a6108a4ce0372a8041b9e27b6cc57b6b57d7dfd9b0"), looks := true }, kinds := [], alts := [], laidByText := true, laidKinds := [.data, .data, .data, .sentinel, .sentinel, .sentinel, .data, .data, .data, .data, .data, .sentinel, .sentinel, .pinned], laidTests := true, laidLooks := .later }
def FnSemverMoreCardSaid : Prop := Claim7.holds Tryz.pinned (.plain (OpenSpec.ofChange fnSemverMoreSpec)) fnSemverMoreCard

/-- THE TIED CARD OF 'laws.FnSemverTexts'. -/
def fnSemverTextsCard : Claim7 := { stood := { row := fnSemverTextsRow, standIns := [], harness := (true, "426c7cf15be2ad6f236438a6108a4ce0372a8041b9e27b6cc57b6b57d7dfd9b0"), looks := true }, kinds := [], alts := [], laidByText := true, laidKinds := [.data, .data, .data, .sentinel, .sentinel, .sentinel, .data, .data, .data, .data, .data, .sentinel, .sentinel, .pinned], laidTests := true, laidLooks := .later }
def FnSemverTextsCardSaid : Prop := Claim7.holds Tryz.pinned (.plain (OpenSpec.ofChange fnSemverTextsSpec)) fnSemverTextsCard

/-- THE TIED CARD OF 'laws.FnPubMore'. -/
def fnPubMoreCard : Claim7 := { stood := { row := fnPubMoreRow, standIns := [], harness := (true, "426c7cf15be2ad6f236438a6108a4ce0372a8041b9e27b6cc57b6b57d7dfd9b0"), looks := true }, kinds := [], alts := [], laidByText := true, laidKinds := [.data, .data, .data, .sentinel, .sentinel, .sentinel, .data, .data, .data, .data, .data, .sentinel, .sentinel, .pinned], laidTests := true, laidLooks := .later }
def FnPubMoreCardSaid : Prop := Claim7.holds Tryz.pinned (.plain (OpenSpec.ofChange fnPubMoreSpec)) fnPubMoreCard

/-- THE TIED CARD OF 'laws.FnPubTexts'. -/
def fnPubTextsCard : Claim7 := { stood := { row := fnPubTextsRow, standIns := [], harness := (true, "426c7cf15be2ad6f236438a6108a4ce0372a8041b9e27b6cc57b6b57d7dfd9b0"), looks := true }, kinds := [], alts := [], laidByText := true, laidKinds := [.data, .data, .data, .sentinel, .sentinel, .sentinel, .data, .data, .data, .data, .data, .sentinel, .sentinel, .pinned], laidTests := true, laidLooks := .later }
def FnPubTextsCardSaid : Prop := Claim7.holds Tryz.pinned (.plain (OpenSpec.ofChange fnPubTextsSpec)) fnPubTextsCard

/-- THE TIED CARD OF 'laws.FnNuGetCase'. -/
def fnNuGetCaseCard : Claim7 := { stood := { row := fnNuGetCaseRow, standIns := [], harness := (true, "426c7cf15be2ad6f236438a6108a4ce0372a8041b9e27b6cc57b6b57d7dfd9b0"), looks := true }, kinds := [], alts := [], laidByText := true, laidKinds := [.data, .data, .data, .sentinel, .sentinel, .sentinel, .data, .data, .data, .data, .data, .sentinel, .pinned, .pinned], laidTests := true, laidLooks := .later }
def FnNuGetCaseCardSaid : Prop := Claim7.holds Tryz.pinned (.plain (OpenSpec.ofChange fnNuGetCaseSpec)) fnNuGetCaseCard

/-- THE TIED CARD OF 'laws.FnNuGetPage'. -/
def fnNuGetPageCard : Claim7 := { stood := { row := fnNuGetPageRow, standIns := [], harness := (true, "426c7cf15be2ad6f236438a6108a4ce0372a8041b9e27b6cc57b6b57d7dfd9b0"), looks := true }, kinds := [], alts := [], laidByText := true, laidKinds := [.data, .data, .data, .sentinel, .sentinel, .sentinel, .data, .data, .data, .data, .data, .sentinel, .pinned, .pinned], laidTests := true, laidLooks := .later }
def FnNuGetPageCardSaid : Prop := Claim7.holds Tryz.pinned (.plain (OpenSpec.ofChange fnNuGetPageSpec)) fnNuGetPageCard

/-- THE TIED CARD OF 'laws.FnNuGetSorted'. -/
def fnNuGetSortedCard : Claim7 := { stood := { row := fnNuGetSortedRow, standIns := [], harness := (true, "426c7cf15be2ad6f236438a6108a4ce0372a8041b9e27b6cc57b6b57d7dfd9b0"), looks := true }, kinds := [], alts := [], laidByText := true, laidKinds := [.data, .data, .data, .sentinel, .sentinel, .sentinel, .data, .data, .data, .data, .data, .sentinel, .pinned, .pinned], laidTests := true, laidLooks := .later }
def FnNuGetSortedCardSaid : Prop := Claim7.holds Tryz.pinned (.plain (OpenSpec.ofChange fnNuGetSortedSpec)) fnNuGetSortedCard

/-- THE TIED CARD OF 'laws.FnHackageOrder'. -/
def fnHackageOrderCard : Claim7 := { stood := { row := fnHackageOrderRow, standIns := [], harness := (true, "426c7cf15be2ad6f236438a6108a4ce0372a8041b9e27b6cc57b6b57d7dfd9b0"), looks := true }, kinds := [], alts := [], laidByText := true, laidKinds := [.data, .data, .data, .sentinel, .sentinel, .sentinel, .data, .data, .data, .data, .data, .sentinel, .sentinel, .pinned, .pinned], laidTests := true, laidLooks := .later }
def FnHackageOrderCardSaid : Prop := Claim7.holds Tryz.pinned (.plain (OpenSpec.ofChange fnHackageOrderSpec)) fnHackageOrderCard

/-- THE TIED CARD OF 'laws.FnHackageTexts'. -/
def fnHackageTextsCard : Claim7 := { stood := { row := fnHackageTextsRow, standIns := [], harness := (true, "426c7cf15be2ad6f236438a6108a4ce0372a8041b9e27b6cc57b6b57d7dfd9b0"), looks := true }, kinds := [], alts := [], laidByText := true, laidKinds := [.data, .data, .data, .sentinel, .sentinel, .sentinel, .data, .data, .data, .data, .data, .sentinel, .sentinel, .pinned, .pinned], laidTests := true, laidLooks := .later }
def FnHackageTextsCardSaid : Prop := Claim7.holds Tryz.pinned (.plain (OpenSpec.ofChange fnHackageTextsSpec)) fnHackageTextsCard

/-- THE TIED CARD OF 'laws.FnNuGetMore'. -/
def fnNuGetMoreCard : Claim7 := { stood := { row := fnNuGetMoreRow, standIns := [], harness := (true, "426c7cf15be2ad6f236438a6108a4ce0372a8041b9e27b6cc57b6b57d7dfd9b0"), looks := true }, kinds := [], alts := [], laidByText := true, laidKinds := [.data, .data, .data, .sentinel, .sentinel, .sentinel, .data, .data, .data, .data, .data, .sentinel, .sentinel, .pinned, .pinned], laidTests := true, laidLooks := .later }
def FnNuGetMoreCardSaid : Prop := Claim7.holds Tryz.pinned (.plain (OpenSpec.ofChange fnNuGetMoreSpec)) fnNuGetMoreCard

/-- THE TIED CARD OF 'laws.FnNuGetTexts'. -/
def fnNuGetTextsCard : Claim7 := { stood := { row := fnNuGetTextsRow, standIns := [], harness := (true, "426c7cf15be2ad6f236438a6108a4ce0372a8041b9e27b6cc57b6b57d7dfd9b0"), looks := true }, kinds := [], alts := [], laidByText := true, laidKinds := [.data, .data, .data, .sentinel, .sentinel, .sentinel, .data, .data, .data, .data, .data, .sentinel, .sentinel, .pinned, .pinned], laidTests := true, laidLooks := .later }
def FnNuGetTextsCardSaid : Prop := Claim7.holds Tryz.pinned (.plain (OpenSpec.ofChange fnNuGetTextsSpec)) fnNuGetTextsCard

/-- THE SECOND FORM's CARD OF 'laws.FnSemverMore'. -/
def fnSemverMoreUptoCard : Claim7 := { stood := { row := fnSemverMoreUptoRow, standIns := [], harness := (true, "426c7cf15be2ad6f236438a6108a4ce0372a8041b9e27b6cc57b6b57d7dfd9b0"), looks := true }, kinds := [], alts := [], laidByText := true, laidKinds := [.data, .data, .data, .sentinel, .sentinel, .sentinel, .data, .data, .data, .data, .data, .sentinel, .sentinel, .pinned], laidTests := true, laidLooks := .later }
def FnSemverMoreUptoCardSaid : Prop := Claim7.holds Tryz.pinned (.plain (OpenSpec.upto fnSemverMoreSpec)) fnSemverMoreUptoCard

/-- THE SECOND FORM's CARD OF 'laws.FnSemverTexts'. -/
def fnSemverTextsUptoCard : Claim7 := { stood := { row := fnSemverTextsUptoRow, standIns := [], harness := (true, "426c7cf15be2ad6f236438a6108a4ce0372a8041b9e27b6cc57b6b57d7dfd9b0"), looks := true }, kinds := [], alts := [], laidByText := true, laidKinds := [.data, .data, .data, .sentinel, .sentinel, .sentinel, .data, .data, .data, .data, .data, .sentinel, .sentinel, .pinned], laidTests := true, laidLooks := .later }
def FnSemverTextsUptoCardSaid : Prop := Claim7.holds Tryz.pinned (.plain (OpenSpec.upto fnSemverTextsSpec)) fnSemverTextsUptoCard

/-- THE SECOND FORM's CARD OF 'laws.FnPubMore'. -/
def fnPubMoreUptoCard : Claim7 := { stood := { row := fnPubMoreUptoRow, standIns := [], harness := (true, "426c7cf15be2ad6f236438a6108a4ce0372a8041b9e27b6cc57b6b57d7dfd9b0"), looks := true }, kinds := [], alts := [], laidByText := true, laidKinds := [.data, .data, .data, .sentinel, .sentinel, .sentinel, .data, .data, .data, .data, .data, .sentinel, .sentinel, .pinned], laidTests := true, laidLooks := .later }
def FnPubMoreUptoCardSaid : Prop := Claim7.holds Tryz.pinned (.plain (OpenSpec.upto fnPubMoreSpec)) fnPubMoreUptoCard

/-- THE SECOND FORM's CARD OF 'laws.FnPubTexts'. -/
def fnPubTextsUptoCard : Claim7 := { stood := { row := fnPubTextsUptoRow, standIns := [], harness := (true, "426c7cf15be2ad6f236438a6108a4ce0372a8041b9e27b6cc57b6b57d7dfd9b0"), looks := true }, kinds := [], alts := [], laidByText := true, laidKinds := [.data, .data, .data, .sentinel, .sentinel, .sentinel, .data, .data, .data, .data, .data, .sentinel, .sentinel, .pinned], laidTests := true, laidLooks := .later }
def FnPubTextsUptoCardSaid : Prop := Claim7.holds Tryz.pinned (.plain (OpenSpec.upto fnPubTextsSpec)) fnPubTextsUptoCard

/-- THE SECOND FORM's CARD OF 'laws.FnNuGetCase'. -/
def fnNuGetCaseUptoCard : Claim7 := { stood := { row := fnNuGetCaseUptoRow, standIns := [], harness := (true, "426c7cf15be2ad6f236438a6108a4ce0372a8041b9e27b6cc57b6b57d7dfd9b0"), looks := true }, kinds := [], alts := [], laidByText := true, laidKinds := [.data, .data, .data, .sentinel, .sentinel, .sentinel, .data, .data, .data, .data, .data, .sentinel, .pinned, .pinned], laidTests := true, laidLooks := .later }
def FnNuGetCaseUptoCardSaid : Prop := Claim7.holds Tryz.pinned (.plain (OpenSpec.upto fnNuGetCaseSpec)) fnNuGetCaseUptoCard

/-- THE SECOND FORM's CARD OF 'laws.FnNuGetPage'. -/
def fnNuGetPageUptoCard : Claim7 := { stood := { row := fnNuGetPageUptoRow, standIns := [], harness := (true, "426c7cf15be2ad6f236438a6108a4ce0372a8041b9e27b6cc57b6b57d7dfd9b0"), looks := true }, kinds := [], alts := [], laidByText := true, laidKinds := [.data, .data, .data, .sentinel, .sentinel, .sentinel, .data, .data, .data, .data, .data, .sentinel, .pinned, .pinned], laidTests := true, laidLooks := .later }
def FnNuGetPageUptoCardSaid : Prop := Claim7.holds Tryz.pinned (.plain (OpenSpec.upto fnNuGetPageSpec)) fnNuGetPageUptoCard

/-- THE SECOND FORM's CARD OF 'laws.FnNuGetSorted'. -/
def fnNuGetSortedUptoCard : Claim7 := { stood := { row := fnNuGetSortedUptoRow, standIns := [], harness := (true, "426c7cf15be2ad6f236438a6108a4ce0372a8041b9e27b6cc57b6b57d7dfd9b0"), looks := true }, kinds := [], alts := [], laidByText := true, laidKinds := [.data, .data, .data, .sentinel, .sentinel, .sentinel, .data, .data, .data, .data, .data, .sentinel, .pinned, .pinned], laidTests := true, laidLooks := .later }
def FnNuGetSortedUptoCardSaid : Prop := Claim7.holds Tryz.pinned (.plain (OpenSpec.upto fnNuGetSortedSpec)) fnNuGetSortedUptoCard

/-- THE SECOND FORM's CARD OF 'laws.FnHackageOrder'. -/
def fnHackageOrderUptoCard : Claim7 := { stood := { row := fnHackageOrderUptoRow, standIns := [], harness := (true, "426c7cf15be2ad6f236438a6108a4ce0372a8041b9e27b6cc57b6b57d7dfd9b0"), looks := true }, kinds := [], alts := [], laidByText := true, laidKinds := [.data, .data, .data, .sentinel, .sentinel, .sentinel, .data, .data, .data, .data, .data, .sentinel, .sentinel, .pinned, .pinned], laidTests := true, laidLooks := .later }
def FnHackageOrderUptoCardSaid : Prop := Claim7.holds Tryz.pinned (.plain (OpenSpec.upto fnHackageOrderSpec)) fnHackageOrderUptoCard

/-- THE SECOND FORM's CARD OF 'laws.FnHackageTexts'. -/
def fnHackageTextsUptoCard : Claim7 := { stood := { row := fnHackageTextsUptoRow, standIns := [], harness := (true, "426c7cf15be2ad6f236438a6108a4ce0372a8041b9e27b6cc57b6b57d7dfd9b0"), looks := true }, kinds := [], alts := [], laidByText := true, laidKinds := [.data, .data, .data, .sentinel, .sentinel, .sentinel, .data, .data, .data, .data, .data, .sentinel, .sentinel, .pinned, .pinned], laidTests := true, laidLooks := .later }
def FnHackageTextsUptoCardSaid : Prop := Claim7.holds Tryz.pinned (.plain (OpenSpec.upto fnHackageTextsSpec)) fnHackageTextsUptoCard

/-- THE SECOND FORM's CARD OF 'laws.FnNuGetMore'. -/
def fnNuGetMoreUptoCard : Claim7 := { stood := { row := fnNuGetMoreUptoRow, standIns := [], harness := (true, "426c7cf15be2ad6f236438a6108a4ce0372a8041b9e27b6cc57b6b57d7dfd9b0"), looks := true }, kinds := [], alts := [], laidByText := true, laidKinds := [.data, .data, .data, .sentinel, .sentinel, .sentinel, .data, .data, .data, .data, .data, .sentinel, .sentinel, .pinned, .pinned], laidTests := true, laidLooks := .later }
def FnNuGetMoreUptoCardSaid : Prop := Claim7.holds Tryz.pinned (.plain (OpenSpec.upto fnNuGetMoreSpec)) fnNuGetMoreUptoCard

/-- THE SECOND FORM's CARD OF 'laws.FnNuGetTexts'. -/
def fnNuGetTextsUptoCard : Claim7 := { stood := { row := fnNuGetTextsUptoRow, standIns := [], harness := (true, "426c7cf15be2ad6f236438a6108a4ce0372a8041b9e27b6cc57b6b57d7dfd9b0"), looks := true }, kinds := [], alts := [], laidByText := true, laidKinds := [.data, .data, .data, .sentinel, .sentinel, .sentinel, .data, .data, .data, .data, .data, .sentinel, .sentinel, .pinned, .pinned], laidTests := true, laidLooks := .later }
def FnNuGetTextsUptoCardSaid : Prop := Claim7.holds Tryz.pinned (.plain (OpenSpec.upto fnNuGetTextsSpec)) fnNuGetTextsUptoCard
end Rows
end Go.Proofs.YtgfkdjmoflbmdaaGreatDoor
