/-
  DERIVED. GIVEN WITH THE SEED: THE CARDS: each row of YtjgjiaflccdflaaDoorRows.lean that lists a variable, with what it lists TIED to the program's text (the seventh form; the later family's looks); each row that meets fmt, with fmt's text TOLD by the authors' own Lean function (tested against real Go, not proved from fmt's source: count such statements apart). THE CARD IS WHAT COUNTS. Prove the row's statement (the work); the ties are given (YtjgjiaflccdflaaDoorTie.lean); close each card by the builder's one call (the guide's Derived/Test/ToyasCard.lean, 'card_holds'). Laid BY PROGRAM, IN A SANDBOX (cutbox-door.mjs). By AI agents, Wed Nov 11 2026. No macro, syntax, notation, axiom, sorry.
-/
import Derived.Test.YtjgjiaflccdflaaDoorRows
import GoSem.ClaimSeven
namespace Go.Proofs.YtjgjiaflccdflaaDoor
namespace Rows

/-- THE TIED CARD OF 'laws.FnEncodeMerged'. -/
def fnEncodeMergedCard : Claim7 := { stood := { row := fnEncodeMergedRow, standIns := [], harness := (true, "6cfe15d8f25fdb859ef717d871b241629543d3daa6a8ed2a9b6933eaf06d6093"), looks := false }, kinds := [], alts := [], laidByText := true, laidKinds := [.data], laidTests := true, laidLooks := .later }
def FnEncodeMergedCardSaid : Prop := Claim7.holds Tryd.pinned (.plain (OpenSpec.ofChange fnEncodeMergedSpec)) fnEncodeMergedCard

/-- THE TIED CARD OF 'laws.FnRunAgain'. -/
def fnRunAgainCard : Claim7 := { stood := { row := fnRunAgainRow, standIns := [], harness := (true, "6cfe15d8f25fdb859ef717d871b241629543d3daa6a8ed2a9b6933eaf06d6093"), looks := false }, kinds := [], alts := [], laidByText := true, laidKinds := [.data], laidTests := true, laidLooks := .later }
def FnRunAgainCardSaid : Prop := Claim7.holds Tryd.pinned (.plain (OpenSpec.ofChange fnRunAgainSpec)) fnRunAgainCard

/-- THE TIED CARD OF 'laws.FnRunBack'. -/
def fnRunBackCard : Claim7 := { stood := { row := fnRunBackRow, standIns := [], harness := (true, "6cfe15d8f25fdb859ef717d871b241629543d3daa6a8ed2a9b6933eaf06d6093"), looks := false }, kinds := [], alts := [], laidByText := true, laidKinds := [.data], laidTests := true, laidLooks := .later }
def FnRunBackCardSaid : Prop := Claim7.holds Tryd.pinned (.plain (OpenSpec.ofChange fnRunBackSpec)) fnRunBackCard

/-- THE TIED CARD OF 'laws.FnRunLater'. -/
def fnRunLaterCard : Claim7 := { stood := { row := fnRunLaterRow, standIns := [], harness := (true, "6cfe15d8f25fdb859ef717d871b241629543d3daa6a8ed2a9b6933eaf06d6093"), looks := false }, kinds := [], alts := [], laidByText := true, laidKinds := [.data], laidTests := true, laidLooks := .later }
def FnRunLaterCardSaid : Prop := Claim7.holds Tryd.pinned (.plain (OpenSpec.ofChange fnRunLaterSpec)) fnRunLaterCard

/-- THE TIED CARD OF 'laws.FnRunModel'. -/
def fnRunModelCard : Claim7 := { stood := { row := fnRunModelRow, standIns := [], harness := (true, "6cfe15d8f25fdb859ef717d871b241629543d3daa6a8ed2a9b6933eaf06d6093"), looks := false }, kinds := [], alts := [], laidByText := true, laidKinds := [.data], laidTests := true, laidLooks := .later }
def FnRunModelCardSaid : Prop := Claim7.holds Tryd.pinned (.plain (OpenSpec.ofChange fnRunModelSpec)) fnRunModelCard

/-- THE TIED CARD OF 'laws.FnRunOwn'. -/
def fnRunOwnCard : Claim7 := { stood := { row := fnRunOwnRow, standIns := [], harness := (true, "6cfe15d8f25fdb859ef717d871b241629543d3daa6a8ed2a9b6933eaf06d6093"), looks := false }, kinds := [], alts := [], laidByText := true, laidKinds := [.data], laidTests := true, laidLooks := .later }
def FnRunOwnCardSaid : Prop := Claim7.holds Tryd.pinned (.plain (OpenSpec.ofChange fnRunOwnSpec)) fnRunOwnCard

/-- THE TIED CARD OF 'laws.FnRunSplit'. -/
def fnRunSplitCard : Claim7 := { stood := { row := fnRunSplitRow, standIns := [], harness := (true, "6cfe15d8f25fdb859ef717d871b241629543d3daa6a8ed2a9b6933eaf06d6093"), looks := false }, kinds := [], alts := [], laidByText := true, laidKinds := [.data], laidTests := true, laidLooks := .later }
def FnRunSplitCardSaid : Prop := Claim7.holds Tryd.pinned (.plain (OpenSpec.ofChange fnRunSplitSpec)) fnRunSplitCard

/-- THE TIED CARD OF 'laws.FnRunWoven'. -/
def fnRunWovenCard : Claim7 := { stood := { row := fnRunWovenRow, standIns := [], harness := (true, "6cfe15d8f25fdb859ef717d871b241629543d3daa6a8ed2a9b6933eaf06d6093"), looks := false }, kinds := [], alts := [], laidByText := true, laidKinds := [.data], laidTests := true, laidLooks := .later }
def FnRunWovenCardSaid : Prop := Claim7.holds Tryd.pinned (.plain (OpenSpec.ofChange fnRunWovenSpec)) fnRunWovenCard

/-- THE TIED CARD OF 'laws.FnAskAnywhere'. -/
def fnAskAnywhereCard : Claim7 := { stood := { row := fnAskAnywhereRow, standIns := [], harness := (true, "6cfe15d8f25fdb859ef717d871b241629543d3daa6a8ed2a9b6933eaf06d6093"), looks := false }, kinds := [], alts := [], laidByText := true, laidKinds := [.data], laidTests := true, laidLooks := .later }
def FnAskAnywhereCardSaid : Prop := Claim7.holds Tryd.pinned (.plain (OpenSpec.ofChange fnAskAnywhereSpec)) fnAskAnywhereCard

/-- THE TIED CARD OF 'laws.FnEncodeBehind'. -/
def fnEncodeBehindCard : Claim7 := { stood := { row := fnEncodeBehindRow, standIns := [], harness := (true, "6cfe15d8f25fdb859ef717d871b241629543d3daa6a8ed2a9b6933eaf06d6093"), looks := false }, kinds := [], alts := [], laidByText := true, laidKinds := [.data], laidTests := true, laidLooks := .later }
def FnEncodeBehindCardSaid : Prop := Claim7.holds Tryd.pinned (.plain (OpenSpec.ofChange fnEncodeBehindSpec)) fnEncodeBehindCard

/-- THE TIED CARD OF 'laws.FnEncodeGrows'. -/
def fnEncodeGrowsCard : Claim7 := { stood := { row := fnEncodeGrowsRow, standIns := [], harness := (true, "6cfe15d8f25fdb859ef717d871b241629543d3daa6a8ed2a9b6933eaf06d6093"), looks := false }, kinds := [], alts := [], laidByText := true, laidKinds := [.data], laidTests := true, laidLooks := .later }
def FnEncodeGrowsCardSaid : Prop := Claim7.holds Tryd.pinned (.plain (OpenSpec.ofChange fnEncodeGrowsSpec)) fnEncodeGrowsCard

/-- THE TIED CARD OF 'laws.FnEncodeMade'. -/
def fnEncodeMadeCard : Claim7 := { stood := { row := fnEncodeMadeRow, standIns := [], harness := (true, "6cfe15d8f25fdb859ef717d871b241629543d3daa6a8ed2a9b6933eaf06d6093"), looks := false }, kinds := [], alts := [], laidByText := true, laidKinds := [.data], laidTests := true, laidLooks := .later }
def FnEncodeMadeCardSaid : Prop := Claim7.holds Tryd.pinned (.plain (OpenSpec.ofChange fnEncodeMadeSpec)) fnEncodeMadeCard

/-- THE TIED CARD OF 'laws.FnEncodeTold'. -/
def fnEncodeToldCard : Claim7 := { stood := { row := fnEncodeToldRow, standIns := [], harness := (true, "6cfe15d8f25fdb859ef717d871b241629543d3daa6a8ed2a9b6933eaf06d6093"), looks := false }, kinds := [], alts := [], laidByText := true, laidKinds := [.data], laidTests := true, laidLooks := .later }
def FnEncodeToldCardSaid : Prop := Claim7.holds Tryd.pinned (.plain (OpenSpec.ofChange fnEncodeToldSpec)) fnEncodeToldCard

/-- THE TIED CARD OF 'laws.FnEncodeWithout'. -/
def fnEncodeWithoutCard : Claim7 := { stood := { row := fnEncodeWithoutRow, standIns := [], harness := (true, "6cfe15d8f25fdb859ef717d871b241629543d3daa6a8ed2a9b6933eaf06d6093"), looks := false }, kinds := [], alts := [], laidByText := true, laidKinds := [.data], laidTests := true, laidLooks := .later }
def FnEncodeWithoutCardSaid : Prop := Claim7.holds Tryd.pinned (.plain (OpenSpec.ofChange fnEncodeWithoutSpec)) fnEncodeWithoutCard

/-- THE SECOND FORM's CARD OF 'laws.FnEncodeMerged'. -/
def fnEncodeMergedUptoCard : Claim7 := { stood := { row := fnEncodeMergedUptoRow, standIns := [], harness := (true, "6cfe15d8f25fdb859ef717d871b241629543d3daa6a8ed2a9b6933eaf06d6093"), looks := false }, kinds := [], alts := [], laidByText := true, laidKinds := [.data], laidTests := true, laidLooks := .later }
def FnEncodeMergedUptoCardSaid : Prop := Claim7.holds Tryd.pinned (.plain (OpenSpec.upto fnEncodeMergedSpec)) fnEncodeMergedUptoCard

/-- THE SECOND FORM's CARD OF 'laws.FnRunAgain'. -/
def fnRunAgainUptoCard : Claim7 := { stood := { row := fnRunAgainUptoRow, standIns := [], harness := (true, "6cfe15d8f25fdb859ef717d871b241629543d3daa6a8ed2a9b6933eaf06d6093"), looks := false }, kinds := [], alts := [], laidByText := true, laidKinds := [.data], laidTests := true, laidLooks := .later }
def FnRunAgainUptoCardSaid : Prop := Claim7.holds Tryd.pinned (.plain (OpenSpec.upto fnRunAgainSpec)) fnRunAgainUptoCard

/-- THE SECOND FORM's CARD OF 'laws.FnRunBack'. -/
def fnRunBackUptoCard : Claim7 := { stood := { row := fnRunBackUptoRow, standIns := [], harness := (true, "6cfe15d8f25fdb859ef717d871b241629543d3daa6a8ed2a9b6933eaf06d6093"), looks := false }, kinds := [], alts := [], laidByText := true, laidKinds := [.data], laidTests := true, laidLooks := .later }
def FnRunBackUptoCardSaid : Prop := Claim7.holds Tryd.pinned (.plain (OpenSpec.upto fnRunBackSpec)) fnRunBackUptoCard

/-- THE SECOND FORM's CARD OF 'laws.FnRunLater'. -/
def fnRunLaterUptoCard : Claim7 := { stood := { row := fnRunLaterUptoRow, standIns := [], harness := (true, "6cfe15d8f25fdb859ef717d871b241629543d3daa6a8ed2a9b6933eaf06d6093"), looks := false }, kinds := [], alts := [], laidByText := true, laidKinds := [.data], laidTests := true, laidLooks := .later }
def FnRunLaterUptoCardSaid : Prop := Claim7.holds Tryd.pinned (.plain (OpenSpec.upto fnRunLaterSpec)) fnRunLaterUptoCard

/-- THE SECOND FORM's CARD OF 'laws.FnRunModel'. -/
def fnRunModelUptoCard : Claim7 := { stood := { row := fnRunModelUptoRow, standIns := [], harness := (true, "6cfe15d8f25fdb859ef717d871b241629543d3daa6a8ed2a9b6933eaf06d6093"), looks := false }, kinds := [], alts := [], laidByText := true, laidKinds := [.data], laidTests := true, laidLooks := .later }
def FnRunModelUptoCardSaid : Prop := Claim7.holds Tryd.pinned (.plain (OpenSpec.upto fnRunModelSpec)) fnRunModelUptoCard

/-- THE SECOND FORM's CARD OF 'laws.FnRunOwn'. -/
def fnRunOwnUptoCard : Claim7 := { stood := { row := fnRunOwnUptoRow, standIns := [], harness := (true, "6cfe15d8f25fdb859ef717d871b241629543d3daa6a8ed2a9b6933eaf06d6093"), looks := false }, kinds := [], alts := [], laidByText := true, laidKinds := [.data], laidTests := true, laidLooks := .later }
def FnRunOwnUptoCardSaid : Prop := Claim7.holds Tryd.pinned (.plain (OpenSpec.upto fnRunOwnSpec)) fnRunOwnUptoCard

/-- THE SECOND FORM's CARD OF 'laws.FnRunSplit'. -/
def fnRunSplitUptoCard : Claim7 := { stood := { row := fnRunSplitUptoRow, standIns := [], harness := (true, "6cfe15d8f25fdb859ef717d871b241629543d3daa6a8ed2a9b6933eaf06d6093"), looks := false }, kinds := [], alts := [], laidByText := true, laidKinds := [.data], laidTests := true, laidLooks := .later }
def FnRunSplitUptoCardSaid : Prop := Claim7.holds Tryd.pinned (.plain (OpenSpec.upto fnRunSplitSpec)) fnRunSplitUptoCard

/-- THE SECOND FORM's CARD OF 'laws.FnRunWoven'. -/
def fnRunWovenUptoCard : Claim7 := { stood := { row := fnRunWovenUptoRow, standIns := [], harness := (true, "6cfe15d8f25fdb859ef717d871b241629543d3daa6a8ed2a9b6933eaf06d6093"), looks := false }, kinds := [], alts := [], laidByText := true, laidKinds := [.data], laidTests := true, laidLooks := .later }
def FnRunWovenUptoCardSaid : Prop := Claim7.holds Tryd.pinned (.plain (OpenSpec.upto fnRunWovenSpec)) fnRunWovenUptoCard

/-- THE SECOND FORM's CARD OF 'laws.FnAskAnywhere'. -/
def fnAskAnywhereUptoCard : Claim7 := { stood := { row := fnAskAnywhereUptoRow, standIns := [], harness := (true, "6cfe15d8f25fdb859ef717d871b241629543d3daa6a8ed2a9b6933eaf06d6093"), looks := false }, kinds := [], alts := [], laidByText := true, laidKinds := [.data], laidTests := true, laidLooks := .later }
def FnAskAnywhereUptoCardSaid : Prop := Claim7.holds Tryd.pinned (.plain (OpenSpec.upto fnAskAnywhereSpec)) fnAskAnywhereUptoCard

/-- THE SECOND FORM's CARD OF 'laws.FnEncodeBehind'. -/
def fnEncodeBehindUptoCard : Claim7 := { stood := { row := fnEncodeBehindUptoRow, standIns := [], harness := (true, "6cfe15d8f25fdb859ef717d871b241629543d3daa6a8ed2a9b6933eaf06d6093"), looks := false }, kinds := [], alts := [], laidByText := true, laidKinds := [.data], laidTests := true, laidLooks := .later }
def FnEncodeBehindUptoCardSaid : Prop := Claim7.holds Tryd.pinned (.plain (OpenSpec.upto fnEncodeBehindSpec)) fnEncodeBehindUptoCard

/-- THE SECOND FORM's CARD OF 'laws.FnEncodeGrows'. -/
def fnEncodeGrowsUptoCard : Claim7 := { stood := { row := fnEncodeGrowsUptoRow, standIns := [], harness := (true, "6cfe15d8f25fdb859ef717d871b241629543d3daa6a8ed2a9b6933eaf06d6093"), looks := false }, kinds := [], alts := [], laidByText := true, laidKinds := [.data], laidTests := true, laidLooks := .later }
def FnEncodeGrowsUptoCardSaid : Prop := Claim7.holds Tryd.pinned (.plain (OpenSpec.upto fnEncodeGrowsSpec)) fnEncodeGrowsUptoCard

/-- THE SECOND FORM's CARD OF 'laws.FnEncodeMade'. -/
def fnEncodeMadeUptoCard : Claim7 := { stood := { row := fnEncodeMadeUptoRow, standIns := [], harness := (true, "6cfe15d8f25fdb859ef717d871b241629543d3daa6a8ed2a9b6933eaf06d6093"), looks := false }, kinds := [], alts := [], laidByText := true, laidKinds := [.data], laidTests := true, laidLooks := .later }
def FnEncodeMadeUptoCardSaid : Prop := Claim7.holds Tryd.pinned (.plain (OpenSpec.upto fnEncodeMadeSpec)) fnEncodeMadeUptoCard

/-- THE SECOND FORM's CARD OF 'laws.FnEncodeTold'. -/
def fnEncodeToldUptoCard : Claim7 := { stood := { row := fnEncodeToldUptoRow, standIns := [], harness := (true, "6cfe15d8f25fdb859ef717d871b241629543d3daa6a8ed2a9b6933eaf06d6093"), looks := false }, kinds := [], alts := [], laidByText := true, laidKinds := [.data], laidTests := true, laidLooks := .later }
def FnEncodeToldUptoCardSaid : Prop := Claim7.holds Tryd.pinned (.plain (OpenSpec.upto fnEncodeToldSpec)) fnEncodeToldUptoCard

/-- THE SECOND FORM's CARD OF 'laws.FnEncodeWithout'. -/
def fnEncodeWithoutUptoCard : Claim7 := { stood := { row := fnEncodeWithoutUptoRow, standIns := [], harness := (true, "6cfe15d8f25fdb859ef717d871b241629543d3daa6a8ed2a9b6933eaf06d6093"), looks := false }, kinds := [], alts := [], laidByText := true, laidKinds := [.data], laidTests := true, laidLooks := .later }
def FnEncodeWithoutUptoCardSaid : Prop := Claim7.holds Tryd.pinned (.plain (OpenSpec.upto fnEncodeWithoutSpec)) fnEncodeWithoutUptoCard
end Rows
end Go.Proofs.YtjgjiaflccdflaaDoor
