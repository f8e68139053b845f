/-
  DERIVED. GIVEN WITH THE SEED: THE CARDS: each row of YtjdcljggbbeikaaDoorRows.lean that lists a variable, with what it lists TIED to the program's text (the seventh form; the later family's looks); each row that meets fmt, with fmt's text TOLD by the authors' own Lean function (tested against real Go, not proved from fmt's source: count such statements apart). THE CARD IS WHAT COUNTS. Prove the row's statement (the work); the ties are given (YtjdcljggbbeikaaDoorTie.lean); close each card by the builder's one call (the guide's Derived/Test/ToyasCard.lean, 'card_holds'). Laid BY PROGRAM, IN A SANDBOX (cutbox-door.mjs). By AI agents, Wed Nov 11 2026. No macro, syntax, notation, axiom, sorry.
-/
import Derived.Test.YtjdcljggbbeikaaDoorRows
import GoSem.ClaimSeven
namespace Go.Proofs.YtjdcljggbbeikaaDoor
namespace Rows

/-- THE TIED CARD OF 'heraldlaw15.OriginParses'. -/
def originParsesCard : Claim7 := { stood := { row := originParsesRow, standIns := [], harness := (true, "960507633430b8def9ddbc5a915aa6487f35c1500230ffab163780647b02e6d3"), looks := false }, kinds := [], alts := [], laidByText := true, laidKinds := [.data, .data, .data, .data, .pinned], laidTests := true, laidLooks := .later }
def OriginParsesCardSaid : Prop := Claim7.holds Tryd.pinned (.plain (OpenSpec.ofChange originParsesSpec)) originParsesCard

/-- THE TIED CARD OF 'heraldlaw15.OriginPrints'. -/
def originPrintsCard : Claim7 := { stood := { row := originPrintsRow, standIns := [], harness := (true, "960507633430b8def9ddbc5a915aa6487f35c1500230ffab163780647b02e6d3"), looks := false }, kinds := [], alts := [], laidByText := true, laidKinds := [.data, .data, .data, .data, .pinned], laidTests := true, laidLooks := .later }
def OriginPrintsCardSaid : Prop := Claim7.holds Tryd.pinned (.plain (OpenSpec.ofChange originPrintsSpec)) originPrintsCard

/-- THE TIED CARD OF 'heraldlaw15.OriginBack'. -/
def originBackCard : Claim7 := { stood := { row := originBackRow, standIns := [], harness := (true, "960507633430b8def9ddbc5a915aa6487f35c1500230ffab163780647b02e6d3"), looks := false }, kinds := [], alts := [], laidByText := true, laidKinds := [.data, .data, .data, .data, .pinned], laidTests := true, laidLooks := .later }
def OriginBackCardSaid : Prop := Claim7.holds Tryd.pinned (.plain (OpenSpec.ofChange originBackSpec)) originBackCard

/-- THE TIED CARD OF 'heraldlaw15.OriginHas'. -/
def originHasCard : Claim7 := { stood := { row := originHasRow, standIns := [], harness := (true, "960507633430b8def9ddbc5a915aa6487f35c1500230ffab163780647b02e6d3"), looks := false }, kinds := [], alts := [], laidByText := true, laidKinds := [.data, .data, .data, .data, .pinned], laidTests := true, laidLooks := .later }
def OriginHasCardSaid : Prop := Claim7.holds Tryd.pinned (.plain (OpenSpec.ofChange originHasSpec)) originHasCard

/-- THE TIED CARD OF 'heraldlaw15.OriginSets'. -/
def originSetsCard : Claim7 := { stood := { row := originSetsRow, standIns := [], harness := (true, "960507633430b8def9ddbc5a915aa6487f35c1500230ffab163780647b02e6d3"), looks := false }, kinds := [], alts := [], laidByText := true, laidKinds := [.data, .data, .data, .data, .pinned], laidTests := true, laidLooks := .later }
def OriginSetsCardSaid : Prop := Claim7.holds Tryd.pinned (.plain (OpenSpec.ofChange originSetsSpec)) originSetsCard

/-- THE TIED CARD OF 'heraldlaw15.OriginFull'. -/
def originFullCard : Claim7 := { stood := { row := originFullRow, standIns := [], harness := (true, "960507633430b8def9ddbc5a915aa6487f35c1500230ffab163780647b02e6d3"), looks := false }, kinds := [], alts := [], laidByText := true, laidKinds := [.data, .data, .data, .data, .pinned], laidTests := true, laidLooks := .later }
def OriginFullCardSaid : Prop := Claim7.holds Tryd.pinned (.plain (OpenSpec.ofChange originFullSpec)) originFullCard

/-- THE SECOND FORM's CARD OF 'heraldlaw15.OriginParses'. -/
def originParsesUptoCard : Claim7 := { stood := { row := originParsesUptoRow, standIns := [], harness := (true, "960507633430b8def9ddbc5a915aa6487f35c1500230ffab163780647b02e6d3"), looks := false }, kinds := [], alts := [], laidByText := true, laidKinds := [.data, .data, .data, .data, .pinned], laidTests := true, laidLooks := .later }
def OriginParsesUptoCardSaid : Prop := Claim7.holds Tryd.pinned (.plain (OpenSpec.upto originParsesSpec)) originParsesUptoCard

/-- THE SECOND FORM's CARD OF 'heraldlaw15.OriginPrints'. -/
def originPrintsUptoCard : Claim7 := { stood := { row := originPrintsUptoRow, standIns := [], harness := (true, "960507633430b8def9ddbc5a915aa6487f35c1500230ffab163780647b02e6d3"), looks := false }, kinds := [], alts := [], laidByText := true, laidKinds := [.data, .data, .data, .data, .pinned], laidTests := true, laidLooks := .later }
def OriginPrintsUptoCardSaid : Prop := Claim7.holds Tryd.pinned (.plain (OpenSpec.upto originPrintsSpec)) originPrintsUptoCard

/-- THE SECOND FORM's CARD OF 'heraldlaw15.OriginBack'. -/
def originBackUptoCard : Claim7 := { stood := { row := originBackUptoRow, standIns := [], harness := (true, "960507633430b8def9ddbc5a915aa6487f35c1500230ffab163780647b02e6d3"), looks := false }, kinds := [], alts := [], laidByText := true, laidKinds := [.data, .data, .data, .data, .pinned], laidTests := true, laidLooks := .later }
def OriginBackUptoCardSaid : Prop := Claim7.holds Tryd.pinned (.plain (OpenSpec.upto originBackSpec)) originBackUptoCard

/-- THE SECOND FORM's CARD OF 'heraldlaw15.OriginHas'. -/
def originHasUptoCard : Claim7 := { stood := { row := originHasUptoRow, standIns := [], harness := (true, "960507633430b8def9ddbc5a915aa6487f35c1500230ffab163780647b02e6d3"), looks := false }, kinds := [], alts := [], laidByText := true, laidKinds := [.data, .data, .data, .data, .pinned], laidTests := true, laidLooks := .later }
def OriginHasUptoCardSaid : Prop := Claim7.holds Tryd.pinned (.plain (OpenSpec.upto originHasSpec)) originHasUptoCard

/-- THE SECOND FORM's CARD OF 'heraldlaw15.OriginSets'. -/
def originSetsUptoCard : Claim7 := { stood := { row := originSetsUptoRow, standIns := [], harness := (true, "960507633430b8def9ddbc5a915aa6487f35c1500230ffab163780647b02e6d3"), looks := false }, kinds := [], alts := [], laidByText := true, laidKinds := [.data, .data, .data, .data, .pinned], laidTests := true, laidLooks := .later }
def OriginSetsUptoCardSaid : Prop := Claim7.holds Tryd.pinned (.plain (OpenSpec.upto originSetsSpec)) originSetsUptoCard

/-- THE SECOND FORM's CARD OF 'heraldlaw15.OriginFull'. -/
def originFullUptoCard : Claim7 := { stood := { row := originFullUptoRow, standIns := [], harness := (true, "960507633430b8def9ddbc5a915aa6487f35c1500230ffab163780647b02e6d3"), looks := false }, kinds := [], alts := [], laidByText := true, laidKinds := [.data, .data, .data, .data, .pinned], laidTests := true, laidLooks := .later }
def OriginFullUptoCardSaid : Prop := Claim7.holds Tryd.pinned (.plain (OpenSpec.upto originFullSpec)) originFullUptoCard
end Rows
end Go.Proofs.YtjdcljggbbeikaaDoor
