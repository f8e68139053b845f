/-
  DERIVED. GIVEN WITH THE SEED: THE CARDS: each row of YtphkfejckafamaaDoorRows.lean that lists a variable, with what it lists TIED to the program's text (the seventh form; the later family's looks); each row that meets fmt, with fmt's text TOLD by the authors' own Lean function (tested against real Go, not proved from fmt's source: count such statements apart). THE CARD IS WHAT COUNTS. Prove the row's statement (the work); the ties are given (YtphkfejckafamaaDoorTie.lean); close each card by the builder's one call (the guide's Derived/Test/ToyasCard.lean, 'card_holds'). Laid BY PROGRAM, IN A SANDBOX (cutbox-door.mjs). By AI agents, Wed Nov 11 2026. No macro, syntax, notation, axiom, sorry.
-/
import Derived.Test.YtphkfejckafamaaDoorRows
import GoSem.ClaimSeven
namespace Go.Proofs.YtphkfejckafamaaDoor
namespace Rows

/-- THE TIED CARD OF 'heraldlaw16.VaryNames'. -/
def varyNamesCard : Claim7 := { stood := { row := varyNamesRow, standIns := [], harness := (true, "053cac8766cde94d796de7acf6b1d3f644cc0936a53a05e2fb345a493c97ef6d"), looks := false }, kinds := [], alts := [], laidByText := true, laidKinds := [.data, .pinned], laidTests := true, laidLooks := .later }
def VaryNamesCardSaid : Prop := Claim7.holds Tryd.pinned (.plain (OpenSpec.ofChange varyNamesSpec)) varyNamesCard

/-- THE TIED CARD OF 'heraldlaw16.VaryMatches'. -/
def varyMatchesCard : Claim7 := { stood := { row := varyMatchesRow, standIns := [], harness := (true, "053cac8766cde94d796de7acf6b1d3f644cc0936a53a05e2fb345a493c97ef6d"), looks := false }, kinds := [], alts := [], laidByText := true, laidKinds := [.data, .pinned], laidTests := true, laidLooks := .later }
def VaryMatchesCardSaid : Prop := Claim7.holds Tryd.pinned (.plain (OpenSpec.ofChange varyMatchesSpec)) varyMatchesCard

/-- THE TIED CARD OF 'heraldlaw16.VaryAlike'. -/
def varyAlikeCard : Claim7 := { stood := { row := varyAlikeRow, standIns := [], harness := (true, "053cac8766cde94d796de7acf6b1d3f644cc0936a53a05e2fb345a493c97ef6d"), looks := false }, kinds := [], alts := [], laidByText := true, laidKinds := [.data, .pinned], laidTests := true, laidLooks := .later }
def VaryAlikeCardSaid : Prop := Claim7.holds Tryd.pinned (.plain (OpenSpec.ofChange varyAlikeSpec)) varyAlikeCard

/-- THE TIED CARD OF 'heraldlaw16.VaryFields'. -/
def varyFieldsCard : Claim7 := { stood := { row := varyFieldsRow, standIns := [], harness := (true, "053cac8766cde94d796de7acf6b1d3f644cc0936a53a05e2fb345a493c97ef6d"), looks := false }, kinds := [], alts := [], laidByText := true, laidKinds := [.data, .pinned], laidTests := true, laidLooks := .later }
def VaryFieldsCardSaid : Prop := Claim7.holds Tryd.pinned (.plain (OpenSpec.ofChange varyFieldsSpec)) varyFieldsCard

/-- THE TIED CARD OF 'heraldlaw16.VaryTold'. -/
def varyToldCard : Claim7 := { stood := { row := varyToldRow, standIns := [], harness := (true, "053cac8766cde94d796de7acf6b1d3f644cc0936a53a05e2fb345a493c97ef6d"), looks := false }, kinds := [], alts := [], laidByText := true, laidKinds := [.data, .pinned], laidTests := true, laidLooks := .later }
def VaryToldCardSaid : Prop := Claim7.holds Tryd.pinned (.plain (OpenSpec.ofChange varyToldSpec)) varyToldCard

/-- THE TIED CARD OF 'heraldlaw19.CachePlays'. -/
def cachePlaysCard : Claim7 := { stood := { row := cachePlaysRow, standIns := [], harness := (true, "053cac8766cde94d796de7acf6b1d3f644cc0936a53a05e2fb345a493c97ef6d"), looks := false }, kinds := [], alts := [], laidByText := true, laidKinds := [.data, .data, .pinned], laidTests := true, laidLooks := .later }
def CachePlaysCardSaid : Prop := Claim7.holds Tryd.pinned (.plain (OpenSpec.ofChange cachePlaysSpec)) cachePlaysCard

/-- THE TIED CARD OF 'heraldlaw19.CacheKeeps'. -/
def cacheKeepsCard : Claim7 := { stood := { row := cacheKeepsRow, standIns := [], harness := (true, "053cac8766cde94d796de7acf6b1d3f644cc0936a53a05e2fb345a493c97ef6d"), looks := false }, kinds := [], alts := [], laidByText := true, laidKinds := [.data, .pinned], laidTests := true, laidLooks := .later }
def CacheKeepsCardSaid : Prop := Claim7.holds Tryd.pinned (.plain (OpenSpec.ofChange cacheKeepsSpec)) cacheKeepsCard

/-- THE TIED CARD OF 'heraldlaw19.CacheEnds'. -/
def cacheEndsCard : Claim7 := { stood := { row := cacheEndsRow, standIns := [], harness := (true, "053cac8766cde94d796de7acf6b1d3f644cc0936a53a05e2fb345a493c97ef6d"), looks := false }, kinds := [], alts := [], laidByText := true, laidKinds := [.data, .pinned], laidTests := true, laidLooks := .later }
def CacheEndsCardSaid : Prop := Claim7.holds Tryd.pinned (.plain (OpenSpec.ofChange cacheEndsSpec)) cacheEndsCard

/-- THE TIED CARD OF 'heraldlaw19.CacheApart'. -/
def cacheApartCard : Claim7 := { stood := { row := cacheApartRow, standIns := [], harness := (true, "053cac8766cde94d796de7acf6b1d3f644cc0936a53a05e2fb345a493c97ef6d"), looks := false }, kinds := [], alts := [], laidByText := true, laidKinds := [.data, .data, .pinned], laidTests := true, laidLooks := .later }
def CacheApartCardSaid : Prop := Claim7.holds Tryd.pinned (.plain (OpenSpec.ofChange cacheApartSpec)) cacheApartCard

/-- THE SECOND FORM's CARD OF 'heraldlaw16.VaryNames'. -/
def varyNamesUptoCard : Claim7 := { stood := { row := varyNamesUptoRow, standIns := [], harness := (true, "053cac8766cde94d796de7acf6b1d3f644cc0936a53a05e2fb345a493c97ef6d"), looks := false }, kinds := [], alts := [], laidByText := true, laidKinds := [.data, .pinned], laidTests := true, laidLooks := .later }
def VaryNamesUptoCardSaid : Prop := Claim7.holds Tryd.pinned (.plain (OpenSpec.upto varyNamesSpec)) varyNamesUptoCard

/-- THE SECOND FORM's CARD OF 'heraldlaw16.VaryMatches'. -/
def varyMatchesUptoCard : Claim7 := { stood := { row := varyMatchesUptoRow, standIns := [], harness := (true, "053cac8766cde94d796de7acf6b1d3f644cc0936a53a05e2fb345a493c97ef6d"), looks := false }, kinds := [], alts := [], laidByText := true, laidKinds := [.data, .pinned], laidTests := true, laidLooks := .later }
def VaryMatchesUptoCardSaid : Prop := Claim7.holds Tryd.pinned (.plain (OpenSpec.upto varyMatchesSpec)) varyMatchesUptoCard

/-- THE SECOND FORM's CARD OF 'heraldlaw16.VaryAlike'. -/
def varyAlikeUptoCard : Claim7 := { stood := { row := varyAlikeUptoRow, standIns := [], harness := (true, "053cac8766cde94d796de7acf6b1d3f644cc0936a53a05e2fb345a493c97ef6d"), looks := false }, kinds := [], alts := [], laidByText := true, laidKinds := [.data, .pinned], laidTests := true, laidLooks := .later }
def VaryAlikeUptoCardSaid : Prop := Claim7.holds Tryd.pinned (.plain (OpenSpec.upto varyAlikeSpec)) varyAlikeUptoCard

/-- THE SECOND FORM's CARD OF 'heraldlaw16.VaryFields'. -/
def varyFieldsUptoCard : Claim7 := { stood := { row := varyFieldsUptoRow, standIns := [], harness := (true, "053cac8766cde94d796de7acf6b1d3f644cc0936a53a05e2fb345a493c97ef6d"), looks := false }, kinds := [], alts := [], laidByText := true, laidKinds := [.data, .pinned], laidTests := true, laidLooks := .later }
def VaryFieldsUptoCardSaid : Prop := Claim7.holds Tryd.pinned (.plain (OpenSpec.upto varyFieldsSpec)) varyFieldsUptoCard

/-- THE SECOND FORM's CARD OF 'heraldlaw16.VaryTold'. -/
def varyToldUptoCard : Claim7 := { stood := { row := varyToldUptoRow, standIns := [], harness := (true, "053cac8766cde94d796de7acf6b1d3f644cc0936a53a05e2fb345a493c97ef6d"), looks := false }, kinds := [], alts := [], laidByText := true, laidKinds := [.data, .pinned], laidTests := true, laidLooks := .later }
def VaryToldUptoCardSaid : Prop := Claim7.holds Tryd.pinned (.plain (OpenSpec.upto varyToldSpec)) varyToldUptoCard

/-- THE SECOND FORM's CARD OF 'heraldlaw19.CachePlays'. -/
def cachePlaysUptoCard : Claim7 := { stood := { row := cachePlaysUptoRow, standIns := [], harness := (true, "053cac8766cde94d796de7acf6b1d3f644cc0936a53a05e2fb345a493c97ef6d"), looks := false }, kinds := [], alts := [], laidByText := true, laidKinds := [.data, .data, .pinned], laidTests := true, laidLooks := .later }
def CachePlaysUptoCardSaid : Prop := Claim7.holds Tryd.pinned (.plain (OpenSpec.upto cachePlaysSpec)) cachePlaysUptoCard

/-- THE SECOND FORM's CARD OF 'heraldlaw19.CacheKeeps'. -/
def cacheKeepsUptoCard : Claim7 := { stood := { row := cacheKeepsUptoRow, standIns := [], harness := (true, "053cac8766cde94d796de7acf6b1d3f644cc0936a53a05e2fb345a493c97ef6d"), looks := false }, kinds := [], alts := [], laidByText := true, laidKinds := [.data, .pinned], laidTests := true, laidLooks := .later }
def CacheKeepsUptoCardSaid : Prop := Claim7.holds Tryd.pinned (.plain (OpenSpec.upto cacheKeepsSpec)) cacheKeepsUptoCard

/-- THE SECOND FORM's CARD OF 'heraldlaw19.CacheEnds'. -/
def cacheEndsUptoCard : Claim7 := { stood := { row := cacheEndsUptoRow, standIns := [], harness := (true, "053cac8766cde94d796de7acf6b1d3f644cc0936a53a05e2fb345a493c97ef6d"), looks := false }, kinds := [], alts := [], laidByText := true, laidKinds := [.data, .pinned], laidTests := true, laidLooks := .later }
def CacheEndsUptoCardSaid : Prop := Claim7.holds Tryd.pinned (.plain (OpenSpec.upto cacheEndsSpec)) cacheEndsUptoCard

/-- THE SECOND FORM's CARD OF 'heraldlaw19.CacheApart'. -/
def cacheApartUptoCard : Claim7 := { stood := { row := cacheApartUptoRow, standIns := [], harness := (true, "053cac8766cde94d796de7acf6b1d3f644cc0936a53a05e2fb345a493c97ef6d"), looks := false }, kinds := [], alts := [], laidByText := true, laidKinds := [.data, .data, .pinned], laidTests := true, laidLooks := .later }
def CacheApartUptoCardSaid : Prop := Claim7.holds Tryd.pinned (.plain (OpenSpec.upto cacheApartSpec)) cacheApartUptoCard
end Rows
end Go.Proofs.YtphkfejckafamaaDoor
