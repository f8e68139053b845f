/-
  NARROWER THAN 'FOR EVERY INPUT', by the rows' own cells (each row's printed sentence says how): VaryNames: laid · VaryMatches: laid · VaryAlike: laid · VaryFields: laid · VaryTold: laid · CachePlays: laid · CacheKeeps: laid · CacheEnds: laid · CacheApart: laid.
  DERIVED. THE GIVEN ROWS OF THIS SEAT. 9 by the template 'for every input the law returns true; each argument reads behind the call as it read before'; 0 by the template 'total and deterministic' (their statements: YtphkfejckafamaaDoorTotals.lean).
  GIVEN WITH THE SEED: the statements are not yours to turn. If you find one false, say at which input.
  Laid BY PROGRAM, IN A SANDBOX (cutbox-rows.mjs): the forced cells as the released guide's own fill.sh prints them over the translation ddec19f72a73a66c… (all of the seat's roots in one cut). By AI agents, Wed Nov 11 2026. No macro, syntax, notation, axiom, sorry.
-/
import Derived.Test.YtphkfejckafamaaDoorChecked
import GoSem.PinnedTables
import GoSem.Claim
import GoSem.ClaimJoined
import GoSem.ClaimMapViews
import Derived.JoinedTies
import Derived.KernelRfl
namespace Go.Proofs.YtphkfejckafamaaDoor
/- THE CELL 'sum', in the pinned program and in every row, IS THE sha256 OF THE DUMP (.gsa) THAT YtphkfejckafamaaDoorProg.lean LOADS. Nothing in Lean hashes anything: it is a label: what it is worth is what the hold of that sum in a sandbox is worth. -/
noncomputable def Tryd.pinned : Pinned := { name := "ytphkfejckafamaadoor", sum := "ddec19f72a73a66c7f8649ce365876314423e5b6aa5fcbd30b085f4e8790cd35", checked := Tryd.checked }
namespace Rows
def none {H : Type} : Left H := { results := [], args := [] }

/- WHAT THE LISTED PACKAGE-LEVEL VARIABLES READ AS WHEN THE CALL BEGINS. Each datum BY PROGRAM (the guide's laid-datum.mjs) off the statement by which the dump's own 'gosem.cut.vars' lays the variable. In a bare row this is a premise. The card (YtphkfejckafamaaDoorCards.lean) ties it to the program's text. -/
def laid_unicode_utf8_acceptRanges {H : Type} : DataW H := .agg [.agg [.lit (.int .u8 128), .lit (.int .u8 191)], .agg [.lit (.int .u8 160), .lit (.int .u8 191)], .agg [.lit (.int .u8 128), .lit (.int .u8 159)], .agg [.lit (.int .u8 144), .lit (.int .u8 191)], .agg [.lit (.int .u8 128), .lit (.int .u8 143)], .agg [.lit (.int .u8 0), .lit (.int .u8 0)], .agg [.lit (.int .u8 0), .lit (.int .u8 0)], .agg [.lit (.int .u8 0), .lit (.int .u8 0)], .agg [.lit (.int .u8 0), .lit (.int .u8 0)], .agg [.lit (.int .u8 0), .lit (.int .u8 0)], .agg [.lit (.int .u8 0), .lit (.int .u8 0)], .agg [.lit (.int .u8 0), .lit (.int .u8 0)], .agg [.lit (.int .u8 0), .lit (.int .u8 0)], .agg [.lit (.int .u8 0), .lit (.int .u8 0)], .agg [.lit (.int .u8 0), .lit (.int .u8 0)], .agg [.lit (.int .u8 0), .lit (.int .u8 0)]]
/-- One of Go's own tables, pinned by name: the form's constant. -/
def laid_unicode_utf8_first : DataW Unit := Go.Pinned.utf8First
def laid_herald_heraldlaw19_mark {H : Type} : DataW H := .agg [.lit (.string [109, 97, 114, 107]), .lit (.string [109, 97, 114, 107]), .lit (.bool false)]

/-- 'heraldlaw16.VaryNames': WHATEVER THE INPUT: true; the input reads as it did. -/
def varyNamesSpec : ChangeSpec := { name := "varyNames", fn := fun _ => fun
  | [d] => { results := [.lit (.bool true)], args := [d] }
  | _ => none }
def varyNamesRow : OpenClaim := { program := "ytphkfejckafamaadoor", sum := "ddec19f72a73a66c7f8649ce365876314423e5b6aa5fcbd30b085f4e8790cd35", func := "herald/heraldlaw16.VaryNames", spec := "varyNames", inPlace := ["internal/bytealg.CountString", "internal/bytealg.IndexByteString", "internal/bytealg.IndexString"], unfollowed := true, recurses := true, named := ["unicode/utf8.first", "unicode/utf8.acceptRanges", "internal/bytealg.MaxLen"], apart := false, laid := [("unicode/utf8.acceptRanges", laid_unicode_utf8_acceptRanges), ("unicode/utf8.first", laid_unicode_utf8_first)] }
def VaryNamesSaid : Prop := varyNamesRow.holds Tryd.pinned (OpenSpec.ofChange varyNamesSpec)

/-- ITS FALSE NEIGHBOUR: 'it returns false'. Refute it at one input. -/
def varyNamesWrong : ChangeSpec := { name := "varyNames", fn := fun _ => fun
  | [d] => { results := [.lit (.bool false)], args := [d] }
  | _ => none }
def VaryNamesWrongFalsely : Prop := varyNamesRow.holds Tryd.pinned (OpenSpec.ofChange varyNamesWrong)

/-- 'heraldlaw16.VaryMatches': WHATEVER THE INPUT: true; the input reads as it did. -/
def varyMatchesSpec : ChangeSpec := { name := "varyMatches", fn := fun _ => fun
  | [d1, d2, d3] => { results := [.lit (.bool true)], args := [d1, d2, d3] }
  | _ => none }
def varyMatchesRow : OpenClaim := { program := "ytphkfejckafamaadoor", sum := "ddec19f72a73a66c7f8649ce365876314423e5b6aa5fcbd30b085f4e8790cd35", func := "herald/heraldlaw16.VaryMatches", spec := "varyMatches", inPlace := ["internal/bytealg.CountString", "internal/bytealg.IndexByteString", "internal/bytealg.IndexString"], unfollowed := true, recurses := true, named := ["unicode/utf8.first", "unicode/utf8.acceptRanges", "internal/bytealg.MaxLen"], apart := false, laid := [("unicode/utf8.acceptRanges", laid_unicode_utf8_acceptRanges), ("unicode/utf8.first", laid_unicode_utf8_first)] }
def VaryMatchesSaid : Prop := varyMatchesRow.holds Tryd.pinned (OpenSpec.ofChange varyMatchesSpec)

/-- ITS FALSE NEIGHBOUR: 'it returns false'. Refute it at one input. -/
def varyMatchesWrong : ChangeSpec := { name := "varyMatches", fn := fun _ => fun
  | [d1, d2, d3] => { results := [.lit (.bool false)], args := [d1, d2, d3] }
  | _ => none }
def VaryMatchesWrongFalsely : Prop := varyMatchesRow.holds Tryd.pinned (OpenSpec.ofChange varyMatchesWrong)

/-- 'heraldlaw16.VaryAlike': WHATEVER THE INPUT: true; the input reads as it did. -/
def varyAlikeSpec : ChangeSpec := { name := "varyAlike", fn := fun _ => fun
  | [d1, d2, d3, d4] => { results := [.lit (.bool true)], args := [d1, d2, d3, d4] }
  | _ => none }
def varyAlikeRow : OpenClaim := { program := "ytphkfejckafamaadoor", sum := "ddec19f72a73a66c7f8649ce365876314423e5b6aa5fcbd30b085f4e8790cd35", func := "herald/heraldlaw16.VaryAlike", spec := "varyAlike", inPlace := ["internal/bytealg.CountString", "internal/bytealg.IndexByteString", "internal/bytealg.IndexString"], unfollowed := true, recurses := true, named := ["unicode/utf8.first", "unicode/utf8.acceptRanges", "internal/bytealg.MaxLen"], apart := false, laid := [("unicode/utf8.acceptRanges", laid_unicode_utf8_acceptRanges), ("unicode/utf8.first", laid_unicode_utf8_first)] }
def VaryAlikeSaid : Prop := varyAlikeRow.holds Tryd.pinned (OpenSpec.ofChange varyAlikeSpec)

/-- ITS FALSE NEIGHBOUR: 'it returns false'. Refute it at one input. -/
def varyAlikeWrong : ChangeSpec := { name := "varyAlike", fn := fun _ => fun
  | [d1, d2, d3, d4] => { results := [.lit (.bool false)], args := [d1, d2, d3, d4] }
  | _ => none }
def VaryAlikeWrongFalsely : Prop := varyAlikeRow.holds Tryd.pinned (OpenSpec.ofChange varyAlikeWrong)

/-- 'heraldlaw16.VaryFields': WHATEVER THE INPUT: true; the input reads as it did. -/
def varyFieldsSpec : ChangeSpec := { name := "varyFields", fn := fun _ => fun
  | [d1, d2, d3, d4] => { results := [.lit (.bool true)], args := [d1, d2, d3, d4] }
  | _ => none }
def varyFieldsRow : OpenClaim := { program := "ytphkfejckafamaadoor", sum := "ddec19f72a73a66c7f8649ce365876314423e5b6aa5fcbd30b085f4e8790cd35", func := "herald/heraldlaw16.VaryFields", spec := "varyFields", inPlace := ["internal/bytealg.CountString", "internal/bytealg.IndexByteString", "internal/bytealg.IndexString"], unfollowed := true, recurses := true, named := ["unicode/utf8.first", "unicode/utf8.acceptRanges", "internal/bytealg.MaxLen"], apart := false, laid := [("unicode/utf8.acceptRanges", laid_unicode_utf8_acceptRanges), ("unicode/utf8.first", laid_unicode_utf8_first)] }
def VaryFieldsSaid : Prop := varyFieldsRow.holds Tryd.pinned (OpenSpec.ofChange varyFieldsSpec)

/-- ITS FALSE NEIGHBOUR: 'it returns false'. Refute it at one input. -/
def varyFieldsWrong : ChangeSpec := { name := "varyFields", fn := fun _ => fun
  | [d1, d2, d3, d4] => { results := [.lit (.bool false)], args := [d1, d2, d3, d4] }
  | _ => none }
def VaryFieldsWrongFalsely : Prop := varyFieldsRow.holds Tryd.pinned (OpenSpec.ofChange varyFieldsWrong)

/-- 'heraldlaw16.VaryTold': WHATEVER THE INPUT: true; the input reads as it did. -/
def varyToldSpec : ChangeSpec := { name := "varyTold", fn := fun _ => fun
  | [d] => { results := [.lit (.bool true)], args := [d] }
  | _ => none }
def varyToldRow : OpenClaim := { program := "ytphkfejckafamaadoor", sum := "ddec19f72a73a66c7f8649ce365876314423e5b6aa5fcbd30b085f4e8790cd35", func := "herald/heraldlaw16.VaryTold", spec := "varyTold", inPlace := ["internal/bytealg.CountString", "internal/bytealg.IndexByteString", "internal/bytealg.IndexString"], unfollowed := true, recurses := true, named := ["unicode/utf8.first", "unicode/utf8.acceptRanges", "internal/bytealg.MaxLen"], apart := false, laid := [("unicode/utf8.acceptRanges", laid_unicode_utf8_acceptRanges), ("unicode/utf8.first", laid_unicode_utf8_first)] }
def VaryToldSaid : Prop := varyToldRow.holds Tryd.pinned (OpenSpec.ofChange varyToldSpec)

/-- ITS FALSE NEIGHBOUR: 'it returns false'. Refute it at one input. -/
def varyToldWrong : ChangeSpec := { name := "varyTold", fn := fun _ => fun
  | [d] => { results := [.lit (.bool false)], args := [d] }
  | _ => none }
def VaryToldWrongFalsely : Prop := varyToldRow.holds Tryd.pinned (OpenSpec.ofChange varyToldWrong)

/-- 'heraldlaw19.CachePlays': WHATEVER THE INPUT: true; the input reads as it did. -/
def cachePlaysSpec : ChangeSpec := { name := "cachePlays", fn := fun _ => fun
  | [d1, d2, d3] => { results := [.lit (.bool true)], args := [d1, d2, d3] }
  | _ => none }
def cachePlaysRow : OpenClaim := { program := "ytphkfejckafamaadoor", sum := "ddec19f72a73a66c7f8649ce365876314423e5b6aa5fcbd30b085f4e8790cd35", func := "herald/heraldlaw19.CachePlays", spec := "cachePlays", inPlace := ["internal/bytealg.CountString", "internal/bytealg.IndexByteString", "internal/bytealg.IndexString"], unfollowed := true, recurses := true, named := ["unicode/utf8.first", "unicode/utf8.acceptRanges", "internal/bytealg.MaxLen", "herald/heraldlaw19.mark"], apart := false, laid := [("unicode/utf8.acceptRanges", laid_unicode_utf8_acceptRanges), ("herald/heraldlaw19.mark", laid_herald_heraldlaw19_mark), ("unicode/utf8.first", laid_unicode_utf8_first)] }
def CachePlaysSaid : Prop := cachePlaysRow.holds Tryd.pinned (OpenSpec.ofChange cachePlaysSpec)

/-- ITS FALSE NEIGHBOUR: 'it returns false'. Refute it at one input. -/
def cachePlaysWrong : ChangeSpec := { name := "cachePlays", fn := fun _ => fun
  | [d1, d2, d3] => { results := [.lit (.bool false)], args := [d1, d2, d3] }
  | _ => none }
def CachePlaysWrongFalsely : Prop := cachePlaysRow.holds Tryd.pinned (OpenSpec.ofChange cachePlaysWrong)

/-- 'heraldlaw19.CacheKeeps': WHATEVER THE INPUT: true; the input reads as it did. -/
def cacheKeepsSpec : ChangeSpec := { name := "cacheKeeps", fn := fun _ => fun
  | [d1, d2] => { results := [.lit (.bool true)], args := [d1, d2] }
  | _ => none }
def cacheKeepsRow : OpenClaim := { program := "ytphkfejckafamaadoor", sum := "ddec19f72a73a66c7f8649ce365876314423e5b6aa5fcbd30b085f4e8790cd35", func := "herald/heraldlaw19.CacheKeeps", spec := "cacheKeeps", inPlace := ["internal/bytealg.CountString", "internal/bytealg.IndexByteString", "internal/bytealg.IndexString"], unfollowed := true, recurses := true, named := ["unicode/utf8.first", "unicode/utf8.acceptRanges", "internal/bytealg.MaxLen"], apart := false, laid := [("unicode/utf8.acceptRanges", laid_unicode_utf8_acceptRanges), ("unicode/utf8.first", laid_unicode_utf8_first)] }
def CacheKeepsSaid : Prop := cacheKeepsRow.holds Tryd.pinned (OpenSpec.ofChange cacheKeepsSpec)

/-- ITS FALSE NEIGHBOUR: 'it returns false'. Refute it at one input. -/
def cacheKeepsWrong : ChangeSpec := { name := "cacheKeeps", fn := fun _ => fun
  | [d1, d2] => { results := [.lit (.bool false)], args := [d1, d2] }
  | _ => none }
def CacheKeepsWrongFalsely : Prop := cacheKeepsRow.holds Tryd.pinned (OpenSpec.ofChange cacheKeepsWrong)

/-- 'heraldlaw19.CacheEnds': WHATEVER THE INPUT: true; the input reads as it did. -/
def cacheEndsSpec : ChangeSpec := { name := "cacheEnds", fn := fun _ => fun
  | [d1, d2, d3, d4, d5] => { results := [.lit (.bool true)], args := [d1, d2, d3, d4, d5] }
  | _ => none }
def cacheEndsRow : OpenClaim := { program := "ytphkfejckafamaadoor", sum := "ddec19f72a73a66c7f8649ce365876314423e5b6aa5fcbd30b085f4e8790cd35", func := "herald/heraldlaw19.CacheEnds", spec := "cacheEnds", inPlace := ["internal/bytealg.CountString", "internal/bytealg.IndexByteString", "internal/bytealg.IndexString"], unfollowed := true, recurses := true, named := ["unicode/utf8.first", "unicode/utf8.acceptRanges", "internal/bytealg.MaxLen"], apart := false, laid := [("unicode/utf8.acceptRanges", laid_unicode_utf8_acceptRanges), ("unicode/utf8.first", laid_unicode_utf8_first)] }
def CacheEndsSaid : Prop := cacheEndsRow.holds Tryd.pinned (OpenSpec.ofChange cacheEndsSpec)

/-- ITS FALSE NEIGHBOUR: 'it returns false'. Refute it at one input. -/
def cacheEndsWrong : ChangeSpec := { name := "cacheEnds", fn := fun _ => fun
  | [d1, d2, d3, d4, d5] => { results := [.lit (.bool false)], args := [d1, d2, d3, d4, d5] }
  | _ => none }
def CacheEndsWrongFalsely : Prop := cacheEndsRow.holds Tryd.pinned (OpenSpec.ofChange cacheEndsWrong)

/-- 'heraldlaw19.CacheApart': WHATEVER THE INPUT: true; the input reads as it did. -/
def cacheApartSpec : ChangeSpec := { name := "cacheApart", fn := fun _ => fun
  | [d1, d2] => { results := [.lit (.bool true)], args := [d1, d2] }
  | _ => none }
def cacheApartRow : OpenClaim := { program := "ytphkfejckafamaadoor", sum := "ddec19f72a73a66c7f8649ce365876314423e5b6aa5fcbd30b085f4e8790cd35", func := "herald/heraldlaw19.CacheApart", spec := "cacheApart", inPlace := ["internal/bytealg.CountString", "internal/bytealg.IndexByteString", "internal/bytealg.IndexString"], unfollowed := true, recurses := true, named := ["herald/heraldlaw19.mark", "unicode/utf8.first", "unicode/utf8.acceptRanges", "internal/bytealg.MaxLen"], apart := false, laid := [("unicode/utf8.acceptRanges", laid_unicode_utf8_acceptRanges), ("herald/heraldlaw19.mark", laid_herald_heraldlaw19_mark), ("unicode/utf8.first", laid_unicode_utf8_first)] }
def CacheApartSaid : Prop := cacheApartRow.holds Tryd.pinned (OpenSpec.ofChange cacheApartSpec)

/-- ITS FALSE NEIGHBOUR: 'it returns false'. Refute it at one input. -/
def cacheApartWrong : ChangeSpec := { name := "cacheApart", fn := fun _ => fun
  | [d1, d2] => { results := [.lit (.bool false)], args := [d1, d2] }
  | _ => none }
def CacheApartWrongFalsely : Prop := cacheApartRow.holds Tryd.pinned (OpenSpec.ofChange cacheApartWrong)

/- THE SECOND FORM. 'bulk': how many values and letters a reading holds, each counted each time it is reached (what is shared counts as often as it is met; a slice's spare places count too). A statement '..UptoSaid' is the law's where the arguments, and the package variables that the reading takes, are together of bulk at most 1048576: NARROWER than '..Said'. Prove '..Said' where nothing that the law and all that it calls make is longer than what came in: it says more and counts as full. Else prove '..UptoSaid'. A law counts once. -/
mutual
def uptoBulk {H : Type} : DataW H → Nat
  | .lit (.string bytes) => bytes.length + 1
  | .lit _ => 1
  | .nil => 1
  | .ptr d => uptoBulk d + 1
  | .slice elems spare => uptoBulkAll elems + uptoBulkAll spare + 1
  | .agg parts => uptoBulkAll parts + 1
  | .iface _ d => uptoBulk d + 1
  | .map entries => uptoBulkEntries entries + 1
  | .held _ => 1
def uptoBulkAll {H : Type} : List (DataW H) → Nat
  | [] => 0
  | d :: r => uptoBulk d + uptoBulkAll r
def uptoBulkEntries {H : Type} : List (Lit × DataW H) → Nat
  | [] => 0
  | x :: r => uptoBulkEntry x + uptoBulkEntries r
def uptoBulkEntry {H : Type} : Lit × DataW H → Nat
  | (.string bytes, d) => bytes.length + uptoBulk d + 1
  | (_, d) => uptoBulk d + 1
 end
def uptoSmall : (H : Type) → List (DataW H) → Bool := fun _ ds => decide (uptoBulkAll ds ≤ 1048576)
def OpenSpec.upto (s : _root_.Go.ChangeSpec) : _root_.Go.OpenSpec := { _root_.Go.OpenSpec.ofChange s with cond := some uptoSmall }

/-- 'heraldlaw16.VaryNames', WHERE WHAT IT READS IS OF BULK AT MOST 1048576: true; the input reads as it did. -/
def varyNamesUptoRow : OpenClaim := { program := "ytphkfejckafamaadoor", sum := "ddec19f72a73a66c7f8649ce365876314423e5b6aa5fcbd30b085f4e8790cd35", func := "herald/heraldlaw16.VaryNames", spec := "varyNames", inPlace := ["internal/bytealg.CountString", "internal/bytealg.IndexByteString", "internal/bytealg.IndexString"], unfollowed := true, recurses := true, named := ["unicode/utf8.first", "unicode/utf8.acceptRanges", "internal/bytealg.MaxLen"], apart := false, laid := [("unicode/utf8.acceptRanges", laid_unicode_utf8_acceptRanges), ("unicode/utf8.first", laid_unicode_utf8_first)], narrowed := true }
def VaryNamesUptoSaid : Prop := varyNamesUptoRow.holds Tryd.pinned (OpenSpec.upto varyNamesSpec)

/-- 'heraldlaw16.VaryMatches', WHERE WHAT IT READS IS OF BULK AT MOST 1048576: true; the input reads as it did. -/
def varyMatchesUptoRow : OpenClaim := { program := "ytphkfejckafamaadoor", sum := "ddec19f72a73a66c7f8649ce365876314423e5b6aa5fcbd30b085f4e8790cd35", func := "herald/heraldlaw16.VaryMatches", spec := "varyMatches", inPlace := ["internal/bytealg.CountString", "internal/bytealg.IndexByteString", "internal/bytealg.IndexString"], unfollowed := true, recurses := true, named := ["unicode/utf8.first", "unicode/utf8.acceptRanges", "internal/bytealg.MaxLen"], apart := false, laid := [("unicode/utf8.acceptRanges", laid_unicode_utf8_acceptRanges), ("unicode/utf8.first", laid_unicode_utf8_first)], narrowed := true }
def VaryMatchesUptoSaid : Prop := varyMatchesUptoRow.holds Tryd.pinned (OpenSpec.upto varyMatchesSpec)

/-- 'heraldlaw16.VaryAlike', WHERE WHAT IT READS IS OF BULK AT MOST 1048576: true; the input reads as it did. -/
def varyAlikeUptoRow : OpenClaim := { program := "ytphkfejckafamaadoor", sum := "ddec19f72a73a66c7f8649ce365876314423e5b6aa5fcbd30b085f4e8790cd35", func := "herald/heraldlaw16.VaryAlike", spec := "varyAlike", inPlace := ["internal/bytealg.CountString", "internal/bytealg.IndexByteString", "internal/bytealg.IndexString"], unfollowed := true, recurses := true, named := ["unicode/utf8.first", "unicode/utf8.acceptRanges", "internal/bytealg.MaxLen"], apart := false, laid := [("unicode/utf8.acceptRanges", laid_unicode_utf8_acceptRanges), ("unicode/utf8.first", laid_unicode_utf8_first)], narrowed := true }
def VaryAlikeUptoSaid : Prop := varyAlikeUptoRow.holds Tryd.pinned (OpenSpec.upto varyAlikeSpec)

/-- 'heraldlaw16.VaryFields', WHERE WHAT IT READS IS OF BULK AT MOST 1048576: true; the input reads as it did. -/
def varyFieldsUptoRow : OpenClaim := { program := "ytphkfejckafamaadoor", sum := "ddec19f72a73a66c7f8649ce365876314423e5b6aa5fcbd30b085f4e8790cd35", func := "herald/heraldlaw16.VaryFields", spec := "varyFields", inPlace := ["internal/bytealg.CountString", "internal/bytealg.IndexByteString", "internal/bytealg.IndexString"], unfollowed := true, recurses := true, named := ["unicode/utf8.first", "unicode/utf8.acceptRanges", "internal/bytealg.MaxLen"], apart := false, laid := [("unicode/utf8.acceptRanges", laid_unicode_utf8_acceptRanges), ("unicode/utf8.first", laid_unicode_utf8_first)], narrowed := true }
def VaryFieldsUptoSaid : Prop := varyFieldsUptoRow.holds Tryd.pinned (OpenSpec.upto varyFieldsSpec)

/-- 'heraldlaw16.VaryTold', WHERE WHAT IT READS IS OF BULK AT MOST 1048576: true; the input reads as it did. -/
def varyToldUptoRow : OpenClaim := { program := "ytphkfejckafamaadoor", sum := "ddec19f72a73a66c7f8649ce365876314423e5b6aa5fcbd30b085f4e8790cd35", func := "herald/heraldlaw16.VaryTold", spec := "varyTold", inPlace := ["internal/bytealg.CountString", "internal/bytealg.IndexByteString", "internal/bytealg.IndexString"], unfollowed := true, recurses := true, named := ["unicode/utf8.first", "unicode/utf8.acceptRanges", "internal/bytealg.MaxLen"], apart := false, laid := [("unicode/utf8.acceptRanges", laid_unicode_utf8_acceptRanges), ("unicode/utf8.first", laid_unicode_utf8_first)], narrowed := true }
def VaryToldUptoSaid : Prop := varyToldUptoRow.holds Tryd.pinned (OpenSpec.upto varyToldSpec)

/-- 'heraldlaw19.CachePlays', WHERE WHAT IT READS IS OF BULK AT MOST 1048576: true; the input reads as it did. -/
def cachePlaysUptoRow : OpenClaim := { program := "ytphkfejckafamaadoor", sum := "ddec19f72a73a66c7f8649ce365876314423e5b6aa5fcbd30b085f4e8790cd35", func := "herald/heraldlaw19.CachePlays", spec := "cachePlays", inPlace := ["internal/bytealg.CountString", "internal/bytealg.IndexByteString", "internal/bytealg.IndexString"], unfollowed := true, recurses := true, named := ["unicode/utf8.first", "unicode/utf8.acceptRanges", "internal/bytealg.MaxLen", "herald/heraldlaw19.mark"], apart := false, laid := [("unicode/utf8.acceptRanges", laid_unicode_utf8_acceptRanges), ("herald/heraldlaw19.mark", laid_herald_heraldlaw19_mark), ("unicode/utf8.first", laid_unicode_utf8_first)], narrowed := true }
def CachePlaysUptoSaid : Prop := cachePlaysUptoRow.holds Tryd.pinned (OpenSpec.upto cachePlaysSpec)

/-- 'heraldlaw19.CacheKeeps', WHERE WHAT IT READS IS OF BULK AT MOST 1048576: true; the input reads as it did. -/
def cacheKeepsUptoRow : OpenClaim := { program := "ytphkfejckafamaadoor", sum := "ddec19f72a73a66c7f8649ce365876314423e5b6aa5fcbd30b085f4e8790cd35", func := "herald/heraldlaw19.CacheKeeps", spec := "cacheKeeps", inPlace := ["internal/bytealg.CountString", "internal/bytealg.IndexByteString", "internal/bytealg.IndexString"], unfollowed := true, recurses := true, named := ["unicode/utf8.first", "unicode/utf8.acceptRanges", "internal/bytealg.MaxLen"], apart := false, laid := [("unicode/utf8.acceptRanges", laid_unicode_utf8_acceptRanges), ("unicode/utf8.first", laid_unicode_utf8_first)], narrowed := true }
def CacheKeepsUptoSaid : Prop := cacheKeepsUptoRow.holds Tryd.pinned (OpenSpec.upto cacheKeepsSpec)

/-- 'heraldlaw19.CacheEnds', WHERE WHAT IT READS IS OF BULK AT MOST 1048576: true; the input reads as it did. -/
def cacheEndsUptoRow : OpenClaim := { program := "ytphkfejckafamaadoor", sum := "ddec19f72a73a66c7f8649ce365876314423e5b6aa5fcbd30b085f4e8790cd35", func := "herald/heraldlaw19.CacheEnds", spec := "cacheEnds", inPlace := ["internal/bytealg.CountString", "internal/bytealg.IndexByteString", "internal/bytealg.IndexString"], unfollowed := true, recurses := true, named := ["unicode/utf8.first", "unicode/utf8.acceptRanges", "internal/bytealg.MaxLen"], apart := false, laid := [("unicode/utf8.acceptRanges", laid_unicode_utf8_acceptRanges), ("unicode/utf8.first", laid_unicode_utf8_first)], narrowed := true }
def CacheEndsUptoSaid : Prop := cacheEndsUptoRow.holds Tryd.pinned (OpenSpec.upto cacheEndsSpec)

/-- 'heraldlaw19.CacheApart', WHERE WHAT IT READS IS OF BULK AT MOST 1048576: true; the input reads as it did. -/
def cacheApartUptoRow : OpenClaim := { program := "ytphkfejckafamaadoor", sum := "ddec19f72a73a66c7f8649ce365876314423e5b6aa5fcbd30b085f4e8790cd35", func := "herald/heraldlaw19.CacheApart", spec := "cacheApart", inPlace := ["internal/bytealg.CountString", "internal/bytealg.IndexByteString", "internal/bytealg.IndexString"], unfollowed := true, recurses := true, named := ["herald/heraldlaw19.mark", "unicode/utf8.first", "unicode/utf8.acceptRanges", "internal/bytealg.MaxLen"], apart := false, laid := [("unicode/utf8.acceptRanges", laid_unicode_utf8_acceptRanges), ("herald/heraldlaw19.mark", laid_herald_heraldlaw19_mark), ("unicode/utf8.first", laid_unicode_utf8_first)], narrowed := true }
def CacheApartUptoSaid : Prop := cacheApartUptoRow.holds Tryd.pinned (OpenSpec.upto cacheApartSpec)

end Rows
end Go.Proofs.YtphkfejckafamaaDoor
