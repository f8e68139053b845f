/-
  No cell of these rows narrows 'for every input' (looked for: loops, veiled, ifaces, maps, wideKeys, modest, calm, conditions, laid).
  DERIVED. THE GIVEN ROWS OF THIS SEAT. 5 by the template 'for every input the law returns true; each argument reads behind the call as it read before'; 0 by the template 'total and deterministic' (their statements: YtmenbolalghljaaTotals.lean).
  GIVEN WITH THE SEED: the statements are not yours to turn. If you find one false, say at which input.
  Laid BY PROGRAM, IN A SANDBOX (cutbox-rows.mjs): the forced cells as the released guide's own fill.sh prints them over the translation 89144d9bf98f6a1f… (all of the seat's roots in one cut). By AI agents, Wed Nov 11 2026. No macro, syntax, notation, axiom, sorry.
-/
import Derived.Test.YtmenbolalghljaaChecked
import GoSem.Claim
import GoSem.ClaimJoined
import GoSem.ClaimMapViews
import Derived.JoinedTies
import Derived.KernelRfl
namespace Go.Proofs.Ytmenbolalghljaa
/- THE CELL 'sum', in the pinned program and in every row, IS THE sha256 OF THE DUMP (.gsa) THAT YtmenbolalghljaaProg.lean LOADS. Nothing in Lean hashes anything: it is a label: what it is worth is what the hold of that sum in a sandbox is worth. -/
noncomputable def Try.pinned : Pinned := { name := "ytmenbolalghljaa", sum := "89144d9bf98f6a1f63600d03c3fc373946cd750ea9e2af150a2a7c9ff92b3b7a", checked := Try.checked }
namespace Rows
def none {H : Type} : Left H := { results := [], args := [] }

/-- 'heraldlaw04.TableAll': WHATEVER THE INPUT: true; the input reads as it did. -/
def tableAllSpec : ChangeSpec := { name := "tableAll", fn := fun _ => fun
  | [d1, d2, d3] => { results := [.lit (.bool true)], args := [d1, d2, d3] }
  | _ => none }
def tableAllRow : OpenClaim := { program := "ytmenbolalghljaa", sum := "89144d9bf98f6a1f63600d03c3fc373946cd750ea9e2af150a2a7c9ff92b3b7a", func := "herald/heraldlaw04.TableAll", spec := "tableAll", unfollowed := true, recurses := true, apart := false }
def TableAllSaid : Prop := tableAllRow.holds Try.pinned (OpenSpec.ofChange tableAllSpec)

/-- ITS FALSE NEIGHBOUR: 'it returns false'. Refute it at one input. -/
def tableAllWrong : ChangeSpec := { name := "tableAll", fn := fun _ => fun
  | [d1, d2, d3] => { results := [.lit (.bool false)], args := [d1, d2, d3] }
  | _ => none }
def TableAllWrongFalsely : Prop := tableAllRow.holds Try.pinned (OpenSpec.ofChange tableAllWrong)

/-- 'heraldlaw04.TableLast': WHATEVER THE INPUT: true; the input reads as it did. -/
def tableLastSpec : ChangeSpec := { name := "tableLast", fn := fun _ => fun
  | [d1, d2, d3, d4] => { results := [.lit (.bool true)], args := [d1, d2, d3, d4] }
  | _ => none }
def tableLastRow : OpenClaim := { program := "ytmenbolalghljaa", sum := "89144d9bf98f6a1f63600d03c3fc373946cd750ea9e2af150a2a7c9ff92b3b7a", func := "herald/heraldlaw04.TableLast", spec := "tableLast", unfollowed := true, recurses := true, apart := false }
def TableLastSaid : Prop := tableLastRow.holds Try.pinned (OpenSpec.ofChange tableLastSpec)

/-- ITS FALSE NEIGHBOUR: 'it returns false'. Refute it at one input. -/
def tableLastWrong : ChangeSpec := { name := "tableLast", fn := fun _ => fun
  | [d1, d2, d3, d4] => { results := [.lit (.bool false)], args := [d1, d2, d3, d4] }
  | _ => none }
def TableLastWrongFalsely : Prop := tableLastRow.holds Try.pinned (OpenSpec.ofChange tableLastWrong)

/-- 'heraldlaw04.TableFinds': WHATEVER THE INPUT: true; the input reads as it did. -/
def tableFindsSpec : ChangeSpec := { name := "tableFinds", fn := fun _ => fun
  | [d1, d2, d3] => { results := [.lit (.bool true)], args := [d1, d2, d3] }
  | _ => none }
def tableFindsRow : OpenClaim := { program := "ytmenbolalghljaa", sum := "89144d9bf98f6a1f63600d03c3fc373946cd750ea9e2af150a2a7c9ff92b3b7a", func := "herald/heraldlaw04.TableFinds", spec := "tableFinds", unfollowed := true, recurses := true, apart := false }
def TableFindsSaid : Prop := tableFindsRow.holds Try.pinned (OpenSpec.ofChange tableFindsSpec)

/-- ITS FALSE NEIGHBOUR: 'it returns false'. Refute it at one input. -/
def tableFindsWrong : ChangeSpec := { name := "tableFinds", fn := fun _ => fun
  | [d1, d2, d3] => { results := [.lit (.bool false)], args := [d1, d2, d3] }
  | _ => none }
def TableFindsWrongFalsely : Prop := tableFindsRow.holds Try.pinned (OpenSpec.ofChange tableFindsWrong)

/-- 'heraldlaw04.TableFixed': WHATEVER THE INPUT: true; the input reads as it did. -/
def tableFixedSpec : ChangeSpec := { name := "tableFixed", fn := fun _ => fun
  | [d] => { results := [.lit (.bool true)], args := [d] }
  | _ => none }
def tableFixedRow : OpenClaim := { program := "ytmenbolalghljaa", sum := "89144d9bf98f6a1f63600d03c3fc373946cd750ea9e2af150a2a7c9ff92b3b7a", func := "herald/heraldlaw04.TableFixed", spec := "tableFixed", unfollowed := true, recurses := true, apart := false }
def TableFixedSaid : Prop := tableFixedRow.holds Try.pinned (OpenSpec.ofChange tableFixedSpec)

/-- ITS FALSE NEIGHBOUR: 'it returns false'. Refute it at one input. -/
def tableFixedWrong : ChangeSpec := { name := "tableFixed", fn := fun _ => fun
  | [d] => { results := [.lit (.bool false)], args := [d] }
  | _ => none }
def TableFixedWrongFalsely : Prop := tableFixedRow.holds Try.pinned (OpenSpec.ofChange tableFixedWrong)

/-- 'heraldlaw04.TableCopies': WHATEVER THE INPUT: true; the input reads as it did. -/
def tableCopiesSpec : ChangeSpec := { name := "tableCopies", fn := fun _ => fun
  | [d1, d2, d3, d4, d5] => { results := [.lit (.bool true)], args := [d1, d2, d3, d4, d5] }
  | _ => none }
def tableCopiesRow : OpenClaim := { program := "ytmenbolalghljaa", sum := "89144d9bf98f6a1f63600d03c3fc373946cd750ea9e2af150a2a7c9ff92b3b7a", func := "herald/heraldlaw04.TableCopies", spec := "tableCopies", unfollowed := true, recurses := true, apart := false }
def TableCopiesSaid : Prop := tableCopiesRow.holds Try.pinned (OpenSpec.ofChange tableCopiesSpec)

/-- ITS FALSE NEIGHBOUR: 'it returns false'. Refute it at one input. -/
def tableCopiesWrong : ChangeSpec := { name := "tableCopies", fn := fun _ => fun
  | [d1, d2, d3, d4, d5] => { results := [.lit (.bool false)], args := [d1, d2, d3, d4, d5] }
  | _ => none }
def TableCopiesWrongFalsely : Prop := tableCopiesRow.holds Try.pinned (OpenSpec.ofChange tableCopiesWrong)

/- THE SECOND FORM. 'bulk': how many values and letters a reading holds, each counted each time it is reached (what is shared counts as often as it is met; a slice's spare places count too). A statement '..UptoSaid' is the law's where the arguments, and the package variables that the reading takes, are together of bulk at most 1048576: NARROWER than '..Said'. Prove '..Said' where nothing that the law and all that it calls make is longer than what came in: it says more and counts as full. Else prove '..UptoSaid'. A law counts once. -/
mutual
def uptoBulk {H : Type} : DataW H → Nat
  | .lit (.string bytes) => bytes.length + 1
  | .lit _ => 1
  | .nil => 1
  | .ptr d => uptoBulk d + 1
  | .slice elems spare => uptoBulkAll elems + uptoBulkAll spare + 1
  | .agg parts => uptoBulkAll parts + 1
  | .iface _ d => uptoBulk d + 1
  | .map entries => uptoBulkEntries entries + 1
  | .held _ => 1
def uptoBulkAll {H : Type} : List (DataW H) → Nat
  | [] => 0
  | d :: r => uptoBulk d + uptoBulkAll r
def uptoBulkEntries {H : Type} : List (Lit × DataW H) → Nat
  | [] => 0
  | x :: r => uptoBulkEntry x + uptoBulkEntries r
def uptoBulkEntry {H : Type} : Lit × DataW H → Nat
  | (.string bytes, d) => bytes.length + uptoBulk d + 1
  | (_, d) => uptoBulk d + 1
 end
def uptoSmall : (H : Type) → List (DataW H) → Bool := fun _ ds => decide (uptoBulkAll ds ≤ 1048576)
def OpenSpec.upto (s : _root_.Go.ChangeSpec) : _root_.Go.OpenSpec := { _root_.Go.OpenSpec.ofChange s with cond := some uptoSmall }

/-- 'heraldlaw04.TableAll', WHERE WHAT IT READS IS OF BULK AT MOST 1048576: true; the input reads as it did. -/
def tableAllUptoRow : OpenClaim := { program := "ytmenbolalghljaa", sum := "89144d9bf98f6a1f63600d03c3fc373946cd750ea9e2af150a2a7c9ff92b3b7a", func := "herald/heraldlaw04.TableAll", spec := "tableAll", unfollowed := true, recurses := true, apart := false, narrowed := true }
def TableAllUptoSaid : Prop := tableAllUptoRow.holds Try.pinned (OpenSpec.upto tableAllSpec)

/-- 'heraldlaw04.TableLast', WHERE WHAT IT READS IS OF BULK AT MOST 1048576: true; the input reads as it did. -/
def tableLastUptoRow : OpenClaim := { program := "ytmenbolalghljaa", sum := "89144d9bf98f6a1f63600d03c3fc373946cd750ea9e2af150a2a7c9ff92b3b7a", func := "herald/heraldlaw04.TableLast", spec := "tableLast", unfollowed := true, recurses := true, apart := false, narrowed := true }
def TableLastUptoSaid : Prop := tableLastUptoRow.holds Try.pinned (OpenSpec.upto tableLastSpec)

/-- 'heraldlaw04.TableFinds', WHERE WHAT IT READS IS OF BULK AT MOST 1048576: true; the input reads as it did. -/
def tableFindsUptoRow : OpenClaim := { program := "ytmenbolalghljaa", sum := "89144d9bf98f6a1f63600d03c3fc373946cd750ea9e2af150a2a7c9ff92b3b7a", func := "herald/heraldlaw04.TableFinds", spec := "tableFinds", unfollowed := true, recurses := true, apart := false, narrowed := true }
def TableFindsUptoSaid : Prop := tableFindsUptoRow.holds Try.pinned (OpenSpec.upto tableFindsSpec)

/-- 'heraldlaw04.TableFixed', WHERE WHAT IT READS IS OF BULK AT MOST 1048576: true; the input reads as it did. -/
def tableFixedUptoRow : OpenClaim := { program := "ytmenbolalghljaa", sum := "89144d9bf98f6a1f63600d03c3fc373946cd750ea9e2af150a2a7c9ff92b3b7a", func := "herald/heraldlaw04.TableFixed", spec := "tableFixed", unfollowed := true, recurses := true, apart := false, narrowed := true }
def TableFixedUptoSaid : Prop := tableFixedUptoRow.holds Try.pinned (OpenSpec.upto tableFixedSpec)

/-- 'heraldlaw04.TableCopies', WHERE WHAT IT READS IS OF BULK AT MOST 1048576: true; the input reads as it did. -/
def tableCopiesUptoRow : OpenClaim := { program := "ytmenbolalghljaa", sum := "89144d9bf98f6a1f63600d03c3fc373946cd750ea9e2af150a2a7c9ff92b3b7a", func := "herald/heraldlaw04.TableCopies", spec := "tableCopies", unfollowed := true, recurses := true, apart := false, narrowed := true }
def TableCopiesUptoSaid : Prop := tableCopiesUptoRow.holds Try.pinned (OpenSpec.upto tableCopiesSpec)

end Rows
end Go.Proofs.Ytmenbolalghljaa
