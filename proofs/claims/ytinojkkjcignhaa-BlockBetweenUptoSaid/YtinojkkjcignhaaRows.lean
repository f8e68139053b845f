/-
  No cell of these rows narrows 'for every input' (looked for: loops, veiled, ifaces, maps, wideKeys, modest, calm, conditions, laid).
  DERIVED. THE GIVEN ROWS OF THIS SEAT. 5 by the template 'for every input the law returns true; each argument reads behind the call as it read before'; 0 by the template 'total and deterministic' (their statements: YtinojkkjcignhaaTotals.lean).
  GIVEN WITH THE SEED: the statements are not yours to turn. If you find one false, say at which input.
  Laid BY PROGRAM, IN A SANDBOX (cutbox-rows.mjs): the forced cells as the released guide's own fill.sh prints them over the translation c91123f22e78412c… (all of the seat's roots in one cut). By AI agents, Wed Nov 11 2026. No macro, syntax, notation, axiom, sorry.
-/
import Derived.Test.YtinojkkjcignhaaChecked
import GoSem.Claim
import GoSem.ClaimJoined
import GoSem.ClaimMapViews
import Derived.JoinedTies
import Derived.KernelRfl
namespace Go.Proofs.Ytinojkkjcignhaa
/- THE CELL 'sum', in the pinned program and in every row, IS THE sha256 OF THE DUMP (.gsa) THAT YtinojkkjcignhaaProg.lean LOADS. Nothing in Lean hashes anything: it is a label: what it is worth is what the hold of that sum in a sandbox is worth. -/
noncomputable def Try.pinned : Pinned := { name := "ytinojkkjcignhaa", sum := "c91123f22e78412c69627ca95e2ff12b9b582ee5f6b01b65712cf3e2805a470b", checked := Try.checked }
namespace Rows
def none {H : Type} : Left H := { results := [], args := [] }

/-- 'heraldlaw12.BlockPushes': WHATEVER THE INPUT: true; the input reads as it did. -/
def blockPushesSpec : ChangeSpec := { name := "blockPushes", fn := fun _ => fun
  | [d1, d2] => { results := [.lit (.bool true)], args := [d1, d2] }
  | _ => none }
def blockPushesRow : OpenClaim := { program := "ytinojkkjcignhaa", sum := "c91123f22e78412c69627ca95e2ff12b9b582ee5f6b01b65712cf3e2805a470b", func := "herald/heraldlaw12.BlockPushes", spec := "blockPushes", inPlace := ["internal/abi.NoEscape"], apart := false }
def BlockPushesSaid : Prop := blockPushesRow.holds Try.pinned (OpenSpec.ofChange blockPushesSpec)

/-- ITS FALSE NEIGHBOUR: 'it returns false'. Refute it at one input. -/
def blockPushesWrong : ChangeSpec := { name := "blockPushes", fn := fun _ => fun
  | [d1, d2] => { results := [.lit (.bool false)], args := [d1, d2] }
  | _ => none }
def BlockPushesWrongFalsely : Prop := blockPushesRow.holds Try.pinned (OpenSpec.ofChange blockPushesWrong)

/-- 'heraldlaw12.BlockSplits': WHATEVER THE INPUT: true; the input reads as it did. -/
def blockSplitsSpec : ChangeSpec := { name := "blockSplits", fn := fun _ => fun
  | [d1, d2, d3] => { results := [.lit (.bool true)], args := [d1, d2, d3] }
  | _ => none }
def blockSplitsRow : OpenClaim := { program := "ytinojkkjcignhaa", sum := "c91123f22e78412c69627ca95e2ff12b9b582ee5f6b01b65712cf3e2805a470b", func := "herald/heraldlaw12.BlockSplits", spec := "blockSplits", inPlace := ["internal/abi.NoEscape"], apart := false }
def BlockSplitsSaid : Prop := blockSplitsRow.holds Try.pinned (OpenSpec.ofChange blockSplitsSpec)

/-- ITS FALSE NEIGHBOUR: 'it returns false'. Refute it at one input. -/
def blockSplitsWrong : ChangeSpec := { name := "blockSplits", fn := fun _ => fun
  | [d1, d2, d3] => { results := [.lit (.bool false)], args := [d1, d2, d3] }
  | _ => none }
def BlockSplitsWrongFalsely : Prop := blockSplitsRow.holds Try.pinned (OpenSpec.ofChange blockSplitsWrong)

/-- 'heraldlaw12.BlockBack': WHATEVER THE INPUT: true; the input reads as it did. -/
def blockBackSpec : ChangeSpec := { name := "blockBack", fn := fun _ => fun
  | [d1, d2, d3] => { results := [.lit (.bool true)], args := [d1, d2, d3] }
  | _ => none }
def blockBackRow : OpenClaim := { program := "ytinojkkjcignhaa", sum := "c91123f22e78412c69627ca95e2ff12b9b582ee5f6b01b65712cf3e2805a470b", func := "herald/heraldlaw12.BlockBack", spec := "blockBack", inPlace := ["internal/abi.NoEscape"], apart := false }
def BlockBackSaid : Prop := blockBackRow.holds Try.pinned (OpenSpec.ofChange blockBackSpec)

/-- ITS FALSE NEIGHBOUR: 'it returns false'. Refute it at one input. -/
def blockBackWrong : ChangeSpec := { name := "blockBack", fn := fun _ => fun
  | [d1, d2, d3] => { results := [.lit (.bool false)], args := [d1, d2, d3] }
  | _ => none }
def BlockBackWrongFalsely : Prop := blockBackRow.holds Try.pinned (OpenSpec.ofChange blockBackWrong)

/-- 'heraldlaw12.BlockCuts': WHATEVER THE INPUT: true; the input reads as it did. -/
def blockCutsSpec : ChangeSpec := { name := "blockCuts", fn := fun _ => fun
  | [d1, d2, d3] => { results := [.lit (.bool true)], args := [d1, d2, d3] }
  | _ => none }
def blockCutsRow : OpenClaim := { program := "ytinojkkjcignhaa", sum := "c91123f22e78412c69627ca95e2ff12b9b582ee5f6b01b65712cf3e2805a470b", func := "herald/heraldlaw12.BlockCuts", spec := "blockCuts", inPlace := ["internal/abi.NoEscape"], apart := false }
def BlockCutsSaid : Prop := blockCutsRow.holds Try.pinned (OpenSpec.ofChange blockCutsSpec)

/-- ITS FALSE NEIGHBOUR: 'it returns false'. Refute it at one input. -/
def blockCutsWrong : ChangeSpec := { name := "blockCuts", fn := fun _ => fun
  | [d1, d2, d3] => { results := [.lit (.bool false)], args := [d1, d2, d3] }
  | _ => none }
def BlockCutsWrongFalsely : Prop := blockCutsRow.holds Try.pinned (OpenSpec.ofChange blockCutsWrong)

/-- 'heraldlaw12.BlockBetween': WHATEVER THE INPUT: true; the input reads as it did. -/
def blockBetweenSpec : ChangeSpec := { name := "blockBetween", fn := fun _ => fun
  | [d1, d2, d3] => { results := [.lit (.bool true)], args := [d1, d2, d3] }
  | _ => none }
def blockBetweenRow : OpenClaim := { program := "ytinojkkjcignhaa", sum := "c91123f22e78412c69627ca95e2ff12b9b582ee5f6b01b65712cf3e2805a470b", func := "herald/heraldlaw12.BlockBetween", spec := "blockBetween", inPlace := ["internal/abi.NoEscape"], apart := false }
def BlockBetweenSaid : Prop := blockBetweenRow.holds Try.pinned (OpenSpec.ofChange blockBetweenSpec)

/-- ITS FALSE NEIGHBOUR: 'it returns false'. Refute it at one input. -/
def blockBetweenWrong : ChangeSpec := { name := "blockBetween", fn := fun _ => fun
  | [d1, d2, d3] => { results := [.lit (.bool false)], args := [d1, d2, d3] }
  | _ => none }
def BlockBetweenWrongFalsely : Prop := blockBetweenRow.holds Try.pinned (OpenSpec.ofChange blockBetweenWrong)

/- THE SECOND FORM. 'bulk': how many values and letters a reading holds, each counted each time it is reached (what is shared counts as often as it is met; a slice's spare places count too). A statement '..UptoSaid' is the law's where the arguments, and the package variables that the reading takes, are together of bulk at most 1048576: NARROWER than '..Said'. Prove '..Said' where nothing that the law and all that it calls make is longer than what came in: it says more and counts as full. Else prove '..UptoSaid'. A law counts once. -/
mutual
def uptoBulk {H : Type} : DataW H → Nat
  | .lit (.string bytes) => bytes.length + 1
  | .lit _ => 1
  | .nil => 1
  | .ptr d => uptoBulk d + 1
  | .slice elems spare => uptoBulkAll elems + uptoBulkAll spare + 1
  | .agg parts => uptoBulkAll parts + 1
  | .iface _ d => uptoBulk d + 1
  | .map entries => uptoBulkEntries entries + 1
  | .held _ => 1
def uptoBulkAll {H : Type} : List (DataW H) → Nat
  | [] => 0
  | d :: r => uptoBulk d + uptoBulkAll r
def uptoBulkEntries {H : Type} : List (Lit × DataW H) → Nat
  | [] => 0
  | x :: r => uptoBulkEntry x + uptoBulkEntries r
def uptoBulkEntry {H : Type} : Lit × DataW H → Nat
  | (.string bytes, d) => bytes.length + uptoBulk d + 1
  | (_, d) => uptoBulk d + 1
 end
def uptoSmall : (H : Type) → List (DataW H) → Bool := fun _ ds => decide (uptoBulkAll ds ≤ 1048576)
def OpenSpec.upto (s : _root_.Go.ChangeSpec) : _root_.Go.OpenSpec := { _root_.Go.OpenSpec.ofChange s with cond := some uptoSmall }

/-- 'heraldlaw12.BlockPushes', WHERE WHAT IT READS IS OF BULK AT MOST 1048576: true; the input reads as it did. -/
def blockPushesUptoRow : OpenClaim := { program := "ytinojkkjcignhaa", sum := "c91123f22e78412c69627ca95e2ff12b9b582ee5f6b01b65712cf3e2805a470b", func := "herald/heraldlaw12.BlockPushes", spec := "blockPushes", inPlace := ["internal/abi.NoEscape"], apart := false, narrowed := true }
def BlockPushesUptoSaid : Prop := blockPushesUptoRow.holds Try.pinned (OpenSpec.upto blockPushesSpec)

/-- 'heraldlaw12.BlockSplits', WHERE WHAT IT READS IS OF BULK AT MOST 1048576: true; the input reads as it did. -/
def blockSplitsUptoRow : OpenClaim := { program := "ytinojkkjcignhaa", sum := "c91123f22e78412c69627ca95e2ff12b9b582ee5f6b01b65712cf3e2805a470b", func := "herald/heraldlaw12.BlockSplits", spec := "blockSplits", inPlace := ["internal/abi.NoEscape"], apart := false, narrowed := true }
def BlockSplitsUptoSaid : Prop := blockSplitsUptoRow.holds Try.pinned (OpenSpec.upto blockSplitsSpec)

/-- 'heraldlaw12.BlockBack', WHERE WHAT IT READS IS OF BULK AT MOST 1048576: true; the input reads as it did. -/
def blockBackUptoRow : OpenClaim := { program := "ytinojkkjcignhaa", sum := "c91123f22e78412c69627ca95e2ff12b9b582ee5f6b01b65712cf3e2805a470b", func := "herald/heraldlaw12.BlockBack", spec := "blockBack", inPlace := ["internal/abi.NoEscape"], apart := false, narrowed := true }
def BlockBackUptoSaid : Prop := blockBackUptoRow.holds Try.pinned (OpenSpec.upto blockBackSpec)

/-- 'heraldlaw12.BlockCuts', WHERE WHAT IT READS IS OF BULK AT MOST 1048576: true; the input reads as it did. -/
def blockCutsUptoRow : OpenClaim := { program := "ytinojkkjcignhaa", sum := "c91123f22e78412c69627ca95e2ff12b9b582ee5f6b01b65712cf3e2805a470b", func := "herald/heraldlaw12.BlockCuts", spec := "blockCuts", inPlace := ["internal/abi.NoEscape"], apart := false, narrowed := true }
def BlockCutsUptoSaid : Prop := blockCutsUptoRow.holds Try.pinned (OpenSpec.upto blockCutsSpec)

/-- 'heraldlaw12.BlockBetween', WHERE WHAT IT READS IS OF BULK AT MOST 1048576: true; the input reads as it did. -/
def blockBetweenUptoRow : OpenClaim := { program := "ytinojkkjcignhaa", sum := "c91123f22e78412c69627ca95e2ff12b9b582ee5f6b01b65712cf3e2805a470b", func := "herald/heraldlaw12.BlockBetween", spec := "blockBetween", inPlace := ["internal/abi.NoEscape"], apart := false, narrowed := true }
def BlockBetweenUptoSaid : Prop := blockBetweenUptoRow.holds Try.pinned (OpenSpec.upto blockBetweenSpec)

end Rows
end Go.Proofs.Ytinojkkjcignhaa
