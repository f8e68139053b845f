/-
  No cell of these rows narrows 'for every input' (looked for: loops, veiled, ifaces, maps, wideKeys, modest, calm, conditions, laid).
  DERIVED. THE GIVEN ROWS OF THIS SEAT. 4 by the template 'for every input the law returns true; each argument reads behind the call as it read before'; 0 by the template 'total and deterministic' (their statements: YtkidjeejhhfbpaaTotals.lean).
  GIVEN WITH THE SEED: the statements are not yours to turn. If you find one false, say at which input.
  Laid BY PROGRAM, IN A SANDBOX (cutbox-rows.mjs): the forced cells as the released guide's own fill.sh prints them over the translation 4c301fdb99efeb27… (all of the seat's roots in one cut). By AI agents, Wed Nov 11 2026. No macro, syntax, notation, axiom, sorry.
-/
import Derived.Test.YtkidjeejhhfbpaaChecked
import GoSem.Claim
import GoSem.ClaimJoined
import GoSem.ClaimMapViews
import Derived.JoinedTies
import Derived.KernelRfl
namespace Go.Proofs.Ytkidjeejhhfbpaa
/- THE CELL 'sum', in the pinned program and in every row, IS THE sha256 OF THE DUMP (.gsa) THAT YtkidjeejhhfbpaaProg.lean LOADS. Nothing in Lean hashes anything: it is a label: what it is worth is what the hold of that sum in a sandbox is worth. -/
noncomputable def Try.pinned : Pinned := { name := "ytkidjeejhhfbpaa", sum := "4c301fdb99efeb27951ac7c0b033b60ec69369687e59d23d4029a143c1914097", checked := Try.checked }
namespace Rows
def none {H : Type} : Left H := { results := [], args := [] }

/-- 'heraldlaw18.ManifestPlans': WHATEVER THE INPUT: true; the input reads as it did. -/
def manifestPlansSpec : ChangeSpec := { name := "manifestPlans", fn := fun _ => fun
  | [d1, d2, d3] => { results := [.lit (.bool true)], args := [d1, d2, d3] }
  | _ => none }
def manifestPlansRow : OpenClaim := { program := "ytkidjeejhhfbpaa", sum := "4c301fdb99efeb27951ac7c0b033b60ec69369687e59d23d4029a143c1914097", func := "herald/heraldlaw18.ManifestPlans", spec := "manifestPlans", unfollowed := true, recurses := true, plainKeys := false, apart := false }
def ManifestPlansSaid : Prop := manifestPlansRow.holds Try.pinned (OpenSpec.ofChange manifestPlansSpec)

/-- ITS FALSE NEIGHBOUR: 'it returns false'. Refute it at one input. -/
def manifestPlansWrong : ChangeSpec := { name := "manifestPlans", fn := fun _ => fun
  | [d1, d2, d3] => { results := [.lit (.bool false)], args := [d1, d2, d3] }
  | _ => none }
def ManifestPlansWrongFalsely : Prop := manifestPlansRow.holds Try.pinned (OpenSpec.ofChange manifestPlansWrong)

/-- 'heraldlaw18.ManifestReaches': WHATEVER THE INPUT: true; the input reads as it did. -/
def manifestReachesSpec : ChangeSpec := { name := "manifestReaches", fn := fun _ => fun
  | [d1, d2] => { results := [.lit (.bool true)], args := [d1, d2] }
  | _ => none }
def manifestReachesRow : OpenClaim := { program := "ytkidjeejhhfbpaa", sum := "4c301fdb99efeb27951ac7c0b033b60ec69369687e59d23d4029a143c1914097", func := "herald/heraldlaw18.ManifestReaches", spec := "manifestReaches", unfollowed := true, recurses := true, plainKeys := false, apart := false }
def ManifestReachesSaid : Prop := manifestReachesRow.holds Try.pinned (OpenSpec.ofChange manifestReachesSpec)

/-- ITS FALSE NEIGHBOUR: 'it returns false'. Refute it at one input. -/
def manifestReachesWrong : ChangeSpec := { name := "manifestReaches", fn := fun _ => fun
  | [d1, d2] => { results := [.lit (.bool false)], args := [d1, d2] }
  | _ => none }
def ManifestReachesWrongFalsely : Prop := manifestReachesRow.holds Try.pinned (OpenSpec.ofChange manifestReachesWrong)

/-- 'heraldlaw18.ManifestDown': WHATEVER THE INPUT: true; the input reads as it did. -/
def manifestDownSpec : ChangeSpec := { name := "manifestDown", fn := fun _ => fun
  | [d1, d2] => { results := [.lit (.bool true)], args := [d1, d2] }
  | _ => none }
def manifestDownRow : OpenClaim := { program := "ytkidjeejhhfbpaa", sum := "4c301fdb99efeb27951ac7c0b033b60ec69369687e59d23d4029a143c1914097", func := "herald/heraldlaw18.ManifestDown", spec := "manifestDown", unfollowed := true, recurses := true, plainKeys := false, apart := false }
def ManifestDownSaid : Prop := manifestDownRow.holds Try.pinned (OpenSpec.ofChange manifestDownSpec)

/-- ITS FALSE NEIGHBOUR: 'it returns false'. Refute it at one input. -/
def manifestDownWrong : ChangeSpec := { name := "manifestDown", fn := fun _ => fun
  | [d1, d2] => { results := [.lit (.bool false)], args := [d1, d2] }
  | _ => none }
def ManifestDownWrongFalsely : Prop := manifestDownRow.holds Try.pinned (OpenSpec.ofChange manifestDownWrong)

/-- 'heraldlaw18.ManifestCuts': WHATEVER THE INPUT: true; the input reads as it did. -/
def manifestCutsSpec : ChangeSpec := { name := "manifestCuts", fn := fun _ => fun
  | [d1, d2, d3, d4] => { results := [.lit (.bool true)], args := [d1, d2, d3, d4] }
  | _ => none }
def manifestCutsRow : OpenClaim := { program := "ytkidjeejhhfbpaa", sum := "4c301fdb99efeb27951ac7c0b033b60ec69369687e59d23d4029a143c1914097", func := "herald/heraldlaw18.ManifestCuts", spec := "manifestCuts", unfollowed := true, recurses := true, plainKeys := false, apart := false }
def ManifestCutsSaid : Prop := manifestCutsRow.holds Try.pinned (OpenSpec.ofChange manifestCutsSpec)

/-- ITS FALSE NEIGHBOUR: 'it returns false'. Refute it at one input. -/
def manifestCutsWrong : ChangeSpec := { name := "manifestCuts", fn := fun _ => fun
  | [d1, d2, d3, d4] => { results := [.lit (.bool false)], args := [d1, d2, d3, d4] }
  | _ => none }
def ManifestCutsWrongFalsely : Prop := manifestCutsRow.holds Try.pinned (OpenSpec.ofChange manifestCutsWrong)

/- THE SECOND FORM. 'bulk': how many values and letters a reading holds, each counted each time it is reached (what is shared counts as often as it is met; a slice's spare places count too). A statement '..UptoSaid' is the law's where the arguments, and the package variables that the reading takes, are together of bulk at most 1048576: NARROWER than '..Said'. Prove '..Said' where nothing that the law and all that it calls make is longer than what came in: it says more and counts as full. Else prove '..UptoSaid'. A law counts once. -/
mutual
def uptoBulk {H : Type} : DataW H → Nat
  | .lit (.string bytes) => bytes.length + 1
  | .lit _ => 1
  | .nil => 1
  | .ptr d => uptoBulk d + 1
  | .slice elems spare => uptoBulkAll elems + uptoBulkAll spare + 1
  | .agg parts => uptoBulkAll parts + 1
  | .iface _ d => uptoBulk d + 1
  | .map entries => uptoBulkEntries entries + 1
  | .held _ => 1
def uptoBulkAll {H : Type} : List (DataW H) → Nat
  | [] => 0
  | d :: r => uptoBulk d + uptoBulkAll r
def uptoBulkEntries {H : Type} : List (Lit × DataW H) → Nat
  | [] => 0
  | x :: r => uptoBulkEntry x + uptoBulkEntries r
def uptoBulkEntry {H : Type} : Lit × DataW H → Nat
  | (.string bytes, d) => bytes.length + uptoBulk d + 1
  | (_, d) => uptoBulk d + 1
 end
def uptoSmall : (H : Type) → List (DataW H) → Bool := fun _ ds => decide (uptoBulkAll ds ≤ 1048576)
def OpenSpec.upto (s : _root_.Go.ChangeSpec) : _root_.Go.OpenSpec := { _root_.Go.OpenSpec.ofChange s with cond := some uptoSmall }

/-- 'heraldlaw18.ManifestPlans', WHERE WHAT IT READS IS OF BULK AT MOST 1048576: true; the input reads as it did. -/
def manifestPlansUptoRow : OpenClaim := { program := "ytkidjeejhhfbpaa", sum := "4c301fdb99efeb27951ac7c0b033b60ec69369687e59d23d4029a143c1914097", func := "herald/heraldlaw18.ManifestPlans", spec := "manifestPlans", unfollowed := true, recurses := true, plainKeys := false, apart := false, narrowed := true }
def ManifestPlansUptoSaid : Prop := manifestPlansUptoRow.holds Try.pinned (OpenSpec.upto manifestPlansSpec)

/-- 'heraldlaw18.ManifestReaches', WHERE WHAT IT READS IS OF BULK AT MOST 1048576: true; the input reads as it did. -/
def manifestReachesUptoRow : OpenClaim := { program := "ytkidjeejhhfbpaa", sum := "4c301fdb99efeb27951ac7c0b033b60ec69369687e59d23d4029a143c1914097", func := "herald/heraldlaw18.ManifestReaches", spec := "manifestReaches", unfollowed := true, recurses := true, plainKeys := false, apart := false, narrowed := true }
def ManifestReachesUptoSaid : Prop := manifestReachesUptoRow.holds Try.pinned (OpenSpec.upto manifestReachesSpec)

/-- 'heraldlaw18.ManifestDown', WHERE WHAT IT READS IS OF BULK AT MOST 1048576: true; the input reads as it did. -/
def manifestDownUptoRow : OpenClaim := { program := "ytkidjeejhhfbpaa", sum := "4c301fdb99efeb27951ac7c0b033b60ec69369687e59d23d4029a143c1914097", func := "herald/heraldlaw18.ManifestDown", spec := "manifestDown", unfollowed := true, recurses := true, plainKeys := false, apart := false, narrowed := true }
def ManifestDownUptoSaid : Prop := manifestDownUptoRow.holds Try.pinned (OpenSpec.upto manifestDownSpec)

/-- 'heraldlaw18.ManifestCuts', WHERE WHAT IT READS IS OF BULK AT MOST 1048576: true; the input reads as it did. -/
def manifestCutsUptoRow : OpenClaim := { program := "ytkidjeejhhfbpaa", sum := "4c301fdb99efeb27951ac7c0b033b60ec69369687e59d23d4029a143c1914097", func := "herald/heraldlaw18.ManifestCuts", spec := "manifestCuts", unfollowed := true, recurses := true, plainKeys := false, apart := false, narrowed := true }
def ManifestCutsUptoSaid : Prop := manifestCutsUptoRow.holds Try.pinned (OpenSpec.upto manifestCutsSpec)

end Rows
end Go.Proofs.Ytkidjeejhhfbpaa
