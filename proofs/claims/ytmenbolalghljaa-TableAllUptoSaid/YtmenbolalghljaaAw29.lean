/- Where ways come together. -/
import Derived.Test.YtmenbolalghljaaAw28
set_option linter.unusedVariables false
namespace Go.Proofs.YtmenbolalghljaaA
open Go.RowKit
section
variable {P : Program} {n : Nat} {ro : Option Nat} {G : CtxR P n ro} {K : Kont} {st : St}
/-- Behind x the ways come together in states I g; y goes on from there. -/
theorem aw_join {x y : Code} {ι : Type} (I : ι → St) (Inv : ι → Prop) (h1 : AW G x st (.loop (fun st' => ∃ g, Inv g ∧ Sub st' (I g)) K)) (h2 : ∀ g, Inv g → AW G y (I g) K) : AW G x st (.seq y K) := by
  refine ⟨fun a w hr => wpIn_mono (h1.h a w hr) ?_⟩
  rintro e a' w' ⟨st', hq, hr'⟩
  refine ⟨st', ?_, hr'⟩
  cases e with
  | normal =>
    obtain ⟨g, hg, hs⟩ := hq
    exact ((h2 g hg).sub hs).h
  | _ => exact hq
end
end Go.Proofs.YtmenbolalghljaaA
