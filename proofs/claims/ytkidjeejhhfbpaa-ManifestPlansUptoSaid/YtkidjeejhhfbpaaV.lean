import Derived.Test.YtkidjeejhhfbpaaU
import Derived.Test.YtkidjeejhhfbpaaN
set_option linter.unusedVariables false
set_option linter.unusedSimpArgs false
set_option maxRecDepth 100000
namespace Go.Proofs.Ytkidjeejhhfbpaa
open Go.Proofs Go.Proofs.YtkidjeejhhfbpaaA

theorem tgs_small {l : List Tg} (h : szTs l ≤ 1048577) : l.length ≤ 1048576 := by
  have := sum_len (f := szT) (fun t => by unfold szT; omega) l
  unfold szTs at h
  omega
theorem tg_small {t : Tg} (h : szT t ≤ 1048577) : OkT t := by
  unfold szT at h
  exact ⟨by omega, by omega⟩
theorem rls_small {l : List Rl} (h : (l.map szRl).sum ≤ 1048576) : l.length ≤ 1048576 ∧ ∀ r, r ∈ l → OkR r ∧ r.2.length ≤ 1048576 := by
  refine ⟨Nat.le_trans (sum_len (f := szRl) (fun r => by unfold szRl szTs; omega) l) h, fun r hr => ?_⟩
  have h1 := Nat.le_trans (sum_mem (f := szRl) hr) h
  unfold szRl at h1
  have h2 : szTs r.2 ≤ 1048577 := by omega
  have h3 := tgs_small h2
  refine ⟨⟨tg_small (by omega), by omega, fun t ht => ?_⟩, h3⟩
  have h4 := sum_mem (f := szT) ht
  exact tg_small (by unfold szTs at h2; omega)
end Go.Proofs.Ytkidjeejhhfbpaa
