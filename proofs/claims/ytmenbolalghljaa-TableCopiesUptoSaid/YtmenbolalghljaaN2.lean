import Derived.Test.YtmenbolalghljaaN
set_option linter.unusedVariables false
set_option linter.unusedSimpArgs false
set_option maxRecDepth 100000
namespace Go.Proofs.Ytmenbolalghljaa
open Go.Proofs Go.Proofs.YtmenbolalghljaaA

theorem par_is : Par Try.prog 38 (fun l : List Int => .sl 1 (l.map fun n => [vi n]) l.length) (fun l => (l.map fun _ => 1).sum + 1) (fun l => ∀ x, x ∈ l → (Lit.int .i64 x).wf = true) := par_slice (k := 1) Try.underlying38 (rd_int Try.underlying2) (by kernel_rfl) (fun _ => rfl) (by decide)
theorem wf_i64 {n : Int} (h : (Lit.int .i64 n).wf = true) : -9223372036854775808 ≤ n ∧ n ≤ 9223372036854775807 := by
  have h1 : IntKind.i64.min = -9223372036854775808 := by decide
  have h2 : IntKind.i64.max = 9223372036854775807 := by decide
  simp only [Lit.wf, Bool.and_eq_true, decide_eq_true_eq, h1, h2] at h
  exact h
theorem ints_len {l : List Int} {k : Nat} (h : (l.map fun _ => 1).sum ≤ k) : l.length ≤ k := Nat.le_trans (sum_len (f := fun _ => 1) (fun _ => Nat.le_refl _) l) h
end Go.Proofs.Ytmenbolalghljaa
