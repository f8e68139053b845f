import Derived.Test.YtjdcljggbbeikaaDoorN
set_option linter.unusedVariables false
set_option linter.unusedSimpArgs false
set_option maxRecDepth 100000
namespace Go.Proofs.YtjdcljggbbeikaaDoor
open Go.Proofs Go.Proofs.YtjdcljggbbeikaaDoorA

def szA (t : ByteArray × ByteArray) : Nat := t.1.size + t.2.size + 1
theorem rd_asked : Rd Tryd.prog 50 (fun a : ByteArray × ByteArray => [vs a.1, vs a.2]) szA (fun _ => True) :=
  rd_map (rd_struct (k := 2) Tryd.underlying50 (by kernel_rfl) (rdf_cons (k1 := 1) rfl (by kernel_rfl) (rd_string Tryd.underlying9) (rdf_cons (k1 := 1) rfl (by kernel_rfl) (rd_string Tryd.underlying9) rdf_nil)))
    (fun a : ByteArray × ByteArray × Unit => ((a.1, a.2.1) : ByteArray × ByteArray)) (fun _ => rfl) (fun a => by simp only [szA]; omega) (fun _ _ => trivial)
theorem par_asked : Par Tryd.prog 43 (fun l : List (ByteArray × ByteArray) => .sl 2 (l.map fun a => [vs a.1, vs a.2]) l.length) (fun l => (l.map szA).sum + 1) (fun l => ∀ x, x ∈ l → True) := par_slice (k := 2) Tryd.underlying43 rd_asked (by kernel_rfl) (fun _ => rfl) (by decide)
theorem asked_small {l : List (ByteArray × ByteArray)} (h : (l.map szA).sum ≤ 1048576) : l.length ≤ 1048576 ∧ ∀ a, a ∈ l → a.2.size ≤ 1048576 := by
  refine ⟨Nat.le_trans (sum_len (f := szA) (fun f => by simp [szA]) l) (by omega), fun o ho => ?_⟩
  have := sum_mem (f := szA) ho
  simp only [szA] at this
  omega
end Go.Proofs.YtjdcljggbbeikaaDoor
