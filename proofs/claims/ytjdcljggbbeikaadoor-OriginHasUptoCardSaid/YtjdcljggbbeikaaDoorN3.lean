import Derived.Test.YtjdcljggbbeikaaDoorN
set_option linter.unusedVariables false
set_option linter.unusedSimpArgs false
namespace Go.Proofs.YtjdcljggbbeikaaDoor
open Go.Proofs Go.Proofs.YtjdcljggbbeikaaDoorA

theorem par_u64 : Par Tryd.prog 32 (fun n : Int => .val (.int .u64 n)) (fun _ => 1) (fun n => (Lit.int .u64 n).wf = true) := par_int Tryd.underlying32
theorem par_u8 : Par Tryd.prog 5 (fun n : Int => .val (.int .u8 n)) (fun _ => 1) (fun n => (Lit.int .u8 n).wf = true) := par_int Tryd.underlying5
theorem par_b : Par Tryd.prog 4 vb (fun _ => 1) (fun _ => True) := par_bool Tryd.underlying4
theorem wf_u8 {n : Int} (h : (Lit.int .u8 n).wf = true) : ∃ c : UInt8, n = ((c.toNat : Nat) : Int) := by
  have h1 : IntKind.u8.min = 0 := by decide
  have h2 : IntKind.u8.max = 255 := by decide
  simp only [Lit.wf, Bool.and_eq_true, decide_eq_true_eq, h1, h2] at h
  refine ⟨UInt8.ofNat n.toNat, ?_⟩
  rw [UInt8.toNat_ofNat']
  omega
end Go.Proofs.YtjdcljggbbeikaaDoor
