import Derived.Test.YtphkfejckafamaaDoorTN
import Derived.Test.YtphkfejckafamaaDoorZ
set_option linter.unusedVariables false
set_option linter.unusedSimpArgs false
set_option maxRecDepth 100000
namespace Go.Proofs.YtphkfejckafamaaDoor
open Go.Proofs Go.Proofs.YtphkfejckafamaaDoorA

def szO (o : Op) : Nat := szRq o.q + szRs o.r + 1
theorem rd_op : Rd Tryd.prog 54 encO szO (fun o => (Lit.int .i64 o.tk).wf = true) :=
  rd_map (rd_struct (k := 13) Tryd.underlying54 (by kernel_rfl) (rdf_cons (k1 := 1) rfl (by kernel_rfl) (rd_int Tryd.underlying3) (rdf_cons (k1 := 1) rfl (by kernel_rfl) (rd_bool Tryd.underlying4) (rdf_cons (k1 := 6) rfl (by kernel_rfl) rd_rq (rdf_cons (k1 := 3) rfl (by kernel_rfl) rd_rs
      (rdf_cons (k1 := 1) rfl (by kernel_rfl) (rd_int Tryd.underlying2) (rdf_cons (k1 := 1) rfl (by kernel_rfl) (rd_int Tryd.underlying2) rdf_nil)))))))
    (fun a : Int × Bool × Rq × Rs × Int × Int × Unit => (⟨a.1, a.2.1, a.2.2.1, a.2.2.2.1, a.2.2.2.2.1, a.2.2.2.2.2.1⟩ : Op)) (fun _ => rfl) (fun a => by simp only [szO]; omega) (fun a h => h.2.2.2.2.2.1)
theorem par_ops : Par Tryd.prog 45 osl (fun l => (l.map szO).sum + 1) (fun l => ∀ x, x ∈ l → (Lit.int .i64 x.tk).wf = true) := par_slice (k := 13) Tryd.underlying45 rd_op (by kernel_rfl) (fun _ => rfl) (by decide)
theorem rd_conf : Rd Tryd.prog 44 encC (fun _ => 1) (fun _ => True) :=
  rd_map (rd_struct (k := 4) Tryd.underlying44 (by kernel_rfl) (rdf_cons (k1 := 1) rfl (by kernel_rfl) (rd_int Tryd.underlying2) (rdf_cons (k1 := 1) rfl (by kernel_rfl) (rd_int Tryd.underlying2) (rdf_cons (k1 := 1) rfl (by kernel_rfl) (rd_int Tryd.underlying2) (rdf_cons (k1 := 1) rfl (by kernel_rfl) (rd_int Tryd.underlying2) rdf_nil)))))
    (fun a : Int × Int × Int × Int × Unit => (⟨a.1, a.2.1, a.2.2.1, a.2.2.2.1⟩ : Cf)) (fun _ => rfl) (fun a => by omega) (fun _ _ => trivial)
theorem par_conf : Par Tryd.prog 44 (fun c => .agg (encC c)) (fun _ => 1) (fun _ => True) := par_struct Tryd.underlying44 rd_conf
theorem okO {l : List Op} (h : (l.map szO).sum ≤ 1048576) (hw : ∀ x, x ∈ l → (Lit.int .i64 x.tk).wf = true) : l.length ≤ 1048576 ∧ ∀ o, o ∈ l → OkO o := by
  refine ⟨Nat.le_trans (sum_len (f := szO) (fun o => by simp [szO]) l) h, fun o ho => ?_⟩
  have h1 := sum_mem (f := szO) ho
  simp only [szO, szRq, szRs] at h1
  obtain ⟨n1, g1⟩ := fs_small (l := o.q.fs) (by omega)
  obtain ⟨n2, g2⟩ := fs_small (l := o.r.fs) (by omega)
  have h3 := namesN_len o.r.fs
  have h4 : (o.r.fs.map szFl).sum + 1 = szFs o.r.fs := rfl
  refine ⟨⟨n1, fun f hf => ?_⟩, ⟨⟨n2, fun f hf => ?_⟩, by omega, by omega⟩, wf_i64 (hw o ho)⟩
  · have := g1 f hf; omega
  · have := g2 f hf; omega
end Go.Proofs.YtphkfejckafamaaDoor
