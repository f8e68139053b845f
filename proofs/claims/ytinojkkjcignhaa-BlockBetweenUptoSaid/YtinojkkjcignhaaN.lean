import Derived.Test.YtinojkkjcignhaaB
import Derived.Test.YtinojkkjcignhaaRows
set_option linter.unusedVariables false
set_option linter.unusedSimpArgs false
set_option maxRecDepth 100000
namespace Go.Proofs.Ytinojkkjcignhaa
open Go.Proofs Go.Proofs.YtinojkkjcignhaaA

mutual
theorem bulk_eq {H : Type} : ∀ d : DataW H, Rows.uptoBulk d = bulk d
  | .lit l => by cases l <;> simp [Rows.uptoBulk, bulk]
  | .nil => by simp [Rows.uptoBulk, bulk]
  | .ptr d => by simp [Rows.uptoBulk, bulk, bulk_eq d]
  | .slice e s => by simp [Rows.uptoBulk, bulk, bulkAll_eq e, bulkAll_eq s]
  | .agg p => by simp [Rows.uptoBulk, bulk, bulkAll_eq p]
  | .iface _ d => by simp [Rows.uptoBulk, bulk, bulk_eq d]
  | .map es => by simp [Rows.uptoBulk, bulk, bulkEntries_eq es]
  | .held _ => by simp [Rows.uptoBulk, bulk]
theorem bulkAll_eq {H : Type} : ∀ l : List (DataW H), Rows.uptoBulkAll l = bulkAll l
  | [] => by simp [Rows.uptoBulkAll, bulkAll]
  | d :: r => by simp [Rows.uptoBulkAll, bulkAll, bulk_eq d, bulkAll_eq r]
theorem bulkEntries_eq {H : Type} : ∀ l : List (Lit × DataW H), Rows.uptoBulkEntries l = bulkEntries l
  | [] => by simp [Rows.uptoBulkEntries, bulkEntries]
  | x :: r => by simp [Rows.uptoBulkEntries, bulkEntries, bulkEntry_eq x, bulkEntries_eq r]
theorem bulkEntry_eq {H : Type} : ∀ x : Lit × DataW H, Rows.uptoBulkEntry x = bulkEntry x
  | (l, d) => by cases l <;> simp [Rows.uptoBulkEntry, bulkEntry, bulk_eq d]
end
theorem small {H : Type} {l : List (DataW H)} (h : Rows.uptoSmall H l = true) : bulkAll l ≤ 1048576 := by
  have := of_decide_eq_true h
  rwa [bulkAll_eq] at this
theorem laidOut : laidOutB Try.prog = true := by kernel_rfl
theorem own : ownKnob Try.prog.godebug = none := by kernel_rfl

theorem sum_mem {α : Type} {f : α → Nat} {l : List α} {x : α} (h : x ∈ l) : f x ≤ (l.map f).sum := by
  induction l with
  | nil => cases h
  | cons y r ih =>
    rcases List.mem_cons.1 h with rfl | h
    · simp
    · have := ih h; simp; omega
theorem sum_len {α : Type} {f : α → Nat} (hf : ∀ x, 1 ≤ f x) : ∀ l : List α, l.length ≤ (l.map f).sum
  | [] => by simp
  | x :: r => by have := sum_len hf r; have := hf x; simp; omega

def szP (p : Param) : Nat := 2
def szF (f : Frame) : Nat := f.data.size + f.ps.length + 1
theorem rd_param : Rd Try.prog 42 encP szP (fun _ => True) :=
  rd_map (rd_struct (k := 2) Try.underlying42 (by kernel_rfl) (rdf_cons (k1 := 1) rfl (by kernel_rfl) (rd_int Try.underlying3) (rdf_cons (k1 := 1) rfl (by kernel_rfl) (rd_int Try.underlying2) rdf_nil)))
    (fun a => (a.1, a.2.1)) (fun _ => rfl) (fun _ => Nat.le_refl _) (fun _ _ => trivial)
abbrev FT := Int × Int × Int × ByteArray × Int × Int × Bool × Int × Int × Int × List Param × Unit
theorem rd_frame : Rd Try.prog 30 encF szF (fun _ => True) :=
  rd_map (rd_struct (k := 11) Try.underlying30 (by kernel_rfl)
    (rdf_cons (k1 := 1) rfl (by kernel_rfl) (rd_int Try.underlying3) (rdf_cons (k1 := 1) rfl (by kernel_rfl) (rd_int Try.underlying3) (rdf_cons (k1 := 1) rfl (by kernel_rfl) (rd_int Try.underlying2)
      (rdf_cons (k1 := 1) rfl (by kernel_rfl) (rd_string Try.underlying9) (rdf_cons (k1 := 1) rfl (by kernel_rfl) (rd_int Try.underlying3) (rdf_cons (k1 := 1) rfl (by kernel_rfl) (rd_int Try.underlying2)
      (rdf_cons (k1 := 1) rfl (by kernel_rfl) (rd_bool Try.underlying4) (rdf_cons (k1 := 1) rfl (by kernel_rfl) (rd_int Try.underlying3) (rdf_cons (k1 := 1) rfl (by kernel_rfl) (rd_int Try.underlying2)
      (rdf_cons (k1 := 1) rfl (by kernel_rfl) (rd_int Try.underlying2) (rdf_cons (k1 := 1) rfl (by kernel_rfl) (rd_slice (k := 2) Try.underlying28 rd_param (by kernel_rfl) (fun _ => rfl) (by decide)) rdf_nil))))))))))))
    (fun a : FT => (⟨a.1, a.2.1, a.2.2.1, a.2.2.2.1, a.2.2.2.2.1, a.2.2.2.2.2.1, a.2.2.2.2.2.2.1, a.2.2.2.2.2.2.2.1, a.2.2.2.2.2.2.2.2.1, a.2.2.2.2.2.2.2.2.2.1, a.2.2.2.2.2.2.2.2.2.2.1⟩ : Frame)) (fun _ => rfl)
    (fun a => by have := sum_len (f := szP) (fun _ => by simp [szP]) a.2.2.2.2.2.2.2.2.2.2.1; simp only [szF]; omega) (fun _ _ => trivial)
theorem par_frame : Par Try.prog 30 (fun f => .agg (encF f)) szF (fun _ => True) := par_struct Try.underlying30 rd_frame
theorem par_frames : Par Try.prog 22 fsl (fun l => (l.map szF).sum + 1) (fun l => ∀ x, x ∈ l → True) := par_slice (k := 11) Try.underlying22 rd_frame (by kernel_rfl) (fun _ => rfl) (by decide)
theorem frames_small {l : List Frame} (h : (l.map szF).sum ≤ 1048576) : l.length ≤ 1048576 ∧ ∀ f, f ∈ l → f.data.size ≤ 1048576 ∧ f.ps.length ≤ 1048576 := by
  refine ⟨Nat.le_trans (sum_len (f := szF) (fun f => by simp [szF]) l) h, fun f hf => ?_⟩
  have := sum_mem (f := szF) hf
  simp only [szF] at this
  omega

abbrev boolT : TypeId := 4
theorem und_boolT : Try.prog.underlying boolT = some .bool := Try.underlying4
theorem par_str : Par Try.prog 9 (fun s : ByteArray => vs s) (fun s => s.size + 1) (fun _ => True) := par_string Try.underlying9
theorem par_i64 : Par Try.prog 2 (fun n : Int => vi n) (fun _ => 1) (fun n => (Lit.int .i64 n).wf = true) := par_int Try.underlying2
theorem par_i : Par Try.prog 3 (fun n : Int => vi n) (fun _ => 1) (fun n => (Lit.int .i64 n).wf = true) := par_int Try.underlying3
end Go.Proofs.Ytinojkkjcignhaa
