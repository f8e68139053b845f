import Derived.Test.YtmenbolalghljaaH
import Derived.Test.YtmenbolalghljaaRows
import Derived.Test.YtmenbolalghljaaMT
set_option linter.unusedVariables false
set_option linter.unusedSimpArgs false
set_option maxRecDepth 100000
namespace Go.Proofs.Ytmenbolalghljaa
open Go.Proofs Go.Proofs.YtmenbolalghljaaA

mutual
theorem bulk_eq {H : Type} : ∀ d : DataW H, Rows.uptoBulk d = bulk d
  | .lit l => by cases l <;> simp [Rows.uptoBulk, bulk]
  | .nil => by simp [Rows.uptoBulk, bulk]
  | .ptr d => by simp [Rows.uptoBulk, bulk, bulk_eq d]
  | .slice e s => by simp [Rows.uptoBulk, bulk, bulkAll_eq e, bulkAll_eq s]
  | .agg p => by simp [Rows.uptoBulk, bulk, bulkAll_eq p]
  | .iface _ d => by simp [Rows.uptoBulk, bulk, bulk_eq d]
  | .map es => by simp [Rows.uptoBulk, bulk, bulkEntries_eq es]
  | .held _ => by simp [Rows.uptoBulk, bulk]
theorem bulkAll_eq {H : Type} : ∀ l : List (DataW H), Rows.uptoBulkAll l = bulkAll l
  | [] => by simp [Rows.uptoBulkAll, bulkAll]
  | d :: r => by simp [Rows.uptoBulkAll, bulkAll, bulk_eq d, bulkAll_eq r]
theorem bulkEntries_eq {H : Type} : ∀ l : List (Lit × DataW H), Rows.uptoBulkEntries l = bulkEntries l
  | [] => by simp [Rows.uptoBulkEntries, bulkEntries]
  | x :: r => by simp [Rows.uptoBulkEntries, bulkEntries, bulkEntry_eq x, bulkEntries_eq r]
theorem bulkEntry_eq {H : Type} : ∀ x : Lit × DataW H, Rows.uptoBulkEntry x = bulkEntry x
  | (l, d) => by cases l <;> simp [Rows.uptoBulkEntry, bulkEntry, bulk_eq d]
end
theorem small {H : Type} {l : List (DataW H)} (h : Rows.uptoSmall H l = true) : bulkAll l ≤ 1048576 := by
  have := of_decide_eq_true h
  rwa [bulkAll_eq] at this
theorem laidOut : laidOutB Try.prog = true := by kernel_rfl
theorem own : ownKnob Try.prog.godebug = none := by kernel_rfl

theorem sum_mem {α : Type} {f : α → Nat} {l : List α} {x : α} (h : x ∈ l) : f x ≤ (l.map f).sum := by
  induction l with
  | nil => cases h
  | cons y r ih =>
    rcases List.mem_cons.1 h with rfl | h
    · simp
    · have := ih h; simp; omega
theorem sum_len {α : Type} {f : α → Nat} (hf : ∀ x, 1 ≤ f x) : ∀ l : List α, l.length ≤ (l.map f).sum
  | [] => by simp
  | x :: r => by have := sum_len hf r; have := hf x; simp; omega

def szT (t : En) : Nat := t.1.size + t.2.size + 1
theorem rd_en : Rd Try.prog 45 encT szT (fun _ => True) :=
  rd_map (rd_struct (k := 2) Try.underlying45 (by kernel_rfl) (rdf_cons (k1 := 1) rfl (by kernel_rfl) (rd_string Try.underlying9) (rdf_cons (k1 := 1) rfl (by kernel_rfl) (rd_string Try.underlying9) rdf_nil)))
    (fun a : ByteArray × ByteArray × Unit => ((a.1, a.2.1) : En)) (fun _ => rfl) (fun a => by simp only [szT]; omega) (fun _ _ => trivial)
theorem par_ens : Par Try.prog 37 tsl (fun l => (l.map szT).sum + 1) (fun l => ∀ x, x ∈ l → True) := par_slice (k := 2) Try.underlying37 rd_en (by kernel_rfl) (fun _ => rfl) (by decide)
theorem ens_small {l : List En} (h : (l.map szT).sum ≤ 1048576) : l.length ≤ 1048576 ∧ ∀ e, e ∈ l → OkE e := by
  refine ⟨Nat.le_trans (sum_len (f := szT) (fun t => by unfold szT; omega) l) h, fun e he => ?_⟩
  have h1 := Nat.le_trans (sum_mem (f := szT) he) h
  unfold szT at h1
  exact ⟨by omega, by omega⟩

abbrev boolT : TypeId := 4
theorem und_boolT : Try.prog.underlying boolT = some .bool := Try.underlying4
theorem par_l : Par Try.prog 2 (fun n : Int => vi n) (fun _ => 1) (fun n => (Lit.int .i64 n).wf = true) := par_int Try.underlying2
theorem par_s : Par Try.prog 9 vs (fun s => s.size + 1) (fun _ => True) := par_string Try.underlying9
end Go.Proofs.Ytmenbolalghljaa

set_option linter.unusedVariables false
set_option linter.unusedSimpArgs false
set_option maxRecDepth 100000
namespace Go.Proofs.Ytmenbolalghljaa
open Go.Proofs Go.Proofs.YtmenbolalghljaaA

theorem par_is : Par Try.prog 38 (fun l : List Int => .sl 1 (l.map fun n => [vi n]) l.length) (fun l => (l.map fun _ => 1).sum + 1) (fun l => ∀ x, x ∈ l → (Lit.int .i64 x).wf = true) := par_slice (k := 1) Try.underlying38 (rd_int Try.underlying2) (by kernel_rfl) (fun _ => rfl) (by decide)
theorem wf_i64 {n : Int} (h : (Lit.int .i64 n).wf = true) : -9223372036854775808 ≤ n ∧ n ≤ 9223372036854775807 := by
  have h1 : IntKind.i64.min = -9223372036854775808 := by decide
  have h2 : IntKind.i64.max = 9223372036854775807 := by decide
  simp only [Lit.wf, Bool.and_eq_true, decide_eq_true_eq, h1, h2] at h
  exact h
theorem ints_len {l : List Int} {k : Nat} (h : (l.map fun _ => 1).sum ≤ k) : l.length ≤ k := Nat.le_trans (sum_len (f := fun _ => 1) (fun _ => Nat.le_refl _) l) h
end Go.Proofs.Ytmenbolalghljaa

set_option linter.unusedVariables false
set_option linter.unusedSimpArgs false
set_option maxRecDepth 100000
namespace Go.Proofs.Ytmenbolalghljaa
open Go.Proofs Go.Proofs.YtmenbolalghljaaA

def szO (o : Op) : Nat := o.name.size + o.value.size + 5
abbrev OT := Int × Bool × ByteArray × ByteArray × Int × Unit
theorem rd_op : Rd Try.prog 32 encO szO (fun o => (Lit.int .i64 o.kind).wf = true ∧ (Lit.int .i64 o.n).wf = true) :=
  rd_map (rd_struct (k := 5) Try.underlying32 (by kernel_rfl)
    (rdf_cons (k1 := 1) rfl (by kernel_rfl) (rd_int Try.underlying3) (rdf_cons (k1 := 1) rfl (by kernel_rfl) (rd_bool Try.underlying4)
      (rdf_cons (k1 := 1) rfl (by kernel_rfl) (rd_string Try.underlying9) (rdf_cons (k1 := 1) rfl (by kernel_rfl) (rd_string Try.underlying9) (rdf_cons (k1 := 1) rfl (by kernel_rfl) (rd_int Try.underlying2) rdf_nil))))))
    (fun a : OT => (⟨a.1, a.2.1, a.2.2.1, a.2.2.2.1, a.2.2.2.2.1⟩ : Op)) (fun _ => rfl)
    (fun a => by simp only [szO]; omega) (fun a h => ⟨h.1, h.2.2.2.2.1⟩)
theorem par_ops : Par Try.prog 22 (fun l : List Op => .sl 5 (l.map encO) l.length) (fun l => (l.map szO).sum + 1) (fun l => ∀ x, x ∈ l → (Lit.int .i64 x.kind).wf = true ∧ (Lit.int .i64 x.n).wf = true) := par_slice (k := 5) Try.underlying22 rd_op (by kernel_rfl) (fun _ => rfl) (by decide)
theorem ops_small {l : List Op} (h : (l.map szO).sum ≤ 1048576) (hw : ∀ x, x ∈ l → (Lit.int .i64 x.kind).wf = true ∧ (Lit.int .i64 x.n).wf = true) : l.length ≤ 1048576 ∧ ∀ o, o ∈ l → OkO o := by
  refine ⟨Nat.le_trans (sum_len (f := szO) (fun o => by simp [szO]) l) h, fun o ho => ?_⟩
  have h1 := sum_mem (f := szO) ho
  simp only [szO] at h1
  have h2 := hw o ho
  exact ⟨⟨by dsimp only; omega, by dsimp only; omega⟩, wf_i64 h2.1, wf_i64 h2.2⟩
end Go.Proofs.Ytmenbolalghljaa
