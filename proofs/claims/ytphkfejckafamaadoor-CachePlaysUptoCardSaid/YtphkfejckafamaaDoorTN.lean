import Derived.Test.YtphkfejckafamaaDoorI
import Derived.Test.YtphkfejckafamaaDoorRows
import Derived.Test.YtphkfejckafamaaDoorCards
import Derived.Test.YtphkfejckafamaaDoorTie
import Derived.Deep.DeepHandedRow
import Derived.LaidLaws
set_option linter.unusedVariables false
set_option linter.unusedSimpArgs false
set_option maxRecDepth 100000
namespace Go.Proofs.YtphkfejckafamaaDoor
open Go.Proofs Go.Proofs.YtphkfejckafamaaDoorA

mutual
theorem bulk_eq {H : Type} : ∀ d : DataW H, Rows.uptoBulk d = bulk d
  | .lit l => by cases l <;> simp [Rows.uptoBulk, bulk]
  | .nil => by simp [Rows.uptoBulk, bulk]
  | .ptr d => by simp [Rows.uptoBulk, bulk, bulk_eq d]
  | .slice e s => by simp [Rows.uptoBulk, bulk, bulkAll_eq e, bulkAll_eq s]
  | .agg p => by simp [Rows.uptoBulk, bulk, bulkAll_eq p]
  | .iface _ d => by simp [Rows.uptoBulk, bulk, bulk_eq d]
  | .map es => by simp [Rows.uptoBulk, bulk, bulkEntries_eq es]
  | .held _ => by simp [Rows.uptoBulk, bulk]
theorem bulkAll_eq {H : Type} : ∀ l : List (DataW H), Rows.uptoBulkAll l = bulkAll l
  | [] => by simp [Rows.uptoBulkAll, bulkAll]
  | d :: r => by simp [Rows.uptoBulkAll, bulkAll, bulk_eq d, bulkAll_eq r]
theorem bulkEntries_eq {H : Type} : ∀ l : List (Lit × DataW H), Rows.uptoBulkEntries l = bulkEntries l
  | [] => by simp [Rows.uptoBulkEntries, bulkEntries]
  | x :: r => by simp [Rows.uptoBulkEntries, bulkEntries, bulkEntry_eq x, bulkEntries_eq r]
theorem bulkEntry_eq {H : Type} : ∀ x : Lit × DataW H, Rows.uptoBulkEntry x = bulkEntry x
  | (l, d) => by cases l <;> simp [Rows.uptoBulkEntry, bulkEntry, bulk_eq d]
end
theorem small {H : Type} {l : List (DataW H)} (h : Rows.uptoSmall H l = true) : bulkAll l ≤ 1048576 := by
  have := of_decide_eq_true h
  rwa [bulkAll_eq] at this
theorem laidOut : laidOutB Tryd.prog = true := by kernel_rfl
theorem own : ownKnob Tryd.prog.godebug = none := by kernel_rfl

theorem sum_mem {α : Type} {f : α → Nat} {l : List α} {x : α} (h : x ∈ l) : f x ≤ (l.map f).sum := by
  induction l with
  | nil => cases h
  | cons y r ih =>
    rcases List.mem_cons.1 h with rfl | h
    · simp
    · have := ih h; simp; omega
theorem sum_len {α : Type} {f : α → Nat} (hf : ∀ x, 1 ≤ f x) : ∀ l : List α, l.length ≤ (l.map f).sum
  | [] => by simp
  | x :: r => by have := sum_len hf r; have := hf x; simp; omega

def szFl (f : Fld) : Nat := f.n.size + f.v.size + 1
theorem rd_fld : Rd Tryd.prog 33 encF szFl (fun _ => True) :=
  rd_map (rd_struct (k := 3) Tryd.underlying33 (by kernel_rfl) (rdf_cons (k1 := 1) rfl (by kernel_rfl) (rd_string Tryd.underlying9) (rdf_cons (k1 := 1) rfl (by kernel_rfl) (rd_string Tryd.underlying9) (rdf_cons (k1 := 1) rfl (by kernel_rfl) (rd_bool Tryd.underlying4) rdf_nil))))
    (fun a : ByteArray × ByteArray × Bool × Unit => (⟨a.1, a.2.1, a.2.2.1⟩ : Fld)) (fun _ => rfl) (fun a => by simp only [szFl]; omega) (fun _ _ => trivial)
def szFs (l : List Fld) : Nat := (l.map szFl).sum + 1
theorem fs_small {l : List Fld} (h : szFs l ≤ 1048576) : l.length ≤ 1048576 ∧ ∀ f, f ∈ l → f.v.size ≤ 1048576 ∧ f.n.size ≤ 1048576 := by
  unfold szFs at h
  refine ⟨Nat.le_trans (sum_len (f := szFl) (fun f => by simp [szFl]) l) (by omega), fun f hf => ?_⟩
  have := sum_mem (f := szFl) hf
  simp only [szFl] at this
  omega
def szRs (r : Rs) : Nat := szFs r.fs + r.b.size
theorem rd_rs : Rd Tryd.prog 24 encR szRs (fun _ => True) :=
  rd_map (rd_struct (k := 3) Tryd.underlying24 (by kernel_rfl) (rdf_cons (k1 := 1) rfl (by kernel_rfl) (rd_int Tryd.underlying3) (rdf_cons (k1 := 1) rfl (by kernel_rfl) (rd_slice (k := 3) Tryd.underlying22 rd_fld (by kernel_rfl) (fun _ => rfl) (by decide)) (rdf_cons (k1 := 1) rfl (by kernel_rfl) (rd_string Tryd.underlying9) rdf_nil))))
    (fun a : Int × List Fld × ByteArray × Unit => (⟨a.1, a.2.1, a.2.2.1⟩ : Rs)) (fun _ => rfl) (fun a => by simp only [szRs, szFs]; omega) (fun _ _ => trivial)
def szRq (q : Rq) : Nat := q.m.size + q.s.size + q.a.size + q.p.size + szFs q.fs + q.b.size
theorem rd_rq : Rd Tryd.prog 36 encQ szRq (fun _ => True) :=
  rd_map (rd_struct (k := 6) Tryd.underlying36 (by kernel_rfl) (rdf_cons (k1 := 1) rfl (by kernel_rfl) (rd_string Tryd.underlying9) (rdf_cons (k1 := 1) rfl (by kernel_rfl) (rd_string Tryd.underlying9) (rdf_cons (k1 := 1) rfl (by kernel_rfl) (rd_string Tryd.underlying9) (rdf_cons (k1 := 1) rfl (by kernel_rfl) (rd_string Tryd.underlying9)
      (rdf_cons (k1 := 1) rfl (by kernel_rfl) (rd_slice (k := 3) Tryd.underlying22 rd_fld (by kernel_rfl) (fun _ => rfl) (by decide)) (rdf_cons (k1 := 1) rfl (by kernel_rfl) (rd_string Tryd.underlying9) rdf_nil)))))))
    (fun a : ByteArray × ByteArray × ByteArray × ByteArray × List Fld × ByteArray × Unit => (⟨a.1, a.2.1, a.2.2.1, a.2.2.2.1, a.2.2.2.2.1, a.2.2.2.2.2.1⟩ : Rq)) (fun _ => rfl) (fun a => by simp only [szRq, szFs]; omega) (fun _ _ => trivial)
theorem par_rs : Par Tryd.prog 24 (fun r => .agg (encR r)) szRs (fun _ => True) := par_struct Tryd.underlying24 rd_rs
theorem par_rq : Par Tryd.prog 36 (fun q => .agg (encQ q)) szRq (fun _ => True) := par_struct Tryd.underlying36 rd_rq
theorem par_fld : Par Tryd.prog 33 (fun f => .agg (encF f)) szFl (fun _ => True) := par_struct Tryd.underlying33 rd_fld
theorem par_strs : Par Tryd.prog 27 ssl (fun l => (l.map fun s : ByteArray => s.size + 1).sum + 1) (fun l => ∀ x, x ∈ l → True) := par_slice (k := 1) Tryd.underlying27 (rd_string Tryd.underlying9) (by kernel_rfl) (fun _ => rfl) (by decide)

abbrev boolT : TypeId := 4
theorem und_boolT : Tryd.prog.underlying boolT = some .bool := Tryd.underlying4
theorem par_i : Par Tryd.prog 3 (fun n : Int => vi n) (fun _ => 1) (fun n => (Lit.int .i64 n).wf = true) := par_int Tryd.underlying3

/-- A world for the witnesses: the settled one, what the initialisers lay in its places. -/
def cellsFirst : Array Value := (Go.Pinned.utf8FirstZ.map fun n => Value.int .u8 (n : Nat)).toArray
def cellsAccept : Array Value := ([128, 191, 160, 191, 128, 159, 144, 191, 128, 143, 0, 0, 0, 0, 0, 0, 0, 0, 0, 0, 0, 0, 0, 0, 0, 0, 0, 0, 0, 0, 0, 0].map fun n : Nat => Value.int .u8 (n : Nat)).toArray
def cellsMark : Array Value := #[.string ⟨#[109, 97, 114, 107]⟩, .string ⟨#[109, 97, 114, 107]⟩, .bool false]
noncomputable def putIn (w : World) (g : Nat) (xs : Array Value) : World :=
  { w with heap := w.heap.modify g fun
      | .cells _ t frozen => .cells xs t frozen
      | o => o }
noncomputable def laidWorld (os : Os) : World :=
  putIn (putIn (putIn (World.holding Tryd.prog os ⟨#[], #[], []⟩) 2 cellsFirst) 3 cellsAccept) 0 cellsMark
theorem laid_met (os : Os) : laidMet Tryd.prog Rows.varyNamesRow.laid ((laidWorld os).forCall (fun _ _ => 0) ⟨#[], #[], []⟩).memory :=
  laidMet_of_run' 8 (by kernel_rfl) (by kernel_rfl)
theorem nstep_len (st : List ByteArray × Bool) (n : ByteArray) : (nstep st n).1.length ≤ st.1.length + 1 := by
  unfold nstep
  split
  · exact Nat.le_succ _
  · split
    · simp
    · exact Nat.le_succ _
theorem nsteps_len : ∀ (l : List ByteArray) (st : List ByteArray × Bool), (l.foldl nstep st).1.length ≤ st.1.length + l.length
  | [], st => Nat.le_refl _
  | n :: l, st => by
    have h1 := nsteps_len l (nstep st n)
    have h2 := nstep_len st n
    simp only [List.foldl_cons, List.length_cons]
    omega
theorem fieldN_len (st : List ByteArray × Bool) (f : Fld) : (fieldN st f).1.length ≤ st.1.length + (f.v.size + 1) := by
  unfold fieldN
  split
  · refine Nat.le_trans (nsteps_len _ _) ?_
    have h1 := pieces_len_le 44 (bl f.v)
    rw [bl_length] at h1
    simp only [nms, List.length_map]
    omega
  · omega
theorem fieldsN_len : ∀ (l : List Fld) (st : List ByteArray × Bool), (l.foldl fieldN st).1.length ≤ st.1.length + (l.map szFl).sum
  | [], st => Nat.le_refl _
  | f :: l, st => by
    have h1 := fieldsN_len l (fieldN st f)
    have h2 := fieldN_len st f
    simp only [List.foldl_cons, List.map_cons, List.sum_cons, szFl] at *
    omega
theorem namesN_len (l : List Fld) : (namesN l).1.length ≤ (l.map szFl).sum := by
  have := fieldsN_len l ([], false)
  simpa [namesN] using this
theorem par_i2 : Par Tryd.prog 2 (fun n : Int => vi n) (fun _ => 1) (fun n => (Lit.int .i64 n).wf = true) := par_int Tryd.underlying2
theorem wf_i64 {n : Int} (h : (Lit.int .i64 n).wf = true) : n ≤ 9223372036854775807 := by
  simp only [Lit.wf, IntKind.wrap, IntKind.signed, IntKind.bits] at h
  simp at h
  omega
end Go.Proofs.YtphkfejckafamaaDoor
