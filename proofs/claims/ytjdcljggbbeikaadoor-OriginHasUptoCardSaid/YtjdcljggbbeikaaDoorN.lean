import Derived.Test.YtjdcljggbbeikaaDoorK
import Derived.Test.YtjdcljggbbeikaaDoorG5
import Derived.Test.YtjdcljggbbeikaaDoorRows
import Derived.Test.YtjdcljggbbeikaaDoorCards
import Derived.Test.YtjdcljggbbeikaaDoorTie
import Derived.Deep.DeepHandedRow
import Derived.LaidLaws
import Derived.LaidSub
import Derived.MakeChecks
set_option linter.unusedVariables false
set_option linter.unusedSimpArgs false
set_option maxRecDepth 100000
namespace Go.Proofs.YtjdcljggbbeikaaDoor
open Go.Proofs Go.Proofs.YtjdcljggbbeikaaDoorA

mutual
theorem bulk_eq {H : Type} : ∀ d : DataW H, Rows.uptoBulk d = bulk d
  | .lit l => by cases l <;> simp [Rows.uptoBulk, bulk]
  | .nil => by simp [Rows.uptoBulk, bulk]
  | .ptr d => by simp [Rows.uptoBulk, bulk, bulk_eq d]
  | .slice e s => by simp [Rows.uptoBulk, bulk, bulkAll_eq e, bulkAll_eq s]
  | .agg p => by simp [Rows.uptoBulk, bulk, bulkAll_eq p]
  | .iface _ d => by simp [Rows.uptoBulk, bulk, bulk_eq d]
  | .map es => by simp [Rows.uptoBulk, bulk, bulkEntries_eq es]
  | .held _ => by simp [Rows.uptoBulk, bulk]
theorem bulkAll_eq {H : Type} : ∀ l : List (DataW H), Rows.uptoBulkAll l = bulkAll l
  | [] => by simp [Rows.uptoBulkAll, bulkAll]
  | d :: r => by simp [Rows.uptoBulkAll, bulkAll, bulk_eq d, bulkAll_eq r]
theorem bulkEntries_eq {H : Type} : ∀ l : List (Lit × DataW H), Rows.uptoBulkEntries l = bulkEntries l
  | [] => by simp [Rows.uptoBulkEntries, bulkEntries]
  | x :: r => by simp [Rows.uptoBulkEntries, bulkEntries, bulkEntry_eq x, bulkEntries_eq r]
theorem bulkEntry_eq {H : Type} : ∀ x : Lit × DataW H, Rows.uptoBulkEntry x = bulkEntry x
  | (l, d) => by cases l <;> simp [Rows.uptoBulkEntry, bulkEntry, bulk_eq d]
end
theorem small {H : Type} {l : List (DataW H)} (h : Rows.uptoSmall H l = true) : bulkAll l ≤ 1048576 := by
  have := of_decide_eq_true h
  rwa [bulkAll_eq] at this
theorem laidOut : laidOutB Tryd.prog = true := by kernel_rfl
theorem own : ownKnob Tryd.prog.godebug = none := by kernel_rfl

theorem sum_mem {α : Type} {f : α → Nat} {l : List α} {x : α} (h : x ∈ l) : f x ≤ (l.map f).sum := by
  induction l with
  | nil => cases h
  | cons y r ih =>
    rcases List.mem_cons.1 h with rfl | h
    · simp
    · have := ih h; simp; omega
theorem sum_len {α : Type} {f : α → Nat} (hf : ∀ x, 1 ≤ f x) : ∀ l : List α, l.length ≤ (l.map f).sum
  | [] => by simp
  | x :: r => by have := sum_len hf r; have := hf x; simp; omega

def szG (o : Org) : Nat := o.sch.size + o.host.size + 3
theorem rd_org : Rd Tryd.prog 23 encG szG (fun o => (Lit.int .i64 o.port).wf = true) :=
  rd_map (rd_struct (k := 3) Tryd.underlying23 (by kernel_rfl) (rdf_cons (k1 := 1) rfl (by kernel_rfl) (rd_string Tryd.underlying9) (rdf_cons (k1 := 1) rfl (by kernel_rfl) (rd_string Tryd.underlying9) (rdf_cons (k1 := 1) rfl (by kernel_rfl) (rd_int Tryd.underlying3) rdf_nil))))
    (fun a : ByteArray × ByteArray × Int × Unit => (⟨a.1, a.2.1, a.2.2.1⟩ : Org)) (fun _ => rfl) (fun a => by simp only [szG]; omega) (fun a h => h.2.2.1)
theorem par_org : Par Tryd.prog 23 (fun o => .agg (encG o)) szG (fun o => (Lit.int .i64 o.port).wf = true) := par_struct Tryd.underlying23 rd_org
theorem par_orgs : Par Tryd.prog 37 gsl (fun l => (l.map szG).sum + 1) (fun l => ∀ x, x ∈ l → (Lit.int .i64 x.port).wf = true) := par_slice (k := 3) Tryd.underlying37 rd_org (by kernel_rfl) (fun _ => rfl) (by decide)
theorem orgs_small {l : List Org} (h : (l.map szG).sum ≤ 1048576) : l.length ≤ 1048576 ∧ ∀ o, o ∈ l → OkG o := by
  refine ⟨Nat.le_trans (sum_len (f := szG) (fun f => by simp [szG]) l) (by omega), fun o ho => ?_⟩
  have := sum_mem (f := szG) ho
  simp only [szG] at this
  exact ⟨by omega, by omega⟩
abbrev boolT : TypeId := 4
theorem und_boolT : Tryd.prog.underlying boolT = some .bool := Tryd.underlying4
theorem par_i : Par Tryd.prog 3 (fun n : Int => vi n) (fun _ => 1) (fun n => (Lit.int .i64 n).wf = true) := par_int Tryd.underlying3
theorem par_s : Par Tryd.prog 9 vs (fun s => s.size + 1) (fun _ => True) := par_string Tryd.underlying9
theorem wf_i64 {n : Int} (h : (Lit.int .i64 n).wf = true) : -9223372036854775808 ≤ n ∧ n ≤ 9223372036854775807 := by
  have h1 : IntKind.i64.min = -9223372036854775808 := by decide
  have h2 : IntKind.i64.max = 9223372036854775807 := by decide
  simp only [Lit.wf, Bool.and_eq_true, decide_eq_true_eq, h1, h2] at h
  exact h

/-! What the row lists, out of which the library's tables are read. -/
theorem gPow : Tryd.prog.globalNamed "internal/strconv.uint64pow10" = some 1 := by kernel_rfl
theorem libF_of {W : World} {laid : List (String × DataW Unit)} (hp : (laid.all fun x => x.2.handleName?.isNone) = true) (hf : laid.filter (fun x => x.1 == "internal/strconv.uint64pow10") = [("internal/strconv.uint64pow10", Lib.tabData .u64 Lib.pow10Tab)])
    (hL : laidMetH Tryd.prog laid W) (hsh : W.ShapedOpen Tryd.prog) : LibF (baseOf W) := by
  obtain ⟨m, hm⟩ := Tryd.laysM145.s1_3 W hsh
  rw [Go.MakeChecks.laidMetH_plain Tryd.prog laid W hp] at hL
  have h1 := hL.filter (fun x => x.1 == "internal/strconv.uint64pow10")
  rw [hf] at h1
  have htab : Lib.TabIs Tryd.prog W "internal/strconv.uint64pow10" .u64 Lib.pow10Tab := Lib.tabIs_of_head (t := 86) (e := 76) (n := 20) gPow (by kernel_rfl) Tryd.underlying86 Tryd.underlying76 (by kernel_rfl) (by kernel_rfl) h1
  have h1s : 1 < W.heap.size := by
    unfold Lib.TabIs World.var? at htab
    rw [gPow] at htab
    simp only [Option.bind_some] at htab
    cases hh : W.heap[1]? with
    | none => rw [hh] at htab; cases htab
    | some o => exact (Array.getElem?_eq_some_iff.1 hh).1
  refine ⟨⟨m, fun w hw => ?_⟩, fun w hw => ?_⟩
  · rw [← hm]
    exact World.cell?_of_block (hw 0 (by show 0 < W.heap.size; omega))
  · unfold Lib.TabIs at htab ⊢
    rw [← htab]
    unfold World.var?
    rw [gPow]
    simp only [Option.bind_some]
    rw [hw 1 (by show 1 < W.heap.size; omega)]
/-- A world for the witnesses: the settled one, what the initialisers lay in its places. -/
def cells32 : Array Value := ([0, 1, 28, 2, 29, 14, 24, 3, 30, 22, 20, 15, 25, 17, 4, 8, 31, 27, 13, 23, 21, 19, 16, 7, 26, 12, 18, 6, 11, 5, 10, 9].map fun n : Nat => Value.int .u8 (n : Nat)).toArray
def cells64 : Array Value := ([0, 1, 56, 2, 57, 49, 28, 3, 61, 58, 42, 50, 38, 29, 17, 4, 62, 47, 59, 36, 45, 43, 51, 22, 53, 39, 33, 30, 24, 18, 12, 5, 63, 55, 48, 27, 60, 41, 37, 16, 46, 35, 44, 21, 52, 32, 23, 11, 54, 26, 40, 15, 34, 20, 31, 10, 25, 14, 19, 9, 13, 8, 7, 6].map fun n : Nat => Value.int .u8 (n : Nat)).toArray
def cellsPow : Array Value := (Lib.pow10Tab.map fun z => Value.int .u64 z).toArray
def cellsFirst : Array Value := (Go.Pinned.utf8FirstZ.map fun n => Value.int .u8 (n : Nat)).toArray
def cellsAccept : Array Value := ([128, 191, 160, 191, 128, 159, 144, 191, 128, 143, 0, 0, 0, 0, 0, 0, 0, 0, 0, 0, 0, 0, 0, 0, 0, 0, 0, 0, 0, 0, 0, 0].map fun n : Nat => Value.int .u8 (n : Nat)).toArray
noncomputable def putIn (w : World) (g : Nat) (xs : Array Value) : World :=
  { w with heap := w.heap.modify g fun
      | .cells _ t frozen => .cells xs t frozen
      | o => o }
noncomputable def laidWorld (os : Os) : World :=
  putIn (putIn (putIn (putIn (putIn (World.holding Tryd.prog os ⟨#[], #[], []⟩) 4 cellsFirst) 5 cellsAccept) 1 cellsPow) 2 cells32) 3 cells64
theorem laid_met (os : Os) : laidMet Tryd.prog Rows.originParsesRow.laid ((laidWorld os).forCall (fun _ _ => 0) ⟨#[], #[], []⟩).memory :=
  laidMet_of_run' 8 (by kernel_rfl) (by kernel_rfl)
end Go.Proofs.YtjdcljggbbeikaaDoor
