/- The law TableAll returns true and leaves its arguments as they read: two tables, any steps.
   Conditions: what is read is of bulk at most 1048576 (the statement's second form). -/
import Derived.Test.YtmenbolalghljaaNN
import Derived.Test.YtmenbolalghljaaRows
import Derived.JoinedCond
set_option linter.unusedVariables false
set_option linter.unusedSimpArgs false
set_option maxRecDepth 100000
namespace Go.Proofs.Ytmenbolalghljaa
open Go.Proofs Go.Proofs.YtmenbolalghljaaA

theorem tableAll_contract (H : Type) (enc : TypeId × Value → H) (W : World) (base : Nat) (args : Array Value) (ds gs : List (DataW H)) (before : List MemPlace)
    (hval : ∀ (j : Nat) t v, Try.f3.params[j]? = some t → args[j]? = some v → Value.okWide Try.prog W .any base t v)
    (hW : DataW.Whole enc Try.prog Try.f3.params.toList Rows.tableAllSpec.vars false W args.toList ds gs before) (hk : Rows.uptoSmall H (ds ++ gs) = true) :
    Calls Try.prog 3 args W fun e W' => ∃ v, e = .returned v ∧ Rows.tableAllSpec.post enc Try.prog Try.f3 false true false false W args v W' := by
  refine law_holds (t4 := boolT) laidOut ?_ (by kernel_rfl) und_boolT rfl ?_ (Pars.cons par_l (Pars.cons par_l (Pars.cons par_ops Pars.nil))) ?_ hval hW
  · rw [Try.params3]
    intro t ht
    simp only [Array.toList, List.mem_cons, List.not_mem_nil, or_false] at ht
    repeat' (first | (rcases ht with rfl | ht) | subst ht)
    all_goals exact ⟨by kernel_rfl, of_decide_eq_true (by kernel_rfl)⟩
  · intro ds hds
    rw [Try.params3] at hds
    obtain ⟨d1, d2, d3, rfl⟩ : ∃ d1 d2 d3, ds = [d1, d2, d3] := by
      match ds, hds with
      | [d1, d2, d3], _ => exact ⟨d1, d2, d3, rfl⟩
    exact ⟨rfl, rfl, rfl⟩
  · have hsm := small hk
    rintro ⟨one, two, os, _⟩ hi hsz
    dsimp only at hsz hi
    have h := ops_small (l := os) (by omega) hi.2.2.1
    exact TableAll_ok one two os h.1 h.2

theorem tableAll_lifted (os : Os) (started : os.Started) (H : Type) (enc : TypeId × Value → H) (F : Stop.Interp) :
    ReturnsInHanded {} Try.checked os 3 .any ((Rows.OpenSpec.upto Rows.tableAllSpec).pre6 enc Try.prog Try.f3 Rows.tableAllUptoRow.domain false) (((Rows.OpenSpec.upto Rows.tableAllSpec).at F).post enc Try.prog Try.f3 false true false false) := by
  refine returnsInHanded_of_cond (C := Try.checked) (s := Rows.OpenSpec.upto Rows.tableAllSpec) (k := Rows.uptoSmall) rfl own started (by kernel_rfl) Try.func3
    (OpenSpec.witness (enc := enc) (C := Try.checked) (s := Rows.OpenSpec.upto Rows.tableAllSpec) (k := Rows.uptoSmall) rfl false ⟨#[], #[.int .i64 0, .int .i64 0, .slice none 0 0], []⟩ 8 (by kernel_rfl) (by kernel_rfl) (by kernel_rfl)
      (x := ([.lit (.int .i64 0), .lit (.int .i64 0), .nil], [], [])) (by kernel_rfl) rfl (by kernel_rfl)) ?_
  intro W base args ds gs before hval hW _ hk _
  exact tableAll_contract H enc W base args ds gs before hval hW hk

theorem tableAll_over : Rows.tableAllUptoRow.holds Try.pinned (Rows.OpenSpec.upto Rows.tableAllSpec) :=
  OpenClaim.holds_of_cond 3 Try.f3 rfl rfl rfl rfl rfl rfl rfl ⟨rfl, rfl, rfl, rfl, rfl⟩ rfl rfl rfl rfl rfl (by kernel_rfl) Try.func3 (by kernel_rfl)
    (of_decide_eq_true (by kernel_rfl)) (by unfold Func.isWrapper; first | (rw [if_pos (by decide +kernel)]; kernel_rfl) | (rw [if_neg (by decide +kernel)]; exact ⟨rfl, rfl⟩))
    (fun os started H enc _ F => tableAll_lifted os started H enc F)
theorem tableAll_holds : Rows.TableAllUptoSaid := tableAll_over
#print axioms tableAll_holds
end Go.Proofs.Ytmenbolalghljaa
