/- The law TableFixed returns true and leaves its arguments as they read: the fixed entries.
   Conditions: what is read is of bulk at most 1048576 (the statement's second form). -/
import Derived.Test.YtmenbolalghljaaN
import Derived.Test.YtmenbolalghljaaI
import Derived.Test.YtmenbolalghljaaRows
import Derived.JoinedCond
set_option linter.unusedVariables false
set_option linter.unusedSimpArgs false
set_option maxRecDepth 100000
namespace Go.Proofs.Ytmenbolalghljaa
open Go.Proofs Go.Proofs.YtmenbolalghljaaA

theorem tableFixed_contract (H : Type) (enc : TypeId × Value → H) (W : World) (base : Nat) (args : Array Value) (ds gs : List (DataW H)) (before : List MemPlace)
    (hval : ∀ (j : Nat) t v, Try.f6.params[j]? = some t → args[j]? = some v → Value.okWide Try.prog W .any base t v)
    (hW : DataW.Whole enc Try.prog Try.f6.params.toList Rows.tableFixedSpec.vars false W args.toList ds gs before) (hk : Rows.uptoSmall H (ds ++ gs) = true) :
    Calls Try.prog 6 args W fun e W' => ∃ v, e = .returned v ∧ Rows.tableFixedSpec.post enc Try.prog Try.f6 false true false false W args v W' := by
  refine law_holds (t4 := boolT) laidOut ?_ (by kernel_rfl) und_boolT rfl ?_ (Pars.cons par_ens Pars.nil) ?_ hval hW
  · rw [Try.params6]
    intro t ht
    simp only [Array.toList, List.mem_cons, List.not_mem_nil, or_false] at ht
    repeat' (first | (rcases ht with rfl | ht) | subst ht)
    all_goals exact ⟨by kernel_rfl, of_decide_eq_true (by kernel_rfl)⟩
  · intro ds hds
    rw [Try.params6] at hds
    obtain ⟨d1, rfl⟩ : ∃ d1, ds = [d1] := by
      match ds, hds with
      | [d1], _ => exact ⟨d1, rfl⟩
    exact ⟨rfl, rfl, rfl⟩
  · have hsm := small hk
    rintro ⟨l, _⟩ - hsz
    dsimp only at hsz
    have h := ens_small (l := l) (by omega)
    exact TableFixed_ok l h.1 h.2

theorem tableFixed_lifted (os : Os) (started : os.Started) (H : Type) (enc : TypeId × Value → H) (F : Stop.Interp) :
    ReturnsInHanded {} Try.checked os 6 .any ((Rows.OpenSpec.upto Rows.tableFixedSpec).pre6 enc Try.prog Try.f6 Rows.tableFixedUptoRow.domain false) (((Rows.OpenSpec.upto Rows.tableFixedSpec).at F).post enc Try.prog Try.f6 false true false false) := by
  refine returnsInHanded_of_cond (C := Try.checked) (s := Rows.OpenSpec.upto Rows.tableFixedSpec) (k := Rows.uptoSmall) rfl own started (by kernel_rfl) Try.func6
    (OpenSpec.witness (enc := enc) (C := Try.checked) (s := Rows.OpenSpec.upto Rows.tableFixedSpec) (k := Rows.uptoSmall) rfl false ⟨#[], #[.slice none 0 0], []⟩ 8 (by kernel_rfl) (by kernel_rfl) (by kernel_rfl)
      (x := ([.nil], [], [])) (by kernel_rfl) rfl (by kernel_rfl)) ?_
  intro W base args ds gs before hval hW _ hk _
  exact tableFixed_contract H enc W base args ds gs before hval hW hk

theorem tableFixed_over : Rows.tableFixedUptoRow.holds Try.pinned (Rows.OpenSpec.upto Rows.tableFixedSpec) :=
  OpenClaim.holds_of_cond 6 Try.f6 rfl rfl rfl rfl rfl rfl rfl ⟨rfl, rfl, rfl, rfl, rfl⟩ rfl rfl rfl rfl rfl (by kernel_rfl) Try.func6 (by kernel_rfl)
    (of_decide_eq_true (by kernel_rfl)) (by unfold Func.isWrapper; first | (rw [if_pos (by decide +kernel)]; kernel_rfl) | (rw [if_neg (by decide +kernel)]; exact ⟨rfl, rfl⟩))
    (fun os started H enc _ F => tableFixed_lifted os started H enc F)
theorem tableFixed_holds : Rows.TableFixedUptoSaid := tableFixed_over
#print axioms tableFixed_holds
end Go.Proofs.Ytmenbolalghljaa
