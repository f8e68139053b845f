/- The law ManifestPlans returns true and leaves its arguments as they read: a manifest of lent rules is its own; its plans are the plain reading's.
   Conditions: what is read is of bulk at most 1048576 (the statement's second form). -/
import Derived.Test.YtkidjeejhhfbpaaN
import Derived.Test.YtkidjeejhhfbpaaV
import Derived.Test.YtkidjeejhhfbpaaRows
import Derived.JoinedCond
set_option linter.unusedVariables false
set_option linter.unusedSimpArgs false
set_option maxRecDepth 100000
namespace Go.Proofs.Ytkidjeejhhfbpaa
open Go.Proofs Go.Proofs.YtkidjeejhhfbpaaA

theorem manifestPlans_contract (H : Type) (enc : TypeId × Value → H) (W : World) (base : Nat) (args : Array Value) (ds gs : List (DataW H)) (before : List MemPlace)
    (hval : ∀ (j : Nat) t v, Try.f3.params[j]? = some t → args[j]? = some v → Value.okWide Try.prog W .any base t v)
    (hW : DataW.Whole enc Try.prog Try.f3.params.toList Rows.manifestPlansSpec.vars false W args.toList ds gs before) (hk : Rows.uptoSmall H (ds ++ gs) = true) :
    Calls Try.prog 3 args W fun e W' => ∃ v, e = .returned v ∧ Rows.manifestPlansSpec.post enc Try.prog Try.f3 false true false false W args v W' := by
  refine law_holds (t4 := boolT) laidOut ?_ (by kernel_rfl) und_boolT rfl ?_ (Pars.cons par_rls (Pars.cons par_tgs (Pars.cons par_i Pars.nil))) ?_ hval hW
  · rw [Try.params3]
    intro t ht
    simp only [Array.toList, List.mem_cons, List.not_mem_nil, or_false] at ht
    repeat' (first | (rcases ht with rfl | ht) | subst ht)
    all_goals exact ⟨by kernel_rfl, of_decide_eq_true (by kernel_rfl)⟩
  · intro ds hds
    rw [Try.params3] at hds
    obtain ⟨d1, d2, d3, rfl⟩ : ∃ d1 d2 d3, ds = [d1, d2, d3] := by
      match ds, hds with
      | [d1, d2, d3], _ => exact ⟨d1, d2, d3, rfl⟩
    exact ⟨rfl, rfl, rfl⟩
  · have hsm := small hk
    rintro ⟨rs, asked, m, _⟩ - hsz
    dsimp only at hsz
    have hall := rls_small (l := rs) (by omega)
    exact ManifestPlans_ok rs asked m hall.1 (fun r hr => (hall.2 r hr).1) (fun r hr => (hall.2 r hr).2) (tgs_small (by omega))

theorem manifestPlans_lifted (os : Os) (started : os.Started) (H : Type) (enc : TypeId × Value → H) (F : Stop.Interp) :
    ReturnsInHanded {} Try.checked os 3 .any ((Rows.OpenSpec.upto Rows.manifestPlansSpec).pre6 enc Try.prog Try.f3 Rows.manifestPlansUptoRow.domain false) (((Rows.OpenSpec.upto Rows.manifestPlansSpec).at F).post enc Try.prog Try.f3 false true false false) := by
  refine returnsInHanded_of_cond (C := Try.checked) (s := Rows.OpenSpec.upto Rows.manifestPlansSpec) (k := Rows.uptoSmall) rfl own started (by kernel_rfl) Try.func3
    (OpenSpec.witness (enc := enc) (C := Try.checked) (s := Rows.OpenSpec.upto Rows.manifestPlansSpec) (k := Rows.uptoSmall) rfl false ⟨#[], #[.slice none 0 0, .slice none 0 0, .int .i64 0], []⟩ 8 (by kernel_rfl) (by kernel_rfl) (by kernel_rfl)
      (x := ([.nil, .nil, .lit (.int .i64 0)], [], [])) (by kernel_rfl) rfl (by kernel_rfl)) ?_
  intro W base args ds gs before hval hW _ hk _
  exact manifestPlans_contract H enc W base args ds gs before hval hW hk

theorem manifestPlans_over : Rows.manifestPlansUptoRow.holds Try.pinned (Rows.OpenSpec.upto Rows.manifestPlansSpec) :=
  OpenClaim.holds_of_cond 3 Try.f3 rfl rfl rfl rfl rfl rfl rfl ⟨rfl, rfl, rfl, rfl, rfl⟩ rfl rfl rfl rfl rfl (by kernel_rfl) Try.func3 (by kernel_rfl)
    (of_decide_eq_true (by kernel_rfl)) (by unfold Func.isWrapper; first | (rw [if_pos (by decide +kernel)]; kernel_rfl) | (rw [if_neg (by decide +kernel)]; exact ⟨rfl, rfl⟩))
    (fun os started H enc _ F => manifestPlans_lifted os started H enc F)
theorem manifestPlans_holds : Rows.ManifestPlansUptoSaid := manifestPlans_over
#print axioms manifestPlans_holds
end Go.Proofs.Ytkidjeejhhfbpaa
