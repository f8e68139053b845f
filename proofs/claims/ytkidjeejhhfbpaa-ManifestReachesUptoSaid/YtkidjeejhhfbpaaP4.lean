/- The law ManifestReaches returns true and leaves its arguments as they read: what is told is reached, all that is reached is told.
   Conditions: what is read is of bulk at most 1048576 (the statement's second form). -/
import Derived.Test.YtkidjeejhhfbpaaN
import Derived.Test.YtkidjeejhhfbpaaK
import Derived.Test.YtkidjeejhhfbpaaRows
import Derived.JoinedCond
set_option linter.unusedVariables false
set_option linter.unusedSimpArgs false
set_option maxRecDepth 100000
namespace Go.Proofs.Ytkidjeejhhfbpaa
open Go.Proofs Go.Proofs.YtkidjeejhhfbpaaA

theorem manifestReaches_contract (H : Type) (enc : TypeId × Value → H) (W : World) (base : Nat) (args : Array Value) (ds gs : List (DataW H)) (before : List MemPlace)
    (hval : ∀ (j : Nat) t v, Try.f4.params[j]? = some t → args[j]? = some v → Value.okWide Try.prog W .any base t v)
    (hW : DataW.Whole enc Try.prog Try.f4.params.toList Rows.manifestReachesSpec.vars false W args.toList ds gs before) (hk : Rows.uptoSmall H (ds ++ gs) = true) :
    Calls Try.prog 4 args W fun e W' => ∃ v, e = .returned v ∧ Rows.manifestReachesSpec.post enc Try.prog Try.f4 false true false false W args v W' := by
  refine law_holds (t4 := boolT) laidOut ?_ (by kernel_rfl) und_boolT rfl ?_ (Pars.cons par_eds (Pars.cons par_i Pars.nil)) ?_ hval hW
  · rw [Try.params4]
    intro t ht
    simp only [Array.toList, List.mem_cons, List.not_mem_nil, or_false] at ht
    repeat' (first | (rcases ht with rfl | ht) | subst ht)
    all_goals exact ⟨by kernel_rfl, of_decide_eq_true (by kernel_rfl)⟩
  · intro ds hds
    rw [Try.params4] at hds
    obtain ⟨d1, d2, rfl⟩ : ∃ d1 d2, ds = [d1, d2] := by
      match ds, hds with
      | [d1, d2], _ => exact ⟨d1, d2, rfl⟩
    exact ⟨rfl, rfl, rfl⟩
  · have hsm := small hk
    rintro ⟨es, n, _⟩ - hsz
    dsimp only at hsz
    exact ManifestReaches_ok es n (eds_small (by omega))

theorem manifestReaches_lifted (os : Os) (started : os.Started) (H : Type) (enc : TypeId × Value → H) (F : Stop.Interp) :
    ReturnsInHanded {} Try.checked os 4 .any ((Rows.OpenSpec.upto Rows.manifestReachesSpec).pre6 enc Try.prog Try.f4 Rows.manifestReachesUptoRow.domain false) (((Rows.OpenSpec.upto Rows.manifestReachesSpec).at F).post enc Try.prog Try.f4 false true false false) := by
  refine returnsInHanded_of_cond (C := Try.checked) (s := Rows.OpenSpec.upto Rows.manifestReachesSpec) (k := Rows.uptoSmall) rfl own started (by kernel_rfl) Try.func4
    (OpenSpec.witness (enc := enc) (C := Try.checked) (s := Rows.OpenSpec.upto Rows.manifestReachesSpec) (k := Rows.uptoSmall) rfl false ⟨#[], #[.slice none 0 0, .int .i64 0], []⟩ 8 (by kernel_rfl) (by kernel_rfl) (by kernel_rfl)
      (x := ([.nil, .lit (.int .i64 0)], [], [])) (by kernel_rfl) rfl (by kernel_rfl)) ?_
  intro W base args ds gs before hval hW _ hk _
  exact manifestReaches_contract H enc W base args ds gs before hval hW hk

theorem manifestReaches_over : Rows.manifestReachesUptoRow.holds Try.pinned (Rows.OpenSpec.upto Rows.manifestReachesSpec) :=
  OpenClaim.holds_of_cond 4 Try.f4 rfl rfl rfl rfl rfl rfl rfl ⟨rfl, rfl, rfl, rfl, rfl⟩ rfl rfl rfl rfl rfl (by kernel_rfl) Try.func4 (by kernel_rfl)
    (of_decide_eq_true (by kernel_rfl)) (by unfold Func.isWrapper; first | (rw [if_pos (by decide +kernel)]; kernel_rfl) | (rw [if_neg (by decide +kernel)]; exact ⟨rfl, rfl⟩))
    (fun os started H enc _ F => manifestReaches_lifted os started H enc F)
theorem manifestReaches_holds : Rows.ManifestReachesUptoSaid := manifestReaches_over
#print axioms manifestReaches_holds
end Go.Proofs.Ytkidjeejhhfbpaa
