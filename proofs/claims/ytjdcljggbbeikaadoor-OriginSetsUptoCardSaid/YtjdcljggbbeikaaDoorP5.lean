/- The law OriginSets returns true and leaves its arguments as they read: every Of, List, Has.
   Conditions: what is read is of bulk at most 1048576 (the statement's second form); the card ties what the row lists to the program's text. -/
import Derived.Test.YtjdcljggbbeikaaDoorO
import Derived.Test.YtjdcljggbbeikaaDoorN2
import Derived.Test.YtjdcljggbbeikaaDoorN
set_option linter.unusedVariables false
set_option linter.unusedSimpArgs false
set_option maxRecDepth 100000
namespace Go.Proofs.YtjdcljggbbeikaaDoor
open Go.Proofs Go.Proofs.YtjdcljggbbeikaaDoorA

theorem originSets_contract (H : Type) (enc : TypeId × Value → H) (W : World) (base : Nat) (args : Array Value) (ds gs : List (DataW H)) (before : List MemPlace)
    (hval : ∀ (j : Nat) t v, Tryd.f7.params[j]? = some t → args[j]? = some v → Value.okWide Tryd.prog W .any base t v)
    (hW : DataW.Whole enc Tryd.prog Tryd.f7.params.toList Rows.originSetsSpec.vars false W args.toList ds gs before) (hk : Rows.uptoSmall H (ds ++ gs) = true) (hB : LibF (baseOf W)) :
    Calls Tryd.prog 7 args W fun e W' => ∃ v, e = .returned v ∧ Rows.originSetsSpec.post enc Tryd.prog Tryd.f7 false true false false W args v W' := by
  refine law_holdsB (t4 := boolT) laidOut ?_ (by kernel_rfl) und_boolT rfl ?_ (Pars.cons par_orgs (Pars.cons par_asked Pars.nil)) ?_ hval hW
  · rw [Tryd.params7]
    intro t ht
    simp only [Array.toList, List.mem_cons, List.not_mem_nil, or_false] at ht
    repeat' (first | (rcases ht with rfl | ht) | subst ht)
    all_goals exact ⟨by kernel_rfl, of_decide_eq_true (by kernel_rfl)⟩
  · intro ds hds
    rw [Tryd.params7] at hds
    obtain ⟨d1, d2, rfl⟩ : ∃ d1 d2, ds = [d1, d2] := by
      match ds, hds with
      | [d1, d2], _ => exact ⟨d1, d2, rfl⟩
    exact ⟨rfl, rfl, rfl⟩
  · have hsm := small hk
    rintro ⟨l, asked, _⟩ - hsz
    dsimp only at hsz
    have h := orgs_small (l := l) (by omega)
    have h2 := asked_small (l := asked) (by omega)
    exact OriginSets_ok hB l asked h.1 h.2 h2.1 h2.2

theorem originSets_laid (os : Os) : laidMet Tryd.prog Rows.originSetsUptoRow.laid ((laidWorld os).forCall (fun _ _ => 0) ⟨#[], #[.slice none 0 0, .slice none 0 0], []⟩).memory :=
  laidMet_of_run' 8 (by kernel_rfl) (by kernel_rfl)
theorem originSets_reads (os : Os) {H : Type} (enc : TypeId × Value → H) : ∃ places, DataW.whole enc Tryd.prog ((laidWorld os).forCall (fun _ _ => 0) ⟨#[], #[.slice none 0 0, .slice none 0 0], []⟩).memory Tryd.f7.params.toList Rows.originSetsSpec.vars false (#[.slice none 0 0, .slice none 0 0] : Array Value).toList 8 = some ([.nil, .nil], [], places) :=
  ⟨[], by kernel_rfl⟩
theorem originSets_lifted (os : Os) (started : os.Started) (H : Type) (enc : TypeId × Value → H) (F : Stop.Interp) :
    ReturnsInHanded {} Tryd.checked os 7 .any ((Rows.OpenSpec.upto Rows.originSetsSpec).preRow enc Tryd.prog Tryd.f7 Rows.originSetsUptoRow.domain false Rows.originSetsUptoRow.laid) (((Rows.OpenSpec.upto Rows.originSetsSpec).at F).post enc Tryd.prog Tryd.f7 false true false false) := by
  obtain ⟨places, hx⟩ := originSets_reads os enc
  refine returnsInHanded_of_row (C := Tryd.checked) (s := Rows.OpenSpec.upto Rows.originSetsSpec) own started (by kernel_rfl) Tryd.func7
    (witness_row_at (enc := enc) (C := Tryd.checked) false (laidWorld os) #[.slice none 0 0, .slice none 0 0] rfl (by kernel_rfl) (by kernel_rfl) (by kernel_rfl)
      (OpenSpec.preRow_of_cond 8 hx (by kernel_rfl) (fun k hk => by cases hk; kernel_rfl) (by kernel_rfl) (originSets_laid os))) ?_
  intro W base args ds gs before hval hW _ hcond _ hL hsh _
  exact originSets_contract H enc W base args ds gs before hval hW (hcond _ rfl) (libF_of (by kernel_rfl) (by kernel_rfl) hL hsh)

theorem originSets_over : Rows.OriginSetsUptoSaid :=
  OpenClaim.holds_of_cond 7 Tryd.f7 rfl rfl rfl rfl rfl rfl rfl ⟨rfl, rfl, rfl, rfl, rfl⟩ rfl rfl rfl rfl rfl (by kernel_rfl) Tryd.func7 (by kernel_rfl)
    (of_decide_eq_true (by kernel_rfl)) (by unfold Func.isWrapper; first | (rw [if_pos (by decide +kernel)]; kernel_rfl) | (rw [if_neg (by decide +kernel)]; exact ⟨rfl, rfl⟩))
    (fun os started H enc _ F => by rw [OpenClaim.pre_eq_preRow]; exact originSets_lifted os started H enc F)
theorem originSets_plain (f : FuncId) (fn : Func) (hf : Tryd.pinned.checked.prog.funcNamed "herald/heraldlaw15.OriginSets" = some f) (hfn : Tryd.pinned.checked.prog.funcs[f]? = some fn) :
    false = Tryd.pinned.checked.prog.looks [] ∧ ∀ (j : Nat) t, fn.params[j]? = some t → Tryd.pinned.checked.prog.wantsStandIn t = false := by
  obtain rfl : f = 7 := Option.some.inj ((show Tryd.prog.funcNamed "herald/heraldlaw15.OriginSets" = some 7 by kernel_rfl).symm.trans hf) |>.symm
  obtain rfl : fn = Tryd.f7 := (Option.some.inj (Tryd.func7.symm.trans hfn)).symm
  refine ⟨by kernel_rfl, fun j t ht => ?_⟩
  rw [Tryd.params7] at ht
  have hm := Array.mem_of_getElem? ht
  simp only [List.mem_toArray, List.mem_cons, List.not_mem_nil, or_false] at hm
  repeat' (first | (rcases hm with rfl | hm) | subst hm)
  all_goals exact (show Tryd.prog.wantsStandIn _ = false by kernel_rfl)
theorem originSets_holds : Rows.OriginSetsUptoCardSaid :=
  Claim7.holds_tied_plain_at .later [] _ _ _ _ originSets_over (fun _ h => by cases h) (by kernel_rfl) (fun _ h => by cases h) originSetsUpto_row_tie rfl ⟨rfl, rfl⟩ (by kernel_rfl) rfl originSets_plain (by kernel_rfl)
#print axioms originSets_holds
end Go.Proofs.YtjdcljggbbeikaaDoor
