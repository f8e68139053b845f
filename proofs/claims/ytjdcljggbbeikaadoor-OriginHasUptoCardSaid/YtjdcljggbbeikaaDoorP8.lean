/- The law OriginHas returns true and leaves its arguments as they read: a set has what it was made of, in any spelling.
   Conditions: what is read is of bulk at most 1048576 (the statement's second form); the card ties what the row lists to the program's text. -/
import Derived.Test.YtjdcljggbbeikaaDoorX
import Derived.Test.YtjdcljggbbeikaaDoorN2
import Derived.Test.YtjdcljggbbeikaaDoorN3
import Derived.Test.YtjdcljggbbeikaaDoorN
set_option linter.unusedVariables false
set_option linter.unusedSimpArgs false
set_option maxRecDepth 100000
namespace Go.Proofs.YtjdcljggbbeikaaDoor
open Go.Proofs Go.Proofs.YtjdcljggbbeikaaDoorA

theorem originHas_contract (H : Type) (enc : TypeId × Value → H) (W : World) (base : Nat) (args : Array Value) (ds gs : List (DataW H)) (before : List MemPlace)
    (hval : ∀ (j : Nat) t v, Tryd.f6.params[j]? = some t → args[j]? = some v → Value.okWide Tryd.prog W .any base t v)
    (hW : DataW.Whole enc Tryd.prog Tryd.f6.params.toList Rows.originHasSpec.vars false W args.toList ds gs before) (hk : Rows.uptoSmall H (ds ++ gs) = true) (hB : LibF (baseOf W)) :
    Calls Tryd.prog 6 args W fun e W' => ∃ v, e = .returned v ∧ Rows.originHasSpec.post enc Tryd.prog Tryd.f6 false true false false W args v W' := by
  refine law_holdsB (t4 := boolT) laidOut ?_ (by kernel_rfl) und_boolT rfl ?_ (Pars.cons par_orgs (Pars.cons par_org (Pars.cons par_u64 (Pars.cons par_b Pars.nil)))) ?_ hval hW
  · rw [Tryd.params6]
    intro t ht
    simp only [Array.toList, List.mem_cons, List.not_mem_nil, or_false] at ht
    repeat' (first | (rcases ht with rfl | ht) | subst ht)
    all_goals exact ⟨by kernel_rfl, of_decide_eq_true (by kernel_rfl)⟩
  · intro ds hds
    rw [Tryd.params6] at hds
    obtain ⟨d1, d2, d3, d4, rfl⟩ : ∃ d1 d2 d3 d4, ds = [d1, d2, d3, d4] := by
      match ds, hds with
      | [d1, d2, d3, d4], _ => exact ⟨d1, d2, d3, d4, rfl⟩
    exact ⟨rfl, rfl, rfl⟩
  · have hsm := small hk
    rintro ⟨gs, raw, mask, named, _⟩ - hsz
    dsimp only [szG] at hsz
    have h := orgs_small (l := gs) (by omega)
    refine OriginHas_ok hB gs raw h.1 ?_ (by omega) (by omega) mask named
    intro x hx
    obtain ⟨h2, h3⟩ := h.2 x hx
    exact ⟨by omega, by omega⟩

theorem originHas_laid (os : Os) : laidMet Tryd.prog Rows.originHasUptoRow.laid ((laidWorld os).forCall (fun _ _ => 0) ⟨#[], #[.slice none 0 0, .agg #[.string ⟨#[]⟩, .string ⟨#[]⟩, .int .i64 0], .int .u64 0, .bool false], []⟩).memory :=
  laidMet_of_run' 8 (by kernel_rfl) (by kernel_rfl)
theorem originHas_reads (os : Os) {H : Type} (enc : TypeId × Value → H) : ∃ places, DataW.whole enc Tryd.prog ((laidWorld os).forCall (fun _ _ => 0) ⟨#[], #[.slice none 0 0, .agg #[.string ⟨#[]⟩, .string ⟨#[]⟩, .int .i64 0], .int .u64 0, .bool false], []⟩).memory Tryd.f6.params.toList Rows.originHasSpec.vars false (#[.slice none 0 0, .agg #[.string ⟨#[]⟩, .string ⟨#[]⟩, .int .i64 0], .int .u64 0, .bool false] : Array Value).toList 8 = some ([.nil, .agg [.lit (.string []), .lit (.string []), .lit (.int .i64 0)], .lit (.int .u64 0), .lit (.bool false)], [], places) :=
  ⟨[], by kernel_rfl⟩
theorem originHas_lifted (os : Os) (started : os.Started) (H : Type) (enc : TypeId × Value → H) (F : Stop.Interp) :
    ReturnsInHanded {} Tryd.checked os 6 .any ((Rows.OpenSpec.upto Rows.originHasSpec).preRow enc Tryd.prog Tryd.f6 Rows.originHasUptoRow.domain false Rows.originHasUptoRow.laid) (((Rows.OpenSpec.upto Rows.originHasSpec).at F).post enc Tryd.prog Tryd.f6 false true false false) := by
  obtain ⟨places, hx⟩ := originHas_reads os enc
  refine returnsInHanded_of_row (C := Tryd.checked) (s := Rows.OpenSpec.upto Rows.originHasSpec) own started (by kernel_rfl) Tryd.func6
    (witness_row_at (enc := enc) (C := Tryd.checked) false (laidWorld os) #[.slice none 0 0, .agg #[.string ⟨#[]⟩, .string ⟨#[]⟩, .int .i64 0], .int .u64 0, .bool false] rfl (by kernel_rfl) (by kernel_rfl) (by kernel_rfl)
      (OpenSpec.preRow_of_cond 8 hx (by kernel_rfl) (fun k hk => by cases hk; kernel_rfl) (by kernel_rfl) (originHas_laid os))) ?_
  intro W base args ds gs before hval hW _ hcond _ hL hsh _
  exact originHas_contract H enc W base args ds gs before hval hW (hcond _ rfl) (libF_of (by kernel_rfl) (by kernel_rfl) hL hsh)

theorem originHas_over : Rows.OriginHasUptoSaid :=
  OpenClaim.holds_of_cond 6 Tryd.f6 rfl rfl rfl rfl rfl rfl rfl ⟨rfl, rfl, rfl, rfl, rfl⟩ rfl rfl rfl rfl rfl (by kernel_rfl) Tryd.func6 (by kernel_rfl)
    (of_decide_eq_true (by kernel_rfl)) (by unfold Func.isWrapper; first | (rw [if_pos (by decide +kernel)]; kernel_rfl) | (rw [if_neg (by decide +kernel)]; exact ⟨rfl, rfl⟩))
    (fun os started H enc _ F => by rw [OpenClaim.pre_eq_preRow]; exact originHas_lifted os started H enc F)
theorem originHas_plain (f : FuncId) (fn : Func) (hf : Tryd.pinned.checked.prog.funcNamed "herald/heraldlaw15.OriginHas" = some f) (hfn : Tryd.pinned.checked.prog.funcs[f]? = some fn) :
    false = Tryd.pinned.checked.prog.looks [] ∧ ∀ (j : Nat) t, fn.params[j]? = some t → Tryd.pinned.checked.prog.wantsStandIn t = false := by
  obtain rfl : f = 6 := Option.some.inj ((show Tryd.prog.funcNamed "herald/heraldlaw15.OriginHas" = some 6 by kernel_rfl).symm.trans hf) |>.symm
  obtain rfl : fn = Tryd.f6 := (Option.some.inj (Tryd.func6.symm.trans hfn)).symm
  refine ⟨by kernel_rfl, fun j t ht => ?_⟩
  rw [Tryd.params6] at ht
  have hm := Array.mem_of_getElem? ht
  simp only [List.mem_toArray, List.mem_cons, List.not_mem_nil, or_false] at hm
  repeat' (first | (rcases hm with rfl | hm) | subst hm)
  all_goals exact (show Tryd.prog.wantsStandIn _ = false by kernel_rfl)
theorem originHas_holds : Rows.OriginHasUptoCardSaid :=
  Claim7.holds_tied_plain_at .later [] _ _ _ _ originHas_over (fun _ h => by cases h) (by kernel_rfl) (fun _ h => by cases h) originHasUpto_row_tie rfl ⟨rfl, rfl⟩ (by kernel_rfl) rfl originHas_plain (by kernel_rfl)
#print axioms originHas_holds
end Go.Proofs.YtjdcljggbbeikaaDoor
