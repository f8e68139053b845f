/- The law VaryNames returns true and leaves its argument as it reads: Names of every response is the document's.
   Conditions: what is read is of bulk at most 1048576 (the statement's second form); the card ties what the row lists to the program's text. -/
import Derived.Test.YtfebfgmbaenhlaaDoorJ
import Derived.Test.YtfebfgmbaenhlaaDoorN
set_option linter.unusedVariables false
set_option linter.unusedSimpArgs false
set_option maxRecDepth 100000
namespace Go.Proofs.YtfebfgmbaenhlaaDoor
open Go.Proofs Go.Proofs.YtfebfgmbaenhlaaDoorA

theorem varyNames_contract (H : Type) (enc : TypeId × Value → H) (W : World) (base : Nat) (args : Array Value) (ds gs : List (DataW H)) (before : List MemPlace)
    (hval : ∀ (j : Nat) t v, Tryd.f3.params[j]? = some t → args[j]? = some v → Value.okWide Tryd.prog W .any base t v)
    (hW : DataW.Whole enc Tryd.prog Tryd.f3.params.toList Rows.varyNamesSpec.vars false W args.toList ds gs before) (hk : Rows.uptoSmall H (ds ++ gs) = true) :
    Calls Tryd.prog 3 args W fun e W' => ∃ v, e = .returned v ∧ Rows.varyNamesSpec.post enc Tryd.prog Tryd.f3 false true false false W args v W' := by
  refine law_holds (t4 := boolT) laidOut ?_ (by kernel_rfl) und_boolT rfl ?_ (Pars.cons par_rs Pars.nil) ?_ hval hW
  · rw [Tryd.params3]
    intro t ht
    simp only [Array.toList, List.mem_cons, List.not_mem_nil, or_false] at ht
    repeat' (first | (rcases ht with rfl | ht) | subst ht)
    all_goals exact ⟨by kernel_rfl, of_decide_eq_true (by kernel_rfl)⟩
  · intro ds hds
    rw [Tryd.params3] at hds
    obtain ⟨d1, rfl⟩ : ∃ d1, ds = [d1] := by
      match ds, hds with
      | [d1], _ => exact ⟨d1, rfl⟩
    exact ⟨rfl, rfl, rfl⟩
  · have hsm := small hk
    rintro ⟨r, _⟩ - hsz
    dsimp only [szRs] at hsz
    obtain ⟨n1, h1⟩ := fs_small (l := r.fs) (by omega)
    exact VaryNames_ok r n1 (fun f hf => (h1 f hf).1)

theorem varyNames_laid (os : Os) : laidMet Tryd.prog Rows.varyNamesUptoRow.laid ((laidWorld os).forCall (fun _ _ => 0) ⟨#[], #[.agg #[.int .i64 0, .slice none 0 0, .string ⟨#[]⟩]], []⟩).memory :=
  laidMet_of_run' 8 (by kernel_rfl) (by kernel_rfl)
theorem varyNames_reads (os : Os) {H : Type} (enc : TypeId × Value → H) : ∃ places, DataW.whole enc Tryd.prog ((laidWorld os).forCall (fun _ _ => 0) ⟨#[], #[.agg #[.int .i64 0, .slice none 0 0, .string ⟨#[]⟩]], []⟩).memory Tryd.f3.params.toList Rows.varyNamesSpec.vars false (#[.agg #[.int .i64 0, .slice none 0 0, .string ⟨#[]⟩]] : Array Value).toList 8 = some ([.agg [.lit (.int .i64 0), .nil, .lit (.string [])]], [], places) :=
  ⟨[], by kernel_rfl⟩
theorem varyNames_lifted (os : Os) (started : os.Started) (H : Type) (enc : TypeId × Value → H) (F : Stop.Interp) :
    ReturnsInHanded {} Tryd.checked os 3 .any ((Rows.OpenSpec.upto Rows.varyNamesSpec).preRow enc Tryd.prog Tryd.f3 Rows.varyNamesUptoRow.domain false Rows.varyNamesUptoRow.laid) (((Rows.OpenSpec.upto Rows.varyNamesSpec).at F).post enc Tryd.prog Tryd.f3 false true false false) := by
  obtain ⟨places, hx⟩ := varyNames_reads os enc
  refine returnsInHanded_of_row (C := Tryd.checked) (s := Rows.OpenSpec.upto Rows.varyNamesSpec) own started (by kernel_rfl) Tryd.func3
    (witness_row_at (enc := enc) (C := Tryd.checked) false (laidWorld os) #[.agg #[.int .i64 0, .slice none 0 0, .string ⟨#[]⟩]] rfl (by kernel_rfl) (by kernel_rfl) (by kernel_rfl)
      (OpenSpec.preRow_of_cond 8 hx (by kernel_rfl) (fun k hk => by cases hk; kernel_rfl) (by kernel_rfl) (varyNames_laid os))) ?_
  intro W base args ds gs before hval hW _ hcond _ hL _ _
  exact varyNames_contract H enc W base args ds gs before hval hW (hcond _ rfl)

theorem varyNames_over : Rows.VaryNamesUptoSaid :=
  OpenClaim.holds_of_cond 3 Tryd.f3 rfl rfl rfl rfl rfl rfl rfl ⟨rfl, rfl, rfl, rfl, rfl⟩ rfl rfl rfl rfl rfl (by kernel_rfl) Tryd.func3 (by kernel_rfl)
    (of_decide_eq_true (by kernel_rfl)) (by unfold Func.isWrapper; first | (rw [if_pos (by decide +kernel)]; kernel_rfl) | (rw [if_neg (by decide +kernel)]; exact ⟨rfl, rfl⟩))
    (fun os started H enc _ F => by rw [OpenClaim.pre_eq_preRow]; exact varyNames_lifted os started H enc F)
theorem varyNames_plain (f : FuncId) (fn : Func) (hf : Tryd.pinned.checked.prog.funcNamed "herald/heraldlaw16.VaryNames" = some f) (hfn : Tryd.pinned.checked.prog.funcs[f]? = some fn) :
    false = Tryd.pinned.checked.prog.looks [] ∧ ∀ (j : Nat) t, fn.params[j]? = some t → Tryd.pinned.checked.prog.wantsStandIn t = false := by
  obtain rfl : f = 3 := Option.some.inj ((show Tryd.prog.funcNamed "herald/heraldlaw16.VaryNames" = some 3 by kernel_rfl).symm.trans hf) |>.symm
  obtain rfl : fn = Tryd.f3 := (Option.some.inj (Tryd.func3.symm.trans hfn)).symm
  refine ⟨by kernel_rfl, fun j t ht => ?_⟩
  rw [Tryd.params3] at ht
  have hm := Array.mem_of_getElem? ht
  simp only [List.mem_toArray, List.mem_cons, List.not_mem_nil, or_false] at hm
  repeat' (first | (rcases hm with rfl | hm) | subst hm)
  all_goals exact (show Tryd.prog.wantsStandIn _ = false by kernel_rfl)
theorem varyNames_holds : Rows.VaryNamesUptoCardSaid :=
  Claim7.holds_tied_plain_at .later [] _ _ _ _ varyNames_over (fun _ h => by cases h) (by kernel_rfl) (fun _ h => by cases h) varyNamesUpto_row_tie rfl ⟨rfl, rfl⟩ (by kernel_rfl) rfl varyNames_plain (by kernel_rfl)
#print axioms varyNames_holds
end Go.Proofs.YtfebfgmbaenhlaaDoor
