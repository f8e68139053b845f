/- The law CachePlays returns true and leaves its arguments as they read: of two caches of any bounds, for every script, each answer is the document's.
   Conditions: what is read is of bulk at most 1048576 (the statement's second form); the card ties what the row lists to the program's text. -/
import Derived.Test.YtphkfejckafamaaDoorIA
import Derived.Test.YtphkfejckafamaaDoorMN
set_option linter.unusedVariables false
set_option linter.unusedSimpArgs false
set_option maxRecDepth 100000
namespace Go.Proofs.YtphkfejckafamaaDoor
open Go.Proofs Go.Proofs.YtphkfejckafamaaDoorA

theorem cachePlays_contract (H : Type) (enc : TypeId × Value → H) (W : World) (base : Nat) (args : Array Value) (ds gs : List (DataW H)) (before : List MemPlace)
    (hval : ∀ (j : Nat) t v, Tryd.f8.params[j]? = some t → args[j]? = some v → Value.okWide Tryd.prog W .any base t v)
    (hW : DataW.Whole enc Tryd.prog Tryd.f8.params.toList Rows.cachePlaysSpec.vars false W args.toList ds gs before) (hk : Rows.uptoSmall H (ds ++ gs) = true) (hB : LibF (baseOf W)) :
    Calls Tryd.prog 8 args W fun e W' => ∃ v, e = .returned v ∧ Rows.cachePlaysSpec.post enc Tryd.prog Tryd.f8 false true false false W args v W' := by
  refine law_holdsB (t4 := boolT) laidOut ?_ (by kernel_rfl) und_boolT rfl ?_ (Pars.cons par_conf (Pars.cons par_conf (Pars.cons par_ops Pars.nil))) ?_ hval hW
  · rw [Tryd.params8]
    intro t ht
    simp only [Array.toList, List.mem_cons, List.not_mem_nil, or_false] at ht
    repeat' (first | (rcases ht with rfl | ht) | subst ht)
    all_goals exact ⟨by kernel_rfl, of_decide_eq_true (by kernel_rfl)⟩
  · intro ds hds
    rw [Tryd.params8] at hds
    obtain ⟨d1, d2, d3, rfl⟩ : ∃ d1 d2 d3, ds = [d1, d2, d3] := by
      match ds, hds with
      | [d1, d2, d3], _ => exact ⟨d1, d2, d3, rfl⟩
    exact ⟨rfl, rfl, rfl⟩
  · have hsm := small hk
    rintro ⟨a, b, ops, _⟩ hinv hsz
    dsimp only at hsz
    obtain ⟨-, -, hw, -⟩ := hinv
    obtain ⟨h1, h2⟩ := okO (l := ops) (by omega) hw
    exact CachePlays_ok hB a b ops h1 h2

theorem cachePlays_laid (os : Os) : laidMet Tryd.prog Rows.cachePlaysUptoRow.laid ((laidWorld os).forCall (fun _ _ => 0) ⟨#[], #[.agg #[.int .i64 0, .int .i64 0, .int .i64 0, .int .i64 0], .agg #[.int .i64 0, .int .i64 0, .int .i64 0, .int .i64 0], .slice none 0 0], []⟩).memory :=
  laidMet_of_run' 8 (by kernel_rfl) (by kernel_rfl)
theorem cachePlays_reads (os : Os) {H : Type} (enc : TypeId × Value → H) : ∃ places, DataW.whole enc Tryd.prog ((laidWorld os).forCall (fun _ _ => 0) ⟨#[], #[.agg #[.int .i64 0, .int .i64 0, .int .i64 0, .int .i64 0], .agg #[.int .i64 0, .int .i64 0, .int .i64 0, .int .i64 0], .slice none 0 0], []⟩).memory Tryd.f8.params.toList Rows.cachePlaysSpec.vars false (#[.agg #[.int .i64 0, .int .i64 0, .int .i64 0, .int .i64 0], .agg #[.int .i64 0, .int .i64 0, .int .i64 0, .int .i64 0], .slice none 0 0] : Array Value).toList 8 = some ([.agg [.lit (.int .i64 0), .lit (.int .i64 0), .lit (.int .i64 0), .lit (.int .i64 0)], .agg [.lit (.int .i64 0), .lit (.int .i64 0), .lit (.int .i64 0), .lit (.int .i64 0)], .nil], [], places) :=
  ⟨[], by kernel_rfl⟩
theorem cachePlays_lifted (os : Os) (started : os.Started) (H : Type) (enc : TypeId × Value → H) (F : Stop.Interp) :
    ReturnsInHanded {} Tryd.checked os 8 .any ((Rows.OpenSpec.upto Rows.cachePlaysSpec).preRow enc Tryd.prog Tryd.f8 Rows.cachePlaysUptoRow.domain false Rows.cachePlaysUptoRow.laid) (((Rows.OpenSpec.upto Rows.cachePlaysSpec).at F).post enc Tryd.prog Tryd.f8 false true false false) := by
  obtain ⟨places, hx⟩ := cachePlays_reads os enc
  refine returnsInHanded_of_row (C := Tryd.checked) (s := Rows.OpenSpec.upto Rows.cachePlaysSpec) own started (by kernel_rfl) Tryd.func8
    (witness_row_at (enc := enc) (C := Tryd.checked) false (laidWorld os) #[.agg #[.int .i64 0, .int .i64 0, .int .i64 0, .int .i64 0], .agg #[.int .i64 0, .int .i64 0, .int .i64 0, .int .i64 0], .slice none 0 0] rfl (by kernel_rfl) (by kernel_rfl) (by kernel_rfl)
      (OpenSpec.preRow_of_cond 8 hx (by kernel_rfl) (fun k hk => by cases hk; kernel_rfl) (by kernel_rfl) (cachePlays_laid os))) ?_
  intro W base args ds gs before hval hW _ hcond _ hL hsh _
  exact cachePlays_contract H enc W base args ds gs before hval hW (hcond _ rfl) (libF_of (by kernel_rfl) (by kernel_rfl) hL hsh)

theorem cachePlays_over : Rows.CachePlaysUptoSaid :=
  OpenClaim.holds_of_cond 8 Tryd.f8 rfl rfl rfl rfl rfl rfl rfl ⟨rfl, rfl, rfl, rfl, rfl⟩ rfl rfl rfl rfl rfl (by kernel_rfl) Tryd.func8 (by kernel_rfl)
    (of_decide_eq_true (by kernel_rfl)) (by unfold Func.isWrapper; first | (rw [if_pos (by decide +kernel)]; kernel_rfl) | (rw [if_neg (by decide +kernel)]; exact ⟨rfl, rfl⟩))
    (fun os started H enc _ F => by rw [OpenClaim.pre_eq_preRow]; exact cachePlays_lifted os started H enc F)
theorem cachePlays_plain (f : FuncId) (fn : Func) (hf : Tryd.pinned.checked.prog.funcNamed "herald/heraldlaw19.CachePlays" = some f) (hfn : Tryd.pinned.checked.prog.funcs[f]? = some fn) :
    false = Tryd.pinned.checked.prog.looks [] ∧ ∀ (j : Nat) t, fn.params[j]? = some t → Tryd.pinned.checked.prog.wantsStandIn t = false := by
  obtain rfl : f = 8 := Option.some.inj ((show Tryd.prog.funcNamed "herald/heraldlaw19.CachePlays" = some 8 by kernel_rfl).symm.trans hf) |>.symm
  obtain rfl : fn = Tryd.f8 := (Option.some.inj (Tryd.func8.symm.trans hfn)).symm
  refine ⟨by kernel_rfl, fun j t ht => ?_⟩
  rw [Tryd.params8] at ht
  have hm := Array.mem_of_getElem? ht
  simp only [List.mem_toArray, List.mem_cons, List.not_mem_nil, or_false] at hm
  repeat' (first | (rcases hm with rfl | hm) | subst hm)
  all_goals exact (show Tryd.prog.wantsStandIn _ = false by kernel_rfl)
theorem cachePlays_holds : Rows.CachePlaysUptoCardSaid :=
  Claim7.holds_tied_plain_at .later [] _ _ _ _ cachePlays_over (fun _ h => by cases h) (by kernel_rfl) (fun _ h => by cases h) cachePlaysUpto_row_tie rfl ⟨rfl, rfl⟩ (by kernel_rfl) rfl cachePlays_plain (by kernel_rfl)
#print axioms cachePlays_holds
end Go.Proofs.YtphkfejckafamaaDoor
