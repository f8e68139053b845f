/- The law VaryAlike returns true and leaves its arguments as they read: Match says which requests are alike.
   Conditions: what is read is of bulk at most 1048576 (the statement's second form); the card ties what the row lists to the program's text. -/
import Derived.Test.YtfebfgmbaenhlaaDoorL
import Derived.Test.YtfebfgmbaenhlaaDoorN
set_option linter.unusedVariables false
set_option linter.unusedSimpArgs false
set_option maxRecDepth 100000
namespace Go.Proofs.YtfebfgmbaenhlaaDoor
open Go.Proofs Go.Proofs.YtfebfgmbaenhlaaDoorA

theorem varyAlike_contract (H : Type) (enc : TypeId × Value → H) (W : World) (base : Nat) (args : Array Value) (ds gs : List (DataW H)) (before : List MemPlace)
    (hval : ∀ (j : Nat) t v, Tryd.f5.params[j]? = some t → args[j]? = some v → Value.okWide Tryd.prog W .any base t v)
    (hW : DataW.Whole enc Tryd.prog Tryd.f5.params.toList Rows.varyAlikeSpec.vars false W args.toList ds gs before) (hk : Rows.uptoSmall H (ds ++ gs) = true) :
    Calls Tryd.prog 5 args W fun e W' => ∃ v, e = .returned v ∧ Rows.varyAlikeSpec.post enc Tryd.prog Tryd.f5 false true false false W args v W' := by
  refine law_holds (t4 := boolT) laidOut ?_ (by kernel_rfl) und_boolT rfl ?_ (Pars.cons par_rq (Pars.cons par_rq (Pars.cons par_rq (Pars.cons par_strs Pars.nil)))) ?_ hval hW
  · rw [Tryd.params5]
    intro t ht
    simp only [Array.toList, List.mem_cons, List.not_mem_nil, or_false] at ht
    repeat' (first | (rcases ht with rfl | ht) | subst ht)
    all_goals exact ⟨by kernel_rfl, of_decide_eq_true (by kernel_rfl)⟩
  · intro ds hds
    rw [Tryd.params5] at hds
    obtain ⟨d1, d2, d3, d4, rfl⟩ : ∃ d1 d2 d3 d4, ds = [d1, d2, d3, d4] := by
      match ds, hds with
      | [d1, d2, d3, d4], _ => exact ⟨d1, d2, d3, d4, rfl⟩
    exact ⟨rfl, rfl, rfl⟩
  · have hsm := small hk
    rintro ⟨p, q, r, names, _⟩ - hsz
    dsimp only [szRq] at hsz
    obtain ⟨n1, h1⟩ := fs_small (l := p.fs) (by omega)
    obtain ⟨n2, h2⟩ := fs_small (l := q.fs) (by omega)
    obtain ⟨n3, h3⟩ := fs_small (l := r.fs) (by omega)
    have h4 := sum_len (f := fun s : ByteArray => s.size + 1) (fun _ => by omega) names
    exact VaryAlike_ok p q r names n1 n2 n3 (by omega)

theorem varyAlike_laid (os : Os) : laidMet Tryd.prog Rows.varyAlikeUptoRow.laid ((laidWorld os).forCall (fun _ _ => 0) ⟨#[], #[.agg #[.string ⟨#[]⟩, .string ⟨#[]⟩, .string ⟨#[]⟩, .string ⟨#[]⟩, .slice none 0 0, .string ⟨#[]⟩], .agg #[.string ⟨#[]⟩, .string ⟨#[]⟩, .string ⟨#[]⟩, .string ⟨#[]⟩, .slice none 0 0, .string ⟨#[]⟩], .agg #[.string ⟨#[]⟩, .string ⟨#[]⟩, .string ⟨#[]⟩, .string ⟨#[]⟩, .slice none 0 0, .string ⟨#[]⟩], .slice none 0 0], []⟩).memory :=
  laidMet_of_run' 8 (by kernel_rfl) (by kernel_rfl)
theorem varyAlike_reads (os : Os) {H : Type} (enc : TypeId × Value → H) : ∃ places, DataW.whole enc Tryd.prog ((laidWorld os).forCall (fun _ _ => 0) ⟨#[], #[.agg #[.string ⟨#[]⟩, .string ⟨#[]⟩, .string ⟨#[]⟩, .string ⟨#[]⟩, .slice none 0 0, .string ⟨#[]⟩], .agg #[.string ⟨#[]⟩, .string ⟨#[]⟩, .string ⟨#[]⟩, .string ⟨#[]⟩, .slice none 0 0, .string ⟨#[]⟩], .agg #[.string ⟨#[]⟩, .string ⟨#[]⟩, .string ⟨#[]⟩, .string ⟨#[]⟩, .slice none 0 0, .string ⟨#[]⟩], .slice none 0 0], []⟩).memory Tryd.f5.params.toList Rows.varyAlikeSpec.vars false (#[.agg #[.string ⟨#[]⟩, .string ⟨#[]⟩, .string ⟨#[]⟩, .string ⟨#[]⟩, .slice none 0 0, .string ⟨#[]⟩], .agg #[.string ⟨#[]⟩, .string ⟨#[]⟩, .string ⟨#[]⟩, .string ⟨#[]⟩, .slice none 0 0, .string ⟨#[]⟩], .agg #[.string ⟨#[]⟩, .string ⟨#[]⟩, .string ⟨#[]⟩, .string ⟨#[]⟩, .slice none 0 0, .string ⟨#[]⟩], .slice none 0 0] : Array Value).toList 8 = some ([.agg [.lit (.string []), .lit (.string []), .lit (.string []), .lit (.string []), .nil, .lit (.string [])], .agg [.lit (.string []), .lit (.string []), .lit (.string []), .lit (.string []), .nil, .lit (.string [])], .agg [.lit (.string []), .lit (.string []), .lit (.string []), .lit (.string []), .nil, .lit (.string [])], .nil], [], places) :=
  ⟨[], by kernel_rfl⟩
theorem varyAlike_lifted (os : Os) (started : os.Started) (H : Type) (enc : TypeId × Value → H) (F : Stop.Interp) :
    ReturnsInHanded {} Tryd.checked os 5 .any ((Rows.OpenSpec.upto Rows.varyAlikeSpec).preRow enc Tryd.prog Tryd.f5 Rows.varyAlikeUptoRow.domain false Rows.varyAlikeUptoRow.laid) (((Rows.OpenSpec.upto Rows.varyAlikeSpec).at F).post enc Tryd.prog Tryd.f5 false true false false) := by
  obtain ⟨places, hx⟩ := varyAlike_reads os enc
  refine returnsInHanded_of_row (C := Tryd.checked) (s := Rows.OpenSpec.upto Rows.varyAlikeSpec) own started (by kernel_rfl) Tryd.func5
    (witness_row_at (enc := enc) (C := Tryd.checked) false (laidWorld os) #[.agg #[.string ⟨#[]⟩, .string ⟨#[]⟩, .string ⟨#[]⟩, .string ⟨#[]⟩, .slice none 0 0, .string ⟨#[]⟩], .agg #[.string ⟨#[]⟩, .string ⟨#[]⟩, .string ⟨#[]⟩, .string ⟨#[]⟩, .slice none 0 0, .string ⟨#[]⟩], .agg #[.string ⟨#[]⟩, .string ⟨#[]⟩, .string ⟨#[]⟩, .string ⟨#[]⟩, .slice none 0 0, .string ⟨#[]⟩], .slice none 0 0] rfl (by kernel_rfl) (by kernel_rfl) (by kernel_rfl)
      (OpenSpec.preRow_of_cond 8 hx (by kernel_rfl) (fun k hk => by cases hk; kernel_rfl) (by kernel_rfl) (varyAlike_laid os))) ?_
  intro W base args ds gs before hval hW _ hcond _ hL _ _
  exact varyAlike_contract H enc W base args ds gs before hval hW (hcond _ rfl)

theorem varyAlike_over : Rows.VaryAlikeUptoSaid :=
  OpenClaim.holds_of_cond 5 Tryd.f5 rfl rfl rfl rfl rfl rfl rfl ⟨rfl, rfl, rfl, rfl, rfl⟩ rfl rfl rfl rfl rfl (by kernel_rfl) Tryd.func5 (by kernel_rfl)
    (of_decide_eq_true (by kernel_rfl)) (by unfold Func.isWrapper; first | (rw [if_pos (by decide +kernel)]; kernel_rfl) | (rw [if_neg (by decide +kernel)]; exact ⟨rfl, rfl⟩))
    (fun os started H enc _ F => by rw [OpenClaim.pre_eq_preRow]; exact varyAlike_lifted os started H enc F)
theorem varyAlike_plain (f : FuncId) (fn : Func) (hf : Tryd.pinned.checked.prog.funcNamed "herald/heraldlaw16.VaryAlike" = some f) (hfn : Tryd.pinned.checked.prog.funcs[f]? = some fn) :
    false = Tryd.pinned.checked.prog.looks [] ∧ ∀ (j : Nat) t, fn.params[j]? = some t → Tryd.pinned.checked.prog.wantsStandIn t = false := by
  obtain rfl : f = 5 := Option.some.inj ((show Tryd.prog.funcNamed "herald/heraldlaw16.VaryAlike" = some 5 by kernel_rfl).symm.trans hf) |>.symm
  obtain rfl : fn = Tryd.f5 := (Option.some.inj (Tryd.func5.symm.trans hfn)).symm
  refine ⟨by kernel_rfl, fun j t ht => ?_⟩
  rw [Tryd.params5] at ht
  have hm := Array.mem_of_getElem? ht
  simp only [List.mem_toArray, List.mem_cons, List.not_mem_nil, or_false] at hm
  repeat' (first | (rcases hm with rfl | hm) | subst hm)
  all_goals exact (show Tryd.prog.wantsStandIn _ = false by kernel_rfl)
theorem varyAlike_holds : Rows.VaryAlikeUptoCardSaid :=
  Claim7.holds_tied_plain_at .later [] _ _ _ _ varyAlike_over (fun _ h => by cases h) (by kernel_rfl) (fun _ h => by cases h) varyAlikeUpto_row_tie rfl ⟨rfl, rfl⟩ (by kernel_rfl) rfl varyAlike_plain (by kernel_rfl)
#print axioms varyAlike_holds
end Go.Proofs.YtfebfgmbaenhlaaDoor
