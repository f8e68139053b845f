/- The law VaryFields returns true and leaves its arguments as they read: fields that no name names do not count, each that one names does.
   Conditions: what is read is of bulk at most 1048576 (the statement's second form); the card ties what the row lists to the program's text. -/
import Derived.Test.YtfebfgmbaenhlaaDoorM
import Derived.Test.YtfebfgmbaenhlaaDoorN
set_option linter.unusedVariables false
set_option linter.unusedSimpArgs false
set_option maxRecDepth 100000
namespace Go.Proofs.YtfebfgmbaenhlaaDoor
open Go.Proofs Go.Proofs.YtfebfgmbaenhlaaDoorA

theorem varyFields_contract (H : Type) (enc : TypeId × Value → H) (W : World) (base : Nat) (args : Array Value) (ds gs : List (DataW H)) (before : List MemPlace)
    (hval : ∀ (j : Nat) t v, Tryd.f6.params[j]? = some t → args[j]? = some v → Value.okWide Tryd.prog W .any base t v)
    (hW : DataW.Whole enc Tryd.prog Tryd.f6.params.toList Rows.varyFieldsSpec.vars false W args.toList ds gs before) (hk : Rows.uptoSmall H (ds ++ gs) = true) :
    Calls Tryd.prog 6 args W fun e W' => ∃ v, e = .returned v ∧ Rows.varyFieldsSpec.post enc Tryd.prog Tryd.f6 false true false false W args v W' := by
  refine law_holds (t4 := boolT) laidOut ?_ (by kernel_rfl) und_boolT rfl ?_ (Pars.cons par_rq (Pars.cons par_strs (Pars.cons par_fld (Pars.cons par_i Pars.nil)))) ?_ hval hW
  · rw [Tryd.params6]
    intro t ht
    simp only [Array.toList, List.mem_cons, List.not_mem_nil, or_false] at ht
    repeat' (first | (rcases ht with rfl | ht) | subst ht)
    all_goals exact ⟨by kernel_rfl, of_decide_eq_true (by kernel_rfl)⟩
  · intro ds hds
    rw [Tryd.params6] at hds
    obtain ⟨d1, d2, d3, d4, rfl⟩ : ∃ d1 d2 d3 d4, ds = [d1, d2, d3, d4] := by
      match ds, hds with
      | [d1, d2, d3, d4], _ => exact ⟨d1, d2, d3, d4, rfl⟩
    exact ⟨rfl, rfl, rfl⟩
  · have hsm := small hk
    rintro ⟨p, names, f, at_, _⟩ - hsz
    dsimp only [szRq, szFl] at hsz
    obtain ⟨n1, h1⟩ := fs_small (l := p.fs) (by omega)
    have h4 := sum_len (f := fun s : ByteArray => s.size + 1) (fun _ => by omega) names
    exact VaryFields_ok p names f at_ n1 (by omega) (by omega) (by omega)

theorem varyFields_laid (os : Os) : laidMet Tryd.prog Rows.varyFieldsUptoRow.laid ((laidWorld os).forCall (fun _ _ => 0) ⟨#[], #[.agg #[.string ⟨#[]⟩, .string ⟨#[]⟩, .string ⟨#[]⟩, .string ⟨#[]⟩, .slice none 0 0, .string ⟨#[]⟩], .slice none 0 0, .agg #[.string ⟨#[]⟩, .string ⟨#[]⟩, .bool false], .int .i64 0], []⟩).memory :=
  laidMet_of_run' 8 (by kernel_rfl) (by kernel_rfl)
theorem varyFields_reads (os : Os) {H : Type} (enc : TypeId × Value → H) : ∃ places, DataW.whole enc Tryd.prog ((laidWorld os).forCall (fun _ _ => 0) ⟨#[], #[.agg #[.string ⟨#[]⟩, .string ⟨#[]⟩, .string ⟨#[]⟩, .string ⟨#[]⟩, .slice none 0 0, .string ⟨#[]⟩], .slice none 0 0, .agg #[.string ⟨#[]⟩, .string ⟨#[]⟩, .bool false], .int .i64 0], []⟩).memory Tryd.f6.params.toList Rows.varyFieldsSpec.vars false (#[.agg #[.string ⟨#[]⟩, .string ⟨#[]⟩, .string ⟨#[]⟩, .string ⟨#[]⟩, .slice none 0 0, .string ⟨#[]⟩], .slice none 0 0, .agg #[.string ⟨#[]⟩, .string ⟨#[]⟩, .bool false], .int .i64 0] : Array Value).toList 8 = some ([.agg [.lit (.string []), .lit (.string []), .lit (.string []), .lit (.string []), .nil, .lit (.string [])], .nil, .agg [.lit (.string []), .lit (.string []), .lit (.bool false)], .lit (.int .i64 0)], [], places) :=
  ⟨[], by kernel_rfl⟩
theorem varyFields_lifted (os : Os) (started : os.Started) (H : Type) (enc : TypeId × Value → H) (F : Stop.Interp) :
    ReturnsInHanded {} Tryd.checked os 6 .any ((Rows.OpenSpec.upto Rows.varyFieldsSpec).preRow enc Tryd.prog Tryd.f6 Rows.varyFieldsUptoRow.domain false Rows.varyFieldsUptoRow.laid) (((Rows.OpenSpec.upto Rows.varyFieldsSpec).at F).post enc Tryd.prog Tryd.f6 false true false false) := by
  obtain ⟨places, hx⟩ := varyFields_reads os enc
  refine returnsInHanded_of_row (C := Tryd.checked) (s := Rows.OpenSpec.upto Rows.varyFieldsSpec) own started (by kernel_rfl) Tryd.func6
    (witness_row_at (enc := enc) (C := Tryd.checked) false (laidWorld os) #[.agg #[.string ⟨#[]⟩, .string ⟨#[]⟩, .string ⟨#[]⟩, .string ⟨#[]⟩, .slice none 0 0, .string ⟨#[]⟩], .slice none 0 0, .agg #[.string ⟨#[]⟩, .string ⟨#[]⟩, .bool false], .int .i64 0] rfl (by kernel_rfl) (by kernel_rfl) (by kernel_rfl)
      (OpenSpec.preRow_of_cond 8 hx (by kernel_rfl) (fun k hk => by cases hk; kernel_rfl) (by kernel_rfl) (varyFields_laid os))) ?_
  intro W base args ds gs before hval hW _ hcond _ hL _ _
  exact varyFields_contract H enc W base args ds gs before hval hW (hcond _ rfl)

theorem varyFields_over : Rows.VaryFieldsUptoSaid :=
  OpenClaim.holds_of_cond 6 Tryd.f6 rfl rfl rfl rfl rfl rfl rfl ⟨rfl, rfl, rfl, rfl, rfl⟩ rfl rfl rfl rfl rfl (by kernel_rfl) Tryd.func6 (by kernel_rfl)
    (of_decide_eq_true (by kernel_rfl)) (by unfold Func.isWrapper; first | (rw [if_pos (by decide +kernel)]; kernel_rfl) | (rw [if_neg (by decide +kernel)]; exact ⟨rfl, rfl⟩))
    (fun os started H enc _ F => by rw [OpenClaim.pre_eq_preRow]; exact varyFields_lifted os started H enc F)
theorem varyFields_plain (f : FuncId) (fn : Func) (hf : Tryd.pinned.checked.prog.funcNamed "herald/heraldlaw16.VaryFields" = some f) (hfn : Tryd.pinned.checked.prog.funcs[f]? = some fn) :
    false = Tryd.pinned.checked.prog.looks [] ∧ ∀ (j : Nat) t, fn.params[j]? = some t → Tryd.pinned.checked.prog.wantsStandIn t = false := by
  obtain rfl : f = 6 := Option.some.inj ((show Tryd.prog.funcNamed "herald/heraldlaw16.VaryFields" = some 6 by kernel_rfl).symm.trans hf) |>.symm
  obtain rfl : fn = Tryd.f6 := (Option.some.inj (Tryd.func6.symm.trans hfn)).symm
  refine ⟨by kernel_rfl, fun j t ht => ?_⟩
  rw [Tryd.params6] at ht
  have hm := Array.mem_of_getElem? ht
  simp only [List.mem_toArray, List.mem_cons, List.not_mem_nil, or_false] at hm
  repeat' (first | (rcases hm with rfl | hm) | subst hm)
  all_goals exact (show Tryd.prog.wantsStandIn _ = false by kernel_rfl)
theorem varyFields_holds : Rows.VaryFieldsUptoCardSaid :=
  Claim7.holds_tied_plain_at .later [] _ _ _ _ varyFields_over (fun _ h => by cases h) (by kernel_rfl) (fun _ h => by cases h) varyFieldsUpto_row_tie rfl ⟨rfl, rfl⟩ (by kernel_rfl) rfl varyFields_plain (by kernel_rfl)
#print axioms varyFields_holds
end Go.Proofs.YtfebfgmbaenhlaaDoor
