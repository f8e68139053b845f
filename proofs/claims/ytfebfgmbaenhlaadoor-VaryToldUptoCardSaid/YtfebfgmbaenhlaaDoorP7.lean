/- The law VaryTold returns true and leaves its argument as it reads: the names that are told, written as one field, are told again.
   Conditions: what is read is of bulk at most 1048576 (the statement's second form); the card ties what the row lists to the program's text. -/
import Derived.Test.YtfebfgmbaenhlaaDoorR
import Derived.Test.YtfebfgmbaenhlaaDoorN
set_option linter.unusedVariables false
set_option linter.unusedSimpArgs false
set_option maxRecDepth 100000
namespace Go.Proofs.YtfebfgmbaenhlaaDoor
open Go.Proofs Go.Proofs.YtfebfgmbaenhlaaDoorA

theorem wf_le : ∀ l : List Fld, wf l ≤ (l.map szFl).sum
  | [] => Nat.zero_le _
  | f :: l => by
    have := wf_le l
    simp only [wf, List.map_cons, List.sum_cons, szFl] at *
    omega

theorem varyTold_contract (H : Type) (enc : TypeId × Value → H) (W : World) (base : Nat) (args : Array Value) (ds gs : List (DataW H)) (before : List MemPlace)
    (hval : ∀ (j : Nat) t v, Tryd.f7.params[j]? = some t → args[j]? = some v → Value.okWide Tryd.prog W .any base t v)
    (hW : DataW.Whole enc Tryd.prog Tryd.f7.params.toList Rows.varyToldSpec.vars false W args.toList ds gs before) (hk : Rows.uptoSmall H (ds ++ gs) = true) :
    Calls Tryd.prog 7 args W fun e W' => ∃ v, e = .returned v ∧ Rows.varyToldSpec.post enc Tryd.prog Tryd.f7 false true false false W args v W' := by
  refine law_holds (t4 := boolT) laidOut ?_ (by kernel_rfl) und_boolT rfl ?_ (Pars.cons par_rs Pars.nil) ?_ hval hW
  · rw [Tryd.params7]
    intro t ht
    simp only [Array.toList, List.mem_cons, List.not_mem_nil, or_false] at ht
    repeat' (first | (rcases ht with rfl | ht) | subst ht)
    all_goals exact ⟨by kernel_rfl, of_decide_eq_true (by kernel_rfl)⟩
  · intro ds hds
    rw [Tryd.params7] at hds
    obtain ⟨d1, rfl⟩ : ∃ d1, ds = [d1] := by
      match ds, hds with
      | [d1], _ => exact ⟨d1, rfl⟩
    exact ⟨rfl, rfl, rfl⟩
  · have hsm := small hk
    rintro ⟨r, _⟩ - hsz
    dsimp only [szRs] at hsz
    obtain ⟨n1, h1⟩ := fs_small (l := r.fs) (by omega)
    refine VaryTold_ok r n1 (fun f hf => (h1 f hf).1) (Nat.le_trans (Nat.le_trans (wf_le r.fs) (Nat.le_of_lt (Nat.lt_succ_self (r.fs.map szFl).sum))) ?_)
    show szFs r.fs ≤ _
    omega

theorem varyTold_laid (os : Os) : laidMet Tryd.prog Rows.varyToldUptoRow.laid ((laidWorld os).forCall (fun _ _ => 0) ⟨#[], #[.agg #[.int .i64 0, .slice none 0 0, .string ⟨#[]⟩]], []⟩).memory :=
  laidMet_of_run' 8 (by kernel_rfl) (by kernel_rfl)
theorem varyTold_reads (os : Os) {H : Type} (enc : TypeId × Value → H) : ∃ places, DataW.whole enc Tryd.prog ((laidWorld os).forCall (fun _ _ => 0) ⟨#[], #[.agg #[.int .i64 0, .slice none 0 0, .string ⟨#[]⟩]], []⟩).memory Tryd.f7.params.toList Rows.varyToldSpec.vars false (#[.agg #[.int .i64 0, .slice none 0 0, .string ⟨#[]⟩]] : Array Value).toList 8 = some ([.agg [.lit (.int .i64 0), .nil, .lit (.string [])]], [], places) :=
  ⟨[], by kernel_rfl⟩
theorem varyTold_lifted (os : Os) (started : os.Started) (H : Type) (enc : TypeId × Value → H) (F : Stop.Interp) :
    ReturnsInHanded {} Tryd.checked os 7 .any ((Rows.OpenSpec.upto Rows.varyToldSpec).preRow enc Tryd.prog Tryd.f7 Rows.varyToldUptoRow.domain false Rows.varyToldUptoRow.laid) (((Rows.OpenSpec.upto Rows.varyToldSpec).at F).post enc Tryd.prog Tryd.f7 false true false false) := by
  obtain ⟨places, hx⟩ := varyTold_reads os enc
  refine returnsInHanded_of_row (C := Tryd.checked) (s := Rows.OpenSpec.upto Rows.varyToldSpec) own started (by kernel_rfl) Tryd.func7
    (witness_row_at (enc := enc) (C := Tryd.checked) false (laidWorld os) #[.agg #[.int .i64 0, .slice none 0 0, .string ⟨#[]⟩]] rfl (by kernel_rfl) (by kernel_rfl) (by kernel_rfl)
      (OpenSpec.preRow_of_cond 8 hx (by kernel_rfl) (fun k hk => by cases hk; kernel_rfl) (by kernel_rfl) (varyTold_laid os))) ?_
  intro W base args ds gs before hval hW _ hcond _ hL _ _
  exact varyTold_contract H enc W base args ds gs before hval hW (hcond _ rfl)

theorem varyTold_over : Rows.VaryToldUptoSaid :=
  OpenClaim.holds_of_cond 7 Tryd.f7 rfl rfl rfl rfl rfl rfl rfl ⟨rfl, rfl, rfl, rfl, rfl⟩ rfl rfl rfl rfl rfl (by kernel_rfl) Tryd.func7 (by kernel_rfl)
    (of_decide_eq_true (by kernel_rfl)) (by unfold Func.isWrapper; first | (rw [if_pos (by decide +kernel)]; kernel_rfl) | (rw [if_neg (by decide +kernel)]; exact ⟨rfl, rfl⟩))
    (fun os started H enc _ F => by rw [OpenClaim.pre_eq_preRow]; exact varyTold_lifted os started H enc F)
theorem varyTold_plain (f : FuncId) (fn : Func) (hf : Tryd.pinned.checked.prog.funcNamed "herald/heraldlaw16.VaryTold" = some f) (hfn : Tryd.pinned.checked.prog.funcs[f]? = some fn) :
    false = Tryd.pinned.checked.prog.looks [] ∧ ∀ (j : Nat) t, fn.params[j]? = some t → Tryd.pinned.checked.prog.wantsStandIn t = false := by
  obtain rfl : f = 7 := Option.some.inj ((show Tryd.prog.funcNamed "herald/heraldlaw16.VaryTold" = some 7 by kernel_rfl).symm.trans hf) |>.symm
  obtain rfl : fn = Tryd.f7 := (Option.some.inj (Tryd.func7.symm.trans hfn)).symm
  refine ⟨by kernel_rfl, fun j t ht => ?_⟩
  rw [Tryd.params7] at ht
  have hm := Array.mem_of_getElem? ht
  simp only [List.mem_toArray, List.mem_cons, List.not_mem_nil, or_false] at hm
  repeat' (first | (rcases hm with rfl | hm) | subst hm)
  all_goals exact (show Tryd.prog.wantsStandIn _ = false by kernel_rfl)
theorem varyTold_holds : Rows.VaryToldUptoCardSaid :=
  Claim7.holds_tied_plain_at .later [] _ _ _ _ varyTold_over (fun _ h => by cases h) (by kernel_rfl) (fun _ h => by cases h) varyToldUpto_row_tie rfl ⟨rfl, rfl⟩ (by kernel_rfl) rfl varyTold_plain (by kernel_rfl)
#print axioms varyTold_holds
end Go.Proofs.YtfebfgmbaenhlaaDoor
