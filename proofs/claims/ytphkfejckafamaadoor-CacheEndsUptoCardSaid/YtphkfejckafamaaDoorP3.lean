/- The law CacheEnds returns true and leaves its arguments as they read: an entry is given at arrival + Life, and one tick later no more.
   Conditions: what is read is of bulk at most 1048576 (the statement's second form); the card ties what the row lists to the program's text. -/
import Derived.Test.YtphkfejckafamaaDoorS
import Derived.Test.YtphkfejckafamaaDoorTN
set_option linter.unusedVariables false
set_option linter.unusedSimpArgs false
set_option maxRecDepth 100000
namespace Go.Proofs.YtphkfejckafamaaDoor
open Go.Proofs Go.Proofs.YtphkfejckafamaaDoorA

theorem cacheEnds_contract (H : Type) (enc : TypeId × Value → H) (W : World) (base : Nat) (args : Array Value) (ds gs : List (DataW H)) (before : List MemPlace)
    (hval : ∀ (j : Nat) t v, Tryd.f10.params[j]? = some t → args[j]? = some v → Value.okWide Tryd.prog W .any base t v)
    (hW : DataW.Whole enc Tryd.prog Tryd.f10.params.toList Rows.cacheEndsSpec.vars false W args.toList ds gs before) (hk : Rows.uptoSmall H (ds ++ gs) = true) :
    Calls Tryd.prog 10 args W fun e W' => ∃ v, e = .returned v ∧ Rows.cacheEndsSpec.post enc Tryd.prog Tryd.f10 false true false false W args v W' := by
  refine law_holds (t4 := boolT) laidOut ?_ (by kernel_rfl) und_boolT rfl ?_ (Pars.cons par_rq (Pars.cons par_rs (Pars.cons par_i2 (Pars.cons par_i2 (Pars.cons par_i2 Pars.nil))))) ?_ hval hW
  · rw [Tryd.params10]
    intro t ht
    simp only [Array.toList, List.mem_cons, List.not_mem_nil, or_false] at ht
    repeat' (first | (rcases ht with rfl | ht) | subst ht)
    all_goals exact ⟨by kernel_rfl, of_decide_eq_true (by kernel_rfl)⟩
  · intro ds hds
    rw [Tryd.params10] at hds
    obtain ⟨d1, d2, d3, d4, d5, rfl⟩ : ∃ d1 d2 d3 d4 d5, ds = [d1, d2, d3, d4, d5] := by
      match ds, hds with
      | [d1, d2, d3, d4, d5], _ => exact ⟨d1, d2, d3, d4, d5, rfl⟩
    exact ⟨rfl, rfl, rfl⟩
  · have hsm := small hk
    rintro ⟨q, r, life, at0, back, _⟩ hinv hsz
    dsimp only [szRq, szRs] at hsz
    obtain ⟨-, -, -, -, hb, -⟩ := hinv
    obtain ⟨n1, h1⟩ := fs_small (l := q.fs) (by omega)
    obtain ⟨n2, h2⟩ := fs_small (l := r.fs) (by omega)
    have h3 := namesN_len r.fs
    have h4 : (r.fs.map szFl).sum + 1 = szFs r.fs := rfl
    refine CacheEnds_ok q r life at0 back ⟨n1, fun f hf => ?_⟩ ⟨⟨n2, fun f hf => ?_⟩, by omega, by omega⟩ (wf_i64 hb)
    · have := h1 f hf; omega
    · have := h2 f hf; omega

theorem cacheEnds_laid (os : Os) : laidMet Tryd.prog Rows.cacheEndsUptoRow.laid ((laidWorld os).forCall (fun _ _ => 0) ⟨#[], #[.agg #[.string ⟨#[]⟩, .string ⟨#[]⟩, .string ⟨#[]⟩, .string ⟨#[]⟩, .slice none 0 0, .string ⟨#[]⟩], .agg #[.int .i64 0, .slice none 0 0, .string ⟨#[]⟩], .int .i64 0, .int .i64 0, .int .i64 0], []⟩).memory :=
  laidMet_of_run' 8 (by kernel_rfl) (by kernel_rfl)
theorem cacheEnds_reads (os : Os) {H : Type} (enc : TypeId × Value → H) : ∃ places, DataW.whole enc Tryd.prog ((laidWorld os).forCall (fun _ _ => 0) ⟨#[], #[.agg #[.string ⟨#[]⟩, .string ⟨#[]⟩, .string ⟨#[]⟩, .string ⟨#[]⟩, .slice none 0 0, .string ⟨#[]⟩], .agg #[.int .i64 0, .slice none 0 0, .string ⟨#[]⟩], .int .i64 0, .int .i64 0, .int .i64 0], []⟩).memory Tryd.f10.params.toList Rows.cacheEndsSpec.vars false (#[.agg #[.string ⟨#[]⟩, .string ⟨#[]⟩, .string ⟨#[]⟩, .string ⟨#[]⟩, .slice none 0 0, .string ⟨#[]⟩], .agg #[.int .i64 0, .slice none 0 0, .string ⟨#[]⟩], .int .i64 0, .int .i64 0, .int .i64 0] : Array Value).toList 8 = some ([.agg [.lit (.string []), .lit (.string []), .lit (.string []), .lit (.string []), .nil, .lit (.string [])], .agg [.lit (.int .i64 0), .nil, .lit (.string [])], .lit (.int .i64 0), .lit (.int .i64 0), .lit (.int .i64 0)], [], places) :=
  ⟨[], by kernel_rfl⟩
theorem cacheEnds_lifted (os : Os) (started : os.Started) (H : Type) (enc : TypeId × Value → H) (F : Stop.Interp) :
    ReturnsInHanded {} Tryd.checked os 10 .any ((Rows.OpenSpec.upto Rows.cacheEndsSpec).preRow enc Tryd.prog Tryd.f10 Rows.cacheEndsUptoRow.domain false Rows.cacheEndsUptoRow.laid) (((Rows.OpenSpec.upto Rows.cacheEndsSpec).at F).post enc Tryd.prog Tryd.f10 false true false false) := by
  obtain ⟨places, hx⟩ := cacheEnds_reads os enc
  refine returnsInHanded_of_row (C := Tryd.checked) (s := Rows.OpenSpec.upto Rows.cacheEndsSpec) own started (by kernel_rfl) Tryd.func10
    (witness_row_at (enc := enc) (C := Tryd.checked) false (laidWorld os) #[.agg #[.string ⟨#[]⟩, .string ⟨#[]⟩, .string ⟨#[]⟩, .string ⟨#[]⟩, .slice none 0 0, .string ⟨#[]⟩], .agg #[.int .i64 0, .slice none 0 0, .string ⟨#[]⟩], .int .i64 0, .int .i64 0, .int .i64 0] rfl (by kernel_rfl) (by kernel_rfl) (by kernel_rfl)
      (OpenSpec.preRow_of_cond 8 hx (by kernel_rfl) (fun k hk => by cases hk; kernel_rfl) (by kernel_rfl) (cacheEnds_laid os))) ?_
  intro W base args ds gs before hval hW _ hcond _ hL _ _
  exact cacheEnds_contract H enc W base args ds gs before hval hW (hcond _ rfl)

theorem cacheEnds_over : Rows.CacheEndsUptoSaid :=
  OpenClaim.holds_of_cond 10 Tryd.f10 rfl rfl rfl rfl rfl rfl rfl ⟨rfl, rfl, rfl, rfl, rfl⟩ rfl rfl rfl rfl rfl (by kernel_rfl) Tryd.func10 (by kernel_rfl)
    (of_decide_eq_true (by kernel_rfl)) (by unfold Func.isWrapper; first | (rw [if_pos (by decide +kernel)]; kernel_rfl) | (rw [if_neg (by decide +kernel)]; exact ⟨rfl, rfl⟩))
    (fun os started H enc _ F => by rw [OpenClaim.pre_eq_preRow]; exact cacheEnds_lifted os started H enc F)
theorem cacheEnds_plain (f : FuncId) (fn : Func) (hf : Tryd.pinned.checked.prog.funcNamed "herald/heraldlaw19.CacheEnds" = some f) (hfn : Tryd.pinned.checked.prog.funcs[f]? = some fn) :
    false = Tryd.pinned.checked.prog.looks [] ∧ ∀ (j : Nat) t, fn.params[j]? = some t → Tryd.pinned.checked.prog.wantsStandIn t = false := by
  obtain rfl : f = 10 := Option.some.inj ((show Tryd.prog.funcNamed "herald/heraldlaw19.CacheEnds" = some 10 by kernel_rfl).symm.trans hf) |>.symm
  obtain rfl : fn = Tryd.f10 := (Option.some.inj (Tryd.func10.symm.trans hfn)).symm
  refine ⟨by kernel_rfl, fun j t ht => ?_⟩
  rw [Tryd.params10] at ht
  have hm := Array.mem_of_getElem? ht
  simp only [List.mem_toArray, List.mem_cons, List.not_mem_nil, or_false] at hm
  repeat' (first | (rcases hm with rfl | hm) | subst hm)
  all_goals exact (show Tryd.prog.wantsStandIn _ = false by kernel_rfl)
theorem cacheEnds_holds : Rows.CacheEndsUptoCardSaid :=
  Claim7.holds_tied_plain_at .later [] _ _ _ _ cacheEnds_over (fun _ h => by cases h) (by kernel_rfl) (fun _ h => by cases h) cacheEndsUpto_row_tie rfl ⟨rfl, rfl⟩ (by kernel_rfl) rfl cacheEnds_plain (by kernel_rfl)
#print axioms cacheEnds_holds
end Go.Proofs.YtphkfejckafamaaDoor
