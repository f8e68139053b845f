/- The law BlockBack returns true and leaves its arguments as they read: a block that is cut by Split and pushed frame by frame comes whole, with its head.
   Conditions: what is read is of bulk at most 1048576 (the statement's second form). -/
import Derived.Test.YtinojkkjcignhaaN
import Derived.Test.YtinojkkjcignhaaQ
import Derived.Test.YtinojkkjcignhaaRows
import Derived.JoinedCond
set_option linter.unusedVariables false
set_option linter.unusedSimpArgs false
set_option maxRecDepth 100000
namespace Go.Proofs.Ytinojkkjcignhaa
open Go.Proofs Go.Proofs.YtinojkkjcignhaaA

theorem blockBack_contract (H : Type) (enc : TypeId × Value → H) (W : World) (base : Nat) (args : Array Value) (ds gs : List (DataW H)) (before : List MemPlace)
    (hval : ∀ (j : Nat) t v, Try.f5.params[j]? = some t → args[j]? = some v → Value.okWide Try.prog W .any base t v)
    (hW : DataW.Whole enc Try.prog Try.f5.params.toList Rows.blockBackSpec.vars false W args.toList ds gs before) (hk : Rows.uptoSmall H (ds ++ gs) = true) :
    Calls Try.prog 5 args W fun e W' => ∃ v, e = .returned v ∧ Rows.blockBackSpec.post enc Try.prog Try.f5 false true false false W args v W' := by
  refine law_holds (t4 := boolT) laidOut ?_ (by kernel_rfl) und_boolT rfl ?_ (Pars.cons par_frame (Pars.cons par_str (Pars.cons par_i Pars.nil))) ?_ hval hW
  · rw [Try.params5]
    intro t ht
    simp only [Array.toList, List.mem_cons, List.not_mem_nil, or_false] at ht
    repeat' (first | (rcases ht with rfl | ht) | subst ht)
    all_goals exact ⟨by kernel_rfl, of_decide_eq_true (by kernel_rfl)⟩
  · intro ds hds
    rw [Try.params5] at hds
    obtain ⟨d1, d2, d3, rfl⟩ : ∃ d1 d2 d3, ds = [d1, d2, d3] := by
      match ds, hds with
      | [d1, d2, d3], _ => exact ⟨d1, d2, d3, rfl⟩
    exact ⟨rfl, rfl, rfl⟩
  · have hsm := small hk
    rintro ⟨h, b, size, _⟩ - hsz
    dsimp only [szF] at hsz
    exact BlockBack_ok h b size (by omega) (by omega) (by omega)

theorem blockBack_lifted (os : Os) (started : os.Started) (H : Type) (enc : TypeId × Value → H) (F : Stop.Interp) :
    ReturnsInHanded {} Try.checked os 5 .any ((Rows.OpenSpec.upto Rows.blockBackSpec).pre6 enc Try.prog Try.f5 Rows.blockBackUptoRow.domain false) (((Rows.OpenSpec.upto Rows.blockBackSpec).at F).post enc Try.prog Try.f5 false true false false) := by
  refine returnsInHanded_of_cond (C := Try.checked) (s := Rows.OpenSpec.upto Rows.blockBackSpec) (k := Rows.uptoSmall) rfl own started (by kernel_rfl) Try.func5
    (OpenSpec.witness (enc := enc) (C := Try.checked) (s := Rows.OpenSpec.upto Rows.blockBackSpec) (k := Rows.uptoSmall) rfl false ⟨#[], #[.agg #[.int .i64 0, .int .i64 0, .int .i64 0, .string ⟨#[]⟩, .int .i64 0, .int .i64 0, .bool false, .int .i64 0, .int .i64 0, .int .i64 0, .slice none 0 0], .string ⟨#[]⟩, .int .i64 0], []⟩ 8 (by kernel_rfl) (by kernel_rfl) (by kernel_rfl)
      (x := ([.agg [.lit (.int .i64 0), .lit (.int .i64 0), .lit (.int .i64 0), .lit (.string []), .lit (.int .i64 0), .lit (.int .i64 0), .lit (.bool false), .lit (.int .i64 0), .lit (.int .i64 0), .lit (.int .i64 0), .nil], .lit (.string []), .lit (.int .i64 0)], [], [])) (by kernel_rfl) rfl (by kernel_rfl)) ?_
  intro W base args ds gs before hval hW _ hk _
  exact blockBack_contract H enc W base args ds gs before hval hW hk

theorem blockBack_over : Rows.blockBackUptoRow.holds Try.pinned (Rows.OpenSpec.upto Rows.blockBackSpec) :=
  OpenClaim.holds_of_cond 5 Try.f5 rfl rfl rfl rfl rfl rfl rfl ⟨rfl, rfl, rfl, rfl, rfl⟩ rfl rfl rfl rfl rfl (by kernel_rfl) Try.func5 (by kernel_rfl)
    (of_decide_eq_true (by kernel_rfl)) (by unfold Func.isWrapper; first | (rw [if_pos (by decide +kernel)]; kernel_rfl) | (rw [if_neg (by decide +kernel)]; exact ⟨rfl, rfl⟩))
    (fun os started H enc _ F => blockBack_lifted os started H enc F)
theorem blockBack_holds : Rows.BlockBackUptoSaid := blockBack_over
#print axioms blockBack_holds
end Go.Proofs.Ytinojkkjcignhaa
