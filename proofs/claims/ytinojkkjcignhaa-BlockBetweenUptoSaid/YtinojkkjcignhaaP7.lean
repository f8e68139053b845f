/- The law BlockBetween returns true and leaves its arguments as they read: what comes between the frames of a block breaks the joiner, and what follows is told the same.
   Conditions: what is read is of bulk at most 1048576 (the statement's second form). -/
import Derived.Test.YtinojkkjcignhaaN
import Derived.Test.YtinojkkjcignhaaR
import Derived.Test.YtinojkkjcignhaaRows
import Derived.JoinedCond
set_option linter.unusedVariables false
set_option linter.unusedSimpArgs false
set_option maxRecDepth 100000
namespace Go.Proofs.Ytinojkkjcignhaa
open Go.Proofs Go.Proofs.YtinojkkjcignhaaA

theorem blockBetween_contract (H : Type) (enc : TypeId × Value → H) (W : World) (base : Nat) (args : Array Value) (ds gs : List (DataW H)) (before : List MemPlace)
    (hval : ∀ (j : Nat) t v, Try.f7.params[j]? = some t → args[j]? = some v → Value.okWide Try.prog W .any base t v)
    (hW : DataW.Whole enc Try.prog Try.f7.params.toList Rows.blockBetweenSpec.vars false W args.toList ds gs before) (hk : Rows.uptoSmall H (ds ++ gs) = true) :
    Calls Try.prog 7 args W fun e W' => ∃ v, e = .returned v ∧ Rows.blockBetweenSpec.post enc Try.prog Try.f7 false true false false W args v W' := by
  refine law_holds (t4 := boolT) laidOut ?_ (by kernel_rfl) und_boolT rfl ?_ (Pars.cons par_frame (Pars.cons par_frame (Pars.cons par_frames Pars.nil))) ?_ hval hW
  · rw [Try.params7]
    intro t ht
    simp only [Array.toList, List.mem_cons, List.not_mem_nil, or_false] at ht
    repeat' (first | (rcases ht with rfl | ht) | subst ht)
    all_goals exact ⟨by kernel_rfl, of_decide_eq_true (by kernel_rfl)⟩
  · intro ds hds
    rw [Try.params7] at hds
    obtain ⟨d1, d2, d3, rfl⟩ : ∃ d1 d2 d3, ds = [d1, d2, d3] := by
      match ds, hds with
      | [d1, d2, d3], _ => exact ⟨d1, d2, d3, rfl⟩
    exact ⟨rfl, rfl, rfl⟩
  · have hsm := small hk
    rintro ⟨h, bt, th, _⟩ - hsz
    dsimp only [szF] at hsz
    obtain ⟨n1, h1⟩ := frames_small (l := th) (by omega)
    exact BlockBetween_ok h bt th (by omega) (by omega) (by omega) n1 h1

theorem blockBetween_lifted (os : Os) (started : os.Started) (H : Type) (enc : TypeId × Value → H) (F : Stop.Interp) :
    ReturnsInHanded {} Try.checked os 7 .any ((Rows.OpenSpec.upto Rows.blockBetweenSpec).pre6 enc Try.prog Try.f7 Rows.blockBetweenUptoRow.domain false) (((Rows.OpenSpec.upto Rows.blockBetweenSpec).at F).post enc Try.prog Try.f7 false true false false) := by
  refine returnsInHanded_of_cond (C := Try.checked) (s := Rows.OpenSpec.upto Rows.blockBetweenSpec) (k := Rows.uptoSmall) rfl own started (by kernel_rfl) Try.func7
    (OpenSpec.witness (enc := enc) (C := Try.checked) (s := Rows.OpenSpec.upto Rows.blockBetweenSpec) (k := Rows.uptoSmall) rfl false ⟨#[], #[.agg #[.int .i64 0, .int .i64 0, .int .i64 0, .string ⟨#[]⟩, .int .i64 0, .int .i64 0, .bool false, .int .i64 0, .int .i64 0, .int .i64 0, .slice none 0 0], .agg #[.int .i64 0, .int .i64 0, .int .i64 0, .string ⟨#[]⟩, .int .i64 0, .int .i64 0, .bool false, .int .i64 0, .int .i64 0, .int .i64 0, .slice none 0 0], .slice none 0 0], []⟩ 8 (by kernel_rfl) (by kernel_rfl) (by kernel_rfl)
      (x := ([.agg [.lit (.int .i64 0), .lit (.int .i64 0), .lit (.int .i64 0), .lit (.string []), .lit (.int .i64 0), .lit (.int .i64 0), .lit (.bool false), .lit (.int .i64 0), .lit (.int .i64 0), .lit (.int .i64 0), .nil], .agg [.lit (.int .i64 0), .lit (.int .i64 0), .lit (.int .i64 0), .lit (.string []), .lit (.int .i64 0), .lit (.int .i64 0), .lit (.bool false), .lit (.int .i64 0), .lit (.int .i64 0), .lit (.int .i64 0), .nil], .nil], [], [])) (by kernel_rfl) rfl (by kernel_rfl)) ?_
  intro W base args ds gs before hval hW _ hk _
  exact blockBetween_contract H enc W base args ds gs before hval hW hk

theorem blockBetween_over : Rows.blockBetweenUptoRow.holds Try.pinned (Rows.OpenSpec.upto Rows.blockBetweenSpec) :=
  OpenClaim.holds_of_cond 7 Try.f7 rfl rfl rfl rfl rfl rfl rfl ⟨rfl, rfl, rfl, rfl, rfl⟩ rfl rfl rfl rfl rfl (by kernel_rfl) Try.func7 (by kernel_rfl)
    (of_decide_eq_true (by kernel_rfl)) (by unfold Func.isWrapper; first | (rw [if_pos (by decide +kernel)]; kernel_rfl) | (rw [if_neg (by decide +kernel)]; exact ⟨rfl, rfl⟩))
    (fun os started H enc _ F => blockBetween_lifted os started H enc F)
theorem blockBetween_holds : Rows.BlockBetweenUptoSaid := blockBetween_over
#print axioms blockBetween_holds
end Go.Proofs.Ytinojkkjcignhaa
