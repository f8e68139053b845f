/- The law TableCopies returns true and leaves its arguments as they read: copies apart.
   Conditions: what is read is of bulk at most 1048576 (the statement's second form). -/
import Derived.Test.YtmenbolalghljaaN2
import Derived.Test.YtmenbolalghljaaL
import Derived.Test.YtmenbolalghljaaRows
import Derived.JoinedCond
set_option linter.unusedVariables false
set_option linter.unusedSimpArgs false
set_option maxRecDepth 100000
namespace Go.Proofs.Ytmenbolalghljaa
open Go.Proofs Go.Proofs.YtmenbolalghljaaA

theorem tableCopies_contract (H : Type) (enc : TypeId × Value → H) (W : World) (base : Nat) (args : Array Value) (ds gs : List (DataW H)) (before : List MemPlace)
    (hval : ∀ (j : Nat) t v, Try.f7.params[j]? = some t → args[j]? = some v → Value.okWide Try.prog W .any base t v)
    (hW : DataW.Whole enc Try.prog Try.f7.params.toList Rows.tableCopiesSpec.vars false W args.toList ds gs before) (hk : Rows.uptoSmall H (ds ++ gs) = true) :
    Calls Try.prog 7 args W fun e W' => ∃ v, e = .returned v ∧ Rows.tableCopiesSpec.post enc Try.prog Try.f7 false true false false W args v W' := by
  refine law_holds (t4 := boolT) laidOut ?_ (by kernel_rfl) und_boolT rfl ?_ (Pars.cons par_l (Pars.cons par_ens (Pars.cons par_ens (Pars.cons par_ens (Pars.cons par_l Pars.nil))))) ?_ hval hW
  · rw [Try.params7]
    intro t ht
    simp only [Array.toList, List.mem_cons, List.not_mem_nil, or_false] at ht
    repeat' (first | (rcases ht with rfl | ht) | subst ht)
    all_goals exact ⟨by kernel_rfl, of_decide_eq_true (by kernel_rfl)⟩
  · intro ds hds
    rw [Try.params7] at hds
    obtain ⟨d1, d2, d3, d4, d5, rfl⟩ : ∃ d1 d2 d3 d4 d5, ds = [d1, d2, d3, d4, d5] := by
      match ds, hds with
      | [d1, d2, d3, d4, d5], _ => exact ⟨d1, d2, d3, d4, d5, rfl⟩
    exact ⟨rfl, rfl, rfl⟩
  · have hsm := small hk
    rintro ⟨mx, l, one, two, size, _⟩ hi hsz
    dsimp only at hsz hi
    have h := ens_small (l := l) (by omega)
    have h1 := ens_small (l := one) (by omega)
    have h2 := ens_small (l := two) (by omega)
    exact TableCopies_ok mx l one two size (wf_i64 hi.1) (wf_i64 hi.2.2.2.2.1) h.1 h.2 h1.1 h1.2 h2.1 h2.2

theorem tableCopies_lifted (os : Os) (started : os.Started) (H : Type) (enc : TypeId × Value → H) (F : Stop.Interp) :
    ReturnsInHanded {} Try.checked os 7 .any ((Rows.OpenSpec.upto Rows.tableCopiesSpec).pre6 enc Try.prog Try.f7 Rows.tableCopiesUptoRow.domain false) (((Rows.OpenSpec.upto Rows.tableCopiesSpec).at F).post enc Try.prog Try.f7 false true false false) := by
  refine returnsInHanded_of_cond (C := Try.checked) (s := Rows.OpenSpec.upto Rows.tableCopiesSpec) (k := Rows.uptoSmall) rfl own started (by kernel_rfl) Try.func7
    (OpenSpec.witness (enc := enc) (C := Try.checked) (s := Rows.OpenSpec.upto Rows.tableCopiesSpec) (k := Rows.uptoSmall) rfl false ⟨#[], #[.int .i64 0, .slice none 0 0, .slice none 0 0, .slice none 0 0, .int .i64 0], []⟩ 8 (by kernel_rfl) (by kernel_rfl) (by kernel_rfl)
      (x := ([.lit (.int .i64 0), .nil, .nil, .nil, .lit (.int .i64 0)], [], [])) (by kernel_rfl) rfl (by kernel_rfl)) ?_
  intro W base args ds gs before hval hW _ hk _
  exact tableCopies_contract H enc W base args ds gs before hval hW hk

theorem tableCopies_over : Rows.tableCopiesUptoRow.holds Try.pinned (Rows.OpenSpec.upto Rows.tableCopiesSpec) :=
  OpenClaim.holds_of_cond 7 Try.f7 rfl rfl rfl rfl rfl rfl rfl ⟨rfl, rfl, rfl, rfl, rfl⟩ rfl rfl rfl rfl rfl (by kernel_rfl) Try.func7 (by kernel_rfl)
    (of_decide_eq_true (by kernel_rfl)) (by unfold Func.isWrapper; first | (rw [if_pos (by decide +kernel)]; kernel_rfl) | (rw [if_neg (by decide +kernel)]; exact ⟨rfl, rfl⟩))
    (fun os started H enc _ F => tableCopies_lifted os started H enc F)
theorem tableCopies_holds : Rows.TableCopiesUptoSaid := tableCopies_over
#print axioms tableCopies_holds
end Go.Proofs.Ytmenbolalghljaa
