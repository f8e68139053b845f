/- The law TableLast returns true and leaves its arguments as they read: the last ones that fit.
   Conditions: what is read is of bulk at most 1048576 (the statement's second form). -/
import Derived.Test.YtmenbolalghljaaN2
import Derived.Test.YtmenbolalghljaaK
import Derived.Test.YtmenbolalghljaaRows
import Derived.JoinedCond
set_option linter.unusedVariables false
set_option linter.unusedSimpArgs false
set_option maxRecDepth 100000
namespace Go.Proofs.Ytmenbolalghljaa
open Go.Proofs Go.Proofs.YtmenbolalghljaaA

theorem tableLast_contract (H : Type) (enc : TypeId × Value → H) (W : World) (base : Nat) (args : Array Value) (ds gs : List (DataW H)) (before : List MemPlace)
    (hval : ∀ (j : Nat) t v, Try.f4.params[j]? = some t → args[j]? = some v → Value.okWide Try.prog W .any base t v)
    (hW : DataW.Whole enc Try.prog Try.f4.params.toList Rows.tableLastSpec.vars false W args.toList ds gs before) (hk : Rows.uptoSmall H (ds ++ gs) = true) :
    Calls Try.prog 4 args W fun e W' => ∃ v, e = .returned v ∧ Rows.tableLastSpec.post enc Try.prog Try.f4 false true false false W args v W' := by
  refine law_holds (t4 := boolT) laidOut ?_ (by kernel_rfl) und_boolT rfl ?_ (Pars.cons par_l (Pars.cons par_ens (Pars.cons par_is (Pars.cons par_ens Pars.nil)))) ?_ hval hW
  · rw [Try.params4]
    intro t ht
    simp only [Array.toList, List.mem_cons, List.not_mem_nil, or_false] at ht
    repeat' (first | (rcases ht with rfl | ht) | subst ht)
    all_goals exact ⟨by kernel_rfl, of_decide_eq_true (by kernel_rfl)⟩
  · intro ds hds
    rw [Try.params4] at hds
    obtain ⟨d1, d2, d3, d4, rfl⟩ : ∃ d1 d2 d3 d4, ds = [d1, d2, d3, d4] := by
      match ds, hds with
      | [d1, d2, d3, d4], _ => exact ⟨d1, d2, d3, d4, rfl⟩
    exact ⟨rfl, rfl, rfl⟩
  · have hsm := small hk
    rintro ⟨mx, l, sizes, more, _⟩ hi hsz
    dsimp only at hsz hi
    have h := ens_small (l := l) (by omega)
    have h2 := ens_small (l := more) (by omega)
    exact TableLast_ok mx l sizes more (wf_i64 hi.1) (fun n hn => wf_i64 (hi.2.2.1 n hn)) (ints_len (by omega)) h.1 h.2 h2.1 h2.2

theorem tableLast_lifted (os : Os) (started : os.Started) (H : Type) (enc : TypeId × Value → H) (F : Stop.Interp) :
    ReturnsInHanded {} Try.checked os 4 .any ((Rows.OpenSpec.upto Rows.tableLastSpec).pre6 enc Try.prog Try.f4 Rows.tableLastUptoRow.domain false) (((Rows.OpenSpec.upto Rows.tableLastSpec).at F).post enc Try.prog Try.f4 false true false false) := by
  refine returnsInHanded_of_cond (C := Try.checked) (s := Rows.OpenSpec.upto Rows.tableLastSpec) (k := Rows.uptoSmall) rfl own started (by kernel_rfl) Try.func4
    (OpenSpec.witness (enc := enc) (C := Try.checked) (s := Rows.OpenSpec.upto Rows.tableLastSpec) (k := Rows.uptoSmall) rfl false ⟨#[], #[.int .i64 0, .slice none 0 0, .slice none 0 0, .slice none 0 0], []⟩ 8 (by kernel_rfl) (by kernel_rfl) (by kernel_rfl)
      (x := ([.lit (.int .i64 0), .nil, .nil, .nil], [], [])) (by kernel_rfl) rfl (by kernel_rfl)) ?_
  intro W base args ds gs before hval hW _ hk _
  exact tableLast_contract H enc W base args ds gs before hval hW hk

theorem tableLast_over : Rows.tableLastUptoRow.holds Try.pinned (Rows.OpenSpec.upto Rows.tableLastSpec) :=
  OpenClaim.holds_of_cond 4 Try.f4 rfl rfl rfl rfl rfl rfl rfl ⟨rfl, rfl, rfl, rfl, rfl⟩ rfl rfl rfl rfl rfl (by kernel_rfl) Try.func4 (by kernel_rfl)
    (of_decide_eq_true (by kernel_rfl)) (by unfold Func.isWrapper; first | (rw [if_pos (by decide +kernel)]; kernel_rfl) | (rw [if_neg (by decide +kernel)]; exact ⟨rfl, rfl⟩))
    (fun os started H enc _ F => tableLast_lifted os started H enc F)
theorem tableLast_holds : Rows.TableLastUptoSaid := tableLast_over
#print axioms tableLast_holds
end Go.Proofs.Ytmenbolalghljaa
