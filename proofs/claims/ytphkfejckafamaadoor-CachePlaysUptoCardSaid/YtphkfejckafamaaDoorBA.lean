import Derived.Test.YtphkfejckafamaaDoorOA
import Derived.Test.YtphkfejckafamaaDoorR
set_option linter.unusedVariables false
set_option linter.unusedSimpArgs false
set_option maxRecDepth 100000
namespace Go.Proofs.YtphkfejckafamaaDoor
open Go.Proofs Go.Proofs.YtphkfejckafamaaDoorA Go.RowKit

section
variable {P : Program} {st : St} {dst : Option Tmp} {ty : TypeId} {pos : String} {after : Array Edge} {gd : Option (Nat × Bool)}
/-- A package's variable is read, as it lay there at the call's start. -/
theorem ev_load_glob {B : Base} {t : TypeId} {gb : Nat} {z : Value} {k b : Nat} {cs : List AV} [hu : AgF P t true] [he : ElF P t z k b] {lb : Nat} {rb : List (Nat × Tok)} (hg : RepV B.S B.R B.w (.ip cs) (.pointer (some ⟨gb, 0, none⟩))) (htk : Take st.toks lb B.tok rb) (hk : k ≤ cs.length) : OpEv P ⟨dst, .load t (.global gb), ty, pos, after, gd⟩ st (.agg (cs.take k)) :=
  ev_same fun S R a w hh ho => by
    have hr := (Base.tok_ext hh htk).rep hg
    have hv : a.eval (.global gb) = .pointer (some ⟨gb, 0, none⟩) := rfl
    cases hr with
    | ip hS hc h1 hF =>
      rename_i F
      have hr : ∀ j y, (cs.take k)[j]? = some y → j < k ∧ cs[j]? = some y := fun j y hy => by
        have hj := (List.getElem?_eq_some_iff.1 hy).1
        rw [List.length_take] at hj
        rw [List.getElem?_take, if_pos (by omega)] at hy
        exact ⟨by omega, hy⟩
      refine ⟨.agg ((List.range k).map F).toArray, ?_, .agg (by simp; omega) (fun i y hy => ?_)⟩
      · have := run_loadVar_agg (P := P) (t := t) ⟨gb, 0, none⟩ ((List.range k).map F) (by simp) w (fun j v hjv => by
          have hj := (List.getElem?_eq_some_iff.1 hjv).1
          simp at hj
          simp [hj] at hjv
          obtain ⟨y, hy⟩ : ∃ y, cs[j]? = some y := ⟨_, List.getElem?_eq_getElem (by omega)⟩
          rw [hc j y hy, hjv])
        simp [execOp, Instr.loadAt, hv, Instr.sureAddr, this]
      · obtain ⟨hik, hy'⟩ := hr i y hy
        have := hF i y hy'
        simpa [hik] using this
end
/-- The law's mark lies in its variable. -/
def MarkF (B : Base) : Prop := RepV B.S B.R B.w (.ip (encF mk19)) (.pointer (some ⟨0, 0, none⟩))
theorem lent_ok {B : Base} (hB : MarkF B) (l : List Fld) (hn : l.length ≤ 1073741824) : FnB B Tryd.prog 55 [] [fsl l] (fun ts r => ∃ lab, ts = [(lab, .row 33 3 (l.map encF ++ [encF mk19]))] ∧ r = .own lab 0 l.length) := by
  refine fnB_of Tryd.func55 rfl Tryd.ntmps55 Tryd.results55 rfl fun G hG => ?_
  refine aw_fact hG fun lb => ?_
  have hlen : (l.map encF).length = l.length := by simp
  repeat' (first | apply ar_nil | (apply ar_ev; (apply ev_move; rfl); rfl) | (apply ar_ev; (first | (apply ev_load_glob hB (by repeat (first | exact Take.head | apply Take.tail | apply Take.right)); decide) | (apply ev_assign; rfl) | (apply ev_len_sl; rfl) | (apply ev_slice_own; rfl; (focus ((repeat (first | exact Take.head | apply Take.tail | apply Take.right)); done)); exact (by first | exact LoB.none | exact LoB.some (l := 0) rfl | exact LoB.some (l := 1) rfl | exact LoB.some rfl); exact (by first | exact HiB.none | exact HiB.some rfl); exact (by first | omega | assumption); exact (by first | omega | assumption | (simp; done) | (simp; omega) | exact Nat.le_of_ble_eq_true rfl)) | (apply ev_buildSlice; rfl; rfl; rfl; rfl; rfl; rfl; rfl)); rfl) | apply aw_seq | apply a_region | apply aw_ret | apply go_seq | (apply ar_new; (apply eff_append_nil; rfl; rfl; exact (by first | omega | assumption | (simp; done) | (simp; omega) | exact Nat.le_of_ble_eq_true rfl); exact (by first | omega | assumption | (simp; done) | (simp; omega) | exact Nat.le_of_ble_eq_true rfl)); exact .nil; rfl; intro lab) | (apply ar_append; rfl; (focus ((repeat (first | exact Take.head | apply Take.tail | apply Take.right)); done)); rfl; exact (by first | omega | assumption | (simp; done) | (simp; omega) | exact Nat.le_of_ble_eq_true rfl); exact (by first | omega | assumption | (simp; done) | (simp; omega) | exact Nat.le_of_ble_eq_true rfl); exact (by first | omega | assumption | (simp; done) | (simp; omega) | exact Nat.le_of_ble_eq_true rfl); rfl; intro lab))
  have hrow : List.take l.length (List.drop 0 (List.take l.length (l.map encF))) ++ List.take 1 [encF mk19] = l.map encF ++ [encF mk19] := by
    rw [take_one _ _ _ (by simp), List.take_of_length_le (by simp)]
  exact g_ret1 (us := [(_, .row 33 3 (l.map encF ++ [encF mk19]))]) (r_tmp rfl) (.cons (Take.rowc hrow .head) .nil) ⟨_, rfl, rfl⟩
theorem kept_ok19 {B : Base} (hB : MarkF B) (l : List Fld) (hn : l.length ≤ 1073741824) : PFnB B Tryd.prog 60 [.sl 3 (l.map encF ++ [encF mk19]) l.length, fsl l] (vb true) := by
  refine fnB_of Tryd.func60 rfl Tryd.ntmps60 Tryd.results60 rfl fun G hG => ?_
  refine aw_fact hG fun lb => ?_
  have hlen : (l.map encF ++ [encF mk19]).length = l.length + 1 := by simp
  have hsm : PFn Tryd.prog 72 [.sl 3 (l.map encF ++ [encF mk19]) l.length, fsl l] (vb true) := by
    have h := sameFields_ok l l (by omega)
    rw [decide_eq_true rfl] at h
    exact fn_args h (.cons (Le.take (by simp)) (.cons Le.refl .nil))
  have hf2 : (l.map encF ++ [encF mk19])[l.length]? = some (encF mk19) := by simp
  repeat' (first | apply ar_nil | (apply ar_ev; (apply ev_move (y := .val (.bool true)); rfl); rfl) | (apply ar_ev; (apply ev_move; rfl); rfl) | (apply ar_ev; (first | exact ev_call rfl rfl hsm | (apply ev_assign; rfl) | (apply ev_pick_t; rfl; rfl) | (apply ev_inc; rfl; exact (by first | omega | assumption)) | (apply ev_len_sl; rfl) | (apply ev_slice_sl; rfl; exact (by first | exact LoB.none | exact LoB.some (l := 0) rfl | exact LoB.some (l := 1) rfl | exact LoB.some rfl); exact (by first | exact HiB.none | exact HiB.some rfl); exact (by first | omega | assumption); exact (by first | omega | assumption | (simp; done) | (simp; omega) | exact Nat.le_of_ble_eq_true rfl))); rfl) | (apply ar_take; rfl; rfl; rfl; (apply ev_move; rfl); rfl) | (apply ar_take; rfl; rfl; rfl; (first | (apply ev_load_glob hB (by repeat (first | exact Take.head | apply Take.tail | apply Take.right)); decide) | (apply ev_load_ip_agg; rfl; exact Nat.le_of_ble_eq_true rfl) | (apply ev_eqt; rfl; rfl; rfl; rfl; rfl; rfl) | (apply ev_len_sl; rfl) | (apply ev_indexAddr_sl; rfl; rfl; exact (by first | omega | assumption); exact (by first | rfl | assumption | exact get_map (by assumption)))); rfl) | apply aw_seq | apply a_region | apply aw_ret | apply go_seq | (first | (apply a_drawN 2; rfl; rfl) | (apply a_drawN 3; rfl; rfl) | (apply a_drawN 4; rfl; rfl) | (apply a_drawN 5; rfl; rfl) | (apply a_drawN 6; rfl; rfl) | (apply a_drawN 7; rfl; rfl) | (apply a_drawN 8; rfl; rfl) | (apply a_drawN 9; rfl; rfl) | (apply a_drawN 10; rfl; rfl) | (apply a_drawN 11; rfl; rfl) | (apply a_drawN 12; rfl; rfl) | (apply a_drawN 13; rfl; rfl) | (apply a_drawN 14; rfl; rfl) | (apply a_drawN 15; rfl; rfl) | (apply a_drawN 16; rfl; rfl) | (apply a_drawN 17; rfl; rfl) | (apply a_drawN 18; rfl; rfl) | (apply a_drawN 19; rfl; rfl) | (apply a_drawN 20; rfl; rfl) | (apply a_drawN 21; rfl; rfl) | (apply a_drawN 22; rfl; rfl) | (apply a_drawN 23; rfl; rfl) | (apply a_drawN 24; rfl; rfl) | (apply a_drawN 25; rfl; rfl) | (apply a_drawN 26; rfl; rfl) | (apply a_drawN 27; rfl; rfl) | (apply a_drawN 28; rfl; rfl) | (apply a_drawN 29; rfl; rfl) | (apply a_drawN 30; rfl; rfl) | (apply a_drawN 31; rfl; rfl) | (apply a_drawN 32; rfl; rfl) | (apply a_drawN 33; rfl; rfl) | (apply a_drawN 34; rfl; rfl) | (apply a_drawN 35; rfl; rfl) | (apply a_drawN 36; rfl; rfl) | (apply a_drawN 37; rfl; rfl) | (apply a_drawN 38; rfl; rfl) | (apply a_drawN 39; rfl; rfl) | (apply a_drawN 40; rfl; rfl) | (apply a_drawN 41; rfl; rfl) | (apply a_drawN 42; rfl; rfl) | (apply a_drawN 43; rfl; rfl) | (apply a_drawN 44; rfl; rfl) | (apply a_drawN 45; rfl; rfl)))
  exact g_ret1 (r_tmp rfl) .nil ⟨rfl, by rw [eqVs_f]⟩
theorem over_ok (lq n : Nat) (xs : List (List AV)) (hn : n ≤ xs.length) (hn2 : n ≤ 1073741824) : FnC Tryd.prog 41 [(lq, .row 33 3 xs)] [.own lq 0 n] (fun ts r => ts = [] ∧ r = .tup []) := by
  refine fn_of Tryd.func41 rfl Tryd.ntmps41 Tryd.results41 rfl fun G => ?_
  repeat' (first | apply ar_nil | (apply ar_ev; (apply ev_assign; rfl); rfl) | apply aw_seq | apply a_region | apply aw_block | apply go_seq)
  refine a_loop (fun g : Nat × List (List AV) => ⟨[(0, .own lq 0 n), (2, vi g.1)], [(lq, .row 33 3 g.2)]⟩) (fun g => g.1 ≤ n ∧ g.2.length = xs.length) (fun g => n - g.1) (0, xs) (Sub.of (by repeat (first | exact .nil | refine .cons rfl Le.refl ?_)) (by repeat (first | exact Takes.nil | (apply Takes.cons; focus (repeat (first | exact Take.head | apply Take.tail | apply Take.right)))))) ⟨Nat.zero_le _, rfl⟩ ?_
  rintro ⟨i, ys⟩ ⟨hi, hy⟩
  dsimp only at hi hy ⊢
  by_cases hk : i < n
  · obtain ⟨cs, hcs⟩ : ∃ cs, ys[i]? = some cs := ⟨_, List.getElem?_eq_getElem (by omega)⟩
    repeat' (first | apply ar_nil | (apply ar_ev; (apply ev_move; rfl); rfl) | (apply ar_ev; (first | (apply ev_assign; rfl) | (apply ev_lss; rfl; rfl) | (apply ev_inc; rfl; exact (by first | omega | assumption)) | (apply ev_len_own; rfl) | (apply ev_indexAddr_own0; rfl; rfl; exact (by first | omega | assumption); (focus ((repeat (first | exact Take.head | apply Take.tail | apply Take.right)); done))) | (apply ev_build; rfl; rfl; rfl)); rfl) | (apply ar_store; rfl; (focus ((repeat (first | exact Take.head | apply Take.tail | apply Take.right)); done)); rfl; rfl; exact (by first | rfl | assumption | exact get_map (by assumption)); rfl; rfl) | apply aw_seq | apply a_region | apply aw_block | apply aw_skip | (apply aw_condp; rfl; all_goals (intro hc; try (exfalso; first | omega | contradiction | (simp at hc; omega) | (simp_all; done)))) | apply go_seq | apply go_block)
    apply go_loop_back
    apply Exists.intro
    apply And.intro
    rotate_left
    apply And.intro
    rotate_left
    exact (show Sub _ ((fun g : Nat × List (List AV) => (⟨[(0, .own lq 0 n), (2, vi g.1)], [(lq, .row 33 3 g.2)]⟩ : St)) (i + 1, _)) from Sub.of (by repeat (first | exact .nil | refine .cons rfl Le.refl ?_)) (by repeat (first | exact Takes.nil | (apply Takes.cons; focus (repeat (first | exact Take.head | apply Take.tail | apply Take.right))))))
    · exact ⟨by dsimp only; omega, by dsimp only; rw [List.length_set]; exact hy⟩
    · dsimp only; omega
  · repeat' (first | apply ar_nil | (apply ar_ev; (apply ev_move; rfl); rfl) | (apply ar_ev; (first | (apply ev_lss; rfl; rfl) | (apply ev_len_own; rfl)); rfl) | apply aw_seq | apply a_region | apply aw_exit | (apply aw_condp; rfl; all_goals (intro hc; try (exfalso; first | omega | contradiction | (simp at hc; omega) | (simp_all; done)))) | apply go_seq | apply go_seq_exit | apply go_block_exit | apply go_loop_exit)
    all_goals exact g_end0 (us := []) .nil ⟨rfl, rfl⟩
end Go.Proofs.YtphkfejckafamaaDoor
