import Derived.Test.YtjdcljggbbeikaaDoorL
set_option linter.unusedVariables false
set_option linter.unusedSimpArgs false
set_option maxRecDepth 100000
namespace Go.Proofs.YtjdcljggbbeikaaDoor
open Go.Proofs Go.Proofs.YtjdcljggbbeikaaDoorA

set_option maxHeartbeats 4000000 in
theorem OriginParses_ok {B : Base} (hB : LibF B) (text : ByteArray) (hn : text.size ≤ 1048576) : PFnB B Tryd.prog 3 [vs text] (vb true) := by
  refine fnB_of Tryd.func3 rfl Tryd.ntmps3 Tryd.results3 rfl fun G hG => ?_
  refine aw_fact hG fun lb => ?_
  have h1 := Parse_ok hB text hn
  have h2 := rParse_ok text hn
  have h3 := first_ok hB
  generalize parseN text = q at *
  obtain ⟨o, e⟩ := q
  dsimp only at h1 h2
  have hd : decide (o = o) = true := decide_eq_true rfl
  have he : decide (e = e) = true := decide_eq_true rfl
  repeat' (first | (rw [hd]) | (rw [he]) | apply ar_nil | (apply ar_ev; (apply ev_move (y := .val (.bool true)); rfl); rfl) | (apply ar_ev; (apply ev_move; rfl); rfl) | (apply ar_ev; (first | (apply ev_callF h1 (by repeat (first | exact Take.head | apply Take.tail | apply Take.right)); rfl; rfl; exact Les.refl) | exact ev_call rfl rfl h2 | (apply ev_callF h3 (by repeat (first | exact Take.head | apply Take.tail | apply Take.right)); rfl; rfl; exact Les.refl) | (apply ev_assign; rfl) | (apply ev_pick_t; rfl; rfl) | (apply ev_extract; rfl; rfl)); rfl) | (apply ar_new; (first | apply eff_alloc | (apply eff_box; rfl; exact lies_of rfl) | (apply eff_conv_bytes; rfl; exact (by first | omega | assumption | (simp; done) | (simp; omega) | exact Nat.le_of_ble_eq_true rfl))); exact .nil; rfl; intro lab) | (apply ar_store; rfl; (focus ((repeat (first | exact Take.head | apply Take.tail | apply Take.right)); done)); rfl; rfl; exact (by first | rfl | assumption | exact get_map (by assumption)); rfl; rfl) | (apply ar_take; rfl; rfl; rfl; (apply ev_move; rfl); rfl) | (apply ar_take; rfl; rfl; rfl; (first | (apply ev_eqO (o := o) (p := o); rfl; rfl) | (apply ev_load_ptr_agg; rfl; (focus ((repeat (first | exact Take.head | apply Take.tail | apply Take.right)); done)); exact (by first | rfl | assumption | exact get_map (by assumption)); exact Nat.le_of_ble_eq_true rfl) | (apply ev_eqip; rfl; rfl)); rfl) | apply aw_seq | apply a_region | apply aw_ret | apply go_seq)
  exact g_ret1 (r_tmp rfl) .nil ⟨rfl, by simp⟩
set_option maxHeartbeats 4000000 in
theorem OriginPrints_ok {B : Base} (hB : LibF B) (o : Org) (hn : o.host.size ≤ 1048576) (hs : o.sch.size ≤ 1048576) : PFnB B Tryd.prog 4 [.agg (encG o)] (vb true) := by
  refine fnB_of Tryd.func4 rfl Tryd.ntmps4 Tryd.results4 rfl fun G hG => ?_
  refine aw_fact hG fun lb => ?_
  have h1 := Print_ok hB o hn hs
  have h2 := rPrint_ok o hn hs
  have h3 := first_ok hB
  generalize printN o = q at *
  obtain ⟨s, e⟩ := q
  dsimp only at h1 h2
  have hd : decide (s = s) = true := decide_eq_true rfl
  have he : decide (e = e) = true := decide_eq_true rfl
  repeat' (first | (rw [hd]) | (rw [he]) | apply ar_nil | (apply ar_ev; (apply ev_move (y := .val (.bool true)); rfl); rfl) | (apply ar_ev; (apply ev_move; rfl); rfl) | (apply ar_ev; (first | (apply ev_callF h1 (by repeat (first | exact Take.head | apply Take.tail | apply Take.right)); rfl; rfl; exact Les.refl) | exact ev_call rfl rfl h2 | (apply ev_callF h3 (by repeat (first | exact Take.head | apply Take.tail | apply Take.right)); rfl; rfl; exact Les.refl) | (apply ev_assign; rfl) | (apply ev_pick_t; rfl; rfl) | (apply ev_load_ptr_agg; rfl; (focus ((repeat (first | exact Take.head | apply Take.tail | apply Take.right)); done)); exact (by first | rfl | assumption | exact get_map (by assumption)); exact Nat.le_of_ble_eq_true rfl) | (apply ev_extract; rfl; rfl)); rfl) | (apply ar_new; (first | apply eff_alloc | (apply eff_box; rfl; exact lies_of rfl) | (apply eff_conv_bytes; rfl; exact (by first | omega | assumption | (simp; done) | (simp; omega) | exact Nat.le_of_ble_eq_true rfl))); exact .nil; rfl; intro lab) | (apply ar_take; rfl; rfl; rfl; (apply ev_move; rfl); rfl) | (apply ar_take; rfl; rfl; rfl; (first | (apply ev_eqip; rfl; rfl) | (apply ev_eqsp; rfl; rfl)); rfl) | apply aw_seq | apply a_region | apply aw_ret | apply go_seq)
  exact g_ret1 (r_tmp rfl) .nil ⟨rfl, by simp⟩
end Go.Proofs.YtjdcljggbbeikaaDoor
