import Derived.Test.YtinojkkjcignhaaJ
set_option linter.unusedVariables false
set_option linter.unusedSimpArgs false
set_option maxRecDepth 100000
namespace Go.Proofs.Ytinojkkjcignhaa
open Go.Proofs Go.Proofs.YtinojkkjcignhaaA

def F1 : Frame := ⟨1, 0, 1, ⟨#[97, 98]⟩, 0, 0, false, 0, 0, 0, []⟩
def F1h : Frame := ⟨1, 0, 1, es, 0, 0, false, 0, 0, 0, []⟩
def F2 : Frame := ⟨9, 4, 1, ⟨#[99, 100]⟩, 0, 0, false, 0, 0, 0, []⟩
def F2h : Frame := ⟨1, 4, 1, es, 0, 0, false, 0, 0, 0, []⟩
def F3 : Frame := ⟨1, 1, 3, es, 0, 0, false, 0, 0, 0, []⟩
def F3h : Frame := ⟨1, 5, 3, ⟨#[120, 121, 122]⟩, 0, 0, false, 0, 0, 0, []⟩
def F4 : Frame := ⟨9, 4, 1, es, 0, 0, false, 0, 0, 0, []⟩
theorem step1 : push (jIdle 0 0) F1 = (⟨true, F1h, [97, 98], 0, 0⟩, none0 0 0) := by kernel_rfl
theorem step2 : push ⟨true, F1h, [97, 98], 0, 0⟩ F2 = (jIdle 0 0, ⟨true, F2h, ⟨#[97, 98, 99, 100]⟩, 0, 0⟩) := by kernel_rfl
theorem step4 : push (jIdle 0 0) F4 = (jIdle 1 0, none0 1 0) := by kernel_rfl
theorem splitE3 : splitErr F3 ⟨#[120, 121, 122]⟩ 16384 = 0 := by kernel_rfl
theorem split3a : lastF [{ F3 with flags := nandI F3.flags 4, data := (⟨#[120, 121, 122]⟩ : ByteArray).extract 0 3 }] = [F3h] := by kernel_rfl
theorem split3 : splitF F3 ⟨#[120, 121, 122]⟩ 16384 = [F3h] := by
  have h : split0 F3 ⟨#[120, 121, 122]⟩ 16384 = 3 := by kernel_rfl
  unfold splitF splitF0
  rw [h, cuts_nil (by decide)]
  exact split3a
theorem same1 : sameF F2h F2h = true := by kernel_rfl
theorem same3 : sameF F3h F3h = true := by kernel_rfl

theorem first_ok : PFn Try.prog 9 [] (vb true) := by
  refine fn_of Try.func9 rfl Try.ntmps9 Try.results9 rfl fun G => ?_
  repeat' (first | apply ar_nil | (apply ar_ev; (apply ev_assign; rfl); rfl) | apply aw_seq | apply a_region | apply go_seq)
  apply ar_call NewJ_ok; rfl; rfl; (focus ((repeat (first | exact Takes.nil | (apply Takes.cons; focus (repeat (first | exact Take.head | apply Take.tail | apply Take.right))))); done)); rfl; rintro _ _ ⟨l, hj0, rfl⟩
  obtain rfl := JAt_idle hj0
  repeat' (first | apply ar_nil | (apply ar_ev; (apply ev_move; rfl); rfl) | (apply ar_ev; (first | (apply ev_assign; rfl) | (apply ev_eqnil_p; rfl; rfl) | (apply ev_build; rfl; rfl; rfl)); rfl) | apply aw_seq | apply a_region | apply aw_skip | (apply aw_cond_f; rfl) | apply go_seq)
  apply ar_callA (push_ok l _ _ hj0 F1 (by decide) (by decide)); rfl; rfl; (focus ((repeat (first | exact Les.nil | (apply Les.cons; first | exact Le.refl | exact Le.nil | (apply Le.agg; (focus ((repeat (first | exact Les.nil | (apply Les.cons; first | exact Le.refl | exact Le.nil | (apply Le.agg; (focus ((repeat (first | exact Les.nil | (apply Les.cons; first | exact Le.refl | exact Le.nil))); done)))))); done)))))); done)); (focus ((repeat (first | exact Takes.nil | (apply Takes.cons; focus (repeat (first | exact Take.head | apply Take.tail | apply Take.right))))); done)); rfl
  rw [step1]
  rintro _ _ ⟨hj1, rfl⟩
  obtain ⟨lb, rfl⟩ := JAt_busy hj1
  repeat' (first | apply ar_nil | (apply ar_ev; (apply ev_move; rfl); rfl) | (apply ar_ev; (first | (apply ev_assign; rfl) | (apply ev_extract; rfl; rfl)); rfl) | (apply ar_new; (first | apply eff_alloc | (apply eff_box; rfl; exact lies_of rfl)); exact .nil; rfl; intro lab) | (apply ar_store; rfl; (focus ((repeat (first | exact Take.head | apply Take.tail | apply Take.right)); done)); rfl; rfl; exact (by first | rfl | assumption | exact get_map (by assumption)); rfl; rfl) | apply aw_seq | apply a_region | apply go_seq)
  apply ar_call (BusyJ_ok hj1); rfl; rfl; (focus ((repeat (first | exact Takes.nil | (apply Takes.cons; focus (repeat (first | exact Take.head | apply Take.tail | apply Take.right))))); done)); rfl; rintro _ _ ⟨rfl, rfl⟩
  repeat' (first | apply ar_nil | (apply ar_ev; (apply ev_move; rfl); rfl) | (apply ar_ev; (first | (apply ev_assign; rfl) | (apply ev_build; rfl; rfl; rfl)); rfl) | apply aw_seq | apply a_region | apply go_seq)
  apply ar_callA (push_ok l _ _ hj1 F2 (by decide) (by decide)); rfl; rfl; (focus ((repeat (first | exact Les.nil | (apply Les.cons; first | exact Le.refl | exact Le.nil | (apply Le.agg; (focus ((repeat (first | exact Les.nil | (apply Les.cons; first | exact Le.refl | exact Le.nil | (apply Le.agg; (focus ((repeat (first | exact Les.nil | (apply Les.cons; first | exact Le.refl | exact Le.nil))); done)))))); done)))))); done)); (focus ((repeat (first | exact Takes.nil | (apply Takes.cons; focus (repeat (first | exact Take.head | apply Take.tail | apply Take.right))))); done)); rfl
  rw [step2]
  rintro _ _ ⟨hj2, rfl⟩
  obtain rfl := JAt_idle hj2
  repeat' (first | apply ar_nil | (apply ar_ev; (apply ev_move; rfl); rfl) | (apply ar_ev; (first | (apply ev_assign; rfl) | (apply ev_extract; rfl; rfl) | (apply ev_build; rfl; rfl; rfl)); rfl) | (apply ar_new; (first | apply eff_alloc | (apply eff_box; rfl; exact lies_of rfl)); exact .nil; rfl; intro lab) | (apply ar_store; rfl; (focus ((repeat (first | exact Take.head | apply Take.tail | apply Take.right)); done)); rfl; rfl; exact (by first | rfl | assumption | exact get_map (by assumption)); rfl; rfl) | apply aw_seq | apply a_region | apply go_seq)
  apply ar_callA (Split_ok F3 ⟨#[120, 121, 122]⟩ 16384 (by decide) (by decide)); rfl; rfl; (focus ((repeat (first | exact Les.nil | (apply Les.cons; first | exact Le.refl | exact Le.nil | (apply Le.agg; (focus ((repeat (first | exact Les.nil | (apply Les.cons; first | exact Le.refl | exact Le.nil | (apply Le.agg; (focus ((repeat (first | exact Les.nil | (apply Les.cons; first | exact Le.refl | exact Le.nil))); done)))))); done)))))); done)); (focus ((repeat (first | exact Takes.nil | (apply Takes.cons; focus (repeat (first | exact Take.head | apply Take.tail | apply Take.right))))); done)); rfl
  rintro _ _ (⟨h, _⟩ | ⟨_, l2, lp, rfl, rfl⟩)
  · exact absurd splitE3 h
  rw [split3]
  dsimp only [none0, ansV]
  repeat' (first | apply ar_nil | (apply ar_splitp; (apply ev_move; rfl); rfl; all_goals (intro hc; try (exfalso; first | omega | contradiction | (simp at hc; omega) | (simp_all; done)))) | (apply ar_ev; (apply ev_move (y := .val (.bool false)); rfl); rfl) | (apply ar_ev; (apply ev_move; rfl); rfl) | (apply ar_ev; (first | (apply ev_assign; rfl) | (apply ev_pick_f; rfl; rfl) | (apply ev_extract; rfl; rfl)); rfl) | (apply ar_take; rfl; rfl; rfl; (apply ev_move (y := .val (.bool true)); rfl); rfl) | (apply ar_take; rfl; rfl; rfl; (apply ev_move; rfl); rfl) | (apply ar_take; rfl; rfl; rfl; (first | (apply ev_load_ptr_agg; rfl; (focus ((repeat (first | exact Take.head | apply Take.tail | apply Take.right)); done)); exact (by first | rfl | assumption | exact get_map (by assumption)); exact Nat.le_of_ble_eq_true rfl) | (apply ev_nesp; rfl; rfl) | (apply ev_net; rfl; rfl; rfl; rfl; rfl; rfl) | (apply ev_not; rfl) | (apply ev_build; rfl; rfl; rfl)); rfl) | apply aw_seq | apply a_region | apply go_seq)
  apply ar_tcall (BusyJ_ok hj2); rfl; rfl; rfl; rfl; rfl; (focus ((repeat (first | exact takes_blk | exact takes_all | apply takes_right | apply takes_skip)); done)); rfl; rintro _ _ ⟨rfl, rfl⟩
  have hsm1 := same_ok F2h F2h (by decide)
  rw [same1] at hsm1
  have hsm3 := same_ok F3h F3h (by decide)
  rw [same3] at hsm3
  repeat' (first | apply ar_nil | (apply ar_splitp; (apply ev_move; rfl); rfl; all_goals (intro hc; try (exfalso; first | omega | contradiction | (simp at hc; omega) | (simp_all; done)))) | (apply ar_ev; (apply ev_move (y := .val (.bool false)); rfl); rfl) | (apply ar_ev; (apply ev_move; rfl); rfl) | (apply ar_ev; (first | (apply ev_pick_f; rfl; rfl) | (apply ev_build; rfl; rfl; rfl)); rfl) | (apply ar_take; rfl; rfl; rfl; (apply ev_move; rfl); rfl) | (apply ar_take; rfl; rfl; rfl; (first | (apply ev_callA hsm1; rfl; rfl; (focus ((repeat (first | exact Les.nil | (apply Les.cons; first | exact Le.refl | exact Le.nil | (apply Le.agg; (focus ((repeat (first | exact Les.nil | (apply Les.cons; first | exact Le.refl | exact Le.nil | (apply Le.agg; (focus ((repeat (first | exact Les.nil | (apply Les.cons; first | exact Le.refl | exact Le.nil))); done)))))); done)))))); done))) | (apply ev_callL hsm3; rfl; rfl; (focus ((repeat (first | exact Cvs.nil | (apply Cvs.cons; first | exact Cv.refl | exact Cv.le Le.nil | (apply Cv.own0; (focus ((repeat (first | exact Take.head | apply Take.tail | apply Take.right)); done)); exact (by first | omega | assumption | (simp; done) | (simp; omega) | exact Nat.le_of_ble_eq_true rfl)) | (apply Cv.ptr0; (focus ((repeat (first | exact Take.head | apply Take.tail | apply Take.right)); done)); first | rfl | assumption) | (apply Cv.agg; (focus ((repeat (first | exact Cvs.nil | (apply Cvs.cons; first | exact Cv.refl | exact Cv.le Le.nil | (apply Cv.own0; (focus ((repeat (first | exact Take.head | apply Take.tail | apply Take.right)); done)); exact (by first | omega | assumption | (simp; done) | (simp; omega) | exact Nat.le_of_ble_eq_true rfl)) | (apply Cv.ptr0; (focus ((repeat (first | exact Take.head | apply Take.tail | apply Take.right)); done)); first | rfl | assumption) | (apply Cv.agg; (focus ((repeat (first | exact Cvs.nil | (apply Cvs.cons; first | exact Cv.refl | exact Cv.le Le.nil | (apply Cv.own0; (focus ((repeat (first | exact Take.head | apply Take.tail | apply Take.right)); done)); exact (by first | omega | assumption | (simp; done) | (simp; omega) | exact Nat.le_of_ble_eq_true rfl)) | (apply Cv.ptr0; (focus ((repeat (first | exact Take.head | apply Take.tail | apply Take.right)); done)); first | rfl | assumption)))); done)))))); done)))))); done)); constructor) | (apply ev_load_ptr_agg; rfl; (focus ((repeat (first | exact Take.head | apply Take.tail | apply Take.right)); done)); exact (by first | rfl | assumption | exact get_map (by assumption)); exact Nat.le_of_ble_eq_true rfl) | (apply ev_neip; rfl; rfl) | (apply ev_len_own; rfl) | (apply ev_not; rfl) | (apply ev_indexAddr_own0 (i := 0); rfl; rfl; exact (by first | omega | assumption); (focus ((repeat (first | exact Take.head | apply Take.tail | apply Take.right)); done))) | (apply ev_build; rfl; rfl; rfl)); rfl) | apply aw_seq | apply a_region | apply aw_skip | (apply aw_cond_f; rfl) | apply go_seq)
  apply ar_callA (push_ok l _ _ hj2 F4 (by decide) (by decide)); rfl; rfl; (focus ((repeat (first | exact Les.nil | (apply Les.cons; first | exact Le.refl | exact Le.nil | (apply Le.agg; (focus ((repeat (first | exact Les.nil | (apply Les.cons; first | exact Le.refl | exact Le.nil | (apply Le.agg; (focus ((repeat (first | exact Les.nil | (apply Les.cons; first | exact Le.refl | exact Le.nil))); done)))))); done)))))); done)); (focus ((repeat (first | exact Takes.nil | (apply Takes.cons; focus (repeat (first | exact Take.head | apply Take.tail | apply Take.right))))); done)); rfl
  rw [step4]
  rintro _ _ ⟨hj4, rfl⟩
  repeat' (first | apply ar_nil | (apply ar_ev; (apply ev_move; rfl); rfl) | (apply ar_ev; (first | (apply ev_assign; rfl) | (apply ev_load_ptr_agg; rfl; (focus ((repeat (first | exact Take.head | apply Take.tail | apply Take.right)); done)); exact (by first | rfl | assumption | exact get_map (by assumption)); exact Nat.le_of_ble_eq_true rfl) | (apply ev_eqt; rfl; rfl; rfl; rfl; rfl; rfl) | (apply ev_extract; rfl; rfl) | (apply ev_build; rfl; rfl; rfl)); rfl) | (apply ar_new; (first | apply eff_alloc | (apply eff_box; rfl; exact lies_of rfl)); exact .nil; rfl; intro lab) | (apply ar_store; rfl; (focus ((repeat (first | exact Take.head | apply Take.tail | apply Take.right)); done)); rfl; rfl; exact (by first | rfl | assumption | exact get_map (by assumption)); rfl; rfl) | apply aw_seq | apply a_region | apply aw_ret | apply go_seq)
  exact g_ret1 (r_tmp rfl) .nil rfl
end Go.Proofs.Ytinojkkjcignhaa
