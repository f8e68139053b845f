import Derived.Test.YtjdcljggbbeikaaDoorK
set_option linter.unusedVariables false
set_option linter.unusedSimpArgs false
set_option maxRecDepth 100000
namespace Go.Proofs.YtjdcljggbbeikaaDoor
open Go.Proofs Go.Proofs.YtjdcljggbbeikaaDoorA

abbrev exT : ByteArray := ⟨#[72, 84, 84, 80, 58, 47, 47, 69, 120, 97, 109, 112, 108, 101, 46, 67, 79, 77, 58, 56, 48, 56, 48]⟩
abbrev exU : ByteArray := ⟨#[104, 116, 116, 112, 115, 58, 47, 47, 117, 64, 97]⟩
abbrev exH : ByteArray := ⟨#[101, 120, 97, 109, 112, 108, 101, 46, 99, 111, 109]⟩
abbrev exP : ByteArray := ⟨#[104, 116, 116, 112, 115, 58, 47, 47, 101, 120, 97, 109, 112, 108, 101, 46, 99, 111, 109]⟩
abbrev exA : ByteArray := ⟨#[69, 88, 65, 77, 80, 76, 69, 46, 99, 111, 109, 58, 52, 52, 51]⟩
abbrev exO : Org := ⟨sHttps, exH, 443⟩
abbrev exQ : Org := ⟨sHttp, exH, 8080⟩
theorem ex1 : parseN exT = (exQ, 0) := by decide +kernel
theorem ex2 : parseN exU = (org0, 150) := by decide +kernel
theorem ex3 : printN exO = (exP, 0) := by decide +kernel
theorem ex4 : ofE [exO] = 0 := by decide +kernel
theorem ex5 : hasN [exO] sHttps exA = true := by decide +kernel
theorem ex6 : hasN [exO] sHttp exH = false := by decide +kernel
set_option maxHeartbeats 8000000 in
theorem first_ok {B : Base} (hB : LibF B) : PFnB B Tryd.prog 11 [] (vb true) := by
  refine fnB_of Tryd.func11 rfl Tryd.ntmps11 Tryd.results11 rfl fun G hG => ?_
  refine aw_fact hG fun lb => ?_
  have h1 := Parse_ok hB exT (by decide)
  rw [ex1] at h1
  have h2 := Parse_ok hB exU (by decide)
  rw [ex2] at h2
  have h3 := Print_ok hB exO (by decide) (by decide)
  rw [ex3] at h3
  have h4 := Of_ok [exO] (by decide) (fun o ho => by rw [List.mem_singleton.1 ho]; exact ⟨by decide, by decide⟩)
  rw [ex4] at h4
  have h5 := Has_ok hB [exO] sHttps exA (by decide)
  rw [ex5] at h5
  have h6 := Has_ok hB [exO] sHttp exH (by decide)
  rw [ex6] at h6
  repeat' ((fail_if_success (show AW _ (.region 5 _ _) _ _)); (first | (apply ar_call h4; rfl; rfl; (focus ((repeat (first | exact Takes.nil | (apply Takes.cons; focus (repeat (first | exact Take.head | apply Take.tail | apply Take.right))))); done)); rfl; rintro _ _ (⟨h, -, -⟩ | ⟨-, ls, ll, lm, rfl, rfl⟩); exact absurd rfl h) | apply ar_nil | (apply ar_ev; (apply ev_move; rfl); rfl) | (apply ar_ev; (first | (apply ev_callF h1 (by repeat (first | exact Take.head | apply Take.tail | apply Take.right)); rfl; rfl; exact Les.refl) | (apply ev_callF h2 (by repeat (first | exact Take.head | apply Take.tail | apply Take.right)); rfl; rfl; exact Les.refl) | (apply ev_callF h3 (by repeat (first | exact Take.head | apply Take.tail | apply Take.right)); rfl; rfl; exact Les.refl) | (apply ev_assign; rfl) | (apply ev_extract; rfl; rfl) | (apply ev_build; rfl; rfl; rfl) | (apply ev_buildSlice; rfl; rfl; rfl; rfl; rfl; rfl; rfl)); rfl) | (apply ar_new; (first | apply eff_alloc | (apply eff_box; rfl; exact lies_of rfl) | (apply eff_conv_bytes; rfl; exact (by first | omega | assumption | (simp; done) | (simp; omega) | exact Nat.le_of_ble_eq_true rfl))); exact .nil; rfl; intro lab) | (apply ar_store; rfl; (focus ((repeat (first | exact Take.head | apply Take.tail | apply Take.right)); done)); rfl; rfl; exact (by first | rfl | assumption | exact get_map (by assumption)); rfl; rfl) | apply aw_seq | apply a_region | apply go_seq))
  refine aw_cv 7 (us := setT ls ll lm [exO]) (y := setI [exO]) rfl (by repeat (first | exact Takes.nil | (apply Takes.cons; focus (repeat (first | exact Take.head | apply Take.tail | apply Take.right))))) (cv_set .head (.tail .head) (.tail (.tail .head))) ?_
  have hd : decide (exQ = exQ) = true := decide_eq_true rfl
  repeat' (first | (rw [hd]) | apply ar_nil | (apply ar_ev; (apply ev_move (y := .val (.bool true)); rfl); rfl) | (apply ar_ev; (apply ev_move (y := .val (.bool false)); rfl); rfl) | (apply ar_ev; (apply ev_move; rfl); rfl) | (apply ar_ev; (first | (apply ev_eqO (o := exQ) (p := exQ); rfl; rfl) | (apply ev_assign; rfl) | (apply ev_pick_t; rfl; rfl) | (apply ev_pick_f; rfl; rfl) | (apply ev_load_ptr_agg; rfl; (focus ((repeat (first | exact Take.head | apply Take.tail | apply Take.right)); done)); exact (by first | rfl | assumption | exact get_map (by assumption)); exact Nat.le_of_ble_eq_true rfl) | (apply ev_eqnil_p; rfl; rfl) | (apply ev_build; rfl; rfl; rfl)); rfl) | (apply ar_take; rfl; rfl; rfl; (apply ev_move; rfl); rfl) | (apply ar_take; rfl; rfl; rfl; (first | (apply ev_callF h5 (by repeat (first | exact Take.head | apply Take.tail | apply Take.right)); rfl; rfl; exact Les.refl) | (apply ev_callF h6 (by repeat (first | exact Take.head | apply Take.tail | apply Take.right)); rfl; rfl; exact Les.refl) | (apply ev_neip; rfl; rfl) | (apply ev_eqsp; rfl; rfl) | (apply ev_not; rfl)); rfl) | apply aw_seq | apply a_region | apply aw_skip | apply aw_ret | (apply aw_cond_f; rfl) | apply go_seq)
  exact g_ret1 (r_tmp rfl) .nil ⟨rfl, rfl⟩
end Go.Proofs.YtjdcljggbbeikaaDoor
