import Derived.Test.YtmenbolalghljaaE
set_option linter.unusedVariables false
set_option linter.unusedSimpArgs false
set_option maxRecDepth 100000
namespace Go.Proofs.Ytmenbolalghljaa
open Go.Proofs Go.Proofs.YtmenbolalghljaaA

theorem cloneO_ok (l : List En) (hn : l.length ≤ 1099511627776) : FnC Try.prog 27 [] [tsl l] (fun ts r => ∃ lab, ts = [(lab, .row 66 2 (l.map encT))] ∧ r = .own lab 0 l.length) := by
  refine fn_of Try.func27 rfl Try.ntmps27 Try.results27 rfl fun G => ?_
  repeat' (first | apply ar_nil | (apply ar_ev; (apply ev_move; rfl); rfl) | (apply ar_ev; (apply ev_assign; rfl); rfl) | apply aw_seq | apply a_region | apply go_seq)
  apply ar_eff (eff_eqnil_sl rfl) .nil rfl; rintro _ _ ⟨rfl, b, rfl, hb⟩
  cases b
  · repeat' (first | (apply ar_new (d := 5); (apply eff_buildSlice; rfl; rfl; rfl; rfl; rfl; rfl; rfl); exact .nil; rfl; intro lab) | apply ar_nil | (apply ar_ev; (apply ev_move; rfl); rfl) | (apply ar_ev; (apply ev_assign; rfl); rfl) | apply aw_seq | apply a_region | apply aw_skip | apply aw_ret | (apply aw_cond_f; rfl) | apply go_seq | (apply ar_append; rfl; (focus ((repeat (first | exact Take.head | apply Take.tail | apply Take.right)); done)); rfl; exact (by first | omega | assumption | (simp; done) | (simp; omega) | exact Nat.le_of_ble_eq_true rfl); exact (by first | omega | assumption | (simp; done) | (simp; omega) | exact Nat.le_of_ble_eq_true rfl); exact (by first | omega | assumption | (simp; done) | (simp; omega) | exact Nat.le_of_ble_eq_true rfl); rfl; intro lab))
    refine g_ret1 (r_tmp rfl) (.cons (by repeat (first | exact Take.head | apply Take.tail | apply Take.right)) .nil) ⟨lab, ?_, by rw [Nat.zero_add]⟩
    have e : List.take l.length (l.map encT) = l.map encT := List.take_of_length_le (by simp)
    exact congrArg (fun z => [(lab, Tok.row 66 2 z)]) e
  · have e : l = [] := List.map_eq_nil_iff.1 (hb rfl)
    subst e
    repeat' ((fail_if_success (show AW _ (.ret) _ _)); (first | apply ar_nil | (apply ar_ev; (apply ev_assign; rfl); rfl) | apply aw_seq | apply a_region | (apply aw_cond_t; rfl) | apply go_seq))
    refine aw_adopt 2 66 2 rfl fun lab => ?_
    repeat' (first | apply aw_ret | apply go_seq_ret)
    exact g_ret1 (r_tmp rfl) (.cons .head .nil) ⟨lab, rfl, rfl⟩
set_option maxHeartbeats 8000000 in
theorem Copy_ok (mx : Int) (l : List En) (hn : l.length ≤ 1099511627776) : FnC Try.prog 10 [] [tabI mx (sumE l) l] (fun ts r => ∃ lt lm, ts = tabT lt lm [] mx l ∧ r = .ptr lt 0 0) := by
  refine fn_of Try.func10 rfl Try.ntmps10 Try.results10 rfl fun G => ?_
  have hc := cloneO_ok l hn
  repeat' ((fail_if_success (show AW _ (.region 1 _ _) _ _)); (first | apply ar_nil | (apply ar_ev; (apply ev_assign; rfl); rfl) | apply aw_seq | apply a_region | apply go_seq))
  refine a_mix [true, true, true, true, true, true, true, true, true, true, true, true, false, true, false, true] [0, 1, 2, 3, 4, 5, 6, 7, 8, 9, 10, 11, 12, 13, 14, 15] (by kernel_rfl) (by repeat (first | exact Als.nil | (apply Als.al; rfl) | (apply Als.other; rfl))) Takes.nil ?_
  repeat' (first | (apply tl_ev; rfl; rfl; (apply ev_move; rfl); rfl) | (apply tl_ev; rfl; rfl; (first | (apply ev_load_ip_one; rfl; rfl) | (apply ev_fieldAddr_ip; rfl) | (apply ev_nilCheck_ip; rfl)); rfl))
  apply tl_call hc; rfl; rfl; rfl; rfl; rfl; exact .nil; rfl; rintro _ _ ⟨lm, rfl, rfl⟩
  repeat' (first | apply aw_ret | apply go_seq | apply tl_nil | (apply tl_ev; rfl; rfl; (first | (apply ev_assign; rfl) | (apply ev_build; rfl; rfl; rfl)); rfl) | (apply tl_new; rfl; rfl; rfl; (first | apply eff_alloc | (apply eff_box; rfl; exact lies_of rfl) | (apply eff_conv_bytes; rfl; exact (by first | omega | assumption | (simp; done) | (simp; omega) | exact Nat.le_of_ble_eq_true rfl))); exact .nil; rfl; intro lab))
  exact g_ret1 (r_tmp rfl) (us := tabT lab lm [] mx l) (by repeat (first | exact Takes.nil | (apply Takes.cons; focus (repeat (first | exact Take.head | apply Take.tail | apply Take.right))))) ⟨lab, lm, rfl, rfl⟩
/-! The statements' first question. -/
theorem val_free (vs : List Value) : AVFree (.tup (vs.map .val)) := .tup fun x hx => by
  obtain ⟨v, _, rfl⟩ := List.mem_map.1 hx
  exact .val v
theorem free_tab (lt lm : Nat) (pre : List (List AV)) (mx : Int) (l : List En) (hp : ∀ x, x ∈ pre → ∀ y, y ∈ x → AVFree y) : ∀ p, p ∈ tabT lt lm pre mx l → TokFree p.2 := fun p hp' => by
  simp only [tabT, List.mem_cons, List.not_mem_nil, or_false] at hp'
  rcases hp' with rfl | rfl
  · refine .row fun x hx y hy => ?_
    obtain rfl := List.mem_singleton.1 hx
    simp only [List.mem_cons, List.not_mem_nil, or_false] at hy
    rcases hy with rfl | rfl | rfl
    · exact .val _
    · exact .val _
    · exact .own _ _ _
  · refine .row fun x hx y hy => ?_
    rcases List.mem_append.1 hx with hx | hx
    · exact hp x hx y hy
    · obtain ⟨e, _, rfl⟩ := List.mem_map.1 hx
      simp only [List.mem_cons, List.not_mem_nil, or_false] at hy
      rcases hy with rfl | rfl <;> exact .val _
set_option maxHeartbeats 8000000 in
theorem head_ok : PFn Try.prog 8 [] (vb true) := by
  refine fn_of Try.func8 rfl Try.ntmps8 Try.results8 rfl fun G => ?_
  have hnew := New_ok 100
  have hs0 : ∀ (m : Int) (l : List En), sumE l ≤ 65536 → sumE (shr m l) ≤ 65536 ∧ (shr m l).length ≤ l.length := fun m l h => ⟨Nat.le_trans (shr_le m l).1 h, (shr_le m l).2⟩
  have okA : ∀ (a b : List UInt8), a.length ≤ 1000 → b.length ≤ 1000 → OkE (⟨⟨a⟩⟩, ⟨⟨b⟩⟩) := fun a b ha hb => ⟨by show a.length ≤ _; omega, by show b.length ≤ _; omega⟩
  repeat' ((fail_if_success (show AW _ (.region 2 _ _) _ _)); (first | (apply ar_call hnew; rfl; rfl; (focus ((repeat (first | exact Takes.nil | (apply Takes.cons; focus (repeat (first | exact Take.head | apply Take.tail | apply Take.right))))); done)); rfl; rintro _ _ (⟨h, -, -⟩ | ⟨-, lt, lm, rfl, rfl⟩); exfalso; omega) | apply ar_nil | (apply ar_ev; (apply ev_move; rfl); rfl) | (apply ar_ev; (first | (apply ev_assign; rfl) | (apply ev_extract; rfl; rfl)); rfl) | apply aw_seq | apply a_region | apply go_seq))
  rw [List.append_nil]
  have hadd1 := Add_ok lt lm [] 100 [] (⟨#[97]⟩, ⟨#[98]⟩) (by simp) (fun e h => nomatch h) (okA [97] [98] (by simp) (by simp)) (by simp [sumE]) (by omega) (fun m => hs0 m [] (by simp [sumE]))
  have ea1 : addN 100 [] (⟨#[97]⟩, ⟨#[98]⟩) = [(⟨#[97]⟩, ⟨#[98]⟩)] := by decide
  rw [ea1] at hadd1
  repeat' ((fail_if_success (show AW _ (.region 5 _ _) _ _)); (first | (apply ar_call hadd1; rfl; rfl; (focus ((repeat (first | exact Takes.nil | (apply Takes.cons; focus (repeat (first | exact Take.head | apply Take.tail | apply Take.right))))); done)); rfl; rintro _ _ ⟨⟨lm1, pre1, rfl⟩, rfl⟩) | apply ar_nil | (apply ar_ev; (apply ev_move (y := .val (.bool false)); rfl); rfl) | (apply ar_ev; (apply ev_move; rfl); rfl) | (apply ar_ev; (first | (apply ev_pick_f; rfl; rfl) | (apply ev_eqnil_p; rfl; rfl)); rfl) | (apply ar_take; rfl; rfl; rfl; (apply ev_move; rfl); rfl) | (apply ar_take; rfl; rfl; rfl; (apply ev_neip; rfl; rfl); rfl) | apply aw_seq | apply a_region | apply aw_skip | (apply aw_cond_f; rfl) | apply go_seq))
  rw [List.append_nil]
  have hadd2 := Add_ok lt lm1 pre1 100 [(⟨#[97]⟩, ⟨#[98]⟩)] (⟨#[99, 99]⟩, ⟨#[100]⟩) (by simp) (fun e h => by rw [List.mem_singleton.1 h]; exact okA [97] [98] (by simp) (by simp)) (okA [99, 99] [100] (by simp) (by simp)) (by decide) (by omega) (fun m => hs0 m _ (by decide))
  have ea2 : addN 100 [(⟨#[97]⟩, ⟨#[98]⟩)] (⟨#[99, 99]⟩, ⟨#[100]⟩) = [(⟨#[97]⟩, ⟨#[98]⟩), (⟨#[99, 99]⟩, ⟨#[100]⟩)] := by decide
  rw [ea2] at hadd2
  repeat' ((fail_if_success (show AW _ (.region 6 _ _) _ _)); (first | (apply ar_call hadd2; rfl; rfl; (focus ((repeat (first | exact Takes.nil | (apply Takes.cons; focus (repeat (first | exact Take.head | apply Take.tail | apply Take.right))))); done)); rfl; rintro _ _ ⟨⟨lm2, pre2, rfl⟩, rfl⟩) | apply ar_nil | (apply ar_ev; (apply ev_move; rfl); rfl) | apply aw_seq | apply a_region | apply go_seq))
  rw [List.append_nil]
  generalize hL : ([(⟨#[97]⟩, ⟨#[98]⟩), (⟨#[99, 99]⟩, ⟨#[100]⟩)] : List En) = L at *
  have hLs : sumE L = 69 := by rw [← hL]; decide
  have hLl : L.length = 2 := by rw [← hL]; rfl
  have hat := At_ok 100 (sumE L) L (by omega) 63 (by omega)
  have eat : atN L 63 = ((⟨#[97]⟩, ⟨#[98]⟩), 0) := by rw [← hL]; decide
  rw [eat] at hat
  have hfd := Find_ok 100 (sumE L) L (by omega) ⟨#[97]⟩ ⟨#[98]⟩
  have efd : findN L ⟨#[97]⟩ ⟨#[98]⟩ = (63, true) := by rw [← hL]; decide +kernel
  rw [efd] at hfd
  have hcv : Cv (tabT lt lm2 pre2 100 L) (.ptr lt 0 0) (tabI 100 (sumE L) L) := cv_tab .head (.tail .head)
  repeat' ((fail_if_success (show AW _ (.region 8 _ _) _ _)); (first | apply ar_nil | (apply ar_ev; (apply ev_move; rfl); rfl) | (apply ar_ev; (first | (apply ev_callL hat; rfl; rfl; exact Cvs.cons hcv (Cvs.cons Cv.refl Cvs.nil); exact val_free [_, _, _]) | (apply ev_callL hfd; rfl; rfl; exact Cvs.cons hcv (Cvs.cons Cv.refl (Cvs.cons Cv.refl Cvs.nil)); exact val_free [_, _]) | (apply ev_assign; rfl) | (apply ev_extract; rfl; rfl)); rfl) | apply aw_seq | apply a_region | apply go_seq))
  have hcp := Copy_ok 100 L (by omega)
  repeat' (first | (apply ar_ev; (apply ev_move; rfl); rfl) | apply a_region)
  apply ar_callL hcp; rfl; rfl; exact .nil; exact Cvs.cons hcv .nil; (rintro _ _ ⟨a, b, rfl, rfl⟩; exact ⟨.ptr _ _ _, free_tab _ _ _ _ _ (fun x hx => nomatch hx)⟩); rfl; rintro _ _ ⟨lc, lmc, rfl, rfl⟩
  have hcv1 : Cv (tabT lc lmc [] 100 L ++ tabT lt lm2 pre2 100 L) (.ptr lt 0 0) (tabI 100 (sumE L) L) := cv_tab (.tail (.tail .head)) (.tail (.tail (.tail .head)))
  have hcv2 : Cv (tabT lc lmc [] 100 L ++ tabT lt lm2 pre2 100 L) (.ptr lc 0 0) (tabI 100 (sumE L) L) := cv_tab .head (.tail .head)
  have hsz : PFn Try.prog 22 [tabI 100 (sumE L) L] (vi 69) := by have := Size_ok 100 (sumE L) L; rw [hLs] at this ⊢; exact this
  have hln : PFn Try.prog 24 [tabI 100 (sumE L) L] (vi 2) := by have := Len_ok 100 (sumE L) L; rw [show ((L.length : Nat) : Int) = 2 by rw [hLl]; rfl] at this; exact this
  have hmx := Max_ok 100 (sumE L) L
  repeat' ((fail_if_success (show AW _ (.region 11 _ _) _ _)); (first | apply ar_nil | (apply ar_ev; (apply ev_move (y := .val (.bool false)); rfl); rfl) | (apply ar_ev; (apply ev_move; rfl); rfl) | (apply ar_ev; (first | (apply ev_assign; rfl) | (apply ev_pick_f; rfl; rfl) | (apply ev_eqnil_p; rfl; rfl)); rfl) | (apply ar_take; rfl; rfl; rfl; (apply ev_move (y := .val (.bool true)); rfl); rfl) | (apply ar_take; rfl; rfl; rfl; (apply ev_move; rfl); rfl) | (apply ar_take; rfl; rfl; rfl; (first | (apply ev_callL hsz; rfl; rfl; exact Cvs.cons hcv1 Cvs.nil; constructor) | (apply ev_callL hmx; rfl; rfl; exact Cvs.cons hcv1 Cvs.nil; constructor) | (apply ev_callL hln; rfl; rfl; exact Cvs.cons hcv1 Cvs.nil; constructor) | (apply ev_callL hln; rfl; rfl; exact Cvs.cons hcv2 Cvs.nil; constructor) | (apply ev_neip; rfl; rfl) | (apply ev_nesp; rfl; rfl) | (apply ev_not; rfl)); rfl) | apply aw_seq | apply a_region | apply aw_skip | (apply aw_cond_f; rfl) | apply go_seq))
  have hrs := Resize_ok lt lm2 pre2 100 68 L (by omega) (fun e h => by rw [← hL] at h; simp only [List.mem_cons, List.not_mem_nil, or_false] at h; rcases h with rfl | rfl; exact okA [97] [98] (by simp) (by simp); exact okA [99, 99] [100] (by simp) (by simp)) (by omega)
  have esh : shr 68 L = [(⟨#[99, 99]⟩, ⟨#[100]⟩)] := by rw [← hL]; decide
  rw [esh] at hrs
  generalize hM : ([(⟨#[99, 99]⟩, ⟨#[100]⟩)] : List En) = M at *
  have hMl : M.length = 1 := by rw [← hM]; rfl
  have hln1 : PFn Try.prog 24 [tabI 68 (sumE M) M] (vi 1) := by have := Len_ok 68 (sumE M) M; rw [show ((M.length : Nat) : Int) = 1 by rw [hMl]; rfl] at this; exact this
  clear hcv1 hcv2
  refine AW.sub (st' := ⟨[(1, .ptr lt 0 0), (8, .ptr lc 0 0)], tabT lt lm2 pre2 100 L ++ tabT lc lmc [] 100 L⟩) (Sub.of (by repeat (first | exact .nil | refine .cons rfl Le.refl ?_)) (by repeat (first | exact Takes.nil | (apply Takes.cons; focus (repeat (first | exact Take.head | apply Take.tail | apply Take.right)))))) ?_
  repeat' (first | (apply ar_ev; (apply ev_move; rfl); rfl) | apply a_region)
  apply ar_call hrs; rfl; rfl; exact takes_blk; rfl; rintro _ _ (⟨h, -, -⟩ | ⟨-, ⟨pre3, rfl⟩, rfl⟩)
  · exfalso; omega
  have hcv3 : Cv (tabT lt lm2 pre3 68 M ++ tabT lc lmc [] 100 L) (.ptr lt 0 0) (tabI 68 (sumE M) M) := cv_tab .head (.tail .head)
  have hcv4 : Cv (tabT lt lm2 pre3 68 M ++ tabT lc lmc [] 100 L) (.ptr lc 0 0) (tabI 100 (sumE L) L) := cv_tab (.tail (.tail .head)) (.tail (.tail (.tail .head)))
  repeat' (first | apply ar_nil | (apply ar_ev; (apply ev_move (y := .val (.bool true)); rfl); rfl) | (apply ar_ev; (first | (apply ev_assign; rfl) | (apply ev_pick_t; rfl; rfl) | (apply ev_eqip; rfl; rfl)); rfl) | (apply ar_take; rfl; rfl; rfl; (apply ev_move; rfl); rfl) | (apply ar_take; rfl; rfl; rfl; (first | (apply ev_callL hln1; rfl; rfl; exact Cvs.cons hcv3 Cvs.nil; constructor) | (apply ev_callL hln; rfl; rfl; exact Cvs.cons hcv4 Cvs.nil; constructor) | (apply ev_eqip; rfl; rfl)); rfl) | apply aw_ret | apply go_seq)
  exact g_ret1 (r_tmp rfl) .nil rfl
end Go.Proofs.Ytmenbolalghljaa
