import Derived.Test.YtmenbolalghljaaH
set_option linter.unusedVariables false
set_option linter.unusedSimpArgs false
set_option maxRecDepth 100000
namespace Go.Proofs.Ytmenbolalghljaa
open Go.Proofs Go.Proofs.YtmenbolalghljaaA

/-! The law TableFixed. -/
theorem fixed_find_all : ((List.range 61).all fun k => match fixedL[k]? with
    | some e => decide ((fixedL.zipIdx 1).find? (hitB e.1 e.2) = some (e, k + 1)) && decide (e.1 ≠ es)
    | none => false) = true := by decide +kernel
theorem fixed_find {m : List En} {k : Nat} {e : En} (h : fixedL[k]? = some e) : findN m e.1 e.2 = (k + 1, true) ∧ e.1 ≠ es := by
  have hk : k < 61 := by have := (List.getElem?_eq_some_iff.1 h).1; rwa [fixed_len] at this
  have := List.all_eq_true.1 fixed_find_all k (List.mem_range.2 hk)
  rw [h] at this
  simp only [Bool.and_eq_true, decide_eq_true_eq] at this
  refine ⟨?_, this.2⟩
  unfold findN
  have hx : allX m = fixedL.zipIdx 1 ++ m.reverse.zipIdx 62 := by
    unfold allX allE
    rw [List.zipIdx_append, fixed_len]
  rw [hx, List.find?_append, this.1]
  rfl
def nmS (k : Nat) : Nat := ((fixedL.take k).map fun e => e.1.size).sum
def vlS (k : Nat) : Nat := ((fixedL.take k).map fun e => e.2.size).sum
theorem nmS_snoc {k : Nat} {e : En} (h : fixedL[k]? = some e) : nmS (k + 1) = nmS k + e.1.size ∧ vlS (k + 1) = vlS k + e.2.size := by
  unfold nmS vlS
  rw [List.take_add_one, h]
  simp
theorem nmS_all : nmS 61 = 622 ∧ vlS 61 = 62 := by decide +kernel
theorem nmS_le : ∀ k, k ≤ 61 → nmS k ≤ 622 ∧ vlS k ≤ 62 := by
  intro k hk
  have : (List.range 62).all (fun k => decide (nmS k ≤ 622) && decide (vlS k ≤ 62)) = true := by decide +kernel
  have := List.all_eq_true.1 this k (List.mem_range.2 (by omega))
  simpa using this
theorem at_fixed {m : List En} {k : Nat} {e : En} (h : fixedL[k]? = some e) : atN m ((k : Int) + 1) = (e, 0) := by
  refine atN_some ?_
  unfold allE
  rw [List.getElem?_append_left (List.getElem?_eq_some_iff.1 h).1]
  exact h
theorem last_at {m : List En} {e : En} : atN (m ++ [e]) 62 = (e, 0) := by
  have h : (allE (m ++ [e]))[61]? = some e := by
    unfold allE
    rw [List.getElem?_append_right (by rw [fixed_len]; omega), fixed_len, List.reverse_append]
    rfl
  exact atN_some h
abbrev st404 : En := (⟨#[58, 115, 116, 97, 116, 117, 115]⟩, ⟨#[52, 48, 52]⟩)
theorem st404_ok : OkE st404 := ⟨by show (7 : Nat) ≤ _; omega, by show (3 : Nat) ≤ _; omega⟩
set_option maxHeartbeats 8000000 in
theorem TableFixed_ok (l : List En) (hn : l.length ≤ 1048576) (hok : ∀ e, e ∈ l → OkE e) : PFn Try.prog 6 [tsl l] (vb true) := by
  refine fn_of Try.func6 rfl Try.ntmps6 Try.results6 rfl fun G => ?_
  have hnew := New_ok 4096
  repeat' ((fail_if_success (show AW _ (.region 6 _ _) _ _)); (first | (apply ar_call hnew; rfl; rfl; (focus ((repeat (first | exact Takes.nil | (apply Takes.cons; focus (repeat (first | exact Take.head | apply Take.tail | apply Take.right))))); done)); rfl; rintro _ _ (⟨h, -, -⟩ | ⟨-, lt, lm, rfl, rfl⟩); exfalso; omega) | apply ar_nil | (apply ar_ev; (apply ev_move (y := .val (.bool false)); rfl); rfl) | (apply ar_ev; (apply ev_move; rfl); rfl) | (apply ar_ev; (first | exact ev_call rfl rfl head_ok | (apply ev_assign; rfl) | (apply ev_pick_f; rfl; rfl) | (apply ev_eqnil_p; rfl; rfl) | (apply ev_not; rfl) | (apply ev_extract; rfl; rfl)); rfl) | (apply ar_take; rfl; rfl; rfl; (apply ev_move; rfl); rfl) | (apply ar_take; rfl; rfl; rfl; (apply ev_neip; rfl; rfl); rfl) | apply aw_seq | apply a_region | apply aw_skip | (apply aw_cond_f; rfl) | apply go_seq))
  rw [List.append_nil]
  clear hnew
  repeat' (first | apply ar_nil | (apply ar_ev; (apply ev_assign; rfl); rfl) | apply a_region | apply aw_block | apply go_seq)
  refine a_loop (fun g : Nat × Nat × List (List AV) × List En => ⟨[(0, tsl l), (3, .ptr lt 0 0), (5, vi g.1)], tabT lt g.2.1 g.2.2.1 4096 g.2.2.2⟩)
    (fun g => g.1 ≤ l.length ∧ WfT 4096 g.2.2.2) (fun g => l.length - g.1) (0, lm, [], []) (Sub.of (by repeat (first | exact .nil | refine .cons rfl Le.refl ?_)) (by repeat (first | exact Takes.nil | (apply Takes.cons; focus (repeat (first | exact Take.head | apply Take.tail | apply Take.right)))))) ⟨Nat.zero_le _, ⟨fun e h => (nomatch h), by simp [sumE]⟩⟩ ?_
  rintro ⟨i, lm, pre, m⟩ ⟨hi, hw⟩
  dsimp only at *
  repeat' (first | apply ar_nil | (apply ar_ev; (apply ev_move; rfl); rfl) | (apply ar_ev; (first | (apply ev_lss; rfl; rfl) | (apply ev_len_sl; rfl)); rfl) | apply aw_seq | apply a_region | apply go_seq)
  refine aw_condp rfl (fun hk => ?_) (fun hk => ?_)
  · obtain ⟨e, he⟩ : ∃ e, l[i]? = some e := ⟨_, List.getElem?_eq_getElem (by omega)⟩
    have he2 := tsl_get he
    have hadd := AddW_ok lt lm pre 4096 m e hw (hok e (List.mem_of_getElem? he)) (by omega)
    have hw2 := hw.add (hok e (List.mem_of_getElem? he)) (by omega)
    generalize addN 4096 m e = m2 at *
    repeat' (first | (refine a_draw 11 rfl ?_) | (apply ar_call hadd; rfl; rfl; (focus ((repeat (first | exact Takes.nil | (apply Takes.cons; focus (repeat (first | exact Take.head | apply Take.tail | apply Take.right))))); done)); rfl; rintro _ _ ⟨⟨lm2, pre2, rfl⟩, rfl⟩) | apply ar_nil | (apply ar_ev; (apply ev_move; rfl); rfl) | (apply ar_ev; (first | (apply ev_load_ip_one; rfl; rfl) | (apply ev_fieldAddr_ip; rfl) | (apply ev_assign; rfl) | (apply ev_inc; rfl; exact (by first | omega | assumption)) | (apply ev_indexAddr_sl; rfl; rfl; exact (by first | omega | assumption); exact (by first | rfl | assumption | exact get_map (by assumption)))); rfl) | apply aw_seq | apply a_region | apply aw_block | apply aw_skip | apply go_seq | apply go_block)
    exact go_loop_back ⟨(i + 1, lm2, pre2, m2), ⟨by dsimp only; omega, hw2⟩, by dsimp only; omega, by dsimp only; exact Sub.of (by repeat (first | exact .nil | refine .cons rfl Le.refl ?_)) (by repeat (first | exact Takes.nil | (apply Takes.cons; focus (repeat (first | exact Take.head | apply Take.tail | apply Take.right)))))⟩
  · have h32 := sum_len32 m
    have hsm := hw.sum
    have hcv : Cv (tabT lt lm pre 4096 m) (.ptr lt 0 0) (tabI 4096 (sumE m) m) := cv_tab .head (.tail .head)
    clear hk hi
    repeat' (first | apply ar_nil | (apply ar_ev; (apply ev_assign; rfl); rfl) | apply aw_seq | apply a_region | apply aw_block | apply aw_exit | apply go_seq | apply go_seq_exit | apply go_block_exit | apply go_loop_exit)
    refine a_loop (fun k : Nat => ⟨[(3, .ptr lt 0 0), (6, vi (nmS k)), (7, vi (vlS k)), (8, vi ((k : Int) + 1))], tabT lt lm pre 4096 m⟩)
      (fun k => k ≤ 61) (fun k => 61 - k) 0 (Sub.of (by repeat (first | exact .nil | refine .cons rfl Le.refl ?_)) (by repeat (first | exact Takes.nil | (apply Takes.cons; focus (repeat (first | exact Take.head | apply Take.tail | apply Take.right)))))) (Nat.zero_le _) ?_
    intro k hk
    have hnv := nmS_le k hk
    repeat' (first | apply ar_nil | (apply ar_ev; (apply ev_move; rfl); rfl) | (apply ar_ev; (apply ev_leq; rfl; rfl); rfl) | apply aw_seq | apply a_region | apply go_seq)
    refine aw_condp rfl (fun hk2 => ?_) (fun hk2 => ?_)
    · obtain ⟨e, he, -⟩ := fixedC_at k (by omega)
      have hat := At_ok 4096 (sumE m) m (by omega) ((k : Int) + 1) (by omega)
      rw [at_fixed he] at hat
      have hfd := Find_ok 4096 (sumE m) m (by omega) e.1 e.2
      have hff := fixed_find (m := m) he
      rw [hff.1] at hfd
      dsimp only [atV] at hat hfd
      have hne := hff.2
      have hs := nmS_snoc he
      have hnv2 := nmS_le (k + 1) (by omega)
      have e3 : ((k + 1 : Nat) : Int) = (k : Int) + 1 := by omega
      have e1 : ((nmS k : Nat) : Int) + (e.1.size : Int) = ((nmS (k + 1) : Nat) : Int) := by omega
      have e2 : ((vlS k : Nat) : Int) + (e.2.size : Int) = ((vlS (k + 1) : Nat) : Int) := by omega
      repeat' (first | apply ar_nil | (apply ar_splitp; (apply ev_move; rfl); rfl; all_goals (intro hc; try (exfalso; first | omega | contradiction | (simp at hc; omega) | (simp_all; done)))) | (apply ar_ev; (apply ev_move; rfl); rfl) | (apply ar_ev; (first | (apply ev_callL hat; rfl; rfl; exact Cvs.cons hcv (Cvs.cons Cv.refl Cvs.nil); exact val_free [_, _, _]) | (apply ev_callL hfd; rfl; rfl; exact Cvs.cons hcv (Cvs.cons Cv.refl (Cvs.cons Cv.refl Cvs.nil)); exact val_free [_, _]) | (apply ev_assign; rfl) | (apply ev_pick_f; rfl; rfl) | (apply ev_neip; rfl; rfl) | (apply ev_add; rfl; rfl; exact (by first | omega | assumption); exact (by first | omega | assumption)) | (apply ev_len_str; rfl) | (apply ev_extract; rfl; rfl)); rfl) | (apply ar_take; rfl; rfl; rfl; (apply ev_move (y := .val (.bool true)); rfl); rfl) | (apply ar_take; rfl; rfl; rfl; (apply ev_move; rfl); rfl) | (apply ar_take; rfl; rfl; rfl; (first | (apply ev_eqsp; rfl; rfl) | (apply ev_not; rfl)); rfl) | apply aw_seq | apply a_region | apply aw_block | apply aw_skip | (apply aw_condp; rfl; all_goals (intro hc; try (exfalso; first | omega | contradiction | (simp at hc; omega) | (simp_all; done)))) | (apply aw_cond_f; rfl) | apply go_seq | apply go_block)
      exact go_loop_back ⟨k + 1, by omega, by omega, by rw [← e1, ← e2, e3]; exact Sub.of (by repeat (first | exact .nil | refine .cons rfl Le.refl ?_)) (by repeat (first | exact Takes.nil | (apply Takes.cons; focus (repeat (first | exact Take.head | apply Take.tail | apply Take.right)))))⟩
    · obtain rfl : k = 61 := by omega
      have hat1 := At_ok 4096 (sumE m) m (by omega) 1 (by omega)
      rw [show atN m 1 = ((⟨#[58, 97, 117, 116, 104, 111, 114, 105, 116, 121]⟩, ⟨#[]⟩), 0) from at_fixed (k := 0) rfl] at hat1
      have hat5 := At_ok 4096 (sumE m) m (by omega) 5 (by omega)
      rw [show atN m 5 = ((⟨#[58, 112, 97, 116, 104]⟩, ⟨#[47, 105, 110, 100, 101, 120, 46, 104, 116, 109, 108]⟩), 0) from at_fixed (k := 4) rfl] at hat5
      have hat16 := At_ok 4096 (sumE m) m (by omega) 16 (by omega)
      rw [show atN m 16 = ((⟨#[97, 99, 99, 101, 112, 116, 45, 101, 110, 99, 111, 100, 105, 110, 103]⟩, ⟨#[103, 122, 105, 112, 44, 32, 100, 101, 102, 108, 97, 116, 101]⟩), 0) from at_fixed (k := 15) rfl] at hat16
      have hat61 := At_ok 4096 (sumE m) m (by omega) 61 (by omega)
      rw [show atN m 61 = ((⟨#[119, 119, 119, 45, 97, 117, 116, 104, 101, 110, 116, 105, 99, 97, 116, 101]⟩, ⟨#[]⟩), 0) from at_fixed (k := 60) rfl] at hat61
      rw [nmS_all.1, nmS_all.2]
      have hadd := AddW_ok lt lm pre 4096 m st404 hw st404_ok (by omega)
      have hw2 := hw.add st404_ok (by omega)
      have hA : addN 4096 m st404 = shr (4096 - szE st404) m ++ [st404] := if_pos (by decide)
      rw [hA] at hadd hw2
      generalize shr (4096 - szE st404) m = m2 at *
      repeat' ((fail_if_success (show AW _ (.region 29 _ _) _ _)); (first | apply ar_nil | (apply ar_ev; (apply ev_move (y := .val (.bool false)); rfl); rfl) | (apply ar_ev; (apply ev_move; rfl); rfl) | (apply ar_ev; (first | (apply ev_callL hat1; rfl; rfl; exact Cvs.cons hcv (Cvs.cons Cv.refl Cvs.nil); exact val_free [_, _, _]) | (apply ev_callL hat5; rfl; rfl; exact Cvs.cons hcv (Cvs.cons Cv.refl Cvs.nil); exact val_free [_, _, _]) | (apply ev_callL hat16; rfl; rfl; exact Cvs.cons hcv (Cvs.cons Cv.refl Cvs.nil); exact val_free [_, _, _]) | (apply ev_callL hat61; rfl; rfl; exact Cvs.cons hcv (Cvs.cons Cv.refl Cvs.nil); exact val_free [_, _, _]) | (apply ev_assign; rfl) | (apply ev_pick_f; rfl; rfl) | (apply ev_nesp; rfl; rfl) | (apply ev_extract; rfl; rfl)); rfl) | (apply ar_take; rfl; rfl; rfl; (apply ev_move; rfl); rfl) | (apply ar_take; rfl; rfl; rfl; (apply ev_nesp; rfl; rfl); rfl) | apply aw_seq | apply a_region | apply aw_skip | apply aw_exit | (apply aw_cond_f; rfl) | apply go_seq | apply go_seq_exit | apply go_block_exit | apply go_loop_exit))
      repeat' ((fail_if_success (show AW _ (.region 30 _ _) _ _)); (first | (apply ar_call hadd; rfl; rfl; (focus ((repeat (first | exact Takes.nil | (apply Takes.cons; focus (repeat (first | exact Take.head | apply Take.tail | apply Take.right))))); done)); rfl; rintro _ _ ⟨⟨lm2, pre2, rfl⟩, rfl⟩) | apply ar_nil | (apply ar_ev; (apply ev_move; rfl); rfl) | apply aw_seq | apply a_region | apply go_seq))
      rw [List.append_nil]
      clear hadd hat1 hat5 hat16 hat61 hcv
      have h32 := sum_len32 (m2 ++ [st404])
      have hsm := hw2.sum
      have hff := fixed_find (m := m2 ++ [st404]) (k := 12) (e := st404) rfl
      have hat62 := At_ok 4096 (sumE (m2 ++ [st404])) (m2 ++ [st404]) (by omega) 62 (by omega)
      rw [last_at] at hat62
      have hat0 := At_ok 4096 (sumE (m2 ++ [st404])) (m2 ++ [st404]) (by omega) 0 (by omega)
      rw [atN_none (by omega)] at hat0
      have hfd := Find_ok 4096 (sumE (m2 ++ [st404])) (m2 ++ [st404]) (by omega) ⟨#[58, 115, 116, 97, 116, 117, 115]⟩ ⟨#[52, 48, 52]⟩
      rw [show findN (m2 ++ [st404]) ⟨#[58, 115, 116, 97, 116, 117, 115]⟩ ⟨#[52, 48, 52]⟩ = (13, true) from hff.1] at hfd
      generalize m2 ++ [st404] = m3 at *
      have hcv : Cv (tabT lt lm2 pre2 4096 m3) (.ptr lt 0 0) (tabI 4096 (sumE m3) m3) := cv_tab .head (.tail .head)
      repeat' (first | apply ar_nil | (apply ar_ev; (apply ev_move (y := .val (.bool true)); rfl); rfl) | (apply ar_ev; (apply ev_move; rfl); rfl) | (apply ar_ev; (first | (apply ev_callL hat62; rfl; rfl; exact Cvs.cons hcv (Cvs.cons Cv.refl Cvs.nil); exact val_free [_, _, _]) | (apply ev_callL hat0; rfl; rfl; exact Cvs.cons hcv (Cvs.cons Cv.refl Cvs.nil); exact val_free [_, _, _]) | (apply ev_callL hfd; rfl; rfl; exact Cvs.cons hcv (Cvs.cons Cv.refl (Cvs.cons Cv.refl Cvs.nil)); exact val_free [_, _]) | (apply ev_assign; rfl) | (apply ev_pick_t; rfl; rfl) | (apply ev_eqip; rfl; rfl) | (apply ev_extract; rfl; rfl)); rfl) | (apply ar_take; rfl; rfl; rfl; (apply ev_move (y := .val (.bool true)); rfl); rfl) | (apply ar_take; rfl; rfl; rfl; (apply ev_move; rfl); rfl) | (apply ar_take; rfl; rfl; rfl; (first | (apply ev_eqip; rfl; rfl) | (apply ev_eqsp; rfl; rfl)); rfl) | apply aw_seq | apply a_region | apply aw_ret | apply go_seq)
      exact g_ret1 (r_tmp rfl) .nil rfl
end Go.Proofs.Ytmenbolalghljaa
