import Derived.Test.YtmenbolalghljaaJ
set_option linter.unusedVariables false
set_option linter.unusedSimpArgs false
set_option maxRecDepth 100000
namespace Go.Proofs.Ytmenbolalghljaa
open Go.Proofs Go.Proofs.YtmenbolalghljaaA

/-! The law TableLast. -/
theorem add_take {mx : Int} {p l : List En} {i : Nat} {e : En} (h : l[i]? = some e) : addN mx (shr mx (p ++ l.take i)) e = shr mx (p ++ l.take (i + 1)) := by
  rw [addN_shr, shr_shr_app (Int.le_refl _), List.take_add_one, h]
  simp
theorem add_take0 {mx : Int} {l : List En} {i : Nat} {e : En} (h : l[i]? = some e) : addN mx (shr mx (l.take i)) e = shr mx (l.take (i + 1)) := add_take (p := []) h
theorem wf_shr {mx : Int} {l : List En} (hok : ∀ e, e ∈ l → OkE e) (hm : 0 ≤ mx) : WfT mx (shr mx l) := by
  refine ⟨fun x hx => hok x (shr_mem _ _ _ hx), ?_⟩
  rcases shr_bound mx l with hb | hb
  · exact hb
  · rw [hb]; exact hm
theorem row_own (l : List En) : List.take 0 (List.drop 0 ([] : List (List AV))) ++ List.take l.length (l.map encT) = l.map encT := by
  simp only [List.drop_nil, List.take_nil, List.nil_append]
  exact List.take_of_length_le (by simp)
theorem cv_own (lab : Nat) (l : List En) {r rs : List (Nat × Tok)} {n : Nat} {row : List (List AV)} (ht : Take rs lab (.row 45 2 row) r) (hr : row = l.map encT) (hn : n = l.length) : Cv rs (.own lab 0 n) (tsl l) := by
  subst hr hn
  exact Cv.own0 ht (by simp)
theorem ok_take {l : List En} (hok : ∀ e, e ∈ l → OkE e) (i : Nat) : ∀ e, e ∈ l.take i → OkE e := fun e he => hok e (List.mem_of_mem_take he)
set_option maxHeartbeats 16000000 in
theorem TableLast_ok (mx : Int) (l : List En) (sizes : List Int) (more : List En) (hmx : -9223372036854775808 ≤ mx ∧ mx ≤ 9223372036854775807) (hsz : ∀ n, n ∈ sizes → -9223372036854775808 ≤ n ∧ n ≤ 9223372036854775807) (hns : sizes.length ≤ 1048576)
    (hn : l.length ≤ 1048576) (hok : ∀ e, e ∈ l → OkE e) (hn2 : more.length ≤ 1048576) (hok2 : ∀ e, e ∈ more → OkE e) : PFn Try.prog 4 [vi mx, tsl l, .sl 1 (sizes.map fun n => [vi n]) sizes.length, tsl more] (vb true) := by
  refine fn_of Try.func4 rfl Try.ntmps4 Try.results4 rfl fun G => ?_
  have hbd := bounded_ok mx hmx
  have hble := bnd_le mx
  generalize bnd mx = most at *
  have hnew := New_ok most
  repeat' ((fail_if_success (show AW _ (.region 7 _ _) _ _)); (first | (apply ar_call hnew; rfl; rfl; (focus ((repeat (first | exact Takes.nil | (apply Takes.cons; focus (repeat (first | exact Take.head | apply Take.tail | apply Take.right))))); done)); rfl; rintro _ _ (⟨h, -, -⟩ | ⟨-, lt, lm, rfl, rfl⟩); exfalso; omega) | apply ar_nil | (apply ar_ev; (apply ev_move (y := .val (.bool false)); rfl); rfl) | (apply ar_ev; (apply ev_move; rfl); rfl) | (apply ar_ev; (first | exact ev_call rfl rfl head_ok | exact ev_call rfl rfl hbd | (apply ev_assign; rfl) | (apply ev_pick_f; rfl; rfl) | (apply ev_eqnil_p; rfl; rfl) | (apply ev_not; rfl) | (apply ev_extract; rfl; rfl)); rfl) | (apply ar_take; rfl; rfl; rfl; (apply ev_move; rfl); rfl) | (apply ar_take; rfl; rfl; rfl; (apply ev_neip; rfl; rfl); rfl) | apply aw_seq | apply a_region | apply aw_skip | (apply aw_cond_f; rfl) | apply go_seq))
  rw [List.append_nil]
  clear hnew hbd
  repeat' (first | apply ar_nil | (apply ar_ev; (apply ev_assign; rfl); rfl) | apply a_region | apply aw_block | apply go_seq)
  refine a_loop (fun g : Nat × Nat × List (List AV) => ⟨[(1, tsl l), (2, .sl 1 (sizes.map fun n => [vi n]) sizes.length), (3, tsl more), (9, vi most), (10, .ptr lt 0 0), (12, vi g.1)], tabT lt g.2.1 g.2.2 most (shr most (l.take g.1))⟩)
    (fun g => g.1 ≤ l.length) (fun g => l.length - g.1) (0, lm, []) (Sub.of (by repeat (first | exact .nil | refine .cons rfl Le.refl ?_)) (by repeat (first | exact Takes.nil | (apply Takes.cons; focus (repeat (first | exact Take.head | apply Take.tail | apply Take.right)))))) (Nat.zero_le _) ?_
  rintro ⟨i, lm, pre⟩ hi
  dsimp only at *
  repeat' (first | apply ar_nil | (apply ar_ev; (apply ev_move; rfl); rfl) | (apply ar_ev; (first | (apply ev_lss; rfl; rfl) | (apply ev_len_sl; rfl)); rfl) | apply aw_seq | apply a_region | apply go_seq)
  refine aw_condp rfl (fun hk => ?_) (fun hk => ?_)
  · obtain ⟨e, he⟩ : ∃ e, l[i]? = some e := ⟨_, List.getElem?_eq_getElem (by omega)⟩
    have he2 := tsl_get he
    have hadd := AddW_ok lt lm pre most (shr most (l.take i)) e (wf_shr (ok_take hok i) hble.1) (hok e (List.mem_of_getElem? he)) (by omega)
    rw [add_take0 he] at hadd
    repeat' (first | (refine a_draw 11 rfl ?_) | (apply ar_call hadd; rfl; rfl; (focus ((repeat (first | exact Takes.nil | (apply Takes.cons; focus (repeat (first | exact Take.head | apply Take.tail | apply Take.right))))); done)); rfl; rintro _ _ ⟨⟨lm2, pre2, rfl⟩, rfl⟩) | apply ar_nil | (apply ar_ev; (apply ev_move; rfl); rfl) | (apply ar_ev; (first | (apply ev_load_ip_one; rfl; rfl) | (apply ev_fieldAddr_ip; rfl) | (apply ev_assign; rfl) | (apply ev_inc; rfl; exact (by first | omega | assumption)) | (apply ev_indexAddr_sl; rfl; rfl; exact (by first | omega | assumption); exact (by first | rfl | assumption | exact get_map (by assumption)))); rfl) | apply aw_seq | apply a_region | apply aw_block | apply aw_skip | apply go_seq | apply go_block)
    exact go_loop_back ⟨(i + 1, lm2, pre2), by dsimp only; omega, by dsimp only; omega, by dsimp only; exact Sub.of (by repeat (first | exact .nil | refine .cons rfl Le.refl ?_)) (by repeat (first | exact Takes.nil | (apply Takes.cons; focus (repeat (first | exact Take.head | apply Take.tail | apply Take.right)))))⟩
  · obtain rfl : i = l.length := by omega
    rw [List.take_length]
    clear hk hi
    have hw := wf_shr hok hble.1
    have hlast := last_ok l most (by omega) hok hble
    generalize shr most l = is at *
    have h32 := sum_len32 is
    have hsm := hw.sum
    repeat' ((fail_if_success (show AW _ (.region 12 _ _) _ _)); (first | (apply ar_new (d := 49); (apply eff_buildSlice; rfl; rfl; rfl; rfl; rfl; rfl; rfl); exact .nil; rfl; intro lab) | apply ar_nil | (apply ar_ev; (apply ev_move; rfl); rfl) | (apply ar_ev; (first | exact ev_call rfl rfl hlast | (apply ev_assign; rfl)); rfl) | apply aw_seq | apply a_region | apply aw_exit | apply go_seq | apply go_seq_exit | apply go_block_exit | apply go_loop_exit | (apply ar_append; rfl; (focus ((repeat (first | exact Take.head | apply Take.tail | apply Take.right)); done)); rfl; exact (by first | omega | assumption | (simp; done) | (simp; omega) | exact Nat.le_of_ble_eq_true rfl); exact (by first | omega | assumption | (simp; done) | (simp; omega) | exact Nat.le_of_ble_eq_true rfl); exact (by first | omega | assumption | (simp; done) | (simp; omega) | exact Nat.le_of_ble_eq_true rfl); rfl; intro lab)))
    rw [Nat.zero_add]
    have hrow0 := row_own is
    have hcv : Cv (tabT lt lm pre most is) (.ptr lt 0 0) (tabI most (sumE is) is) := cv_tab .head (.tail .head)
    refine aw_via (fun l2 : Nat => ⟨[(2, .sl 1 (sizes.map fun n => [vi n]) sizes.length), (3, tsl more), (9, vi most), (10, .ptr lt 0 0), (13, .own l2 0 is.length)], (l2, .row 45 2 (is.map encT)) :: tabT lt lm pre most is⟩) (fun h => AW.sub (Sub.of (by repeat (first | exact .nil | refine .cons rfl Le.refl ?_)) (by repeat (first | exact Takes.nil | (apply Takes.cons; focus (repeat (first | exact Take.head | exact Take.rowc hrow0 Take.head | apply Take.tail | apply Take.right)))))) (h _)) ?_
    intro li
    have hhl := holds_ok most is (by omega) hw.ok (by omega)
    have hci : Cv ((li, .row 45 2 (is.map encT)) :: tabT lt lm pre most is) (.own li 0 is.length) (tsl is) := cv_own li is .head rfl rfl
    have hcv : Cv ((li, .row 45 2 (is.map encT)) :: tabT lt lm pre most is) (.ptr lt 0 0) (tabI most (sumE is) is) := cv_tab (.tail .head) (.tail (.tail .head))
    repeat' ((fail_if_success (show AW _ (.region 14 _ _) _ _)); (first | apply ar_nil | (apply ar_ev; (apply ev_move; rfl); rfl) | (apply ar_ev; (first | (apply ev_callL hhl; rfl; rfl; exact Cvs.cons hcv (Cvs.cons hci Cvs.nil); constructor) | (apply ev_not; rfl)); rfl) | apply aw_seq | apply a_region | apply aw_skip | (apply aw_cond_f; rfl) | apply go_seq))
    clear hci hcv hhl hlast
    repeat' ((fail_if_success (show AW _ (.region 15 _ _) _ _)); (first | apply ar_nil | (apply ar_ev; (apply ev_assign; rfl); rfl) | apply a_region | apply aw_block | apply go_seq))
    refine a_loop (fun g : Nat × Nat × Int × List (List AV) × List En => ⟨[(2, .sl 1 (sizes.map fun n => [vi n]) sizes.length), (3, tsl more), (9, vi g.2.2.1), (10, .ptr lt 0 0), (13, .own g.2.1 0 g.2.2.2.2.length), (14, vi g.1)], (g.2.1, .row 45 2 (g.2.2.2.2.map encT)) :: tabT lt lm g.2.2.2.1 g.2.2.1 g.2.2.2.2⟩)
      (fun g => g.1 ≤ sizes.length ∧ (0 ≤ g.2.2.1 ∧ g.2.2.1 ≤ 65536) ∧ WfT g.2.2.1 g.2.2.2.2) (fun g => sizes.length - g.1) (0, li, most, pre, is) (Sub.of (by repeat (first | exact .nil | refine .cons rfl Le.refl ?_)) (by repeat (first | exact Takes.nil | (apply Takes.cons; focus (repeat (first | exact Take.head | apply Take.tail | apply Take.right)))))) ⟨Nat.zero_le _, hble, hw⟩ ?_
    clear hw hble h32 hsm hrow0
    rintro ⟨i, li, most, pre, is⟩ ⟨hi, hble, hw⟩
    dsimp only at *
    have h32 := sum_len32 is
    have hsm := hw.sum
    repeat' (first | apply ar_nil | (apply ar_ev; (apply ev_move; rfl); rfl) | (apply ar_ev; (first | (apply ev_lss; rfl; rfl) | (apply ev_len_sl; rfl)); rfl) | apply aw_seq | apply a_region | apply go_seq)
    refine aw_condp rfl (fun hk => ?_) (fun hk => ?_)
    · obtain ⟨m2, hm2⟩ : ∃ m2, sizes[i]? = some m2 := ⟨_, List.getElem?_eq_getElem (by omega)⟩
      have hg2 : (sizes.map fun n => [vi n])[i]? = some [vi m2] := by simp [hm2]
      have hbd := bounded_ok m2 (hsz m2 (List.mem_of_getElem? hm2))
      have hb2 := bnd_le m2
      generalize bnd m2 = mo at *
      have hrs := Resize_ok lt lm pre most mo is (by omega) hw.ok (by omega)
      have hwm := hw.shr (m := mo) hb2.1
      have hlast := last_ok is mo (by omega) hw.ok hb2
      have hmx := Max_ok mo (sumE (shr mo is)) (shr mo is)
      have hhl := holds_ok mo (shr mo is) (by have := (shr_le mo is).2; omega) hwm.ok (by have := hwm.sum; omega)
      have h7 := (shr_le mo is).2
      generalize shr mo is = is2 at *
      have hcvm : ∀ pre', Cv (tabT lt lm pre' mo is2 ++ [(li, .row 45 2 (is.map encT))]) (.ptr lt 0 0) (tabI mo (sumE is2) is2) := fun _ => cv_tab .head (.tail .head)
      have hrow0 := row_own is2
      have h322 := sum_len32 is2
      have hsm2 := hwm.sum
      repeat' ((fail_if_success (show AW _ (.region 20 _ _) _ _)); (first | (apply ar_call hrs; rfl; rfl; exact takes_skip takes_all; rfl; rintro _ _ (⟨h, -, -⟩ | ⟨-, ⟨pre3, rfl⟩, rfl⟩); exfalso; omega) | apply ar_nil | (apply ar_splitp; (apply ev_move; rfl); rfl; all_goals (intro hc; try (exfalso; first | omega | contradiction | (simp at hc; omega) | (simp_all; done)))) | (apply ar_ev; (apply ev_move; rfl); rfl) | (apply ar_ev; (first | exact ev_call rfl rfl hbd | (apply ev_load_ip_one; rfl; rfl) | (apply ev_assign; rfl) | (apply ev_pick_f; rfl; rfl) | (apply ev_neip; rfl; rfl) | (apply ev_indexAddr_sl; rfl; rfl; exact (by first | omega | assumption); exact (by first | rfl | assumption | exact get_map (by assumption)))); rfl) | (apply ar_take; rfl; rfl; rfl; (apply ev_move; rfl); rfl) | (apply ar_take; rfl; rfl; rfl; (first | (apply ev_callL hmx; rfl; rfl; exact Cvs.cons (hcvm _) Cvs.nil; constructor) | (apply ev_neip; rfl; rfl)); rfl) | apply aw_seq | apply a_region | apply aw_block | apply aw_skip | (apply aw_condp; rfl; all_goals (intro hc; try (exfalso; first | omega | contradiction | (simp at hc; omega) | (simp_all; done)))) | apply go_seq))
      refine aw_cv 13 (us := [(li, .row 45 2 (is.map encT))]) (y := tsl is) rfl (by repeat (first | exact Takes.nil | (apply Takes.cons; focus (repeat (first | exact Take.head | apply Take.tail | apply Take.right))))) (cv_own li is .head rfl rfl) ?_
      repeat' ((fail_if_success (show AW _ (.region 21 _ _) _ _)); (first | (apply ar_new (d := 79); (apply eff_buildSlice; rfl; rfl; rfl; rfl; rfl; rfl; rfl); exact .nil; rfl; intro lab) | apply ar_nil | (apply ar_ev; (apply ev_move; rfl); rfl) | (apply ar_ev; (first | exact ev_call rfl rfl hlast | (apply ev_assign; rfl)); rfl) | apply aw_seq | apply a_region | apply go_seq | (apply ar_append; rfl; (focus ((repeat (first | exact Take.head | apply Take.tail | apply Take.right)); done)); rfl; exact (by first | omega | assumption | (simp; done) | (simp; omega) | exact Nat.le_of_ble_eq_true rfl); exact (by first | omega | assumption | (simp; done) | (simp; omega) | exact Nat.le_of_ble_eq_true rfl); exact (by first | omega | assumption | (simp; done) | (simp; omega) | exact Nat.le_of_ble_eq_true rfl); rfl; intro lab)))
      rw [Nat.zero_add]
      clear hcvm
      refine aw_via (fun l2 : Nat => ⟨[(2, .sl 1 (sizes.map fun n => [vi n]) sizes.length), (3, tsl more), (9, vi mo), (10, .ptr lt 0 0), (13, .own l2 0 is2.length), (14, vi i)], (l2, .row 45 2 (is2.map encT)) :: tabT lt lm pre3 mo is2⟩) (fun h => AW.sub (Sub.of (by repeat (first | exact .nil | refine .cons rfl Le.refl ?_)) (by repeat (first | exact Takes.nil | (apply Takes.cons; focus (repeat (first | exact Take.head | exact Take.rowc hrow0 Take.head | apply Take.tail | apply Take.right)))))) (h _)) ?_
      intro l2
      have hci : Cv ((l2, .row 45 2 (is2.map encT)) :: tabT lt lm pre3 mo is2) (.own l2 0 is2.length) (tsl is2) := cv_own l2 is2 .head rfl rfl
      have hcv : Cv ((l2, .row 45 2 (is2.map encT)) :: tabT lt lm pre3 mo is2) (.ptr lt 0 0) (tabI mo (sumE is2) is2) := cv_tab (.tail .head) (.tail (.tail .head))
      repeat' (first | apply ar_nil | (apply ar_ev; (apply ev_move; rfl); rfl) | (apply ar_ev; (first | (apply ev_callL hhl; rfl; rfl; exact Cvs.cons hcv (Cvs.cons hci Cvs.nil); constructor) | (apply ev_assign; rfl) | (apply ev_inc; rfl; exact (by first | omega | assumption)) | (apply ev_not; rfl)); rfl) | apply a_region | apply aw_skip | (apply aw_cond_f; rfl) | apply go_seq | apply go_block)
      exact go_loop_back ⟨(i + 1, l2, mo, pre3, is2), ⟨by dsimp only; omega, hb2, hwm⟩, by dsimp only; omega, by dsimp only; exact Sub.of (by repeat (first | exact .nil | refine .cons rfl Le.refl ?_)) (by repeat (first | exact Takes.nil | (apply Takes.cons; focus (repeat (first | exact Take.head | apply Take.tail | apply Take.right)))))⟩
    · clear hk hi hsz hns h32 hsm
      repeat' (first | apply ar_nil | (apply ar_ev; (apply ev_assign; rfl); rfl) | apply aw_seq | apply a_region | apply aw_block | apply aw_exit | apply go_seq | apply go_seq_exit | apply go_block_exit | apply go_loop_exit)
      refine a_loop (fun g : Nat × Nat × Nat × List (List AV) × List En => ⟨[(3, tsl more), (9, vi most), (10, .ptr lt 0 0), (13, .own g.2.1 0 g.2.2.2.2.length), (15, vi g.1)], (g.2.1, .row 45 2 (g.2.2.2.2.map encT)) :: tabT lt g.2.2.1 g.2.2.2.1 most g.2.2.2.2⟩)
        (fun g => g.1 ≤ more.length ∧ WfT most g.2.2.2.2) (fun g => more.length - g.1) (0, li, lm, pre, is) (Sub.of (by repeat (first | exact .nil | refine .cons rfl Le.refl ?_)) (by repeat (first | exact Takes.nil | (apply Takes.cons; focus (repeat (first | exact Take.head | apply Take.tail | apply Take.right)))))) ⟨Nat.zero_le _, hw⟩ ?_
      clear hw
      rintro ⟨i, li, lm, pre, is⟩ ⟨hi, hw⟩
      dsimp only at *
      have h32 := sum_len32 is
      have hsm := hw.sum
      repeat' (first | apply ar_nil | (apply ar_ev; (apply ev_move; rfl); rfl) | (apply ar_ev; (first | (apply ev_lss; rfl; rfl) | (apply ev_len_sl; rfl)); rfl) | apply aw_seq | apply a_region | apply go_seq)
      refine aw_condp rfl (fun hk => ?_) (fun hk => ?_)
      · obtain ⟨e, he⟩ : ∃ e, more[i]? = some e := ⟨_, List.getElem?_eq_getElem (by omega)⟩
        have he2 := tsl_get he
        have hoke := hok2 e (List.mem_of_getElem? he)
        have hadd := AddW_ok lt lm pre most is e hw hoke (by omega)
        have hw2 := hw.add hoke (by omega)
        rw [addN_shr] at hadd hw2
        have hlast := last_ok (is ++ [e]) most (by simp; omega) (fun x hx => by rcases List.mem_append.1 hx with hx | hx; exact hw.ok x hx; rw [List.mem_singleton.1 hx]; exact hoke) hble
        have hhl := holds_ok most (shr most (is ++ [e])) (by have := sum_len32 (shr most (is ++ [e])); have := hw2.sum; omega) hw2.ok (by have := hw2.sum; omega)
        have hsiz := Size_ok most (sumE (shr most (is ++ [e]))) (shr most (is ++ [e]))
        have hc5 : ∀ lab, Cv [(lab, .row 45 2 (List.take is.length (List.drop 0 (is.map encT)) ++ List.take 1 [encT e]))] (.own lab 0 (is.length + 1)) (tsl (is ++ [e])) := fun lab => cv_own lab (is ++ [e]) .head (by rw [List.drop_zero, List.take_of_length_le (by simp)]; simp) (by simp)
        generalize shr most (is ++ [e]) = is2 at *
        have hrow0 := row_own is2
        have h322 := sum_len32 is2
        have hsm2 := hw2.sum
        repeat' ((fail_if_success (show AW _ (.region 27 _ _) _ _)); (first | (refine a_draw 11 rfl ?_) | (apply ar_call hadd; rfl; rfl; exact takes_skip takes_all; rfl; rintro _ _ ⟨⟨lm2, pre2, rfl⟩, rfl⟩) | apply ar_nil | (apply ar_ev; (apply ev_move; rfl); rfl) | (apply ar_ev; (first | (apply ev_load_ip_one; rfl; rfl) | (apply ev_fieldAddr_ip; rfl) | (apply ev_indexAddr_sl; rfl; rfl; exact (by first | omega | assumption); exact (by first | rfl | assumption | exact get_map (by assumption)))); rfl) | apply aw_seq | apply aw_block | apply aw_skip | apply go_seq))
        repeat' ((fail_if_success (show AW _ (.region 28 _ _) _ _)); (first | (refine ar_cv 113 rfl (.cons .head .nil) (hc5 _) ?_) | (apply ar_new (d := 106); (apply eff_buildSlice; rfl; rfl; rfl; rfl; rfl; rfl; rfl); exact .nil; rfl; intro lab) | apply ar_nil | (apply ar_ev; (apply ev_move; rfl); rfl) | (apply ar_ev; (first | exact ev_call rfl rfl hlast | (apply ev_assign; rfl) | (apply ev_load_ip_agg; rfl; exact Nat.le_of_ble_eq_true rfl) | (apply ev_indexAddr_sl; rfl; rfl; exact (by first | omega | assumption); exact (by first | rfl | assumption | exact get_map (by assumption))) | (apply ev_buildSlice; rfl; rfl; rfl; rfl; rfl; rfl; rfl)); rfl) | apply aw_seq | apply a_region | apply go_seq | (apply ar_append; rfl; (focus ((repeat (first | exact Take.head | apply Take.tail | apply Take.right)); done)); rfl; exact (by first | omega | assumption | (simp; done) | (simp; omega) | exact Nat.le_of_ble_eq_true rfl); exact (by first | omega | assumption | (simp; done) | (simp; omega) | exact Nat.le_of_ble_eq_true rfl); exact (by first | omega | assumption | (simp; done) | (simp; omega) | exact Nat.le_of_ble_eq_true rfl); rfl; intro lab)))
        rw [Nat.zero_add]
        clear hc5
        refine aw_via (fun l2 : Nat => ⟨[(3, tsl more), (9, vi most), (10, .ptr lt 0 0), (13, .own l2 0 is2.length), (15, vi i)], (l2, .row 45 2 (is2.map encT)) :: tabT lt lm2 pre2 most is2⟩) (fun h => AW.sub (Sub.of (by repeat (first | exact .nil | refine .cons rfl Le.refl ?_)) (by repeat (first | exact Takes.nil | (apply Takes.cons; focus (repeat (first | exact Take.head | exact Take.rowc hrow0 Take.head | apply Take.tail | apply Take.right)))))) (h _)) ?_
        intro l2
        have hci : Cv ((l2, .row 45 2 (is2.map encT)) :: tabT lt lm2 pre2 most is2) (.own l2 0 is2.length) (tsl is2) := cv_own l2 is2 .head rfl rfl
        have hcv : Cv ((l2, .row 45 2 (is2.map encT)) :: tabT lt lm2 pre2 most is2) (.ptr lt 0 0) (tabI most (sumE is2) is2) := cv_tab (.tail .head) (.tail (.tail .head))
        repeat' (first | apply ar_nil | (apply ar_ev; (apply ev_move (y := .val (.bool false)); rfl); rfl) | (apply ar_ev; (apply ev_move; rfl); rfl) | (apply ar_ev; (first | (apply ev_callL hhl; rfl; rfl; exact Cvs.cons hcv (Cvs.cons hci Cvs.nil); constructor) | (apply ev_assign; rfl) | (apply ev_pick_f; rfl; rfl) | (apply ev_inc; rfl; exact (by first | omega | assumption)) | (apply ev_not; rfl)); rfl) | (apply ar_take; rfl; rfl; rfl; (apply ev_move; rfl); rfl) | (apply ar_take; rfl; rfl; rfl; (first | (apply ev_callL hsiz; rfl; rfl; exact Cvs.cons hcv Cvs.nil; constructor) | (apply ev_gtr; rfl; rfl)); rfl) | apply a_region | apply aw_skip | (apply aw_condp; rfl; all_goals (intro hc; try (exfalso; first | omega | contradiction | (simp at hc; omega) | (simp_all; done)))) | apply go_seq | apply go_block)
        exact go_loop_back ⟨(i + 1, l2, lm2, pre2, is2), ⟨by dsimp only; omega, hw2⟩, by dsimp only; omega, by dsimp only; exact Sub.of (by repeat (first | exact .nil | refine .cons rfl Le.refl ?_)) (by repeat (first | exact Takes.nil | (apply Takes.cons; focus (repeat (first | exact Take.head | apply Take.tail | apply Take.right)))))⟩
      · repeat' (first | apply ar_nil | (apply ar_ev; (apply ev_assign; rfl); rfl) | apply aw_seq | apply a_region | apply aw_exit | apply aw_ret | apply go_seq | apply go_seq_exit | apply go_block_exit | apply go_loop_exit)
        exact g_ret1 (r_tmp rfl) .nil rfl
end Go.Proofs.Ytmenbolalghljaa
