import Derived.Test.YtmenbolalghljaaK
set_option linter.unusedVariables false
set_option linter.unusedSimpArgs false
set_option maxRecDepth 100000
namespace Go.Proofs.Ytmenbolalghljaa
open Go.Proofs Go.Proofs.YtmenbolalghljaaA

/-! The law TableCopies. -/
theorem cv_app (lab : Nat) (l m : List En) {r rs : List (Nat × Tok)} (ht : Take rs lab (.row 45 2 (List.take l.length (List.drop 0 (List.take l.length (l.map encT))) ++ List.take m.length (m.map encT))) r) : Cv rs (.own lab 0 (l.length + m.length)) (tsl (l ++ m)) :=
  cv_own lab (l ++ m) ht (by rw [List.drop_zero, List.take_of_length_le (l := l.map encT) (by simp), List.take_of_length_le (by simp), List.take_of_length_le (by simp), List.map_append]) (by simp)
theorem shr_app_le {mx : Int} {l m : List En} (h : (sumE (shr mx l) : Int) ≤ 65536) : (shr mx l).length ≤ 2048 := by
  have := sum_len32 (shr mx l)
  omega
set_option maxHeartbeats 16000000 in
theorem TableCopies_ok (mx : Int) (l one two : List En) (size : Int) (hmx : -9223372036854775808 ≤ mx ∧ mx ≤ 9223372036854775807) (hsz : -9223372036854775808 ≤ size ∧ size ≤ 9223372036854775807)
    (hn : l.length ≤ 1048576) (hok : ∀ e, e ∈ l → OkE e) (hn1 : one.length ≤ 1048576) (hok1 : ∀ e, e ∈ one → OkE e) (hn2 : two.length ≤ 1048576) (hok2 : ∀ e, e ∈ two → OkE e) : PFn Try.prog 7 [vi mx, tsl l, tsl one, tsl two, vi size] (vb true) := by
  refine fn_of Try.func7 rfl Try.ntmps7 Try.results7 rfl fun G => ?_
  have hbd := bounded_ok mx hmx
  have hble := bnd_le mx
  generalize bnd mx = most at *
  have hbs := bounded_ok size hsz
  have hbls := bnd_le size
  generalize bnd size = small at *
  have hnew := New_ok most
  repeat' ((fail_if_success (show AW _ (.region 4 _ _) _ _)); (first | apply ar_nil | (apply ar_ev; (apply ev_move; rfl); rfl) | (apply ar_ev; (first | exact ev_call rfl rfl head_ok | exact ev_call rfl rfl hbd | (apply ev_assign; rfl) | (apply ev_not; rfl)); rfl) | apply aw_seq | apply a_region | apply aw_skip | (apply aw_cond_f; rfl) | apply go_seq))
  repeat' ((fail_if_success (show AW _ (.region 5 _ _) _ _)); (first | (apply ar_call hnew; rfl; rfl; (focus ((repeat (first | exact Takes.nil | (apply Takes.cons; focus (repeat (first | exact Take.head | apply Take.tail | apply Take.right))))); done)); rfl; rintro _ _ (⟨h, -, -⟩ | ⟨-, lt, lm, rfl, rfl⟩); exfalso; omega) | apply ar_nil | (apply ar_ev; (apply ev_move; rfl); rfl) | (apply ar_ev; (first | (apply ev_assign; rfl) | (apply ev_extract; rfl; rfl)); rfl) | apply aw_seq | apply a_region | apply go_seq))
  rw [List.append_nil]
  repeat' ((fail_if_success (show AW _ (.region 8 _ _) _ _)); (first | (apply ar_call hnew; rfl; rfl; (focus ((repeat (first | exact Takes.nil | (apply Takes.cons; focus (repeat (first | exact Take.head | apply Take.tail | apply Take.right))))); done)); rfl; rintro _ _ (⟨h, -, -⟩ | ⟨-, lu, lmu, rfl, rfl⟩); exfalso; omega) | apply ar_nil | (apply ar_ev; (apply ev_move (y := .val (.bool false)); rfl); rfl) | (apply ar_ev; (apply ev_move; rfl); rfl) | (apply ar_ev; (first | (apply ev_assign; rfl) | (apply ev_pick_f; rfl; rfl) | (apply ev_eqnil_p; rfl; rfl) | (apply ev_extract; rfl; rfl)); rfl) | (apply ar_take; rfl; rfl; rfl; (apply ev_move; rfl); rfl) | (apply ar_take; rfl; rfl; rfl; (first | (apply ev_neip; rfl; rfl) | (apply ev_eqnil_p; rfl; rfl)); rfl) | apply aw_seq | apply a_region | apply aw_skip | (apply aw_cond_f; rfl) | apply go_seq))
  clear hnew hbd
  repeat' (first | apply ar_nil | (apply ar_ev; (apply ev_assign; rfl); rfl) | apply a_region | apply aw_block | apply go_seq)
  refine a_loop (fun g : Nat × Nat × List (List AV) × Nat × List (List AV) => ⟨[(1, tsl l), (2, tsl one), (3, tsl two), (4, vi size), (11, vi most), (12, .ptr lt 0 0), (14, .ptr lu 0 0), (16, vi g.1)], tabT lt g.2.1 g.2.2.1 most (shr most (l.take g.1)) ++ tabT lu g.2.2.2.1 g.2.2.2.2 most (shr most (l.take g.1))⟩)
    (fun g => g.1 ≤ l.length) (fun g => l.length - g.1) (0, lm, [], lmu, []) (Sub.of (by repeat (first | exact .nil | refine .cons rfl Le.refl ?_)) (by repeat (first | exact Takes.nil | (apply Takes.cons; focus (repeat (first | exact Take.head | apply Take.tail | apply Take.right)))))) (Nat.zero_le _) ?_
  rintro ⟨i, lm, pre, lmu, preu⟩ hi
  dsimp only at *
  repeat' (first | apply ar_nil | (apply ar_ev; (apply ev_move; rfl); rfl) | (apply ar_ev; (first | (apply ev_lss; rfl; rfl) | (apply ev_len_sl; rfl)); rfl) | apply aw_seq | apply a_region | apply go_seq)
  refine aw_condp rfl (fun hk => ?_) (fun hk => ?_)
  · obtain ⟨e, he⟩ : ∃ e, l[i]? = some e := ⟨_, List.getElem?_eq_getElem (by omega)⟩
    have he2 := tsl_get he
    have hadd := AddW_ok lt lm pre most (shr most (l.take i)) e (wf_shr (ok_take hok i) hble.1) (hok e (List.mem_of_getElem? he)) (by omega)
    have haddu := AddW_ok lu lmu preu most (shr most (l.take i)) e (wf_shr (ok_take hok i) hble.1) (hok e (List.mem_of_getElem? he)) (by omega)
    rw [add_take0 he] at hadd haddu
    repeat' ((fail_if_success (show AW _ (.region 12 _ _) _ _)); (first | (refine a_draw 11 rfl ?_) | (apply ar_call hadd; rfl; rfl; (focus ((repeat (first | exact Takes.nil | (apply Takes.cons; focus (repeat (first | exact Take.head | apply Take.tail | apply Take.right))))); done)); rfl; rintro _ _ ⟨⟨lm2, pre2, rfl⟩, rfl⟩) | apply ar_nil | (apply ar_ev; (apply ev_move; rfl); rfl) | (apply ar_ev; (first | (apply ev_load_ip_one; rfl; rfl) | (apply ev_fieldAddr_ip; rfl) | (apply ev_indexAddr_sl; rfl; rfl; exact (by first | omega | assumption); exact (by first | rfl | assumption | exact get_map (by assumption)))); rfl) | apply aw_seq | apply aw_block | apply aw_skip | apply go_seq))
    repeat' (first | (refine a_draw 11 rfl ?_) | (apply ar_call haddu; rfl; rfl; (focus ((repeat (first | exact Takes.nil | (apply Takes.cons; focus (repeat (first | exact Take.head | apply Take.tail | apply Take.right))))); done)); rfl; rintro _ _ ⟨⟨lmu2, preu2, rfl⟩, rfl⟩) | apply ar_nil | (apply ar_ev; (apply ev_move; rfl); rfl) | (apply ar_ev; (first | (apply ev_load_ip_one; rfl; rfl) | (apply ev_fieldAddr_ip; rfl) | (apply ev_assign; rfl) | (apply ev_inc; rfl; exact (by first | omega | assumption)) | (apply ev_indexAddr_sl; rfl; rfl; exact (by first | omega | assumption); exact (by first | rfl | assumption | exact get_map (by assumption)))); rfl) | apply a_region | apply go_seq | apply go_block)
    exact go_loop_back ⟨(i + 1, lm2, pre2, lmu2, preu2), by dsimp only; omega, by dsimp only; omega, by dsimp only; exact Sub.of (by repeat (first | exact .nil | refine .cons rfl Le.refl ?_)) (by repeat (first | exact Takes.nil | (apply Takes.cons; focus (repeat (first | exact Take.head | apply Take.tail | apply Take.right)))))⟩
  · obtain rfl : i = l.length := by omega
    rw [List.take_length]
    clear hk hi
    have hw := wf_shr hok hble.1
    have hlast := last_ok l most (by omega) hok hble
    have hin := shr_app_le (l := l) (m := l) (Int.le_trans hw.sum hble.2)
    have hcp := Copy_ok most (shr most l) (by omega)
    have hcv : Cv (tabT lt lm pre most (shr most l) ++ tabT lu lmu preu most (shr most l)) (.ptr lt 0 0) (tabI most (sumE (shr most l)) (shr most l)) := cv_tab .head (.tail .head)
    repeat' ((fail_if_success (show AW _ (.region 13 _ _) _ _)); (first | apply aw_seq | apply aw_exit | apply go_seq | apply go_seq_exit | apply go_block_exit | apply go_loop_exit))
    repeat' ((fail_if_success (show AW _ (.region 14 _ _) _ _)); (first | (apply ar_callL hcp; rfl; rfl; exact .nil; exact Cvs.cons hcv .nil; (rintro _ _ ⟨a, b, rfl, rfl⟩; exact ⟨.ptr _ _ _, free_tab _ _ _ _ _ (fun x hx => nomatch hx)⟩); rfl; rintro _ _ ⟨lc, lmc, rfl, rfl⟩) | apply ar_nil | (apply ar_ev; (apply ev_move; rfl); rfl) | (apply ar_ev; (apply ev_assign; rfl); rfl) | apply aw_seq | apply a_region | apply go_seq))
    clear hcv
    have hcv : Cv (tabT lc lmc [] most (shr most l) ++ (tabT lt lm pre most (shr most l) ++ tabT lu lmu preu most (shr most l))) (.ptr lt 0 0) (tabI most (sumE (shr most l)) (shr most l)) := cv_tab (.tail (.tail .head)) (.tail (.tail (.tail .head)))
    repeat' ((fail_if_success (show AW _ (.region 15 _ _) _ _)); (first | (apply ar_callL hcp; rfl; rfl; exact .nil; exact Cvs.cons hcv .nil; (rintro _ _ ⟨a, b, rfl, rfl⟩; exact ⟨.ptr _ _ _, free_tab _ _ _ _ _ (fun x hx => nomatch hx)⟩); rfl; rintro _ _ ⟨ld, lmd, rfl, rfl⟩) | apply ar_nil | (apply ar_ev; (apply ev_move; rfl); rfl) | (apply ar_ev; (apply ev_assign; rfl); rfl) | apply aw_seq | apply a_region | apply go_seq))
    clear hcv hcp
    repeat' ((fail_if_success (show AW _ (.region 19 _ _) _ _)); (first | apply ar_nil | (apply ar_ev; (apply ev_move (y := .val (.bool false)); rfl); rfl) | (apply ar_ev; (apply ev_move; rfl); rfl) | (apply ar_ev; (first | exact ev_call rfl rfl hlast | (apply ev_assign; rfl) | (apply ev_pick_f; rfl; rfl) | (apply ev_eqnil_p; rfl; rfl)); rfl) | (apply ar_take; rfl; rfl; rfl; (apply ev_move; rfl); rfl) | (apply ar_take; rfl; rfl; rfl; (apply ev_eqnil_p; rfl; rfl); rfl) | apply aw_seq | apply a_region | apply aw_block | apply aw_skip | (apply aw_cond_f; rfl) | apply go_seq))
    refine a_loop (fun g : Nat × Nat × List (List AV) => ⟨[(1, tsl l), (2, tsl one), (3, tsl two), (4, vi size), (11, vi most), (12, .ptr lt 0 0), (14, .ptr lu 0 0), (17, .ptr lc 0 0), (18, .ptr ld 0 0), (19, tsl (shr most l)), (20, vi g.1)],
        tabT lt g.2.1 g.2.2 most (shr most (l ++ one.take g.1)) ++ (tabT lu lmu preu most (shr most l) ++ (tabT lc lmc [] most (shr most l) ++ tabT ld lmd [] most (shr most l)))⟩)
      (fun g => g.1 ≤ one.length) (fun g => one.length - g.1) (0, lm, pre) (by simp only [List.take_zero, List.append_nil]; exact Sub.of (by repeat (first | exact .nil | refine .cons rfl Le.refl ?_)) (by repeat (first | exact Takes.nil | (apply Takes.cons; focus (repeat (first | exact Take.head | apply Take.tail | apply Take.right)))))) (Nat.zero_le _) ?_
    rintro ⟨i, lm, pre⟩ hi
    dsimp only at *
    have hokl : ∀ (m : List En) (i : Nat), (∀ e, e ∈ m → OkE e) → ∀ e, e ∈ l ++ m.take i → OkE e := fun m i hm e he => by
      rcases List.mem_append.1 he with he | he
      · exact hok e he
      · exact ok_take hm i e he
    repeat' (first | apply ar_nil | (apply ar_ev; (apply ev_move; rfl); rfl) | (apply ar_ev; (first | (apply ev_lss; rfl; rfl) | (apply ev_len_sl; rfl)); rfl) | apply aw_seq | apply a_region | apply go_seq)
    refine aw_condp rfl (fun hk => ?_) (fun hk => ?_)
    · obtain ⟨e, he⟩ : ∃ e, one[i]? = some e := ⟨_, List.getElem?_eq_getElem (by omega)⟩
      have he2 := tsl_get he
      have hadd := AddW_ok lt lm pre most (shr most (l ++ one.take i)) e (wf_shr (hokl one i hok1) hble.1) (hok1 e (List.mem_of_getElem? he)) (by omega)
      rw [add_take he] at hadd
      clear hlast
      repeat' (first | (refine a_draw 11 rfl ?_) | (apply ar_call hadd; rfl; rfl; (focus ((repeat (first | exact Takes.nil | (apply Takes.cons; focus (repeat (first | exact Take.head | apply Take.tail | apply Take.right))))); done)); rfl; rintro _ _ ⟨⟨lm2, pre2, rfl⟩, rfl⟩) | apply ar_nil | (apply ar_ev; (apply ev_move; rfl); rfl) | (apply ar_ev; (first | (apply ev_load_ip_one; rfl; rfl) | (apply ev_fieldAddr_ip; rfl) | (apply ev_assign; rfl) | (apply ev_inc; rfl; exact (by first | omega | assumption)) | (apply ev_indexAddr_sl; rfl; rfl; exact (by first | omega | assumption); exact (by first | rfl | assumption | exact get_map (by assumption)))); rfl) | apply aw_seq | apply a_region | apply aw_block | apply aw_skip | apply go_seq | apply go_block)
      exact go_loop_back ⟨(i + 1, lm2, pre2), by dsimp only; omega, by dsimp only; omega, by dsimp only; exact Sub.of (by repeat (first | exact .nil | refine .cons rfl Le.refl ?_)) (by repeat (first | exact Takes.nil | (apply Takes.cons; focus (repeat (first | exact Take.head | apply Take.tail | apply Take.right)))))⟩
    · obtain rfl : i = one.length := by omega
      rw [List.take_length]
      clear hk hi
      repeat' ((fail_if_success (show AW _ (.region 23 _ _) _ _)); (first | apply ar_nil | (apply ar_ev; (apply ev_assign; rfl); rfl) | apply aw_seq | apply a_region | apply aw_block | apply aw_exit | apply go_seq | apply go_seq_exit | apply go_block_exit | apply go_loop_exit))
      refine a_loop (fun g : Nat × Nat × List (List AV) => ⟨[(1, tsl l), (2, tsl one), (3, tsl two), (4, vi size), (11, vi most), (12, .ptr lt 0 0), (14, .ptr lu 0 0), (17, .ptr lc 0 0), (18, .ptr ld 0 0), (19, tsl (shr most l)), (21, vi g.1)],
          tabT lc g.2.1 g.2.2 most (shr most (l ++ two.take g.1)) ++ (tabT lt lm pre most (shr most (l ++ one)) ++ (tabT lu lmu preu most (shr most l) ++ tabT ld lmd [] most (shr most l)))⟩)
        (fun g => g.1 ≤ two.length) (fun g => two.length - g.1) (0, lmc, []) (by simp only [List.take_zero, List.append_nil]; exact Sub.of (by repeat (first | exact .nil | refine .cons rfl Le.refl ?_)) (by repeat (first | exact Takes.nil | (apply Takes.cons; focus (repeat (first | exact Take.head | apply Take.tail | apply Take.right)))))) (Nat.zero_le _) ?_
      rintro ⟨i, lmc, prec⟩ hi
      dsimp only at *
      repeat' (first | apply ar_nil | (apply ar_ev; (apply ev_move; rfl); rfl) | (apply ar_ev; (first | (apply ev_lss; rfl; rfl) | (apply ev_len_sl; rfl)); rfl) | apply aw_seq | apply a_region | apply go_seq)
      refine aw_condp rfl (fun hk => ?_) (fun hk => ?_)
      · obtain ⟨e, he⟩ : ∃ e, two[i]? = some e := ⟨_, List.getElem?_eq_getElem (by omega)⟩
        have he2 := tsl_get he
        have hadd := AddW_ok lc lmc prec most (shr most (l ++ two.take i)) e (wf_shr (hokl two i hok2) hble.1) (hok2 e (List.mem_of_getElem? he)) (by omega)
        rw [add_take he] at hadd
        clear hlast
        repeat' (first | (refine a_draw 11 rfl ?_) | (apply ar_call hadd; rfl; rfl; (focus ((repeat (first | exact Takes.nil | (apply Takes.cons; focus (repeat (first | exact Take.head | apply Take.tail | apply Take.right))))); done)); rfl; rintro _ _ ⟨⟨lmc2, prec2, rfl⟩, rfl⟩) | apply ar_nil | (apply ar_ev; (apply ev_move; rfl); rfl) | (apply ar_ev; (first | (apply ev_load_ip_one; rfl; rfl) | (apply ev_fieldAddr_ip; rfl) | (apply ev_assign; rfl) | (apply ev_inc; rfl; exact (by first | omega | assumption)) | (apply ev_indexAddr_sl; rfl; rfl; exact (by first | omega | assumption); exact (by first | rfl | assumption | exact get_map (by assumption)))); rfl) | apply aw_seq | apply a_region | apply aw_block | apply aw_skip | apply go_seq | apply go_block)
        exact go_loop_back ⟨(i + 1, lmc2, prec2), by dsimp only; omega, by dsimp only; omega, by dsimp only; exact Sub.of (by repeat (first | exact .nil | refine .cons rfl Le.refl ?_)) (by repeat (first | exact Takes.nil | (apply Takes.cons; focus (repeat (first | exact Take.head | apply Take.tail | apply Take.right)))))⟩
      · obtain rfl : i = two.length := by omega
        rw [List.take_length]
        clear hk hi
        have hrs := Resize_ok ld lmd [] most small (shr most l) (by omega) hw.ok (by have := hw.sum; omega)
        have hwd := hw.shr (m := small) hbls.1
        refine AW.sub (st' := ⟨[(1, tsl l), (2, tsl one), (3, tsl two), (4, vi size), (11, vi most), (12, .ptr lt 0 0), (14, .ptr lu 0 0), (17, .ptr lc 0 0), (18, .ptr ld 0 0), (19, tsl (shr most l))],
          tabT ld lmd [] most (shr most l) ++ (tabT lc lmc prec most (shr most (l ++ two)) ++ (tabT lt lm pre most (shr most (l ++ one)) ++ tabT lu lmu preu most (shr most l)))⟩) (Sub.of (by repeat (first | exact .nil | refine .cons rfl Le.refl ?_)) (by repeat (first | exact Takes.nil | (apply Takes.cons; focus (repeat (first | exact Take.head | apply Take.tail | apply Take.right)))))) ?_
        repeat' ((fail_if_success (show AW _ (.region 28 _ _) _ _)); (first | (apply ar_call hrs; rfl; rfl; exact takes_blk; rfl; rintro _ _ (⟨h, -, -⟩ | ⟨-, ⟨pred, rfl⟩, rfl⟩); exfalso; omega) | apply ar_nil | (apply ar_ev; (apply ev_move; rfl); rfl) | (apply ar_ev; (first | exact ev_call rfl rfl hbs | (apply ev_assign; rfl)); rfl) | apply aw_seq | apply a_region | apply aw_exit | apply go_seq | apply go_seq_exit | apply go_block_exit | apply go_loop_exit))
        refine aw_cv 18 (us := tabT ld lmd pred small (shr small (shr most l))) (y := tabI small (sumE (shr small (shr most l))) (shr small (shr most l))) rfl takes_blk (cv_tab .head (.tail .head)) ?_
        refine aw_cv 17 (us := tabT lc lmc prec most (shr most (l ++ two))) (y := tabI most (sumE (shr most (l ++ two))) (shr most (l ++ two))) rfl takes_blk (cv_tab .head (.tail .head)) ?_
        refine aw_cv 12 (us := tabT lt lm pre most (shr most (l ++ one))) (y := tabI most (sumE (shr most (l ++ one))) (shr most (l ++ one))) rfl takes_blk (cv_tab .head (.tail .head)) ?_
        refine aw_cv 14 (us := tabT lu lmu preu most (shr most l)) (y := tabI most (sumE (shr most l)) (shr most l)) rfl takes_all (cv_tab .head (.tail .head)) ?_
        refine AW.sub (st' := ⟨[(1, tsl l), (2, tsl one), (3, tsl two), (11, vi most), (22, vi small), (23, vi 0), (12, tabI most (sumE (shr most (l ++ one))) (shr most (l ++ one))), (14, tabI most (sumE (shr most l)) (shr most l)), (17, tabI most (sumE (shr most (l ++ two))) (shr most (l ++ two))), (18, tabI small (sumE (shr small (shr most l))) (shr small (shr most l))), (19, tsl (shr most l))], []⟩) (Sub.of (by repeat (first | exact .nil | refine .cons rfl Le.refl ?_)) (by repeat (first | exact Takes.nil | (apply Takes.cons; focus (repeat (first | exact Take.head | apply Take.tail | apply Take.right)))))) ?_
        clear hrs hlast
        have ok1 := hokl one one.length hok1
        have ok2 := hokl two two.length hok2
        rw [List.take_length] at ok1 ok2
        have w1 := wf_shr (mx := most) ok1 hble.1
        have w2 := wf_shr (mx := most) ok2 hble.1
        have s1 := w1.sum
        have s2 := w2.sum
        have s0 := hw.sum
        have s3 := hwd.sum
        have n1 : (l ++ one).length ≤ 1099511627776 := by rw [List.length_append]; omega
        have n2 : (l ++ two).length ≤ 1099511627776 := by rw [List.length_append]; omega
        have q1 := (shr_le most (l ++ one)).2
        have q2 := (shr_le most (l ++ two)).2
        have q3 := (shr_le small (shr most l)).2
        have la1 := last_ok (l ++ one) most n1 ok1 hble
        have la2 := last_ok (l ++ two) most n2 ok2 hble
        have la3 := last_ok (shr most l) small (by omega) hw.ok hbls
        have ho1 := holds_ok most (shr most (l ++ one)) (by omega) w1.ok (by omega)
        have ho2 := holds_ok most (shr most (l ++ two)) (by omega) w2.ok (by omega)
        have ho3 := holds_ok small (shr small (shr most l)) (by omega) hwd.ok (by omega)
        have ho4 := holds_ok most (shr most l) (by omega) hw.ok (by omega)
        have m1 := Max_ok most (sumE (shr most (l ++ one))) (shr most (l ++ one))
        have m2 := Max_ok most (sumE (shr most (l ++ two))) (shr most (l ++ two))
        have m3 := Max_ok small (sumE (shr small (shr most l))) (shr small (shr most l))
        repeat' ((fail_if_success (show AW _ (.region 30 _ _) _ _)); (first | apply ar_nil | (apply ar_ev; (apply ev_move; rfl); rfl) | (apply ar_ev; (apply ev_assign; rfl); rfl) | apply aw_seq | apply a_region | apply go_seq | (apply ar_new; (apply eff_append_nil; rfl; rfl; exact (by first | omega | assumption | (simp; done) | (simp; omega) | exact Nat.le_of_ble_eq_true rfl); exact (by first | omega | assumption | (simp; done) | (simp; omega) | exact Nat.le_of_ble_eq_true rfl)); exact .nil; rfl; intro lab) | (apply ar_append; rfl; (focus ((repeat (first | exact Take.head | apply Take.tail | apply Take.right)); done)); rfl; exact (by first | omega | assumption | (simp; done) | (simp; omega) | exact Nat.le_of_ble_eq_true rfl); exact (by first | omega | assumption | (simp; done) | (simp; omega) | exact Nat.le_of_ble_eq_true rfl); exact (by first | omega | assumption | (simp; done) | (simp; omega) | exact Nat.le_of_ble_eq_true rfl); rfl; intro lab)))
        refine aw_cv 24 (us := [(lab, .row 45 2 (List.take l.length (List.drop 0 (List.take l.length (l.map encT))) ++ List.take one.length (one.map encT)))]) (y := tsl (l ++ one)) rfl (by repeat (first | exact Takes.nil | (apply Takes.cons; focus (repeat (first | exact Take.head | apply Take.tail | apply Take.right))))) (cv_app _ l one .head) ?_
        repeat' ((fail_if_success (show AW _ (.region 32 _ _) _ _)); (first | apply ar_nil | (apply ar_ev; (apply ev_move; rfl); rfl) | (apply ar_ev; (apply ev_assign; rfl); rfl) | apply aw_seq | apply a_region | apply go_seq | (apply ar_new; (apply eff_append_nil; rfl; rfl; exact (by first | omega | assumption | (simp; done) | (simp; omega) | exact Nat.le_of_ble_eq_true rfl); exact (by first | omega | assumption | (simp; done) | (simp; omega) | exact Nat.le_of_ble_eq_true rfl)); exact .nil; rfl; intro lab) | (apply ar_append; rfl; (focus ((repeat (first | exact Take.head | apply Take.tail | apply Take.right)); done)); rfl; exact (by first | omega | assumption | (simp; done) | (simp; omega) | exact Nat.le_of_ble_eq_true rfl); exact (by first | omega | assumption | (simp; done) | (simp; omega) | exact Nat.le_of_ble_eq_true rfl); exact (by first | omega | assumption | (simp; done) | (simp; omega) | exact Nat.le_of_ble_eq_true rfl); rfl; intro lab)))
        refine aw_cv 25 (us := [(lab, .row 45 2 (List.take l.length (List.drop 0 (List.take l.length (l.map encT))) ++ List.take two.length (two.map encT)))]) (y := tsl (l ++ two)) rfl (by repeat (first | exact Takes.nil | (apply Takes.cons; focus (repeat (first | exact Take.head | apply Take.tail | apply Take.right))))) (cv_app _ l two .head) ?_
        refine AW.sub (st' := ⟨[(11, vi most), (22, vi small), (23, vi 0), (12, tabI most (sumE (shr most (l ++ one))) (shr most (l ++ one))), (14, tabI most (sumE (shr most l)) (shr most l)), (17, tabI most (sumE (shr most (l ++ two))) (shr most (l ++ two))), (18, tabI small (sumE (shr small (shr most l))) (shr small (shr most l))), (19, tsl (shr most l)), (24, tsl (l ++ one)), (25, tsl (l ++ two))], []⟩) (Sub.of (by repeat (first | exact .nil | refine .cons rfl Le.refl ?_)) (by repeat (first | exact Takes.nil | (apply Takes.cons; focus (repeat (first | exact Take.head | apply Take.tail | apply Take.right)))))) ?_
        generalize shr small (shr most l) = d3 at *
        generalize shr most (l ++ one) = d1 at *
        generalize shr most (l ++ two) = d2 at *
        generalize shr most l = d0 at *
        repeat' (first | apply ar_nil | (apply ar_ev; (apply ev_move (y := .val (.bool true)); rfl); rfl) | (apply ar_splitp; (apply ev_move; rfl); rfl; all_goals (intro hc; try (exfalso; first | omega | contradiction | (simp at hc; omega) | (simp_all; done)))) | (apply ar_ev; (apply ev_move; rfl); rfl) | (apply ar_ev; (first | (apply ev_assign; rfl) | (apply ev_pick_t; rfl; rfl) | (apply ev_eqip; rfl; rfl)); rfl) | (apply ar_take; rfl; rfl; rfl; (apply ev_move; rfl); rfl) | (apply ar_take; rfl; rfl; rfl; (first | exact ev_call rfl rfl la1 | exact ev_call rfl rfl la2 | exact ev_call rfl rfl la3 | exact ev_call rfl rfl ho1 | exact ev_call rfl rfl ho2 | exact ev_call rfl rfl ho3 | exact ev_call rfl rfl ho4 | exact ev_call rfl rfl m1 | exact ev_call rfl rfl m2 | exact ev_call rfl rfl m3 | (apply ev_eqip; rfl; rfl)); rfl) | apply a_region | apply aw_ret | apply go_seq)
        exact g_ret1 (r_tmp rfl) .nil (by simp)
end Go.Proofs.Ytmenbolalghljaa
