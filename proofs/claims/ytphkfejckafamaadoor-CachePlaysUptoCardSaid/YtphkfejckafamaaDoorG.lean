import Derived.Test.YtphkfejckafamaaDoorF
set_option linter.unusedVariables false
set_option linter.unusedSimpArgs false
set_option maxRecDepth 100000
namespace Go.Proofs.YtphkfejckafamaaDoor
open Go.Proofs Go.Proofs.YtphkfejckafamaaDoorA

theorem pieces_pf (s : ByteArray) (hn : s.size ≤ 1099511627776) : PFn Tryd.prog 46 [vs s] (ssl (nms (bl s))) :=
  pfn_cv (pieces_ok s hn) fun ts r ⟨lab, h1, h2⟩ => by subst h1; subst h2; exact Cv.own0 .head (by simp)

set_option maxHeartbeats 8000000 in
theorem NamesR_ok (r : Rs) (hn : r.fs.length ≤ 1048576) (hv : ∀ f, f ∈ r.fs → f.v.size ≤ 1048580) : FnC Tryd.prog 15 [] [.agg (encR r)] (fun ts v => ∃ lab, ts = [(lab, .row 9 1 ((namesN r.fs).1.map encS))] ∧ v = .tup [.own lab 0 (namesN r.fs).1.length, vb (namesN r.fs).2] ∧ (namesN r.fs).1.length ≤ 1099516870656) := by
  refine fn_of Tryd.func15 rfl Tryd.ntmps15 Tryd.results15 rfl fun G => ?_
  repeat' (first | apply ar_nil | (apply ar_ev; (apply ev_assign; rfl); rfl) | (apply ar_new; (first | apply eff_alloc | (apply eff_box; rfl; exact lies_of rfl) | (apply eff_conv_bytes; rfl; exact (by first | omega | assumption | (simp; done) | (simp; omega) | exact Nat.le_of_ble_eq_true rfl))); exact .nil; rfl; intro lab) | apply aw_seq | apply a_region | apply aw_block | apply go_seq)
  rename Nat => l1
  refine aw_adopt 4 9 1 rfl fun lab => ?_
  skip
  have h0 : ([] : List (List AV)) = ([] : List ByteArray).map encS := rfl
  refine a_loop (fun g : Nat × Nat × List ByteArray × Bool => ⟨[(1, .ptr l1 0 0), (4, .own g.2.1 0 g.2.2.1.length), (5, vb g.2.2.2), (6, vi g.1)], [(l1, .row 24 3 [encR r]), (g.2.1, .row 9 1 (g.2.2.1.map encS))]⟩)
    (fun g => g.1 ≤ r.fs.length ∧ g.2.2 = (r.fs.take g.1).foldl fieldN ([], false) ∧ g.2.2.1.length ≤ g.1 * 1048581) (fun g => r.fs.length - g.1) (0, lab, [], false) (Sub.of (by repeat (first | exact .nil | refine .cons rfl Le.refl ?_)) (by repeat (first | exact Takes.nil | (apply Takes.cons; focus (repeat (first | exact Take.head | exact Take.rowc h0 Take.head | apply Take.tail | apply Take.right)))))) ⟨Nat.zero_le _, rfl, Nat.zero_le _⟩ ?_
  rintro ⟨i, l, ns, st⟩ ⟨hi, hf, hl⟩
  dsimp only at *
  repeat' (first | apply ar_nil | (apply ar_ev; (apply ev_move; rfl); rfl) | (apply ar_ev; (first | (apply ev_load_ptr_one; rfl; (focus ((repeat (first | exact Take.head | apply Take.tail | apply Take.right)); done)); exact (by first | rfl | assumption | exact get_map (by assumption)); rfl) | (apply ev_fieldAddr_ptr; rfl) | (apply ev_lss; rfl; rfl) | (apply ev_len_sl; rfl)); rfl) | apply aw_seq | apply a_region | apply go_seq)
  refine aw_condp rfl (fun hk => ?_) (fun hk => ?_)
  · obtain ⟨f, hfe⟩ : ∃ f, r.fs[i]? = some f := ⟨_, List.getElem?_eq_getElem (by omega)⟩
    have hfe2 := fsl_get hfe
    have hsz := hv _ (List.mem_of_getElem? hfe)
    have hpc := pieces_pf f.v (by omega)
    repeat' (first | apply ar_nil | (apply ar_ev; (apply ev_move; rfl); rfl) | (apply ar_ev; (first | exact ev_call rfl rfl hpc | (apply ev_load_ptr_one; rfl; (focus ((repeat (first | exact Take.head | apply Take.tail | apply Take.right)); done)); exact (by first | rfl | assumption | exact get_map (by assumption)); rfl) | (apply ev_load_ip_one; rfl; rfl) | (apply ev_fieldAddr_ptr; rfl) | (apply ev_fieldAddr_ip; rfl) | (apply ev_assign; rfl) | (apply ev_inc; rfl; exact (by first | omega | assumption)) | (apply ev_nesp; rfl; rfl) | (apply ev_indexAddr_sl; rfl; rfl; exact (by first | omega | assumption); exact (by first | rfl | assumption | exact get_map (by assumption)))); rfl) | apply aw_seq | apply a_region | apply aw_block | apply aw_skip | apply aw_exit | (apply aw_condp; rfl; all_goals (intro hc; try (exfalso; first | omega | contradiction | (simp at hc; omega) | (simp_all; done)))) | apply go_seq | apply go_seq_exit | apply go_block_exit)
    · clear hpc hfe2
      refine go_loop_back ⟨(i + 1, l, ns, st), ⟨by dsimp only; omega, ?_, Nat.le_trans hl (Nat.mul_le_mul_right _ (Nat.le_succ i))⟩, by dsimp only; omega, Sub.of (by repeat (first | exact .nil | refine .cons rfl Le.refl ?_)) (by repeat (first | exact Takes.nil | (apply Takes.cons; focus (repeat (first | exact Take.head | apply Take.tail | apply Take.right)))))⟩
      dsimp only
      rw [foldl_take _ _ hfe, ← hf, fieldN, if_neg hc]
    · have hc := Decidable.not_not.1 hc
      have hp1 : (nms (bl f.v)).length ≤ 1048581 := by
        have h := pieces_len_le 44 (bl f.v)
        rw [bl_length] at h
        rw [List.length_map]
        omega
      clear hpc hfe2
      generalize hNM : nms (bl f.v) = N at *
      refine a_loop (fun g : Nat × Nat × List ByteArray × Bool => ⟨[(1, .ptr l1 0 0), (4, .own g.2.1 0 g.2.2.1.length), (5, vb g.2.2.2), (6, vi i), (7, ssl N), (8, vi g.1)], [(l1, .row 24 3 [encR r]), (g.2.1, .row 9 1 (g.2.2.1.map encS))]⟩)
        (fun g => g.1 ≤ N.length ∧ g.2.2 = (N.take g.1).foldl nstep (ns, st) ∧ g.2.2.1.length ≤ ns.length + g.1) (fun g => N.length - g.1) (0, l, ns, st) (Sub.of (by repeat (first | exact .nil | refine .cons rfl Le.refl ?_)) (by repeat (first | exact Takes.nil | (apply Takes.cons; focus (repeat (first | exact Take.head | apply Take.tail | apply Take.right)))))) ⟨Nat.zero_le _, rfl, Nat.le_refl _⟩ ?_
      rintro ⟨j, l2, ns2, st2⟩ ⟨hj, hf2, hl2⟩
      dsimp only at *
      repeat' (first | apply ar_nil | (apply ar_ev; (apply ev_move; rfl); rfl) | (apply ar_ev; (first | (apply ev_lss; rfl; rfl) | (apply ev_len_sl; rfl)); rfl) | apply aw_seq | apply a_region | apply go_seq)
      refine aw_condp rfl (fun hk2 => ?_) (fun hk2 => ?_)
      · obtain ⟨n, hp⟩ : ∃ n, N[j]? = some n := ⟨_, List.getElem?_eq_getElem (by omega)⟩
        have hp2 := ssl_get hp
        apply aw_skip; apply go_seq; apply aw_seq; apply aw_block; apply aw_seq
        refine aw_join (fun _ : Unit => ⟨[(1, .ptr l1 0 0), (4, .own l2 0 ns2.length), (5, vb st2), (6, vi i), (7, ssl N), (8, vi j), (9, vb (decide (n = es) || decide (n = tStar)))], [(l1, .row 24 3 [encR r]), (l2, .row 9 1 (ns2.map encS))]⟩) (fun _ => True) ?_ ?_
        · repeat' (first | apply ar_nil | (apply ar_splitp; (apply ev_move; rfl); rfl; all_goals (intro hc; try (exfalso; first | omega | contradiction | (simp at hc; omega) | (simp_all; done)))) | (apply ar_ev; (apply ev_move; rfl); rfl) | (apply ar_ev; (first | (apply ev_load_ip_one; rfl; rfl) | (apply ev_assign; rfl) | (apply ev_pick_t; rfl; rfl) | (apply ev_pick_f; rfl; rfl) | (apply ev_eqsp; rfl; rfl) | (apply ev_indexAddr_sl; rfl; rfl; exact (by first | omega | assumption); exact (by first | rfl | assumption | exact get_map (by assumption)))); rfl) | (apply ar_skip; rfl; rfl; rfl; rfl; rfl) | (apply ar_take; rfl; rfl; rfl; (apply ev_move; rfl); rfl) | (apply ar_take; rfl; rfl; rfl; (first | (apply ev_load_ip_one; rfl; rfl) | (apply ev_eqsp; rfl; rfl) | (apply ev_indexAddr_sl; rfl; rfl; exact (by first | omega | assumption); exact (by first | rfl | assumption | exact get_map (by assumption)))); rfl) | apply a_region)
          · refine go_loop_back ⟨(), trivial, ?_⟩
            have e : (decide (n = es) || decide (n = tStar)) = true := by simp [hc]
            rw [e]
            exact Sub.of (by repeat (first | exact .nil | refine .cons rfl Le.refl ?_)) (by repeat (first | exact Takes.nil | (apply Takes.cons; focus (repeat (first | exact Take.head | apply Take.tail | apply Take.right)))))
          · refine go_loop_back ⟨(), trivial, ?_⟩
            have e : (decide (n = es) || decide (n = tStar)) = decide (n = tStar) := by simp [hc]
            rw [e]
            exact Sub.of (by repeat (first | exact .nil | refine .cons rfl Le.refl ?_)) (by repeat (first | exact Takes.nil | (apply Takes.cons; focus (repeat (first | exact Take.head | apply Take.tail | apply Take.right)))))
        rintro _ -
        apply aw_seq
        refine aw_join (fun _ : Unit => ⟨[(1, .ptr l1 0 0), (4, .own l2 0 ns2.length), (5, vb (st2 || decide (n = tStar))), (6, vi i), (7, ssl N), (8, vi j), (9, vb (decide (n = es) || decide (n = tStar)))], [(l1, .row 24 3 [encR r]), (l2, .row 9 1 (ns2.map encS))]⟩) (fun _ => True) ?_ ?_
        · repeat' (first | apply ar_nil | (apply ar_ev; (apply ev_move (y := .val (.bool true)); rfl); rfl) | (apply ar_ev; (apply ev_move (y := .val (.bool false)); rfl); rfl) | (apply ar_split; (apply ev_move; rfl); rfl; all_goals (intro hc; try (exfalso; first | omega | contradiction | (simp at hc; omega) | (simp_all; done)))) | (apply ar_ev; (first | (apply ev_assign; rfl) | (apply ev_pick_t; rfl; rfl) | (apply ev_pick_f; rfl; rfl)); rfl) | (apply ar_skip; rfl; rfl; rfl; rfl; rfl) | (apply ar_take; rfl; rfl; rfl; (apply ev_move; rfl); rfl) | (apply ar_take; rfl; rfl; rfl; (first | (apply ev_load_ip_one; rfl; rfl) | (apply ev_eqsp; rfl; rfl) | (apply ev_indexAddr_sl; rfl; rfl; exact (by first | omega | assumption); exact (by first | rfl | assumption | exact get_map (by assumption)))); rfl) | apply a_region)
          · subst hc; exact go_loop_back ⟨(), trivial, Sub.of (by repeat (first | exact .nil | refine .cons rfl Le.refl ?_)) (by repeat (first | exact Takes.nil | (apply Takes.cons; focus (repeat (first | exact Take.head | apply Take.tail | apply Take.right)))))⟩
          · subst hc; exact go_loop_back ⟨(), trivial, Sub.of (by repeat (first | exact .nil | refine .cons rfl Le.refl ?_)) (by repeat (first | exact Takes.nil | (apply Takes.cons; focus (repeat (first | exact Take.head | apply Take.tail | apply Take.right)))))⟩
        rintro _ -
        generalize hB : (decide (n = es) || decide (n = tStar)) = B at *
        generalize hS : (st2 || decide (n = tStar)) = S at *
        repeat' (first | apply ar_nil | (apply ar_ev; (apply ev_assign; rfl); rfl) | apply aw_seq | apply a_region | apply aw_block | apply go_seq)
        refine a_loop (fun k : Nat => ⟨[(1, .ptr l1 0 0), (4, .own l2 0 ns2.length), (5, vb S), (6, vi i), (7, ssl N), (8, vi j), (9, vb (B || decide (n ∈ ns2.take k))), (10, vi k)], [(l1, .row 24 3 [encR r]), (l2, .row 9 1 (ns2.map encS))]⟩) (fun k => k ≤ ns2.length) (fun k => ns2.length - k) 0 (by rw [List.take_zero, decide_eq_false (by simp), Bool.or_false]; exact Sub.of (by repeat (first | exact .nil | refine .cons rfl Le.refl ?_)) (by repeat (first | exact Takes.nil | (apply Takes.cons; focus (repeat (first | exact Take.head | apply Take.tail | apply Take.right)))))) (Nat.zero_le _) ?_
        rintro k hkl
        repeat' (first | apply ar_nil | (apply ar_ev; (apply ev_move; rfl); rfl) | (apply ar_ev; (first | (apply ev_lss; rfl; rfl) | (apply ev_len_own; rfl)); rfl) | apply aw_seq | apply a_region | apply go_seq)
        refine aw_condp rfl (fun hk3 => ?_) (fun hk3 => ?_)
        · obtain ⟨m, hm⟩ : ∃ m, ns2[k]? = some m := ⟨_, List.getElem?_eq_getElem (by omega)⟩
          have hm2 := ssl_get hm
          have hmem : n ∈ ns2.take (k + 1) ↔ n ∈ ns2.take k ∨ n = m := by rw [List.take_add_one, hm]; simp
          generalize hC : (B || decide (n ∈ ns2.take k)) = C at *
          repeat' (first | apply aw_seq | apply aw_block | apply aw_skip | apply go_seq)
          refine a_mix [true, true, true, true, true, true, true, true, true, true, true, true, true] [0, 1, 2, 3, 4, 5, 6, 7, 8, 9, 10, 11, 12] (by kernel_rfl) (by repeat (first | exact Als.nil | (apply Als.al; rfl) | (apply Als.other; rfl))) Takes.nil ?_
          repeat' (first | apply ar_nil | (apply ar_ev; (apply ev_move; rfl); rfl) | (apply ar_ev; (first | (apply ev_assign; rfl) | (apply ev_inc; rfl; exact (by first | omega | assumption))); rfl) | apply a_region | apply go_seq | apply go_block | apply tl_nil | (apply tl_ev; rfl; rfl; (apply ev_move (y := .val (.bool true)); rfl); rfl) | (apply tl_ev; rfl; rfl; (apply ev_move (y := .val (.bool false)); rfl); rfl) | (apply tl_split; rfl; rfl; (apply ev_move; rfl); rfl; all_goals (intro hc; try (exfalso; first | omega | contradiction | (simp at hc; omega) | (simp_all; done)))) | (apply tl_ev; rfl; rfl; (first | (apply ev_assign; rfl) | (apply ev_pick_t; rfl; rfl) | (apply ev_pick_f; rfl; rfl)); rfl) | (apply tl_skip; rfl; rfl; rfl; rfl; rfl; rfl; rfl) | (apply tl_take; rfl; rfl; rfl; rfl; rfl; (apply ev_move; rfl); rfl) | (apply tl_take; rfl; rfl; rfl; rfl; rfl; (first | (apply ev_load_ptr_one; rfl; (focus ((repeat (first | exact Take.head | apply Take.tail | apply Take.right)); done)); exact (by first | rfl | assumption | exact get_map (by assumption)); rfl) | (apply ev_load_ip_one; rfl; rfl) | (apply ev_eqsp; rfl; rfl) | (apply ev_indexAddr_sl; rfl; rfl; exact (by first | omega | assumption); exact (by first | rfl | assumption | exact get_map (by assumption))) | (apply ev_indexAddr_own0; rfl; rfl; exact (by first | omega | assumption); (focus ((repeat (first | exact Take.head | apply Take.tail | apply Take.right)); done)))); rfl))
          · have e : (B || decide (n ∈ ns2.take (k + 1))) = true := by
              rw [hc] at hC
              simp only [Bool.or_eq_true, decide_eq_true_iff, hmem] at hC ⊢
              rcases hC with h | h
              · exact .inl h
              · exact .inr (.inl h)
            refine go_loop_back ⟨k + 1, by omega, by omega, ?_⟩
            rw [e]
            exact Sub.of (by repeat (first | exact .nil | refine .cons rfl Le.refl ?_)) (by repeat (first | exact Takes.nil | (apply Takes.cons; focus (repeat (first | exact Take.head | apply Take.tail | apply Take.right)))))
          · have e : (B || decide (n ∈ ns2.take (k + 1))) = decide (m = n) := by
              rw [hc] at hC
              simp only [Bool.or_eq_false_iff, decide_eq_false_iff_not] at hC
              rw [hC.1, Bool.false_or, decide_eq_decide, hmem]
              exact ⟨fun h => h.elim (fun h => absurd h hC.2) Eq.symm, fun h => .inr h.symm⟩
            refine go_loop_back ⟨k + 1, by omega, by omega, ?_⟩
            rw [e]
            exact Sub.of (by repeat (first | exact .nil | refine .cons rfl Le.refl ?_)) (by repeat (first | exact Takes.nil | (apply Takes.cons; focus (repeat (first | exact Take.head | apply Take.tail | apply Take.right)))))
        · obtain rfl : k = ns2.length := by omega
          rw [List.take_length]
          have hstep : (N.take (j + 1)).foldl nstep (ns, st) = nstep (ns2, st2) n := by rw [foldl_take _ _ hp, ← hf2]
          generalize hC : (B || decide (n ∈ ns2)) = C at *
          repeat' (first | apply ar_nil | (apply ar_split; (apply ev_move; rfl); rfl; all_goals (intro hc; try (exfalso; first | omega | contradiction | (simp at hc; omega) | (simp_all; done)))) | (apply ar_ev; (apply ev_move; rfl); rfl) | (apply ar_ev; (first | (apply ev_load_ip_one; rfl; rfl) | (apply ev_assign; rfl) | (apply ev_inc; rfl; exact (by first | omega | assumption)) | (apply ev_not; rfl) | (apply ev_indexAddr_sl; rfl; rfl; exact (by first | omega | assumption); exact (by first | rfl | assumption | exact get_map (by assumption))) | (apply ev_buildSlice; rfl; rfl; rfl; rfl; rfl; rfl; rfl)); rfl) | apply aw_seq | apply a_region | apply aw_skip | apply aw_exit | (apply aw_cond_t; rfl) | (apply aw_cond_f; rfl) | apply go_seq | apply go_seq_exit | apply go_block | apply go_block_exit | apply go_loop_exit | (apply ar_append; rfl; (focus ((repeat (first | exact Take.head | apply Take.tail | apply Take.right)); done)); rfl; exact (by first | omega | assumption | (simp; done) | (simp; omega) | exact Nat.le_of_ble_eq_true rfl); exact (by first | omega | assumption | (simp; done) | (simp; omega) | exact Nat.le_of_ble_eq_true rfl); exact (by first | omega | assumption | (simp; done) | (simp; omega) | exact Nat.le_of_ble_eq_true rfl); rfl; intro lab))
          · refine go_loop_back ⟨(j + 1, l2, ns2, S), ⟨by dsimp only; omega, ?_, by dsimp only; omega⟩, by dsimp only; omega, Sub.of (by repeat (first | exact .nil | refine .cons rfl Le.refl ?_)) (by repeat (first | exact Takes.nil | (apply Takes.cons; focus (repeat (first | exact Take.head | apply Take.tail | apply Take.right)))))⟩
            dsimp only
            rw [hstep, nstep]
            rw [hc, ← hB] at hC
            by_cases h1 : n = tStar
            · rw [if_pos h1, ← hS]; simp [h1]
            · have h2 : ¬ (n ≠ es ∧ n ∉ ns2) := by
                rintro ⟨h2, h3⟩
                simp [h1, h2, h3] at hC
              rw [if_neg h1, if_neg h2, ← hS]; simp [h1]
          · rw [hc, ← hB] at hC
            have h1 : ¬ n = tStar := fun h => by simp [h] at hC
            have h2 : n ≠ es := fun h => by simp [h] at hC
            have h3 : n ∉ ns2 := fun h => by simp [h] at hC
            have hrow := hrowS ns2 n
            refine go_loop_back ⟨(j + 1, _, ns2 ++ [n], S), ⟨by dsimp only; omega, ?_, by dsimp only; rw [List.length_append, List.length_singleton]; omega⟩, by dsimp only; omega, by dsimp only; rw [List.length_append, List.length_singleton]; exact Sub.of (by repeat (first | exact .nil | refine .cons rfl Le.refl ?_)) (by repeat (first | exact Takes.nil | (apply Takes.cons; focus (repeat (first | exact Take.head | exact Take.rowc hrow Take.head | apply Take.tail | apply Take.right)))))⟩
            dsimp only
            rw [hstep, nstep, if_neg h1, if_pos ⟨h2, h3⟩, ← hS]; simp [h1]
      · obtain rfl : j = N.length := by omega
        repeat' (first | apply ar_nil | (apply ar_ev; (apply ev_move; rfl); rfl) | (apply ar_ev; (first | (apply ev_assign; rfl) | (apply ev_inc; rfl; exact (by first | omega | assumption))); rfl) | apply a_region | apply aw_exit | apply go_seq | apply go_seq_exit | apply go_block | apply go_block_exit | apply go_loop_exit)
        refine go_loop_back ⟨(i + 1, l2, ns2, st2), ⟨by dsimp only; omega, ?_, by dsimp only; omega⟩, by dsimp only; omega, Sub.of (by repeat (first | exact .nil | refine .cons rfl Le.refl ?_)) (by repeat (first | exact Takes.nil | (apply Takes.cons; focus (repeat (first | exact Take.head | apply Take.tail | apply Take.right)))))⟩
        dsimp only
        rw [foldl_take _ _ hfe, ← hf, fieldN, if_pos hc, hf2, hNM, List.take_length]
  · obtain rfl : i = r.fs.length := by omega
    rw [List.take_length] at hf
    have hf3 : namesN r.fs = (ns, st) := hf.symm
    repeat' (first | apply ar_nil | (apply ar_ev; (apply ev_move; rfl); rfl) | (apply ar_ev; (apply ev_assign; rfl); rfl) | apply aw_seq | apply a_region | apply aw_exit | apply aw_ret | apply go_seq | apply go_seq_exit | apply go_block_exit | apply go_loop_exit)
    rw [hf3]
    exact g_ret2 (r_tmp rfl) (r_tmp rfl) (.cons (by repeat (first | exact Take.head | apply Take.tail | apply Take.right)) .nil) ⟨_, rfl, rfl, by dsimp only; omega⟩
end Go.Proofs.YtphkfejckafamaaDoor
