import Derived.Test.YtinojkkjcignhaaO
set_option linter.unusedVariables false
set_option linter.unusedSimpArgs false
set_option maxRecDepth 100000
namespace Go.Proofs.Ytinojkkjcignhaa
open Go.Proofs Go.Proofs.YtinojkkjcignhaaA

theorem made_ps (f : Frame) : (made f).ps = f.ps := rfl
set_option maxHeartbeats 4000000 in
theorem BlockBack_ok (f : Frame) (b : ByteArray) (size : Int) (hd : f.data.size ≤ 1048576) (hp : f.ps.length ≤ 1048576) (hb : b.size ≤ 1048576) : PFn Try.prog 5 [.agg (encF f), vs b, vi size] (vb true) := by
  refine fn_of Try.func5 rfl Try.ntmps5 Try.results5 rfl fun G => ?_
  have hst : 0 ≤ andI f.stream 1048575 ∧ andI f.stream 1048575 ≤ 1048575 := andI_range f.stream 1048575 (by decide)
  have hsz : 0 ≤ andI size 32767 ∧ andI size 32767 ≤ 32767 := andI_range size 32767 (by decide)
  obtain ⟨q1, q2, q3, q4, q5, q6, q7⟩ := made_facts f
  have hme := made_err f b (16384 + andI size 32767) (by omega) (by omega)
  have hmp : (made f).ps.length ≤ 1048576 := hp
  repeat' (first | apply ar_nil | (apply ar_ev; (apply ev_move; rfl); rfl) | (apply ar_ev; (first | exact ev_call rfl rfl (made_ok f (by omega) hst.1 hst.2) | (apply ev_assign; rfl) | (apply ev_load_ptr_agg; rfl; (focus ((repeat (first | exact Take.head | apply Take.tail | apply Take.right)); done)); exact (by first | rfl | assumption | exact get_map (by assumption)); exact Nat.le_of_ble_eq_true rfl) | (apply ev_add; rfl; rfl; exact (by first | omega | assumption); exact (by first | omega | assumption)) | (apply ev_andI; rfl; rfl)); rfl) | (apply ar_new; (first | apply eff_alloc | (apply eff_box; rfl; exact lies_of rfl)); exact .nil; rfl; intro lab) | (apply ar_store; rfl; (focus ((repeat (first | exact Take.head | apply Take.tail | apply Take.right)); done)); rfl; rfl; exact (by first | rfl | assumption | exact get_map (by assumption)); rfl; rfl) | apply aw_seq | apply a_region | apply go_seq)
  generalize hs : 16384 + andI size 32767 = s at *
  have hs1 : 16384 ≤ s := by omega
  have hs2 : s ≤ 65536 := by omega
  clear hsz hs
  generalize made f = h at *
  repeat' (first | (apply ar_ev; (apply ev_move; rfl); rfl) | (apply ar_ev; exact ev_call rfl rfl (own_ok h (by omega)); rfl))
  apply ar_call (Split_ok h b s (by omega) (by omega)); rfl; rfl; (focus ((repeat (first | exact Takes.nil | (apply Takes.cons; focus (repeat (first | exact Take.head | apply Take.tail | apply Take.right))))); done)); rfl
  rintro _ _ (⟨h0, rfl, rfl⟩ | ⟨h0, l1, lp1, rfl, rfl⟩)
  · have hbig : b.size > 131072 := by
      rw [hme] at h0
      by_cases hb2 : b.size > 131072
      · exact hb2
      · rw [if_neg hb2] at h0; exact absurd rfl h0
    rw [hme, if_pos hbig]
    repeat' (first | apply ar_nil | (apply ar_splitp; (apply ev_move; rfl); rfl; all_goals (intro hc; try (exfalso; first | omega | contradiction | (simp at hc; omega) | (simp_all; done)))) | (apply ar_ev; (apply ev_move; rfl); rfl) | (apply ar_ev; (first | (apply ev_assign; rfl) | (apply ev_pick_t; rfl; rfl) | (apply ev_eqip; rfl; rfl) | (apply ev_gtr; rfl; rfl) | (apply ev_len_str; rfl) | (apply ev_extract; rfl; rfl)); rfl) | (apply ar_take; rfl; rfl; rfl; (apply ev_move; rfl); rfl) | (apply ar_take; rfl; rfl; rfl; (first | exact ev_call rfl rfl first_ok | (apply ev_eqip; rfl; rfl) | (apply ev_len_val; rfl)); rfl) | apply aw_seq | apply a_region | apply aw_ret | (apply aw_condp; rfl; all_goals (intro hc; try (exfalso; first | omega | contradiction | (simp at hc; omega) | (simp_all; done)))) | apply go_seq | apply go_seq_ret)
    exact g_ret1 (r_tmp rfl) .nil rfl
  · have hsm : b.size ≤ 131072 := by
      rw [hme] at h0
      by_cases hb2 : b.size > 131072
      · rw [if_pos hb2] at h0; cases h0
      · omega
    clear hme
    repeat' (first | apply ar_nil | (apply ar_ev; (apply ev_move; rfl); rfl) | (apply ar_ev; (first | (apply ev_assign; rfl) | (apply ev_gtr; rfl; rfl) | (apply ev_len_str; rfl) | (apply ev_extract; rfl; rfl)); rfl) | apply aw_seq | apply a_region | apply go_seq)
    rename_i l3
    obtain ⟨f0, r0, hF, hps, hr0, hlen⟩ := splitF_shape h b s
    have hcv : Cv [(l1, .row 30 11 (rowS (.own lp1 0 h.ps.length) (splitF h b s))), (lp1, .row 42 2 (h.ps.map encP))] (.own l1 0 (splitF h b s).length) (fsl (splitF h b s)) := by
      rw [hF]
      exact Cv.ownr .head (by simp [rowS]) (cvr_rowS (by rw [hps]; exact Cv.own0 (.tail .head) (by simp)) hr0)
    refine aw_condp rfl (fun hk => absurd hk (by omega)) (fun hk => ?_)
    repeat' (first | apply aw_seq | apply a_region | apply aw_skip | apply go_seq)
    apply ar_call NewJ_ok; rfl; rfl; (focus ((repeat (first | exact Takes.nil | (apply Takes.cons; focus (repeat (first | exact Take.head | apply Take.tail | apply Take.right))))); done)); rfl; rintro tj _ ⟨lj, hj, rfl⟩
    have hN : 1 ≤ (splitF h b s).length := by rw [hF]; simp
    have hNb : (splitF h b s).length ≤ 1048577 := by rw [hF]; simp; omega
    repeat' (first | apply ar_nil | (apply ar_splitp; (apply ev_move; rfl); rfl; all_goals (intro hc; try (exfalso; first | omega | contradiction | (simp at hc; omega) | (simp_all; done)))) | (apply ar_ev; (apply ev_move (y := .val (.bool false)); rfl); rfl) | (apply ar_ev; (apply ev_move; rfl); rfl) | (apply ar_ev; (first | (apply ev_assign; rfl) | (apply ev_pick_f; rfl; rfl) | (apply ev_neip; rfl; rfl)); rfl) | (apply ar_take; rfl; rfl; rfl; (apply ev_move; rfl); rfl) | (apply ar_take; rfl; rfl; rfl; (first | exact ev_call rfl rfl first_ok | (apply ev_lss; rfl; rfl) | (apply ev_eqnil_p; rfl; rfl) | (apply ev_len_own; rfl) | (apply ev_not; rfl)); rfl) | apply aw_seq | apply a_region | apply aw_block | apply aw_skip | (apply aw_cond_f; rfl) | apply go_seq)
    refine aw_cv 9 rfl (by repeat (first | exact Takes.nil | (apply Takes.cons; focus (repeat (first | exact Take.head | apply Take.tail | apply Take.right))))) hcv ?_
    have hxps : ∀ (i : Nat) (x : Frame), (splitF h b s)[i]? = some x → x.ps.length ≤ 1048576 := by
      intro i x hx
      have hm := List.mem_of_getElem? hx
      rw [hF] at hm
      rcases List.mem_cons.1 hm with rfl | hm
      · rw [hps]; exact hmp
      · rw [hr0 x hm]; exact Nat.zero_le _
    have hstep : ∀ (i : Nat) (j : JS), i < (splitF h b s).length → BInv h b s (splitF h b s) i j → ∃ x, BStep h b s (splitF h b s) (splitF h b s).length i x j := fun i j hi hj => bstep q1 q2 q3 q5 q6 hs1 hs2 hsm hi hj
    clear hcv hF hps hr0 hlen
    generalize splitF h b s = F at *
    refine a_loop (fun g : Nat × JS × List (Nat × Tok) × Frame => ⟨[(1, vs b), (7, .ptr lab 0 0), (8, vi s), (9, fsl F), (11, .ptr lj 0 0), (12, vi g.1)], g.2.2.1 ++ [(lab, .row 30 11 [encF g.2.2.2])]⟩)
      (fun g => g.1 ≤ F.length ∧ (g.1 < F.length → JAt lj g.2.1 g.2.2.1 ∧ BInv h b s F g.1 g.2.1 ∧ g.2.2.2 = h)) (fun g => F.length - g.1) (0, jIdle 0 0, tj, h) (Sub.of (by repeat (first | exact .nil | refine .cons rfl Le.refl ?_)) (by repeat (first | exact Takes.nil | exact takes_blk | exact takes_all | (apply takes_app; focus (repeat (first | exact takes_blk | exact takes_all | apply takes_right | apply takes_skip))) | (apply takes_cons; focus (repeat (first | exact Take.head | apply Take.tail | apply Take.right))) | apply takes_right | apply takes_skip))) ⟨Nat.zero_le _, fun _ => ⟨hj, .inl ⟨rfl, rfl⟩, rfl⟩⟩ ?_
    clear hj tj
    rintro ⟨i, j, tj, hh⟩ ⟨hi, hI⟩
    dsimp only at hi hI ⊢
    repeat' (first | apply ar_nil | (apply ar_ev; (apply ev_move; rfl); rfl) | (apply ar_ev; (first | (apply ev_lss; rfl; rfl) | (apply ev_len_sl; rfl)); rfl) | apply aw_seq | apply a_region | apply go_seq)
    refine aw_condp rfl (fun hk2 => ?_) (fun hk2 => ?_)
    · obtain ⟨hj, hB, rfl⟩ := hI (by omega)
      obtain ⟨x, hx, x1, x2, x3, x4, x5, x6, x7, x8, x9, x10, x11⟩ := hstep i j (by omega) hB
      have hxp := hxps i x hx
      have hpay := payload_ok x x1 x2 (by omega)
      have hpush := push_ok lj j tj hj x (by omega) (by omega)
      clear hstep hxps hI hB
      repeat' (first | apply ar_nil | (apply ar_splitp; (apply ev_move; rfl); rfl; all_goals (intro hc; try (exfalso; first | omega | contradiction | (simp at hc; omega) | (simp_all; done)))) | (apply ar_ev; (apply ev_move (y := .val (.bool false)); rfl); rfl) | (apply ar_split; (apply ev_move; rfl); rfl; all_goals (intro hc; try (exfalso; first | omega | contradiction | (simp at hc; omega) | (simp_all; done)))) | (apply ar_ev; (apply ev_move; rfl); rfl) | (apply ar_ev; (first | exact ev_call rfl rfl hpay | (apply ev_pick_f; rfl; rfl) | (apply ev_load_ptr_agg; rfl; (focus ((repeat (first | exact Take.head | apply Take.tail | apply Take.right)); done)); exact (by first | rfl | assumption | exact get_map (by assumption)); exact Nat.le_of_ble_eq_true rfl) | (apply ev_load_ip_agg; rfl; exact Nat.le_of_ble_eq_true rfl) | (apply ev_gtr; rfl; rfl) | (apply ev_indexAddr_sl; rfl; rfl; exact (by first | omega | assumption); exact (by first | rfl | assumption | exact get_map (by assumption)))); rfl) | (apply ar_new; (first | apply eff_alloc | (apply eff_box; rfl; exact lies_of rfl)); exact .nil; rfl; intro lab) | (apply ar_store; rfl; (focus ((repeat (first | exact Take.head | apply Take.tail | apply Take.right)); done)); rfl; rfl; exact (by first | rfl | assumption | exact get_map (by assumption)); rfl; rfl) | (apply ar_skip; rfl; rfl; rfl; rfl; rfl) | (apply ar_tsplitp; rfl; rfl; rfl; (apply ev_move; rfl); rfl; all_goals (intro hc; try (exfalso; first | omega | contradiction | (simp at hc; omega) | (simp_all; done)))) | (apply ar_take; rfl; rfl; rfl; (apply ev_move (y := .val (.bool false)); rfl); rfl) | (apply ar_take; rfl; rfl; rfl; (apply ev_move; rfl); rfl) | (apply ar_take; rfl; rfl; rfl; (first | exact ev_call rfl rfl hpay | (apply ev_load_ptr_one; rfl; (focus ((repeat (first | exact Take.head | apply Take.tail | apply Take.right)); done)); exact (by first | rfl | assumption | exact get_map (by assumption)); rfl) | (apply ev_fieldAddr_ptr; rfl) | (apply ev_pick_t; rfl; rfl) | (apply ev_pick_f; rfl; rfl) | (apply ev_load_ptr_agg; rfl; (focus ((repeat (first | exact Take.head | apply Take.tail | apply Take.right)); done)); exact (by first | rfl | assumption | exact get_map (by assumption)); exact Nat.le_of_ble_eq_true rfl) | (apply ev_eqip; rfl; rfl) | (apply ev_neip; rfl; rfl) | (apply ev_lss; rfl; rfl) | (apply ev_gtr; rfl; rfl) | (apply ev_sub; rfl; rfl; exact (by first | omega | assumption); exact (by first | omega | assumption)) | (apply ev_andI; rfl; rfl) | (apply ev_neb; rfl; rfl) | (apply ev_len_sl; rfl) | (apply ev_len_str; rfl)); rfl) | apply aw_seq | apply a_region | apply aw_block | apply aw_skip | (apply aw_condp; rfl; all_goals (intro hc; try (exfalso; first | omega | contradiction | (simp at hc; omega) | (simp_all; done)))) | (apply aw_cond_f; rfl) | apply go_seq)
      all_goals
        apply ar_call hpush; rfl; rfl; (focus ((repeat (first | exact takes_blk | exact takes_all | apply takes_right | apply takes_skip)); done)); rfl; rintro tj2 _ ⟨hj2, rfl⟩
        rcases x11 with ⟨y1, y2, y3, y4⟩ | ⟨y1, y2, fl, y3, y4⟩
        · have hbz := BusyJ_ok hj2
          rw [y3] at hbz
          rw [y2]
          dsimp only [none0, ansV]
          repeat' (first | (apply ar_tcall hbz; rfl; rfl; rfl; rfl; rfl; (focus ((repeat (first | exact takes_blk | exact takes_all | apply takes_right | apply takes_skip)); done)); rfl; rintro ts1 _ ⟨he, rfl⟩; rw [he]; clear he) | apply ar_nil | (apply ar_ev; (apply ev_move (y := .val (.bool false)); rfl); rfl) | (apply ar_split; (apply ev_move; rfl); rfl; all_goals (intro hc; try (exfalso; first | omega | contradiction | (simp at hc; omega) | (simp_all; done)))) | (apply ar_ev; (apply ev_move; rfl); rfl) | (apply ar_ev; (first | (apply ev_assign; rfl) | (apply ev_pick_f; rfl; rfl) | (apply ev_load_ptr_agg; rfl; (focus ((repeat (first | exact Take.head | apply Take.tail | apply Take.right)); done)); exact (by first | rfl | assumption | exact get_map (by assumption)); exact Nat.le_of_ble_eq_true rfl) | (apply ev_inc; rfl; exact (by first | omega | assumption)) | (apply ev_net; rfl; rfl; rfl; rfl; rfl; rfl) | (apply ev_not; rfl) | (apply ev_extract; rfl; rfl) | (apply ev_build; rfl; rfl; rfl)); rfl) | (apply ar_new; (first | apply eff_alloc | (apply eff_box; rfl; exact lies_of rfl)); exact .nil; rfl; intro lab) | (apply ar_store; rfl; (focus ((repeat (first | exact Take.head | apply Take.tail | apply Take.right)); done)); rfl; rfl; exact (by first | rfl | assumption | exact get_map (by assumption)); rfl; rfl) | (apply ar_take; rfl; rfl; rfl; (apply ev_move (y := .val (.bool false)); rfl); rfl) | (apply ar_take; rfl; rfl; rfl; (apply ev_move; rfl); rfl) | (apply ar_take; rfl; rfl; rfl; (first | (apply ev_eqip; rfl; rfl) | (apply ev_sub; rfl; rfl; exact (by first | omega | assumption); exact (by first | omega | assumption)) | (apply ev_eqb; rfl; rfl) | (apply ev_neb; rfl; rfl) | (apply ev_len_sl; rfl)); rfl) | apply aw_seq | apply a_region | apply aw_skip | apply aw_exit | (apply aw_condp; rfl; all_goals (intro hc; try (exfalso; first | omega | contradiction | (simp at hc; omega) | (simp_all; done)))) | (apply aw_cond_t; rfl) | apply go_seq | apply go_seq_exit | apply go_block_exit)
          all_goals exact go_loop_back ⟨(i + 1, (push j x).1, tj2, hh), ⟨by dsimp only; omega, fun _ => ⟨hj2, y4, rfl⟩⟩, by dsimp only; omega, Sub.of (by repeat (first | exact .nil | refine .cons rfl Le.refl ?_)) (by repeat (first | exact Takes.nil | exact takes_blk | exact takes_all | (apply takes_app; focus (repeat (first | exact takes_blk | exact takes_all | apply takes_right | apply takes_skip))) | (apply takes_cons; focus (repeat (first | exact Take.head | apply Take.tail | apply Take.right))) | apply takes_right | apply takes_skip))⟩
        · have hbz := BusyJ_ok hj2
          rw [y2] at hbz
          rw [y3]
          dsimp only [none0, ansV]
          have hsm2 := same_self { hh with flags := nandI hh.flags 4 } (by dsimp only; omega)
          repeat' (first | (apply ar_tcall hbz; rfl; rfl; rfl; rfl; rfl; (focus ((repeat (first | exact takes_blk | exact takes_all | apply takes_right | apply takes_skip)); done)); rfl; rintro ts1 _ ⟨he, rfl⟩; rw [he]; clear he) | apply ar_nil | (apply ar_splitp; (apply ev_move; rfl); rfl; all_goals (intro hc; try (exfalso; first | omega | contradiction | (simp at hc; omega) | (simp_all; done)))) | (apply ar_ev; (apply ev_move (y := .val (.bool true)); rfl); rfl) | (apply ar_ev; (apply ev_move (y := .val (.bool false)); rfl); rfl) | (apply ar_split; (apply ev_move; rfl); rfl; all_goals (intro hc; try (exfalso; first | omega | contradiction | (simp at hc; omega) | (simp_all; done)))) | (apply ar_ev; (apply ev_move; rfl); rfl) | (apply ar_ev; (first | (apply ev_load_ptr_one; rfl; (focus ((repeat (first | exact Take.head | apply Take.tail | apply Take.right)); done)); exact (by first | rfl | assumption | exact get_map (by assumption)); rfl) | (apply ev_fieldAddr_ptr; rfl) | (apply ev_assign; rfl) | (apply ev_pick_f; rfl; rfl) | (apply ev_load_ptr_agg; rfl; (focus ((repeat (first | exact Take.head | apply Take.tail | apply Take.right)); done)); exact (by first | rfl | assumption | exact get_map (by assumption)); exact Nat.le_of_ble_eq_true rfl) | (apply ev_nandI; rfl; rfl) | (apply ev_nesp; rfl; rfl) | (apply ev_net; rfl; rfl; rfl; rfl; rfl; rfl) | (apply ev_not; rfl) | (apply ev_extract; rfl; rfl) | (apply ev_build; rfl; rfl; rfl)); rfl) | (apply ar_new; (first | apply eff_alloc | (apply eff_box; rfl; exact lies_of rfl)); exact .nil; rfl; intro lab) | (apply ar_store1; rfl; (focus ((repeat (first | exact Take.head | apply Take.tail | apply Take.right)); done)); rfl; rfl; exact (by first | rfl | assumption | exact get_map (by assumption)); rfl) | (apply ar_store; rfl; (focus ((repeat (first | exact Take.head | apply Take.tail | apply Take.right)); done)); rfl; rfl; exact (by first | rfl | assumption | exact get_map (by assumption)); rfl; rfl) | (apply ar_take; rfl; rfl; rfl; (apply ev_move (y := .val (.bool true)); rfl); rfl) | (apply ar_take; rfl; rfl; rfl; (apply ev_move; rfl); rfl) | (apply ar_take; rfl; rfl; rfl; (first | (apply ev_load_ptr_agg; rfl; (focus ((repeat (first | exact Take.head | apply Take.tail | apply Take.right)); done)); exact (by first | rfl | assumption | exact get_map (by assumption)); exact Nat.le_of_ble_eq_true rfl) | (apply ev_eqip; rfl; rfl) | (apply ev_sub; rfl; rfl; exact (by first | omega | assumption); exact (by first | omega | assumption)) | (apply ev_eqb; rfl; rfl) | (apply ev_neb; rfl; rfl) | (apply ev_len_sl; rfl)); rfl) | apply aw_seq | apply a_region | apply aw_skip | (apply aw_condp; rfl; all_goals (intro hc; try (exfalso; first | omega | contradiction | (simp at hc; omega) | (simp_all; done)))) | (apply aw_cond_f; rfl) | apply go_seq)
          all_goals
            dsimp only
            rw [y4]
            repeat' (first | apply ar_nil | (apply ar_ev; (apply ev_move; rfl); rfl) | (apply ar_ev; (first | (apply ev_assign; rfl) | (apply ev_pick_f; rfl; rfl) | (apply ev_inc; rfl; exact (by first | omega | assumption))); rfl) | (apply ar_take; rfl; rfl; rfl; (first | exact ev_call rfl rfl hsm2 | (apply ev_not; rfl)); rfl) | apply a_region | apply aw_skip | (apply aw_cond_f; rfl) | apply go_seq | apply go_block)
          all_goals exact go_loop_back ⟨(i + 1, jIdle 0 0, tj2, { hh with flags := nandI hh.flags 4 }), ⟨by dsimp only; omega, fun h => absurd h (by dsimp only; omega)⟩, by dsimp only; omega, Sub.of (by repeat (first | exact .nil | refine .cons rfl Le.refl ?_)) (by repeat (first | exact Takes.nil | exact takes_blk | exact takes_all | (apply takes_app; focus (repeat (first | exact takes_blk | exact takes_all | apply takes_right | apply takes_skip))) | (apply takes_cons; focus (repeat (first | exact Take.head | apply Take.tail | apply Take.right))) | apply takes_right | apply takes_skip))⟩
    · repeat' (first | apply ar_nil | (apply ar_ev; (apply ev_assign; rfl); rfl) | apply aw_seq | apply a_region | apply aw_exit | apply aw_ret | apply go_seq | apply go_seq_exit | apply go_block_exit | apply go_loop_exit)
      exact g_ret1 (r_tmp rfl) .nil rfl
end Go.Proofs.Ytinojkkjcignhaa
