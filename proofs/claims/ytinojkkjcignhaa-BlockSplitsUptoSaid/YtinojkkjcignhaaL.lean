import Derived.Test.YtinojkkjcignhaaK
set_option linter.unusedVariables false
set_option linter.unusedSimpArgs false
set_option maxRecDepth 100000
namespace Go.Proofs.Ytinojkkjcignhaa
open Go.Proofs Go.Proofs.YtinojkkjcignhaaA

@[simp] theorem eqVs_flt (a b : Int) : eqVs [.int .i64 a, .int .i64 b] [.int .i64 a, .int .i64 b] = true := by simp [eqVs, eqV]
theorem sameF_self (f : Frame) : sameF f f = true := by simp [sameF]
theorem same_self (f : Frame) (hn : f.ps.length ≤ 1099511627776) : PFn Try.prog 14 [.agg (encF f), .agg (encF f)] (vb true) := by
  have := same_ok f f (by omega)
  rwa [sameF_self] at this
theorem lk_busy {j : JS} {r : RS} (h : Lk j r) : j.busy = decide (r.frames ≠ []) := by
  obtain ⟨_, _, ⟨h1, _, _, h2⟩ | ⟨h1, a, t, h2, _⟩⟩ := h
  · rw [h1, h2]; rfl
  · rw [h1, h2]; rfl
theorem push_ps {N : Nat} {j : JS} (f : Frame) (hj : j.head.ps.length ≤ N) (hf : f.ps.length ≤ N) : (push j f).1.head.ps.length ≤ N ∧ (push j f).2.head.ps.length ≤ N := by
  have h0 : zeroF.ps.length ≤ N := Nat.zero_le _
  unfold push
  dsimp only
  split
  · exact ⟨hj, h0⟩
  split
  · exact ⟨h0, h0⟩
  split
  · exact ⟨hj, h0⟩
  split
  · exact ⟨h0, h0⟩
  split
  · exact ⟨by dsimp only; split <;> assumption, h0⟩
  · exact ⟨h0, by dsimp only; split <;> assumption⟩
structure G3 where
  i : Nat
  ja : JS
  jb : JS
  ra : RS
  rb : RS
  ta : List (Nat × Tok)
  tb : List (Nat × Tok)
  tx : List (Nat × Tok)
  ty : List (Nat × Tok)

set_option maxHeartbeats 4000000 in
theorem BlockPushes_ok (one two : List Frame) (n1 : one.length ≤ 1048576) (n2 : two.length ≤ 1048576) (h1 : ∀ f, f ∈ one → f.data.size ≤ 1048576 ∧ f.ps.length ≤ 1048576) (h2 : ∀ f, f ∈ two → f.data.size ≤ 1048576 ∧ f.ps.length ≤ 1048576) : PFn Try.prog 3 [fsl one, fsl two] (vb true) := by
  refine fn_of Try.func3 rfl Try.ntmps3 Try.results3 rfl fun G => ?_
  repeat' (first | apply ar_nil | (apply ar_ev; (apply ev_assign; rfl); rfl) | apply aw_seq | apply a_region | apply go_seq)
  apply ar_call NewJ_ok; rfl; rfl; (focus ((repeat (first | exact Takes.nil | (apply Takes.cons; focus (repeat (first | exact Take.head | apply Take.tail | apply Take.right))))); done)); rfl; rintro ta _ ⟨la, hja, rfl⟩
  repeat' (first | apply ar_nil | (apply ar_ev; (apply ev_assign; rfl); rfl) | apply aw_seq | apply a_region | apply go_seq)
  apply ar_call NewJ_ok; rfl; rfl; (focus ((repeat (first | exact Takes.nil | (apply Takes.cons; focus (repeat (first | exact Take.head | apply Take.tail | apply Take.right))))); done)); rfl; rintro tb _ ⟨lb, hjb, rfl⟩
  repeat' (first | apply ar_nil | (apply ar_ev; (apply ev_move (y := .val (.bool false)); rfl); rfl) | (apply ar_ev; (apply ev_move; rfl); rfl) | (apply ar_ev; (first | (apply ev_assign; rfl) | (apply ev_pick_f; rfl; rfl) | (apply ev_eqnil_p; rfl; rfl)); rfl) | (apply ar_take; rfl; rfl; rfl; (apply ev_move; rfl); rfl) | (apply ar_take; rfl; rfl; rfl; (first | exact ev_call rfl rfl first_ok | (apply ev_eqnil_p; rfl; rfl) | (apply ev_not; rfl)); rfl) | apply aw_seq | apply a_region | apply aw_skip | (apply aw_cond_f; rfl) | apply go_seq)
  apply ar_call NewR_ok; rfl; rfl; (focus ((repeat (first | exact Takes.nil | (apply Takes.cons; focus (repeat (first | exact Take.head | apply Take.tail | apply Take.right))))); done)); rfl; rintro tx _ ⟨lx, hra, rfl⟩
  repeat' (first | apply ar_nil | (apply ar_ev; (apply ev_assign; rfl); rfl) | apply aw_seq | apply a_region | apply go_seq)
  apply ar_call NewR_ok; rfl; rfl; (focus ((repeat (first | exact Takes.nil | (apply Takes.cons; focus (repeat (first | exact Take.head | apply Take.tail | apply Take.right))))); done)); rfl; rintro ty _ ⟨ly, hrb, rfl⟩
  repeat' (first | apply ar_nil | (apply ar_ev; (apply ev_assign; rfl); rfl) | apply aw_seq | apply a_region | apply aw_block | apply go_seq)
  refine a_loop (fun g : G3 => ⟨[(0, fsl one), (1, fsl two), (5, .ptr la 0 0), (6, .ptr lb 0 0), (7, .ptr lx 0 0), (8, .ptr ly 0 0), (9, vi g.i)], g.ta ++ (g.tb ++ (g.tx ++ g.ty))⟩)
    (fun g => JAt la g.ja g.ta ∧ JAt lb g.jb g.tb ∧ RAt lx g.ra g.tx ∧ RAt ly g.rb g.ty ∧ Lk g.ja g.ra ∧ Lk g.jb g.rb ∧ g.ra.frames.length ≤ g.i ∧ g.rb.frames.length ≤ g.i ∧ g.ja.head.ps.length ≤ 1048576 ∧ g.jb.head.ps.length ≤ 1048576 ∧ g.i ≤ 1048576) (fun g => 1048577 - g.i)
    ⟨0, jIdle 0 0, jIdle 0 0, rIdle 0 0, rIdle 0 0, ta, tb, tx, ty⟩ (Sub.of (by repeat (first | exact .nil | refine .cons rfl Le.refl ?_)) (by repeat (first | exact Takes.nil | exact takes_blk | exact takes_all | (apply takes_app; focus (repeat (first | exact takes_blk | exact takes_all | apply takes_right | apply takes_skip))) | (apply takes_cons; focus (repeat (first | exact Take.head | apply Take.tail | apply Take.right))) | apply takes_right | apply takes_skip))) ⟨hja, hjb, hra, hrb, ⟨rfl, rfl, .inl ⟨rfl, rfl, rfl, rfl⟩⟩, ⟨rfl, rfl, .inl ⟨rfl, rfl, rfl, rfl⟩⟩, Nat.le_refl _, Nat.le_refl _, Nat.zero_le _, Nat.zero_le _, Nat.zero_le _⟩ ?_
  clear hja hjb hra hrb ta tb tx ty
  rintro ⟨i, ja, jb, ra, rb, ta, tb, tx, ty⟩ ⟨hja, hjb, hra, hrb, hka, hkb, hfa, hfb, hpa, hpb, hi⟩
  dsimp only at *
  repeat' (first | apply ar_nil | (apply ar_splitp; (apply ev_move; rfl); rfl; all_goals (intro hc; try (exfalso; first | omega | contradiction | (simp at hc; omega) | (simp_all; done)))) | (apply ar_ev; (apply ev_move; rfl); rfl) | (apply ar_ev; (first | (apply ev_assign; rfl) | (apply ev_pick_t; rfl; rfl) | (apply ev_pick_f; rfl; rfl) | (apply ev_lss; rfl; rfl) | (apply ev_len_sl; rfl)); rfl) | (apply ar_skip; rfl; rfl; rfl; rfl; rfl) | (apply ar_take; rfl; rfl; rfl; (apply ev_move; rfl); rfl) | (apply ar_take; rfl; rfl; rfl; (first | (apply ev_lss; rfl; rfl) | (apply ev_len_sl; rfl)); rfl) | apply aw_seq | apply a_region | apply aw_block | apply aw_skip | apply aw_exit | apply aw_ret | (apply aw_condp; rfl; all_goals (intro hc; try (exfalso; first | omega | contradiction | (simp at hc; omega) | (simp_all; done)))) | (apply aw_cond_t; rfl) | apply go_seq | apply go_seq_exit | apply go_block_exit | apply go_loop_exit)
  · -- both
    rename_i hi1

    obtain ⟨xA, hxA⟩ : ∃ xA, one[i]? = some xA := ⟨_, List.getElem?_eq_getElem (by omega)⟩
    obtain ⟨hx1A, hx2A⟩ := h1 xA (List.mem_of_getElem? hxA)
    repeat' (apply ar_ev; (first | exact ev_call rfl rfl (own_ok xA (by omega)) | (apply ev_load_ip_agg; rfl; exact Nat.le_of_ble_eq_true rfl) | (apply ev_indexAddr_sl; rfl; rfl; exact (by first | omega | assumption); exact (by first | rfl | assumption | exact get_map (by assumption)))); rfl)
    apply ar_call (push_ok la _ _ hja xA (by omega) (by omega)); rfl; rfl; (focus ((repeat (first | exact takes_blk | exact takes_all | apply takes_right | apply takes_skip)); done)); rfl; rintro tjA _ ⟨hj2A, rfl⟩
    repeat' (first | apply ar_nil | (apply ar_ev; (apply ev_move; rfl); rfl) | (apply ar_ev; (first | exact ev_call rfl rfl (own_ok xA (by omega)) | (apply ev_assign; rfl) | (apply ev_load_ip_agg; rfl; exact Nat.le_of_ble_eq_true rfl) | (apply ev_indexAddr_sl; rfl; rfl; exact (by first | omega | assumption); exact (by first | rfl | assumption | exact get_map (by assumption))) | (apply ev_extract; rfl; rfl)); rfl) | (apply ar_new; (first | apply eff_alloc | (apply eff_box; rfl; exact lies_of rfl)); exact .nil; rfl; intro lab) | (apply ar_store; rfl; (focus ((repeat (first | exact Take.head | apply Take.tail | apply Take.right)); done)); rfl; rfl; exact (by first | rfl | assumption | exact get_map (by assumption)); rfl; rfl) | apply aw_seq | apply a_region | apply go_seq)
    apply ar_call (rpush_ok lx _ _ hra xA (by omega) (by omega) (by omega)); rfl; rfl; (focus ((repeat (first | exact takes_blk | exact takes_all | apply takes_right | apply takes_skip)); done)); rfl; rintro trA _ ⟨hr2A, rfl⟩
    obtain ⟨hk2A, e2A, e3A⟩ := lk_push hka xA
    obtain ⟨hp2A, hp3A⟩ := push_ps (N := 1048576) xA hpa hx2A
    rw [e2A]
    have hsmA := same_self (push ja xA).2.head (by omega)
    have hbA := BusyR_ok hr2A
    rw [← lk_busy hk2A] at hbA
    repeat' (first | (apply ar_tcall (BusyJ_ok hj2A); rfl; rfl; rfl; rfl; rfl; (focus ((repeat (first | exact takes_blk | exact takes_all | apply takes_right | apply takes_skip)); done)); rfl; rintro ts1 _ ⟨he, rfl⟩; rw [he]; clear he) | (apply ar_tcall hbA; rfl; rfl; rfl; rfl; rfl; (focus ((repeat (first | exact takes_blk | exact takes_all | apply takes_right | apply takes_skip)); done)); rfl; rintro ts1 _ ⟨he, rfl⟩; rw [he]; clear he) | apply ar_nil | (apply ar_splitp; (apply ev_move; rfl); rfl; all_goals (intro hc; try (exfalso; first | omega | contradiction | (simp at hc; omega) | (simp_all; done)))) | (apply ar_ev; (apply ev_move (y := .val (.bool false)); rfl); rfl) | (apply ar_split; (apply ev_move; rfl); rfl; all_goals (intro hc; try (exfalso; first | omega | contradiction | (simp at hc; omega) | (simp_all; done)))) | (apply ar_ev; (apply ev_move; rfl); rfl) | (apply ar_ev; (first | (apply ev_assign; rfl) | (apply ev_pick_f; rfl; rfl) | (apply ev_lss; rfl; rfl) | (apply ev_inc; rfl; exact (by first | omega | assumption)) | (apply ev_neb; rfl; rfl) | (apply ev_len_sl; rfl) | (apply ev_extract; rfl; rfl)); rfl) | (apply ar_new; (first | apply eff_alloc | (apply eff_box; rfl; exact lies_of rfl)); exact .nil; rfl; intro lab) | (apply ar_store; rfl; (focus ((repeat (first | exact Take.head | apply Take.tail | apply Take.right)); done)); rfl; rfl; exact (by first | rfl | assumption | exact get_map (by assumption)); rfl; rfl) | (apply ar_take; rfl; rfl; rfl; (apply ev_move; rfl); rfl) | (apply ar_take; rfl; rfl; rfl; (first | exact ev_call rfl rfl hsmA | (apply ev_load_ptr_agg; rfl; (focus ((repeat (first | exact Take.head | apply Take.tail | apply Take.right)); done)); exact (by first | rfl | assumption | exact get_map (by assumption)); exact Nat.le_of_ble_eq_true rfl) | (apply ev_nesp; rfl; rfl) | (apply ev_neb; rfl; rfl) | (apply ev_net; rfl; rfl; rfl; rfl; rfl; rfl) | (apply ev_not; rfl)); rfl) | apply aw_seq | apply a_region | apply aw_skip | (apply aw_condp; rfl; all_goals (intro hc; try (exfalso; first | omega | contradiction | (simp at hc; omega) | (simp_all; done)))) | (apply aw_condb; rfl; all_goals (intro hc; try (exfalso; first | omega | contradiction | (simp at hc; omega) | (simp_all; done)))) | apply go_seq | apply go_block)

    all_goals first
      | exact go_loop_back ⟨⟨i + 1, (push ja xA).1, jb, (rpush ra xA).1, rb, tjA, tb, trA, ty⟩, ⟨hj2A, hjb, hr2A, hrb, hk2A, hkb, by dsimp only; omega, by dsimp only; omega, hp2A, hpb, by dsimp only; omega⟩, by dsimp only; omega, Sub.of (by repeat (first | exact .nil | refine .cons rfl Le.refl ?_)) (by repeat (first | exact Takes.nil | exact takes_blk | exact takes_all | (apply takes_app; focus (repeat (first | exact takes_blk | exact takes_all | apply takes_right | apply takes_skip))) | (apply takes_cons; focus (repeat (first | exact Take.head | apply Take.tail | apply Take.right))) | apply takes_right | apply takes_skip))⟩
      | skip
    all_goals

      obtain ⟨xB, hxB⟩ : ∃ xB, two[i]? = some xB := ⟨_, List.getElem?_eq_getElem (by omega)⟩
      obtain ⟨hx1B, hx2B⟩ := h2 xB (List.mem_of_getElem? hxB)
      repeat' (apply ar_ev; (first | exact ev_call rfl rfl (own_ok xB (by omega)) | (apply ev_load_ip_agg; rfl; exact Nat.le_of_ble_eq_true rfl) | (apply ev_indexAddr_sl; rfl; rfl; exact (by first | omega | assumption); exact (by first | rfl | assumption | exact get_map (by assumption)))); rfl)
      apply ar_call (push_ok lb _ _ hjb xB (by omega) (by omega)); rfl; rfl; (focus ((repeat (first | exact takes_blk | exact takes_all | apply takes_right | apply takes_skip)); done)); rfl; rintro tjB _ ⟨hj2B, rfl⟩
      repeat' (first | apply ar_nil | (apply ar_ev; (apply ev_move; rfl); rfl) | (apply ar_ev; (first | exact ev_call rfl rfl (own_ok xB (by omega)) | (apply ev_assign; rfl) | (apply ev_load_ip_agg; rfl; exact Nat.le_of_ble_eq_true rfl) | (apply ev_indexAddr_sl; rfl; rfl; exact (by first | omega | assumption); exact (by first | rfl | assumption | exact get_map (by assumption))) | (apply ev_extract; rfl; rfl)); rfl) | (apply ar_new; (first | apply eff_alloc | (apply eff_box; rfl; exact lies_of rfl)); exact .nil; rfl; intro lab) | (apply ar_store; rfl; (focus ((repeat (first | exact Take.head | apply Take.tail | apply Take.right)); done)); rfl; rfl; exact (by first | rfl | assumption | exact get_map (by assumption)); rfl; rfl) | apply aw_seq | apply a_region | apply go_seq)
      apply ar_call (rpush_ok ly _ _ hrb xB (by omega) (by omega) (by omega)); rfl; rfl; (focus ((repeat (first | exact takes_blk | exact takes_all | apply takes_right | apply takes_skip)); done)); rfl; rintro trB _ ⟨hr2B, rfl⟩
      obtain ⟨hk2B, e2B, e3B⟩ := lk_push hkb xB
      obtain ⟨hp2B, hp3B⟩ := push_ps (N := 1048576) xB hpb hx2B
      rw [e2B]
      have hsmB := same_self (push jb xB).2.head (by omega)
      have hbB := BusyR_ok hr2B
      rw [← lk_busy hk2B] at hbB
      repeat' (first | (apply ar_tcall (BusyJ_ok hj2B); rfl; rfl; rfl; rfl; rfl; (focus ((repeat (first | exact takes_blk | exact takes_all | apply takes_right | apply takes_skip)); done)); rfl; rintro ts1 _ ⟨he, rfl⟩; rw [he]; clear he) | (apply ar_tcall hbB; rfl; rfl; rfl; rfl; rfl; (focus ((repeat (first | exact takes_blk | exact takes_all | apply takes_right | apply takes_skip)); done)); rfl; rintro ts1 _ ⟨he, rfl⟩; rw [he]; clear he) | apply ar_nil | (apply ar_splitp; (apply ev_move; rfl); rfl; all_goals (intro hc; try (exfalso; first | omega | contradiction | (simp at hc; omega) | (simp_all; done)))) | (apply ar_ev; (apply ev_move (y := .val (.bool false)); rfl); rfl) | (apply ar_split; (apply ev_move; rfl); rfl; all_goals (intro hc; try (exfalso; first | omega | contradiction | (simp at hc; omega) | (simp_all; done)))) | (apply ar_ev; (apply ev_move; rfl); rfl) | (apply ar_ev; (first | (apply ev_assign; rfl) | (apply ev_pick_f; rfl; rfl) | (apply ev_inc; rfl; exact (by first | omega | assumption)) | (apply ev_neb; rfl; rfl) | (apply ev_extract; rfl; rfl)); rfl) | (apply ar_new; (first | apply eff_alloc | (apply eff_box; rfl; exact lies_of rfl)); exact .nil; rfl; intro lab) | (apply ar_store; rfl; (focus ((repeat (first | exact Take.head | apply Take.tail | apply Take.right)); done)); rfl; rfl; exact (by first | rfl | assumption | exact get_map (by assumption)); rfl; rfl) | (apply ar_take; rfl; rfl; rfl; (apply ev_move; rfl); rfl) | (apply ar_take; rfl; rfl; rfl; (first | exact ev_call rfl rfl hsmB | (apply ev_load_ptr_agg; rfl; (focus ((repeat (first | exact Take.head | apply Take.tail | apply Take.right)); done)); exact (by first | rfl | assumption | exact get_map (by assumption)); exact Nat.le_of_ble_eq_true rfl) | (apply ev_nesp; rfl; rfl) | (apply ev_neb; rfl; rfl) | (apply ev_net; rfl; rfl; rfl; rfl; rfl; rfl) | (apply ev_not; rfl)); rfl) | apply aw_seq | apply a_region | apply aw_skip | (apply aw_condb; rfl; all_goals (intro hc; try (exfalso; first | omega | contradiction | (simp at hc; omega) | (simp_all; done)))) | apply go_seq | apply go_block)

      all_goals exact go_loop_back ⟨⟨i + 1, (push ja xA).1, (push jb xB).1, (rpush ra xA).1, (rpush rb xB).1, tjA, tjB, trA, trB⟩, ⟨hj2A, hj2B, hr2A, hr2B, hk2A, hk2B, by dsimp only; omega, by dsimp only; omega, hp2A, hp2B, by dsimp only; omega⟩, by dsimp only; omega, Sub.of (by repeat (first | exact .nil | refine .cons rfl Le.refl ?_)) (by repeat (first | exact Takes.nil | exact takes_blk | exact takes_all | (apply takes_app; focus (repeat (first | exact takes_blk | exact takes_all | apply takes_right | apply takes_skip))) | (apply takes_cons; focus (repeat (first | exact Take.head | apply Take.tail | apply Take.right))) | apply takes_right | apply takes_skip))⟩
  · rename_i hi1

    obtain ⟨xB, hxB⟩ : ∃ xB, two[i]? = some xB := ⟨_, List.getElem?_eq_getElem (by omega)⟩
    obtain ⟨hx1B, hx2B⟩ := h2 xB (List.mem_of_getElem? hxB)
    repeat' (apply ar_ev; (first | exact ev_call rfl rfl (own_ok xB (by omega)) | (apply ev_load_ip_agg; rfl; exact Nat.le_of_ble_eq_true rfl) | (apply ev_indexAddr_sl; rfl; rfl; exact (by first | omega | assumption); exact (by first | rfl | assumption | exact get_map (by assumption)))); rfl)
    apply ar_call (push_ok lb _ _ hjb xB (by omega) (by omega)); rfl; rfl; (focus ((repeat (first | exact takes_blk | exact takes_all | apply takes_right | apply takes_skip)); done)); rfl; rintro tjB _ ⟨hj2B, rfl⟩
    repeat' (first | apply ar_nil | (apply ar_ev; (apply ev_move; rfl); rfl) | (apply ar_ev; (first | exact ev_call rfl rfl (own_ok xB (by omega)) | (apply ev_assign; rfl) | (apply ev_load_ip_agg; rfl; exact Nat.le_of_ble_eq_true rfl) | (apply ev_indexAddr_sl; rfl; rfl; exact (by first | omega | assumption); exact (by first | rfl | assumption | exact get_map (by assumption))) | (apply ev_extract; rfl; rfl)); rfl) | (apply ar_new; (first | apply eff_alloc | (apply eff_box; rfl; exact lies_of rfl)); exact .nil; rfl; intro lab) | (apply ar_store; rfl; (focus ((repeat (first | exact Take.head | apply Take.tail | apply Take.right)); done)); rfl; rfl; exact (by first | rfl | assumption | exact get_map (by assumption)); rfl; rfl) | apply aw_seq | apply a_region | apply go_seq)
    apply ar_call (rpush_ok ly _ _ hrb xB (by omega) (by omega) (by omega)); rfl; rfl; (focus ((repeat (first | exact takes_blk | exact takes_all | apply takes_right | apply takes_skip)); done)); rfl; rintro trB _ ⟨hr2B, rfl⟩
    obtain ⟨hk2B, e2B, e3B⟩ := lk_push hkb xB
    obtain ⟨hp2B, hp3B⟩ := push_ps (N := 1048576) xB hpb hx2B
    rw [e2B]
    have hsmB := same_self (push jb xB).2.head (by omega)
    have hbB := BusyR_ok hr2B
    rw [← lk_busy hk2B] at hbB
    repeat' (first | (apply ar_tcall (BusyJ_ok hj2B); rfl; rfl; rfl; rfl; rfl; (focus ((repeat (first | exact takes_blk | exact takes_all | apply takes_right | apply takes_skip)); done)); rfl; rintro ts1 _ ⟨he, rfl⟩; rw [he]; clear he) | (apply ar_tcall hbB; rfl; rfl; rfl; rfl; rfl; (focus ((repeat (first | exact takes_blk | exact takes_all | apply takes_right | apply takes_skip)); done)); rfl; rintro ts1 _ ⟨he, rfl⟩; rw [he]; clear he) | apply ar_nil | (apply ar_splitp; (apply ev_move; rfl); rfl; all_goals (intro hc; try (exfalso; first | omega | contradiction | (simp at hc; omega) | (simp_all; done)))) | (apply ar_ev; (apply ev_move (y := .val (.bool false)); rfl); rfl) | (apply ar_split; (apply ev_move; rfl); rfl; all_goals (intro hc; try (exfalso; first | omega | contradiction | (simp at hc; omega) | (simp_all; done)))) | (apply ar_ev; (apply ev_move; rfl); rfl) | (apply ar_ev; (first | (apply ev_assign; rfl) | (apply ev_pick_f; rfl; rfl) | (apply ev_inc; rfl; exact (by first | omega | assumption)) | (apply ev_neb; rfl; rfl) | (apply ev_extract; rfl; rfl)); rfl) | (apply ar_new; (first | apply eff_alloc | (apply eff_box; rfl; exact lies_of rfl)); exact .nil; rfl; intro lab) | (apply ar_store; rfl; (focus ((repeat (first | exact Take.head | apply Take.tail | apply Take.right)); done)); rfl; rfl; exact (by first | rfl | assumption | exact get_map (by assumption)); rfl; rfl) | (apply ar_take; rfl; rfl; rfl; (apply ev_move; rfl); rfl) | (apply ar_take; rfl; rfl; rfl; (first | exact ev_call rfl rfl hsmB | (apply ev_load_ptr_agg; rfl; (focus ((repeat (first | exact Take.head | apply Take.tail | apply Take.right)); done)); exact (by first | rfl | assumption | exact get_map (by assumption)); exact Nat.le_of_ble_eq_true rfl) | (apply ev_nesp; rfl; rfl) | (apply ev_neb; rfl; rfl) | (apply ev_net; rfl; rfl; rfl; rfl; rfl; rfl) | (apply ev_not; rfl)); rfl) | apply aw_seq | apply a_region | apply aw_skip | (apply aw_condb; rfl; all_goals (intro hc; try (exfalso; first | omega | contradiction | (simp at hc; omega) | (simp_all; done)))) | apply go_seq | apply go_block)

    all_goals exact go_loop_back ⟨⟨i + 1, ja, (push jb xB).1, ra, (rpush rb xB).1, ta, tjB, tx, trB⟩, ⟨hja, hj2B, hra, hr2B, hka, hk2B, by dsimp only; omega, by dsimp only; omega, hpa, hp2B, by dsimp only; omega⟩, by dsimp only; omega, Sub.of (by repeat (first | exact .nil | refine .cons rfl Le.refl ?_)) (by repeat (first | exact Takes.nil | exact takes_blk | exact takes_all | (apply takes_app; focus (repeat (first | exact takes_blk | exact takes_all | apply takes_right | apply takes_skip))) | (apply takes_cons; focus (repeat (first | exact Take.head | apply Take.tail | apply Take.right))) | apply takes_right | apply takes_skip))⟩
  · exact g_ret1 (r_tmp rfl) .nil rfl
end Go.Proofs.Ytinojkkjcignhaa
