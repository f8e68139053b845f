import Derived.Test.YtkidjeejhhfbpaaS
set_option linter.unusedVariables false
set_option linter.unusedSimpArgs false
set_option maxRecDepth 100000
namespace Go.Proofs.Ytkidjeejhhfbpaa
open Go.Proofs Go.Proofs.YtkidjeejhhfbpaaA

theorem err8 {rs : List Rl} (h : errN rs = 0) : ∀ r, r ∈ rs → r.2.length ≤ 8 := by
  intro r hr
  unfold errN at h
  split at h
  · cases h
  · rename_i h1
    have : longR r = false := by
      rw [← Bool.not_eq_true]
      exact fun h2 => h1 (.inr (List.any_eq_true.2 ⟨r, hr, h2⟩))
    have := of_decide_eq_false this
    omega
abbrev rowO : List AV := [vs ⟨#[97]⟩, vs ⟨#[47, 111, 118, 101, 114]⟩, .val (.slice none 0 0)]
def rowsW (ps : List Pr) (i : Nat) : List (List AV) := List.replicate i rowO ++ (rowsP (ps.drop i) ++ [rowM])
theorem rowsW_zero (ps : List Pr) : rowsP ps ++ [rowM] = rowsW ps 0 := by simp [rowsW]
theorem rowsW_len {ps : List Pr} {i : Nat} (hi : i ≤ ps.length) : (rowsW ps i).length = ps.length + 1 := by
  simp only [rowsW, List.length_append, List.length_replicate, rowsP_len, List.length_drop, List.length_singleton]; omega
theorem rowsW_get {ps : List Pr} {i : Nat} {p : Pr} (h : ps[i]? = some p) : (rowsW ps i)[i]? = some (rowR p) := by
  unfold rowsW
  rw [List.getElem?_append_right (by simp), List.length_replicate, Nat.sub_self, List.drop_eq_getElem?_toList_append, h]
  rfl
theorem rowsW_set {ps : List Pr} {i : Nat} {p : Pr} (h : ps[i]? = some p) : (rowsW ps i).set i rowO = rowsW ps (i + 1) := by
  unfold rowsW
  rw [List.set_append_right _ _ (by simp), List.length_replicate, Nat.sub_self, List.drop_eq_getElem?_toList_append, h, List.replicate_succ']
  simp [rowsP]
theorem toksM_drop {ps : List Pr} {i : Nat} {p : Pr} (h : ps[i]? = some p) : toksM (ps.drop i) = (p.2, .row 35 2 (p.1.2.map encT ++ [encT mk])) :: toksM (ps.drop (i + 1)) := by
  rw [List.drop_eq_getElem?_toList_append, h]
  rfl
theorem freeOf (rs : List Rl) : ∀ (ts : List (Nat × Tok)) (r : AV), ((errN rs ≠ 0 ∧ ts = [] ∧ r = .tup [.val (.pointer none), vi (errN rs)]) ∨
    (errN rs = 0 ∧ ∃ lp lm ps, ps.map (·.1) = rs ∧ ts = (lp, .row 55 1 [[.mref lm]]) :: (lm, .map (encE (mapP ps))) :: toksC ps ∧ r = .tup [.ptr lp 0 0, vi 0])) → AVFree r ∧ ∀ p, p ∈ ts → TokFree p.2 := by
  rintro ts r (⟨_, rfl, rfl⟩ | ⟨_, lp, lm, ps, _, rfl, rfl⟩)
  · refine ⟨.tup fun x hx => ?_, fun p hp => nomatch hp⟩
    simp only [List.mem_cons, List.not_mem_nil, or_false] at hx
    rcases hx with rfl | rfl <;> exact .val _
  · refine ⟨.tup fun x hx => ?_, fun p hp => ?_⟩
    · simp only [List.mem_cons, List.not_mem_nil, or_false] at hx
      rcases hx with rfl | rfl
      · exact .ptr _ _ _
      · exact .val _
    · rcases List.mem_cons.1 hp with rfl | hp
      · refine .row fun x hx y hy => ?_
        obtain rfl := List.mem_singleton.1 hx
        obtain rfl := List.mem_singleton.1 hy
        exact .mref _
      · rcases List.mem_cons.1 hp with rfl | hp
        · refine .map fun q hq => ?_
          obtain ⟨a, ha, rfl⟩ := List.mem_map.1 hq
          obtain ⟨b, hb, rfl⟩ := List.mem_map.1 ha
          exact ⟨.agg fun x hx => by simp only [keyT, List.map_cons, List.map_nil, List.mem_cons, List.not_mem_nil, or_false] at hx; rcases hx with rfl | rfl <;> exact .val _, .own _ _ _⟩
        · obtain ⟨a, ha, rfl⟩ := List.mem_map.1 hp
          refine .row fun x hx y hy => ?_
          obtain ⟨t, _, rfl⟩ := List.mem_map.1 hx
          simp only [List.mem_cons, List.not_mem_nil, or_false] at hy
          rcases hy with rfl | rfl <;> exact .val _
set_option maxHeartbeats 8000000 in
theorem ManifestPlans_ok (rs : List Rl) (asked : List Tg) (M : Int) (hn : rs.length ≤ 1048576) (hr : ∀ r, r ∈ rs → OkR r) (hrl : ∀ r, r ∈ rs → r.2.length ≤ 1048576) (ha : asked.length ≤ 1048576) : PFn Try.prog 3 [rsl rs, tsl asked, vi M] (vb true) := by
  refine fn_of Try.func3 rfl Try.ntmps3 Try.results3 rfl fun G => ?_
  have hlent := lent_ok rs hn hrl
  have hown := own_ok rs (by omega) hr
  have hrof := ROf_ok rs (by omega) hr
  have hkept := kept_ok rs hn hrl
  have hof := OfO_ok rs (by omega) hr
  repeat' ((fail_if_success (show AW _ (.region 2 _ _) _ _)); (first | (apply ar_call hlent; rfl; rfl; exact .nil; rfl; rintro _ _ ⟨lg, ps, hps, rfl, rfl⟩) | apply ar_nil | (apply ar_ev; (apply ev_move; rfl); rfl) | (apply ar_ev; (apply ev_assign; rfl); rfl) | apply aw_seq | apply a_region | apply go_seq))
  rw [List.append_nil]
  have hpl : ps.length = rs.length := by rw [← hps, List.length_map]
  refine AW.sub (st' := ⟨[(0, rsl rs), (1, tsl asked), (2, vi M), (7, .own lg 0 rs.length)], (lg, .row 37 3 (rowsP ps ++ [rowM])) :: toksM ps⟩) (Sub.of (by repeat (first | exact .nil | refine .cons rfl Le.refl ?_)) (by repeat (first | exact Takes.nil | exact takes_blk | exact takes_all | (apply takes_app; focus (repeat (first | exact takes_blk | exact takes_all | apply takes_right | apply takes_skip))) | (apply takes_cons; focus (repeat (first | exact Take.head | apply Take.tail | apply Take.right))) | apply takes_right | apply takes_skip))) ?_
  repeat' (first | (apply ar_ev; (apply ev_move; rfl); rfl) | apply a_region)
  apply ar_callL hof; rfl; rfl; exact .nil; exact Cvs.cons (lent_cv hps .head (fun p hp => List.mem_cons_of_mem _ hp)) .nil; exact freeOf rs; rfl
  have hck := lent_cvK (ts := (lg, .row 37 3 (rowsP ps ++ [rowM])) :: toksM ps) hps .head (fun p hp => .tail _ hp)
  rintro _ _ (⟨he, rfl, rfl⟩ | ⟨he, lp, lm, qs, hqs, rfl, rfl⟩)
  · unfold ofV at hrof
    rw [if_neg he] at hrof
    have hne : ¬((errN rs : Nat) : Int) ≠ ((errN rs : Nat) : Int) := fun h => h rfl
    repeat' (first | apply ar_nil | (apply ar_ev; (apply ev_move (y := .val (.bool true)); rfl); rfl) | (apply ar_ev; (apply ev_move (y := .val (.bool false)); rfl); rfl) | (apply ar_splitp; (apply ev_move; rfl); rfl; all_goals (intro hc; try (exfalso; first | omega | contradiction | (simp at hc; omega) | (simp_all; done)))) | (apply ar_ev; (apply ev_move; rfl); rfl) | (apply ar_ev; (first | exact ev_call rfl rfl hown | exact ev_call rfl rfl hrof | (apply ev_assign; rfl) | (apply ev_pick_t; rfl; rfl) | (apply ev_pick_f; rfl; rfl) | (apply ev_neip; rfl; rfl) | (apply ev_eqnil_pv; rfl) | (apply ev_extract; rfl; rfl)); rfl) | (apply ar_skip; rfl; rfl; rfl; rfl; rfl) | (apply ar_take; rfl; rfl; rfl; (apply ev_move; rfl); rfl) | (apply ar_take; rfl; rfl; rfl; (first | (apply ev_callL hkept; rfl; rfl; exact Cvs.cons hck (Cvs.cons Cv.refl Cvs.nil); constructor) | exact ev_call rfl rfl first_ok | (apply ev_neb; rfl; rfl) | (apply ev_eqnil_pv; rfl) | (apply ev_not; rfl)); rfl) | apply aw_seq | apply a_region | apply aw_skip | apply aw_ret | (apply aw_cond_t; rfl) | (apply aw_cond_f; rfl) | apply go_seq | apply go_seq_ret)
    exact g_ret1 (r_tmp rfl) .nil rfl
  · unfold ofV at hrof
    rw [if_pos he, he] at hrof
    have h8 := err8 he
    have hcm : Cv ((lp, .row 55 1 [[.mref lm]]) :: (lm, .map (encE (mapP qs))) :: toksC qs) (.mref lm) (.imap (encE (mapOf rs))) := by
      rw [← hqs]
      exact (Cv.map (.tail .head)).trans (cvs_C _ qs fun p hp => List.mem_cons_of_mem _ (List.mem_cons_of_mem _ hp))
    repeat' ((fail_if_success (show AW _ (.region 3 _ _) _ _)); (first | apply ar_nil | (apply ar_ev; (apply ev_move; rfl); rfl) | (apply ar_ev; (first | (apply ev_assign; rfl) | (apply ev_extract; rfl; rfl)); rfl) | apply aw_seq | apply go_seq))
    refine aw_cv 8 (us := (lp, .row 55 1 [[.mref lm]]) :: (lm, .map (encE (mapP qs))) :: toksC qs) (y := manV rs) rfl takes_blk (Cv.ptrr .head rfl (Cvs.cons hcm .nil) (fun y hy => by obtain rfl := List.mem_singleton.1 hy; rfl)) ?_
    refine AW.sub (st' := ⟨[(0, rsl rs), (1, tsl asked), (2, vi M), (7, .own lg 0 rs.length), (8, manV rs), (9, vi 0)], (lg, .row 37 3 (rowsP ps ++ [rowM])) :: toksM ps⟩) (Sub.of (by repeat (first | exact .nil | refine .cons rfl Le.refl ?_)) (by repeat (first | exact Takes.nil | exact takes_blk | exact takes_all | (apply takes_app; focus (repeat (first | exact takes_blk | exact takes_all | apply takes_right | apply takes_skip))) | (apply takes_cons; focus (repeat (first | exact Take.head | apply Take.tail | apply Take.right))) | apply takes_right | apply takes_skip))) ?_
    repeat' ((fail_if_success (show AW _ (.region 8 _ _) _ _)); (first | apply ar_nil | (apply ar_ev; (apply ev_move (y := .val (.bool false)); rfl); rfl) | (apply ar_ev; (apply ev_move; rfl); rfl) | (apply ar_ev; (first | exact ev_call rfl rfl hown | exact ev_call rfl rfl hrof | (apply ev_assign; rfl) | (apply ev_pick_f; rfl; rfl) | (apply ev_neip; rfl; rfl) | (apply ev_eqnil_p; rfl; rfl) | (apply ev_extract; rfl; rfl)); rfl) | (apply ar_take; rfl; rfl; rfl; (apply ev_move; rfl); rfl) | (apply ar_take; rfl; rfl; rfl; (first | (apply ev_callL hkept; rfl; rfl; exact Cvs.cons hck (Cvs.cons Cv.refl Cvs.nil); constructor) | exact ev_call rfl rfl first_ok | (apply ev_neb; rfl; rfl) | (apply ev_eqnil_p; rfl; rfl) | (apply ev_not; rfl)); rfl) | apply aw_seq | apply a_region | apply aw_skip | (apply aw_cond_f; rfl) | apply go_seq))
    have h0 : rowsP ps ++ [rowM] = rowsW ps 0 := rowsW_zero ps
    repeat' ((fail_if_success (show AW _ (.region 9 _ _) _ _)); (first | apply ar_nil | (apply ar_ev; (apply ev_assign; rfl); rfl) | apply a_region | apply aw_block | apply go_seq))
    refine AW.sub (st' := ⟨[(0, rsl rs), (1, tsl asked), (2, vi M), (7, .own lg 0 rs.length), (8, manV rs), (10, refV rs), (12, vi 0)], (lg, .row 37 3 (rowsW ps 0)) :: toksM ps⟩) (Sub.of (by repeat (first | exact .nil | refine .cons rfl Le.refl ?_)) (by repeat (first | exact Takes.nil | exact takes_blk | exact takes_all | (apply takes_app; focus (repeat (first | exact takes_blk | exact takes_all | apply takes_right | apply takes_skip))) | (apply takes_cons; focus (repeat (first | exact Take.head | exact Take.rowc h0 Take.head | apply Take.tail | apply Take.right))) | apply takes_right | apply takes_skip))) ?_
    clear hlent hown hrof hkept hof hck hcm h0
    skip
    refine a_loop (fun i : Nat => ⟨[(0, rsl rs), (1, tsl asked), (2, vi M), (7, .own lg 0 rs.length), (8, manV rs), (10, refV rs), (12, vi i)], (lg, .row 37 3 (rowsW ps i)) :: toksM (ps.drop i)⟩)
      (fun i => i ≤ rs.length) (fun i => rs.length - i) 0 (Sub.of (by repeat (first | exact .nil | refine .cons rfl Le.refl ?_)) (by repeat (first | exact Takes.nil | exact takes_blk | exact takes_all | (apply takes_app; focus (repeat (first | exact takes_blk | exact takes_all | apply takes_right | apply takes_skip))) | (apply takes_cons; focus (repeat (first | exact Take.head | apply Take.tail | apply Take.right))) | apply takes_right | apply takes_skip))) (Nat.zero_le _) ?_
    intro i hi
    repeat' (first | apply ar_nil | (apply ar_ev; (apply ev_move; rfl); rfl) | (apply ar_ev; (first | (apply ev_lss; rfl; rfl) | (apply ev_len_own; rfl)); rfl) | apply aw_seq | apply a_region | apply go_seq)
    refine aw_condp rfl (fun hk => ?_) (fun hk => ?_)
    · obtain ⟨⟨r, lr⟩, hpe⟩ : ∃ p, ps[i]? = some p := ⟨_, List.getElem?_eq_getElem (by omega)⟩
      have hget : (rowsW ps i)[i]? = some [vs r.1.1, vs r.1.2, .own lr 0 r.2.length] := rowsW_get hpe
      have hset := rowsW_set hpe
      have hlen := rowsW_len (ps := ps) (i := i) (by omega)
      have hpr : r.2.length ≤ 1048576 := by
        have : rs[i]? = some r := by rw [← hps, List.getElem?_map, hpe]; rfl
        exact hrl _ (List.mem_of_getElem? this)
      rw [toksM_drop hpe]
      repeat' ((fail_if_success (show AW _ (.region 12 _ _) _ _)); (first | apply ar_nil | (apply ar_ev; (apply ev_assign; rfl); rfl) | apply aw_seq | apply a_region | apply aw_block | apply aw_skip | apply go_seq))
      skip
      refine a_loop (fun g : Nat × List (List AV) => ⟨[(0, rsl rs), (1, tsl asked), (2, vi M), (7, .own lg 0 rs.length), (8, manV rs), (10, refV rs), (12, vi i), (13, vi g.1)], (lg, .row 37 3 (rowsW ps i)) :: (lr, .row 35 2 g.2) :: toksM (ps.drop (i + 1))⟩)
        (fun g => g.1 ≤ r.2.length ∧ g.2.length = r.2.length + 1) (fun g => r.2.length - g.1) (0, r.2.map encT ++ [encT mk]) (Sub.of (by repeat (first | exact .nil | refine .cons rfl Le.refl ?_)) (by repeat (first | exact Takes.nil | exact takes_blk | exact takes_all | (apply takes_app; focus (repeat (first | exact takes_blk | exact takes_all | apply takes_right | apply takes_skip))) | (apply takes_cons; focus (repeat (first | exact Take.head | apply Take.tail | apply Take.right))) | apply takes_right | apply takes_skip))) ⟨Nat.zero_le _, by simp⟩ ?_
      rintro ⟨j, xs⟩ ⟨hj, hxs⟩
      dsimp only at *
      repeat' (first | apply ar_nil | (apply ar_ev; (apply ev_move; rfl); rfl) | (apply ar_ev; (first | (apply ev_load_ptr_one; rfl; (focus ((repeat (first | exact Take.head | apply Take.tail | apply Take.right)); done)); exact (by first | rfl | assumption | exact get_map (by assumption)); rfl) | (apply ev_fieldAddr_ptr; rfl) | (apply ev_lss; rfl; rfl) | (apply ev_len_own; rfl) | (apply ev_indexAddr_own0; rfl; rfl; exact (by first | omega | assumption); (focus ((repeat (first | exact Take.head | apply Take.tail | apply Take.right)); done)))); rfl) | apply aw_seq | apply a_region | apply go_seq)
      refine aw_condp rfl (fun hkj => ?_) (fun hkj => ?_)
      · obtain ⟨cs, hcs⟩ : ∃ cs, xs[j]? = some cs := ⟨_, List.getElem?_eq_getElem (by omega)⟩
        have hat := at_ok ⟨#[47, 119, 114, 105, 116, 116, 101, 110]⟩
        repeat' (first | apply aw_seq | apply aw_block | apply aw_skip | apply go_seq)
        refine a_mix [true, true, true, true, true, true, true, false, false] [0, 1, 2, 3, 4, 5, 6, 7, 8] (by kernel_rfl) (by repeat (first | exact Als.nil | (apply Als.al; rfl) | (apply Als.other; rfl))) (Takes.cons (l := lr) (by repeat (first | exact Take.head | apply Take.tail | apply Take.right)) Takes.nil) ?_
        repeat' (first | apply ar_nil | (apply ar_ev; (apply ev_move; rfl); rfl) | (apply ar_ev; (first | (apply ev_assign; rfl) | (apply ev_inc; rfl; exact (by first | omega | assumption))); rfl) | apply a_region | apply go_seq | apply go_block | apply tl_nil | (apply tl_ev; rfl; rfl; (apply ev_move; rfl); rfl) | (apply tl_ev; rfl; rfl; (first | exact ev_call rfl rfl hat | (apply ev_load_ptr_one; rfl; (focus ((repeat (first | exact Take.head | apply Take.tail | apply Take.right)); done)); exact (by first | rfl | assumption | exact get_map (by assumption)); rfl) | (apply ev_fieldAddr_ptr; rfl) | (apply ev_indexAddr_own0; rfl; rfl; exact (by first | omega | assumption); (focus ((repeat (first | exact Take.head | apply Take.tail | apply Take.right)); done)))); rfl) | (apply tl_store; rfl; rfl; rfl; infer_instance; rfl; (focus ((repeat (first | exact Take.head | apply Take.tail | apply Take.right)); done)); rfl; rfl; exact (by first | rfl | assumption | exact get_map (by assumption)); rfl; rfl) | (apply tl_evw; rfl; rfl; rfl; (apply ev_indexAddr_own0; rfl; rfl; exact (by first | omega | assumption); (focus ((repeat (first | exact Take.head | apply Take.tail | apply Take.right)); done))); rfl))
        exact go_loop_back ⟨(j + 1, xs.set j (putCells cs 0 (AV.agg (encT (⟨#[97]⟩, ⟨#[47, 119, 114, 105, 116, 116, 101, 110]⟩))).cells)), ⟨by dsimp only; omega, by simp [hxs]⟩, by dsimp only; omega, by dsimp only; exact Sub.of (by repeat (first | exact .nil | refine .cons rfl Le.refl ?_)) (by repeat (first | exact Takes.nil | exact takes_blk | exact takes_all | (apply takes_app; focus (repeat (first | exact takes_blk | exact takes_all | apply takes_right | apply takes_skip))) | (apply takes_cons; focus (repeat (first | exact Take.head | apply Take.tail | apply Take.right))) | apply takes_right | apply takes_skip))⟩
      · obtain rfl : j = r.2.length := by omega
        have hat := at_ok ⟨#[47, 111, 118, 101, 114]⟩
        repeat' (first | apply ar_nil | (apply ar_ev; (apply ev_move; rfl); rfl) | (apply ar_ev; (first | exact ev_call rfl rfl hat | (apply ev_assign; rfl) | (apply ev_inc; rfl; exact (by first | omega | assumption)) | (apply ev_indexAddr_own0; rfl; rfl; exact (by first | omega | assumption); (focus ((repeat (first | exact Take.head | apply Take.tail | apply Take.right)); done))) | (apply ev_build; rfl; rfl; rfl)); rfl) | (apply ar_store; rfl; (focus ((repeat (first | exact Take.head | apply Take.tail | apply Take.right)); done)); rfl; rfl; exact (by first | rfl | assumption | exact get_map (by assumption)); rfl; rfl) | apply a_region | apply aw_exit | apply go_seq | apply go_seq_exit | apply go_block | apply go_block_exit | apply go_loop_exit)
        exact go_loop_back ⟨i + 1, by omega, by omega, Sub.of (by repeat (first | exact .nil | refine .cons rfl Le.refl ?_)) (by repeat (first | exact Takes.nil | exact takes_blk | exact takes_all | (apply takes_app; focus (repeat (first | exact takes_blk | exact takes_all | apply takes_right | apply takes_skip))) | (apply takes_cons; focus (repeat (first | exact Take.head | exact Take.rowc hset Take.head | apply Take.tail | apply Take.right))) | apply takes_right | apply takes_skip))⟩
    · obtain rfl : i = rs.length := by omega
      have hrow : List.take asked.length (asked.map encT) = asked.map encT := List.take_of_length_le (by simp)
      repeat' (first | apply ar_nil | (apply ar_ev; (apply ev_move; rfl); rfl) | (apply ar_ev; (apply ev_assign; rfl); rfl) | apply aw_seq | apply a_region | apply aw_block | apply aw_exit | apply go_seq | apply go_seq_exit | apply go_block_exit | apply go_loop_exit | (apply ar_new; (apply eff_append_nil; rfl; rfl; exact (by first | omega | assumption | (simp; done) | (simp; omega) | exact Nat.le_of_ble_eq_true rfl); exact (by first | omega | assumption | (simp; done) | (simp; omega) | exact Nat.le_of_ble_eq_true rfl)); exact .nil; rfl; intro lab))
      refine a_loop (fun g : Nat × Nat × List Tg => ⟨[(0, rsl rs), (2, vi M), (8, manV rs), (10, refV rs), (14, .own g.2.1 0 g.2.2.length), (15, vi g.1)], [(g.2.1, .row 35 2 (g.2.2.map encT))]⟩)
        (fun g => g.1 ≤ rs.length ∧ g.2.2.length ≤ asked.length + 9 * g.1) (fun g => rs.length - g.1) (0, lab, asked) (Sub.of (by repeat (first | exact .nil | refine .cons rfl Le.refl ?_)) (by repeat (first | exact Takes.nil | (apply Takes.cons; focus (repeat (first | exact Take.head | exact Take.rowc hrow Take.head | apply Take.tail | apply Take.right)))))) ⟨Nat.zero_le _, Nat.le_refl _⟩ ?_
      rintro ⟨i, l, L⟩ ⟨hi, hL⟩
      dsimp only at *
      repeat' (first | apply ar_nil | (apply ar_ev; (apply ev_move; rfl); rfl) | (apply ar_ev; (first | (apply ev_lss; rfl; rfl) | (apply ev_len_sl; rfl)); rfl) | apply aw_seq | apply a_region | apply go_seq)
      refine aw_condp rfl (fun hk => ?_) (fun hk => ?_)
      · obtain ⟨r, hre⟩ : ∃ r, rs[i]? = some r := ⟨_, List.getElem?_eq_getElem (by omega)⟩
        have hr2 := rsl_get hre
        have h8r := h8 r (List.mem_of_getElem? hre)
        have e1 : List.take L.length (List.drop 0 (L.map encT)) ++ List.take 1 [encT r.1] = (L ++ [r.1]).map encT := by
          rw [List.drop_zero, List.take_of_length_le (by simp)]; simp
        have e2 : List.take (L.length + 1) (List.drop 0 ((L ++ [r.1]).map encT)) ++ List.take r.2.length (r.2.map encT) = (L ++ [r.1] ++ r.2).map encT := by
          rw [List.drop_zero, List.take_of_length_le (by simp), List.take_of_length_le (by simp)]; simp
        repeat' ((fail_if_success (show AW _ (.region 21 _ _) _ _)); (first | apply ar_nil | (apply ar_ev; (apply ev_move; rfl); rfl) | (apply ar_ev; (first | (apply ev_fieldAddr_ip; rfl) | (apply ev_assign; rfl) | (apply ev_load_ip_agg; rfl; exact Nat.le_of_ble_eq_true rfl) | (apply ev_indexAddr_sl; rfl; rfl; exact (by first | omega | assumption); exact (by first | rfl | assumption | exact get_map (by assumption))) | (apply ev_buildSlice; rfl; rfl; rfl; rfl; rfl; rfl; rfl)); rfl) | apply aw_seq | apply a_region | apply aw_block | apply aw_skip | apply go_seq | (apply ar_append; rfl; (focus ((repeat (first | exact Take.head | apply Take.tail | apply Take.right)); done)); rfl; exact (by first | omega | assumption | (simp; done) | (simp; omega) | exact Nat.le_of_ble_eq_true rfl); exact (by first | omega | assumption | (simp; done) | (simp; omega) | exact Nat.le_of_ble_eq_true rfl); exact (by first | omega | assumption | (simp; done) | (simp; omega) | exact Nat.le_of_ble_eq_true rfl); rfl; intro lab)))
        refine AW.sub (st' := ⟨[(0, rsl rs), (2, vi M), (8, manV rs), (10, refV rs), (14, .own lab 0 (L.length + 1)), (15, vi i)], [(lab, .row 35 2 ((L ++ [r.1]).map encT))]⟩) (Sub.of (by repeat (first | exact .nil | refine .cons rfl Le.refl ?_)) (by repeat (first | exact Takes.nil | (apply Takes.cons; focus (repeat (first | exact Take.head | exact Take.rowc e1 Take.head | apply Take.tail | apply Take.right)))))) ?_
        generalize lab = lA
        repeat' (first | apply ar_nil | (apply ar_ev; (apply ev_move; rfl); rfl) | (apply ar_ev; (first | (apply ev_load_ip_one; rfl; rfl) | (apply ev_fieldAddr_ip; rfl) | (apply ev_assign; rfl) | (apply ev_inc; rfl; exact (by first | omega | assumption)) | (apply ev_indexAddr_sl; rfl; rfl; exact (by first | omega | assumption); exact (by first | rfl | assumption | exact get_map (by assumption)))); rfl) | apply a_region | apply go_seq | apply go_block | (apply ar_append; rfl; (focus ((repeat (first | exact Take.head | apply Take.tail | apply Take.right)); done)); rfl; exact (by first | omega | assumption | (simp; done) | (simp; omega) | exact Nat.le_of_ble_eq_true rfl); exact (by first | omega | assumption | (simp; done) | (simp; omega) | exact Nat.le_of_ble_eq_true rfl); exact (by first | omega | assumption | (simp; done) | (simp; omega) | exact Nat.le_of_ble_eq_true rfl); rfl; intro lab))
        have hl2 : (L ++ [r.1] ++ r.2).length = L.length + 1 + r.2.length := by simp; omega
        exact go_loop_back ⟨(i + 1, lab, L ++ [r.1] ++ r.2), ⟨by dsimp only; omega, by dsimp only; omega⟩, by dsimp only; omega, by dsimp only; rw [hl2]; exact Sub.of (by repeat (first | exact .nil | refine .cons rfl Le.refl ?_)) (by repeat (first | exact Takes.nil | (apply Takes.cons; focus (repeat (first | exact Take.head | exact Take.rowc e2 Take.head | apply Take.tail | apply Take.right)))))⟩
      · obtain rfl : i = rs.length := by omega
        refine aw_cv 14 (us := [(l, .row 35 2 (L.map encT))]) (y := tsl L) rfl (.cons .head .nil) (Cv.own0 .head (by simp)) ?_
        repeat' (first | apply ar_nil | (apply ar_ev; (apply ev_assign; rfl); rfl) | apply aw_seq | apply a_region | apply aw_block | apply aw_exit | apply go_seq | apply go_seq_exit | apply go_block_exit | apply go_loop_exit)
        refine a_loop (fun i : Nat => ⟨[(2, vi M), (8, manV rs), (10, refV rs), (14, tsl L), (16, vi i)], []⟩)
          (fun i => i ≤ L.length) (fun i => L.length - i) 0 (Sub.of (by repeat (first | exact .nil | refine .cons rfl Le.refl ?_)) (by repeat (first | exact Takes.nil | (apply Takes.cons; focus (repeat (first | exact Take.head | apply Take.tail | apply Take.right)))))) (Nat.zero_le _) ?_
        intro i hi
        repeat' (first | apply ar_nil | (apply ar_ev; (apply ev_move; rfl); rfl) | (apply ar_ev; (first | (apply ev_lss; rfl; rfl) | (apply ev_len_sl; rfl)); rfl) | apply aw_seq | apply a_region | apply go_seq)
        refine aw_condp rfl (fun hk => ?_) (fun hk => ?_)
        · obtain ⟨t, ht⟩ : ∃ t, L[i]? = some t := ⟨_, List.getElem?_eq_getElem (by omega)⟩
          have ht2 := tsl_get ht
          have hp1 := PlanF_ok rs hr t M
          have hp2 := RPlan_ok rs (by omega) h8 t M
          have hp3 := PlanF_ok rs hr t 8
          have hp4 := RPlan_ok rs (by omega) h8 t 8
          have hw1 := wfold_len (nm := nmOf rs) (root := t) (most := mostN M) (nmOf rs t) [] (Nat.zero_le _)
          have hs1 := same_ok (planN (nmOf rs) (mostN M) t) (planN (nmOf rs) (mostN M) t) (by have : mostN M ≤ 8 := by (unfold mostN; omega)
                                                                                              unfold planN; omega)
          have hs2 := same_ok (planN (nmOf rs) (mostN 8) t) (planN (nmOf rs) (mostN 8) t) (by have := wfold_len (nm := nmOf rs) (root := t) (most := mostN 8) (nmOf rs t) [] (Nat.zero_le _)
                                                                                              have : mostN 8 = 8 := rfl
                                                                                              unfold planN; omega)
          rw [decide_eq_true rfl] at hs1 hs2
          repeat' (first | apply ar_nil | (apply ar_ev; (apply ev_move (y := .val (.bool false)); rfl); rfl) | (apply ar_ev; (apply ev_move; rfl); rfl) | (apply ar_ev; (first | exact ev_call rfl rfl hp1 | exact ev_call rfl rfl hp2 | exact ev_call rfl rfl hs1 | (apply ev_assign; rfl) | (apply ev_pick_f; rfl; rfl) | (apply ev_load_ip_agg; rfl; exact Nat.le_of_ble_eq_true rfl) | (apply ev_inc; rfl; exact (by first | omega | assumption)) | (apply ev_not; rfl) | (apply ev_indexAddr_sl; rfl; rfl; exact (by first | omega | assumption); exact (by first | rfl | assumption | exact get_map (by assumption)))); rfl) | (apply ar_take; rfl; rfl; rfl; (apply ev_move; rfl); rfl) | (apply ar_take; rfl; rfl; rfl; (first | exact ev_call rfl rfl hp3 | exact ev_call rfl rfl hp4 | exact ev_call rfl rfl hs2 | (apply ev_load_ip_agg; rfl; exact Nat.le_of_ble_eq_true rfl) | (apply ev_not; rfl) | (apply ev_indexAddr_sl; rfl; rfl; exact (by first | omega | assumption); exact (by first | rfl | assumption | exact get_map (by assumption)))); rfl) | apply aw_seq | apply a_region | apply aw_block | apply aw_skip | (apply aw_cond_f; rfl) | apply go_seq | apply go_block | (first | (apply a_drawN 2; rfl; rfl) | (apply a_drawN 3; rfl; rfl) | (apply a_drawN 4; rfl; rfl) | (apply a_drawN 5; rfl; rfl) | (apply a_drawN 6; rfl; rfl) | (apply a_drawN 7; rfl; rfl) | (apply a_drawN 8; rfl; rfl) | (apply a_drawN 9; rfl; rfl) | (apply a_drawN 10; rfl; rfl) | (apply a_drawN 11; rfl; rfl) | (apply a_drawN 12; rfl; rfl) | (apply a_drawN 13; rfl; rfl) | (apply a_drawN 14; rfl; rfl) | (apply a_drawN 15; rfl; rfl) | (apply a_drawN 16; rfl; rfl) | (apply a_drawN 17; rfl; rfl) | (apply a_drawN 18; rfl; rfl) | (apply a_drawN 19; rfl; rfl) | (apply a_drawN 20; rfl; rfl) | (apply a_drawN 21; rfl; rfl) | (apply a_drawN 22; rfl; rfl) | (apply a_drawN 23; rfl; rfl) | (apply a_drawN 24; rfl; rfl) | (apply a_drawN 25; rfl; rfl) | (apply a_drawN 26; rfl; rfl) | (apply a_drawN 27; rfl; rfl) | (apply a_drawN 28; rfl; rfl) | (apply a_drawN 29; rfl; rfl) | (apply a_drawN 30; rfl; rfl) | (apply a_drawN 31; rfl; rfl) | (apply a_drawN 32; rfl; rfl) | (apply a_drawN 33; rfl; rfl) | (apply a_drawN 34; rfl; rfl) | (apply a_drawN 35; rfl; rfl) | (apply a_drawN 36; rfl; rfl) | (apply a_drawN 37; rfl; rfl) | (apply a_drawN 38; rfl; rfl) | (apply a_drawN 39; rfl; rfl) | (apply a_drawN 40; rfl; rfl) | (apply a_drawN 41; rfl; rfl) | (apply a_drawN 42; rfl; rfl) | (apply a_drawN 43; rfl; rfl) | (apply a_drawN 44; rfl; rfl) | (apply a_drawN 45; rfl; rfl)))
          exact go_loop_back ⟨i + 1, by omega, by omega, Sub.of (by repeat (first | exact .nil | refine .cons rfl Le.refl ?_)) (by repeat (first | exact Takes.nil | (apply Takes.cons; focus (repeat (first | exact Take.head | apply Take.tail | apply Take.right)))))⟩
        · repeat' (first | apply ar_nil | (apply ar_ev; (apply ev_assign; rfl); rfl) | apply aw_seq | apply a_region | apply aw_exit | apply aw_ret | apply go_seq | apply go_seq_exit | apply go_block_exit | apply go_loop_exit)
          exact g_ret1 (r_tmp rfl) .nil rfl
end Go.Proofs.Ytkidjeejhhfbpaa
