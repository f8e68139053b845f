import Derived.Test.YtkidjeejhhfbpaaO
set_option linter.unusedVariables false
set_option linter.unusedSimpArgs false
set_option maxRecDepth 100000
namespace Go.Proofs.Ytkidjeejhhfbpaa
open Go.Proofs Go.Proofs.YtkidjeejhhfbpaaA

theorem onesR (r : Rl) : onesL (encR r) := fun y hy => by
  simp only [List.mem_cons, List.not_mem_nil, or_false] at hy
  rcases hy with rfl | rfl | rfl <;> rfl
theorem cvr_M2 (ts : List (Nat × Tok)) : ∀ ps : List Pr, (∀ p, p ∈ toksM ps → p ∈ ts) → Cvr ts (rowsP ps ++ [rowM]) ((ps.map (·.1)).map encR ++ [encR (mk, [])])
  | [], _ => .cons (Cvs.cons .refl (Cvs.cons .refl (Cvs.cons (.le Le.nil) .nil))) (onesR (mk, [])) .nil
  | p :: ps, h => by
    obtain ⟨r, hr⟩ := take_mem (h _ List.mem_cons_self)
    exact .cons (Cvs.cons .refl (Cvs.cons .refl (Cvs.cons (Cv.own_pre hr (by simp)) .nil))) (onesR p.1) (cvr_M2 ts ps fun q hq => h q (List.mem_cons_of_mem _ hq))
theorem lent_cv {ts : List (Nat × Tok)} {lg : Nat} {ps : List Pr} {rs : List Rl} {r : List (Nat × Tok)} (hps : ps.map (·.1) = rs) (ht : Take ts lg (.row 37 3 (rowsP ps ++ [rowM])) r) (h : ∀ p, p ∈ toksM ps → p ∈ ts) : Cv ts (.own lg 0 rs.length) (rsl rs) := by
  subst hps
  refine (Cv.ownr ht (by simp [rowsP]) (cvr_M2 ts ps h)).trans (.le ?_)
  exact Le.take (by simp)
theorem lent_cvK {ts : List (Nat × Tok)} {lg : Nat} {ps : List Pr} {rs : List Rl} {r : List (Nat × Tok)} (hps : ps.map (·.1) = rs) (ht : Take ts lg (.row 37 3 (rowsP ps ++ [rowM])) r) (h : ∀ p, p ∈ toksM ps → p ∈ ts) : Cv ts (.own lg 0 rs.length) (.sl 3 (rs.map rowK ++ [encR (mk, [])]) rs.length) := by
  subst hps
  exact Cv.ownr ht (by simp [rowsP]) (cvr_K ts ps h)

set_option maxHeartbeats 8000000 in
theorem lent_ok (rs : List Rl) (hn : rs.length ≤ 1048576) (hr : ∀ r, r ∈ rs → r.2.length ≤ 1048576) : FnC Try.prog 7 [] [rsl rs] (fun ts r => ∃ lg ps, ps.map (·.1) = rs ∧ ts = (lg, .row 37 3 (rowsP ps ++ [rowM])) :: toksM ps ∧ r = .own lg 0 rs.length) := by
  refine fn_of Try.func7 rfl Try.ntmps7 Try.results7 rfl fun G => ?_
  repeat' ((fail_if_success (show AW _ (.region 2 _ _) _ _)); (first | apply ar_nil | (apply ar_ev; (first | (apply ev_assign; rfl) | (apply ev_build; rfl; rfl; rfl)); rfl) | (apply ar_new; (first | apply eff_alloc | (apply eff_box; rfl; exact lies_of rfl) | (apply eff_conv_bytes; rfl; exact (by first | omega | assumption | (simp; done) | (simp; omega) | exact Nat.le_of_ble_eq_true rfl))); exact .nil; rfl; intro lab) | (apply ar_store; rfl; (focus ((repeat (first | exact Take.head | apply Take.tail | apply Take.right)); done)); rfl; rfl; exact (by first | rfl | assumption | exact get_map (by assumption)); rfl; rfl) | apply aw_seq | apply a_region | apply go_seq))
  refine aw_cv 3 (us := [(lab, .row 35 2 [encT mk])]) rfl (.cons .head .nil) (Cv.ptr0 .head rfl) ?_
  repeat' ((fail_if_success (show AW _ (.region 3 _ _) _ _)); (first | apply ar_nil | (apply ar_ev; (apply ev_assign; rfl); rfl) | apply aw_seq | apply a_region | apply go_seq))
  refine aw_adopt 4 37 3 rfl fun lg => ?_
  repeat' (first | apply ar_nil | (apply ar_ev; (apply ev_assign; rfl); rfl) | apply a_region | apply aw_block | apply go_seq)
  have h0 : ([] : List (List AV)) = rowsP [] := rfl
  refine a_loop (fun g : Nat × Nat × List Pr => ⟨[(0, rsl rs), (3, .ip (encT mk)), (4, .own g.2.1 0 g.1), (5, vi g.1)], (g.2.1, .row 37 3 (rowsP g.2.2)) :: toksM g.2.2⟩)
    (fun g => g.1 ≤ rs.length ∧ g.2.2.map (·.1) = rs.take g.1) (fun g => rs.length - g.1) (0, lg, []) (Sub.of (by repeat (first | exact .nil | refine .cons rfl Le.refl ?_)) (by repeat (first | exact Takes.nil | (apply Takes.cons; focus (repeat (first | exact Take.head | exact Take.rowc h0 Take.head | apply Take.tail | apply Take.right)))))) ⟨Nat.zero_le _, rfl⟩ ?_
  rintro ⟨i, l, ps⟩ ⟨hi, hps⟩
  dsimp only at *
  have hpl : (rowsP ps).length = i := by rw [rowsP_len]; have := congrArg List.length hps; rw [List.length_map, List.length_take] at this; omega
  repeat' (first | apply ar_nil | (apply ar_ev; (apply ev_move; rfl); rfl) | (apply ar_ev; (first | (apply ev_lss; rfl; rfl) | (apply ev_len_sl; rfl)); rfl) | apply aw_seq | apply a_region | apply go_seq)
  refine aw_condp rfl (fun hk => ?_) (fun hk => ?_)
  · obtain ⟨r, hre⟩ : ∃ r, rs[i]? = some r := ⟨_, List.getElem?_eq_getElem (by omega)⟩
    have hr2 := rsl_get hre
    have hpn := hr r (List.mem_of_getElem? hre)
    repeat' ((fail_if_success (show AW _ (.region 8 _ _) _ _)); (first | apply ar_nil | (apply ar_ev; (apply ev_move; rfl); rfl) | (apply ar_ev; (first | (apply ev_load_ip_one; rfl; rfl) | (apply ev_fieldAddr_ip; rfl) | (apply ev_assign; rfl) | (apply ev_indexAddr_sl; rfl; rfl; exact (by first | omega | assumption); exact (by first | rfl | assumption | exact get_map (by assumption)))); rfl) | apply aw_seq | apply a_region | apply aw_block | apply aw_skip | apply go_seq | (apply ar_new; (apply eff_append_nil; rfl; rfl; exact (by first | omega | assumption | (simp; done) | (simp; omega) | exact Nat.le_of_ble_eq_true rfl); exact (by first | omega | assumption | (simp; done) | (simp; omega) | exact Nat.le_of_ble_eq_true rfl)); exact .nil; rfl; intro lab)))
    generalize lab = l6 at *
    have hm0 : (List.take r.2.length (r.2.map encT)).length = r.2.length := by simp
    refine a_mix [true, true, true, true, true, true, true, true, true, false, true, true, true, true, true, true, false, true, true, false, true] [0, 1, 2, 3, 4, 5, 6, 7, 8, 10, 11, 12, 13, 14, 15, 9, 16, 17, 18, 19, 20] (by kernel_rfl) (by repeat (first | exact Als.nil | (apply Als.al; rfl) | (apply Als.other; rfl))) (Takes.cons (l := l6) (by repeat (first | exact Take.head | apply Take.tail | apply Take.right)) (Takes.cons (l := l) (by repeat (first | exact Take.head | apply Take.tail | apply Take.right)) Takes.nil)) ?_
    repeat' ((fail_if_success (show AW _ (.region 5 _ _) _ _)); (first | (refine tl_append rfl rfl rfl inferInstance inferInstance rfl (by repeat (first | exact Take.head | apply Take.tail | apply Take.right)) rfl (by first | omega | (simp; done)) (by omega) (by omega) rfl ?_; intro lab) | apply go_seq | apply go_block | apply tl_nil | (apply tl_ev; rfl; rfl; (apply ev_move; rfl); rfl) | (apply tl_ev; rfl; rfl; (first | (apply ev_load_ip_one; rfl; rfl) | (apply ev_fieldAddr_ip; rfl) | (apply ev_assign; rfl) | (apply ev_load_ip_agg; rfl; exact Nat.le_of_ble_eq_true rfl) | (apply ev_len_sl; rfl) | (apply ev_indexAddr_sl; rfl; rfl; exact (by first | omega | assumption); exact (by first | rfl | assumption | exact get_map (by assumption))) | (apply ev_build; rfl; rfl; rfl) | (apply ev_buildSlice; rfl; rfl; rfl; rfl; rfl; rfl; rfl)); rfl) | (apply tl_evw; rfl; rfl; rfl; (apply ev_slice_own; rfl; (focus ((repeat (first | exact Take.head | apply Take.tail | apply Take.right)); done)); exact (by first | exact LoB.none | exact LoB.some (l := 0) rfl | exact LoB.some (l := 1) rfl | exact LoB.some rfl); exact (by first | exact HiB.none | exact HiB.some rfl); exact (by first | omega | assumption); exact (by first | omega | assumption | (simp; done) | (simp; omega) | exact Nat.le_of_ble_eq_true rfl)); rfl)))
    rename_i l30
    have hrow1 : List.take i (List.drop 0 (rowsP ps)) ++ List.take 1 [[vs r.1.1, vs r.1.2, .own l30 (0 + 0) (r.2.length - 0)]] = rowsP (ps ++ [(r, l30)]) := by
      rw [List.drop_zero, List.take_of_length_le (by omega)]; simp [rowsP]
    have hrow2 : List.take r.2.length (List.drop 0 (List.take r.2.length (r.2.map encT))) ++ List.take 1 [encT mk] = r.2.map encT ++ [encT mk] := by
      rw [List.drop_zero, List.take_take, Nat.min_self, List.take_of_length_le (by simp)]; rfl
    repeat' (first | apply ar_nil | (apply ar_ev; (apply ev_move; rfl); rfl) | (apply ar_ev; (first | (apply ev_assign; rfl) | (apply ev_inc; rfl; exact (by first | omega | assumption))); rfl) | apply a_region)
    refine go_loop_back ⟨(i+1, lab, ps ++ [(r, l30)]), ⟨by omega, by dsimp only; rw [List.map_append, hps, List.take_add_one, hre]; rfl⟩, by simp only; omega, by dsimp only; rw [toksM_snoc]; exact Sub.of (by repeat (first | exact .nil | refine .cons rfl Le.refl ?_)) (by repeat (first | exact Takes.nil | exact takes_blk | exact takes_all | (apply takes_app; focus (repeat (first | exact takes_blk | exact takes_all | apply takes_right | apply takes_skip))) | (apply takes_cons; focus (repeat (first | exact Take.head | exact Take.rowc hrow1 Take.head | exact Take.rowc hrow2 Take.head | apply Take.tail | apply Take.right))) | apply takes_right | apply takes_skip))⟩
  · obtain rfl : i = rs.length := by omega
    rw [List.take_length] at hps
    have hrow3 : List.take rs.length (List.drop 0 (rowsP ps)) ++ List.take 1 [rowM] = rowsP ps ++ [rowM] := by
      rw [List.drop_zero, List.take_of_length_le (by omega)]; rfl
    repeat' (first | apply ar_nil | (apply ar_ev; (apply ev_move; rfl); rfl) | (apply ar_ev; (first | (apply ev_assign; rfl) | (apply ev_load_ip_agg; rfl; exact Nat.le_of_ble_eq_true rfl) | (apply ev_len_sl; rfl) | (apply ev_slice_own; rfl; (focus ((repeat (first | exact Take.head | apply Take.tail | apply Take.right)); done)); exact (by first | exact LoB.none | exact LoB.some (l := 0) rfl | exact LoB.some (l := 1) rfl | exact LoB.some rfl); exact (by first | exact HiB.none | exact HiB.some rfl); exact (by first | omega | assumption); exact (by first | omega | assumption | (simp; done) | (simp; omega) | exact Nat.le_of_ble_eq_true rfl)) | (apply ev_build; rfl; rfl; rfl) | (apply ev_buildSlice; rfl; rfl; rfl; rfl; rfl; rfl; rfl)); rfl) | apply aw_seq | apply a_region | apply aw_exit | apply aw_ret | apply go_seq | apply go_seq_exit | apply go_block_exit | apply go_loop_exit | (apply ar_append; rfl; (focus ((repeat (first | exact Take.head | apply Take.tail | apply Take.right)); done)); rfl; exact (by first | omega | assumption | (simp; done) | (simp; omega) | exact Nat.le_of_ble_eq_true rfl); exact (by first | omega | assumption | (simp; done) | (simp; omega) | exact Nat.le_of_ble_eq_true rfl); exact (by first | omega | assumption | (simp; done) | (simp; omega) | exact Nat.le_of_ble_eq_true rfl); rfl; intro lab))
    refine g_ret1 (r_tmp rfl) (us := (lab, .row 37 3 (rowsP ps ++ [rowM])) :: toksM ps) (Takes.cons (l := lab) (Take.rowc hrow3 .head) takes_all) ⟨lab, ps, hps, rfl, by simp⟩
end Go.Proofs.Ytkidjeejhhfbpaa
