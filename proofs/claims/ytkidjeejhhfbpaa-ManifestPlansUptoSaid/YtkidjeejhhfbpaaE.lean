import Derived.Test.YtkidjeejhhfbpaaD
set_option linter.unusedVariables false
set_option linter.unusedSimpArgs false
set_option maxRecDepth 100000
namespace Go.Proofs.Ytkidjeejhhfbpaa
open Go.Proofs Go.Proofs.YtkidjeejhhfbpaaA

theorem sl_take (l : List Tg) (i : Nat) (hi : i ≤ l.length) : Le (.sl 2 (l.map encT) i) (tsl (l.take i)) := by
  have := Le.take (k := 2) (n := i) (xs := (l.take i).map encT) (ys := (l.drop i).map encT) (by rw [List.length_map, List.length_take]; omega)
  rw [← List.map_append, List.take_append_drop] at this
  have e : (l.take i).length = i := by rw [List.length_take]; omega
  show Le _ (.sl 2 ((l.take i).map encT) (l.take i).length)
  rwa [e]
def refV (rs : List Rl) : AV := .ip [rsl rs]
set_option maxHeartbeats 16000000 in
theorem ROf_ok (rs : List Rl) (hn : rs.length ≤ 1099511627776) (hr : ∀ r, r ∈ rs → OkR r) : PFn Try.prog 9 [rsl rs] (ofV rs (refV rs)) := by
  refine pfn_cv (Post := fun ts r => Cv ts r (ofV rs (refV rs))) ?_ (fun _ _ h => h)
  refine fn_of Try.func9 rfl Try.ntmps9 Try.results9 rfl fun G => ?_
  have he : errN rs = if 64 < rs.length ∨ rs.any longR = true then 3 else if rs.any wrongR = true then 180 else if dupR rs = true then 7 else 0 := rfl
  repeat' (first | apply ar_nil | (apply ar_ev; (apply ev_move; rfl); rfl) | (apply ar_ev; (first | (apply ev_assign; rfl) | (apply ev_gtr; rfl; rfl) | (apply ev_len_sl; rfl)); rfl) | apply aw_seq | apply a_region | apply aw_block | apply aw_skip | apply aw_ret | (apply aw_condp; rfl; all_goals (intro hc; try (exfalso; first | omega | contradiction | (simp at hc; omega) | (simp_all; done)))) | apply go_seq | apply go_seq_ret)
  · rw [if_pos (.inl (by omega))] at he
    exact g_ret2 (r_tmp rfl) (r_tmp rfl) .nil (by unfold ofV; rw [he]; exact .refl)
  have h64 := hc; clear hc
  refine a_loop (fun i : Nat => ⟨[(0, rsl rs), (4, vi i)], []⟩) (fun i => i ≤ rs.length ∧ (rs.take i).any longR = false) (fun i => rs.length - i) 0 (Sub.of (by repeat (first | exact .nil | refine .cons rfl Le.refl ?_)) (by repeat (first | exact Takes.nil | (apply Takes.cons; focus (repeat (first | exact Take.head | apply Take.tail | apply Take.right)))))) ⟨Nat.zero_le _, rfl⟩ ?_
  rintro i ⟨hi, hx⟩
  repeat' (first | apply ar_nil | (apply ar_ev; (apply ev_move; rfl); rfl) | (apply ar_ev; (first | (apply ev_lss; rfl; rfl) | (apply ev_len_sl; rfl)); rfl) | apply aw_seq | apply a_region | apply go_seq)
  refine aw_condp rfl (fun hk => ?_) (fun hk => ?_)
  · obtain ⟨r, hre⟩ : ∃ r, rs[i]? = some r := ⟨_, List.getElem?_eq_getElem (by omega)⟩
    have hr2 := rsl_get hre
    repeat' (first | apply ar_nil | (apply ar_ev; (apply ev_move; rfl); rfl) | (apply ar_ev; (first | (apply ev_load_ip_one; rfl; rfl) | (apply ev_fieldAddr_ip; rfl) | (apply ev_assign; rfl) | (apply ev_gtr; rfl; rfl) | (apply ev_inc; rfl; exact (by first | omega | assumption)) | (apply ev_len_sl; rfl) | (apply ev_indexAddr_sl; rfl; rfl; exact (by first | omega | assumption); exact (by first | rfl | assumption | exact get_map (by assumption)))); rfl) | apply aw_seq | apply a_region | apply aw_block | apply aw_skip | apply aw_ret | (apply aw_condp; rfl; all_goals (intro hc; try (exfalso; first | omega | contradiction | (simp at hc; omega) | (simp_all; done)))) | apply go_seq | apply go_seq_ret | apply go_block | apply go_block_ret | apply go_loop_ret)
    · rw [if_pos (.inr (any_of_get hre (p := longR) (decide_eq_true (by omega))))] at he
      exact g_ret2 (r_tmp rfl) (r_tmp rfl) .nil (by unfold ofV; rw [he]; exact .refl)
    · exact go_loop_back ⟨i + 1, ⟨by omega, any_take hre hx (decide_eq_false (by omega))⟩, by omega, Sub.of (by repeat (first | exact .nil | refine .cons rfl Le.refl ?_)) (by repeat (first | exact Takes.nil | (apply Takes.cons; focus (repeat (first | exact Take.head | apply Take.tail | apply Take.right)))))⟩
  obtain rfl : i = rs.length := by omega
  rw [List.take_length] at hx
  rw [if_neg (by rintro (h | h); omega; rw [hx] at h; cases h)] at he
  clear hi hk hx
  repeat' (first | apply ar_nil | (apply ar_ev; (apply ev_assign; rfl); rfl) | apply aw_seq | apply a_region | apply aw_block | apply aw_exit | apply go_seq | apply go_seq_exit | apply go_block_exit | apply go_loop_exit)
  refine a_loop (fun i : Nat => ⟨[(0, rsl rs), (5, vi i)], []⟩) (fun i => i ≤ rs.length ∧ (rs.take i).any wrongR = false) (fun i => rs.length - i) 0 (Sub.of (by repeat (first | exact .nil | refine .cons rfl Le.refl ?_)) (by repeat (first | exact Takes.nil | (apply Takes.cons; focus (repeat (first | exact Take.head | apply Take.tail | apply Take.right)))))) ⟨Nat.zero_le _, rfl⟩ ?_
  rintro i ⟨hi, hx⟩
  repeat' (first | apply ar_nil | (apply ar_ev; (apply ev_move; rfl); rfl) | (apply ar_ev; (first | (apply ev_lss; rfl; rfl) | (apply ev_len_sl; rfl)); rfl) | apply aw_seq | apply a_region | apply go_seq)
  refine aw_condp rfl (fun hk => ?_) (fun hk => ?_)
  · obtain ⟨r, hre⟩ : ∃ r, rs[i]? = some r := ⟨_, List.getElem?_eq_getElem (by omega)⟩
    have hr2 := rsl_get hre
    have hrok := hr r (List.mem_of_getElem? hre)
    have hR := Right_ok r.1 hrok.of.a hrok.of.p
    have hpl := hrok.len
    cases hB : rightB r.1
    · rw [hB] at hR
      repeat' (first | apply ar_nil | (apply ar_ev; (apply ev_move; rfl); rfl) | (apply ar_ev; (first | exact ev_call rfl rfl hR | (apply ev_fieldAddr_ip; rfl) | (apply ev_assign; rfl) | (apply ev_load_ip_agg; rfl; exact Nat.le_of_ble_eq_true rfl) | (apply ev_not; rfl) | (apply ev_indexAddr_sl; rfl; rfl; exact (by first | omega | assumption); exact (by first | rfl | assumption | exact get_map (by assumption)))); rfl) | apply aw_seq | apply a_region | apply aw_block | apply aw_skip | apply aw_ret | (apply aw_cond_t; rfl) | apply go_seq | apply go_seq_ret | apply go_block_ret | apply go_loop_ret)
      rw [if_pos (any_of_get hre (p := wrongR) (by unfold wrongR; rw [hB]; rfl))] at he
      exact g_ret2 (r_tmp rfl) (r_tmp rfl) .nil (by unfold ofV; rw [he]; exact .refl)
    rw [hB] at hR
    repeat' (first | apply ar_nil | (apply ar_ev; (apply ev_move; rfl); rfl) | (apply ar_ev; (first | exact ev_call rfl rfl hR | (apply ev_fieldAddr_ip; rfl) | (apply ev_assign; rfl) | (apply ev_load_ip_agg; rfl; exact Nat.le_of_ble_eq_true rfl) | (apply ev_not; rfl) | (apply ev_indexAddr_sl; rfl; rfl; exact (by first | omega | assumption); exact (by first | rfl | assumption | exact get_map (by assumption)))); rfl) | apply aw_seq | apply a_region | apply aw_block | apply aw_skip | (apply aw_cond_f; rfl) | apply go_seq)
    refine a_loop (fun j : Nat => ⟨[(0, rsl rs), (5, vi i), (6, vi j)], []⟩) (fun j => j ≤ r.2.length ∧ (r.2.take j).any (fun t => !rightB t) = false) (fun j => r.2.length - j) 0 (Sub.of (by repeat (first | exact .nil | refine .cons rfl Le.refl ?_)) (by repeat (first | exact Takes.nil | (apply Takes.cons; focus (repeat (first | exact Take.head | apply Take.tail | apply Take.right)))))) ⟨Nat.zero_le _, rfl⟩ ?_
    rintro j ⟨hj, hjx⟩
    repeat' (first | apply ar_nil | (apply ar_ev; (apply ev_move; rfl); rfl) | (apply ar_ev; (first | (apply ev_load_ip_one; rfl; rfl) | (apply ev_fieldAddr_ip; rfl) | (apply ev_lss; rfl; rfl) | (apply ev_len_sl; rfl) | (apply ev_indexAddr_sl; rfl; rfl; exact (by first | omega | assumption); exact (by first | rfl | assumption | exact get_map (by assumption)))); rfl) | apply aw_seq | apply a_region | apply go_seq)
    refine aw_condp rfl (fun hk2 => ?_) (fun hk2 => ?_)
    · obtain ⟨t, hte⟩ : ∃ t, r.2[j]? = some t := ⟨_, List.getElem?_eq_getElem (by omega)⟩
      have ht2 := tsl_get hte
      have htok := hrok.push t (List.mem_of_getElem? hte)
      have hT := Right_ok t htok.a htok.p
      cases hB2 : rightB t
      · rw [hB2] at hT
        repeat' (first | apply ar_nil | (apply ar_ev; (apply ev_move; rfl); rfl) | (apply ar_ev; (first | exact ev_call rfl rfl hT | (apply ev_load_ip_one; rfl; rfl) | (apply ev_fieldAddr_ip; rfl) | (apply ev_assign; rfl) | (apply ev_load_ip_agg; rfl; exact Nat.le_of_ble_eq_true rfl) | (apply ev_not; rfl) | (apply ev_indexAddr_sl; rfl; rfl; exact (by first | omega | assumption); exact (by first | rfl | assumption | exact get_map (by assumption)))); rfl) | apply aw_seq | apply a_region | apply aw_block | apply aw_skip | apply aw_ret | (apply aw_cond_t; rfl) | apply go_seq | apply go_seq_ret | apply go_block_ret | apply go_loop_ret)
        rw [if_pos (any_of_get hre (p := wrongR) (by unfold wrongR; rw [any_of_get hte (p := fun t => !rightB t) (by rw [hB2]; rfl), Bool.or_true]))] at he
        exact g_ret2 (r_tmp rfl) (r_tmp rfl) .nil (by unfold ofV; rw [he]; exact .refl)
      · rw [hB2] at hT
        repeat' (first | apply ar_nil | (apply ar_ev; (apply ev_move; rfl); rfl) | (apply ar_ev; (first | exact ev_call rfl rfl hT | (apply ev_load_ip_one; rfl; rfl) | (apply ev_fieldAddr_ip; rfl) | (apply ev_assign; rfl) | (apply ev_load_ip_agg; rfl; exact Nat.le_of_ble_eq_true rfl) | (apply ev_inc; rfl; exact (by first | omega | assumption)) | (apply ev_not; rfl) | (apply ev_indexAddr_sl; rfl; rfl; exact (by first | omega | assumption); exact (by first | rfl | assumption | exact get_map (by assumption)))); rfl) | apply aw_seq | apply a_region | apply aw_block | apply aw_skip | (apply aw_cond_f; rfl) | apply go_seq | apply go_block)
        exact go_loop_back ⟨j + 1, ⟨by omega, any_take hte hjx (by rw [hB2]; rfl)⟩, by omega, Sub.of (by repeat (first | exact .nil | refine .cons rfl Le.refl ?_)) (by repeat (first | exact Takes.nil | (apply Takes.cons; focus (repeat (first | exact Take.head | apply Take.tail | apply Take.right)))))⟩
    · obtain rfl : j = r.2.length := by omega
      rw [List.take_length] at hjx
      repeat' (first | apply ar_nil | (apply ar_ev; (apply ev_move; rfl); rfl) | (apply ar_ev; (first | (apply ev_assign; rfl) | (apply ev_inc; rfl; exact (by first | omega | assumption))); rfl) | apply a_region | apply aw_exit | apply go_seq | apply go_seq_exit | apply go_block | apply go_block_exit | apply go_loop_exit)
      exact go_loop_back ⟨i + 1, ⟨by omega, any_take hre hx (by unfold wrongR; rw [hB, hjx]; rfl)⟩, by omega, Sub.of (by repeat (first | exact .nil | refine .cons rfl Le.refl ?_)) (by repeat (first | exact Takes.nil | (apply Takes.cons; focus (repeat (first | exact Take.head | apply Take.tail | apply Take.right)))))⟩
  obtain rfl : i = rs.length := by omega
  rw [List.take_length] at hx
  rw [if_neg (by rw [hx]; decide)] at he
  clear hi hk hx
  repeat' ((fail_if_success (show AW _ (.region 19 _ _) _ _)); (first | apply ar_nil | (apply ar_ev; (first | (apply ev_assign; rfl) | (apply ev_build; rfl; rfl; rfl)); rfl) | (apply ar_new; (first | apply eff_alloc | (apply eff_box; rfl; exact lies_of rfl) | (apply eff_conv_bytes; rfl; exact (by first | omega | assumption | (simp; done) | (simp; omega) | exact Nat.le_of_ble_eq_true rfl))); exact .nil; rfl; intro lab) | apply aw_seq | apply a_region | apply aw_exit | apply go_seq | apply go_seq_exit | apply go_block_exit | apply go_loop_exit))
  refine aw_adoptc (i := 0) (j := 0) 37 3 .head rfl rfl fun lL => ?_
  generalize lab = lp at *
  repeat' (first | apply ar_nil | (apply ar_ev; (apply ev_assign; rfl); rfl) | apply a_region | apply aw_block | apply go_seq)
  have h0 : ([] : List (List AV)) = ([] : List Rl).map encR := rfl
  refine a_loop (fun g : Nat × Nat => ⟨[(0, rsl rs), (7, .ptr lp 0 0), (8, vi g.1)], [(lp, .row 60 1 [[.own g.2 0 g.1]]), (g.2, .row 37 3 ((rs.take g.1).map encR))]⟩)
    (fun g => g.1 ≤ rs.length ∧ ((rs.take g.1).map (·.1)).Nodup ∧ (rs.take g.1).any (fun r => dupB r.2) = false) (fun g => rs.length - g.1) (0, lL) (Sub.of (by repeat (first | exact .nil | refine .cons rfl Le.refl ?_)) (by repeat (first | exact Takes.nil | (apply Takes.cons; focus (repeat (first | exact Take.head | exact Take.rowc h0 Take.head | apply Take.tail | apply Take.right)))))) ⟨Nat.zero_le _, by simp, rfl⟩ ?_
  rintro ⟨i, l⟩ ⟨hi, hd1, hd2⟩
  dsimp only at *
  repeat' (first | apply ar_nil | (apply ar_ev; (apply ev_move; rfl); rfl) | (apply ar_ev; (first | (apply ev_lss; rfl; rfl) | (apply ev_len_sl; rfl)); rfl) | apply aw_seq | apply a_region | apply go_seq)
  refine aw_condp rfl (fun hk => ?_) (fun hk => ?_)
  · obtain ⟨r, hre⟩ : ∃ r, rs[i]? = some r := ⟨_, List.getElem?_eq_getElem (by omega)⟩
    have hr2 := rsl_get hre
    have hrok := hr r (List.mem_of_getElem? hre)
    have hpl := hrok.len
    repeat' (first | apply ar_nil | (apply ar_ev; (apply ev_assign; rfl); rfl) | apply aw_seq | apply a_region | apply aw_block | apply aw_skip | apply go_seq)
    refine a_loop (fun j : Nat => ⟨[(0, rsl rs), (7, .ptr lp 0 0), (8, vi i), (9, vi j)], [(lp, .row 60 1 [[.own l 0 i]]), (l, .row 37 3 ((rs.take i).map encR))]⟩) (fun j => j ≤ i ∧ r.1 ∉ (rs.take j).map (·.1)) (fun j => i - j) 0 (Sub.of (by repeat (first | exact .nil | refine .cons rfl Le.refl ?_)) (by repeat (first | exact Takes.nil | (apply Takes.cons; focus (repeat (first | exact Take.head | apply Take.tail | apply Take.right)))))) ⟨Nat.zero_le _, by simp⟩ ?_
    rintro j ⟨hj, hjx⟩
    repeat' (first | apply ar_nil | (apply ar_ev; (apply ev_move; rfl); rfl) | (apply ar_ev; (apply ev_lss; rfl; rfl); rfl) | apply aw_seq | apply a_region | apply go_seq)
    refine aw_condp rfl (fun hk2 => ?_) (fun hk2 => ?_)
    · obtain ⟨q, hqe⟩ : ∃ q, rs[j]? = some q := ⟨_, List.getElem?_eq_getElem (by omega)⟩
      have hq2 := rsl_get hqe
      repeat' (first | apply ar_nil | (apply ar_ev; (apply ev_move; rfl); rfl) | (apply ar_ev; (first | exact ev_eqT rfl rfl | (apply ev_fieldAddr_ip; rfl) | (apply ev_assign; rfl) | (apply ev_load_ip_agg; rfl; exact Nat.le_of_ble_eq_true rfl) | (apply ev_inc; rfl; exact (by first | omega | assumption)) | (apply ev_indexAddr_sl; rfl; rfl; exact (by first | omega | assumption); exact (by first | rfl | assumption | exact get_map (by assumption)))); rfl) | apply aw_seq | apply a_region | apply aw_block | apply aw_skip | apply aw_ret | (apply aw_condp; rfl; all_goals (intro hc; try (exfalso; first | omega | contradiction | (simp at hc; omega) | (simp_all; done)))) | apply go_seq | apply go_seq_ret | apply go_block | apply go_block_ret | apply go_loop_ret | (first | (apply a_drawN 2; rfl; rfl) | (apply a_drawN 3; rfl; rfl) | (apply a_drawN 4; rfl; rfl) | (apply a_drawN 5; rfl; rfl) | (apply a_drawN 6; rfl; rfl) | (apply a_drawN 7; rfl; rfl) | (apply a_drawN 8; rfl; rfl) | (apply a_drawN 9; rfl; rfl) | (apply a_drawN 10; rfl; rfl) | (apply a_drawN 11; rfl; rfl) | (apply a_drawN 12; rfl; rfl) | (apply a_drawN 13; rfl; rfl) | (apply a_drawN 14; rfl; rfl) | (apply a_drawN 15; rfl; rfl) | (apply a_drawN 16; rfl; rfl) | (apply a_drawN 17; rfl; rfl) | (apply a_drawN 18; rfl; rfl) | (apply a_drawN 19; rfl; rfl) | (apply a_drawN 20; rfl; rfl) | (apply a_drawN 21; rfl; rfl) | (apply a_drawN 22; rfl; rfl) | (apply a_drawN 23; rfl; rfl) | (apply a_drawN 24; rfl; rfl) | (apply a_drawN 25; rfl; rfl) | (apply a_drawN 26; rfl; rfl) | (apply a_drawN 27; rfl; rfl) | (apply a_drawN 28; rfl; rfl) | (apply a_drawN 29; rfl; rfl) | (apply a_drawN 30; rfl; rfl) | (apply a_drawN 31; rfl; rfl) | (apply a_drawN 32; rfl; rfl) | (apply a_drawN 33; rfl; rfl) | (apply a_drawN 34; rfl; rfl) | (apply a_drawN 35; rfl; rfl) | (apply a_drawN 36; rfl; rfl) | (apply a_drawN 37; rfl; rfl) | (apply a_drawN 38; rfl; rfl) | (apply a_drawN 39; rfl; rfl) | (apply a_drawN 40; rfl; rfl) | (apply a_drawN 41; rfl; rfl) | (apply a_drawN 42; rfl; rfl) | (apply a_drawN 43; rfl; rfl) | (apply a_drawN 44; rfl; rfl) | (apply a_drawN 45; rfl; rfl)))
      · rw [teq] at hc
        rw [if_pos (dupR_there hre (by rw [← hc]; exact List.mem_map.2 ⟨q, List.mem_of_getElem? (i := j) (by rw [List.getElem?_take, if_pos (by omega)]; exact hqe), rfl⟩))] at he
        exact g_ret2 (r_tmp rfl) (r_tmp rfl) .nil (by unfold ofV; rw [he]; exact .refl)
      · rw [teq] at hc
        refine go_loop_back ⟨j + 1, ⟨by omega, ?_⟩, by omega, Sub.of (by repeat (first | exact .nil | refine .cons rfl Le.refl ?_)) (by repeat (first | exact Takes.nil | (apply Takes.cons; focus (repeat (first | exact Take.head | apply Take.tail | apply Take.right)))))⟩
        rw [List.take_add_one, hqe, List.map_append, List.mem_append]
        rintro (h | h)
        · exact hjx h
        · exact hc (List.mem_singleton.1 h).symm
    obtain rfl : j = i := by omega
    clear hj hk2
    repeat' (first | apply ar_nil | (apply ar_ev; (apply ev_assign; rfl); rfl) | apply aw_seq | apply a_region | apply aw_block | apply aw_exit | apply go_seq | apply go_seq_exit | apply go_block_exit | apply go_loop_exit)
    refine a_loop (fun k : Nat => ⟨[(0, rsl rs), (7, .ptr lp 0 0), (8, vi j), (10, vi k)], [(lp, .row 60 1 [[.own l 0 j]]), (l, .row 37 3 ((rs.take j).map encR))]⟩) (fun k => k ≤ r.2.length ∧ (r.2.take k).Nodup) (fun k => r.2.length - k) 0 (Sub.of (by repeat (first | exact .nil | refine .cons rfl Le.refl ?_)) (by repeat (first | exact Takes.nil | (apply Takes.cons; focus (repeat (first | exact Take.head | apply Take.tail | apply Take.right)))))) ⟨Nat.zero_le _, by simp⟩ ?_
    rintro k ⟨hkk, hkx⟩
    repeat' (first | apply ar_nil | (apply ar_ev; (apply ev_move; rfl); rfl) | (apply ar_ev; (first | (apply ev_load_ip_one; rfl; rfl) | (apply ev_fieldAddr_ip; rfl) | (apply ev_lss; rfl; rfl) | (apply ev_len_sl; rfl) | (apply ev_indexAddr_sl; rfl; rfl; exact (by first | omega | assumption); exact (by first | rfl | assumption | exact get_map (by assumption)))); rfl) | apply aw_seq | apply a_region | apply go_seq)
    refine aw_condp rfl (fun hk2 => ?_) (fun hk2 => ?_)
    · obtain ⟨t, hte⟩ : ∃ t, r.2[k]? = some t := ⟨_, List.getElem?_eq_getElem (by omega)⟩
      have ht2 := tsl_get hte
      have hin := In_ok (r.2.take k) t (by rw [List.length_take]; omega)
      have hle := sl_take r.2 k hkk
      have hst := nodup_step hte
      repeat' (first | apply ar_nil | (apply ar_ev; (apply ev_move; rfl); rfl) | (apply ar_ev; (first | (apply ev_callA hin; rfl; rfl; exact Les.cons hle (Les.cons Le.refl Les.nil)) | (apply ev_load_ip_one; rfl; rfl) | (apply ev_fieldAddr_ip; rfl) | (apply ev_assign; rfl) | (apply ev_load_ip_agg; rfl; exact Nat.le_of_ble_eq_true rfl) | (apply ev_inc; rfl; exact (by first | omega | assumption)) | (apply ev_indexAddr_sl; rfl; rfl; exact (by first | omega | assumption); exact (by first | rfl | assumption | exact get_map (by assumption))) | (apply ev_slice_sl; rfl; exact (by first | exact LoB.none | exact LoB.some (l := 0) rfl | exact LoB.some (l := 1) rfl | exact LoB.some rfl); exact (by first | exact HiB.none | exact HiB.some rfl); exact (by first | omega | assumption); exact (by first | omega | assumption | (simp; done) | (simp; omega) | exact Nat.le_of_ble_eq_true rfl))); rfl) | apply aw_seq | apply a_region | apply aw_block | apply aw_skip | apply aw_ret | (apply aw_condp; rfl; all_goals (intro hc; try (exfalso; first | omega | contradiction | (simp at hc; omega) | (simp_all; done)))) | apply go_seq | apply go_seq_ret | apply go_block | apply go_block_ret | apply go_loop_ret | (first | (apply a_drawN 2; rfl; rfl) | (apply a_drawN 3; rfl; rfl) | (apply a_drawN 4; rfl; rfl) | (apply a_drawN 5; rfl; rfl) | (apply a_drawN 6; rfl; rfl) | (apply a_drawN 7; rfl; rfl) | (apply a_drawN 8; rfl; rfl) | (apply a_drawN 9; rfl; rfl) | (apply a_drawN 10; rfl; rfl) | (apply a_drawN 11; rfl; rfl) | (apply a_drawN 12; rfl; rfl) | (apply a_drawN 13; rfl; rfl) | (apply a_drawN 14; rfl; rfl) | (apply a_drawN 15; rfl; rfl) | (apply a_drawN 16; rfl; rfl) | (apply a_drawN 17; rfl; rfl) | (apply a_drawN 18; rfl; rfl) | (apply a_drawN 19; rfl; rfl) | (apply a_drawN 20; rfl; rfl) | (apply a_drawN 21; rfl; rfl) | (apply a_drawN 22; rfl; rfl) | (apply a_drawN 23; rfl; rfl) | (apply a_drawN 24; rfl; rfl) | (apply a_drawN 25; rfl; rfl) | (apply a_drawN 26; rfl; rfl) | (apply a_drawN 27; rfl; rfl) | (apply a_drawN 28; rfl; rfl) | (apply a_drawN 29; rfl; rfl) | (apply a_drawN 30; rfl; rfl) | (apply a_drawN 31; rfl; rfl) | (apply a_drawN 32; rfl; rfl) | (apply a_drawN 33; rfl; rfl) | (apply a_drawN 34; rfl; rfl) | (apply a_drawN 35; rfl; rfl) | (apply a_drawN 36; rfl; rfl) | (apply a_drawN 37; rfl; rfl) | (apply a_drawN 38; rfl; rfl) | (apply a_drawN 39; rfl; rfl) | (apply a_drawN 40; rfl; rfl) | (apply a_drawN 41; rfl; rfl) | (apply a_drawN 42; rfl; rfl) | (apply a_drawN 43; rfl; rfl) | (apply a_drawN 44; rfl; rfl) | (apply a_drawN 45; rfl; rfl)))
      · rw [if_pos (dupR_push hre (nodup_of_take (i := k + 1) (by rw [hst]; exact fun h => h.2 hc)))] at he
        exact g_ret2 (r_tmp rfl) (r_tmp rfl) .nil (by unfold ofV; rw [he]; exact .refl)
      · exact go_loop_back ⟨k + 1, ⟨by omega, hst.2 ⟨hkx, hc⟩⟩, by omega, Sub.of (by repeat (first | exact .nil | refine .cons rfl Le.refl ?_)) (by repeat (first | exact Takes.nil | (apply Takes.cons; focus (repeat (first | exact Take.head | apply Take.tail | apply Take.right)))))⟩
    obtain rfl : k = r.2.length := by omega
    rw [List.take_length] at hkx
    clear hkk hk2
    have hlen : ((rs.take j).map encR).length = j := by rw [List.length_map, List.length_take]; omega
    repeat' (first | apply aw_exit | apply go_seq | apply go_seq_exit | apply go_block_exit | apply go_loop_exit)
    refine a_mix [true, true, true, true, false, true, true, true, true, true, true, true, true, true, true, true, true, true, false, true, true, false] [0, 1, 2, 3, 5, 6, 7, 8, 9, 10, 11, 12, 13, 14, 15, 16, 17, 4, 18, 19, 20, 21] (by kernel_rfl) (by repeat (first | exact Als.nil | (apply Als.al; rfl) | (apply Als.other; rfl))) (Takes.cons (l := lp) (by repeat (first | exact Take.head | apply Take.tail | apply Take.right)) (Takes.cons (l := l) (by repeat (first | exact Take.head | apply Take.tail | apply Take.right)) Takes.nil)) ?_
    repeat' ((fail_if_success (show AW _ (.region 21 _ _) _ _)); (first | (refine tl_append rfl rfl rfl inferInstance inferInstance rfl (by repeat (first | exact Take.head | apply Take.tail | apply Take.right)) rfl (by omega) (by omega) (by omega) rfl ?_; intro lab) | apply go_seq | apply go_block | apply tl_nil | (apply tl_ev; rfl; rfl; (apply ev_move; rfl); rfl) | (apply tl_ev; rfl; rfl; (first | exact ev_append_nil rfl rfl (by simp) (by omega) (by omega) | (apply ev_load_ip_one; rfl; rfl) | (apply ev_fieldAddr_ptr; rfl) | (apply ev_fieldAddr_ip; rfl) | (apply ev_nilCheck_ptr; rfl) | (apply ev_load_ip_agg; rfl; exact Nat.le_of_ble_eq_true rfl) | (apply ev_indexAddr_sl; rfl; rfl; exact (by first | omega | assumption); exact (by first | rfl | assumption | exact get_map (by assumption))) | (apply ev_build; rfl; rfl; rfl) | (apply ev_buildSlice; rfl; rfl; rfl; rfl; rfl; rfl; rfl)); rfl) | (apply tl_store1; rfl; rfl; rfl; infer_instance; rfl; (focus ((repeat (first | exact Take.head | apply Take.tail | apply Take.right)); done)); rfl; rfl; exact (by first | rfl | assumption | exact get_map (by assumption)); rfl) | (apply tl_evw; rfl; rfl; rfl; (apply ev_load_ptr_one; rfl; (focus ((repeat (first | exact Take.head | apply Take.tail | apply Take.right)); done)); exact (by first | rfl | assumption | exact get_map (by assumption)); rfl); rfl)))
    have hrow : List.take j (List.drop 0 ((rs.take j).map encR)) ++ List.take 1 [encR r] = (rs.take (j + 1)).map encR := by
      have := take_one ((rs.take j).map encR) j (encR r) hlen
      rw [this, List.take_add_one, hre, List.map_append]; rfl
    repeat' (first | apply ar_nil | (apply ar_ev; (apply ev_move; rfl); rfl) | (apply ar_ev; (first | (apply ev_assign; rfl) | (apply ev_inc; rfl; exact (by first | omega | assumption))); rfl) | apply a_region)
    exact go_loop_back ⟨(j + 1, _), ⟨by dsimp only; omega, by dsimp only; rw [List.map_take, nodup_step (map_get1 hre), ← List.map_take]; exact ⟨hd1, hjx⟩, any_take hre hd2 ((dup_iff _).2 hkx)⟩, by dsimp only; omega, Sub.of (by repeat (first | exact .nil | refine .cons rfl Le.refl ?_)) (by repeat (first | exact Takes.nil | (apply Takes.cons; focus (repeat (first | exact Take.head | exact Take.rowc hrow Take.head | apply Take.tail | apply Take.right)))))⟩
  · obtain rfl : i = rs.length := by omega
    rw [List.take_length] at hd1 hd2
    rw [List.take_length]
    have hd : dupR rs = false := by unfold dupR; rw [(dup_iff _).2 hd1, hd2]; rfl
    rw [if_neg (by rw [hd]; decide)] at he
    repeat' (first | apply ar_nil | (apply ar_ev; (apply ev_move; rfl); rfl) | (apply ar_ev; (apply ev_assign; rfl); rfl) | apply aw_seq | apply a_region | apply aw_exit | apply aw_ret | apply go_seq | apply go_seq_exit | apply go_block_exit | apply go_loop_exit)
    refine g_ret2 (r_tmp rfl) (r_tmp rfl) (us := [(lp, .row 60 1 [[.own l 0 rs.length]]), (l, .row 37 3 (rs.map encR))]) (by repeat (first | exact Takes.nil | (apply Takes.cons; focus (repeat (first | exact Take.head | apply Take.tail | apply Take.right))))) ?_
    unfold ofV refV
    rw [he, if_pos rfl]
    refine Cv.tup (Cvs.cons (Cv.ptrr .head rfl (Cvs.cons (Cv.own0 (.tail .head) (by simp)) .nil) ?_) (Cvs.cons .refl .nil))
    intro y hy
    obtain rfl := List.mem_singleton.1 hy
    rfl
end Go.Proofs.Ytkidjeejhhfbpaa
