import Derived.Test.YtinojkkjcignhaaH
set_option linter.unusedVariables false
set_option linter.unusedSimpArgs false
set_option maxRecDepth 100000
namespace Go.Proofs.Ytinojkkjcignhaa
open Go.Proofs Go.Proofs.YtinojkkjcignhaaA

theorem RSplit_ok (h : Frame) (b : ByteArray) (size : Int) (hp : h.ps.length ≤ 1099511627776) (hb : b.size ≤ 1099511627776) : FnC Try.prog 18 [] [.agg (encF h), vs b, vi size] (fun ts r =>
    (splitErr h b size ≠ 0 ∧ ts = [] ∧ r = .tup [sn, vi (splitErr h b size)]) ∨
    (splitErr h b size = 0 ∧ ∃ l, ts = [(l, .row 30 11 (rowS (psl h.ps) (splitF h b size)))] ∧ r = .tup [.own l 0 (splitF h b size).length, vi 0])) := by
  refine fn_of Try.func18 rfl Try.ntmps18 Try.results18 rfl fun G => ?_
  repeat' (first | apply ar_nil | (apply ar_splitp; (apply ev_move; rfl); rfl; all_goals (intro hc; try (exfalso; first | omega | contradiction | (simp at hc; omega) | (simp_all; done)))) | (apply ar_ev; (apply ev_move (y := .val (.bool true)); rfl); rfl) | (apply ar_ev; (apply ev_move (y := .val (.bool false)); rfl); rfl) | (apply ar_split; (apply ev_move; rfl); rfl; all_goals (intro hc; try (exfalso; first | omega | contradiction | (simp at hc; omega) | (simp_all; done)))) | (apply ar_ev; (apply ev_move; rfl); rfl) | (apply ar_ev; (first | exact ev_call rfl rfl (Head_ok h) | (apply ev_assign; rfl) | (apply ev_pick_t; rfl; rfl) | (apply ev_pick_f; rfl; rfl) | (apply ev_load_ptr_agg; rfl; (focus ((repeat (first | exact Take.head | apply Take.tail | apply Take.right)); done)); exact (by first | rfl | assumption | exact get_map (by assumption)); exact Nat.le_of_ble_eq_true rfl) | (apply ev_gtr; rfl; rfl) | (apply ev_len_str; rfl) | (apply ev_not; rfl)); rfl) | (apply ar_new; (first | apply eff_alloc | (apply eff_box; rfl; exact lies_of rfl)); exact .nil; rfl; intro lab) | (apply ar_skip; rfl; rfl; rfl; rfl; rfl) | (apply ar_tsplitp; rfl; rfl; rfl; (apply ev_move; rfl); rfl; all_goals (intro hc; try (exfalso; first | omega | contradiction | (simp at hc; omega) | (simp_all; done)))) | (apply ar_take; rfl; rfl; rfl; (apply ev_move; rfl); rfl) | (apply ar_take; rfl; rfl; rfl; (first | exact ev_call rfl rfl (Has_ok _ _) | (apply ev_load_ptr_one; rfl; (focus ((repeat (first | exact Take.head | apply Take.tail | apply Take.right)); done)); exact (by first | rfl | assumption | exact get_map (by assumption)); rfl) | (apply ev_fieldAddr_ptr; rfl) | (apply ev_pick_t; rfl; rfl) | (apply ev_pick_f; rfl; rfl) | (apply ev_neip; rfl; rfl) | (apply ev_lss; rfl; rfl) | (apply ev_gtr; rfl; rfl) | (apply ev_nesp; rfl; rfl) | (apply ev_notp; rfl)); rfl) | apply aw_seq | apply a_region | apply aw_skip | apply aw_ret | (apply aw_condp; rfl; all_goals (intro hc; try (exfalso; first | omega | contradiction | (simp at hc; omega) | (simp_all; done)))) | (apply aw_cond_t; rfl) | apply go_seq | apply go_seq_ret)
  all_goals first
    | (have hE : splitErr h b size ≠ 0 ∧ splitErr h b size = 1 := (by unfold splitErr; (repeat' split) <;> first | (exact ⟨by omega, rfl⟩) | (exfalso; simp_all [es]; done) | (exfalso; simp_all [es]; omega))
       refine g_ret2 (r_tmp rfl) (r_tmp rfl) .nil (.inl ⟨hE.1, rfl, ?_⟩); rw [hE.2]; done)
    | (have hE : splitErr h b size ≠ 0 ∧ splitErr h b size = 3 := (by unfold splitErr; (repeat' split) <;> first | (exact ⟨by omega, rfl⟩) | (exfalso; simp_all [es]; done) | (exfalso; simp_all [es]; omega))
       refine g_ret2 (r_tmp rfl) (r_tmp rfl) .nil (.inl ⟨hE.1, rfl, ?_⟩); rw [hE.2]; done)
    | skip
  all_goals
    have hE : splitErr h b size = 0 := by unfold splitErr; (repeat' split) <;> first | rfl | (exfalso; simp_all [es]; done) | (exfalso; simp_all [es]; omega)
    have hp0 : 0 ≤ h.pad := by omega
    have hp1 : h.pad ≤ 255 := by omega
    have hs0 : 16384 ≤ size := by omega
    have hs1 : size ≤ 65536 := by omega
    have hb1 : b.size ≤ 131072 := by omega
    have hrm := room_bounds hp0 hp1 hs0 hs1
    have hn0 : min (room h size) (b.size : Int) = (split0 h b size : Nat) := by unfold split0; omega
    have hn1 : split0 h b size ≤ b.size := by unfold split0; omega
    rename Nat => l3
    have hn2 : min (b.size : Int) (room h size) = (split0 h b size : Nat) := by omega
    repeat' (first | apply ar_nil | (apply ar_ev; (apply ev_move; rfl); rfl) | (apply ar_ev; (first | exact ev_call rfl rfl (Room_ok h size hp0 hp1 (by omega) (by omega)) | (apply ev_assign; rfl) | (apply ev_load_ptr_agg; rfl; (focus ((repeat (first | exact Take.head | apply Take.tail | apply Take.right)); done)); exact (by first | rfl | assumption | exact get_map (by assumption)); exact Nat.le_of_ble_eq_true rfl) | (apply ev_min; rfl; rfl)); rfl) | (apply ar_new; (first | apply eff_alloc | (apply eff_box; rfl; exact lies_of rfl)); exact .nil; rfl; intro lab) | (apply ar_store; rfl; (focus ((repeat (first | exact Take.head | apply Take.tail | apply Take.right)); done)); rfl; rfl; exact (by first | rfl | assumption | exact get_map (by assumption)); rfl; rfl) | apply aw_seq | apply a_region | apply go_seq)
    rw [hn2]
    repeat' (first | (apply ar_new (d := 73); (apply eff_buildSlice; rfl; rfl; rfl; rfl; rfl; rfl; rfl); exact .nil; rfl; intro lab) | apply ar_nil | (apply ar_ev; (first | (apply ev_load_ptr_one; rfl; (focus ((repeat (first | exact Take.head | apply Take.tail | apply Take.right)); done)); exact (by first | rfl | assumption | exact get_map (by assumption)); rfl) | (apply ev_fieldAddr_ptr; rfl) | (apply ev_assign; rfl) | (apply ev_load_ptr_agg; rfl; (focus ((repeat (first | exact Take.head | apply Take.tail | apply Take.right)); done)); exact (by first | rfl | assumption | exact get_map (by assumption)); exact Nat.le_of_ble_eq_true rfl) | (apply ev_nandI; rfl; rfl) | (apply ev_slice_str; rfl; exact (by first | exact LoB.none | exact LoB.some rfl); exact (by first | exact HiB.none | exact HiB.some rfl); exact (by first | omega | assumption); exact (by first | omega | assumption))); rfl) | (apply ar_store1; rfl; (focus ((repeat (first | exact Take.head | apply Take.tail | apply Take.right)); done)); rfl; rfl; exact (by first | rfl | assumption | exact get_map (by assumption)); rfl) | apply aw_seq | apply a_region | apply aw_block | apply go_seq)
    rename Nat => l0
    refine a_loop (fun g : Nat × Nat × Nat × List Frame => ⟨[(1, vs b), (2, vi size), (3, .ptr l3 0 0), (8, vi g.2.2.1), (10, .own g.1 0 g.2.1)], [(l3, .row 30 11 [encF h]), (g.1, .row 30 11 (rowS (psl h.ps) g.2.2.2))]⟩)
      (fun g => g.2.2.2.length = g.2.1 ∧ 0 < g.2.1 ∧ g.2.2.1 ≤ b.size ∧ g.2.1 ≤ g.2.2.1 + 1 ∧ g.2.2.2 ++ cuts h.stream b size.toNat g.2.2.1 = splitF0 h b size) (fun g => b.size - g.2.2.1) (l0, 1, split0 h b size, [{ h with flags := nandI h.flags 4, data := b.extract 0 (split0 h b size) }]) (Sub.of (by repeat (first | exact .nil | refine .cons rfl Le.refl ?_)) (by repeat (first | exact Takes.nil | (apply Takes.cons; focus (repeat (first | exact Take.head | apply Take.tail | apply Take.right)))))) ⟨rfl, Nat.one_pos, hn1, Nat.le_add_left 1 _, rfl⟩ ?_
    rintro ⟨l, m, n, acc⟩ ⟨h1, h2, h3, h4, h5⟩
    dsimp only at h1 h2 h3 h4 h5 ⊢
    repeat' (first | apply ar_nil | (apply ar_ev; (apply ev_move; rfl); rfl) | (apply ar_ev; (first | (apply ev_lss; rfl; rfl) | (apply ev_len_str; rfl)); rfl) | apply aw_seq | apply a_region | apply go_seq)
    refine aw_condp rfl (fun hk => ?_) (fun hk => ?_)
    · have hlt : n < b.size := by omega
      have hmin : min (b.size : Int) ((n : Int) + size) = (min b.size (n + size.toNat) : Nat) := by omega
      repeat' (first | apply ar_nil | (apply ar_ev; (apply ev_move; rfl); rfl) | (apply ar_ev; (first | (apply ev_assign; rfl) | (apply ev_add; rfl; rfl; exact (by first | omega | assumption); exact (by first | omega | assumption)) | (apply ev_len_str; rfl) | (apply ev_min; rfl; rfl)); rfl) | apply aw_seq | apply a_region | apply aw_block | apply aw_skip | apply go_seq)
      rw [hmin]
      apply a_drawN 9; rfl; rfl
      repeat' (first | (apply ar_ev; (apply ev_move; rfl); rfl) | (apply ar_ev; (first | (apply ev_load_ptr_one; rfl; (focus ((repeat (first | exact Take.head | apply Take.tail | apply Take.right)); done)); exact (by first | rfl | assumption | exact get_map (by assumption)); rfl) | (apply ev_fieldAddr_ptr; rfl) | (apply ev_slice_str; rfl; exact (by first | exact LoB.none | exact LoB.some rfl); exact (by first | exact HiB.none | exact HiB.some rfl); exact (by first | omega | assumption); exact (by first | omega | assumption)) | (apply ev_build; rfl; rfl; rfl) | (apply ev_buildSlice; rfl; rfl; rfl; rfl; rfl; rfl; rfl)); rfl))
      apply ar_append; rfl; exact (by repeat (first | exact Take.head | apply Take.tail | apply Take.right)); rfl; exact (by rw [rowS_length]; omega); exact (by omega); exact (by omega); rfl; intro l2
      repeat' (first | apply ar_nil | (apply ar_ev; (apply ev_move; rfl); rfl) | (apply ar_ev; (apply ev_assign; rfl); rfl) | apply a_region | apply go_seq | apply go_block)
      let fr : Frame := { zeroF with ty := 9, stream := h.stream, data := b.extract n (min b.size (n + size.toNat)) }
      obtain ⟨a0, acc', rfl⟩ := List.exists_cons_of_ne_nil (List.ne_nil_of_length_pos (by omega : 0 < acc.length))
      have hrow : List.take m (List.drop 0 (rowS (psl h.ps) (a0 :: acc'))) ++ List.take 1 [fcl fr sn] = rowS (psl h.ps) (a0 :: acc' ++ [fr]) := by
        rw [rowS_append, List.drop_zero, List.take_of_length_le (by rw [rowS_length]; omega)]; rfl
      refine go_loop_back ⟨(l2, m + 1, min b.size (n + size.toNat), a0 :: acc' ++ [fr]), ⟨by simp at h1 ⊢; omega, Nat.succ_pos _, Nat.min_le_left _ _, ?_, ?_⟩, ?_, Sub.of (by repeat (first | exact .nil | refine .cons rfl Le.refl ?_)) (by repeat (first | exact Takes.nil | (apply Takes.cons; focus (repeat (first | exact Take.head | exact Take.rowc hrow Take.head | apply Take.tail | apply Take.right)))))⟩
      · dsimp only; omega
      · dsimp only
        rw [← h5, cuts_cons hlt (by omega), List.append_assoc]; rfl
      · dsimp only; omega
    · obtain rfl : n = b.size := by omega
      rw [cuts_nil (Nat.le_refl _), List.append_nil] at h5
      subst h5
      repeat' (first | (apply ar_ev; (apply ev_move; rfl); rfl) | (apply ar_ev; (first | (apply ev_sub; rfl; rfl; exact (by first | omega | assumption); exact (by first | omega | assumption)) | (apply ev_len_own; rfl)); rfl) | apply aw_seq | apply a_region | apply aw_exit | apply go_seq | apply go_seq_exit | apply go_block_exit | apply go_loop_exit)
      have hm1 : (m : Int) - 1 = ((m - 1 : Nat) : Int) := by omega
      rw [hm1]
      repeat' (apply ar_ev; (first | (apply ev_fieldAddr_ptr; rfl) | (apply ev_indexAddr_own0; rfl; rfl; exact (by first | omega | assumption); (focus ((repeat (first | exact Take.head | apply Take.tail | apply Take.right)); done)))); rfl)
      try rw [hm1]
      obtain ⟨f0, hf0⟩ : ∃ f0, (splitF0 h b size)[m - 1]? = some f0 := ⟨_, List.getElem?_eq_getElem (by omega)⟩
      obtain ⟨y, hy, hset⟩ := rowS_at (psl h.ps) hf0
      have hrow : (rowS (psl h.ps) (splitF0 h b size)).set (m - 1) ((fcl f0 y).set (0 + 1) (vi (orI f0.flags 4))) = rowS (psl h.ps) (splitF h b size) := by
        refine (hset { f0 with flags := orI f0.flags 4 }).trans ?_
        congr 1
        unfold splitF lastF
        rw [h1]
        apply List.ext_getElem?
        intro i
        rw [List.getElem?_modify, List.getElem?_set]
        by_cases hi : m - 1 = i
        · subst hi
          simp [hf0]
          omega
        · simp [hi]
      have hlenF : (splitF h b size).length = m := by unfold splitF lastF; rw [List.length_modify]; exact h1
      repeat' (first | apply ar_nil | (apply ar_ev; (apply ev_move; rfl); rfl) | (apply ar_ev; (first | (apply ev_load_ptr_one; rfl; (focus ((repeat (first | exact Take.head | apply Take.tail | apply Take.right)); done)); exact (by first | rfl | assumption | exact get_map (by assumption)); rfl) | (apply ev_fieldAddr_ptr; rfl) | (apply ev_assign; rfl) | (apply ev_orI; rfl; rfl) | (apply ev_indexAddr_own0; rfl; rfl; exact (by first | omega | assumption); (focus ((repeat (first | exact Take.head | apply Take.tail | apply Take.right)); done)))); rfl) | (apply ar_store1; rfl; (focus ((repeat (first | exact Take.head | apply Take.tail | apply Take.right)); done)); rfl; rfl; exact (by first | rfl | assumption | exact get_map (by assumption)); rfl) | apply aw_seq | apply a_region | apply aw_ret | apply go_seq)
      refine g_ret2 (us := [(l, .row 30 11 (rowS (psl h.ps) (splitF h b size)))]) (r_tmp rfl) (r_tmp rfl) (Takes.cons (l := l) (Take.rowc hrow (by repeat (first | exact Take.head | apply Take.tail | apply Take.right))) Takes.nil) (.inr ⟨hE, l, rfl, by rw [hlenF]⟩)
end Go.Proofs.Ytinojkkjcignhaa
