import Derived.Test.YtkidjeejhhfbpaaC
set_option linter.unusedVariables false
set_option linter.unusedSimpArgs false
set_option maxRecDepth 100000
namespace Go.Proofs.Ytkidjeejhhfbpaa
open Go.Proofs Go.Proofs.YtkidjeejhhfbpaaA

theorem take_one {α : Type} (y : List (List α)) (n : Nat) (z : List α) (h : y.length = n) : List.take n (List.drop 0 y) ++ List.take 1 [z] = y ++ [z] := by
  rw [List.drop_zero, List.take_of_length_le (by omega)]; rfl
set_option maxHeartbeats 8000000 in
theorem own_ok (rs : List Rl) (hn : rs.length ≤ 1099511627776) (hr : ∀ r, r ∈ rs → OkR r) : PFn Try.prog 10 [rsl rs] (rsl rs) := by
  refine pfn_cv (Post := fun ts r => Cv ts r (rsl rs)) ?_ (fun _ _ h => h)
  refine fn_of Try.func10 rfl Try.ntmps10 Try.results10 rfl fun G => ?_
  repeat' ((fail_if_success (show AW _ (.region 2 _ _) _ _)); (first | apply ar_nil | (apply ar_ev; (apply ev_assign; rfl); rfl) | apply aw_seq | apply a_region | apply go_seq))
  refine aw_adopt 3 37 3 rfl fun lab => ?_
  repeat' (first | apply ar_nil | (apply ar_ev; (apply ev_assign; rfl); rfl) | apply a_region | apply aw_block | apply go_seq)
  have h0 : ([] : List (List AV)) = ([] : List Rl).map encR := rfl
  refine a_loop (fun g : Nat × Nat => ⟨[(0, rsl rs), (3, .own g.2 0 g.1), (4, vi g.1)], [(g.2, .row 37 3 ((rs.take g.1).map encR))]⟩) (fun g => g.1 ≤ rs.length) (fun g => rs.length - g.1) (0, lab) (Sub.of (by repeat (first | exact .nil | refine .cons rfl Le.refl ?_)) (by repeat (first | exact Takes.nil | (apply Takes.cons; focus (repeat (first | exact Take.head | exact Take.rowc h0 Take.head | apply Take.tail | apply Take.right)))))) (Nat.zero_le _) ?_
  rintro ⟨i, l⟩ hi
  dsimp only at *
  repeat' (first | apply ar_nil | (apply ar_ev; (apply ev_move; rfl); rfl) | (apply ar_ev; (first | (apply ev_lss; rfl; rfl) | (apply ev_len_sl; rfl)); rfl) | apply aw_seq | apply a_region | apply go_seq)
  refine aw_condp rfl (fun hk => ?_) (fun hk => ?_)
  · obtain ⟨r, hre⟩ : ∃ r, rs[i]? = some r := ⟨_, List.getElem?_eq_getElem (by omega)⟩
    have hr2 := rsl_get hre
    have hrok := hr r (List.mem_of_getElem? hre)
    have hpl := hrok.len
    have hlen : ((rs.take i).map encR).length = i := by rw [List.length_map, List.length_take]; omega
    repeat' (first | apply aw_seq | apply aw_block | apply aw_skip | apply go_seq)
    refine a_mix [true, true, true, true, true, true, true, true, true, true, true, false, true, true, false, true] [0, 1, 2, 3, 4, 5, 6, 7, 8, 9, 10, 11, 12, 13, 14, 15] (by kernel_rfl) (by repeat (first | exact Als.nil | (apply Als.al; rfl) | (apply Als.other; rfl))) (Takes.cons (l := l) (by repeat (first | exact Take.head | apply Take.tail | apply Take.right)) Takes.nil) ?_
    repeat' ((fail_if_success (show AW _ (.region 4 _ _) _ _)); (first | (apply tl_new (d := 22); rfl; rfl; rfl; (apply eff_append_nil; rfl; rfl; exact (by omega); exact (by omega)); exact .nil; rfl; intro lab) | (refine tl_append rfl rfl rfl inferInstance inferInstance rfl (by repeat (first | exact Take.head | apply Take.tail | apply Take.right)) rfl (by omega) (by omega) (by omega) rfl ?_; intro lab) | apply go_seq | apply go_block | apply tl_nil | (apply tl_ev; rfl; rfl; (apply ev_move; rfl); rfl) | (apply tl_ev; rfl; rfl; (first | (apply ev_load_ip_one; rfl; rfl) | (apply ev_fieldAddr_ip; rfl) | (apply ev_assign; rfl) | (apply ev_load_ip_agg; rfl; exact Nat.le_of_ble_eq_true rfl) | (apply ev_indexAddr_sl; rfl; rfl; exact (by first | omega | assumption); exact (by first | rfl | assumption | exact get_map (by assumption))) | (apply ev_build; rfl; rfl; rfl) | (apply ev_buildSlice; rfl; rfl; rfl; rfl; rfl; rfl; rfl)); rfl)))
    rename_i la
    generalize lab = lb at *
    have hrow : List.take i (List.drop 0 ((rs.take i).map encR)) ++ List.take 1 [[vs r.1.1, vs r.1.2, .own la 0 r.2.length]] = (rs.take i).map encR ++ [[vs r.1.1, vs r.1.2, .own la 0 r.2.length]] := take_one _ _ _ hlen
    have hrow2 : List.take r.2.length (r.2.map encT) = r.2.map encT := List.take_of_length_le (by simp)
    refine AW.sub (st' := ⟨[(0, rsl rs), (3, .own lb 0 (i + 1)), (4, vi i)], [(lb, .row 37 3 ((rs.take i).map encR ++ [[vs r.1.1, vs r.1.2, .own la 0 r.2.length]])), (la, .row 35 2 (r.2.map encT))]⟩) (Sub.of (by repeat (first | exact .nil | refine .cons rfl Le.refl ?_)) (by repeat (first | exact Takes.nil | (apply Takes.cons; focus (repeat (first | exact Take.head | exact Take.rowc hrow Take.head | exact Take.rowc hrow2 Take.head | apply Take.tail | apply Take.right)))))) ?_
    have hg : ((rs.take i).map encR ++ [[vs r.1.1, vs r.1.2, .own la 0 r.2.length]])[i]? = some [vs r.1.1, vs r.1.2, .own la 0 r.2.length] := by
      rw [List.getElem?_append_right (by omega), hlen, Nat.sub_self]; rfl
    refine aw_cvc (us := [(la, .row 35 2 (r.2.map encT))]) (y := tsl r.2) (.cons (.tail .head) .nil) .head hg (j := 2) rfl (Cv.own0 .head (by simp)) rfl ?_
    have hrow3 : ((rs.take i).map encR ++ [[vs r.1.1, vs r.1.2, .own la 0 r.2.length]]).set i ([vs r.1.1, vs r.1.2, .own la 0 r.2.length].set 2 (tsl r.2)) = (rs.take (i + 1)).map encR := by
      rw [List.set_append_right _ _ (by omega), hlen, Nat.sub_self, List.take_add_one, hre, List.map_append]; rfl
    repeat' (first | apply ar_nil | (apply ar_ev; (apply ev_move; rfl); rfl) | (apply ar_ev; (first | (apply ev_assign; rfl) | (apply ev_inc; rfl; exact (by first | omega | assumption))); rfl) | apply a_region)
    exact go_loop_back ⟨(i + 1, _), by dsimp only; omega, by dsimp only; omega, Sub.of (by repeat (first | exact .nil | refine .cons rfl Le.refl ?_)) (by repeat (first | exact Takes.nil | (apply Takes.cons; focus (repeat (first | exact Take.head | exact Take.rowc hrow3 Take.head | apply Take.tail | apply Take.right)))))⟩
  · obtain rfl : i = rs.length := by omega
    rw [List.take_length]
    repeat' (first | apply ar_nil | (apply ar_ev; (apply ev_move; rfl); rfl) | (apply ar_ev; (apply ev_assign; rfl); rfl) | apply aw_seq | apply a_region | apply aw_exit | apply aw_ret | apply go_seq | apply go_seq_exit | apply go_block_exit | apply go_loop_exit)
    exact g_ret1 (r_tmp rfl) (us := [(l, .row 37 3 (rs.map encR))]) (by repeat (first | exact Takes.nil | (apply Takes.cons; focus (repeat (first | exact Take.head | apply Take.tail | apply Take.right))))) (Cv.own0 .head (by simp))
end Go.Proofs.Ytkidjeejhhfbpaa
