import Derived.Test.YtmenbolalghljaaJ
set_option linter.unusedVariables false
set_option linter.unusedSimpArgs false
set_option maxRecDepth 100000
namespace Go.Proofs.Ytmenbolalghljaa
open Go.Proofs Go.Proofs.YtmenbolalghljaaA

/-! The document's table. -/
/-- Its own entries, the newest first, where it is only read. -/
abbrev refI (mx : Int) (l : List En) : AV := .ip [vi mx, .sl 2 (l.reverse.map encT) l.length]
abbrev refT (lr ln : Nat) (mx : Int) (l : List En) : List (Nat × Tok) := [(lr, .row 69 2 [[vi mx, .own ln 0 l.length]]), (ln, .row 75 2 (l.reverse.map encT))]
theorem cv_ref {ts r r2 : List (Nat × Tok)} {lr ln : Nat} {mx : Int} {l : List En} (h1 : Take ts lr (.row 69 2 [[vi mx, .own ln 0 l.length]]) r) (h2 : Take ts ln (.row 75 2 (l.reverse.map encT)) r2) : Cv ts (.ptr lr 0 0) (refI mx l) := by
  refine Cv.ptrr h1 rfl (Cvs.cons .refl (Cvs.cons ?_ .nil)) (fun y hy => ?_)
  · exact Cv.own0 h2 (by simp)
  · simp only [List.mem_cons, List.not_mem_nil, or_false] at hy
    rcases hy with rfl | rfl <;> rfl
set_option maxHeartbeats 8000000 in
theorem static_ok (k : Nat) (e : En) (h : fixedL[k]? = some e) : PFn Try.prog 44 [vi ((k : Int) + 1)] (.agg (encT e)) := by
  refine fn_of Try.func44 rfl Try.ntmps44 Try.results44 rfl fun G => ?_
  have hk : k < 61 := by have := (List.getElem?_eq_some_iff.1 h).1; rwa [fixed_len] at this
  obtain ⟨e2, he2, hfx⟩ := fixedC_at k hk
  obtain rfl : e2 = e := by rw [h] at he2; exact (Option.some.inj he2).symm
  have hfl : k * 2 + 2 ≤ fixedC.length := by rw [fixedC_len]; omega
  have e1 : ((k : Int) + 1 - 1) = (k : Int) := by omega
  repeat' ((fail_if_success (show AW _ (.region 2 _ _) _ _)); (first | apply ar_nil | (apply ar_ev; (first | (apply ev_build; rfl; rfl; rfl) | (apply ev_build_arr; rfl; rfl; rfl)); rfl) | (apply ar_new; (first | apply eff_alloc | (apply eff_box; rfl; exact lies_of rfl) | (apply eff_conv_bytes; rfl; exact (by first | omega | assumption | (simp; done) | (simp; omega) | exact Nat.le_of_ble_eq_true rfl))); exact .nil; rfl; intro lab) | (apply ar_store; rfl; (focus ((repeat (first | exact Take.head | apply Take.tail | apply Take.right)); done)); rfl; rfl; exact (by first | rfl | assumption | exact get_map (by assumption)); rfl; rfl) | apply aw_seq | apply a_region | apply go_seq))
  rename_i l2
  refine AW.sub (st' := ⟨[(0, vi ((k : Int) + 1)), (2, .ptr l2 0 0), (3, .ptr lab 0 0)], [(lab, .row 81 122 [fixedC]), (l2, .row 75 2 [[vs es, vs es]])]⟩) (Sub.of (by repeat (first | exact .nil | refine .cons rfl Le.refl ?_)) (by repeat (first | exact Takes.nil | (apply Takes.cons; focus (repeat (first | exact Take.head | apply Take.tail | apply Take.right)))))) ?_
  repeat' (first | (apply ar_ev; (apply ev_move; rfl); rfl) | (apply ar_ev; (apply ev_sub; rfl; rfl; exact (by first | omega | assumption); exact (by first | omega | assumption)); rfl) | apply a_region)
  rw [e1]
  have hfx0 : List.take 2 (List.drop (0 + k * 2) fixedC) = encT e2 := by rw [Nat.zero_add, hfx]
  repeat' (first | (rw [hfx0]) | apply ar_nil | (apply ar_ev; (first | (apply ev_load_ptr_agg; rfl; exact Take.head; rfl; omega) | (apply ev_indexAddr_arr; rfl; rfl; exact (by first | omega | assumption))); rfl) | (apply ar_store; rfl; (focus ((repeat (first | exact Take.head | apply Take.tail | apply Take.right)); done)); rfl; rfl; exact (by first | rfl | assumption | exact get_map (by assumption)); rfl; rfl) | apply aw_ret | apply go_seq)
  apply g_ret1; (apply r_cell; rfl; exact (by repeat (first | exact Take.head | apply Take.tail | apply Take.right)); rfl; rfl); exact .nil; rfl
theorem rsize_ok (e : En) (h : OkE e) : PFn Try.prog 42 [.agg (encT e)] (vi (szE e : Nat)) := by
  refine fn_of Try.func42 rfl Try.ntmps42 Try.results42 rfl fun G => ?_
  have h1 := h.a
  have h2 := h.b
  have hs : ((e.1.size : Int) + (e.2.size : Int) + 32) = ((szE e : Nat) : Int) := by unfold szE; omega
  repeat' (first | apply ar_nil | (apply ar_ev; (first | (apply ev_load_ptr_one; rfl; (focus ((repeat (first | exact Take.head | apply Take.tail | apply Take.right)); done)); exact (by first | rfl | assumption | exact get_map (by assumption)); rfl) | (apply ev_fieldAddr_ptr; rfl) | (apply ev_assign; rfl) | (apply ev_add; rfl; rfl; exact (by first | omega | assumption); exact (by first | omega | assumption)) | (apply ev_len_str; rfl)); rfl) | (apply ar_new; (first | apply eff_alloc | (apply eff_box; rfl; exact lies_of rfl) | (apply eff_conv_bytes; rfl; exact (by first | omega | assumption | (simp; done) | (simp; omega) | exact Nat.le_of_ble_eq_true rfl))); exact .nil; rfl; intro lab) | apply aw_seq | apply a_region | apply aw_ret | apply go_seq)
  rw [hs]
  exact g_ret1 (r_tmp rfl) .nil rfl
theorem good_ok (n : Int) : PFn Try.prog 41 [vi n] (vb (decide (¬(n < 0 ∨ 65536 < n)))) := by
  refine fn_of Try.func41 rfl Try.ntmps41 Try.results41 rfl fun G => ?_
  repeat' (first | apply ar_nil | (apply ar_splitp; (apply ev_move; rfl); rfl; all_goals (intro hc; try (exfalso; first | omega | contradiction | (simp at hc; omega) | (simp_all; done)))) | (apply ar_ev; (apply ev_move; rfl); rfl) | (apply ar_ev; (first | (apply ev_assign; rfl) | (apply ev_pick_t; rfl; rfl) | (apply ev_pick_f; rfl; rfl) | (apply ev_geq; rfl; rfl)); rfl) | (apply ar_skip; rfl; rfl; rfl; rfl; rfl) | (apply ar_take; rfl; rfl; rfl; (apply ev_move; rfl); rfl) | (apply ar_take; rfl; rfl; rfl; (apply ev_leq; rfl; rfl); rfl) | apply aw_seq | apply a_region | apply aw_ret | apply go_seq)
  all_goals exact g_ret1 (r_tmp rfl) .nil (by simp; omega)
theorem rNew_ok (n : Int) : FnC Try.prog 26 [] [vi n] (fun ts r => ((n < 0 ∨ 65536 < n) ∧ ts = [] ∧ r = .tup [.val (.pointer none), vi 1]) ∨
    (¬(n < 0 ∨ 65536 < n) ∧ ∃ lr ln, ts = refT lr ln n [] ∧ r = .tup [.ptr lr 0 0, vi 0])) := by
  refine fn_of Try.func26 rfl Try.ntmps26 Try.results26 rfl fun G => ?_
  have hb := good_ok n
  repeat' (first | apply ar_nil | (apply ar_ev; (apply ev_move; rfl); rfl) | (apply ar_ev; (first | exact ev_call rfl rfl hb | (apply ev_assign; rfl) | (apply ev_notp; rfl)); rfl) | apply aw_seq | apply a_region | apply go_seq)
  refine aw_condb rfl (fun hc => ?_) (fun hc => ?_)
  · repeat' (first | apply ar_nil | (apply ar_ev; (apply ev_assign; rfl); rfl) | apply aw_seq | apply a_region | apply aw_ret | apply go_seq | apply go_seq_ret)
    exact g_ret2 (r_tmp rfl) (r_tmp rfl) .nil (.inl ⟨by simp at hc; omega, rfl, rfl⟩)
  · repeat' ((fail_if_success (show AW _ (.ret) _ _)); (first | apply ar_nil | (apply ar_ev; (apply ev_move; rfl); rfl) | (apply ar_ev; (first | (apply ev_assign; rfl) | (apply ev_build; rfl; rfl; rfl)); rfl) | (apply ar_new; (first | apply eff_alloc | (apply eff_box; rfl; exact lies_of rfl) | (apply eff_conv_bytes; rfl; exact (by first | omega | assumption | (simp; done) | (simp; omega) | exact Nat.le_of_ble_eq_true rfl))); exact .nil; rfl; intro lab) | apply aw_seq | apply a_region | apply aw_skip | apply go_seq))
    refine aw_adoptc (i := 0) (j := 1) 75 2 .head rfl rfl fun lm => ?_
    repeat' (apply aw_ret)
    exact g_ret2 (r_tmp rfl) (r_tmp rfl) (us := refT lab lm n []) (by repeat (first | exact Takes.nil | (apply Takes.cons; focus (repeat (first | exact Take.head | apply Take.tail | apply Take.right))))) (.inr ⟨by simp at hc; omega, lab, lm, rfl, rfl⟩)
theorem rLen_ok (mx : Int) (l : List En) : PFn Try.prog 33 [refI mx l] (vi l.length) := by
  refine fn_of Try.func33 rfl Try.ntmps33 Try.results33 rfl fun G => ?_
  repeat' (first | apply ar_nil | (apply ar_ev; (apply ev_move; rfl); rfl) | (apply ar_ev; (first | (apply ev_load_ip_one; rfl; rfl) | (apply ev_fieldAddr_ip; rfl) | (apply ev_assign; rfl) | (apply ev_nilCheck_ip; rfl) | (apply ev_len_sl; rfl)); rfl) | apply aw_seq | apply a_region | apply aw_ret | apply go_seq)
  exact g_ret1 (r_tmp rfl) .nil rfl
theorem rMax_ok (mx : Int) (l : List En) : PFn Try.prog 34 [refI mx l] (vi mx) := by
  refine fn_of Try.func34 rfl Try.ntmps34 Try.results34 rfl fun G => ?_
  repeat' (first | apply ar_nil | (apply ar_ev; (apply ev_move; rfl); rfl) | (apply ar_ev; (first | (apply ev_load_ip_one; rfl; rfl) | (apply ev_fieldAddr_ip; rfl) | (apply ev_assign; rfl) | (apply ev_nilCheck_ip; rfl)); rfl) | apply aw_seq | apply a_region | apply aw_ret | apply go_seq)
  exact g_ret1 (r_tmp rfl) .nil rfl
set_option maxHeartbeats 8000000 in
theorem rsum_ok (R : List En) (hn : R.length ≤ 1099511627776) (hok : ∀ e, e ∈ R → OkE e) (hs : sumE R ≤ 1099511627776000) : PFn Try.prog 45 [tsl R] (vi (sumE R)) := by
  refine fn_of Try.func45 rfl Try.ntmps45 Try.results45 rfl fun G => ?_
  have htk : ∀ i, sumE (R.take i) ≤ sumE R := fun i => by
    have := sumE_append (R.take i) (R.drop i)
    rw [List.take_append_drop] at this
    omega
  repeat' (first | apply ar_nil | (apply ar_ev; (apply ev_assign; rfl); rfl) | apply aw_seq | apply a_region | apply aw_block | apply go_seq)
  refine a_loop (fun i : Nat => ⟨[(0, tsl R), (3, vi (sumE (R.take i))), (4, vi i)], []⟩)
    (fun i => i ≤ R.length) (fun i => R.length - i) 0 (Sub.of (by repeat (first | exact .nil | refine .cons rfl Le.refl ?_)) (by repeat (first | exact Takes.nil | (apply Takes.cons; focus (repeat (first | exact Take.head | apply Take.tail | apply Take.right)))))) (Nat.zero_le _) ?_
  intro i hi
  repeat' (first | apply ar_nil | (apply ar_ev; (apply ev_move; rfl); rfl) | (apply ar_ev; (first | (apply ev_lss; rfl; rfl) | (apply ev_len_sl; rfl)); rfl) | apply aw_seq | apply a_region | apply go_seq)
  refine aw_condp rfl (fun hk => ?_) (fun hk => ?_)
  · obtain ⟨e, he⟩ : ∃ e, R[i]? = some e := ⟨_, List.getElem?_eq_getElem (by omega)⟩
    have he2 : (R.map encT)[i]? = some (encT e) := by simp [he]
    have hse := rsize_ok e (hok e (List.mem_of_getElem? he))
    have hs2 := sum_take he
    have ht1 := htk i
    have ht2 := htk (i + 1)
    have e1 : ((sumE (R.take i) : Nat) : Int) + ((szE e : Nat) : Int) = ((sumE (R.take (i + 1)) : Nat) : Int) := by omega
    repeat' (first | apply ar_nil | (apply ar_ev; (apply ev_move; rfl); rfl) | (apply ar_ev; (first | exact ev_call rfl rfl hse | (apply ev_assign; rfl) | (apply ev_load_ip_agg; rfl; exact Nat.le_of_ble_eq_true rfl) | (apply ev_inc; rfl; exact (by first | omega | assumption)) | (apply ev_add; rfl; rfl; exact (by first | omega | assumption); exact (by first | omega | assumption)) | (apply ev_indexAddr_sl; rfl; rfl; exact (by first | omega | assumption); exact (by first | rfl | assumption | exact get_map (by assumption)))); rfl) | apply aw_seq | apply a_region | apply aw_block | apply aw_skip | apply go_seq | apply go_block)
    exact go_loop_back ⟨i + 1, by omega, by omega, by rw [← e1]; exact Sub.of (by repeat (first | exact .nil | refine .cons rfl Le.refl ?_)) (by repeat (first | exact Takes.nil | (apply Takes.cons; focus (repeat (first | exact Take.head | apply Take.tail | apply Take.right)))))⟩
  · obtain rfl : i = R.length := by omega
    rw [List.take_length]
    repeat' (first | apply ar_nil | (apply ar_ev; (apply ev_move; rfl); rfl) | (apply ar_ev; (apply ev_assign; rfl); rfl) | apply aw_seq | apply a_region | apply aw_exit | apply aw_ret | apply go_seq | apply go_seq_exit | apply go_block_exit | apply go_loop_exit)
    exact g_ret1 (r_tmp rfl) .nil rfl
theorem sumE_rev (l : List En) : sumE l.reverse = sumE l := by
  induction l with
  | nil => rfl
  | cons e r ih => rw [List.reverse_cons, sumE_append, ih]; simp only [sumE]; omega
theorem rSize_ok (mx : Int) (l : List En) (hn : l.length ≤ 1099511627776) (hok : ∀ e, e ∈ l → OkE e) (hs : sumE l ≤ 1099511627776000) : PFn Try.prog 32 [refI mx l] (vi (sumE l)) := by
  refine fn_of Try.func32 rfl Try.ntmps32 Try.results32 rfl fun G => ?_
  have h := rsum_ok l.reverse (by simpa using hn) (fun e he => hok e (by simpa using he)) (by rw [sumE_rev]; exact hs)
  rw [sumE_rev, show tsl l.reverse = .sl 2 (l.reverse.map encT) l.length by simp] at h
  repeat' (first | apply ar_nil | (apply ar_ev; (apply ev_move; rfl); rfl) | (apply ar_ev; (first | exact ev_call rfl rfl h | (apply ev_load_ip_one; rfl; rfl) | (apply ev_fieldAddr_ip; rfl) | (apply ev_assign; rfl) | (apply ev_nilCheck_ip; rfl)); rfl) | apply aw_seq | apply a_region | apply aw_ret | apply go_seq)
  exact g_ret1 (r_tmp rfl) .nil rfl
end Go.Proofs.Ytmenbolalghljaa

set_option linter.unusedVariables false
set_option linter.unusedSimpArgs false
set_option maxRecDepth 100000
namespace Go.Proofs.Ytmenbolalghljaa
open Go.Proofs Go.Proofs.YtmenbolalghljaaA

theorem rev_split (l : List En) (j : Nat) : l.reverse = (l.drop j).reverse ++ (l.take j).reverse := by
  rw [← List.reverse_append, List.take_append_drop]
theorem le_rev (l : List En) (j : Nat) (hj : j ≤ l.length) : Le (.sl 2 (List.drop 0 (l.reverse.map encT)) (l.length - j - 0)) (tsl (l.drop j).reverse) := by
  have h : List.drop 0 (l.reverse.map encT) = (l.drop j).reverse.map encT ++ (l.take j).reverse.map encT := by
    rw [List.drop_zero, ← List.map_append, ← rev_split]
  rw [h, show l.length - j - 0 = (l.drop j).reverse.length by simp]
  exact Le.take (by simp)
set_option maxHeartbeats 8000000 in
theorem shrunk_ok (most : Int) (l : List En) (hn : l.length ≤ 1099511627776) (hok : ∀ e, e ∈ l → OkE e) (hs : sumE l ≤ 1099511627776000) : FnC Try.prog 43 [] [.sl 2 (l.reverse.map encT) l.length, vi most] (fun ts r => ∃ ln, ts = [(ln, .row 75 2 ((shr most l).reverse.map encT))] ∧ r = .own ln 0 (shr most l).length) := by
  refine fn_of Try.func43 rfl Try.ntmps43 Try.results43 rfl fun G => ?_
  repeat' (first | apply ar_nil | (apply ar_ev; (apply ev_move; rfl); rfl) | (apply ar_ev; (first | (apply ev_assign; rfl) | (apply ev_len_sl; rfl)); rfl) | apply aw_seq | apply a_region | apply aw_block | apply go_seq)
  refine a_loop (fun j : Nat => ⟨[(0, .sl 2 (l.reverse.map encT) l.length), (1, vi most), (5, vi (l.length - j : Nat))], []⟩)
    (fun j => j ≤ l.length ∧ shr most (l.drop j) = shr most l) (fun j => l.length - j) 0 (Sub.of (by repeat (first | exact .nil | refine .cons rfl Le.refl ?_)) (by repeat (first | exact Takes.nil | (apply Takes.cons; focus (repeat (first | exact Take.head | apply Take.tail | apply Take.right)))))) ⟨Nat.zero_le _, rfl⟩ ?_
  rintro j ⟨hj, hsh⟩
  refine aw_via (fun _ : Unit => ⟨[(0, .sl 2 (l.reverse.map encT) l.length), (1, vi most), (5, vi (l.length - j : Nat))], []⟩) (fun h => ?_) (fun _ => ?_)
  · exact h ()
  have hdl : ∀ k, sumE (l.drop k) ≤ sumE l := fun k => by
    have := sumE_append (l.take k) (l.drop k)
    rw [List.take_append_drop] at this
    omega
  have hle := le_rev l j hj
  have hsum := rsum_ok (l.drop j).reverse (by simp; omega) (fun e he => hok e (List.mem_of_mem_drop (by simpa using he))) (by rw [sumE_rev]; exact Nat.le_trans (hdl j) hs)
  rw [sumE_rev] at hsum
  have hbd := hdl j
  by_cases hgo : j < l.length ∧ (sumE (l.drop j) : Int) > most
  · obtain ⟨h1, h2⟩ := hgo
    have e1 : (((l.length - j : Nat)) : Int) - 1 = ((l.length - (j + 1) : Nat) : Int) := by omega
    have hnx : shr most (l.drop (j + 1)) = shr most l := by
      rw [← hsh, List.drop_eq_getElem_cons h1]
      exact (if_pos (by rwa [← List.drop_eq_getElem_cons h1])).symm
    repeat' (first | apply ar_nil | (apply ar_splitp; (apply ev_move; rfl); rfl; all_goals (intro hc; try (exfalso; first | omega | contradiction | (simp at hc; omega) | (simp_all; done)))) | (apply ar_ev; (apply ev_move; rfl); rfl) | (apply ar_ev; (first | (apply ev_assign; rfl) | (apply ev_pick_t; rfl; rfl) | (apply ev_gtr; rfl; rfl) | (apply ev_sub; rfl; rfl; exact (by first | omega | assumption); exact (by first | omega | assumption))); rfl) | (apply ar_take; rfl; rfl; rfl; (apply ev_move; rfl); rfl) | (apply ar_take; rfl; rfl; rfl; (first | (apply ev_callA hsum; rfl; rfl; exact Les.cons hle .nil) | (apply ev_gtr; rfl; rfl) | (apply ev_slice_sl; rfl; exact (by first | exact LoB.none | exact LoB.some (l := 0) rfl | exact LoB.some (l := 1) rfl | exact LoB.some rfl); exact (by first | exact HiB.none | exact HiB.some rfl); exact (by first | omega | assumption); exact (by first | omega | assumption | (simp; done) | (simp; omega) | exact Nat.le_of_ble_eq_true rfl))); rfl) | apply aw_seq | apply a_region | apply aw_block | apply aw_skip | (apply aw_condp; rfl; all_goals (intro hc; try (exfalso; first | omega | contradiction | (simp at hc; omega) | (simp_all; done)))) | apply go_seq | apply go_block)
    refine go_loop_back ⟨j + 1, ⟨by omega, hnx⟩, by omega, ?_⟩
    rw [← e1]
    exact Sub.of (by repeat (first | exact .nil | refine .cons rfl Le.refl ?_)) (by repeat (first | exact Takes.nil | (apply Takes.cons; focus (repeat (first | exact Take.head | apply Take.tail | apply Take.right)))))
  · have hS : shr most l = l.drop j := by
      rw [← hsh]
      by_cases h1 : j < l.length
      · exact shr_id (by omega)
      · rw [List.drop_of_length_le (by omega)]; rfl
    rw [hS]
    have hlen : (l.drop j).length = l.length - j := by simp
    have hlo : (l.drop j).length ≤ 1099511627776 := by omega
    have hget : ∀ (i : Nat) (e : En), (l.drop j).reverse[i]? = some e → (l.reverse.map encT)[i]? = some (encT e) := fun i e h => by
      rw [rev_split l j, List.map_append, List.getElem?_append_left (by rw [List.length_map]; exact (List.getElem?_eq_some_iff.1 h).1), List.getElem?_map, h]; rfl
    clear hsh
    repeat' ((fail_if_success (show AW _ (.region 4 _ _) _ _)); (first | apply ar_nil | (apply ar_splitp; (apply ev_move; rfl); rfl; all_goals (intro hc; try (exfalso; first | omega | contradiction | (simp at hc; omega) | (simp_all; done)))) | (apply ar_ev; (apply ev_move; rfl); rfl) | (apply ar_ev; (first | (apply ev_pick_t; rfl; rfl) | (apply ev_pick_f; rfl; rfl) | (apply ev_gtr; rfl; rfl)); rfl) | (apply ar_skip; rfl; rfl; rfl; rfl; rfl) | (apply ar_take; rfl; rfl; rfl; (apply ev_move; rfl); rfl) | (apply ar_take; rfl; rfl; rfl; (first | (apply ev_callA hsum; rfl; rfl; exact Les.cons hle .nil) | (apply ev_gtr; rfl; rfl) | (apply ev_slice_sl; rfl; exact (by first | exact LoB.none | exact LoB.some (l := 0) rfl | exact LoB.some (l := 1) rfl | exact LoB.some rfl); exact (by first | exact HiB.none | exact HiB.some rfl); exact (by first | omega | assumption); exact (by first | omega | assumption | (simp; done) | (simp; omega) | exact Nat.le_of_ble_eq_true rfl))); rfl) | apply aw_seq | apply a_region | apply aw_exit | (apply aw_condp; rfl; all_goals (intro hc; try (exfalso; first | omega | contradiction | (simp at hc; omega) | (simp_all; done)))) | (apply aw_cond_f; rfl) | apply go_seq | apply go_seq_exit | apply go_block_exit | apply go_loop_exit))
    all_goals
      refine AW.sub (st' := ⟨[(0, .sl 2 (l.reverse.map encT) l.length), (5, vi (l.length - j : Nat))], []⟩) (Sub.of (by repeat (first | exact .nil | refine .cons rfl Le.refl ?_)) (by repeat (first | exact Takes.nil | (apply Takes.cons; focus (repeat (first | exact Take.head | apply Take.tail | apply Take.right)))))) ?_
      clear hsum hle hgo hc
      rw [← hlen]
      have hrl : (l.drop j).reverse.length = (l.drop j).length := by simp
      generalize (l.drop j).length = N at *
      generalize (l.drop j).reverse = S at *
      repeat' ((fail_if_success (show AW _ (.region 5 _ _) _ _)); (first | apply ar_nil | (apply ar_ev; (apply ev_assign; rfl); rfl) | apply aw_seq | apply a_region | apply go_seq))
      refine aw_adopt 6 75 2 rfl fun lab => ?_
      repeat' ((fail_if_success (show AW _ (.region 6 _ _) _ _)); (first | apply ar_nil | (apply ar_ev; (apply ev_assign; rfl); rfl) | apply a_region | apply aw_block | apply go_seq))
      refine a_loop (fun g : Nat × Nat => ⟨[(0, .sl 2 (l.reverse.map encT) l.length), (5, vi N), (6, .own g.2 0 g.1), (7, vi g.1)], [(g.2, .row 75 2 ((S.map encT).take g.1))]⟩)
        (fun g => g.1 ≤ N) (fun g => N - g.1) (0, lab) (Sub.of (by repeat (first | exact .nil | refine .cons rfl Le.refl ?_)) (by repeat (first | exact Takes.nil | (apply Takes.cons; focus (repeat (first | exact Take.head | apply Take.tail | apply Take.right)))))) (Nat.zero_le _) ?_
      rintro ⟨i, lab⟩ hi
      dsimp only at *
      repeat' (first | apply ar_nil | (apply ar_ev; (apply ev_move; rfl); rfl) | (apply ar_ev; (apply ev_lss; rfl; rfl); rfl) | apply aw_seq | apply a_region | apply go_seq)
      refine aw_condp rfl (fun hk => ?_) (fun hk => ?_)
      · obtain ⟨e, he⟩ : ∃ e, S[i]? = some e := ⟨_, List.getElem?_eq_getElem (by omega)⟩
        have he2 := hget i e he
        have hli : i < l.length := by omega
        have hrow : List.take i (List.drop 0 ((S.map encT).take i)) ++ List.take 1 [encT e] = (S.map encT).take (i + 1) := by
          have h1 : (S.map encT).take (i + 1) = (S.map encT).take i ++ [encT e] := by rw [List.take_add_one, List.getElem?_map, he]; rfl
          rw [h1, List.drop_zero, List.take_of_length_le (l := List.take i (S.map encT)) (by simp; omega)]; rfl
        have hlt : i ≤ (List.take i (S.map encT)).length := by simp; omega
        repeat' (first | apply ar_nil | (apply ar_ev; (apply ev_move; rfl); rfl) | (apply ar_ev; (first | (apply ev_assign; rfl) | (apply ev_load_ip_agg; rfl; exact Nat.le_of_ble_eq_true rfl) | (apply ev_inc; rfl; exact (by first | omega | assumption)) | (apply ev_indexAddr_sl; rfl; rfl; exact (by first | omega | assumption); exact (by first | rfl | assumption | exact get_map (by assumption))) | (apply ev_buildSlice; rfl; rfl; rfl; rfl; rfl; rfl; rfl)); rfl) | apply aw_seq | apply a_region | apply aw_block | apply aw_skip | apply go_seq | apply go_block | (apply ar_append; rfl; (focus ((repeat (first | exact Take.head | apply Take.tail | apply Take.right)); done)); rfl; exact (by first | omega | assumption | (simp; done) | (simp; omega) | exact Nat.le_of_ble_eq_true rfl); exact (by first | omega | assumption | (simp; done) | (simp; omega) | exact Nat.le_of_ble_eq_true rfl); exact (by first | omega | assumption | (simp; done) | (simp; omega) | exact Nat.le_of_ble_eq_true rfl); rfl; intro lab))
        exact go_loop_back ⟨(i + 1, lab), by dsimp only; omega, by dsimp only; omega, by dsimp only; exact Sub.of (by repeat (first | exact .nil | refine .cons rfl Le.refl ?_)) (by repeat (first | exact Takes.nil | (apply Takes.cons; focus (repeat (first | exact Take.head | exact Take.rowc hrow Take.head | apply Take.tail | apply Take.right)))))⟩
      · obtain rfl : i = N := by omega
        have hrow : (S.map encT).take i = S.map encT := List.take_of_length_le (by simp; omega)
        repeat' (first | apply ar_nil | (apply ar_ev; (apply ev_move; rfl); rfl) | (apply ar_ev; (apply ev_assign; rfl); rfl) | apply aw_seq | apply a_region | apply aw_exit | apply aw_ret | apply go_seq | apply go_seq_exit | apply go_block_exit | apply go_loop_exit)
        exact g_ret1 (r_tmp rfl) (us := [(lab, .row 75 2 (S.map encT))]) (.cons (Take.rowc hrow .head) .nil) ⟨lab, rfl, rfl⟩
end Go.Proofs.Ytmenbolalghljaa

set_option linter.unusedVariables false
set_option linter.unusedSimpArgs false
set_option maxRecDepth 100000
namespace Go.Proofs.Ytmenbolalghljaa
open Go.Proofs Go.Proofs.YtmenbolalghljaaA

theorem addN_big {mx : Int} {l : List En} {e : En} (h : (szE e : Int) > mx) : addN mx l e = [] := by
  unfold addN
  rw [if_neg (by omega), shr_neg (by omega)]
theorem rev_own (ln : Nat) (l : List En) {r rs : List (Nat × Tok)} (ht : Take rs ln (.row 75 2 (l.reverse.map encT)) r) : Cv rs (.own ln 0 l.length) (.sl 2 (l.reverse.map encT) l.length) := Cv.own0 ht (by simp)
set_option maxHeartbeats 8000000 in
theorem rAdd_ok (lr ln : Nat) (mx : Int) (l : List En) (e : En) (hn : l.length ≤ 1048576) (hok : ∀ e, e ∈ l → OkE e) (he : OkE e) (hs : sumE l ≤ 1099511627776) :
    FnC Try.prog 28 (refT lr ln mx l) [.ptr lr 0 0, vs e.1, vs e.2] (fun ts r => (∃ ln', ts = refT lr ln' mx (addN mx l e)) ∧ r = .tup []) := by
  refine fn_of Try.func28 rfl Try.ntmps28 Try.results28 rfl fun G => ?_
  have hz := rsize_ok e he
  have h1 := he.a
  have h2 := he.b
  have hz2 : szE e = e.1.size + e.2.size + 32 := rfl
  have hsum : sumE (l ++ [e]) ≤ 1099511627776000 := by rw [sumE_append]; simp only [sumE]; omega
  have hshr := shrunk_ok mx (l ++ [e]) (by simp; omega) (fun x hx => by
    rcases List.mem_append.1 hx with hx | hx
    · exact hok x hx
    · rw [List.mem_singleton.1 hx]; exact he) hsum
  rw [← addN_shr] at hshr
  have hrow : ∀ lab, Cv [(lab, .row 75 2 (List.take 1 (List.drop 0 [encT e]) ++ List.take l.length (l.reverse.map encT)))] (.own lab 0 (1 + l.length)) (.sl 2 ((l ++ [e]).reverse.map encT) (l ++ [e]).length) := fun lab => by
    have e1 : List.take 1 (List.drop 0 [encT e]) ++ List.take l.length (l.reverse.map encT) = (l ++ [e]).reverse.map encT := by
      rw [List.take_of_length_le (l := l.reverse.map encT) (by simp), List.reverse_append]; rfl
    rw [e1, show 1 + l.length = (l ++ [e]).length by simp; omega]
    exact rev_own lab (l ++ [e]) .head
  repeat' (first | apply ar_nil | (apply ar_ev; (apply ev_move; rfl); rfl) | (apply ar_ev; (first | exact ev_call rfl rfl hz | (apply ev_load_ptr_one; rfl; (focus ((repeat (first | exact Take.head | apply Take.tail | apply Take.right)); done)); exact (by first | rfl | assumption | exact get_map (by assumption)); rfl) | (apply ev_fieldAddr_ptr; rfl) | (apply ev_nilCheck_ptr; rfl) | (apply ev_load_ptr_agg; rfl; (focus ((repeat (first | exact Take.head | apply Take.tail | apply Take.right)); done)); exact (by first | rfl | assumption | exact get_map (by assumption)); exact Nat.le_of_ble_eq_true rfl) | (apply ev_gtr; rfl; rfl) | (apply ev_build; rfl; rfl; rfl)); rfl) | (apply ar_new; (first | apply eff_alloc | (apply eff_box; rfl; exact lies_of rfl) | (apply eff_conv_bytes; rfl; exact (by first | omega | assumption | (simp; done) | (simp; omega) | exact Nat.le_of_ble_eq_true rfl))); exact .nil; rfl; intro lab) | (apply ar_store; rfl; (focus ((repeat (first | exact Take.head | apply Take.tail | apply Take.right)); done)); rfl; rfl; exact (by first | rfl | assumption | exact get_map (by assumption)); rfl; rfl) | apply aw_seq | apply a_region | apply go_seq | (first | (apply a_drawN 2; rfl; rfl) | (apply a_drawN 3; rfl; rfl) | (apply a_drawN 4; rfl; rfl) | (apply a_drawN 5; rfl; rfl) | (apply a_drawN 6; rfl; rfl) | (apply a_drawN 7; rfl; rfl) | (apply a_drawN 8; rfl; rfl) | (apply a_drawN 9; rfl; rfl) | (apply a_drawN 10; rfl; rfl) | (apply a_drawN 11; rfl; rfl) | (apply a_drawN 12; rfl; rfl) | (apply a_drawN 13; rfl; rfl) | (apply a_drawN 14; rfl; rfl) | (apply a_drawN 15; rfl; rfl) | (apply a_drawN 16; rfl; rfl) | (apply a_drawN 17; rfl; rfl) | (apply a_drawN 18; rfl; rfl) | (apply a_drawN 19; rfl; rfl) | (apply a_drawN 20; rfl; rfl) | (apply a_drawN 21; rfl; rfl) | (apply a_drawN 22; rfl; rfl) | (apply a_drawN 23; rfl; rfl) | (apply a_drawN 24; rfl; rfl) | (apply a_drawN 25; rfl; rfl) | (apply a_drawN 26; rfl; rfl) | (apply a_drawN 27; rfl; rfl) | (apply a_drawN 28; rfl; rfl) | (apply a_drawN 29; rfl; rfl) | (apply a_drawN 30; rfl; rfl) | (apply a_drawN 31; rfl; rfl) | (apply a_drawN 32; rfl; rfl) | (apply a_drawN 33; rfl; rfl) | (apply a_drawN 34; rfl; rfl) | (apply a_drawN 35; rfl; rfl) | (apply a_drawN 36; rfl; rfl) | (apply a_drawN 37; rfl; rfl) | (apply a_drawN 38; rfl; rfl) | (apply a_drawN 39; rfl; rfl) | (apply a_drawN 40; rfl; rfl) | (apply a_drawN 41; rfl; rfl) | (apply a_drawN 42; rfl; rfl) | (apply a_drawN 43; rfl; rfl) | (apply a_drawN 44; rfl; rfl) | (apply a_drawN 45; rfl; rfl)))
  refine aw_condp rfl (fun hk => ?_) (fun hk => ?_)
  · repeat' ((fail_if_success (show AW _ (.ret) _ _)); (first | apply ar_nil | (apply ar_ev; (apply ev_move; rfl); rfl) | (apply ar_ev; (first | (apply ev_fieldAddr_ptr; rfl) | (apply ev_nilCheck_ptr; rfl)); rfl) | (apply ar_store1; rfl; (focus ((repeat (first | exact Take.head | apply Take.tail | apply Take.right)); done)); rfl; rfl; exact (by first | rfl | assumption | exact get_map (by assumption)); rfl) | apply aw_seq | apply a_region | apply go_seq))
    refine aw_adoptc (i := 0) (j := 1) 75 2 (by repeat (first | exact Take.head | apply Take.tail | apply Take.right)) rfl rfl fun lm => ?_
    repeat' (first | apply aw_ret | apply go_seq_ret)
    have hn0 : addN mx l e = [] := addN_big hk
    exact g_ret0 (us := refT lr lm mx []) (by repeat (first | exact Takes.nil | (apply Takes.cons; focus (repeat (first | exact Take.head | apply Take.tail | apply Take.right))))) ⟨⟨lm, by rw [hn0]⟩, rfl⟩
  · repeat' ((fail_if_success (show AW _ (.region 4 _ _) _ _)); (first | (apply ar_new (d := 22); (apply eff_buildSlice; rfl; rfl; rfl; rfl; rfl; rfl; rfl); exact .nil; rfl; intro lab) | apply ar_nil | (apply ar_ev; (first | (apply ev_assign; rfl) | (apply ev_load_ptr_agg; rfl; (focus ((repeat (first | exact Take.head | apply Take.tail | apply Take.right)); done)); exact (by first | rfl | assumption | exact get_map (by assumption)); exact Nat.le_of_ble_eq_true rfl)); rfl) | apply aw_seq | apply a_region | apply aw_skip | apply go_seq))
    repeat' (first | (refine ar_cv 27 rfl (.cons (by repeat (first | exact Take.head | apply Take.tail | apply Take.right)) .nil) (rev_own _ l .head) ?_) | (refine ar_cv 28 rfl (.cons .head .nil) (hrow _) ?_) | (apply ar_call hshr; rfl; rfl; (focus ((repeat (first | exact Takes.nil | (apply Takes.cons; focus (repeat (first | exact Take.head | apply Take.tail | apply Take.right))))); done)); rfl; rintro _ _ ⟨ln2, rfl, rfl⟩) | apply ar_nil | (apply ar_ev; (apply ev_move; rfl); rfl) | (apply ar_ev; (first | (apply ev_load_ptr_one; rfl; (focus ((repeat (first | exact Take.head | apply Take.tail | apply Take.right)); done)); exact (by first | rfl | assumption | exact get_map (by assumption)); rfl) | (apply ev_fieldAddr_ptr; rfl) | (apply ev_assign; rfl) | (apply ev_nilCheck_ptr; rfl)); rfl) | (apply ar_store1; rfl; (focus ((repeat (first | exact Take.head | apply Take.tail | apply Take.right)); done)); rfl; rfl; exact (by first | rfl | assumption | exact get_map (by assumption)); rfl) | apply a_region | apply go_seq | (apply ar_append; rfl; (focus ((repeat (first | exact Take.head | apply Take.tail | apply Take.right)); done)); rfl; exact (by first | omega | assumption | (simp; done) | (simp; omega) | exact Nat.le_of_ble_eq_true rfl); exact (by first | omega | assumption | (simp; done) | (simp; omega) | exact Nat.le_of_ble_eq_true rfl); exact (by first | omega | assumption | (simp; done) | (simp; omega) | exact Nat.le_of_ble_eq_true rfl); rfl; intro lab))
    exact g_end0 (us := refT lr ln2 mx (addN mx l e)) (by repeat (first | exact Takes.nil | (apply Takes.cons; focus (repeat (first | exact Take.head | apply Take.tail | apply Take.right))))) ⟨⟨ln2, rfl⟩, rfl⟩
set_option maxHeartbeats 8000000 in
theorem rResize_ok (lr ln : Nat) (mx n : Int) (l : List En) (hn : l.length ≤ 1048576) (hok : ∀ e, e ∈ l → OkE e) (hs : sumE l ≤ 1099511627776) :
    FnC Try.prog 29 (refT lr ln mx l) [.ptr lr 0 0, vi n] (fun ts r => ((n < 0 ∨ 65536 < n) ∧ ts = refT lr ln mx l ∧ r = vi 1) ∨ (¬(n < 0 ∨ 65536 < n) ∧ (∃ ln', ts = refT lr ln' n (shr n l)) ∧ r = vi 0)) := by
  refine fn_of Try.func29 rfl Try.ntmps29 Try.results29 rfl fun G => ?_
  have hb := good_ok n
  have hshr := shrunk_ok n l (by omega) hok (by omega)
  repeat' (first | apply ar_nil | (apply ar_ev; (apply ev_move; rfl); rfl) | (apply ar_ev; (first | exact ev_call rfl rfl hb | (apply ev_assign; rfl) | (apply ev_notp; rfl)); rfl) | apply aw_seq | apply a_region | apply go_seq)
  refine aw_condb rfl (fun hc => ?_) (fun hc => ?_)
  · have hc : n < 0 ∨ 65536 < n := by simp at hc; omega
    repeat' (first | apply ar_nil | (apply ar_ev; (apply ev_assign; rfl); rfl) | apply aw_seq | apply a_region | apply aw_ret | apply go_seq | apply go_seq_ret)
    exact g_ret1 (r_tmp rfl) (us := refT lr ln mx l) (by repeat (first | exact Takes.nil | (apply Takes.cons; focus (repeat (first | exact Take.head | apply Take.tail | apply Take.right))))) (.inl ⟨hc, rfl, rfl⟩)
  · have hc : ¬(n < 0 ∨ 65536 < n) := by simp at hc; omega
    repeat' (first | (refine ar_cv 16 rfl (.cons (by repeat (first | exact Take.head | apply Take.tail | apply Take.right)) .nil) (rev_own _ l .head) ?_) | (apply ar_call hshr; rfl; rfl; (focus ((repeat (first | exact Takes.nil | (apply Takes.cons; focus (repeat (first | exact Take.head | apply Take.tail | apply Take.right))))); done)); rfl; rintro _ _ ⟨ln2, rfl, rfl⟩) | apply ar_nil | (apply ar_ev; (apply ev_move; rfl); rfl) | (apply ar_ev; (first | (apply ev_load_ptr_one; rfl; (focus ((repeat (first | exact Take.head | apply Take.tail | apply Take.right)); done)); exact (by first | rfl | assumption | exact get_map (by assumption)); rfl) | (apply ev_fieldAddr_ptr; rfl) | (apply ev_assign; rfl) | (apply ev_nilCheck_ptr; rfl)); rfl) | (apply ar_store1; rfl; (focus ((repeat (first | exact Take.head | apply Take.tail | apply Take.right)); done)); rfl; rfl; exact (by first | rfl | assumption | exact get_map (by assumption)); rfl) | apply aw_seq | apply a_region | apply aw_skip | apply aw_ret | apply go_seq)
    exact g_ret1 (r_tmp rfl) (us := refT lr ln2 n (shr n l)) (by repeat (first | exact Takes.nil | (apply Takes.cons; focus (repeat (first | exact Take.head | apply Take.tail | apply Take.right))))) (.inr ⟨hc, ⟨ln2, rfl⟩, rfl⟩)
set_option maxHeartbeats 8000000 in
theorem rCopy_ok (mx : Int) (l : List En) (hn : l.length ≤ 1048576) : FnC Try.prog 11 [] [refI mx l] (fun ts r => ∃ lr ln, ts = refT lr ln mx l ∧ r = .ptr lr 0 0) := by
  refine fn_of Try.func11 rfl Try.ntmps11 Try.results11 rfl fun G => ?_
  repeat' ((fail_if_success (show AW _ (.region 2 _ _) _ _)); (first | apply ar_nil | (apply ar_ev; (apply ev_move; rfl); rfl) | (apply ar_ev; (first | (apply ev_load_ip_one; rfl; rfl) | (apply ev_fieldAddr_ip; rfl) | (apply ev_assign; rfl) | (apply ev_nilCheck_ip; rfl) | (apply ev_build; rfl; rfl; rfl)); rfl) | (apply ar_new; (first | apply eff_alloc | (apply eff_box; rfl; exact lies_of rfl) | (apply eff_conv_bytes; rfl; exact (by first | omega | assumption | (simp; done) | (simp; omega) | exact Nat.le_of_ble_eq_true rfl))); exact .nil; rfl; intro lab) | apply aw_seq | apply a_region | apply go_seq))
  generalize lab = l0 at *
  refine aw_adoptc (i := 0) (j := 1) 75 2 .head rfl rfl fun lm => ?_
  have hrow : List.take 0 (List.drop 0 ([] : List (List AV))) ++ List.take l.length (l.reverse.map encT) = l.reverse.map encT := by
    simp only [List.drop_nil, List.take_nil, List.nil_append]
    exact List.take_of_length_le (by simp)
  refine AW.sub (st' := ⟨[(0, refI mx l), (3, .ptr l0 0 0)], [(l0, .row 69 2 [[vi mx, .own lm 0 0]]), (lm, .row 75 2 [])]⟩) (Sub.of (by repeat (first | exact .nil | refine .cons rfl Le.refl ?_)) (by repeat (first | exact Takes.nil | (apply Takes.cons; focus (repeat (first | exact Take.head | apply Take.tail | apply Take.right)))))) ?_
  refine a_mix [true, true, true, true, false, true, true, true, true, false, true, true, false] [0, 1, 2, 3, 5, 6, 7, 8, 4, 9, 10, 11, 12] (by kernel_rfl) (by repeat (first | exact Als.nil | (apply Als.al; rfl) | (apply Als.other; rfl))) (Takes.cons (l := l0) (by repeat (first | exact Take.head | apply Take.tail | apply Take.right)) (Takes.cons (l := lm) (by repeat (first | exact Take.head | apply Take.tail | apply Take.right)) Takes.nil)) ?_
  repeat' (first | (refine tl_append rfl rfl rfl inferInstance inferInstance rfl (by repeat (first | exact Take.head | apply Take.tail | apply Take.right)) rfl (by first | omega | (simp; done)) (by omega) (by omega) rfl ?_; intro lab) | apply ar_nil | (apply ar_ev; (apply ev_move; rfl); rfl) | (apply ar_ev; (apply ev_assign; rfl); rfl) | apply aw_seq | apply a_region | apply aw_ret | apply go_seq | apply tl_nil | (apply tl_ev; rfl; rfl; (apply ev_move; rfl); rfl) | (apply tl_ev; rfl; rfl; (first | (apply ev_load_ip_one; rfl; rfl) | (apply ev_fieldAddr_ptr; rfl) | (apply ev_fieldAddr_ip; rfl) | (apply ev_nilCheck_ptr; rfl) | (apply ev_nilCheck_ip; rfl)); rfl) | (apply tl_store1; rfl; rfl; rfl; infer_instance; rfl; (focus ((repeat (first | exact Take.head | apply Take.tail | apply Take.right)); done)); rfl; rfl; exact (by first | rfl | assumption | exact get_map (by assumption)); rfl) | (apply tl_evw; rfl; rfl; rfl; (apply ev_load_ptr_one; rfl; (focus ((repeat (first | exact Take.head | apply Take.tail | apply Take.right)); done)); exact (by first | rfl | assumption | exact get_map (by assumption)); rfl); rfl))
  rw [Nat.zero_add l.length]
  exact g_ret1 (r_tmp rfl) (us := refT l0 lab mx l) (.cons (by repeat (first | exact Take.head | apply Take.tail | apply Take.right)) (.cons (Take.rowc hrow .head) .nil)) ⟨l0, lab, rfl, rfl⟩
set_option maxHeartbeats 8000000 in
theorem rAt_ok (mx : Int) (l : List En) (hn : l.length ≤ 1099511627776) (i : Int) (hi : -9223372036854775808 ≤ i ∧ i ≤ 9223372036854775807) : PFn Try.prog 30 [refI mx l, vi i] (atV (atN l i)) := by
  refine fn_of Try.func30 rfl Try.ntmps30 Try.results30 rfl fun G => ?_
  by_cases h1 : 1 ≤ i ∧ i ≤ 61
  · obtain ⟨k, rfl⟩ : ∃ k : Nat, i = (k : Int) + 1 := ⟨(i - 1).toNat, by omega⟩
    obtain ⟨e, he, hfx⟩ := fixedC_at k (by omega)
    have hE : (allE l)[k]? = some e := by unfold allE; rw [List.getElem?_append_left (by rw [fixed_len]; omega)]; exact he
    rw [atN_some hE]
    have hst := static_ok k e he
    repeat' (first | apply ar_nil | (apply ar_splitp; (apply ev_move; rfl); rfl; all_goals (intro hc; try (exfalso; first | omega | contradiction | (simp at hc; omega) | (simp_all; done)))) | (apply ar_ev; (apply ev_move; rfl); rfl) | (apply ar_ev; (first | exact ev_call rfl rfl hst | (apply ev_load_ptr_one; rfl; (focus ((repeat (first | exact Take.head | apply Take.tail | apply Take.right)); done)); exact (by first | rfl | assumption | exact get_map (by assumption)); rfl) | (apply ev_fieldAddr_ptr; rfl) | (apply ev_assign; rfl) | (apply ev_pick_f; rfl; rfl) | (apply ev_lss; rfl; rfl) | (apply ev_leq; rfl; rfl) | (apply ev_build; rfl; rfl; rfl)); rfl) | (apply ar_new; (first | apply eff_alloc | (apply eff_box; rfl; exact lies_of rfl) | (apply eff_conv_bytes; rfl; exact (by first | omega | assumption | (simp; done) | (simp; omega) | exact Nat.le_of_ble_eq_true rfl))); exact .nil; rfl; intro lab) | (apply ar_store; rfl; (focus ((repeat (first | exact Take.head | apply Take.tail | apply Take.right)); done)); rfl; rfl; exact (by first | rfl | assumption | exact get_map (by assumption)); rfl; rfl) | (apply ar_take; rfl; rfl; rfl; (apply ev_move; rfl); rfl) | (apply ar_take; rfl; rfl; rfl; (first | (apply ev_load_ip_one; rfl; rfl) | (apply ev_fieldAddr_ip; rfl) | (apply ev_nilCheck_ip; rfl) | (apply ev_gtr; rfl; rfl) | (apply ev_add; rfl; rfl; exact (by first | omega | assumption); exact (by first | omega | assumption)) | (apply ev_len_sl; rfl)); rfl) | apply aw_seq | apply a_region | apply aw_skip | apply aw_ret | (apply aw_condp; rfl; all_goals (intro hc; try (exfalso; first | omega | contradiction | (simp at hc; omega) | (simp_all; done)))) | apply go_seq | (first | (apply a_drawN 2; rfl; rfl) | (apply a_drawN 3; rfl; rfl) | (apply a_drawN 4; rfl; rfl) | (apply a_drawN 5; rfl; rfl) | (apply a_drawN 6; rfl; rfl) | (apply a_drawN 7; rfl; rfl) | (apply a_drawN 8; rfl; rfl) | (apply a_drawN 9; rfl; rfl) | (apply a_drawN 10; rfl; rfl) | (apply a_drawN 11; rfl; rfl) | (apply a_drawN 12; rfl; rfl) | (apply a_drawN 13; rfl; rfl) | (apply a_drawN 14; rfl; rfl) | (apply a_drawN 15; rfl; rfl) | (apply a_drawN 16; rfl; rfl) | (apply a_drawN 17; rfl; rfl) | (apply a_drawN 18; rfl; rfl) | (apply a_drawN 19; rfl; rfl) | (apply a_drawN 20; rfl; rfl) | (apply a_drawN 21; rfl; rfl) | (apply a_drawN 22; rfl; rfl) | (apply a_drawN 23; rfl; rfl) | (apply a_drawN 24; rfl; rfl) | (apply a_drawN 25; rfl; rfl) | (apply a_drawN 26; rfl; rfl) | (apply a_drawN 27; rfl; rfl) | (apply a_drawN 28; rfl; rfl) | (apply a_drawN 29; rfl; rfl) | (apply a_drawN 30; rfl; rfl) | (apply a_drawN 31; rfl; rfl) | (apply a_drawN 32; rfl; rfl) | (apply a_drawN 33; rfl; rfl) | (apply a_drawN 34; rfl; rfl) | (apply a_drawN 35; rfl; rfl) | (apply a_drawN 36; rfl; rfl) | (apply a_drawN 37; rfl; rfl) | (apply a_drawN 38; rfl; rfl) | (apply a_drawN 39; rfl; rfl) | (apply a_drawN 40; rfl; rfl) | (apply a_drawN 41; rfl; rfl) | (apply a_drawN 42; rfl; rfl) | (apply a_drawN 43; rfl; rfl) | (apply a_drawN 44; rfl; rfl) | (apply a_drawN 45; rfl; rfl)))
    exact g_ret3 (r_tmp rfl) (r_tmp rfl) (r_tmp rfl) .nil rfl
  · by_cases h2 : 1 ≤ i ∧ i ≤ 61 + l.length
    · obtain ⟨k, rfl⟩ : ∃ k : Nat, i = ((61 + k : Nat) : Int) + 1 := ⟨(i - 62).toNat, by omega⟩
      obtain ⟨e, he⟩ : ∃ e, l.reverse[k]? = some e := ⟨_, List.getElem?_eq_getElem (by simp; omega)⟩
      have he2 : (l.reverse.map encT)[k]? = some (encT e) := by rw [List.getElem?_map, he]; rfl
      have hE : (allE l)[61 + k]? = some e := by
        unfold allE
        rw [List.getElem?_append_right (by rw [fixed_len]; omega), fixed_len, Nat.add_sub_cancel_left]
        exact he
      rw [atN_some hE]
      have e1 : ((((61 + k : Nat) : Int) + 1 - 61 - 1)) = ((k : Nat) : Int) := by omega
      repeat' (first | apply ar_nil | (apply ar_splitp; (apply ev_move; rfl); rfl; all_goals (intro hc; try (exfalso; first | omega | contradiction | (simp at hc; omega) | (simp_all; done)))) | (apply ar_ev; (apply ev_move; rfl); rfl) | (apply ar_ev; (first | (apply ev_load_ip_one; rfl; rfl) | (apply ev_fieldAddr_ip; rfl) | (apply ev_assign; rfl) | (apply ev_nilCheck_ip; rfl) | (apply ev_pick_f; rfl; rfl) | (apply ev_lss; rfl; rfl) | (apply ev_leq; rfl; rfl) | (apply ev_sub; rfl; rfl; exact (by first | omega | assumption); exact (by first | omega | assumption)) | (apply ev_build; rfl; rfl; rfl)); rfl) | (apply ar_new; (first | apply eff_alloc | (apply eff_box; rfl; exact lies_of rfl) | (apply eff_conv_bytes; rfl; exact (by first | omega | assumption | (simp; done) | (simp; omega) | exact Nat.le_of_ble_eq_true rfl))); exact .nil; rfl; intro lab) | (apply ar_store; rfl; (focus ((repeat (first | exact Take.head | apply Take.tail | apply Take.right)); done)); rfl; rfl; exact (by first | rfl | assumption | exact get_map (by assumption)); rfl; rfl) | (apply ar_take; rfl; rfl; rfl; (apply ev_move; rfl); rfl) | (apply ar_take; rfl; rfl; rfl; (first | (apply ev_load_ip_one; rfl; rfl) | (apply ev_fieldAddr_ip; rfl) | (apply ev_nilCheck_ip; rfl) | (apply ev_gtr; rfl; rfl) | (apply ev_add; rfl; rfl; exact (by first | omega | assumption); exact (by first | omega | assumption)) | (apply ev_len_sl; rfl)); rfl) | apply aw_seq | apply a_region | apply aw_skip | (apply aw_condp; rfl; all_goals (intro hc; try (exfalso; first | omega | contradiction | (simp at hc; omega) | (simp_all; done)))) | apply go_seq)
      rw [e1]
      repeat' (first | apply ar_nil | (apply ar_ev; (first | (apply ev_load_ptr_one; rfl; (focus ((repeat (first | exact Take.head | apply Take.tail | apply Take.right)); done)); exact (by first | rfl | assumption | exact get_map (by assumption)); rfl) | (apply ev_fieldAddr_ptr; rfl) | (apply ev_assign; rfl) | (apply ev_load_ip_agg; rfl; exact Nat.le_of_ble_eq_true rfl) | (apply ev_indexAddr_sl; rfl; rfl; exact (by first | omega | assumption); exact (by first | rfl | assumption | exact get_map (by assumption)))); rfl) | (apply ar_store; rfl; (focus ((repeat (first | exact Take.head | apply Take.tail | apply Take.right)); done)); rfl; rfl; exact (by first | rfl | assumption | exact get_map (by assumption)); rfl; rfl) | apply aw_seq | apply aw_ret | apply go_seq | (first | (apply a_drawN 2; rfl; rfl) | (apply a_drawN 3; rfl; rfl) | (apply a_drawN 4; rfl; rfl) | (apply a_drawN 5; rfl; rfl) | (apply a_drawN 6; rfl; rfl) | (apply a_drawN 7; rfl; rfl) | (apply a_drawN 8; rfl; rfl) | (apply a_drawN 9; rfl; rfl) | (apply a_drawN 10; rfl; rfl) | (apply a_drawN 11; rfl; rfl) | (apply a_drawN 12; rfl; rfl) | (apply a_drawN 13; rfl; rfl) | (apply a_drawN 14; rfl; rfl) | (apply a_drawN 15; rfl; rfl) | (apply a_drawN 16; rfl; rfl) | (apply a_drawN 17; rfl; rfl) | (apply a_drawN 18; rfl; rfl) | (apply a_drawN 19; rfl; rfl) | (apply a_drawN 20; rfl; rfl) | (apply a_drawN 21; rfl; rfl) | (apply a_drawN 22; rfl; rfl) | (apply a_drawN 23; rfl; rfl) | (apply a_drawN 24; rfl; rfl) | (apply a_drawN 25; rfl; rfl) | (apply a_drawN 26; rfl; rfl) | (apply a_drawN 27; rfl; rfl) | (apply a_drawN 28; rfl; rfl) | (apply a_drawN 29; rfl; rfl) | (apply a_drawN 30; rfl; rfl) | (apply a_drawN 31; rfl; rfl) | (apply a_drawN 32; rfl; rfl) | (apply a_drawN 33; rfl; rfl) | (apply a_drawN 34; rfl; rfl) | (apply a_drawN 35; rfl; rfl) | (apply a_drawN 36; rfl; rfl) | (apply a_drawN 37; rfl; rfl) | (apply a_drawN 38; rfl; rfl) | (apply a_drawN 39; rfl; rfl) | (apply a_drawN 40; rfl; rfl) | (apply a_drawN 41; rfl; rfl) | (apply a_drawN 42; rfl; rfl) | (apply a_drawN 43; rfl; rfl) | (apply a_drawN 44; rfl; rfl) | (apply a_drawN 45; rfl; rfl)))
      exact g_ret3 (r_tmp rfl) (r_tmp rfl) (r_tmp rfl) .nil rfl
    · rw [atN_none h2]
      repeat' (first | apply ar_nil | (apply ar_splitp; (apply ev_move; rfl); rfl; all_goals (intro hc; try (exfalso; first | omega | contradiction | (simp at hc; omega) | (simp_all; done)))) | (apply ar_ev; (apply ev_move; rfl); rfl) | (apply ar_ev; (first | (apply ev_assign; rfl) | (apply ev_pick_t; rfl; rfl) | (apply ev_pick_f; rfl; rfl) | (apply ev_lss; rfl; rfl)); rfl) | (apply ar_skip; rfl; rfl; rfl; rfl; rfl) | (apply ar_take; rfl; rfl; rfl; (apply ev_move; rfl); rfl) | (apply ar_take; rfl; rfl; rfl; (first | (apply ev_load_ip_one; rfl; rfl) | (apply ev_fieldAddr_ip; rfl) | (apply ev_nilCheck_ip; rfl) | (apply ev_gtr; rfl; rfl) | (apply ev_add; rfl; rfl; exact (by first | omega | assumption); exact (by first | omega | assumption)) | (apply ev_len_sl; rfl)); rfl) | apply aw_seq | apply a_region | apply aw_ret | (apply aw_condp; rfl; all_goals (intro hc; try (exfalso; first | omega | contradiction | (simp at hc; omega) | (simp_all; done)))) | (apply aw_cond_t; rfl) | apply go_seq | apply go_seq_ret)
      all_goals exact g_ret3 (r_tmp rfl) (r_tmp rfl) (r_tmp rfl) .nil rfl
set_option maxHeartbeats 8000000 in
theorem rFind_ok (mx : Int) (l : List En) (hn : l.length ≤ 1099511627776) (nm vl : ByteArray) : PFn Try.prog 31 [refI mx l, vs nm, vs vl] (.tup [vi (findN l nm vl).1, vb (findN l nm vl).2]) := by
  refine fn_of Try.func31 rfl Try.ntmps31 Try.results31 rfl fun G => ?_
  repeat' (first | apply ar_nil | (apply ar_ev; (apply ev_assign; rfl); rfl) | apply aw_seq | apply a_region | apply aw_block | apply go_seq)
  refine a_loop (fun k : Nat => ⟨[(0, refI mx l), (1, vs nm), (2, vs vl), (8, vi (((allX l).take k).foldl (stepN nm) 0 : Nat)), (9, vi ((k : Int) + 1))], []⟩)
    (fun k => k ≤ 61 + l.length ∧ ∀ y, y ∈ (allX l).take k → hitB nm vl y = false) (fun k => 61 + l.length - k) 0 (Sub.of (by repeat (first | exact .nil | refine .cons rfl Le.refl ?_)) (by repeat (first | exact Takes.nil | (apply Takes.cons; focus (repeat (first | exact Take.head | apply Take.tail | apply Take.right)))))) ⟨Nat.zero_le _, fun y hy => by simp at hy⟩ ?_
  rintro k ⟨hk, hno⟩
  repeat' (first | apply ar_nil | (apply ar_ev; (apply ev_move; rfl); rfl) | (apply ar_ev; (first | (apply ev_load_ip_one; rfl; rfl) | (apply ev_fieldAddr_ip; rfl) | (apply ev_nilCheck_ip; rfl) | (apply ev_leq; rfl; rfl) | (apply ev_add; rfl; rfl; exact (by first | omega | assumption); exact (by first | omega | assumption)) | (apply ev_len_sl; rfl)); rfl) | apply aw_seq | apply a_region | apply go_seq)
  refine aw_condp rfl (fun hk2 => ?_) (fun hk2 => ?_)
  · obtain ⟨e, hE⟩ : ∃ e, (allE l)[k]? = some e := ⟨_, List.getElem?_eq_getElem (by rw [allE_len]; omega)⟩
    have hat := rAt_ok mx l hn ((k : Int) + 1) (by omega)
    rw [atN_some hE] at hat
    dsimp only [atV] at hat
    have hs1 : ((allX l).take (k + 1)).foldl (stepN nm) 0 = stepN nm (((allX l).take k).foldl (stepN nm) 0) (e, k + 1) := by rw [allX_snoc hE, List.foldl_append]; rfl
    have e3 : ((k + 1 : Nat) : Int) = (k : Int) + 1 := by omega
    by_cases hnm : e.1 = nm
    · by_cases hvl : e.2 = vl
      · have hf : findN l nm vl = (k + 1, true) := by
          unfold findN
          rw [find_hit (ini := (allX l).take k) (rest := (allX l).drop (k + 1)) (x := (e, k + 1)) (by rw [← allX_snoc hE, List.take_append_drop]) hno (decide_eq_true ⟨hnm, hvl⟩)]
        rw [hf]
        repeat' (first | apply ar_nil | (apply ar_ev; (apply ev_move; rfl); rfl) | (apply ar_ev; (first | exact ev_call rfl rfl hat | (apply ev_assign; rfl) | (apply ev_eqsp; rfl; rfl) | (apply ev_nesp; rfl; rfl) | (apply ev_extract; rfl; rfl)); rfl) | apply aw_seq | apply a_region | apply aw_block | apply aw_skip | apply aw_ret | (apply aw_condp; rfl; all_goals (intro hc; try (exfalso; first | omega | contradiction | (simp at hc; omega) | (simp_all; done)))) | apply go_seq | apply go_seq_ret | apply go_block_ret | apply go_loop_ret)
        exact g_ret2 (r_tmp rfl) (r_tmp rfl) .nil (by rw [e3])
      · have hno2 : ∀ y, y ∈ (allX l).take (k + 1) → hitB nm vl y = false := by
          rw [allX_snoc hE]
          exact no_snoc hno (decide_eq_false fun h => hvl h.2)
        generalize ((allX l).take k).foldl (stepN nm) 0 = fN at *
        repeat' (first | apply ar_nil | (apply ar_ev; (apply ev_move; rfl); rfl) | (apply ar_ev; (first | exact ev_call rfl rfl hat | (apply ev_assign; rfl) | (apply ev_eqip; rfl; rfl) | (apply ev_add; rfl; rfl; exact (by first | omega | assumption); exact (by first | omega | assumption)) | (apply ev_eqsp; rfl; rfl) | (apply ev_nesp; rfl; rfl) | (apply ev_extract; rfl; rfl)); rfl) | apply aw_seq | apply a_region | apply aw_block | apply aw_skip | (apply aw_condp; rfl; all_goals (intro hc; try (exfalso; first | omega | contradiction | (simp at hc; omega) | (simp_all; done)))) | apply go_seq | apply go_block)
        all_goals
          refine go_loop_back ⟨k + 1, ⟨by omega, hno2⟩, by omega, ?_⟩
          rw [hs1]
          first
          | rw [show stepN nm fN (e, k + 1) = k + 1 from if_pos ⟨hnm, by omega⟩]
          | rw [show stepN nm fN (e, k + 1) = fN from if_neg (fun h => by have := h.2; omega)]
          simp only [e3]
          exact Sub.of (by repeat (first | exact .nil | refine .cons rfl Le.refl ?_)) (by repeat (first | exact Takes.nil | (apply Takes.cons; focus (repeat (first | exact Take.head | apply Take.tail | apply Take.right)))))
    · have hno2 : ∀ y, y ∈ (allX l).take (k + 1) → hitB nm vl y = false := by
        rw [allX_snoc hE]
        exact no_snoc hno (decide_eq_false fun h => hnm h.1)
      generalize ((allX l).take k).foldl (stepN nm) 0 = fN at *
      repeat' (first | apply ar_nil | (apply ar_ev; (apply ev_move; rfl); rfl) | (apply ar_ev; (first | exact ev_call rfl rfl hat | (apply ev_assign; rfl) | (apply ev_add; rfl; rfl; exact (by first | omega | assumption); exact (by first | omega | assumption)) | (apply ev_nesp; rfl; rfl) | (apply ev_extract; rfl; rfl)); rfl) | apply aw_seq | apply a_region | apply aw_block | apply aw_skip | apply aw_exit | (apply aw_condp; rfl; all_goals (intro hc; try (exfalso; first | omega | contradiction | (simp at hc; omega) | (simp_all; done)))) | apply go_seq | apply go_seq_exit | apply go_block_exit)
      refine go_loop_back ⟨k + 1, ⟨by omega, hno2⟩, by omega, ?_⟩
      rw [hs1, show stepN nm fN (e, k + 1) = fN from if_neg (fun h => hnm h.1)]
      simp only [e3]
      exact Sub.of (by repeat (first | exact .nil | refine .cons rfl Le.refl ?_)) (by repeat (first | exact Takes.nil | (apply Takes.cons; focus (repeat (first | exact Take.head | apply Take.tail | apply Take.right)))))
  · obtain rfl : k = 61 + l.length := by omega
    rw [List.take_of_length_le (by rw [allX_len]; omega)] at hno ⊢
    have hf : findN l nm vl = ((allX l).foldl (stepN nm) 0, false) := by
      unfold findN
      rw [List.find?_eq_none.2 (fun y hy => by rw [hno y hy]; decide)]
    rw [hf]
    generalize (allX l).foldl (stepN nm) 0 = fN at *
    repeat' (first | apply ar_nil | (apply ar_ev; (apply ev_move; rfl); rfl) | (apply ar_ev; (apply ev_assign; rfl); rfl) | apply aw_seq | apply a_region | apply aw_exit | apply aw_ret | apply go_seq | apply go_seq_exit | apply go_block_exit | apply go_loop_exit)
    exact g_ret2 (r_tmp rfl) (r_tmp rfl) .nil rfl
end Go.Proofs.Ytmenbolalghljaa

set_option linter.unusedVariables false
set_option linter.unusedSimpArgs false
set_option maxRecDepth 100000
namespace Go.Proofs.Ytmenbolalghljaa
open Go.Proofs Go.Proofs.YtmenbolalghljaaA

/-! Both tables. -/
abbrev bothT (lt lm : Nat) (pre : List (List AV)) (lr ln : Nat) (mx : Int) (l : List En) : List (Nat × Tok) := tabT lt lm pre mx l ++ refT lr ln mx l
abbrev nilP : AV := .val (.pointer none)
set_option maxHeartbeats 8000000 in
theorem made_ok (n : Int) : FnC Try.prog 9 [] [vi n] (fun ts r => ((n < 0 ∨ 65536 < n) ∧ ts = [] ∧ r = .tup [.agg [nilP, nilP], vb true]) ∨
    (¬(n < 0 ∨ 65536 < n) ∧ ∃ lt lm lr ln, ts = bothT lt lm [] lr ln n [] ∧ r = .tup [.agg [.ptr lt 0 0, .ptr lr 0 0], vb true])) := by
  refine fn_of Try.func9 rfl Try.ntmps9 Try.results9 rfl fun G => ?_
  have h1 := New_ok n
  have h2 := rNew_ok n
  by_cases hb : n < 0 ∨ 65536 < n
  · repeat' (first | (apply ar_call h1; rfl; rfl; (focus ((repeat (first | exact Takes.nil | (apply Takes.cons; focus (repeat (first | exact Take.head | apply Take.tail | apply Take.right))))); done)); rfl; rintro _ _ (⟨-, rfl, rfl⟩ | ⟨h, -⟩); rotate_left; exact absurd hb h) | (apply ar_call h2; rfl; rfl; (focus ((repeat (first | exact Takes.nil | (apply Takes.cons; focus (repeat (first | exact Take.head | apply Take.tail | apply Take.right))))); done)); rfl; rintro _ _ (⟨-, rfl, rfl⟩ | ⟨h, -⟩); rotate_left; exact absurd hb h) | apply ar_nil | (apply ar_ev; (apply ev_move (y := .val (.bool true)); rfl); rfl) | (apply ar_ev; (apply ev_move; rfl); rfl) | (apply ar_ev; (first | (apply ev_assign; rfl) | (apply ev_pick_t; rfl; rfl) | (apply ev_eqip; rfl; rfl) | (apply ev_extract; rfl; rfl) | (apply ev_build; rfl; rfl; rfl)); rfl) | (apply ar_new; (first | apply eff_alloc | (apply eff_box; rfl; exact lies_of rfl) | (apply eff_conv_bytes; rfl; exact (by first | omega | assumption | (simp; done) | (simp; omega) | exact Nat.le_of_ble_eq_true rfl))); exact .nil; rfl; intro lab) | (apply ar_store; rfl; (focus ((repeat (first | exact Take.head | apply Take.tail | apply Take.right)); done)); rfl; rfl; exact (by first | rfl | assumption | exact get_map (by assumption)); rfl; rfl) | (apply ar_take; rfl; rfl; rfl; (apply ev_move; rfl); rfl) | (apply ar_take; rfl; rfl; rfl; (first | (apply ev_eqb; rfl; rfl) | (apply ev_eqnil_pv; rfl)); rfl) | apply aw_seq | apply a_region | apply aw_ret | apply go_seq)
    apply g_ret2; (apply r_cell; rfl; exact (by repeat (first | exact Take.head | apply Take.tail | apply Take.right)); rfl; rfl); exact r_tmp rfl; exact .nil; exact .inl ⟨hb, rfl, rfl⟩
  · repeat' (first | (apply ar_call h1; rfl; rfl; (focus ((repeat (first | exact Takes.nil | (apply Takes.cons; focus (repeat (first | exact Take.head | apply Take.tail | apply Take.right))))); done)); rfl; rintro _ _ (⟨h, -, -⟩ | ⟨-, lt, lm, rfl, rfl⟩); exact absurd h hb) | (apply ar_call h2; rfl; rfl; (focus ((repeat (first | exact Takes.nil | (apply Takes.cons; focus (repeat (first | exact Take.head | apply Take.tail | apply Take.right))))); done)); rfl; rintro _ _ (⟨h, -, -⟩ | ⟨-, lr, ln, rfl, rfl⟩); exact absurd h hb) | apply ar_nil | (apply ar_ev; (apply ev_move (y := .val (.bool true)); rfl); rfl) | (apply ar_ev; (apply ev_move; rfl); rfl) | (apply ar_ev; (first | (apply ev_assign; rfl) | (apply ev_pick_t; rfl; rfl) | (apply ev_eqip; rfl; rfl) | (apply ev_extract; rfl; rfl) | (apply ev_build; rfl; rfl; rfl)); rfl) | (apply ar_new; (first | apply eff_alloc | (apply eff_box; rfl; exact lies_of rfl) | (apply eff_conv_bytes; rfl; exact (by first | omega | assumption | (simp; done) | (simp; omega) | exact Nat.le_of_ble_eq_true rfl))); exact .nil; rfl; intro lab) | (apply ar_store; rfl; (focus ((repeat (first | exact Take.head | apply Take.tail | apply Take.right)); done)); rfl; rfl; exact (by first | rfl | assumption | exact get_map (by assumption)); rfl; rfl) | (apply ar_take; rfl; rfl; rfl; (apply ev_move; rfl); rfl) | (apply ar_take; rfl; rfl; rfl; (first | (apply ev_eqb; rfl; rfl) | (apply ev_eqnil_p; rfl; rfl)); rfl) | apply aw_seq | apply a_region | apply aw_ret | apply go_seq)
    apply g_ret2 (us := bothT lt lm [] lr ln n []); (apply r_cell; rfl; exact (by repeat (first | exact Take.head | apply Take.tail | apply Take.right)); rfl; rfl); exact r_tmp rfl; exact (by repeat (first | exact Takes.nil | (apply Takes.cons; focus (repeat (first | exact Take.head | apply Take.tail | apply Take.right))))); exact .inr ⟨hb, lt, lm, lr, ln, rfl, rfl⟩
structure Op where
  kind : Int
  two : Bool
  name : ByteArray
  value : ByteArray
  n : Int
abbrev encO (o : Op) : List AV := [vi o.kind, vb o.two, vs o.name, vs o.value, vi o.n]
structure OkO (o : Op) : Prop where
  e : OkE (o.name, o.value)
  k : -9223372036854775808 ≤ o.kind ∧ o.kind ≤ 9223372036854775807
  n : -9223372036854775808 ≤ o.n ∧ o.n ≤ 9223372036854775807
def playN (o : Op) (s : Int × List En) : Int × List En :=
  if o.kind = 1 then (s.1, addN s.1 s.2 (o.name, o.value))
  else if o.kind = 2 then (if o.n < 0 ∨ 65536 < o.n then s else (o.n, shr o.n s.2))
  else s
theorem cv_both1 {lt lm lr ln : Nat} {pre : List (List AV)} {mx : Int} {l : List En} {ts : List (Nat × Tok)} : Cv (bothT lt lm pre lr ln mx l ++ ts) (.ptr lt 0 0) (tabI mx (sumE l) l) := cv_tab .head (.tail .head)
theorem cv_both2 {lt lm lr ln : Nat} {pre : List (List AV)} {mx : Int} {l : List En} {ts : List (Nat × Tok)} : Cv (bothT lt lm pre lr ln mx l ++ ts) (.ptr lr 0 0) (refI mx l) := cv_ref (.tail (.tail .head)) (.tail (.tail (.tail .head)))
set_option maxHeartbeats 8000000 in
theorem plays_ok (lt lm : Nat) (pre : List (List AV)) (lr ln : Nat) (mx : Int) (l : List En) (o : Op) (hw : WfT mx l) (hm : 0 ≤ mx ∧ mx ≤ 65536) (ho : OkO o) :
    FnC Try.prog 12 (bothT lt lm pre lr ln mx l) [.agg [.ptr lt 0 0, .ptr lr 0 0], .agg (encO o)] (fun ts r => (∃ lm' pre' ln', ts = bothT lt lm' pre' lr ln' (playN o (mx, l)).1 (playN o (mx, l)).2) ∧ r = vb true) := by
  refine fn_of Try.func12 rfl Try.ntmps12 Try.results12 rfl fun G => ?_
  have h32 := sum_len32 l
  have hsm := hw.sum
  repeat' ((fail_if_success (show AW _ (.region 1 _ _) _ _)); (first | apply ar_nil | (apply ar_ev; (apply ev_assign; rfl); rfl) | (apply ar_new; (first | apply eff_alloc | (apply eff_box; rfl; exact lies_of rfl) | (apply eff_conv_bytes; rfl; exact (by first | omega | assumption | (simp; done) | (simp; omega) | exact Nat.le_of_ble_eq_true rfl))); exact .nil; rfl; intro lab) | apply aw_seq | apply a_region | apply go_seq))
  generalize lab = l3 at *
  rename_i l2
  refine AW.sub (st' := ⟨[(2, .ptr l2 0 0), (3, .ptr l3 0 0), (4, vb false)], bothT lt lm pre lr ln mx l ++ [(l2, .row 27 2 [[.ptr lt 0 0, .ptr lr 0 0]]), (l3, .row 32 5 [encO o])]⟩) (Sub.of (by repeat (first | exact .nil | refine .cons rfl Le.refl ?_)) (by repeat (first | exact Takes.nil | (apply Takes.cons; focus (repeat (first | exact Take.head | apply Take.tail | apply Take.right)))))) ?_
  by_cases k1 : o.kind = 1
  · have hp : playN o (mx, l) = (mx, addN mx l (o.name, o.value)) := if_pos k1
    rw [hp]
    have ha := AddW_ok lt lm pre mx l (o.name, o.value) hw ho.e hm
    have hr := rAdd_ok lr ln mx l (o.name, o.value) (by omega) hw.ok ho.e (by omega)
    repeat' (first | (apply ar_call ha; rfl; rfl; (focus ((repeat (first | exact Takes.nil | (apply Takes.cons; focus (repeat (first | exact Take.head | apply Take.tail | apply Take.right))))); done)); rfl; rintro _ _ ⟨⟨lm2, pre2, rfl⟩, rfl⟩) | (apply ar_call hr; rfl; rfl; (focus ((repeat (first | exact Takes.nil | (apply Takes.cons; focus (repeat (first | exact Take.head | apply Take.tail | apply Take.right))))); done)); rfl; rintro _ _ ⟨⟨ln2, rfl⟩, rfl⟩) | apply ar_nil | (apply ar_ev; (first | (apply ev_load_ptr_one; rfl; (focus ((repeat (first | exact Take.head | apply Take.tail | apply Take.right)); done)); exact (by first | rfl | assumption | exact get_map (by assumption)); rfl) | (apply ev_fieldAddr_ptr; rfl) | (apply ev_assign; rfl) | (apply ev_eqip; rfl; rfl)); rfl) | apply aw_seq | apply a_region | apply aw_block | apply aw_ret | (apply aw_condp; rfl; all_goals (intro hc; try (exfalso; first | omega | contradiction | (simp at hc; omega) | (simp_all; done)))) | apply go_seq | apply go_block)
    exact g_ret1 (r_tmp rfl) (us := bothT lt lm2 pre2 lr ln2 mx (addN mx l (o.name, o.value))) (by repeat (first | exact Takes.nil | (apply Takes.cons; focus (repeat (first | exact Take.head | apply Take.tail | apply Take.right))))) ⟨⟨lm2, pre2, ln2, rfl⟩, rfl⟩
  by_cases k2 : o.kind = 2
  · have hp : playN o (mx, l) = if o.n < 0 ∨ 65536 < o.n then (mx, l) else (o.n, shr o.n l) := by unfold playN; rw [if_neg k1, if_pos k2]
    rw [hp]
    have ha := Resize_ok lt lm pre mx o.n l (by omega) hw.ok (by omega)
    have hr := rResize_ok lr ln mx o.n l (by omega) hw.ok (by omega)
    by_cases hb : o.n < 0 ∨ 65536 < o.n
    · rw [if_pos hb]
      repeat' (first | (apply ar_call ha; rfl; rfl; (focus ((repeat (first | exact Takes.nil | (apply Takes.cons; focus (repeat (first | exact Take.head | apply Take.tail | apply Take.right))))); done)); rfl; rintro _ _ (⟨-, rfl, rfl⟩ | ⟨h, -⟩); rotate_left; exact absurd hb h) | (apply ar_call hr; rfl; rfl; (focus ((repeat (first | exact Takes.nil | (apply Takes.cons; focus (repeat (first | exact Take.head | apply Take.tail | apply Take.right))))); done)); rfl; rintro _ _ (⟨-, rfl, rfl⟩ | ⟨h, -⟩); rotate_left; exact absurd hb h) | apply ar_nil | (apply ar_ev; (apply ev_move; rfl); rfl) | (apply ar_ev; (first | (apply ev_load_ptr_one; rfl; (focus ((repeat (first | exact Take.head | apply Take.tail | apply Take.right)); done)); exact (by first | rfl | assumption | exact get_map (by assumption)); rfl) | (apply ev_fieldAddr_ptr; rfl) | (apply ev_assign; rfl) | (apply ev_eqip; rfl; rfl)); rfl) | apply aw_seq | apply a_region | apply aw_block | apply aw_ret | (apply aw_condp; rfl; all_goals (intro hc; try (exfalso; first | omega | contradiction | (simp at hc; omega) | (simp_all; done)))) | apply go_seq | apply go_seq_ret | apply go_block_ret)
      exact g_ret1 (r_tmp rfl) (us := bothT lt lm pre lr ln mx l) (by repeat (first | exact Takes.nil | (apply Takes.cons; focus (repeat (first | exact Take.head | apply Take.tail | apply Take.right))))) ⟨⟨lm, pre, ln, rfl⟩, rfl⟩
    · rw [if_neg hb]
      repeat' (first | (apply ar_call ha; rfl; rfl; (focus ((repeat (first | exact Takes.nil | (apply Takes.cons; focus (repeat (first | exact Take.head | apply Take.tail | apply Take.right))))); done)); rfl; rintro _ _ (⟨h, -, -⟩ | ⟨-, ⟨pre2, rfl⟩, rfl⟩); exact absurd h hb) | (apply ar_call hr; rfl; rfl; (focus ((repeat (first | exact Takes.nil | (apply Takes.cons; focus (repeat (first | exact Take.head | apply Take.tail | apply Take.right))))); done)); rfl; rintro _ _ (⟨h, -, -⟩ | ⟨-, ⟨ln2, rfl⟩, rfl⟩); exact absurd h hb) | apply ar_nil | (apply ar_ev; (apply ev_move; rfl); rfl) | (apply ar_ev; (first | (apply ev_load_ptr_one; rfl; (focus ((repeat (first | exact Take.head | apply Take.tail | apply Take.right)); done)); exact (by first | rfl | assumption | exact get_map (by assumption)); rfl) | (apply ev_fieldAddr_ptr; rfl) | (apply ev_assign; rfl) | (apply ev_eqip; rfl; rfl)); rfl) | apply aw_seq | apply a_region | apply aw_block | apply aw_ret | (apply aw_condp; rfl; all_goals (intro hc; try (exfalso; first | omega | contradiction | (simp at hc; omega) | (simp_all; done)))) | apply go_seq | apply go_seq_ret | apply go_block_ret)
      exact g_ret1 (r_tmp rfl) (us := bothT lt lm pre2 lr ln2 o.n (shr o.n l)) (by repeat (first | exact Takes.nil | (apply Takes.cons; focus (repeat (first | exact Take.head | apply Take.tail | apply Take.right))))) ⟨⟨lm, pre2, ln2, rfl⟩, rfl⟩
  have hp : playN o (mx, l) = (mx, l) := by unfold playN; rw [if_neg k1, if_neg k2]
  rw [hp]
  by_cases k3 : o.kind = 3
  · have ha := At_ok mx (sumE l) l (by omega) o.n ho.n
    have hr := rAt_ok mx l (by omega) o.n ho.n
    generalize atN l o.n = q at *
    repeat' (first | apply ar_nil | (apply ar_splitp; (apply ev_move; rfl); rfl; all_goals (intro hc; try (exfalso; first | omega | contradiction | (simp at hc; omega) | (simp_all; done)))) | (apply ar_ev; (apply ev_move; rfl); rfl) | (apply ar_ev; (first | (apply ev_callL ha; rfl; rfl; exact Cvs.cons cv_both1 (Cvs.cons Cv.refl Cvs.nil); exact val_free [_, _, _]) | (apply ev_callL hr; rfl; rfl; exact Cvs.cons cv_both2 (Cvs.cons Cv.refl Cvs.nil); exact val_free [_, _, _]) | (apply ev_load_ptr_one; rfl; (focus ((repeat (first | exact Take.head | apply Take.tail | apply Take.right)); done)); exact (by first | rfl | assumption | exact get_map (by assumption)); rfl) | (apply ev_fieldAddr_ptr; rfl) | (apply ev_assign; rfl) | (apply ev_pick_t; rfl; rfl) | (apply ev_eqip; rfl; rfl) | (apply ev_eqsp; rfl; rfl) | (apply ev_extract; rfl; rfl)); rfl) | (apply ar_take; rfl; rfl; rfl; (apply ev_move; rfl); rfl) | (apply ar_take; rfl; rfl; rfl; (first | (apply ev_eqip; rfl; rfl) | (apply ev_eqsp; rfl; rfl)); rfl) | apply aw_seq | apply a_region | apply aw_block | apply aw_ret | (apply aw_condp; rfl; all_goals (intro hc; try (exfalso; first | omega | contradiction | (simp at hc; omega) | (simp_all; done)))) | apply go_seq | apply go_seq_ret | apply go_block_ret)
    exact g_ret1 (r_tmp rfl) (us := bothT lt lm pre lr ln mx l) (by repeat (first | exact Takes.nil | (apply Takes.cons; focus (repeat (first | exact Take.head | apply Take.tail | apply Take.right))))) ⟨⟨lm, pre, ln, rfl⟩, by simp⟩
  by_cases k4 : o.kind = 4
  · have ha := Find_ok mx (sumE l) l (by omega) o.name o.value
    have hr := rFind_ok mx l (by omega) o.name o.value
    generalize findN l o.name o.value = q at *
    repeat' (first | apply ar_nil | (apply ar_splitp; (apply ev_move; rfl); rfl; all_goals (intro hc; try (exfalso; first | omega | contradiction | (simp at hc; omega) | (simp_all; done)))) | (apply ar_ev; (apply ev_move; rfl); rfl) | (apply ar_ev; (first | (apply ev_callL ha; rfl; rfl; exact Cvs.cons cv_both1 (Cvs.cons Cv.refl (Cvs.cons Cv.refl Cvs.nil)); exact val_free [_, _]) | (apply ev_callL hr; rfl; rfl; exact Cvs.cons cv_both2 (Cvs.cons Cv.refl (Cvs.cons Cv.refl Cvs.nil)); exact val_free [_, _]) | (apply ev_load_ptr_one; rfl; (focus ((repeat (first | exact Take.head | apply Take.tail | apply Take.right)); done)); exact (by first | rfl | assumption | exact get_map (by assumption)); rfl) | (apply ev_fieldAddr_ptr; rfl) | (apply ev_assign; rfl) | (apply ev_pick_t; rfl; rfl) | (apply ev_eqip; rfl; rfl) | (apply ev_extract; rfl; rfl)); rfl) | (apply ar_tsplit; rfl; rfl; rfl; (apply ev_move; rfl); rfl; all_goals (intro hc; try (exfalso; first | omega | contradiction | (simp at hc; omega) | (simp_all; done)))) | (apply ar_take; rfl; rfl; rfl; (apply ev_eqb; rfl; rfl); rfl) | apply aw_seq | apply a_region | apply aw_block | apply aw_ret | (apply aw_condp; rfl; all_goals (intro hc; try (exfalso; first | omega | contradiction | (simp at hc; omega) | (simp_all; done)))) | apply go_seq | apply go_seq_ret | apply go_block_ret)
    all_goals exact g_ret1 (r_tmp rfl) (us := bothT lt lm pre lr ln mx l) (by repeat (first | exact Takes.nil | (apply Takes.cons; focus (repeat (first | exact Take.head | apply Take.tail | apply Take.right))))) ⟨⟨lm, pre, ln, rfl⟩, by simp⟩
  repeat' (first | apply ar_nil | (apply ar_ev; (first | (apply ev_load_ptr_one; rfl; (focus ((repeat (first | exact Take.head | apply Take.tail | apply Take.right)); done)); exact (by first | rfl | assumption | exact get_map (by assumption)); rfl) | (apply ev_fieldAddr_ptr; rfl) | (apply ev_assign; rfl) | (apply ev_eqip; rfl; rfl)); rfl) | apply aw_seq | apply a_region | apply aw_block | apply aw_skip | apply aw_ret | (apply aw_condp; rfl; all_goals (intro hc; try (exfalso; first | omega | contradiction | (simp at hc; omega) | (simp_all; done)))) | apply go_seq | apply go_block)
  exact g_ret1 (r_tmp rfl) (us := bothT lt lm pre lr ln mx l) (by repeat (first | exact Takes.nil | (apply Takes.cons; focus (repeat (first | exact Take.head | apply Take.tail | apply Take.right))))) ⟨⟨lm, pre, ln, rfl⟩, rfl⟩
theorem tells_ok (mx : Int) (l : List En) (hw : WfT mx l) (hm : 0 ≤ mx ∧ mx ≤ 65536) : PFn Try.prog 13 [.agg [tabI mx (sumE l) l, refI mx l]] (vb true) := by
  refine fn_of Try.func13 rfl Try.ntmps13 Try.results13 rfl fun G => ?_
  have h32 := sum_len32 l
  have hsm := hw.sum
  have a1 := Size_ok mx (sumE l) l
  have a2 := rSize_ok mx l (by omega) hw.ok (by omega)
  have b1 := Len_ok mx (sumE l) l
  have b2 := rLen_ok mx l
  have c1 := Max_ok mx (sumE l) l
  have c2 := rMax_ok mx l
  repeat' ((fail_if_success (show AW _ (.region 1 _ _) _ _)); (first | apply ar_nil | (apply ar_ev; (apply ev_assign; rfl); rfl) | (apply ar_new; (first | apply eff_alloc | (apply eff_box; rfl; exact lies_of rfl) | (apply eff_conv_bytes; rfl; exact (by first | omega | assumption | (simp; done) | (simp; omega) | exact Nat.le_of_ble_eq_true rfl))); exact .nil; rfl; intro lab) | apply aw_seq | apply a_region | apply go_seq))
  refine aw_cv 1 (us := [(lab, .row 27 2 [[tabI mx (sumE l) l, refI mx l]])]) (y := .ip [tabI mx (sumE l) l, refI mx l]) rfl (by repeat (first | exact Takes.nil | (apply Takes.cons; focus (repeat (first | exact Take.head | apply Take.tail | apply Take.right))))) (Cv.ptr0 .head rfl) ?_
  repeat' (first | apply ar_nil | (apply ar_splitp; (apply ev_move; rfl); rfl; all_goals (intro hc; try (exfalso; first | omega | contradiction | (simp at hc; omega) | (simp_all; done)))) | (apply ar_ev; (first | exact ev_call rfl rfl a1 | exact ev_call rfl rfl a2 | (apply ev_load_ip_one; rfl; rfl) | (apply ev_fieldAddr_ip; rfl) | (apply ev_assign; rfl) | (apply ev_pick_t; rfl; rfl) | (apply ev_eqip; rfl; rfl)); rfl) | (apply ar_take; rfl; rfl; rfl; (first | exact ev_call rfl rfl b1 | exact ev_call rfl rfl b2 | exact ev_call rfl rfl c1 | exact ev_call rfl rfl c2 | (apply ev_load_ip_one; rfl; rfl) | (apply ev_fieldAddr_ip; rfl) | (apply ev_eqip; rfl; rfl)); rfl) | apply aw_ret | apply go_seq | (first | (apply a_drawN 2; rfl; rfl) | (apply a_drawN 3; rfl; rfl) | (apply a_drawN 4; rfl; rfl) | (apply a_drawN 5; rfl; rfl) | (apply a_drawN 6; rfl; rfl) | (apply a_drawN 7; rfl; rfl) | (apply a_drawN 8; rfl; rfl) | (apply a_drawN 9; rfl; rfl) | (apply a_drawN 10; rfl; rfl) | (apply a_drawN 11; rfl; rfl) | (apply a_drawN 12; rfl; rfl) | (apply a_drawN 13; rfl; rfl) | (apply a_drawN 14; rfl; rfl) | (apply a_drawN 15; rfl; rfl) | (apply a_drawN 16; rfl; rfl) | (apply a_drawN 17; rfl; rfl) | (apply a_drawN 18; rfl; rfl) | (apply a_drawN 19; rfl; rfl) | (apply a_drawN 20; rfl; rfl) | (apply a_drawN 21; rfl; rfl) | (apply a_drawN 22; rfl; rfl) | (apply a_drawN 23; rfl; rfl) | (apply a_drawN 24; rfl; rfl) | (apply a_drawN 25; rfl; rfl) | (apply a_drawN 26; rfl; rfl) | (apply a_drawN 27; rfl; rfl) | (apply a_drawN 28; rfl; rfl) | (apply a_drawN 29; rfl; rfl) | (apply a_drawN 30; rfl; rfl) | (apply a_drawN 31; rfl; rfl) | (apply a_drawN 32; rfl; rfl) | (apply a_drawN 33; rfl; rfl) | (apply a_drawN 34; rfl; rfl) | (apply a_drawN 35; rfl; rfl) | (apply a_drawN 36; rfl; rfl) | (apply a_drawN 37; rfl; rfl) | (apply a_drawN 38; rfl; rfl) | (apply a_drawN 39; rfl; rfl) | (apply a_drawN 40; rfl; rfl) | (apply a_drawN 41; rfl; rfl) | (apply a_drawN 42; rfl; rfl) | (apply a_drawN 43; rfl; rfl) | (apply a_drawN 44; rfl; rfl) | (apply a_drawN 45; rfl; rfl)))
  all_goals exact g_ret1 (r_tmp rfl) .nil (by simp)
set_option maxHeartbeats 8000000 in
theorem whole_ok (mx : Int) (l : List En) (hw : WfT mx l) (hm : 0 ≤ mx ∧ mx ≤ 65536) : PFn Try.prog 14 [.agg [tabI mx (sumE l) l, refI mx l]] (vb true) := by
  refine fn_of Try.func14 rfl Try.ntmps14 Try.results14 rfl fun G => ?_
  have h32 := sum_len32 l
  have hsm := hw.sum
  have b2 := rLen_ok mx l
  repeat' ((fail_if_success (show AW _ (.region 1 _ _) _ _)); (first | apply ar_nil | (apply ar_ev; (apply ev_assign; rfl); rfl) | (apply ar_new; (first | apply eff_alloc | (apply eff_box; rfl; exact lies_of rfl) | (apply eff_conv_bytes; rfl; exact (by first | omega | assumption | (simp; done) | (simp; omega) | exact Nat.le_of_ble_eq_true rfl))); exact .nil; rfl; intro lab) | apply aw_seq | apply a_region | apply go_seq))
  refine aw_cv 1 (us := [(lab, .row 27 2 [[tabI mx (sumE l) l, refI mx l]])]) (y := .ip [tabI mx (sumE l) l, refI mx l]) rfl (by repeat (first | exact Takes.nil | (apply Takes.cons; focus (repeat (first | exact Take.head | apply Take.tail | apply Take.right))))) (Cv.ptr0 .head rfl) ?_
  repeat' ((fail_if_success (show AW _ (.region 2 _ _) _ _)); (first | apply ar_nil | (apply ar_ev; (apply ev_assign; rfl); rfl) | apply a_region | apply aw_block | apply go_seq))
  refine a_loop (fun k : Nat => ⟨[(1, .ip [tabI mx (sumE l) l, refI mx l]), (3, vi ((k : Int) - 1))], []⟩)
    (fun k => k ≤ l.length + 64) (fun k => l.length + 64 - k) 0 (Sub.of (by repeat (first | exact .nil | refine .cons rfl Le.refl ?_)) (by repeat (first | exact Takes.nil | (apply Takes.cons; focus (repeat (first | exact Take.head | apply Take.tail | apply Take.right)))))) (Nat.zero_le _) ?_
  intro k hk
  repeat' (first | apply ar_nil | (apply ar_ev; (apply ev_move; rfl); rfl) | (apply ar_ev; (first | exact ev_call rfl rfl b2 | (apply ev_load_ip_one; rfl; rfl) | (apply ev_fieldAddr_ip; rfl) | (apply ev_leq; rfl; rfl) | (apply ev_add; rfl; rfl; exact (by first | omega | assumption); exact (by first | omega | assumption))); rfl) | apply aw_seq | apply a_region | apply go_seq)
  refine aw_condp rfl (fun hk2 => ?_) (fun hk2 => ?_)
  · have a1 := At_ok mx (sumE l) l (by omega) ((k : Int) - 1) (by omega)
    have a2 := rAt_ok mx l (by omega) ((k : Int) - 1) (by omega)
    generalize atN l ((k : Int) - 1) = q at *
    have e3 : ((k + 1 : Nat) : Int) - 1 = (k : Int) - 1 + 1 := by omega
    repeat' (first | apply ar_nil | (apply ar_splitp; (apply ev_move; rfl); rfl; all_goals (intro hc; try (exfalso; first | omega | contradiction | (simp at hc; omega) | (simp_all; done)))) | (apply ar_ev; (apply ev_move; rfl); rfl) | (apply ar_ev; (first | exact ev_call rfl rfl a1 | exact ev_call rfl rfl a2 | (apply ev_load_ip_one; rfl; rfl) | (apply ev_fieldAddr_ip; rfl) | (apply ev_assign; rfl) | (apply ev_pick_f; rfl; rfl) | (apply ev_add; rfl; rfl; exact (by first | omega | assumption); exact (by first | omega | assumption)) | (apply ev_nesp; rfl; rfl) | (apply ev_extract; rfl; rfl)); rfl) | (apply ar_take; rfl; rfl; rfl; (apply ev_move; rfl); rfl) | (apply ar_take; rfl; rfl; rfl; (first | (apply ev_neip; rfl; rfl) | (apply ev_nesp; rfl; rfl)); rfl) | apply aw_seq | apply a_region | apply aw_block | apply aw_skip | (apply aw_condp; rfl; all_goals (intro hc; try (exfalso; first | omega | contradiction | (simp at hc; omega) | (simp_all; done)))) | apply go_seq | apply go_block)
    exact go_loop_back ⟨k + 1, by omega, by omega, by rw [e3]; exact Sub.of (by repeat (first | exact .nil | refine .cons rfl Le.refl ?_)) (by repeat (first | exact Takes.nil | (apply Takes.cons; focus (repeat (first | exact Take.head | apply Take.tail | apply Take.right)))))⟩
  · repeat' (first | apply ar_nil | (apply ar_ev; (apply ev_assign; rfl); rfl) | apply aw_seq | apply a_region | apply aw_exit | apply aw_ret | apply go_seq | apply go_seq_exit | apply go_block_exit | apply go_loop_exit)
    exact g_ret1 (r_tmp rfl) .nil rfl
end Go.Proofs.Ytmenbolalghljaa

set_option linter.unusedVariables false
set_option linter.unusedSimpArgs false
set_option maxRecDepth 100000
namespace Go.Proofs.Ytmenbolalghljaa
open Go.Proofs Go.Proofs.YtmenbolalghljaaA

/-! The law TableAll. -/
structure BS where
  lt : Nat
  lm : Nat
  pre : List (List AV)
  lr : Nat
  ln : Nat
  mx : Int
  l : List En
abbrev BS.T (b : BS) : List (Nat × Tok) := bothT b.lt b.lm b.pre b.lr b.ln b.mx b.l
structure BS.ok (b : BS) : Prop where
  w : WfT b.mx b.l
  m : 0 ≤ b.mx ∧ b.mx ≤ 65536
abbrev arrT (la : Nat) (a b : BS) : Nat × Tok := (la, .row 28 4 [[.ptr a.lt 0 0, .ptr a.lr 0 0, .ptr b.lt 0 0, .ptr b.lr 0 0]])
abbrev stA (la : Nat) (os : List Op) (i : Nat) (a b : BS) : St := ⟨[(2, .sl 5 (os.map encO) os.length), (7, .ptr la 0 0), (12, vi i)], arrT la a b :: (a.T ++ b.T)⟩
theorem wf_play {o : Op} {mx : Int} {l : List En} (h : WfT mx l) (hm : 0 ≤ mx ∧ mx ≤ 65536) (ho : OkO o) : WfT (playN o (mx, l)).1 (playN o (mx, l)).2 ∧ (0 ≤ (playN o (mx, l)).1 ∧ (playN o (mx, l)).1 ≤ 65536) := by
  unfold playN
  split
  · exact ⟨h.add ho.e hm.1, hm⟩
  split
  · split
    · exact ⟨h, hm⟩
    · rename_i hb
      refine ⟨h.shr (by dsimp only; omega), ?_⟩
      dsimp only
      omega
  · exact ⟨h, hm⟩
theorem cv_bT {a : BS} {ts : List (Nat × Tok)} (h1 : ∃ r, Take ts a.lt (.row 63 3 [[vi a.mx, vi (sumE a.l), .own a.lm a.pre.length a.l.length]]) r) (h2 : ∃ r, Take ts a.lm (.row 66 2 (a.pre ++ a.l.map encT)) r) : Cv ts (.ptr a.lt 0 0) (tabI a.mx (sumE a.l) a.l) := by
  obtain ⟨_, h1⟩ := h1
  obtain ⟨_, h2⟩ := h2
  exact cv_tab h1 h2
theorem cv_bR {a : BS} {ts : List (Nat × Tok)} (h1 : ∃ r, Take ts a.lr (.row 69 2 [[vi a.mx, .own a.ln 0 a.l.length]]) r) (h2 : ∃ r, Take ts a.ln (.row 75 2 (a.l.reverse.map encT)) r) : Cv ts (.ptr a.lr 0 0) (refI a.mx a.l) := by
  obtain ⟨_, h1⟩ := h1
  obtain ⟨_, h2⟩ := h2
  exact cv_ref h1 h2
theorem free_ref (lr ln : Nat) (mx : Int) (l : List En) : ∀ p, p ∈ refT lr ln mx l → TokFree p.2 := fun p hp' => by
  simp only [refT, List.mem_cons, List.not_mem_nil, or_false] at hp'
  rcases hp' with rfl | rfl
  · refine .row fun x hx y hy => ?_
    obtain rfl := List.mem_singleton.1 hx
    simp only [List.mem_cons, List.not_mem_nil, or_false] at hy
    rcases hy with rfl | rfl
    · exact .val _
    · exact .own _ _ _
  · refine .row fun x hx y hy => ?_
    obtain ⟨e, _, rfl⟩ := List.mem_map.1 hx
    simp only [List.mem_cons, List.not_mem_nil, or_false] at hy
    rcases hy with rfl | rfl <;> exact .val _
set_option maxHeartbeats 16000000 in
theorem TableAll_ok (one two : Int) (os : List Op) (hn : os.length ≤ 1048576) (hos : ∀ o, o ∈ os → OkO o) : PFn Try.prog 3 [vi one, vi two, .sl 5 (os.map encO) os.length] (vb true) := by
  refine fn_of Try.func3 rfl Try.ntmps3 Try.results3 rfl fun G => ?_
  have m1 := made_ok one
  have m2 := made_ok two
  repeat' ((fail_if_success (show AW _ (.region 4 _ _) _ _)); (first | apply ar_nil | (apply ar_ev; (first | exact ev_call rfl rfl head_ok | (apply ev_assign; rfl) | (apply ev_not; rfl)); rfl) | (apply ar_new; (first | apply eff_alloc | (apply eff_box; rfl; exact lies_of rfl) | (apply eff_conv_bytes; rfl; exact (by first | omega | assumption | (simp; done) | (simp; omega) | exact Nat.le_of_ble_eq_true rfl))); exact .nil; rfl; intro lab) | apply aw_seq | apply a_region | apply aw_skip | (apply aw_cond_f; rfl) | apply go_seq))
  generalize lab = la at *
  by_cases b1 : one < 0 ∨ 65536 < one
  · repeat' ((fail_if_success (show AW _ (.region 5 _ _) _ _)); (first | (apply ar_call m1; rfl; rfl; (focus ((repeat (first | exact Takes.nil | (apply Takes.cons; focus (repeat (first | exact Take.head | apply Take.tail | apply Take.right))))); done)); rfl; rintro _ _ (⟨-, rfl, rfl⟩ | ⟨h, -⟩); rotate_left; exact absurd b1 h) | apply ar_nil | (apply ar_ev; (apply ev_move; rfl); rfl) | (apply ar_ev; (first | (apply ev_assign; rfl) | (apply ev_extract; rfl; rfl)); rfl) | (apply ar_new; (first | apply eff_alloc | (apply eff_box; rfl; exact lies_of rfl) | (apply eff_conv_bytes; rfl; exact (by first | omega | assumption | (simp; done) | (simp; omega) | exact Nat.le_of_ble_eq_true rfl))); exact .nil; rfl; intro lab) | (apply ar_store; rfl; (focus ((repeat (first | exact Take.head | apply Take.tail | apply Take.right)); done)); rfl; rfl; exact (by first | rfl | assumption | exact get_map (by assumption)); rfl; rfl) | apply aw_seq | apply a_region | apply go_seq))
    by_cases b2 : two < 0 ∨ 65536 < two
    · repeat' (first | (apply ar_call m2; rfl; rfl; (focus ((repeat (first | exact Takes.nil | (apply Takes.cons; focus (repeat (first | exact Take.head | apply Take.tail | apply Take.right))))); done)); rfl; rintro _ _ (⟨-, rfl, rfl⟩ | ⟨h, -⟩); rotate_left; exact absurd b2 h) | apply ar_nil | (apply ar_ev; (apply ev_move (y := .val (.bool true)); rfl); rfl) | (apply ar_ev; (apply ev_move (y := .val (.bool false)); rfl); rfl) | (apply ar_ev; (apply ev_move; rfl); rfl) | (apply ar_ev; (first | (apply ev_load_ptr_one; rfl; (focus ((repeat (first | exact Take.head | apply Take.tail | apply Take.right)); done)); exact (by first | rfl | assumption | exact get_map (by assumption)); rfl) | (apply ev_fieldAddr_ptr; rfl) | (apply ev_assign; rfl) | (apply ev_pick_t; rfl; rfl) | (apply ev_pick_f; rfl; rfl) | (apply ev_eqnil_pv; rfl) | (apply ev_not; rfl) | (apply ev_extract; rfl; rfl)); rfl) | (apply ar_new; (first | apply eff_alloc | (apply eff_box; rfl; exact lies_of rfl) | (apply eff_conv_bytes; rfl; exact (by first | omega | assumption | (simp; done) | (simp; omega) | exact Nat.le_of_ble_eq_true rfl))); exact .nil; rfl; intro lab) | (apply ar_store; rfl; (focus ((repeat (first | exact Take.head | apply Take.tail | apply Take.right)); done)); rfl; rfl; exact (by first | rfl | assumption | exact get_map (by assumption)); rfl; rfl) | (apply ar_skip; rfl; rfl; rfl; rfl; rfl) | (apply ar_take; rfl; rfl; rfl; (apply ev_move (y := .val (.bool true)); rfl); rfl) | (apply ar_take; rfl; rfl; rfl; (apply ev_not; rfl); rfl) | apply aw_seq | apply a_region | apply aw_skip | apply aw_ret | (apply aw_cond_t; rfl) | (apply aw_cond_f; rfl) | apply go_seq | apply go_seq_ret)
      exact g_ret1 (r_tmp rfl) .nil rfl
    · repeat' (first | (apply ar_call m2; rfl; rfl; (focus ((repeat (first | exact Takes.nil | (apply Takes.cons; focus (repeat (first | exact Take.head | apply Take.tail | apply Take.right))))); done)); rfl; rintro _ _ (⟨h, -, -⟩ | ⟨-, lt, lm, lr, ln, rfl, rfl⟩); exact absurd h b2) | apply ar_nil | (apply ar_ev; (apply ev_move (y := .val (.bool true)); rfl); rfl) | (apply ar_ev; (apply ev_move (y := .val (.bool false)); rfl); rfl) | (apply ar_ev; (apply ev_move; rfl); rfl) | (apply ar_ev; (first | (apply ev_load_ptr_one; rfl; (focus ((repeat (first | exact Take.head | apply Take.tail | apply Take.right)); done)); exact (by first | rfl | assumption | exact get_map (by assumption)); rfl) | (apply ev_fieldAddr_ptr; rfl) | (apply ev_assign; rfl) | (apply ev_pick_t; rfl; rfl) | (apply ev_pick_f; rfl; rfl) | (apply ev_eqnil_pv; rfl) | (apply ev_not; rfl) | (apply ev_extract; rfl; rfl)); rfl) | (apply ar_new; (first | apply eff_alloc | (apply eff_box; rfl; exact lies_of rfl) | (apply eff_conv_bytes; rfl; exact (by first | omega | assumption | (simp; done) | (simp; omega) | exact Nat.le_of_ble_eq_true rfl))); exact .nil; rfl; intro lab) | (apply ar_store; rfl; (focus ((repeat (first | exact Take.head | apply Take.tail | apply Take.right)); done)); rfl; rfl; exact (by first | rfl | assumption | exact get_map (by assumption)); rfl; rfl) | (apply ar_skip; rfl; rfl; rfl; rfl; rfl) | (apply ar_take; rfl; rfl; rfl; (apply ev_move (y := .val (.bool true)); rfl); rfl) | (apply ar_take; rfl; rfl; rfl; (apply ev_not; rfl); rfl) | apply aw_seq | apply a_region | apply aw_skip | apply aw_ret | (apply aw_cond_t; rfl) | (apply aw_cond_f; rfl) | apply go_seq | apply go_seq_ret)
      exact g_ret1 (r_tmp rfl) .nil rfl
  · repeat' ((fail_if_success (show AW _ (.region 5 _ _) _ _)); (first | (apply ar_call m1; rfl; rfl; (focus ((repeat (first | exact Takes.nil | (apply Takes.cons; focus (repeat (first | exact Take.head | apply Take.tail | apply Take.right))))); done)); rfl; rintro _ _ (⟨h, -, -⟩ | ⟨-, lt, lm, lr, ln, rfl, rfl⟩); exact absurd h b1) | apply ar_nil | (apply ar_ev; (apply ev_move; rfl); rfl) | (apply ar_ev; (first | (apply ev_assign; rfl) | (apply ev_extract; rfl; rfl)); rfl) | (apply ar_new; (first | apply eff_alloc | (apply eff_box; rfl; exact lies_of rfl) | (apply eff_conv_bytes; rfl; exact (by first | omega | assumption | (simp; done) | (simp; omega) | exact Nat.le_of_ble_eq_true rfl))); exact .nil; rfl; intro lab) | (apply ar_store; rfl; (focus ((repeat (first | exact Take.head | apply Take.tail | apply Take.right)); done)); rfl; rfl; exact (by first | rfl | assumption | exact get_map (by assumption)); rfl; rfl) | apply aw_seq | apply a_region | apply go_seq))
    by_cases b2 : two < 0 ∨ 65536 < two
    · repeat' (first | (apply ar_call m2; rfl; rfl; (focus ((repeat (first | exact Takes.nil | (apply Takes.cons; focus (repeat (first | exact Take.head | apply Take.tail | apply Take.right))))); done)); rfl; rintro _ _ (⟨-, rfl, rfl⟩ | ⟨h, -⟩); rotate_left; exact absurd b2 h) | apply ar_nil | (apply ar_ev; (apply ev_move (y := .val (.bool true)); rfl); rfl) | (apply ar_ev; (apply ev_move (y := .val (.bool false)); rfl); rfl) | (apply ar_ev; (apply ev_move; rfl); rfl) | (apply ar_ev; (first | (apply ev_load_ptr_one; rfl; (focus ((repeat (first | exact Take.head | apply Take.tail | apply Take.right)); done)); exact (by first | rfl | assumption | exact get_map (by assumption)); rfl) | (apply ev_fieldAddr_ptr; rfl) | (apply ev_assign; rfl) | (apply ev_pick_f; rfl; rfl) | (apply ev_eqnil_p; rfl; rfl) | (apply ev_not; rfl) | (apply ev_extract; rfl; rfl)); rfl) | (apply ar_new; (first | apply eff_alloc | (apply eff_box; rfl; exact lies_of rfl) | (apply eff_conv_bytes; rfl; exact (by first | omega | assumption | (simp; done) | (simp; omega) | exact Nat.le_of_ble_eq_true rfl))); exact .nil; rfl; intro lab) | (apply ar_store; rfl; (focus ((repeat (first | exact Take.head | apply Take.tail | apply Take.right)); done)); rfl; rfl; exact (by first | rfl | assumption | exact get_map (by assumption)); rfl; rfl) | (apply ar_take; rfl; rfl; rfl; (apply ev_move (y := .val (.bool true)); rfl); rfl) | (apply ar_take; rfl; rfl; rfl; (first | (apply ev_load_ptr_one; rfl; (focus ((repeat (first | exact Take.head | apply Take.tail | apply Take.right)); done)); exact (by first | rfl | assumption | exact get_map (by assumption)); rfl) | (apply ev_fieldAddr_ptr; rfl) | (apply ev_eqnil_pv; rfl) | (apply ev_not; rfl)); rfl) | apply aw_seq | apply a_region | apply aw_skip | apply aw_ret | (apply aw_cond_t; rfl) | (apply aw_cond_f; rfl) | apply go_seq | apply go_seq_ret)
      exact g_ret1 (r_tmp rfl) .nil rfl
    repeat' ((fail_if_success (show AW _ (.region 10 _ _) _ _)); (first | (apply ar_call m2; rfl; rfl; (focus ((repeat (first | exact Takes.nil | (apply Takes.cons; focus (repeat (first | exact Take.head | apply Take.tail | apply Take.right))))); done)); rfl; rintro _ _ (⟨h, -, -⟩ | ⟨-, mt, mm, mr, mn, rfl, rfl⟩); exact absurd h b2) | apply ar_nil | (apply ar_ev; (apply ev_move (y := .val (.bool true)); rfl); rfl) | (apply ar_ev; (apply ev_move (y := .val (.bool false)); rfl); rfl) | (apply ar_ev; (apply ev_move; rfl); rfl) | (apply ar_ev; (first | (apply ev_load_ptr_one; rfl; (focus ((repeat (first | exact Take.head | apply Take.tail | apply Take.right)); done)); exact (by first | rfl | assumption | exact get_map (by assumption)); rfl) | (apply ev_fieldAddr_ptr; rfl) | (apply ev_assign; rfl) | (apply ev_pick_f; rfl; rfl) | (apply ev_eqnil_p; rfl; rfl) | (apply ev_not; rfl) | (apply ev_extract; rfl; rfl)); rfl) | (apply ar_new; (first | apply eff_alloc | (apply eff_box; rfl; exact lies_of rfl) | (apply eff_conv_bytes; rfl; exact (by first | omega | assumption | (simp; done) | (simp; omega) | exact Nat.le_of_ble_eq_true rfl))); exact .nil; rfl; intro lab) | (apply ar_store; rfl; (focus ((repeat (first | exact Take.head | apply Take.tail | apply Take.right)); done)); rfl; rfl; exact (by first | rfl | assumption | exact get_map (by assumption)); rfl; rfl) | (apply ar_take; rfl; rfl; rfl; (apply ev_move (y := .val (.bool true)); rfl); rfl) | (apply ar_take; rfl; rfl; rfl; (first | (apply ev_load_ptr_one; rfl; (focus ((repeat (first | exact Take.head | apply Take.tail | apply Take.right)); done)); exact (by first | rfl | assumption | exact get_map (by assumption)); rfl) | (apply ev_fieldAddr_ptr; rfl) | (apply ev_eqnil_p; rfl; rfl) | (apply ev_not; rfl)); rfl) | apply aw_seq | apply a_region | apply aw_skip | (apply aw_cond_f; rfl) | apply go_seq))
    clear m1 m2
    repeat' ((fail_if_success (show AW _ (.region 12 _ _) _ _)); (first | apply ar_nil | (apply ar_ev; (first | (apply ev_indexAddr_arr (q := 1); rfl; rfl; omega) | (apply ev_load_ptr_agg; rfl; (focus ((repeat (first | exact Take.head | apply Take.tail | apply Take.right)); done)); exact (by first | rfl | assumption | exact get_map (by assumption)); exact Nat.le_of_ble_eq_true rfl) | (apply ev_indexAddr_arr (q := 0); rfl; rfl; exact (by first | omega | assumption))); rfl) | (apply ar_store; rfl; (focus ((repeat (first | exact Take.head | apply Take.tail | apply Take.right)); done)); rfl; rfl; exact (by first | rfl | assumption | exact get_map (by assumption)); rfl; rfl) | apply aw_seq | apply a_region | apply go_seq))
    repeat' ((fail_if_success (show AW _ (.region 13 _ _) _ _)); (first | apply ar_nil | (apply ar_ev; (apply ev_assign; rfl); rfl) | apply a_region | apply aw_block | apply go_seq))
    refine a_loop (fun g : Nat × BS × BS => stA la os g.1 g.2.1 g.2.2) (fun g => g.1 ≤ os.length ∧ g.2.1.ok ∧ g.2.2.ok) (fun g => os.length - g.1) (0, ⟨lt, lm, [], lr, ln, one, []⟩, ⟨mt, mm, [], mr, mn, two, []⟩) (Sub.of (by repeat (first | exact .nil | refine .cons rfl Le.refl ?_)) (by repeat (first | exact Takes.nil | (apply Takes.cons; focus (repeat (first | exact Take.head | apply Take.tail | apply Take.right)))))) ⟨Nat.zero_le _, ⟨⟨fun e h => (nomatch h), by simp [sumE]; omega⟩, by dsimp only; omega⟩, ⟨⟨fun e h => (nomatch h), by simp [sumE]; omega⟩, by dsimp only; omega⟩⟩ ?_
    rintro ⟨i, a, b⟩ ⟨hi, ha, hb⟩
    dsimp only at *
    repeat' (first | apply ar_nil | (apply ar_ev; (apply ev_move; rfl); rfl) | (apply ar_ev; (first | (apply ev_lss; rfl; rfl) | (apply ev_len_sl; rfl)); rfl) | apply aw_seq | apply a_region | apply go_seq)
    refine aw_condp rfl (fun hk => ?_) (fun hk => ?_)
    · obtain ⟨o, ho⟩ : ∃ o, os[i]? = some o := ⟨_, List.getElem?_eq_getElem (by omega)⟩
      have ho2 : (os.map encO)[i]? = some (encO o) := by simp [ho]
      have hoo := hos o (List.mem_of_getElem? ho)
      repeat' (first | apply ar_nil | (apply ar_ev; (apply ev_move; rfl); rfl) | (apply ar_ev; (first | (apply ev_load_ip_one; rfl; rfl) | (apply ev_fieldAddr_ip; rfl) | (apply ev_assign; rfl) | (apply ev_indexAddr_sl; rfl; rfl; exact (by first | omega | assumption); exact (by first | rfl | assumption | exact get_map (by assumption)))); rfl) | apply aw_seq | apply a_region | apply aw_block | apply aw_skip | apply go_seq)
      refine aw_join2 (fun g : BS × BS => stA la os i g.1 g.2) (fun g => g.1.ok ∧ g.2.ok) ?_ ?_
      · refine aw_condb rfl (fun h2 => ?_) (fun h2 => ?_)
        · repeat' ((fail_if_success (show AW _ (.block 2 _) _ _)); (first | apply ar_nil | (apply ar_ev; (apply ev_move; rfl); rfl) | (apply ar_ev; (first | (apply ev_load_ip_one; rfl; rfl) | (apply ev_fieldAddr_ip; rfl) | (apply ev_assign; rfl) | (apply ev_indexAddr_sl; rfl; rfl; exact (by first | omega | assumption); exact (by first | rfl | assumption | exact get_map (by assumption)))); rfl) | apply aw_seq | apply a_region | apply go_seq))
          by_cases k5 : o.kind = 5
          · repeat' ((fail_if_success (show AW _ (.region 22 _ _) _ _)); (first | apply ar_nil | (apply ar_ev; (first | (apply ev_assign; rfl) | (apply ev_eqip; rfl; rfl)); rfl) | apply aw_seq | apply a_region | apply aw_block | (apply aw_condp; rfl; all_goals (intro hc; try (exfalso; first | omega | contradiction | (simp at hc; omega) | (simp_all; done)))) | apply go_seq))
            have hcp := Copy_ok b.mx b.l (by have := sum_len32 b.l; have := hb.w.sum; have := hb.m; omega)
            have hcr := rCopy_ok b.mx b.l (by have := sum_len32 b.l; have := hb.w.sum; have := hb.m; omega)
            have c1 : Cvs (stA la os i a b).toks [.ptr b.lt 0 0] [tabI b.mx (sumE b.l) b.l] := Cvs.cons (cv_tab (.tail (.tail (.tail (.tail (.tail .head))))) (.tail (.tail (.tail (.tail (.tail (.tail .head))))))) .nil
            have c2 : Cvs (stA la os i a b).toks [.ptr b.lr 0 0] [refI b.mx b.l] := Cvs.cons (cv_ref (.tail (.tail (.tail (.tail (.tail (.tail (.tail .head))))))) (.tail (.tail (.tail (.tail (.tail (.tail (.tail (.tail .head))))))))) .nil
            refine a_mix [true, true, true, true, false, true, true, true, true, false, true, false, false] [0, 1, 2, 3, 5, 6, 7, 8, 4, 9, 10, 11, 12] (by kernel_rfl) (by repeat (first | exact Als.nil | (apply Als.al; rfl) | (apply Als.other; rfl))) Takes.nil ?_
            repeat' (first | (apply tl_callL hcp; rfl; rfl; rfl; rfl; rfl; exact .nil; exact c1; (rintro _ _ ⟨x, y, rfl, rfl⟩; exact ⟨.ptr _ _ _, free_tab _ _ _ _ _ (fun x hx => nomatch hx)⟩); rfl; rintro _ _ ⟨nt, nm, rfl, rfl⟩) | (apply tl_callL hcr; rfl; rfl; rfl; rfl; rfl; exact .nil; exact c2; (rintro _ _ ⟨x, y, rfl, rfl⟩; exact ⟨.ptr _ _ _, free_ref _ _ _ _⟩); rfl; rintro _ _ ⟨nr, nn, rfl, rfl⟩) | apply ar_nil | (apply ar_ev; (apply ev_move; rfl); rfl) | (apply ar_ev; (first | (apply ev_indexAddr_arr (q := 0); rfl; rfl; omega) | (apply ev_load_ptr_one; rfl; (focus ((repeat (first | exact Take.head | apply Take.tail | apply Take.right)); done)); exact (by first | rfl | assumption | exact get_map (by assumption)); rfl) | (apply ev_fieldAddr_ptr; rfl) | (apply ev_load_ptr_agg; rfl; (focus ((repeat (first | exact Take.head | apply Take.tail | apply Take.right)); done)); exact (by first | rfl | assumption | exact get_map (by assumption)); exact Nat.le_of_ble_eq_true rfl) | (apply ev_sub; rfl; rfl; exact (by first | omega | assumption); exact (by first | omega | assumption)) | (apply ev_eqnil_p; rfl; rfl)); rfl) | (apply ar_store; rfl; (focus ((repeat (first | exact Take.head | apply Take.tail | apply Take.right)); done)); rfl; rfl; exact (by first | rfl | assumption | exact get_map (by assumption)); rfl; rfl) | apply aw_seq | apply a_region | apply aw_skip | (apply aw_cond_f; rfl) | apply go_seq | apply go_block | apply tl_nil | (apply tl_ev; rfl; rfl; (apply ev_move; rfl); rfl) | (apply tl_ev; rfl; rfl; (first | (apply ev_indexAddr_arr (q := 1); rfl; rfl; omega) | (apply ev_load_ptr_one; rfl; (focus ((repeat (first | exact Take.head | apply Take.tail | apply Take.right)); done)); exact (by first | rfl | assumption | exact get_map (by assumption)); rfl) | (apply ev_fieldAddr_ptr; rfl) | (apply ev_build; rfl; rfl; rfl)); rfl) | (apply tl_alloc; rfl; rfl; infer_instance; rfl; intro lab) | (apply tl_store; rfl; rfl; rfl; infer_instance; rfl; (focus ((repeat (first | exact Take.head | apply Take.tail | apply Take.right)); done)); rfl; rfl; exact (by first | rfl | assumption | exact get_map (by assumption)); rfl; rfl))
            exact go_loop_back ⟨(⟨nt, nm, [], nr, nn, b.mx, b.l⟩, b), ⟨⟨hb.w, hb.m⟩, hb⟩, Sub.of (by repeat (first | exact .nil | refine .cons rfl Le.refl ?_)) (by repeat (first | exact Takes.nil | (apply Takes.cons; focus (repeat (first | exact Take.head | apply Take.tail | apply Take.right)))))⟩
          by_cases k6 : o.kind = 6
          · have hmd := made_ok o.n
            by_cases bo : o.n < 0 ∨ 65536 < o.n
            · repeat' (first | (apply ar_call hmd; rfl; rfl; (focus ((repeat (first | exact Takes.nil | (apply Takes.cons; focus (repeat (first | exact Take.head | apply Take.tail | apply Take.right))))); done)); rfl; rintro _ _ (⟨-, rfl, rfl⟩ | ⟨h, -⟩); rotate_left; exact absurd bo h) | apply ar_nil | (apply ar_ev; (apply ev_move (y := .val (.bool true)); rfl); rfl) | (apply ar_ev; (apply ev_move; rfl); rfl) | (apply ar_ev; (first | (apply ev_load_ptr_one; rfl; (focus ((repeat (first | exact Take.head | apply Take.tail | apply Take.right)); done)); exact (by first | rfl | assumption | exact get_map (by assumption)); rfl) | (apply ev_load_ip_one; rfl; rfl) | (apply ev_fieldAddr_ptr; rfl) | (apply ev_fieldAddr_ip; rfl) | (apply ev_assign; rfl) | (apply ev_eqip; rfl; rfl) | (apply ev_nenil_pv; rfl) | (apply ev_not; rfl) | (apply ev_indexAddr_sl; rfl; rfl; exact (by first | omega | assumption); exact (by first | rfl | assumption | exact get_map (by assumption))) | (apply ev_extract; rfl; rfl)); rfl) | (apply ar_new; (first | apply eff_alloc | (apply eff_box; rfl; exact lies_of rfl) | (apply eff_conv_bytes; rfl; exact (by first | omega | assumption | (simp; done) | (simp; omega) | exact Nat.le_of_ble_eq_true rfl))); exact .nil; rfl; intro lab) | (apply ar_store; rfl; (focus ((repeat (first | exact Take.head | apply Take.tail | apply Take.right)); done)); rfl; rfl; exact (by first | rfl | assumption | exact get_map (by assumption)); rfl; rfl) | apply aw_seq | apply a_region | apply aw_block | apply aw_skip | (apply aw_cond_f; rfl) | (apply aw_condp; rfl; all_goals (intro hc; try (exfalso; first | omega | contradiction | (simp at hc; omega) | (simp_all; done)))) | apply go_seq | apply go_block)
              exact go_loop_back ⟨(a, b), ⟨ha, hb⟩, Sub.of (by repeat (first | exact .nil | refine .cons rfl Le.refl ?_)) (by repeat (first | exact Takes.nil | (apply Takes.cons; focus (repeat (first | exact Take.head | apply Take.tail | apply Take.right)))))⟩
            · repeat' (first | (apply ar_call hmd; rfl; rfl; (focus ((repeat (first | exact Takes.nil | (apply Takes.cons; focus (repeat (first | exact Take.head | apply Take.tail | apply Take.right))))); done)); rfl; rintro _ _ (⟨h, -, -⟩ | ⟨-, nt, nm, nr, nn, rfl, rfl⟩); exact absurd h bo) | apply ar_nil | (apply ar_ev; (apply ev_move (y := .val (.bool true)); rfl); rfl) | (apply ar_ev; (apply ev_move; rfl); rfl) | (apply ar_ev; (first | (apply ev_indexAddr_arr (q := 1); rfl; rfl; omega) | (apply ev_load_ptr_one; rfl; (focus ((repeat (first | exact Take.head | apply Take.tail | apply Take.right)); done)); exact (by first | rfl | assumption | exact get_map (by assumption)); rfl) | (apply ev_load_ip_one; rfl; rfl) | (apply ev_fieldAddr_ptr; rfl) | (apply ev_fieldAddr_ip; rfl) | (apply ev_assign; rfl) | (apply ev_load_ptr_agg; rfl; (focus ((repeat (first | exact Take.head | apply Take.tail | apply Take.right)); done)); exact (by first | rfl | assumption | exact get_map (by assumption)); exact Nat.le_of_ble_eq_true rfl) | (apply ev_eqip; rfl; rfl) | (apply ev_nenil_p; rfl; rfl) | (apply ev_not; rfl) | (apply ev_indexAddr_sl; rfl; rfl; exact (by first | omega | assumption); exact (by first | rfl | assumption | exact get_map (by assumption))) | (apply ev_extract; rfl; rfl)); rfl) | (apply ar_new; (first | apply eff_alloc | (apply eff_box; rfl; exact lies_of rfl) | (apply eff_conv_bytes; rfl; exact (by first | omega | assumption | (simp; done) | (simp; omega) | exact Nat.le_of_ble_eq_true rfl))); exact .nil; rfl; intro lab) | (apply ar_store; rfl; (focus ((repeat (first | exact Take.head | apply Take.tail | apply Take.right)); done)); rfl; rfl; exact (by first | rfl | assumption | exact get_map (by assumption)); rfl; rfl) | apply aw_seq | apply a_region | apply aw_block | apply aw_skip | (apply aw_cond_t; rfl) | (apply aw_cond_f; rfl) | (apply aw_condp; rfl; all_goals (intro hc; try (exfalso; first | omega | contradiction | (simp at hc; omega) | (simp_all; done)))) | apply go_seq | apply go_block)
              exact go_loop_back ⟨(a, ⟨nt, nm, [], nr, nn, o.n, []⟩), ⟨ha, ⟨⟨fun e h => (nomatch h), by simp [sumE]; omega⟩, by dsimp only; omega⟩⟩, Sub.of (by repeat (first | exact .nil | refine .cons rfl Le.refl ?_)) (by repeat (first | exact Takes.nil | (apply Takes.cons; focus (repeat (first | exact Take.head | apply Take.tail | apply Take.right)))))⟩
          have hpl := plays_ok b.lt b.lm b.pre b.lr b.ln b.mx b.l o hb.w hb.m hoo
          have hwp := wf_play hb.w hb.m hoo
          repeat' (first | (refine a_draw 7 rfl ?_) | (apply ar_call hpl; rfl; rfl; (focus ((repeat (first | exact Takes.nil | (apply Takes.cons; focus (repeat (first | exact Take.head | apply Take.tail | apply Take.right))))); done)); rfl; rintro _ _ ⟨⟨nm, npre, nn, rfl⟩, rfl⟩) | apply ar_nil | (apply ar_ev; (apply ev_move; rfl); rfl) | (apply ar_ev; (first | (apply ev_indexAddr_arr (q := 1); rfl; rfl; omega) | (apply ev_assign; rfl) | (apply ev_load_ptr_agg; rfl; (focus ((repeat (first | exact Take.head | apply Take.tail | apply Take.right)); done)); exact (by first | rfl | assumption | exact get_map (by assumption)); exact Nat.le_of_ble_eq_true rfl) | (apply ev_load_ip_agg; rfl; exact Nat.le_of_ble_eq_true rfl) | (apply ev_eqip; rfl; rfl) | (apply ev_not; rfl) | (apply ev_indexAddr_sl; rfl; rfl; exact (by first | omega | assumption); exact (by first | rfl | assumption | exact get_map (by assumption)))); rfl) | apply aw_seq | apply a_region | apply aw_block | apply aw_skip | (apply aw_condp; rfl; all_goals (intro hc; try (exfalso; first | omega | contradiction | (simp at hc; omega) | (simp_all; done)))) | (apply aw_cond_f; rfl) | apply go_seq | apply go_block)
          exact go_loop_back ⟨(a, ⟨b.lt, nm, npre, b.lr, nn, (playN o (b.mx, b.l)).1, (playN o (b.mx, b.l)).2⟩), ⟨ha, ⟨hwp.1, hwp.2⟩⟩, Sub.of (by repeat (first | exact .nil | refine .cons rfl Le.refl ?_)) (by repeat (first | exact Takes.nil | (apply Takes.cons; focus (repeat (first | exact Take.head | apply Take.tail | apply Take.right)))))⟩
        · repeat' ((fail_if_success (show AW _ (.block 2 _) _ _)); (first | apply ar_nil | (apply ar_ev; (apply ev_move; rfl); rfl) | (apply ar_ev; (first | (apply ev_load_ip_one; rfl; rfl) | (apply ev_fieldAddr_ip; rfl) | (apply ev_indexAddr_sl; rfl; rfl; exact (by first | omega | assumption); exact (by first | rfl | assumption | exact get_map (by assumption)))); rfl) | apply aw_seq | apply a_region | apply aw_skip | apply go_seq))
          by_cases k5 : o.kind = 5
          · repeat' ((fail_if_success (show AW _ (.region 22 _ _) _ _)); (first | apply ar_nil | (apply ar_ev; (first | (apply ev_assign; rfl) | (apply ev_eqip; rfl; rfl)); rfl) | apply aw_seq | apply a_region | apply aw_block | (apply aw_condp; rfl; all_goals (intro hc; try (exfalso; first | omega | contradiction | (simp at hc; omega) | (simp_all; done)))) | apply go_seq))
            have hcp := Copy_ok a.mx a.l (by have := sum_len32 a.l; have := ha.w.sum; have := ha.m; omega)
            have hcr := rCopy_ok a.mx a.l (by have := sum_len32 a.l; have := ha.w.sum; have := ha.m; omega)
            have c1 : Cvs (stA la os i a b).toks [.ptr a.lt 0 0] [tabI a.mx (sumE a.l) a.l] := Cvs.cons (cv_tab (.tail .head) (.tail (.tail .head))) .nil
            have c2 : Cvs (stA la os i a b).toks [.ptr a.lr 0 0] [refI a.mx a.l] := Cvs.cons (cv_ref (.tail (.tail (.tail .head))) (.tail (.tail (.tail (.tail .head))))) .nil
            refine a_mix [true, true, true, true, false, true, true, true, true, false, true, false, false] [0, 1, 2, 3, 5, 6, 7, 8, 4, 9, 10, 11, 12] (by kernel_rfl) (by repeat (first | exact Als.nil | (apply Als.al; rfl) | (apply Als.other; rfl))) Takes.nil ?_
            repeat' (first | (apply tl_callL hcp; rfl; rfl; rfl; rfl; rfl; exact .nil; exact c1; (rintro _ _ ⟨x, y, rfl, rfl⟩; exact ⟨.ptr _ _ _, free_tab _ _ _ _ _ (fun x hx => nomatch hx)⟩); rfl; rintro _ _ ⟨nt, nm, rfl, rfl⟩) | (apply tl_callL hcr; rfl; rfl; rfl; rfl; rfl; exact .nil; exact c2; (rintro _ _ ⟨x, y, rfl, rfl⟩; exact ⟨.ptr _ _ _, free_ref _ _ _ _⟩); rfl; rintro _ _ ⟨nr, nn, rfl, rfl⟩) | apply ar_nil | (apply ar_ev; (apply ev_move; rfl); rfl) | (apply ar_ev; (first | (apply ev_indexAddr_arr (q := 1); rfl; rfl; omega) | (apply ev_load_ptr_one; rfl; (focus ((repeat (first | exact Take.head | apply Take.tail | apply Take.right)); done)); exact (by first | rfl | assumption | exact get_map (by assumption)); rfl) | (apply ev_fieldAddr_ptr; rfl) | (apply ev_load_ptr_agg; rfl; (focus ((repeat (first | exact Take.head | apply Take.tail | apply Take.right)); done)); exact (by first | rfl | assumption | exact get_map (by assumption)); exact Nat.le_of_ble_eq_true rfl) | (apply ev_sub; rfl; rfl; exact (by first | omega | assumption); exact (by first | omega | assumption)) | (apply ev_eqnil_p; rfl; rfl)); rfl) | (apply ar_store; rfl; (focus ((repeat (first | exact Take.head | apply Take.tail | apply Take.right)); done)); rfl; rfl; exact (by first | rfl | assumption | exact get_map (by assumption)); rfl; rfl) | apply aw_seq | apply a_region | apply aw_skip | (apply aw_cond_f; rfl) | apply go_seq | apply go_block | apply tl_nil | (apply tl_ev; rfl; rfl; (apply ev_move; rfl); rfl) | (apply tl_ev; rfl; rfl; (first | (apply ev_indexAddr_arr (q := 0); rfl; rfl; omega) | (apply ev_load_ptr_one; rfl; (focus ((repeat (first | exact Take.head | apply Take.tail | apply Take.right)); done)); exact (by first | rfl | assumption | exact get_map (by assumption)); rfl) | (apply ev_fieldAddr_ptr; rfl) | (apply ev_build; rfl; rfl; rfl)); rfl) | (apply tl_alloc; rfl; rfl; infer_instance; rfl; intro lab) | (apply tl_store; rfl; rfl; rfl; infer_instance; rfl; (focus ((repeat (first | exact Take.head | apply Take.tail | apply Take.right)); done)); rfl; rfl; exact (by first | rfl | assumption | exact get_map (by assumption)); rfl; rfl))
            exact go_loop_back ⟨(a, ⟨nt, nm, [], nr, nn, a.mx, a.l⟩), ⟨ha, ⟨ha.w, ha.m⟩⟩, Sub.of (by repeat (first | exact .nil | refine .cons rfl Le.refl ?_)) (by repeat (first | exact Takes.nil | (apply Takes.cons; focus (repeat (first | exact Take.head | apply Take.tail | apply Take.right)))))⟩
          by_cases k6 : o.kind = 6
          · have hmd := made_ok o.n
            by_cases bo : o.n < 0 ∨ 65536 < o.n
            · repeat' (first | (apply ar_call hmd; rfl; rfl; (focus ((repeat (first | exact Takes.nil | (apply Takes.cons; focus (repeat (first | exact Take.head | apply Take.tail | apply Take.right))))); done)); rfl; rintro _ _ (⟨-, rfl, rfl⟩ | ⟨h, -⟩); rotate_left; exact absurd bo h) | apply ar_nil | (apply ar_ev; (apply ev_move (y := .val (.bool true)); rfl); rfl) | (apply ar_ev; (apply ev_move; rfl); rfl) | (apply ar_ev; (first | (apply ev_load_ptr_one; rfl; (focus ((repeat (first | exact Take.head | apply Take.tail | apply Take.right)); done)); exact (by first | rfl | assumption | exact get_map (by assumption)); rfl) | (apply ev_load_ip_one; rfl; rfl) | (apply ev_fieldAddr_ptr; rfl) | (apply ev_fieldAddr_ip; rfl) | (apply ev_assign; rfl) | (apply ev_eqip; rfl; rfl) | (apply ev_nenil_pv; rfl) | (apply ev_not; rfl) | (apply ev_indexAddr_sl; rfl; rfl; exact (by first | omega | assumption); exact (by first | rfl | assumption | exact get_map (by assumption))) | (apply ev_extract; rfl; rfl)); rfl) | (apply ar_new; (first | apply eff_alloc | (apply eff_box; rfl; exact lies_of rfl) | (apply eff_conv_bytes; rfl; exact (by first | omega | assumption | (simp; done) | (simp; omega) | exact Nat.le_of_ble_eq_true rfl))); exact .nil; rfl; intro lab) | (apply ar_store; rfl; (focus ((repeat (first | exact Take.head | apply Take.tail | apply Take.right)); done)); rfl; rfl; exact (by first | rfl | assumption | exact get_map (by assumption)); rfl; rfl) | apply aw_seq | apply a_region | apply aw_block | apply aw_skip | (apply aw_cond_f; rfl) | (apply aw_condp; rfl; all_goals (intro hc; try (exfalso; first | omega | contradiction | (simp at hc; omega) | (simp_all; done)))) | apply go_seq | apply go_block)
              exact go_loop_back ⟨(a, b), ⟨ha, hb⟩, Sub.of (by repeat (first | exact .nil | refine .cons rfl Le.refl ?_)) (by repeat (first | exact Takes.nil | (apply Takes.cons; focus (repeat (first | exact Take.head | apply Take.tail | apply Take.right)))))⟩
            · repeat' (first | (apply ar_call hmd; rfl; rfl; (focus ((repeat (first | exact Takes.nil | (apply Takes.cons; focus (repeat (first | exact Take.head | apply Take.tail | apply Take.right))))); done)); rfl; rintro _ _ (⟨h, -, -⟩ | ⟨-, nt, nm, nr, nn, rfl, rfl⟩); exact absurd h bo) | apply ar_nil | (apply ar_ev; (apply ev_move (y := .val (.bool true)); rfl); rfl) | (apply ar_ev; (apply ev_move; rfl); rfl) | (apply ar_ev; (first | (apply ev_indexAddr_arr (q := 0); rfl; rfl; omega) | (apply ev_load_ptr_one; rfl; (focus ((repeat (first | exact Take.head | apply Take.tail | apply Take.right)); done)); exact (by first | rfl | assumption | exact get_map (by assumption)); rfl) | (apply ev_load_ip_one; rfl; rfl) | (apply ev_fieldAddr_ptr; rfl) | (apply ev_fieldAddr_ip; rfl) | (apply ev_assign; rfl) | (apply ev_load_ptr_agg; rfl; (focus ((repeat (first | exact Take.head | apply Take.tail | apply Take.right)); done)); exact (by first | rfl | assumption | exact get_map (by assumption)); exact Nat.le_of_ble_eq_true rfl) | (apply ev_eqip; rfl; rfl) | (apply ev_nenil_p; rfl; rfl) | (apply ev_not; rfl) | (apply ev_indexAddr_sl; rfl; rfl; exact (by first | omega | assumption); exact (by first | rfl | assumption | exact get_map (by assumption))) | (apply ev_extract; rfl; rfl)); rfl) | (apply ar_new; (first | apply eff_alloc | (apply eff_box; rfl; exact lies_of rfl) | (apply eff_conv_bytes; rfl; exact (by first | omega | assumption | (simp; done) | (simp; omega) | exact Nat.le_of_ble_eq_true rfl))); exact .nil; rfl; intro lab) | (apply ar_store; rfl; (focus ((repeat (first | exact Take.head | apply Take.tail | apply Take.right)); done)); rfl; rfl; exact (by first | rfl | assumption | exact get_map (by assumption)); rfl; rfl) | apply aw_seq | apply a_region | apply aw_block | apply aw_skip | (apply aw_cond_t; rfl) | (apply aw_cond_f; rfl) | (apply aw_condp; rfl; all_goals (intro hc; try (exfalso; first | omega | contradiction | (simp at hc; omega) | (simp_all; done)))) | apply go_seq | apply go_block)
              exact go_loop_back ⟨(⟨nt, nm, [], nr, nn, o.n, []⟩, b), ⟨⟨⟨fun e h => (nomatch h), by simp [sumE]; omega⟩, by dsimp only; omega⟩, hb⟩, Sub.of (by repeat (first | exact .nil | refine .cons rfl Le.refl ?_)) (by repeat (first | exact Takes.nil | (apply Takes.cons; focus (repeat (first | exact Take.head | apply Take.tail | apply Take.right)))))⟩
          have hpl := plays_ok a.lt a.lm a.pre a.lr a.ln a.mx a.l o ha.w ha.m hoo
          have hwp := wf_play ha.w ha.m hoo
          repeat' (first | (refine a_draw 7 rfl ?_) | (apply ar_call hpl; rfl; rfl; (focus ((repeat (first | exact Takes.nil | (apply Takes.cons; focus (repeat (first | exact Take.head | apply Take.tail | apply Take.right))))); done)); rfl; rintro _ _ ⟨⟨nm, npre, nn, rfl⟩, rfl⟩) | apply ar_nil | (apply ar_ev; (apply ev_move; rfl); rfl) | (apply ar_ev; (first | (apply ev_indexAddr_arr (q := 0); rfl; rfl; omega) | (apply ev_assign; rfl) | (apply ev_load_ptr_agg; rfl; (focus ((repeat (first | exact Take.head | apply Take.tail | apply Take.right)); done)); exact (by first | rfl | assumption | exact get_map (by assumption)); exact Nat.le_of_ble_eq_true rfl) | (apply ev_load_ip_agg; rfl; exact Nat.le_of_ble_eq_true rfl) | (apply ev_eqip; rfl; rfl) | (apply ev_not; rfl) | (apply ev_indexAddr_sl; rfl; rfl; exact (by first | omega | assumption); exact (by first | rfl | assumption | exact get_map (by assumption)))); rfl) | apply aw_seq | apply a_region | apply aw_block | apply aw_skip | (apply aw_condp; rfl; all_goals (intro hc; try (exfalso; first | omega | contradiction | (simp at hc; omega) | (simp_all; done)))) | (apply aw_cond_f; rfl) | apply go_seq | apply go_block)
          exact go_loop_back ⟨(⟨a.lt, nm, npre, a.lr, nn, (playN o (a.mx, a.l)).1, (playN o (a.mx, a.l)).2⟩, b), ⟨⟨hwp.1, hwp.2⟩, hb⟩, Sub.of (by repeat (first | exact .nil | refine .cons rfl Le.refl ?_)) (by repeat (first | exact Takes.nil | (apply Takes.cons; focus (repeat (first | exact Take.head | apply Take.tail | apply Take.right)))))⟩
      · rintro ⟨a, b⟩ ⟨ha, hb⟩
        clear o ho ho2 hoo
        have ta := tells_ok a.mx a.l ha.w ha.m
        have tb := tells_ok b.mx b.l hb.w hb.m
        have ca : Cvs (stA la os i a b).toks [.agg [.ptr a.lt 0 0, .ptr a.lr 0 0]] [.agg [tabI a.mx (sumE a.l) a.l, refI a.mx a.l]] := Cvs.cons (Cv.agg (Cvs.cons (cv_tab (.tail .head) (.tail (.tail .head))) (Cvs.cons (cv_ref (.tail (.tail (.tail .head))) (.tail (.tail (.tail (.tail .head))))) .nil))) .nil
        have cb : Cvs (stA la os i a b).toks [.agg [.ptr b.lt 0 0, .ptr b.lr 0 0]] [.agg [tabI b.mx (sumE b.l) b.l, refI b.mx b.l]] := Cvs.cons (Cv.agg (Cvs.cons (cv_tab (.tail (.tail (.tail (.tail (.tail .head))))) (.tail (.tail (.tail (.tail (.tail (.tail .head))))))) (Cvs.cons (cv_ref (.tail (.tail (.tail (.tail (.tail (.tail (.tail .head))))))) (.tail (.tail (.tail (.tail (.tail (.tail (.tail (.tail .head))))))))) .nil))) .nil
        repeat' (first | apply ar_nil | (apply ar_ev; (apply ev_move (y := .val (.bool false)); rfl); rfl) | (apply ar_ev; (apply ev_move; rfl); rfl) | (apply ar_ev; (first | (apply ev_callL ta; rfl; rfl; exact ca; constructor) | (apply ev_assign; rfl) | (apply ev_pick_f; rfl; rfl) | (apply ev_load_ptr_agg; rfl; (focus ((repeat (first | exact Take.head | apply Take.tail | apply Take.right)); done)); exact (by first | rfl | assumption | exact get_map (by assumption)); exact Nat.le_of_ble_eq_true rfl) | (apply ev_inc; rfl; exact (by first | omega | assumption)) | (apply ev_not; rfl) | (apply ev_indexAddr_arr (q := 0); rfl; rfl; exact (by first | omega | assumption))); rfl) | (apply ar_take; rfl; rfl; rfl; (first | (apply ev_indexAddr_arr (q := 1); rfl; rfl; omega) | (apply ev_callL tb; rfl; rfl; exact cb; constructor) | (apply ev_load_ptr_agg; rfl; (focus ((repeat (first | exact Take.head | apply Take.tail | apply Take.right)); done)); exact (by first | rfl | assumption | exact get_map (by assumption)); exact Nat.le_of_ble_eq_true rfl) | (apply ev_not; rfl)); rfl) | apply aw_seq | apply a_region | apply aw_skip | (apply aw_cond_f; rfl) | apply go_seq | apply go_block)
        exact go_loop_back ⟨(i + 1, a, b), ⟨by dsimp only; omega, ha, hb⟩, by dsimp only; omega, by dsimp only; exact Sub.of (by repeat (first | exact .nil | refine .cons rfl Le.refl ?_)) (by repeat (first | exact Takes.nil | (apply Takes.cons; focus (repeat (first | exact Take.head | apply Take.tail | apply Take.right)))))⟩
    · have ta := whole_ok a.mx a.l ha.w ha.m
      have tb := whole_ok b.mx b.l hb.w hb.m
      have ca : Cvs (stA la os i a b).toks [.agg [.ptr a.lt 0 0, .ptr a.lr 0 0]] [.agg [tabI a.mx (sumE a.l) a.l, refI a.mx a.l]] := Cvs.cons (Cv.agg (Cvs.cons (cv_tab (.tail .head) (.tail (.tail .head))) (Cvs.cons (cv_ref (.tail (.tail (.tail .head))) (.tail (.tail (.tail (.tail .head))))) .nil))) .nil
      have cb : Cvs (stA la os i a b).toks [.agg [.ptr b.lt 0 0, .ptr b.lr 0 0]] [.agg [tabI b.mx (sumE b.l) b.l, refI b.mx b.l]] := Cvs.cons (Cv.agg (Cvs.cons (cv_tab (.tail (.tail (.tail (.tail (.tail .head))))) (.tail (.tail (.tail (.tail (.tail (.tail .head))))))) (Cvs.cons (cv_ref (.tail (.tail (.tail (.tail (.tail (.tail (.tail .head))))))) (.tail (.tail (.tail (.tail (.tail (.tail (.tail (.tail .head))))))))) .nil))) .nil
      repeat' (first | apply ar_nil | (apply ar_ev; (apply ev_move (y := .val (.bool true)); rfl); rfl) | (apply ar_ev; (first | (apply ev_callL ta; rfl; rfl; exact ca; constructor) | (apply ev_assign; rfl) | (apply ev_pick_t; rfl; rfl) | (apply ev_load_ptr_agg; rfl; (focus ((repeat (first | exact Take.head | apply Take.tail | apply Take.right)); done)); exact (by first | rfl | assumption | exact get_map (by assumption)); exact Nat.le_of_ble_eq_true rfl) | (apply ev_indexAddr_arr (q := 0); rfl; rfl; exact (by first | omega | assumption))); rfl) | (apply ar_take; rfl; rfl; rfl; (first | (apply ev_indexAddr_arr (q := 1); rfl; rfl; omega) | (apply ev_callL tb; rfl; rfl; exact cb; constructor) | (apply ev_load_ptr_agg; rfl; (focus ((repeat (first | exact Take.head | apply Take.tail | apply Take.right)); done)); exact (by first | rfl | assumption | exact get_map (by assumption)); exact Nat.le_of_ble_eq_true rfl)); rfl) | apply aw_seq | apply a_region | apply aw_exit | apply aw_ret | apply go_seq | apply go_seq_exit | apply go_block_exit | apply go_loop_exit)
      exact g_ret1 (r_tmp rfl) .nil rfl
end Go.Proofs.Ytmenbolalghljaa
