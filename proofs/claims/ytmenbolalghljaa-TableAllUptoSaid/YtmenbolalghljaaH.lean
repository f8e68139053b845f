import Derived.Test.YtmenbolalghljaaG
set_option linter.unusedVariables false
set_option linter.unusedSimpArgs false
set_option maxRecDepth 100000
namespace Go.Proofs.Ytmenbolalghljaa
open Go.Proofs Go.Proofs.YtmenbolalghljaaA

theorem tsl_get {l : List En} {i : Nat} {e : En} (h : l[i]? = some e) : (l.map encT)[i]? = some (encT e) := by simp [h]
theorem adds_snoc {mx : Int} {l : List En} {i : Nat} {e : En} (h : l[i]? = some e) (m : List En) : addsN mx m (l.take (i + 1)) = addN mx (addsN mx m (l.take i)) e := by
  unfold addsN
  rw [List.take_add_one, h]
  simp
set_option maxHeartbeats 8000000 in
theorem TableFinds_ok (l : List En) (nm vl : ByteArray) (hn : l.length ≤ 1048576) (hok : ∀ e, e ∈ l → OkE e) : PFn Try.prog 5 [tsl l, vs nm, vs vl] (vb true) := by
  refine fn_of Try.func5 rfl Try.ntmps5 Try.results5 rfl fun G => ?_
  have hnew := New_ok 65536
  repeat' ((fail_if_success (show AW _ (.region 4 _ _) _ _)); (first | (apply ar_call hnew; rfl; rfl; (focus ((repeat (first | exact Takes.nil | (apply Takes.cons; focus (repeat (first | exact Take.head | apply Take.tail | apply Take.right))))); done)); rfl; rintro _ _ (⟨h, -, -⟩ | ⟨-, lt, lm, rfl, rfl⟩); exfalso; omega) | apply ar_nil | (apply ar_ev; (apply ev_move; rfl); rfl) | (apply ar_ev; (first | exact ev_call rfl rfl head_ok | (apply ev_assign; rfl) | (apply ev_not; rfl) | (apply ev_extract; rfl; rfl)); rfl) | apply aw_seq | apply a_region | apply aw_skip | (apply aw_cond_f; rfl) | apply go_seq))
  rw [List.append_nil]
  clear hnew
  repeat' (first | apply ar_nil | (apply ar_ev; (apply ev_move (y := .val (.bool false)); rfl); rfl) | (apply ar_ev; (apply ev_move; rfl); rfl) | (apply ar_ev; (first | (apply ev_assign; rfl) | (apply ev_pick_f; rfl; rfl) | (apply ev_eqnil_p; rfl; rfl)); rfl) | (apply ar_take; rfl; rfl; rfl; (apply ev_move; rfl); rfl) | (apply ar_take; rfl; rfl; rfl; (apply ev_neip; rfl; rfl); rfl) | apply aw_seq | apply a_region | apply aw_block | apply aw_skip | (apply aw_cond_f; rfl) | apply go_seq)
  refine a_loop (fun g : Nat × Nat × List (List AV) × List En => ⟨[(0, tsl l), (1, vs nm), (2, vs vl), (7, .ptr lt 0 0), (9, vi g.1)], tabT lt g.2.1 g.2.2.1 65536 g.2.2.2⟩)
    (fun g => g.1 ≤ l.length ∧ WfT 65536 g.2.2.2) (fun g => l.length - g.1) (0, lm, [], []) (Sub.of (by repeat (first | exact .nil | refine .cons rfl Le.refl ?_)) (by repeat (first | exact Takes.nil | (apply Takes.cons; focus (repeat (first | exact Take.head | apply Take.tail | apply Take.right)))))) ⟨Nat.zero_le _, ⟨fun e h => (nomatch h), by simp [sumE]⟩⟩ ?_
  rintro ⟨i, lm, pre, m⟩ ⟨hi, hw⟩
  dsimp only at *
  repeat' (first | apply ar_nil | (apply ar_ev; (apply ev_move; rfl); rfl) | (apply ar_ev; (first | (apply ev_lss; rfl; rfl) | (apply ev_len_sl; rfl)); rfl) | apply aw_seq | apply a_region | apply go_seq)
  refine aw_condp rfl (fun hk => ?_) (fun hk => ?_)
  · obtain ⟨e, he⟩ : ∃ e, l[i]? = some e := ⟨_, List.getElem?_eq_getElem (by omega)⟩
    have he2 := tsl_get he
    have hadd := AddW_ok lt lm pre 65536 m e hw (hok e (List.mem_of_getElem? he)) (by omega)
    have hw2 := hw.add (hok e (List.mem_of_getElem? he)) (by omega)
    generalize addN 65536 m e = m2 at *
    repeat' (first | (refine a_draw 11 rfl ?_) | (apply ar_call hadd; rfl; rfl; (focus ((repeat (first | exact Takes.nil | (apply Takes.cons; focus (repeat (first | exact Take.head | apply Take.tail | apply Take.right))))); done)); rfl; rintro _ _ ⟨⟨lm2, pre2, rfl⟩, rfl⟩) | apply ar_nil | (apply ar_ev; (apply ev_move; rfl); rfl) | (apply ar_ev; (first | (apply ev_load_ip_one; rfl; rfl) | (apply ev_fieldAddr_ip; rfl) | (apply ev_assign; rfl) | (apply ev_inc; rfl; exact (by first | omega | assumption)) | (apply ev_indexAddr_sl; rfl; rfl; exact (by first | omega | assumption); exact (by first | rfl | assumption | exact get_map (by assumption)))); rfl) | apply aw_seq | apply a_region | apply aw_block | apply aw_skip | apply go_seq | apply go_block)
    exact go_loop_back ⟨(i + 1, lm2, pre2, m2), ⟨by dsimp only; omega, hw2⟩, by dsimp only; omega, by dsimp only; exact Sub.of (by repeat (first | exact .nil | refine .cons rfl Le.refl ?_)) (by repeat (first | exact Takes.nil | (apply Takes.cons; focus (repeat (first | exact Take.head | apply Take.tail | apply Take.right)))))⟩
  · have h32 := sum_len32 m
    have hsm := hw.sum
    have hcv : Cv (tabT lt lm pre 65536 m) (.ptr lt 0 0) (tabI 65536 (sumE m) m) := cv_tab .head (.tail .head)
    refine AW.sub (st' := ⟨[(0, tsl l), (1, vs nm), (2, vs vl), (7, .ptr lt 0 0)], tabT lt lm pre 65536 m⟩) (Sub.of (by repeat (first | exact .nil | refine .cons rfl Le.refl ?_)) (by repeat (first | exact Takes.nil | (apply Takes.cons; focus (repeat (first | exact Take.head | apply Take.tail | apply Take.right)))))) ?_
    refine aw_cv 7 (us := tabT lt lm pre 65536 m) (y := tabI 65536 (sumE m) m) rfl (by repeat (first | exact Takes.nil | (apply Takes.cons; focus (repeat (first | exact Take.head | apply Take.tail | apply Take.right))))) hcv ?_
    clear hcv hk hi
    have hfd := Find_ok 65536 (sumE m) m (by omega) nm vl
    have hlen := Len_ok 65536 (sumE m) m
    have hlaw := find_law m nm vl
    generalize findN m nm vl = r at *
    repeat' (first | apply ar_nil | (apply ar_ev; (apply ev_move; rfl); rfl) | (apply ar_ev; (first | exact ev_call rfl rfl hfd | (apply ev_assign; rfl) | (apply ev_extract; rfl; rfl)); rfl) | apply aw_seq | apply a_region | apply aw_block | apply aw_exit | apply go_seq | apply go_seq_exit | apply go_block_exit | apply go_loop_exit)
    refine a_loop (fun k : Nat => ⟨[(1, vs nm), (2, vs vl), (7, tabI 65536 (sumE m) m), (10, vi r.1), (11, vb r.2), (12, vi (((allX m).take k).foldl (stepN nm) 0 : Nat)), (13, vi (((allX m).take k).foldl (stepS nm vl) 0 : Nat)), (14, vi ((k : Int) + 1))], []⟩)
      (fun k => k ≤ 61 + m.length) (fun k => 61 + m.length - k) 0 (Sub.of (by repeat (first | exact .nil | refine .cons rfl Le.refl ?_)) (by repeat (first | exact Takes.nil | (apply Takes.cons; focus (repeat (first | exact Take.head | apply Take.tail | apply Take.right)))))) (Nat.zero_le _) ?_
    intro k hk
    repeat' (first | apply ar_nil | (apply ar_ev; (apply ev_move; rfl); rfl) | (apply ar_ev; (first | exact ev_call rfl rfl hlen | (apply ev_leq; rfl; rfl) | (apply ev_add; rfl; rfl; exact (by first | omega | assumption); exact (by first | omega | assumption))); rfl) | apply aw_seq | apply a_region | apply go_seq)
    refine aw_condp rfl (fun hk2 => ?_) (fun hk2 => ?_)
    · obtain ⟨e, hE⟩ : ∃ e, (allE m)[k]? = some e := ⟨_, List.getElem?_eq_getElem (by rw [allE_len]; omega)⟩
      have hat := At_ok 65536 (sumE m) m (by omega) ((k : Int) + 1) (by omega)
      rw [atN_some hE] at hat
      have hs1 : ((allX m).take (k + 1)).foldl (stepN nm) 0 = stepN nm (((allX m).take k).foldl (stepN nm) 0) (e, k + 1) := by rw [allX_snoc hE, List.foldl_append]; rfl
      have hs2 : ((allX m).take (k + 1)).foldl (stepS nm vl) 0 = stepS nm vl (((allX m).take k).foldl (stepS nm vl) 0) (e, k + 1) := by rw [allX_snoc hE, List.foldl_append]; rfl
      generalize ((allX m).take k).foldl (stepN nm) 0 = fN at *
      generalize ((allX m).take k).foldl (stepS nm vl) 0 = fS at *
      have e3 : ((k + 1 : Nat) : Int) = (k : Int) + 1 := by omega
      repeat' (first | apply ar_nil | (apply ar_splitp; (apply ev_move; rfl); rfl; all_goals (intro hc; try (exfalso; first | omega | contradiction | (simp at hc; omega) | (simp_all; done)))) | (apply ar_ev; (apply ev_move (y := .val (.bool false)); rfl); rfl) | (apply ar_ev; (apply ev_move; rfl); rfl) | (apply ar_ev; (first | exact ev_call rfl rfl hat | (apply ev_assign; rfl) | (apply ev_pick_t; rfl; rfl) | (apply ev_pick_f; rfl; rfl) | (apply ev_neip; rfl; rfl) | (apply ev_add; rfl; rfl; exact (by first | omega | assumption); exact (by first | omega | assumption)) | (apply ev_eqsp; rfl; rfl) | (apply ev_extract; rfl; rfl)); rfl) | (apply ar_skip; rfl; rfl; rfl; rfl; rfl) | (apply ar_take; rfl; rfl; rfl; (apply ev_move; rfl); rfl) | (apply ar_take; rfl; rfl; rfl; (first | (apply ev_eqip; rfl; rfl) | (apply ev_eqsp; rfl; rfl)); rfl) | apply aw_seq | apply a_region | apply aw_block | apply aw_skip | (apply aw_condp; rfl; all_goals (intro hc; try (exfalso; first | omega | contradiction | (simp at hc; omega) | (simp_all; done)))) | (apply aw_cond_f; rfl) | apply go_seq | apply go_block)
      all_goals
        refine go_loop_back ⟨k + 1, by omega, by omega, ?_⟩
        rw [hs1, hs2]
        first
        | rw [show stepN nm fN (e, k + 1) = k + 1 from if_pos ⟨by assumption, by omega⟩]
        | rw [show stepN nm fN (e, k + 1) = fN from if_neg (fun h => by first | (exact absurd h.1 (by assumption)) | (have := h.2; omega))]
        first
        | rw [show stepS nm vl fS (e, k + 1) = k + 1 from if_pos ⟨⟨by assumption, by assumption⟩, by omega⟩]
        | rw [show stepS nm vl fS (e, k + 1) = fS from if_neg (fun h => by first | (exact absurd h.1.1 (by assumption)) | (exact absurd h.1.2 (by assumption)) | (have := h.2; omega))]
        simp only [e3]
        exact Sub.of (by repeat (first | exact .nil | refine .cons rfl Le.refl ?_)) (by repeat (first | exact Takes.nil | (apply Takes.cons; focus (repeat (first | exact Take.head | apply Take.tail | apply Take.right)))))
    · obtain rfl : k = 61 + m.length := by omega
      rw [List.take_of_length_le (by rw [allX_len]; omega)]
      generalize (allX m).foldl (stepN nm) 0 = fN at *
      generalize (allX m).foldl (stepS nm vl) 0 = fS at *
      repeat' (first | apply ar_nil | (apply ar_ev; (apply ev_move (y := .val (.bool true)); rfl); rfl) | (apply ar_split; (apply ev_move; rfl); rfl; all_goals (intro hc; try (exfalso; first | omega | contradiction | (simp at hc; omega) | (simp_all; done)))) | (apply ar_ev; (apply ev_move; rfl); rfl) | (apply ar_ev; (first | (apply ev_assign; rfl) | (apply ev_pick_t; rfl; rfl) | (apply ev_gtr; rfl; rfl) | (apply ev_not; rfl)); rfl) | (apply ar_take; rfl; rfl; rfl; (apply ev_move; rfl); rfl) | (apply ar_take; rfl; rfl; rfl; (apply ev_eqip; rfl; rfl); rfl) | apply aw_seq | apply a_region | apply aw_skip | apply aw_exit | apply aw_ret | (apply aw_condp; rfl; all_goals (intro hc; try (exfalso; first | omega | contradiction | (simp at hc; omega) | (simp_all; done)))) | apply go_seq | apply go_seq_exit | apply go_seq_ret | apply go_block_exit | apply go_loop_exit)
      · rename_i hp
        rw [if_pos (by omega)] at hlaw
        simp only [Bool.and_eq_true, decide_eq_true_eq] at hlaw
        exact g_ret1 (r_tmp rfl) .nil (by rw [hlaw.2]; simp)
      · rename_i hp
        rw [if_neg (by omega)] at hlaw
        simp only [Bool.and_eq_true, decide_eq_true_eq] at hlaw
        exact g_ret1 (r_tmp rfl) .nil (by rw [hlaw.2]; simp)
end Go.Proofs.Ytmenbolalghljaa
