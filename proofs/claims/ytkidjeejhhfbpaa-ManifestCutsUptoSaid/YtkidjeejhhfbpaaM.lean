import Derived.Test.YtkidjeejhhfbpaaL
set_option linter.unusedVariables false
set_option linter.unusedSimpArgs false
set_option maxRecDepth 100000
namespace Go.Proofs.Ytkidjeejhhfbpaa
open Go.Proofs Go.Proofs.YtkidjeejhhfbpaaA

abbrev wT : Tg := (⟨#[119]⟩, es)
abbrev xT : Tg := (⟨#[120]⟩, es)
theorem rem_nat {n : Nat} (hn : 0 < n) (i s : Nat) : ((i : Int) + (s : Int)).tmod (n : Int) = (((i + s) % n : Nat) : Int) := by
  rw [Int.tmod_eq_emod_of_nonneg (by omega)]
  exact_mod_cast rfl
set_option maxHeartbeats 16000000 in
theorem ManifestCuts_ok (es : List Ed) (from_ M T : Int) (hn : es.length ≤ 1048576) : PFn Try.prog 6 [dsl es, vi from_, vi M, vi T] (vb true) := by
  refine fn_of Try.func6 rfl Try.ntmps6 Try.results6 rfl fun G => ?_
  have hmd := made_ok es (by omega)
  have hok := made_okR es
  have hln := made_len es
  have herr := made_err es
  have hrot := rot_ok es (andI T 15).toNat
  have h15 := and15 T
  generalize hs : (andI T 15).toNat = s at *
  have hse : andI T 15 = (s : Int) := by omega
  generalize madeN es = rs at *
  repeat' ((fail_if_success (show AW _ (.region 3 _ _) _ _)); (first | apply ar_nil | (apply ar_ev; (apply ev_move; rfl); rfl) | (apply ar_ev; (first | exact ev_call rfl rfl hmd | (apply ev_assign; rfl) | (apply ev_len_sl; rfl)); rfl) | apply aw_seq | apply a_region | apply go_seq))
  repeat' (first | apply ar_nil | (apply ar_ev; (apply ev_assign; rfl); rfl) | apply aw_seq | apply a_region | apply aw_block | apply go_seq)
  refine a_loop (fun i : Nat => ⟨[(1, vi from_), (2, vi M), (3, vi T), (9, rsl rs), (10, vi rs.length), (11, rsl (rotTo rs s i)), (12, vi i)], []⟩) (fun i => i ≤ rs.length) (fun i => rs.length - i) 0
    (Sub.of (.cons rfl Le.refl (.cons rfl Le.refl (.cons rfl Le.refl (.cons rfl Le.refl (.cons rfl Le.refl (.cons rfl Le.nil (.cons rfl Le.refl .nil))))))) .nil) (Nat.zero_le _) ?_
  rintro i hi
  repeat' (first | apply ar_nil | (apply ar_ev; (apply ev_move; rfl); rfl) | (apply ar_ev; (apply ev_lss; rfl; rfl); rfl) | apply aw_seq | apply a_region | apply go_seq)
  refine aw_condp rfl (fun hk => ?_) (fun hk => ?_)
  · have hpos : 0 < rs.length := by omega
    have hrem := rem_nat hpos i s
    have hrl := rotTo_len rs s i
    repeat' ((fail_if_success (show AW _ (.region 8 _ _) _ _)); (first | apply ar_nil | (apply ar_ev; (apply ev_move; rfl); rfl) | (apply ar_ev; (first | (apply ev_rem; rfl; rfl; exact (by omega)) | (apply ev_assign; rfl) | (apply ev_add; rfl; rfl; exact (by first | omega | assumption); exact (by first | omega | assumption)) | (apply ev_andI; rfl; rfl)); rfl) | apply aw_seq | apply a_region | apply aw_block | apply aw_skip | apply go_seq))
    rw [hse, hrem]
    have hm := Nat.mod_lt (i + s) hpos
    have hg := rsl_get (rotF_get (rs := rs) (s := s) (j := i) hpos)
    have hcv : ∀ lab, Cv [(lab, .row 37 3 (List.take 1 (List.drop 0 [encR (rotF rs s i)]) ++ List.take (rotTo rs s i).length ((rotTo rs s i).map encR)))] (.own lab 0 (1 + (rotTo rs s i).length)) (rsl (rotTo rs s (i + 1))) := fun lab => by
      have e : List.take 1 (List.drop 0 [encR (rotF rs s i)]) ++ List.take (rotTo rs s i).length ((rotTo rs s i).map encR) = (rotTo rs s (i + 1)).map encR := by
        rw [rotTo_succ, List.take_of_length_le (l := (rotTo rs s i).map encR) (by simp)]; rfl
      rw [e, show 1 + (rotTo rs s i).length = (rotTo rs s (i + 1)).length by rw [rotTo_succ, List.length_cons]; omega]
      exact Cv.own0 .head (by simp)
    repeat' (first | (refine ar_cv 48 rfl (.cons .head .nil) (hcv _) ?_) | (apply ar_new (d := 46); (apply eff_buildSlice; rfl; rfl; rfl; rfl; rfl; rfl; rfl); exact .nil; rfl; intro lab) | apply ar_nil | (apply ar_ev; (apply ev_move; rfl); rfl) | (apply ar_ev; (first | (apply ev_assign; rfl) | (apply ev_load_ip_agg; rfl; exact Nat.le_of_ble_eq_true rfl) | (apply ev_inc; rfl; exact (by first | omega | assumption)) | (apply ev_indexAddr_sl; rfl; rfl; exact (by first | omega | assumption); exact (by first | rfl | assumption | exact get_map (by assumption)))); rfl) | apply a_region | apply go_seq | apply go_block | (apply ar_append; rfl; (focus ((repeat (first | exact Take.head | apply Take.tail | apply Take.right)); done)); rfl; exact (by first | omega | assumption | (simp; done) | (simp; omega) | exact Nat.le_of_ble_eq_true rfl); exact (by first | omega | assumption | (simp; done) | (simp; omega) | exact Nat.le_of_ble_eq_true rfl); exact (by first | omega | assumption | (simp; done) | (simp; omega) | exact Nat.le_of_ble_eq_true rfl); rfl; intro lab))
    exact go_loop_back ⟨i + 1, by omega, by omega, Sub.of (by repeat (first | exact .nil | refine .cons rfl Le.refl ?_)) (by repeat (first | exact Takes.nil | (apply Takes.cons; focus (repeat (first | exact Take.head | apply Take.tail | apply Take.right)))))⟩
  obtain rfl : i = rs.length := by omega
  clear hi hk
  obtain ⟨hql, hqok, hqerr, hqnm⟩ := hrot
  generalize rotTo rs s rs.length = qs at *
  have hown := own_ok rs (by omega) hok
  have hof := of_made rs hok (by omega) herr
  have hownq := own_ok qs (by omega) hqok
  have hofq := of_made qs hqok (by omega) hqerr
  have hpg := page_ok from_
  generalize pgI from_ = t at *
  have hp8 := plan_of rs hok t 8
  rw [show mostN 8 = 8 from rfl] at hp8
  have hpM := plan_of rs hok t M
  have hpA := Plan_ok rs hok t M
  have hpQ := plan_of qs hqok t M
  rw [hqnm] at hpQ
  have hll := wfold_len (nm := nmOf rs) (root := t) (most := 8) (nmOf rs t) [] (Nat.zero_le _)
  have hpn : planN (nmOf rs) 8 t = wfold (nmOf rs) t 8 (nmOf rs t) [] := rfl
  rw [← hpn] at hll
  have hcut := planN_cut (nm := nmOf rs) (most := 8) (m := mostN M) (by unfold mostN; omega) t
  generalize planN (nmOf rs) 8 t = L at *
  obtain ⟨k, hk⟩ : ∃ k, k = min (mostN M) L.length := ⟨_, rfl⟩
  have hke : min (max M 0) (L.length : Int) = (k : Nat) := by unfold mostN at hk; omega
  have hcut2 : L.take (mostN M) = L.take k := by rw [hk]; rcases Nat.le_total (mostN M) L.length with h | h; rw [Nat.min_eq_left h]; rw [Nat.min_eq_right h, List.take_of_length_le h, List.take_of_length_le (Nat.le_refl _)]
  rw [hcut2] at hcut
  rw [hcut] at hpM hpA hpQ
  have hkl : k ≤ L.length := by omega
  have hle := sl_take L k hkl
  have hAl : (L.take k).length = k := by rw [List.length_take]; omega
  generalize L.take k = A at *
  have hsA := same_ok A A (by omega)
  have hsL := same_ok L L (by omega)
  rw [decide_eq_true rfl] at hsA hsL
  clear hmd hok hqok herr hqerr hqnm hcut hcut2 hpn h15 hs hse hql
  unfold manV at hpA
  repeat' ((fail_if_success (show AW _ (.region 14 _ _) _ _)); (first | apply ar_nil | (apply ar_splitp; (apply ev_move; rfl); rfl; all_goals (intro hc; try (exfalso; first | omega | contradiction | (simp at hc; omega) | (simp_all; done)))) | (apply ar_ev; (apply ev_move (y := .val (.bool false)); rfl); rfl) | (apply ar_ev; (apply ev_move; rfl); rfl) | (apply ar_ev; (first | exact ev_call rfl rfl hown | exact ev_call rfl rfl hof | exact ev_call rfl rfl hownq | exact ev_call rfl rfl hofq | exact ev_call rfl rfl hpg | (apply ev_assign; rfl) | (apply ev_pick_f; rfl; rfl) | (apply ev_eqnil_p; rfl; rfl) | (apply ev_extract; rfl; rfl)); rfl) | (apply ar_new; (first | apply eff_alloc | (apply eff_box; rfl; exact lies_of rfl) | (apply eff_conv_bytes; rfl; exact (by first | omega | assumption | (simp; done) | (simp; omega) | exact Nat.le_of_ble_eq_true rfl))); exact .nil; rfl; intro lab) | (apply ar_store; rfl; (focus ((repeat (first | exact Take.head | apply Take.tail | apply Take.right)); done)); rfl; rfl; exact (by first | rfl | assumption | exact get_map (by assumption)); rfl; rfl) | (apply ar_take; rfl; rfl; rfl; (apply ev_move; rfl); rfl) | (apply ar_take; rfl; rfl; rfl; (first | exact ev_call rfl rfl first_ok | (apply ev_neip; rfl; rfl) | (apply ev_eqnil_p; rfl; rfl) | (apply ev_not; rfl)); rfl) | apply aw_seq | apply a_region | apply aw_skip | apply aw_exit | (apply aw_cond_f; rfl) | apply go_seq | apply go_seq_exit | apply go_block_exit | apply go_loop_exit))
  refine aw_cv 18 (us := [(lab, .row 35 2 [encT t])]) rfl (.cons .head .nil) (Cv.ptr0 .head rfl) ?_
  repeat' ((fail_if_success (show AW _ (.region 16 _ _) _ _)); (first | apply ar_nil | (apply ar_ev; (apply ev_move; rfl); rfl) | (apply ar_ev; (first | exact ev_call rfl rfl hp8 | (apply ev_assign; rfl) | (apply ev_load_ip_agg; rfl; exact Nat.le_of_ble_eq_true rfl) | (apply ev_len_sl; rfl) | (apply ev_min; rfl; rfl) | (apply ev_max; rfl; rfl)); rfl) | apply aw_seq | apply a_region | apply go_seq))
  rw [hke]
  repeat' (first | (apply ar_ev; (apply ev_move; rfl); rfl) | (apply ar_ev; (apply ev_load_ip_agg; rfl; exact Nat.le_of_ble_eq_true rfl); rfl) | apply a_region)
  apply ar_call hpA; rfl; rfl; (focus ((repeat (first | exact Takes.nil | (apply Takes.cons; focus (repeat (first | exact Take.head | apply Take.tail | apply Take.right))))); done)); rfl; rintro _ _ ⟨la, rfl, rfl⟩
  clear hpA hc
  repeat' ((fail_if_success (show AW _ (.region 21 _ _) _ _)); (first | apply ar_nil | (apply ar_ev; (apply ev_move (y := .val (.bool false)); rfl); rfl) | (apply ar_ev; (apply ev_move; rfl); rfl) | (apply ar_ev; (first | exact ev_call rfl rfl hpM | exact ev_call rfl rfl hpQ | (apply ev_callL hsA; rfl; rfl; exact Cvs.cons (Cv.own0 (by repeat (first | exact Take.head | apply Take.tail | apply Take.right)) (by simp)) (Cvs.cons (Cv.le hle) Cvs.nil); constructor) | (apply ev_assign; rfl) | (apply ev_pick_f; rfl; rfl) | (apply ev_load_ip_agg; rfl; exact Nat.le_of_ble_eq_true rfl) | (apply ev_not; rfl) | (apply ev_slice_sl; rfl; exact (by first | exact LoB.none | exact LoB.some (l := 0) rfl | exact LoB.some (l := 1) rfl | exact LoB.some rfl); exact (by first | exact HiB.none | exact HiB.some rfl); exact (by first | omega | assumption); exact (by first | omega | assumption | (simp; done) | (simp; omega) | exact Nat.le_of_ble_eq_true rfl))); rfl) | (apply ar_take; rfl; rfl; rfl; (apply ev_move; rfl); rfl) | (apply ar_take; rfl; rfl; rfl; (first | (apply ev_callA hsA; rfl; rfl; exact Les.cons Le.refl (Les.cons hle Les.nil)) | (apply ev_not; rfl) | (apply ev_slice_sl; rfl; exact (by first | exact LoB.none | exact LoB.some (l := 0) rfl | exact LoB.some (l := 1) rfl | exact LoB.some rfl); exact (by first | exact HiB.none | exact HiB.some rfl); exact (by first | omega | assumption); exact (by first | omega | assumption | (simp; done) | (simp; omega) | exact Nat.le_of_ble_eq_true rfl))); rfl) | apply aw_seq | apply a_region | apply aw_skip | (apply aw_cond_f; rfl) | apply go_seq))
  repeat' (first | apply ar_nil | (apply ar_ev; (apply ev_assign; rfl); rfl) | apply a_region | apply aw_block | apply go_seq)
  refine a_loop (fun g : Nat × List Tg => ⟨[(2, vi M), (14, .ip [.imap (encE (mapOf rs))]), (18, .ip (encT t)), (19, tsl L), (20, vi k), (21, .own la 0 A.length), (22, tsl A), (24, vi g.1)], [(la, .row 35 2 (g.2.map encT))]⟩)
    (fun g => g.1 ≤ A.length ∧ g.2.length = A.length ∧ ∀ j, j < g.1 → g.2[j]? = some wT) (fun g => A.length - g.1) (0, A) (Sub.of (by repeat (first | exact .nil | refine .cons rfl Le.refl ?_)) (by repeat (first | exact Takes.nil | (apply Takes.cons; focus (repeat (first | exact Take.head | apply Take.tail | apply Take.right)))))) ⟨Nat.zero_le _, rfl, fun j hj => by omega⟩ ?_
  rintro ⟨i, B⟩ ⟨hi, hBl, hB⟩
  dsimp only at *
  have hBm : (B.map encT).length = A.length := by rw [List.length_map, hBl]
  repeat' (first | apply ar_nil | (apply ar_ev; (apply ev_move; rfl); rfl) | (apply ar_ev; (first | (apply ev_lss; rfl; rfl) | (apply ev_len_own; rfl)); rfl) | apply aw_seq | apply a_region | apply go_seq)
  refine aw_condp rfl (fun hk1 => ?_) (fun hk1 => ?_)
  · obtain ⟨y, hye⟩ : ∃ y, B[i]? = some y := ⟨_, List.getElem?_eq_getElem (by omega)⟩
    have hy2 := tsl_get hye
    have hrow : (B.map encT).set i (encT wT) = (B.set i wT).map encT := by rw [List.map_set]
    repeat' (first | apply ar_nil | (apply ar_ev; (apply ev_move; rfl); rfl) | (apply ar_ev; (first | (apply ev_assign; rfl) | (apply ev_inc; rfl; exact (by first | omega | assumption)) | (apply ev_indexAddr_own0; rfl; rfl; exact (by first | omega | assumption); (focus ((repeat (first | exact Take.head | apply Take.tail | apply Take.right)); done))) | (apply ev_build; rfl; rfl; rfl)); rfl) | (apply ar_store; rfl; (focus ((repeat (first | exact Take.head | apply Take.tail | apply Take.right)); done)); rfl; rfl; exact (by first | rfl | assumption | exact get_map (by assumption)); rfl; rfl) | apply aw_seq | apply a_region | apply aw_block | apply aw_skip | apply go_seq | apply go_block)
    refine go_loop_back ⟨(i + 1, B.set i wT), ⟨by dsimp only; omega, by dsimp only; rw [List.length_set]; exact hBl, fun j hj => ?_⟩, by dsimp only; omega, Sub.of (by repeat (first | exact .nil | refine .cons rfl Le.refl ?_)) (by repeat (first | exact Takes.nil | (apply Takes.cons; focus (repeat (first | exact Take.head | exact Take.rowc hrow Take.head | apply Take.tail | apply Take.right)))))⟩
    dsimp only
    by_cases hij : i = j
    · subst hij; rw [List.getElem?_set_self (by omega)]
    · rw [List.getElem?_set_ne hij]; exact hB j (by dsimp only at hj; omega)
  obtain rfl : i = A.length := by omega
  clear hi hk1
  repeat' (first | (apply ar_ev; (apply ev_move; rfl); rfl) | (apply ar_ev; (first | (apply ev_build; rfl; rfl; rfl) | (apply ev_buildSlice; rfl; rfl; rfl; rfl; rfl; rfl; rfl)); rfl) | apply aw_seq | apply a_region | apply aw_exit | apply go_seq | apply go_seq_exit | apply go_block_exit | apply go_loop_exit)
  apply ar_eff (eff_append_keep rfl rfl (by omega) (by omega) (by omega)) (.cons .head .nil) rfl
  have hx : List.take A.length (B.map encT) ++ List.take 1 [encT xT] = (B ++ [xT]).map encT := by
    rw [List.take_of_length_le (by omega), List.map_append]; rfl
  have hxl : ((B ++ [xT]).map encT).length = A.length + 1 := by simp [hBl]
  rintro _ _ (⟨rfl, rfl⟩ | ⟨l2, rfl, rfl⟩)
  · repeat' (first | apply ar_nil | (apply ar_ev; (apply ev_assign; rfl); rfl) | apply aw_seq | apply a_region | apply aw_block | apply go_seq)
    refine a_loop (fun i : Nat => ⟨[(2, vi M), (14, .ip [.imap (encE (mapOf rs))]), (18, .ip (encT t)), (19, tsl L), (20, vi k), (21, .own la 0 A.length), (22, tsl A), (25, .own la 0 (A.length + 1)), (26, vi i)], [(la, .row 35 2 ((B ++ [xT]).map encT))]⟩)
      (fun i => i ≤ A.length) (fun i => A.length - i) 0 (Sub.of (by repeat (first | exact .nil | refine .cons rfl Le.refl ?_)) (by repeat (first | exact Takes.nil | (apply Takes.cons; focus (repeat (first | exact Take.head | exact Take.rowc hx Take.head | apply Take.tail | apply Take.right)))))) (Nat.zero_le _) ?_
    rintro i hi
    repeat' (first | apply ar_nil | (apply ar_ev; (apply ev_move; rfl); rfl) | (apply ar_ev; (first | (apply ev_lss; rfl; rfl) | (apply ev_len_own; rfl)); rfl) | apply aw_seq | apply a_region | apply go_seq)
    refine aw_condp rfl (fun hk1 => ?_) (fun hk1 => ?_)
    · have hb1 := tsl_get (hB i (by omega))
      have hb2 : ((B ++ [xT]).map encT)[i]? = some (encT wT) := by rw [List.map_append, List.getElem?_append_left (by omega)]; exact hb1
      repeat' (first | apply ar_nil | (apply ar_splitp; (apply ev_move; rfl); rfl; all_goals (intro hc; try (exfalso; first | omega | contradiction | (simp at hc; omega) | (simp_all; done)))) | (apply ar_ev; (apply ev_move; rfl); rfl) | (apply ar_ev; (first | (apply ev_load_ptr_one; rfl; (focus ((repeat (first | exact Take.head | apply Take.tail | apply Take.right)); done)); exact (by first | rfl | assumption | exact get_map (by assumption)); rfl) | (apply ev_fieldAddr_ptr; rfl) | (apply ev_assign; rfl) | (apply ev_pick_f; rfl; rfl) | (apply ev_inc; rfl; exact (by first | omega | assumption)) | (apply ev_nesp; rfl; rfl) | (apply ev_indexAddr_own0; rfl; rfl; exact (by first | omega | assumption); (focus ((repeat (first | exact Take.head | apply Take.tail | apply Take.right)); done)))); rfl) | (apply ar_take; rfl; rfl; rfl; (apply ev_move; rfl); rfl) | (apply ar_take; rfl; rfl; rfl; (first | (apply ev_load_ptr_one; rfl; (focus ((repeat (first | exact Take.head | apply Take.tail | apply Take.right)); done)); exact (by first | rfl | assumption | exact get_map (by assumption)); rfl) | (apply ev_fieldAddr_ptr; rfl) | (apply ev_nesp; rfl; rfl) | (apply ev_indexAddr_own0; rfl; rfl; exact (by first | omega | assumption); (focus ((repeat (first | exact Take.head | apply Take.tail | apply Take.right)); done)))); rfl) | apply aw_seq | apply a_region | apply aw_block | apply aw_skip | (apply aw_condp; rfl; all_goals (intro hc; try (exfalso; first | omega | contradiction | (simp at hc; omega) | (simp_all; done)))) | apply go_seq | apply go_block)
      exact go_loop_back ⟨i + 1, by omega, by omega, Sub.of (by repeat (first | exact .nil | refine .cons rfl Le.refl ?_)) (by repeat (first | exact Takes.nil | (apply Takes.cons; focus (repeat (first | exact Take.head | apply Take.tail | apply Take.right)))))⟩
    · repeat' (first | apply ar_nil | (apply ar_ev; (apply ev_move (y := .val (.bool true)); rfl); rfl) | (apply ar_ev; (apply ev_move; rfl); rfl) | (apply ar_ev; (first | (apply ev_callA hsA; rfl; rfl; exact Les.cons Le.refl (Les.cons hle Les.nil)) | (apply ev_assign; rfl) | (apply ev_pick_t; rfl; rfl) | (apply ev_slice_sl; rfl; exact (by first | exact LoB.none | exact LoB.some (l := 0) rfl | exact LoB.some (l := 1) rfl | exact LoB.some rfl); exact (by first | exact HiB.none | exact HiB.some rfl); exact (by first | omega | assumption); exact (by first | omega | assumption | (simp; done) | (simp; omega) | exact Nat.le_of_ble_eq_true rfl))); rfl) | (apply ar_take; rfl; rfl; rfl; (apply ev_move; rfl); rfl) | (apply ar_take; rfl; rfl; rfl; (first | exact ev_call rfl rfl hpM | exact ev_call rfl rfl hp8 | (apply ev_callA hsA; rfl; rfl; exact Les.cons Le.refl (Les.cons hle Les.nil)) | exact ev_call rfl rfl hsL | (apply ev_load_ip_agg; rfl; exact Nat.le_of_ble_eq_true rfl) | (apply ev_slice_sl; rfl; exact (by first | exact LoB.none | exact LoB.some (l := 0) rfl | exact LoB.some (l := 1) rfl | exact LoB.some rfl); exact (by first | exact HiB.none | exact HiB.some rfl); exact (by first | omega | assumption); exact (by first | omega | assumption | (simp; done) | (simp; omega) | exact Nat.le_of_ble_eq_true rfl))); rfl) | apply aw_seq | apply aw_exit | apply aw_ret | apply go_seq | apply go_seq_exit | apply go_block_exit | apply go_loop_exit | (first | (apply a_drawN 2; rfl; rfl) | (apply a_drawN 3; rfl; rfl) | (apply a_drawN 4; rfl; rfl) | (apply a_drawN 5; rfl; rfl) | (apply a_drawN 6; rfl; rfl) | (apply a_drawN 7; rfl; rfl) | (apply a_drawN 8; rfl; rfl) | (apply a_drawN 9; rfl; rfl) | (apply a_drawN 10; rfl; rfl) | (apply a_drawN 11; rfl; rfl) | (apply a_drawN 12; rfl; rfl) | (apply a_drawN 13; rfl; rfl) | (apply a_drawN 14; rfl; rfl) | (apply a_drawN 15; rfl; rfl) | (apply a_drawN 16; rfl; rfl) | (apply a_drawN 17; rfl; rfl) | (apply a_drawN 18; rfl; rfl) | (apply a_drawN 19; rfl; rfl) | (apply a_drawN 20; rfl; rfl) | (apply a_drawN 21; rfl; rfl) | (apply a_drawN 22; rfl; rfl) | (apply a_drawN 23; rfl; rfl) | (apply a_drawN 24; rfl; rfl) | (apply a_drawN 25; rfl; rfl) | (apply a_drawN 26; rfl; rfl) | (apply a_drawN 27; rfl; rfl) | (apply a_drawN 28; rfl; rfl) | (apply a_drawN 29; rfl; rfl) | (apply a_drawN 30; rfl; rfl) | (apply a_drawN 31; rfl; rfl) | (apply a_drawN 32; rfl; rfl) | (apply a_drawN 33; rfl; rfl) | (apply a_drawN 34; rfl; rfl) | (apply a_drawN 35; rfl; rfl) | (apply a_drawN 36; rfl; rfl) | (apply a_drawN 37; rfl; rfl) | (apply a_drawN 38; rfl; rfl) | (apply a_drawN 39; rfl; rfl) | (apply a_drawN 40; rfl; rfl) | (apply a_drawN 41; rfl; rfl) | (apply a_drawN 42; rfl; rfl) | (apply a_drawN 43; rfl; rfl) | (apply a_drawN 44; rfl; rfl) | (apply a_drawN 45; rfl; rfl)))
      exact g_ret1 (r_tmp rfl) .nil rfl
  · repeat' (first | apply ar_nil | (apply ar_ev; (apply ev_assign; rfl); rfl) | apply aw_seq | apply a_region | apply aw_block | apply go_seq)
    refine a_loop (fun i : Nat => ⟨[(2, vi M), (14, .ip [.imap (encE (mapOf rs))]), (18, .ip (encT t)), (19, tsl L), (20, vi k), (21, .own la 0 A.length), (22, tsl A), (25, .own l2 0 (A.length + 1)), (26, vi i)], [(l2, .row 35 2 ((B ++ [xT]).map encT)), (la, .row 35 2 (B.map encT))]⟩)
      (fun i => i ≤ A.length) (fun i => A.length - i) 0 (Sub.of (by repeat (first | exact .nil | refine .cons rfl Le.refl ?_)) (by repeat (first | exact Takes.nil | (apply Takes.cons; focus (repeat (first | exact Take.head | exact Take.rowc hx Take.head | apply Take.tail | apply Take.right)))))) (Nat.zero_le _) ?_
    rintro i hi
    repeat' (first | apply ar_nil | (apply ar_ev; (apply ev_move; rfl); rfl) | (apply ar_ev; (first | (apply ev_lss; rfl; rfl) | (apply ev_len_own; rfl)); rfl) | apply aw_seq | apply a_region | apply go_seq)
    refine aw_condp rfl (fun hk1 => ?_) (fun hk1 => ?_)
    · have hb1 := tsl_get (hB i (by omega))
      have hb2 : ((B ++ [xT]).map encT)[i]? = some (encT wT) := by rw [List.map_append, List.getElem?_append_left (by omega)]; exact hb1
      repeat' (first | apply ar_nil | (apply ar_splitp; (apply ev_move; rfl); rfl; all_goals (intro hc; try (exfalso; first | omega | contradiction | (simp at hc; omega) | (simp_all; done)))) | (apply ar_ev; (apply ev_move; rfl); rfl) | (apply ar_ev; (first | (apply ev_load_ptr_one; rfl; (focus ((repeat (first | exact Take.head | apply Take.tail | apply Take.right)); done)); exact (by first | rfl | assumption | exact get_map (by assumption)); rfl) | (apply ev_fieldAddr_ptr; rfl) | (apply ev_assign; rfl) | (apply ev_pick_f; rfl; rfl) | (apply ev_inc; rfl; exact (by first | omega | assumption)) | (apply ev_nesp; rfl; rfl) | (apply ev_indexAddr_own0; rfl; rfl; exact (by first | omega | assumption); (focus ((repeat (first | exact Take.head | apply Take.tail | apply Take.right)); done)))); rfl) | (apply ar_take; rfl; rfl; rfl; (apply ev_move; rfl); rfl) | (apply ar_take; rfl; rfl; rfl; (first | (apply ev_load_ptr_one; rfl; (focus ((repeat (first | exact Take.head | apply Take.tail | apply Take.right)); done)); exact (by first | rfl | assumption | exact get_map (by assumption)); rfl) | (apply ev_fieldAddr_ptr; rfl) | (apply ev_nesp; rfl; rfl) | (apply ev_indexAddr_own0; rfl; rfl; exact (by first | omega | assumption); (focus ((repeat (first | exact Take.head | apply Take.tail | apply Take.right)); done)))); rfl) | apply aw_seq | apply a_region | apply aw_block | apply aw_skip | (apply aw_condp; rfl; all_goals (intro hc; try (exfalso; first | omega | contradiction | (simp at hc; omega) | (simp_all; done)))) | apply go_seq | apply go_block)
      exact go_loop_back ⟨i + 1, by omega, by omega, Sub.of (by repeat (first | exact .nil | refine .cons rfl Le.refl ?_)) (by repeat (first | exact Takes.nil | (apply Takes.cons; focus (repeat (first | exact Take.head | apply Take.tail | apply Take.right)))))⟩
    · repeat' (first | apply ar_nil | (apply ar_ev; (apply ev_move (y := .val (.bool true)); rfl); rfl) | (apply ar_ev; (apply ev_move; rfl); rfl) | (apply ar_ev; (first | (apply ev_callA hsA; rfl; rfl; exact Les.cons Le.refl (Les.cons hle Les.nil)) | (apply ev_assign; rfl) | (apply ev_pick_t; rfl; rfl) | (apply ev_slice_sl; rfl; exact (by first | exact LoB.none | exact LoB.some (l := 0) rfl | exact LoB.some (l := 1) rfl | exact LoB.some rfl); exact (by first | exact HiB.none | exact HiB.some rfl); exact (by first | omega | assumption); exact (by first | omega | assumption | (simp; done) | (simp; omega) | exact Nat.le_of_ble_eq_true rfl))); rfl) | (apply ar_take; rfl; rfl; rfl; (apply ev_move; rfl); rfl) | (apply ar_take; rfl; rfl; rfl; (first | exact ev_call rfl rfl hpM | exact ev_call rfl rfl hp8 | (apply ev_callA hsA; rfl; rfl; exact Les.cons Le.refl (Les.cons hle Les.nil)) | exact ev_call rfl rfl hsL | (apply ev_load_ip_agg; rfl; exact Nat.le_of_ble_eq_true rfl) | (apply ev_slice_sl; rfl; exact (by first | exact LoB.none | exact LoB.some (l := 0) rfl | exact LoB.some (l := 1) rfl | exact LoB.some rfl); exact (by first | exact HiB.none | exact HiB.some rfl); exact (by first | omega | assumption); exact (by first | omega | assumption | (simp; done) | (simp; omega) | exact Nat.le_of_ble_eq_true rfl))); rfl) | apply aw_seq | apply aw_exit | apply aw_ret | apply go_seq | apply go_seq_exit | apply go_block_exit | apply go_loop_exit | (first | (apply a_drawN 2; rfl; rfl) | (apply a_drawN 3; rfl; rfl) | (apply a_drawN 4; rfl; rfl) | (apply a_drawN 5; rfl; rfl) | (apply a_drawN 6; rfl; rfl) | (apply a_drawN 7; rfl; rfl) | (apply a_drawN 8; rfl; rfl) | (apply a_drawN 9; rfl; rfl) | (apply a_drawN 10; rfl; rfl) | (apply a_drawN 11; rfl; rfl) | (apply a_drawN 12; rfl; rfl) | (apply a_drawN 13; rfl; rfl) | (apply a_drawN 14; rfl; rfl) | (apply a_drawN 15; rfl; rfl) | (apply a_drawN 16; rfl; rfl) | (apply a_drawN 17; rfl; rfl) | (apply a_drawN 18; rfl; rfl) | (apply a_drawN 19; rfl; rfl) | (apply a_drawN 20; rfl; rfl) | (apply a_drawN 21; rfl; rfl) | (apply a_drawN 22; rfl; rfl) | (apply a_drawN 23; rfl; rfl) | (apply a_drawN 24; rfl; rfl) | (apply a_drawN 25; rfl; rfl) | (apply a_drawN 26; rfl; rfl) | (apply a_drawN 27; rfl; rfl) | (apply a_drawN 28; rfl; rfl) | (apply a_drawN 29; rfl; rfl) | (apply a_drawN 30; rfl; rfl) | (apply a_drawN 31; rfl; rfl) | (apply a_drawN 32; rfl; rfl) | (apply a_drawN 33; rfl; rfl) | (apply a_drawN 34; rfl; rfl) | (apply a_drawN 35; rfl; rfl) | (apply a_drawN 36; rfl; rfl) | (apply a_drawN 37; rfl; rfl) | (apply a_drawN 38; rfl; rfl) | (apply a_drawN 39; rfl; rfl) | (apply a_drawN 40; rfl; rfl) | (apply a_drawN 41; rfl; rfl) | (apply a_drawN 42; rfl; rfl) | (apply a_drawN 43; rfl; rfl) | (apply a_drawN 44; rfl; rfl) | (apply a_drawN 45; rfl; rfl)))
      exact g_ret1 (r_tmp rfl) .nil rfl
end Go.Proofs.Ytkidjeejhhfbpaa
