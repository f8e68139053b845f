import Derived.Test.YtjdcljggbbeikaaDoorU
import Derived.Test.YtjdcljggbbeikaaDoorO
set_option linter.unusedVariables false
set_option linter.unusedSimpArgs false
set_option maxRecDepth 100000
namespace Go.Proofs.YtjdcljggbbeikaaDoor
open Go.Proofs Go.Proofs.YtjdcljggbbeikaaDoorA

theorem sp_back {o : Org} (h : GoodO o) (mask : Int) (named : Bool) : speltO o.sch (spN o mask named) = o := by
  unfold spN
  refine spelt_back h (by rw [upM_low, low_id h]) _ ?_
  unfold nmB
  cases named
  · by_cases hp : o.port = usualN o.sch
    · exact .inr hp
    · exact .inl (by rw [Bool.false_or]; exact decide_eq_true hp)
  · exact .inl rfl
theorem has_sp {o : Org} (h : GoodO o) (l : List Org) (mask : Int) (named : Bool) : hasN l o.sch (spN o mask named) = decide (o ∈ l) := by
  unfold hasN
  rw [sp_back h, h.right, Bool.true_and]
theorem has_not {l : List Org} {s a : ByteArray} (h : rightB (speltO s a) = false) : hasN l s a = false := by
  unfold hasN
  rw [h, Bool.false_and]
theorem has_at {o : Org} (h : GoodO o) (l : List Org) : hasN l o.sch ((⟨#[117, 64]⟩ : ByteArray) ++ o.host) = false := by
  have e : (⟨#[117, 64]⟩ : ByteArray) ++ o.host = BA ([117, 64] ++ bl o.host) := by
    rw [← bl_inj]
    simp only [bl_append, bl_BA]
    simp [bl]
  rw [e]
  refine has_not (bad_host (c := 64) (fun hm => ?_) (by simp) (by decide) (by decide) (by decide))
  rcases List.mem_append.1 hm with hm | hm
  · revert hm; decide
  · exact no58 h hm
theorem has_x {o : Org} (h : GoodO o) (l : List Org) (a : ByteArray) : hasN l ((⟨#[120]⟩ : ByteArray) ++ o.sch) a = false := by
  refine has_not ?_
  have hu : usualN ((⟨#[120]⟩ : ByteArray) ++ o.sch) = 0 := by rcases h.sch with e | e <;> rw [e] <;> decide
  unfold rightB
  rw [show usualN (speltO ((⟨#[120]⟩ : ByteArray) ++ o.sch) a).sch = 0 from hu]
  simp
theorem has_0 {o : Org} (h : GoodO o) (l : List Org) : hasN l o.sch (o.host ++ (⟨#[58, 48]⟩ : ByteArray)) = false := by
  have e : o.host ++ (⟨#[58, 48]⟩ : ByteArray) = BA (bl o.host ++ 58 :: [48]) := by
    rw [← bl_inj]
    simp only [bl_append, bl_BA]
    simp [bl]
  rw [e]
  exact has_not (bad_port (no58 h) (by decide))
theorem GoodO.okG {o : Org} (h : GoodO o) : OkG o := by
  have h2 := sch_size h.sch
  have h3 := h.len
  rw [bl_length] at h3
  refine ⟨?_, ?_⟩ <;> omega
theorem ofE_good {l : List Org} (h : ∀ x, x ∈ l → GoodO x) (hn : l.Nodup) (hl : l.length ≤ 16) : ofE l = 0 := by
  have ha : l.any (fun o => !rightB o) = false := by
    rw [List.any_eq_false]
    intro x hx
    rw [(h x hx).right]; decide
  unfold ofE
  rw [ha, if_neg Bool.false_ne_true, (dup_iff _).2 hn, if_neg Bool.false_ne_true, if_neg (by omega)]
set_option maxHeartbeats 16000000 in
theorem OriginHas_ok {B : Base} (hB : LibF B) (gs : List Org) (raw : Org) (hgl : gs.length ≤ 1048576) (hgs : ∀ x, x ∈ gs → x.sch.size ≤ 1048576 ∧ x.host.size ≤ 1048576) (hs : raw.sch.size ≤ 1048576) (hh : raw.host.size ≤ 1048576) (mask : Int) (named : Bool) : PFnB B Tryd.prog 6 [gsl gs, .agg (encG raw), .val (.int .u64 mask), vb named] (vb true) := by
  refine fnB_of Tryd.func6 rfl Tryd.ntmps6 Tryd.results6 rfl fun G hG => ?_
  refine aw_fact hG fun lb => ?_
  have hf := first_ok hB
  have hmade := made_ok raw hs hh
  repeat' ((fail_if_success (show AW _ (.region 4 _ _) _ _)); (first | (apply ar_call hmade; rfl; rfl; (focus ((repeat (first | exact Takes.nil | (apply Takes.cons; focus (repeat (first | exact Take.head | apply Take.tail | apply Take.right))))); done)); rfl; rintro _ _ ⟨rfl, o, ho, rfl⟩) | apply ar_nil | (apply ar_ev; (first | (apply ev_callF hf (by repeat (first | exact Take.head | apply Take.tail | apply Take.right)); rfl; rfl; exact Les.refl) | (apply ev_assign; rfl) | (apply ev_load_ptr_agg; rfl; (focus ((repeat (first | exact Take.head | apply Take.tail | apply Take.right)); done)); exact (by first | rfl | assumption | exact get_map (by assumption)); exact Nat.le_of_ble_eq_true rfl) | (apply ev_not; rfl)); rfl) | (apply ar_new; (first | apply eff_alloc | (apply eff_box; rfl; exact lies_of rfl) | (apply eff_conv_bytes; rfl; exact (by first | omega | assumption | (simp; done) | (simp; omega) | exact Nat.le_of_ble_eq_true rfl))); exact .nil; rfl; intro lab) | (apply ar_store; rfl; (focus ((repeat (first | exact Take.head | apply Take.tail | apply Take.right)); done)); rfl; rfl; exact (by first | rfl | assumption | exact get_map (by assumption)); rfl; rfl) | apply aw_seq | apply a_region | apply aw_skip | (apply aw_cond_f; rfl) | apply go_seq))
  generalize lab = la at *
  refine AW.sub (st' := ⟨[(0, gsl gs), (2, .val (.int .u64 mask)), (3, vb named), (9, .ptr la 0 0)], [(la, .row 23 3 [encG o]), (lb, B.tok)]⟩) (Sub.of (by repeat (first | exact .nil | refine .cons rfl Le.refl ?_)) (by repeat (first | exact Takes.nil | (apply Takes.cons; focus (repeat (first | exact Take.head | apply Take.tail | apply Take.right)))))) ?_
  clear hf hmade hs hh
  repeat' ((fail_if_success (show AW _ (.block 0 _) _ _)); (first | apply ar_nil | (apply ar_ev; (apply ev_assign; rfl); rfl) | apply aw_seq | apply a_region | apply go_seq))
  refine aw_adopt 11 23 3 rfl fun l0 => ?_
  refine aw_join (fun g : Nat × Bool × List Org => ⟨[(2, .val (.int .u64 mask)), (3, vb named), (9, .ptr la 0 0), (10, vb g.2.1), (11, .own g.1 0 g.2.2.length)], [(g.1, .row 23 3 (g.2.2.map encG)), (la, .row 23 3 [encG o]), (lb, B.tok)]⟩) (fun g => g.2.2.length ≤ 15 ∧ g.2.2.Nodup ∧ (∀ x, x ∈ g.2.2 → GoodO x) ∧ g.2.1 = decide (o ∈ g.2.2)) ?_ ?_
  · refine aw_block ?_
    refine a_loop (fun g : Nat × Nat × Nat × Bool × List Org => ⟨[(0, gsl gs), (2, .val (.int .u64 mask)), (3, vb named), (9, .ptr la 0 0), (10, vb g.2.2.2.1), (11, .own g.2.1 0 g.2.2.1), (12, vi g.1)], [(g.2.1, .row 23 3 (g.2.2.2.2.map encG)), (la, .row 23 3 [encG o]), (lb, B.tok)]⟩) (fun g => g.1 ≤ gs.length ∧ g.1 ≤ 15 ∧ g.2.2.1 = g.2.2.2.2.length ∧ g.2.2.2.2.length ≤ g.1 ∧ g.2.2.2.2.Nodup ∧ (∀ x, x ∈ g.2.2.2.2 → GoodO x) ∧ g.2.2.2.1 = decide (o ∈ g.2.2.2.2)) (fun g => gs.length - g.1) (0, l0, 0, false, []) (Sub.of (by repeat (first | exact .nil | refine .cons rfl Le.refl ?_)) (by repeat (first | exact Takes.nil | (apply Takes.cons; focus (repeat (first | exact Take.head | apply Take.tail | apply Take.right)))))) ⟨by omega, by omega, rfl, by simp, by simp, by simp, by simp⟩ ?_
    rintro ⟨i, l11, n11, b, l⟩ ⟨hi1, hi2, hn11, hi3, hnd, hgd, hb⟩
    dsimp only at hi1 hi2 hn11 hi3 hnd hgd hb ⊢
    subst hn11
    by_cases hk : i < gs.length ∧ i < 15
    · obtain ⟨x, hx⟩ : ∃ x, gs[i]? = some x := ⟨_, List.getElem?_eq_getElem (by omega)⟩
      have hx2 : (gs.map encG)[i]? = some (encG x) := by rw [List.getElem?_map, hx]; rfl
      have hxs := hgs x (List.mem_of_getElem? hx)
      have hmade := made_ok x hxs.1 hxs.2
      repeat' ((fail_if_success (show AW _ (.region 10 _ _) _ _)); (first | (apply ar_call hmade; rfl; rfl; (focus ((repeat (first | exact Takes.nil | (apply Takes.cons; focus (repeat (first | exact Take.head | apply Take.tail | apply Take.right))))); done)); rfl; rintro _ _ ⟨rfl, y, hy, rfl⟩) | apply ar_nil | (apply ar_splitp; (apply ev_move; rfl); rfl; all_goals (intro hc; try (exfalso; first | omega | contradiction | (simp at hc; omega) | (simp_all; done)))) | (apply ar_ev; (apply ev_move; rfl); rfl) | (apply ar_ev; (first | (apply ev_pick_t; rfl; rfl) | (apply ev_load_ip_agg; rfl; exact Nat.le_of_ble_eq_true rfl) | (apply ev_lss; rfl; rfl) | (apply ev_len_sl; rfl) | (apply ev_indexAddr_sl; rfl; rfl; exact (by first | omega | assumption); exact (by first | rfl | assumption | exact get_map (by assumption)))); rfl) | (apply ar_new; (first | apply eff_alloc | (apply eff_box; rfl; exact lies_of rfl) | (apply eff_conv_bytes; rfl; exact (by first | omega | assumption | (simp; done) | (simp; omega) | exact Nat.le_of_ble_eq_true rfl))); exact .nil; rfl; intro lab) | (apply ar_store; rfl; (focus ((repeat (first | exact Take.head | apply Take.tail | apply Take.right)); done)); rfl; rfl; exact (by first | rfl | assumption | exact get_map (by assumption)); rfl; rfl) | (apply ar_take; rfl; rfl; rfl; (apply ev_move; rfl); rfl) | (apply ar_take; rfl; rfl; rfl; (apply ev_lss; rfl; rfl); rfl) | apply aw_seq | apply a_region | apply aw_block | apply aw_skip | (apply aw_condp; rfl; all_goals (intro hc; try (exfalso; first | omega | contradiction | (simp at hc; omega) | (simp_all; done)))) | apply go_seq))
      generalize lab = ly at *
      clear hmade
      refine AW.sub (st' := ⟨[(0, gsl gs), (2, .val (.int .u64 mask)), (3, vb named), (9, .ptr la 0 0), (10, vb b), (11, .own l11 0 l.length), (12, vi i), (13, .ptr ly 0 0)], [(ly, .row 23 3 [encG y]), (l11, .row 23 3 (l.map encG)), (la, .row 23 3 [encG o]), (lb, B.tok)]⟩) (Sub.of (by repeat (first | exact .nil | refine .cons rfl Le.refl ?_)) (by repeat (first | exact Takes.nil | (apply Takes.cons; focus (repeat (first | exact Take.head | apply Take.tail | apply Take.right)))))) ?_
      repeat' ((fail_if_success (show AW _ (.block 2 _) _ _)); (first | apply ar_nil | (apply ar_ev; (apply ev_assign; rfl); rfl) | apply aw_seq | apply a_region | apply go_seq))
      refine aw_join (fun _ : Unit => ⟨[(0, gsl gs), (2, .val (.int .u64 mask)), (3, vb named), (9, .ptr la 0 0), (10, vb b), (11, .own l11 0 l.length), (12, vi i), (13, .ptr ly 0 0), (14, vb (decide (y ∈ l)))], [(ly, .row 23 3 [encG y]), (l11, .row 23 3 (l.map encG)), (la, .row 23 3 [encG o]), (lb, B.tok)]⟩) (fun _ => True) ?_ ?_
      · refine aw_block ?_
        refine a_loop (fun g : Nat × Bool => ⟨[(0, gsl gs), (2, .val (.int .u64 mask)), (3, vb named), (9, .ptr la 0 0), (10, vb b), (11, .own l11 0 l.length), (12, vi i), (13, .ptr ly 0 0), (14, vb g.2), (15, vi g.1)], [(ly, .row 23 3 [encG y]), (l11, .row 23 3 (l.map encG)), (la, .row 23 3 [encG o]), (lb, B.tok)]⟩) (fun g => g.1 ≤ l.length ∧ g.2 = decide (y ∈ l.take g.1)) (fun g => l.length - g.1) (0, false) (Sub.of (by repeat (first | exact .nil | refine .cons rfl Le.refl ?_)) (by repeat (first | exact Takes.nil | (apply Takes.cons; focus (repeat (first | exact Take.head | apply Take.tail | apply Take.right)))))) ⟨by omega, by simp⟩ ?_
        rintro ⟨j, c⟩ ⟨hj, hc0⟩
        dsimp only at hj hc0 ⊢
        have hlm : (l.map encG).length = l.length := by simp
        by_cases hjl : j < l.length
        · obtain ⟨z, hz⟩ : ∃ z, l[j]? = some z := ⟨_, List.getElem?_eq_getElem hjl⟩
          have hz2 : (l.map encG)[j]? = some (encG z) := by rw [List.getElem?_map, hz]; rfl
          have htk : decide (y ∈ l.take (j + 1)) = (c || decide (z = y)) := by
            rw [hc0, List.take_add_one, hz]
            simp [Bool.decide_or, eq_comm]
          cases c with
          | true =>
            repeat' (first | (refine a_draw 9 rfl ?_) | apply ar_nil | (apply ar_ev; (apply ev_move (y := .val (.bool true)); rfl); rfl) | (apply ar_ev; (apply ev_move; rfl); rfl) | (apply ar_ev; (first | (apply ev_assign; rfl) | (apply ev_pick_t; rfl; rfl) | (apply ev_lss; rfl; rfl) | (apply ev_inc; rfl; exact (by first | omega | assumption)) | (apply ev_len_own; rfl)); rfl) | (apply ar_skip; rfl; rfl; rfl; rfl; rfl) | apply aw_seq | apply a_region | apply aw_block | apply aw_skip | (apply aw_condp; rfl; all_goals (intro hc; try (exfalso; first | omega | contradiction | (simp at hc; omega) | (simp_all; done)))) | apply go_seq | apply go_block)
            all_goals exact go_loop_back ⟨(j + 1, true), ⟨by dsimp only; omega, by dsimp only; rw [htk]; rfl⟩, by dsimp only; omega, by dsimp only; exact Sub.of (by repeat (first | exact .nil | refine .cons rfl Le.refl ?_)) (by repeat (first | exact Takes.nil | (apply Takes.cons; focus (repeat (first | exact Take.head | apply Take.tail | apply Take.right)))))⟩
          | false =>
            rw [Bool.false_or] at htk
            repeat' (first | (refine a_draw 9 rfl ?_) | apply ar_nil | (apply ar_ev; (apply ev_move (y := .val (.bool false)); rfl); rfl) | (apply ar_ev; (apply ev_move; rfl); rfl) | (apply ar_ev; (first | (apply ev_assign; rfl) | (apply ev_pick_f; rfl; rfl) | (apply ev_lss; rfl; rfl) | (apply ev_inc; rfl; exact (by first | omega | assumption)) | (apply ev_len_own; rfl)); rfl) | (apply ar_take; rfl; rfl; rfl; (apply ev_move; rfl); rfl) | (apply ar_take; rfl; rfl; rfl; (first | (apply ev_eqO; rfl; rfl) | (apply ev_load_ptr_agg; rfl; (focus ((repeat (first | exact Take.head | apply Take.tail | apply Take.right)); done)); exact (by first | rfl | assumption | exact get_map (by assumption)); exact Nat.le_of_ble_eq_true rfl) | (apply ev_indexAddr_own0; rfl; rfl; exact (by first | omega | assumption); (focus ((repeat (first | exact Take.head | apply Take.tail | apply Take.right)); done)))); rfl) | apply aw_seq | apply a_region | apply aw_block | apply aw_skip | (apply aw_condp; rfl; all_goals (intro hc; try (exfalso; first | omega | contradiction | (simp at hc; omega) | (simp_all; done)))) | apply go_seq | apply go_block)
            all_goals exact go_loop_back ⟨(j + 1, decide (z = y)), ⟨by dsimp only; omega, htk.symm⟩, by dsimp only; omega, by dsimp only; exact Sub.of (by repeat (first | exact .nil | refine .cons rfl Le.refl ?_)) (by repeat (first | exact Takes.nil | (apply Takes.cons; focus (repeat (first | exact Take.head | apply Take.tail | apply Take.right)))))⟩
        · obtain rfl : j = l.length := by omega
          rw [List.take_of_length_le (Nat.le_refl _)] at hc0
          subst hc0
          repeat' (first | apply ar_nil | (apply ar_ev; (apply ev_move; rfl); rfl) | (apply ar_ev; (first | (apply ev_lss; rfl; rfl) | (apply ev_len_own; rfl)); rfl) | apply aw_seq | apply a_region | apply aw_exit | (apply aw_condp; rfl; all_goals (intro hc; try (exfalso; first | omega | contradiction | (simp at hc; omega) | (simp_all; done)))) | apply go_seq | apply go_seq_exit | apply go_block_exit | apply go_loop_exit)
          all_goals exact go_loop_back ⟨(), trivial, Sub.of (by repeat (first | exact .nil | refine .cons rfl Le.refl ?_)) (by repeat (first | exact Takes.nil | (apply Takes.cons; focus (repeat (first | exact Take.head | apply Take.tail | apply Take.right)))))⟩
      rintro - -
      by_cases hyl : y ∈ l
      · rw [decide_eq_true hyl]
        repeat' (first | apply ar_nil | (apply ar_ev; (apply ev_move (y := .val (.bool true)); rfl); rfl) | (apply ar_ev; (apply ev_move; rfl); rfl) | (apply ar_ev; (first | (apply ev_assign; rfl) | (apply ev_inc; rfl; exact (by first | omega | assumption)) | (apply ev_not; rfl)); rfl) | apply aw_seq | apply a_region | apply aw_skip | (apply aw_cond_f; rfl) | apply go_seq | apply go_block)
        all_goals exact go_loop_back ⟨(i + 1, l11, l.length, b, l), ⟨by dsimp only; omega, by dsimp only; omega, rfl, by dsimp only; omega, hnd, hgd, hb⟩, by dsimp only; omega, by dsimp only; exact Sub.of (by repeat (first | exact .nil | refine .cons rfl Le.refl ?_)) (by repeat (first | exact Takes.nil | (apply Takes.cons; focus (repeat (first | exact Take.head | apply Take.tail | apply Take.right)))))⟩
      · rw [decide_eq_false hyl]
        have hml : (l.map encG).length = l.length := by simp
        have hrow : List.take l.length (List.drop 0 (l.map encG)) ++ List.take 1 [encG y] = (l ++ [y]).map encG := by
          rw [List.drop_zero, List.take_of_length_le (Nat.le_of_eq hml)]; simp
        have hd : (b || decide (y = o)) = decide (o ∈ l ++ [y]) := by
          rw [hb]
          simp [Bool.decide_or, eq_comm]
        have hnd2 : (l ++ [y]).Nodup := List.nodup_append.2 ⟨hnd, by simp, fun a ha c hc => by rw [List.mem_singleton.1 hc]; rintro rfl; exact hyl ha⟩
        have hgd2 : ∀ x, x ∈ l ++ [y] → GoodO x := fun x hx => by
          rcases List.mem_append.1 hx with hx | hx
          · exact hgd x hx
          · rw [List.mem_singleton.1 hx]; exact hy
        clear hb
        cases b with
        | true =>
          repeat' (first | apply ar_nil | (apply ar_ev; (apply ev_move (y := .val (.bool true)); rfl); rfl) | (apply ar_ev; (apply ev_move (y := .val (.bool false)); rfl); rfl) | (apply ar_ev; (apply ev_move; rfl); rfl) | (apply ar_ev; (first | (apply ev_assign; rfl) | (apply ev_pick_t; rfl; rfl) | (apply ev_load_ptr_agg; rfl; (focus ((repeat (first | exact Take.head | apply Take.tail | apply Take.right)); done)); exact (by first | rfl | assumption | exact get_map (by assumption)); exact Nat.le_of_ble_eq_true rfl) | (apply ev_inc; rfl; exact (by first | omega | assumption)) | (apply ev_not; rfl) | (apply ev_buildSlice; rfl; rfl; rfl; rfl; rfl; rfl; rfl)); rfl) | (apply ar_skip; rfl; rfl; rfl; rfl; rfl) | apply aw_seq | apply a_region | (apply aw_cond_t; rfl) | apply go_seq | apply go_block | (apply ar_append; rfl; (focus ((repeat (first | exact Take.head | apply Take.tail | apply Take.right)); done)); rfl; exact (by first | omega | assumption | (simp; done) | (simp; omega) | exact Nat.le_of_ble_eq_true rfl); exact (by first | omega | assumption | (simp; done) | (simp; omega) | exact Nat.le_of_ble_eq_true rfl); exact (by first | omega | assumption | (simp; done) | (simp; omega) | exact Nat.le_of_ble_eq_true rfl); rfl; intro lab))
          all_goals exact go_loop_back ⟨(i + 1, _, l.length + 1, true, l ++ [y]), ⟨by dsimp only; omega, by dsimp only; omega, by simp, by simp; omega, hnd2, hgd2, hd⟩, by dsimp only; omega, by dsimp only; exact Sub.of (by repeat (first | exact .nil | refine .cons rfl Le.refl ?_)) (by repeat (first | exact Takes.nil | (apply Takes.cons; focus (repeat (first | exact Take.head | exact Take.rowc hrow Take.head | apply Take.tail | apply Take.right)))))⟩
        | false =>
          rw [Bool.false_or] at hd
          repeat' (first | apply ar_nil | (apply ar_ev; (apply ev_move (y := .val (.bool false)); rfl); rfl) | (apply ar_ev; (apply ev_move; rfl); rfl) | (apply ar_ev; (first | (apply ev_assign; rfl) | (apply ev_pick_f; rfl; rfl) | (apply ev_load_ptr_agg; rfl; (focus ((repeat (first | exact Take.head | apply Take.tail | apply Take.right)); done)); exact (by first | rfl | assumption | exact get_map (by assumption)); exact Nat.le_of_ble_eq_true rfl) | (apply ev_inc; rfl; exact (by first | omega | assumption)) | (apply ev_not; rfl) | (apply ev_buildSlice; rfl; rfl; rfl; rfl; rfl; rfl; rfl)); rfl) | (apply ar_take; rfl; rfl; rfl; (first | (apply ev_eqO; rfl; rfl) | (apply ev_load_ptr_agg; rfl; (focus ((repeat (first | exact Take.head | apply Take.tail | apply Take.right)); done)); exact (by first | rfl | assumption | exact get_map (by assumption)); exact Nat.le_of_ble_eq_true rfl)); rfl) | apply aw_seq | apply a_region | (apply aw_cond_t; rfl) | apply go_seq | apply go_block | (apply ar_append; rfl; (focus ((repeat (first | exact Take.head | apply Take.tail | apply Take.right)); done)); rfl; exact (by first | omega | assumption | (simp; done) | (simp; omega) | exact Nat.le_of_ble_eq_true rfl); exact (by first | omega | assumption | (simp; done) | (simp; omega) | exact Nat.le_of_ble_eq_true rfl); exact (by first | omega | assumption | (simp; done) | (simp; omega) | exact Nat.le_of_ble_eq_true rfl); rfl; intro lab))
          all_goals exact go_loop_back ⟨(i + 1, _, l.length + 1, decide (y = o), l ++ [y]), ⟨by dsimp only; omega, by dsimp only; omega, by simp, by simp; omega, hnd2, hgd2, hd⟩, by dsimp only; omega, by dsimp only; exact Sub.of (by repeat (first | exact .nil | refine .cons rfl Le.refl ?_)) (by repeat (first | exact Takes.nil | (apply Takes.cons; focus (repeat (first | exact Take.head | exact Take.rowc hrow Take.head | apply Take.tail | apply Take.right)))))⟩
    · repeat' (first | apply ar_nil | (apply ar_splitp; (apply ev_move; rfl); rfl; all_goals (intro hc; try (exfalso; first | omega | contradiction | (simp at hc; omega) | (simp_all; done)))) | (apply ar_ev; (apply ev_move; rfl); rfl) | (apply ar_ev; (first | (apply ev_pick_t; rfl; rfl) | (apply ev_pick_f; rfl; rfl) | (apply ev_lss; rfl; rfl) | (apply ev_len_sl; rfl)); rfl) | (apply ar_skip; rfl; rfl; rfl; rfl; rfl) | (apply ar_take; rfl; rfl; rfl; (apply ev_move; rfl); rfl) | (apply ar_take; rfl; rfl; rfl; (apply ev_lss; rfl; rfl); rfl) | apply aw_seq | apply a_region | apply aw_exit | (apply aw_condp; rfl; all_goals (intro hc; try (exfalso; first | omega | contradiction | (simp at hc; omega) | (simp_all; done)))) | (apply aw_cond_f; rfl) | apply go_seq | apply go_seq_exit | apply go_block_exit | apply go_loop_exit)
      all_goals exact go_loop_back ⟨(l11, b, l), ⟨by dsimp only; omega, hnd, hgd, hb⟩, by dsimp only; exact Sub.of (by repeat (first | exact .nil | refine .cons rfl Le.refl ?_)) (by repeat (first | exact Takes.nil | (apply Takes.cons; focus (repeat (first | exact Take.head | apply Take.tail | apply Take.right)))))⟩
  rintro ⟨l11, b, l⟩ ⟨hll, hnd, hgd, hb⟩
  dsimp only at hll hnd hgd hb ⊢
  have e1 := ofE_good hgd hnd (by omega)
  have of1 := Of_ok l (by omega) (fun x hx => (hgd x hx).okG)
  have hcv : ∀ ts r, Take ts l11 (.row 23 3 (l.map encG)) r → Cv ts (.own l11 0 l.length) (gsl l) := fun ts r ht => Cv.own0 (n := l.length) ht (by simp)
  have hml : (l.map encG).length = l.length := by simp
  have z11 := spN_size ho mask named
  have hs1 := spelt15_ok o ho mask named
  have hh1 := Has_ok hB l o.sch (spN o mask named) (by omega)
  rw [has_sp ho, ← hb] at hh1
  generalize spN o mask named = sp1 at *
  repeat' (first | (apply ar_ev; (apply ev_move; rfl); rfl) | apply aw_seq | apply a_region)
  apply ar_callL of1; rfl; rfl; exact .nil; exact Cvs.cons (hcv _ _ (by repeat (first | exact Take.head | apply Take.tail | apply Take.right))) .nil; (rintro _ _ (⟨-, rfl, rfl⟩ | ⟨-, ls, ll, lm, rfl, rfl⟩); exact ⟨free_tup2 _ _ (.val _) (.val _), by simp⟩; exact ⟨free_tup2 _ _ (.ptr _ _ _) (.val _), free_set _ _ _ _⟩); rfl; rintro _ _ (⟨hne, rfl, rfl⟩ | ⟨he0, ls, ll, lm, rfl, rfl⟩)
  · exact absurd e1 hne
  repeat' ((fail_if_success (show AW _ (.region 19 _ _) _ _)); (first | apply ar_nil | (apply ar_ev; (apply ev_move; rfl); rfl) | (apply ar_ev; (first | (apply ev_assign; rfl) | (apply ev_extract; rfl; rfl)); rfl) | apply aw_seq | apply go_seq))
  refine aw_cv 16 (us := setT ls ll lm l) (y := setI l) rfl takes_blk (cv_set .head (.tail .head) (.tail (.tail .head))) ?_
  have hbb : (b != b) = false := by simp
  repeat' ((fail_if_success (show AW _ (.region 21 _ _) _ _)); (first | apply ar_nil | (apply ar_ev; (apply ev_move (y := .val (.bool false)); rfl); rfl) | (apply ar_ev; (apply ev_move; rfl); rfl) | (apply ar_ev; (first | (apply ev_pick_f; rfl; rfl) | (apply ev_eqnil_p; rfl; rfl)); rfl) | (apply ar_take; rfl; rfl; rfl; (apply ev_move; rfl); rfl) | (apply ar_take; rfl; rfl; rfl; (first | exact ev_call rfl rfl hs1 | (apply ev_callF hh1 (by repeat (first | exact Take.head | apply Take.tail | apply Take.right)); rfl; rfl; exact Les.refl) | (apply ev_load_ptr_one; rfl; (focus ((repeat (first | exact Take.head | apply Take.tail | apply Take.right)); done)); exact (by first | rfl | assumption | exact get_map (by assumption)); rfl) | (apply ev_fieldAddr_ptr; rfl) | (apply ev_load_ptr_agg; rfl; (focus ((repeat (first | exact Take.head | apply Take.tail | apply Take.right)); done)); exact (by first | rfl | assumption | exact get_map (by assumption)); exact Nat.le_of_ble_eq_true rfl) | (apply ev_neip; rfl; rfl) | (apply ev_neb; rfl; rfl)); rfl) | apply aw_seq | apply aw_skip | (apply aw_condb; rfl; all_goals (intro hc; try (exfalso; first | omega | contradiction | (simp at hc; omega) | (simp_all; done)))) | apply go_seq | (first | (apply a_drawN 2; rfl; rfl) | (apply a_drawN 3; rfl; rfl) | (apply a_drawN 4; rfl; rfl) | (apply a_drawN 5; rfl; rfl) | (apply a_drawN 6; rfl; rfl) | (apply a_drawN 7; rfl; rfl) | (apply a_drawN 8; rfl; rfl) | (apply a_drawN 9; rfl; rfl) | (apply a_drawN 10; rfl; rfl) | (apply a_drawN 11; rfl; rfl) | (apply a_drawN 12; rfl; rfl) | (apply a_drawN 13; rfl; rfl) | (apply a_drawN 14; rfl; rfl) | (apply a_drawN 15; rfl; rfl) | (apply a_drawN 16; rfl; rfl) | (apply a_drawN 17; rfl; rfl) | (apply a_drawN 18; rfl; rfl) | (apply a_drawN 19; rfl; rfl) | (apply a_drawN 20; rfl; rfl) | (apply a_drawN 21; rfl; rfl) | (apply a_drawN 22; rfl; rfl) | (apply a_drawN 23; rfl; rfl) | (apply a_drawN 24; rfl; rfl) | (apply a_drawN 25; rfl; rfl) | (apply a_drawN 26; rfl; rfl) | (apply a_drawN 27; rfl; rfl) | (apply a_drawN 28; rfl; rfl) | (apply a_drawN 29; rfl; rfl) | (apply a_drawN 30; rfl; rfl) | (apply a_drawN 31; rfl; rfl) | (apply a_drawN 32; rfl; rfl) | (apply a_drawN 33; rfl; rfl) | (apply a_drawN 34; rfl; rfl) | (apply a_drawN 35; rfl; rfl) | (apply a_drawN 36; rfl; rfl) | (apply a_drawN 37; rfl; rfl) | (apply a_drawN 38; rfl; rfl) | (apply a_drawN 39; rfl; rfl) | (apply a_drawN 40; rfl; rfl) | (apply a_drawN 41; rfl; rfl) | (apply a_drawN 42; rfl; rfl) | (apply a_drawN 43; rfl; rfl) | (apply a_drawN 44; rfl; rfl) | (apply a_drawN 45; rfl; rfl))))
  clear of1 hs1 hh1 hbb e1
  refine AW.sub (st' := ⟨[(2, .val (.int .u64 mask)), (3, vb named), (9, .ptr la 0 0), (10, vb b), (11, .own l11 0 l.length), (16, setI l)], [(l11, .row 23 3 (l.map encG)), (la, .row 23 3 [encG o]), (lb, B.tok)]⟩) (Sub.of (by repeat (first | exact .nil | refine .cons rfl Le.refl ?_)) (by repeat (first | exact Takes.nil | (apply Takes.cons; focus (repeat (first | exact Take.head | apply Take.tail | apply Take.right)))))) ?_
  repeat' ((fail_if_success (show AW _ (.block 4 _) _ _)); (first | apply ar_nil | (apply ar_ev; (apply ev_assign; rfl); rfl) | apply a_region | apply go_seq))
  refine aw_join (fun _ : Unit => ⟨[(2, .val (.int .u64 mask)), (3, vb named), (9, .ptr la 0 0), (10, vb b), (11, .own l11 0 l.length), (16, setI l)], [(l11, .row 23 3 (l.map encG)), (la, .row 23 3 [encG o]), (lb, B.tok)]⟩) (fun _ => True) ?_ ?_
  · refine aw_block ?_
    refine a_loop (fun i : Nat => ⟨[(2, .val (.int .u64 mask)), (3, vb named), (9, .ptr la 0 0), (10, vb b), (11, .own l11 0 l.length), (16, setI l), (18, vi i)], [(l11, .row 23 3 (l.map encG)), (la, .row 23 3 [encG o]), (lb, B.tok)]⟩) (fun i => i ≤ l.length) (fun i => l.length - i) 0 (Sub.of (by repeat (first | exact .nil | refine .cons rfl Le.refl ?_)) (by repeat (first | exact Takes.nil | (apply Takes.cons; focus (repeat (first | exact Take.head | apply Take.tail | apply Take.right)))))) (Nat.zero_le _) ?_
    intro i hi
    by_cases hil : i < l.length
    · obtain ⟨x, hx⟩ : ∃ x, l[i]? = some x := ⟨_, List.getElem?_eq_getElem hil⟩
      have hx2 : (l.map encG)[i]? = some (encG x) := by rw [List.getElem?_map, hx]; rfl
      have hxm := List.mem_of_getElem? hx
      have hxg := hgd x hxm
      have w1 := spN_size hxg mask named
      have w2 := spN_size hxg 0 true
      have w3 := hxg.okG
      have w4 := sch_size hxg.sch
      have w5 := hxg.len
      have w6 := bl_length x.host
      have w7 : ((⟨#[117, 64]⟩ : ByteArray) ++ x.host).size = 2 + x.host.size := by rw [ByteArray.size_append]; rfl
      have w8 : (x.host ++ (⟨#[58, 48]⟩ : ByteArray)).size = x.host.size + 2 := by rw [ByteArray.size_append]; rfl
      have w9 : ((⟨#[120]⟩ : ByteArray) ++ x.sch).size = 1 + x.sch.size := by rw [ByteArray.size_append]; rfl
      have w10 : (⟨#[117, 64]⟩ : ByteArray).size = 2 := rfl
      have w11 : (⟨#[58, 48]⟩ : ByteArray).size = 2 := rfl
      have w12 : (⟨#[120]⟩ : ByteArray).size = 1 := rfl
      have hs1 := spelt15_ok x hxg mask named
      have hs2 := spelt15_ok x hxg 0 true
      have hh1 := Has_ok hB l x.sch (spN x mask named) (by omega)
      have hh2 := Has_ok hB l x.sch ((⟨#[117, 64]⟩ : ByteArray) ++ x.host) (by omega)
      have hh3 := Has_ok hB l ((⟨#[120]⟩ : ByteArray) ++ x.sch) (spN x 0 true) (by omega)
      have hh4 := Has_ok hB l x.sch (x.host ++ (⟨#[58, 48]⟩ : ByteArray)) (by omega)
      rw [has_sp hxg, decide_eq_true hxm] at hh1
      rw [has_at hxg] at hh2
      rw [has_x hxg] at hh3
      rw [has_0 hxg] at hh4
      generalize spN x mask named = sp1 at *
      generalize spN x 0 true = sp2 at *
      repeat' ((fail_if_success (show AW _ (.region 25 _ _) _ _)); (first | apply ar_nil | (apply ar_ev; (apply ev_move; rfl); rfl) | (apply ar_ev; (first | (apply ev_load_ptr_agg; rfl; (focus ((repeat (first | exact Take.head | apply Take.tail | apply Take.right)); done)); exact (by first | rfl | assumption | exact get_map (by assumption)); exact Nat.le_of_ble_eq_true rfl) | (apply ev_lss; rfl; rfl) | (apply ev_len_own; rfl) | (apply ev_indexAddr_own0; rfl; rfl; exact (by first | omega | assumption); (focus ((repeat (first | exact Take.head | apply Take.tail | apply Take.right)); done)))); rfl) | (apply ar_new; (first | apply eff_alloc | (apply eff_box; rfl; exact lies_of rfl) | (apply eff_conv_bytes; rfl; exact (by first | omega | assumption | (simp; done) | (simp; omega) | exact Nat.le_of_ble_eq_true rfl))); exact .nil; rfl; intro lab) | (apply ar_store; rfl; (focus ((repeat (first | exact Take.head | apply Take.tail | apply Take.right)); done)); rfl; rfl; exact (by first | rfl | assumption | exact get_map (by assumption)); rfl; rfl) | apply aw_seq | apply a_region | apply aw_block | apply aw_skip | (apply aw_condp; rfl; all_goals (intro hc; try (exfalso; first | omega | contradiction | (simp at hc; omega) | (simp_all; done)))) | apply go_seq))
      clear hgd hnd hx hB
      repeat' (first | apply ar_nil | (apply ar_ev; (apply ev_move (y := .val (.bool false)); rfl); rfl) | (apply ar_ev; (apply ev_move; rfl); rfl) | (apply ar_ev; (first | exact ev_call rfl rfl hs1 | (apply ev_callF hh1 (by repeat (first | exact Take.head | apply Take.tail | apply Take.right)); rfl; rfl; exact Les.refl) | (apply ev_load_ptr_one; rfl; (focus ((repeat (first | exact Take.head | apply Take.tail | apply Take.right)); done)); exact (by first | rfl | assumption | exact get_map (by assumption)); rfl) | (apply ev_fieldAddr_ptr; rfl) | (apply ev_assign; rfl) | (apply ev_pick_f; rfl; rfl) | (apply ev_load_ptr_agg; rfl; (focus ((repeat (first | exact Take.head | apply Take.tail | apply Take.right)); done)); exact (by first | rfl | assumption | exact get_map (by assumption)); exact Nat.le_of_ble_eq_true rfl) | (apply ev_inc; rfl; exact (by first | omega | assumption)) | (apply ev_not; rfl)); rfl) | (apply ar_take; rfl; rfl; rfl; (apply ev_move; rfl); rfl) | (apply ar_take; rfl; rfl; rfl; (first | exact ev_call rfl rfl hs2 | (apply ev_callF hh2 (by repeat (first | exact Take.head | apply Take.tail | apply Take.right)); rfl; rfl; exact Les.refl) | (apply ev_callF hh3 (by repeat (first | exact Take.head | apply Take.tail | apply Take.right)); rfl; rfl; exact Les.refl) | (apply ev_callF hh4 (by repeat (first | exact Take.head | apply Take.tail | apply Take.right)); rfl; rfl; exact Les.refl) | (apply ev_cat; rfl; rfl; omega) | (apply ev_load_ptr_one; rfl; (focus ((repeat (first | exact Take.head | apply Take.tail | apply Take.right)); done)); exact (by first | rfl | assumption | exact get_map (by assumption)); rfl) | (apply ev_fieldAddr_ptr; rfl) | (apply ev_load_ptr_agg; rfl; (focus ((repeat (first | exact Take.head | apply Take.tail | apply Take.right)); done)); exact (by first | rfl | assumption | exact get_map (by assumption)); exact Nat.le_of_ble_eq_true rfl)); rfl) | apply a_region | apply aw_skip | (apply aw_cond_f; rfl) | apply go_seq | apply go_block | (first | (apply a_drawN 2; rfl; rfl) | (apply a_drawN 3; rfl; rfl) | (apply a_drawN 4; rfl; rfl) | (apply a_drawN 5; rfl; rfl) | (apply a_drawN 6; rfl; rfl) | (apply a_drawN 7; rfl; rfl) | (apply a_drawN 8; rfl; rfl) | (apply a_drawN 9; rfl; rfl) | (apply a_drawN 10; rfl; rfl) | (apply a_drawN 11; rfl; rfl) | (apply a_drawN 12; rfl; rfl) | (apply a_drawN 13; rfl; rfl) | (apply a_drawN 14; rfl; rfl) | (apply a_drawN 15; rfl; rfl) | (apply a_drawN 16; rfl; rfl) | (apply a_drawN 17; rfl; rfl) | (apply a_drawN 18; rfl; rfl) | (apply a_drawN 19; rfl; rfl) | (apply a_drawN 20; rfl; rfl) | (apply a_drawN 21; rfl; rfl) | (apply a_drawN 22; rfl; rfl) | (apply a_drawN 23; rfl; rfl) | (apply a_drawN 24; rfl; rfl) | (apply a_drawN 25; rfl; rfl) | (apply a_drawN 26; rfl; rfl) | (apply a_drawN 27; rfl; rfl) | (apply a_drawN 28; rfl; rfl) | (apply a_drawN 29; rfl; rfl) | (apply a_drawN 30; rfl; rfl) | (apply a_drawN 31; rfl; rfl) | (apply a_drawN 32; rfl; rfl) | (apply a_drawN 33; rfl; rfl) | (apply a_drawN 34; rfl; rfl) | (apply a_drawN 35; rfl; rfl) | (apply a_drawN 36; rfl; rfl) | (apply a_drawN 37; rfl; rfl) | (apply a_drawN 38; rfl; rfl) | (apply a_drawN 39; rfl; rfl) | (apply a_drawN 40; rfl; rfl) | (apply a_drawN 41; rfl; rfl) | (apply a_drawN 42; rfl; rfl) | (apply a_drawN 43; rfl; rfl) | (apply a_drawN 44; rfl; rfl) | (apply a_drawN 45; rfl; rfl)))
      all_goals (apply go_loop_back; refine ⟨i + 1, by first | omega | (dsimp only; omega), by first | omega | (dsimp only; omega), ?_⟩; exact Sub.of (by repeat (first | exact .nil | refine .cons rfl Le.refl ?_)) (by repeat (first | exact Takes.nil | (apply Takes.cons; focus (repeat (first | exact Take.head | apply Take.tail | apply Take.right))))))
    · repeat' (first | apply ar_nil | (apply ar_ev; (apply ev_move; rfl); rfl) | (apply ar_ev; (first | (apply ev_lss; rfl; rfl) | (apply ev_len_own; rfl)); rfl) | apply aw_seq | apply a_region | apply aw_exit | (apply aw_condp; rfl; all_goals (intro hc; try (exfalso; first | omega | contradiction | (simp at hc; omega) | (simp_all; done)))) | apply go_seq | apply go_seq_exit | apply go_block_exit | apply go_loop_exit)
      all_goals exact go_loop_back ⟨(), trivial, Sub.of (by repeat (first | exact .nil | refine .cons rfl Le.refl ?_)) (by repeat (first | exact Takes.nil | (apply Takes.cons; focus (repeat (first | exact Take.head | apply Take.tail | apply Take.right)))))⟩
  rintro - -
  cases b with
  | true =>
    repeat' (first | apply ar_nil | (apply ar_ev; (apply ev_move (y := .val (.bool true)); rfl); rfl) | (apply ar_ev; (apply ev_assign; rfl); rfl) | apply aw_seq | apply a_region | apply aw_ret | (apply aw_cond_t; rfl) | apply go_seq | apply go_seq_ret)
    all_goals exact g_ret1 (r_tmp rfl) .nil ⟨rfl, rfl⟩
  | false =>
    have hno : ¬ o ∈ l := by simpa using hb.symm
    have hrow : List.take l.length (List.drop 0 (l.map encG)) ++ List.take 1 [encG o] = (l ++ [o]).map encG := by
      rw [List.drop_zero, List.take_of_length_le (Nat.le_of_eq hml)]; simp
    have hnd2 : (l ++ [o]).Nodup := List.nodup_append.2 ⟨hnd, by simp, fun a ha c hc => by rw [List.mem_singleton.1 hc]; rintro rfl; exact hno ha⟩
    have hgd2 : ∀ x, x ∈ l ++ [o] → GoodO x := fun x hx => by
      rcases List.mem_append.1 hx with hx | hx
      · exact hgd x hx
      · rw [List.mem_singleton.1 hx]; exact ho
    have hl2 : (l ++ [o]).length = l.length + 1 := by simp
    have e1 := ofE_good hgd2 hnd2 (by omega)
    have of2 := Of_ok (l ++ [o]) (by omega) (fun x hx => (hgd2 x hx).okG)
    have hcv2 : ∀ ts r lr xs, xs = (l ++ [o]).map encG → Take ts lr (.row 23 3 xs) r → Cv ts (.own lr 0 (l.length + 1)) (gsl (l ++ [o])) := fun ts r lr xs he ht => by subst he; rw [← hl2]; exact Cv.own0 ht (by simp)
    have z1 := spN_size ho mask named
    have z2 := spN_size ho 0 true
    have hs1 := spelt15_ok o ho mask named
    have hs2 := spelt15_ok o ho 0 true
    have hh1 := Has_ok hB (l ++ [o]) o.sch (spN o mask named) (by omega)
    have hh2 := Has_ok hB l o.sch (spN o 0 true) (by omega)
    rw [has_sp ho, decide_eq_true (by simp : o ∈ l ++ [o])] at hh1
    rw [has_sp ho, decide_eq_false hno] at hh2
    generalize spN o mask named = sp1 at *
    generalize spN o 0 true = sp2 at *
    clear hb hc hgd hgd2 hnd hnd2
    repeat' (first | apply ar_nil | (apply ar_ev; (apply ev_move (y := .val (.bool false)); rfl); rfl) | (apply ar_ev; (apply ev_move; rfl); rfl) | (apply ar_ev; (first | (apply ev_load_ptr_agg; rfl; (focus ((repeat (first | exact Take.head | apply Take.tail | apply Take.right)); done)); exact (by first | rfl | assumption | exact get_map (by assumption)); exact Nat.le_of_ble_eq_true rfl) | (apply ev_buildSlice; rfl; rfl; rfl; rfl; rfl; rfl; rfl)); rfl) | apply aw_seq | apply a_region | apply aw_skip | (apply aw_cond_f; rfl) | apply go_seq | (apply ar_append; rfl; (focus ((repeat (first | exact Take.head | apply Take.tail | apply Take.right)); done)); rfl; exact (by first | omega | assumption | (simp; done) | (simp; omega) | exact Nat.le_of_ble_eq_true rfl); exact (by first | omega | assumption | (simp; done) | (simp; omega) | exact Nat.le_of_ble_eq_true rfl); exact (by first | omega | assumption | (simp; done) | (simp; omega) | exact Nat.le_of_ble_eq_true rfl); rfl; intro lab))
    apply ar_callL of2; rfl; rfl; exact .nil; exact Cvs.cons (hcv2 _ _ _ _ hrow (by repeat (first | exact Take.head | apply Take.tail | apply Take.right))) .nil; (rintro _ _ (⟨-, rfl, rfl⟩ | ⟨-, ls, ll, lm, rfl, rfl⟩); exact ⟨free_tup2 _ _ (.val _) (.val _), by simp⟩; exact ⟨free_tup2 _ _ (.ptr _ _ _) (.val _), free_set _ _ _ _⟩); rfl; rintro _ _ (⟨hne, rfl, rfl⟩ | ⟨he2, ls2, ll2, lm2, rfl, rfl⟩)
    · exact absurd e1 hne
    repeat' ((fail_if_success (show AW _ (.region 30 _ _) _ _)); (first | apply ar_nil | (apply ar_ev; (apply ev_move; rfl); rfl) | (apply ar_ev; (first | (apply ev_assign; rfl) | (apply ev_extract; rfl; rfl)); rfl) | apply aw_seq | apply go_seq))
    refine aw_cv 20 (us := setT ls2 ll2 lm2 (l ++ [o])) (y := setI (l ++ [o])) rfl takes_blk (cv_set .head (.tail .head) (.tail (.tail .head))) ?_
    repeat' (first | apply ar_nil | (apply ar_ev; (apply ev_move (y := .val (.bool true)); rfl); rfl) | (apply ar_ev; (apply ev_move; rfl); rfl) | (apply ar_ev; (first | (apply ev_assign; rfl) | (apply ev_pick_t; rfl; rfl) | (apply ev_nenil_p; rfl; rfl)); rfl) | (apply ar_take; rfl; rfl; rfl; (apply ev_move; rfl); rfl) | (apply ar_take; rfl; rfl; rfl; (first | exact ev_call rfl rfl hs1 | exact ev_call rfl rfl hs2 | (apply ev_callF hh1 (by repeat (first | exact Take.head | apply Take.tail | apply Take.right)); rfl; rfl; exact Les.refl) | (apply ev_callF hh2 (by repeat (first | exact Take.head | apply Take.tail | apply Take.right)); rfl; rfl; exact Les.refl) | (apply ev_load_ptr_one; rfl; (focus ((repeat (first | exact Take.head | apply Take.tail | apply Take.right)); done)); exact (by first | rfl | assumption | exact get_map (by assumption)); rfl) | (apply ev_fieldAddr_ptr; rfl) | (apply ev_load_ptr_agg; rfl; (focus ((repeat (first | exact Take.head | apply Take.tail | apply Take.right)); done)); exact (by first | rfl | assumption | exact get_map (by assumption)); exact Nat.le_of_ble_eq_true rfl) | (apply ev_eqip; rfl; rfl) | (apply ev_not; rfl)); rfl) | apply aw_ret | apply go_seq | (first | (apply a_drawN 2; rfl; rfl) | (apply a_drawN 3; rfl; rfl) | (apply a_drawN 4; rfl; rfl) | (apply a_drawN 5; rfl; rfl) | (apply a_drawN 6; rfl; rfl) | (apply a_drawN 7; rfl; rfl) | (apply a_drawN 8; rfl; rfl) | (apply a_drawN 9; rfl; rfl) | (apply a_drawN 10; rfl; rfl) | (apply a_drawN 11; rfl; rfl) | (apply a_drawN 12; rfl; rfl) | (apply a_drawN 13; rfl; rfl) | (apply a_drawN 14; rfl; rfl) | (apply a_drawN 15; rfl; rfl) | (apply a_drawN 16; rfl; rfl) | (apply a_drawN 17; rfl; rfl) | (apply a_drawN 18; rfl; rfl) | (apply a_drawN 19; rfl; rfl) | (apply a_drawN 20; rfl; rfl) | (apply a_drawN 21; rfl; rfl) | (apply a_drawN 22; rfl; rfl) | (apply a_drawN 23; rfl; rfl) | (apply a_drawN 24; rfl; rfl) | (apply a_drawN 25; rfl; rfl) | (apply a_drawN 26; rfl; rfl) | (apply a_drawN 27; rfl; rfl) | (apply a_drawN 28; rfl; rfl) | (apply a_drawN 29; rfl; rfl) | (apply a_drawN 30; rfl; rfl) | (apply a_drawN 31; rfl; rfl) | (apply a_drawN 32; rfl; rfl) | (apply a_drawN 33; rfl; rfl) | (apply a_drawN 34; rfl; rfl) | (apply a_drawN 35; rfl; rfl) | (apply a_drawN 36; rfl; rfl) | (apply a_drawN 37; rfl; rfl) | (apply a_drawN 38; rfl; rfl) | (apply a_drawN 39; rfl; rfl) | (apply a_drawN 40; rfl; rfl) | (apply a_drawN 41; rfl; rfl) | (apply a_drawN 42; rfl; rfl) | (apply a_drawN 43; rfl; rfl) | (apply a_drawN 44; rfl; rfl) | (apply a_drawN 45; rfl; rfl)))
    all_goals exact g_ret1 (r_tmp rfl) .nil ⟨rfl, rfl⟩
end Go.Proofs.YtjdcljggbbeikaaDoor
