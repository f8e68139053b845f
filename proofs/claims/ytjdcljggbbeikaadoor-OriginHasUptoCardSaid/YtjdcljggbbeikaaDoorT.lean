import Derived.Test.YtjdcljggbbeikaaDoorS
set_option linter.unusedVariables false
set_option linter.unusedSimpArgs false
set_option maxRecDepth 100000
namespace Go.Proofs.YtjdcljggbbeikaaDoor
open Go.Proofs Go.Proofs.YtjdcljggbbeikaaDoorA

def nmB (o : Org) (named : Bool) : Bool := named || decide (o.port ≠ usualN o.sch)
def spN (o : Org) (mask : Int) (named : Bool) : ByteArray := BA (authT (upM mask (bl o.host)) (nmB o named) o.port.toNat)
set_option maxHeartbeats 8000000 in
theorem spelt15_ok (o : Org) (ho : GoodO o) (mask : Int) (named : Bool) : PFn Tryd.prog 15 [.agg (encG o), .val (.int .u64 mask), vb named] (vs (spN o mask named)) := by
  refine fn_of Tryd.func15 rfl Tryd.ntmps15 Tryd.results15 rfl fun G => ?_
  have hl := bl_length o.host
  have hlen := ho.len
  have hp := ho.port
  have hsch := ho.sch
  unfold spN authT nmB
  obtain ⟨sch, host, port⟩ := o
  dsimp only at *
  obtain ⟨pn, rfl⟩ : ∃ pn : Nat, port = pn := ⟨port.toNat, by omega⟩
  clear ho
  generalize hu : upM mask (bl host) = u
  have hul : u.length = host.size := by rw [← hu, upM_len, hl]
  have hrow : ∀ (l : List UInt8) (x : UInt8), List.take l.length (List.drop 0 (u8cells l)) ++ List.take 1 [[v8 x]] = u8cells (l ++ [x]) := fun l x => by
    rw [u8_append, List.drop_zero, List.take_of_length_le (Nat.le_of_eq (u8_len l))]; rfl
  repeat' ((fail_if_success (show AW _ (.region 2 _ _) _ _)); (first | apply ar_nil | (apply ar_ev; (apply ev_assign; rfl); rfl) | (apply ar_new; (first | apply eff_alloc | (apply eff_box; rfl; exact lies_of rfl) | (apply eff_conv_bytes; rfl; exact (by first | omega | assumption | (simp; done) | (simp; omega) | exact Nat.le_of_ble_eq_true rfl))); exact .nil; rfl; intro lab) | apply aw_seq | apply a_region | apply go_seq))
  generalize lab = la at *
  refine aw_adopt 7 5 1 rfl fun l0 => ?_
  refine aw_join3 (fun l7 : Nat => ⟨[(3, .ptr la 0 0), (2, vb named), (7, .own l7 0 u.length)], [(l7, .row 5 1 (u8cells u)), (la, .row 23 3 [[vs sch, vs host, vi pn]])]⟩) (fun _ => True) ?_ ?_
  · repeat' ((fail_if_success (show AW _ (.block 0 _) _ _)); (first | apply ar_nil | (apply ar_ev; (apply ev_assign; rfl); rfl) | apply a_region | apply go_seq))
    refine aw_block ?_
    refine a_loop (fun g : Nat × Nat => ⟨[(1, .val (.int .u64 mask)), (2, vb named), (3, .ptr la 0 0), (7, .own g.2 0 g.1), (8, vi g.1)], [(g.2, .row 5 1 (u8cells (upM mask ((bl host).take g.1)))), (la, .row 23 3 [[vs sch, vs host, vi pn]])]⟩) (fun g => g.1 ≤ host.size) (fun g => host.size - g.1) (0, l0) (Sub.of (by repeat (first | exact .nil | refine .cons rfl Le.refl ?_)) (by repeat (first | exact Takes.nil | (apply Takes.cons; focus (repeat (first | exact Take.head | apply Take.tail | apply Take.right)))))) (Nat.zero_le _) ?_
    rintro ⟨i, l7⟩ hi
    dsimp only at hi ⊢
    by_cases hk : i < host.size
    · obtain ⟨c, hce⟩ : ∃ c, (bl host)[i]? = some c := ⟨_, List.getElem?_eq_getElem (by omega)⟩
      have ht : ((i : Nat) : Int).tmod 60 = ((i % 60 : Nat) : Int) := tmodn i 60 (by decide)
      have hw : IntKind.u64.wrap ((i : Nat) : Int) = (i : Nat) := by
        unfold IntKind.wrap
        simp [IntKind.signed, IntKind.bits]
        omega
      have hcl := c.toNat_lt
      have hsn := upM_snoc mask hce
      have hml : (upM mask ((bl host).take i)).length = i := by rw [upM_len, List.length_take]; omega
      have hll : (u8cells (upM mask ((bl host).take i))).length = i := by rw [u8_len, hml]
      have hr0 : ∀ x : AV, x = v8 (upB (decide (bM mask i = 1)) c) → List.take i (List.drop 0 (u8cells (upM mask ((bl host).take i)))) ++ List.take 1 [[x]] = u8cells (upM mask ((bl host).take (i + 1))) := by
        rintro x rfl
        have := hrow (upM mask ((bl host).take i)) (upB (decide (bM mask i = 1)) c)
        rw [hml] at this
        rw [hsn, this]
      by_cases hb : bM mask i = 1 ∧ 97 ≤ c.toNat ∧ c.toNat ≤ 122
      · have hu8 : upB (decide (bM mask i = 1)) c = c - 32 := by unfold upB; rw [if_pos ⟨decide_eq_true hb.1, hb.2⟩]
        have hr1 := hr0 (.val (.int .u8 (IntKind.u8.wrap ((c.toNat : Int) - 32)))) (by
          have h1 := up_nat c hb.2
          have hx : ((c.toNat : Int) - 32) % 256 = (((c - 32 : UInt8).toNat : Nat) : Int) := by omega
          rw [hu8, wrap8, hx])
        obtain ⟨hb1, hb2, hb3⟩ := hb
        repeat' (first | (rw [hw]) | (rw [ht]) | apply ar_nil | (apply ar_splitp; (apply ev_move; rfl); rfl; all_goals (intro hc; try (exfalso; first | omega | contradiction | (simp at hc; omega) | (simp_all; done)))) | (apply ar_ev; (apply ev_move; rfl); rfl) | (apply ar_ev; (first | (apply ev_rem; rfl; rfl; decide) | (apply ev_shM; rfl; rfl) | (apply ev_bM; rfl; rfl) | (apply ev_load_ptr_one; rfl; (focus ((repeat (first | exact Take.head | apply Take.tail | apply Take.right)); done)); exact (by first | rfl | assumption | exact get_map (by assumption)); rfl) | (apply ev_fieldAddr_ptr; rfl) | (apply ev_assign; rfl) | (apply ev_pick_t; rfl; rfl) | (apply ev_eqip; rfl; rfl) | (apply ev_lss; rfl; rfl) | (apply ev_inc; rfl; exact (by first | omega | assumption)) | (apply ev_len_str; rfl) | (apply ev_index_bl; rfl; rfl; assumption) | (apply ev_buildSlice; rfl; rfl; rfl; rfl; rfl; rfl; rfl) | (apply ev_conv_int; rfl) | (apply ev_subw; rfl; rfl)); rfl) | (apply ar_take; rfl; rfl; rfl; (apply ev_move; rfl); rfl) | (apply ar_take; rfl; rfl; rfl; (first | (apply ev_leq; rfl; rfl) | (apply ev_geq; rfl; rfl)); rfl) | apply aw_seq | apply a_region | apply aw_block | apply aw_skip | (apply aw_condp; rfl; all_goals (intro hc; try (exfalso; first | omega | contradiction | (simp at hc; omega) | (simp_all; done)))) | apply go_seq | apply go_block | (apply ar_append; rfl; (focus ((repeat (first | exact Take.head | apply Take.tail | apply Take.right)); done)); rfl; exact (by first | omega | assumption | (simp; done) | (simp; omega) | exact Nat.le_of_ble_eq_true rfl); exact (by first | omega | assumption | (simp; done) | (simp; omega) | exact Nat.le_of_ble_eq_true rfl); exact (by first | omega | assumption | (simp; done) | (simp; omega) | exact Nat.le_of_ble_eq_true rfl); rfl; intro lab))
        all_goals exact go_loop_back ⟨(i + 1, _), by dsimp only; omega, by dsimp only; omega, by dsimp only; exact Sub.of (by repeat (first | exact .nil | refine .cons rfl Le.refl ?_)) (by repeat (first | exact Takes.nil | (apply Takes.cons; focus (repeat (first | exact Take.head | exact Take.rowc hr1 Take.head | apply Take.tail | apply Take.right)))))⟩
      · have hu8 : upB (decide (bM mask i = 1)) c = c := by unfold upB; rw [if_neg (fun h => hb ⟨of_decide_eq_true h.1, h.2⟩)]
        have hr1 := hr0 (v8 c) (by rw [hu8])
        repeat' (first | (rw [hw]) | (rw [ht]) | apply ar_nil | (apply ar_splitp; (apply ev_move; rfl); rfl; all_goals (intro hc; try (exfalso; first | omega | contradiction | (simp at hc; omega) | (simp_all; done)))) | (apply ar_ev; (apply ev_move (y := .val (.bool false)); rfl); rfl) | (apply ar_ev; (apply ev_move; rfl); rfl) | (apply ar_ev; (first | (apply ev_rem; rfl; rfl; decide) | (apply ev_shM; rfl; rfl) | (apply ev_bM; rfl; rfl) | (apply ev_load_ptr_one; rfl; (focus ((repeat (first | exact Take.head | apply Take.tail | apply Take.right)); done)); exact (by first | rfl | assumption | exact get_map (by assumption)); rfl) | (apply ev_fieldAddr_ptr; rfl) | (apply ev_assign; rfl) | (apply ev_pick_t; rfl; rfl) | (apply ev_pick_f; rfl; rfl) | (apply ev_eqip; rfl; rfl) | (apply ev_lss; rfl; rfl) | (apply ev_inc; rfl; exact (by first | omega | assumption)) | (apply ev_len_str; rfl) | (apply ev_index_bl; rfl; rfl; assumption) | (apply ev_buildSlice; rfl; rfl; rfl; rfl; rfl; rfl; rfl) | (apply ev_conv_int; rfl)); rfl) | (apply ar_skip; rfl; rfl; rfl; rfl; rfl) | (apply ar_take; rfl; rfl; rfl; (apply ev_move; rfl); rfl) | (apply ar_take; rfl; rfl; rfl; (first | (apply ev_leq; rfl; rfl) | (apply ev_geq; rfl; rfl)); rfl) | apply aw_seq | apply a_region | apply aw_block | apply aw_skip | (apply aw_condp; rfl; all_goals (intro hc; try (exfalso; first | omega | contradiction | (simp at hc; omega) | (simp_all; done)))) | (apply aw_cond_f; rfl) | apply go_seq | apply go_block | (apply ar_append; rfl; (focus ((repeat (first | exact Take.head | apply Take.tail | apply Take.right)); done)); rfl; exact (by first | omega | assumption | (simp; done) | (simp; omega) | exact Nat.le_of_ble_eq_true rfl); exact (by first | omega | assumption | (simp; done) | (simp; omega) | exact Nat.le_of_ble_eq_true rfl); exact (by first | omega | assumption | (simp; done) | (simp; omega) | exact Nat.le_of_ble_eq_true rfl); rfl; intro lab))
        all_goals exact go_loop_back ⟨(i + 1, _), by dsimp only; omega, by dsimp only; omega, by dsimp only; exact Sub.of (by repeat (first | exact .nil | refine .cons rfl Le.refl ?_)) (by repeat (first | exact Takes.nil | (apply Takes.cons; focus (repeat (first | exact Take.head | exact Take.rowc hr1 Take.head | apply Take.tail | apply Take.right)))))⟩
    · obtain rfl : i = host.size := by omega
      rw [List.take_of_length_le (by omega), hu, ← hul]
      repeat' (first | apply ar_nil | (apply ar_ev; (apply ev_move; rfl); rfl) | (apply ar_ev; (first | (apply ev_load_ptr_one; rfl; (focus ((repeat (first | exact Take.head | apply Take.tail | apply Take.right)); done)); exact (by first | rfl | assumption | exact get_map (by assumption)); rfl) | (apply ev_fieldAddr_ptr; rfl) | (apply ev_lss; rfl; rfl) | (apply ev_len_str; rfl)); rfl) | apply aw_seq | apply a_region | apply aw_exit | (apply aw_condp; rfl; all_goals (intro hc; try (exfalso; first | omega | contradiction | (simp at hc; omega) | (simp_all; done)))) | apply go_seq | apply go_seq_exit | apply go_block_exit | apply go_loop_exit)
      exact go_loop_back ⟨_, trivial, Sub.of (by repeat (first | exact .nil | refine .cons rfl Le.refl ?_)) (by repeat (first | exact Takes.nil | (apply Takes.cons; focus (repeat (first | exact Take.head | apply Take.tail | apply Take.right)))))⟩
  rintro l7 -
  clear hu l0
  have hpn : ((pn : Nat) : Int).toNat = pn := rfl
  rw [hpn]
  generalize hnm : (named || decide (((pn : Nat) : Int) ≠ usualN sch)) = nm
  refine aw_seq (aw_seq (aw_join (fun _ : Unit => ⟨[(66, vb nm), (3, .ptr la 0 0), (7, .own l7 0 u.length)], [(l7, .row 5 1 (u8cells u)), (la, .row 23 3 [[vs sch, vs host, vi pn]])]⟩) (fun _ => True) ?_ ?_))
  · cases named with
    | true =>
      obtain rfl : nm = true := by rw [← hnm]; rfl
      repeat' (first | apply ar_nil | (apply ar_ev; (apply ev_move (y := .val (.bool true)); rfl); rfl) | (apply ar_ev; (apply ev_pick_t; rfl; rfl); rfl) | (apply ar_skip; rfl; rfl; rfl; rfl; rfl) | apply a_region)
      all_goals exact go_loop_back ⟨(), trivial, Sub.of (by repeat (first | exact .nil | refine .cons rfl Le.refl ?_)) (by repeat (first | exact Takes.nil | (apply Takes.cons; focus (repeat (first | exact Take.head | apply Take.tail | apply Take.right)))))⟩
    | false =>
      rw [Bool.false_or] at hnm
      rcases hsch with rfl | rfl
      · have hnm2 : decide (¬ ((pn : Nat) : Int) = 80) = nm := hnm
        by_cases h80 : ((pn : Nat) : Int) = 80
        · obtain rfl : nm = false := by rw [← hnm2]; exact decide_eq_false (fun h => h h80)
          clear hnm hnm2
          repeat' (first | apply ar_nil | (apply ar_ev; (apply ev_move (y := .val (.bool false)); rfl); rfl) | (apply ar_ev; (apply ev_pick_f; rfl; rfl); rfl) | (apply ar_skip; rfl; rfl; rfl; rfl; rfl) | (apply ar_take; rfl; rfl; rfl; (apply ev_move (y := .val (.bool true)); rfl); rfl) | (apply ar_tsplitp; rfl; rfl; rfl; (apply ev_move; rfl); rfl; all_goals (intro hc; try (exfalso; first | omega | contradiction | (simp at hc; omega) | (simp_all; done)))) | (apply ar_take; rfl; rfl; rfl; (first | (apply ev_load_ptr_one; rfl; (focus ((repeat (first | exact Take.head | apply Take.tail | apply Take.right)); done)); exact (by first | rfl | assumption | exact get_map (by assumption)); rfl) | (apply ev_fieldAddr_ptr; rfl) | (apply ev_pick_t; rfl; rfl) | (apply ev_eqip; rfl; rfl) | (apply ev_eqsp; rfl; rfl) | (apply ev_not; rfl)); rfl) | apply a_region)
          all_goals exact go_loop_back ⟨(), trivial, Sub.of (by repeat (first | exact .nil | refine .cons rfl Le.refl ?_)) (by repeat (first | exact Takes.nil | (apply Takes.cons; focus (repeat (first | exact Take.head | apply Take.tail | apply Take.right)))))⟩
        · obtain rfl : nm = true := by rw [← hnm2]; exact decide_eq_true h80
          clear hnm hnm2
          repeat' (first | apply ar_nil | (apply ar_ev; (apply ev_move (y := .val (.bool false)); rfl); rfl) | (apply ar_ev; (apply ev_pick_f; rfl; rfl); rfl) | (apply ar_skip; rfl; rfl; rfl; rfl; rfl) | (apply ar_take; rfl; rfl; rfl; (apply ev_move (y := .val (.bool true)); rfl); rfl) | (apply ar_take; rfl; rfl; rfl; (apply ev_move (y := .val (.bool false)); rfl); rfl) | (apply ar_tsplitp; rfl; rfl; rfl; (apply ev_move; rfl); rfl; all_goals (intro hc; try (exfalso; first | omega | contradiction | (simp at hc; omega) | (simp_all; done)))) | (apply ar_take; rfl; rfl; rfl; (first | (apply ev_load_ptr_one; rfl; (focus ((repeat (first | exact Take.head | apply Take.tail | apply Take.right)); done)); exact (by first | rfl | assumption | exact get_map (by assumption)); rfl) | (apply ev_fieldAddr_ptr; rfl) | (apply ev_pick_t; rfl; rfl) | (apply ev_pick_f; rfl; rfl) | (apply ev_eqip; rfl; rfl) | (apply ev_eqsp; rfl; rfl) | (apply ev_not; rfl)); rfl) | apply a_region)
          all_goals exact go_loop_back ⟨(), trivial, Sub.of (by repeat (first | exact .nil | refine .cons rfl Le.refl ?_)) (by repeat (first | exact Takes.nil | (apply Takes.cons; focus (repeat (first | exact Take.head | apply Take.tail | apply Take.right)))))⟩
      · have hnm2 : decide (¬ ((pn : Nat) : Int) = 443) = nm := hnm
        clear hnm
        subst hnm2
        repeat' (first | apply ar_nil | (apply ar_ev; (apply ev_move (y := .val (.bool false)); rfl); rfl) | (apply ar_ev; (apply ev_pick_f; rfl; rfl); rfl) | (apply ar_skip; rfl; rfl; rfl; rfl; rfl) | (apply ar_take; rfl; rfl; rfl; (apply ev_move (y := .val (.bool true)); rfl); rfl) | (apply ar_take; rfl; rfl; rfl; (apply ev_move (y := .val (.bool false)); rfl); rfl) | (apply ar_take; rfl; rfl; rfl; (first | (apply ev_load_ptr_one; rfl; (focus ((repeat (first | exact Take.head | apply Take.tail | apply Take.right)); done)); exact (by first | rfl | assumption | exact get_map (by assumption)); rfl) | (apply ev_fieldAddr_ptr; rfl) | (apply ev_pick_t; rfl; rfl) | (apply ev_pick_f; rfl; rfl) | (apply ev_eqip; rfl; rfl) | (apply ev_eqsp; rfl; rfl) | (apply ev_notp; rfl)); rfl) | apply a_region)
        all_goals exact go_loop_back ⟨(), trivial, Sub.of (by repeat (first | exact .nil | refine .cons rfl Le.refl ?_)) (by repeat (first | exact Takes.nil | (apply Takes.cons; focus (repeat (first | exact Take.head | apply Take.tail | apply Take.right)))))⟩
  rintro - -
  clear hnm hsch
  cases nm with
  | false =>
    rw [if_neg Bool.false_ne_true, List.append_nil]
    repeat' (first | apply ar_nil | (apply ar_ev; (apply ev_move; rfl); rfl) | (apply ar_ev; (first | (apply ev_assign; rfl) | (apply ev_conv_own; rfl; (focus ((repeat (first | exact Take.head | apply Take.tail | apply Take.right)); done)))); rfl) | apply aw_seq | apply a_region | apply aw_skip | apply aw_ret | (apply aw_cond_f; rfl) | apply go_seq)
    exact g_ret1 (r_tmp rfl) .nil rfl
  | true =>
    rw [if_pos rfl]
    have hr1 := hrow u 58
    have hll := u8_len u
    repeat' ((fail_if_success (show AW _ (.region 11 _ _) _ _)); (first | apply ar_nil | (apply ar_ev; (apply ev_move; rfl); rfl) | (apply ar_ev; (first | (apply ev_assign; rfl) | (apply ev_buildSlice; rfl; rfl; rfl; rfl; rfl; rfl; rfl)); rfl) | apply aw_seq | apply a_region | (apply aw_cond_t; rfl) | apply go_seq | (apply ar_append; rfl; (focus ((repeat (first | exact Take.head | apply Take.tail | apply Take.right)); done)); rfl; exact (by first | omega | assumption | (simp; done) | (simp; omega) | exact Nat.le_of_ble_eq_true rfl); exact (by first | omega | assumption | (simp; done) | (simp; omega) | exact Nat.le_of_ble_eq_true rfl); exact (by first | omega | assumption | (simp; done) | (simp; omega) | exact Nat.le_of_ble_eq_true rfl); rfl; intro lab)))
    refine AW.sub (st' := ⟨[(3, .ptr la 0 0), (7, .own lab 0 (u.length + 1))], [(lab, .row 5 1 (u8cells (u ++ [58]))), (la, .row 23 3 [[vs sch, vs host, vi pn]])]⟩) (Sub.of (by repeat (first | exact .nil | refine .cons rfl Le.refl ?_)) (by repeat (first | exact Takes.nil | (apply Takes.cons; focus (repeat (first | exact Take.head | exact Take.rowc hr1 Take.head | apply Take.tail | apply Take.right)))))) ?_
    generalize lab = l8 at *
    repeat' ((fail_if_success (show AW _ (.block 2 _) _ _)); (first | apply ar_nil | (apply ar_ev; (first | (apply ev_load_ptr_one; rfl; (focus ((repeat (first | exact Take.head | apply Take.tail | apply Take.right)); done)); exact (by first | rfl | assumption | exact get_map (by assumption)); rfl) | (apply ev_fieldAddr_ptr; rfl) | (apply ev_assign; rfl)); rfl) | apply aw_seq | apply a_region | apply go_seq))
    refine aw_adopt 11 5 1 rfl fun l0 => ?_
    refine aw_join (fun g : Nat × List UInt8 => ⟨[(7, .own l8 0 (u.length + 1)), (11, .own g.1 0 g.2.length)], [(g.1, .row 5 1 (u8cells g.2)), (l8, .row 5 1 (u8cells (u ++ [58])))]⟩) (fun g => g.2.length ≤ 65535 ∧ g.2.reverse = Lib.decDigits pn) ?_ ?_
    · refine aw_block ?_
      refine a_loop (fun g : Nat × Nat × Nat × List UInt8 => ⟨[(7, .own l8 0 (u.length + 1)), (10, vi g.1), (11, .own g.2.1 0 g.2.2.1)], [(g.2.1, .row 5 1 (u8cells g.2.2.2)), (l8, .row 5 1 (u8cells (u ++ [58])))]⟩) (fun g => g.2.2.1 = g.2.2.2.length ∧ g.1 + g.2.2.2.length ≤ 65535 ∧ if g.1 = 0 then Lib.decDigits pn = g.2.2.2.reverse else Lib.decDigits pn = Lib.decDigits g.1 ++ g.2.2.2.reverse) (fun g => g.1) (pn, l0, 0, []) (Sub.of (by repeat (first | exact .nil | refine .cons rfl Le.refl ?_)) (by repeat (first | exact Takes.nil | (apply Takes.cons; focus (repeat (first | exact Take.head | apply Take.tail | apply Take.right)))))) ⟨rfl, by simp; omega, by rw [if_neg (by omega)]; simp⟩ ?_
      rintro ⟨m, l11, n11, acc⟩ ⟨hn1, hm, hd⟩
      dsimp only at hn1 hm hd ⊢
      subst hn1
      by_cases hk : 0 < m
      · rw [if_neg (by omega)] at hd
        have hd1 := digit_u8 m
        have ht := tmod10 m
        have hq := quo10 m (by omega)
        have hnx : (if m / 10 = 0 then Lib.decDigits pn = (acc ++ [UInt8.ofNat (48 + m % 10)]).reverse else Lib.decDigits pn = Lib.decDigits (m / 10) ++ (acc ++ [UInt8.ofNat (48 + m % 10)]).reverse) := by
          rw [dec_def m] at hd
          rw [List.reverse_append]
          split
          · rename_i h
            rw [dif_pos (by omega)] at hd
            rw [hd, show m % 10 = m by omega]; rfl
          · rename_i h
            rw [dif_neg (by omega)] at hd
            rw [hd]; simp
        generalize UInt8.ofNat (48 + m % 10) = c at *
        have hr2 := hrow acc c
        have hll2 := u8_len acc
        clear hd
        repeat' (first | (rw [ht]) | (rw [hd1]) | (rw [hq]) | apply ar_nil | (apply ar_ev; (apply ev_move; rfl); rfl) | (apply ar_ev; (first | (apply ev_rem; rfl; rfl; decide) | (apply ev_quow; rfl; rfl; decide) | (apply ev_assign; rfl) | (apply ev_gtr; rfl; rfl) | (apply ev_add; rfl; rfl; exact (by first | omega | assumption); exact (by first | omega | assumption)) | (apply ev_buildSlice; rfl; rfl; rfl; rfl; rfl; rfl; rfl) | (apply ev_conv_int; rfl)); rfl) | apply aw_seq | apply a_region | apply aw_block | apply aw_skip | (apply aw_condp; rfl; all_goals (intro hc; try (exfalso; first | omega | contradiction | (simp at hc; omega) | (simp_all; done)))) | apply go_seq | apply go_block | (apply ar_append; rfl; (focus ((repeat (first | exact Take.head | apply Take.tail | apply Take.right)); done)); rfl; exact (by first | omega | assumption | (simp; done) | (simp; omega) | exact Nat.le_of_ble_eq_true rfl); exact (by first | omega | assumption | (simp; done) | (simp; omega) | exact Nat.le_of_ble_eq_true rfl); exact (by first | omega | assumption | (simp; done) | (simp; omega) | exact Nat.le_of_ble_eq_true rfl); rfl; intro lab))
        all_goals exact go_loop_back ⟨(m / 10, _, acc.length + 1, acc ++ [c]), ⟨by simp, by simp; omega, hnx⟩, by dsimp only; omega, by dsimp only; exact Sub.of (by repeat (first | exact .nil | refine .cons rfl Le.refl ?_)) (by repeat (first | exact Takes.nil | (apply Takes.cons; focus (repeat (first | exact Take.head | exact Take.rowc hr2 Take.head | apply Take.tail | apply Take.right)))))⟩
      · obtain rfl : m = 0 := by omega
        rw [if_pos rfl] at hd
        repeat' (first | apply ar_nil | (apply ar_ev; (apply ev_move; rfl); rfl) | (apply ar_ev; (apply ev_gtr; rfl; rfl); rfl) | apply aw_seq | apply a_region | apply aw_exit | (apply aw_condp; rfl; all_goals (intro hc; try (exfalso; first | omega | contradiction | (simp at hc; omega) | (simp_all; done)))) | apply go_seq | apply go_seq_exit | apply go_block_exit | apply go_loop_exit)
        all_goals exact go_loop_back ⟨(_, acc), ⟨by dsimp only; omega, hd.symm⟩, by dsimp only; exact Sub.of (by repeat (first | exact .nil | refine .cons rfl Le.refl ?_)) (by repeat (first | exact Takes.nil | (apply Takes.cons; focus (repeat (first | exact Take.head | apply Take.tail | apply Take.right)))))⟩
    rintro ⟨l11, acc⟩ ⟨hal, hrev⟩
    dsimp only at hal hrev ⊢
    rw [← hrev]
    repeat' ((fail_if_success (show AW _ (.block 4 _) _ _)); (first | apply ar_nil | (apply ar_ev; (apply ev_move; rfl); rfl) | (apply ar_ev; (first | (apply ev_assign; rfl) | (apply ev_sub; rfl; rfl; exact (by first | omega | assumption); exact (by first | omega | assumption)) | (apply ev_len_own; rfl)); rfl) | apply aw_seq | apply a_region | apply go_seq))
    refine aw_block ?_
    refine a_loop (fun g : Int × Nat × Nat × List UInt8 => ⟨[(7, .own g.2.1 0 g.2.2.1), (11, .own l11 0 acc.length), (12, vi g.1)], [(g.2.1, .row 5 1 (u8cells g.2.2.2)), (l11, .row 5 1 (u8cells acc))]⟩) (fun g => -1 ≤ g.1 ∧ g.1 < acc.length ∧ g.2.2.1 = g.2.2.2.length ∧ g.2.2.2 = u ++ [58] ++ (acc.drop (g.1 + 1).toNat).reverse) (fun g => (g.1 + 1).toNat) ((acc.length : Int) - 1, l8, u.length + 1, u ++ [58]) (Sub.of (by repeat (first | exact .nil | refine .cons rfl Le.refl ?_)) (by repeat (first | exact Takes.nil | (apply Takes.cons; focus (repeat (first | exact Take.head | apply Take.tail | apply Take.right)))))) ⟨by dsimp only; omega, by dsimp only; omega, by simp, by dsimp only; rw [List.drop_of_length_le (by omega)]; simp⟩ ?_
    rintro ⟨q, l7', n7, bs⟩ ⟨hq1, hq2, hn7, hbs⟩
    dsimp only at hq1 hq2 hn7 hbs ⊢
    subst hn7
    by_cases hk : 0 ≤ q
    · obtain ⟨k, rfl⟩ : ∃ k : Nat, q = k := ⟨q.toNat, by omega⟩
      obtain ⟨c, hce⟩ : ∃ c, acc[k]? = some c := ⟨_, List.getElem?_eq_getElem (by omega)⟩
      have hat := u8_at hce
      have hll3 := u8_len acc
      have hll4 := u8_len bs
      have hr3 := hrow bs c
      have hbl : bs.length ≤ 100000 := by
        rw [hbs]; simp; omega
      have hnx : bs ++ [c] = u ++ [58] ++ (acc.drop k).reverse := by
        have hdr : acc.drop k = c :: acc.drop (k + 1) := by rw [List.drop_eq_getElem_cons (by omega)]; congr 1; exact (List.getElem?_eq_some_iff.1 hce).2
        rw [hdr, hbs, show ((k : Int) + 1).toNat = k + 1 by omega]; simp
      clear hbs
      repeat' (first | apply ar_nil | (apply ar_ev; (apply ev_move; rfl); rfl) | (apply ar_ev; (first | (apply ev_load_ptr_one; rfl; (focus ((repeat (first | exact Take.head | apply Take.tail | apply Take.right)); done)); exact (by first | rfl | assumption | exact get_map (by assumption)); rfl) | (apply ev_assign; rfl) | (apply ev_geq; rfl; rfl) | (apply ev_sub; rfl; rfl; exact (by first | omega | assumption); exact (by first | omega | assumption)) | (apply ev_indexAddr_own0; rfl; rfl; exact (by first | omega | assumption); (focus ((repeat (first | exact Take.head | apply Take.tail | apply Take.right)); done))) | (apply ev_buildSlice; rfl; rfl; rfl; rfl; rfl; rfl; rfl)); rfl) | apply aw_seq | apply a_region | apply aw_block | apply aw_skip | (apply aw_condp; rfl; all_goals (intro hc; try (exfalso; first | omega | contradiction | (simp at hc; omega) | (simp_all; done)))) | apply go_seq | apply go_block | (apply ar_append; rfl; (focus ((repeat (first | exact Take.head | apply Take.tail | apply Take.right)); done)); rfl; exact (by first | omega | assumption | (simp; done) | (simp; omega) | exact Nat.le_of_ble_eq_true rfl); exact (by first | omega | assumption | (simp; done) | (simp; omega) | exact Nat.le_of_ble_eq_true rfl); exact (by first | omega | assumption | (simp; done) | (simp; omega) | exact Nat.le_of_ble_eq_true rfl); rfl; intro lab))
      all_goals exact go_loop_back ⟨((k : Int) - 1, _, bs.length + 1, bs ++ [c]), ⟨by dsimp only; omega, by dsimp only; omega, by simp, by dsimp only; rw [hnx, show ((k : Int) - 1 + 1).toNat = k by omega]⟩, by dsimp only; omega, by dsimp only; exact Sub.of (by repeat (first | exact .nil | refine .cons rfl Le.refl ?_)) (by repeat (first | exact Takes.nil | (apply Takes.cons; focus (repeat (first | exact Take.head | exact Take.rowc hr3 Take.head | apply Take.tail | apply Take.right)))))⟩
    · obtain rfl : q = -1 := by omega
      have hbs2 : u ++ 58 :: acc.reverse = bs := by
        rw [hbs, show ((-1 : Int) + 1).toNat = 0 by decide]; simp
      rw [hbs2]
      clear hbs2 hbs
      repeat' (first | apply ar_nil | (apply ar_ev; (apply ev_move; rfl); rfl) | (apply ar_ev; (first | (apply ev_assign; rfl) | (apply ev_geq; rfl; rfl) | (apply ev_conv_own; rfl; (focus ((repeat (first | exact Take.head | apply Take.tail | apply Take.right)); done)))); rfl) | apply aw_seq | apply a_region | apply aw_exit | apply aw_ret | (apply aw_condp; rfl; all_goals (intro hc; try (exfalso; first | omega | contradiction | (simp at hc; omega) | (simp_all; done)))) | apply go_seq | apply go_seq_exit | apply go_block_exit | apply go_loop_exit)
      exact g_ret1 (r_tmp rfl) .nil rfl
end Go.Proofs.YtjdcljggbbeikaaDoor
