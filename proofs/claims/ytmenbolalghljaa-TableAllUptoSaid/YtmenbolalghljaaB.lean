import Derived.Test.YtmenbolalghljaaA
set_option linter.unusedVariables false
set_option linter.unusedSimpArgs false
set_option maxRecDepth 100000
namespace Go.Proofs.Ytmenbolalghljaa
open Go.Proofs Go.Proofs.YtmenbolalghljaaA

abbrev tsl (l : List En) : AV := .sl 2 (l.map encT) l.length
/-- A table that is only read; its entries by their indexes. -/
abbrev tabI (mx sz : Int) (l : List En) : AV := .ip [vi mx, vi sz, tsl l]
def allE (l : List En) : List En := fixedL ++ l.reverse
def allX (l : List En) : List (En × Nat) := (allE l).zipIdx 1
theorem allE_len (l : List En) : (allE l).length = 61 + l.length := by simp [allE, fixed_len]
theorem allX_len (l : List En) : (allX l).length = 61 + l.length := by simp [allX, allE_len]
theorem allX_get {l : List En} {k : Nat} {e : En} (h : (allE l)[k]? = some e) : (allX l)[k]? = some (e, k + 1) := by
  simp [allX, List.getElem?_zipIdx, h, Nat.add_comm]
theorem allX_snoc {l : List En} {k : Nat} {e : En} (h : (allE l)[k]? = some e) : (allX l).take (k + 1) = (allX l).take k ++ [(e, k + 1)] := by
  rw [List.take_add_one, allX_get h]; rfl
theorem flat_at : ∀ (L : List En) (k : Nat) (hk : k < L.length), ((L.flatMap encT).drop (k * 2)).take 2 = encT L[k]
  | a :: L, 0, _ => rfl
  | a :: L, k + 1, hk => by
    have h := flat_at L k (by simpa using hk)
    have e : ((a :: L).flatMap encT).drop ((k + 1) * 2) = (L.flatMap encT).drop (k * 2) := by
      rw [show (k + 1) * 2 = k * 2 + 2 by omega]; rfl
    rw [e]
    exact h
theorem fixedC_at (k : Nat) (hk : k < 61) : ∃ e, fixedL[k]? = some e ∧ (fixedC.drop (k * 2)).take 2 = encT e :=
  ⟨fixedL[k]'hk, List.getElem?_eq_getElem hk, flat_at fixedL k hk⟩
set_option maxHeartbeats 8000000 in
theorem all_ok (mx sz : Int) (l : List En) (hn : l.length ≤ 1099511627776) (B : Base) (lo : Nat) (J Jx : List (En × Nat) → List (Nat × Tok) → Prop)
    (hY : ∀ pre x ts, J pre ts → pre.length < 61 + l.length → Yld B Try.prog lo ts [vi x.2, .agg (encT x.1)] (fun ts' r => (r = .val (.bool true) ∧ J (pre ++ [x]) ts') ∨ (r = .val (.bool false) ∧ Jx (pre ++ [x]) ts')))
    (ts : List (Nat × Tok)) (h0 : J [] ts) : FnB B Try.prog 39 ts [tabI mx sz l, .val (.func (.yield lo) #[] #[])] (fun ts' _ => (∃ xs, xs = allX l ∧ J xs ts') ∨ (∃ pre, (∃ k, k ≤ 61 + l.length ∧ pre = (allX l).take k) ∧ Jx pre ts')) := by
  refine fnB_of Try.func39 rfl Try.ntmps39 Try.results39 rfl fun G hG => ?_
  repeat' (first | apply ar_nil | (apply ar_ev; (apply ev_move; rfl); rfl) | (apply ar_ev; exact ev_call rfl rfl fixed_ok; rfl) | apply aw_seq | apply a_region | apply aw_block | apply go_seq)
  refine a_loop (fun g : Nat × List (Nat × Tok) => ⟨[(0, tabI mx sz l), (1, .val (.func (.yield lo) #[] #[])), (8, .agg fixedC), (9, vi g.1)], g.2⟩)
    (fun g => g.1 ≤ 61 ∧ J ((allX l).take g.1) g.2) (fun g => 61 - g.1) (0, ts) (Sub.of (by repeat (first | exact .nil | refine .cons rfl Le.refl ?_)) (by repeat (first | exact Takes.nil | exact takes_blk | exact takes_all | (apply takes_app; focus (repeat (first | exact takes_blk | exact takes_all | apply takes_right | apply takes_skip))) | (apply takes_cons; focus (repeat (first | exact Take.head | apply Take.tail | apply Take.right))) | apply takes_right | apply takes_skip))) ⟨Nat.zero_le _, by simpa using h0⟩ ?_
  rintro ⟨k, us⟩ ⟨hk, hJ⟩
  dsimp only at *
  repeat' (first | apply ar_nil | (apply ar_ev; (apply ev_lss; rfl; rfl); rfl) | apply aw_seq | apply a_region | apply go_seq)
  refine aw_condp rfl (fun hlt => ?_) (fun hlt => ?_)
  · obtain ⟨e, he, hfx⟩ := fixedC_at k (by omega)
    have hE : (allE l)[k]? = some e := by unfold allE; rw [List.getElem?_append_left (by rw [fixed_len]; omega)]; exact he
    have hfl : k * 2 + 2 ≤ fixedC.length := by rw [fixedC_len]; omega
    have hy := hY _ (e, k + 1) us hJ (by rw [List.length_take, allX_len]; omega)
    rw [← allX_snoc hE] at hy
    dsimp only at hy
    repeat' ((fail_if_success (show AW _ (.region 3 _ _) _ _)); (first | (apply ar_ev; (apply ev_move; rfl); rfl) | (apply ar_ev; (first | (apply ev_assign; rfl) | (apply ev_index_arr; rfl; rfl; exact (by first | omega | assumption); exact (by first | omega | assumption | (simp; done) | (simp; omega) | exact Nat.le_of_ble_eq_true rfl))); rfl) | (apply ar_new; (first | apply eff_alloc | (apply eff_box; rfl; exact lies_of rfl) | (apply eff_conv_bytes; rfl; exact (by first | omega | assumption | (simp; done) | (simp; omega) | exact Nat.le_of_ble_eq_true rfl))); exact .nil; rfl; intro lab) | apply aw_seq | apply a_region | apply aw_block | apply aw_skip | apply go_seq))
    rw [hfx]
    repeat' ((fail_if_success (show AW _ (.region 3 _ _) _ _)); (first | apply ar_nil | (apply ar_store; rfl; (focus ((repeat (first | exact Take.head | apply Take.tail | apply Take.right)); done)); rfl; rfl; exact (by first | rfl | assumption | exact get_map (by assumption)); rfl; rfl) | apply aw_seq | apply go_seq))
    refine AW.sub (st' := ⟨[(0, tabI mx sz l), (1, .val (.func (.yield lo) #[] #[])), (8, .agg fixedC), (9, vi k), (4, vi k), (5, .ptr lab 0 0)], (lab, .row 66 2 [encT e]) :: us⟩) (Sub.of (by repeat (first | exact .nil | refine .cons rfl Le.refl ?_)) (by repeat (first | exact Takes.nil | exact takes_blk | exact takes_all | (apply takes_app; focus (repeat (first | exact takes_blk | exact takes_all | apply takes_right | apply takes_skip))) | (apply takes_cons; focus (repeat (first | exact Take.head | apply Take.tail | apply Take.right))) | apply takes_right | apply takes_skip))) ?_
    repeat' (first | (apply ar_ev; (apply ev_move; rfl); rfl) | (apply ar_ev; (first | (apply ev_load_ptr_agg; rfl; (focus ((repeat (first | exact Take.head | apply Take.tail | apply Take.right)); done)); exact (by first | rfl | assumption | exact get_map (by assumption)); exact Nat.le_of_ble_eq_true rfl) | (apply ev_inc; rfl; exact (by first | omega | assumption))); rfl) | apply a_region)
    apply ar_yield hG hy; rfl; rfl; exact (by repeat (first | exact takes_blk | exact takes_all | apply takes_right | apply takes_skip)); rfl; rintro ts' _ (⟨rfl, hJ'⟩ | ⟨rfl, hJ'⟩)
    · repeat' (first | apply ar_nil | (apply ar_ev; (apply ev_move; rfl); rfl) | (apply ar_ev; (first | (apply ev_inc; rfl; exact (by first | omega | assumption)) | (apply ev_not; rfl)); rfl) | apply a_region | apply aw_skip | (apply aw_cond_f; rfl) | apply go_seq | apply go_block)
      exact go_loop_back ⟨(k + 1, ts'), ⟨by dsimp only; omega, hJ'⟩, by dsimp only; omega, by dsimp only; exact Sub.of (by repeat (first | exact .nil | refine .cons rfl Le.refl ?_)) (by repeat (first | exact Takes.nil | exact takes_blk | exact takes_all | (apply takes_app; focus (repeat (first | exact takes_blk | exact takes_all | apply takes_right | apply takes_skip))) | (apply takes_cons; focus (repeat (first | exact Take.head | apply Take.tail | apply Take.right))) | apply takes_right | apply takes_skip))⟩
    · repeat' (first | apply ar_nil | (apply ar_ev; (apply ev_not; rfl); rfl) | apply aw_ret | (apply aw_cond_t; rfl) | apply go_seq | apply go_seq_ret | apply go_block_ret | apply go_loop_ret)
      exact g_ret0 (us := ts') (rs := [(lab, .row 66 2 [encT e])]) (by repeat (first | exact takes_blk | exact takes_all | apply takes_right | apply takes_skip)) (.inr ⟨_, ⟨k + 1, by omega, rfl⟩, hJ'⟩)
  · obtain rfl : k = 61 := by omega
    repeat' ((fail_if_success (show AW _ (.region 7 _ _) _ _)); (first | apply ar_nil | (apply ar_ev; (apply ev_move; rfl); rfl) | (apply ar_ev; (first | (apply ev_load_ip_one; rfl; rfl) | (apply ev_fieldAddr_ip; rfl) | (apply ev_assign; rfl) | (apply ev_nilCheck_ip; rfl) | (apply ev_len_sl; rfl)); rfl) | apply aw_seq | apply a_region | apply aw_block | apply aw_exit | apply go_seq | apply go_seq_exit | apply go_block_exit | apply go_loop_exit))
    skip
    refine a_loop (fun g : Nat × List (Nat × Tok) => ⟨[(0, tabI mx sz l), (1, .val (.func (.yield lo) #[] #[])), (6, vi l.length), (25, vi l.length), (26, vi g.1)], g.2⟩)
      (fun g => g.1 ≤ l.length ∧ J ((allX l).take (61 + g.1)) g.2) (fun g => l.length - g.1) (0, us) (Sub.of (by repeat (first | exact .nil | refine .cons rfl Le.refl ?_)) (by repeat (first | exact Takes.nil | exact takes_blk | exact takes_all | (apply takes_app; focus (repeat (first | exact takes_blk | exact takes_all | apply takes_right | apply takes_skip))) | (apply takes_cons; focus (repeat (first | exact Take.head | apply Take.tail | apply Take.right))) | apply takes_right | apply takes_skip))) ⟨Nat.zero_le _, hJ⟩ ?_
    rintro ⟨k, us⟩ ⟨hk, hJ⟩
    dsimp only at *
    repeat' (first | apply ar_nil | (apply ar_ev; (apply ev_lss; rfl; rfl); rfl) | apply aw_seq | apply a_region | apply go_seq)
    refine aw_condp rfl (fun hlt => ?_) (fun hlt => ?_)
    · obtain ⟨e, he⟩ : ∃ e, l[l.length - 1 - k]? = some e := ⟨_, List.getElem?_eq_getElem (by omega)⟩
      have he2 : (l.map encT)[l.length - 1 - k]? = some (encT e) := by simp [he]
      have hE : (allE l)[61 + k]? = some e := by
        unfold allE
        rw [List.getElem?_append_right (by rw [fixed_len]; omega), fixed_len, Nat.add_sub_cancel_left, List.getElem?_reverse (by omega)]
        exact he
      have hy := hY _ (e, 61 + k + 1) us hJ (by rw [List.length_take, allX_len]; omega)
      rw [← allX_snoc hE] at hy
      dsimp only at hy
      have e62 : ((61 + k + 1 : Nat) : Int) = 62 + (k : Int) := by omega
      rw [e62] at hy
      have ei : ((l.length : Int) - 1 - (k : Int)) = ((l.length - 1 - k : Nat) : Int) := by omega
      repeat' (first | apply ar_nil | (apply ar_ev; (apply ev_move; rfl); rfl) | (apply ar_ev; (first | (apply ev_load_ip_one; rfl; rfl) | (apply ev_fieldAddr_ip; rfl) | (apply ev_assign; rfl) | (apply ev_nilCheck_ip; rfl) | (apply ev_add; rfl; rfl; exact (by first | omega | assumption); exact (by first | omega | assumption)) | (apply ev_sub; rfl; rfl; exact (by first | omega | assumption); exact (by first | omega | assumption))); rfl) | apply aw_seq | apply a_region | apply aw_block | apply aw_skip | apply go_seq)
      rw [ei]
      repeat' (apply ar_ev; (first | (apply ev_load_ip_agg; rfl; exact Nat.le_of_ble_eq_true rfl) | (apply ev_indexAddr_sl; rfl; rfl; exact (by first | omega | assumption); exact (by first | rfl | assumption | exact get_map (by assumption)))); rfl)
      apply ar_yield hG hy; rfl; rfl; exact (by repeat (first | exact takes_blk | exact takes_all | apply takes_right | apply takes_skip)); rfl; rintro ts' _ (⟨rfl, hJ'⟩ | ⟨rfl, hJ'⟩)
      · repeat' (first | apply ar_nil | (apply ar_ev; (apply ev_move; rfl); rfl) | (apply ar_ev; (first | (apply ev_inc; rfl; exact (by first | omega | assumption)) | (apply ev_not; rfl)); rfl) | apply a_region | apply aw_skip | (apply aw_cond_f; rfl) | apply go_seq | apply go_block)
        exact go_loop_back ⟨(k + 1, ts'), ⟨by dsimp only; omega, hJ'⟩, by dsimp only; omega, by dsimp only; exact Sub.of (by repeat (first | exact .nil | refine .cons rfl Le.refl ?_)) (by repeat (first | exact Takes.nil | exact takes_blk | exact takes_all | (apply takes_app; focus (repeat (first | exact takes_blk | exact takes_all | apply takes_right | apply takes_skip))) | (apply takes_cons; focus (repeat (first | exact Take.head | apply Take.tail | apply Take.right))) | apply takes_right | apply takes_skip))⟩
      · repeat' (first | apply ar_nil | (apply ar_ev; (apply ev_not; rfl); rfl) | apply aw_ret | (apply aw_cond_t; rfl) | apply go_seq | apply go_seq_ret | apply go_block_ret | apply go_loop_ret)
        exact g_ret0 (us := ts') (rs := []) (by repeat (first | exact takes_blk | exact takes_all | apply takes_right | apply takes_skip)) (.inr ⟨_, ⟨61 + k + 1, by omega, rfl⟩, hJ'⟩)
    · obtain rfl : k = l.length := by omega
      repeat' (first | apply aw_exit | apply go_seq_exit | apply go_block_exit | apply go_loop_exit)
      exact g_end0 (us := us) (rs := []) (by repeat (first | exact takes_blk | exact takes_all | apply takes_right | apply takes_skip)) (.inl ⟨_, rfl, by rwa [List.take_of_length_le (by rw [allX_len]; omega)] at hJ⟩)
end Go.Proofs.Ytmenbolalghljaa
