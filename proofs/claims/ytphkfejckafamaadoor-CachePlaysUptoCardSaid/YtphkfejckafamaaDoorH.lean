import Derived.Test.YtphkfejckafamaaDoorG
set_option linter.unusedVariables false
set_option linter.unusedSimpArgs false
set_option maxRecDepth 100000
namespace Go.Proofs.YtphkfejckafamaaDoor
open Go.Proofs Go.Proofs.YtphkfejckafamaaDoorA

def valuesN (l : List Fld) (n : ByteArray) : List ByteArray := (l.filter fun f => decide (f.n = n)).map (·.v)
theorem values_step {l : List Fld} {n : ByteArray} {i : Nat} {f : Fld} (h : l[i]? = some f) : valuesN (l.take (i + 1)) n = if f.n = n then valuesN (l.take i) n ++ [f.v] else valuesN (l.take i) n := by
  unfold valuesN
  rw [List.take_add_one, h, List.filter_append, List.map_append]
  by_cases hc : f.n = n <;> simp [hc]
theorem values_le (l : List Fld) (n : ByteArray) : (valuesN l n).length ≤ l.length := by
  unfold valuesN; rw [List.length_map]; exact List.length_filter_le _ _

set_option maxHeartbeats 2000000 in
theorem values_ok (l : List Fld) (n : ByteArray) (hn : l.length ≤ 1099511627776) : PFn Tryd.prog 50 [fsl l, vs n] (ssl (valuesN l n)) := by
  refine fn_of Tryd.func50 rfl Tryd.ntmps50 Tryd.results50 rfl fun G => ?_
  repeat' (first | apply ar_nil | (apply ar_ev; (apply ev_move; rfl); rfl) | (apply ar_ev; (first | (apply ev_assign; rfl) | (apply ev_len_sl; rfl)); rfl) | apply aw_seq | apply a_region | apply aw_block | apply go_seq)
  refine aw_adopt 5 9 1 rfl fun lab => ?_
  skip
  have h0 : ([] : List (List AV)) = ([] : List ByteArray).map encS := rfl
  refine a_loop (fun g : Nat × Nat × List ByteArray => ⟨[(1, vs n), (5, .own g.2.1 0 g.2.2.length), (8, fsl l), (9, vi l.length), (10, vi g.1)], [(g.2.1, .row 9 1 (g.2.2.map encS))]⟩) (fun g => g.1 ≤ l.length ∧ g.2.2 = valuesN (l.take g.1) n ∧ g.2.2.length ≤ g.1) (fun g => l.length - g.1) (0, lab, []) (Sub.of (by repeat (first | exact .nil | refine .cons rfl Le.refl ?_)) (by repeat (first | exact Takes.nil | (apply Takes.cons; focus (repeat (first | exact Take.head | exact Take.rowc h0 Take.head | apply Take.tail | apply Take.right)))))) ⟨Nat.zero_le _, rfl, Nat.zero_le _⟩ ?_
  rintro ⟨i, lb, acc⟩ ⟨hi, ha, hal⟩
  dsimp only at *
  repeat' (first | apply ar_nil | (apply ar_ev; (apply ev_lss; rfl; rfl); rfl) | apply aw_seq | apply a_region | apply go_seq)
  refine aw_condp rfl (fun hk => ?_) (fun hk => ?_)
  · obtain ⟨f, hfe⟩ : ∃ f, l[i]? = some f := ⟨_, List.getElem?_eq_getElem (by omega)⟩
    have hfe2 := fsl_get hfe
    have hst := values_step (n := n) hfe
    repeat' (first | apply ar_nil | (apply ar_ev; (apply ev_move; rfl); rfl) | (apply ar_ev; (first | (apply ev_load_ptr_one; rfl; (focus ((repeat (first | exact Take.head | apply Take.tail | apply Take.right)); done)); exact (by first | rfl | assumption | exact get_map (by assumption)); rfl) | (apply ev_fieldAddr_ptr; rfl) | (apply ev_assign; rfl) | (apply ev_load_ip_agg; rfl; exact Nat.le_of_ble_eq_true rfl) | (apply ev_inc; rfl; exact (by first | omega | assumption)) | (apply ev_eqsp; rfl; rfl) | (apply ev_indexAddr_sl; rfl; rfl; exact (by first | omega | assumption); exact (by first | rfl | assumption | exact get_map (by assumption))) | (apply ev_buildSlice; rfl; rfl; rfl; rfl; rfl; rfl; rfl)); rfl) | (apply ar_new; (first | apply eff_alloc | (apply eff_box; rfl; exact lies_of rfl) | (apply eff_conv_bytes; rfl; exact (by first | omega | assumption | (simp; done) | (simp; omega) | exact Nat.le_of_ble_eq_true rfl))); exact .nil; rfl; intro lab) | (apply ar_store; rfl; (focus ((repeat (first | exact Take.head | apply Take.tail | apply Take.right)); done)); rfl; rfl; exact (by first | rfl | assumption | exact get_map (by assumption)); rfl; rfl) | apply aw_seq | apply a_region | apply aw_block | apply aw_skip | (apply aw_condp; rfl; all_goals (intro hc; try (exfalso; first | omega | contradiction | (simp at hc; omega) | (simp_all; done)))) | apply go_seq | apply go_block | (apply ar_append; rfl; (focus ((repeat (first | exact Take.head | apply Take.tail | apply Take.right)); done)); rfl; exact (by first | omega | assumption | (simp; done) | (simp; omega) | exact Nat.le_of_ble_eq_true rfl); exact (by first | omega | assumption | (simp; done) | (simp; omega) | exact Nat.le_of_ble_eq_true rfl); exact (by first | omega | assumption | (simp; done) | (simp; omega) | exact Nat.le_of_ble_eq_true rfl); rfl; intro lab))
    · have hrow := hrowS acc f.v
      refine go_loop_back ⟨(i + 1, _, acc ++ [f.v]), ⟨by dsimp only; omega, ?_, by dsimp only; rw [List.length_append, List.length_singleton]; omega⟩, by dsimp only; omega, by dsimp only; rw [List.length_append, List.length_singleton]; exact Sub.of (by repeat (first | exact .nil | refine .cons rfl Le.refl ?_)) (by repeat (first | exact Takes.nil | (apply Takes.cons; focus (repeat (first | exact Take.head | exact Take.rowc hrow Take.head | apply Take.tail | apply Take.right)))))⟩
      dsimp only
      rw [hst, if_pos hc, ha]
    · refine go_loop_back ⟨(i + 1, _, acc), ⟨by dsimp only; omega, ?_, by dsimp only; omega⟩, by dsimp only; omega, Sub.of (by repeat (first | exact .nil | refine .cons rfl Le.refl ?_)) (by repeat (first | exact Takes.nil | (apply Takes.cons; focus (repeat (first | exact Take.head | apply Take.tail | apply Take.right)))))⟩
      dsimp only
      rw [hst, if_neg hc, ha]
  · obtain rfl : i = l.length := by omega
    rw [List.take_length] at ha
    subst ha
    refine aw_cv 5 rfl (by repeat (first | exact Takes.nil | (apply Takes.cons; focus (repeat (first | exact Take.head | apply Take.tail | apply Take.right))))) (Cv.own0 .head (by simp)) ?_
    repeat' (first | apply ar_nil | (apply ar_ev; (apply ev_move; rfl); rfl) | (apply ar_ev; (apply ev_assign; rfl); rfl) | apply aw_seq | apply a_region | apply aw_exit | apply aw_ret | apply go_seq | apply go_seq_exit | apply go_block_exit | apply go_loop_exit)
    exact g_ret1 (r_tmp rfl) .nil rfl
set_option maxHeartbeats 2000000 in
theorem valuesR_ok (l : List Fld) (n : ByteArray) (hn : l.length ≤ 1099511627776) : PFn Tryd.prog 51 [fsl l, vs n] (ssl (valuesN l n)) := by
  refine fn_of Tryd.func51 rfl Tryd.ntmps51 Tryd.results51 rfl fun G => ?_
  repeat' (first | apply ar_nil | (apply ar_ev; (apply ev_assign; rfl); rfl) | apply aw_seq | apply a_region | apply aw_block | apply go_seq)
  refine aw_adopt 5 9 1 rfl fun lab => ?_
  skip
  have h0 : ([] : List (List AV)) = ([] : List ByteArray).map encS := rfl
  refine a_loop (fun g : Nat × Nat × List ByteArray => ⟨[(0, fsl l), (1, vs n), (5, .own g.2.1 0 g.2.2.length), (6, vi g.1)], [(g.2.1, .row 9 1 (g.2.2.map encS))]⟩) (fun g => g.1 ≤ l.length ∧ g.2.2 = valuesN (l.take g.1) n ∧ g.2.2.length ≤ g.1) (fun g => l.length - g.1) (0, lab, []) (Sub.of (by repeat (first | exact .nil | refine .cons rfl Le.refl ?_)) (by repeat (first | exact Takes.nil | (apply Takes.cons; focus (repeat (first | exact Take.head | exact Take.rowc h0 Take.head | apply Take.tail | apply Take.right)))))) ⟨Nat.zero_le _, rfl, Nat.zero_le _⟩ ?_
  rintro ⟨i, lb, acc⟩ ⟨hi, ha, hal⟩
  dsimp only at *
  repeat' (first | apply ar_nil | (apply ar_ev; (apply ev_move; rfl); rfl) | (apply ar_ev; (first | (apply ev_lss; rfl; rfl) | (apply ev_len_sl; rfl)); rfl) | apply aw_seq | apply a_region | apply go_seq)
  refine aw_condp rfl (fun hk => ?_) (fun hk => ?_)
  · obtain ⟨f, hfe⟩ : ∃ f, l[i]? = some f := ⟨_, List.getElem?_eq_getElem (by omega)⟩
    have hfe2 := fsl_get hfe
    have hst := values_step (n := n) hfe
    repeat' (first | apply ar_nil | (apply ar_ev; (apply ev_move; rfl); rfl) | (apply ar_ev; (first | (apply ev_load_ip_one; rfl; rfl) | (apply ev_fieldAddr_ip; rfl) | (apply ev_assign; rfl) | (apply ev_inc; rfl; exact (by first | omega | assumption)) | (apply ev_eqsp; rfl; rfl) | (apply ev_indexAddr_sl; rfl; rfl; exact (by first | omega | assumption); exact (by first | rfl | assumption | exact get_map (by assumption))) | (apply ev_buildSlice; rfl; rfl; rfl; rfl; rfl; rfl; rfl)); rfl) | apply aw_seq | apply a_region | apply aw_block | apply aw_skip | (apply aw_condp; rfl; all_goals (intro hc; try (exfalso; first | omega | contradiction | (simp at hc; omega) | (simp_all; done)))) | apply go_seq | apply go_block | (apply ar_append; rfl; (focus ((repeat (first | exact Take.head | apply Take.tail | apply Take.right)); done)); rfl; exact (by first | omega | assumption | (simp; done) | (simp; omega) | exact Nat.le_of_ble_eq_true rfl); exact (by first | omega | assumption | (simp; done) | (simp; omega) | exact Nat.le_of_ble_eq_true rfl); exact (by first | omega | assumption | (simp; done) | (simp; omega) | exact Nat.le_of_ble_eq_true rfl); rfl; intro lab))
    · have hrow := hrowS acc f.v
      refine go_loop_back ⟨(i + 1, _, acc ++ [f.v]), ⟨by dsimp only; omega, ?_, by dsimp only; rw [List.length_append, List.length_singleton]; omega⟩, by dsimp only; omega, by dsimp only; rw [List.length_append, List.length_singleton]; exact Sub.of (by repeat (first | exact .nil | refine .cons rfl Le.refl ?_)) (by repeat (first | exact Takes.nil | (apply Takes.cons; focus (repeat (first | exact Take.head | exact Take.rowc hrow Take.head | apply Take.tail | apply Take.right)))))⟩
      dsimp only
      rw [hst, if_pos hc, ha]
    · refine go_loop_back ⟨(i + 1, _, acc), ⟨by dsimp only; omega, ?_, by dsimp only; omega⟩, by dsimp only; omega, Sub.of (by repeat (first | exact .nil | refine .cons rfl Le.refl ?_)) (by repeat (first | exact Takes.nil | (apply Takes.cons; focus (repeat (first | exact Take.head | apply Take.tail | apply Take.right)))))⟩
      dsimp only
      rw [hst, if_neg hc, ha]
  · obtain rfl : i = l.length := by omega
    rw [List.take_length] at ha
    subst ha
    refine aw_cv 5 rfl (by repeat (first | exact Takes.nil | (apply Takes.cons; focus (repeat (first | exact Take.head | apply Take.tail | apply Take.right))))) (Cv.own0 .head (by simp)) ?_
    repeat' (first | apply ar_nil | (apply ar_ev; (apply ev_move; rfl); rfl) | (apply ar_ev; (apply ev_assign; rfl); rfl) | apply aw_seq | apply a_region | apply aw_exit | apply aw_ret | apply go_seq | apply go_seq_exit | apply go_block_exit | apply go_loop_exit)
    exact g_ret1 (r_tmp rfl) .nil rfl

theorem take_eq_step {α : Type} {a b : List α} {i : Nat} {x y : α} (ha : a[i]? = some x) (hb : b[i]? = some y) : a.take (i + 1) = b.take (i + 1) ↔ a.take i = b.take i ∧ x = y := by
  have h1 := (List.getElem?_eq_some_iff.1 ha).1
  have h2 := (List.getElem?_eq_some_iff.1 hb).1
  rw [List.take_add_one, List.take_add_one, ha, hb]
  constructor
  · intro h
    have := List.append_inj h (by simp; omega)
    exact ⟨this.1, by simpa using this.2⟩
  · rintro ⟨h, rfl⟩; rw [h]
theorem same_ok (a b : List ByteArray) (ha : a.length ≤ 4398046511104) : PFn Tryd.prog 49 [ssl a, ssl b] (vb (decide (a = b))) := by
  refine fn_of Tryd.func49 rfl Tryd.ntmps49 Tryd.results49 rfl fun G => ?_
  repeat' (first | apply ar_nil | (apply ar_ev; (apply ev_move; rfl); rfl) | (apply ar_ev; (first | (apply ev_assign; rfl) | (apply ev_neip; rfl; rfl) | (apply ev_len_sl; rfl)); rfl) | apply aw_seq | apply a_region | apply aw_block | apply aw_skip | apply aw_ret | (apply aw_condp; rfl; all_goals (intro hc; try (exfalso; first | omega | contradiction | (simp at hc; omega) | (simp_all; done)))) | apply go_seq | apply go_seq_ret)
  · exact g_ret1 (r_tmp rfl) .nil (by rw [decide_eq_false fun h => hc (by rw [h])])
  have hlen : a.length = b.length := by omega
  refine a_loop (fun i : Nat => ⟨[(1, ssl b), (12, ssl a), (13, vi a.length), (14, vi i)], []⟩) (fun i => i ≤ a.length ∧ a.take i = b.take i) (fun i => a.length - i) 0 (Sub.of (by repeat (first | exact .nil | refine .cons rfl Le.refl ?_)) (by repeat (first | exact Takes.nil | (apply Takes.cons; focus (repeat (first | exact Take.head | apply Take.tail | apply Take.right)))))) ⟨Nat.zero_le _, rfl⟩ ?_
  rintro i ⟨hi, ht⟩
  repeat' (first | apply ar_nil | (apply ar_ev; (apply ev_lss; rfl; rfl); rfl) | apply aw_seq | apply a_region | apply go_seq)
  refine aw_condp rfl (fun hk => ?_) (fun hk => ?_)
  · obtain ⟨x, hx⟩ : ∃ x, a[i]? = some x := ⟨_, List.getElem?_eq_getElem (by omega)⟩
    obtain ⟨y, hy⟩ : ∃ y, b[i]? = some y := ⟨_, List.getElem?_eq_getElem (by omega)⟩
    have hx2 := ssl_get hx
    have hy2 := ssl_get hy
    have hst := take_eq_step hx hy
    repeat' (first | apply ar_nil | (apply ar_ev; (apply ev_move; rfl); rfl) | (apply ar_ev; (first | (apply ev_load_ip_one; rfl; rfl) | (apply ev_assign; rfl) | (apply ev_inc; rfl; exact (by first | omega | assumption)) | (apply ev_nesp; rfl; rfl) | (apply ev_indexAddr_sl; rfl; rfl; exact (by first | omega | assumption); exact (by first | rfl | assumption | exact get_map (by assumption)))); rfl) | apply aw_seq | apply a_region | apply aw_block | apply aw_skip | apply aw_ret | (apply aw_condp; rfl; all_goals (intro hc; try (exfalso; first | omega | contradiction | (simp at hc; omega) | (simp_all; done)))) | apply go_seq | apply go_seq_ret | apply go_block | apply go_block_ret | apply go_loop_ret)
    · exact g_ret1 (r_tmp rfl) .nil (by rw [decide_eq_false]; rintro rfl; rw [hx] at hy; exact absurd (Option.some.inj hy) ‹x ≠ y›)
    · exact go_loop_back ⟨i + 1, ⟨by omega, hst.2 ⟨ht, Decidable.not_not.1 hc⟩⟩, by omega, Sub.of (by repeat (first | exact .nil | refine .cons rfl Le.refl ?_)) (by repeat (first | exact Takes.nil | (apply Takes.cons; focus (repeat (first | exact Take.head | apply Take.tail | apply Take.right)))))⟩
  · obtain rfl : i = a.length := by omega
    repeat' (first | apply ar_nil | (apply ar_ev; (apply ev_assign; rfl); rfl) | apply aw_seq | apply a_region | apply aw_exit | apply aw_ret | apply go_seq | apply go_seq_exit | apply go_block_exit | apply go_loop_exit)
    exact g_ret1 (r_tmp rfl) .nil (by rw [decide_eq_true]; rw [List.take_length] at ht; rw [ht, hlen, List.take_length])

theorem same16_ok (a b : List ByteArray) (ha : a.length ≤ 4398046511104) : PFn Tryd.prog 16 [ssl a, ssl b] (vb (decide (a = b))) := by
  refine fn_of Tryd.func16 rfl Tryd.ntmps16 Tryd.results16 rfl fun G => ?_
  repeat' (first | apply ar_nil | (apply ar_ev; (apply ev_move; rfl); rfl) | (apply ar_ev; (first | (apply ev_assign; rfl) | (apply ev_neip; rfl; rfl) | (apply ev_len_sl; rfl)); rfl) | apply aw_seq | apply a_region | apply aw_block | apply aw_skip | apply aw_ret | (apply aw_condp; rfl; all_goals (intro hc; try (exfalso; first | omega | contradiction | (simp at hc; omega) | (simp_all; done)))) | apply go_seq | apply go_seq_ret)
  · exact g_ret1 (r_tmp rfl) .nil (by rw [decide_eq_false fun h => hc (by rw [h])])
  have hlen : a.length = b.length := by omega
  refine a_loop (fun i : Nat => ⟨[(0, ssl a), (1, ssl b), (5, vi i)], []⟩) (fun i => i ≤ a.length ∧ a.take i = b.take i) (fun i => a.length - i) 0 (Sub.of (by repeat (first | exact .nil | refine .cons rfl Le.refl ?_)) (by repeat (first | exact Takes.nil | (apply Takes.cons; focus (repeat (first | exact Take.head | apply Take.tail | apply Take.right)))))) ⟨Nat.zero_le _, rfl⟩ ?_
  rintro i ⟨hi, ht⟩
  repeat' (first | apply ar_nil | (apply ar_ev; (apply ev_move; rfl); rfl) | (apply ar_ev; (first | (apply ev_lss; rfl; rfl) | (apply ev_len_sl; rfl)); rfl) | apply aw_seq | apply a_region | apply go_seq)
  refine aw_condp rfl (fun hk => ?_) (fun hk => ?_)
  · obtain ⟨x, hx⟩ : ∃ x, a[i]? = some x := ⟨_, List.getElem?_eq_getElem (by omega)⟩
    obtain ⟨y, hy⟩ : ∃ y, b[i]? = some y := ⟨_, List.getElem?_eq_getElem (by omega)⟩
    have hx2 := ssl_get hx
    have hy2 := ssl_get hy
    have hst := take_eq_step hx hy
    repeat' (first | apply ar_nil | (apply ar_ev; (apply ev_move; rfl); rfl) | (apply ar_ev; (first | (apply ev_load_ip_one; rfl; rfl) | (apply ev_assign; rfl) | (apply ev_inc; rfl; exact (by first | omega | assumption)) | (apply ev_nesp; rfl; rfl) | (apply ev_indexAddr_sl; rfl; rfl; exact (by first | omega | assumption); exact (by first | rfl | assumption | exact get_map (by assumption)))); rfl) | apply aw_seq | apply a_region | apply aw_block | apply aw_skip | apply aw_ret | (apply aw_condp; rfl; all_goals (intro hc; try (exfalso; first | omega | contradiction | (simp at hc; omega) | (simp_all; done)))) | apply go_seq | apply go_seq_ret | apply go_block | apply go_block_ret | apply go_loop_ret | (first | (apply a_drawN 2; rfl; rfl) | (apply a_drawN 3; rfl; rfl) | (apply a_drawN 4; rfl; rfl) | (apply a_drawN 5; rfl; rfl) | (apply a_drawN 6; rfl; rfl) | (apply a_drawN 7; rfl; rfl) | (apply a_drawN 8; rfl; rfl) | (apply a_drawN 9; rfl; rfl) | (apply a_drawN 10; rfl; rfl) | (apply a_drawN 11; rfl; rfl) | (apply a_drawN 12; rfl; rfl) | (apply a_drawN 13; rfl; rfl) | (apply a_drawN 14; rfl; rfl) | (apply a_drawN 15; rfl; rfl) | (apply a_drawN 16; rfl; rfl) | (apply a_drawN 17; rfl; rfl) | (apply a_drawN 18; rfl; rfl) | (apply a_drawN 19; rfl; rfl) | (apply a_drawN 20; rfl; rfl) | (apply a_drawN 21; rfl; rfl) | (apply a_drawN 22; rfl; rfl) | (apply a_drawN 23; rfl; rfl) | (apply a_drawN 24; rfl; rfl) | (apply a_drawN 25; rfl; rfl) | (apply a_drawN 26; rfl; rfl) | (apply a_drawN 27; rfl; rfl) | (apply a_drawN 28; rfl; rfl) | (apply a_drawN 29; rfl; rfl) | (apply a_drawN 30; rfl; rfl) | (apply a_drawN 31; rfl; rfl) | (apply a_drawN 32; rfl; rfl) | (apply a_drawN 33; rfl; rfl) | (apply a_drawN 34; rfl; rfl) | (apply a_drawN 35; rfl; rfl) | (apply a_drawN 36; rfl; rfl) | (apply a_drawN 37; rfl; rfl) | (apply a_drawN 38; rfl; rfl) | (apply a_drawN 39; rfl; rfl) | (apply a_drawN 40; rfl; rfl) | (apply a_drawN 41; rfl; rfl) | (apply a_drawN 42; rfl; rfl) | (apply a_drawN 43; rfl; rfl) | (apply a_drawN 44; rfl; rfl) | (apply a_drawN 45; rfl; rfl)))
    · exact g_ret1 (r_tmp rfl) .nil (by rw [decide_eq_false]; rintro rfl; rw [hx] at hy; exact absurd (Option.some.inj hy) ‹x ≠ y›)
    · exact go_loop_back ⟨i + 1, ⟨by omega, hst.2 ⟨ht, Decidable.not_not.1 hc⟩⟩, by omega, Sub.of (by repeat (first | exact .nil | refine .cons rfl Le.refl ?_)) (by repeat (first | exact Takes.nil | (apply Takes.cons; focus (repeat (first | exact Take.head | apply Take.tail | apply Take.right)))))⟩
  · obtain rfl : i = a.length := by omega
    repeat' (first | apply ar_nil | (apply ar_ev; (apply ev_assign; rfl); rfl) | apply aw_seq | apply a_region | apply aw_exit | apply aw_ret | apply go_seq | apply go_seq_exit | apply go_block_exit | apply go_loop_exit)
    exact g_ret1 (r_tmp rfl) .nil (by rw [decide_eq_true]; rw [List.take_length] at ht; rw [ht, hlen, List.take_length])

abbrev markF : Fld := ⟨⟨#[109, 97, 114, 107]⟩, ⟨#[118, 97, 114, 121]⟩, false⟩
@[simp] theorem eqVs_f (a b : ByteArray) (c : Bool) : eqVs [.string a, .string b, .bool c] [.string a, .string b, .bool c] = true := by simp [eqVs, eqV]
theorem lend_ok (l : List Fld) (hn : l.length ≤ 1073741824) : FnC Tryd.prog 13 [] [fsl l] (fun ts r => ∃ lab, ts = [(lab, .row 33 3 (l.map encF ++ [encF markF]))] ∧ r = .own lab 0 l.length) := by
  refine fn_of Tryd.func13 rfl Tryd.ntmps13 Tryd.results13 rfl fun G => ?_
  have hlen : (l.map encF).length = l.length := by simp
  repeat' (first | apply ar_nil | (apply ar_ev; (apply ev_move; rfl); rfl) | (apply ar_ev; (first | (apply ev_assign; rfl) | (apply ev_len_sl; rfl) | (apply ev_slice_own; rfl; (focus ((repeat (first | exact Take.head | apply Take.tail | apply Take.right)); done)); exact (by first | exact LoB.none | exact LoB.some (l := 0) rfl | exact LoB.some (l := 1) rfl | exact LoB.some rfl); exact (by first | exact HiB.none | exact HiB.some rfl); exact (by first | omega | assumption); exact (by first | omega | assumption | (simp; done) | (simp; omega) | exact Nat.le_of_ble_eq_true rfl)) | (apply ev_build; rfl; rfl; rfl) | (apply ev_buildSlice; rfl; rfl; rfl; rfl; rfl; rfl; rfl)); rfl) | apply aw_seq | apply a_region | apply aw_ret | apply go_seq | (apply ar_new; (apply eff_append_nil; rfl; rfl; exact (by first | omega | assumption | (simp; done) | (simp; omega) | exact Nat.le_of_ble_eq_true rfl); exact (by first | omega | assumption | (simp; done) | (simp; omega) | exact Nat.le_of_ble_eq_true rfl)); exact .nil; rfl; intro lab) | (apply ar_append; rfl; (focus ((repeat (first | exact Take.head | apply Take.tail | apply Take.right)); done)); rfl; exact (by first | omega | assumption | (simp; done) | (simp; omega) | exact Nat.le_of_ble_eq_true rfl); exact (by first | omega | assumption | (simp; done) | (simp; omega) | exact Nat.le_of_ble_eq_true rfl); exact (by first | omega | assumption | (simp; done) | (simp; omega) | exact Nat.le_of_ble_eq_true rfl); rfl; intro lab))
  have hrow : List.take l.length (List.drop 0 (List.take l.length (l.map encF))) ++ List.take 1 [encF markF] = l.map encF ++ [encF markF] := by
    rw [take_one _ _ _ (by simp), List.take_of_length_le (by simp)]
  exact g_ret1 (r_tmp rfl) (.cons (by repeat (first | exact Take.head | apply Take.tail | apply Take.right)) .nil) ⟨_, congrArg (fun z => [(_, Tok.row 33 3 z)]) hrow, rfl⟩
theorem kept_ok (l : List Fld) (hn : l.length ≤ 1073741824) : PFn Tryd.prog 17 [.sl 3 (l.map encF ++ [encF markF]) l.length, fsl l] (vb true) := by
  refine fn_of Tryd.func17 rfl Tryd.ntmps17 Tryd.results17 rfl fun G => ?_
  have hlen : (l.map encF ++ [encF markF]).length = l.length + 1 := by simp
  repeat' (first | apply ar_nil | (apply ar_ev; (apply ev_assign; rfl); rfl) | apply aw_seq | apply a_region | apply aw_block | apply go_seq)
  refine a_loop (fun i : Nat => ⟨[(0, .sl 3 (l.map encF ++ [encF markF]) l.length), (1, fsl l), (5, vi i)], []⟩) (fun i => i ≤ l.length) (fun i => l.length - i) 0 (Sub.of (by repeat (first | exact .nil | refine .cons rfl Le.refl ?_)) (by repeat (first | exact Takes.nil | (apply Takes.cons; focus (repeat (first | exact Take.head | apply Take.tail | apply Take.right)))))) (Nat.zero_le _) ?_
  rintro i hi
  repeat' (first | apply ar_nil | (apply ar_ev; (apply ev_move; rfl); rfl) | (apply ar_ev; (first | (apply ev_lss; rfl; rfl) | (apply ev_len_sl; rfl)); rfl) | apply aw_seq | apply a_region | apply go_seq)
  refine aw_condp rfl (fun hk => ?_) (fun hk => ?_)
  · obtain ⟨f, hfe⟩ : ∃ f, l[i]? = some f := ⟨_, List.getElem?_eq_getElem (by omega)⟩
    have hf1 := fsl_get hfe
    have hf2 : (l.map encF ++ [encF markF])[i]? = some (encF f) := by rw [List.getElem?_append_left (by simp; omega)]; exact hf1
    repeat' (first | apply ar_nil | (apply ar_ev; (apply ev_move; rfl); rfl) | (apply ar_ev; (first | (apply ev_assign; rfl) | (apply ev_load_ip_agg; rfl; exact Nat.le_of_ble_eq_true rfl) | (apply ev_inc; rfl; exact (by first | omega | assumption)) | (apply ev_net; rfl; rfl; rfl; rfl; rfl; rfl) | (apply ev_indexAddr_sl; rfl; rfl; exact (by first | omega | assumption); exact (by first | rfl | assumption | exact get_map (by assumption)))); rfl) | apply aw_seq | apply a_region | apply aw_block | apply aw_skip | (apply aw_condb; rfl; all_goals (intro hc; try (exfalso; first | omega | contradiction | (simp at hc; omega) | (simp_all; done)))) | apply go_seq | apply go_block | (first | (apply a_drawN 2; rfl; rfl) | (apply a_drawN 3; rfl; rfl) | (apply a_drawN 4; rfl; rfl) | (apply a_drawN 5; rfl; rfl) | (apply a_drawN 6; rfl; rfl) | (apply a_drawN 7; rfl; rfl) | (apply a_drawN 8; rfl; rfl) | (apply a_drawN 9; rfl; rfl) | (apply a_drawN 10; rfl; rfl) | (apply a_drawN 11; rfl; rfl) | (apply a_drawN 12; rfl; rfl) | (apply a_drawN 13; rfl; rfl) | (apply a_drawN 14; rfl; rfl) | (apply a_drawN 15; rfl; rfl) | (apply a_drawN 16; rfl; rfl) | (apply a_drawN 17; rfl; rfl) | (apply a_drawN 18; rfl; rfl) | (apply a_drawN 19; rfl; rfl) | (apply a_drawN 20; rfl; rfl) | (apply a_drawN 21; rfl; rfl) | (apply a_drawN 22; rfl; rfl) | (apply a_drawN 23; rfl; rfl) | (apply a_drawN 24; rfl; rfl) | (apply a_drawN 25; rfl; rfl) | (apply a_drawN 26; rfl; rfl) | (apply a_drawN 27; rfl; rfl) | (apply a_drawN 28; rfl; rfl) | (apply a_drawN 29; rfl; rfl) | (apply a_drawN 30; rfl; rfl) | (apply a_drawN 31; rfl; rfl) | (apply a_drawN 32; rfl; rfl) | (apply a_drawN 33; rfl; rfl) | (apply a_drawN 34; rfl; rfl) | (apply a_drawN 35; rfl; rfl) | (apply a_drawN 36; rfl; rfl) | (apply a_drawN 37; rfl; rfl) | (apply a_drawN 38; rfl; rfl) | (apply a_drawN 39; rfl; rfl) | (apply a_drawN 40; rfl; rfl) | (apply a_drawN 41; rfl; rfl) | (apply a_drawN 42; rfl; rfl) | (apply a_drawN 43; rfl; rfl) | (apply a_drawN 44; rfl; rfl) | (apply a_drawN 45; rfl; rfl)))
    exact go_loop_back ⟨i + 1, by omega, by omega, Sub.of (by repeat (first | exact .nil | refine .cons rfl Le.refl ?_)) (by repeat (first | exact Takes.nil | (apply Takes.cons; focus (repeat (first | exact Take.head | apply Take.tail | apply Take.right)))))⟩
  · obtain rfl : i = l.length := by omega
    have hf2 : (l.map encF ++ [encF markF])[l.length]? = some (encF markF) := by simp
    repeat' (first | apply ar_nil | (apply ar_splitp; (apply ev_move; rfl); rfl; all_goals (intro hc; try (exfalso; first | omega | contradiction | (simp at hc; omega) | (simp_all; done)))) | (apply ar_ev; (apply ev_move; rfl); rfl) | (apply ar_ev; (first | (apply ev_assign; rfl) | (apply ev_pick_t; rfl; rfl) | (apply ev_eqip; rfl; rfl) | (apply ev_len_sl; rfl)); rfl) | (apply ar_take; rfl; rfl; rfl; (apply ev_move; rfl); rfl) | (apply ar_take; rfl; rfl; rfl; (first | (apply ev_load_ip_agg; rfl; exact Nat.le_of_ble_eq_true rfl) | (apply ev_inc; rfl; exact (by first | omega | assumption)) | (apply ev_eqt; rfl; rfl; rfl; rfl; rfl; rfl) | (apply ev_len_sl; rfl) | (apply ev_indexAddr_sl; rfl; rfl; exact (by first | omega | assumption); exact (by first | rfl | assumption | exact get_map (by assumption))) | (apply ev_slice_sl; rfl; exact (by first | exact LoB.none | exact LoB.some (l := 0) rfl | exact LoB.some (l := 1) rfl | exact LoB.some rfl); exact (by first | exact HiB.none | exact HiB.some rfl); exact (by first | omega | assumption); exact (by first | omega | assumption | (simp; done) | (simp; omega) | exact Nat.le_of_ble_eq_true rfl)) | (apply ev_build; rfl; rfl; rfl)); rfl) | apply aw_seq | apply a_region | apply aw_exit | apply aw_ret | apply go_seq | apply go_seq_exit | apply go_block_exit | apply go_loop_exit)
    exact g_ret1 (r_tmp rfl) .nil (by rw [eqVs_f])

/-- Are two requests alike, as far as these names go? -/
def alikeN (p a : Rq) (names : List ByteArray) : Bool := decide (p.m = a.m) && decide (p.s = a.s) && decide (p.a = a.a) && decide (p.p = a.p) && names.all fun n => decide (valuesN p.fs n = valuesN a.fs n)
theorem match1_ok (p a : Rq) (n : ByteArray) (hp : p.fs.length ≤ 1073741824) (ha : a.fs.length ≤ 1073741824) : PFn Tryd.prog 48 ([vs n] ++ [.ip (encQ p), .ip (encQ a)]) (vb (!decide (valuesN p.fs n = valuesN a.fs n))) := by
  refine fn_of Tryd.func48 rfl Tryd.ntmps48 Tryd.results48 rfl fun G => ?_
  have h1 := values_le p.fs n
  repeat' (first | apply ar_nil | (apply ar_ev; (apply ev_move; rfl); rfl) | (apply ar_ev; (first | exact ev_call rfl rfl (values_ok p.fs n (by omega)) | exact ev_call rfl rfl (values_ok a.fs n (by omega)) | exact ev_call rfl rfl (same_ok _ _ (by omega)) | (apply ev_load_ip_one; rfl; rfl) | (apply ev_fieldAddr_ip; rfl) | (apply ev_assign; rfl) | (apply ev_notp; rfl)); rfl) | apply aw_seq | apply a_region | apply aw_ret | apply go_seq | (first | (apply a_drawN 2; rfl; rfl) | (apply a_drawN 3; rfl; rfl) | (apply a_drawN 4; rfl; rfl) | (apply a_drawN 5; rfl; rfl) | (apply a_drawN 6; rfl; rfl) | (apply a_drawN 7; rfl; rfl) | (apply a_drawN 8; rfl; rfl) | (apply a_drawN 9; rfl; rfl) | (apply a_drawN 10; rfl; rfl) | (apply a_drawN 11; rfl; rfl) | (apply a_drawN 12; rfl; rfl) | (apply a_drawN 13; rfl; rfl) | (apply a_drawN 14; rfl; rfl) | (apply a_drawN 15; rfl; rfl) | (apply a_drawN 16; rfl; rfl) | (apply a_drawN 17; rfl; rfl) | (apply a_drawN 18; rfl; rfl) | (apply a_drawN 19; rfl; rfl) | (apply a_drawN 20; rfl; rfl) | (apply a_drawN 21; rfl; rfl) | (apply a_drawN 22; rfl; rfl) | (apply a_drawN 23; rfl; rfl) | (apply a_drawN 24; rfl; rfl) | (apply a_drawN 25; rfl; rfl) | (apply a_drawN 26; rfl; rfl) | (apply a_drawN 27; rfl; rfl) | (apply a_drawN 28; rfl; rfl) | (apply a_drawN 29; rfl; rfl) | (apply a_drawN 30; rfl; rfl) | (apply a_drawN 31; rfl; rfl) | (apply a_drawN 32; rfl; rfl) | (apply a_drawN 33; rfl; rfl) | (apply a_drawN 34; rfl; rfl) | (apply a_drawN 35; rfl; rfl) | (apply a_drawN 36; rfl; rfl) | (apply a_drawN 37; rfl; rfl) | (apply a_drawN 38; rfl; rfl) | (apply a_drawN 39; rfl; rfl) | (apply a_drawN 40; rfl; rfl) | (apply a_drawN 41; rfl; rfl) | (apply a_drawN 42; rfl; rfl) | (apply a_drawN 43; rfl; rfl) | (apply a_drawN 44; rfl; rfl) | (apply a_drawN 45; rfl; rfl)))
  exact g_ret1 (r_tmp rfl) .nil (by simp)
theorem indexFunc_ok (xs : List ByteArray) (fn : AV) (caps : List AV) (f : FuncId) [Ent Tryd.prog f] (p : ByteArray → Bool) (hn : xs.length ≤ 1099511627776) (hp : ∀ x, x ∈ xs → PFn Tryd.prog f ([vs x] ++ caps) (vb (p x))) : FnC Tryd.prog 84 [] [ssl xs, .fn f caps] (fun ts r => ts = [] ∧ ∃ n : Int, r = vi n ∧ (0 ≤ n ↔ xs.any p = true)) := by
  refine fn_of Tryd.func84 rfl Tryd.ntmps84 Tryd.results84 rfl fun G => ?_
  repeat' (first | apply ar_nil | (apply ar_ev; (apply ev_move; rfl); rfl) | (apply ar_ev; (first | (apply ev_assign; rfl) | (apply ev_len_sl; rfl)); rfl) | apply aw_seq | apply a_region | apply aw_block | apply go_seq)
  refine a_loop (fun i : Nat => ⟨[(0, ssl xs), (1, .fn f caps), (7, vi xs.length), (8, vi i)], []⟩) (fun i => i ≤ xs.length ∧ (xs.take i).any p = false) (fun i => xs.length - i) 0 (Sub.of (by repeat (first | exact .nil | refine .cons rfl Le.refl ?_)) (by repeat (first | exact Takes.nil | (apply Takes.cons; focus (repeat (first | exact Take.head | apply Take.tail | apply Take.right)))))) ⟨Nat.zero_le _, rfl⟩ ?_
  rintro i ⟨hi, ht⟩
  repeat' (first | apply ar_nil | (apply ar_ev; (apply ev_lss; rfl; rfl); rfl) | apply aw_seq | apply a_region | apply go_seq)
  refine aw_condp rfl (fun hk => ?_) (fun hk => ?_)
  · obtain ⟨x, hx⟩ : ∃ x, xs[i]? = some x := ⟨_, List.getElem?_eq_getElem (by omega)⟩
    have hx2 := ssl_get hx
    have hpx := hp x (List.mem_of_getElem? hx)
    repeat' (first | apply ar_nil | (apply ar_ev; (apply ev_move; rfl); rfl) | (apply ar_ev; (first | exact ev_call rfl rfl hpx | (apply ev_load_ip_one; rfl; rfl) | (apply ev_assign; rfl) | (apply ev_inc; rfl; exact (by first | omega | assumption)) | (apply ev_indexAddr_sl; rfl; rfl; exact (by first | omega | assumption); exact (by first | rfl | assumption | exact get_map (by assumption)))); rfl) | apply aw_seq | apply a_region | apply aw_block | apply aw_skip | apply aw_ret | (apply aw_condb; rfl; all_goals (intro hc; try (exfalso; first | omega | contradiction | (simp at hc; omega) | (simp_all; done)))) | apply go_seq | apply go_seq_ret | apply go_block | apply go_block_ret | apply go_loop_ret)
    · exact g_ret1 (r_tmp rfl) .nil ⟨rfl, (i : Int), rfl, ⟨fun _ => List.any_eq_true.2 ⟨x, List.mem_of_getElem? hx, hc⟩, fun _ => by omega⟩⟩
    · refine go_loop_back ⟨i + 1, ⟨by omega, ?_⟩, by omega, Sub.of (by repeat (first | exact .nil | refine .cons rfl Le.refl ?_)) (by repeat (first | exact Takes.nil | (apply Takes.cons; focus (repeat (first | exact Take.head | apply Take.tail | apply Take.right)))))⟩
      rw [List.take_add_one, hx, List.any_append, ht, Option.toList_some, List.any_cons, hc]; rfl
  · obtain rfl : i = xs.length := by omega
    rw [List.take_length] at ht
    repeat' (first | apply ar_nil | (apply ar_ev; (apply ev_assign; rfl); rfl) | apply aw_seq | apply a_region | apply aw_exit | apply aw_ret | apply go_seq | apply go_seq_exit | apply go_block_exit | apply go_loop_exit)
    exact g_ret1 (r_tmp rfl) .nil ⟨rfl, -1, rfl, ⟨fun h => by omega, fun h => by rw [ht] at h; cases h⟩⟩
theorem containsFunc_ok (xs : List ByteArray) (caps : List AV) (f : FuncId) [Ent Tryd.prog f] (p : ByteArray → Bool) (hn : xs.length ≤ 1099511627776) (hp : ∀ x, x ∈ xs → PFn Tryd.prog f ([vs x] ++ caps) (vb (p x))) : PFn Tryd.prog 47 [ssl xs, .fn f caps] (vb (xs.any p)) := by
  refine fn_of Tryd.func47 rfl Tryd.ntmps47 Tryd.results47 rfl fun G => ?_
  repeat' (first | apply ar_nil | (apply ar_ev; (apply ev_move; rfl); rfl) | (apply ar_ev; (apply ev_assign; rfl); rfl) | apply aw_seq | apply a_region | apply go_seq)
  apply ar_call (indexFunc_ok xs (.fn f caps) caps f p hn hp); rfl; rfl; (focus ((repeat (first | exact Takes.nil | (apply Takes.cons; focus (repeat (first | exact Take.head | apply Take.tail | apply Take.right))))); done)); rfl; rintro _ _ ⟨rfl, n, rfl, h⟩
  repeat' (first | apply ar_nil | (apply ar_ev; (first | (apply ev_assign; rfl) | (apply ev_geq; rfl; rfl)); rfl) | apply aw_ret | apply go_seq)
  have e : decide (n ≥ 0) = xs.any p := Bool.eq_iff_iff.2 (by rw [decide_eq_true_iff]; exact h)
  exact g_ret1 (r_tmp rfl) .nil (by rw [e])
theorem alike_if (p a : Rq) (names : List ByteArray) : alikeN p a names = if p.m ≠ a.m then false else if p.s ≠ a.s then false else if p.a ≠ a.a then false else if p.p ≠ a.p then false else names.all fun n => decide (valuesN p.fs n = valuesN a.fs n) := by
  unfold alikeN
  by_cases h1 : p.m = a.m <;> by_cases h2 : p.s = a.s <;> by_cases h3 : p.a = a.a <;> by_cases h4 : p.p = a.p <;> simp [h1, h2, h3, h4]
set_option maxHeartbeats 2000000 in
theorem Match_ok (p a : Rq) (names : List ByteArray) (hp : p.fs.length ≤ 1073741824) (ha : a.fs.length ≤ 1073741824) (hn : names.length ≤ 1099511627776) : PFn Tryd.prog 18 [.agg (encQ p), .agg (encQ a), ssl names] (vb (alikeN p a names)) := by
  refine fn_of Tryd.func18 rfl Tryd.ntmps18 Tryd.results18 rfl fun G => ?_
  have hcf := containsFunc_ok names [.ip (encQ p), .ip (encQ a)] 48 (fun n => !decide (valuesN p.fs n = valuesN a.fs n)) hn (fun n _ => match1_ok p a n hp ha)
  have hai := alike_if p a names
  have hall : (!names.any fun n => !decide (valuesN p.fs n = valuesN a.fs n)) = names.all fun n => decide (valuesN p.fs n = valuesN a.fs n) := by
    rw [List.any_eq_not_all_not, Bool.not_not]; simp
  repeat' (first | apply ar_nil | (apply ar_splitp; (apply ev_move; rfl); rfl; all_goals (intro hc; try (exfalso; first | omega | contradiction | (simp at hc; omega) | (simp_all; done)))) | (apply ar_ev; (apply ev_move (y := .val (.bool true)); rfl); rfl) | (apply ar_ev; (apply ev_move; rfl); rfl) | (apply ar_ev; (first | (apply ev_callL hcf; rfl; rfl; (focus ((repeat (first | exact Cvs.nil | (apply Cvs.cons; first | exact Cv.refl | exact Cv.le Le.nil | (apply Cv.own0; (focus ((repeat (first | exact Take.head | apply Take.tail | apply Take.right)); done)); exact (by first | omega | assumption | (simp; done) | (simp; omega) | exact Nat.le_of_ble_eq_true rfl)) | (apply Cv.own_pre; (focus ((repeat (first | exact Take.head | apply Take.tail | apply Take.right)); done)); exact (by first | omega | assumption | (simp; done) | (simp; omega) | exact Nat.le_of_ble_eq_true rfl)) | (apply Cv.ptr0; (focus ((repeat (first | exact Take.head | apply Take.tail | apply Take.right)); done)); first | rfl | assumption) | (apply Cv.agg; (focus ((repeat (first | exact Cvs.nil | (apply Cvs.cons; first | exact Cv.refl | exact Cv.le Le.nil | (apply Cv.own0; (focus ((repeat (first | exact Take.head | apply Take.tail | apply Take.right)); done)); exact (by first | omega | assumption | (simp; done) | (simp; omega) | exact Nat.le_of_ble_eq_true rfl)) | (apply Cv.own_pre; (focus ((repeat (first | exact Take.head | apply Take.tail | apply Take.right)); done)); exact (by first | omega | assumption | (simp; done) | (simp; omega) | exact Nat.le_of_ble_eq_true rfl)) | (apply Cv.ptr0; (focus ((repeat (first | exact Take.head | apply Take.tail | apply Take.right)); done)); first | rfl | assumption) | (apply Cv.agg; (focus ((repeat (first | exact Cvs.nil | (apply Cvs.cons; first | exact Cv.refl | exact Cv.le Le.nil | (apply Cv.own0; (focus ((repeat (first | exact Take.head | apply Take.tail | apply Take.right)); done)); exact (by first | omega | assumption | (simp; done) | (simp; omega) | exact Nat.le_of_ble_eq_true rfl)) | (apply Cv.own_pre; (focus ((repeat (first | exact Take.head | apply Take.tail | apply Take.right)); done)); exact (by first | omega | assumption | (simp; done) | (simp; omega) | exact Nat.le_of_ble_eq_true rfl)) | (apply Cv.ptr0; (focus ((repeat (first | exact Take.head | apply Take.tail | apply Take.right)); done)); first | rfl | assumption)))); done))) | (apply Cv.fn; (focus ((repeat (first | exact Cvs.nil | (apply Cvs.cons; first | exact Cv.refl | exact Cv.le Le.nil | (apply Cv.own0; (focus ((repeat (first | exact Take.head | apply Take.tail | apply Take.right)); done)); exact (by first | omega | assumption | (simp; done) | (simp; omega) | exact Nat.le_of_ble_eq_true rfl)) | (apply Cv.own_pre; (focus ((repeat (first | exact Take.head | apply Take.tail | apply Take.right)); done)); exact (by first | omega | assumption | (simp; done) | (simp; omega) | exact Nat.le_of_ble_eq_true rfl)) | (apply Cv.ptr0; (focus ((repeat (first | exact Take.head | apply Take.tail | apply Take.right)); done)); first | rfl | assumption)))); done)))))); done))) | (apply Cv.fn; (focus ((repeat (first | exact Cvs.nil | (apply Cvs.cons; first | exact Cv.refl | exact Cv.le Le.nil | (apply Cv.own0; (focus ((repeat (first | exact Take.head | apply Take.tail | apply Take.right)); done)); exact (by first | omega | assumption | (simp; done) | (simp; omega) | exact Nat.le_of_ble_eq_true rfl)) | (apply Cv.own_pre; (focus ((repeat (first | exact Take.head | apply Take.tail | apply Take.right)); done)); exact (by first | omega | assumption | (simp; done) | (simp; omega) | exact Nat.le_of_ble_eq_true rfl)) | (apply Cv.ptr0; (focus ((repeat (first | exact Take.head | apply Take.tail | apply Take.right)); done)); first | rfl | assumption) | (apply Cv.agg; (focus ((repeat (first | exact Cvs.nil | (apply Cvs.cons; first | exact Cv.refl | exact Cv.le Le.nil | (apply Cv.own0; (focus ((repeat (first | exact Take.head | apply Take.tail | apply Take.right)); done)); exact (by first | omega | assumption | (simp; done) | (simp; omega) | exact Nat.le_of_ble_eq_true rfl)) | (apply Cv.own_pre; (focus ((repeat (first | exact Take.head | apply Take.tail | apply Take.right)); done)); exact (by first | omega | assumption | (simp; done) | (simp; omega) | exact Nat.le_of_ble_eq_true rfl)) | (apply Cv.ptr0; (focus ((repeat (first | exact Take.head | apply Take.tail | apply Take.right)); done)); first | rfl | assumption)))); done))) | (apply Cv.fn; (focus ((repeat (first | exact Cvs.nil | (apply Cvs.cons; first | exact Cv.refl | exact Cv.le Le.nil | (apply Cv.own0; (focus ((repeat (first | exact Take.head | apply Take.tail | apply Take.right)); done)); exact (by first | omega | assumption | (simp; done) | (simp; omega) | exact Nat.le_of_ble_eq_true rfl)) | (apply Cv.own_pre; (focus ((repeat (first | exact Take.head | apply Take.tail | apply Take.right)); done)); exact (by first | omega | assumption | (simp; done) | (simp; omega) | exact Nat.le_of_ble_eq_true rfl)) | (apply Cv.ptr0; (focus ((repeat (first | exact Take.head | apply Take.tail | apply Take.right)); done)); first | rfl | assumption)))); done)))))); done)))))); done)); constructor) | (apply ev_load_ptr_one; rfl; (focus ((repeat (first | exact Take.head | apply Take.tail | apply Take.right)); done)); exact (by first | rfl | assumption | exact get_map (by assumption)); rfl) | (apply ev_fieldAddr_ptr; rfl) | (apply ev_assign; rfl) | (apply ev_pick_t; rfl; rfl) | (apply ev_pick_f; rfl; rfl) | (apply ev_nesp; rfl; rfl) | (apply ev_not; rfl) | (apply ev_makeFunc; rfl)); rfl) | (apply ar_new; (first | apply eff_alloc | (apply eff_box; rfl; exact lies_of rfl) | (apply eff_conv_bytes; rfl; exact (by first | omega | assumption | (simp; done) | (simp; omega) | exact Nat.le_of_ble_eq_true rfl))); exact .nil; rfl; intro lab) | (apply ar_skip; rfl; rfl; rfl; rfl; rfl) | (apply ar_take; rfl; rfl; rfl; (first | (apply ev_load_ptr_one; rfl; (focus ((repeat (first | exact Take.head | apply Take.tail | apply Take.right)); done)); exact (by first | rfl | assumption | exact get_map (by assumption)); rfl) | (apply ev_fieldAddr_ptr; rfl) | (apply ev_nesp; rfl; rfl)); rfl) | apply aw_seq | apply a_region | apply aw_skip | apply aw_ret | (apply aw_condp; rfl; all_goals (intro hc; try (exfalso; first | omega | contradiction | (simp at hc; omega) | (simp_all; done)))) | (apply aw_cond_t; rfl) | apply go_seq | apply go_seq_ret)
  rotate_left 4
  · rename_i h1 h2 h3
    rw [if_neg h1, if_neg h2, if_neg h3, if_neg hc] at hai
    exact g_ret1 (r_tmp rfl) .nil (by rw [hai, ← hall])
  all_goals exact g_ret1 (r_tmp rfl) .nil (by rw [hai]; simp_all)
set_option maxHeartbeats 2000000 in
theorem MatchR_ok (p a : Rq) (names : List ByteArray) (hp : p.fs.length ≤ 1073741824) (ha : a.fs.length ≤ 1073741824) (hn : names.length ≤ 1099511627776) : PFn Tryd.prog 19 [.agg (encQ p), .agg (encQ a), ssl names] (vb (alikeN p a names)) := by
  refine fn_of Tryd.func19 rfl Tryd.ntmps19 Tryd.results19 rfl fun G => ?_
  have hai := alike_if p a names
  repeat' (first | apply ar_nil | (apply ar_splitp; (apply ev_move; rfl); rfl; all_goals (intro hc; try (exfalso; first | omega | contradiction | (simp at hc; omega) | (simp_all; done)))) | (apply ar_ev; (apply ev_move (y := .val (.bool true)); rfl); rfl) | (apply ar_ev; (first | (apply ev_load_ptr_one; rfl; (focus ((repeat (first | exact Take.head | apply Take.tail | apply Take.right)); done)); exact (by first | rfl | assumption | exact get_map (by assumption)); rfl) | (apply ev_fieldAddr_ptr; rfl) | (apply ev_assign; rfl) | (apply ev_pick_t; rfl; rfl) | (apply ev_pick_f; rfl; rfl) | (apply ev_nesp; rfl; rfl)); rfl) | (apply ar_new; (first | apply eff_alloc | (apply eff_box; rfl; exact lies_of rfl) | (apply eff_conv_bytes; rfl; exact (by first | omega | assumption | (simp; done) | (simp; omega) | exact Nat.le_of_ble_eq_true rfl))); exact .nil; rfl; intro lab) | (apply ar_skip; rfl; rfl; rfl; rfl; rfl) | (apply ar_take; rfl; rfl; rfl; (first | (apply ev_load_ptr_one; rfl; (focus ((repeat (first | exact Take.head | apply Take.tail | apply Take.right)); done)); exact (by first | rfl | assumption | exact get_map (by assumption)); rfl) | (apply ev_fieldAddr_ptr; rfl) | (apply ev_nesp; rfl; rfl)); rfl) | apply aw_seq | apply a_region | apply aw_block | apply aw_skip | apply aw_ret | (apply aw_condp; rfl; all_goals (intro hc; try (exfalso; first | omega | contradiction | (simp at hc; omega) | (simp_all; done)))) | (apply aw_cond_t; rfl) | apply go_seq | apply go_seq_ret)
  rotate_left 4
  · rename_i h1 h2 h3
    rw [if_neg h1, if_neg h2, if_neg h3, if_neg hc] at hai
    clear h1 h2 h3 hc
    refine aw_cv 3 rfl (.cons (.tail .head) .nil) (Cv.ptr0 .head rfl) ?_
    refine aw_cv 4 rfl (.cons .head .nil) (Cv.ptr0 .head rfl) ?_
    refine a_loop (fun i : Nat => ⟨[(2, ssl names), (3, .ip (encQ p)), (4, .ip (encQ a)), (7, vi i)], []⟩) (fun i => i ≤ names.length ∧ ((names.take i).all fun n => decide (valuesN p.fs n = valuesN a.fs n)) = true) (fun i => names.length - i) 0 (Sub.of (by repeat (first | exact .nil | refine .cons rfl Le.refl ?_)) (by repeat (first | exact Takes.nil | (apply Takes.cons; focus (repeat (first | exact Take.head | apply Take.tail | apply Take.right)))))) ⟨Nat.zero_le _, rfl⟩ ?_
    rintro i ⟨hi, ht⟩
    repeat' (first | apply ar_nil | (apply ar_ev; (apply ev_move; rfl); rfl) | (apply ar_ev; (first | (apply ev_lss; rfl; rfl) | (apply ev_len_sl; rfl)); rfl) | apply aw_seq | apply a_region | apply go_seq)
    refine aw_condp rfl (fun hk => ?_) (fun hk => ?_)
    · obtain ⟨x, hx⟩ : ∃ x, names[i]? = some x := ⟨_, List.getElem?_eq_getElem (by omega)⟩
      have hx2 := ssl_get hx
      have hfalse : valuesN p.fs x ≠ valuesN a.fs x → alikeN p a names = false := fun h => by
        rw [hai, List.all_eq_false]
        exact ⟨x, List.mem_of_getElem? hx, by simpa using h⟩
      have hvl := values_le p.fs x
      repeat' (first | apply ar_nil | (apply ar_ev; (apply ev_move; rfl); rfl) | (apply ar_ev; (first | exact ev_call rfl rfl (valuesR_ok p.fs x (by omega)) | exact ev_call rfl rfl (valuesR_ok a.fs x (by omega)) | (apply ev_load_ip_one; rfl; rfl) | (apply ev_fieldAddr_ip; rfl) | (apply ev_assign; rfl) | (apply ev_neip; rfl; rfl) | (apply ev_len_sl; rfl) | (apply ev_indexAddr_sl; rfl; rfl; exact (by first | omega | assumption); exact (by first | rfl | assumption | exact get_map (by assumption)))); rfl) | apply aw_seq | apply a_region | apply aw_block | apply aw_skip | apply aw_ret | (apply aw_condp; rfl; all_goals (intro hc; try (exfalso; first | omega | contradiction | (simp at hc; omega) | (simp_all; done)))) | apply go_seq | apply go_seq_ret | apply go_block_ret | apply go_loop_ret | (first | (apply a_drawN 2; rfl; rfl) | (apply a_drawN 3; rfl; rfl) | (apply a_drawN 4; rfl; rfl) | (apply a_drawN 5; rfl; rfl) | (apply a_drawN 6; rfl; rfl) | (apply a_drawN 7; rfl; rfl) | (apply a_drawN 8; rfl; rfl) | (apply a_drawN 9; rfl; rfl) | (apply a_drawN 10; rfl; rfl) | (apply a_drawN 11; rfl; rfl) | (apply a_drawN 12; rfl; rfl) | (apply a_drawN 13; rfl; rfl) | (apply a_drawN 14; rfl; rfl) | (apply a_drawN 15; rfl; rfl) | (apply a_drawN 16; rfl; rfl) | (apply a_drawN 17; rfl; rfl) | (apply a_drawN 18; rfl; rfl) | (apply a_drawN 19; rfl; rfl) | (apply a_drawN 20; rfl; rfl) | (apply a_drawN 21; rfl; rfl) | (apply a_drawN 22; rfl; rfl) | (apply a_drawN 23; rfl; rfl) | (apply a_drawN 24; rfl; rfl) | (apply a_drawN 25; rfl; rfl) | (apply a_drawN 26; rfl; rfl) | (apply a_drawN 27; rfl; rfl) | (apply a_drawN 28; rfl; rfl) | (apply a_drawN 29; rfl; rfl) | (apply a_drawN 30; rfl; rfl) | (apply a_drawN 31; rfl; rfl) | (apply a_drawN 32; rfl; rfl) | (apply a_drawN 33; rfl; rfl) | (apply a_drawN 34; rfl; rfl) | (apply a_drawN 35; rfl; rfl) | (apply a_drawN 36; rfl; rfl) | (apply a_drawN 37; rfl; rfl) | (apply a_drawN 38; rfl; rfl) | (apply a_drawN 39; rfl; rfl) | (apply a_drawN 40; rfl; rfl) | (apply a_drawN 41; rfl; rfl) | (apply a_drawN 42; rfl; rfl) | (apply a_drawN 43; rfl; rfl) | (apply a_drawN 44; rfl; rfl) | (apply a_drawN 45; rfl; rfl)))
      · exact g_ret1 (r_tmp rfl) .nil (by rw [hfalse fun h => hc (by rw [h])])
      · have hlen : (valuesN p.fs x).length = (valuesN a.fs x).length := by omega
        generalize hA : valuesN p.fs x = A at *
        generalize hB : valuesN a.fs x = B at *
        refine a_loop (fun j : Nat => ⟨[(2, ssl names), (3, .ip (encQ p)), (4, .ip (encQ a)), (7, vi i), (8, ssl A), (9, ssl B), (10, vi j)], []⟩) (fun j => j ≤ A.length ∧ A.take j = B.take j) (fun j => A.length - j) 0 (Sub.of (by repeat (first | exact .nil | refine .cons rfl Le.refl ?_)) (by repeat (first | exact Takes.nil | (apply Takes.cons; focus (repeat (first | exact Take.head | apply Take.tail | apply Take.right)))))) ⟨Nat.zero_le _, rfl⟩ ?_
        rintro j ⟨hj, htj⟩
        repeat' (first | apply ar_nil | (apply ar_ev; (apply ev_move; rfl); rfl) | (apply ar_ev; (first | (apply ev_lss; rfl; rfl) | (apply ev_len_sl; rfl)); rfl) | apply aw_seq | apply a_region | apply go_seq)
        refine aw_condp rfl (fun hk2 => ?_) (fun hk2 => ?_)
        · obtain ⟨y, hy⟩ : ∃ y, A[j]? = some y := ⟨_, List.getElem?_eq_getElem (by omega)⟩
          obtain ⟨z, hz⟩ : ∃ z, B[j]? = some z := ⟨_, List.getElem?_eq_getElem (by omega)⟩
          have hy2 := ssl_get hy
          have hz2 := ssl_get hz
          have hst := take_eq_step hy hz
          clear hfalse
          have hfalse : y ≠ z → alikeN p a names = false := fun h => by
            rw [hai, List.all_eq_false]
            refine ⟨x, List.mem_of_getElem? hx, ?_⟩
            rw [hA, hB]
            simp only [decide_eq_true_iff]
            rintro rfl
            rw [hy] at hz
            exact h (Option.some.inj hz)
          repeat' (first | apply ar_nil | (apply ar_ev; (apply ev_move; rfl); rfl) | (apply ar_ev; (first | (apply ev_load_ip_one; rfl; rfl) | (apply ev_assign; rfl) | (apply ev_inc; rfl; exact (by first | omega | assumption)) | (apply ev_nesp; rfl; rfl) | (apply ev_indexAddr_sl; rfl; rfl; exact (by first | omega | assumption); exact (by first | rfl | assumption | exact get_map (by assumption)))); rfl) | apply aw_seq | apply a_region | apply aw_block | apply aw_skip | apply aw_ret | (apply aw_condp; rfl; all_goals (intro hc; try (exfalso; first | omega | contradiction | (simp at hc; omega) | (simp_all; done)))) | apply go_seq | apply go_seq_ret | apply go_block | apply go_block_ret | apply go_loop_ret | (first | (apply a_drawN 2; rfl; rfl) | (apply a_drawN 3; rfl; rfl) | (apply a_drawN 4; rfl; rfl) | (apply a_drawN 5; rfl; rfl) | (apply a_drawN 6; rfl; rfl) | (apply a_drawN 7; rfl; rfl) | (apply a_drawN 8; rfl; rfl) | (apply a_drawN 9; rfl; rfl) | (apply a_drawN 10; rfl; rfl) | (apply a_drawN 11; rfl; rfl) | (apply a_drawN 12; rfl; rfl) | (apply a_drawN 13; rfl; rfl) | (apply a_drawN 14; rfl; rfl) | (apply a_drawN 15; rfl; rfl) | (apply a_drawN 16; rfl; rfl) | (apply a_drawN 17; rfl; rfl) | (apply a_drawN 18; rfl; rfl) | (apply a_drawN 19; rfl; rfl) | (apply a_drawN 20; rfl; rfl) | (apply a_drawN 21; rfl; rfl) | (apply a_drawN 22; rfl; rfl) | (apply a_drawN 23; rfl; rfl) | (apply a_drawN 24; rfl; rfl) | (apply a_drawN 25; rfl; rfl) | (apply a_drawN 26; rfl; rfl) | (apply a_drawN 27; rfl; rfl) | (apply a_drawN 28; rfl; rfl) | (apply a_drawN 29; rfl; rfl) | (apply a_drawN 30; rfl; rfl) | (apply a_drawN 31; rfl; rfl) | (apply a_drawN 32; rfl; rfl) | (apply a_drawN 33; rfl; rfl) | (apply a_drawN 34; rfl; rfl) | (apply a_drawN 35; rfl; rfl) | (apply a_drawN 36; rfl; rfl) | (apply a_drawN 37; rfl; rfl) | (apply a_drawN 38; rfl; rfl) | (apply a_drawN 39; rfl; rfl) | (apply a_drawN 40; rfl; rfl) | (apply a_drawN 41; rfl; rfl) | (apply a_drawN 42; rfl; rfl) | (apply a_drawN 43; rfl; rfl) | (apply a_drawN 44; rfl; rfl) | (apply a_drawN 45; rfl; rfl)))
          · exact g_ret1 (r_tmp rfl) .nil (by rw [hfalse ‹y ≠ z›])
          · exact go_loop_back ⟨j + 1, ⟨by omega, hst.2 ⟨htj, Decidable.not_not.1 ‹¬ y ≠ z›⟩⟩, by omega, Sub.of (by repeat (first | exact .nil | refine .cons rfl Le.refl ?_)) (by repeat (first | exact Takes.nil | (apply Takes.cons; focus (repeat (first | exact Take.head | apply Take.tail | apply Take.right)))))⟩
        · obtain rfl : j = A.length := by omega
          have hAB : A = B := by rw [List.take_length] at htj; rw [htj, hlen, List.take_length]
          repeat' (first | apply ar_nil | (apply ar_ev; (apply ev_move; rfl); rfl) | (apply ar_ev; (first | (apply ev_assign; rfl) | (apply ev_inc; rfl; exact (by first | omega | assumption))); rfl) | apply a_region | apply aw_exit | apply go_seq | apply go_seq_exit | apply go_block | apply go_block_exit | apply go_loop_exit)
          refine go_loop_back ⟨i + 1, ⟨by omega, ?_⟩, by omega, Sub.of (by repeat (first | exact .nil | refine .cons rfl Le.refl ?_)) (by repeat (first | exact Takes.nil | (apply Takes.cons; focus (repeat (first | exact Take.head | apply Take.tail | apply Take.right)))))⟩
          rw [List.take_add_one, hx, List.all_append, ht, Option.toList_some, List.all_cons, hA, hB, decide_eq_true hAB]; rfl
    · obtain rfl : i = names.length := by omega
      rw [List.take_length] at ht
      repeat' (first | apply ar_nil | (apply ar_ev; (apply ev_assign; rfl); rfl) | apply aw_seq | apply a_region | apply aw_exit | apply aw_ret | apply go_seq | apply go_seq_exit | apply go_block_exit | apply go_loop_exit)
      exact g_ret1 (r_tmp rfl) .nil (by rw [hai, ht])
  all_goals exact g_ret1 (r_tmp rfl) .nil (by rw [hai]; simp_all)
end Go.Proofs.YtphkfejckafamaaDoor
