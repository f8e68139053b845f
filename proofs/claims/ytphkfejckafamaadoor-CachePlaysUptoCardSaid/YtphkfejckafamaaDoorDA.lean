import Derived.Test.YtphkfejckafamaaDoorCA
set_option linter.unusedVariables false
set_option linter.unusedSimpArgs false
set_option maxRecDepth 100000
namespace Go.Proofs.YtphkfejckafamaaDoor
open Go.Proofs Go.Proofs.YtphkfejckafamaaDoorA

theorem split_late {c : Cf} {k : Int} {l : List En} (h : ∀ y, y ∈ l.drop (lapseN c k l) → late c k y = false) : l.filter (late c k) = l.take (lapseN c k l) ∧ l.filter (fun x => !late c k x) = l.drop (lapseN c k l) := by
  have h1 : ∀ y, y ∈ l.take (lapseN c k l) → late c k y = true := fun y hy => by
    obtain ⟨i, hi⟩ := List.getElem?_of_mem hy
    have hl := (List.getElem?_eq_some_iff.1 hi).1
    rw [List.length_take] at hl
    rw [List.getElem?_take, if_pos (by omega)] at hi
    exact tw_take (f := late c k) (by unfold lapseN at hl; omega) hi
  have e := (List.take_append_drop (lapseN c k l) l).symm
  generalize l.take (lapseN c k l) = A at *
  generalize l.drop (lapseN c k l) = D at *
  subst e
  rw [List.filter_append, List.filter_append]
  refine ⟨?_, ?_⟩
  · rw [List.filter_eq_self.2 h1, List.filter_eq_nil_iff.2 (fun y hy => by rw [h y hy]; decide), List.append_nil]
  · rw [List.filter_eq_nil_iff.2 (fun y hy => by rw [h1 y hy]; decide), List.filter_eq_self.2 (fun y hy => by rw [h y hy]; rfl), List.nil_append]
abbrev SrtA (l : List En) : Prop := l.Pairwise fun x y => x.ar ≤ y.ar
theorem restA {c : Cf} {k : Int} {l : List En} (h : SrtA l) : ∀ y, y ∈ l.drop (lapseN c k l) → late c k y = false := by
  intro y hy
  obtain ⟨j, hj⟩ := List.getElem?_of_mem hy
  rw [List.getElem?_drop] at hj
  have hlt := (List.getElem?_eq_some_iff.1 hj).1
  obtain ⟨x, hx⟩ : ∃ x, l[lapseN c k l]? = some x := ⟨_, List.getElem?_eq_getElem (by omega)⟩
  have hf := tw_next (f := late c k) (l := l) hx
  have hle : x.ar ≤ y.ar := by
    by_cases he : j = 0
    · rw [he, Nat.add_zero, hx] at hj; cases hj; exact Int.le_refl _
    · have := List.pairwise_iff_getElem.1 h (lapseN c k l) (lapseN c k l + j) (by omega) hlt (by omega)
      rw [(List.getElem?_eq_some_iff.1 hx).2, (List.getElem?_eq_some_iff.1 hj).2] at this
      exact this
  unfold late at hf ⊢
  simp only [decide_eq_false_iff_not] at hf ⊢
  omega
set_option maxHeartbeats 8000000 in
theorem tick59_ok (lm ll : Nat) (c : Cf) (l : List En) (k t : Int) (h : OkC c l k) (hs : SrtA l) (ht : t ≤ 9223372036854775807) :
    FnC Tryd.prog 59 (rtok lm ll c l k) [.ptr lm 0 0, vi t] (fun ts r => ∃ ll' lg, ts = rtok lm ll' c (l.drop (lapseN c (max k t) l)) (max k t) ++ [gtok lg (sts (l.take (lapseN c (max k t) l)))] ∧ r = .own lg 0 (lapseN c (max k t) l)) := by
  refine fn_of Tryd.func59 rfl Tryd.ntmps59 Tryd.results59 rfl fun G => ?_
  have hk := h.tick t ht
  have hlen := h.len
  have hce := h.e
  have hlap := lapse_le c (max k t) l
  have hsp := split_late (restA (c := c) (k := max k t) hs)
  generalize hkk : max k t = k' at *
  have hlm : (l.map cellsX).length = l.length := by simp
  repeat' ((fail_if_success (show AW _ (.region 2 _ _) _ _)); (first | apply ar_nil | (apply ar_ev; (apply ev_move; rfl); rfl) | (apply ar_ev; (first | (apply ev_load_ptr_one; rfl; (focus ((repeat (first | exact Take.head | apply Take.tail | apply Take.right)); done)); exact (by first | rfl | assumption | exact get_map (by assumption)); rfl) | (apply ev_fieldAddr_ptr; rfl) | (apply ev_assign; rfl) | (apply ev_nilCheck_ptr; rfl) | (apply ev_max; rfl; rfl)); rfl) | (apply ar_store1; rfl; (focus ((repeat (first | exact Take.head | apply Take.tail | apply Take.right)); done)); rfl; rfl; exact (by first | rfl | assumption | exact get_map (by assumption)); rfl) | apply aw_seq | apply a_region | apply go_seq))
  rw [hkk]
  refine AW.sub (st' := ⟨[(0, .ptr lm 0 0)], rtok lm ll c l k'⟩) (Sub.of (by repeat (first | exact .nil | refine .cons rfl Le.refl ?_)) (by repeat (first | exact Takes.nil | (apply Takes.cons; focus (repeat (first | exact Take.head | apply Take.tail | apply Take.right)))))) ?_
  repeat' ((fail_if_success (show AW _ (.region 4 _ _) _ _)); (first | apply ar_nil | (apply ar_ev; (apply ev_assign; rfl); rfl) | apply aw_seq | apply a_region | apply go_seq))
  refine aw_adopt 5 2 1 rfl fun lg0 => ?_
  refine aw_adopt 6 121 11 rfl fun l60 => ?_
  repeat' (first | apply ar_nil | (apply ar_ev; (apply ev_assign; rfl); rfl) | apply a_region | apply aw_block | apply go_seq)
  refine a_loop (fun g : Nat × Nat × Nat => ⟨[(0, .ptr lm 0 0), (5, .own g.2.1 0 ((l.take g.1).filter (late c k')).length), (6, .own g.2.2 0 ((l.take g.1).filter fun x => !late c k' x).length), (7, vi g.1)], [gtok g.2.1 (sts ((l.take g.1).filter (late c k'))), (g.2.2, .row 121 11 (((l.take g.1).filter fun x => !late c k' x).map cellsX))] ++ rtok lm ll c l k'⟩) (fun g => g.1 ≤ l.length) (fun g => l.length - g.1) (0, lg0, l60) (Sub.of (by repeat (first | exact .nil | refine .cons rfl Le.refl ?_)) (by repeat (first | exact Takes.nil | (apply Takes.cons; focus (repeat (first | exact Take.head | apply Take.tail | apply Take.right)))))) (Nat.zero_le _) ?_
  rintro ⟨i, lg, l6⟩ hi
  dsimp only at hi ⊢
  have hfa : ((l.take i).filter (late c k')).length ≤ i := Nat.le_trans (List.length_filter_le _ _) (by simp; omega)
  have hfb : ((l.take i).filter fun x => !late c k' x).length ≤ i := Nat.le_trans (List.length_filter_le _ _) (by simp; omega)
  by_cases hil : i < l.length
  · obtain ⟨x, hx⟩ : ∃ x, l[i]? = some x := ⟨_, List.getElem?_eq_getElem hil⟩
    have hx1 := x_get hx
    have har := hk.ar x (List.mem_of_getElem? hx)
    have hexp := exp88_ok c (.own ll 0 l.length) k' x ⟨har.1, har.2, hk.clk.2⟩
    have htk : l.take (i + 1) = l.take i ++ [x] := by rw [List.take_add_one, hx]; rfl
    cases hla : late c k' x with
    | true =>
      rw [hla] at hexp
      have e1 : (l.take (i + 1)).filter (late c k') = (l.take i).filter (late c k') ++ [x] := by rw [htk, List.filter_append]; simp [hla]
      have e2 : ((l.take (i + 1)).filter fun x => !late c k' x) = (l.take i).filter fun x => !late c k' x := by rw [htk, List.filter_append]; simp [hla]
      have e3 : ((l.take (i + 1)).filter (late c k')).length = ((l.take i).filter (late c k')).length + 1 := by rw [e1]; simp
      generalize hA : (l.take i).filter (late c k') = A at *
      have hrow : List.take A.length (List.drop 0 ((sts A).map fun s => [vi s])) ++ List.take 1 [[vi x.st]] = (sts (A ++ [x])).map fun s => [vi s] := by
        rw [List.drop_zero, List.take_of_length_le (by simp)]; simp [sts]
      have hal : ((sts A).map fun s => [vi s]).length = A.length := by simp
      clear hsp hs h hk htk hx
      repeat' (first | apply ar_nil | (apply ar_ev; (apply ev_move; rfl); rfl) | (apply ar_ev; (first | (apply ev_callL hexp; rfl; rfl; exact Cvs.cons (Cv.ptr0 (by repeat (first | exact Take.head | apply Take.tail | apply Take.right)) rfl) (Cvs.cons Cv.refl .nil); constructor) | (apply ev_load_ptr_one; rfl; (focus ((repeat (first | exact Take.head | apply Take.tail | apply Take.right)); done)); exact (by first | rfl | assumption | exact get_map (by assumption)); rfl) | (apply ev_fieldAddr_ptr; rfl) | (apply ev_assign; rfl) | (apply ev_nilCheck_ptr; rfl) | (apply ev_load_ptr_agg; rfl; (focus ((repeat (first | exact Take.head | apply Take.tail | apply Take.right)); done)); exact (by first | rfl | assumption | exact get_map (by assumption)); exact Nat.le_of_ble_eq_true rfl) | (apply ev_lss; rfl; rfl) | (apply ev_inc; rfl; exact (by first | omega | assumption)) | (apply ev_len_own; rfl) | (apply ev_indexAddr_own0; rfl; rfl; exact (by first | omega | assumption); (focus ((repeat (first | exact Take.head | apply Take.tail | apply Take.right)); done))) | (apply ev_buildSlice; rfl; rfl; rfl; rfl; rfl; rfl; rfl)); rfl) | apply aw_seq | apply a_region | apply aw_block | apply aw_skip | (apply aw_condp; rfl; all_goals (intro hc; try (exfalso; first | omega | contradiction | (simp at hc; omega) | (simp_all; done)))) | (apply aw_cond_t; rfl) | apply go_seq | apply go_block | (apply ar_append; rfl; (focus ((repeat (first | exact Take.head | apply Take.tail | apply Take.right)); done)); rfl; exact (by first | omega | assumption | (simp; done) | (simp; omega) | exact Nat.le_of_ble_eq_true rfl); exact (by first | omega | assumption | (simp; done) | (simp; omega) | exact Nat.le_of_ble_eq_true rfl); exact (by first | omega | assumption | (simp; done) | (simp; omega) | exact Nat.le_of_ble_eq_true rfl); rfl; intro lab))
      all_goals (apply go_loop_back; refine ⟨(i + 1, lab, l6), by dsimp only; omega, by dsimp only; omega, ?_⟩; dsimp only; rw [e2, e3, e1]; exact Sub.of (by repeat (first | exact .nil | refine .cons rfl Le.refl ?_)) (by repeat (first | exact Takes.nil | (apply Takes.cons; focus (repeat (first | exact Take.head | exact Take.rowc hrow Take.head | apply Take.tail | apply Take.right))))))
    | false =>
      rw [hla] at hexp
      have e1 : (l.take (i + 1)).filter (late c k') = (l.take i).filter (late c k') := by rw [htk, List.filter_append]; simp [hla]
      have e2 : ((l.take (i + 1)).filter fun x => !late c k' x) = ((l.take i).filter fun x => !late c k' x) ++ [x] := by rw [htk, List.filter_append]; simp [hla]
      have e3 : ((l.take (i + 1)).filter fun x => !late c k' x).length = ((l.take i).filter fun x => !late c k' x).length + 1 := by rw [e2]; simp
      generalize hA : ((l.take i).filter fun x => !late c k' x) = A at *
      have hrow : List.take A.length (List.drop 0 (A.map cellsX)) ++ List.take 1 [cellsX x] = (A ++ [x]).map cellsX := by
        rw [List.drop_zero, List.take_of_length_le (by simp)]; simp
      have hal : (A.map cellsX).length = A.length := by simp
      clear hsp hs h hk htk hx
      repeat' (first | apply ar_nil | (apply ar_ev; (apply ev_move; rfl); rfl) | (apply ar_ev; (first | (apply ev_callL hexp; rfl; rfl; exact Cvs.cons (Cv.ptr0 (by repeat (first | exact Take.head | apply Take.tail | apply Take.right)) rfl) (Cvs.cons Cv.refl .nil); constructor) | (apply ev_load_ptr_one; rfl; (focus ((repeat (first | exact Take.head | apply Take.tail | apply Take.right)); done)); exact (by first | rfl | assumption | exact get_map (by assumption)); rfl) | (apply ev_fieldAddr_ptr; rfl) | (apply ev_assign; rfl) | (apply ev_nilCheck_ptr; rfl) | (apply ev_load_ptr_agg; rfl; (focus ((repeat (first | exact Take.head | apply Take.tail | apply Take.right)); done)); exact (by first | rfl | assumption | exact get_map (by assumption)); exact Nat.le_of_ble_eq_true rfl) | (apply ev_lss; rfl; rfl) | (apply ev_inc; rfl; exact (by first | omega | assumption)) | (apply ev_len_own; rfl) | (apply ev_indexAddr_own0; rfl; rfl; exact (by first | omega | assumption); (focus ((repeat (first | exact Take.head | apply Take.tail | apply Take.right)); done))) | (apply ev_buildSlice; rfl; rfl; rfl; rfl; rfl; rfl; rfl)); rfl) | apply aw_seq | apply a_region | apply aw_block | apply aw_skip | (apply aw_condp; rfl; all_goals (intro hc; try (exfalso; first | omega | contradiction | (simp at hc; omega) | (simp_all; done)))) | (apply aw_cond_f; rfl) | apply go_seq | apply go_block | (apply ar_append; rfl; (focus ((repeat (first | exact Take.head | apply Take.tail | apply Take.right)); done)); rfl; exact (by first | omega | assumption | (simp; done) | (simp; omega) | exact Nat.le_of_ble_eq_true rfl); exact (by first | omega | assumption | (simp; done) | (simp; omega) | exact Nat.le_of_ble_eq_true rfl); exact (by first | omega | assumption | (simp; done) | (simp; omega) | exact Nat.le_of_ble_eq_true rfl); rfl; intro lab))
      all_goals (apply go_loop_back; refine ⟨(i + 1, lg, lab), by dsimp only; omega, by dsimp only; omega, ?_⟩; dsimp only; rw [e1, e3, e2]; exact Sub.of (by repeat (first | exact .nil | refine .cons rfl Le.refl ?_)) (by repeat (first | exact Takes.nil | (apply Takes.cons; focus (repeat (first | exact Take.head | exact Take.rowc hrow Take.head | apply Take.tail | apply Take.right))))))
  · obtain rfl : i = l.length := by omega
    rw [List.take_of_length_le (Nat.le_refl _), hsp.1, hsp.2]
    have e4 : (l.take (lapseN c k' l)).length = lapseN c k' l := by simp; omega
    clear hsp hfa hfb hs h hk
    repeat' (first | apply ar_nil | (apply ar_ev; (apply ev_move; rfl); rfl) | (apply ar_ev; (first | (apply ev_load_ptr_one; rfl; (focus ((repeat (first | exact Take.head | apply Take.tail | apply Take.right)); done)); exact (by first | rfl | assumption | exact get_map (by assumption)); rfl) | (apply ev_fieldAddr_ptr; rfl) | (apply ev_assign; rfl) | (apply ev_nilCheck_ptr; rfl) | (apply ev_lss; rfl; rfl) | (apply ev_len_own; rfl)); rfl) | (apply ar_store1; rfl; (focus ((repeat (first | exact Take.head | apply Take.tail | apply Take.right)); done)); rfl; rfl; exact (by first | rfl | assumption | exact get_map (by assumption)); rfl) | apply aw_seq | apply a_region | apply aw_exit | apply aw_ret | (apply aw_condp; rfl; all_goals (intro hc; try (exfalso; first | omega | contradiction | (simp at hc; omega) | (simp_all; done)))) | apply go_seq | apply go_seq_exit | apply go_block_exit | apply go_loop_exit)
    rw [e4]
    exact g_ret1 (us := rtok lm l6 c (l.drop (lapseN c k' l)) k' ++ [gtok lg (sts (l.take (lapseN c k' l)))]) (r_tmp rfl) ((by repeat (first | exact Takes.nil | (apply Takes.cons; focus (repeat (first | exact Take.head | apply Take.tail | apply Take.right)))))) ⟨l6, lg, rfl, rfl⟩
end Go.Proofs.YtphkfejckafamaaDoor
