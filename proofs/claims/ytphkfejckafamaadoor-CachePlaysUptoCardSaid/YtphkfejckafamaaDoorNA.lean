import Derived.Test.YtphkfejckafamaaDoorO
set_option linter.unusedVariables false
set_option linter.unusedSimpArgs false
set_option maxRecDepth 100000
namespace Go.Proofs.YtphkfejckafamaaDoor
open Go.Proofs Go.Proofs.YtphkfejckafamaaDoorA

/-! Lists that are lent: a mark stands behind them. -/
abbrev mk19 : Fld := ⟨⟨#[109, 97, 114, 107]⟩, ⟨#[109, 97, 114, 107]⟩, false⟩
abbrev qO (q : Rq) (lq : Nat) : List AV := [vs q.m, vs q.s, vs q.a, vs q.p, .own lq 0 q.fs.length, vs q.b]
abbrev rO (r : Rs) (lr : Nat) : List AV := [vi r.st, .own lr 0 r.fs.length, vs r.b]
theorem cvR {ts rs : List (Nat × Tok)} {r : Rs} {lr : Nat} (h : Take ts lr (.row 33 3 (r.fs.map encF ++ [encF mk19])) rs) : Cvs ts (rO r lr) (encR r) :=
  .cons .refl (.cons (Cv.own_pre h (by simp)) (.cons .refl .nil))
theorem cvQ {ts rs : List (Nat × Tok)} {q : Rq} {lq : Nat} (h : Take ts lq (.row 33 3 (q.fs.map encF ++ [encF mk19])) rs) : Cvs ts (qO q lq) (encQ q) :=
  .cons .refl (.cons .refl (.cons .refl (.cons .refl (.cons (Cv.own_pre h (by simp)) (.cons .refl .nil)))))
theorem free_names (ln n : Nat) (b : Bool) : AVFree (.tup [.own ln 0 n, vb b]) := .tup fun x hx => by
  simp only [List.mem_cons, List.not_mem_nil, or_false] at hx
  rcases hx with rfl | rfl
  · exact .own _ _ _
  · exact .val _
theorem free_nt (ln : Nat) (l : List ByteArray) : ∀ p, p ∈ [(ln, Tok.row 9 1 (l.map encS))] → TokFree p.2 := fun p hp => by
  rw [List.mem_singleton.1 hp]
  refine .row fun x hx y hy => ?_
  obtain ⟨s, _, rfl⟩ := List.mem_map.1 hx
  rw [List.mem_singleton.1 hy]; exact .val _
theorem cl_free (l : List Fld) : ∀ (ts : List (Nat × Tok)) (r : AV), (∃ lab, ts = [(lab, Tok.row 33 3 (l.map encF))] ∧ r = .own lab 0 l.length) → Cv ts r (fsl l) ∧ AVFree r ∧ ∀ p, p ∈ ts → TokFree p.2 := by
  rintro _ _ ⟨lab, rfl, rfl⟩
  refine ⟨Cv.own0 .head (by simp), .own _ _ _, fun p hp => ?_⟩
  rw [List.mem_singleton.1 hp]
  refine .row fun x hx y hy => ?_
  obtain ⟨f, _, rfl⟩ := List.mem_map.1 hx
  simp only [List.mem_cons, List.not_mem_nil, or_false] at hy
  rcases hy with rfl | rfl | rfl <;> exact .val _
set_option maxHeartbeats 16000000 in
theorem storeO_ok (lc le lq lr : Nat) (c : Cf) (ps : List En) (k : Int) (q : Rq) (r : Rs) (st t : Int) (h : OkC c ps k) (ht : t ≤ 9223372036854775807) (hq : OkFs q.fs) (hr : OkR r) :
    FnC Tryd.prog 36 (ctok lc le c ps (sumZ ps) k ++ [(lq, .row 33 3 (q.fs.map encF ++ [encF mk19])), (lr, .row 33 3 (r.fs.map encF ++ [encF mk19]))]) [.ptr lc 0 0, .agg (qO q lq), .agg (rO r lr), vi st, vi t]
      (fun ts v => ∃ lg le', ts = ctok lc le' c (keepN c (max k t) q r st ps) (sumZ (keepN c (max k t) q r st ps)) (max k t) ++ [gtok lg (sts (ps.take (goneN c (max k t) r ps)))] ++ [(lq, .row 33 3 (q.fs.map encF ++ [encF mk19])), (lr, .row 33 3 (r.fs.map encF ++ [encF mk19]))] ∧ v = .tup [vb (mayN c r), .own lg 0 (goneN c (max k t) r ps)]) := by
  refine fn_of Tryd.func36 rfl Tryd.ntmps36 Tryd.results36 rfl fun G => ?_
  have hk := h.tick t ht
  generalize hkk : max k t = k' at *
  have h1 := hear_ok lc c (.own le 0 ps.length) (sumZ ps) k t
  rw [hkk] at h1
  have h2 := sweep_ok lc le c ps k' hk
  have h3 := size_ok r hr.fs hr.b
  have h4 := Names_ok r (by have := hr.fs.len; omega) (fun f hf => (hr.fs.fit f hf).2)
  have hnl := hr.nm
  have hps1 := hk.drop (lapseN c k' ps)
  have hlap := lapse_le c k' ps
  have hmay : mayN c r = (!(namesN r.fs).2 && (!decide (c.e = 0) && decide ((sizeN r : Int) ≤ c.b))) := rfl
  have hgone : goneN c k' r ps = lapseN c k' ps + (if mayN c r then roomN c (sizeN r) (ps.drop (lapseN c k' ps)) else 0) := rfl
  have hkeep : keepN c k' q r st ps = ps.drop (goneN c k' r ps) ++ (if mayN c r then [⟨q, r, st, k'⟩] else []) := rfl
  generalize keepN c k' q r st ps = KP at *
  generalize goneN c k' r ps = GN at *
  generalize mayN c r = MY at *
  have hsz1 := sizeL_le hr.fs
  have hsz2 := hr.b
  have hsz3 : sizeN r = r.b.size + sizeL r.fs := rfl
  generalize hn0 : lapseN c k' ps = n0 at *
  repeat' ((fail_if_success (show AW _ (.region 5 _ _) _ _)); (first | (apply ar_call h1; rfl; rfl; (focus ((repeat (first | exact Takes.nil | (apply Takes.cons; focus (repeat (first | exact Take.head | apply Take.tail | apply Take.right))))); done)); rfl; rintro _ _ ⟨rfl, rfl⟩) | (apply ar_call h2; rfl; rfl; (focus ((repeat (first | exact Takes.nil | (apply Takes.cons; focus (repeat (first | exact Take.head | apply Take.tail | apply Take.right))))); done)); rfl; rintro _ _ ⟨lg, rfl, rfl⟩) | (apply ar_callL h4; rfl; rfl; exact .nil; exact Cvs.cons (Cv.agg (cvR (by repeat (first | exact Take.head | apply Take.tail | apply Take.right)))) .nil; (rintro _ _ ⟨ln, rfl, rfl, -⟩; exact ⟨free_names _ _ _, free_nt _ _⟩); rfl; rintro _ _ ⟨ln, rfl, rfl, -⟩) | apply ar_nil | (apply ar_ev; (apply ev_move; rfl); rfl) | (apply ar_ev; (first | (apply ev_callL h3; rfl; rfl; exact Cvs.cons (Cv.agg (cvR (by repeat (first | exact Take.head | apply Take.tail | apply Take.right)))) .nil; constructor) | (apply ev_assign; rfl) | (apply ev_load_ptr_agg; rfl; (focus ((repeat (first | exact Take.head | apply Take.tail | apply Take.right)); done)); exact (by first | rfl | assumption | exact get_map (by assumption)); exact Nat.le_of_ble_eq_true rfl) | (apply ev_extract; rfl; rfl)); rfl) | (apply ar_new; (first | apply eff_alloc | (apply eff_box; rfl; exact lies_of rfl) | (apply eff_conv_bytes; rfl; exact (by first | omega | assumption | (simp; done) | (simp; omega) | exact Nat.le_of_ble_eq_true rfl))); exact .nil; rfl; intro lab) | apply aw_seq | apply a_region | apply go_seq))
  generalize lab = l7 at *
  rename_i l6
  refine aw_cv 14 rfl (.cons (by repeat (first | exact Take.head | apply Take.tail | apply Take.right)) .nil) (Cv.own0 .head (by simp)) ?_
  clear h1 h2 h3 h4
  generalize hB : (namesN r.fs).2 = B at *
  cases B with
  | true =>
    rw [Bool.not_true, Bool.false_and] at hmay
    subst hmay
    rw [if_neg Bool.false_ne_true] at hgone hkeep
    rw [Nat.add_zero] at hgone
    subst hgone
    rw [List.append_nil] at hkeep
    subst hkeep
    repeat' (first | apply ar_nil | (apply ar_ev; (apply ev_move (y := .val (.bool true)); rfl); rfl) | (apply ar_ev; (apply ev_move; rfl); rfl) | (apply ar_ev; (first | (apply ev_assign; rfl) | (apply ev_pick_t; rfl; rfl)); rfl) | (apply ar_skip; rfl; rfl; rfl; rfl; rfl) | apply aw_seq | apply a_region | apply aw_ret | (apply aw_cond_t; rfl) | apply go_seq | apply go_seq_ret)
    all_goals exact g_ret2 (us := ctok lc le c (ps.drop GN) (sumZ (ps.drop GN)) k' ++ [gtok lg (sts (ps.take GN))] ++ [(lq, .row 33 3 (q.fs.map encF ++ [encF mk19])), (lr, .row 33 3 (r.fs.map encF ++ [encF mk19]))]) (r_tmp rfl) (r_tmp rfl) ((by repeat (first | exact Takes.nil | (apply Takes.cons; focus (repeat (first | exact Take.head | apply Take.tail | apply Take.right)))))) ⟨lg, le, rfl, rfl⟩
  | false =>
    rw [Bool.not_false, Bool.true_and] at hmay
    by_cases hm : c.e ≠ 0 ∧ (sizeN r : Int) ≤ c.b
    · rw [decide_eq_false hm.1, decide_eq_true hm.2] at hmay
      subst hmay
      rw [Bool.not_false, Bool.true_and, if_pos rfl] at hgone hkeep
      obtain ⟨hm1, hm2⟩ := hm
      have hce := h.e
      have hl1 : (ps.drop n0).length = ps.length - n0 := List.length_drop
      repeat' (first | apply ar_nil | (apply ar_ev; (apply ev_move (y := .val (.bool false)); rfl); rfl) | (apply ar_splitp; (apply ev_move; rfl); rfl; all_goals (intro hc; try (exfalso; first | omega | contradiction | (simp at hc; omega) | (simp_all; done)))) | (apply ar_ev; (apply ev_pick_f; rfl; rfl); rfl) | (apply ar_take; rfl; rfl; rfl; (apply ev_move; rfl); rfl) | (apply ar_take; rfl; rfl; rfl; (first | (apply ev_load_ptr_one; rfl; (focus ((repeat (first | exact Take.head | apply Take.tail | apply Take.right)); done)); exact (by first | rfl | assumption | exact get_map (by assumption)); rfl) | (apply ev_fieldAddr_ptr; rfl) | (apply ev_nilCheck_ptr; rfl) | (apply ev_eqip; rfl; rfl) | (apply ev_gtr; rfl; rfl)); rfl) | apply aw_seq | apply a_region | apply aw_block | apply aw_skip | (apply aw_condp; rfl; all_goals (intro hc; try (exfalso; first | omega | contradiction | (simp at hc; omega) | (simp_all; done)))) | apply go_seq)
      refine a_loop (fun g : Nat × Nat => ⟨[(0, .ptr lc 0 0), (3, vi st), (6, .ptr l6 0 0), (7, .ptr l7 0 0), (12, .own g.2 0 (n0 + g.1)), (13, vi (sizeN r)), (14, ssl (namesN r.fs).1)], ctok lc le c ((ps.drop n0).drop g.1) (sumZ ((ps.drop n0).drop g.1)) k' ++ [gtok g.2 (sts (ps.take (n0 + g.1))), (l6, .row 36 6 [qO q lq]), (l7, .row 24 3 [rO r lr])] ++ [(lq, .row 33 3 (q.fs.map encF ++ [encF mk19])), (lr, .row 33 3 (r.fs.map encF ++ [encF mk19]))]⟩) (fun g => g.1 ≤ (ps.drop n0).length ∧ roomN c (sizeN r) (ps.drop n0) = g.1 + roomN c (sizeN r) ((ps.drop n0).drop g.1)) (fun g => (ps.drop n0).length - g.1) (0, lg) (Sub.of (by repeat (first | exact .nil | refine .cons rfl Le.refl ?_)) (by repeat (first | exact Takes.nil | (apply Takes.cons; focus (repeat (first | exact Take.head | apply Take.tail | apply Take.right)))))) ⟨Nat.zero_le _, (Nat.zero_add _).symm⟩ ?_
      rintro ⟨m, lg⟩ ⟨hm3, hroom⟩
      dsimp only at hm3 hroom ⊢
      have hps2 := hps1.drop m
      have hlen2 : ((ps.drop n0).drop m).length = (ps.drop n0).length - m := List.length_drop
      have hsum0 := sumZ_nonneg ((ps.drop n0).drop m)
      have hsum1 := hps2.sum
      have hb1 := h.b
      by_cases htg : tight c (sizeN r) ((ps.drop n0).drop m) = true
      · have htg2 : (((ps.drop n0).drop m).length : Int) ≥ c.e ∨ sumZ ((ps.drop n0).drop m) > c.b - sizeN r := by simpa [tight] using htg
        have hmlt : m < (ps.drop n0).length := by
          rcases Nat.lt_or_ge m (ps.drop n0).length with h9 | h9
          · exact h9
          · have e : (ps.drop n0).drop m = [] := List.drop_eq_nil_of_le h9
            rw [e] at htg2
            simp [sumZ] at htg2
            omega
        obtain ⟨x, hx⟩ : ∃ x, (ps.drop n0)[m]? = some x := ⟨_, List.getElem?_eq_getElem hmlt⟩
        have hr1 := room_1 hx htg
        have hout := out0_ok lc le c ((ps.drop n0).drop m) k' 1 hps2 (by omega)
        have hx2 : ps[n0 + m]? = some x := by rw [← List.getElem?_drop]; exact hx
        have ht1 : ((ps.drop n0).drop m).take 1 = [x] := by
          rw [List.drop_eq_getElem_cons hmlt]
          simp [(List.getElem?_eq_some_iff.1 hx).2]
        have ht2 : ((ps.drop n0).drop m).drop 1 = (ps.drop n0).drop (m + 1) := by rw [List.drop_drop]
        rw [ht1, ht2] at hout
        have hrow : List.take (n0 + m) (List.drop 0 ((sts (ps.take (n0 + m))).map fun s => [vi s])) ++ List.take 1 ((sts [x]).map fun s => [vi s]) = (sts (ps.take (n0 + (m + 1)))).map fun s => [vi s] := by
          have ht3 : ps.take (n0 + (m + 1)) = ps.take (n0 + m) ++ [x] := by rw [← Nat.add_assoc, List.take_add_one, hx2]; rfl
          rw [List.drop_zero, List.take_of_length_le (by simp; omega), ht3]
          simp [sts]
        have hln : ((sts (ps.take (n0 + m))).map fun s => [vi s]).length = n0 + m := by simp; omega
        have hpl : n0 + m ≤ 64 := by have := h.len; omega
        clear hx hx2 ht1 ht2 htg hkeep hgone
        repeat' (first | (apply ar_call hout; rfl; rfl; (focus ((repeat (first | exact Takes.nil | (apply Takes.cons; focus (repeat (first | exact Take.head | apply Take.tail | apply Take.right))))); done)); rfl; rintro _ _ ⟨lg2, rfl, rfl⟩) | (refine ar_cv 74 rfl (.cons (by repeat (first | exact Take.head | apply Take.tail | apply Take.right)) .nil) (Cv.own0 .head (by simp)) ?_) | apply ar_nil | (apply ar_splitp; (apply ev_move; rfl); rfl; all_goals (intro hc; try (exfalso; first | omega | contradiction | (simp at hc; omega) | (simp_all; done)))) | (apply ar_ev; (apply ev_move; rfl); rfl) | (apply ar_ev; (first | (apply ev_load_ptr_one; rfl; (focus ((repeat (first | exact Take.head | apply Take.tail | apply Take.right)); done)); exact (by first | rfl | assumption | exact get_map (by assumption)); rfl) | (apply ev_fieldAddr_ptr; rfl) | (apply ev_assign; rfl) | (apply ev_nilCheck_ptr; rfl) | (apply ev_pick_t; rfl; rfl) | (apply ev_pick_f; rfl; rfl) | (apply ev_geq; rfl; rfl) | (apply ev_len_own; rfl)); rfl) | (apply ar_skip; rfl; rfl; rfl; rfl; rfl) | (apply ar_take; rfl; rfl; rfl; (apply ev_move; rfl); rfl) | (apply ar_take; rfl; rfl; rfl; (first | (apply ev_load_ptr_one; rfl; (focus ((repeat (first | exact Take.head | apply Take.tail | apply Take.right)); done)); exact (by first | rfl | assumption | exact get_map (by assumption)); rfl) | (apply ev_fieldAddr_ptr; rfl) | (apply ev_nilCheck_ptr; rfl) | (apply ev_gtr; rfl; rfl) | (apply ev_sub; rfl; rfl; exact (by first | omega | assumption); exact (by first | omega | assumption))); rfl) | apply aw_seq | apply a_region | apply aw_block | apply aw_skip | (apply aw_cond_t; rfl) | (apply aw_condp; rfl; all_goals (intro hc; try (exfalso; first | omega | contradiction | (simp at hc; omega) | (simp_all; done)))) | apply go_seq | apply go_block | (first | (apply a_drawN 2; rfl; rfl) | (apply a_drawN 3; rfl; rfl) | (apply a_drawN 4; rfl; rfl) | (apply a_drawN 5; rfl; rfl) | (apply a_drawN 6; rfl; rfl) | (apply a_drawN 7; rfl; rfl) | (apply a_drawN 8; rfl; rfl) | (apply a_drawN 9; rfl; rfl) | (apply a_drawN 10; rfl; rfl) | (apply a_drawN 11; rfl; rfl) | (apply a_drawN 12; rfl; rfl) | (apply a_drawN 13; rfl; rfl) | (apply a_drawN 14; rfl; rfl) | (apply a_drawN 15; rfl; rfl) | (apply a_drawN 16; rfl; rfl) | (apply a_drawN 17; rfl; rfl) | (apply a_drawN 18; rfl; rfl) | (apply a_drawN 19; rfl; rfl) | (apply a_drawN 20; rfl; rfl) | (apply a_drawN 21; rfl; rfl) | (apply a_drawN 22; rfl; rfl) | (apply a_drawN 23; rfl; rfl) | (apply a_drawN 24; rfl; rfl) | (apply a_drawN 25; rfl; rfl) | (apply a_drawN 26; rfl; rfl) | (apply a_drawN 27; rfl; rfl) | (apply a_drawN 28; rfl; rfl) | (apply a_drawN 29; rfl; rfl) | (apply a_drawN 30; rfl; rfl) | (apply a_drawN 31; rfl; rfl) | (apply a_drawN 32; rfl; rfl) | (apply a_drawN 33; rfl; rfl) | (apply a_drawN 34; rfl; rfl) | (apply a_drawN 35; rfl; rfl) | (apply a_drawN 36; rfl; rfl) | (apply a_drawN 37; rfl; rfl) | (apply a_drawN 38; rfl; rfl) | (apply a_drawN 39; rfl; rfl) | (apply a_drawN 40; rfl; rfl) | (apply a_drawN 41; rfl; rfl) | (apply a_drawN 42; rfl; rfl) | (apply a_drawN 43; rfl; rfl) | (apply a_drawN 44; rfl; rfl) | (apply a_drawN 45; rfl; rfl)) | (apply ar_append; rfl; (focus ((repeat (first | exact Take.head | apply Take.tail | apply Take.right)); done)); rfl; exact (by first | omega | assumption | (simp; done) | (simp; omega) | exact Nat.le_of_ble_eq_true rfl); exact (by first | omega | assumption | (simp; done) | (simp; omega) | exact Nat.le_of_ble_eq_true rfl); exact (by first | omega | assumption | (simp; done) | (simp; omega) | exact Nat.le_of_ble_eq_true rfl); rfl; intro lab))
        all_goals exact go_loop_back ⟨(m + 1, _), ⟨by dsimp only; omega, by dsimp only; omega⟩, by dsimp only; omega, by dsimp only; exact Sub.of (by repeat (first | exact .nil | refine .cons rfl Le.refl ?_)) (by repeat (first | exact Takes.nil | (apply Takes.cons; focus (repeat (first | exact Take.head | exact Take.rowc hrow Take.head | apply Take.tail | apply Take.right)))))⟩
      · have htg3 : tight c (sizeN r) ((ps.drop n0).drop m) = false := by simpa using htg
        have htg2 : (((ps.drop n0).drop m).length : Int) < c.e ∧ sumZ ((ps.drop n0).drop m) ≤ c.b - sizeN r := by simpa [tight] using htg3
        rw [room_0 htg3, Nat.add_zero] at hroom
        obtain ⟨htg4, htg5⟩ := htg2
        have hcq := clone_ok q.fs (by have := hq.len; omega)
        have hcr := clone_ok r.fs (by have := hr.fs.len; omega)
        clear htg htg3
        repeat' ((fail_if_success (show AW _ (.region 10 _ _) _ _)); (first | apply ar_nil | (apply ar_splitp; (apply ev_move; rfl); rfl; all_goals (intro hc; try (exfalso; first | omega | contradiction | (simp at hc; omega) | (simp_all; done)))) | (apply ar_ev; (apply ev_move; rfl); rfl) | (apply ar_ev; (first | (apply ev_callLF hcq (cl_free _); rfl; rfl; exact Cvs.cons (Cv.own_pre (by repeat (first | exact Take.head | apply Take.tail | apply Take.right)) (by simp)) .nil) | (apply ev_callLF hcr (cl_free _); rfl; rfl; exact Cvs.cons (Cv.own_pre (by repeat (first | exact Take.head | apply Take.tail | apply Take.right)) (by simp)) .nil) | (apply ev_load_ptr_one; rfl; (focus ((repeat (first | exact Take.head | apply Take.tail | apply Take.right)); done)); exact (by first | rfl | assumption | exact get_map (by assumption)); rfl) | (apply ev_fieldAddr_ptr; rfl) | (apply ev_nilCheck_ptr; rfl) | (apply ev_pick_f; rfl; rfl) | (apply ev_geq; rfl; rfl) | (apply ev_len_own; rfl)); rfl) | (apply ar_store1; rfl; (focus ((repeat (first | exact Take.head | apply Take.tail | apply Take.right)); done)); rfl; rfl; exact (by first | rfl | assumption | exact get_map (by assumption)); rfl) | (apply ar_take; rfl; rfl; rfl; (apply ev_move; rfl); rfl) | (apply ar_take; rfl; rfl; rfl; (first | (apply ev_load_ptr_one; rfl; (focus ((repeat (first | exact Take.head | apply Take.tail | apply Take.right)); done)); exact (by first | rfl | assumption | exact get_map (by assumption)); rfl) | (apply ev_fieldAddr_ptr; rfl) | (apply ev_nilCheck_ptr; rfl) | (apply ev_gtr; rfl; rfl) | (apply ev_sub; rfl; rfl; exact (by first | omega | assumption); exact (by first | omega | assumption))); rfl) | apply aw_seq | apply aw_exit | (apply aw_condp; rfl; all_goals (intro hc; try (exfalso; first | omega | contradiction | (simp at hc; omega) | (simp_all; done)))) | apply go_seq | apply go_seq_exit | apply go_block_exit | apply go_loop_exit | (first | (apply a_drawN 2; rfl; rfl) | (apply a_drawN 3; rfl; rfl) | (apply a_drawN 4; rfl; rfl) | (apply a_drawN 5; rfl; rfl) | (apply a_drawN 6; rfl; rfl) | (apply a_drawN 7; rfl; rfl) | (apply a_drawN 8; rfl; rfl) | (apply a_drawN 9; rfl; rfl) | (apply a_drawN 10; rfl; rfl) | (apply a_drawN 11; rfl; rfl) | (apply a_drawN 12; rfl; rfl) | (apply a_drawN 13; rfl; rfl) | (apply a_drawN 14; rfl; rfl) | (apply a_drawN 15; rfl; rfl) | (apply a_drawN 16; rfl; rfl) | (apply a_drawN 17; rfl; rfl) | (apply a_drawN 18; rfl; rfl) | (apply a_drawN 19; rfl; rfl) | (apply a_drawN 20; rfl; rfl) | (apply a_drawN 21; rfl; rfl) | (apply a_drawN 22; rfl; rfl) | (apply a_drawN 23; rfl; rfl) | (apply a_drawN 24; rfl; rfl) | (apply a_drawN 25; rfl; rfl) | (apply a_drawN 26; rfl; rfl) | (apply a_drawN 27; rfl; rfl) | (apply a_drawN 28; rfl; rfl) | (apply a_drawN 29; rfl; rfl) | (apply a_drawN 30; rfl; rfl) | (apply a_drawN 31; rfl; rfl) | (apply a_drawN 32; rfl; rfl) | (apply a_drawN 33; rfl; rfl) | (apply a_drawN 34; rfl; rfl) | (apply a_drawN 35; rfl; rfl) | (apply a_drawN 36; rfl; rfl) | (apply a_drawN 37; rfl; rfl) | (apply a_drawN 38; rfl; rfl) | (apply a_drawN 39; rfl; rfl) | (apply a_drawN 40; rfl; rfl) | (apply a_drawN 41; rfl; rfl) | (apply a_drawN 42; rfl; rfl) | (apply a_drawN 43; rfl; rfl) | (apply a_drawN 44; rfl; rfl) | (apply a_drawN 45; rfl; rfl))))
        have e1 : (ps.drop n0).drop m = ps.drop GN := by rw [List.drop_drop, hgone, hroom]
        have e2 : n0 + m = GN := by omega
        rw [e1, e2]
        rw [e1] at hps2 hlen2 hsum0 hsum1 htg4 htg5
        refine AW.sub (st' := ⟨[(0, .ptr lc 0 0), (3, vi st), (6, .ptr l6 0 0), (7, .ptr l7 0 0), (12, .own lg 0 GN), (13, vi (sizeN r)), (14, ssl (namesN r.fs).1)], ctok lc le c (ps.drop GN) (sumZ (ps.drop GN)) k' ++ [gtok lg (sts (ps.take GN)), (l6, .row 36 6 [encQ q]), (l7, .row 24 3 [encR r])] ++ [(lq, .row 33 3 (q.fs.map encF ++ [encF mk19])), (lr, .row 33 3 (r.fs.map encF ++ [encF mk19]))]⟩) (Sub.of (by repeat (first | exact .nil | refine .cons rfl Le.refl ?_)) (by repeat (first | exact Takes.nil | (apply Takes.cons; focus (repeat (first | exact Take.head | apply Take.tail | apply Take.right)))))) ?_
        have hpl2 : (ps.drop GN).length ≤ 64 := by omega
        have hlm : ((ps.drop GN).map cellsE).length = (ps.drop GN).length := by simp
        have hrow : List.take (ps.drop GN).length (List.drop 0 ((ps.drop GN).map cellsE)) ++ List.take 1 [cellsE ⟨q, r, st, k'⟩] = KP.map cellsE := by
          rw [List.drop_zero, List.take_of_length_le (by simp), hkeep]
          simp
        have hzk : sumZ (ps.drop GN) + (sizeN r : Int) = sumZ KP := by
          rw [hkeep, sumZ_app]; rfl
        have hlk : (ps.drop GN).length + 1 = KP.length := by rw [hkeep]; simp
        clear hps2 hps1 hcq hcr hm3 hroom e1 e2 hn0 hkk hk h hq hr
        refine a_mix [true, true, true, true, true, true, true, true, true, true, true, true, true, true, true, true, false, true, true, false] [0, 1, 2, 3, 4, 5, 6, 7, 8, 9, 10, 11, 12, 13, 14, 15, 16, 17, 18, 19] (by kernel_rfl) (by repeat (first | exact Als.nil | (apply Als.al; rfl) | (apply Als.other; rfl))) (Takes.cons (l := lc) (by repeat (first | exact Take.head | apply Take.tail | apply Take.right)) (Takes.cons (l := le) (by repeat (first | exact Take.head | apply Take.tail | apply Take.right)) Takes.nil)) ?_
        repeat' (first | (refine tl_append rfl rfl rfl inferInstance inferInstance rfl (by repeat (first | exact Take.head | apply Take.tail | apply Take.right)) rfl (by first | omega | (simp; done)) (by omega) (by omega) rfl ?_; intro lab) | apply ar_nil | (apply ar_ev; (apply ev_move; rfl); rfl) | (apply ar_ev; (first | (apply ev_load_ptr_one; rfl; (focus ((repeat (first | exact Take.head | apply Take.tail | apply Take.right)); done)); exact (by first | rfl | assumption | exact get_map (by assumption)); rfl) | (apply ev_fieldAddr_ptr; rfl) | (apply ev_assign; rfl) | (apply ev_nilCheck_ptr; rfl) | (apply ev_add; rfl; rfl; exact (by first | omega | assumption); exact (by first | omega | assumption))); rfl) | (apply ar_store1; rfl; (focus ((repeat (first | exact Take.head | apply Take.tail | apply Take.right)); done)); rfl; rfl; exact (by first | rfl | assumption | exact get_map (by assumption)); rfl) | apply aw_seq | apply a_region | apply aw_ret | apply go_seq | apply tl_nil | (apply tl_ev; rfl; rfl; (apply ev_move; rfl); rfl) | (apply tl_ev; rfl; rfl; (first | (apply ev_fieldAddr_ptr; rfl) | (apply ev_nilCheck_ptr; rfl) | (apply ev_load_ptr_agg; rfl; (focus ((repeat (first | exact Take.head | apply Take.tail | apply Take.right)); done)); exact (by first | rfl | assumption | exact get_map (by assumption)); exact Nat.le_of_ble_eq_true rfl) | (apply ev_build; rfl; rfl; rfl) | (apply ev_buildSlice; rfl; rfl; rfl; rfl; rfl; rfl; rfl)); rfl) | (apply tl_store1; rfl; rfl; rfl; infer_instance; rfl; (focus ((repeat (first | exact Take.head | apply Take.tail | apply Take.right)); done)); rfl; rfl; exact (by first | rfl | assumption | exact get_map (by assumption)); rfl) | (apply tl_evr; rfl; rfl; kernel_rfl; (apply ev_load_ptr_one; rfl; (focus ((repeat (first | exact Take.head | apply Take.tail | apply Take.right)); done)); exact (by first | rfl | assumption | exact get_map (by assumption)); rfl); rfl))
        rw [hzk, hlk]
        exact g_ret2 (us := ctok lc lab c KP (sumZ KP) k' ++ [gtok lg (sts (ps.take GN))] ++ [(lq, .row 33 3 (q.fs.map encF ++ [encF mk19])), (lr, .row 33 3 (r.fs.map encF ++ [encF mk19]))]) (r_tmp rfl) (r_tmp rfl) (by repeat (first | exact Takes.nil | (apply Takes.cons; focus (repeat (first | exact Take.head | exact Take.rowc hrow Take.head | apply Take.tail))))) ⟨lg, lab, rfl, rfl⟩
    · have hmay2 : MY = false := by
        rw [hmay]
        by_cases h1 : c.e = 0
        · rw [decide_eq_true h1]; rfl
        · rw [decide_eq_false (fun h2 => hm ⟨h1, h2⟩), Bool.and_false]
      subst hmay2
      rw [if_neg Bool.false_ne_true] at hgone hkeep
      rw [Nat.add_zero] at hgone
      subst hgone
      rw [List.append_nil] at hkeep
      subst hkeep
      have hm3 : c.e = 0 ∨ c.b < (sizeN r : Int) := by omega
      clear hmay hm
      repeat' (first | apply ar_nil | (apply ar_ev; (apply ev_move (y := .val (.bool false)); rfl); rfl) | (apply ar_splitp; (apply ev_move; rfl); rfl; all_goals (intro hc; try (exfalso; first | omega | contradiction | (simp at hc; omega) | (simp_all; done)))) | (apply ar_ev; (apply ev_move; rfl); rfl) | (apply ar_ev; (first | (apply ev_assign; rfl) | (apply ev_pick_t; rfl; rfl) | (apply ev_pick_f; rfl; rfl)); rfl) | (apply ar_skip; rfl; rfl; rfl; rfl; rfl) | (apply ar_take; rfl; rfl; rfl; (apply ev_move; rfl); rfl) | (apply ar_take; rfl; rfl; rfl; (first | (apply ev_load_ptr_one; rfl; (focus ((repeat (first | exact Take.head | apply Take.tail | apply Take.right)); done)); exact (by first | rfl | assumption | exact get_map (by assumption)); rfl) | (apply ev_fieldAddr_ptr; rfl) | (apply ev_nilCheck_ptr; rfl) | (apply ev_eqip; rfl; rfl) | (apply ev_gtr; rfl; rfl)); rfl) | apply aw_seq | apply a_region | apply aw_ret | (apply aw_cond_t; rfl) | (apply aw_condp; rfl; all_goals (intro hc; try (exfalso; first | omega | contradiction | (simp at hc; omega) | (simp_all; done)))) | apply go_seq | apply go_seq_ret)
      all_goals exact g_ret2 (us := ctok lc le c (ps.drop GN) (sumZ (ps.drop GN)) k' ++ [gtok lg (sts (ps.take GN))] ++ [(lq, .row 33 3 (q.fs.map encF ++ [encF mk19])), (lr, .row 33 3 (r.fs.map encF ++ [encF mk19]))]) (r_tmp rfl) (r_tmp rfl) ((by repeat (first | exact Takes.nil | (apply Takes.cons; focus (repeat (first | exact Take.head | apply Take.tail | apply Take.right)))))) ⟨lg, le, rfl, rfl⟩
end Go.Proofs.YtphkfejckafamaaDoor
