import Derived.Test.YtphkfejckafamaaDoorK
set_option linter.unusedVariables false
set_option linter.unusedSimpArgs false
set_option maxRecDepth 100000
namespace Go.Proofs.YtphkfejckafamaaDoor
open Go.Proofs Go.Proofs.YtphkfejckafamaaDoorA

structure OkC (c : Cf) (ps : List En) (k : Int) : Prop where
  e : 0 ≤ c.e ∧ c.e ≤ 64
  b : 0 ≤ c.b ∧ c.b ≤ 1152921504606846976
  l : 0 ≤ c.l ∧ c.l ≤ 1152921504606846976
  len : (ps.length : Int) ≤ c.e
  sum : sumZ ps ≤ c.b
  clk : 0 ≤ k ∧ k ≤ 9223372036854775807
  ar : ∀ p, p ∈ ps → 0 ≤ p.ar ∧ p.ar ≤ k
  ok : ∀ p, p ∈ ps → OkE p
theorem OkC.drop {c : Cf} {ps : List En} {k : Int} (h : OkC c ps k) (n : Nat) : OkC c (ps.drop n) k := by
  have hm : ∀ p, p ∈ ps.drop n → p ∈ ps := fun p hp => List.mem_of_mem_drop hp
  have h1 := h.len
  have h2 := h.sum
  have h3 : sumZ ps = sumZ (ps.take n) + sumZ (ps.drop n) := by rw [← sumZ_app, List.take_append_drop]
  have h4 := sumZ_nonneg (ps.take n)
  refine ⟨h.e, h.b, h.l, ?_, by omega, h.clk, fun p hp => h.ar p (hm p hp), fun p hp => h.ok p (hm p hp)⟩
  rw [List.length_drop]; omega
theorem OkC.tick {c : Cf} {ps : List En} {k : Int} (h : OkC c ps k) (t : Int) (ht : t ≤ 9223372036854775807) : OkC c ps (max k t) := by
  have h1 := h.clk
  refine ⟨h.e, h.b, h.l, h.len, h.sum, by omega, fun p hp => ?_, h.ok⟩
  have := h.ar p hp
  omega
/-- How many of the oldest have lapsed. -/
def lapseN (c : Cf) (k : Int) (es : List En) : Nat := (es.takeWhile (late c k)).length
theorem tw_at {α : Type} {f : α → Bool} : ∀ {l : List α} {n : Nat} {x : α}, (∀ i y, i < n → l[i]? = some y → f y = true) → l[n]? = some x → f x = false → (l.takeWhile f).length = n
  | [], n, x, _, hx, _ => by simp at hx
  | a :: l, 0, x, _, hx, hf => by
    simp at hx
    subst hx
    simp [List.takeWhile, hf]
  | a :: l, n + 1, x, h, hx, hf => by
    have h0 := h 0 a (by omega) rfl
    rw [List.takeWhile_cons, h0, if_pos rfl, List.length_cons, tw_at (n := n) (fun i y hi hy => h (i + 1) y (by omega) hy) (by simpa using hx) hf]
theorem tw_all {α : Type} {f : α → Bool} : ∀ {l : List α}, (∀ i y, i < l.length → l[i]? = some y → f y = true) → (l.takeWhile f).length = l.length
  | [], _ => rfl
  | a :: l, h => by
    have h0 := h 0 a (by simp) rfl
    rw [List.takeWhile_cons, h0, if_pos rfl, List.length_cons, List.length_cons, tw_all (fun i y hi hy => h (i + 1) y (by simpa using hi) hy)]
theorem lapse_le (c : Cf) (k : Int) (es : List En) : lapseN c k es ≤ es.length := by
  unfold lapseN
  exact (List.takeWhile_prefix (p := late c k) (l := es)).length_le
abbrev sts (ps : List En) : List Int := ps.map fun p => p.st
abbrev gtok (lg : Nat) (l : List Int) : Nat × Tok := (lg, .row 2 1 (l.map fun s => [vi s]))
theorem out0_ok (lc le : Nat) (c : Cf) (ps : List En) (k : Int) (n : Nat) (h : OkC c ps k) (hn : n ≤ ps.length) :
    FnC Tryd.prog 69 (ctok lc le c ps (sumZ ps) k) [.ptr lc 0 0, vi 0, vi n] (fun ts r => ∃ lg, ts = ctok lc le c (ps.drop n) (sumZ (ps.drop n)) k ++ [gtok lg (sts (ps.take n))] ∧ r = .own lg 0 n) := by
  have h1 := h.len
  have h2 := h.e
  have h3 := h.sum
  have h4 := h.b
  have h0 := out_ok lc le c ps (sumZ ps) k 0 n rfl (by omega) (by omega) (by omega)
  simp only [List.take_zero, List.nil_append, Nat.zero_add, List.drop_zero] at h0
  have e : (ps.take n).map (fun p : En => [vi p.st]) = (sts (ps.take n)).map fun s => [vi s] := by rw [sts, List.map_map]; rfl
  rw [e] at h0
  exact h0
set_option maxHeartbeats 8000000 in
theorem sweep_ok (lc le : Nat) (c : Cf) (ps : List En) (k : Int) (h : OkC c ps k) :
    FnC Tryd.prog 68 (ctok lc le c ps (sumZ ps) k) [.ptr lc 0 0] (fun ts r => ∃ lg, ts = ctok lc le c (ps.drop (lapseN c k ps)) (sumZ (ps.drop (lapseN c k ps))) k ++ [gtok lg (sts (ps.take (lapseN c k ps)))] ∧ r = .own lg 0 (lapseN c k ps)) := by
  refine fn_of Tryd.func68 rfl Tryd.ntmps68 Tryd.results68 rfl fun G => ?_
  have hlm : (ps.map cellsE).length = ps.length := by simp
  have h1 := h.len
  have h2 := h.e
  repeat' (first | apply ar_nil | (apply ar_ev; (apply ev_assign; rfl); rfl) | apply aw_seq | apply a_region | apply aw_block | apply go_seq)
  refine a_loop (fun n : Nat => ⟨[(0, .ptr lc 0 0), (3, vi n)], ctok lc le c ps (sumZ ps) k⟩) (fun n => n ≤ ps.length ∧ ∀ i y, i < n → ps[i]? = some y → late c k y = true) (fun n => ps.length - n) 0 (Sub.of (by repeat (first | exact .nil | refine .cons rfl Le.refl ?_)) (by repeat (first | exact Takes.nil | (apply Takes.cons; focus (repeat (first | exact Take.head | apply Take.tail | apply Take.right)))))) ⟨Nat.zero_le _, fun i y hi => by omega⟩ ?_
  rintro n ⟨hn, hlate⟩
  by_cases hk : n < ps.length
  · obtain ⟨p, hp⟩ : ∃ p, ps[n]? = some p := ⟨_, List.getElem?_eq_getElem hk⟩
    have hp2 : (ps.map cellsE)[n]? = some (cellsE p) := by rw [List.getElem?_map, hp]; rfl
    have hp4 : ps[n]? = some p := hp
    have har := h.ar p (List.mem_of_getElem? hp)
    have hexp := expired_ok c (.own le 0 ps.length) (sumZ ps) k p ⟨har.1, har.2, h.clk.2⟩
    cases hl : late c k p with
    | true =>
      rw [hl] at hexp
      repeat' (first | apply ar_nil | (apply ar_splitp; (apply ev_move; rfl); rfl; all_goals (intro hc; try (exfalso; first | omega | contradiction | (simp at hc; omega) | (simp_all; done)))) | (apply ar_ev; (apply ev_move; rfl); rfl) | (apply ar_ev; (first | (apply ev_load_ptr_one; rfl; (focus ((repeat (first | exact Take.head | apply Take.tail | apply Take.right)); done)); exact (by first | rfl | assumption | exact get_map (by assumption)); rfl) | (apply ev_fieldAddr_ptr; rfl) | (apply ev_assign; rfl) | (apply ev_nilCheck_ptr; rfl) | (apply ev_pick_t; rfl; rfl) | (apply ev_lss; rfl; rfl) | (apply ev_inc; rfl; exact (by first | omega | assumption)) | (apply ev_len_own; rfl)); rfl) | (apply ar_take; rfl; rfl; rfl; (apply ev_move; rfl); rfl) | (apply ar_take; rfl; rfl; rfl; (first | (apply ev_callL hexp; rfl; rfl; exact Cvs.cons (Cv.ptr0 (by repeat (first | exact Take.head | apply Take.tail | apply Take.right)) rfl) (Cvs.cons Cv.refl .nil); constructor) | (apply ev_load_ptr_one; rfl; (focus ((repeat (first | exact Take.head | apply Take.tail | apply Take.right)); done)); exact (by first | rfl | assumption | exact get_map (by assumption)); rfl) | (apply ev_fieldAddr_ptr; rfl) | (apply ev_nilCheck_ptr; rfl) | (apply ev_load_ptr_agg; rfl; (focus ((repeat (first | exact Take.head | apply Take.tail | apply Take.right)); done)); exact (by first | rfl | assumption | exact get_map (by assumption)); exact Nat.le_of_ble_eq_true rfl) | (apply ev_indexAddr_own0; rfl; rfl; exact (by first | omega | assumption); (focus ((repeat (first | exact Take.head | apply Take.tail | apply Take.right)); done)))); rfl) | apply aw_seq | apply a_region | apply aw_block | apply aw_skip | (apply aw_cond_t; rfl) | apply go_seq | apply go_block)
      apply go_loop_back
      refine ⟨n + 1, ⟨by omega, fun i y hi hy => ?_⟩, by omega, Sub.of (by repeat (first | exact .nil | refine .cons rfl Le.refl ?_)) (by repeat (first | exact Takes.nil | (apply Takes.cons; focus (repeat (first | exact Take.head | apply Take.tail | apply Take.right)))))⟩
      by_cases hin : i = n
      · subst hin; rw [hp4] at hy; cases hy; exact hl
      · exact hlate i y (by omega) hy
    | false =>
      rw [hl] at hexp
      have hln : lapseN c k ps = n := tw_at hlate hp4 hl
      have hout := out0_ok lc le c ps k n h hn
      rw [hln]
      repeat' (first | (apply ar_call hout; rfl; rfl; (focus ((repeat (first | exact Takes.nil | (apply Takes.cons; focus (repeat (first | exact Take.head | apply Take.tail | apply Take.right))))); done)); rfl; rintro _ _ ⟨lg, rfl, rfl⟩) | apply ar_nil | (apply ar_splitp; (apply ev_move; rfl); rfl; all_goals (intro hc; try (exfalso; first | omega | contradiction | (simp at hc; omega) | (simp_all; done)))) | (apply ar_ev; (apply ev_move; rfl); rfl) | (apply ar_ev; (first | (apply ev_load_ptr_one; rfl; (focus ((repeat (first | exact Take.head | apply Take.tail | apply Take.right)); done)); exact (by first | rfl | assumption | exact get_map (by assumption)); rfl) | (apply ev_fieldAddr_ptr; rfl) | (apply ev_assign; rfl) | (apply ev_nilCheck_ptr; rfl) | (apply ev_pick_t; rfl; rfl) | (apply ev_lss; rfl; rfl) | (apply ev_len_own; rfl)); rfl) | (apply ar_take; rfl; rfl; rfl; (apply ev_move; rfl); rfl) | (apply ar_take; rfl; rfl; rfl; (first | (apply ev_callL hexp; rfl; rfl; exact Cvs.cons (Cv.ptr0 (by repeat (first | exact Take.head | apply Take.tail | apply Take.right)) rfl) (Cvs.cons Cv.refl .nil); constructor) | (apply ev_load_ptr_one; rfl; (focus ((repeat (first | exact Take.head | apply Take.tail | apply Take.right)); done)); exact (by first | rfl | assumption | exact get_map (by assumption)); rfl) | (apply ev_fieldAddr_ptr; rfl) | (apply ev_nilCheck_ptr; rfl) | (apply ev_load_ptr_agg; rfl; (focus ((repeat (first | exact Take.head | apply Take.tail | apply Take.right)); done)); exact (by first | rfl | assumption | exact get_map (by assumption)); exact Nat.le_of_ble_eq_true rfl) | (apply ev_indexAddr_own0; rfl; rfl; exact (by first | omega | assumption); (focus ((repeat (first | exact Take.head | apply Take.tail | apply Take.right)); done)))); rfl) | apply aw_seq | apply a_region | apply aw_exit | apply aw_ret | (apply aw_cond_f; rfl) | apply go_seq | apply go_seq_exit | apply go_block_exit | apply go_loop_exit)
      all_goals exact g_ret1 (us := ctok lc le c (ps.drop n) (sumZ (ps.drop n)) k ++ [gtok lg (sts (ps.take n))]) (r_tmp rfl) ((by repeat (first | exact Takes.nil | (apply Takes.cons; focus (repeat (first | exact Take.head | apply Take.tail | apply Take.right)))))) ⟨lg, rfl, rfl⟩
  · obtain rfl : n = ps.length := by omega
    have hln : lapseN c k ps = ps.length := by
      have := tw_all (l := ps) (f := late c k) (fun i y hi hy => hlate i y (by simpa using hi) hy)
      unfold lapseN
      rw [this]
    have hout := out0_ok lc le c ps k ps.length h hn
    rw [hln]
    repeat' (first | (apply ar_call hout; rfl; rfl; (focus ((repeat (first | exact Takes.nil | (apply Takes.cons; focus (repeat (first | exact Take.head | apply Take.tail | apply Take.right))))); done)); rfl; rintro _ _ ⟨lg, rfl, rfl⟩) | apply ar_nil | (apply ar_splitp; (apply ev_move; rfl); rfl; all_goals (intro hc; try (exfalso; first | omega | contradiction | (simp at hc; omega) | (simp_all; done)))) | (apply ar_ev; (apply ev_move; rfl); rfl) | (apply ar_ev; (first | (apply ev_load_ptr_one; rfl; (focus ((repeat (first | exact Take.head | apply Take.tail | apply Take.right)); done)); exact (by first | rfl | assumption | exact get_map (by assumption)); rfl) | (apply ev_fieldAddr_ptr; rfl) | (apply ev_assign; rfl) | (apply ev_nilCheck_ptr; rfl) | (apply ev_pick_f; rfl; rfl) | (apply ev_lss; rfl; rfl) | (apply ev_len_own; rfl)); rfl) | (apply ar_skip; rfl; rfl; rfl; rfl; rfl) | apply aw_seq | apply a_region | apply aw_exit | apply aw_ret | (apply aw_cond_f; rfl) | apply go_seq | apply go_seq_exit | apply go_block_exit | apply go_loop_exit)
    all_goals exact g_ret1 (us := ctok lc le c (ps.drop ps.length) (sumZ (ps.drop ps.length)) k ++ [gtok lg (sts (ps.take ps.length))]) (r_tmp rfl) ((by repeat (first | exact Takes.nil | (apply Takes.cons; focus (repeat (first | exact Take.head | apply Take.tail | apply Take.right)))))) ⟨lg, rfl, rfl⟩
theorem tick_ok (lc le : Nat) (c : Cf) (ps : List En) (k t : Int) (h : OkC c ps k) (ht : t ≤ 9223372036854775807) :
    FnC Tryd.prog 32 (ctok lc le c ps (sumZ ps) k) [.ptr lc 0 0, vi t] (fun ts r => ∃ lg, ts = ctok lc le c (ps.drop (lapseN c (max k t) ps)) (sumZ (ps.drop (lapseN c (max k t) ps))) (max k t) ++ [gtok lg (sts (ps.take (lapseN c (max k t) ps)))] ∧ r = .own lg 0 (lapseN c (max k t) ps)) := by
  refine fn_of Tryd.func32 rfl Tryd.ntmps32 Tryd.results32 rfl fun G => ?_
  have hh := hear_ok lc c (.own le 0 ps.length) (sumZ ps) k t
  have hs := sweep_ok lc le c ps (max k t) (h.tick t ht)
  repeat' (first | (apply ar_call hh; rfl; rfl; (focus ((repeat (first | exact Takes.nil | (apply Takes.cons; focus (repeat (first | exact Take.head | apply Take.tail | apply Take.right))))); done)); rfl; rintro _ _ ⟨rfl, rfl⟩) | (apply ar_call hs; rfl; rfl; (focus ((repeat (first | exact Takes.nil | (apply Takes.cons; focus (repeat (first | exact Take.head | apply Take.tail | apply Take.right))))); done)); rfl; rintro _ _ ⟨lg, rfl, rfl⟩) | apply ar_nil | (apply ar_ev; (apply ev_move; rfl); rfl) | (apply ar_ev; (apply ev_assign; rfl); rfl) | apply aw_seq | apply a_region | apply aw_ret | apply go_seq)
  all_goals exact g_ret1 (us := ctok lc le c (ps.drop (lapseN c (max k t) ps)) (sumZ (ps.drop (lapseN c (max k t) ps))) (max k t) ++ [gtok lg (sts (ps.take (lapseN c (max k t) ps)))]) (r_tmp rfl) ((by repeat (first | exact Takes.nil | (apply Takes.cons; focus (repeat (first | exact Take.head | apply Take.tail | apply Take.right)))))) ⟨lg, rfl, rfl⟩
theorem len_ok (c : Cf) (le n : Nat) (y k : Int) : PFn Tryd.prog 33 [.ip (cc c (.own le 0 n) y k)] (vi n) := by
  refine fn_of Tryd.func33 rfl Tryd.ntmps33 Tryd.results33 rfl fun G => ?_
  repeat' (first | apply ar_nil | (apply ar_ev; (apply ev_move; rfl); rfl) | (apply ar_ev; (first | (apply ev_load_ip_one; rfl; rfl) | (apply ev_fieldAddr_ip; rfl) | (apply ev_assign; rfl) | (apply ev_nilCheck_ip; rfl) | (apply ev_len_own; rfl)); rfl) | apply aw_seq | apply a_region | apply aw_ret | apply go_seq)
  all_goals exact g_ret1 (r_tmp rfl) .nil rfl
theorem bytes_ok (c : Cf) (E : AV) (y k : Int) : PFn Tryd.prog 34 [.ip (cc c E y k)] (vi y) := by
  refine fn_of Tryd.func34 rfl Tryd.ntmps34 Tryd.results34 rfl fun G => ?_
  repeat' (first | apply ar_nil | (apply ar_ev; (apply ev_move; rfl); rfl) | (apply ar_ev; (first | (apply ev_load_ip_one; rfl; rfl) | (apply ev_fieldAddr_ip; rfl) | (apply ev_assign; rfl) | (apply ev_nilCheck_ip; rfl)); rfl) | apply aw_seq | apply a_region | apply aw_ret | apply go_seq)
  all_goals exact g_ret1 (r_tmp rfl) .nil rfl
theorem clone_ok (l : List Fld) (hn : l.length ≤ 1099511627776) : FnC Tryd.prog 70 [] [fsl l] (fun ts r => ∃ lab, ts = [(lab, .row 33 3 (l.map encF))] ∧ r = .own lab 0 l.length) := by
  refine fn_of Tryd.func70 rfl Tryd.ntmps70 Tryd.results70 rfl fun G => ?_
  repeat' (first | apply ar_nil | (apply ar_ev; (apply ev_move; rfl); rfl) | (apply ar_ev; (apply ev_assign; rfl); rfl) | apply aw_seq | apply a_region | apply go_seq)
  apply ar_eff (eff_eqnil_sl rfl) .nil rfl; rintro _ _ ⟨rfl, b, rfl, hb⟩
  cases b
  · repeat' (first | (apply ar_new (d := 5); (apply eff_buildSlice; rfl; rfl; rfl; rfl; rfl; rfl; rfl); exact .nil; rfl; intro lab) | apply ar_nil | (apply ar_ev; (apply ev_move; rfl); rfl) | (apply ar_ev; (apply ev_assign; rfl); rfl) | apply aw_seq | apply a_region | apply aw_skip | apply aw_ret | (apply aw_cond_f; rfl) | apply go_seq | (apply ar_append; rfl; (focus ((repeat (first | exact Take.head | apply Take.tail | apply Take.right)); done)); rfl; exact (by first | omega | assumption | (simp; done) | (simp; omega) | exact Nat.le_of_ble_eq_true rfl); exact (by first | omega | assumption | (simp; done) | (simp; omega) | exact Nat.le_of_ble_eq_true rfl); exact (by first | omega | assumption | (simp; done) | (simp; omega) | exact Nat.le_of_ble_eq_true rfl); rfl; intro lab))
    refine g_ret1 (r_tmp rfl) (.cons (by repeat (first | exact Take.head | apply Take.tail | apply Take.right)) .nil) ⟨lab, ?_, by rw [Nat.zero_add]⟩
    have e : List.take l.length (l.map encF) = l.map encF := List.take_of_length_le (by simp)
    exact congrArg (fun z => [(lab, Tok.row 33 3 z)]) e
  · have e : l = [] := List.map_eq_nil_iff.1 (hb rfl)
    subst e
    repeat' ((fail_if_success (show AW _ (.ret) _ _)); (first | apply ar_nil | (apply ar_ev; (apply ev_assign; rfl); rfl) | apply aw_seq | apply a_region | (apply aw_cond_t; rfl) | apply go_seq))
    refine aw_adopt 2 33 3 rfl fun lab => ?_
    repeat' (first | apply aw_ret | apply go_seq_ret)
    exact g_ret1 (r_tmp rfl) (.cons .head .nil) ⟨lab, rfl, rfl⟩
end Go.Proofs.YtphkfejckafamaaDoor
