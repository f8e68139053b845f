import Derived.Test.YtphkfejckafamaaDoorQ
set_option linter.unusedVariables false
set_option linter.unusedSimpArgs false
set_option maxRecDepth 100000
namespace Go.Proofs.YtphkfejckafamaaDoor
open Go.Proofs Go.Proofs.YtphkfejckafamaaDoorA

abbrev cA : Cf := ⟨2, 200, 10, 0⟩
abbrev qA : Rq := ⟨⟨#[71, 69, 84]⟩, ⟨#[104, 116, 116, 112, 115]⟩, ⟨#[97]⟩, ⟨#[47, 120]⟩, [], es⟩
abbrev rA : Rs := ⟨200, [], ⟨#[98, 111, 100, 121]⟩⟩
abbrev xA : En := ⟨qA, rA, 2, 5⟩
abbrev xB : En := ⟨qA, rA, 4, 15⟩
abbrev rB : Rs := ⟨0, [⟨tVary, ⟨#[97, 99, 99, 101, 112, 116]⟩, false⟩], ⟨#[98, 111, 100, 121]⟩⟩
theorem okF0 : OkFs [] := ⟨by decide, by simp⟩
theorem okR1 : OkR rA := ⟨okF0, by decide, by decide⟩
theorem okC0 {c : Cf} (h : okCf c = true) (k : Int) (hk : 0 ≤ k ∧ k ≤ 9223372036854775807) : OkC c [] k := by
  unfold okCf at h
  simp only [Bool.and_eq_true, decide_eq_true_eq] at h
  exact ⟨h.1, h.2.1, h.2.2.1, h.1.1, by simp only [sumZ, List.map_nil, List.sum_nil]; exact h.2.1.1, hk, by simp, by simp⟩
theorem okC1 : OkC cA [xA] 5 := ⟨by decide, by decide, by decide, by decide, by decide, by decide, by simp, by intro p hp; rw [List.mem_singleton.1 hp]; exact ⟨okF0, okF0, by decide, by decide⟩⟩
theorem okC2 : OkC cA [xB] 15 := ⟨by decide, by decide, by decide, by decide, by decide, by decide, by simp, by intro p hp; rw [List.mem_singleton.1 hp]; exact ⟨okF0, okF0, by decide, by decide⟩⟩
theorem s1_ok (lc le : Nat) : FnC Tryd.prog 36 (ctok lc le cA [] 0 0) [.ptr lc 0 0, .agg (encQ qA), .agg (encR rA), vi 2, vi 5] (fun ts v => ∃ lg le', ts = ctok lc le' cA [xA] 4 5 ++ [gtok lg []] ∧ v = .tup [vb true, .own lg 0 0]) :=
  store_ok lc le cA [] 0 qA rA 2 5 (okC0 (by decide) 0 (by decide)) (by decide) okF0 okR1
theorem s2_ok (lc le : Nat) : FnC Tryd.prog 38 (ctok lc le cA [xA] 4 5) [.ptr lc 0 0, .agg (encQ qA), vi 5] (fun ts v => ts = ctok lc le cA [xA] 4 5 ∧ v = vb true) :=
  holds_ok lc le cA [xA] 5 qA 5 okC1 (by decide) (by decide)
theorem s3_ok (lc le : Nat) : FnC Tryd.prog 37 (ctok lc le cA [xA] 4 5) [.ptr lc 0 0, .agg (encQ qA), vi 15] (fun ts v => ts = ctok lc le cA [] 0 15 ∧ v = .tup [.agg (encR rA), vi 2, vb true]) :=
  (claim_ok lc le cA [xA] 5 qA 15 okC1 (by decide) (by decide)).mono fun ts v h => by
    rcases h with ⟨x, hx, h1, h2⟩ | ⟨h0, -⟩
    · have hx2 : [xA][0]? = some x := hx
      cases hx2
      exact ⟨h1, h2⟩
    · exact absurd (show (0 : Nat) = 1 from h0) (by decide)
theorem s4_ok (lc le : Nat) : FnC Tryd.prog 37 (ctok lc le cA [] 0 15) [.ptr lc 0 0, .agg (encQ qA), vi 15] (fun ts v => ts = ctok lc le cA [] 0 15 ∧ v = .tup [.agg (encR r0), vi 0, vb false]) :=
  (claim_ok lc le cA [] 15 qA 15 (okC0 (by decide) 15 (by decide)) (by decide) (by decide)).mono fun ts v h => by
    rcases h with ⟨x, hx, -⟩ | ⟨-, h1, h2⟩
    · cases hx
    · exact ⟨h1, h2⟩
theorem s5_ok (lc le : Nat) : FnC Tryd.prog 36 (ctok lc le cA [] 0 15) [.ptr lc 0 0, .agg (encQ qA), .agg (encR rA), vi 4, vi 15] (fun ts v => ∃ lg le', ts = ctok lc le' cA [xB] 4 15 ++ [gtok lg []] ∧ v = .tup [vb true, .own lg 0 0]) :=
  store_ok lc le cA [] 15 qA rA 4 15 (okC0 (by decide) 15 (by decide)) (by decide) okF0 okR1
theorem s6_ok (lc le : Nat) : FnC Tryd.prog 32 (ctok lc le cA [xB] 4 15) [.ptr lc 0 0, vi 26] (fun ts v => ∃ lg, ts = ctok lc le cA [] 0 26 ++ [gtok lg [4]] ∧ v = .own lg 0 1) :=
  tick_ok lc le cA [xB] 15 26 okC2 (by decide)
set_option maxHeartbeats 8000000 in
theorem first19_ok : PFn Tryd.prog 24 [] (vb true) := by
  refine fn_of Tryd.func24 rfl Tryd.ntmps24 Tryd.results24 rfl fun G => ?_
  have hnew : FnC Tryd.prog 22 [] [.agg (encC cA)] (fun ts v => ∃ lc le, ts = ctok lc le cA [] 0 0 ∧ v = .tup [.ptr lc 0 0, vi 0]) :=
    (new_ok cA).mono fun ts v h => by
      rcases h with ⟨-, h⟩ | ⟨h, -⟩
      · exact h
      · exact absurd h (by decide)
  repeat' ((fail_if_success (show AW _ (.region 4 _ _) _ _)); (first | (apply ar_callA hnew; rfl; rfl; (focus ((repeat (first | exact Les.nil | (apply Les.cons; first | exact Le.refl | exact Le.nil | (apply Le.agg; (focus ((repeat (first | exact Les.nil | (apply Les.cons; first | exact Le.refl | exact Le.nil | (apply Le.agg; (focus ((repeat (first | exact Les.nil | (apply Les.cons; first | exact Le.refl | exact Le.nil))); done)))))); done)))))); done)); (focus ((repeat (first | exact Takes.nil | (apply Takes.cons; focus (repeat (first | exact Take.head | apply Take.tail | apply Take.right))))); done)); rfl; rintro _ _ ⟨lc, le, rfl, rfl⟩) | apply ar_nil | (apply ar_ev; (apply ev_move (y := .val (.bool false)); rfl); rfl) | (apply ar_ev; (apply ev_move; rfl); rfl) | (apply ar_ev; (first | (apply ev_assign; rfl) | (apply ev_pick_f; rfl; rfl) | (apply ev_eqnil_p; rfl; rfl) | (apply ev_extract; rfl; rfl) | (apply ev_build; rfl; rfl; rfl)); rfl) | (apply ar_take; rfl; rfl; rfl; (apply ev_move; rfl); rfl) | (apply ar_take; rfl; rfl; rfl; (apply ev_neip; rfl; rfl); rfl) | apply aw_seq | apply a_region | apply aw_skip | (apply aw_condp; rfl; all_goals (intro hc; try (exfalso; first | omega | contradiction | (simp at hc; omega) | (simp_all; done)))) | apply go_seq))
  have h1 := s1_ok lc le
  repeat' ((fail_if_success (show AW _ (.region 7 _ _) _ _)); (first | (apply ar_callA h1; rfl; rfl; (focus ((repeat (first | exact Les.nil | (apply Les.cons; first | exact Le.refl | exact Le.nil | (apply Le.agg; (focus ((repeat (first | exact Les.nil | (apply Les.cons; first | exact Le.refl | exact Le.nil | (apply Le.agg; (focus ((repeat (first | exact Les.nil | (apply Les.cons; first | exact Le.refl | exact Le.nil))); done)))))); done)))))); done)); (focus ((repeat (first | exact Takes.nil | (apply Takes.cons; focus (repeat (first | exact Take.head | apply Take.tail | apply Take.right))))); done)); rfl; rintro _ _ ⟨lg, le2, rfl, rfl⟩) | apply ar_nil | (apply ar_ev; (apply ev_move; rfl); rfl) | (apply ar_ev; (first | (apply ev_assign; rfl) | (apply ev_load_ptr_agg; rfl; (focus ((repeat (first | exact Take.head | apply Take.tail | apply Take.right)); done)); exact (by first | rfl | assumption | exact get_map (by assumption)); exact Nat.le_of_ble_eq_true rfl) | (apply ev_extract; rfl; rfl) | (apply ev_build; rfl; rfl; rfl)); rfl) | (apply ar_new; (first | apply eff_alloc | (apply eff_box; rfl; exact lies_of rfl) | (apply eff_conv_bytes; rfl; exact (by first | omega | assumption | (simp; done) | (simp; omega) | exact Nat.le_of_ble_eq_true rfl))); exact .nil; rfl; intro lab) | (apply ar_store; rfl; (focus ((repeat (first | exact Take.head | apply Take.tail | apply Take.right)); done)); rfl; rfl; exact (by first | rfl | assumption | exact get_map (by assumption)); rfl; rfl) | apply aw_seq | apply a_region | apply go_seq))
  have hl := len_ok cA le2 1 4 5
  have hy := bytes_ok cA (.own le2 0 1) 4 5
  have h2 := s2_ok lc le2
  have h3 := s3_ok lc le2
  have h4 := s4_ok lc le2
  have h5 := s5_ok lc le2
  clear h1 hnew
  repeat' ((fail_if_success (show AW _ (.region 9 _ _) _ _)); (first | (apply ar_callA h2; rfl; rfl; (focus ((repeat (first | exact Les.nil | (apply Les.cons; first | exact Le.refl | exact Le.nil | (apply Le.agg; (focus ((repeat (first | exact Les.nil | (apply Les.cons; first | exact Le.refl | exact Le.nil | (apply Le.agg; (focus ((repeat (first | exact Les.nil | (apply Les.cons; first | exact Le.refl | exact Le.nil))); done)))))); done)))))); done)); (focus ((repeat (first | exact Takes.nil | (apply Takes.cons; focus (repeat (first | exact Take.head | apply Take.tail | apply Take.right))))); done)); rfl; rintro _ _ ⟨rfl, rfl⟩) | apply ar_nil | (apply ar_ev; (apply ev_move; rfl); rfl) | (apply ar_ev; (first | (apply ev_callL hl; rfl; rfl; exact Cvs.cons (Cv.ptr0 (by repeat (first | exact Take.head | apply Take.tail | apply Take.right)) rfl) .nil; constructor) | (apply ev_callL hy; rfl; rfl; exact Cvs.cons (Cv.ptr0 (by repeat (first | exact Take.head | apply Take.tail | apply Take.right)) rfl) .nil; constructor) | (apply ev_assign; rfl) | (apply ev_load_ptr_agg; rfl; (focus ((repeat (first | exact Take.head | apply Take.tail | apply Take.right)); done)); exact (by first | rfl | assumption | exact get_map (by assumption)); exact Nat.le_of_ble_eq_true rfl)); rfl) | apply aw_seq | apply a_region | apply go_seq))
  repeat' ((fail_if_success (show AW _ (.region 12 _ _) _ _)); (first | (apply ar_callA h3; rfl; rfl; (focus ((repeat (first | exact Les.nil | (apply Les.cons; first | exact Le.refl | exact Le.nil | (apply Le.agg; (focus ((repeat (first | exact Les.nil | (apply Les.cons; first | exact Le.refl | exact Le.nil | (apply Le.agg; (focus ((repeat (first | exact Les.nil | (apply Les.cons; first | exact Le.refl | exact Le.nil))); done)))))); done)))))); done)); (focus ((repeat (first | exact Takes.nil | (apply Takes.cons; focus (repeat (first | exact Take.head | apply Take.tail | apply Take.right))))); done)); rfl; rintro _ _ ⟨rfl, rfl⟩) | (apply ar_callA h4; rfl; rfl; (focus ((repeat (first | exact Les.nil | (apply Les.cons; first | exact Le.refl | exact Le.nil | (apply Le.agg; (focus ((repeat (first | exact Les.nil | (apply Les.cons; first | exact Le.refl | exact Le.nil | (apply Le.agg; (focus ((repeat (first | exact Les.nil | (apply Les.cons; first | exact Le.refl | exact Le.nil))); done)))))); done)))))); done)); (focus ((repeat (first | exact Takes.nil | (apply Takes.cons; focus (repeat (first | exact Take.head | apply Take.tail | apply Take.right))))); done)); rfl; rintro _ _ ⟨rfl, rfl⟩) | (apply ar_callA h5; rfl; rfl; (focus ((repeat (first | exact Les.nil | (apply Les.cons; first | exact Le.refl | exact Le.nil | (apply Le.agg; (focus ((repeat (first | exact Les.nil | (apply Les.cons; first | exact Le.refl | exact Le.nil | (apply Le.agg; (focus ((repeat (first | exact Les.nil | (apply Les.cons; first | exact Le.refl | exact Le.nil))); done)))))); done)))))); done)); (focus ((repeat (first | exact Takes.nil | (apply Takes.cons; focus (repeat (first | exact Take.head | apply Take.tail | apply Take.right))))); done)); rfl; rintro _ _ ⟨lg5, le5, rfl, rfl⟩) | apply ar_nil | (apply ar_ev; (apply ev_move; rfl); rfl) | (apply ar_ev; (first | (apply ev_assign; rfl) | (apply ev_load_ptr_agg; rfl; (focus ((repeat (first | exact Take.head | apply Take.tail | apply Take.right)); done)); exact (by first | rfl | assumption | exact get_map (by assumption)); exact Nat.le_of_ble_eq_true rfl) | (apply ev_extract; rfl; rfl)); rfl) | (apply ar_new; (first | apply eff_alloc | (apply eff_box; rfl; exact lies_of rfl) | (apply eff_conv_bytes; rfl; exact (by first | omega | assumption | (simp; done) | (simp; omega) | exact Nat.le_of_ble_eq_true rfl))); exact .nil; rfl; intro lab) | (apply ar_store; rfl; (focus ((repeat (first | exact Take.head | apply Take.tail | apply Take.right)); done)); rfl; rfl; exact (by first | rfl | assumption | exact get_map (by assumption)); rfl; rfl) | apply aw_seq | apply a_region | apply go_seq))
  have h6 := s6_ok lc le5
  repeat' ((fail_if_success (show AW _ (.region 13 _ _) _ _)); (first | (apply ar_callA h6; rfl; rfl; (focus ((repeat (first | exact Les.nil | (apply Les.cons; first | exact Le.refl | exact Le.nil | (apply Le.agg; (focus ((repeat (first | exact Les.nil | (apply Les.cons; first | exact Le.refl | exact Le.nil | (apply Le.agg; (focus ((repeat (first | exact Les.nil | (apply Les.cons; first | exact Le.refl | exact Le.nil))); done)))))); done)))))); done)); (focus ((repeat (first | exact Takes.nil | (apply Takes.cons; focus (repeat (first | exact Take.head | apply Take.tail | apply Take.right))))); done)); rfl; rintro _ _ ⟨lg6, rfl, rfl⟩) | apply ar_nil | (apply ar_ev; (apply ev_move; rfl); rfl) | (apply ar_ev; (apply ev_assign; rfl); rfl) | apply aw_seq | apply a_region | apply go_seq))
  have hsame : PFn Tryd.prog 39 [.agg (encR rA), .agg (encR rA)] (vb true) := by
    have h := same39_ok rA rA (by decide)
    rwa [decide_eq_true rfl] at h
  have hints : PFn Tryd.prog 40 [isl [4], isl [4]] (vb true) := by
    have h := sameInts_ok [4] [4] (by decide)
    rwa [decide_eq_true rfl] at h
  have hl2 := len_ok cA le5 0 0 26
  have hsz : PFn Tryd.prog 25 [.agg (encR rB)] (vi 46) := size_ok rB ⟨by decide, by intro f hf; rw [List.mem_singleton.1 hf]; decide⟩ (by decide)
  clear h2 h3 h4 h5 h6 hl hy
  repeat' (first | apply ar_nil | (apply ar_ev; (apply ev_move (y := .val (.bool true)); rfl); rfl) | (apply ar_ev; (first | (apply ev_assign; rfl) | (apply ev_pick_t; rfl; rfl)); rfl) | (apply ar_take; rfl; rfl; rfl; (apply ev_move (y := .val (.bool true)); rfl); rfl) | (apply ar_take; rfl; rfl; rfl; (apply ev_move (y := .val (.bool false)); rfl); rfl) | (apply ar_take; rfl; rfl; rfl; (apply ev_move; rfl); rfl) | (apply ar_take; rfl; rfl; rfl; (first | (apply ev_callA hsame; rfl; rfl; (focus ((repeat (first | exact Les.nil | (apply Les.cons; first | exact Le.refl | exact Le.nil | (apply Le.agg; (focus ((repeat (first | exact Les.nil | (apply Les.cons; first | exact Le.refl | exact Le.nil | (apply Le.agg; (focus ((repeat (first | exact Les.nil | (apply Les.cons; first | exact Le.refl | exact Le.nil))); done)))))); done)))))); done))) | (apply ev_callL hl2; rfl; rfl; exact Cvs.cons (Cv.ptr0 (by repeat (first | exact Take.head | apply Take.tail | apply Take.right)) rfl) .nil; constructor) | (apply ev_callL hints; rfl; rfl; exact Cvs.cons (Cv.own0 (by repeat (first | exact Take.head | apply Take.tail | apply Take.right)) (by decide)) (Cvs.cons Cv.refl .nil); constructor) | (apply ev_callA hsz; rfl; rfl; (focus ((repeat (first | exact Les.nil | (apply Les.cons; first | exact Le.refl | exact Le.nil | (apply Le.agg; (focus ((repeat (first | exact Les.nil | (apply Les.cons; first | exact Le.refl | exact Le.nil | (apply Le.agg; (focus ((repeat (first | exact Les.nil | (apply Les.cons; first | exact Le.refl | exact Le.nil))); done)))))); done)))))); done))) | (apply ev_load_ptr_agg; rfl; (focus ((repeat (first | exact Take.head | apply Take.tail | apply Take.right)); done)); exact (by first | rfl | assumption | exact get_map (by assumption)); exact Nat.le_of_ble_eq_true rfl) | (apply ev_eqip; rfl; rfl) | (apply ev_len_own; rfl) | (apply ev_not; rfl) | (apply ev_build; rfl; rfl; rfl) | (apply ev_buildSlice; rfl; rfl; rfl; rfl; rfl; rfl; rfl)); rfl) | apply a_region | apply aw_ret | apply go_seq)
  all_goals exact g_ret1 (r_tmp rfl) .nil rfl
end Go.Proofs.YtphkfejckafamaaDoor
