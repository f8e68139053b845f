import Derived.Test.YtphkfejckafamaaDoorR
set_option linter.unusedVariables false
set_option linter.unusedSimpArgs false
set_option maxRecDepth 100000
namespace Go.Proofs.YtphkfejckafamaaDoor
open Go.Proofs Go.Proofs.YtphkfejckafamaaDoorA

theorem and_le (p : Int) (m : Nat) (hm : m < 9223372036854775808) : 0 ≤ andI p m ∧ andI p m ≤ m := by
  have h1 : (BitVec.ofInt 64 p &&& BitVec.ofInt 64 (m : Int)).toNat ≤ m := by
    rw [BitVec.toNat_and]
    refine Nat.le_trans Nat.and_le_right ?_
    have : (BitVec.ofInt 64 (m : Int)).toNat = m := by
      rw [BitVec.ofInt_natCast, BitVec.toNat_ofNat]
      exact Nat.mod_eq_of_lt (by omega)
    omega
  unfold andI
  have hk : IntKind.i64.bits = 64 := rfl
  have e : ∀ n : Nat, n < 9223372036854775808 → IntKind.i64.wrap (n : Int) = n := fun n hn => by
    simp [IntKind.wrap, IntKind.signed, IntKind.bits]; omega
  rw [hk, e _ (by omega)]
  omega
abbrev cE (life : Int) : Cf := ⟨1, 1152921504606846976, life, 0⟩
def cellsL (L : List (Nat × Nat)) : List AV := (L.map fun p => AV.ptr p.1 0 0) ++ List.replicate (4 - L.length) (.val (.pointer none))
def toksL (L : List (Nat × Nat)) (c : Cf) (E : List En) (k : Int) : List (Nat × Tok) := L.flatMap fun p => ctok p.1 p.2 c E (sumZ E) k
theorem cellsL_set (L : List (Nat × Nat)) (p : Nat × Nat) (h : L.length < 4) : (cellsL L).set L.length (.ptr p.1 0 0) = cellsL (L ++ [p]) := by
  unfold cellsL
  obtain ⟨n, hn⟩ : ∃ n, 4 - L.length = n + 1 := ⟨3 - L.length, by omega⟩
  have h2 : 4 - (L ++ [p]).length = n := by simp; omega
  rw [hn, h2, List.set_append_right _ _ (by simp)]
  simp [List.replicate_succ]
theorem toksL_snoc (L : List (Nat × Nat)) (p : Nat × Nat) (c : Cf) (E : List En) (k : Int) : toksL (L ++ [p]) c E k = toksL L c E k ++ ctok p.1 p.2 c E (sumZ E) k := by simp [toksL]
set_option maxHeartbeats 16000000 in
theorem CacheEnds_ok (q : Rq) (r : Rs) (life at0 back : Int) (hq : OkFs q.fs) (hr : OkR r) (hback : back ≤ 9223372036854775807) :
    PFn Tryd.prog 10 [.agg (encQ q), .agg (encR r), vi life, vi at0, vi back] (vb true) := by
  refine fn_of Tryd.func10 rfl Tryd.ntmps10 Tryd.results10 rfl fun G => ?_
  have hl1 : 0 ≤ andI life 576460752303423487 ∧ andI life 576460752303423487 ≤ 576460752303423487 := and_le life 576460752303423487 (by decide)
  have ha1 : 0 ≤ andI at0 576460752303423487 ∧ andI at0 576460752303423487 ≤ 576460752303423487 := and_le at0 576460752303423487 (by decide)
  have hnm := Names_ok r hr.fs.len (fun f hf => (hr.fs.fit f hf).2)
  repeat' ((fail_if_success (show AW _ (.region 3 _ _) _ _)); (first | apply ar_nil | (apply ar_ev; (apply ev_move; rfl); rfl) | (apply ar_ev; (first | (apply ev_assign; rfl) | (apply ev_andI; rfl; rfl)); rfl) | (apply ar_new; (first | apply eff_alloc | (apply eff_box; rfl; exact lies_of rfl) | (apply eff_conv_bytes; rfl; exact (by first | omega | assumption | (simp; done) | (simp; omega) | exact Nat.le_of_ble_eq_true rfl))); exact .nil; rfl; intro lab) | apply aw_seq | apply a_region | apply go_seq))
  generalize andI life 576460752303423487 = lf at *
  generalize andI at0 576460752303423487 = tm at *
  obtain ⟨hl1, hl2⟩ := hl1
  obtain ⟨ha1, ha2⟩ := ha1
  generalize lab = l6 at *
  rename_i l5
  obtain ⟨q2, hq2⟩ : ∃ q2 : Rq, q2 = ⟨q.m, q.s, q.a, q.p, q.fs, es⟩ := ⟨_, rfl⟩
  have hnew : FnC Tryd.prog 22 [] [.agg (encC (cE lf))] (fun ts v => ∃ lc le, ts = ctok lc le (cE lf) [] 0 0 ∧ v = .tup [.ptr lc 0 0, vi 0]) :=
    (new_ok (cE lf)).mono fun ts v h => by
      rcases h with ⟨-, h⟩ | ⟨h, -⟩
      · exact h
      · have : okCf (cE lf) = true := by unfold okCf; simp; omega
        rw [this] at h; cases h
  have hq2f : OkFs q2.fs := by rw [hq2]; exact hq
  have hokc : okCf (cE lf) = true := by unfold okCf; simp; omega
  have hszb := sizeL_le hr.fs
  have hszr := hr.b
  have hrl := hr.fs.len
  have hsz : sizeN r = r.b.size + sizeL r.fs := rfl
  have hmay : mayN (cE lf) r = !(namesN r.fs).2 := by
    unfold mayN
    rw [decide_eq_false (show ¬ (1 : Int) = 0 by decide), decide_eq_true (show (sizeN r : Int) ≤ 1152921504606846976 by omega)]
    simp
  generalize hB : (namesN r.fs).2 = B at *
  obtain ⟨E, hE⟩ : ∃ E : List En, E = bif B then [] else [⟨q2, r, 7, tm⟩] := ⟨_, rfl⟩
  have htick : ∀ lc le, FnC Tryd.prog 32 (ctok lc le (cE lf) [] 0 0) [.ptr lc 0 0, vi tm] (fun ts v => ∃ lg, ts = ctok lc le (cE lf) [] 0 tm ++ [gtok lg []] ∧ v = .own lg 0 0) := fun lc le => by
    have h := tick_ok lc le (cE lf) [] 0 tm (okC0 hokc 0 (by decide)) (by omega)
    rw [Int.max_eq_right ha1] at h
    exact h
  have hstore : ∀ lc le, FnC Tryd.prog 36 (ctok lc le (cE lf) [] 0 tm) [.ptr lc 0 0, .agg (encQ q2), .agg (encR r), vi 7, vi (min back tm)] (fun ts v => ∃ lg le', ts = ctok lc le' (cE lf) E (sumZ E) tm ++ [gtok lg []] ∧ v = .tup [vb (!B), .own lg 0 0]) := fun lc le => by
    have h := store_ok lc le (cE lf) [] tm q2 r 7 (min back tm) (okC0 hokc tm (by omega)) (by omega) hq2f hr
    have e1 : max tm (min back tm) = tm := by omega
    have e2 : goneN (cE lf) tm r [] = 0 := by
      unfold goneN
      split <;> rfl
    have e3 : keepN (cE lf) tm q2 r 7 [] = E := by
      unfold keepN
      rw [hmay, hE]
      cases B <;> simp
    rw [e1, e2, e3, hmay] at h
    exact h
  repeat' ((fail_if_success (show AW _ (.region 4 _ _) _ _)); (first | (apply ar_call hnm; rfl; rfl; (focus ((repeat (first | exact Takes.nil | (apply Takes.cons; focus (repeat (first | exact Take.head | apply Take.tail | apply Take.right))))); done)); rfl; rintro _ _ ⟨ln, rfl, rfl, -⟩) | apply ar_nil | (apply ar_ev; (apply ev_move; rfl); rfl) | (apply ar_ev; (first | (apply ev_assign; rfl) | (apply ev_load_ptr_agg; rfl; (focus ((repeat (first | exact Take.head | apply Take.tail | apply Take.right)); done)); exact (by first | rfl | assumption | exact get_map (by assumption)); exact Nat.le_of_ble_eq_true rfl) | (apply ev_extract; rfl; rfl)); rfl) | apply aw_seq | apply a_region | apply go_seq))
  repeat' ((fail_if_success (show AW _ (.region 6 _ _) _ _)); (first | apply ar_nil | (apply ar_ev; (apply ev_fieldAddr_ptr; rfl); rfl) | (apply ar_new; (first | apply eff_alloc | (apply eff_box; rfl; exact lies_of rfl) | (apply eff_conv_bytes; rfl; exact (by first | omega | assumption | (simp; done) | (simp; omega) | exact Nat.le_of_ble_eq_true rfl))); exact .nil; rfl; intro lab) | (apply ar_store1; rfl; (focus ((repeat (first | exact Take.head | apply Take.tail | apply Take.right)); done)); rfl; rfl; exact (by first | rfl | assumption | exact get_map (by assumption)); rfl) | apply aw_seq | apply a_region | apply go_seq))
  generalize lab = la at *
  refine AW.sub (st' := ⟨[(2, vi lf), (3, vi tm), (4, vi back), (5, .ptr l5 0 0), (6, .ptr l6 0 0), (12, vb B), (13, .ptr la 0 0)], [(la, .row 71 4 [cellsL []]), (l5, .row 36 6 [encQ ⟨q.m, q.s, q.a, q.p, q.fs, es⟩]), (l6, .row 24 3 [encR r])]⟩) (Sub.of (by repeat (first | exact .nil | refine .cons rfl Le.refl ?_)) (by repeat (first | exact Takes.nil | (apply Takes.cons; focus (repeat (first | exact Take.head | apply Take.tail | apply Take.right)))))) ?_
  rw [← hq2]
  clear hnm hq hback
  repeat' (first | apply ar_nil | (apply ar_ev; (apply ev_assign; rfl); rfl) | apply a_region | apply aw_block | apply go_seq)
  refine a_loop (fun L : List (Nat × Nat) => ⟨[(2, vi lf), (3, vi tm), (4, vi back), (5, .ptr l5 0 0), (6, .ptr l6 0 0), (12, vb B), (13, .ptr la 0 0), (14, vi L.length)], (la, .row 71 4 [cellsL L]) :: (l5, .row 36 6 [encQ q2]) :: (l6, .row 24 3 [encR r]) :: toksL L (cE lf) E tm⟩) (fun L => L.length ≤ 4) (fun L => 4 - L.length) [] (Sub.of (by repeat (first | exact .nil | refine .cons rfl Le.refl ?_)) (by repeat (first | exact Takes.nil | exact takes_blk | exact takes_all | (apply takes_app; focus (repeat (first | exact takes_blk | exact takes_all | apply takes_right | apply takes_skip))) | (apply takes_cons; focus (repeat (first | exact Take.head | apply Take.tail | apply Take.right))) | apply takes_right | apply takes_skip))) (Nat.zero_le _) ?_
  rintro L hL
  by_cases hL4 : L.length < 4
  · have hset := fun p => cellsL_set L p hL4
    repeat' ((fail_if_success (show AW _ (.region 12 _ _) _ _)); (first | (apply ar_callA hnew; rfl; rfl; (focus ((repeat (first | exact Les.nil | (apply Les.cons; first | exact Le.refl | exact Le.nil | (apply Le.agg; (focus ((repeat (first | exact Les.nil | (apply Les.cons; first | exact Le.refl | exact Le.nil | (apply Le.agg; (focus ((repeat (first | exact Les.nil | (apply Les.cons; first | exact Le.refl | exact Le.nil))); done)))))); done)))))); done)); (focus ((repeat (first | exact Takes.nil | (apply Takes.cons; focus (repeat (first | exact Take.head | apply Take.tail | apply Take.right))))); done)); rfl; rintro _ _ ⟨lc, le, rfl, rfl⟩) | apply ar_nil | (apply ar_splitp; (apply ev_move; rfl); rfl; all_goals (intro hc; try (exfalso; first | omega | contradiction | (simp at hc; omega) | (simp_all; done)))) | (apply ar_ev; (apply ev_move (y := .val (.bool false)); rfl); rfl) | (apply ar_ev; (apply ev_move; rfl); rfl) | (apply ar_ev; (first | (apply ev_assign; rfl) | (apply ev_pick_f; rfl; rfl) | (apply ev_lss; rfl; rfl) | (apply ev_eqnil_p; rfl; rfl) | (apply ev_extract; rfl; rfl) | (apply ev_build; rfl; rfl; rfl)); rfl) | (apply ar_take; rfl; rfl; rfl; (apply ev_move; rfl); rfl) | (apply ar_take; rfl; rfl; rfl; (first | exact ev_call rfl rfl first19_ok | (apply ev_neip; rfl; rfl) | (apply ev_not; rfl)); rfl) | apply aw_seq | apply a_region | apply aw_block | apply aw_skip | (apply aw_condp; rfl; all_goals (intro hc; try (exfalso; first | omega | contradiction | (simp at hc; omega) | (simp_all; done)))) | (apply aw_cond_f; rfl) | apply go_seq))
    have htick := htick lc le
    have hstore := hstore lc le
    have hbb : ((!B) == B) = false := by cases B <;> rfl
    repeat' (first | (apply ar_callA htick; rfl; rfl; (focus ((repeat (first | exact Les.nil | (apply Les.cons; first | exact Le.refl | exact Le.nil | (apply Le.agg; (focus ((repeat (first | exact Les.nil | (apply Les.cons; first | exact Le.refl | exact Le.nil | (apply Le.agg; (focus ((repeat (first | exact Les.nil | (apply Les.cons; first | exact Le.refl | exact Le.nil))); done)))))); done)))))); done)); (focus ((repeat (first | exact Takes.nil | (apply Takes.cons; focus (repeat (first | exact Take.head | apply Take.tail | apply Take.right))))); done)); rfl; rintro _ _ ⟨lg, rfl, rfl⟩) | (apply ar_callA hstore; rfl; rfl; (focus ((repeat (first | exact Les.nil | (apply Les.cons; first | exact Le.refl | exact Le.nil | (apply Le.agg; (focus ((repeat (first | exact Les.nil | (apply Les.cons; first | exact Le.refl | exact Le.nil | (apply Le.agg; (focus ((repeat (first | exact Les.nil | (apply Les.cons; first | exact Le.refl | exact Le.nil))); done)))))); done)))))); done)); (focus ((repeat (first | exact Takes.nil | (apply Takes.cons; focus (repeat (first | exact Take.head | apply Take.tail | apply Take.right))))); done)); rfl; rintro _ _ ⟨lg2, le2, rfl, rfl⟩) | (rw [hbb]) | (refine ar_set (eff_store_1 (k := 4) (e := 71) (l := la) (cs := cellsL L) (xs := [cellsL L]) rfl rfl rfl rfl (by omega)) (.cons (by repeat (first | exact Take.head | apply Take.tail | apply Take.right)) .nil) ?_) | apply ar_nil | (apply ar_ev; (apply ev_move (y := .val (.bool false)); rfl); rfl) | (apply ar_ev; (apply ev_move; rfl); rfl) | (apply ar_ev; (first | (apply ev_assign; rfl) | (apply ev_pick_f; rfl; rfl) | (apply ev_load_ptr_agg; rfl; (focus ((repeat (first | exact Take.head | apply Take.tail | apply Take.right)); done)); exact (by first | rfl | assumption | exact get_map (by assumption)); exact Nat.le_of_ble_eq_true rfl) | (apply ev_inc; rfl; exact (by first | omega | assumption)) | (apply ev_eqb; rfl; rfl) | (apply ev_min; rfl; rfl) | (apply ev_extract; rfl; rfl) | (apply ev_indexAddr_arr; rfl; rfl; exact (by first | omega | assumption))); rfl) | (apply ar_take; rfl; rfl; rfl; (apply ev_move; rfl); rfl) | (apply ar_take; rfl; rfl; rfl; (first | (apply ev_neip; rfl; rfl) | (apply ev_len_own; rfl)); rfl) | apply aw_seq | apply a_region | apply aw_skip | (apply aw_cond_f; rfl) | apply go_seq | apply go_block)
    have hrow : [cellsL L].set 0 ((cellsL L).set (0 + L.length * 1) (.ptr lc 0 0)) = [cellsL (L ++ [(lc, le2)])] := by
      rw [Nat.zero_add, Nat.mul_one, cellsL_set L (lc, le2) hL4]; rfl
    have hln : (L.length : Int) + 1 = ((L ++ [(lc, le2)]).length : Nat) := by simp
    have hl4 : (L ++ [(lc, le2)]).length = L.length + 1 := by simp
    apply go_loop_back
    refine ⟨L ++ [(lc, le2)], by omega, by omega, ?_⟩
    rw [← hln, toksL_snoc]
    exact Sub.of (by repeat (first | exact .nil | refine .cons rfl Le.refl ?_)) (by repeat (first | exact Takes.nil | exact takes_blk | exact takes_all | (apply takes_app; focus (repeat (first | exact takes_blk | exact takes_all | apply takes_right | apply takes_skip))) | (apply takes_cons; focus (repeat (first | exact Take.head | exact Take.rowc hrow Take.head | apply Take.tail | apply Take.right))) | apply takes_right | apply takes_skip))
  · obtain ⟨p0, p1, p2, p3, rfl⟩ : ∃ p0 p1 p2 p3, L = [p0, p1, p2, p3] := by
      match L, (show L.length = 4 by omega) with
      | [a, b, c, d], _ => exact ⟨a, b, c, d, rfl⟩
    clear hL4 hL htick hnew hstore
    refine AW.sub (st' := ⟨[(2, vi lf), (3, vi tm), (4, vi back), (5, .ptr l5 0 0), (6, .ptr l6 0 0), (12, vb B), (13, .ptr la 0 0), (14, vi 4)], [(la, .row 71 4 [[.ptr p0.1 0 0, .ptr p1.1 0 0, .ptr p2.1 0 0, .ptr p3.1 0 0]]), (l5, .row 36 6 [encQ q2]), (l6, .row 24 3 [encR r])] ++ (ctok p0.1 p0.2 (cE lf) E (sumZ E) tm ++ (ctok p1.1 p1.2 (cE lf) E (sumZ E) tm ++ (ctok p2.1 p2.2 (cE lf) E (sumZ E) tm ++ (ctok p3.1 p3.2 (cE lf) E (sumZ E) tm ++ []))))⟩) (Sub.of (by repeat (first | exact .nil | refine .cons rfl Le.refl ?_)) (by repeat (first | exact Takes.nil | (apply Takes.cons; focus (repeat (first | exact Take.head | apply Take.tail | apply Take.right)))))) ?_
    cases B with
    | true =>
      subst hE
      have hlen := len_ok (cE lf) p0.2 0 (sumZ []) tm
      repeat' (first | apply ar_nil | (apply ar_ev; (apply ev_move (y := .val (.bool true)); rfl); rfl) | (apply ar_ev; (apply ev_move; rfl); rfl) | (apply ar_ev; (first | (apply ev_callL hlen; rfl; rfl; exact Cvs.cons (Cv.ptr0 (by repeat (first | exact Take.head | apply Take.tail | apply Take.right)) rfl) .nil; constructor) | (apply ev_load_ptr_one; rfl; (focus ((repeat (first | exact Take.head | apply Take.tail | apply Take.right)); done)); exact (by first | rfl | assumption | exact get_map (by assumption)); rfl) | (apply ev_assign; rfl) | (apply ev_eqip; rfl; rfl) | (apply ev_lss; rfl; rfl) | (apply ev_indexAddr_arr (q := 0); rfl; rfl; exact (by first | omega | assumption))); rfl) | apply aw_seq | apply a_region | apply aw_exit | apply aw_ret | (apply aw_cond_t; rfl) | (apply aw_cond_f; rfl) | apply go_seq | apply go_seq_exit | apply go_seq_ret | apply go_block_exit | apply go_loop_exit)
      all_goals exact g_ret1 (r_tmp rfl) .nil rfl
    | false =>
      obtain ⟨X, hX⟩ : ∃ X : En, X = ⟨q2, r, 7, tm⟩ := ⟨_, rfl⟩
      have hE2 : E = [X] := by rw [hE, hX]; rfl
      subst hE2
      have hokX : ∀ k, tm ≤ k → k ≤ 9223372036854775807 → OkC (cE lf) [X] k := fun k h1 h2 => by
        refine ⟨(show (0 : Int) ≤ 1 ∧ (1 : Int) ≤ 64 by decide), (show (0 : Int) ≤ 1152921504606846976 ∧ (1152921504606846976 : Int) ≤ 1152921504606846976 by decide), ⟨hl1, by show lf ≤ 1152921504606846976; omega⟩, (show ((1 : Nat) : Int) ≤ 1 by decide), ?_, by omega, ?_, ?_⟩
        · have : sumZ [X] = sizeN r := by rw [hX]; exact sumZ_one _
          rw [this]; show (sizeN r : Int) ≤ 1152921504606846976; omega
        · intro p hp; rw [List.mem_singleton.1 hp, hX]; exact ⟨ha1, h1⟩
        · intro p hp; rw [List.mem_singleton.1 hp, hX]; exact ⟨hq2f, hr.fs, hr.b, hr.nm⟩
      have hlate0 : ∀ k, k ≤ tm + lf → late (cE lf) k X = false := fun k h => by
        rw [hX]; unfold late; exact decide_eq_false (by show ¬ k - tm > lf; omega)
      have hlate1 : ∀ k, tm + lf < k → late (cE lf) k X = true := fun k h => by
        rw [hX]; unfold late; exact decide_eq_true (by show k - tm > lf; omega)
      have hb2 : q2.b = es := by rw [hq2]
      have hali : alikeN X.q q2 (namesE X) = true := by
        rw [hX]; unfold alikeN; simp
      have hans0 : ∀ k, k ≤ tm + lf → answersN (cE lf) k q2 X = true := fun k h => by
        unfold answersN; rw [hlate0 k h, hali, decide_eq_true hb2]; rfl
      have hans1 : ∀ k, tm + lf < k → answersN (cE lf) k q2 X = false := fun k h => by
        unfold answersN; rw [hlate1 k h, Bool.not_true, Bool.and_false, Bool.false_and]
      have hpl0 : ∀ k, k ≤ tm + lf → placeN (answersN (cE lf) k q2) [X] = 0 := fun k h => by
        unfold placeN; rw [List.takeWhile_cons, hans0 k h]; rfl
      have hpl1 : ∀ k, tm + lf < k → placeN (answersN (cE lf) k q2) [X] = 1 := fun k h => by
        unfold placeN; rw [List.takeWhile_cons, hans1 k h]; rfl
      have hlp0 : ∀ k, k ≤ tm + lf → lapseN (cE lf) k [X] = 0 := fun k h => by
        unfold lapseN; rw [List.takeWhile_cons, hlate0 k h]; rfl
      have hlp1 : ∀ k, tm + lf < k → lapseN (cE lf) k [X] = 1 := fun k h => by
        unfold lapseN; rw [List.takeWhile_cons, hlate1 k h]; rfl
      have hXr : X.r = r := by rw [hX]
      have hXs : X.st = 7 := by rw [hX]
      generalize hz : sumZ [X] = z at *
      have hclaim0 : ∀ lc le k t, tm ≤ k → k ≤ tm + lf → t ≤ tm + lf → FnC Tryd.prog 37 (ctok lc le (cE lf) [X] z k) [.ptr lc 0 0, .agg (encQ q2), vi t] (fun ts v => ts = ctok lc le (cE lf) [] 0 (max k t) ∧ v = .tup [.agg (encR r), vi 7, vb true]) := fun lc le k t h1 h2 h3 => by
        have h := claim_ok lc le (cE lf) [X] k q2 t (hokX k h1 (by omega)) (by omega) hq2f.len
        rw [hpl0 (max k t) (by omega), hz] at h
        refine h.mono fun ts v hp => ?_
        rcases hp with ⟨x, hx, g1, g2⟩ | ⟨g0, -⟩
        · have hx2 : [X][0]? = some x := hx
          cases hx2
          rw [hXr, hXs] at g2
          exact ⟨g1, g2⟩
        · exact absurd (show (0 : Nat) = 1 from g0) (by decide)
      have hclaim1 : ∀ lc le k t, tm ≤ k → k ≤ 9223372036854775807 → t ≤ 9223372036854775807 → tm + lf < max k t → FnC Tryd.prog 37 (ctok lc le (cE lf) [X] z k) [.ptr lc 0 0, .agg (encQ q2), vi t] (fun ts v => ts = ctok lc le (cE lf) [X] z (max k t) ∧ v = .tup [.agg (encR r0), vi 0, vb false]) := fun lc le k t h1 h2 h3 h4 => by
        have h := claim_ok lc le (cE lf) [X] k q2 t (hokX k h1 h2) h3 hq2f.len
        rw [hpl1 (max k t) h4, hz] at h
        refine h.mono fun ts v hp => ?_
        rcases hp with ⟨x, hx, g1, g2⟩ | ⟨-, g1, g2⟩
        · cases hx
        · exact ⟨g1, g2⟩
      have hholds : ∀ lc le k t, tm ≤ k → k ≤ 9223372036854775807 → t ≤ 9223372036854775807 → tm + lf < max k t → FnC Tryd.prog 38 (ctok lc le (cE lf) [X] z k) [.ptr lc 0 0, .agg (encQ q2), vi t] (fun ts v => ts = ctok lc le (cE lf) [X] z (max k t) ∧ v = vb false) := fun lc le k t h1 h2 h3 h4 => by
        have h := holds_ok lc le (cE lf) [X] k q2 t (hokX k h1 h2) h3 hq2f.len
        have e : decide (findI (answersN (cE lf) (max k t) q2) [X] ≥ 0) = false := by
          unfold findI; rw [hpl1 (max k t) h4]; rfl
        rw [e, hz] at h
        exact h
      have htick0 : ∀ lc le k t, tm ≤ k → k ≤ tm + lf → t ≤ tm + lf → FnC Tryd.prog 32 (ctok lc le (cE lf) [X] z k) [.ptr lc 0 0, vi t] (fun ts v => ∃ lg, ts = ctok lc le (cE lf) [X] z (max k t) ++ [gtok lg []] ∧ v = .own lg 0 0) := fun lc le k t h1 h2 h3 => by
        have h := tick_ok lc le (cE lf) [X] k t (hokX k h1 (by omega)) (by omega)
        rw [hlp0 (max k t) (by omega), List.drop_zero, hz] at h
        exact h
      have htick1 : ∀ lc le k t, tm ≤ k → k ≤ 9223372036854775807 → t ≤ 9223372036854775807 → tm + lf < max k t → FnC Tryd.prog 32 (ctok lc le (cE lf) [X] z k) [.ptr lc 0 0, vi t] (fun ts v => ∃ lg, ts = ctok lc le (cE lf) [] 0 (max k t) ++ [gtok lg [7]] ∧ v = .own lg 0 1) := fun lc le k t h1 h2 h3 h4 => by
        have h := tick_ok lc le (cE lf) [X] k t (hokX k h1 h2) h3
        have e3 : sts (List.take 1 [X]) = [7] := by rw [← hXs]; rfl
        rw [hlp1 (max k t) h4, hz, e3] at h
        exact h
      have hstore1 : ∀ lc le k t, tm ≤ k → k ≤ 9223372036854775807 → t ≤ 9223372036854775807 → tm + lf < max k t → FnC Tryd.prog 36 (ctok lc le (cE lf) [X] z k) [.ptr lc 0 0, .agg (encQ q2), .agg (encR r), vi 9, vi t] (fun ts v => ∃ lg le', ts = ctok lc le' (cE lf) [⟨q2, r, 9, max k t⟩] (sumZ [⟨q2, r, 9, max k t⟩]) (max k t) ++ [gtok lg [7]] ∧ v = .tup [vb true, .own lg 0 1]) := fun lc le k t h1 h2 h3 h4 => by
        have h := store_ok lc le (cE lf) [X] k q2 r 9 t (hokX k h1 h2) h3 hq2f hr
        have e1 : goneN (cE lf) (max k t) r [X] = 1 := by
          unfold goneN; rw [hlp1 (max k t) h4]; split <;> rfl
        have e2 : keepN (cE lf) (max k t) q2 r 9 [X] = [⟨q2, r, 9, max k t⟩] := by
          unfold keepN; rw [e1, hmay]; rfl
        rw [e1, e2, hmay, hz] at h
        have e3 : sts (List.take 1 [X]) = [7] := by rw [← hXs]; rfl
        rw [e3] at h
        exact h
      clear hokX hlate0 hlate1 hb2 hali hans0 hans1 hpl0 hpl1 hlp0 hlp1 hE hmay hr
      have e1 : max tm (tm + lf) = tm + lf := by omega
      have e2 : max tm (tm + lf + 1) = tm + lf + 1 := by omega
      have e3 : max (tm + lf + 1) tm = tm + lf + 1 := by omega
      have e4 : max (tm + lf + 1) (min back tm) = tm + lf + 1 := by omega
      have e5 : max (tm + lf) (min back tm) = tm + lf := by omega
      have e6 : max (tm + lf) (tm + lf + 1) = tm + lf + 1 := by omega
      have d1 := hclaim0 p0.1 p0.2 tm (tm + lf) (by omega) (by omega) (by omega)
      rw [e1] at d1
      have d2 := hclaim1 p1.1 p1.2 tm (tm + lf + 1) (by omega) (by omega) (by omega) (by omega)
      rw [e2] at d2
      have d3 := hholds p1.1 p1.2 (tm + lf + 1) tm (by omega) (by omega) (by omega) (by omega)
      rw [e3] at d3
      have d4 := hclaim1 p1.1 p1.2 (tm + lf + 1) (min back tm) (by omega) (by omega) (by omega) (by omega)
      rw [e4] at d4
      have d5 := htick0 p2.1 p2.2 tm (tm + lf) (by omega) (by omega) (by omega)
      rw [e1] at d5
      have d6 := htick0 p2.1 p2.2 (tm + lf) (min back tm) (by omega) (by omega) (by omega)
      rw [e5] at d6
      have d7 := htick1 p2.1 p2.2 (tm + lf) (tm + lf + 1) (by omega) (by omega) (by omega) (by omega)
      rw [e6] at d7
      have d8 := hstore1 p3.1 p3.2 tm (tm + lf + 1) (by omega) (by omega) (by omega) (by omega)
      rw [e2] at d8
      clear hclaim0 hclaim1 hholds htick0 htick1 hstore1 e1 e2 e3 e4 e5 e6
      repeat' ((fail_if_success (show AW _ (.region 21 _ _) _ _)); (first | (apply ar_callA d1; rfl; rfl; (focus ((repeat (first | exact Les.nil | (apply Les.cons; first | exact Le.refl | exact Le.nil | (apply Le.agg; (focus ((repeat (first | exact Les.nil | (apply Les.cons; first | exact Le.refl | exact Le.nil | (apply Le.agg; (focus ((repeat (first | exact Les.nil | (apply Les.cons; first | exact Le.refl | exact Le.nil))); done)))))); done)))))); done)); (focus ((repeat (first | exact Takes.nil | (apply Takes.cons; focus (repeat (first | exact Take.head | apply Take.tail | apply Take.right))))); done)); rfl; rintro _ _ ⟨rfl, rfl⟩) | (apply ar_callA d2; rfl; rfl; (focus ((repeat (first | exact Les.nil | (apply Les.cons; first | exact Le.refl | exact Le.nil | (apply Le.agg; (focus ((repeat (first | exact Les.nil | (apply Les.cons; first | exact Le.refl | exact Le.nil | (apply Le.agg; (focus ((repeat (first | exact Les.nil | (apply Les.cons; first | exact Le.refl | exact Le.nil))); done)))))); done)))))); done)); (focus ((repeat (first | exact Takes.nil | (apply Takes.cons; focus (repeat (first | exact Take.head | apply Take.tail | apply Take.right))))); done)); rfl; rintro _ _ ⟨rfl, rfl⟩) | apply ar_nil | (apply ar_ev; (apply ev_move (y := .val (.bool false)); rfl); rfl) | (apply ar_ev; (apply ev_move; rfl); rfl) | (apply ar_ev; (first | (apply ev_indexAddr_arr (q := 1); rfl; rfl; decide) | (apply ev_load_ptr_one; rfl; (focus ((repeat (first | exact Take.head | apply Take.tail | apply Take.right)); done)); exact (by first | rfl | assumption | exact get_map (by assumption)); rfl) | (apply ev_assign; rfl) | (apply ev_load_ptr_agg; rfl; (focus ((repeat (first | exact Take.head | apply Take.tail | apply Take.right)); done)); exact (by first | rfl | assumption | exact get_map (by assumption)); exact Nat.le_of_ble_eq_true rfl) | (apply ev_lss; rfl; rfl) | (apply ev_add; rfl; rfl; exact (by first | omega | assumption); exact (by first | omega | assumption)) | (apply ev_extract; rfl; rfl) | (apply ev_indexAddr_arr (q := 0); rfl; rfl; exact (by first | omega | assumption))); rfl) | (apply ar_new; (first | apply eff_alloc | (apply eff_box; rfl; exact lies_of rfl) | (apply eff_conv_bytes; rfl; exact (by first | omega | assumption | (simp; done) | (simp; omega) | exact Nat.le_of_ble_eq_true rfl))); exact .nil; rfl; intro lab) | (apply ar_store; rfl; (focus ((repeat (first | exact Take.head | apply Take.tail | apply Take.right)); done)); rfl; rfl; exact (by first | rfl | assumption | exact get_map (by assumption)); rfl; rfl) | apply aw_seq | apply a_region | apply aw_skip | apply aw_exit | (apply aw_cond_f; rfl) | apply go_seq | apply go_seq_exit | apply go_block_exit | apply go_loop_exit))
      clear d1 d2
      repeat' ((fail_if_success (show AW _ (.region 25 _ _) _ _)); (first | (apply ar_callA d3; rfl; rfl; (focus ((repeat (first | exact Les.nil | (apply Les.cons; first | exact Le.refl | exact Le.nil | (apply Le.agg; (focus ((repeat (first | exact Les.nil | (apply Les.cons; first | exact Le.refl | exact Le.nil | (apply Le.agg; (focus ((repeat (first | exact Les.nil | (apply Les.cons; first | exact Le.refl | exact Le.nil))); done)))))); done)))))); done)); (focus ((repeat (first | exact Takes.nil | (apply Takes.cons; focus (repeat (first | exact Take.head | apply Take.tail | apply Take.right))))); done)); rfl; rintro _ _ ⟨rfl, rfl⟩) | (apply ar_callA d4; rfl; rfl; (focus ((repeat (first | exact Les.nil | (apply Les.cons; first | exact Le.refl | exact Le.nil | (apply Le.agg; (focus ((repeat (first | exact Les.nil | (apply Les.cons; first | exact Le.refl | exact Le.nil | (apply Le.agg; (focus ((repeat (first | exact Les.nil | (apply Les.cons; first | exact Le.refl | exact Le.nil))); done)))))); done)))))); done)); (focus ((repeat (first | exact Takes.nil | (apply Takes.cons; focus (repeat (first | exact Take.head | apply Take.tail | apply Take.right))))); done)); rfl; rintro _ _ ⟨rfl, rfl⟩) | (apply ar_callA d5; rfl; rfl; (focus ((repeat (first | exact Les.nil | (apply Les.cons; first | exact Le.refl | exact Le.nil | (apply Le.agg; (focus ((repeat (first | exact Les.nil | (apply Les.cons; first | exact Le.refl | exact Le.nil | (apply Le.agg; (focus ((repeat (first | exact Les.nil | (apply Les.cons; first | exact Le.refl | exact Le.nil))); done)))))); done)))))); done)); (focus ((repeat (first | exact Takes.nil | (apply Takes.cons; focus (repeat (first | exact Take.head | apply Take.tail | apply Take.right))))); done)); rfl; rintro _ _ ⟨lg5, rfl, rfl⟩) | (apply ar_callA d6; rfl; rfl; (focus ((repeat (first | exact Les.nil | (apply Les.cons; first | exact Le.refl | exact Le.nil | (apply Le.agg; (focus ((repeat (first | exact Les.nil | (apply Les.cons; first | exact Le.refl | exact Le.nil | (apply Le.agg; (focus ((repeat (first | exact Les.nil | (apply Les.cons; first | exact Le.refl | exact Le.nil))); done)))))); done)))))); done)); (focus ((repeat (first | exact Takes.nil | (apply Takes.cons; focus (repeat (first | exact Take.head | apply Take.tail | apply Take.right))))); done)); rfl; rintro _ _ ⟨lg6, rfl, rfl⟩) | apply ar_nil | (apply ar_ev; (apply ev_move; rfl); rfl) | (apply ar_ev; (first | (apply ev_indexAddr_arr (q := 1); rfl; rfl; decide) | (apply ev_indexAddr_arr (q := 2); rfl; rfl; decide) | (apply ev_load_ptr_one; rfl; (focus ((repeat (first | exact Take.head | apply Take.tail | apply Take.right)); done)); exact (by first | rfl | assumption | exact get_map (by assumption)); rfl) | (apply ev_assign; rfl) | (apply ev_load_ptr_agg; rfl; (focus ((repeat (first | exact Take.head | apply Take.tail | apply Take.right)); done)); exact (by first | rfl | assumption | exact get_map (by assumption)); exact Nat.le_of_ble_eq_true rfl) | (apply ev_add; rfl; rfl; exact (by first | omega | assumption); exact (by first | omega | assumption)) | (apply ev_min; rfl; rfl) | (apply ev_extract; rfl; rfl)); rfl) | (apply ar_new; (first | apply eff_alloc | (apply eff_box; rfl; exact lies_of rfl) | (apply eff_conv_bytes; rfl; exact (by first | omega | assumption | (simp; done) | (simp; omega) | exact Nat.le_of_ble_eq_true rfl))); exact .nil; rfl; intro lab) | (apply ar_store; rfl; (focus ((repeat (first | exact Take.head | apply Take.tail | apply Take.right)); done)); rfl; rfl; exact (by first | rfl | assumption | exact get_map (by assumption)); rfl; rfl) | apply aw_seq | apply a_region | apply go_seq))
      clear d3 d4 d5 d6
      repeat' ((fail_if_success (show AW _ (.region 27 _ _) _ _)); (first | (apply ar_callA d7; rfl; rfl; (focus ((repeat (first | exact Les.nil | (apply Les.cons; first | exact Le.refl | exact Le.nil | (apply Le.agg; (focus ((repeat (first | exact Les.nil | (apply Les.cons; first | exact Le.refl | exact Le.nil | (apply Le.agg; (focus ((repeat (first | exact Les.nil | (apply Les.cons; first | exact Le.refl | exact Le.nil))); done)))))); done)))))); done)); (focus ((repeat (first | exact Takes.nil | (apply Takes.cons; focus (repeat (first | exact Take.head | apply Take.tail | apply Take.right))))); done)); rfl; rintro _ _ ⟨lg7, rfl, rfl⟩) | (apply ar_callA d8; rfl; rfl; (focus ((repeat (first | exact Les.nil | (apply Les.cons; first | exact Le.refl | exact Le.nil | (apply Le.agg; (focus ((repeat (first | exact Les.nil | (apply Les.cons; first | exact Le.refl | exact Le.nil | (apply Le.agg; (focus ((repeat (first | exact Les.nil | (apply Les.cons; first | exact Le.refl | exact Le.nil))); done)))))); done)))))); done)); (focus ((repeat (first | exact Takes.nil | (apply Takes.cons; focus (repeat (first | exact Take.head | apply Take.tail | apply Take.right))))); done)); rfl; rintro _ _ ⟨lg8, le8, rfl, rfl⟩) | apply ar_nil | (apply ar_ev; (apply ev_move; rfl); rfl) | (apply ar_ev; (first | (apply ev_indexAddr_arr (q := 2); rfl; rfl; decide) | (apply ev_indexAddr_arr (q := 3); rfl; rfl; decide) | (apply ev_load_ptr_one; rfl; (focus ((repeat (first | exact Take.head | apply Take.tail | apply Take.right)); done)); exact (by first | rfl | assumption | exact get_map (by assumption)); rfl) | (apply ev_assign; rfl) | (apply ev_load_ptr_agg; rfl; (focus ((repeat (first | exact Take.head | apply Take.tail | apply Take.right)); done)); exact (by first | rfl | assumption | exact get_map (by assumption)); exact Nat.le_of_ble_eq_true rfl) | (apply ev_add; rfl; rfl; exact (by first | omega | assumption); exact (by first | omega | assumption)) | (apply ev_extract; rfl; rfl)); rfl) | apply aw_seq | apply a_region | apply go_seq))
      clear d7 d8
      have hsame : PFn Tryd.prog 39 [.agg (encR r), .agg (encR r)] (vb true) := by
        have h := same39_ok r r (by have := hrl; omega)
        rwa [decide_eq_true rfl] at h
      have hints : PFn Tryd.prog 40 [isl [7], isl [7]] (vb true) := by
        have h := sameInts_ok [7] [7] (by decide)
        rwa [decide_eq_true rfl] at h
      have hlA := len_ok (cE lf) p1.2 1 z (tm + lf + 1)
      have hlB := len_ok (cE lf) p2.2 0 0 (tm + lf + 1)
      repeat' (first | apply ar_nil | (apply ar_ev; (apply ev_move (y := .val (.bool true)); rfl); rfl) | (apply ar_ev; (first | (apply ev_assign; rfl) | (apply ev_pick_t; rfl; rfl)); rfl) | (apply ar_take; rfl; rfl; rfl; (apply ev_move (y := .val (.bool true)); rfl); rfl) | (apply ar_take; rfl; rfl; rfl; (apply ev_move (y := .val (.bool false)); rfl); rfl) | (apply ar_take; rfl; rfl; rfl; (apply ev_move; rfl); rfl) | (apply ar_take; rfl; rfl; rfl; (first | (apply ev_callA hsame; rfl; rfl; (focus ((repeat (first | exact Les.nil | (apply Les.cons; first | exact Le.refl | exact Le.nil | (apply Le.agg; (focus ((repeat (first | exact Les.nil | (apply Les.cons; first | exact Le.refl | exact Le.nil | (apply Le.agg; (focus ((repeat (first | exact Les.nil | (apply Les.cons; first | exact Le.refl | exact Le.nil))); done)))))); done)))))); done))) | (apply ev_callL hlA; rfl; rfl; exact Cvs.cons (Cv.ptr0 (by repeat (first | exact Take.head | apply Take.tail | apply Take.right)) rfl) .nil; constructor) | (apply ev_callL hlB; rfl; rfl; exact Cvs.cons (Cv.ptr0 (by repeat (first | exact Take.head | apply Take.tail | apply Take.right)) rfl) .nil; constructor) | (apply ev_callL hints; rfl; rfl; exact Cvs.cons (Cv.own0 (by repeat (first | exact Take.head | apply Take.tail | apply Take.right)) (by decide)) (Cvs.cons Cv.refl .nil); constructor) | (apply ev_indexAddr_arr (q := 1); rfl; rfl; decide) | (apply ev_indexAddr_arr (q := 2); rfl; rfl; decide) | (apply ev_load_ptr_one; rfl; (focus ((repeat (first | exact Take.head | apply Take.tail | apply Take.right)); done)); exact (by first | rfl | assumption | exact get_map (by assumption)); rfl) | (apply ev_load_ptr_agg; rfl; (focus ((repeat (first | exact Take.head | apply Take.tail | apply Take.right)); done)); exact (by first | rfl | assumption | exact get_map (by assumption)); exact Nat.le_of_ble_eq_true rfl) | (apply ev_eqip; rfl; rfl) | (apply ev_len_own; rfl) | (apply ev_not; rfl) | (apply ev_buildSlice; rfl; rfl; rfl; rfl; rfl; rfl; rfl)); rfl) | apply a_region | apply aw_ret | apply go_seq)
      all_goals exact g_ret1 (r_tmp rfl) .nil rfl
end Go.Proofs.YtphkfejckafamaaDoor
