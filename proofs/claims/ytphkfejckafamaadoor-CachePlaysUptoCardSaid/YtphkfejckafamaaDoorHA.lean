import Derived.Test.YtphkfejckafamaaDoorGA
set_option linter.unusedVariables false
set_option linter.unusedSimpArgs false
set_option maxRecDepth 100000
namespace Go.Proofs.YtphkfejckafamaaDoor
open Go.Proofs Go.Proofs.YtphkfejckafamaaDoorA

structure GoodA (c : Cf) (l : List En) (k : Int) : Prop where
  ok : OkC c l k
  srt : SrtA l
theorem GoodA.sub {c : Cf} {l m : List En} {k : Int} (h : GoodA c m k) (hs : l.Sublist m) : GoodA c l k := ⟨h.ok.sub hs, h.srt.sublist hs⟩
theorem GoodA.tick {c : Cf} {l : List En} {k : Int} (h : GoodA c l k) (t : Int) (ht : t ≤ 9223372036854775807) : GoodA c l (max k t) := ⟨h.ok.tick t ht, h.srt⟩
theorem GoodA.keep {c : Cf} {l : List En} {k n : Int} (h : GoodA c l k) {q : Rq} {r : Rs} (hq : OkFs q.fs) (hr : OkR r) : GoodA c (keepN c k q r n l) k := by
  have hd : GoodA c (l.drop (goneN c k r l)) k := h.sub (List.drop_sublist _ _)
  unfold keepN
  cases hm : mayN c r with
  | false => rw [if_neg Bool.false_ne_true, List.append_nil]; exact hd
  | true =>
    rw [if_pos rfl]
    have hmm : (namesN r.fs).2 = false ∧ c.e ≠ 0 ∧ (sizeN r : Int) ≤ c.b := by
      unfold mayN at hm; simpa using hm
    have hce := h.ok.e
    have hg : l.drop (goneN c k r l) = (l.drop (lapseN c k l)).drop (roomN c (sizeN r) (l.drop (lapseN c k l))) := by
      unfold goneN; rw [hm, if_pos rfl, List.drop_drop]
    have hfit : ((l.drop (goneN c k r l)).length : Int) + 1 ≤ c.e ∧ sumZ (l.drop (goneN c k r l)) + sizeN r ≤ c.b := by
      rw [hg]
      rcases room_fits c (sizeN r) (l.drop (lapseN c k l)) with h0 | h0
      · rw [h0]; simp [sumZ]; omega
      · unfold tight at h0
        simp only [Bool.or_eq_false_iff, decide_eq_false_iff_not] at h0
        omega
    generalize l.drop (goneN c k r l) = m at *
    have hk := hd.ok.clk
    refine ⟨⟨hd.ok.e, hd.ok.b, hd.ok.l, by rw [List.length_append]; simp; omega, ?_, hk, ?_, ?_⟩, ?_⟩
    · rw [sumZ_app]
      have : sumZ [(⟨q, r, n, k⟩ : En)] = sizeN r := sumZ_one _
      omega
    · intro p hp
      rcases List.mem_append.1 hp with hp | hp
      · exact hd.ok.ar p hp
      · rw [List.mem_singleton.1 hp]; exact ⟨hk.1, Int.le_refl _⟩
    · intro p hp
      rcases List.mem_append.1 hp with hp | hp
      · exact hd.ok.ok p hp
      · rw [List.mem_singleton.1 hp]; exact ⟨hq, hr.fs, hr.b, hr.nm⟩
    · refine List.pairwise_append.2 ⟨hd.srt, by simp, fun a ha b hb => ?_⟩
      rw [List.mem_singleton.1 hb]; exact (hd.ok.ar a ha).2
set_option maxHeartbeats 16000000 in
theorem plays_ok {B : Base} (hB : MarkF B) (lc le lm ll : Nat) (c : Cf) (l : List En) (k : Int) (o : Op) (h : GoodA c l k) (ho : OkO o) :
    FnB B Tryd.prog 27 (ctok lc le c l (sumZ l) k ++ rtok lm ll c l k) [.ptr lc 0 0, .ptr lm 0 0, .agg (encO o)] (fun ts v => (∃ le' ll' l' k', GoodA c l' k' ∧ ts = ctok lc le' c l' (sumZ l') k' ++ rtok lm ll' c l' k') ∧ v = vb true) := by
  refine fnB_of Tryd.func27 rfl Tryd.ntmps27 Tryd.results27 rfl fun G hG => ?_
  refine aw_fact hG fun lb => ?_
  have hql := ho.q.len
  have hlq := lent_ok hB o.q.fs (by omega)
  have hkq := kept_ok19 hB o.q.fs (by omega)
  have hst := stored_ok hB lc le lm ll c l k o h.ok h.srt ho
  have hgt := h.tick o.tk ho.t
  have hgk := hgt.keep (n := o.st) ho.q ho.r
  have hgl := hgt.sub (left_sub c (max k o.tk) o.q l)
  have hgd := hgt.sub (List.drop_sublist (lapseN c (max k o.tk) l) l)
  have hcl := fun lq => claimO_ok lc le lq c l k o.q o.tk h.ok ho.t hql
  have hrc := claim57_ok lm ll c l k o.tk o.q h.ok ho.t hql
  have hho := fun lq => holdsO_ok lc le lq c l k o.q o.tk h.ok ho.t hql
  have hrh := holds58_ok lm ll c l k o.tk o.q h.ok ho.t hql
  have htk := tick_ok lc le c l k o.tk h.ok ho.t
  have hrt := tick59_ok lm ll c l k o.tk h.ok h.srt ho.t
  have hce := h.ok.e
  have hlen := h.ok.len
  repeat' ((fail_if_success (show AW _ (.block 0 _) _ _)); (first | (apply ar_callF hlq; rfl; rfl; exact Les.refl; exact Takes.nil; exact (by repeat (first | exact Take.head | apply Take.tail | apply Take.right)); rfl; rintro _ _ ⟨lq, rfl, rfl⟩) | apply ar_nil | (apply ar_ev; (first | (apply ev_load_ptr_one; rfl; (focus ((repeat (first | exact Take.head | apply Take.tail | apply Take.right)); done)); exact (by first | rfl | assumption | exact get_map (by assumption)); rfl) | (apply ev_fieldAddr_ptr; rfl) | (apply ev_assign; rfl) | (apply ev_load_ptr_agg; rfl; (focus ((repeat (first | exact Take.head | apply Take.tail | apply Take.right)); done)); exact (by first | rfl | assumption | exact get_map (by assumption)); exact Nat.le_of_ble_eq_true rfl)); rfl) | (apply ar_new; (first | apply eff_alloc | (apply eff_box; rfl; exact lies_of rfl) | (apply eff_conv_bytes; rfl; exact (by first | omega | assumption | (simp; done) | (simp; omega) | exact Nat.le_of_ble_eq_true rfl))); exact .nil; rfl; intro lab) | (apply ar_store1; rfl; (focus ((repeat (first | exact Take.head | apply Take.tail | apply Take.right)); done)); rfl; rfl; exact (by first | rfl | assumption | exact get_map (by assumption)); rfl) | (apply ar_store; rfl; (focus ((repeat (first | exact Take.head | apply Take.tail | apply Take.right)); done)); rfl; rfl; exact (by first | rfl | assumption | exact get_map (by assumption)); rfl; rfl) | apply aw_seq | apply a_region | apply go_seq))
  generalize lab = l7 at *
  rename_i l5
  have hcl := hcl lq
  have hho := hho lq
  refine AW.sub (st' := ⟨[(0, .ptr lc 0 0), (1, .ptr lm 0 0), (5, .ptr l5 0 0), (7, .ptr l7 0 0), (24, vi o.kd)], ctok lc le c l (sumZ l) k ++ rtok lm ll c l k ++ [(l5, .row 54 13 [encO o]), (l7, .row 36 6 [qO o.q lq]), (lq, .row 33 3 (o.q.fs.map encF ++ [encF mk19])), (lb, B.tok)]⟩) (Sub.of (by repeat (first | exact .nil | refine .cons rfl Le.refl ?_)) (by repeat (first | exact Takes.nil | (apply Takes.cons; focus (repeat (first | exact Take.head | apply Take.tail | apply Take.right)))))) ?_
  refine aw_join (fun g : Nat × Nat × List En × Int => ⟨[(0, .ptr lc 0 0), (1, .ptr lm 0 0), (5, .ptr l5 0 0), (7, .ptr l7 0 0)], ctok lc g.1 c g.2.2.1 (sumZ g.2.2.1) g.2.2.2 ++ rtok lm g.2.1 c g.2.2.1 g.2.2.2 ++ [(l5, .row 54 13 [encO o]), (l7, .row 36 6 [qO o.q lq]), (lq, .row 33 3 (o.q.fs.map encF ++ [encF mk19])), (lb, B.tok)]⟩) (fun g => GoodA c g.2.2.1 g.2.2.2) ?_ ?_
  · refine aw_block ?_
    by_cases h1 : o.kd = 1
    · clear hcl hrc hho hrh htk hrt hlq hkq hgl hgd
      repeat' (first | (apply ar_callF hst; rfl; rfl; exact Les.refl; exact (by repeat (first | exact Takes.nil | (apply Takes.cons; focus (repeat (first | exact Take.head | apply Take.tail | apply Take.right))))); exact (by repeat (first | exact Take.head | apply Take.tail | apply Take.right)); rfl; rintro _ _ ⟨le2, ll2, rfl, rfl⟩) | apply ar_nil | (apply ar_ev; (apply ev_move; rfl); rfl) | (apply ar_ev; (first | (apply ev_assign; rfl) | (apply ev_load_ptr_agg; rfl; (focus ((repeat (first | exact Take.head | apply Take.tail | apply Take.right)); done)); exact (by first | rfl | assumption | exact get_map (by assumption)); exact Nat.le_of_ble_eq_true rfl) | (apply ev_eqip; rfl; rfl) | (apply ev_not; rfl)); rfl) | apply aw_seq | apply a_region | apply aw_skip | (apply aw_condp; rfl; all_goals (intro hc; try (exfalso; first | omega | contradiction | (simp at hc; omega) | (simp_all; done)))) | (apply aw_cond_f; rfl) | apply go_seq | apply go_block)
      all_goals exact go_loop_back ⟨(le2, ll2, _, _), hgk, Sub.of (by repeat (first | exact .nil | refine .cons rfl Le.refl ?_)) (by repeat (first | exact Takes.nil | (apply Takes.cons; focus (repeat (first | exact Take.head | apply Take.tail | apply Take.right)))))⟩
    by_cases h2 : o.kd = 2
    · clear hst hho hrh htk hrt hlq hkq hgk hgd
      by_cases hi : placeN (answersN c (max k o.tk) o.q) l < l.length
      · obtain ⟨x, hx⟩ : ∃ x, l[placeN (answersN c (max k o.tk) o.q) l]? = some x := ⟨_, List.getElem?_eq_getElem hi⟩
        have hcl2 : FnC Tryd.prog 37 (ctok lc le c l (sumZ l) k ++ [(lq, .row 33 3 (o.q.fs.map encF ++ [encF mk19]))]) [.ptr lc 0 0, .agg (qO o.q lq), vi o.tk] (fun ts v => ts = ctok lc le c (leftN c (max k o.tk) o.q l) (sumZ (leftN c (max k o.tk) o.q l)) (max k o.tk) ++ [(lq, .row 33 3 (o.q.fs.map encF ++ [encF mk19]))] ∧ v = .tup [.agg (encR x.r), vi x.st, vb true]) := hcl.mono fun ts v hp => by
          rcases hp with ⟨y, hy, g1, g2⟩ | ⟨g0, -⟩
          · rw [hx] at hy; cases hy; exact ⟨g1, g2⟩
          · omega
        have hrc2 : FnC Tryd.prog 57 (rtok lm ll c l k) [.ptr lm 0 0, .agg (encQ o.q), vi o.tk] (fun ts v => ∃ ll', ts = rtok lm ll' c (leftN c (max k o.tk) o.q l) (max k o.tk) ∧ v = .tup [.agg (encR x.r), vi x.st, vb true]) := hrc.mono fun ts v hp => by
          rcases hp with ⟨y, hy, ll', g1, g2⟩ | ⟨g0, -⟩
          · rw [hx] at hy; cases hy; exact ⟨ll', g1, g2⟩
          · omega
        have hxo := h.ok.ok x (List.mem_of_getElem? hx)
        have hsame : PFn Tryd.prog 39 [.agg (encR x.r), .agg (encR x.r)] (vb true) := by
          have h := same39_ok x.r x.r (by have := hxo.r.len; omega)
          rwa [decide_eq_true rfl] at h
        generalize leftN c (max k o.tk) o.q l = LF at *
        clear hcl hrc hx hxo hi
        repeat' (first | (apply ar_call hcl2; rfl; rfl; (focus ((repeat (first | exact Takes.nil | (apply Takes.cons; focus (repeat (first | exact Take.head | apply Take.tail | apply Take.right))))); done)); rfl; rintro _ _ ⟨rfl, rfl⟩) | (apply ar_call hrc2; rfl; rfl; (focus ((repeat (first | exact Takes.nil | (apply Takes.cons; focus (repeat (first | exact Take.head | apply Take.tail | apply Take.right))))); done)); rfl; rintro _ _ ⟨ll2, rfl, rfl⟩) | apply ar_nil | (apply ar_ev; (apply ev_move (y := .val (.bool false)); rfl); rfl) | (apply ar_splitp; (apply ev_move; rfl); rfl; all_goals (intro hc; try (exfalso; first | omega | contradiction | (simp at hc; omega) | (simp_all; done)))) | (apply ar_ev; (apply ev_move; rfl); rfl) | (apply ar_ev; (first | (apply ev_callA hsame; rfl; rfl; (focus ((repeat (first | exact Les.nil | (apply Les.cons; first | exact Le.refl | exact Le.nil | (apply Le.agg; (focus ((repeat (first | exact Les.nil | (apply Les.cons; first | exact Le.refl | exact Le.nil | (apply Le.agg; (focus ((repeat (first | exact Les.nil | (apply Les.cons; first | exact Le.refl | exact Le.nil))); done)))))); done)))))); done))) | (apply ev_load_ptr_one; rfl; (focus ((repeat (first | exact Take.head | apply Take.tail | apply Take.right)); done)); exact (by first | rfl | assumption | exact get_map (by assumption)); rfl) | (apply ev_fieldAddr_ptr; rfl) | (apply ev_assign; rfl) | (apply ev_pick_f; rfl; rfl) | (apply ev_load_ptr_agg; rfl; (focus ((repeat (first | exact Take.head | apply Take.tail | apply Take.right)); done)); exact (by first | rfl | assumption | exact get_map (by assumption)); exact Nat.le_of_ble_eq_true rfl) | (apply ev_eqip; rfl; rfl) | (apply ev_not; rfl) | (apply ev_extract; rfl; rfl)); rfl) | (apply ar_new; (first | apply eff_alloc | (apply eff_box; rfl; exact lies_of rfl) | (apply eff_conv_bytes; rfl; exact (by first | omega | assumption | (simp; done) | (simp; omega) | exact Nat.le_of_ble_eq_true rfl))); exact .nil; rfl; intro lab) | (apply ar_store; rfl; (focus ((repeat (first | exact Take.head | apply Take.tail | apply Take.right)); done)); rfl; rfl; exact (by first | rfl | assumption | exact get_map (by assumption)); rfl; rfl) | (apply ar_take; rfl; rfl; rfl; (apply ev_move (y := .val (.bool true)); rfl); rfl) | (apply ar_take; rfl; rfl; rfl; (apply ev_move; rfl); rfl) | (apply ar_take; rfl; rfl; rfl; (first | (apply ev_neip; rfl; rfl) | (apply ev_neb; rfl; rfl)); rfl) | apply aw_seq | apply a_region | apply aw_skip | (apply aw_cond_f; rfl) | (apply aw_condp; rfl; all_goals (intro hc; try (exfalso; first | omega | contradiction | (simp at hc; omega) | (simp_all; done)))) | apply go_seq | apply go_block)
        all_goals exact go_loop_back ⟨(le, ll2, LF, _), hgl, Sub.of (by repeat (first | exact .nil | refine .cons rfl Le.refl ?_)) (by repeat (first | exact Takes.nil | (apply Takes.cons; focus (repeat (first | exact Take.head | apply Take.tail | apply Take.right)))))⟩
      · have hle := place_le (answersN c (max k o.tk) o.q) l
        have e : placeN (answersN c (max k o.tk) o.q) l = l.length := by omega
        have hcl2 : FnC Tryd.prog 37 (ctok lc le c l (sumZ l) k ++ [(lq, .row 33 3 (o.q.fs.map encF ++ [encF mk19]))]) [.ptr lc 0 0, .agg (qO o.q lq), vi o.tk] (fun ts v => ts = ctok lc le c l (sumZ l) (max k o.tk) ++ [(lq, .row 33 3 (o.q.fs.map encF ++ [encF mk19]))] ∧ v = .tup [.agg (encR r0), vi 0, vb false]) := hcl.mono fun ts v hp => by
          rcases hp with ⟨y, hy, g1, g2⟩ | ⟨-, g1, g2⟩
          · rw [e, List.getElem?_eq_none (Nat.le_refl _)] at hy; cases hy
          · exact ⟨g1, g2⟩
        have hrc2 : FnC Tryd.prog 57 (rtok lm ll c l k) [.ptr lm 0 0, .agg (encQ o.q), vi o.tk] (fun ts v => ts = rtok lm ll c l (max k o.tk) ∧ v = .tup [.agg (encR r0), vi 0, vb false]) := hrc.mono fun ts v hp => by
          rcases hp with ⟨y, hy, ll', g1, g2⟩ | ⟨-, g1, g2⟩
          · rw [e, List.getElem?_eq_none (Nat.le_refl _)] at hy; cases hy
          · exact ⟨g1, g2⟩
        have hsame : PFn Tryd.prog 39 [.agg (encR r0), .agg (encR r0)] (vb true) := by
          have h := same39_ok r0 r0 (by decide)
          rwa [decide_eq_true rfl] at h
        clear hcl hrc hi hle e
        repeat' (first | (apply ar_call hcl2; rfl; rfl; (focus ((repeat (first | exact Takes.nil | (apply Takes.cons; focus (repeat (first | exact Take.head | apply Take.tail | apply Take.right))))); done)); rfl; rintro _ _ ⟨rfl, rfl⟩) | (apply ar_call hrc2; rfl; rfl; (focus ((repeat (first | exact Takes.nil | (apply Takes.cons; focus (repeat (first | exact Take.head | apply Take.tail | apply Take.right))))); done)); rfl; rintro _ _ ⟨rfl, rfl⟩) | apply ar_nil | (apply ar_ev; (apply ev_move (y := .val (.bool false)); rfl); rfl) | (apply ar_ev; (apply ev_move; rfl); rfl) | (apply ar_ev; (first | (apply ev_callA hsame; rfl; rfl; (focus ((repeat (first | exact Les.nil | (apply Les.cons; first | exact Le.refl | exact Le.nil | (apply Le.agg; (focus ((repeat (first | exact Les.nil | (apply Les.cons; first | exact Le.refl | exact Le.nil | (apply Le.agg; (focus ((repeat (first | exact Les.nil | (apply Les.cons; first | exact Le.refl | exact Le.nil))); done)))))); done)))))); done))) | (apply ev_load_ptr_one; rfl; (focus ((repeat (first | exact Take.head | apply Take.tail | apply Take.right)); done)); exact (by first | rfl | assumption | exact get_map (by assumption)); rfl) | (apply ev_fieldAddr_ptr; rfl) | (apply ev_assign; rfl) | (apply ev_pick_f; rfl; rfl) | (apply ev_load_ptr_agg; rfl; (focus ((repeat (first | exact Take.head | apply Take.tail | apply Take.right)); done)); exact (by first | rfl | assumption | exact get_map (by assumption)); exact Nat.le_of_ble_eq_true rfl) | (apply ev_eqip; rfl; rfl) | (apply ev_not; rfl) | (apply ev_extract; rfl; rfl)); rfl) | (apply ar_new; (first | apply eff_alloc | (apply eff_box; rfl; exact lies_of rfl) | (apply eff_conv_bytes; rfl; exact (by first | omega | assumption | (simp; done) | (simp; omega) | exact Nat.le_of_ble_eq_true rfl))); exact .nil; rfl; intro lab) | (apply ar_store; rfl; (focus ((repeat (first | exact Take.head | apply Take.tail | apply Take.right)); done)); rfl; rfl; exact (by first | rfl | assumption | exact get_map (by assumption)); rfl; rfl) | (apply ar_take; rfl; rfl; rfl; (apply ev_move (y := .val (.bool false)); rfl); rfl) | (apply ar_take; rfl; rfl; rfl; (apply ev_move; rfl); rfl) | (apply ar_take; rfl; rfl; rfl; (first | (apply ev_neip; rfl; rfl) | (apply ev_neb; rfl; rfl)); rfl) | apply aw_seq | apply a_region | apply aw_skip | (apply aw_cond_f; rfl) | (apply aw_condp; rfl; all_goals (intro hc; try (exfalso; first | omega | contradiction | (simp at hc; omega) | (simp_all; done)))) | apply go_seq | apply go_block)
        all_goals exact go_loop_back ⟨(le, ll, l, _), hgt, Sub.of (by repeat (first | exact .nil | refine .cons rfl Le.refl ?_)) (by repeat (first | exact Takes.nil | (apply Takes.cons; focus (repeat (first | exact Take.head | apply Take.tail | apply Take.right)))))⟩
    clear hcl hrc hst hgk hgl
    by_cases h3 : o.kd = 3
    · have hbb : ∀ b : Bool, (!(b == b)) = false := fun b => by simp
      generalize decide (findI (answersN c (max k o.tk) o.q) l ≥ 0) = V at *
      clear htk hrt hlq hkq hgd
      repeat' (first | (apply ar_call hho; rfl; rfl; (focus ((repeat (first | exact Takes.nil | (apply Takes.cons; focus (repeat (first | exact Take.head | apply Take.tail | apply Take.right))))); done)); rfl; rintro _ _ ⟨rfl, rfl⟩) | (apply ar_call hrh; rfl; rfl; (focus ((repeat (first | exact Takes.nil | (apply Takes.cons; focus (repeat (first | exact Take.head | apply Take.tail | apply Take.right))))); done)); rfl; rintro _ _ ⟨rfl, rfl⟩) | (rw [hbb V]) | apply ar_nil | (apply ar_ev; (apply ev_move; rfl); rfl) | (apply ar_ev; (first | (apply ev_load_ptr_one; rfl; (focus ((repeat (first | exact Take.head | apply Take.tail | apply Take.right)); done)); exact (by first | rfl | assumption | exact get_map (by assumption)); rfl) | (apply ev_fieldAddr_ptr; rfl) | (apply ev_assign; rfl) | (apply ev_load_ptr_agg; rfl; (focus ((repeat (first | exact Take.head | apply Take.tail | apply Take.right)); done)); exact (by first | rfl | assumption | exact get_map (by assumption)); exact Nat.le_of_ble_eq_true rfl) | (apply ev_eqip; rfl; rfl) | (apply ev_neb; rfl; rfl)); rfl) | apply aw_seq | apply a_region | apply aw_skip | (apply aw_cond_f; rfl) | (apply aw_condp; rfl; all_goals (intro hc; try (exfalso; first | omega | contradiction | (simp at hc; omega) | (simp_all; done)))) | apply go_seq | apply go_block)
      all_goals exact go_loop_back ⟨(le, ll, l, _), hgt, Sub.of (by repeat (first | exact .nil | refine .cons rfl Le.refl ?_)) (by repeat (first | exact Takes.nil | (apply Takes.cons; focus (repeat (first | exact Take.head | apply Take.tail | apply Take.right)))))⟩
    by_cases h4 : o.kd = 4
    · have hgl : lapseN c (max k o.tk) l = (sts (l.take (lapseN c (max k o.tk) l))).length := by
        have := lapse_le c (max k o.tk) l
        simp; omega
      have hsi : PFn Tryd.prog 40 [isl (sts (l.take (lapseN c (max k o.tk) l))), isl (sts (l.take (lapseN c (max k o.tk) l)))] (vb true) := by
        have h9 := sameInts_ok (sts (l.take (lapseN c (max k o.tk) l))) (sts (l.take (lapseN c (max k o.tk) l))) (by have := lapse_le c (max k o.tk) l; simp; omega)
        rwa [decide_eq_true rfl] at h9
      clear hho hrh hlq hkq
      repeat' (first | (apply ar_call htk; rfl; rfl; (focus ((repeat (first | exact Takes.nil | (apply Takes.cons; focus (repeat (first | exact Take.head | apply Take.tail | apply Take.right))))); done)); rfl; rintro _ _ ⟨lg, rfl, rfl⟩) | (apply ar_call hrt; rfl; rfl; (focus ((repeat (first | exact Takes.nil | (apply Takes.cons; focus (repeat (first | exact Take.head | apply Take.tail | apply Take.right))))); done)); rfl; rintro _ _ ⟨ll2, lg2, rfl, rfl⟩) | apply ar_nil | (apply ar_ev; (apply ev_move; rfl); rfl) | (apply ar_ev; (first | (apply ev_callL hsi; rfl; rfl; exact Cvs.cons (cv_gone (by repeat (first | exact Take.head | apply Take.tail | apply Take.right)) hgl) (Cvs.cons (cv_gone (by repeat (first | exact Take.head | apply Take.tail | apply Take.right)) hgl) .nil); constructor) | (apply ev_load_ptr_one; rfl; (focus ((repeat (first | exact Take.head | apply Take.tail | apply Take.right)); done)); exact (by first | rfl | assumption | exact get_map (by assumption)); rfl) | (apply ev_fieldAddr_ptr; rfl) | (apply ev_assign; rfl) | (apply ev_eqip; rfl; rfl) | (apply ev_not; rfl)); rfl) | apply aw_seq | apply a_region | apply aw_skip | (apply aw_condp; rfl; all_goals (intro hc; try (exfalso; first | omega | contradiction | (simp at hc; omega)))) | (apply aw_cond_f; rfl) | apply go_seq | apply go_block)
      all_goals exact go_loop_back ⟨(le, ll2, _, _), hgd, Sub.of (by repeat (first | exact .nil | refine .cons rfl Le.refl ?_)) (by repeat (first | exact Takes.nil | (apply Takes.cons; focus (repeat (first | exact Take.head | apply Take.tail | apply Take.right)))))⟩
    clear hho hrh htk hrt hlq hkq hgd
    repeat' (first | apply ar_nil | (apply ar_ev; (first | (apply ev_assign; rfl) | (apply ev_eqip; rfl; rfl)); rfl) | apply aw_seq | apply a_region | apply aw_skip | (apply aw_condp; rfl; all_goals (intro hc; try (exfalso; first | omega | contradiction | (simp at hc; omega) | (simp_all; done)))) | apply go_seq | apply go_block)
    all_goals exact go_loop_back ⟨(le, ll, l, k), h, Sub.of (by repeat (first | exact .nil | refine .cons rfl Le.refl ?_)) (by repeat (first | exact Takes.nil | (apply Takes.cons; focus (repeat (first | exact Take.head | apply Take.tail | apply Take.right)))))⟩
  · clear hcl hrc hho hrh htk hrt hst hlq hgl hgd hgk hgt h hlen hce
    rintro ⟨le, ll, l, k⟩ hg
    dsimp only at hg ⊢
    have hlen := hg.ok.len
    have hce := hg.ok.e
    have hsu := hg.ok.sum
    have hcb := hg.ok.b
    have hl1 := len_ok c le l.length (sumZ l) k
    have hl2 := len61_ok c ll l.length k
    have hy1 := bytes_ok c (.own le 0 l.length) (sumZ l) k
    have hy2 := bytes62_ok c l k (by omega) hg.ok.ok (by omega)
    generalize hz : sumZ l = z at *
    have hdd : decide ((l.length : Int) = l.length) = true := decide_eq_true rfl
    have hdz : decide (z = z) = true := decide_eq_true rfl
    repeat' (first | (rw [hdd]) | (rw [hdz]) | apply ar_nil | (apply ar_ev; (apply ev_move (y := .val (.bool true)); rfl); rfl) | (apply ar_ev; (first | (apply ev_callFL hkq (by repeat (first | exact Take.head | apply Take.tail | apply Take.right)); rfl; rfl; exact Cvs.cons (Cv.own0 (by repeat (first | exact Take.head | apply Take.tail | apply Take.right)) (by simp)) (Cvs.cons Cv.refl .nil); constructor) | (apply ev_load_ptr_one; rfl; (focus ((repeat (first | exact Take.head | apply Take.tail | apply Take.right)); done)); exact (by first | rfl | assumption | exact get_map (by assumption)); rfl) | (apply ev_fieldAddr_ptr; rfl) | (apply ev_assign; rfl) | (apply ev_pick_t; rfl; rfl)); rfl) | (apply ar_take; rfl; rfl; rfl; (apply ev_move; rfl); rfl) | (apply ar_take; rfl; rfl; rfl; (first | (apply ev_callL hl1; rfl; rfl; exact Cvs.cons (Cv.ptr0 (by repeat (first | exact Take.head | apply Take.tail | apply Take.right)) rfl) .nil; constructor) | (apply ev_callL hl2; rfl; rfl; exact Cvs.cons (Cv.ptr0 (by repeat (first | exact Take.head | apply Take.tail | apply Take.right)) rfl) .nil; constructor) | (apply ev_callL hy1; rfl; rfl; exact Cvs.cons (Cv.ptr0 (by repeat (first | exact Take.head | apply Take.tail | apply Take.right)) rfl) .nil; constructor) | (apply ev_callL hy2; rfl; rfl; exact Cvs.cons (cv_ref (by repeat (first | exact Take.head | apply Take.tail | apply Take.right)) (by repeat (first | exact Take.head | apply Take.tail | apply Take.right))) .nil; constructor) | (apply ev_eqip; rfl; rfl)); rfl) | apply aw_seq | apply a_region | apply aw_ret | apply go_seq)
    all_goals exact g_ret1 (us := ctok lc le c l z k ++ rtok lm ll c l k) (r_tmp rfl) ((by repeat (first | exact Takes.nil | (apply Takes.cons; focus (repeat (first | exact Take.head | apply Take.tail | apply Take.right)))))) ⟨⟨le, ll, l, k, hg, by rw [hz]⟩, rfl⟩
end Go.Proofs.YtphkfejckafamaaDoor
