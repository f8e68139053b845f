import Derived.Test.YtphkfejckafamaaDoorY
import Derived.Test.YtphkfejckafamaaDoorS
set_option linter.unusedVariables false
set_option linter.unusedSimpArgs false
set_option maxRecDepth 100000
namespace Go.Proofs.YtphkfejckafamaaDoor
open Go.Proofs Go.Proofs.YtphkfejckafamaaDoorA

theorem sumZ_sub {l m : List En} (h : l.Sublist m) : sumZ l ≤ sumZ m := by
  induction h with
  | slnil => exact Int.le_refl _
  | cons a _ ih => unfold sumZ at *; rw [List.map_cons, List.sum_cons]; omega
  | cons_cons a _ ih => unfold sumZ at *; rw [List.map_cons, List.sum_cons, List.map_cons, List.sum_cons]; omega
theorem OkC.sub {c : Cf} {l m : List En} {k : Int} (h : OkC c m k) (hs : l.Sublist m) : OkC c l k := by
  have h1 := hs.length_le
  have h2 := sumZ_sub hs
  have h3 := h.len
  have h4 := h.sum
  exact ⟨h.e, h.b, h.l, by omega, by omega, h.clk, fun p hp => h.ar p (hs.subset hp), fun p hp => h.ok p (hs.subset hp)⟩
theorem left_sub (c : Cf) (k : Int) (a : Rq) (l : List En) : (leftN c k a l).Sublist l := by
  unfold leftN
  rw [← List.eraseIdx_eq_take_drop_succ]
  exact List.eraseIdx_sublist _ _
theorem room_fits (c : Cf) (z : Int) : ∀ l : List En, l.drop (roomN c z l) = [] ∨ tight c z (l.drop (roomN c z l)) = false
  | [] => .inl rfl
  | x :: l => by
    unfold roomN
    cases ht : tight c z (x :: l) with
    | false => exact .inr ht
    | true => exact room_fits c z l
/-- What the statement knows of a cache and its book. -/
structure Good (c : Cf) (l : List En) (k : Int) (n : Int) : Prop where
  ok : OkC c l k
  srt : Srt l
  star : ∀ x, x ∈ l → (namesN x.r.fs).2 = false
  st : ∀ x, x ∈ l → x.st < n
theorem Good.sub {c : Cf} {l m : List En} {k n : Int} (h : Good c m k n) (hs : l.Sublist m) : Good c l k n :=
  ⟨h.ok.sub hs, ⟨h.srt.ar.sublist hs, h.srt.st.sublist hs⟩, fun x hx => h.star x (hs.subset hx), fun x hx => h.st x (hs.subset hx)⟩
theorem Good.up {c : Cf} {l : List En} {k n : Int} (h : Good c l k n) : Good c l k (n + 1) := ⟨h.ok, h.srt, h.star, fun x hx => by have := h.st x hx; omega⟩
theorem Good.tick {c : Cf} {l : List En} {k n : Int} (h : Good c l k n) (t : Int) (ht : t ≤ 9223372036854775807) : Good c l (max k t) n := ⟨h.ok.tick t ht, h.srt, h.star, h.st⟩
theorem Good.keep {c : Cf} {l : List En} {k n : Int} (h : Good c l k n) {q : Rq} {r : Rs} (hq : OkFs q.fs) (hr : OkR r) : Good c (keepN c k q r n l) k (n + 1) := by
  have hd : Good c (l.drop (goneN c k r l)) k n := h.sub (List.drop_sublist _ _)
  unfold keepN
  cases hm : mayN c r with
  | false => rw [if_neg Bool.false_ne_true, List.append_nil]; exact hd.up
  | true =>
    rw [if_pos rfl]
    have hmm : (namesN r.fs).2 = false ∧ c.e ≠ 0 ∧ (sizeN r : Int) ≤ c.b := by
      unfold mayN at hm; simpa using hm
    have hce := h.ok.e
    have hg : l.drop (goneN c k r l) = (l.drop (lapseN c k l)).drop (roomN c (sizeN r) (l.drop (lapseN c k l))) := by
      unfold goneN; rw [hm, if_pos rfl, List.drop_drop]
    have hfit : ((l.drop (goneN c k r l)).length : Int) + 1 ≤ c.e ∧ sumZ (l.drop (goneN c k r l)) + sizeN r ≤ c.b := by
      rw [hg]
      rcases room_fits c (sizeN r) (l.drop (lapseN c k l)) with h0 | h0
      · rw [h0]; simp [sumZ]; omega
      · unfold tight at h0
        simp only [Bool.or_eq_false_iff, decide_eq_false_iff_not] at h0
        omega
    generalize l.drop (goneN c k r l) = m at *
    have hk := hd.ok.clk
    refine ⟨⟨hd.ok.e, hd.ok.b, hd.ok.l, by rw [List.length_append]; simp; omega, ?_, hk, ?_, ?_⟩, ⟨?_, ?_⟩, ?_, ?_⟩
    · rw [sumZ_app]
      have : sumZ [(⟨q, r, n, k⟩ : En)] = sizeN r := sumZ_one _
      omega
    · intro p hp
      rcases List.mem_append.1 hp with hp | hp
      · exact hd.ok.ar p hp
      · rw [List.mem_singleton.1 hp]; exact ⟨hk.1, Int.le_refl _⟩
    · intro p hp
      rcases List.mem_append.1 hp with hp | hp
      · exact hd.ok.ok p hp
      · rw [List.mem_singleton.1 hp]; exact ⟨hq, hr.fs, hr.b, hr.nm⟩
    · refine List.pairwise_append.2 ⟨hd.srt.ar, by simp, fun a ha b hb => ?_⟩
      rw [List.mem_singleton.1 hb]; exact (hd.ok.ar a ha).2
    · refine List.pairwise_append.2 ⟨hd.srt.st, by simp, fun a ha b hb => ?_⟩
      rw [List.mem_singleton.1 hb]; exact hd.st a ha
    · intro p hp
      rcases List.mem_append.1 hp with hp | hp
      · exact hd.star p hp
      · rw [List.mem_singleton.1 hp]; exact hmm.1
    · intro p hp
      rcases List.mem_append.1 hp with hp | hp
      · have := hd.st p hp; omega
      · rw [List.mem_singleton.1 hp]; show n < n + 1; omega
abbrev osl (l : List Op) : AV := .sl 13 (l.map encO) l.length
structure OkO (o : Op) : Prop where
  q : OkFs o.q.fs
  r : OkR o.r
  t : o.tk ≤ 9223372036854775807
abbrev cK (c : Cf) : Cf := ⟨andI c.e 63, andI c.b 4095, andI c.l 31, 0⟩
set_option maxHeartbeats 16000000 in
theorem CacheKeeps_ok (c0 : Cf) (ops : List Op) (hn : ops.length ≤ 1048576) (hops : ∀ o, o ∈ ops → OkO o) : PFn Tryd.prog 9 [.agg (encC c0), osl ops] (vb true) := by
  refine fn_of Tryd.func9 rfl Tryd.ntmps9 Tryd.results9 rfl fun G => ?_
  have hconf : PFn Tryd.prog 28 [.agg (encC c0)] (.agg (encC (cK c0))) := conf_ok c0
  have b1 : 0 ≤ andI c0.e 63 ∧ andI c0.e 63 ≤ 63 := and_le c0.e 63 (by decide)
  have b2 : 0 ≤ andI c0.b 4095 ∧ andI c0.b 4095 ≤ 4095 := and_le c0.b 4095 (by decide)
  have b3 : 0 ≤ andI c0.l 31 ∧ andI c0.l 31 ≤ 31 := and_le c0.l 31 (by decide)
  have hokc : okCf (cK c0) = true := by unfold okCf; simp; omega
  have hnew : FnC Tryd.prog 22 [] [.agg (encC (cK c0))] (fun ts v => ∃ lc le, ts = ctok lc le (cK c0) [] 0 0 ∧ v = .tup [.ptr lc 0 0, vi 0]) :=
    (new_ok (cK c0)).mono fun ts v h => by
      rcases h with ⟨-, h⟩ | ⟨h, -⟩
      · exact h
      · rw [hokc] at h; cases h
  have hgood0 : Good (cK c0) [] 0 0 := ⟨okC0 hokc 0 (by decide), ⟨.nil, .nil⟩, by simp, by simp⟩
  generalize cK c0 = c at *
  clear b1 b2 b3 hokc
  repeat' ((fail_if_success (show AW _ (.region 5 _ _) _ _)); (first | (apply ar_callA hnew; rfl; rfl; (focus ((repeat (first | exact Les.nil | (apply Les.cons; first | exact Le.refl | exact Le.nil | (apply Le.agg; (focus ((repeat (first | exact Les.nil | (apply Les.cons; first | exact Le.refl | exact Le.nil | (apply Le.agg; (focus ((repeat (first | exact Les.nil | (apply Les.cons; first | exact Le.refl | exact Le.nil))); done)))))); done)))))); done)); (focus ((repeat (first | exact Takes.nil | (apply Takes.cons; focus (repeat (first | exact Take.head | apply Take.tail | apply Take.right))))); done)); rfl; rintro _ _ ⟨lc, le, rfl, rfl⟩) | apply ar_nil | (apply ar_splitp; (apply ev_move; rfl); rfl; all_goals (intro hc; try (exfalso; first | omega | contradiction | (simp at hc; omega) | (simp_all; done)))) | (apply ar_ev; (apply ev_move (y := .val (.bool false)); rfl); rfl) | (apply ar_ev; (apply ev_move; rfl); rfl) | (apply ar_ev; (first | exact ev_call rfl rfl hconf | (apply ev_assign; rfl) | (apply ev_pick_f; rfl; rfl) | (apply ev_load_ptr_agg; rfl; (focus ((repeat (first | exact Take.head | apply Take.tail | apply Take.right)); done)); exact (by first | rfl | assumption | exact get_map (by assumption)); exact Nat.le_of_ble_eq_true rfl) | (apply ev_eqnil_p; rfl; rfl) | (apply ev_extract; rfl; rfl)); rfl) | (apply ar_new; (first | apply eff_alloc | (apply eff_box; rfl; exact lies_of rfl) | (apply eff_conv_bytes; rfl; exact (by first | omega | assumption | (simp; done) | (simp; omega) | exact Nat.le_of_ble_eq_true rfl))); exact .nil; rfl; intro lab) | (apply ar_store; rfl; (focus ((repeat (first | exact Take.head | apply Take.tail | apply Take.right)); done)); rfl; rfl; exact (by first | rfl | assumption | exact get_map (by assumption)); rfl; rfl) | (apply ar_take; rfl; rfl; rfl; (apply ev_move; rfl); rfl) | (apply ar_take; rfl; rfl; rfl; (first | exact ev_call rfl rfl first19_ok | (apply ev_neip; rfl; rfl) | (apply ev_not; rfl)); rfl) | apply aw_seq | apply a_region | apply aw_skip | (apply aw_cond_f; rfl) | apply go_seq))
  refine AW.sub (st' := ⟨[(1, osl ops), (5, .ptr lab 0 0), (6, .ptr lc 0 0)], ctok lc le c [] 0 0 ++ [(lab, .row 44 4 [encC c])]⟩) (Sub.of (by repeat (first | exact .nil | refine .cons rfl Le.refl ?_)) (by repeat (first | exact Takes.nil | (apply Takes.cons; focus (repeat (first | exact Take.head | apply Take.tail | apply Take.right)))))) ?_
  generalize lab = l5 at *
  clear hnew hconf
  repeat' ((fail_if_success (show AW _ (.region 6 _ _) _ _)); (first | apply ar_nil | (apply ar_ev; (apply ev_move; rfl); rfl) | (apply ar_ev; (first | (apply ev_assign; rfl) | (apply ev_load_ptr_agg; rfl; (focus ((repeat (first | exact Take.head | apply Take.tail | apply Take.right)); done)); exact (by first | rfl | assumption | exact get_map (by assumption)); exact Nat.le_of_ble_eq_true rfl) | (apply ev_build; rfl; rfl; rfl)); rfl) | (apply ar_new; (first | apply eff_alloc | (apply eff_box; rfl; exact lies_of rfl) | (apply eff_conv_bytes; rfl; exact (by first | omega | assumption | (simp; done) | (simp; omega) | exact Nat.le_of_ble_eq_true rfl))); exact .nil; rfl; intro lab) | apply aw_seq | apply a_region | apply go_seq))
  generalize lab = lb at *
  refine AW.sub (st' := ⟨[(1, osl ops), (5, .ptr l5 0 0), (6, .ptr lc 0 0), (8, .ptr lb 0 0)], (lb, .row 62 7 [bc lc c (.val (.slice none 0 0)) 0]) :: ctok lc le c [] 0 0 ++ [(l5, .row 44 4 [encC c])]⟩) (Sub.of (by repeat (first | exact .nil | refine .cons rfl Le.refl ?_)) (by repeat (first | exact Takes.nil | (apply Takes.cons; focus (repeat (first | exact Take.head | apply Take.tail | apply Take.right)))))) ?_
  refine aw_adoptc (i := 0) (j := 5) 99 11 .head rfl rfl fun lk => ?_
  repeat' (first | apply ar_nil | (apply ar_ev; (apply ev_assign; rfl); rfl) | apply a_region | apply aw_block | apply go_seq)
  refine a_loop (fun g : Nat × Nat × Nat × List En × Int => ⟨[(1, osl ops), (5, .ptr l5 0 0), (6, .ptr lc 0 0), (8, .ptr lb 0 0), (9, vi g.1)], btok lb g.2.1 lc c g.2.2.2.1 g.2.2.2.2 ++ ctok lc g.2.2.1 c g.2.2.2.1 (sumZ g.2.2.2.1) g.2.2.2.2 ++ [(l5, .row 44 4 [encC c])]⟩) (fun g => g.1 ≤ ops.length ∧ Good c g.2.2.2.1 g.2.2.2.2 g.1) (fun g => ops.length - g.1) (0, lk, le, [], 0) (Sub.of (by repeat (first | exact .nil | refine .cons rfl Le.refl ?_)) (by repeat (first | exact Takes.nil | (apply Takes.cons; focus (repeat (first | exact Take.head | apply Take.tail | apply Take.right)))))) ⟨Nat.zero_le _, hgood0⟩ ?_
  clear hgood0
  rintro ⟨i, lk, le, l, k⟩ ⟨hi, hg⟩
  dsimp only at hi hg ⊢
  by_cases hk : i < ops.length
  · obtain ⟨o, ho⟩ : ∃ o, ops[i]? = some o := ⟨_, List.getElem?_eq_getElem hk⟩
    have ho1 : (ops.map encO)[i]? = some (encO o) := by rw [List.getElem?_map, ho]; rfl
    have hoo := hops o (List.mem_of_getElem? ho)
    have hst := stores_ok lb lk lc le c l k o i hg.ok hg.srt hoo.q hoo.r hoo.t
    have hcl := claims_ok lb lk lc le c l k o hg.ok hg.star hoo.q.len hoo.t
    have htk := tick_ok lc le c l k o.tk hg.ok hoo.t
    have hgt := hg.tick o.tk hoo.t
    have hkp := hgt.keep hoo.q hoo.r
    have hlf := (hgt.sub (left_sub c (max k o.tk) o.q l)).up
    have hdr := (hgt.sub (List.drop_sublist (lapseN c (max k o.tk) l) l)).up
    have hup := hg.up
    have hlap := lapse_le c (max k o.tk) l
    have hlen := hg.ok.len
    have hce := hg.ok.e
    have hwt := fun lk => went_ok lb lk lc c l (max k o.tk) (lapseN c (max k o.tk) l) false hlap (by omega) (fun x hx => hgt.ok.ar x hx) hgt.ok.clk.2 (fun j y hj hy => .inr (tw_take hj hy)) (hgt.srt.rest (Nat.le_refl _))
    clear hg hops hoo ho
    have hfr : ∀ lg ts r, Take ts lg (.row 2 1 ((sts (l.take (lapseN c (max k o.tk) l))).map fun s => [vi s])) r → Cv ts (.own lg 0 (lapseN c (max k o.tk) l)) (isl (sts (l.take (lapseN c (max k o.tk) l)))) := fun lg ts r ht => by
      have hgl2 : (sts (l.take (lapseN c (max k o.tk) l))).length = lapseN c (max k o.tk) l := by simp; omega
      have e2 : isl (sts (l.take (lapseN c (max k o.tk) l))) = .sl 1 ((sts (l.take (lapseN c (max k o.tk) l))).map fun s => [vi s]) (lapseN c (max k o.tk) l) := by show AV.sl _ _ _ = _; rw [hgl2]
      rw [e2]; exact Cv.own0 ht (by simp; omega)
    have hwt := hwt lk
    repeat' ((fail_if_success (show AW _ (.block 2 _) _ _)); (first | apply ar_nil | (apply ar_ev; (apply ev_move; rfl); rfl) | (apply ar_ev; (first | (apply ev_load_ptr_one; rfl; (focus ((repeat (first | exact Take.head | apply Take.tail | apply Take.right)); done)); exact (by first | rfl | assumption | exact get_map (by assumption)); rfl) | (apply ev_fieldAddr_ptr; rfl) | (apply ev_load_ip_agg; rfl; exact Nat.le_of_ble_eq_true rfl) | (apply ev_lss; rfl; rfl) | (apply ev_len_sl; rfl) | (apply ev_indexAddr_sl; rfl; rfl; exact (by first | omega | assumption); exact (by first | rfl | assumption | exact get_map (by assumption)))); rfl) | (apply ar_new; (first | apply eff_alloc | (apply eff_box; rfl; exact lies_of rfl) | (apply eff_conv_bytes; rfl; exact (by first | omega | assumption | (simp; done) | (simp; omega) | exact Nat.le_of_ble_eq_true rfl))); exact .nil; rfl; intro lab) | (apply ar_store; rfl; (focus ((repeat (first | exact Take.head | apply Take.tail | apply Take.right)); done)); rfl; rfl; exact (by first | rfl | assumption | exact get_map (by assumption)); rfl; rfl) | apply aw_seq | apply a_region | apply aw_block | apply aw_skip | (apply aw_condp; rfl; all_goals (intro hc; try (exfalso; first | omega | contradiction | (simp at hc; omega) | (simp_all; done)))) | apply go_seq))
    generalize lab = l10 at *
    clear hgt
    generalize hkk : max k o.tk = k' at *
    generalize keepN c k' o.q o.r i l = KP at *
    generalize leftN c k' o.q l = LF at *
    generalize lapseN c k' l = n0 at *
    refine AW.sub (st' := ⟨[(1, osl ops), (5, .ptr l5 0 0), (6, .ptr lc 0 0), (8, .ptr lb 0 0), (9, vi i), (10, .ptr l10 0 0), (43, vi o.kd)], btok lb lk lc c l k ++ ctok lc le c l (sumZ l) k ++ [(l5, .row 44 4 [encC c]), (l10, .row 54 13 [encO o])]⟩) (Sub.of (by repeat (first | exact .nil | refine .cons rfl Le.refl ?_)) (by repeat (first | exact Takes.nil | (apply Takes.cons; focus (repeat (first | exact Take.head | apply Take.tail | apply Take.right)))))) ?_
    refine aw_join (fun g : Nat × Nat × List En × Int => ⟨[(1, osl ops), (5, .ptr l5 0 0), (6, .ptr lc 0 0), (8, .ptr lb 0 0), (9, vi i)], btok lb g.1 lc c g.2.2.1 g.2.2.2 ++ ctok lc g.2.1 c g.2.2.1 (sumZ g.2.2.1) g.2.2.2 ++ [(l5, .row 44 4 [encC c])]⟩) (fun g => Good c g.2.2.1 g.2.2.2 (i + 1)) ?_ ?_
    · refine aw_block ?_
      repeat' (first | (apply ar_call hst; rfl; rfl; (focus ((repeat (first | exact Takes.nil | (apply Takes.cons; focus (repeat (first | exact Take.head | apply Take.tail | apply Take.right))))); done)); rfl; rintro _ _ ⟨lk2, le2, rfl, rfl⟩) | (apply ar_call hcl; rfl; rfl; (focus ((repeat (first | exact Takes.nil | (apply Takes.cons; focus (repeat (first | exact Take.head | apply Take.tail | apply Take.right))))); done)); rfl; rintro _ _ ⟨lk2, rfl, rfl⟩) | (rw [hkk]) | (apply ar_call htk; rfl; rfl; (focus ((repeat (first | exact Takes.nil | (apply Takes.cons; focus (repeat (first | exact Take.head | apply Take.tail | apply Take.right))))); done)); rfl; rintro _ _ ⟨lg, rfl, rfl⟩) | (refine ar_cv 74 rfl (.cons (by repeat (first | exact Take.head | apply Take.tail | apply Take.right)) .nil) (hfr _ _ _ .head) ?_) | (apply ar_call hwt; rfl; rfl; (focus ((repeat (first | exact Takes.nil | (apply Takes.cons; focus (repeat (first | exact Take.head | apply Take.tail | apply Take.right))))); done)); rfl; rintro _ _ ⟨lk2, rfl, rfl⟩) | apply ar_nil | (apply ar_ev; (apply ev_move; rfl); rfl) | (apply ar_ev; (first | (apply ev_load_ptr_one; rfl; (focus ((repeat (first | exact Take.head | apply Take.tail | apply Take.right)); done)); exact (by first | rfl | assumption | exact get_map (by assumption)); rfl) | (apply ev_fieldAddr_ptr; rfl) | (apply ev_assign; rfl) | (apply ev_nilCheck_ptr; rfl) | (apply ev_load_ptr_agg; rfl; (focus ((repeat (first | exact Take.head | apply Take.tail | apply Take.right)); done)); exact (by first | rfl | assumption | exact get_map (by assumption)); exact Nat.le_of_ble_eq_true rfl) | (apply ev_eqip; rfl; rfl) | (apply ev_not; rfl) | (apply ev_max; rfl; rfl)); rfl) | (apply ar_store1; rfl; (focus ((repeat (first | exact Take.head | apply Take.tail | apply Take.right)); done)); rfl; rfl; exact (by first | rfl | assumption | exact get_map (by assumption)); rfl) | apply aw_seq | apply a_region | apply aw_skip | (apply aw_condp; rfl; all_goals (intro hc; try (exfalso; first | omega | contradiction | (simp at hc; omega) | (simp_all; done)))) | (apply aw_cond_f; rfl) | apply go_seq | apply go_block | (first | (apply a_drawN 2; rfl; rfl) | (apply a_drawN 3; rfl; rfl) | (apply a_drawN 4; rfl; rfl) | (apply a_drawN 5; rfl; rfl) | (apply a_drawN 6; rfl; rfl) | (apply a_drawN 7; rfl; rfl) | (apply a_drawN 8; rfl; rfl) | (apply a_drawN 9; rfl; rfl) | (apply a_drawN 10; rfl; rfl) | (apply a_drawN 11; rfl; rfl) | (apply a_drawN 12; rfl; rfl) | (apply a_drawN 13; rfl; rfl) | (apply a_drawN 14; rfl; rfl) | (apply a_drawN 15; rfl; rfl) | (apply a_drawN 16; rfl; rfl) | (apply a_drawN 17; rfl; rfl) | (apply a_drawN 18; rfl; rfl) | (apply a_drawN 19; rfl; rfl) | (apply a_drawN 20; rfl; rfl) | (apply a_drawN 21; rfl; rfl) | (apply a_drawN 22; rfl; rfl) | (apply a_drawN 23; rfl; rfl) | (apply a_drawN 24; rfl; rfl) | (apply a_drawN 25; rfl; rfl) | (apply a_drawN 26; rfl; rfl) | (apply a_drawN 27; rfl; rfl) | (apply a_drawN 28; rfl; rfl) | (apply a_drawN 29; rfl; rfl) | (apply a_drawN 30; rfl; rfl) | (apply a_drawN 31; rfl; rfl) | (apply a_drawN 32; rfl; rfl) | (apply a_drawN 33; rfl; rfl) | (apply a_drawN 34; rfl; rfl) | (apply a_drawN 35; rfl; rfl) | (apply a_drawN 36; rfl; rfl) | (apply a_drawN 37; rfl; rfl) | (apply a_drawN 38; rfl; rfl) | (apply a_drawN 39; rfl; rfl) | (apply a_drawN 40; rfl; rfl) | (apply a_drawN 41; rfl; rfl) | (apply a_drawN 42; rfl; rfl) | (apply a_drawN 43; rfl; rfl) | (apply a_drawN 44; rfl; rfl) | (apply a_drawN 45; rfl; rfl)))
      all_goals first | exact go_loop_back ⟨(_, _, KP, k'), hkp, Sub.of (by repeat (first | exact .nil | refine .cons rfl Le.refl ?_)) (by repeat (first | exact Takes.nil | (apply Takes.cons; focus (repeat (first | exact Take.head | apply Take.tail | apply Take.right)))))⟩ | exact go_loop_back ⟨(_, le, LF, k'), hlf, Sub.of (by repeat (first | exact .nil | refine .cons rfl Le.refl ?_)) (by repeat (first | exact Takes.nil | (apply Takes.cons; focus (repeat (first | exact Take.head | apply Take.tail | apply Take.right)))))⟩ | exact go_loop_back ⟨(_, le, l.drop n0, k'), hdr, Sub.of (by repeat (first | exact .nil | refine .cons rfl Le.refl ?_)) (by repeat (first | exact Takes.nil | (apply Takes.cons; focus (repeat (first | exact Take.head | apply Take.tail | apply Take.right)))))⟩ | exact go_loop_back ⟨(lk, le, l, k), hup, Sub.of (by repeat (first | exact .nil | refine .cons rfl Le.refl ?_)) (by repeat (first | exact Takes.nil | (apply Takes.cons; focus (repeat (first | exact Take.head | apply Take.tail | apply Take.right)))))⟩
    · clear hst hcl htk hkp hlf hdr hup hlap hlen hce hwt hfr hkk
      rintro ⟨lk, le, l, k⟩ hg
      dsimp only at hg ⊢
      have hlen := hg.ok.len
      have hce := hg.ok.e
      have hsu := hg.ok.sum
      have hcb := hg.ok.b
      have hl1 := len_ok c le l.length (sumZ l) k
      have hy1 := bytes_ok c (.own le 0 l.length) (sumZ l) k
      have hy2 := bytes35_ok lc c l k (by omega) hg.ok.ok (by omega)
      generalize hz : sumZ l = z at *
      have hlc : ¬ ((l.length : Int) > c.e) := by omega
      have hbc : ¬ (z > c.b) := by omega
      repeat' (first | apply ar_nil | (apply ar_splitp; (apply ev_move; rfl); rfl; all_goals (intro hc; try (exfalso; first | omega | contradiction | (simp at hc; omega)))) | (apply ar_ev; (apply ev_move; rfl); rfl) | (apply ar_ev; (first | (apply ev_callL hl1; rfl; rfl; exact Cvs.cons (Cv.ptr0 (by repeat (first | exact Take.head | apply Take.tail | apply Take.right)) rfl) .nil; constructor) | (apply ev_load_ptr_one; rfl; (focus ((repeat (first | exact Take.head | apply Take.tail | apply Take.right)); done)); exact (by first | rfl | assumption | exact get_map (by assumption)); rfl) | (apply ev_fieldAddr_ptr; rfl) | (apply ev_assign; rfl) | (apply ev_nilCheck_ptr; rfl) | (apply ev_pick_f; rfl; rfl) | (apply ev_neip; rfl; rfl) | (apply ev_inc; rfl; exact (by first | omega | assumption)) | (apply ev_len_own; rfl)); rfl) | (apply ar_take; rfl; rfl; rfl; (apply ev_move; rfl); rfl) | (apply ar_take; rfl; rfl; rfl; (first | (apply ev_callL hl1; rfl; rfl; exact Cvs.cons (Cv.ptr0 (by repeat (first | exact Take.head | apply Take.tail | apply Take.right)) rfl) .nil; constructor) | (apply ev_callL hy1; rfl; rfl; exact Cvs.cons (Cv.ptr0 (by repeat (first | exact Take.head | apply Take.tail | apply Take.right)) rfl) .nil; constructor) | (apply ev_callL hy2; rfl; rfl; exact Cvs.cons (cv_book (by repeat (first | exact Take.head | apply Take.tail | apply Take.right)) (by repeat (first | exact Take.head | apply Take.tail | apply Take.right))) .nil; constructor) | (apply ev_load_ptr_one; rfl; (focus ((repeat (first | exact Take.head | apply Take.tail | apply Take.right)); done)); exact (by first | rfl | assumption | exact get_map (by assumption)); rfl) | (apply ev_fieldAddr_ptr; rfl) | (apply ev_neip; rfl; rfl) | (apply ev_gtr; rfl; rfl)); rfl) | apply aw_seq | apply a_region | apply aw_skip | (apply aw_condp; rfl; all_goals (intro hc; try (exfalso; first | omega | contradiction | (simp at hc; omega)))) | apply go_seq | apply go_block | (first | (apply a_drawN 2; rfl; rfl) | (apply a_drawN 3; rfl; rfl) | (apply a_drawN 4; rfl; rfl) | (apply a_drawN 5; rfl; rfl) | (apply a_drawN 6; rfl; rfl) | (apply a_drawN 7; rfl; rfl) | (apply a_drawN 8; rfl; rfl) | (apply a_drawN 9; rfl; rfl) | (apply a_drawN 10; rfl; rfl) | (apply a_drawN 11; rfl; rfl) | (apply a_drawN 12; rfl; rfl) | (apply a_drawN 13; rfl; rfl) | (apply a_drawN 14; rfl; rfl) | (apply a_drawN 15; rfl; rfl) | (apply a_drawN 16; rfl; rfl) | (apply a_drawN 17; rfl; rfl) | (apply a_drawN 18; rfl; rfl) | (apply a_drawN 19; rfl; rfl) | (apply a_drawN 20; rfl; rfl) | (apply a_drawN 21; rfl; rfl) | (apply a_drawN 22; rfl; rfl) | (apply a_drawN 23; rfl; rfl) | (apply a_drawN 24; rfl; rfl) | (apply a_drawN 25; rfl; rfl) | (apply a_drawN 26; rfl; rfl) | (apply a_drawN 27; rfl; rfl) | (apply a_drawN 28; rfl; rfl) | (apply a_drawN 29; rfl; rfl) | (apply a_drawN 30; rfl; rfl) | (apply a_drawN 31; rfl; rfl) | (apply a_drawN 32; rfl; rfl) | (apply a_drawN 33; rfl; rfl) | (apply a_drawN 34; rfl; rfl) | (apply a_drawN 35; rfl; rfl) | (apply a_drawN 36; rfl; rfl) | (apply a_drawN 37; rfl; rfl) | (apply a_drawN 38; rfl; rfl) | (apply a_drawN 39; rfl; rfl) | (apply a_drawN 40; rfl; rfl) | (apply a_drawN 41; rfl; rfl) | (apply a_drawN 42; rfl; rfl) | (apply a_drawN 43; rfl; rfl) | (apply a_drawN 44; rfl; rfl) | (apply a_drawN 45; rfl; rfl)))
      all_goals (subst hz; exact go_loop_back ⟨(i + 1, lk, le, l, k), ⟨by dsimp only; omega, by dsimp only; exact hg⟩, by dsimp only; omega, by dsimp only; exact Sub.of (by repeat (first | exact .nil | refine .cons rfl Le.refl ?_)) (by repeat (first | exact Takes.nil | (apply Takes.cons; focus (repeat (first | exact Take.head | apply Take.tail | apply Take.right)))))⟩)
  · repeat' (first | apply ar_nil | (apply ar_ev; (apply ev_move; rfl); rfl) | (apply ar_ev; (first | (apply ev_assign; rfl) | (apply ev_lss; rfl; rfl) | (apply ev_len_sl; rfl)); rfl) | apply aw_seq | apply a_region | apply aw_exit | apply aw_ret | (apply aw_condp; rfl; all_goals (intro hc; try (exfalso; first | omega | contradiction | (simp at hc; omega) | (simp_all; done)))) | apply go_seq | apply go_seq_exit | apply go_block_exit | apply go_loop_exit)
    all_goals exact g_ret1 (r_tmp rfl) .nil rfl
end Go.Proofs.YtphkfejckafamaaDoor
