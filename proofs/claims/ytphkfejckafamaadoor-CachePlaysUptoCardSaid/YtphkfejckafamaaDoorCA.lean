import Derived.Test.YtphkfejckafamaaDoorBA
import Derived.Test.YtphkfejckafamaaDoorZ
set_option linter.unusedVariables false
set_option linter.unusedSimpArgs false
set_option maxRecDepth 100000
namespace Go.Proofs.YtphkfejckafamaaDoor
open Go.Proofs Go.Proofs.YtphkfejckafamaaDoorA

/-! The document's cache. -/
abbrev cellsX (x : En) : List AV := [vs x.q.m, vs x.q.s, vs x.q.a, vs x.q.p, fsl x.q.fs, vs x.q.b, vi x.r.st, fsl x.r.fs, vs x.r.b, vi x.st, vi x.ar]
abbrev xsl (l : List En) : AV := .sl 11 (l.map cellsX) l.length
abbrev rc (c : Cf) (L : AV) (k : Int) : List AV := [vi c.e, vi c.b, vi c.l, vi c.p, L, vi k]
abbrev rtok (lm ll : Nat) (c : Cf) (l : List En) (k : Int) : List (Nat × Tok) := [(lm, .row 96 6 [rc c (.own ll 0 l.length) k]), (ll, .row 121 11 (l.map cellsX))]
theorem cv_ref {ts r r2 : List (Nat × Tok)} {lm ll : Nat} {c : Cf} {l : List En} {k : Int} (h1 : Take ts lm (.row 96 6 [rc c (.own ll 0 l.length) k]) r) (h2 : Take ts ll (.row 121 11 (l.map cellsX)) r2) : Cv ts (.ptr lm 0 0) (.ip (rc c (xsl l) k)) := by
  refine Cv.ptrr h1 rfl (.cons .refl (.cons .refl (.cons .refl (.cons .refl (.cons (Cv.own0 h2 (by simp)) (.cons .refl .nil)))))) ?_
  intro x hx
  simp only [List.mem_cons, List.not_mem_nil, or_false] at hx
  rcases hx with rfl | rfl | rfl | rfl | rfl | rfl <;> rfl
theorem x_get {l : List En} {i : Nat} {x : En} (h : l[i]? = some x) : (l.map cellsX)[i]? = some (cellsX x) := by simp [h]
theorem size26_ok (r : Rs) (h : OkFs r.fs) (hb : r.b.size ≤ 1048580) : PFn Tryd.prog 26 [.agg (encR r)] (vi (sizeN r)) := by
  refine fn_of Tryd.func26 rfl Tryd.ntmps26 Tryd.results26 rfl fun G => ?_
  have hlen := h.len
  repeat' (first | apply ar_nil | (apply ar_ev; (first | (apply ev_load_ptr_one; rfl; (focus ((repeat (first | exact Take.head | apply Take.tail | apply Take.right)); done)); exact (by first | rfl | assumption | exact get_map (by assumption)); rfl) | (apply ev_fieldAddr_ptr; rfl) | (apply ev_assign; rfl) | (apply ev_len_str; rfl)); rfl) | (apply ar_new; (first | apply eff_alloc | (apply eff_box; rfl; exact lies_of rfl) | (apply eff_conv_bytes; rfl; exact (by first | omega | assumption | (simp; done) | (simp; omega) | exact Nat.le_of_ble_eq_true rfl))); exact .nil; rfl; intro lab) | apply aw_seq | apply a_region | apply aw_block | apply go_seq)
  generalize lab = l1 at *
  refine a_loop (fun i : Nat => ⟨[(1, .ptr l1 0 0), (3, vi (r.b.size + sizeL (r.fs.take i) : Nat)), (4, vi i)], [(l1, .row 24 3 [encR r])]⟩) (fun i => i ≤ r.fs.length) (fun i => r.fs.length - i) 0 (Sub.of (by repeat (first | exact .nil | refine .cons rfl Le.refl ?_)) (by repeat (first | exact Takes.nil | (apply Takes.cons; focus (repeat (first | exact Take.head | apply Take.tail | apply Take.right)))))) (Nat.zero_le _) ?_
  intro i hi
  have hsz := sizeL_take h i
  by_cases hk : i < r.fs.length
  · obtain ⟨f, hf⟩ : ∃ f, r.fs[i]? = some f := ⟨_, List.getElem?_eq_getElem hk⟩
    have hf2 := fsl_get hf
    have hff := h.fit f (List.mem_of_getElem? hf)
    have hst := sizeL_step hf
    have hsum : (((r.b.size + sizeL (r.fs.take i) : Nat) : Int) + ((f.n.size : Int) + (f.v.size : Int))) + 32 = ((r.b.size + sizeL (r.fs.take (i + 1)) : Nat) : Int) := by
      rw [hst]; unfold fieldZ; omega
    repeat' (first | (refine a_draw 18 rfl ?_) | apply ar_nil | (apply ar_ev; (apply ev_move; rfl); rfl) | (apply ar_ev; (first | (apply ev_load_ptr_one; rfl; (focus ((repeat (first | exact Take.head | apply Take.tail | apply Take.right)); done)); exact (by first | rfl | assumption | exact get_map (by assumption)); rfl) | (apply ev_load_ip_one; rfl; rfl) | (apply ev_fieldAddr_ptr; rfl) | (apply ev_fieldAddr_ip; rfl) | (apply ev_assign; rfl) | (apply ev_lss; rfl; rfl) | (apply ev_inc; rfl; exact (by first | omega | assumption)) | (apply ev_add; rfl; rfl; exact (by first | omega | assumption); exact (by first | omega | assumption)) | (apply ev_len_sl; rfl) | (apply ev_len_str; rfl) | (apply ev_indexAddr_sl; rfl; rfl; exact (by first | omega | assumption); exact (by first | rfl | assumption | exact get_map (by assumption)))); rfl) | apply aw_seq | apply a_region | apply aw_block | apply aw_skip | (apply aw_condp; rfl; all_goals (intro hc; try (exfalso; first | omega | contradiction | (simp at hc; omega) | (simp_all; done)))) | apply go_seq | apply go_block)
    all_goals (apply go_loop_back; refine ⟨i + 1, by omega, by omega, ?_⟩; rw [← hsum]; exact Sub.of (by repeat (first | exact .nil | refine .cons rfl Le.refl ?_)) (by repeat (first | exact Takes.nil | (apply Takes.cons; focus (repeat (first | exact Take.head | apply Take.tail | apply Take.right))))))
  · obtain rfl : i = r.fs.length := by omega
    rw [List.take_of_length_le (Nat.le_refl _)]
    repeat' (first | apply ar_nil | (apply ar_ev; (apply ev_move; rfl); rfl) | (apply ar_ev; (first | (apply ev_load_ptr_one; rfl; (focus ((repeat (first | exact Take.head | apply Take.tail | apply Take.right)); done)); exact (by first | rfl | assumption | exact get_map (by assumption)); rfl) | (apply ev_fieldAddr_ptr; rfl) | (apply ev_assign; rfl) | (apply ev_lss; rfl; rfl) | (apply ev_len_sl; rfl)); rfl) | apply aw_seq | apply a_region | apply aw_exit | apply aw_ret | (apply aw_condp; rfl; all_goals (intro hc; try (exfalso; first | omega | contradiction | (simp at hc; omega) | (simp_all; done)))) | apply go_seq | apply go_seq_exit | apply go_block_exit | apply go_loop_exit)
    all_goals exact g_ret1 (r_tmp rfl) .nil rfl
theorem exp88_ok (c : Cf) (E : AV) (k : Int) (x : En) (h : 0 ≤ x.ar ∧ x.ar ≤ k ∧ k ≤ 9223372036854775807) : PFn Tryd.prog 88 [.ip (rc c E k), .agg (cellsX x)] (vb (late c k x)) := by
  refine fn_of Tryd.func88 rfl Tryd.ntmps88 Tryd.results88 rfl fun G => ?_
  obtain ⟨h1, h2, h3⟩ := h
  repeat' (first | apply ar_nil | (apply ar_ev; (apply ev_move; rfl); rfl) | (apply ar_ev; (first | (apply ev_load_ptr_one; rfl; (focus ((repeat (first | exact Take.head | apply Take.tail | apply Take.right)); done)); exact (by first | rfl | assumption | exact get_map (by assumption)); rfl) | (apply ev_load_ip_one; rfl; rfl) | (apply ev_fieldAddr_ptr; rfl) | (apply ev_fieldAddr_ip; rfl) | (apply ev_assign; rfl) | (apply ev_nilCheck_ip; rfl) | (apply ev_gtr; rfl; rfl) | (apply ev_sub; rfl; rfl; exact (by first | omega | assumption); exact (by first | omega | assumption))); rfl) | (apply ar_new; (first | apply eff_alloc | (apply eff_box; rfl; exact lies_of rfl) | (apply eff_conv_bytes; rfl; exact (by first | omega | assumption | (simp; done) | (simp; omega) | exact Nat.le_of_ble_eq_true rfl))); exact .nil; rfl; intro lab) | apply aw_seq | apply a_region | apply aw_ret | apply go_seq | (first | (apply a_drawN 2; rfl; rfl) | (apply a_drawN 3; rfl; rfl) | (apply a_drawN 4; rfl; rfl) | (apply a_drawN 5; rfl; rfl) | (apply a_drawN 6; rfl; rfl) | (apply a_drawN 7; rfl; rfl) | (apply a_drawN 8; rfl; rfl) | (apply a_drawN 9; rfl; rfl) | (apply a_drawN 10; rfl; rfl) | (apply a_drawN 11; rfl; rfl) | (apply a_drawN 12; rfl; rfl) | (apply a_drawN 13; rfl; rfl) | (apply a_drawN 14; rfl; rfl) | (apply a_drawN 15; rfl; rfl) | (apply a_drawN 16; rfl; rfl) | (apply a_drawN 17; rfl; rfl) | (apply a_drawN 18; rfl; rfl) | (apply a_drawN 19; rfl; rfl) | (apply a_drawN 20; rfl; rfl) | (apply a_drawN 21; rfl; rfl) | (apply a_drawN 22; rfl; rfl) | (apply a_drawN 23; rfl; rfl) | (apply a_drawN 24; rfl; rfl) | (apply a_drawN 25; rfl; rfl) | (apply a_drawN 26; rfl; rfl) | (apply a_drawN 27; rfl; rfl) | (apply a_drawN 28; rfl; rfl) | (apply a_drawN 29; rfl; rfl) | (apply a_drawN 30; rfl; rfl) | (apply a_drawN 31; rfl; rfl) | (apply a_drawN 32; rfl; rfl) | (apply a_drawN 33; rfl; rfl) | (apply a_drawN 34; rfl; rfl) | (apply a_drawN 35; rfl; rfl) | (apply a_drawN 36; rfl; rfl) | (apply a_drawN 37; rfl; rfl) | (apply a_drawN 38; rfl; rfl) | (apply a_drawN 39; rfl; rfl) | (apply a_drawN 40; rfl; rfl) | (apply a_drawN 41; rfl; rfl) | (apply a_drawN 42; rfl; rfl) | (apply a_drawN 43; rfl; rfl) | (apply a_drawN 44; rfl; rfl) | (apply a_drawN 45; rfl; rfl)))
  all_goals exact g_ret1 (r_tmp rfl) .nil rfl
theorem len61_ok (c : Cf) (ll n : Nat) (k : Int) : PFn Tryd.prog 61 [.ip (rc c (.own ll 0 n) k)] (vi n) := by
  refine fn_of Tryd.func61 rfl Tryd.ntmps61 Tryd.results61 rfl fun G => ?_
  repeat' (first | apply ar_nil | (apply ar_ev; (apply ev_move; rfl); rfl) | (apply ar_ev; (first | (apply ev_load_ip_one; rfl; rfl) | (apply ev_fieldAddr_ip; rfl) | (apply ev_assign; rfl) | (apply ev_nilCheck_ip; rfl) | (apply ev_len_own; rfl)); rfl) | apply aw_seq | apply a_region | apply aw_ret | apply go_seq)
  all_goals exact g_ret1 (r_tmp rfl) .nil rfl
theorem bytes62_ok (c : Cf) (l : List En) (k : Int) (hn : l.length ≤ 1048576) (hok : ∀ x, x ∈ l → OkE x) (hs : sumZ l ≤ 9223372036854775807) : PFn Tryd.prog 62 [.ip (rc c (xsl l) k)] (vi (sumZ l)) := by
  refine fn_of Tryd.func62 rfl Tryd.ntmps62 Tryd.results62 rfl fun G => ?_
  repeat' (first | apply ar_nil | (apply ar_ev; (apply ev_assign; rfl); rfl) | apply aw_seq | apply a_region | apply aw_block | apply go_seq)
  refine a_loop (fun i : Nat => ⟨[(0, .ip (rc c (xsl l) k)), (3, vi (sumZ (l.take i))), (4, vi i)], []⟩) (fun i => i ≤ l.length) (fun i => l.length - i) 0 (Sub.of (by repeat (first | exact .nil | refine .cons rfl Le.refl ?_)) (by repeat (first | exact Takes.nil | (apply Takes.cons; focus (repeat (first | exact Take.head | apply Take.tail | apply Take.right)))))) (Nat.zero_le _) ?_
  intro i hi
  have hsp : sumZ l = sumZ (l.take i) + sumZ (l.drop i) := by rw [← sumZ_app, List.take_append_drop]
  have g1 := sumZ_nonneg (l.take i)
  have g2 := sumZ_nonneg (l.drop i)
  by_cases hk : i < l.length
  · obtain ⟨x, hx⟩ : ∃ x, l[i]? = some x := ⟨_, List.getElem?_eq_getElem hk⟩
    have hx2 := x_get hx
    have hxo := hok x (List.mem_of_getElem? hx)
    have hz := size26_ok x.r hxo.r hxo.b
    have ht : sumZ (l.take (i + 1)) = sumZ (l.take i) + sizeN x.r := by rw [List.take_add_one, hx]; exact (sumZ_app _ _).trans (by rw [Option.toList_some, sumZ_one])
    have hsp2 : sumZ l = sumZ (l.take (i + 1)) + sumZ (l.drop (i + 1)) := by rw [← sumZ_app, List.take_append_drop]
    have g3 := sumZ_nonneg (l.drop (i + 1))
    clear hok
    repeat' (first | apply ar_nil | (apply ar_ev; (apply ev_move; rfl); rfl) | (apply ar_ev; (first | exact ev_call rfl rfl hz | (apply ev_load_ip_one; rfl; rfl) | (apply ev_fieldAddr_ip; rfl) | (apply ev_assign; rfl) | (apply ev_nilCheck_ip; rfl) | (apply ev_load_ip_agg; rfl; exact Nat.le_of_ble_eq_true rfl) | (apply ev_lss; rfl; rfl) | (apply ev_inc; rfl; exact (by first | omega | assumption)) | (apply ev_add; rfl; rfl; exact (by first | omega | assumption); exact (by first | omega | assumption)) | (apply ev_len_sl; rfl) | (apply ev_indexAddr_sl; rfl; rfl; exact (by first | omega | assumption); exact (by first | rfl | assumption | exact get_map (by assumption)))); rfl) | apply aw_seq | apply a_region | apply aw_block | apply aw_skip | (apply aw_condp; rfl; all_goals (intro hc; try (exfalso; first | omega | contradiction | (simp at hc; omega)))) | apply go_seq | apply go_block)
    all_goals (apply go_loop_back; refine ⟨i + 1, by omega, by omega, ?_⟩; rw [ht]; exact Sub.of (by repeat (first | exact .nil | refine .cons rfl Le.refl ?_)) (by repeat (first | exact Takes.nil | (apply Takes.cons; focus (repeat (first | exact Take.head | apply Take.tail | apply Take.right))))))
  · obtain rfl : i = l.length := by omega
    rw [List.take_of_length_le (Nat.le_refl _)]
    repeat' (first | apply ar_nil | (apply ar_ev; (apply ev_move; rfl); rfl) | (apply ar_ev; (first | (apply ev_load_ip_one; rfl; rfl) | (apply ev_fieldAddr_ip; rfl) | (apply ev_assign; rfl) | (apply ev_nilCheck_ip; rfl) | (apply ev_lss; rfl; rfl) | (apply ev_len_sl; rfl)); rfl) | apply aw_seq | apply a_region | apply aw_exit | apply aw_ret | (apply aw_condp; rfl; all_goals (intro hc; try (exfalso; first | omega | contradiction | (simp at hc; omega)))) | apply go_seq | apply go_seq_exit | apply go_block_exit | apply go_loop_exit)
    all_goals exact g_ret1 (r_tmp rfl) .nil rfl
theorem upTo_ok (n : Int) : PFn Tryd.prog 54 [vi n] (vb (!wrongN n)) := by
  refine fn_of Tryd.func54 rfl Tryd.ntmps54 Tryd.results54 rfl fun G => ?_
  unfold wrongN
  repeat' (first | apply ar_nil | (apply ar_splitp; (apply ev_move; rfl); rfl; all_goals (intro hc; try (exfalso; first | omega | contradiction | (simp at hc; omega) | (simp_all; done)))) | (apply ar_ev; (apply ev_move; rfl); rfl) | (apply ar_ev; (first | (apply ev_assign; rfl) | (apply ev_pick_t; rfl; rfl) | (apply ev_pick_f; rfl; rfl) | (apply ev_geq; rfl; rfl)); rfl) | (apply ar_skip; rfl; rfl; rfl; rfl; rfl) | (apply ar_take; rfl; rfl; rfl; (apply ev_move; rfl); rfl) | (apply ar_take; rfl; rfl; rfl; (apply ev_leq; rfl; rfl); rfl) | apply aw_seq | apply a_region | apply aw_ret | apply go_seq)
  all_goals exact g_ret1 (r_tmp rfl) .nil (by first | (simp_all; done) | (congr 3; rw [Bool.eq_iff_iff]; simp; omega))
theorem fields101_ok (l : List Fld) (hn : l.length ≤ 1048576) : PFn Tryd.prog 101 [fsl l] (fsl l) := by
  refine fn_of Tryd.func101 rfl Tryd.ntmps101 Tryd.results101 rfl fun G => ?_
  repeat' (first | apply ar_nil | (apply ar_ev; (apply ev_move; rfl); rfl) | (apply ar_ev; (first | exact ev_append_nil rfl rfl (by simp) (by omega) (by omega) | (apply ev_assign; rfl)); rfl) | apply aw_seq | apply a_region | apply aw_ret | apply go_seq)
  exact g_ret1 (r_tmp rfl) .nil rfl
theorem new23_ok (c : Cf) : FnC Tryd.prog 23 [] [.agg (encC c)] (fun ts v => (okCf c = true ∧ ∃ lm ll, ts = rtok lm ll c [] 0 ∧ v = .tup [.ptr lm 0 0, vi 0]) ∨ (okCf c = false ∧ ts = [] ∧ v = .tup [.val (.pointer none), vi 1])) := by
  refine fn_of Tryd.func23 rfl Tryd.ntmps23 Tryd.results23 rfl fun G => ?_
  have hb := upTo_ok c.b
  have hl := upTo_ok c.l
  have hp := upTo_ok c.p
  have hok : okCf c = (decide (0 ≤ c.e ∧ c.e ≤ 64) && !(wrongN c.b || (wrongN c.l || wrongN c.p))) := by
    unfold okCf wrongN
    rw [Bool.eq_iff_iff]
    simp
  generalize okCf c = O at *
  generalize wrongN c.b = WB at *
  generalize wrongN c.l = WL at *
  generalize wrongN c.p = WP at *
  by_cases he : 0 ≤ c.e ∧ c.e ≤ 64
  · rw [decide_eq_true he, Bool.true_and] at hok
    obtain ⟨he1, he2⟩ := he
    cases WB with
    | true =>
      repeat' (first | apply ar_nil | (apply ar_ev; (apply ev_move (y := .val (.bool true)); rfl); rfl) | (apply ar_splitp; (apply ev_move; rfl); rfl; all_goals (intro hc; try (exfalso; first | omega | contradiction | (simp at hc; omega) | (simp_all; done)))) | (apply ar_ev; (first | (apply ev_load_ptr_one; rfl; (focus ((repeat (first | exact Take.head | apply Take.tail | apply Take.right)); done)); exact (by first | rfl | assumption | exact get_map (by assumption)); rfl) | (apply ev_fieldAddr_ptr; rfl) | (apply ev_assign; rfl) | (apply ev_pick_t; rfl; rfl) | (apply ev_pick_f; rfl; rfl) | (apply ev_lss; rfl; rfl)); rfl) | (apply ar_new; (first | apply eff_alloc | (apply eff_box; rfl; exact lies_of rfl) | (apply eff_conv_bytes; rfl; exact (by first | omega | assumption | (simp; done) | (simp; omega) | exact Nat.le_of_ble_eq_true rfl))); exact .nil; rfl; intro lab) | (apply ar_skip; rfl; rfl; rfl; rfl; rfl) | (apply ar_take; rfl; rfl; rfl; (first | exact ev_call rfl rfl hb | (apply ev_load_ptr_one; rfl; (focus ((repeat (first | exact Take.head | apply Take.tail | apply Take.right)); done)); exact (by first | rfl | assumption | exact get_map (by assumption)); rfl) | (apply ev_fieldAddr_ptr; rfl) | (apply ev_gtr; rfl; rfl) | (apply ev_not; rfl)); rfl) | apply aw_seq | apply a_region | apply aw_ret | (apply aw_cond_t; rfl) | apply go_seq | apply go_seq_ret)
      exact g_ret2 (us := []) (r_tmp rfl) (r_tmp rfl) .nil (.inr ⟨hok, rfl, rfl⟩)
    | false =>
      cases WL with
      | true =>
        repeat' (first | apply ar_nil | (apply ar_ev; (apply ev_move (y := .val (.bool true)); rfl); rfl) | (apply ar_ev; (apply ev_move (y := .val (.bool false)); rfl); rfl) | (apply ar_splitp; (apply ev_move; rfl); rfl; all_goals (intro hc; try (exfalso; first | omega | contradiction | (simp at hc; omega) | (simp_all; done)))) | (apply ar_ev; (first | (apply ev_load_ptr_one; rfl; (focus ((repeat (first | exact Take.head | apply Take.tail | apply Take.right)); done)); exact (by first | rfl | assumption | exact get_map (by assumption)); rfl) | (apply ev_fieldAddr_ptr; rfl) | (apply ev_assign; rfl) | (apply ev_pick_t; rfl; rfl) | (apply ev_pick_f; rfl; rfl) | (apply ev_lss; rfl; rfl)); rfl) | (apply ar_new; (first | apply eff_alloc | (apply eff_box; rfl; exact lies_of rfl) | (apply eff_conv_bytes; rfl; exact (by first | omega | assumption | (simp; done) | (simp; omega) | exact Nat.le_of_ble_eq_true rfl))); exact .nil; rfl; intro lab) | (apply ar_skip; rfl; rfl; rfl; rfl; rfl) | (apply ar_take; rfl; rfl; rfl; (first | exact ev_call rfl rfl hb | exact ev_call rfl rfl hl | (apply ev_load_ptr_one; rfl; (focus ((repeat (first | exact Take.head | apply Take.tail | apply Take.right)); done)); exact (by first | rfl | assumption | exact get_map (by assumption)); rfl) | (apply ev_fieldAddr_ptr; rfl) | (apply ev_gtr; rfl; rfl) | (apply ev_not; rfl)); rfl) | apply aw_seq | apply a_region | apply aw_ret | (apply aw_cond_t; rfl) | apply go_seq | apply go_seq_ret)
        exact g_ret2 (us := []) (r_tmp rfl) (r_tmp rfl) .nil (.inr ⟨hok, rfl, rfl⟩)
      | false =>
        cases WP with
        | true =>
          repeat' (first | apply ar_nil | (apply ar_ev; (apply ev_move (y := .val (.bool false)); rfl); rfl) | (apply ar_splitp; (apply ev_move; rfl); rfl; all_goals (intro hc; try (exfalso; first | omega | contradiction | (simp at hc; omega) | (simp_all; done)))) | (apply ar_ev; (first | (apply ev_load_ptr_one; rfl; (focus ((repeat (first | exact Take.head | apply Take.tail | apply Take.right)); done)); exact (by first | rfl | assumption | exact get_map (by assumption)); rfl) | (apply ev_fieldAddr_ptr; rfl) | (apply ev_assign; rfl) | (apply ev_pick_f; rfl; rfl) | (apply ev_lss; rfl; rfl)); rfl) | (apply ar_new; (first | apply eff_alloc | (apply eff_box; rfl; exact lies_of rfl) | (apply eff_conv_bytes; rfl; exact (by first | omega | assumption | (simp; done) | (simp; omega) | exact Nat.le_of_ble_eq_true rfl))); exact .nil; rfl; intro lab) | (apply ar_take; rfl; rfl; rfl; (first | exact ev_call rfl rfl hb | exact ev_call rfl rfl hl | exact ev_call rfl rfl hp | (apply ev_load_ptr_one; rfl; (focus ((repeat (first | exact Take.head | apply Take.tail | apply Take.right)); done)); exact (by first | rfl | assumption | exact get_map (by assumption)); rfl) | (apply ev_fieldAddr_ptr; rfl) | (apply ev_gtr; rfl; rfl) | (apply ev_not; rfl)); rfl) | apply aw_seq | apply a_region | apply aw_ret | (apply aw_cond_t; rfl) | apply go_seq | apply go_seq_ret)
          exact g_ret2 (us := []) (r_tmp rfl) (r_tmp rfl) .nil (.inr ⟨hok, rfl, rfl⟩)
        | false =>
          repeat' ((fail_if_success (show AW _ (.ret) _ _)); (first | apply ar_nil | (apply ar_ev; (apply ev_move (y := .val (.bool false)); rfl); rfl) | (apply ar_splitp; (apply ev_move; rfl); rfl; all_goals (intro hc; try (exfalso; first | omega | contradiction | (simp at hc; omega) | (simp_all; done)))) | (apply ar_ev; (first | (apply ev_load_ptr_one; rfl; (focus ((repeat (first | exact Take.head | apply Take.tail | apply Take.right)); done)); exact (by first | rfl | assumption | exact get_map (by assumption)); rfl) | (apply ev_fieldAddr_ptr; rfl) | (apply ev_assign; rfl) | (apply ev_pick_f; rfl; rfl) | (apply ev_load_ptr_agg; rfl; (focus ((repeat (first | exact Take.head | apply Take.tail | apply Take.right)); done)); exact (by first | rfl | assumption | exact get_map (by assumption)); exact Nat.le_of_ble_eq_true rfl) | (apply ev_lss; rfl; rfl) | (apply ev_build; rfl; rfl; rfl)); rfl) | (apply ar_new; (first | apply eff_alloc | (apply eff_box; rfl; exact lies_of rfl) | (apply eff_conv_bytes; rfl; exact (by first | omega | assumption | (simp; done) | (simp; omega) | exact Nat.le_of_ble_eq_true rfl))); exact .nil; rfl; intro lab) | (apply ar_take; rfl; rfl; rfl; (first | exact ev_call rfl rfl hb | exact ev_call rfl rfl hl | exact ev_call rfl rfl hp | (apply ev_load_ptr_one; rfl; (focus ((repeat (first | exact Take.head | apply Take.tail | apply Take.right)); done)); exact (by first | rfl | assumption | exact get_map (by assumption)); rfl) | (apply ev_fieldAddr_ptr; rfl) | (apply ev_gtr; rfl; rfl) | (apply ev_not; rfl)); rfl) | apply aw_seq | apply a_region | apply aw_skip | (apply aw_cond_f; rfl) | apply go_seq))
          refine aw_adoptc (i := 0) (j := 4) 121 11 (by repeat (first | exact Take.head | apply Take.tail | apply Take.right)) rfl rfl fun ll => ?_
          repeat' (apply aw_ret)
          exact g_ret2 (us := rtok lab ll c [] 0) (r_tmp rfl) (r_tmp rfl) ((by repeat (first | exact Takes.nil | (apply Takes.cons; focus (repeat (first | exact Take.head | apply Take.tail | apply Take.right)))))) (.inl ⟨hok, lab, ll, rfl, rfl⟩)
  · rw [decide_eq_false he, Bool.false_and] at hok
    have he2 : c.e < 0 ∨ 64 < c.e := by omega
    repeat' (first | apply ar_nil | (apply ar_splitp; (apply ev_move; rfl); rfl; all_goals (intro hc; try (exfalso; first | omega | contradiction | (simp at hc; omega) | (simp_all; done)))) | (apply ar_ev; (apply ev_move (y := .val (.bool true)); rfl); rfl) | (apply ar_ev; (first | (apply ev_load_ptr_one; rfl; (focus ((repeat (first | exact Take.head | apply Take.tail | apply Take.right)); done)); exact (by first | rfl | assumption | exact get_map (by assumption)); rfl) | (apply ev_fieldAddr_ptr; rfl) | (apply ev_assign; rfl) | (apply ev_pick_t; rfl; rfl) | (apply ev_pick_f; rfl; rfl) | (apply ev_lss; rfl; rfl)); rfl) | (apply ar_new; (first | apply eff_alloc | (apply eff_box; rfl; exact lies_of rfl) | (apply eff_conv_bytes; rfl; exact (by first | omega | assumption | (simp; done) | (simp; omega) | exact Nat.le_of_ble_eq_true rfl))); exact .nil; rfl; intro lab) | (apply ar_skip; rfl; rfl; rfl; rfl; rfl) | (apply ar_take; rfl; rfl; rfl; (first | (apply ev_load_ptr_one; rfl; (focus ((repeat (first | exact Take.head | apply Take.tail | apply Take.right)); done)); exact (by first | rfl | assumption | exact get_map (by assumption)); rfl) | (apply ev_fieldAddr_ptr; rfl) | (apply ev_gtr; rfl; rfl)); rfl) | apply aw_seq | apply a_region | apply aw_ret | (apply aw_cond_t; rfl) | apply go_seq | apply go_seq_ret)
    all_goals exact g_ret2 (us := []) (r_tmp rfl) (r_tmp rfl) .nil (.inr ⟨hok, rfl, rfl⟩)
end Go.Proofs.YtphkfejckafamaaDoor
