import Derived.Test.YtkidjeejhhfbpaaI
set_option linter.unusedVariables false
set_option linter.unusedSimpArgs false
set_option maxRecDepth 100000
namespace Go.Proofs.Ytkidjeejhhfbpaa
open Go.Proofs Go.Proofs.YtkidjeejhhfbpaaA

/-! Rules that are made are right. -/
structure PushOk (l : List Tg) : Prop where
  len : l.length ≤ 8
  nodup : l.Nodup
  page : ∀ t, t ∈ l → ∃ k, k < 16 ∧ t = pgT k
theorem pgI_page (n : Int) : ∃ k, k < 16 ∧ pgI n = pgT k := by
  have h := and15 n
  exact ⟨(andI n 15).toNat, by omega, rfl⟩
theorem pstep_ok (i : Nat) {acc : List Tg} (h : PushOk acc) (e : Ed) : PushOk (pstep i acc e) := by
  unfold pstep
  split
  · rename_i h1
    refine ⟨by simp; omega, List.nodup_append.2 ⟨h.nodup, by simp, fun a ha b hb e => h1.2.1 ?_⟩, fun t ht => ?_⟩
    · obtain rfl := List.mem_singleton.1 hb; exact e ▸ ha
    · rcases List.mem_append.1 ht with ht | ht
      · exact h.page t ht
      · obtain rfl := List.mem_singleton.1 ht; exact pgI_page _
  · exact h
theorem push_ok (es : List Ed) (i : Nat) : PushOk (pushN es i) := by
  have : ∀ (l : List Ed) (acc : List Tg), PushOk acc → PushOk (l.foldl (pstep i) acc) := by
    intro l
    induction l with
    | nil => intro acc h; exact h
    | cons e l ih => intro acc h; exact ih _ (pstep_ok i h e)
  exact this es [] ⟨by simp, by simp, fun t ht => (nomatch ht)⟩
theorem pg_right {k : Nat} (hk : k < 16) : rightB (pgT k) = true := by
  have : ∀ k : Fin 16, rightB (pgT k.val) = true := by decide +kernel
  exact this ⟨k, hk⟩
theorem pg_okT (k : Nat) : OkT (pgT k) := ⟨by show 4 ≤ 1099511627776; omega, by show 2 ≤ 1099511627776; omega⟩
theorem pg_nodup : ((List.range 16).map pgT).Nodup := by decide +kernel
theorem made_mem {es : List Ed} {r : Rl} (h : r ∈ madeN es) : ∃ i, i < 16 ∧ r = (pgT i, pushN es i) ∧ pushN es i ≠ [] := by
  unfold madeN madeTo at h
  obtain ⟨i, hi, rfl⟩ := List.mem_map.1 h
  obtain ⟨h1, h2⟩ := List.mem_filter.1 hi
  exact ⟨i, List.mem_range.1 h1, rfl, of_decide_eq_true h2⟩
theorem made_okR (es : List Ed) : ∀ r, r ∈ madeN es → OkR r := fun r h => by
  obtain ⟨i, hi, rfl, _⟩ := made_mem h
  have hp := push_ok es i
  refine ⟨pg_okT i, Nat.le_trans hp.len (by decide), fun t ht => ?_⟩
  obtain ⟨k, _, rfl⟩ := hp.page t ht
  exact pg_okT k
theorem made_len (es : List Ed) : (madeN es).length ≤ 16 := madeTo_len es 16
theorem made_len8 (es : List Ed) : ∀ r, r ∈ madeN es → r.2.length ≤ 8 := fun r h => by
  obtain ⟨i, hi, rfl, _⟩ := made_mem h
  exact (push_ok es i).len
theorem made_nodup (es : List Ed) : ((madeN es).map (·.1)).Nodup := by
  have e : (madeN es).map (·.1) = ((List.range 16).filter fun i => decide (pushN es i ≠ [])).map pgT := by
    unfold madeN madeTo
    rw [List.map_map]; rfl
  rw [e]
  exact pg_nodup.sublist (List.Sublist.map pgT List.filter_sublist)
theorem err_of {rs : List Rl} (h1 : rs.length ≤ 64) (h2 : ∀ r, r ∈ rs → r.2.length ≤ 8) (h3 : ∀ r, r ∈ rs → rightB r.1 = true ∧ ∀ t, t ∈ r.2 → rightB t = true) (h4 : (rs.map (·.1)).Nodup) (h5 : ∀ r, r ∈ rs → r.2.Nodup) : errN rs = 0 := by
  unfold errN
  rw [if_neg, if_neg, if_neg]
  · unfold dupR
    rw [(dup_iff _).2 h4, Bool.false_or, Bool.not_eq_true, List.any_eq_false]
    exact fun r hr => by rw [(dup_iff _).2 (h5 r hr)]; decide
  · rw [Bool.not_eq_true, List.any_eq_false]
    intro r hr
    obtain ⟨e1, e2⟩ := h3 r hr
    unfold wrongR
    rw [e1, Bool.not_true, Bool.false_or, Bool.not_eq_true, List.any_eq_false]
    exact fun t ht => by rw [e2 t ht]; decide
  · rintro (h | h)
    · omega
    · obtain ⟨r, hr, hx⟩ := List.any_eq_true.1 h
      have := h2 r hr
      simp [longR] at hx
      omega
theorem made_err (es : List Ed) : errN (madeN es) = 0 :=
  err_of (Nat.le_trans (made_len es) (by decide)) (made_len8 es) (fun r h => by
    obtain ⟨i, hi, rfl, _⟩ := made_mem h
    refine ⟨pg_right hi, fun t ht => ?_⟩
    obtain ⟨k, hk, rfl⟩ := (push_ok es i).page t ht
    exact pg_right hk) (made_nodup es) (fun r h => by
    obtain ⟨i, hi, rfl, _⟩ := made_mem h
    exact (push_ok es i).nodup)
theorem of_made (rs : List Rl) (hr : ∀ r, r ∈ rs → OkR r) (hn : rs.length ≤ 1099511627776) (he : errN rs = 0) : PFn Try.prog 8 [rsl rs] (.tup [.ip [.imap (encE (mapOf rs))], vi 0]) := by
  have := Of_ok rs hn hr
  unfold ofV manV at this
  rw [he] at this
  exact this
theorem plan_of (rs : List Rl) (hr : ∀ r, r ∈ rs → OkR r) (t : Tg) (M : Int) : PFn Try.prog 15 [.ip [.imap (encE (mapOf rs))], .agg (encT t), vi M] (tsl (planN (nmOf rs) (mostN M) t)) := PlanF_ok rs hr t M

/-! The law ManifestDown. -/
theorem find_take {α : Type} {p : α → Bool} : ∀ {l : List α} {j : Nat} {x : α}, (∀ y, y ∈ l.take j → p y = false) → l[j]? = some x → p x = true → l.find? p = some x
  | a :: l, 0, x, _, h, hp => by cases h; rw [List.find?_cons, hp]
  | a :: l, j + 1, x, h1, h, hp => by
    have ha := h1 a (by simp)
    rw [List.find?_cons, ha]
    exact find_take (j := j) (fun y hy => h1 y (by rw [List.take_succ_cons]; exact List.mem_cons_of_mem _ hy)) (by simpa using h) hp
set_option maxHeartbeats 8000000 in
theorem ManifestDown_ok (es : List Ed) (from_ : Int) (hn : es.length ≤ 1048576) : PFn Try.prog 5 [dsl es, vi from_] (vb true) := by
  refine fn_of Try.func5 rfl Try.ntmps5 Try.results5 rfl fun G => ?_
  have hmd := made_ok es (by omega)
  have hok := made_okR es
  have hln := made_len es
  have herr := made_err es
  generalize madeN es = rs at *
  have hown := own_ok rs (by omega) hok
  have hof := of_made rs hok (by omega) herr
  have hpg := page_ok from_
  generalize pgI from_ = t at *
  have hpl := plan_of rs hok t 8
  rw [show mostN 8 = 8 from rfl] at hpl
  have hdown := wfold_down (nm := nmOf rs) (root := t) (most := 8) (nmOf rs t) []
  have hpn : planN (nmOf rs) 8 t = wfold (nmOf rs) t 8 (nmOf rs t) [] := rfl
  have hll := wfold_len (nm := nmOf rs) (root := t) (most := 8) (nmOf rs t) [] (Nat.zero_le _)
  rw [← hpn] at hdown hll
  clear hpn
  generalize planN (nmOf rs) 8 t = L at *
  have hM := fun x => names_ok rs (by omega) x
  repeat' ((fail_if_success (show AW _ (.region 7 _ _) _ _)); (first | apply ar_nil | (apply ar_splitp; (apply ev_move; rfl); rfl; all_goals (intro hc; try (exfalso; first | omega | contradiction | (simp at hc; omega) | (simp_all; done)))) | (apply ar_ev; (apply ev_move (y := .val (.bool false)); rfl); rfl) | (apply ar_ev; (apply ev_move; rfl); rfl) | (apply ar_ev; (first | exact ev_call rfl rfl hmd | exact ev_call rfl rfl hown | exact ev_call rfl rfl hof | exact ev_call rfl rfl hpg | exact ev_call rfl rfl hpl | (apply ev_assign; rfl) | (apply ev_pick_f; rfl; rfl) | (apply ev_load_ptr_agg; rfl; (focus ((repeat (first | exact Take.head | apply Take.tail | apply Take.right)); done)); exact (by first | rfl | assumption | exact get_map (by assumption)); exact Nat.le_of_ble_eq_true rfl) | (apply ev_eqnil_p; rfl; rfl) | (apply ev_extract; rfl; rfl)); rfl) | (apply ar_new; (first | apply eff_alloc | (apply eff_box; rfl; exact lies_of rfl) | (apply eff_conv_bytes; rfl; exact (by first | omega | assumption | (simp; done) | (simp; omega) | exact Nat.le_of_ble_eq_true rfl))); exact .nil; rfl; intro lab) | (apply ar_store; rfl; (focus ((repeat (first | exact Take.head | apply Take.tail | apply Take.right)); done)); rfl; rfl; exact (by first | rfl | assumption | exact get_map (by assumption)); rfl; rfl) | (apply ar_take; rfl; rfl; rfl; (apply ev_move; rfl); rfl) | (apply ar_take; rfl; rfl; rfl; (first | exact ev_call rfl rfl first_ok | (apply ev_neip; rfl; rfl) | (apply ev_not; rfl)); rfl) | apply aw_seq | apply a_region | apply aw_skip | (apply aw_cond_f; rfl) | apply go_seq))
  refine aw_cv 8 (us := [(lab, .row 35 2 [encT t])]) rfl (.cons .head .nil) (Cv.ptr0 .head rfl) ?_
  clear hmd hof hpg hpl hown hc
  repeat' (first | apply ar_nil | (apply ar_ev; (apply ev_assign; rfl); rfl) | apply a_region | apply aw_block | apply go_seq)
  refine a_loop (fun i : Nat => ⟨[(5, rsl rs), (8, .ip (encT t)), (9, tsl L), (10, vi i)], []⟩) (fun i => i ≤ 8) (fun i => 8 - i) 0 (Sub.of (by repeat (first | exact .nil | refine .cons rfl Le.refl ?_)) (by repeat (first | exact Takes.nil | (apply Takes.cons; focus (repeat (first | exact Take.head | apply Take.tail | apply Take.right)))))) (Nat.zero_le _) ?_
  rintro i hi
  repeat' (first | apply ar_nil | (apply ar_ev; (apply ev_move; rfl); rfl) | (apply ar_ev; (first | (apply ev_lss; rfl; rfl) | (apply ev_inc; rfl; exact (by first | omega | assumption)) | (apply ev_len_sl; rfl)); rfl) | apply aw_seq | apply a_region | apply go_seq)
  refine aw_condp rfl (fun hk => ?_) (fun hk => ?_)
  · obtain ⟨x, hxe⟩ : ∃ x, L[i]? = some x := ⟨_, List.getElem?_eq_getElem (by omega)⟩
    have hx2 := tsl_get hxe
    have hN := hM x
    have hl8 : (nmOf rs x).length ≤ 1099511627776 := nm_len hok x
    have hdn := fun z => hdown i x z (Nat.zero_le _) hxe (by omega)
    unfold nxt at hdn
    generalize nmOf rs x = N at *
    repeat' (first | apply ar_nil | (apply ar_ev; (apply ev_move; rfl); rfl) | (apply ar_ev; (first | exact ev_call rfl rfl hN | (apply ev_assign; rfl) | (apply ev_load_ip_agg; rfl; exact Nat.le_of_ble_eq_true rfl) | (apply ev_indexAddr_sl; rfl; rfl; exact (by first | omega | assumption); exact (by first | rfl | assumption | exact get_map (by assumption)))); rfl) | apply aw_seq | apply a_region | apply aw_block | apply aw_skip | apply go_seq)
    refine a_loop (fun j : Nat => ⟨[(5, rsl rs), (8, .ip (encT t)), (9, tsl L), (10, vi i), (11, tsl N), (12, vi j)], []⟩) (fun j => j ≤ N.length ∧ ∀ y, y ∈ N.take j → y = t ∨ y ∈ L.take (i + 1)) (fun j => N.length - j) 0 (Sub.of (by repeat (first | exact .nil | refine .cons rfl Le.refl ?_)) (by repeat (first | exact Takes.nil | (apply Takes.cons; focus (repeat (first | exact Take.head | apply Take.tail | apply Take.right)))))) ⟨Nat.zero_le _, fun y hy => by simp at hy⟩ ?_
    rintro j ⟨hj, hjx⟩
    repeat' (first | apply ar_nil | (apply ar_ev; (apply ev_move; rfl); rfl) | (apply ar_ev; (first | (apply ev_lss; rfl; rfl) | (apply ev_len_sl; rfl)); rfl) | apply aw_seq | apply a_region | apply go_seq)
    refine aw_condp rfl (fun hk2 => ?_) (fun hk2 => ?_)
    · obtain ⟨y, hye⟩ : ∃ y, N[j]? = some y := ⟨_, List.getElem?_eq_getElem (by omega)⟩
      have hy2 := tsl_get hye
      have hin := in_ok (L.take (i + 1)) y (by rw [List.length_take]; omega)
      have hle := sl_take L (i + 1) (by omega)
      have hst : ∀ p : Prop, (y = t ∨ y ∈ L.take (i + 1)) → ∀ z, z ∈ N.take (j + 1) → z = t ∨ z ∈ L.take (i + 1) := fun _ h z hz => by
        rw [List.take_add_one, hye, List.mem_append] at hz
        rcases hz with hz | hz
        · exact hjx z hz
        · obtain rfl := List.mem_singleton.1 hz; exact h
      have hgo : ¬ (y.1 = t.1 ∧ y.2 = t.2) → y ∉ L.take (i + 1) → L[i + 1]? = some y := fun h1 h2 => by
        refine hdn y (find_take (j := j) (fun z hz => ?_) hye ?_)
        · rw [Bool.not_eq_false', Bool.or_eq_true, decide_eq_true_iff, decide_eq_true_iff]; exact hjx z hz
        · rw [decide_eq_false (fun h => h1 (teq.2 h)), decide_eq_false h2]; rfl
      repeat' ((fail_if_success (show AW _ (.region 15 _ _) _ _)); (first | apply ar_nil | (apply ar_splitp; (apply ev_move; rfl); rfl; all_goals (intro hc; try (exfalso; first | omega | contradiction | (simp at hc; omega)))) | (apply ar_ev; (apply ev_move; rfl); rfl) | (apply ar_ev; (first | exact ev_eqT rfl rfl | (apply ev_assign; rfl) | (apply ev_pick_t; rfl; rfl) | (apply ev_pick_f; rfl; rfl) | (apply ev_load_ip_agg; rfl; exact Nat.le_of_ble_eq_true rfl) | (apply ev_inc; rfl; exact (by first | omega | assumption)) | (apply ev_indexAddr_sl; rfl; rfl; exact (by first | omega | assumption); exact (by first | rfl | assumption | exact get_map (by assumption)))); rfl) | (apply ar_skip; rfl; rfl; rfl; rfl; rfl) | (apply ar_take; rfl; rfl; rfl; (apply ev_move; rfl); rfl) | (apply ar_take; rfl; rfl; rfl; (first | (apply ev_callA hin; rfl; rfl; exact Les.cons hle (Les.cons Le.refl Les.nil)) | (apply ev_load_ip_agg; rfl; exact Nat.le_of_ble_eq_true rfl) | (apply ev_inc; rfl; exact (by first | omega | assumption)) | (apply ev_indexAddr_sl; rfl; rfl; exact (by first | omega | assumption); exact (by first | rfl | assumption | exact get_map (by assumption))) | (apply ev_slice_sl; rfl; exact (by first | exact LoB.none | exact LoB.some (l := 0) rfl | exact LoB.some (l := 1) rfl | exact LoB.some rfl); exact (by first | exact HiB.none | exact HiB.some rfl); exact (by first | omega | assumption); exact (by first | omega | assumption | (simp; done) | (simp; omega) | exact Nat.le_of_ble_eq_true rfl))); rfl) | apply aw_seq | apply a_region | apply aw_block | apply aw_skip | apply aw_exit | (apply aw_condp; rfl; all_goals (intro hc; try (exfalso; first | omega | contradiction | (simp at hc; omega)))) | (apply aw_cond_t; rfl) | apply go_seq | apply go_seq_exit | apply go_block_exit | (first | (apply a_drawN 2; rfl; rfl) | (apply a_drawN 3; rfl; rfl) | (apply a_drawN 4; rfl; rfl) | (apply a_drawN 5; rfl; rfl) | (apply a_drawN 6; rfl; rfl) | (apply a_drawN 7; rfl; rfl) | (apply a_drawN 8; rfl; rfl) | (apply a_drawN 9; rfl; rfl) | (apply a_drawN 10; rfl; rfl) | (apply a_drawN 11; rfl; rfl) | (apply a_drawN 12; rfl; rfl) | (apply a_drawN 13; rfl; rfl) | (apply a_drawN 14; rfl; rfl) | (apply a_drawN 15; rfl; rfl) | (apply a_drawN 16; rfl; rfl) | (apply a_drawN 17; rfl; rfl) | (apply a_drawN 18; rfl; rfl) | (apply a_drawN 19; rfl; rfl) | (apply a_drawN 20; rfl; rfl) | (apply a_drawN 21; rfl; rfl) | (apply a_drawN 22; rfl; rfl) | (apply a_drawN 23; rfl; rfl) | (apply a_drawN 24; rfl; rfl) | (apply a_drawN 25; rfl; rfl) | (apply a_drawN 26; rfl; rfl) | (apply a_drawN 27; rfl; rfl) | (apply a_drawN 28; rfl; rfl) | (apply a_drawN 29; rfl; rfl) | (apply a_drawN 30; rfl; rfl) | (apply a_drawN 31; rfl; rfl) | (apply a_drawN 32; rfl; rfl) | (apply a_drawN 33; rfl; rfl) | (apply a_drawN 34; rfl; rfl) | (apply a_drawN 35; rfl; rfl) | (apply a_drawN 36; rfl; rfl) | (apply a_drawN 37; rfl; rfl) | (apply a_drawN 38; rfl; rfl) | (apply a_drawN 39; rfl; rfl) | (apply a_drawN 40; rfl; rfl) | (apply a_drawN 41; rfl; rfl) | (apply a_drawN 42; rfl; rfl) | (apply a_drawN 43; rfl; rfl) | (apply a_drawN 44; rfl; rfl) | (apply a_drawN 45; rfl; rfl))))
      · exact go_loop_back ⟨j + 1, ⟨by omega, hst True (.inl (teq.1 hc))⟩, by omega, Sub.of (by repeat (first | exact .nil | refine .cons rfl Le.refl ?_)) (by repeat (first | exact Takes.nil | (apply Takes.cons; focus (repeat (first | exact Take.head | apply Take.tail | apply Take.right)))))⟩
      · exact go_loop_back ⟨j + 1, ⟨by omega, hst True (.inr hc)⟩, by omega, Sub.of (by repeat (first | exact .nil | refine .cons rfl Le.refl ?_)) (by repeat (first | exact Takes.nil | (apply Takes.cons; focus (repeat (first | exact Take.head | apply Take.tail | apply Take.right)))))⟩
      · rename_i hc1
        have hL := tsl_get (hgo hc1 hc)
        clear hst hgo hjx hdn hdown hM hok hin hle hc hc1
        repeat' (first | apply ar_nil | (apply ar_ev; (apply ev_move; rfl); rfl) | (apply ar_ev; (first | exact ev_neT rfl rfl | (apply ev_assign; rfl) | (apply ev_load_ip_agg; rfl; exact Nat.le_of_ble_eq_true rfl) | (apply ev_inc; rfl; exact (by first | omega | assumption)) | (apply ev_indexAddr_sl; rfl; rfl; exact (by first | omega | assumption); exact (by first | rfl | assumption | exact get_map (by assumption)))); rfl) | apply a_region | apply aw_skip | apply aw_exit | (apply aw_condp; rfl; all_goals (intro hc; try (exfalso; first | omega | contradiction | (simp at hc; omega) | (simp_all; done)))) | apply go_seq | apply go_seq_exit | apply go_block | apply go_block_exit | (apply go_block_pass; rfl) | apply go_loop_exit | (first | (apply a_drawN 2; rfl; rfl) | (apply a_drawN 3; rfl; rfl) | (apply a_drawN 4; rfl; rfl) | (apply a_drawN 5; rfl; rfl) | (apply a_drawN 6; rfl; rfl) | (apply a_drawN 7; rfl; rfl) | (apply a_drawN 8; rfl; rfl) | (apply a_drawN 9; rfl; rfl) | (apply a_drawN 10; rfl; rfl) | (apply a_drawN 11; rfl; rfl) | (apply a_drawN 12; rfl; rfl) | (apply a_drawN 13; rfl; rfl) | (apply a_drawN 14; rfl; rfl) | (apply a_drawN 15; rfl; rfl) | (apply a_drawN 16; rfl; rfl) | (apply a_drawN 17; rfl; rfl) | (apply a_drawN 18; rfl; rfl) | (apply a_drawN 19; rfl; rfl) | (apply a_drawN 20; rfl; rfl) | (apply a_drawN 21; rfl; rfl) | (apply a_drawN 22; rfl; rfl) | (apply a_drawN 23; rfl; rfl) | (apply a_drawN 24; rfl; rfl) | (apply a_drawN 25; rfl; rfl) | (apply a_drawN 26; rfl; rfl) | (apply a_drawN 27; rfl; rfl) | (apply a_drawN 28; rfl; rfl) | (apply a_drawN 29; rfl; rfl) | (apply a_drawN 30; rfl; rfl) | (apply a_drawN 31; rfl; rfl) | (apply a_drawN 32; rfl; rfl) | (apply a_drawN 33; rfl; rfl) | (apply a_drawN 34; rfl; rfl) | (apply a_drawN 35; rfl; rfl) | (apply a_drawN 36; rfl; rfl) | (apply a_drawN 37; rfl; rfl) | (apply a_drawN 38; rfl; rfl) | (apply a_drawN 39; rfl; rfl) | (apply a_drawN 40; rfl; rfl) | (apply a_drawN 41; rfl; rfl) | (apply a_drawN 42; rfl; rfl) | (apply a_drawN 43; rfl; rfl) | (apply a_drawN 44; rfl; rfl) | (apply a_drawN 45; rfl; rfl)))
        exact go_loop_back ⟨i + 1, by omega, by omega, Sub.of (by repeat (first | exact .nil | refine .cons rfl Le.refl ?_)) (by repeat (first | exact Takes.nil | (apply Takes.cons; focus (repeat (first | exact Take.head | apply Take.tail | apply Take.right)))))⟩
    · repeat' (first | apply ar_nil | (apply ar_ev; (apply ev_move; rfl); rfl) | (apply ar_ev; (first | (apply ev_assign; rfl) | (apply ev_inc; rfl; exact (by first | omega | assumption))); rfl) | apply a_region | apply aw_exit | apply go_seq | apply go_seq_exit | apply go_block | apply go_block_exit | apply go_loop_exit)
      exact go_loop_back ⟨i + 1, by omega, by omega, Sub.of (by repeat (first | exact .nil | refine .cons rfl Le.refl ?_)) (by repeat (first | exact Takes.nil | (apply Takes.cons; focus (repeat (first | exact Take.head | apply Take.tail | apply Take.right)))))⟩
  · repeat' (first | apply ar_nil | (apply ar_ev; (apply ev_assign; rfl); rfl) | apply aw_seq | apply a_region | apply aw_exit | apply aw_ret | apply go_seq | apply go_seq_exit | apply go_block_exit | apply go_loop_exit)
    exact g_ret1 (r_tmp rfl) .nil rfl
end Go.Proofs.Ytkidjeejhhfbpaa
