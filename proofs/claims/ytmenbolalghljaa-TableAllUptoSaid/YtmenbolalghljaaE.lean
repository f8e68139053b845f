import Derived.Test.YtmenbolalghljaaD
set_option linter.unusedVariables false
set_option linter.unusedSimpArgs false
set_option maxRecDepth 100000
namespace Go.Proofs.Ytmenbolalghljaa
open Go.Proofs Go.Proofs.YtmenbolalghljaaA

abbrev es : ByteArray := ⟨#[]⟩
def atN (l : List En) (i : Int) : En × Int :=
  if 1 ≤ i then match (allE l)[(i - 1).toNat]? with
    | some e => (e, 0)
    | none => ((es, es), 5)
  else ((es, es), 5)
theorem atN_some {l : List En} {k : Nat} {e : En} (h : (allE l)[k]? = some e) : atN l ((k : Int) + 1) = (e, 0) := by
  unfold atN
  rw [if_pos (by omega), show ((k : Int) + 1 - 1).toNat = k by omega, h]
theorem atN_none {l : List En} {i : Int} (h : ¬(1 ≤ i ∧ i ≤ 61 + l.length)) : atN l i = ((es, es), 5) := by
  unfold atN
  split
  · rw [List.getElem?_eq_none (by rw [allE_len]; omega)]
  · rfl
abbrev atV (r : En × Int) : AV := .tup [vs r.1.1, vs r.1.2, vi r.2]
set_option maxHeartbeats 8000000 in
theorem At_ok (mx sz : Int) (l : List En) (hn : l.length ≤ 1099511627776) (i : Int) (hi : -9223372036854775808 ≤ i ∧ i ≤ 9223372036854775807) : PFn Try.prog 25 [tabI mx sz l, vi i] (atV (atN l i)) := by
  refine fn_of Try.func25 rfl Try.ntmps25 Try.results25 rfl fun G => ?_
  by_cases h1 : 1 ≤ i ∧ i ≤ 61
  · obtain ⟨k, rfl⟩ : ∃ k : Nat, i = (k : Int) + 1 := ⟨(i - 1).toNat, by omega⟩
    obtain ⟨e, he, hfx⟩ := fixedC_at k (by omega)
    have hE : (allE l)[k]? = some e := by unfold allE; rw [List.getElem?_append_left (by rw [fixed_len]; omega)]; exact he
    have hfl : k * 2 + 2 ≤ fixedC.length := by rw [fixedC_len]; omega
    rw [atN_some hE]
    have e1 : ((k : Int) + 1 - 1) = (k : Int) := by omega
    repeat' (first | apply ar_nil | (apply ar_splitp; (apply ev_move; rfl); rfl; all_goals (intro hc; try (exfalso; first | omega | contradiction | (simp at hc; omega) | (simp_all; done)))) | (apply ar_ev; (apply ev_move; rfl); rfl) | (apply ar_ev; (first | exact ev_call rfl rfl fixed_ok | (apply ev_load_ip_one; rfl; rfl) | (apply ev_fieldAddr_ip; rfl) | (apply ev_assign; rfl) | (apply ev_nilCheck_ip; rfl) | (apply ev_pick_t; rfl; rfl) | (apply ev_geq; rfl; rfl) | (apply ev_sub; rfl; rfl; exact (by first | omega | assumption); exact (by first | omega | assumption)) | (apply ev_len_sl; rfl)); rfl) | (apply ar_new; (first | apply eff_alloc | (apply eff_box; rfl; exact lies_of rfl) | (apply eff_conv_bytes; rfl; exact (by first | omega | assumption | (simp; done) | (simp; omega) | exact Nat.le_of_ble_eq_true rfl))); exact .nil; rfl; intro lab) | (apply ar_take; rfl; rfl; rfl; (apply ev_move; rfl); rfl) | (apply ar_take; rfl; rfl; rfl; (apply ev_leq; rfl; rfl); rfl) | apply aw_seq | apply a_region | apply aw_block | (apply aw_condp; rfl; all_goals (intro hc; try (exfalso; first | omega | contradiction | (simp at hc; omega) | (simp_all; done)))) | apply go_seq)
    rw [e1]
    repeat' (apply ar_ev; (apply ev_index_arr; rfl; rfl; exact (by first | omega | assumption); exact (by first | omega | assumption | (simp; done) | (simp; omega) | exact Nat.le_of_ble_eq_true rfl)); rfl)
    rw [hfx]
    repeat' (first | apply ar_nil | (apply ar_ev; (first | (apply ev_load_ptr_one; rfl; (focus ((repeat (first | exact Take.head | apply Take.tail | apply Take.right)); done)); exact (by first | rfl | assumption | exact get_map (by assumption)); rfl) | (apply ev_fieldAddr_ptr; rfl) | (apply ev_assign; rfl)); rfl) | (apply ar_store; rfl; (focus ((repeat (first | exact Take.head | apply Take.tail | apply Take.right)); done)); rfl; rfl; exact (by first | rfl | assumption | exact get_map (by assumption)); rfl; rfl) | apply aw_seq | apply aw_ret | apply go_seq | apply go_block | (first | (apply a_drawN 2; rfl; rfl) | (apply a_drawN 3; rfl; rfl) | (apply a_drawN 4; rfl; rfl) | (apply a_drawN 5; rfl; rfl) | (apply a_drawN 6; rfl; rfl) | (apply a_drawN 7; rfl; rfl) | (apply a_drawN 8; rfl; rfl) | (apply a_drawN 9; rfl; rfl) | (apply a_drawN 10; rfl; rfl) | (apply a_drawN 11; rfl; rfl) | (apply a_drawN 12; rfl; rfl) | (apply a_drawN 13; rfl; rfl) | (apply a_drawN 14; rfl; rfl) | (apply a_drawN 15; rfl; rfl) | (apply a_drawN 16; rfl; rfl) | (apply a_drawN 17; rfl; rfl) | (apply a_drawN 18; rfl; rfl) | (apply a_drawN 19; rfl; rfl) | (apply a_drawN 20; rfl; rfl) | (apply a_drawN 21; rfl; rfl) | (apply a_drawN 22; rfl; rfl) | (apply a_drawN 23; rfl; rfl) | (apply a_drawN 24; rfl; rfl) | (apply a_drawN 25; rfl; rfl) | (apply a_drawN 26; rfl; rfl) | (apply a_drawN 27; rfl; rfl) | (apply a_drawN 28; rfl; rfl) | (apply a_drawN 29; rfl; rfl) | (apply a_drawN 30; rfl; rfl) | (apply a_drawN 31; rfl; rfl) | (apply a_drawN 32; rfl; rfl) | (apply a_drawN 33; rfl; rfl) | (apply a_drawN 34; rfl; rfl) | (apply a_drawN 35; rfl; rfl) | (apply a_drawN 36; rfl; rfl) | (apply a_drawN 37; rfl; rfl) | (apply a_drawN 38; rfl; rfl) | (apply a_drawN 39; rfl; rfl) | (apply a_drawN 40; rfl; rfl) | (apply a_drawN 41; rfl; rfl) | (apply a_drawN 42; rfl; rfl) | (apply a_drawN 43; rfl; rfl) | (apply a_drawN 44; rfl; rfl) | (apply a_drawN 45; rfl; rfl)))
    exact g_ret3 (r_tmp rfl) (r_tmp rfl) (r_tmp rfl) .nil rfl
  · by_cases h2 : 1 ≤ i ∧ i ≤ 61 + l.length
    · obtain ⟨k, rfl⟩ : ∃ k : Nat, i = ((61 + k : Nat) : Int) + 1 := ⟨(i - 62).toNat, by omega⟩
      obtain ⟨e, he⟩ : ∃ e, l[l.length - 1 - k]? = some e := ⟨_, List.getElem?_eq_getElem (by omega)⟩
      have he2 : (l.map encT)[l.length - 1 - k]? = some (encT e) := by simp [he]
      have hE : (allE l)[61 + k]? = some e := by
        unfold allE
        rw [List.getElem?_append_right (by rw [fixed_len]; omega), fixed_len, Nat.add_sub_cancel_left, List.getElem?_reverse (by omega)]
        exact he
      rw [atN_some hE]
      have e1 : ((l.length : Int) - (((61 + k : Nat) : Int) + 1 - 61)) = ((l.length - 1 - k : Nat) : Int) := by omega
      repeat' (first | apply ar_nil | (apply ar_splitp; (apply ev_move; rfl); rfl; all_goals (intro hc; try (exfalso; first | omega | contradiction | (simp at hc; omega) | (simp_all; done)))) | (apply ar_ev; (apply ev_move; rfl); rfl) | (apply ar_ev; (first | (apply ev_load_ip_one; rfl; rfl) | (apply ev_fieldAddr_ip; rfl) | (apply ev_assign; rfl) | (apply ev_nilCheck_ip; rfl) | (apply ev_pick_t; rfl; rfl) | (apply ev_gtr; rfl; rfl) | (apply ev_geq; rfl; rfl) | (apply ev_sub; rfl; rfl; exact (by first | omega | assumption); exact (by first | omega | assumption)) | (apply ev_len_sl; rfl)); rfl) | (apply ar_new; (first | apply eff_alloc | (apply eff_box; rfl; exact lies_of rfl) | (apply eff_conv_bytes; rfl; exact (by first | omega | assumption | (simp; done) | (simp; omega) | exact Nat.le_of_ble_eq_true rfl))); exact .nil; rfl; intro lab) | (apply ar_take; rfl; rfl; rfl; (apply ev_move; rfl); rfl) | (apply ar_take; rfl; rfl; rfl; (first | (apply ev_leq; rfl; rfl) | (apply ev_sub; rfl; rfl; exact (by first | omega | assumption); exact (by first | omega | assumption))); rfl) | apply aw_seq | apply a_region | apply aw_block | (apply aw_condp; rfl; all_goals (intro hc; try (exfalso; first | omega | contradiction | (simp at hc; omega) | (simp_all; done)))) | apply go_seq)
      rw [e1]
      repeat' (first | apply ar_nil | (apply ar_ev; (first | (apply ev_load_ptr_one; rfl; (focus ((repeat (first | exact Take.head | apply Take.tail | apply Take.right)); done)); exact (by first | rfl | assumption | exact get_map (by assumption)); rfl) | (apply ev_fieldAddr_ptr; rfl) | (apply ev_assign; rfl) | (apply ev_load_ip_agg; rfl; exact Nat.le_of_ble_eq_true rfl) | (apply ev_indexAddr_sl; rfl; rfl; exact (by first | omega | assumption); exact (by first | rfl | assumption | exact get_map (by assumption)))); rfl) | (apply ar_store; rfl; (focus ((repeat (first | exact Take.head | apply Take.tail | apply Take.right)); done)); rfl; rfl; exact (by first | rfl | assumption | exact get_map (by assumption)); rfl; rfl) | apply aw_seq | apply aw_ret | apply go_seq | apply go_block | (first | (apply a_drawN 2; rfl; rfl) | (apply a_drawN 3; rfl; rfl) | (apply a_drawN 4; rfl; rfl) | (apply a_drawN 5; rfl; rfl) | (apply a_drawN 6; rfl; rfl) | (apply a_drawN 7; rfl; rfl) | (apply a_drawN 8; rfl; rfl) | (apply a_drawN 9; rfl; rfl) | (apply a_drawN 10; rfl; rfl) | (apply a_drawN 11; rfl; rfl) | (apply a_drawN 12; rfl; rfl) | (apply a_drawN 13; rfl; rfl) | (apply a_drawN 14; rfl; rfl) | (apply a_drawN 15; rfl; rfl) | (apply a_drawN 16; rfl; rfl) | (apply a_drawN 17; rfl; rfl) | (apply a_drawN 18; rfl; rfl) | (apply a_drawN 19; rfl; rfl) | (apply a_drawN 20; rfl; rfl) | (apply a_drawN 21; rfl; rfl) | (apply a_drawN 22; rfl; rfl) | (apply a_drawN 23; rfl; rfl) | (apply a_drawN 24; rfl; rfl) | (apply a_drawN 25; rfl; rfl) | (apply a_drawN 26; rfl; rfl) | (apply a_drawN 27; rfl; rfl) | (apply a_drawN 28; rfl; rfl) | (apply a_drawN 29; rfl; rfl) | (apply a_drawN 30; rfl; rfl) | (apply a_drawN 31; rfl; rfl) | (apply a_drawN 32; rfl; rfl) | (apply a_drawN 33; rfl; rfl) | (apply a_drawN 34; rfl; rfl) | (apply a_drawN 35; rfl; rfl) | (apply a_drawN 36; rfl; rfl) | (apply a_drawN 37; rfl; rfl) | (apply a_drawN 38; rfl; rfl) | (apply a_drawN 39; rfl; rfl) | (apply a_drawN 40; rfl; rfl) | (apply a_drawN 41; rfl; rfl) | (apply a_drawN 42; rfl; rfl) | (apply a_drawN 43; rfl; rfl) | (apply a_drawN 44; rfl; rfl) | (apply a_drawN 45; rfl; rfl)))
      exact g_ret3 (r_tmp rfl) (r_tmp rfl) (r_tmp rfl) .nil rfl
    · rw [atN_none h2]
      repeat' (first | apply ar_nil | (apply ar_splitp; (apply ev_move; rfl); rfl; all_goals (intro hc; try (exfalso; first | omega | contradiction | (simp at hc; omega) | (simp_all; done)))) | (apply ar_ev; (apply ev_move; rfl); rfl) | (apply ar_ev; (first | (apply ev_load_ip_one; rfl; rfl) | (apply ev_fieldAddr_ip; rfl) | (apply ev_assign; rfl) | (apply ev_nilCheck_ip; rfl) | (apply ev_pick_t; rfl; rfl) | (apply ev_pick_f; rfl; rfl) | (apply ev_gtr; rfl; rfl) | (apply ev_geq; rfl; rfl) | (apply ev_len_sl; rfl)); rfl) | (apply ar_new; (first | apply eff_alloc | (apply eff_box; rfl; exact lies_of rfl) | (apply eff_conv_bytes; rfl; exact (by first | omega | assumption | (simp; done) | (simp; omega) | exact Nat.le_of_ble_eq_true rfl))); exact .nil; rfl; intro lab) | (apply ar_skip; rfl; rfl; rfl; rfl; rfl) | (apply ar_take; rfl; rfl; rfl; (apply ev_move; rfl); rfl) | (apply ar_take; rfl; rfl; rfl; (first | (apply ev_leq; rfl; rfl) | (apply ev_sub; rfl; rfl; exact (by first | omega | assumption); exact (by first | omega | assumption))); rfl) | apply aw_seq | apply a_region | apply aw_block | apply aw_ret | (apply aw_condp; rfl; all_goals (intro hc; try (exfalso; first | omega | contradiction | (simp at hc; omega) | (simp_all; done)))) | (apply aw_cond_f; rfl) | apply go_seq | apply go_seq_ret | apply go_block_ret)
      all_goals exact g_ret3 (r_tmp rfl) (r_tmp rfl) (r_tmp rfl) .nil rfl
/-- What is put in. -/
def addN (mx : Int) (l : List En) (e : En) : List En := if (szE e : Int) ≤ mx then shr (mx - szE e) l ++ [e] else shr (mx - szE e) l
set_option maxHeartbeats 8000000 in
theorem Add_ok (lt lm : Nat) (pre : List (List AV)) (mx : Int) (l : List En) (e : En) (hn : l.length ≤ 1099511627776) (hok : ∀ e, e ∈ l → OkE e) (he : OkE e) (hs : sumE l ≤ 65536) (hm : 0 ≤ mx ∧ mx ≤ 65536) (hsh : ∀ m, sumE (shr m l) ≤ 65536 ∧ (shr m l).length ≤ l.length) :
    FnC Try.prog 17 (tabT lt lm pre mx l) [.ptr lt 0 0, vs e.1, vs e.2] (fun ts r => (∃ lm' pre', ts = tabT lt lm' pre' mx (addN mx l e)) ∧ r = .tup []) := by
  refine fn_of Try.func17 rfl Try.ntmps17 Try.results17 rfl fun G => ?_
  have hz := size_ok e he
  have hshr := shrink_ok lt lm pre mx (mx - szE e) l hn hok hs
  have h1 := he.a
  have h2 := he.b
  have hz2 : szE e = e.1.size + e.2.size + 32 := rfl
  repeat' ((fail_if_success (show AW _ (.region 1 _ _) _ _)); (first | apply ar_nil | (apply ar_ev; (apply ev_move; rfl); rfl) | (apply ar_ev; (apply ev_build; rfl; rfl; rfl); rfl) | (apply ar_new; (first | apply eff_alloc | (apply eff_box; rfl; exact lies_of rfl) | (apply eff_conv_bytes; rfl; exact (by first | omega | assumption | (simp; done) | (simp; omega) | exact Nat.le_of_ble_eq_true rfl))); exact .nil; rfl; intro lab) | (apply ar_store; rfl; (focus ((repeat (first | exact Take.head | apply Take.tail | apply Take.right)); done)); rfl; rfl; exact (by first | rfl | assumption | exact get_map (by assumption)); rfl; rfl) | apply aw_seq | apply a_region | apply go_seq))
  refine aw_cv 6 (us := [(lab, .row 66 2 [encT e])]) rfl (by repeat (first | exact Takes.nil | (apply Takes.cons; focus (repeat (first | exact Take.head | apply Take.tail | apply Take.right))))) (Cv.ptr0 .head rfl) ?_
  repeat' ((fail_if_success (show AW _ (.region 2 _ _) _ _)); (first | (refine a_draw 8 rfl ?_) | (apply ar_ev; (apply ev_move; rfl); rfl) | (apply ar_ev; (first | exact ev_call rfl rfl hz | (apply ev_load_ptr_one; rfl; (focus ((repeat (first | exact Take.head | apply Take.tail | apply Take.right)); done)); exact (by first | rfl | assumption | exact get_map (by assumption)); rfl) | (apply ev_fieldAddr_ptr; rfl) | (apply ev_nilCheck_ptr; rfl) | (apply ev_load_ip_agg; rfl; exact Nat.le_of_ble_eq_true rfl) | (apply ev_sub; rfl; rfl; exact (by first | omega | assumption); exact (by first | omega | assumption))); rfl)))
  apply ar_call hshr; rfl; rfl; (focus ((repeat (first | exact Takes.nil | (apply Takes.cons; focus (repeat (first | exact Take.head | apply Take.tail | apply Take.right))))); done)); rfl; rintro _ _ ⟨⟨pre', rfl⟩, rfl⟩
  have hl2 := hsh (mx - szE e)
  generalize hL : shr (mx - szE e) l = L at *
  have ha : addN mx l e = if (szE e : Int) ≤ mx then L ++ [e] else L := by unfold addN; rw [hL]
  refine ar_sub (st' := ⟨[(0, .ptr lt 0 0), (6, .ip (encT e))], tabT lt lm pre' mx L⟩) (Sub.of (by repeat (first | exact .nil | refine .cons rfl Le.refl ?_)) (by repeat (first | exact Takes.nil | exact takes_blk | exact takes_all | (apply takes_app; focus (repeat (first | exact takes_blk | exact takes_all | apply takes_right | apply takes_skip))) | (apply takes_cons; focus (repeat (first | exact Take.head | apply Take.tail | apply Take.right))) | apply takes_right | apply takes_skip))) ?_
  repeat' (first | apply ar_nil | (apply ar_ev; (apply ev_move; rfl); rfl) | (apply ar_ev; (first | exact ev_call rfl rfl hz | (apply ev_load_ptr_one; rfl; (focus ((repeat (first | exact Take.head | apply Take.tail | apply Take.right)); done)); exact (by first | rfl | assumption | exact get_map (by assumption)); rfl) | (apply ev_fieldAddr_ptr; rfl) | (apply ev_nilCheck_ptr; rfl) | (apply ev_load_ip_agg; rfl; exact Nat.le_of_ble_eq_true rfl) | (apply ev_leq; rfl; rfl)); rfl) | apply aw_seq | apply go_seq | (first | (apply a_drawN 2; rfl; rfl) | (apply a_drawN 3; rfl; rfl) | (apply a_drawN 4; rfl; rfl) | (apply a_drawN 5; rfl; rfl) | (apply a_drawN 6; rfl; rfl) | (apply a_drawN 7; rfl; rfl) | (apply a_drawN 8; rfl; rfl) | (apply a_drawN 9; rfl; rfl) | (apply a_drawN 10; rfl; rfl) | (apply a_drawN 11; rfl; rfl) | (apply a_drawN 12; rfl; rfl) | (apply a_drawN 13; rfl; rfl) | (apply a_drawN 14; rfl; rfl) | (apply a_drawN 15; rfl; rfl) | (apply a_drawN 16; rfl; rfl) | (apply a_drawN 17; rfl; rfl) | (apply a_drawN 18; rfl; rfl) | (apply a_drawN 19; rfl; rfl) | (apply a_drawN 20; rfl; rfl) | (apply a_drawN 21; rfl; rfl) | (apply a_drawN 22; rfl; rfl) | (apply a_drawN 23; rfl; rfl) | (apply a_drawN 24; rfl; rfl) | (apply a_drawN 25; rfl; rfl) | (apply a_drawN 26; rfl; rfl) | (apply a_drawN 27; rfl; rfl) | (apply a_drawN 28; rfl; rfl) | (apply a_drawN 29; rfl; rfl) | (apply a_drawN 30; rfl; rfl) | (apply a_drawN 31; rfl; rfl) | (apply a_drawN 32; rfl; rfl) | (apply a_drawN 33; rfl; rfl) | (apply a_drawN 34; rfl; rfl) | (apply a_drawN 35; rfl; rfl) | (apply a_drawN 36; rfl; rfl) | (apply a_drawN 37; rfl; rfl) | (apply a_drawN 38; rfl; rfl) | (apply a_drawN 39; rfl; rfl) | (apply a_drawN 40; rfl; rfl) | (apply a_drawN 41; rfl; rfl) | (apply a_drawN 42; rfl; rfl) | (apply a_drawN 43; rfl; rfl) | (apply a_drawN 44; rfl; rfl) | (apply a_drawN 45; rfl; rfl)))
  refine aw_condp rfl (fun hk => ?_) (fun hk => ?_)
  · have hrow : List.take L.length (List.drop pre'.length (pre' ++ L.map encT)) ++ List.take 1 [encT e] = [] ++ (L ++ [e]).map encT := by
      rw [List.drop_left, List.take_of_length_le (by simp)]; simp
    have hsum : ((sumE L : Nat) : Int) + ((szE e : Nat) : Int) = ((sumE (L ++ [e]) : Nat) : Int) := by rw [sumE_append]; simp only [sumE]; omega
    have hlen : (L ++ [e]).length = L.length + 1 := by simp
    repeat' ((fail_if_success (show AW _ (.region 3 _ _) _ _)); (apply aw_seq))
    refine a_mix [true, true, true, true, false, true, true, false, true, true, false] [0, 1, 2, 3, 5, 6, 4, 7, 8, 9, 10] (by kernel_rfl) (by repeat (first | exact Als.nil | (apply Als.al; rfl) | (apply Als.other; rfl))) (Takes.cons (l := lt) (by repeat (first | exact Take.head | apply Take.tail | apply Take.right)) (Takes.cons (l := lm) (by repeat (first | exact Take.head | apply Take.tail | apply Take.right)) Takes.nil)) ?_
    repeat' (first | (refine tl_append rfl rfl rfl inferInstance inferInstance rfl (by repeat (first | exact Take.head | apply Take.tail | apply Take.right)) rfl (by first | omega | (simp; done)) (by omega) (by omega) rfl ?_; intro lab) | apply ar_nil | (apply ar_ev; (apply ev_move; rfl); rfl) | (apply ar_ev; (first | exact ev_call rfl rfl hz | (apply ev_load_ptr_one; rfl; (focus ((repeat (first | exact Take.head | apply Take.tail | apply Take.right)); done)); exact (by first | rfl | assumption | exact get_map (by assumption)); rfl) | (apply ev_fieldAddr_ptr; rfl) | (apply ev_nilCheck_ptr; rfl) | (apply ev_load_ip_agg; rfl; exact Nat.le_of_ble_eq_true rfl) | (apply ev_add; rfl; rfl; exact (by first | omega | assumption); exact (by first | omega | assumption))); rfl) | (apply ar_store1; rfl; (focus ((repeat (first | exact Take.head | apply Take.tail | apply Take.right)); done)); rfl; rfl; exact (by first | rfl | assumption | exact get_map (by assumption)); rfl) | apply go_seq | (first | (apply a_drawN 2; rfl; rfl) | (apply a_drawN 3; rfl; rfl) | (apply a_drawN 4; rfl; rfl) | (apply a_drawN 5; rfl; rfl) | (apply a_drawN 6; rfl; rfl) | (apply a_drawN 7; rfl; rfl) | (apply a_drawN 8; rfl; rfl) | (apply a_drawN 9; rfl; rfl) | (apply a_drawN 10; rfl; rfl) | (apply a_drawN 11; rfl; rfl) | (apply a_drawN 12; rfl; rfl) | (apply a_drawN 13; rfl; rfl) | (apply a_drawN 14; rfl; rfl) | (apply a_drawN 15; rfl; rfl) | (apply a_drawN 16; rfl; rfl) | (apply a_drawN 17; rfl; rfl) | (apply a_drawN 18; rfl; rfl) | (apply a_drawN 19; rfl; rfl) | (apply a_drawN 20; rfl; rfl) | (apply a_drawN 21; rfl; rfl) | (apply a_drawN 22; rfl; rfl) | (apply a_drawN 23; rfl; rfl) | (apply a_drawN 24; rfl; rfl) | (apply a_drawN 25; rfl; rfl) | (apply a_drawN 26; rfl; rfl) | (apply a_drawN 27; rfl; rfl) | (apply a_drawN 28; rfl; rfl) | (apply a_drawN 29; rfl; rfl) | (apply a_drawN 30; rfl; rfl) | (apply a_drawN 31; rfl; rfl) | (apply a_drawN 32; rfl; rfl) | (apply a_drawN 33; rfl; rfl) | (apply a_drawN 34; rfl; rfl) | (apply a_drawN 35; rfl; rfl) | (apply a_drawN 36; rfl; rfl) | (apply a_drawN 37; rfl; rfl) | (apply a_drawN 38; rfl; rfl) | (apply a_drawN 39; rfl; rfl) | (apply a_drawN 40; rfl; rfl) | (apply a_drawN 41; rfl; rfl) | (apply a_drawN 42; rfl; rfl) | (apply a_drawN 43; rfl; rfl) | (apply a_drawN 44; rfl; rfl) | (apply a_drawN 45; rfl; rfl)) | apply tl_nil | (apply tl_ev; rfl; rfl; (apply ev_move; rfl); rfl) | (apply tl_ev; rfl; rfl; (first | (apply ev_fieldAddr_ptr; rfl) | (apply ev_nilCheck_ptr; rfl) | (apply ev_load_ip_agg; rfl; exact Nat.le_of_ble_eq_true rfl) | (apply ev_buildSlice; rfl; rfl; rfl; rfl; rfl; rfl; rfl)); rfl) | (apply tl_store1; rfl; rfl; rfl; infer_instance; rfl; (focus ((repeat (first | exact Take.head | apply Take.tail | apply Take.right)); done)); rfl; rfl; exact (by first | rfl | assumption | exact get_map (by assumption)); rfl) | (apply tl_evw; rfl; rfl; rfl; (apply ev_load_ptr_one; rfl; (focus ((repeat (first | exact Take.head | apply Take.tail | apply Take.right)); done)); exact (by first | rfl | assumption | exact get_map (by assumption)); rfl); rfl))
    have hrow0 : [[vi mx, vi ((sumE L : Int) + (szE e : Int)), .own lab 0 (L.length + 1)]] = [[vi mx, vi (sumE (L ++ [e]) : Nat), .own lab ([] : List (List AV)).length (L ++ [e]).length]] := by rw [← hsum, hlen]; rfl
    exact g_end0 (us := tabT lt lab [] mx (L ++ [e])) (Takes.cons (Take.rowc hrow0 .head) (Takes.cons (Take.rowc hrow .head) .nil)) ⟨⟨lab, [], by rw [ha, if_pos hk]⟩, rfl⟩
  · repeat' (apply aw_skip)
    exact g_end0 (us := tabT lt lm pre' mx L) (by repeat (first | exact Takes.nil | (apply Takes.cons; focus (repeat (first | exact Take.head | apply Take.tail | apply Take.right))))) ⟨⟨lm, pre', by rw [ha, if_neg hk]⟩, rfl⟩
/-! What stays is not more. -/
theorem shr_le (m : Int) : ∀ l : List En, sumE (shr m l) ≤ sumE l ∧ (shr m l).length ≤ l.length
  | [] => ⟨Nat.le_refl _, Nat.le_refl _⟩
  | e :: r => by
    unfold shr
    split
    · have := shr_le m r
      simp only [sumE, List.length_cons]
      omega
    · exact ⟨Nat.le_refl _, Nat.le_refl _⟩
theorem shr_mem (m : Int) : ∀ (l : List En) (x : En), x ∈ shr m l → x ∈ l
  | [], _, h => h
  | e :: r, x, h => by
    unfold shr at h
    split at h
    · exact List.mem_cons_of_mem _ (shr_mem m r x h)
    · exact h
set_option maxHeartbeats 8000000 in
theorem Resize_ok (lt lm : Nat) (pre : List (List AV)) (mx n : Int) (l : List En) (hn : l.length ≤ 1099511627776) (hok : ∀ e, e ∈ l → OkE e) (hs : sumE l ≤ 65536) :
    FnC Try.prog 20 (tabT lt lm pre mx l) [.ptr lt 0 0, vi n] (fun ts r => ((n < 0 ∨ 65536 < n) ∧ ts = tabT lt lm pre mx l ∧ r = vi 1) ∨ (¬(n < 0 ∨ 65536 < n) ∧ (∃ pre', ts = tabT lt lm pre' n (shr n l)) ∧ r = vi 0)) := by
  refine fn_of Try.func20 rfl Try.ntmps20 Try.results20 rfl fun G => ?_
  have hb := bad_ok n
  have hshr := shrink_ok lt lm pre n n l hn hok hs
  repeat' (first | apply ar_nil | (apply ar_ev; (apply ev_move; rfl); rfl) | (apply ar_ev; (first | exact ev_call rfl rfl hb | (apply ev_assign; rfl)); rfl) | apply aw_seq | apply a_region | apply go_seq)
  refine aw_condp rfl (fun hc => ?_) (fun hc => ?_)
  · repeat' (first | apply ar_nil | (apply ar_ev; (apply ev_assign; rfl); rfl) | apply aw_seq | apply a_region | apply aw_ret | apply go_seq | apply go_seq_ret)
    exact g_ret1 (r_tmp rfl) (us := tabT lt lm pre mx l) (by repeat (first | exact Takes.nil | (apply Takes.cons; focus (repeat (first | exact Take.head | apply Take.tail | apply Take.right))))) (.inl ⟨hc, rfl, rfl⟩)
  · repeat' (first | apply ar_nil | (apply ar_ev; (apply ev_move; rfl); rfl) | (apply ar_ev; (first | (apply ev_fieldAddr_ptr; rfl) | (apply ev_nilCheck_ptr; rfl)); rfl) | (apply ar_store1; rfl; (focus ((repeat (first | exact Take.head | apply Take.tail | apply Take.right)); done)); rfl; rfl; exact (by first | rfl | assumption | exact get_map (by assumption)); rfl) | apply aw_seq | apply a_region | apply aw_skip | apply go_seq)
    apply ar_call hshr; rfl; rfl; (focus ((repeat (first | exact Takes.nil | (apply Takes.cons; focus (repeat (first | exact Take.head | apply Take.tail | apply Take.right))))); done)); rfl; rintro _ _ ⟨⟨pre', rfl⟩, rfl⟩
    repeat' (first | apply ar_nil | (apply ar_ev; (apply ev_assign; rfl); rfl) | apply aw_seq | apply a_region | apply aw_ret | apply go_seq)
    exact g_ret1 (r_tmp rfl) (us := tabT lt lm pre' n (shr n l)) (by repeat (first | exact Takes.nil | (apply Takes.cons; focus (repeat (first | exact Take.head | apply Take.tail | apply Take.right))))) (.inr ⟨hc, ⟨pre', rfl⟩, rfl⟩)
end Go.Proofs.Ytmenbolalghljaa
