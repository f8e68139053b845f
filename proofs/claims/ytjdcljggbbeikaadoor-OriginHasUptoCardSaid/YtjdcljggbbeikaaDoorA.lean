import Derived.Test.YtjdcljggbbeikaaDoorTy
set_option linter.unusedVariables false
set_option linter.unusedSimpArgs false
set_option maxRecDepth 100000
namespace Go.Proofs.YtjdcljggbbeikaaDoor
open Go.Proofs Go.Proofs.YtjdcljggbbeikaaDoorA

abbrev vi (n : Int) : AV := .val (.int .i64 n)
abbrev vb (b : Bool) : AV := .val (.bool b)
abbrev vs (s : ByteArray) : AV := .val (.string s)
abbrev v8 (c : UInt8) : AV := .val (.int .u8 c.toNat)
abbrev encS (s : ByteArray) : List AV := [vs s]
abbrev ssl (l : List ByteArray) : AV := .sl 1 (l.map encS) l.length
abbrev es : ByteArray := ⟨#[]⟩
def low (s : ByteArray) : ByteArray := BA ((bl s).map lowB)

theorem u8_at {l : List UInt8} {i : Nat} {c : UInt8} (h : l[i]? = some c) : (u8cells l)[i]? = some [v8 c] := by simp [u8cells, h]
theorem u8_set {l : List UInt8} {i : Nat} (c : UInt8) : (u8cells l).set i [v8 c] = u8cells (l.set i c) := by simp [u8cells, List.map_set]
theorem u8_len (l : List UInt8) : (u8cells l).length = l.length := by simp [u8cells]
theorem u8_append (l m : List UInt8) : u8cells (l ++ m) = u8cells l ++ u8cells m := by simp [u8cells]
def lowTo (l : List UInt8) (i : Nat) : List UInt8 := (l.take i).map lowB ++ l.drop i
theorem lowTo_at {l : List UInt8} {i : Nat} {c : UInt8} (h : l[i]? = some c) : (lowTo l i)[i]? = some c := by
  have hi := (List.getElem?_eq_some_iff.1 h).1
  unfold lowTo
  rw [List.getElem?_append_right (by simp; omega)]
  simp [List.getElem?_drop, Nat.min_eq_left (Nat.le_of_lt hi), h]
theorem lowTo_succ {l : List UInt8} {i : Nat} {c : UInt8} (h : l[i]? = some c) : (lowTo l i).set i (lowB c) = lowTo l (i + 1) := by
  have hi := (List.getElem?_eq_some_iff.1 h).1
  have hd : l.drop i = c :: l.drop (i + 1) := by rw [List.drop_eq_getElem_cons hi]; congr 1; have := (List.getElem?_eq_some_iff.1 h).2; exact this
  unfold lowTo
  rw [List.set_append_right _ _ (by simp; omega), hd, List.take_add_one, h]
  simp [Nat.min_eq_left (Nat.le_of_lt hi)]
theorem lowTo_same {l : List UInt8} {i : Nat} {c : UInt8} (h : l[i]? = some c) (hc : lowB c = c) : lowTo l i = lowTo l (i + 1) := by
  rw [← lowTo_succ h, hc]
  obtain ⟨hi, he⟩ := List.getElem?_eq_some_iff.1 (lowTo_at h)
  rw [← he, List.set_getElem_self]
theorem lowTo_len (l : List UInt8) (i : Nat) : (lowTo l i).length = l.length := by simp [lowTo]; omega
theorem lowTo_all (l : List UInt8) : lowTo l l.length = l.map lowB := by simp [lowTo]
theorem wrap8 (n : Int) : IntKind.u8.wrap n = n % 256 := by simp [IntKind.wrap, IntKind.signed, IntKind.bits]
theorem up_wrap (c : UInt8) (h : 65 ≤ c.toNat ∧ c.toNat ≤ 90) : IntKind.u8.wrap (IntKind.u8.wrap ((c.toNat : Int) - 65) + 97) = ((lowB c).toNat : Int) := by
  rw [lowB, if_pos h, low_toNat c h, wrap8, wrap8]
  omega
set_option maxHeartbeats 2000000 in
theorem lower_ok (s : ByteArray) (hn : s.size ≤ 1099511627776) : PFn Tryd.prog 24 [vs s] (vs (low s)) := by
  refine fn_of Tryd.func24 rfl Tryd.ntmps24 Tryd.results24 rfl fun G => ?_
  repeat' (first | apply ar_nil | (apply ar_ev; (apply ev_move; rfl); rfl) | (apply ar_ev; (first | (apply ev_assign; rfl) | (apply ev_len_own; rfl)); rfl) | (apply ar_new; (first | apply eff_alloc | (apply eff_box; rfl; exact lies_of rfl) | (apply eff_conv_bytes; rfl; exact (by first | omega | assumption | (simp; done) | (simp; omega) | exact Nat.le_of_ble_eq_true rfl))); exact .nil; rfl; intro lab) | apply aw_seq | apply a_region | apply aw_block | apply go_seq)
  have hl := bl_length s
  have h0 : u8cells s.data.toList = u8cells (lowTo (bl s) 0) := rfl
  refine a_loop (fun i : Nat => ⟨[(3, .own lab 0 s.size), (8, .own lab 0 s.size), (9, vi s.size), (10, vi i)], [(lab, .row 5 1 (u8cells (lowTo (bl s) i)))]⟩) (fun i => i ≤ s.size) (fun i => s.size - i) 0 (Sub.of (by repeat (first | exact .nil | refine .cons rfl Le.refl ?_)) (by repeat (first | exact Takes.nil | (apply Takes.cons; focus (repeat (first | exact Take.head | exact Take.rowc h0 Take.head | apply Take.tail | apply Take.right)))))) (Nat.zero_le _) ?_
  rintro i hi
  repeat' (first | apply ar_nil | (apply ar_ev; (apply ev_lss; rfl; rfl); rfl) | apply aw_seq | apply a_region | apply go_seq)
  refine aw_condp rfl (fun hk => ?_) (fun hk => ?_)
  · obtain ⟨c, hce⟩ : ∃ c, (bl s)[i]? = some c := ⟨_, List.getElem?_eq_getElem (by omega)⟩
    have hat := u8_at (lowTo_at hce)
    repeat' (first | apply ar_nil | (apply ar_splitp; (apply ev_move; rfl); rfl; all_goals (intro hc; try (exfalso; first | omega | contradiction | (simp at hc; omega) | (simp_all; done)))) | (apply ar_ev; (apply ev_move; rfl); rfl) | (apply ar_ev; (first | (apply ev_load_ptr_one; rfl; (focus ((repeat (first | exact Take.head | apply Take.tail | apply Take.right)); done)); exact (by first | rfl | assumption | exact get_map (by assumption)); rfl) | (apply ev_assign; rfl) | (apply ev_pick_t; rfl; rfl) | (apply ev_pick_f; rfl; rfl) | (apply ev_geq; rfl; rfl) | (apply ev_inc; rfl; exact (by first | omega | assumption)) | (apply ev_indexAddr_own0; rfl; rfl; exact (by first | omega | assumption); (focus ((repeat (first | exact Take.head | apply Take.tail | apply Take.right)); done))) | (apply ev_addw; rfl; rfl) | (apply ev_subw; rfl; rfl)); rfl) | (apply ar_store1; rfl; (focus ((repeat (first | exact Take.head | apply Take.tail | apply Take.right)); done)); rfl; rfl; exact (by first | rfl | assumption | exact get_map (by assumption)); rfl) | (apply ar_skip; rfl; rfl; rfl; rfl; rfl) | (apply ar_take; rfl; rfl; rfl; (apply ev_move; rfl); rfl) | (apply ar_take; rfl; rfl; rfl; (apply ev_leq; rfl; rfl); rfl) | apply aw_seq | apply a_region | apply aw_block | apply aw_skip | (apply aw_condp; rfl; all_goals (intro hc; try (exfalso; first | omega | contradiction | (simp at hc; omega) | (simp_all; done)))) | (apply aw_cond_f; rfl) | apply go_seq | apply go_block)
    · rename_i h1
      have hu := up_wrap c ⟨by omega, by omega⟩
      have hrow : (u8cells (lowTo (bl s) i)).set i [.val (.int .u8 (IntKind.u8.wrap (IntKind.u8.wrap ((c.toNat : Int) - 65) + 97)))] = u8cells (lowTo (bl s) (i + 1)) := by
        rw [hu, u8_set, lowTo_succ hce]
      exact go_loop_back ⟨i + 1, by omega, by omega, Sub.of (by repeat (first | exact .nil | refine .cons rfl Le.refl ?_)) (by repeat (first | exact Takes.nil | (apply Takes.cons; focus (repeat (first | exact Take.head | exact Take.rowc hrow Take.head | apply Take.tail | apply Take.right)))))⟩
    all_goals
      have hs : lowB c = c := by unfold lowB; rw [if_neg (by omega)]
      rw [lowTo_same hce hs]
      exact go_loop_back ⟨i + 1, by omega, by omega, Sub.of (by repeat (first | exact .nil | refine .cons rfl Le.refl ?_)) (by repeat (first | exact Takes.nil | (apply Takes.cons; focus (repeat (first | exact Take.head | apply Take.tail | apply Take.right)))))⟩
  · obtain rfl : i = s.size := by omega
    have e : u8cells (lowTo (bl s) s.size) = u8cells ((bl s).map lowB) := by rw [← hl, lowTo_all]
    have hlm : ((bl s).map lowB).length = s.size := by rw [List.length_map, hl]
    rw [e, ← hlm]
    repeat' (first | apply ar_nil | (apply ar_ev; (apply ev_move; rfl); rfl) | (apply ar_ev; (first | (apply ev_assign; rfl) | (apply ev_conv_own; rfl; (focus ((repeat (first | exact Take.head | apply Take.tail | apply Take.right)); done)))); rfl) | apply aw_seq | apply a_region | apply aw_exit | apply aw_ret | apply go_seq | apply go_seq_exit | apply go_block_exit | apply go_loop_exit)
    exact g_ret1 (r_tmp rfl) .nil rfl

/-! Schemes, labels, hosts. -/
abbrev sHttp : ByteArray := ⟨#[104, 116, 116, 112]⟩
abbrev sHttps : ByteArray := ⟨#[104, 116, 116, 112, 115]⟩
def usualN (s : ByteArray) : Int := if s = sHttp then 80 else if s = sHttps then 443 else 0
theorem usual_ok (s : ByteArray) : PFn Tryd.prog 28 [vs s] (vi (usualN s)) := by
  refine fn_of Tryd.func28 rfl Tryd.ntmps28 Tryd.results28 rfl fun G => ?_
  repeat' (first | apply ar_nil | (apply ar_ev; (apply ev_move; rfl); rfl) | (apply ar_ev; (first | (apply ev_assign; rfl) | (apply ev_eqsp; rfl; rfl)); rfl) | apply aw_seq | apply a_region | apply aw_block | apply aw_skip | apply aw_ret | (apply aw_condp; rfl; all_goals (intro hc; try (exfalso; first | omega | contradiction | (simp at hc; omega) | (simp_all; done)))) | apply go_seq | apply go_seq_ret | apply go_block | apply go_block_ret)
  · exact g_ret1 (r_tmp rfl) .nil (by unfold usualN; rw [if_pos hc])
  · rename_i h1
    exact g_ret1 (r_tmp rfl) .nil (by unfold usualN; rw [if_neg h1, if_pos hc])
  · rename_i h1
    exact g_ret1 (r_tmp rfl) .nil (by unfold usualN; rw [if_neg h1, if_neg hc])
theorem rusual_ok (s : ByteArray) : PFn Tryd.prog 31 [vs s] (vi (usualN s)) := by
  refine fn_of Tryd.func31 rfl Tryd.ntmps31 Tryd.results31 rfl fun G => ?_
  repeat' (first | apply ar_nil | (apply ar_ev; (apply ev_move; rfl); rfl) | (apply ar_ev; (first | (apply ev_assign; rfl) | (apply ev_eqsp; rfl; rfl)); rfl) | apply aw_seq | apply a_region | apply aw_block | apply aw_skip | apply aw_ret | (apply aw_condp; rfl; all_goals (intro hc; try (exfalso; first | omega | contradiction | (simp at hc; omega) | (simp_all; done)))) | apply go_seq | apply go_seq_ret | apply go_block | apply go_block_ret)
  · exact g_ret1 (r_tmp rfl) .nil (by unfold usualN; rw [if_pos hc])
  · rename_i h1
    exact g_ret1 (r_tmp rfl) .nil (by unfold usualN; rw [if_neg h1, if_pos hc])
  · rename_i h1
    exact g_ret1 (r_tmp rfl) .nil (by unfold usualN; rw [if_neg h1, if_neg hc])
def chN (n : Nat) : Bool := decide (97 ≤ n ∧ n ≤ 122) || decide (48 ≤ n ∧ n ≤ 57) || decide (n = 45)
def chB (c : UInt8) : Bool := chN c.toNat
def labB (l : List UInt8) : Bool := decide (l ≠ [] ∧ l.length ≤ 63 ∧ l.head? ≠ some 45 ∧ l.getLast? ≠ some 45) && l.all chB
theorem bl_get {s : ByteArray} {p : Nat} (h : p < s.size) : (bl s)[p]? = some (s[p]'h) := by
  simp only [bl, Array.getElem?_toList]
  exact Array.getElem?_eq_getElem h
theorem u8_45 (c : UInt8) : (c.toNat : Int) = 45 ↔ c = 45 := by
  constructor
  · intro h
    apply UInt8.toNat_inj.1
    have : (45 : UInt8).toNat = 45 := rfl
    omega
  · rintro rfl; rfl
set_option maxHeartbeats 4000000 in
theorem label_ok (s : ByteArray) (hn : s.size ≤ 1099511627776) : PFn Tryd.prog 45 [vs s] (vb (labB (bl s))) := by
  refine fn_of Tryd.func45 rfl Tryd.ntmps45 Tryd.results45 rfl fun G => ?_
  have hl := bl_length s
  by_cases h0 : s = es
  · subst h0
    repeat' (first | apply ar_nil | (apply ar_ev; (apply ev_move (y := .val (.bool true)); rfl); rfl) | (apply ar_ev; (apply ev_move; rfl); rfl) | (apply ar_ev; (first | (apply ev_assign; rfl) | (apply ev_pick_t; rfl; rfl) | (apply ev_eqsp; rfl; rfl)); rfl) | (apply ar_skip; rfl; rfl; rfl; rfl; rfl) | apply aw_seq | apply a_region | apply aw_ret | (apply aw_cond_t; rfl) | apply go_seq | apply go_seq_ret)
    exact g_ret1 (r_tmp rfl) .nil rfl
  have hz : 0 < s.size := by
    rcases Nat.eq_zero_or_pos s.size with h | h
    · exfalso; apply h0
      have hnil : bl s = [] := List.eq_nil_of_length_eq_zero (by rw [hl]; exact h)
      rw [← BA_bl s, hnil]; rfl
    · exact h
  have hne : bl s ≠ [] := fun e => by rw [e] at hl; simp at hl; omega
  obtain ⟨c0, hc0⟩ : ∃ c, (bl s)[0]? = some c := ⟨_, List.getElem?_eq_getElem (by omega)⟩
  obtain ⟨cl, hcl⟩ : ∃ c, (bl s)[s.size - 1]? = some c := ⟨_, List.getElem?_eq_getElem (by omega)⟩
  have hhead : (bl s).head? = some c0 := by rw [List.head?_eq_getElem?]; exact hc0
  have hlast : (bl s).getLast? = some cl := by rw [List.getLast?_eq_getElem?, hl]; exact hcl
  have e1 : (s.size : Int) - 1 = ((s.size - 1 : Nat) : Int) := by omega
  have hlab : labB (bl s) = (decide (s.size ≤ 63 ∧ (c0.toNat : Int) ≠ 45 ∧ (cl.toNat : Int) ≠ 45) && (bl s).all chB) := by
    unfold labB
    rw [hhead, hlast, hl]
    simp [hne, u8_45]
  rw [hlab]
  by_cases hg : s.size ≤ 63 ∧ (c0.toNat : Int) ≠ 45 ∧ (cl.toNat : Int) ≠ 45
  · obtain ⟨g1, g2, g3⟩ := hg
    rw [decide_eq_true ⟨g1, g2, g3⟩, Bool.true_and]
    repeat' ((fail_if_success (show AW _ (.region 3 _ _) _ _)); (first | (rw [e1]) | apply ar_nil | (apply ar_splitp; (apply ev_move; rfl); rfl; all_goals (intro hc; try (exfalso; first | omega | contradiction | (simp at hc; omega) | (simp_all; done)))) | (apply ar_ev; (apply ev_move; rfl); rfl) | (apply ar_ev; (first | (apply ev_assign; rfl) | (apply ev_pick_f; rfl; rfl) | (apply ev_eqsp; rfl; rfl)); rfl) | (apply ar_take; rfl; rfl; rfl; (apply ev_move; rfl); rfl) | (apply ar_take; rfl; rfl; rfl; (first | (apply ev_eqip; rfl; rfl) | (apply ev_gtr; rfl; rfl) | (apply ev_sub; rfl; rfl; exact (by first | omega | assumption); exact (by first | omega | assumption)) | (apply ev_len_str; rfl) | (apply ev_index_bl; rfl; rfl; assumption)); rfl) | apply aw_seq | apply a_region | apply aw_skip | (apply aw_condp; rfl; all_goals (intro hc; try (exfalso; first | omega | contradiction | (simp at hc; omega) | (simp_all; done)))) | apply go_seq))
    clear hlab hhead hlast hcl hc0
    repeat' (first | (apply ar_eff (eff_range_str rfl) .nil rfl; rintro _ _ ⟨li, rfl, rfl⟩) | apply ar_nil | (apply ar_ev; (apply ev_move; rfl); rfl) | apply a_region | apply aw_block | apply go_seq)
    refine a_loop (fun p : Nat => ⟨[(26, .ptr li 0 0)], [(li, .obj (.stringIter s p))]⟩) (fun p => p ≤ s.size ∧ ∀ c, c ∈ (bl s).take p → chB c = true) (fun p => s.size - p) 0 (Sub.of (by repeat (first | exact .nil | refine .cons rfl Le.refl ?_)) (by repeat (first | exact Takes.nil | (apply Takes.cons; focus (repeat (first | exact Take.head | apply Take.tail | apply Take.right)))))) ⟨Nat.zero_le _, fun c hc => by simp at hc⟩ ?_
    rintro p ⟨hp, hall⟩
    by_cases hlt : p < s.size
    · have hce := bl_get hlt
      have hnx : ∀ c, chB c = true → s[p]'hlt = c → ∀ x, x ∈ (bl s).take (p + 1) → chB x = true := fun c h1 h2 x hx => by
        rw [List.take_add_one, hce] at hx
        rcases List.mem_append.1 hx with hx | hx
        · exact hall x hx
        · rw [List.mem_singleton.1 hx, h2]; exact h1
      have hmem : s[p]'hlt ∈ bl s := List.mem_of_getElem? hce
      have hbad : chB (s[p]'hlt) = false → (bl s).all chB = false := fun h => by
        rw [List.all_eq_false]
        exact ⟨_, hmem, by rw [h]; decide⟩
      have hlo := fun h => dec_low hlt h
      have hhi := fun h => dec_high hlt h
      generalize s[p]'hlt = c at *
      have hw := c.toNat_lt
      rcases Nat.lt_or_ge c.toNat 128 with h128 | h128
      · have hd := hlo h128
        have hch : chB c = (decide (97 ≤ c.toNat ∧ c.toNat ≤ 122) || decide (48 ≤ c.toNat ∧ c.toNat ≤ 57) || decide (c.toNat = 45)) := rfl
        repeat' ((fail_if_success (show AW _ (.region 6 _ _) _ _)); (first | (apply ar_eff (eff_next_more rfl hlt) (by repeat (first | exact Takes.nil | (apply Takes.cons; focus (repeat (first | exact Take.head | apply Take.tail | apply Take.right))))) rfl; rintro _ _ ⟨rfl, rfl⟩) | apply ar_nil | (apply ar_ev; (first | (apply ev_assign; rfl) | (apply ev_extract; rfl; rfl)); rfl) | apply aw_seq | apply a_region | apply aw_block | apply aw_skip | (apply aw_cond_t; rfl) | apply go_seq))
        refine AW.sub (st' := ⟨[(4, .val (.int .i32 (c.toNat : Nat))), (26, .ptr li 0 0)], [(li, .obj (.stringIter s (p + 1)))]⟩) (by rw [hd]; exact Sub.of (by repeat (first | exact .nil | refine .cons rfl Le.refl ?_)) (by repeat (first | exact Takes.nil | (apply Takes.cons; focus (repeat (first | exact Take.head | apply Take.tail | apply Take.right)))))) ?_
        cases hcc : chB c with
        | true =>
          rw [hcc] at hch
          have hch := hch.symm
          simp only [Bool.or_eq_true, decide_eq_true_eq] at hch
          clear hbad hhi hlo
          repeat' (first | apply ar_nil | (apply ar_splitp; (apply ev_move; rfl); rfl; all_goals (intro hc; try (exfalso; first | omega | contradiction | (simp at hc; omega) | (simp_all; done)))) | (apply ar_ev; (apply ev_move (y := .val (.bool true)); rfl); rfl) | (apply ar_ev; (apply ev_move (y := .val (.bool false)); rfl); rfl) | (apply ar_ev; (apply ev_move; rfl); rfl) | (apply ar_ev; (first | (apply ev_pick_t; rfl; rfl) | (apply ev_pick_f; rfl; rfl) | (apply ev_lss; rfl; rfl)); rfl) | (apply ar_skip; rfl; rfl; rfl; rfl; rfl) | (apply ar_tsplitp; rfl; rfl; rfl; (apply ev_move; rfl); rfl; all_goals (intro hc; try (exfalso; first | omega | contradiction | (simp at hc; omega) | (simp_all; done)))) | (apply ar_take; rfl; rfl; rfl; (apply ev_move; rfl); rfl) | (apply ar_take; rfl; rfl; rfl; (first | (apply ev_pick_t; rfl; rfl) | (apply ev_pick_f; rfl; rfl) | (apply ev_neip; rfl; rfl) | (apply ev_lss; rfl; rfl) | (apply ev_gtr; rfl; rfl)); rfl) | apply a_region | apply aw_skip | (apply aw_condp; rfl; all_goals (intro hc; try (exfalso; first | omega | contradiction | (simp at hc; omega) | (simp_all; done)))) | (apply aw_cond_f; rfl) | apply go_seq | apply go_block)
          all_goals exact go_loop_back ⟨p + 1, ⟨by omega, hnx c hcc rfl⟩, by omega, Sub.of (by repeat (first | exact .nil | refine .cons rfl Le.refl ?_)) (by repeat (first | exact Takes.nil | (apply Takes.cons; focus (repeat (first | exact Take.head | apply Take.tail | apply Take.right)))))⟩
        | false =>
          rw [hcc] at hch
          have hch := hch.symm
          simp only [Bool.or_eq_false_iff, decide_eq_false_iff_not] at hch
          rw [hbad hcc]
          clear hbad hhi hlo
          repeat' (first | apply ar_nil | (apply ar_splitp; (apply ev_move; rfl); rfl; all_goals (intro hc; try (exfalso; first | omega | contradiction | (simp at hc; omega) | (simp_all; done)))) | (apply ar_ev; (apply ev_move (y := .val (.bool true)); rfl); rfl) | (apply ar_ev; (apply ev_move; rfl); rfl) | (apply ar_ev; (first | (apply ev_assign; rfl) | (apply ev_pick_t; rfl; rfl) | (apply ev_pick_f; rfl; rfl) | (apply ev_lss; rfl; rfl)); rfl) | (apply ar_skip; rfl; rfl; rfl; rfl; rfl) | (apply ar_tsplitp; rfl; rfl; rfl; (apply ev_move; rfl); rfl; all_goals (intro hc; try (exfalso; first | omega | contradiction | (simp at hc; omega) | (simp_all; done)))) | (apply ar_take; rfl; rfl; rfl; (apply ev_move; rfl); rfl) | (apply ar_take; rfl; rfl; rfl; (first | (apply ev_pick_t; rfl; rfl) | (apply ev_pick_f; rfl; rfl) | (apply ev_neip; rfl; rfl) | (apply ev_lss; rfl; rfl) | (apply ev_gtr; rfl; rfl)); rfl) | apply aw_seq | apply a_region | apply aw_ret | (apply aw_condp; rfl; all_goals (intro hc; try (exfalso; first | omega | contradiction | (simp at hc; omega) | (simp_all; done)))) | apply go_seq | apply go_seq_ret | apply go_block_ret | apply go_loop_ret)
          all_goals exact g_ret1 (r_tmp rfl) .nil rfl
      · have hge := hhi h128
        have hch : chB c = false := by unfold chB chN; simp; omega
        rw [hbad hch]
        repeat' ((fail_if_success (show AW _ (.region 6 _ _) _ _)); (first | (apply ar_eff (eff_next_more rfl hlt) (by repeat (first | exact Takes.nil | (apply Takes.cons; focus (repeat (first | exact Take.head | apply Take.tail | apply Take.right))))) rfl; rintro _ _ ⟨rfl, rfl⟩) | apply ar_nil | (apply ar_ev; (first | (apply ev_assign; rfl) | (apply ev_extract; rfl; rfl)); rfl) | apply aw_seq | apply a_region | apply aw_block | apply aw_skip | (apply aw_cond_t; rfl) | apply go_seq))
        clear hbad hhi hlo
        generalize (Utf8.decode s p).1 = d at *
        generalize (Utf8.decode s p).2 = d2 at *
        refine AW.sub (st' := ⟨[(4, .val (.int .i32 (d : Nat)))], []⟩) (Sub.of (by repeat (first | exact .nil | refine .cons rfl Le.refl ?_)) (by repeat (first | exact Takes.nil | (apply Takes.cons; focus (repeat (first | exact Take.head | apply Take.tail | apply Take.right)))))) ?_
        repeat' (first | apply ar_nil | (apply ar_splitp; (apply ev_move; rfl); rfl; all_goals (intro hc; try (exfalso; first | omega | contradiction | (simp at hc; omega) | (simp_all; done)))) | (apply ar_ev; (apply ev_move; rfl); rfl) | (apply ar_ev; (first | (apply ev_assign; rfl) | (apply ev_pick_t; rfl; rfl) | (apply ev_pick_f; rfl; rfl) | (apply ev_lss; rfl; rfl)); rfl) | (apply ar_tsplitp; rfl; rfl; rfl; (apply ev_move; rfl); rfl; all_goals (intro hc; try (exfalso; first | omega | contradiction | (simp at hc; omega) | (simp_all; done)))) | (apply ar_take; rfl; rfl; rfl; (apply ev_move; rfl); rfl) | (apply ar_take; rfl; rfl; rfl; (first | (apply ev_pick_f; rfl; rfl) | (apply ev_neip; rfl; rfl) | (apply ev_lss; rfl; rfl) | (apply ev_gtr; rfl; rfl)); rfl) | apply aw_seq | apply a_region | apply aw_ret | (apply aw_condp; rfl; all_goals (intro hc; try (exfalso; first | omega | contradiction | (simp at hc; omega) | (simp_all; done)))) | apply go_seq | apply go_seq_ret | apply go_block_ret | apply go_loop_ret)
        exact g_ret1 (r_tmp rfl) .nil rfl
    · obtain rfl : p = s.size := by omega
      have ha : (bl s).all chB = true := by
        rw [List.all_eq_true]
        intro c hc
        exact hall c (by rwa [List.take_of_length_le (by omega)])
      rw [ha]
      repeat' (first | (apply ar_eff (eff_next_end rfl hlt) (by repeat (first | exact Takes.nil | (apply Takes.cons; focus (repeat (first | exact Take.head | apply Take.tail | apply Take.right))))) rfl; rintro _ _ ⟨rfl, rfl⟩) | apply ar_nil | (apply ar_ev; (first | (apply ev_assign; rfl) | (apply ev_extract; rfl; rfl)); rfl) | apply aw_seq | apply a_region | apply aw_exit | apply aw_ret | (apply aw_cond_f; rfl) | apply go_seq | apply go_seq_exit | apply go_block_exit | apply go_loop_exit)
      exact g_ret1 (r_tmp rfl) .nil rfl
  · rw [decide_eq_false hg, Bool.false_and]
    repeat' (first | (rw [e1]) | apply ar_nil | (apply ar_splitp; (apply ev_move; rfl); rfl; all_goals (intro hc; try (exfalso; first | omega | contradiction | (simp at hc; omega) | (simp_all; done)))) | (apply ar_ev; (apply ev_move (y := .val (.bool true)); rfl); rfl) | (apply ar_ev; (apply ev_move; rfl); rfl) | (apply ar_ev; (first | (apply ev_assign; rfl) | (apply ev_pick_t; rfl; rfl) | (apply ev_pick_f; rfl; rfl) | (apply ev_eqsp; rfl; rfl)); rfl) | (apply ar_skip; rfl; rfl; rfl; rfl; rfl) | (apply ar_take; rfl; rfl; rfl; (apply ev_move; rfl); rfl) | (apply ar_take; rfl; rfl; rfl; (first | (apply ev_eqip; rfl; rfl) | (apply ev_gtr; rfl; rfl) | (apply ev_sub; rfl; rfl; exact (by first | omega | assumption); exact (by first | omega | assumption)) | (apply ev_len_str; rfl) | (apply ev_index_bl; rfl; rfl; assumption)); rfl) | apply aw_seq | apply a_region | apply aw_ret | (apply aw_condp; rfl; all_goals (intro hc; try (exfalso; first | omega | contradiction | (simp at hc; omega) | (simp_all; done)))) | (apply aw_cond_t; rfl) | apply go_seq | apply go_seq_ret)
    all_goals exact g_ret1 (r_tmp rfl) .nil rfl
end Go.Proofs.YtjdcljggbbeikaaDoor
