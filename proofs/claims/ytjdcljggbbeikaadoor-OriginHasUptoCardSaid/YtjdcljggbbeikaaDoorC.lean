import Derived.Test.YtjdcljggbbeikaaDoorB
set_option linter.unusedVariables false
set_option linter.unusedSimpArgs false
set_option maxRecDepth 100000
namespace Go.Proofs.YtjdcljggbbeikaaDoor
open Go.Proofs Go.Proofs.YtjdcljggbbeikaaDoorA

def hostB (l : List UInt8) : Bool := decide (l.length ≤ 253) && (pieces 46 l).all labB
set_option maxHeartbeats 2000000 in
theorem host_ok (s : ByteArray) (hn : s.size ≤ 1048576) : PFn Tryd.prog 39 [vs s] (vb (hostB (bl s))) := by
  refine fn_of Tryd.func39 rfl Tryd.ntmps39 Tryd.results39 rfl fun G => ?_
  have hl := bl_length s
  by_cases hg : s.size ≤ 253
  · have hb : hostB (bl s) = (pieces 46 (bl s)).all labB := by unfold hostB; rw [hl, decide_eq_true hg, Bool.true_and]
    rw [hb]
    have hsp := split_ok s 46 (by omega)
    have hlen : ∀ p, p ∈ pieces 46 (bl s) → p.length ≤ 253 := fun p hp => by
      have : ∀ l : List UInt8, ∀ p, p ∈ pieces 46 l → p.length ≤ l.length := by
        intro l
        induction l with
        | nil => intro p hp; simp [pieces] at hp; subst hp; exact Nat.le_refl _
        | cons c r ih =>
          intro p hp
          unfold pieces at hp
          split at hp
          · rcases List.mem_cons.1 hp with rfl | hp
            · simp
            · have := ih p hp; simp; omega
          · split at hp
            · rename_i h t e
              rcases List.mem_cons.1 hp with rfl | hp
              · have := ih h (by rw [e]; exact List.mem_cons_self); simp; omega
              · have := ih p (by rw [e]; exact List.mem_cons_of_mem _ hp); simp; omega
            · simp at hp; subst hp; simp
      have := this (bl s) p hp
      omega
    have hcnt : (pcs 46 (bl s)).length ≤ 1048576 := by
      have : ∀ l : List UInt8, (pieces 46 l).length ≤ l.length + 1 := by
        intro l
        induction l with
        | nil => simp [pieces]
        | cons c r ih =>
          unfold pieces
          split
          · simp; omega
          · split
            · rename_i h t e
              rw [e] at ih
              simp at ih ⊢; omega
            · simp
      have := this (bl s)
      simp only [pcs, List.length_map]
      omega
    have hpl : (pcs 46 (bl s)).length = (pieces 46 (bl s)).length := by simp [pcs]
    have hpg : ∀ i p, (pieces 46 (bl s))[i]? = some p → ((pcs 46 (bl s)).map encS)[i]? = some [vs (BA p)] := fun i p h => by rw [pcs, List.map_map, List.getElem?_map, h]; rfl
    repeat' (first | apply ar_nil | (apply ar_ev; (apply ev_move; rfl); rfl) | (apply ar_ev; (first | exact ev_call rfl rfl hsp | (apply ev_assign; rfl) | (apply ev_gtr; rfl; rfl) | (apply ev_len_sl; rfl) | (apply ev_len_str; rfl)); rfl) | apply aw_seq | apply a_region | apply aw_block | apply aw_skip | (apply aw_condp; rfl; all_goals (intro hc; try (exfalso; first | omega | contradiction | (simp at hc; omega) | (simp_all; done)))) | apply go_seq)
    generalize pcs 46 (bl s) = L at *
    generalize pieces 46 (bl s) = M at *
    refine a_loop (fun i : Nat => ⟨[(9, ssl L), (10, vi L.length), (11, vi i)], []⟩) (fun i => i ≤ M.length ∧ (M.take i).all labB = true) (fun i => M.length - i) 0 (Sub.of (by repeat (first | exact .nil | refine .cons rfl Le.refl ?_)) (by repeat (first | exact Takes.nil | (apply Takes.cons; focus (repeat (first | exact Take.head | apply Take.tail | apply Take.right)))))) ⟨Nat.zero_le _, by simp⟩ ?_
    rintro i ⟨hi, hall⟩
    repeat' (first | apply ar_nil | (apply ar_ev; (apply ev_lss; rfl; rfl); rfl) | apply aw_seq | apply a_region | apply go_seq)
    refine aw_condp rfl (fun hk => ?_) (fun hk => ?_)
    · obtain ⟨p, hp⟩ : ∃ p, M[i]? = some p := ⟨_, List.getElem?_eq_getElem (by omega)⟩
      have hp2 := hpg i p hp
      have hlab := label_ok (BA p) (by rw [BA_size]; have := hlen p (List.mem_of_getElem? hp); omega)
      rw [bl_BA] at hlab
      cases hb2 : labB p with
      | true =>
        rw [hb2] at hlab
        repeat' (first | apply ar_nil | (apply ar_ev; (apply ev_move; rfl); rfl) | (apply ar_ev; (first | exact ev_call rfl rfl hlab | (apply ev_load_ip_one; rfl; rfl) | (apply ev_assign; rfl) | (apply ev_inc; rfl; exact (by first | omega | assumption)) | (apply ev_not; rfl) | (apply ev_indexAddr_sl; rfl; rfl; exact (by first | omega | assumption); exact (by first | rfl | assumption | exact get_map (by assumption)))); rfl) | apply aw_seq | apply a_region | apply aw_block | apply aw_skip | (apply aw_cond_f; rfl) | apply go_seq | apply go_block)
        exact go_loop_back ⟨i + 1, ⟨by omega, by rw [List.take_add_one, hp, List.all_append, hall]; simp [hb2]⟩, by omega, Sub.of (by repeat (first | exact .nil | refine .cons rfl Le.refl ?_)) (by repeat (first | exact Takes.nil | (apply Takes.cons; focus (repeat (first | exact Take.head | apply Take.tail | apply Take.right)))))⟩
      | false =>
        rw [hb2] at hlab
        repeat' (first | apply ar_nil | (apply ar_ev; (apply ev_move; rfl); rfl) | (apply ar_ev; (first | exact ev_call rfl rfl hlab | (apply ev_load_ip_one; rfl; rfl) | (apply ev_assign; rfl) | (apply ev_not; rfl) | (apply ev_indexAddr_sl; rfl; rfl; exact (by first | omega | assumption); exact (by first | rfl | assumption | exact get_map (by assumption)))); rfl) | apply aw_seq | apply a_region | apply aw_block | apply aw_skip | apply aw_ret | (apply aw_cond_t; rfl) | apply go_seq | apply go_seq_ret | apply go_block_ret | apply go_loop_ret)
        exact g_ret1 (r_tmp rfl) .nil (by rw [show M.all labB = false from List.all_eq_false.2 ⟨p, List.mem_of_getElem? hp, by rw [hb2]; decide⟩])
    · obtain rfl : i = M.length := by omega
      rw [List.take_length] at hall
      rw [hall]
      repeat' (first | apply ar_nil | (apply ar_ev; (apply ev_assign; rfl); rfl) | apply aw_seq | apply a_region | apply aw_exit | apply aw_ret | apply go_seq | apply go_seq_exit | apply go_block_exit | apply go_loop_exit)
      exact g_ret1 (r_tmp rfl) .nil rfl
  · have hb : hostB (bl s) = false := by unfold hostB; rw [hl, decide_eq_false hg, Bool.false_and]
    rw [hb]
    repeat' (first | apply ar_nil | (apply ar_ev; (apply ev_move; rfl); rfl) | (apply ar_ev; (first | (apply ev_assign; rfl) | (apply ev_gtr; rfl; rfl) | (apply ev_len_str; rfl)); rfl) | apply aw_seq | apply a_region | apply aw_ret | (apply aw_condp; rfl; all_goals (intro hc; try (exfalso; first | omega | contradiction | (simp at hc; omega) | (simp_all; done)))) | apply go_seq | apply go_seq_ret)
    exact g_ret1 (r_tmp rfl) .nil rfl
theorem pieces_pre {cur : List UInt8} (h : (46 : UInt8) ∉ cur) (m : List UInt8) : ∃ x t, pieces 46 m = x :: t ∧ pieces 46 (cur ++ m) = (cur ++ x) :: t := by
  induction cur with
  | nil =>
    cases hp : pieces 46 m with
    | nil => exact absurd hp (pieces_ne _ _)
    | cons x t => exact ⟨x, t, rfl, by simpa using hp⟩
  | cons c r ih =>
    have h1 : c ≠ 46 := fun e => h (e ▸ List.mem_cons_self)
    obtain ⟨x, t, h2, h3⟩ := ih fun hc => h (List.mem_cons_of_mem _ hc)
    exact ⟨x, t, h2, by rw [List.cons_append, pieces, if_neg h1, h3]; rfl⟩
theorem labB_all {l : List UInt8} {c : UInt8} (h : c ∈ l) (hc : chB c = false) : labB l = false := by
  unfold labB
  rw [show l.all chB = false from List.all_eq_false.2 ⟨c, h, by rw [hc]; decide⟩, Bool.and_false]
theorem labB_ch {cur : List UInt8} (h : cur.all chB = true) : labB cur = decide (cur ≠ [] ∧ cur.length ≤ 63 ∧ cur.head? ≠ some 45 ∧ cur.getLast? ≠ some 45) := by
  unfold labB
  rw [h, Bool.and_true]
theorem u8_46 (c : UInt8) : (c.toNat : Int) = 46 ↔ c = 46 := by
  constructor
  · intro h
    apply UInt8.toNat_inj.1
    have : (46 : UInt8).toNat = 46 := rfl
    omega
  · rintro rfl; rfl
set_option maxHeartbeats 8000000 in
theorem rHost_ok (s : ByteArray) (hn : s.size ≤ 1048576) : PFn Tryd.prog 41 [vs s] (vb (hostB (bl s))) := by
  refine fn_of Tryd.func41 rfl Tryd.ntmps41 Tryd.results41 rfl fun G => ?_
  have hl := bl_length s
  by_cases h0 : s.size < 1
  · have hnil : bl s = [] := List.eq_nil_of_length_eq_zero (by omega)
    have hb : hostB (bl s) = false := by rw [hnil]; decide
    rw [hb]
    repeat' (first | apply ar_nil | (apply ar_splitp; (apply ev_move; rfl); rfl; all_goals (intro hc; try (exfalso; first | omega | contradiction | (simp at hc; omega) | (simp_all; done)))) | (apply ar_ev; (apply ev_move; rfl); rfl) | (apply ar_ev; (first | (apply ev_assign; rfl) | (apply ev_pick_t; rfl; rfl) | (apply ev_lss; rfl; rfl) | (apply ev_len_str; rfl)); rfl) | (apply ar_skip; rfl; rfl; rfl; rfl; rfl) | apply aw_seq | apply a_region | apply aw_ret | (apply aw_cond_t; rfl) | apply go_seq | apply go_seq_ret)
    exact g_ret1 (r_tmp rfl) .nil rfl
  by_cases hg : s.size ≤ 253
  · have hb : hostB (bl s) = (pieces 46 (bl s)).all labB := by unfold hostB; rw [hl, decide_eq_true hg, Bool.true_and]
    rw [hb]
    repeat' ((fail_if_success (show AW _ (.region 5 _ _) _ _)); (first | apply ar_nil | (apply ar_splitp; (apply ev_move; rfl); rfl; all_goals (intro hc; try (exfalso; first | omega | contradiction | (simp at hc; omega) | (simp_all; done)))) | (apply ar_ev; (apply ev_move; rfl); rfl) | (apply ar_ev; (first | (apply ev_assign; rfl) | (apply ev_pick_f; rfl; rfl) | (apply ev_lss; rfl; rfl) | (apply ev_len_str; rfl)); rfl) | (apply ar_take; rfl; rfl; rfl; (apply ev_move; rfl); rfl) | (apply ar_take; rfl; rfl; rfl; (first | (apply ev_gtr; rfl; rfl) | (apply ev_len_str; rfl)); rfl) | apply aw_seq | apply a_region | apply aw_block | apply aw_skip | (apply aw_condp; rfl; all_goals (intro hc; try (exfalso; first | omega | contradiction | (simp at hc; omega) | (simp_all; done)))) | apply go_seq))
    refine a_loop (fun g : Option (List UInt8 × List UInt8 × List UInt8) => match g with
        | some (pre, cur, rest) => ⟨[(0, vs s), (3, vi cur.length), (4, vi (pre.length + cur.length : Nat))], []⟩
        | none => ⟨[(0, vs s), (3, vi 0), (4, vi (s.size + 1 : Nat))], []⟩)
      (fun g => match g with
        | some (pre, cur, rest) => bl s = pre ++ (cur ++ rest) ∧ 46 ∉ cur ∧ cur.all chB = true ∧ (pieces 46 (bl s)).all labB = (pieces 46 (cur ++ rest)).all labB
        | none => (pieces 46 (bl s)).all labB = true)
      (fun g => match g with
        | some (pre, cur, rest) => rest.length + 1
        | none => 0) (some ([], [], bl s)) (Sub.of (by repeat (first | exact .nil | refine .cons rfl Le.refl ?_)) (by repeat (first | exact Takes.nil | (apply Takes.cons; focus (repeat (first | exact Take.head | apply Take.tail | apply Take.right)))))) ⟨rfl, by simp, by simp, rfl⟩ ?_
    rintro (_ | ⟨pre, cur, rest⟩)
    · intro hall
      dsimp only at hall ⊢
      rw [hall]
      repeat' (first | apply ar_nil | (apply ar_ev; (apply ev_move; rfl); rfl) | (apply ar_ev; (first | (apply ev_assign; rfl) | (apply ev_leq; rfl; rfl) | (apply ev_len_str; rfl)); rfl) | apply aw_seq | apply a_region | apply aw_exit | apply aw_ret | (apply aw_condp; rfl; all_goals (intro hc; try (exfalso; first | omega | contradiction | (simp at hc; omega) | (simp_all; done)))) | apply go_seq | apply go_seq_exit | apply go_block_exit | apply go_loop_exit)
      exact g_ret1 (r_tmp rfl) .nil rfl
    · rintro ⟨hs, h46, hch, hp⟩
      dsimp only at hs h46 hch hp ⊢
      rw [hp]
      have hsz : s.size = pre.length + cur.length + rest.length := by rw [← hl, hs]; simp; omega
      have hlabc := labB_ch hch
      rcases rest with _ | ⟨c, r⟩
      · have hpp : (pieces 46 (cur ++ [])).all labB = (labB cur && true) := by rw [List.append_nil, pieces_none h46]; simp
        repeat' ((fail_if_success (show AW _ (.region 8 _ _) _ _)); (first | apply ar_nil | (apply ar_splitp; (apply ev_move; rfl); rfl; all_goals (intro hc; try (exfalso; first | omega | contradiction | (simp at hc; omega) | (simp_all; done)))) | (apply ar_ev; (apply ev_move; rfl); rfl) | (apply ar_ev; (first | (apply ev_pick_t; rfl; rfl) | (apply ev_eqip; rfl; rfl) | (apply ev_leq; rfl; rfl) | (apply ev_len_str; rfl)); rfl) | (apply ar_skip; rfl; rfl; rfl; rfl; rfl) | apply aw_seq | apply a_region | apply aw_block | apply aw_skip | (apply aw_condp; rfl; all_goals (intro hc; try (exfalso; first | omega | contradiction | (simp at hc; omega) | (simp_all; done)))) | (apply aw_cond_t; rfl) | apply go_seq))
        by_cases hcur : cur = []
        · have hf : labB cur = false := by rw [hlabc, hcur]; decide
          rw [hpp, hf, Bool.false_and]
          subst hcur
          repeat' (first | apply ar_nil | (apply ar_splitp; (apply ev_move; rfl); rfl; all_goals (intro hc; try (exfalso; first | omega | contradiction | (simp at hc; omega) | (simp_all; done)))) | (apply ar_ev; (apply ev_move (y := .val (.bool true)); rfl); rfl) | (apply ar_ev; (apply ev_move; rfl); rfl) | (apply ar_ev; (first | (apply ev_assign; rfl) | (apply ev_pick_t; rfl; rfl) | (apply ev_lss; rfl; rfl)); rfl) | (apply ar_skip; rfl; rfl; rfl; rfl; rfl) | apply aw_seq | apply a_region | apply aw_ret | (apply aw_cond_t; rfl) | apply go_seq | apply go_seq_ret | apply go_block_ret | apply go_loop_ret)
          all_goals exact g_ret1 (r_tmp rfl) .nil rfl
        · have hcp : 0 < cur.length := List.length_pos_iff.2 hcur
          obtain ⟨c0, hc0⟩ : ∃ c, cur[0]? = some c := ⟨_, List.getElem?_eq_getElem hcp⟩
          obtain ⟨cl, hcl⟩ : ∃ c, cur[cur.length - 1]? = some c := ⟨_, List.getElem?_eq_getElem (by omega)⟩
          have hhead : cur.head? = some c0 := by rw [List.head?_eq_getElem?]; exact hc0
          have hlast : cur.getLast? = some cl := by rw [List.getLast?_eq_getElem?]; exact hcl
          have g0 : (bl s)[pre.length]? = some c0 := by rw [hs, List.getElem?_append_right (Nat.le_refl _), Nat.sub_self, List.getElem?_append_left hcp]; exact hc0
          have g1 : (bl s)[pre.length + cur.length - 1]? = some cl := by rw [hs, List.getElem?_append_right (by omega), show pre.length + cur.length - 1 - pre.length = cur.length - 1 by omega, List.getElem?_append_left (by omega)]; exact hcl
          have e1 : ((pre.length + cur.length : Nat) : Int) - 1 = ((pre.length + cur.length - 1 : Nat) : Int) := by omega
          have e2 : ((pre.length + cur.length : Nat) : Int) - (cur.length : Int) = ((pre.length : Nat) : Int) := by omega
          rw [hhead, hlast] at hlabc
          have hlabd : labB cur = decide (cur.length ≤ 63 ∧ (c0.toNat : Int) ≠ 45 ∧ (cl.toNat : Int) ≠ 45) := by rw [hlabc]; simp [hcur, u8_45]
          by_cases hok : cur.length ≤ 63 ∧ (c0.toNat : Int) ≠ 45 ∧ (cl.toNat : Int) ≠ 45
          · have hf : labB cur = true := by rw [hlabd]; exact decide_eq_true hok
            rw [hf, Bool.true_and] at hpp
            obtain ⟨k1, k2, k3⟩ := hok
            repeat' (first | (rw [e1]) | (rw [e2]) | apply ar_nil | (apply ar_splitp; (apply ev_move; rfl); rfl; all_goals (intro hc; try (exfalso; first | omega | contradiction | (simp at hc; omega) | (simp_all; done)))) | (apply ar_ev; (apply ev_move; rfl); rfl) | (apply ar_ev; (first | (apply ev_assign; rfl) | (apply ev_pick_f; rfl; rfl) | (apply ev_lss; rfl; rfl) | (apply ev_inc; rfl; exact (by first | omega | assumption))); rfl) | (apply ar_take; rfl; rfl; rfl; (apply ev_move; rfl); rfl) | (apply ar_take; rfl; rfl; rfl; (first | (apply ev_eqip; rfl; rfl) | (apply ev_gtr; rfl; rfl) | (apply ev_sub; rfl; rfl; exact (by first | omega | assumption); exact (by first | omega | assumption)) | (apply ev_index_bl; rfl; rfl; assumption)); rfl) | apply aw_seq | apply a_region | apply aw_skip | apply aw_exit | (apply aw_condp; rfl; all_goals (intro hc; try (exfalso; first | omega | contradiction | (simp at hc; omega) | (simp_all; done)))) | apply go_seq | apply go_seq_exit | apply go_block_exit)
            exact go_loop_back ⟨none, by first | exact hpp | (dsimp only; exact hpp), by dsimp only; omega, by dsimp only; rw [show s.size + 1 = pre.length + cur.length + 1 by simp at hsz; omega]; exact Sub.of (by repeat (first | exact .nil | refine .cons rfl Le.refl ?_)) (by repeat (first | exact Takes.nil | (apply Takes.cons; focus (repeat (first | exact Take.head | apply Take.tail | apply Take.right)))))⟩
          · have hf : labB cur = false := by rw [hlabd]; exact decide_eq_false hok
            rw [hpp, hf, Bool.false_and]
            repeat' (first | (rw [e1]) | (rw [e2]) | apply ar_nil | (apply ar_splitp; (apply ev_move; rfl); rfl; all_goals (intro hc; try (exfalso; first | omega | contradiction | (simp at hc; omega) | (simp_all; done)))) | (apply ar_ev; (apply ev_move (y := .val (.bool true)); rfl); rfl) | (apply ar_ev; (apply ev_move; rfl); rfl) | (apply ar_ev; (first | (apply ev_assign; rfl) | (apply ev_pick_t; rfl; rfl) | (apply ev_pick_f; rfl; rfl) | (apply ev_lss; rfl; rfl)); rfl) | (apply ar_skip; rfl; rfl; rfl; rfl; rfl) | (apply ar_take; rfl; rfl; rfl; (apply ev_move; rfl); rfl) | (apply ar_take; rfl; rfl; rfl; (first | (apply ev_eqip; rfl; rfl) | (apply ev_gtr; rfl; rfl) | (apply ev_sub; rfl; rfl; exact (by first | omega | assumption); exact (by first | omega | assumption)) | (apply ev_index_bl; rfl; rfl; assumption)); rfl) | apply aw_seq | apply a_region | apply aw_ret | (apply aw_condp; rfl; all_goals (intro hc; try (exfalso; first | omega | contradiction | (simp at hc; omega) | (simp_all; done)))) | (apply aw_cond_t; rfl) | apply go_seq | apply go_seq_ret | apply go_block_ret | apply go_loop_ret)
            all_goals exact g_ret1 (r_tmp rfl) .nil rfl
      · have hgi : (bl s)[pre.length + cur.length]? = some c := by rw [hs, List.getElem?_append_right (by omega), List.getElem?_append_right (by omega), show pre.length + cur.length - pre.length - cur.length = 0 by omega]; rfl
        rw [List.length_cons] at hsz
        by_cases hc46 : c = 46
        · subst hc46
          have hpp : (pieces 46 (cur ++ 46 :: r)).all labB = (labB cur && (pieces 46 r).all labB) := by rw [pieces_cut h46]; simp
          repeat' ((fail_if_success (show AW _ (.region 8 _ _) _ _)); (first | apply ar_nil | (apply ar_splitp; (apply ev_move; rfl); rfl; all_goals (intro hc; try (exfalso; first | omega | contradiction | (simp at hc; omega) | (simp_all; done)))) | (apply ar_ev; (apply ev_move; rfl); rfl) | (apply ar_ev; (first | (apply ev_pick_f; rfl; rfl) | (apply ev_eqip; rfl; rfl) | (apply ev_leq; rfl; rfl) | (apply ev_len_str; rfl)); rfl) | (apply ar_take; rfl; rfl; rfl; (apply ev_move; rfl); rfl) | (apply ar_take; rfl; rfl; rfl; (first | (apply ev_eqip; rfl; rfl) | (apply ev_index_bl; rfl; rfl; assumption)); rfl) | apply aw_seq | apply a_region | apply aw_block | apply aw_skip | (apply aw_condp; rfl; all_goals (intro hc; try (exfalso; first | omega | contradiction | (simp at hc; omega) | (simp_all; done)))) | apply go_seq))
          by_cases hcur : cur = []
          · have hf : labB cur = false := by rw [hlabc, hcur]; decide
            rw [hpp, hf, Bool.false_and]
            subst hcur
            repeat' (first | apply ar_nil | (apply ar_splitp; (apply ev_move; rfl); rfl; all_goals (intro hc; try (exfalso; first | omega | contradiction | (simp at hc; omega) | (simp_all; done)))) | (apply ar_ev; (apply ev_move (y := .val (.bool true)); rfl); rfl) | (apply ar_ev; (apply ev_move; rfl); rfl) | (apply ar_ev; (first | (apply ev_assign; rfl) | (apply ev_pick_t; rfl; rfl) | (apply ev_lss; rfl; rfl)); rfl) | (apply ar_skip; rfl; rfl; rfl; rfl; rfl) | apply aw_seq | apply a_region | apply aw_ret | (apply aw_cond_t; rfl) | apply go_seq | apply go_seq_ret | apply go_block_ret | apply go_loop_ret)
            all_goals exact g_ret1 (r_tmp rfl) .nil rfl
          · have hcp : 0 < cur.length := List.length_pos_iff.2 hcur
            obtain ⟨c0, hc0⟩ : ∃ c, cur[0]? = some c := ⟨_, List.getElem?_eq_getElem hcp⟩
            obtain ⟨cl, hcl⟩ : ∃ c, cur[cur.length - 1]? = some c := ⟨_, List.getElem?_eq_getElem (by omega)⟩
            have hhead : cur.head? = some c0 := by rw [List.head?_eq_getElem?]; exact hc0
            have hlast : cur.getLast? = some cl := by rw [List.getLast?_eq_getElem?]; exact hcl
            have g0 : (bl s)[pre.length]? = some c0 := by rw [hs, List.getElem?_append_right (Nat.le_refl _), Nat.sub_self, List.getElem?_append_left hcp]; exact hc0
            have g1 : (bl s)[pre.length + cur.length - 1]? = some cl := by rw [hs, List.getElem?_append_right (by omega), show pre.length + cur.length - 1 - pre.length = cur.length - 1 by omega, List.getElem?_append_left (by omega)]; exact hcl
            have e1 : ((pre.length + cur.length : Nat) : Int) - 1 = ((pre.length + cur.length - 1 : Nat) : Int) := by omega
            have e2 : ((pre.length + cur.length : Nat) : Int) - (cur.length : Int) = ((pre.length : Nat) : Int) := by omega
            rw [hhead, hlast] at hlabc
            have hlabd : labB cur = decide (cur.length ≤ 63 ∧ (c0.toNat : Int) ≠ 45 ∧ (cl.toNat : Int) ≠ 45) := by rw [hlabc]; simp [hcur, u8_45]
            by_cases hok : cur.length ≤ 63 ∧ (c0.toNat : Int) ≠ 45 ∧ (cl.toNat : Int) ≠ 45
            · have hf : labB cur = true := by rw [hlabd]; exact decide_eq_true hok
              rw [hf, Bool.true_and] at hpp
              obtain ⟨k1, k2, k3⟩ := hok
              repeat' (first | (rw [e1]) | (rw [e2]) | apply ar_nil | (apply ar_splitp; (apply ev_move; rfl); rfl; all_goals (intro hc; try (exfalso; first | omega | contradiction | (simp at hc; omega) | (simp_all; done)))) | (apply ar_ev; (apply ev_move; rfl); rfl) | (apply ar_ev; (first | (apply ev_assign; rfl) | (apply ev_pick_f; rfl; rfl) | (apply ev_lss; rfl; rfl) | (apply ev_inc; rfl; exact (by first | omega | assumption))); rfl) | (apply ar_take; rfl; rfl; rfl; (apply ev_move; rfl); rfl) | (apply ar_take; rfl; rfl; rfl; (first | (apply ev_eqip; rfl; rfl) | (apply ev_gtr; rfl; rfl) | (apply ev_sub; rfl; rfl; exact (by first | omega | assumption); exact (by first | omega | assumption)) | (apply ev_index_bl; rfl; rfl; assumption)); rfl) | apply aw_seq | apply a_region | apply aw_skip | apply aw_exit | (apply aw_condp; rfl; all_goals (intro hc; try (exfalso; first | omega | contradiction | (simp at hc; omega) | (simp_all; done)))) | apply go_seq | apply go_seq_exit | apply go_block_exit)
              exact go_loop_back ⟨some (pre ++ cur ++ [46], [], r), ⟨by rw [hs]; simp, by simp, by simp, by first | exact hpp | (dsimp only; exact hpp)⟩, by dsimp only; simp, by simp only [List.length_append, List.length_cons, List.length_nil, Nat.add_zero, Nat.zero_add]; exact Sub.of (by repeat (first | exact .nil | refine .cons rfl Le.refl ?_)) (by repeat (first | exact Takes.nil | (apply Takes.cons; focus (repeat (first | exact Take.head | apply Take.tail | apply Take.right)))))⟩
            · have hf : labB cur = false := by rw [hlabd]; exact decide_eq_false hok
              rw [hpp, hf, Bool.false_and]
              repeat' (first | (rw [e1]) | (rw [e2]) | apply ar_nil | (apply ar_splitp; (apply ev_move; rfl); rfl; all_goals (intro hc; try (exfalso; first | omega | contradiction | (simp at hc; omega) | (simp_all; done)))) | (apply ar_ev; (apply ev_move (y := .val (.bool true)); rfl); rfl) | (apply ar_ev; (apply ev_move; rfl); rfl) | (apply ar_ev; (first | (apply ev_assign; rfl) | (apply ev_pick_t; rfl; rfl) | (apply ev_pick_f; rfl; rfl) | (apply ev_lss; rfl; rfl)); rfl) | (apply ar_skip; rfl; rfl; rfl; rfl; rfl) | (apply ar_take; rfl; rfl; rfl; (apply ev_move; rfl); rfl) | (apply ar_take; rfl; rfl; rfl; (first | (apply ev_eqip; rfl; rfl) | (apply ev_gtr; rfl; rfl) | (apply ev_sub; rfl; rfl; exact (by first | omega | assumption); exact (by first | omega | assumption)) | (apply ev_index_bl; rfl; rfl; assumption)); rfl) | apply aw_seq | apply a_region | apply aw_ret | (apply aw_condp; rfl; all_goals (intro hc; try (exfalso; first | omega | contradiction | (simp at hc; omega) | (simp_all; done)))) | (apply aw_cond_t; rfl) | apply go_seq | apply go_seq_ret | apply go_block_ret | apply go_loop_ret)
              all_goals exact g_ret1 (r_tmp rfl) .nil rfl
        · have h46i : ¬(c.toNat : Int) = 46 := fun h => hc46 ((u8_46 c).1 h)
          have hw := c.toNat_lt
          have hch0 : chB c = (decide (97 ≤ c.toNat ∧ c.toNat ≤ 122) || decide (48 ≤ c.toNat ∧ c.toNat ≤ 57) || decide (c.toNat = 45)) := rfl
          repeat' ((fail_if_success (show AW _ (.region 12 _ _) _ _)); (first | apply ar_nil | (apply ar_splitp; (apply ev_move; rfl); rfl; all_goals (intro hc; try (exfalso; first | omega | contradiction | (simp at hc; omega) | (simp_all; done)))) | (apply ar_ev; (apply ev_move; rfl); rfl) | (apply ar_ev; (first | (apply ev_assign; rfl) | (apply ev_pick_f; rfl; rfl) | (apply ev_eqip; rfl; rfl) | (apply ev_leq; rfl; rfl) | (apply ev_len_str; rfl) | (apply ev_index_bl; rfl; rfl; assumption)); rfl) | (apply ar_take; rfl; rfl; rfl; (apply ev_move; rfl); rfl) | (apply ar_take; rfl; rfl; rfl; (first | (apply ev_eqip; rfl; rfl) | (apply ev_index_bl; rfl; rfl; assumption)); rfl) | apply aw_seq | apply a_region | apply aw_block | apply aw_skip | (apply aw_condp; rfl; all_goals (intro hc; try (exfalso; first | omega | contradiction | (simp at hc; omega) | (simp_all; done)))) | apply go_seq))
          cases hcc : chB c with
          | true =>
            rw [hcc] at hch0
            have hch0 := hch0.symm
            simp only [Bool.or_eq_true, decide_eq_true_eq] at hch0
            repeat' (first | apply ar_nil | (apply ar_splitp; (apply ev_move; rfl); rfl; all_goals (intro hc; try (exfalso; first | omega | contradiction | (simp at hc; omega) | (simp_all; done)))) | (apply ar_ev; (apply ev_move (y := .val (.bool true)); rfl); rfl) | (apply ar_ev; (apply ev_move (y := .val (.bool false)); rfl); rfl) | (apply ar_ev; (apply ev_move; rfl); rfl) | (apply ar_ev; (first | (apply ev_assign; rfl) | (apply ev_pick_t; rfl; rfl) | (apply ev_pick_f; rfl; rfl) | (apply ev_geq; rfl; rfl) | (apply ev_inc; rfl; exact (by first | omega | assumption)) | (apply ev_notp; rfl) | (apply ev_not; rfl)); rfl) | (apply ar_skip; rfl; rfl; rfl; rfl; rfl) | (apply ar_tsplitp; rfl; rfl; rfl; (apply ev_move; rfl); rfl; all_goals (intro hc; try (exfalso; first | omega | contradiction | (simp at hc; omega) | (simp_all; done)))) | (apply ar_take; rfl; rfl; rfl; (apply ev_move; rfl); rfl) | (apply ar_take; rfl; rfl; rfl; (first | (apply ev_pick_t; rfl; rfl) | (apply ev_pick_f; rfl; rfl) | (apply ev_eqip; rfl; rfl) | (apply ev_leq; rfl; rfl) | (apply ev_geq; rfl; rfl)); rfl) | apply a_region | apply aw_skip | (apply aw_condp; rfl; all_goals (intro hc; try (exfalso; first | omega | contradiction | (simp at hc; omega) | (simp_all; done)))) | (apply aw_cond_f; rfl) | apply go_seq | apply go_block)
            all_goals exact go_loop_back ⟨some (pre, cur ++ [c], r), ⟨by rw [hs]; simp, fun hm => by rcases List.mem_append.1 hm with hm | hm; exact h46 hm; exact hc46 (List.mem_singleton.1 hm).symm, by rw [List.all_append, hch, List.all_cons, hcc]; rfl, by rw [List.append_assoc]; rfl⟩, by dsimp only; simp, by dsimp only; rw [show (cur ++ [c]).length = cur.length + 1 by simp, show pre.length + (cur.length + 1) = pre.length + cur.length + 1 by omega]; exact Sub.of (by repeat (first | exact .nil | refine .cons rfl Le.refl ?_)) (by repeat (first | exact Takes.nil | (apply Takes.cons; focus (repeat (first | exact Take.head | apply Take.tail | apply Take.right)))))⟩
          | false =>
            rw [hcc] at hch0
            have hch0 := hch0.symm
            simp only [Bool.or_eq_false_iff, decide_eq_false_iff_not] at hch0
            have hbad : (pieces 46 (cur ++ c :: r)).all labB = false := by
              obtain ⟨x, t, h1, h2⟩ := pieces_pre (cur := cur ++ [c]) (fun hm => by rcases List.mem_append.1 hm with hm | hm; exact h46 hm; exact hc46 (List.mem_singleton.1 hm).symm) r
              rw [List.append_assoc] at h2
              rw [show cur ++ c :: r = cur ++ ([c] ++ r) from rfl, h2, List.all_cons, labB_all (c := c) (by simp) hcc, Bool.false_and]
            rw [hbad]
            clear hbad hp hb hlabc hch
            repeat' (first | apply ar_nil | (apply ar_splitp; (apply ev_move; rfl); rfl; all_goals (intro hc; try (exfalso; first | omega | contradiction | (simp at hc; omega) | (simp_all; done)))) | (apply ar_ev; (apply ev_move (y := .val (.bool false)); rfl); rfl) | (apply ar_ev; (apply ev_move; rfl); rfl) | (apply ar_ev; (first | (apply ev_assign; rfl) | (apply ev_pick_t; rfl; rfl) | (apply ev_pick_f; rfl; rfl) | (apply ev_geq; rfl; rfl) | (apply ev_notp; rfl)); rfl) | (apply ar_skip; rfl; rfl; rfl; rfl; rfl) | (apply ar_tsplitp; rfl; rfl; rfl; (apply ev_move; rfl); rfl; all_goals (intro hc; try (exfalso; first | omega | contradiction | (simp at hc; omega) | (simp_all; done)))) | (apply ar_take; rfl; rfl; rfl; (apply ev_move; rfl); rfl) | (apply ar_take; rfl; rfl; rfl; (first | (apply ev_pick_t; rfl; rfl) | (apply ev_pick_f; rfl; rfl) | (apply ev_eqip; rfl; rfl) | (apply ev_leq; rfl; rfl) | (apply ev_geq; rfl; rfl)); rfl) | apply aw_seq | apply a_region | apply aw_ret | (apply aw_condp; rfl; all_goals (intro hc; try (exfalso; first | omega | contradiction | (simp at hc; omega) | (simp_all; done)))) | apply go_seq | apply go_seq_ret | apply go_block_ret | apply go_loop_ret)
            all_goals exact g_ret1 (r_tmp rfl) .nil rfl
  · have hb : hostB (bl s) = false := by unfold hostB; rw [hl, decide_eq_false hg, Bool.false_and]
    rw [hb]
    repeat' (first | apply ar_nil | (apply ar_splitp; (apply ev_move; rfl); rfl; all_goals (intro hc; try (exfalso; first | omega | contradiction | (simp at hc; omega) | (simp_all; done)))) | (apply ar_ev; (apply ev_move; rfl); rfl) | (apply ar_ev; (first | (apply ev_assign; rfl) | (apply ev_pick_f; rfl; rfl) | (apply ev_lss; rfl; rfl) | (apply ev_len_str; rfl)); rfl) | (apply ar_take; rfl; rfl; rfl; (apply ev_move; rfl); rfl) | (apply ar_take; rfl; rfl; rfl; (first | (apply ev_gtr; rfl; rfl) | (apply ev_len_str; rfl)); rfl) | apply aw_seq | apply a_region | apply aw_ret | (apply aw_condp; rfl; all_goals (intro hc; try (exfalso; first | omega | contradiction | (simp at hc; omega) | (simp_all; done)))) | apply go_seq | apply go_seq_ret)
    exact g_ret1 (r_tmp rfl) .nil rfl
end Go.Proofs.YtjdcljggbbeikaaDoor
