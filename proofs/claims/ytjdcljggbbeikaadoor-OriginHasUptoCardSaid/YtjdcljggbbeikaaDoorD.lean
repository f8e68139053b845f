import Derived.Test.YtjdcljggbbeikaaDoorC
set_option linter.unusedVariables false
set_option linter.unusedSimpArgs false
set_option maxRecDepth 100000
namespace Go.Proofs.YtjdcljggbbeikaaDoor
open Go.Proofs Go.Proofs.YtjdcljggbbeikaaDoorA

def digB (c : UInt8) : Bool := decide (48 ≤ c.toNat ∧ c.toNat ≤ 57)
def numF (l : List UInt8) : Nat := l.foldl (fun n c => 10 * n + (c.toNat - 48)) 0
def portN (l : List UInt8) : Int := if l ≠ [] ∧ l.length ≤ 5 ∧ l.head? ≠ some 48 ∧ l.all digB = true then (numF l : Nat) else 0
theorem numF_snoc (l : List UInt8) (c : UInt8) : numF (l ++ [c]) = 10 * numF l + (c.toNat - 48) := by simp [numF]
theorem numF_lt : ∀ (n : Nat) (l : List UInt8), l.length = n → l.all digB = true → numF l < 10 ^ n
  | 0, l, h, _ => by rw [List.eq_nil_of_length_eq_zero h]; decide
  | n + 1, l, h, ha => by
    have hne : l ≠ [] := fun e => by rw [e] at h; cases h
    obtain ⟨i, c, rfl⟩ : ∃ i c, l = i ++ [c] := ⟨l.dropLast, l.getLast hne, (List.dropLast_concat_getLast hne).symm⟩
    rw [List.all_append, Bool.and_eq_true] at ha
    have hi := numF_lt n i (by simpa using h) ha.1
    have hc : digB c = true := by simpa using ha.2
    unfold digB at hc
    have hc := of_decide_eq_true hc
    rw [numF_snoc, Nat.pow_succ]
    omega
theorem sub48 (c : UInt8) (h : 48 ≤ c.toNat ∧ c.toNat ≤ 57) : IntKind.i64.wrap (IntKind.u8.wrap ((c.toNat : Int) - 48)) = ((c.toNat - 48 : Nat) : Int) := by
  rw [wrap8, show ((c.toNat : Int) - 48) % 256 = ((c.toNat - 48 : Nat) : Int) by omega]
  exact i64_id (by omega) (by omega)
theorem u8_48 (c : UInt8) : (c.toNat : Int) = 48 ↔ c = 48 := by
  constructor
  · intro h
    apply UInt8.toNat_inj.1
    have : (48 : UInt8).toNat = 48 := rfl
    omega
  · rintro rfl; rfl
theorem empty_size {s : ByteArray} : s = ⟨#[]⟩ ↔ s.size = 0 := by
  constructor
  · rintro rfl; rfl
  · intro h
    have hnil : bl s = [] := List.eq_nil_of_length_eq_zero (by rw [bl_length]; exact h)
    rw [← BA_bl s, hnil]; rfl
set_option maxHeartbeats 4000000 in
theorem port_ok (s : ByteArray) (hn : s.size ≤ 1048576) : PFn Tryd.prog 37 [vs s] (vi (portN (bl s))) := by
  refine fn_of Tryd.func37 rfl Tryd.ntmps37 Tryd.results37 rfl fun G => ?_
  have hl := bl_length s
  have hz := empty_size (s := s)
  by_cases hg : s.size ≠ 0 ∧ s.size ≤ 5
  · obtain ⟨hg1, hg2⟩ := hg
    have hne : bl s ≠ [] := fun e => by rw [e] at hl; simp at hl; omega
    have hse : ¬ s = ⟨#[]⟩ := fun e => hg1 (hz.1 e)
    obtain ⟨c0, hc0⟩ : ∃ c, (bl s)[0]? = some c := ⟨_, List.getElem?_eq_getElem (by omega)⟩
    have hhead : (bl s).head? = some c0 := by rw [List.head?_eq_getElem?]; exact hc0
    have hp : portN (bl s) = if ¬ (c0.toNat : Int) = 48 ∧ (bl s).all digB = true then (numF (bl s) : Int) else 0 := by
      unfold portN
      rw [hhead, hl]
      simp [hne, hg2, u8_48]
    rw [hp]
    clear hz
    by_cases h48 : (c0.toNat : Int) = 48
    · rw [if_neg (fun h => h.1 h48)]
      repeat' (first | apply ar_nil | (apply ar_splitp; (apply ev_move; rfl); rfl; all_goals (intro hc; try (exfalso; first | omega | contradiction | (simp at hc; omega) | (simp_all; done)))) | (apply ar_ev; (apply ev_move; rfl); rfl) | (apply ar_ev; (first | (apply ev_assign; rfl) | (apply ev_pick_f; rfl; rfl) | (apply ev_eqsp; rfl; rfl)); rfl) | (apply ar_take; rfl; rfl; rfl; (apply ev_move; rfl); rfl) | (apply ar_take; rfl; rfl; rfl; (first | (apply ev_eqip; rfl; rfl) | (apply ev_gtr; rfl; rfl) | (apply ev_len_str; rfl) | (apply ev_index_bl; rfl; rfl; assumption)); rfl) | apply aw_seq | apply a_region | apply aw_ret | (apply aw_condp; rfl; all_goals (intro hc; try (exfalso; first | omega | contradiction | (simp at hc; omega) | (simp_all; done)))) | apply go_seq | apply go_seq_ret)
      exact g_ret1 (r_tmp rfl) .nil rfl
    repeat' (first | apply ar_nil | (apply ar_splitp; (apply ev_move; rfl); rfl; all_goals (intro hc; try (exfalso; first | omega | contradiction | (simp at hc; omega) | (simp_all; done)))) | (apply ar_ev; (apply ev_move; rfl); rfl) | (apply ar_ev; (first | (apply ev_assign; rfl) | (apply ev_pick_f; rfl; rfl) | (apply ev_eqsp; rfl; rfl) | (apply ev_len_str; rfl)); rfl) | (apply ar_take; rfl; rfl; rfl; (apply ev_move; rfl); rfl) | (apply ar_take; rfl; rfl; rfl; (first | (apply ev_eqip; rfl; rfl) | (apply ev_gtr; rfl; rfl) | (apply ev_len_str; rfl) | (apply ev_index_bl; rfl; rfl; assumption)); rfl) | apply aw_seq | apply a_region | apply aw_block | apply aw_skip | (apply aw_condp; rfl; all_goals (intro hc; try (exfalso; first | omega | contradiction | (simp at hc; omega) | (simp_all; done)))) | apply go_seq)
    refine a_loop (fun i : Nat => ⟨[(0, vs s), (3, vi (numF ((bl s).take i))), (18, vi s.size), (19, vi i)], []⟩) (fun i => i ≤ s.size ∧ ((bl s).take i).all digB = true) (fun i => s.size - i) 0 (Sub.of (by repeat (first | exact .nil | refine .cons rfl Le.refl ?_)) (by repeat (first | exact Takes.nil | (apply Takes.cons; focus (repeat (first | exact Take.head | apply Take.tail | apply Take.right)))))) ⟨Nat.zero_le _, by simp⟩ ?_
    rintro i ⟨hi, hall⟩
    have hb := numF_lt i ((bl s).take i) (by rw [List.length_take]; omega) hall
    have hb2 : numF ((bl s).take i) < 100000 := Nat.lt_of_lt_of_le hb (Nat.le_trans (Nat.pow_le_pow_right (by omega) (show i ≤ 5 by omega)) (by decide))
    repeat' (first | apply ar_nil | (apply ar_ev; (apply ev_lss; rfl; rfl); rfl) | apply aw_seq | apply a_region | apply go_seq)
    refine aw_condp rfl (fun hk => ?_) (fun hk => ?_)
    · obtain ⟨c, hce⟩ : ∃ c, (bl s)[i]? = some c := ⟨_, List.getElem?_eq_getElem (by omega)⟩
      have hw := c.toNat_lt
      have hsn : (bl s).take (i + 1) = (bl s).take i ++ [c] := by rw [List.take_add_one, hce]; rfl
      by_cases hdig : 48 ≤ c.toNat ∧ c.toNat ≤ 57
      · have hcv := sub48 c hdig
        have hall2 : ((bl s).take (i + 1)).all digB = true := by rw [hsn, List.all_append, hall]; simp [digB, hdig]
        have hnum : (10 : Int) * (numF ((bl s).take i) : Nat) + ((c.toNat - 48 : Nat) : Int) = (numF ((bl s).take (i + 1)) : Nat) := by rw [hsn, numF_snoc]; omega
        clear hsn hall hp hhead
        generalize numF ((bl s).take i) = m at *
        repeat' (first | (rw [hcv]) | apply ar_nil | (apply ar_splitp; (apply ev_move; rfl); rfl; all_goals (intro hc; try (exfalso; first | omega | contradiction | (simp at hc; omega) | (simp_all; done)))) | (apply ar_ev; (apply ev_move; rfl); rfl) | (apply ar_ev; (first | (apply ev_mul; rfl; rfl; omega; omega) | (apply ev_assign; rfl) | (apply ev_pick_f; rfl; rfl) | (apply ev_lss; rfl; rfl) | (apply ev_inc; rfl; exact (by first | omega | assumption)) | (apply ev_add; rfl; rfl; exact (by first | omega | assumption); exact (by first | omega | assumption)) | (apply ev_index_bl; rfl; rfl; assumption) | (apply ev_conv_int; rfl) | (apply ev_subw; rfl; rfl)); rfl) | (apply ar_take; rfl; rfl; rfl; (apply ev_move; rfl); rfl) | (apply ar_take; rfl; rfl; rfl; (first | (apply ev_gtr; rfl; rfl) | (apply ev_index_bl; rfl; rfl; assumption)); rfl) | apply aw_seq | apply a_region | apply aw_block | apply aw_skip | (apply aw_condp; rfl; all_goals (intro hc; try (exfalso; first | omega | contradiction | (simp at hc; omega) | (simp_all; done)))) | apply go_seq | apply go_block)
        exact go_loop_back ⟨i + 1, ⟨by omega, hall2⟩, by omega, by rw [← hnum]; exact Sub.of (by repeat (first | exact .nil | refine .cons rfl Le.refl ?_)) (by repeat (first | exact Takes.nil | (apply Takes.cons; focus (repeat (first | exact Take.head | apply Take.tail | apply Take.right)))))⟩
      · have hf : (bl s).all digB = false := List.all_eq_false.2 ⟨c, List.mem_of_getElem? hce, by simp [digB]; omega⟩
        rw [hf, if_neg (fun h => by cases h.2)]
        clear hall hp hhead hsn
        repeat' (first | apply ar_nil | (apply ar_splitp; (apply ev_move; rfl); rfl; all_goals (intro hc; try (exfalso; first | omega | contradiction | (simp at hc; omega) | (simp_all; done)))) | (apply ar_ev; (apply ev_move; rfl); rfl) | (apply ar_ev; (first | (apply ev_assign; rfl) | (apply ev_pick_t; rfl; rfl) | (apply ev_pick_f; rfl; rfl) | (apply ev_lss; rfl; rfl) | (apply ev_index_bl; rfl; rfl; assumption)); rfl) | (apply ar_skip; rfl; rfl; rfl; rfl; rfl) | (apply ar_take; rfl; rfl; rfl; (apply ev_move; rfl); rfl) | (apply ar_take; rfl; rfl; rfl; (first | (apply ev_gtr; rfl; rfl) | (apply ev_index_bl; rfl; rfl; assumption)); rfl) | apply aw_seq | apply a_region | apply aw_block | apply aw_skip | apply aw_ret | (apply aw_condp; rfl; all_goals (intro hc; try (exfalso; first | omega | contradiction | (simp at hc; omega) | (simp_all; done)))) | (apply aw_cond_t; rfl) | apply go_seq | apply go_seq_ret | apply go_block_ret | apply go_loop_ret)
        all_goals exact g_ret1 (r_tmp rfl) .nil rfl
    · obtain rfl : i = s.size := by omega
      rw [List.take_of_length_le (by omega)] at hall ⊢
      rw [if_pos ⟨h48, hall⟩]
      repeat' (first | apply ar_nil | (apply ar_ev; (apply ev_move; rfl); rfl) | (apply ar_ev; (apply ev_assign; rfl); rfl) | apply aw_seq | apply a_region | apply aw_exit | apply aw_ret | apply go_seq | apply go_seq_exit | apply go_block_exit | apply go_loop_exit)
      exact g_ret1 (r_tmp rfl) .nil rfl
  · have hp : portN (bl s) = 0 := by
      unfold portN
      rw [if_neg]
      rintro ⟨h1, h2, -⟩
      exact hg ⟨fun e => h1 (List.eq_nil_of_length_eq_zero (by omega)), by omega⟩
    rw [hp]
    by_cases hse : s = ⟨#[]⟩
    · subst hse
      repeat' (first | apply ar_nil | (apply ar_ev; (apply ev_move (y := .val (.bool true)); rfl); rfl) | (apply ar_ev; (apply ev_move; rfl); rfl) | (apply ar_ev; (first | (apply ev_assign; rfl) | (apply ev_pick_t; rfl; rfl) | (apply ev_eqsp; rfl; rfl)); rfl) | (apply ar_skip; rfl; rfl; rfl; rfl; rfl) | apply aw_seq | apply a_region | apply aw_ret | (apply aw_cond_t; rfl) | apply go_seq | apply go_seq_ret)
      exact g_ret1 (r_tmp rfl) .nil rfl
    · have : s.size ≠ 0 := fun e => hse (hz.2 e)
      clear hz
      repeat' (first | apply ar_nil | (apply ar_splitp; (apply ev_move; rfl); rfl; all_goals (intro hc; try (exfalso; first | omega | contradiction | (simp at hc; omega) | (simp_all; done)))) | (apply ar_ev; (apply ev_move; rfl); rfl) | (apply ar_ev; (first | (apply ev_assign; rfl) | (apply ev_pick_t; rfl; rfl) | (apply ev_pick_f; rfl; rfl) | (apply ev_eqsp; rfl; rfl)); rfl) | (apply ar_skip; rfl; rfl; rfl; rfl; rfl) | (apply ar_take; rfl; rfl; rfl; (apply ev_move; rfl); rfl) | (apply ar_take; rfl; rfl; rfl; (first | (apply ev_gtr; rfl; rfl) | (apply ev_len_str; rfl)); rfl) | apply aw_seq | apply a_region | apply aw_ret | (apply aw_cond_t; rfl) | apply go_seq | apply go_seq_ret)
      exact g_ret1 (r_tmp rfl) .nil rfl
set_option maxHeartbeats 4000000 in
theorem rport_ok (s : ByteArray) (hn : s.size ≤ 1048576) : PFn Tryd.prog 38 [vs s] (vi (portN (bl s))) := by
  refine fn_of Tryd.func38 rfl Tryd.ntmps38 Tryd.results38 rfl fun G => ?_
  have hl := bl_length s
  have hz := empty_size (s := s)
  by_cases hg : s.size ≠ 0 ∧ s.size ≤ 5
  · obtain ⟨hg1, hg2⟩ := hg
    have hne : bl s ≠ [] := fun e => by rw [e] at hl; simp at hl; omega
    have hse : ¬ s = ⟨#[]⟩ := fun e => hg1 (hz.1 e)
    obtain ⟨c0, hc0⟩ : ∃ c, (bl s)[0]? = some c := ⟨_, List.getElem?_eq_getElem (by omega)⟩
    have hhead : (bl s).head? = some c0 := by rw [List.head?_eq_getElem?]; exact hc0
    have hp : portN (bl s) = if ¬ (c0.toNat : Int) = 48 ∧ (bl s).all digB = true then (numF (bl s) : Int) else 0 := by
      unfold portN
      rw [hhead, hl]
      simp [hne, hg2, u8_48]
    rw [hp]
    clear hz
    by_cases h48 : (c0.toNat : Int) = 48
    · rw [if_neg (fun h => h.1 h48)]
      repeat' (first | apply ar_nil | (apply ar_splitp; (apply ev_move; rfl); rfl; all_goals (intro hc; try (exfalso; first | omega | contradiction | (simp at hc; omega) | (simp_all; done)))) | (apply ar_ev; (apply ev_move; rfl); rfl) | (apply ar_ev; (first | (apply ev_assign; rfl) | (apply ev_pick_f; rfl; rfl) | (apply ev_lss; rfl; rfl) | (apply ev_len_str; rfl)); rfl) | (apply ar_take; rfl; rfl; rfl; (apply ev_move; rfl); rfl) | (apply ar_take; rfl; rfl; rfl; (first | (apply ev_eqip; rfl; rfl) | (apply ev_gtr; rfl; rfl) | (apply ev_len_str; rfl) | (apply ev_index_bl; rfl; rfl; assumption)); rfl) | apply aw_seq | apply a_region | apply aw_ret | (apply aw_condp; rfl; all_goals (intro hc; try (exfalso; first | omega | contradiction | (simp at hc; omega) | (simp_all; done)))) | apply go_seq | apply go_seq_ret)
      exact g_ret1 (r_tmp rfl) .nil rfl
    repeat' (first | apply ar_nil | (apply ar_splitp; (apply ev_move; rfl); rfl; all_goals (intro hc; try (exfalso; first | omega | contradiction | (simp at hc; omega) | (simp_all; done)))) | (apply ar_ev; (apply ev_move; rfl); rfl) | (apply ar_ev; (first | (apply ev_assign; rfl) | (apply ev_pick_f; rfl; rfl) | (apply ev_lss; rfl; rfl) | (apply ev_len_str; rfl)); rfl) | (apply ar_take; rfl; rfl; rfl; (apply ev_move; rfl); rfl) | (apply ar_take; rfl; rfl; rfl; (first | (apply ev_eqip; rfl; rfl) | (apply ev_gtr; rfl; rfl) | (apply ev_len_str; rfl) | (apply ev_index_bl; rfl; rfl; assumption)); rfl) | apply aw_seq | apply a_region | apply aw_block | apply aw_skip | (apply aw_condp; rfl; all_goals (intro hc; try (exfalso; first | omega | contradiction | (simp at hc; omega) | (simp_all; done)))) | apply go_seq)
    refine a_loop (fun i : Nat => ⟨[(0, vs s), (3, vi (numF ((bl s).take i))), (4, vi i)], []⟩) (fun i => i ≤ s.size ∧ ((bl s).take i).all digB = true) (fun i => s.size - i) 0 (Sub.of (by repeat (first | exact .nil | refine .cons rfl Le.refl ?_)) (by repeat (first | exact Takes.nil | (apply Takes.cons; focus (repeat (first | exact Take.head | apply Take.tail | apply Take.right)))))) ⟨Nat.zero_le _, by simp⟩ ?_
    rintro i ⟨hi, hall⟩
    have hb := numF_lt i ((bl s).take i) (by rw [List.length_take]; omega) hall
    have hb2 : numF ((bl s).take i) < 100000 := Nat.lt_of_lt_of_le hb (Nat.le_trans (Nat.pow_le_pow_right (by omega) (show i ≤ 5 by omega)) (by decide))
    repeat' (first | apply ar_nil | (apply ar_ev; (apply ev_move; rfl); rfl) | (apply ar_ev; (first | (apply ev_lss; rfl; rfl) | (apply ev_len_str; rfl)); rfl) | apply aw_seq | apply a_region | apply go_seq)
    refine aw_condp rfl (fun hk => ?_) (fun hk => ?_)
    · obtain ⟨c, hce⟩ : ∃ c, (bl s)[i]? = some c := ⟨_, List.getElem?_eq_getElem (by omega)⟩
      have hw := c.toNat_lt
      have hsn : (bl s).take (i + 1) = (bl s).take i ++ [c] := by rw [List.take_add_one, hce]; rfl
      by_cases hdig : 48 ≤ c.toNat ∧ c.toNat ≤ 57
      · have hcv := sub48 c hdig
        have hall2 : ((bl s).take (i + 1)).all digB = true := by rw [hsn, List.all_append, hall]; simp [digB, hdig]
        have hnum : (10 : Int) * (numF ((bl s).take i) : Nat) + ((c.toNat - 48 : Nat) : Int) = (numF ((bl s).take (i + 1)) : Nat) := by rw [hsn, numF_snoc]; omega
        clear hsn hall hp hhead
        generalize numF ((bl s).take i) = m at *
        repeat' (first | (rw [hcv]) | apply ar_nil | (apply ar_splitp; (apply ev_move; rfl); rfl; all_goals (intro hc; try (exfalso; first | omega | contradiction | (simp at hc; omega) | (simp_all; done)))) | (apply ar_ev; (apply ev_move; rfl); rfl) | (apply ar_ev; (first | (apply ev_mul; rfl; rfl; omega; omega) | (apply ev_assign; rfl) | (apply ev_pick_f; rfl; rfl) | (apply ev_lss; rfl; rfl) | (apply ev_inc; rfl; exact (by first | omega | assumption)) | (apply ev_add; rfl; rfl; exact (by first | omega | assumption); exact (by first | omega | assumption)) | (apply ev_index_bl; rfl; rfl; assumption) | (apply ev_conv_int; rfl) | (apply ev_subw; rfl; rfl)); rfl) | (apply ar_take; rfl; rfl; rfl; (apply ev_move; rfl); rfl) | (apply ar_take; rfl; rfl; rfl; (first | (apply ev_gtr; rfl; rfl) | (apply ev_index_bl; rfl; rfl; assumption)); rfl) | apply aw_seq | apply a_region | apply aw_block | apply aw_skip | (apply aw_condp; rfl; all_goals (intro hc; try (exfalso; first | omega | contradiction | (simp at hc; omega) | (simp_all; done)))) | apply go_seq | apply go_block)
        exact go_loop_back ⟨i + 1, ⟨by omega, hall2⟩, by omega, by rw [← hnum]; exact Sub.of (by repeat (first | exact .nil | refine .cons rfl Le.refl ?_)) (by repeat (first | exact Takes.nil | (apply Takes.cons; focus (repeat (first | exact Take.head | apply Take.tail | apply Take.right)))))⟩
      · have hf : (bl s).all digB = false := List.all_eq_false.2 ⟨c, List.mem_of_getElem? hce, by simp [digB]; omega⟩
        rw [hf, if_neg (fun h => by cases h.2)]
        clear hall hp hhead hsn
        repeat' (first | apply ar_nil | (apply ar_splitp; (apply ev_move; rfl); rfl; all_goals (intro hc; try (exfalso; first | omega | contradiction | (simp at hc; omega) | (simp_all; done)))) | (apply ar_ev; (apply ev_move; rfl); rfl) | (apply ar_ev; (first | (apply ev_assign; rfl) | (apply ev_pick_t; rfl; rfl) | (apply ev_pick_f; rfl; rfl) | (apply ev_lss; rfl; rfl) | (apply ev_index_bl; rfl; rfl; assumption)); rfl) | (apply ar_skip; rfl; rfl; rfl; rfl; rfl) | (apply ar_take; rfl; rfl; rfl; (apply ev_move; rfl); rfl) | (apply ar_take; rfl; rfl; rfl; (first | (apply ev_gtr; rfl; rfl) | (apply ev_index_bl; rfl; rfl; assumption)); rfl) | apply aw_seq | apply a_region | apply aw_block | apply aw_skip | apply aw_ret | (apply aw_condp; rfl; all_goals (intro hc; try (exfalso; first | omega | contradiction | (simp at hc; omega) | (simp_all; done)))) | (apply aw_cond_t; rfl) | apply go_seq | apply go_seq_ret | apply go_block_ret | apply go_loop_ret)
        all_goals exact g_ret1 (r_tmp rfl) .nil rfl
    · obtain rfl : i = s.size := by omega
      rw [List.take_of_length_le (by omega)] at hall ⊢
      rw [if_pos ⟨h48, hall⟩]
      repeat' (first | apply ar_nil | (apply ar_ev; (apply ev_move; rfl); rfl) | (apply ar_ev; (apply ev_assign; rfl); rfl) | apply aw_seq | apply a_region | apply aw_exit | apply aw_ret | apply go_seq | apply go_seq_exit | apply go_block_exit | apply go_loop_exit)
      exact g_ret1 (r_tmp rfl) .nil rfl
  · have hp : portN (bl s) = 0 := by
      unfold portN
      rw [if_neg]
      rintro ⟨h1, h2, -⟩
      exact hg ⟨fun e => h1 (List.eq_nil_of_length_eq_zero (by omega)), by omega⟩
    rw [hp]
    by_cases hse : s = ⟨#[]⟩
    · subst hse
      repeat' (first | apply ar_nil | (apply ar_ev; (apply ev_move (y := .val (.bool true)); rfl); rfl) | (apply ar_ev; (apply ev_move; rfl); rfl) | (apply ar_ev; (first | (apply ev_assign; rfl) | (apply ev_pick_t; rfl; rfl) | (apply ev_lss; rfl; rfl) | (apply ev_len_str; rfl)); rfl) | (apply ar_skip; rfl; rfl; rfl; rfl; rfl) | apply aw_seq | apply a_region | apply aw_ret | (apply aw_cond_t; rfl) | apply go_seq | apply go_seq_ret)
      exact g_ret1 (r_tmp rfl) .nil rfl
    · have : s.size ≠ 0 := fun e => hse (hz.2 e)
      clear hz
      repeat' (first | apply ar_nil | (apply ar_splitp; (apply ev_move; rfl); rfl; all_goals (intro hc; try (exfalso; first | omega | contradiction | (simp at hc; omega) | (simp_all; done)))) | (apply ar_ev; (apply ev_move; rfl); rfl) | (apply ar_ev; (first | (apply ev_assign; rfl) | (apply ev_pick_t; rfl; rfl) | (apply ev_pick_f; rfl; rfl) | (apply ev_lss; rfl; rfl) | (apply ev_len_str; rfl)); rfl) | (apply ar_skip; rfl; rfl; rfl; rfl; rfl) | (apply ar_take; rfl; rfl; rfl; (apply ev_move; rfl); rfl) | (apply ar_take; rfl; rfl; rfl; (first | (apply ev_gtr; rfl; rfl) | (apply ev_len_str; rfl)); rfl) | apply aw_seq | apply a_region | apply aw_ret | (apply aw_cond_t; rfl) | apply go_seq | apply go_seq_ret)
      exact g_ret1 (r_tmp rfl) .nil rfl
end Go.Proofs.YtjdcljggbbeikaaDoor
