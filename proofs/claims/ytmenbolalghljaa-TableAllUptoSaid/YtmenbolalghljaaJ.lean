import Derived.Test.YtmenbolalghljaaH
import Derived.Test.YtmenbolalghljaaAw40
set_option linter.unusedVariables false
set_option linter.unusedSimpArgs false
set_option maxRecDepth 100000
namespace Go.Proofs.Ytmenbolalghljaa
open Go.Proofs Go.Proofs.YtmenbolalghljaaA

/-! The mathematics of what stays. -/
theorem shr_neg {m : Int} (hm : m < 0) : ∀ l : List En, shr m l = []
  | [] => rfl
  | e :: r => by
    unfold shr
    rw [if_pos (by omega)]
    exact shr_neg hm r
theorem shr_id {m : Int} {l : List En} (h : (sumE l : Int) ≤ m) : shr m l = l := by
  cases l with
  | nil => rfl
  | cons e r => unfold shr; rw [if_neg (by omega)]
/-- What goes first makes no difference. -/
theorem shr_shr_app {a b : Int} (h : a ≤ b) (m : List En) : ∀ l : List En, shr a (shr b l ++ m) = shr a (l ++ m)
  | [] => rfl
  | e :: r => by
    by_cases hc : (sumE (e :: r) : Int) > b
    · rw [show shr b (e :: r) = shr b r from if_pos hc, shr_shr_app h m r]
      rw [List.cons_append, show shr a (e :: (r ++ m)) = shr a (r ++ m) from if_pos (by
        have := sumE_append (e :: r) m
        rw [List.cons_append] at this
        omega)]
    · rw [show shr b (e :: r) = e :: r from if_neg hc]
theorem shr_shr {a b : Int} (h : a ≤ b) (l : List En) : shr a (shr b l) = shr a l := by
  have := shr_shr_app h [] l
  simpa using this
theorem shr_snoc {m : Int} {e : En} (he : (szE e : Int) ≤ m) : ∀ l : List En, shr (m - szE e) l ++ [e] = shr m (l ++ [e])
  | [] => by
    have h1 : sumE [e] = szE e := by simp only [sumE]; omega
    exact (if_neg (by omega) : shr m [e] = [e]).symm
  | x :: r => by
    have hs := sumE_append (x :: r) [e]
    have h1 : sumE [e] = szE e := by simp only [sumE]; omega
    by_cases hc : (sumE (x :: r) : Int) > m - szE e
    · rw [show shr (m - szE e) (x :: r) = shr (m - szE e) r from if_pos hc, shr_snoc he r, List.cons_append]
      rw [List.cons_append] at hs
      rw [show shr m (x :: (r ++ [e])) = shr m (r ++ [e]) from if_pos (by omega)]
    · rw [show shr (m - szE e) (x :: r) = x :: r from if_neg hc, List.cons_append]
      rw [List.cons_append] at hs
      rw [show shr m (x :: (r ++ [e])) = x :: (r ++ [e]) from if_neg (by omega)]
theorem addN_shr (mx : Int) (l : List En) (e : En) : addN mx l e = shr mx (l ++ [e]) := by
  unfold addN
  split
  · exact shr_snoc (by assumption) l
  · rename_i hc
    rw [shr_neg (by omega)]
    have : ∀ l : List En, shr mx (l ++ [e]) = [] := by
      intro l
      induction l with
      | nil =>
        show shr mx [e] = []
        unfold shr
        rw [if_pos (by simp only [sumE]; omega)]; rfl
      | cons x r ih =>
        have hs := sumE_append (x :: r) [e]
        have h1 : sumE [e] = szE e := by simp only [sumE]; omega
        rw [List.cons_append] at hs ⊢
        rw [show shr mx (x :: (r ++ [e])) = shr mx (r ++ [e]) from if_pos (by omega)]
        exact ih
    exact (this l).symm
theorem addsN_shr (mx : Int) : ∀ (es l : List En), addsN mx (shr mx l) es = shr mx (l ++ es)
  | [], l => by simp [addsN]
  | e :: r, l => by
    show addsN mx (addN mx (shr mx l) e) r = _
    rw [addN_shr, shr_shr_app (Int.le_refl _), addsN_shr mx r]
    simp
/-- The longest end that fits, told by its place. -/
theorem shr_drop {m : Int} : ∀ (l : List En) (j : Nat), (sumE (l.drop j) : Int) ≤ m → (j = 0 ∨ (sumE (l.drop (j - 1)) : Int) > m) → shr m l = l.drop j
  | l, 0, h, _ => by simpa using shr_id (by simpa using h)
  | [], j + 1, _, _ => rfl
  | e :: r, j + 1, h, h2 => by
    have h3 : (sumE ((e :: r).drop j) : Int) > m := by simpa using h2
    have hge : ∀ (k : Nat) (x : List En), sumE (x.drop k) ≤ sumE x := by
      intro k x
      have := sumE_append (x.take k) (x.drop k)
      rw [List.take_append_drop] at this
      omega
    have h4 := hge j (e :: r)
    rw [show shr m (e :: r) = shr m r from if_pos (by omega)]
    exact shr_drop r j h (by
      cases j with
      | zero => exact .inl rfl
      | succ j => exact .inr (by simpa using h3))
theorem sum_drop {l : List En} {j : Nat} {e : En} (h : l[j]? = some e) : sumE (l.drop j) = szE e + sumE (l.drop (j + 1)) := by
  obtain ⟨hj, he⟩ := List.getElem?_eq_some_iff.1 h
  rw [List.drop_eq_getElem_cons hj, he]; rfl

/-! The law's own functions. -/
def bnd (n : Int) : Int := (if n < 0 then 0 - (n + 1) else n) % 65537
theorem bnd_le (n : Int) : 0 ≤ bnd n ∧ bnd n ≤ 65536 := by unfold bnd; omega
theorem bounded_ok (n : Int) (hn : -9223372036854775808 ≤ n ∧ n ≤ 9223372036854775807) : PFn Try.prog 15 [vi n] (vi (bnd n)) := by
  refine fn_of Try.func15 rfl Try.ntmps15 Try.results15 rfl fun G => ?_
  repeat' (first | apply ar_nil | (apply ar_ev; (apply ev_move; rfl); rfl) | (apply ar_ev; (first | (apply ev_neg rfl; omega; omega) | (apply ev_rem; rfl; rfl; decide) | (apply ev_assign; rfl) | (apply ev_lss; rfl; rfl) | (apply ev_add; rfl; rfl; exact (by first | omega | assumption); exact (by first | omega | assumption))); rfl) | apply aw_seq | apply a_region | apply aw_skip | apply aw_ret | (apply aw_condp; rfl; all_goals (intro hc; try (exfalso; first | omega | contradiction | (simp at hc; omega) | (simp_all; done)))) | apply go_seq)
  · rw [Int.tmod_eq_emod_of_nonneg (by omega)]
    exact g_ret1 (r_tmp rfl) .nil (by unfold bnd; rw [if_pos hc])
  · rw [Int.tmod_eq_emod_of_nonneg (by omega)]
    exact g_ret1 (r_tmp rfl) .nil (by unfold bnd; rw [if_neg hc])
theorem esize_ok (e : En) (h : OkE e) : PFn Try.prog 38 [.agg (encT e)] (vi (szE e : Nat)) := by
  refine fn_of Try.func38 rfl Try.ntmps38 Try.results38 rfl fun G => ?_
  have h1 := h.a
  have h2 := h.b
  have hs : ((e.1.size : Int) + (e.2.size : Int) + 32) = ((szE e : Nat) : Int) := by unfold szE; omega
  repeat' (first | apply ar_nil | (apply ar_ev; (first | (apply ev_load_ptr_one; rfl; (focus ((repeat (first | exact Take.head | apply Take.tail | apply Take.right)); done)); exact (by first | rfl | assumption | exact get_map (by assumption)); rfl) | (apply ev_fieldAddr_ptr; rfl) | (apply ev_assign; rfl) | (apply ev_add; rfl; rfl; exact (by first | omega | assumption); exact (by first | omega | assumption)) | (apply ev_len_str; rfl)); rfl) | (apply ar_new; (first | apply eff_alloc | (apply eff_box; rfl; exact lies_of rfl) | (apply eff_conv_bytes; rfl; exact (by first | omega | assumption | (simp; done) | (simp; omega) | exact Nat.le_of_ble_eq_true rfl))); exact .nil; rfl; intro lab) | apply aw_seq | apply a_region | apply aw_ret | apply go_seq)
  rw [hs]
  exact g_ret1 (r_tmp rfl) .nil rfl
set_option maxHeartbeats 8000000 in
theorem last_ok (l : List En) (most : Int) (hn : l.length ≤ 1099511627776) (hok : ∀ e, e ∈ l → OkE e) (hm : 0 ≤ most ∧ most ≤ 65536) : PFn Try.prog 18 [tsl l, vi most] (tsl (shr most l)) := by
  refine fn_of Try.func18 rfl Try.ntmps18 Try.results18 rfl fun G => ?_
  repeat' (first | apply ar_nil | (apply ar_ev; (apply ev_assign; rfl); rfl) | apply aw_seq | apply a_region | apply aw_block | apply go_seq)
  refine a_loop (fun j : Nat => ⟨[(0, tsl l), (1, vi most), (5, vi ((l.length - j : Nat))), (6, vi (sumE (l.drop j)))], []⟩)
    (fun j => j ≤ l.length ∧ (sumE (l.drop j) : Int) ≤ most) (fun j => j) l.length (by simp only [Nat.sub_self, List.drop_length]; exact Sub.of (by repeat (first | exact .nil | refine .cons rfl Le.refl ?_)) (by repeat (first | exact Takes.nil | (apply Takes.cons; focus (repeat (first | exact Take.head | apply Take.tail | apply Take.right)))))) ⟨Nat.le_refl _, by simp only [List.drop_length]; exact hm.1⟩ ?_
  rintro j ⟨hj, hs⟩
  cases j with
  | zero =>
    have hsh : shr most l = l.drop 0 := shr_drop l 0 hs (.inl rfl)
    have e0 : (((l.length - 0 : Nat)) : Int) = (l.length : Int) := by omega
    rw [e0]
    repeat' (first | apply ar_nil | (apply ar_splitp; (apply ev_move; rfl); rfl; all_goals (intro hc; try (exfalso; first | omega | contradiction | (simp at hc; omega) | (simp_all; done)))) | (apply ar_ev; (apply ev_move; rfl); rfl) | (apply ar_ev; (first | (apply ev_pick_f; rfl; rfl) | (apply ev_lss; rfl; rfl) | (apply ev_sub; rfl; rfl; exact (by first | omega | assumption); exact (by first | omega | assumption)) | (apply ev_len_sl; rfl)); rfl) | (apply ar_skip; rfl; rfl; rfl; rfl; rfl) | apply aw_seq | apply a_region | apply aw_exit | (apply aw_cond_f; rfl) | apply go_seq | apply go_seq_exit | apply go_block_exit | apply go_loop_exit)
    rw [Int.sub_self]
    repeat' (first | apply ar_nil | (apply ar_ev; (first | (apply ev_assign; rfl) | (apply ev_slice_sl; rfl; exact (by first | exact LoB.none | exact LoB.some (l := 0) rfl | exact LoB.some (l := 1) rfl | exact LoB.some rfl); exact (by first | exact HiB.none | exact HiB.some rfl); exact (by first | omega | assumption); exact (by first | omega | assumption | (simp; done) | (simp; omega) | exact Nat.le_of_ble_eq_true rfl))); rfl) | apply aw_ret | apply go_seq)
    exact g_ret1 (r_tmp rfl) .nil (by rw [hsh]; simp)
  | succ j =>
    obtain ⟨e, he⟩ : ∃ e, l[j]? = some e := ⟨_, List.getElem?_eq_getElem (by omega)⟩
    have he2 : (l.map encT)[j]? = some (encT e) := by simp [he]
    have hse := esize_ok e (hok e (List.mem_of_getElem? he))
    have hsd := sum_drop he
    have h1 := (hok e (List.mem_of_getElem? he)).a
    have h2 := (hok e (List.mem_of_getElem? he)).b
    have hz2 : szE e = e.1.size + e.2.size + 32 := rfl
    have ej : ((l.length : Int) - 1 - ((l.length - (j + 1) : Nat) : Int)) = ((j : Nat) : Int) := by omega
    have e1 : (((l.length - (j + 1) : Nat)) : Int) + 1 = ((l.length - j : Nat) : Int) := by omega
    have e2 : ((sumE (l.drop (j + 1)) : Nat) : Int) + ((szE e : Nat) : Int) = ((sumE (l.drop j) : Nat) : Int) := by omega
    have e3 : ((l.length : Int) - ((l.length - (j + 1) : Nat) : Int)) = ((j + 1 : Nat) : Int) := by omega
    by_cases hk : (sumE (l.drop j) : Int) ≤ most
    · repeat' (first | (apply ar_splitp; (apply ev_move; rfl); rfl; all_goals (intro hc; try (exfalso; first | omega | contradiction | (simp at hc; omega) | (simp_all; done)))) | (apply ar_ev; (apply ev_move; rfl); rfl) | (apply ar_ev; (first | (apply ev_lss; rfl; rfl) | (apply ev_len_sl; rfl)); rfl) | (apply ar_take; rfl; rfl; rfl; (apply ev_move; rfl); rfl) | (apply ar_take; rfl; rfl; rfl; (first | (apply ev_sub; rfl; rfl; exact (by first | omega | assumption); exact (by first | omega | assumption)) | (apply ev_len_sl; rfl)); rfl) | apply aw_seq | apply a_region)
      rw [ej]
      repeat' (first | apply ar_nil | (apply ar_ev; (apply ev_move; rfl); rfl) | (apply ar_ev; (first | (apply ev_pick_t; rfl; rfl) | (apply ev_sub; rfl; rfl; exact (by first | omega | assumption); exact (by first | omega | assumption)) | (apply ev_len_sl; rfl)); rfl) | (apply ar_take; rfl; rfl; rfl; (apply ev_move; rfl); rfl) | (apply ar_take; rfl; rfl; rfl; (first | exact ev_call rfl rfl hse | (apply ev_load_ip_agg; rfl; exact Nat.le_of_ble_eq_true rfl) | (apply ev_leq; rfl; rfl) | (apply ev_add; rfl; rfl; exact (by first | omega | assumption); exact (by first | omega | assumption)) | (apply ev_indexAddr_sl; rfl; rfl; exact (by first | omega | assumption); exact (by first | rfl | assumption | exact get_map (by assumption)))); rfl) | apply aw_seq | apply a_region | apply aw_block | apply aw_skip | (apply aw_condp; rfl; all_goals (intro hc; try (exfalso; first | omega | contradiction | (simp at hc; omega) | (simp_all; done)))) | apply go_seq)
      rw [ej]
      repeat' (first | apply ar_nil | (apply ar_ev; (apply ev_move; rfl); rfl) | (apply ar_ev; (first | exact ev_call rfl rfl hse | (apply ev_assign; rfl) | (apply ev_load_ip_agg; rfl; exact Nat.le_of_ble_eq_true rfl) | (apply ev_inc; rfl; exact (by first | omega | assumption)) | (apply ev_add; rfl; rfl; exact (by first | omega | assumption); exact (by first | omega | assumption)) | (apply ev_indexAddr_sl; rfl; rfl; exact (by first | omega | assumption); exact (by first | rfl | assumption | exact get_map (by assumption)))); rfl) | apply a_region | apply go_seq | apply go_block)
      refine go_loop_back ⟨j, ⟨by omega, hk⟩, by omega, ?_⟩
      rw [← e2, show l.length - j = l.length - (j + 1) + 1 by omega]
      exact Sub.of (by repeat (first | exact .nil | refine .cons rfl Le.refl ?_)) (by repeat (first | exact Takes.nil | (apply Takes.cons; focus (repeat (first | exact Take.head | apply Take.tail | apply Take.right)))))
    · have hsh : shr most l = l.drop (j + 1) := shr_drop l (j + 1) hs (.inr (by simp only [Nat.add_sub_cancel]; omega))
      repeat' (first | (apply ar_splitp; (apply ev_move; rfl); rfl; all_goals (intro hc; try (exfalso; first | omega | contradiction | (simp at hc; omega) | (simp_all; done)))) | (apply ar_ev; (apply ev_move; rfl); rfl) | (apply ar_ev; (first | (apply ev_lss; rfl; rfl) | (apply ev_len_sl; rfl)); rfl) | (apply ar_take; rfl; rfl; rfl; (apply ev_move; rfl); rfl) | (apply ar_take; rfl; rfl; rfl; (first | (apply ev_sub; rfl; rfl; exact (by first | omega | assumption); exact (by first | omega | assumption)) | (apply ev_len_sl; rfl)); rfl) | apply aw_seq | apply a_region)
      rw [ej]
      repeat' (first | apply ar_nil | (apply ar_ev; (apply ev_move; rfl); rfl) | (apply ar_ev; (first | (apply ev_pick_t; rfl; rfl) | (apply ev_sub; rfl; rfl; exact (by first | omega | assumption); exact (by first | omega | assumption)) | (apply ev_len_sl; rfl)); rfl) | (apply ar_take; rfl; rfl; rfl; (apply ev_move; rfl); rfl) | (apply ar_take; rfl; rfl; rfl; (first | exact ev_call rfl rfl hse | (apply ev_load_ip_agg; rfl; exact Nat.le_of_ble_eq_true rfl) | (apply ev_leq; rfl; rfl) | (apply ev_add; rfl; rfl; exact (by first | omega | assumption); exact (by first | omega | assumption)) | (apply ev_indexAddr_sl; rfl; rfl; exact (by first | omega | assumption); exact (by first | rfl | assumption | exact get_map (by assumption)))); rfl) | apply aw_seq | apply a_region | apply aw_exit | (apply aw_condp; rfl; all_goals (intro hc; try (exfalso; first | omega | contradiction | (simp at hc; omega) | (simp_all; done)))) | apply go_seq | apply go_seq_exit | apply go_block_exit | apply go_loop_exit)
      rw [e3]
      repeat' (first | apply ar_nil | (apply ar_ev; (first | (apply ev_assign; rfl) | (apply ev_slice_sl; rfl; exact (by first | exact LoB.none | exact LoB.some (l := 0) rfl | exact LoB.some (l := 1) rfl | exact LoB.some rfl); exact (by first | exact HiB.none | exact HiB.some rfl); exact (by first | omega | assumption); exact (by first | omega | assumption | (simp; done) | (simp; omega) | exact Nat.le_of_ble_eq_true rfl))); rfl) | apply aw_ret | apply go_seq)
      exact g_ret1 (r_tmp rfl) .nil (by rw [hsh]; simp [List.map_drop])
theorem sum_take {l : List En} {i : Nat} {e : En} (h : l[i]? = some e) : sumE (l.take (i + 1)) = sumE (l.take i) + szE e := by
  rw [List.take_add_one, h, sumE_append]
  simp only [Option.toList, sumE]; omega
theorem at_mov {l : List En} {i : Nat} {e : En} (h : l[i]? = some e) : atN l (61 + (l.length : Int) - (i : Int)) = (e, 0) := by
  have hi := (List.getElem?_eq_some_iff.1 h).1
  have hE : (allE l)[60 + l.length - i]? = some e := by
    unfold allE
    rw [List.getElem?_append_right (by rw [fixed_len]; omega), fixed_len, List.getElem?_reverse (by omega), show l.length - 1 - (60 + l.length - i - 61) = i by omega]
    exact h
  have := atN_some hE
  rwa [show (((60 + l.length - i : Nat)) : Int) + 1 = 61 + (l.length : Int) - (i : Int) by omega] at this
set_option maxHeartbeats 8000000 in
theorem holds_ok (mx : Int) (l : List En) (hn : l.length ≤ 1099511627776) (hok : ∀ e, e ∈ l → OkE e) (hm : (sumE l : Int) ≤ 65536) : PFn Try.prog 19 [tabI mx (sumE l) l, tsl l] (vb true) := by
  refine fn_of Try.func19 rfl Try.ntmps19 Try.results19 rfl fun G => ?_
  have htk : ∀ i, sumE (l.take i) ≤ sumE l := fun i => by
    have := sumE_append (l.take i) (l.drop i)
    rw [List.take_append_drop] at this
    omega
  repeat' (first | apply ar_nil | (apply ar_ev; (apply ev_assign; rfl); rfl) | apply aw_seq | apply a_region | apply aw_block | apply go_seq)
  refine a_loop (fun i : Nat => ⟨[(0, tabI mx (sumE l) l), (1, tsl l), (5, vi (sumE (l.take i))), (6, vi i)], []⟩)
    (fun i => i ≤ l.length) (fun i => l.length - i) 0 (Sub.of (by repeat (first | exact .nil | refine .cons rfl Le.refl ?_)) (by repeat (first | exact Takes.nil | (apply Takes.cons; focus (repeat (first | exact Take.head | apply Take.tail | apply Take.right)))))) (Nat.zero_le _) ?_
  intro i hi
  repeat' (first | apply ar_nil | (apply ar_ev; (apply ev_move; rfl); rfl) | (apply ar_ev; (first | (apply ev_lss; rfl; rfl) | (apply ev_len_sl; rfl)); rfl) | apply aw_seq | apply a_region | apply go_seq)
  refine aw_condp rfl (fun hk => ?_) (fun hk => ?_)
  · obtain ⟨e, he⟩ : ∃ e, l[i]? = some e := ⟨_, List.getElem?_eq_getElem (by omega)⟩
    have he2 : (l.map encT)[i]? = some (encT e) := by simp [he]
    have hat := At_ok mx (sumE l) l hn (61 + (l.length : Int) - (i : Int)) (by omega)
    rw [at_mov he] at hat
    dsimp only [atV] at hat
    have hse := esize_ok e (hok e (List.mem_of_getElem? he))
    have hs := sum_take he
    have ht1 := htk i
    have ht2 := htk (i + 1)
    have e1 : ((sumE (l.take i) : Nat) : Int) + ((szE e : Nat) : Int) = ((sumE (l.take (i + 1)) : Nat) : Int) := by omega
    repeat' (first | apply ar_nil | (apply ar_splitp; (apply ev_move; rfl); rfl; all_goals (intro hc; try (exfalso; first | omega | contradiction | (simp at hc; omega) | (simp_all; done)))) | (apply ar_ev; (apply ev_move; rfl); rfl) | (apply ar_ev; (first | exact ev_call rfl rfl hat | exact ev_call rfl rfl hse | (apply ev_assign; rfl) | (apply ev_pick_f; rfl; rfl) | (apply ev_load_ip_agg; rfl; exact Nat.le_of_ble_eq_true rfl) | (apply ev_neip; rfl; rfl) | (apply ev_inc; rfl; exact (by first | omega | assumption)) | (apply ev_add; rfl; rfl; exact (by first | omega | assumption); exact (by first | omega | assumption)) | (apply ev_sub; rfl; rfl; exact (by first | omega | assumption); exact (by first | omega | assumption)) | (apply ev_len_sl; rfl) | (apply ev_indexAddr_sl; rfl; rfl; exact (by first | omega | assumption); exact (by first | rfl | assumption | exact get_map (by assumption))) | (apply ev_extract; rfl; rfl)); rfl) | (apply ar_take; rfl; rfl; rfl; (apply ev_move; rfl); rfl) | (apply ar_take; rfl; rfl; rfl; (first | (apply ev_load_ip_one; rfl; rfl) | (apply ev_fieldAddr_ip; rfl) | (apply ev_nesp; rfl; rfl) | (apply ev_indexAddr_sl; rfl; rfl; exact (by first | omega | assumption); exact (by first | rfl | assumption | exact get_map (by assumption)))); rfl) | apply aw_seq | apply a_region | apply aw_block | apply aw_skip | (apply aw_condp; rfl; all_goals (intro hc; try (exfalso; first | omega | contradiction | (simp at hc; omega) | (simp_all; done)))) | apply go_seq | apply go_block)
    exact go_loop_back ⟨i + 1, by omega, by omega, by rw [← e1]; exact Sub.of (by repeat (first | exact .nil | refine .cons rfl Le.refl ?_)) (by repeat (first | exact Takes.nil | (apply Takes.cons; focus (repeat (first | exact Take.head | apply Take.tail | apply Take.right)))))⟩
  · obtain rfl : i = l.length := by omega
    have hat := At_ok mx (sumE l) l hn (62 + (l.length : Int)) (by omega)
    rw [atN_none (by omega)] at hat
    dsimp only [atV] at hat
    have hlen := Len_ok mx (sumE l) l
    have hsz := Size_ok mx (sumE l) l
    rw [List.take_length]
    repeat' (first | apply ar_nil | (apply ar_splitp; (apply ev_move; rfl); rfl; all_goals (intro hc; try (exfalso; first | omega | contradiction | (simp at hc; omega) | (simp_all; done)))) | (apply ar_ev; (apply ev_move; rfl); rfl) | (apply ar_ev; (first | exact ev_call rfl rfl hat | (apply ev_assign; rfl) | (apply ev_pick_t; rfl; rfl) | (apply ev_eqip; rfl; rfl) | (apply ev_add; rfl; rfl; exact (by first | omega | assumption); exact (by first | omega | assumption)) | (apply ev_len_sl; rfl) | (apply ev_extract; rfl; rfl)); rfl) | (apply ar_take; rfl; rfl; rfl; (apply ev_move; rfl); rfl) | (apply ar_take; rfl; rfl; rfl; (first | exact ev_call rfl rfl hlen | exact ev_call rfl rfl hsz | (apply ev_eqip; rfl; rfl) | (apply ev_len_sl; rfl)); rfl) | apply aw_seq | apply a_region | apply aw_exit | apply aw_ret | apply go_seq | apply go_seq_exit | apply go_block_exit | apply go_loop_exit)
    exact g_ret1 (r_tmp rfl) .nil (by simp)
end Go.Proofs.Ytmenbolalghljaa
