import Derived.Test.YtphkfejckafamaaDoorD
set_option linter.unusedVariables false
set_option linter.unusedSimpArgs false
set_option maxRecDepth 100000
namespace Go.Proofs.YtphkfejckafamaaDoor
open Go.Proofs Go.Proofs.YtphkfejckafamaaDoorA

/-- The cells of a set of bytes. -/
def aset (l : List UInt8) : List AV := (List.range 256).map fun n => vb (l.any fun c => c.toNat == n)
theorem aset_len (l : List UInt8) : (aset l).length = 256 := by simp [aset]
theorem aset_get (l : List UInt8) {n : Nat} (h : n < 256) : (aset l)[n]? = some (vb (l.any fun c => c.toNat == n)) := by
  simp [aset, h]
theorem aset_set (l : List UInt8) (c : UInt8) : (aset l).set c.toNat (vb true) = aset (l ++ [c]) := by
  apply List.ext_getElem?
  intro n
  have hc : c.toNat < 256 := c.toNat_lt
  by_cases hn : n < 256
  · rw [aset_get _ hn]
    by_cases he : c.toNat = n
    · subst he
      rw [List.getElem?_set_self (by rw [aset_len]; exact hn)]
      simp
    · rw [List.getElem?_set_ne he, aset_get _ hn]
      simp [he]
  · rw [List.getElem?_eq_none (by rw [List.length_set, aset_len]; omega), List.getElem?_eq_none (by rw [aset_len]; omega)]
theorem aset_nil : vcells (.agg (Array.replicate 256 (.bool false))) = aset [] := by kernel_rfl
theorem aset_put (l m : List UInt8) : putCells (aset m) 0 (aset l) = aset l := by
  unfold putCells
  rw [List.take_zero, List.nil_append, List.drop_eq_nil_of_le (by rw [aset_len, aset_len]; omega), List.append_nil]
theorem aset_take (l : List UInt8) : List.take 256 (List.drop 0 (aset l)) = aset l := by
  rw [List.drop_zero, List.take_of_length_le (by rw [aset_len]; omega)]
theorem aset_drop (l : List UInt8) (c : UInt8) : (aset l).drop (c.toNat * 1) = vb (l.contains c) :: (aset l).drop (c.toNat + 1) := by
  have hc : c.toNat < 256 := c.toNat_lt
  rw [Nat.mul_one, List.drop_eq_getElem_cons (by rw [aset_len]; exact hc)]
  congr 1
  have := aset_get l hc
  rw [List.getElem?_eq_getElem (by rw [aset_len]; exact hc)] at this
  rw [Option.some.inj this]
  congr 2
  clear this
  induction l with
  | nil => rfl
  | cons a l ih =>
    rw [List.any_cons, List.contains_cons, ih]
    congr 1
    rw [Bool.eq_iff_iff, beq_iff_eq, beq_iff_eq]
    exact ⟨fun h => (UInt8.toNat_inj.1 h).symm, fun h => h ▸ rfl⟩

set_option maxHeartbeats 2000000 in
theorem mkset_ok : PFn Tryd.prog 76 [vs ⟨#[32, 9]⟩] (.tup [.agg (aset [32, 9]), vb true]) := by
  refine fn_of Tryd.func76 rfl Tryd.ntmps76 Tryd.results76 rfl fun G => ?_
  repeat' (first | apply ar_nil | (apply ar_ev; (apply ev_assign; rfl); rfl) | (apply ar_new; (first | apply eff_alloc | (apply eff_box; rfl; exact lies_of rfl) | (apply eff_conv_bytes; rfl; exact (by first | omega | assumption | (simp; done) | (simp; omega) | exact Nat.le_of_ble_eq_true rfl))); exact .nil; rfl; intro lab) | apply aw_seq | apply a_region | apply aw_block | apply go_seq)
  rename Nat => lab
  refine a_loop (fun i : Nat => ⟨[(0, vs ⟨#[32, 9]⟩), (2, .ptr lab 0 0), (3, vb false), (4, vi i)], [(lab, .row 111 256 [aset (([32, 9] : List UInt8).take i)])]⟩) (fun i => i ≤ 2) (fun i => 2 - i) 0 (by rw [aset_nil]; exact Sub.of (by repeat (first | exact .nil | refine .cons rfl Le.refl ?_)) (by repeat (first | exact Takes.nil | (apply Takes.cons; focus (repeat (first | exact Take.head | apply Take.tail | apply Take.right)))))) (Nat.zero_le _) ?_
  rintro i hi
  have hsz : (⟨#[32, 9]⟩ : ByteArray).size = 2 := rfl
  repeat' (first | apply ar_nil | (apply ar_ev; (apply ev_move; rfl); rfl) | (apply ar_ev; (first | (apply ev_lss; rfl; rfl) | (apply ev_len_str; rfl)); rfl) | apply aw_seq | apply a_region | apply go_seq)
  refine aw_condp rfl (fun hk => ?_) (fun hk => ?_)
  · have hi2 : i = 0 ∨ i = 1 := by omega
    obtain ⟨c, hce, hs, hc⟩ : ∃ c, (bl ⟨#[32, 9]⟩)[i]? = some c ∧ ([32, 9] : List UInt8).take (i + 1) = ([32, 9] : List UInt8).take i ++ [c] ∧ c.toNat < 128 := by
      rcases hi2 with rfl | rfl
      · exact ⟨32, rfl, rfl, by decide⟩
      · exact ⟨9, rfl, rfl, by decide⟩
    clear hi2
    repeat' (first | apply ar_nil | (apply ar_ev; (apply ev_move; rfl); rfl) | (apply ar_ev; (first | (apply ev_assign; rfl) | (apply ev_geq; rfl; rfl) | (apply ev_index_bl; rfl; rfl; assumption) | (apply ev_indexAddr_arr; rfl; rfl; exact (by first | omega | assumption))); rfl) | apply aw_seq | apply a_region | apply aw_block | apply aw_skip | (apply aw_condp; rfl; all_goals (intro hc; try (exfalso; first | omega | contradiction | (simp at hc; omega) | (simp_all; done)))) | apply go_seq)
    apply ar_store1; rfl; exact (by repeat (first | exact Take.head | apply Take.tail | apply Take.right)); rfl; rfl; rfl; exact (by rw [Nat.blt_eq]; omega)
    have hrow : [aset (([32, 9] : List UInt8).take i)].set 0 ((aset (([32, 9] : List UInt8).take i)).set (0 + c.toNat * 1) (vb true)) = [aset (([32, 9] : List UInt8).take (i + 1))] := by
      rw [hs, ← aset_set, Nat.zero_add, Nat.mul_one]; rfl
    repeat' (first | apply ar_nil | (apply ar_ev; (apply ev_move; rfl); rfl) | (apply ar_ev; (first | (apply ev_assign; rfl) | (apply ev_inc; rfl; exact (by first | omega | assumption))); rfl) | apply a_region | apply go_seq | apply go_block)
    exact go_loop_back ⟨i + 1, by omega, by omega, Sub.of (by repeat (first | exact .nil | refine .cons rfl Le.refl ?_)) (by repeat (first | exact Takes.nil | (apply Takes.cons; focus (repeat (first | exact Take.head | exact Take.rowc hrow Take.head | apply Take.tail | apply Take.right)))))⟩
  · obtain rfl : i = 2 := by omega
    repeat' (first | apply ar_nil | (apply ar_ev; (first | (apply ev_assign; rfl) | (apply ev_load_ptr_agg; rfl; (focus ((repeat (first | exact Take.head | apply Take.tail | apply Take.right)); done)); exact (by first | rfl | assumption | exact get_map (by assumption)); exact Nat.le_of_ble_eq_true rfl)); rfl) | (apply ar_store; rfl; (focus ((repeat (first | exact Take.head | apply Take.tail | apply Take.right)); done)); rfl; rfl; exact (by first | rfl | assumption | exact get_map (by assumption)); rfl; rfl) | apply aw_seq | apply a_region | apply aw_exit | apply aw_ret | apply go_seq | apply go_seq_exit | apply go_block_exit | apply go_loop_exit)
    refine g_ret2 (r_cell rfl (by repeat (first | exact Take.head | apply Take.tail | apply Take.right)) rfl rfl) (r_tmp rfl) .nil ?_
    have e : (AV.agg (List.take 256 (List.drop 0 (aset (List.take 2 [32, 9]))))).cells = aset [32, 9] := aset_take _
    show AV.tup [.agg (List.take 256 (List.drop 0 (putCells (aset [32, 9]) 0 (AV.agg (List.take 256 (List.drop 0 (aset (List.take 2 [32, 9]))))).cells))), vb true] = _
    rw [e, aset_put, aset_take]

abbrev S9 : List AV := aset [32, 9]
theorem has_ok (c : UInt8) : PFn Tryd.prog 96 [.ip S9, v8 c] (vb (bk c)) := by
  refine fn_of Tryd.func96 rfl Tryd.ntmps96 Tryd.results96 rfl fun G => ?_
  have hc : c.toNat < 256 := c.toNat_lt
  have hd := aset_drop [32, 9] c
  have hb : ([32, 9] : List UInt8).contains c = bk c := by simp [bk]; rfl
  rw [hb] at hd
  repeat' (first | apply ar_nil | (apply ar_ev; (apply ev_move; rfl); rfl) | (apply ar_ev; (first | (apply ev_load_ip_one; rfl; exact hd) | (apply ev_assign; rfl) | (apply ev_nilCheck_ip; rfl) | (apply ev_indexAddr_arrip; rfl; rfl; exact (by first | omega | assumption))); rfl) | apply aw_seq | apply a_region | apply aw_ret | apply go_seq)
  exact g_ret1 (r_tmp rfl) .nil rfl
theorem trimRA_ok (s : ByteArray) (hn : s.size ≤ 1099511627776) : PFn Tryd.prog 78 [vs s, .ip S9] (vs (BA (trimR (bl s)))) := by
  refine fn_of Tryd.func78 rfl Tryd.ntmps78 Tryd.results78 rfl fun G => ?_
  repeat' (first | apply ar_nil | (apply ar_ev; (apply ev_assign; rfl); rfl) | apply aw_seq | apply a_region | apply aw_block | apply go_seq)
  refine a_loop (fun l : List UInt8 => ⟨[(0, vs (BA l)), (1, .ip S9)], []⟩) (fun l => trimR l = trimR (bl s) ∧ l.length ≤ s.size) (fun l => l.length) (bl s) (by rw [BA_bl]; exact Sub.of (by repeat (first | exact .nil | refine .cons rfl Le.refl ?_)) (by repeat (first | exact Takes.nil | (apply Takes.cons; focus (repeat (first | exact Take.head | apply Take.tail | apply Take.right)))))) ⟨rfl, by rw [bl_length]; exact Nat.le_refl _⟩ ?_
  rintro l ⟨hl, hls⟩
  rcases List.eq_nil_or_concat l with rfl | ⟨l, c, rfl⟩
  · have h0 : (BA []).size = 0 := rfl
    repeat' (first | apply ar_nil | (apply ar_ev; (apply ev_move; rfl); rfl) | (apply ar_ev; (first | (apply ev_assign; rfl) | (apply ev_gtr; rfl; rfl) | (apply ev_len_str; rfl)); rfl) | apply aw_seq | apply a_region | apply aw_exit | apply aw_ret | (apply aw_condp; rfl; all_goals (intro hc; try (exfalso; first | omega | contradiction | (simp at hc; omega) | (simp_all; done)))) | apply go_seq | apply go_seq_exit | apply go_block_exit | apply go_loop_exit)
    exact g_ret1 (r_tmp rfl) .nil (by rw [← hl]; rfl)
  · rw [List.concat_eq_append] at *
    have h0 := BA_size (l ++ [c])
    have hb : (bl (BA (l ++ [c])))[l.length]? = some c := by simp
    have hx : (BA (l ++ [c])).extract 0 l.length = BA l := by rw [BA_extract]; simp
    have hm : ((BA (l ++ [c])).size : Int) - 1 = (l.length : Nat) := by rw [h0]; simp
    have h1 : (BA (l ++ [c])).size = l.length + 1 := by rw [h0]; simp
    rw [List.length_append, List.length_singleton] at hls
    repeat' (first | apply ar_nil | (apply ar_ev; (apply ev_move; rfl); rfl) | (apply ar_ev; (first | (apply ev_gtr; rfl; rfl) | (apply ev_sub; rfl; rfl; exact (by first | omega | assumption); exact (by first | omega | assumption)) | (apply ev_len_str; rfl)); rfl) | apply aw_seq | apply a_region | apply aw_block | apply aw_skip | (apply aw_condp; rfl; all_goals (intro hc; try (exfalso; first | omega | contradiction | (simp at hc; omega) | (simp_all; done)))) | apply go_seq)
    rw [hm]
    repeat' (first | apply ar_nil | (apply ar_ev; (apply ev_move; rfl); rfl) | (apply ar_ev; (first | exact ev_call rfl rfl (has_ok c) | (apply ev_assign; rfl) | (apply ev_sub; rfl; rfl; exact (by first | omega | assumption); exact (by first | omega | assumption)) | (apply ev_len_str; rfl) | (apply ev_not; rfl) | (apply ev_index_bl; rfl; rfl; assumption)); rfl) | apply aw_seq | apply a_region | apply aw_skip | apply aw_exit | apply aw_ret | (apply aw_condb; rfl; all_goals (intro hc; try (exfalso; first | omega | contradiction | (simp at hc; omega) | (simp_all; done)))) | apply go_seq | apply go_seq_exit | apply go_block_exit | (apply go_block_pass; rfl) | apply go_loop_exit)
    · have hf : l ++ [c] = trimR (bl s) := by rw [← hl, trimR_snoc, if_neg (by simpa using hc)]
      exact g_ret1 (r_tmp rfl) .nil (by rw [hf])
    · rw [hm]
      repeat' (first | apply ar_nil | (apply ar_ev; (first | (apply ev_assign; rfl) | (apply ev_slice_str; rfl; exact (by first | exact LoB.none | exact LoB.some (l := 0) rfl | exact LoB.some (l := 1) rfl | exact LoB.some rfl); exact (by first | exact HiB.none | exact HiB.some rfl); exact (by first | omega | assumption); exact (by first | omega | assumption))); rfl) | apply go_block)
      rw [hx]
      refine go_loop_back ⟨l, ⟨?_, by omega⟩, by simp, Sub.of (by repeat (first | exact .nil | refine .cons rfl Le.refl ?_)) (by repeat (first | exact Takes.nil | (apply Takes.cons; focus (repeat (first | exact Take.head | apply Take.tail | apply Take.right)))))⟩
      rw [trimR_snoc, if_pos (by simpa using hc)] at hl
      exact hl
theorem trimLA_ok (s : ByteArray) (hn : s.size ≤ 1099511627776) : PFn Tryd.prog 77 [vs s, .ip S9] (vs (BA (trimL (bl s)))) := by
  refine fn_of Tryd.func77 rfl Tryd.ntmps77 Tryd.results77 rfl fun G => ?_
  repeat' (first | apply ar_nil | (apply ar_ev; (apply ev_assign; rfl); rfl) | apply aw_seq | apply a_region | apply aw_block | apply go_seq)
  refine a_loop (fun l : List UInt8 => ⟨[(0, vs (BA l)), (1, .ip S9)], []⟩) (fun l => trimL l = trimL (bl s) ∧ l.length ≤ s.size) (fun l => l.length) (bl s) (by rw [BA_bl]; exact Sub.of (by repeat (first | exact .nil | refine .cons rfl Le.refl ?_)) (by repeat (first | exact Takes.nil | (apply Takes.cons; focus (repeat (first | exact Take.head | apply Take.tail | apply Take.right)))))) ⟨rfl, by rw [bl_length]; exact Nat.le_refl _⟩ ?_
  rintro l ⟨hl, hls⟩
  rcases l with _ | ⟨c, l⟩
  · have h0 : (BA []).size = 0 := rfl
    repeat' (first | apply ar_nil | (apply ar_ev; (apply ev_move; rfl); rfl) | (apply ar_ev; (first | (apply ev_assign; rfl) | (apply ev_gtr; rfl; rfl) | (apply ev_len_str; rfl)); rfl) | apply aw_seq | apply a_region | apply aw_exit | apply aw_ret | (apply aw_condp; rfl; all_goals (intro hc; try (exfalso; first | omega | contradiction | (simp at hc; omega) | (simp_all; done)))) | apply go_seq | apply go_seq_exit | apply go_block_exit | apply go_loop_exit)
    exact g_ret1 (r_tmp rfl) .nil (by rw [← hl]; rfl)
  · have h0 := BA_size (c :: l)
    have hb : (bl (BA (c :: l)))[0]? = some c := by simp
    have hx : (BA (c :: l)).extract 1 (BA (c :: l)).size = BA l := by rw [BA_extract, h0]; simp
    rw [List.length_cons] at h0 hls
    repeat' (first | apply ar_nil | (apply ar_ev; (apply ev_move; rfl); rfl) | (apply ar_ev; (first | exact ev_call rfl rfl (has_ok c) | (apply ev_assign; rfl) | (apply ev_gtr; rfl; rfl) | (apply ev_len_str; rfl) | (apply ev_not; rfl) | (apply ev_index_bl; rfl; rfl; assumption) | (apply ev_slice_str; rfl; exact (by first | exact LoB.none | exact LoB.some (l := 0) rfl | exact LoB.some (l := 1) rfl | exact LoB.some rfl); exact (by first | exact HiB.none | exact HiB.some rfl); exact (by first | omega | assumption); exact (by first | omega | assumption))); rfl) | apply aw_seq | apply a_region | apply aw_block | apply aw_skip | apply aw_exit | apply aw_ret | (apply aw_condp; rfl; all_goals (intro hc; try (exfalso; first | omega | contradiction | (simp at hc; omega) | (simp_all; done)))) | (apply aw_condb; rfl; all_goals (intro hc; try (exfalso; first | omega | contradiction | (simp at hc; omega) | (simp_all; done)))) | apply go_seq | apply go_seq_exit | apply go_block | apply go_block_exit | (apply go_block_pass; rfl) | apply go_loop_exit)
    · have hf : c :: l = trimL (bl s) := by rw [← hl, trimL_cons, if_neg (by simpa using hc)]
      exact g_ret1 (r_tmp rfl) .nil (by rw [hf])
    · rw [hx]
      refine go_loop_back ⟨l, ⟨?_, by omega⟩, by simp, Sub.of (by repeat (first | exact .nil | refine .cons rfl Le.refl ?_)) (by repeat (first | exact Takes.nil | (apply Takes.cons; focus (repeat (first | exact Take.head | apply Take.tail | apply Take.right)))))⟩
      rw [trimL_cons, if_pos (by simpa using hc)] at hl
      exact hl
theorem trim_ok (s : ByteArray) (hn : s.size ≤ 1099511627776) : PFn Tryd.prog 44 [vs s, vs ⟨#[32, 9]⟩] (vs (BA (trim (bl s)))) := by
  refine fn_of Tryd.func44 rfl Tryd.ntmps44 Tryd.results44 rfl fun G => ?_
  have h1 : (⟨#[32, 9]⟩ : ByteArray).size = 2 := rfl
  have e : ([vcells (.agg (Array.replicate 256 (.bool false)))].set 0 (putCells (vcells (.agg (Array.replicate 256 (.bool false)))) 0 (AV.agg (aset [32, 9])).cells)) = [S9] := by
    rw [aset_nil]; exact congrArg (fun x => [x]) (aset_put [32, 9] [])
  have hR : (BA (trimR (bl s))).size ≤ 1099511627776 := by
    refine Nat.le_trans ?_ hn
    rw [BA_size, ← bl_length s, trimR, List.length_reverse]
    exact Nat.le_trans (List.dropWhile_suffix _).length_le (by rw [List.length_reverse]; exact Nat.le_refl _)
  repeat' (first | apply ar_nil | (apply ar_splitp; (apply ev_move; rfl); rfl; all_goals (intro hc; try (exfalso; first | omega | contradiction | (simp at hc; omega) | (simp_all; done)))) | (apply ar_ev; (apply ev_move (y := .val (.bool true)); rfl); rfl) | (apply ar_ev; (apply ev_move; rfl); rfl) | (apply ar_ev; (first | exact ev_call rfl rfl mkset_ok | (apply ev_assign; rfl) | (apply ev_pick_t; rfl; rfl) | (apply ev_pick_f; rfl; rfl) | (apply ev_eqip; rfl; rfl) | (apply ev_eqsp; rfl; rfl) | (apply ev_len_str; rfl) | (apply ev_extract; rfl; rfl)); rfl) | (apply ar_new; (first | apply eff_alloc | (apply eff_box; rfl; exact lies_of rfl) | (apply eff_conv_bytes; rfl; exact (by first | omega | assumption | (simp; done) | (simp; omega) | exact Nat.le_of_ble_eq_true rfl))); exact .nil; rfl; intro lab) | (apply ar_store; rfl; (focus ((repeat (first | exact Take.head | apply Take.tail | apply Take.right)); done)); rfl; rfl; exact (by first | rfl | assumption | exact get_map (by assumption)); rfl; rfl) | (apply ar_skip; rfl; rfl; rfl; rfl; rfl) | (apply ar_take; rfl; rfl; rfl; (apply ev_move; rfl); rfl) | (apply ar_take; rfl; rfl; rfl; (apply ev_eqsp; rfl; rfl); rfl) | apply aw_seq | apply a_region | apply aw_skip | apply aw_ret | (apply aw_condp; rfl; all_goals (intro hc; try (exfalso; first | omega | contradiction | (simp at hc; omega) | (simp_all; done)))) | (apply aw_cond_t; rfl) | (apply aw_cond_f; rfl) | apply go_seq | apply go_seq_ret)
  · rw [hc]
    exact g_ret1 (r_tmp rfl) .nil rfl
  · rw [e]
    refine ar_cv 5 rfl (.cons .head .nil) (Cv.ptr0 .head rfl) ?_
    repeat' (first | apply ar_nil | (apply ar_ev; (first | exact ev_call rfl rfl (trimRA_ok s hn) | exact ev_call rfl rfl (trimLA_ok _ hR) | (apply ev_assign; rfl)); rfl) | apply aw_ret | apply go_seq | apply go_seq_ret)
    exact g_ret1 (r_tmp rfl) .nil (by rw [bl_BA, trim_comm]; rfl)
end Go.Proofs.YtphkfejckafamaaDoor
