import Derived.Test.YtinojkkjcignhaaG
set_option linter.unusedVariables false
set_option linter.unusedSimpArgs false
set_option maxRecDepth 100000
namespace Go.Proofs.Ytinojkkjcignhaa
open Go.Proofs Go.Proofs.YtinojkkjcignhaaA

theorem rpush_ok (l : Nat) (j : RS) (ts0 : List (Nat × Tok)) (hj : RAt l j ts0) (f : Frame) (hn : j.frames.length ≤ 1048577) (hd : f.data.size ≤ 1099511627776) (hp : f.ps.length ≤ 1099511627776) : FnC Try.prog 13 ts0 [.ptr l 0 0, .agg (encF f)] (fun ts r => RAt l (rpush j f).1 ts ∧ r = ansV (rpush j f).2) := by
  obtain ⟨fr, c, s⟩ := j
  rcases hj with ⟨h1, rfl⟩ | ⟨h1, h2, h3, h4, lb, rfl⟩
  · simp only at h1
    subst h1
    exact rpush_idle l c s f hd hp
  · simp only at h1 h2 h3 hn h4
    subst h2; subst h3
    obtain ⟨h, r, rfl⟩ := List.exists_cons_of_ne_nil h1
    exact rpush_busy l lb h r f (by simp at hn; omega) h4 hd hp

/-! ### Split -/
def cuts (st : Int) (b : ByteArray) (s n : Nat) : List Frame :=
  if h : n < b.size ∧ 0 < s then { zeroF with ty := 9, stream := st, data := b.extract n (min b.size (n + s)) } :: cuts st b s (n + s) else []
termination_by b.size - n
def splitErr (h : Frame) (b : ByteArray) (size : Int) : Int :=
  if isHead h = false ∨ h.data ≠ es ∨ h.stream < 1 ∨ h.pad < 0 ∨ h.pad > 255 ∨ (h.pad ≠ 0 ∧ andI h.flags 8 = 0) ∨ size < 16384 ∨ size > 65536 then 1
  else if b.size > 131072 then 3 else 0
def lastF (l : List Frame) : List Frame := l.modify (l.length - 1) fun f => { f with flags := orI f.flags 4 }
def split0 (h : Frame) (b : ByteArray) (size : Int) : Nat := (min (room h size) b.size).toNat
def splitF0 (h : Frame) (b : ByteArray) (size : Int) : List Frame := { h with flags := nandI h.flags 4, data := b.extract 0 (split0 h b size) } :: cuts h.stream b size.toNat (split0 h b size)
def splitF (h : Frame) (b : ByteArray) (size : Int) : List Frame := lastF (splitF0 h b size)
/-- The answer's row: only the first frame has a list. -/
def rowS (x : AV) : List Frame → List (List AV)
  | [] => []
  | f :: r => fcl f x :: r.map fun f => fcl f sn
theorem rowS_length (x : AV) (l : List Frame) : (rowS x l).length = l.length := by cases l <;> simp [rowS]
theorem rowS_append (x : AV) (f : Frame) (l m : List Frame) : rowS x (f :: l ++ m) = rowS x (f :: l) ++ m.map fun f => fcl f sn := by simp [rowS]
theorem rowS_at (x : AV) {l : List Frame} {i : Nat} {f : Frame} (h : l[i]? = some f) : ∃ y, (rowS x l)[i]? = some (fcl f y) ∧ ∀ g, (rowS x l).set i (fcl g y) = rowS x (l.set i g) := by
  cases l with
  | nil => simp at h
  | cons a l =>
    cases i with
    | zero => simp at h; subst h; exact ⟨x, rfl, fun g => rfl⟩
    | succ i =>
      simp at h
      exact ⟨sn, by simp [rowS, h], fun g => by simp [rowS, List.map_set]⟩
theorem extract_empty {b : ByteArray} {n : Nat} : b.extract n b.size = es ↔ b.size ≤ n := by
  constructor
  · intro h
    have := congrArg ByteArray.size h
    simp at this
    have h0 : es.size = 0 := rfl
    omega
  · intro h
    apply ByteArray.ext
    simp [es]
    omega
theorem extract_extract {b : ByteArray} {n m : Nat} (h : n + m ≤ b.size) : (b.extract n b.size).extract 0 m = b.extract n (n + m) := by
  rw [ByteArray.extract_extract, Nat.min_eq_left h, Nat.add_zero]
theorem extract_extract2 {b : ByteArray} {n m : Nat} (h : n + m ≤ b.size) : (b.extract n b.size).extract m (b.extract n b.size).size = b.extract (n + m) b.size := by
  rw [ByteArray.extract_extract, ByteArray.size_extract, Nat.min_self, Nat.min_eq_right (by omega)]
theorem room_bounds {h : Frame} {size : Int} (h1 : 0 ≤ h.pad) (h2 : h.pad ≤ 255) (h3 : 16384 ≤ size) (h4 : size ≤ 65536) : 16000 ≤ room h size ∧ room h size ≤ size := by
  unfold room; (repeat' split) <;> omega
theorem cuts_nil {st : Int} {b : ByteArray} {s n : Nat} (h : b.size ≤ n) : cuts st b s n = [] := by
  rw [cuts, dif_neg (by omega)]
theorem cuts_cons {st : Int} {b : ByteArray} {s n : Nat} (h : n < b.size) (hs : 0 < s) : cuts st b s n = { zeroF with ty := 9, stream := st, data := b.extract n (min b.size (n + s)) } :: cuts st b s (min b.size (n + s)) := by
  rw [cuts, dif_pos ⟨h, hs⟩]
  congr 1
  rcases Nat.lt_or_ge b.size (n + s) with h1 | h1
  · rw [cuts_nil (by omega), cuts_nil (by omega)]
  · rw [Nat.min_eq_right h1]

theorem Split_ok (h : Frame) (b : ByteArray) (size : Int) (hp : h.ps.length ≤ 1099511627776) (hb : b.size ≤ 1099511627776) : FnC Try.prog 17 [] [.agg (encF h), vs b, vi size] (fun ts r =>
    (splitErr h b size ≠ 0 ∧ ts = [] ∧ r = .tup [sn, vi (splitErr h b size)]) ∨
    (splitErr h b size = 0 ∧ ∃ l lp, ts = [(l, .row 30 11 (rowS (.own lp 0 h.ps.length) (splitF h b size))), (lp, .row 42 2 (h.ps.map encP))] ∧ r = .tup [.own l 0 (splitF h b size).length, vi 0])) := by
  refine fn_of Try.func17 rfl Try.ntmps17 Try.results17 rfl fun G => ?_
  repeat' (first | apply ar_nil | (apply ar_splitp; (apply ev_move; rfl); rfl; all_goals (intro hc; try (exfalso; first | omega | contradiction | (simp at hc; omega) | (simp_all; done)))) | (apply ar_ev; (apply ev_move; rfl); rfl) | (apply ar_ev; (first | exact ev_call rfl rfl (isHead_ok h) | (apply ev_load_ptr_one; rfl; (focus ((repeat (first | exact Take.head | apply Take.tail | apply Take.right)); done)); exact (by first | rfl | assumption | exact get_map (by assumption)); rfl) | (apply ev_fieldAddr_ptr; rfl) | (apply ev_assign; rfl) | (apply ev_pick_t; rfl; rfl) | (apply ev_pick_f; rfl; rfl) | (apply ev_load_ptr_agg; rfl; (focus ((repeat (first | exact Take.head | apply Take.tail | apply Take.right)); done)); exact (by first | rfl | assumption | exact get_map (by assumption)); exact Nat.le_of_ble_eq_true rfl) | (apply ev_neip; rfl; rfl) | (apply ev_lss; rfl; rfl) | (apply ev_gtr; rfl; rfl) | (apply ev_nesp; rfl; rfl) | (apply ev_len_str; rfl) | (apply ev_not; rfl)); rfl) | (apply ar_new; (first | apply eff_alloc | (apply eff_box; rfl; exact lies_of rfl)); exact .nil; rfl; intro lab) | (apply ar_skip; rfl; rfl; rfl; rfl; rfl) | (apply ar_take; rfl; rfl; rfl; (first | (apply ev_load_ptr_one; rfl; (focus ((repeat (first | exact Take.head | apply Take.tail | apply Take.right)); done)); exact (by first | rfl | assumption | exact get_map (by assumption)); rfl) | (apply ev_fieldAddr_ptr; rfl) | (apply ev_eqip; rfl; rfl) | (apply ev_andI; rfl; rfl)); rfl) | apply aw_seq | apply a_region | apply aw_block | apply aw_skip | apply aw_ret | (apply aw_condp; rfl; all_goals (intro hc; try (exfalso; first | omega | contradiction | (simp at hc; omega) | (simp_all; done)))) | (apply aw_cond_f; rfl) | (apply aw_condb; rfl; all_goals (intro hc; try (exfalso; first | omega | contradiction | (simp at hc; omega) | (simp_all; done)))) | apply go_seq | apply go_seq_ret | apply go_block | apply go_block_ret)
  all_goals first
    | (have hE : splitErr h b size ≠ 0 ∧ splitErr h b size = 1 := (by unfold splitErr; (repeat' split) <;> first | (exact ⟨by omega, rfl⟩) | (exfalso; simp_all [es]; done) | (exfalso; simp_all [es]; omega))
       refine g_ret2 (r_tmp rfl) (r_tmp rfl) .nil (.inl ⟨hE.1, rfl, ?_⟩); rw [hE.2]; done)
    | (have hE : splitErr h b size ≠ 0 ∧ splitErr h b size = 3 := (by unfold splitErr; (repeat' split) <;> first | (exact ⟨by omega, rfl⟩) | (exfalso; simp_all [es]; done) | (exfalso; simp_all [es]; omega))
       refine g_ret2 (r_tmp rfl) (r_tmp rfl) .nil (.inl ⟨hE.1, rfl, ?_⟩); rw [hE.2]; done)
    | skip
  all_goals
    have hE : splitErr h b size = 0 := by unfold splitErr; (repeat' split) <;> first | rfl | (exfalso; simp_all [es]; done) | (exfalso; simp_all [es]; omega)
    have hp0 : 0 ≤ h.pad := by omega
    have hp1 : h.pad ≤ 255 := by omega
    have hs0 : 16384 ≤ size := by omega
    have hs1 : size ≤ 65536 := by omega
    have hb1 : b.size ≤ 131072 := by omega
    have hrm := room_bounds hp0 hp1 hs0 hs1
    have hn0 : min (room h size) (b.size : Int) = (split0 h b size : Nat) := by unfold split0; omega
    have hn1 : split0 h b size ≤ b.size := by unfold split0; omega
    rename Nat => l3
    repeat' (first | apply ar_nil | (apply ar_ev; (apply ev_move; rfl); rfl) | (apply ar_ev; (first | exact ev_call rfl rfl (room_ok h size hp0 hp1 (by omega) (by omega)) | (apply ev_load_ptr_one; rfl; (focus ((repeat (first | exact Take.head | apply Take.tail | apply Take.right)); done)); exact (by first | rfl | assumption | exact get_map (by assumption)); rfl) | (apply ev_fieldAddr_ptr; rfl) | (apply ev_assign; rfl) | (apply ev_load_ptr_agg; rfl; (focus ((repeat (first | exact Take.head | apply Take.tail | apply Take.right)); done)); exact (by first | rfl | assumption | exact get_map (by assumption)); exact Nat.le_of_ble_eq_true rfl) | (apply ev_nandI; rfl; rfl) | (apply ev_len_str; rfl) | (apply ev_min; rfl; rfl)); rfl) | (apply ar_new; (first | apply eff_alloc | (apply eff_box; rfl; exact lies_of rfl)); exact .nil; rfl; intro lab) | (apply ar_store1; rfl; (focus ((repeat (first | exact Take.head | apply Take.tail | apply Take.right)); done)); rfl; rfl; exact (by first | rfl | assumption | exact get_map (by assumption)); rfl) | (apply ar_store; rfl; (focus ((repeat (first | exact Take.head | apply Take.tail | apply Take.right)); done)); rfl; rfl; exact (by first | rfl | assumption | exact get_map (by assumption)); rfl; rfl) | apply aw_seq | apply a_region | apply go_seq)
    rename Nat => l9
    rw [hn0]
    refine a_mix [true, true, true, true, true, false, true, false, true, false] [0, 1, 2, 3, 4, 6, 5, 7, 8, 9] (by kernel_rfl) (by repeat (first | exact Als.nil | (apply Als.al; rfl) | (apply Als.other; rfl))) (Takes.cons (l := l9) (by repeat (first | exact Take.head | apply Take.tail | apply Take.right)) Takes.nil) ?_
    repeat' (first | (apply tl_ev; rfl; rfl; (apply ev_move; rfl); rfl) | (apply tl_ev; rfl; rfl; (first | (apply ev_load_ptr_one; rfl; (focus ((repeat (first | exact Take.head | apply Take.tail | apply Take.right)); done)); exact (by first | rfl | assumption | exact get_map (by assumption)); rfl) | (apply ev_fieldAddr_ptr; rfl) | (apply ev_slice_str; rfl; exact (by first | exact LoB.none | exact LoB.some rfl); exact (by first | exact HiB.none | exact HiB.some rfl); exact (by first | omega | assumption); exact (by first | omega | assumption))); rfl))
    apply tl_call (clone_ok (h.ps.map encP) (by simpa using hp)); rfl; rfl; rfl; rfl; (simp only [List.length_map]; rfl); exact .nil; rfl; rintro _ _ ⟨lp, rfl, rfl⟩
    repeat' (first | (apply ar_new (d := 65); (apply eff_buildSlice; rfl; rfl; rfl; rfl; rfl; rfl; rfl); exact .nil; rfl; intro lab) | apply ar_nil | (apply ar_ev; (apply ev_move; rfl); rfl) | (apply ar_ev; (first | (apply ev_assign; rfl) | (apply ev_load_ptr_agg; rfl; (focus ((repeat (first | exact Take.head | apply Take.tail | apply Take.right)); done)); exact (by first | rfl | assumption | exact get_map (by assumption)); exact Nat.le_of_ble_eq_true rfl) | (apply ev_slice_str; rfl; exact (by first | exact LoB.none | exact LoB.some rfl); exact (by first | exact HiB.none | exact HiB.some rfl); exact (by first | omega | assumption); exact (by first | omega | assumption))); rfl) | apply aw_seq | apply a_region | apply aw_block | apply go_seq | apply tl_nil | (apply tl_ev; rfl; rfl; (apply ev_fieldAddr_ptr; rfl); rfl) | (apply tl_store1; rfl; rfl; rfl; infer_instance; rfl; (focus ((repeat (first | exact Take.head | apply Take.tail | apply Take.right)); done)); rfl; rfl; exact (by first | rfl | assumption | exact get_map (by assumption)); rfl))
    rename Nat => l0
    have hrow0 : rowS (.own lp 0 h.ps.length) (splitF0 h b size).head?.toList = [fcl { h with flags := nandI h.flags 4, data := b.extract 0 (split0 h b size) } (.own lp 0 h.ps.length)] := by simp [splitF0, rowS]
    have hmm : (h.ps.map encP).length = h.ps.length := by simp
    refine a_loop (fun g : Nat × Nat × Nat × List Frame => ⟨[(2, vi size), (3, .ptr l3 0 0), (10, .own g.1 0 g.2.1), (11, vs (b.extract g.2.2.1 b.size))], [(l3, .row 30 11 [encF h]), (lp, .row 42 2 (h.ps.map encP)), (g.1, .row 30 11 (rowS (.own lp 0 (h.ps.map encP).length) g.2.2.2))]⟩)
      (fun g => g.2.2.2.length = g.2.1 ∧ 0 < g.2.1 ∧ g.2.2.1 ≤ b.size ∧ g.2.1 ≤ g.2.2.1 + 1 ∧ g.2.2.2 ++ cuts h.stream b size.toNat g.2.2.1 = splitF0 h b size) (fun g => b.size - g.2.2.1) (l0, 1, split0 h b size, [{ h with flags := nandI h.flags 4, data := b.extract 0 (split0 h b size) }]) (Sub.of (by repeat (first | exact .nil | refine .cons rfl Le.refl ?_)) (by repeat (first | exact Takes.nil | (apply Takes.cons; focus (repeat (first | exact Take.head | apply Take.tail | apply Take.right)))))) ⟨rfl, Nat.one_pos, hn1, Nat.le_add_left 1 _, rfl⟩ ?_
    rintro ⟨l, m, n, acc⟩ ⟨h1, h2, h3, h4, h5⟩
    dsimp only at h1 h2 h3 h4 h5 ⊢
    repeat' (first | apply ar_nil | (apply ar_ev; (apply ev_move; rfl); rfl) | (apply ar_ev; (apply ev_nesp; rfl; rfl); rfl) | apply aw_seq | apply a_region | apply go_seq)
    refine aw_condp rfl (fun hk => ?_) (fun hk => ?_)
    · have hlt : n < b.size := Nat.lt_of_not_le fun h0 => hk (extract_empty.2 h0)
      have hmin : min size ((b.extract n b.size).size : Int) = (min size.toNat (b.size - n) : Nat) := by rw [ByteArray.size_extract]; omega
      repeat' (first | apply ar_nil | (apply ar_ev; (apply ev_move; rfl); rfl) | (apply ar_ev; (first | (apply ev_assign; rfl) | (apply ev_len_str; rfl) | (apply ev_min; rfl; rfl)); rfl) | apply aw_seq | apply a_region | apply aw_block | apply aw_skip | apply go_seq)
      rw [hmin]
      apply a_drawN 8; rfl; rfl
      have hx : (b.extract n b.size).size = b.size - n := by rw [ByteArray.size_extract]; omega
      repeat' (first | (apply ar_ev; (apply ev_move; rfl); rfl) | (apply ar_ev; (first | (apply ev_load_ptr_one; rfl; (focus ((repeat (first | exact Take.head | apply Take.tail | apply Take.right)); done)); exact (by first | rfl | assumption | exact get_map (by assumption)); rfl) | (apply ev_fieldAddr_ptr; rfl) | (apply ev_slice_str; rfl; exact (by first | exact LoB.none | exact LoB.some rfl); exact (by first | exact HiB.none | exact HiB.some rfl); exact (by first | omega | assumption); exact (by first | omega | assumption)) | (apply ev_build; rfl; rfl; rfl) | (apply ev_buildSlice; rfl; rfl; rfl; rfl; rfl; rfl; rfl)); rfl))
      apply ar_append; rfl; exact (by repeat (first | exact Take.head | apply Take.tail | apply Take.right)); rfl; exact (by rw [rowS_length]; omega); exact (by omega); exact (by omega); rfl; intro l2
      have e1 : n + min size.toNat (b.size - n) = min b.size (n + size.toNat) := by omega
      have e2 : (b.extract n b.size).extract 0 (min size.toNat (b.size - n)) = b.extract n (min b.size (n + size.toNat)) := by rw [extract_extract (by omega), e1]
      have e3 : (b.extract n b.size).extract (min size.toNat (b.size - n)) (b.extract n b.size).size = b.extract (min b.size (n + size.toNat)) b.size := by rw [extract_extract2 (by omega), e1]
      rw [e2]
      repeat' (first | apply ar_nil | (apply ar_ev; (apply ev_move; rfl); rfl) | (apply ar_ev; (first | (apply ev_assign; rfl) | (apply ev_slice_str; rfl; exact (by first | exact LoB.none | exact LoB.some rfl); exact (by first | exact HiB.none | exact HiB.some rfl); exact (by first | omega | assumption); exact (by first | omega | assumption))); rfl) | apply a_region | apply go_seq | apply go_block)
      rw [e3]
      let fr : Frame := { zeroF with ty := 9, stream := h.stream, data := b.extract n (min b.size (n + size.toNat)) }
      obtain ⟨a0, acc', rfl⟩ := List.exists_cons_of_ne_nil (List.ne_nil_of_length_pos (by omega : 0 < acc.length))
      have hrow : List.take m (List.drop 0 (rowS (.own lp 0 (h.ps.map encP).length) (a0 :: acc'))) ++ List.take 1 [fcl fr sn] = rowS (.own lp 0 (h.ps.map encP).length) (a0 :: acc' ++ [fr]) := by
        rw [rowS_append, List.drop_zero, List.take_of_length_le (by rw [rowS_length]; omega)]; rfl
      refine go_loop_back ⟨(l2, m + 1, min b.size (n + size.toNat), a0 :: acc' ++ [fr]), ⟨by simp at h1 ⊢; omega, Nat.succ_pos _, Nat.min_le_left _ _, ?_, ?_⟩, ?_, Sub.of (by repeat (first | exact .nil | refine .cons rfl Le.refl ?_)) (by repeat (first | exact Takes.nil | (apply Takes.cons; focus (repeat (first | exact Take.head | exact Take.rowc hrow Take.head | apply Take.tail | apply Take.right)))))⟩
      · dsimp only; omega
      · dsimp only
        rw [← h5, cuts_cons hlt (by omega), List.append_assoc]; rfl
      · dsimp only; omega
    · have hge : n = b.size := by
        have := extract_empty.1 (Decidable.not_not.1 hk)
        omega
      subst hge
      rw [cuts_nil (Nat.le_refl _), List.append_nil] at h5
      subst h5
      repeat' (first | (apply ar_ev; (apply ev_move; rfl); rfl) | (apply ar_ev; (first | (apply ev_sub; rfl; rfl; exact (by first | omega | assumption); exact (by first | omega | assumption)) | (apply ev_len_own; rfl)); rfl) | apply aw_seq | apply a_region | apply aw_exit | apply go_seq | apply go_seq_exit | apply go_block_exit | apply go_loop_exit)
      have hm1 : (m : Int) - 1 = ((m - 1 : Nat) : Int) := by omega
      rw [hm1]
      obtain ⟨f0, hf0⟩ : ∃ f0, (splitF0 h b size)[m - 1]? = some f0 := ⟨_, List.getElem?_eq_getElem (by omega)⟩
      obtain ⟨y, hy, hset⟩ := rowS_at (.own lp 0 (h.ps.map encP).length) hf0
      have hrow : (rowS (.own lp 0 (h.ps.map encP).length) (splitF0 h b size)).set (m - 1) ((fcl f0 y).set (0 + 1) (vi (orI f0.flags 4))) = rowS (.own lp 0 h.ps.length) (splitF h b size) := by
        refine (hset { f0 with flags := orI f0.flags 4 }).trans ?_
        rw [hmm]
        congr 1
        unfold splitF lastF
        rw [h1]
        apply List.ext_getElem?
        intro i
        rw [List.getElem?_modify, List.getElem?_set]
        by_cases hi : m - 1 = i
        · subst hi
          simp [hf0]
          omega
        · simp [hi]
      have hlenF : (splitF h b size).length = m := by unfold splitF lastF; rw [List.length_modify]; exact h1
      repeat' (first | apply ar_nil | (apply ar_ev; (apply ev_move; rfl); rfl) | (apply ar_ev; (first | (apply ev_load_ptr_one; rfl; (focus ((repeat (first | exact Take.head | apply Take.tail | apply Take.right)); done)); exact (by first | rfl | assumption | exact get_map (by assumption)); rfl) | (apply ev_fieldAddr_ptr; rfl) | (apply ev_assign; rfl) | (apply ev_orI; rfl; rfl) | (apply ev_indexAddr_own0; rfl; rfl; exact (by first | omega | assumption); (focus ((repeat (first | exact Take.head | apply Take.tail | apply Take.right)); done)))); rfl) | (apply ar_store1; rfl; (focus ((repeat (first | exact Take.head | apply Take.tail | apply Take.right)); done)); rfl; rfl; exact (by first | rfl | assumption | exact get_map (by assumption)); rfl) | apply aw_seq | apply a_region | apply aw_ret | apply go_seq)
      refine g_ret2 (us := [(l, .row 30 11 (rowS (.own lp 0 h.ps.length) (splitF h b size))), (lp, .row 42 2 (h.ps.map encP))]) (r_tmp rfl) (r_tmp rfl) (Takes.cons (l := l) (Take.rowc hrow (by repeat (first | exact Take.head | apply Take.tail | apply Take.right))) (Takes.cons (by repeat (first | exact Take.head | apply Take.tail | apply Take.right)) Takes.nil)) (.inr ⟨hE, l, lp, rfl, by rw [hlenF]⟩)
end Go.Proofs.Ytinojkkjcignhaa
