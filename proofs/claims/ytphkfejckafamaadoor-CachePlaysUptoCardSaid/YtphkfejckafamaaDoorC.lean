import Derived.Test.YtphkfejckafamaaDoorB
set_option linter.unusedVariables false
set_option linter.unusedSimpArgs false
set_option maxRecDepth 100000
namespace Go.Proofs.YtphkfejckafamaaDoor
open Go.Proofs Go.Proofs.YtphkfejckafamaaDoorA

theorem ssl_get {xs : List ByteArray} {i : Nat} {x : ByteArray} (h : xs[i]? = some x) : (xs.map encS)[i]? = some [vs x] := by simp [h]
theorem index_ok (xs : List ByteArray) (x : ByteArray) (hn : xs.length ≤ 4398046511104) : FnC Tryd.prog 81 [] [ssl xs, vs x] (fun ts r => ts = [] ∧ ∃ n : Int, r = vi n ∧ (0 ≤ n ↔ x ∈ xs)) := by
  refine fn_of Tryd.func81 rfl Tryd.ntmps81 Tryd.results81 rfl fun G => ?_
  repeat' (first | apply ar_nil | (apply ar_ev; (apply ev_move; rfl); rfl) | (apply ar_ev; (first | (apply ev_assign; rfl) | (apply ev_len_sl; rfl)); rfl) | apply aw_seq | apply a_region | apply aw_block | apply go_seq)
  refine a_loop (fun i : Nat => ⟨[(0, ssl xs), (1, vs x), (7, vi xs.length), (8, vi i)], []⟩) (fun i => i ≤ xs.length ∧ x ∉ xs.take i) (fun i => xs.length - i) 0 (Sub.of (by repeat (first | exact .nil | refine .cons rfl Le.refl ?_)) (by repeat (first | exact Takes.nil | (apply Takes.cons; focus (repeat (first | exact Take.head | apply Take.tail | apply Take.right)))))) ⟨Nat.zero_le _, by simp⟩ ?_
  rintro i ⟨hi, hx⟩
  repeat' (first | apply ar_nil | (apply ar_ev; (apply ev_lss; rfl; rfl); rfl) | apply aw_seq | apply a_region | apply go_seq)
  refine aw_condp rfl (fun hk => ?_) (fun hk => ?_)
  · obtain ⟨y, hy⟩ : ∃ y, xs[i]? = some y := ⟨_, List.getElem?_eq_getElem (by omega)⟩
    have hy2 := ssl_get hy
    repeat' (first | apply ar_nil | (apply ar_ev; (apply ev_move; rfl); rfl) | (apply ar_ev; (first | (apply ev_load_ip_one; rfl; rfl) | (apply ev_assign; rfl) | (apply ev_inc; rfl; exact (by first | omega | assumption)) | (apply ev_eqsp; rfl; rfl) | (apply ev_indexAddr_sl; rfl; rfl; exact (by first | omega | assumption); exact (by first | rfl | assumption | exact get_map (by assumption)))); rfl) | apply aw_seq | apply a_region | apply aw_block | apply aw_skip | apply aw_ret | (apply aw_condp; rfl; all_goals (intro hc; try (exfalso; first | omega | contradiction | (simp at hc; omega) | (simp_all; done)))) | apply go_seq | apply go_seq_ret | apply go_block | apply go_block_ret | apply go_loop_ret)
    · exact g_ret1 (r_tmp rfl) .nil ⟨rfl, (i : Int), rfl, by rw [hc]; exact ⟨fun _ => List.mem_of_getElem? hy, fun _ => by omega⟩⟩
    · refine go_loop_back ⟨i + 1, ⟨by omega, ?_⟩, by omega, Sub.of (by repeat (first | exact .nil | refine .cons rfl Le.refl ?_)) (by repeat (first | exact Takes.nil | (apply Takes.cons; focus (repeat (first | exact Take.head | apply Take.tail | apply Take.right)))))⟩
      rw [List.take_add_one, hy]
      simp only [Option.toList_some, List.mem_append, List.mem_singleton]
      rintro (h | h)
      · exact hx h
      · exact hc h
  · obtain rfl : i = xs.length := by omega
    rw [List.take_length] at hx
    repeat' (first | apply ar_nil | (apply ar_ev; (apply ev_assign; rfl); rfl) | apply aw_seq | apply a_region | apply aw_exit | apply aw_ret | apply go_seq | apply go_seq_exit | apply go_block_exit | apply go_loop_exit)
    exact g_ret1 (r_tmp rfl) .nil ⟨rfl, -1, rfl, ⟨fun h => by omega, fun h => absurd h hx⟩⟩
instance memDec (x : ByteArray) (xs : List ByteArray) : Decidable (x ∈ xs) := decidable_of_iff (xs.any (fun y => decide (y = x)) = true) (by simp)
theorem contains_ok (xs : List ByteArray) (x : ByteArray) (hn : xs.length ≤ 4398046511104) : PFn Tryd.prog 45 [ssl xs, vs x] (vb (decide (x ∈ xs))) := by
  refine fn_of Tryd.func45 rfl Tryd.ntmps45 Tryd.results45 rfl fun G => ?_
  repeat' (first | apply ar_nil | (apply ar_ev; (apply ev_move; rfl); rfl) | (apply ar_ev; (apply ev_assign; rfl); rfl) | apply aw_seq | apply a_region | apply go_seq)
  apply ar_call (index_ok xs x hn); rfl; rfl; (focus ((repeat (first | exact Takes.nil | (apply Takes.cons; focus (repeat (first | exact Take.head | apply Take.tail | apply Take.right))))); done)); rfl; rintro _ _ ⟨rfl, n, rfl, h⟩
  repeat' (first | apply ar_nil | (apply ar_ev; (first | (apply ev_assign; rfl) | (apply ev_geq; rfl; rfl)); rfl) | apply aw_ret | apply go_seq)
  exact g_ret1 (r_tmp rfl) .nil (by rw [decide_eq_decide.2 h])

/-- A name of a vary's piece. -/
def nm (p : List UInt8) : ByteArray := BA ((trim p).map lowB)
theorem nm_eq (p : List UInt8) : low (BA (trim (bl (BA p)))) = nm p := by rw [low_BA, bl_BA]; rfl
abbrev nms (l : List UInt8) : List ByteArray := (pieces 44 l).map nm
theorem byte44 (c : UInt8) : ((c.toNat : Int) = 44) ↔ c = 44 := ⟨fun h => UInt8.toNat_inj.1 (by have : (44 : UInt8).toNat = 44 := rfl; omega), fun h => by rw [h]; rfl⟩
theorem drop_split {l : List UInt8} {f i : Nat} {c : UInt8} (h : l[i]? = some c) (hf : f ≤ i) : l.drop f = (l.drop f).take (i - f) ++ c :: l.drop (i + 1) := by
  have hi := (List.getElem?_eq_some_iff.1 h).1
  have hc := (List.getElem?_eq_some_iff.1 h).2
  conv => lhs; rw [← List.take_append_drop (i - f) (l.drop f)]
  rw [List.drop_drop, show f + (i - f) = i by omega, List.drop_eq_getElem_cons hi, hc]
theorem take_one {α : Type} (y : List (List α)) (n : Nat) (z : List α) (h : y.length = n) : List.take n (List.drop 0 y) ++ List.take 1 [z] = y ++ [z] := by
  rw [List.drop_zero, ← h, List.take_length]; rfl
theorem take_grow {l : List UInt8} {f i : Nat} {c : UInt8} (h : l[i]? = some c) (hf : f ≤ i) : (l.drop f).take (i + 1 - f) = (l.drop f).take (i - f) ++ [c] := by
  rw [show i + 1 - f = (i - f) + 1 by omega, List.take_add_one, List.getElem?_drop, show f + (i - f) = i by omega, h]; rfl

theorem trim_le (l : List UInt8) : (trim l).length ≤ l.length := by
  have h1 : ∀ m : List UInt8, (m.dropWhile bk).length ≤ m.length := fun m => (List.dropWhile_suffix _).length_le
  unfold trim trimR trimL
  rw [List.length_reverse]
  refine Nat.le_trans (h1 _) ?_
  rw [List.length_reverse]
  exact h1 _
theorem trim_size (s : ByteArray) : (BA (trim (bl s))).size ≤ s.size := by rw [BA_size, ← bl_length s]; exact trim_le _
theorem hrowS (acc : List ByteArray) (z : ByteArray) : List.take acc.length (List.drop 0 (acc.map encS)) ++ List.take 1 [[vs z]] = (acc ++ [z]).map encS := by
  rw [take_one _ _ _ (by simp)]; simp
theorem pieces_last {l : List UInt8} (h : (44 : UInt8) ∉ l) : nms l = [nm l] := by unfold nms; rw [pieces_none h]; rfl
theorem pieces_step {l m : List UInt8} (h : (44 : UInt8) ∉ l) : nms (l ++ 44 :: m) = nm l :: nms m := by unfold nms; rw [pieces_cut h]; rfl

set_option maxHeartbeats 2000000 in
theorem pieces_ok (s : ByteArray) (hn : s.size ≤ 1099511627776) : FnC Tryd.prog 46 [] [vs s] (fun ts r => ∃ lab, ts = [(lab, .row 9 1 ((nms (bl s)).map encS))] ∧ r = .own lab 0 (nms (bl s)).length) := by
  refine fn_of Tryd.func46 rfl Tryd.ntmps46 Tryd.results46 rfl fun G => ?_
  have hl := bl_length s
  repeat' (first | apply ar_nil | (apply ar_ev; (apply ev_assign; rfl); rfl) | apply aw_seq | apply a_region | apply aw_block | apply go_seq)
  refine aw_adopt 3 9 1 rfl fun lab => ?_
  skip
  have h0 : ([] : List (List AV)) = ([] : List ByteArray).map encS := rfl
  refine a_loop (fun g : Nat × Nat × Nat × List ByteArray => ⟨[(0, vs s), (3, .own g.2.2.1 0 g.2.2.2.length), (4, vi g.2.1), (5, vi g.1)], [(g.2.2.1, .row 9 1 (g.2.2.2.map encS))]⟩)
    (fun g => g.2.2.2.length ≤ g.1 ∧ ((g.2.1 ≤ g.1 ∧ g.1 ≤ s.size ∧ (44 : UInt8) ∉ ((bl s).drop g.2.1).take (g.1 - g.2.1) ∧ g.2.2.2 ++ nms ((bl s).drop g.2.1) = nms (bl s)) ∨ (g.1 = s.size + 1 ∧ g.2.1 ≤ s.size + 1 ∧ g.2.2.2 = nms (bl s)))) (fun g => s.size + 1 - g.1) (0, 0, lab, []) (Sub.of (by repeat (first | exact .nil | refine .cons rfl Le.refl ?_)) (by repeat (first | exact Takes.nil | (apply Takes.cons; focus (repeat (first | exact Take.head | exact Take.rowc h0 Take.head | apply Take.tail | apply Take.right)))))) ⟨Nat.zero_le _, .inl ⟨Nat.zero_le _, Nat.zero_le _, by simp, by simp⟩⟩ ?_
  rintro ⟨i, f, l, acc⟩ ⟨hacc, h⟩
  dsimp only at *
  repeat' (first | apply ar_nil | (apply ar_ev; (apply ev_move; rfl); rfl) | (apply ar_ev; (first | (apply ev_leq; rfl; rfl) | (apply ev_len_str; rfl)); rfl) | apply aw_seq | apply a_region | apply go_seq)
  refine aw_condp rfl (fun hk => ?_) (fun hk => ?_)
  · rcases h with ⟨hf, hi, hm, ha⟩ | ⟨h, _, _⟩
    · have hex : s.extract f i = BA (((bl s).drop f).take (i - f)) := extract_BA s f i
      have hlen : (acc.map encS).length = acc.length := by simp
      have hsz : (s.extract f i).size ≤ 1099511627776 := by rw [ByteArray.size_extract]; omega
      have hsz2 := Nat.le_trans (trim_size (s.extract f i)) hsz
      by_cases hie : i = s.size
      · subst hie
        repeat' (first | apply ar_nil | (apply ar_splitp; (apply ev_move; rfl); rfl; all_goals (intro hc; try (exfalso; first | omega | contradiction | (simp at hc; omega) | (simp_all; done)))) | (apply ar_ev; (apply ev_move; rfl); rfl) | (apply ar_ev; (first | exact ev_call rfl rfl (trimmed_ok _ hsz) | exact ev_call rfl rfl (smallR_ok _ hsz2) | (apply ev_assign; rfl) | (apply ev_pick_t; rfl; rfl) | (apply ev_eqip; rfl; rfl) | (apply ev_inc; rfl; exact (by first | omega | assumption)) | (apply ev_len_str; rfl) | (apply ev_slice_str; rfl; exact (by first | exact LoB.none | exact LoB.some (l := 0) rfl | exact LoB.some (l := 1) rfl | exact LoB.some rfl); exact (by first | exact HiB.none | exact HiB.some rfl); exact (by first | omega | assumption); exact (by first | omega | assumption)) | (apply ev_buildSlice; rfl; rfl; rfl; rfl; rfl; rfl; rfl)); rfl) | (apply ar_skip; rfl; rfl; rfl; rfl; rfl) | apply aw_seq | apply a_region | apply aw_block | apply aw_skip | (apply aw_cond_t; rfl) | apply go_seq | apply go_block | (apply ar_append; rfl; (focus ((repeat (first | exact Take.head | apply Take.tail | apply Take.right)); done)); rfl; exact (by first | omega | assumption | (simp; done) | (simp; omega) | exact Nat.le_of_ble_eq_true rfl); exact (by first | omega | assumption | (simp; done) | (simp; omega) | exact Nat.le_of_ble_eq_true rfl); exact (by first | omega | assumption | (simp; done) | (simp; omega) | exact Nat.le_of_ble_eq_true rfl); rfl; intro lab))
        have hrow := hrowS acc (low (BA (trim (bl (s.extract f s.size)))))
        have hnm : low (BA (trim (bl (s.extract f s.size)))) = nm (((bl s).drop f).take (s.size - f)) := by rw [hex]; exact nm_eq _
        have hall : (bl s).drop f = ((bl s).drop f).take (s.size - f) := by rw [List.take_of_length_le]; rw [List.length_drop, hl]; exact Nat.le_refl _
        have hfin : acc ++ [low (BA (trim (bl (s.extract f s.size))))] = nms (bl s) := by
          rw [← hall] at hm hnm
          rw [hnm, ← ha, pieces_last hm]
        exact go_loop_back ⟨(s.size + 1, s.size + 1, _, acc ++ [low (BA (trim (bl (s.extract f s.size))))]), ⟨by dsimp only; rw [List.length_append, List.length_singleton]; omega, .inr ⟨rfl, Nat.le_refl _, hfin⟩⟩, by dsimp only; omega, by dsimp only; rw [List.length_append]; exact Sub.of (by repeat (first | exact .nil | refine .cons rfl Le.refl ?_)) (by repeat (first | exact Takes.nil | (apply Takes.cons; focus (repeat (first | exact Take.head | exact Take.rowc hrow Take.head | apply Take.tail | apply Take.right)))))⟩
      · obtain ⟨c, hce⟩ : ∃ c, (bl s)[i]? = some c := ⟨_, List.getElem?_eq_getElem (by omega)⟩
        repeat' (first | apply ar_nil | (apply ar_splitp; (apply ev_move; rfl); rfl; all_goals (intro hc; try (exfalso; first | omega | contradiction | (simp at hc; omega) | (simp_all; done)))) | (apply ar_ev; (apply ev_move; rfl); rfl) | (apply ar_ev; (first | exact ev_call rfl rfl (trimmed_ok _ hsz) | exact ev_call rfl rfl (smallR_ok _ hsz2) | (apply ev_assign; rfl) | (apply ev_pick_f; rfl; rfl) | (apply ev_eqip; rfl; rfl) | (apply ev_inc; rfl; exact (by first | omega | assumption)) | (apply ev_len_str; rfl) | (apply ev_slice_str; rfl; exact (by first | exact LoB.none | exact LoB.some (l := 0) rfl | exact LoB.some (l := 1) rfl | exact LoB.some rfl); exact (by first | exact HiB.none | exact HiB.some rfl); exact (by first | omega | assumption); exact (by first | omega | assumption)) | (apply ev_buildSlice; rfl; rfl; rfl; rfl; rfl; rfl; rfl)); rfl) | (apply ar_take; rfl; rfl; rfl; (apply ev_move; rfl); rfl) | (apply ar_take; rfl; rfl; rfl; (first | (apply ev_eqip; rfl; rfl) | (apply ev_index_bl; rfl; rfl; assumption)); rfl) | apply aw_seq | apply a_region | apply aw_block | apply aw_skip | (apply aw_condp; rfl; all_goals (intro hc; try (exfalso; first | omega | contradiction | (simp at hc; omega) | (simp_all; done)))) | apply go_seq | apply go_block | (apply ar_append; rfl; (focus ((repeat (first | exact Take.head | apply Take.tail | apply Take.right)); done)); rfl; exact (by first | omega | assumption | (simp; done) | (simp; omega) | exact Nat.le_of_ble_eq_true rfl); exact (by first | omega | assumption | (simp; done) | (simp; omega) | exact Nat.le_of_ble_eq_true rfl); exact (by first | omega | assumption | (simp; done) | (simp; omega) | exact Nat.le_of_ble_eq_true rfl); rfl; intro lab))
        · obtain rfl := (byte44 c).1 hc
          have hds := drop_split hce hf
          have hrow := hrowS acc (low (BA (trim (bl (s.extract f i)))))
          have hnm : low (BA (trim (bl (s.extract f i)))) = nm (((bl s).drop f).take (i - f)) := by rw [hex]; exact nm_eq _
          refine go_loop_back ⟨(i + 1, i + 1, _, acc ++ [low (BA (trim (bl (s.extract f i))))]), ⟨by dsimp only; rw [List.length_append, List.length_singleton]; omega, .inl ⟨Nat.le_refl _, by dsimp only; omega, by simp, ?_⟩⟩, by dsimp only; omega, by dsimp only; rw [List.length_append]; exact Sub.of (by repeat (first | exact .nil | refine .cons rfl Le.refl ?_)) (by repeat (first | exact Takes.nil | (apply Takes.cons; focus (repeat (first | exact Take.head | exact Take.rowc hrow Take.head | apply Take.tail | apply Take.right)))))⟩
          dsimp only
          rw [hnm, List.append_assoc, List.singleton_append, ← pieces_step hm, ← hds, ha]
        · have hc2 : c ≠ 44 := fun h => hc ((byte44 c).2 h)
          refine go_loop_back ⟨(i + 1, f, l, acc), ⟨by dsimp only; omega, .inl ⟨by dsimp only; omega, by dsimp only; omega, ?_, ha⟩⟩, by dsimp only; omega, Sub.of (by repeat (first | exact .nil | refine .cons rfl Le.refl ?_)) (by repeat (first | exact Takes.nil | (apply Takes.cons; focus (repeat (first | exact Take.head | apply Take.tail | apply Take.right)))))⟩
          dsimp only
          rw [take_grow hce hf]
          simp only [List.mem_append, List.mem_singleton]
          rintro (h | h)
          · exact hm h
          · exact hc2 h.symm
    · omega
  · rcases h with ⟨hf, hi, hm, ha⟩ | ⟨h, _, ha⟩
    · omega
    · rw [← ha]
      repeat' (first | apply ar_nil | (apply ar_ev; (apply ev_move; rfl); rfl) | (apply ar_ev; (apply ev_assign; rfl); rfl) | apply aw_seq | apply a_region | apply aw_exit | apply aw_ret | apply go_seq | apply go_seq_exit | apply go_block_exit | apply go_loop_exit)
      exact g_ret1 (r_tmp rfl) (.cons .head .nil) ⟨_, rfl, rfl⟩
end Go.Proofs.YtphkfejckafamaaDoor
