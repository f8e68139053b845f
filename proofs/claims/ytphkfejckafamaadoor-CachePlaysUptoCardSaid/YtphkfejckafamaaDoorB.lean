import Derived.Test.YtphkfejckafamaaDoorA
set_option linter.unusedVariables false
set_option linter.unusedSimpArgs false
set_option maxRecDepth 100000
namespace Go.Proofs.YtphkfejckafamaaDoor
open Go.Proofs Go.Proofs.YtphkfejckafamaaDoorA

theorem low_BA (l : List UInt8) : low (BA l) = BA (l.map lowB) := by simp [low]
theorem take_u8 {l : List UInt8} {i : Nat} {c : UInt8} (h : l[i]? = some c) : List.take i (List.drop 0 (u8cells ((l.take i).map lowB))) ++ List.take 1 [[v8 (lowB c)]] = u8cells ((l.take (i + 1)).map lowB) := by
  have hi := (List.getElem?_eq_some_iff.1 h).1
  rw [List.drop_zero, List.take_of_length_le (by simp [u8cells]; omega), List.take_add_one (l := l), h]
  simp [u8cells]

theorem smallR_ok (s : ByteArray) (hn : s.size ≤ 1099511627776) : PFn Tryd.prog 82 [vs s] (vs (low s)) := by
  refine fn_of Tryd.func82 rfl Tryd.ntmps82 Tryd.results82 rfl fun G => ?_
  have hl := bl_length s
  repeat' (first | apply ar_nil | (apply ar_ev; (apply ev_assign; rfl); rfl) | apply aw_seq | apply a_region | apply aw_block | apply go_seq)
  refine aw_adopt 3 5 1 rfl fun lab => ?_
  skip
  have h0 : ([] : List (List AV)) = u8cells (((bl s).take 0).map lowB) := rfl
  refine a_loop (fun g : Nat × Nat => ⟨[(0, vs s), (3, .own g.2 0 g.1), (4, vi g.1)], [(g.2, .row 5 1 (u8cells (((bl s).take g.1).map lowB)))]⟩) (fun g => g.1 ≤ s.size) (fun g => s.size - g.1) (0, lab) (Sub.of (by repeat (first | exact .nil | refine .cons rfl Le.refl ?_)) (by repeat (first | exact Takes.nil | (apply Takes.cons; focus (repeat (first | exact Take.head | exact Take.rowc h0 Take.head | apply Take.tail | apply Take.right)))))) (Nat.zero_le _) ?_
  rintro ⟨i, l⟩ hi
  dsimp only at *
  repeat' (first | apply ar_nil | (apply ar_ev; (apply ev_move; rfl); rfl) | (apply ar_ev; (first | (apply ev_lss; rfl; rfl) | (apply ev_len_str; rfl)); rfl) | apply aw_seq | apply a_region | apply go_seq)
  refine aw_condp rfl (fun hk => ?_) (fun hk => ?_)
  · obtain ⟨c, hce⟩ : ∃ c, (bl s)[i]? = some c := ⟨_, List.getElem?_eq_getElem (by omega)⟩
    have hlen : (u8cells (((bl s).take i).map lowB)).length = i := by simp [u8cells]; omega
    have hrow := take_u8 hce
    repeat' (first | apply ar_nil | (apply ar_splitp; (apply ev_move; rfl); rfl; all_goals (intro hc; try (exfalso; first | omega | contradiction | (simp at hc; omega) | (simp_all; done)))) | (apply ar_ev; (apply ev_move; rfl); rfl) | (apply ar_ev; (first | (apply ev_assign; rfl) | (apply ev_pick_t; rfl; rfl) | (apply ev_pick_f; rfl; rfl) | (apply ev_geq; rfl; rfl) | (apply ev_index_bl; rfl; rfl; assumption) | (apply ev_buildSlice; rfl; rfl; rfl; rfl; rfl; rfl; rfl) | (apply ev_addw; rfl; rfl)); rfl) | (apply ar_skip; rfl; rfl; rfl; rfl; rfl) | (apply ar_take; rfl; rfl; rfl; (apply ev_move; rfl); rfl) | (apply ar_take; rfl; rfl; rfl; (apply ev_leq; rfl; rfl); rfl) | apply aw_seq | apply a_region | apply aw_block | apply aw_skip | (apply aw_condp; rfl; all_goals (intro hc; try (exfalso; first | omega | contradiction | (simp at hc; omega) | (simp_all; done)))) | (apply aw_cond_f; rfl) | apply go_seq)
    · rename_i h1
      have hu : v8 (lowB c) = .val (.int .u8 (IntKind.u8.wrap ((c.toNat : Int) + 32))) := by
        have h2 : 65 ≤ c.toNat ∧ c.toNat ≤ 90 := ⟨by omega, by omega⟩
        unfold v8
        rw [lowB, if_pos h2, low_toNat c h2, wrap8]
        congr 2
        omega
      rw [hu] at hrow
      repeat' (first | apply ar_nil | (apply ar_ev; (apply ev_move; rfl); rfl) | (apply ar_ev; (first | (apply ev_assign; rfl) | (apply ev_inc; rfl; exact (by first | omega | assumption))); rfl) | apply a_region | apply go_seq | apply go_block | (apply ar_append; rfl; (focus ((repeat (first | exact Take.head | apply Take.tail | apply Take.right)); done)); rfl; exact (by first | omega | assumption | (simp; done) | (simp; omega) | exact Nat.le_of_ble_eq_true rfl); exact (by first | omega | assumption | (simp; done) | (simp; omega) | exact Nat.le_of_ble_eq_true rfl); exact (by first | omega | assumption | (simp; done) | (simp; omega) | exact Nat.le_of_ble_eq_true rfl); rfl; intro lab))
      exact go_loop_back ⟨(i + 1, _), by dsimp only; omega, by dsimp only; omega, Sub.of (by repeat (first | exact .nil | refine .cons rfl Le.refl ?_)) (by repeat (first | exact Takes.nil | (apply Takes.cons; focus (repeat (first | exact Take.head | exact Take.rowc hrow Take.head | apply Take.tail | apply Take.right)))))⟩
    all_goals
      have hs : lowB c = c := by unfold lowB; rw [if_neg (by omega)]
      rw [hs] at hrow
      repeat' (first | apply ar_nil | (apply ar_ev; (apply ev_move; rfl); rfl) | (apply ar_ev; (first | (apply ev_assign; rfl) | (apply ev_inc; rfl; exact (by first | omega | assumption))); rfl) | apply a_region | apply go_seq | apply go_block | (apply ar_append; rfl; (focus ((repeat (first | exact Take.head | apply Take.tail | apply Take.right)); done)); rfl; exact (by first | omega | assumption | (simp; done) | (simp; omega) | exact Nat.le_of_ble_eq_true rfl); exact (by first | omega | assumption | (simp; done) | (simp; omega) | exact Nat.le_of_ble_eq_true rfl); exact (by first | omega | assumption | (simp; done) | (simp; omega) | exact Nat.le_of_ble_eq_true rfl); rfl; intro lab))
      exact go_loop_back ⟨(i + 1, _), by dsimp only; omega, by dsimp only; omega, Sub.of (by repeat (first | exact .nil | refine .cons rfl Le.refl ?_)) (by repeat (first | exact Takes.nil | (apply Takes.cons; focus (repeat (first | exact Take.head | exact Take.rowc hrow Take.head | apply Take.tail | apply Take.right)))))⟩
  · obtain rfl : i = s.size := by omega
    have e : u8cells (((bl s).take s.size).map lowB) = u8cells ((bl s).map lowB) := by rw [← hl, List.take_length]
    have hlm : ((bl s).map lowB).length = s.size := by rw [List.length_map, hl]
    rw [e, ← hlm]
    repeat' (first | apply ar_nil | (apply ar_ev; (apply ev_move; rfl); rfl) | (apply ar_ev; (first | (apply ev_assign; rfl) | (apply ev_conv_own; rfl; (focus ((repeat (first | exact Take.head | apply Take.tail | apply Take.right)); done)))); rfl) | apply aw_seq | apply a_region | apply aw_exit | apply aw_ret | apply go_seq | apply go_seq_exit | apply go_block_exit | apply go_loop_exit)
    exact g_ret1 (r_tmp rfl) .nil rfl

theorem blank_ok (n : Nat) : PFn Tryd.prog 100 [.val (.int .u8 n)] (vb (decide ((n : Int) = 32) || decide ((n : Int) = 9))) := by
  refine fn_of Tryd.func100 rfl Tryd.ntmps100 Tryd.results100 rfl fun G => ?_
  repeat' (first | apply ar_nil | (apply ar_splitp; (apply ev_move; rfl); rfl; all_goals (intro hc; try (exfalso; first | omega | contradiction | (simp at hc; omega) | (simp_all; done)))) | (apply ar_ev; (apply ev_move; rfl); rfl) | (apply ar_ev; (first | (apply ev_assign; rfl) | (apply ev_pick_t; rfl; rfl) | (apply ev_pick_f; rfl; rfl) | (apply ev_eqip; rfl; rfl)); rfl) | (apply ar_skip; rfl; rfl; rfl; rfl; rfl) | (apply ar_take; rfl; rfl; rfl; (apply ev_move; rfl); rfl) | (apply ar_take; rfl; rfl; rfl; (apply ev_eqip; rfl; rfl); rfl) | apply aw_seq | apply a_region | apply aw_ret | apply go_seq)
  all_goals exact g_ret1 (r_tmp rfl) .nil (by simp_all)

theorem blank_dec (c : UInt8) : (decide ((c.toNat : Int) = 32) || decide ((c.toNat : Int) = 9)) = bk c := by
  have h1 : ((c.toNat : Int) = 32) ↔ c = 32 := ⟨fun h => UInt8.toNat_inj.1 (by have : (32 : UInt8).toNat = 32 := rfl; omega), fun h => by rw [h]; rfl⟩
  have h2 : ((c.toNat : Int) = 9) ↔ c = 9 := ⟨fun h => UInt8.toNat_inj.1 (by have : (9 : UInt8).toNat = 9 := rfl; omega), fun h => by rw [h]; rfl⟩
  unfold bk
  by_cases a : c = 32 <;> by_cases b : c = 9 <;> simp [h1, h2, a, b]

theorem trimL_cons (c : UInt8) (l : List UInt8) : trimL (c :: l) = if bk c then trimL l else c :: l := by
  unfold trimL; rw [List.dropWhile_cons]
theorem trimR_snoc (c : UInt8) (l : List UInt8) : trimR (l ++ [c]) = if bk c then trimR l else l ++ [c] := by
  unfold trimR; rw [List.reverse_append, List.reverse_singleton, List.singleton_append, List.dropWhile_cons]
  split
  · rfl
  · simp

theorem trimmed_ok (s : ByteArray) (hn : s.size ≤ 1099511627776) : PFn Tryd.prog 83 [vs s] (vs (BA (trim (bl s)))) := by
  refine fn_of Tryd.func83 rfl Tryd.ntmps83 Tryd.results83 rfl fun G => ?_
  repeat' (first | apply ar_nil | (apply ar_ev; (apply ev_assign; rfl); rfl) | apply aw_seq | apply a_region | apply aw_block | apply go_seq)
  refine aw_joinb (fun l : List UInt8 => ⟨[(0, vs (BA l))], []⟩) (fun l => trimR l = trim (bl s) ∧ l.length ≤ s.size) ?_ ?_
  · refine a_loop (fun l : List UInt8 => ⟨[(0, vs (BA l))], []⟩) (fun l => trimL l = trimL (bl s) ∧ l.length ≤ s.size) (fun l => l.length) (bl s) (by rw [BA_bl]; exact Sub.of (by repeat (first | exact .nil | refine .cons rfl Le.refl ?_)) (by repeat (first | exact Takes.nil | (apply Takes.cons; focus (repeat (first | exact Take.head | apply Take.tail | apply Take.right)))))) ⟨rfl, by rw [bl_length]; exact Nat.le_refl _⟩ ?_
    rintro l ⟨hl, hls⟩
    rcases l with _ | ⟨c, l⟩
    · have h0 : (BA []).size = 0 := rfl
      repeat' (first | apply ar_nil | (apply ar_splitp; (apply ev_move; rfl); rfl; all_goals (intro hc; try (exfalso; first | omega | contradiction | (simp at hc; omega) | (simp_all; done)))) | (apply ar_ev; (apply ev_move; rfl); rfl) | (apply ar_ev; (first | (apply ev_pick_f; rfl; rfl) | (apply ev_gtr; rfl; rfl) | (apply ev_len_str; rfl)); rfl) | (apply ar_skip; rfl; rfl; rfl; rfl; rfl) | apply aw_seq | apply a_region | apply aw_exit | (apply aw_cond_f; rfl) | apply go_seq | apply go_seq_exit | apply go_block_exit | apply go_loop_exit)
      exact go_loop_back ⟨[], ⟨by unfold trim; rw [← hl]; rfl, Nat.zero_le _⟩, Sub.of (by repeat (first | exact .nil | refine .cons rfl Le.refl ?_)) (by repeat (first | exact Takes.nil | (apply Takes.cons; focus (repeat (first | exact Take.head | apply Take.tail | apply Take.right)))))⟩
    · have h0 := BA_size (c :: l)
      have hb : (bl (BA (c :: l)))[0]? = some c := by simp
      have hx : (BA (c :: l)).extract 1 (BA (c :: l)).size = BA l := by rw [BA_extract, h0]; simp
      rw [List.length_cons] at h0 hls
      repeat' (first | apply ar_nil | (apply ar_splitp; (apply ev_move; rfl); rfl; all_goals (intro hc; try (exfalso; first | omega | contradiction | (simp at hc; omega) | (simp_all; done)))) | (apply ar_ev; (apply ev_move; rfl); rfl) | (apply ar_ev; (first | (apply ev_assign; rfl) | (apply ev_pick_t; rfl; rfl) | (apply ev_gtr; rfl; rfl) | (apply ev_len_str; rfl) | (apply ev_slice_str; rfl; exact (by first | exact LoB.none | exact LoB.some (l := 0) rfl | exact LoB.some (l := 1) rfl | exact LoB.some rfl); exact (by first | exact HiB.none | exact HiB.some rfl); exact (by first | omega | assumption); exact (by first | omega | assumption))); rfl) | (apply ar_take; rfl; rfl; rfl; (apply ev_move; rfl); rfl) | (apply ar_take; rfl; rfl; rfl; (first | exact ev_call rfl rfl (blank_ok _) | (apply ev_index_bl; rfl; rfl; assumption)); rfl) | apply aw_seq | apply a_region | apply aw_block | apply aw_skip | apply aw_exit | (apply aw_condb; rfl; all_goals (intro hc; try (exfalso; first | omega | contradiction | (simp at hc; omega) | (simp_all; done)))) | apply go_seq | apply go_seq_exit | apply go_block | apply go_block_exit | apply go_loop_exit)
      · rw [blank_dec] at hc
        rw [hx]
        refine go_loop_back ⟨l, ⟨?_, by omega⟩, by simp, Sub.of (by repeat (first | exact .nil | refine .cons rfl Le.refl ?_)) (by repeat (first | exact Takes.nil | (apply Takes.cons; focus (repeat (first | exact Take.head | apply Take.tail | apply Take.right)))))⟩
        rw [trimL_cons, if_pos hc] at hl
        exact hl
      · rw [blank_dec] at hc
        refine go_loop_back ⟨c :: l, ⟨?_, by rw [List.length_cons]; omega⟩, Sub.of (by repeat (first | exact .nil | refine .cons rfl Le.refl ?_)) (by repeat (first | exact Takes.nil | (apply Takes.cons; focus (repeat (first | exact Take.head | apply Take.tail | apply Take.right)))))⟩
        unfold trim
        rw [← hl, trimL_cons, hc]; rfl
  · rintro l ⟨hl, hls⟩
    repeat' (first | apply aw_seq | apply aw_block)
    refine a_loop (fun l : List UInt8 => ⟨[(0, vs (BA l))], []⟩) (fun l => trimR l = trim (bl s) ∧ l.length ≤ s.size) (fun l => l.length) l (Sub.of (by repeat (first | exact .nil | refine .cons rfl Le.refl ?_)) (by repeat (first | exact Takes.nil | (apply Takes.cons; focus (repeat (first | exact Take.head | apply Take.tail | apply Take.right)))))) ⟨hl, hls⟩ ?_
    clear hl hls l
    rintro l ⟨hl, hls⟩
    rcases List.eq_nil_or_concat l with rfl | ⟨l, c, rfl⟩
    · have h0 : (BA []).size = 0 := rfl
      repeat' (first | apply ar_nil | (apply ar_splitp; (apply ev_move; rfl); rfl; all_goals (intro hc; try (exfalso; first | omega | contradiction | (simp at hc; omega) | (simp_all; done)))) | (apply ar_ev; (apply ev_move; rfl); rfl) | (apply ar_ev; (first | (apply ev_assign; rfl) | (apply ev_pick_f; rfl; rfl) | (apply ev_gtr; rfl; rfl) | (apply ev_len_str; rfl)); rfl) | (apply ar_skip; rfl; rfl; rfl; rfl; rfl) | apply aw_seq | apply a_region | apply aw_exit | apply aw_ret | (apply aw_cond_f; rfl) | apply go_seq | apply go_seq_exit | apply go_block_exit | apply go_loop_exit)
      exact g_ret1 (r_tmp rfl) .nil (by rw [← hl]; rfl)
    · rw [List.concat_eq_append] at *
      have h0 := BA_size (l ++ [c])
      have hb : (bl (BA (l ++ [c])))[l.length]? = some c := by simp
      have hx : (BA (l ++ [c])).extract 0 l.length = BA l := by rw [BA_extract]; simp
      have hm : ((BA (l ++ [c])).size : Int) - 1 = (l.length : Nat) := by rw [h0]; simp
      have h1 : (BA (l ++ [c])).size = l.length + 1 := by rw [h0]; simp
      rw [List.length_append, List.length_singleton] at hls
      repeat' (first | (apply ar_splitp; (apply ev_move; rfl); rfl; all_goals (intro hc; try (exfalso; first | omega | contradiction | (simp at hc; omega) | (simp_all; done)))) | (apply ar_ev; (apply ev_move; rfl); rfl) | (apply ar_ev; (first | (apply ev_gtr; rfl; rfl) | (apply ev_len_str; rfl)); rfl) | (apply ar_take; rfl; rfl; rfl; (apply ev_move; rfl); rfl) | (apply ar_take; rfl; rfl; rfl; (first | (apply ev_sub; rfl; rfl; exact (by first | omega | assumption); exact (by first | omega | assumption)) | (apply ev_len_str; rfl)); rfl) | apply aw_seq | apply a_region)
      rw [hm]
      repeat' (first | apply ar_nil | (apply ar_ev; (apply ev_move; rfl); rfl) | (apply ar_ev; (first | (apply ev_assign; rfl) | (apply ev_pick_t; rfl; rfl) | (apply ev_sub; rfl; rfl; exact (by first | omega | assumption); exact (by first | omega | assumption)) | (apply ev_len_str; rfl)); rfl) | (apply ar_take; rfl; rfl; rfl; (first | exact ev_call rfl rfl (blank_ok _) | (apply ev_index_bl; rfl; rfl; assumption)); rfl) | apply aw_seq | apply a_region | apply aw_block | apply aw_skip | apply aw_exit | apply aw_ret | (apply aw_condb; rfl; all_goals (intro hc; try (exfalso; first | omega | contradiction | (simp at hc; omega) | (simp_all; done)))) | apply go_seq | apply go_seq_exit | apply go_block_exit | apply go_loop_exit)
      · rw [blank_dec] at hc
        rw [hm]
        repeat' (first | apply ar_nil | (apply ar_ev; (first | (apply ev_assign; rfl) | (apply ev_slice_str; rfl; exact (by first | exact LoB.none | exact LoB.some (l := 0) rfl | exact LoB.some (l := 1) rfl | exact LoB.some rfl); exact (by first | exact HiB.none | exact HiB.some rfl); exact (by first | omega | assumption); exact (by first | omega | assumption))); rfl) | apply go_block)
        rw [hx]
        refine go_loop_back ⟨l, ⟨?_, by omega⟩, by simp, Sub.of (by repeat (first | exact .nil | refine .cons rfl Le.refl ?_)) (by repeat (first | exact Takes.nil | (apply Takes.cons; focus (repeat (first | exact Take.head | apply Take.tail | apply Take.right)))))⟩
        rw [trimR_snoc, if_pos hc] at hl
        exact hl
      · rw [blank_dec] at hc
        have hf : l ++ [c] = trim (bl s) := by rw [← hl, trimR_snoc, hc]; rfl
        skip
        exact g_ret1 (r_tmp rfl) .nil (by rw [hf])
end Go.Proofs.YtphkfejckafamaaDoor
