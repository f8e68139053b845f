import Derived.Test.YtfebfgmbaenhlaaDoorI
set_option linter.unusedVariables false
set_option linter.unusedSimpArgs false
set_option maxRecDepth 100000
namespace Go.Proofs.YtfebfgmbaenhlaaDoor
open Go.Proofs Go.Proofs.YtfebfgmbaenhlaaDoorA

set_option maxHeartbeats 4000000 in
theorem Names3_ok (r : Rs) (hn : r.fs.length ≤ 3) (hv : ∀ f, f ∈ r.fs → f.v.size ≤ 16777216) : FnC Tryd.prog 14 [] [.agg (encR r)] (fun ts v => ∃ lab, ts = [(lab, .row 9 1 ((namesN r.fs).1.map encS))] ∧ v = .tup [.own lab 0 (namesN r.fs).1.length, vb (namesN r.fs).2] ∧ (namesN r.fs).1.length ≤ 1099516870656) := by
  refine fn_of Tryd.func14 rfl Tryd.ntmps14 Tryd.results14 rfl fun G => ?_
  repeat' (first | apply ar_nil | (apply ar_ev; (apply ev_move; rfl); rfl) | (apply ar_ev; (first | (apply ev_load_ptr_one; rfl; (focus ((repeat (first | exact Take.head | apply Take.tail | apply Take.right)); done)); exact (by first | rfl | assumption | exact get_map (by assumption)); rfl) | (apply ev_fieldAddr_ptr; rfl) | (apply ev_assign; rfl) | (apply ev_len_sl; rfl)); rfl) | (apply ar_new; (first | apply eff_alloc | (apply eff_box; rfl; exact lies_of rfl) | (apply eff_conv_bytes; rfl; exact (by first | omega | assumption | (simp; done) | (simp; omega) | exact Nat.le_of_ble_eq_true rfl))); exact .nil; rfl; intro lab) | apply aw_seq | apply a_region | apply aw_block | apply go_seq)
  refine aw_adopt 4 9 1 rfl fun lab => ?_
  skip
  have h0 : ([] : List (List AV)) = ([] : List ByteArray).map encS := rfl
  refine a_loop (fun g : Nat × Nat × List ByteArray × Bool => ⟨[(4, .own g.2.1 0 g.2.2.1.length), (5, vb g.2.2.2), (12, fsl r.fs), (13, vi r.fs.length), (14, vi g.1)], [(g.2.1, .row 9 1 (g.2.2.1.map encS))]⟩)
    (fun g => g.1 ≤ r.fs.length ∧ g.2.2 = (r.fs.take g.1).foldl fieldN ([], false) ∧ g.2.2.1.length ≤ g.1 * 16777217) (fun g => r.fs.length - g.1) (0, lab, [], false) (Sub.of (by repeat (first | exact .nil | refine .cons rfl Le.refl ?_)) (by repeat (first | exact Takes.nil | (apply Takes.cons; focus (repeat (first | exact Take.head | exact Take.rowc h0 Take.head | apply Take.tail | apply Take.right)))))) ⟨Nat.zero_le _, rfl, Nat.zero_le _⟩ ?_
  rintro ⟨i, l, ns, st⟩ ⟨hi, hf, hl⟩
  dsimp only at *
  repeat' (first | apply ar_nil | (apply ar_ev; (apply ev_lss; rfl; rfl); rfl) | apply aw_seq | apply a_region | apply go_seq)
  refine aw_condp rfl (fun hk => ?_) (fun hk => ?_)
  · obtain ⟨f, hfe⟩ : ∃ f, r.fs[i]? = some f := ⟨_, List.getElem?_eq_getElem (by omega)⟩
    have hfe2 := fsl_get hfe
    have hsz := hv _ (List.mem_of_getElem? hfe)
    have hsplit : PFn Tryd.prog 42 [vs f.v, vs ⟨#[44]⟩] (ssl (pcs 44 (bl f.v))) := split_ok f.v 44 (by omega)
    repeat' (first | apply ar_nil | (apply ar_ev; (apply ev_move; rfl); rfl) | (apply ar_ev; (first | exact ev_call rfl rfl hsplit | (apply ev_load_ptr_one; rfl; (focus ((repeat (first | exact Take.head | apply Take.tail | apply Take.right)); done)); exact (by first | rfl | assumption | exact get_map (by assumption)); rfl) | (apply ev_fieldAddr_ptr; rfl) | (apply ev_load_ip_agg; rfl; exact Nat.le_of_ble_eq_true rfl) | (apply ev_inc; rfl; exact (by first | omega | assumption)) | (apply ev_nesp; rfl; rfl) | (apply ev_len_sl; rfl) | (apply ev_indexAddr_sl; rfl; rfl; exact (by first | omega | assumption); exact (by first | rfl | assumption | exact get_map (by assumption)))); rfl) | (apply ar_new; (first | apply eff_alloc | (apply eff_box; rfl; exact lies_of rfl) | (apply eff_conv_bytes; rfl; exact (by first | omega | assumption | (simp; done) | (simp; omega) | exact Nat.le_of_ble_eq_true rfl))); exact .nil; rfl; intro lab) | (apply ar_store; rfl; (focus ((repeat (first | exact Take.head | apply Take.tail | apply Take.right)); done)); rfl; rfl; exact (by first | rfl | assumption | exact get_map (by assumption)); rfl; rfl) | apply aw_seq | apply a_region | apply aw_block | apply aw_skip | apply aw_exit | (apply aw_condp; rfl; all_goals (intro hc; try (exfalso; first | omega | contradiction | (simp at hc; omega) | (simp_all; done)))) | apply go_seq | apply go_seq_exit | apply go_block_exit)
    · clear hsplit hfe2
      refine go_loop_back ⟨(i + 1, l, ns, st), ⟨by dsimp only; omega, ?_, Nat.le_trans hl (Nat.mul_le_mul_right _ (Nat.le_succ i))⟩, by dsimp only; omega, Sub.of (by repeat (first | exact .nil | refine .cons rfl Le.refl ?_)) (by repeat (first | exact Takes.nil | (apply Takes.cons; focus (repeat (first | exact Take.head | apply Take.tail | apply Take.right)))))⟩
      dsimp only
      rw [foldl_take _ _ hfe, ← hf, fieldN, if_neg hc]
    · have hc := Decidable.not_not.1 hc
      have hp1 : (pcs 44 (bl f.v)).length ≤ 16777217 := by
        have h := pieces_len_le 44 (bl f.v)
        rw [bl_length] at h
        rw [List.length_map]
        omega
      clear hsplit hfe2
      refine a_loop (fun g : Nat × Nat × List ByteArray × Bool => ⟨[(4, .own g.2.1 0 g.2.2.1.length), (5, vb g.2.2.2), (12, fsl r.fs), (13, vi r.fs.length), (14, vi i), (23, ssl (pcs 44 (bl f.v))), (24, vi (pcs 44 (bl f.v)).length), (25, vi g.1)], [(g.2.1, .row 9 1 (g.2.2.1.map encS))]⟩)
        (fun g => g.1 ≤ (pcs 44 (bl f.v)).length ∧ g.2.2 = ((nms (bl f.v)).take g.1).foldl nstep (ns, st) ∧ g.2.2.1.length ≤ ns.length + g.1) (fun g => (pcs 44 (bl f.v)).length - g.1) (0, l, ns, st) (Sub.of (by repeat (first | exact .nil | refine .cons rfl Le.refl ?_)) (by repeat (first | exact Takes.nil | (apply Takes.cons; focus (repeat (first | exact Take.head | apply Take.tail | apply Take.right)))))) ⟨Nat.zero_le _, rfl, Nat.le_refl _⟩ ?_
      rintro ⟨j, l2, ns2, st2⟩ ⟨hj, hf2, hl2⟩
      dsimp only at *
      repeat' (first | apply ar_nil | (apply ar_ev; (apply ev_lss; rfl; rfl); rfl) | apply aw_seq | apply a_region | apply go_seq)
      refine aw_condp rfl (fun hk2 => ?_) (fun hk2 => ?_)
      · have hjl : j < (pieces 44 (bl f.v)).length := by have e : (pcs 44 (bl f.v)).length = (pieces 44 (bl f.v)).length := List.length_map _; omega
        obtain ⟨p, hp⟩ : ∃ p, (pieces 44 (bl f.v))[j]? = some p := ⟨_, List.getElem?_eq_getElem hjl⟩
        have hp2 : ((pcs 44 (bl f.v)).map encS)[j]? = some [vs (BA p)] := by simp [hp]
        have hp3 : (nms (bl f.v))[j]? = some (nm p) := by simp [hp]
        have hps : (BA p).size ≤ 16777216 := by
          rw [BA_size]
          exact Nat.le_trans (pieces_mem (List.mem_of_getElem? hp)) (by rw [bl_length]; exact hsz)
        have htr : PFn Tryd.prog 44 [vs (BA p), vs ⟨#[32, 9]⟩] (vs (BA (trim (bl (BA p))))) := trim_ok (BA p) (by omega)
        have hsm : PFn Tryd.prog 43 [vs (BA (trim (bl (BA p))))] (vs (nm p)) := by
          have := small_ok (BA (trim (bl (BA p)))) (Nat.le_trans (trim_size _) (by omega))
          rwa [nm_eq] at this
        have hct := contains_ok ns2 (nm p) (by omega)
        have hstep : ((nms (bl f.v)).take (j + 1)).foldl nstep (ns, st) = nstep (ns2, st2) (nm p) := by rw [foldl_take _ _ hp3, ← hf2]
        clear hp3
        repeat' (first | apply ar_nil | (apply ar_splitp; (apply ev_move; rfl); rfl; all_goals (intro hc; try (exfalso; first | omega | contradiction | (simp at hc; omega) | (simp_all; done)))) | (apply ar_ev; (apply ev_move; rfl); rfl) | (apply ar_ev; (first | exact ev_call rfl rfl htr | exact ev_call rfl rfl hsm | (apply ev_load_ip_one; rfl; rfl) | (apply ev_assign; rfl) | (apply ev_pick_t; rfl; rfl) | (apply ev_pick_f; rfl; rfl) | (apply ev_inc; rfl; exact (by first | omega | assumption)) | (apply ev_eqsp; rfl; rfl) | (apply ev_nesp; rfl; rfl) | (apply ev_indexAddr_sl; rfl; rfl; exact (by first | omega | assumption); exact (by first | rfl | assumption | exact get_map (by assumption))) | (apply ev_buildSlice; rfl; rfl; rfl; rfl; rfl; rfl; rfl)); rfl) | (apply ar_skip; rfl; rfl; rfl; rfl; rfl) | (apply ar_take; rfl; rfl; rfl; (apply ev_move; rfl); rfl) | (apply ar_take; rfl; rfl; rfl; (first | (apply ev_callL hct; rfl; rfl; (focus ((repeat (first | exact Cvs.nil | (apply Cvs.cons; first | exact Cv.refl | exact Cv.le Le.nil | (apply Cv.own0; (focus ((repeat (first | exact Take.head | apply Take.tail | apply Take.right)); done)); exact (by first | omega | assumption | (simp; done) | (simp; omega) | exact Nat.le_of_ble_eq_true rfl)) | (apply Cv.own_pre; (focus ((repeat (first | exact Take.head | apply Take.tail | apply Take.right)); done)); exact (by first | omega | assumption | (simp; done) | (simp; omega) | exact Nat.le_of_ble_eq_true rfl)) | (apply Cv.ptr0; (focus ((repeat (first | exact Take.head | apply Take.tail | apply Take.right)); done)); first | rfl | assumption) | (apply Cv.agg; (focus ((repeat (first | exact Cvs.nil | (apply Cvs.cons; first | exact Cv.refl | exact Cv.le Le.nil | (apply Cv.own0; (focus ((repeat (first | exact Take.head | apply Take.tail | apply Take.right)); done)); exact (by first | omega | assumption | (simp; done) | (simp; omega) | exact Nat.le_of_ble_eq_true rfl)) | (apply Cv.own_pre; (focus ((repeat (first | exact Take.head | apply Take.tail | apply Take.right)); done)); exact (by first | omega | assumption | (simp; done) | (simp; omega) | exact Nat.le_of_ble_eq_true rfl)) | (apply Cv.ptr0; (focus ((repeat (first | exact Take.head | apply Take.tail | apply Take.right)); done)); first | rfl | assumption) | (apply Cv.agg; (focus ((repeat (first | exact Cvs.nil | (apply Cvs.cons; first | exact Cv.refl | exact Cv.le Le.nil | (apply Cv.own0; (focus ((repeat (first | exact Take.head | apply Take.tail | apply Take.right)); done)); exact (by first | omega | assumption | (simp; done) | (simp; omega) | exact Nat.le_of_ble_eq_true rfl)) | (apply Cv.own_pre; (focus ((repeat (first | exact Take.head | apply Take.tail | apply Take.right)); done)); exact (by first | omega | assumption | (simp; done) | (simp; omega) | exact Nat.le_of_ble_eq_true rfl)) | (apply Cv.ptr0; (focus ((repeat (first | exact Take.head | apply Take.tail | apply Take.right)); done)); first | rfl | assumption)))); done))) | (apply Cv.fn; (focus ((repeat (first | exact Cvs.nil | (apply Cvs.cons; first | exact Cv.refl | exact Cv.le Le.nil | (apply Cv.own0; (focus ((repeat (first | exact Take.head | apply Take.tail | apply Take.right)); done)); exact (by first | omega | assumption | (simp; done) | (simp; omega) | exact Nat.le_of_ble_eq_true rfl)) | (apply Cv.own_pre; (focus ((repeat (first | exact Take.head | apply Take.tail | apply Take.right)); done)); exact (by first | omega | assumption | (simp; done) | (simp; omega) | exact Nat.le_of_ble_eq_true rfl)) | (apply Cv.ptr0; (focus ((repeat (first | exact Take.head | apply Take.tail | apply Take.right)); done)); first | rfl | assumption)))); done)))))); done))) | (apply Cv.fn; (focus ((repeat (first | exact Cvs.nil | (apply Cvs.cons; first | exact Cv.refl | exact Cv.le Le.nil | (apply Cv.own0; (focus ((repeat (first | exact Take.head | apply Take.tail | apply Take.right)); done)); exact (by first | omega | assumption | (simp; done) | (simp; omega) | exact Nat.le_of_ble_eq_true rfl)) | (apply Cv.own_pre; (focus ((repeat (first | exact Take.head | apply Take.tail | apply Take.right)); done)); exact (by first | omega | assumption | (simp; done) | (simp; omega) | exact Nat.le_of_ble_eq_true rfl)) | (apply Cv.ptr0; (focus ((repeat (first | exact Take.head | apply Take.tail | apply Take.right)); done)); first | rfl | assumption) | (apply Cv.agg; (focus ((repeat (first | exact Cvs.nil | (apply Cvs.cons; first | exact Cv.refl | exact Cv.le Le.nil | (apply Cv.own0; (focus ((repeat (first | exact Take.head | apply Take.tail | apply Take.right)); done)); exact (by first | omega | assumption | (simp; done) | (simp; omega) | exact Nat.le_of_ble_eq_true rfl)) | (apply Cv.own_pre; (focus ((repeat (first | exact Take.head | apply Take.tail | apply Take.right)); done)); exact (by first | omega | assumption | (simp; done) | (simp; omega) | exact Nat.le_of_ble_eq_true rfl)) | (apply Cv.ptr0; (focus ((repeat (first | exact Take.head | apply Take.tail | apply Take.right)); done)); first | rfl | assumption)))); done))) | (apply Cv.fn; (focus ((repeat (first | exact Cvs.nil | (apply Cvs.cons; first | exact Cv.refl | exact Cv.le Le.nil | (apply Cv.own0; (focus ((repeat (first | exact Take.head | apply Take.tail | apply Take.right)); done)); exact (by first | omega | assumption | (simp; done) | (simp; omega) | exact Nat.le_of_ble_eq_true rfl)) | (apply Cv.own_pre; (focus ((repeat (first | exact Take.head | apply Take.tail | apply Take.right)); done)); exact (by first | omega | assumption | (simp; done) | (simp; omega) | exact Nat.le_of_ble_eq_true rfl)) | (apply Cv.ptr0; (focus ((repeat (first | exact Take.head | apply Take.tail | apply Take.right)); done)); first | rfl | assumption)))); done)))))); done)))))); done)); constructor) | (apply ev_notp; rfl)); rfl) | apply aw_seq | apply a_region | apply aw_block | apply aw_skip | (apply aw_condp; rfl; all_goals (intro hc; try (exfalso; first | omega | contradiction | (simp at hc; omega) | (simp_all; done)))) | (apply aw_cond_f; rfl) | apply go_seq | apply go_block | (apply ar_append; rfl; (focus ((repeat (first | exact Take.head | apply Take.tail | apply Take.right)); done)); rfl; exact (by first | omega | assumption | (simp; done) | (simp; omega) | exact Nat.le_of_ble_eq_true rfl); exact (by first | omega | assumption | (simp; done) | (simp; omega) | exact Nat.le_of_ble_eq_true rfl); exact (by first | omega | assumption | (simp; done) | (simp; omega) | exact Nat.le_of_ble_eq_true rfl); rfl; intro lab))
        · refine go_loop_back ⟨(j + 1, l2, ns2, true), ⟨by dsimp only; omega, ?_, by dsimp only; omega⟩, by dsimp only; omega, Sub.of (by repeat (first | exact .nil | refine .cons rfl Le.refl ?_)) (by repeat (first | exact Takes.nil | (apply Takes.cons; focus (repeat (first | exact Take.head | apply Take.tail | apply Take.right)))))⟩
          dsimp only
          rw [hstep, nstep, if_pos hc]
        · rename_i h1 h2 h3 h4 h5
          have hrow := hrowS ns2 (nm p)
          refine go_loop_back ⟨(j + 1, _, ns2 ++ [nm p], st2), ⟨by dsimp only; omega, ?_, by dsimp only; rw [List.length_append, List.length_singleton]; omega⟩, by dsimp only; omega, by dsimp only; rw [List.length_append, List.length_singleton]; exact Sub.of (by repeat (first | exact .nil | refine .cons rfl Le.refl ?_)) (by repeat (first | exact Takes.nil | (apply Takes.cons; focus (repeat (first | exact Take.head | exact Take.rowc hrow Take.head | apply Take.tail | apply Take.right)))))⟩
          dsimp only
          rw [hstep, nstep, if_neg ‹¬ nm p = tStar›, if_pos ⟨‹nm p ≠ es›, ‹nm p ∉ ns2›⟩]
        all_goals
          refine go_loop_back ⟨(j + 1, l2, ns2, st2), ⟨by dsimp only; omega, ?_, by dsimp only; omega⟩, by dsimp only; omega, Sub.of (by repeat (first | exact .nil | refine .cons rfl Le.refl ?_)) (by repeat (first | exact Takes.nil | (apply Takes.cons; focus (repeat (first | exact Take.head | apply Take.tail | apply Take.right)))))⟩
          dsimp only
          rw [hstep, nstep, if_neg ‹¬ nm p = tStar›, if_neg (by rintro ⟨h1, h2⟩; first | exact h2 (Decidable.not_not.1 ‹_›) | exact ‹¬ nm p ≠ _› h1 | simp_all)]
      · obtain rfl : j = (pcs 44 (bl f.v)).length := by omega
        have hll : (nms (bl f.v)).length = (pcs 44 (bl f.v)).length := by simp
        repeat' (first | apply ar_nil | (apply ar_ev; (apply ev_move; rfl); rfl) | (apply ar_ev; (apply ev_inc; rfl; exact (by first | omega | assumption)); rfl) | apply a_region | apply aw_exit | apply go_seq | apply go_seq_exit | apply go_block | apply go_block_exit | apply go_loop_exit)
        refine go_loop_back ⟨(i + 1, l2, ns2, st2), ⟨by dsimp only; omega, ?_, by dsimp only; omega⟩, by dsimp only; omega, Sub.of (by repeat (first | exact .nil | refine .cons rfl Le.refl ?_)) (by repeat (first | exact Takes.nil | (apply Takes.cons; focus (repeat (first | exact Take.head | apply Take.tail | apply Take.right)))))⟩
        dsimp only
        rw [foldl_take _ _ hfe, ← hf, fieldN, if_pos hc, hf2, ← hll, List.take_length]
  · obtain rfl : i = r.fs.length := by omega
    rw [List.take_length] at hf
    have hf3 : namesN r.fs = (ns, st) := hf.symm
    repeat' (first | apply ar_nil | (apply ar_ev; (apply ev_move; rfl); rfl) | (apply ar_ev; (apply ev_assign; rfl); rfl) | apply aw_seq | apply a_region | apply aw_exit | apply aw_ret | apply go_seq | apply go_seq_exit | apply go_block_exit | apply go_loop_exit)
    rw [hf3]
    exact g_ret2 (r_tmp rfl) (r_tmp rfl) (.cons (by repeat (first | exact Take.head | apply Take.tail | apply Take.right)) .nil) ⟨_, rfl, rfl, by dsimp only; omega⟩

/-! What names look like. -/
def upB (c : UInt8) : UInt8 := if 97 ≤ c.toNat ∧ c.toNat ≤ 122 then c - 32 else c
theorem up_toNat (c : UInt8) (h : 97 ≤ c.toNat ∧ c.toNat ≤ 122) : (c - 32).toNat = c.toNat - 32 := by
  rw [UInt8.toNat_sub_of_le]
  · rfl
  · rw [UInt8.le_iff_toNat_le]; have : (32 : UInt8).toNat = 32 := rfl; omega
theorem low_up (c : UInt8) : lowB (upB c) = lowB c := by
  unfold upB
  by_cases h : 97 ≤ c.toNat ∧ c.toNat ≤ 122
  · rw [if_pos h]
    have h1 := up_toNat c h
    have h2 : lowB c = c := by unfold lowB; rw [if_neg (by omega)]
    rw [h2]
    unfold lowB
    rw [if_pos (by omega)]
    apply UInt8.toNat_inj.1
    rw [low_toNat _ (by omega), h1]; omega
  · rw [if_neg h]
theorem byteNe {c : UInt8} {n : Nat} (d : UInt8) (hd : d.toNat = n) (h : c.toNat ≠ n) : c ≠ d := fun e => h (by rw [e, hd])
theorem low_44 {c : UInt8} (h : lowB c = 44) : c = 44 := by
  unfold lowB at h
  split at h
  · rename_i h1
    have := congrArg UInt8.toNat h
    rw [low_toNat c h1] at this
    have h2 : (44 : UInt8).toNat = 44 := rfl
    omega
  · exact h
theorem up_44 {c : UInt8} (h : upB c = 44) : c = 44 := by
  unfold upB at h
  split at h
  · rename_i h1
    have := congrArg UInt8.toNat h
    rw [up_toNat c h1] at this
    have h2 : (44 : UInt8).toNat = 44 := rfl
    omega
  · exact h
theorem bk_iff (c : UInt8) : bk c = true ↔ c.toNat = 32 ∨ c.toNat = 9 := by
  have h1 : c = 32 ↔ c.toNat = 32 := ⟨fun h => by rw [h]; rfl, fun h => UInt8.toNat_inj.1 (by rw [h]; rfl)⟩
  have h2 : c = 9 ↔ c.toNat = 9 := ⟨fun h => by rw [h]; rfl, fun h => UInt8.toNat_inj.1 (by rw [h]; rfl)⟩
  simp [bk, h1, h2]
theorem bk_low (c : UInt8) : bk (lowB c) = bk c := Bool.eq_iff_iff.2 (by
  rw [bk_iff, bk_iff]
  unfold lowB
  split
  · rename_i h; rw [low_toNat c h]; omega
  · exact Iff.rfl)
theorem bk_up (c : UInt8) : bk (upB c) = bk c := Bool.eq_iff_iff.2 (by
  rw [bk_iff, bk_iff]
  unfold upB
  split
  · rename_i h; rw [up_toNat c h]; omega
  · exact Iff.rfl)
theorem trimL_map {f : UInt8 → UInt8} (h : ∀ c, bk (f c) = bk c) (l : List UInt8) : trimL (l.map f) = (trimL l).map f := by
  induction l with
  | nil => rfl
  | cons c l ih =>
    rw [List.map_cons, trimL_cons, trimL_cons, h]
    split
    · exact ih
    · rfl
theorem trimR_rev (l : List UInt8) : trimR l = (trimL l.reverse).reverse := rfl
theorem trimR_map {f : UInt8 → UInt8} (h : ∀ c, bk (f c) = bk c) (l : List UInt8) : trimR (l.map f) = (trimR l).map f := by
  rw [trimR_rev, trimR_rev, ← List.map_reverse, trimL_map h, List.map_reverse]
theorem trim_map {f : UInt8 → UInt8} (h : ∀ c, bk (f c) = bk c) (l : List UInt8) : trim (l.map f) = (trim l).map f := by
  unfold trim; rw [trimL_map h, trimR_map h]
theorem trimL_idem (l : List UInt8) : trimL (trimL l) = trimL l := by
  induction l with
  | nil => rfl
  | cons c l ih =>
    rw [trimL_cons]
    split
    · exact ih
    · rename_i h; rw [trimL_cons, if_neg h]
theorem trimR_idem (l : List UInt8) : trimR (trimR l) = trimR l := by rw [trimR_rev, trimR_rev, List.reverse_reverse, trimL_idem]
theorem trim_idem (l : List UInt8) : trim (trim l) = trim l := by
  unfold trim
  rw [trim_comm, trimL_idem, trimR_idem]
theorem trimL_sub (l : List UInt8) : ∀ c, c ∈ trimL l → c ∈ l := fun c h => (List.dropWhile_suffix _).subset h
theorem trim_sub (l : List UInt8) : ∀ c, c ∈ trim l → c ∈ l := fun c h => by
  unfold trim at h
  rw [trimR_rev, List.mem_reverse] at h
  have := trimL_sub _ c h
  rw [List.mem_reverse] at this
  exact trimL_sub _ c this
theorem pieces_free {sep : UInt8} {l p : List UInt8} (h : p ∈ pieces sep l) : sep ∉ p := by
  induction l generalizing p with
  | nil => simp [pieces] at h; subst h; simp
  | cons a r ih =>
    unfold pieces at h
    split at h
    · rcases List.mem_cons.1 h with rfl | h
      · simp
      · exact ih h
    · rename_i ha
      cases hp : pieces sep r with
      | nil => exact absurd hp (pieces_ne _ _)
      | cons q t =>
        rw [hp] at h ih
        rcases List.mem_cons.1 h with rfl | h
        · intro hm
          rcases List.mem_cons.1 hm with e | hm
          · exact ha e.symm
          · exact ih List.mem_cons_self hm
        · exact ih (List.mem_cons_of_mem _ h)
theorem pieces_sum (sep : UInt8) (l : List UInt8) : ((pieces sep l).map fun p => p.length + 1).sum = l.length + 1 := by
  induction l with
  | nil => rfl
  | cons a r ih =>
    unfold pieces
    split
    · simp only [List.map_cons, List.sum_cons, List.length_nil, List.length_cons, ih]; omega
    · cases hp : pieces sep r with
      | nil => exact absurd hp (pieces_ne _ _)
      | cons q t =>
        rw [hp] at ih
        simp only [List.map_cons, List.sum_cons, List.length_cons] at ih ⊢
        omega

structure OkN (n : ByteArray) : Prop where
  ne : n ≠ es
  star : n ≠ tStar
  comma : (44 : UInt8) ∉ bl n
  trim : trim (bl n) = bl n
  low : (bl n).map lowB = bl n
theorem nm_comma {p : List UInt8} (h : (44 : UInt8) ∉ p) : (44 : UInt8) ∉ bl (nm p) := by
  intro hm
  rw [nm, bl_BA] at hm
  obtain ⟨c, hc, e⟩ := List.mem_map.1 hm
  exact h (low_44 e ▸ trim_sub _ _ hc)
theorem nm_trim (p : List UInt8) : trim (bl (nm p)) = bl (nm p) := by rw [nm, bl_BA, trim_map bk_low, trim_idem]
theorem nm_low (p : List UInt8) : (bl (nm p)).map lowB = bl (nm p) := by
  rw [nm, bl_BA, List.map_map]
  exact List.map_congr_left fun c _ => lowB_lowB c
theorem nm_size (p : List UInt8) : (nm p).size ≤ p.length := by
  rw [nm, BA_size, List.length_map]; exact trim_le p

/-- The weight of names. -/
def wt (l : List ByteArray) : Nat := (l.map fun n => n.size + 1).sum
theorem wt_snoc (l : List ByteArray) (n : ByteArray) : wt (l ++ [n]) = wt l + (n.size + 1) := by simp [wt]
structure InvN (st : List ByteArray × Bool) : Prop where
  ok : ∀ n, n ∈ st.1 → OkN n
  nodup : st.1.Nodup
theorem nstep_inv {st : List ByteArray × Bool} {p : List UInt8} (h : InvN st) (hp : (44 : UInt8) ∉ p) : InvN (nstep st (nm p)) ∧ wt (nstep st (nm p)).1 ≤ wt st.1 + (p.length + 1) := by
  unfold nstep
  split
  · exact ⟨⟨h.ok, h.nodup⟩, Nat.le_add_right _ _⟩
  · rename_i h1
    split
    · rename_i h2
      refine ⟨⟨fun n hn => ?_, ?_⟩, ?_⟩
      · rcases List.mem_append.1 hn with hn | hn
        · exact h.ok n hn
        · obtain rfl := List.mem_singleton.1 hn
          exact ⟨h2.1, h1, nm_comma hp, nm_trim p, nm_low p⟩
      · refine List.nodup_append.2 ⟨h.nodup, by simp, ?_⟩
        intro a ha b hb e
        obtain rfl := List.mem_singleton.1 hb
        exact h2.2 (e ▸ ha)
      · dsimp only
        rw [wt_snoc]
        have := nm_size p
        omega
    · exact ⟨h, Nat.le_add_right _ _⟩
theorem nsteps_inv : ∀ (ps : List (List UInt8)) (st : List ByteArray × Bool), InvN st → (∀ p, p ∈ ps → (44 : UInt8) ∉ p) → InvN ((ps.map nm).foldl nstep st) ∧ wt ((ps.map nm).foldl nstep st).1 ≤ wt st.1 + (ps.map fun p => p.length + 1).sum
  | [], st, h, _ => ⟨h, Nat.le_refl _⟩
  | p :: ps, st, h, hp => by
    obtain ⟨h1, h2⟩ := nstep_inv h (hp p List.mem_cons_self)
    obtain ⟨h3, h4⟩ := nsteps_inv ps _ h1 fun q hq => hp q (List.mem_cons_of_mem _ hq)
    refine ⟨h3, Nat.le_trans h4 ?_⟩
    simp only [List.map_cons, List.sum_cons]
    omega
def wf (l : List Fld) : Nat := (l.map fun f => f.v.size + 1).sum
theorem fields_inv : ∀ (l : List Fld) (st : List ByteArray × Bool), InvN st → InvN (l.foldl fieldN st) ∧ wt (l.foldl fieldN st).1 ≤ wt st.1 + wf l
  | [], st, h => ⟨h, Nat.le_refl _⟩
  | f :: l, st, h => by
    have h0 : InvN (fieldN st f) ∧ wt (fieldN st f).1 ≤ wt st.1 + (f.v.size + 1) := by
      unfold fieldN
      split
      · obtain ⟨h1, h2⟩ := nsteps_inv (pieces 44 (bl f.v)) st h fun p hp => pieces_free hp
        rw [pieces_sum, bl_length] at h2
        exact ⟨h1, h2⟩
      · exact ⟨h, Nat.le_add_right _ _⟩
    obtain ⟨h3, h4⟩ := fields_inv l _ h0.1
    refine ⟨h3, Nat.le_trans h4 ?_⟩
    have e : wf (f :: l) = (f.v.size + 1) + wf l := by simp [wf]
    have := h0.2
    omega
theorem names_inv (l : List Fld) : InvN (namesN l) ∧ wt (namesN l).1 ≤ wf l := by
  obtain ⟨h1, h2⟩ := fields_inv l ([], false) ⟨fun n hn => (nomatch hn), List.nodup_nil⟩
  have e : wt ([] : List ByteArray) = 0 := rfl
  exact ⟨h1, Nat.le_trans h2 (by dsimp only; omega)⟩

/-! The text of names. -/
def tOf : List ByteArray → List UInt8
  | [] => []
  | n :: r => ([32, 9] ++ (bl n).map upB ++ [32, 44, 44]) ++ tOf r
theorem tOf_snoc (l : List ByteArray) (n : ByteArray) : tOf (l ++ [n]) = tOf l ++ ([32, 9] ++ (bl n).map upB ++ [32, 44, 44]) := by
  induction l with
  | nil => simp [tOf]
  | cons a l ih => rw [List.cons_append, tOf, ih, tOf]; simp
theorem tOf_len : ∀ l : List ByteArray, (tOf l).length ≤ 5 * wt l
  | [] => Nat.zero_le _
  | n :: r => by
    have := tOf_len r
    simp only [tOf, wt, List.map_cons, List.sum_cons, List.length_append, List.length_map, bl_length, List.length_cons, List.length_nil] at *
    omega
theorem nm_told {n : ByteArray} (h : OkN n) : nm ([32, 9] ++ (bl n).map upB ++ [32]) = n := by
  have e : trim ([32, 9] ++ (bl n).map upB ++ [32]) = (bl n).map upB := by
    unfold trim
    rw [← trim_comm, trimR_snoc, if_pos (by decide), trim_comm, List.cons_append, trimL_cons, if_pos (by decide), List.cons_append, trimL_cons, if_pos (by decide), List.nil_append]
    show trim _ = _
    rw [trim_map bk_up, h.trim]
  rw [nm, e, List.map_map, show (lowB ∘ upB) = lowB from funext low_up, h.low, BA_bl]
theorem nms_told {n : ByteArray} (h : OkN n) (r : List UInt8) : nms ([32, 9] ++ (bl n).map upB ++ [32, 44, 44] ++ r) = n :: es :: nms r := by
  have e : [32, 9] ++ (bl n).map upB ++ [32, 44, 44] ++ r = ([32, 9] ++ (bl n).map upB ++ [32]) ++ 44 :: ([] ++ 44 :: r) := by simp
  rw [e, pieces_step, pieces_step, nm_told h]
  · rfl
  · simp
  · intro hm
    simp only [List.mem_append, List.mem_cons, List.not_mem_nil, or_false, List.mem_map] at hm
    rcases hm with (h1 | ⟨c, hc, e⟩) | h1
    · revert h1; decide
    · exact h.comma (up_44 e ▸ hc)
    · revert h1; decide
theorem nstep_es (st : List ByteArray × Bool) : nstep st es = st := by unfold nstep; rw [if_neg (by decide), if_neg (fun h => h.1 rfl)]
theorem nstep_new (st : List ByteArray × Bool) {n : ByteArray} (h1 : n ≠ tStar) (h2 : n ≠ es) (h3 : n ∉ st.1) : nstep st n = (st.1 ++ [n], st.2) := by unfold nstep; rw [if_neg h1, if_pos ⟨h2, h3⟩]
theorem nstep_old (st : List ByteArray × Bool) {n : ByteArray} (h1 : n ≠ tStar) (h3 : n ∈ st.1) : nstep st n = st := by unfold nstep; rw [if_neg h1, if_neg (fun h => h.2 h3)]
theorem nstep_star (st : List ByteArray × Bool) : nstep st tStar = (st.1, true) := by unfold nstep; rw [if_pos rfl]
theorem fold_told : ∀ (ns acc : List ByteArray) (b : Bool), (∀ n, n ∈ ns → OkN n) → (acc ++ ns).Nodup → (nms (tOf ns)).foldl nstep (acc, b) = (acc ++ ns, b)
  | [], acc, b, _, _ => by
    have : nms (tOf []) = [es] := rfl
    rw [this, List.append_nil, List.foldl_cons, List.foldl_nil, nstep_es]
  | n :: r, acc, b, h, hd => by
    have hn := h n List.mem_cons_self
    have hna : n ∉ acc := fun hm => by
      have := (List.nodup_append.1 hd).2.2 n hm n List.mem_cons_self
      exact this rfl
    rw [tOf, nms_told hn, List.foldl_cons, List.foldl_cons, nstep_new _ hn.star hn.ne hna, nstep_es]
    rw [fold_told r (acc ++ [n]) b (fun m hm => h m (List.mem_cons_of_mem _ hm)) (by simpa using hd)]
    simp
theorem fold_again : ∀ (ns acc : List ByteArray) (b : Bool), (∀ n, n ∈ ns → OkN n) → (∀ n, n ∈ ns → n ∈ acc) → (nms (tOf ns)).foldl nstep (acc, b) = (acc, b)
  | [], acc, b, _, _ => by
    have : nms (tOf []) = [es] := rfl
    rw [this, List.foldl_cons, List.foldl_nil, nstep_es]
  | n :: r, acc, b, h, hd => by
    have hn := h n List.mem_cons_self
    rw [tOf, nms_told hn, List.foldl_cons, List.foldl_cons, nstep_old _ hn.star (hd n List.mem_cons_self), nstep_es]
    exact fold_again r acc b (fun m hm => h m (List.mem_cons_of_mem _ hm)) (fun m hm => hd m (List.mem_cons_of_mem _ hm))
abbrev tX : ByteArray := ⟨#[120]⟩
def sText (ns : List ByteArray) (st : Bool) : ByteArray := if st then (⟨#[42, 44]⟩ : ByteArray) ++ BA (tOf ns) else BA (tOf ns)
theorem names_back {ns : List ByteArray} {st : Bool} (h : InvN (ns, st)) : namesN [⟨tX, tStar, false⟩, ⟨tVary, sText ns st, false⟩, ⟨tVary, sText ns st, false⟩] = (ns, st) := by
  have h1 : nms (bl (sText ns st)) = if st then tStar :: nms (tOf ns) else nms (tOf ns) := by
    unfold sText
    cases st
    · rw [if_neg (by decide), if_neg (by decide), bl_BA]
    · rw [if_pos rfl, if_pos rfl, bl_append, bl_BA]
      exact pieces_step (l := [42]) (by decide)
  unfold namesN
  rw [List.foldl_cons, List.foldl_cons, List.foldl_cons, List.foldl_nil]
  have e1 : fieldN ([], false) ⟨tX, tStar, false⟩ = ([], false) := by unfold fieldN; rw [if_neg (by decide)]
  have f1 := fold_told ns [] st h.ok (by simpa using h.nodup)
  have f2 := fold_again ns ns st h.ok (fun _ hn => hn)
  have fv : ∀ x, fieldN x ⟨tVary, sText ns st, false⟩ = (nms (bl (sText ns st))).foldl nstep x := fun x => if_pos rfl
  rw [e1, fv, fv, h1]
  rw [List.nil_append] at f1
  cases st
  · rw [if_neg (by decide), f1, f2]
  · rw [if_pos rfl]
    show List.foldl nstep (nstep (List.foldl nstep (nstep ([], false) tStar) (nms (tOf ns))) tStar) (nms (tOf ns)) = _
    rw [nstep_star ([], false), f1, nstep_star, f2]
end Go.Proofs.YtfebfgmbaenhlaaDoor
