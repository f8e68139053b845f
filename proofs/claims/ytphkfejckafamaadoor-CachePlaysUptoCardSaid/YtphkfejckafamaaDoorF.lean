import Derived.Test.YtphkfejckafamaaDoorE
set_option linter.unusedVariables false
set_option linter.unusedSimpArgs false
set_option maxRecDepth 100000
namespace Go.Proofs.YtphkfejckafamaaDoor
open Go.Proofs Go.Proofs.YtphkfejckafamaaDoorA

structure Fld where
  n : ByteArray
  v : ByteArray
  w : Bool
deriving DecidableEq
abbrev encF (f : Fld) : List AV := [vs f.n, vs f.v, vb f.w]
abbrev fsl (l : List Fld) : AV := .sl 3 (l.map encF) l.length
structure Rs where
  st : Int
  fs : List Fld
  b : ByteArray
deriving DecidableEq
abbrev encR (r : Rs) : List AV := [vi r.st, fsl r.fs, vs r.b]
structure Rq where
  m : ByteArray
  s : ByteArray
  a : ByteArray
  p : ByteArray
  fs : List Fld
  b : ByteArray
abbrev encQ (q : Rq) : List AV := [vs q.m, vs q.s, vs q.a, vs q.p, fsl q.fs, vs q.b]
theorem fsl_get {l : List Fld} {i : Nat} {f : Fld} (h : l[i]? = some f) : (l.map encF)[i]? = some (encF f) := by simp [h]

abbrev tVary : ByteArray := ⟨#[118, 97, 114, 121]⟩
abbrev tStar : ByteArray := ⟨#[42]⟩
/-- One name more. -/
def nstep (st : List ByteArray × Bool) (n : ByteArray) : List ByteArray × Bool :=
  if n = tStar then (st.1, true) else if n ≠ es ∧ n ∉ st.1 then (st.1 ++ [n], st.2) else st
def fieldN (st : List ByteArray × Bool) (f : Fld) : List ByteArray × Bool := if f.n = tVary then (nms (bl f.v)).foldl nstep st else st
def namesN (l : List Fld) : List ByteArray × Bool := l.foldl fieldN ([], false)
theorem foldl_take {α β : Type} (f : β → α → β) (b : β) {l : List α} {i : Nat} {a : α} (h : l[i]? = some a) : (l.take (i + 1)).foldl f b = f ((l.take i).foldl f b) a := by
  rw [List.take_add_one, h, List.foldl_append]; rfl
theorem pieces_mem {c : UInt8} {l p : List UInt8} (h : p ∈ pieces c l) : p.length ≤ l.length := by
  induction l generalizing p with
  | nil => simp [pieces] at h; subst h; exact Nat.le_refl _
  | cons a r ih =>
    unfold pieces at h
    split at h
    · rcases List.mem_cons.1 h with rfl | h
      · exact Nat.zero_le _
      · exact Nat.le_succ_of_le (ih h)
    · cases hp : pieces c r with
      | nil => exact absurd hp (pieces_ne _ _)
      | cons q t =>
        rw [hp] at h ih
        rcases List.mem_cons.1 h with rfl | h
        · have := ih List.mem_cons_self
          simp only [List.length_cons]; omega
        · exact Nat.le_succ_of_le (ih (List.mem_cons_of_mem _ h))
theorem pieces_len_le (c : UInt8) (l : List UInt8) : (pieces c l).length ≤ l.length + 1 := by
  rw [pieces_length]; exact Nat.succ_le_succ List.count_le_length

set_option maxHeartbeats 4000000 in
theorem Names_ok (r : Rs) (hn : r.fs.length ≤ 1048576) (hv : ∀ f, f ∈ r.fs → f.v.size ≤ 1048580) : FnC Tryd.prog 14 [] [.agg (encR r)] (fun ts v => ∃ lab, ts = [(lab, .row 9 1 ((namesN r.fs).1.map encS))] ∧ v = .tup [.own lab 0 (namesN r.fs).1.length, vb (namesN r.fs).2] ∧ (namesN r.fs).1.length ≤ 1099516870656) := by
  refine fn_of Tryd.func14 rfl Tryd.ntmps14 Tryd.results14 rfl fun G => ?_
  repeat' (first | apply ar_nil | (apply ar_ev; (apply ev_move; rfl); rfl) | (apply ar_ev; (first | (apply ev_load_ptr_one; rfl; (focus ((repeat (first | exact Take.head | apply Take.tail | apply Take.right)); done)); exact (by first | rfl | assumption | exact get_map (by assumption)); rfl) | (apply ev_fieldAddr_ptr; rfl) | (apply ev_assign; rfl) | (apply ev_len_sl; rfl)); rfl) | (apply ar_new; (first | apply eff_alloc | (apply eff_box; rfl; exact lies_of rfl) | (apply eff_conv_bytes; rfl; exact (by first | omega | assumption | (simp; done) | (simp; omega) | exact Nat.le_of_ble_eq_true rfl))); exact .nil; rfl; intro lab) | apply aw_seq | apply a_region | apply aw_block | apply go_seq)
  refine aw_adopt 4 9 1 rfl fun lab => ?_
  skip
  have h0 : ([] : List (List AV)) = ([] : List ByteArray).map encS := rfl
  refine a_loop (fun g : Nat × Nat × List ByteArray × Bool => ⟨[(4, .own g.2.1 0 g.2.2.1.length), (5, vb g.2.2.2), (12, fsl r.fs), (13, vi r.fs.length), (14, vi g.1)], [(g.2.1, .row 9 1 (g.2.2.1.map encS))]⟩)
    (fun g => g.1 ≤ r.fs.length ∧ g.2.2 = (r.fs.take g.1).foldl fieldN ([], false) ∧ g.2.2.1.length ≤ g.1 * 1048581) (fun g => r.fs.length - g.1) (0, lab, [], false) (Sub.of (by repeat (first | exact .nil | refine .cons rfl Le.refl ?_)) (by repeat (first | exact Takes.nil | (apply Takes.cons; focus (repeat (first | exact Take.head | exact Take.rowc h0 Take.head | apply Take.tail | apply Take.right)))))) ⟨Nat.zero_le _, rfl, Nat.zero_le _⟩ ?_
  rintro ⟨i, l, ns, st⟩ ⟨hi, hf, hl⟩
  dsimp only at *
  repeat' (first | apply ar_nil | (apply ar_ev; (apply ev_lss; rfl; rfl); rfl) | apply aw_seq | apply a_region | apply go_seq)
  refine aw_condp rfl (fun hk => ?_) (fun hk => ?_)
  · obtain ⟨f, hfe⟩ : ∃ f, r.fs[i]? = some f := ⟨_, List.getElem?_eq_getElem (by omega)⟩
    have hfe2 := fsl_get hfe
    have hsz := hv _ (List.mem_of_getElem? hfe)
    have hsplit : PFn Tryd.prog 42 [vs f.v, vs ⟨#[44]⟩] (ssl (pcs 44 (bl f.v))) := split_ok f.v 44 (by omega)
    repeat' (first | apply ar_nil | (apply ar_ev; (apply ev_move; rfl); rfl) | (apply ar_ev; (first | exact ev_call rfl rfl hsplit | (apply ev_load_ptr_one; rfl; (focus ((repeat (first | exact Take.head | apply Take.tail | apply Take.right)); done)); exact (by first | rfl | assumption | exact get_map (by assumption)); rfl) | (apply ev_fieldAddr_ptr; rfl) | (apply ev_load_ip_agg; rfl; exact Nat.le_of_ble_eq_true rfl) | (apply ev_inc; rfl; exact (by first | omega | assumption)) | (apply ev_nesp; rfl; rfl) | (apply ev_len_sl; rfl) | (apply ev_indexAddr_sl; rfl; rfl; exact (by first | omega | assumption); exact (by first | rfl | assumption | exact get_map (by assumption)))); rfl) | (apply ar_new; (first | apply eff_alloc | (apply eff_box; rfl; exact lies_of rfl) | (apply eff_conv_bytes; rfl; exact (by first | omega | assumption | (simp; done) | (simp; omega) | exact Nat.le_of_ble_eq_true rfl))); exact .nil; rfl; intro lab) | (apply ar_store; rfl; (focus ((repeat (first | exact Take.head | apply Take.tail | apply Take.right)); done)); rfl; rfl; exact (by first | rfl | assumption | exact get_map (by assumption)); rfl; rfl) | apply aw_seq | apply a_region | apply aw_block | apply aw_skip | apply aw_exit | (apply aw_condp; rfl; all_goals (intro hc; try (exfalso; first | omega | contradiction | (simp at hc; omega) | (simp_all; done)))) | apply go_seq | apply go_seq_exit | apply go_block_exit)
    · clear hsplit hfe2
      refine go_loop_back ⟨(i + 1, l, ns, st), ⟨by dsimp only; omega, ?_, Nat.le_trans hl (Nat.mul_le_mul_right _ (Nat.le_succ i))⟩, by dsimp only; omega, Sub.of (by repeat (first | exact .nil | refine .cons rfl Le.refl ?_)) (by repeat (first | exact Takes.nil | (apply Takes.cons; focus (repeat (first | exact Take.head | apply Take.tail | apply Take.right)))))⟩
      dsimp only
      rw [foldl_take _ _ hfe, ← hf, fieldN, if_neg hc]
    · have hc := Decidable.not_not.1 hc
      have hp1 : (pcs 44 (bl f.v)).length ≤ 1048581 := by
        have h := pieces_len_le 44 (bl f.v)
        rw [bl_length] at h
        rw [List.length_map]
        omega
      clear hsplit hfe2
      refine a_loop (fun g : Nat × Nat × List ByteArray × Bool => ⟨[(4, .own g.2.1 0 g.2.2.1.length), (5, vb g.2.2.2), (12, fsl r.fs), (13, vi r.fs.length), (14, vi i), (23, ssl (pcs 44 (bl f.v))), (24, vi (pcs 44 (bl f.v)).length), (25, vi g.1)], [(g.2.1, .row 9 1 (g.2.2.1.map encS))]⟩)
        (fun g => g.1 ≤ (pcs 44 (bl f.v)).length ∧ g.2.2 = ((nms (bl f.v)).take g.1).foldl nstep (ns, st) ∧ g.2.2.1.length ≤ ns.length + g.1) (fun g => (pcs 44 (bl f.v)).length - g.1) (0, l, ns, st) (Sub.of (by repeat (first | exact .nil | refine .cons rfl Le.refl ?_)) (by repeat (first | exact Takes.nil | (apply Takes.cons; focus (repeat (first | exact Take.head | apply Take.tail | apply Take.right)))))) ⟨Nat.zero_le _, rfl, Nat.le_refl _⟩ ?_
      rintro ⟨j, l2, ns2, st2⟩ ⟨hj, hf2, hl2⟩
      dsimp only at *
      repeat' (first | apply ar_nil | (apply ar_ev; (apply ev_lss; rfl; rfl); rfl) | apply aw_seq | apply a_region | apply go_seq)
      refine aw_condp rfl (fun hk2 => ?_) (fun hk2 => ?_)
      · have hjl : j < (pieces 44 (bl f.v)).length := by have e : (pcs 44 (bl f.v)).length = (pieces 44 (bl f.v)).length := List.length_map _; omega
        obtain ⟨p, hp⟩ : ∃ p, (pieces 44 (bl f.v))[j]? = some p := ⟨_, List.getElem?_eq_getElem hjl⟩
        have hp2 : ((pcs 44 (bl f.v)).map encS)[j]? = some [vs (BA p)] := by simp [hp]
        have hp3 : (nms (bl f.v))[j]? = some (nm p) := by simp [hp]
        have hps : (BA p).size ≤ 1048580 := by
          rw [BA_size]
          exact Nat.le_trans (pieces_mem (List.mem_of_getElem? hp)) (by rw [bl_length]; exact hsz)
        have htr : PFn Tryd.prog 44 [vs (BA p), vs ⟨#[32, 9]⟩] (vs (BA (trim (bl (BA p))))) := trim_ok (BA p) (by omega)
        have hsm : PFn Tryd.prog 43 [vs (BA (trim (bl (BA p))))] (vs (nm p)) := by
          have := small_ok (BA (trim (bl (BA p)))) (Nat.le_trans (trim_size _) (by omega))
          rwa [nm_eq] at this
        have hct := contains_ok ns2 (nm p) (by omega)
        have hstep : ((nms (bl f.v)).take (j + 1)).foldl nstep (ns, st) = nstep (ns2, st2) (nm p) := by rw [foldl_take _ _ hp3, ← hf2]
        clear hp3
        repeat' (first | apply ar_nil | (apply ar_splitp; (apply ev_move; rfl); rfl; all_goals (intro hc; try (exfalso; first | omega | contradiction | (simp at hc; omega) | (simp_all; done)))) | (apply ar_ev; (apply ev_move; rfl); rfl) | (apply ar_ev; (first | exact ev_call rfl rfl htr | exact ev_call rfl rfl hsm | (apply ev_load_ip_one; rfl; rfl) | (apply ev_assign; rfl) | (apply ev_pick_t; rfl; rfl) | (apply ev_pick_f; rfl; rfl) | (apply ev_inc; rfl; exact (by first | omega | assumption)) | (apply ev_eqsp; rfl; rfl) | (apply ev_nesp; rfl; rfl) | (apply ev_indexAddr_sl; rfl; rfl; exact (by first | omega | assumption); exact (by first | rfl | assumption | exact get_map (by assumption))) | (apply ev_buildSlice; rfl; rfl; rfl; rfl; rfl; rfl; rfl)); rfl) | (apply ar_skip; rfl; rfl; rfl; rfl; rfl) | (apply ar_take; rfl; rfl; rfl; (apply ev_move; rfl); rfl) | (apply ar_take; rfl; rfl; rfl; (first | (apply ev_callL hct; rfl; rfl; (focus ((repeat (first | exact Cvs.nil | (apply Cvs.cons; first | exact Cv.refl | exact Cv.le Le.nil | (apply Cv.own0; (focus ((repeat (first | exact Take.head | apply Take.tail | apply Take.right)); done)); exact (by first | omega | assumption | (simp; done) | (simp; omega) | exact Nat.le_of_ble_eq_true rfl)) | (apply Cv.own_pre; (focus ((repeat (first | exact Take.head | apply Take.tail | apply Take.right)); done)); exact (by first | omega | assumption | (simp; done) | (simp; omega) | exact Nat.le_of_ble_eq_true rfl)) | (apply Cv.ptr0; (focus ((repeat (first | exact Take.head | apply Take.tail | apply Take.right)); done)); first | rfl | assumption) | (apply Cv.agg; (focus ((repeat (first | exact Cvs.nil | (apply Cvs.cons; first | exact Cv.refl | exact Cv.le Le.nil | (apply Cv.own0; (focus ((repeat (first | exact Take.head | apply Take.tail | apply Take.right)); done)); exact (by first | omega | assumption | (simp; done) | (simp; omega) | exact Nat.le_of_ble_eq_true rfl)) | (apply Cv.own_pre; (focus ((repeat (first | exact Take.head | apply Take.tail | apply Take.right)); done)); exact (by first | omega | assumption | (simp; done) | (simp; omega) | exact Nat.le_of_ble_eq_true rfl)) | (apply Cv.ptr0; (focus ((repeat (first | exact Take.head | apply Take.tail | apply Take.right)); done)); first | rfl | assumption) | (apply Cv.agg; (focus ((repeat (first | exact Cvs.nil | (apply Cvs.cons; first | exact Cv.refl | exact Cv.le Le.nil | (apply Cv.own0; (focus ((repeat (first | exact Take.head | apply Take.tail | apply Take.right)); done)); exact (by first | omega | assumption | (simp; done) | (simp; omega) | exact Nat.le_of_ble_eq_true rfl)) | (apply Cv.own_pre; (focus ((repeat (first | exact Take.head | apply Take.tail | apply Take.right)); done)); exact (by first | omega | assumption | (simp; done) | (simp; omega) | exact Nat.le_of_ble_eq_true rfl)) | (apply Cv.ptr0; (focus ((repeat (first | exact Take.head | apply Take.tail | apply Take.right)); done)); first | rfl | assumption)))); done))) | (apply Cv.fn; (focus ((repeat (first | exact Cvs.nil | (apply Cvs.cons; first | exact Cv.refl | exact Cv.le Le.nil | (apply Cv.own0; (focus ((repeat (first | exact Take.head | apply Take.tail | apply Take.right)); done)); exact (by first | omega | assumption | (simp; done) | (simp; omega) | exact Nat.le_of_ble_eq_true rfl)) | (apply Cv.own_pre; (focus ((repeat (first | exact Take.head | apply Take.tail | apply Take.right)); done)); exact (by first | omega | assumption | (simp; done) | (simp; omega) | exact Nat.le_of_ble_eq_true rfl)) | (apply Cv.ptr0; (focus ((repeat (first | exact Take.head | apply Take.tail | apply Take.right)); done)); first | rfl | assumption)))); done)))))); done))) | (apply Cv.fn; (focus ((repeat (first | exact Cvs.nil | (apply Cvs.cons; first | exact Cv.refl | exact Cv.le Le.nil | (apply Cv.own0; (focus ((repeat (first | exact Take.head | apply Take.tail | apply Take.right)); done)); exact (by first | omega | assumption | (simp; done) | (simp; omega) | exact Nat.le_of_ble_eq_true rfl)) | (apply Cv.own_pre; (focus ((repeat (first | exact Take.head | apply Take.tail | apply Take.right)); done)); exact (by first | omega | assumption | (simp; done) | (simp; omega) | exact Nat.le_of_ble_eq_true rfl)) | (apply Cv.ptr0; (focus ((repeat (first | exact Take.head | apply Take.tail | apply Take.right)); done)); first | rfl | assumption) | (apply Cv.agg; (focus ((repeat (first | exact Cvs.nil | (apply Cvs.cons; first | exact Cv.refl | exact Cv.le Le.nil | (apply Cv.own0; (focus ((repeat (first | exact Take.head | apply Take.tail | apply Take.right)); done)); exact (by first | omega | assumption | (simp; done) | (simp; omega) | exact Nat.le_of_ble_eq_true rfl)) | (apply Cv.own_pre; (focus ((repeat (first | exact Take.head | apply Take.tail | apply Take.right)); done)); exact (by first | omega | assumption | (simp; done) | (simp; omega) | exact Nat.le_of_ble_eq_true rfl)) | (apply Cv.ptr0; (focus ((repeat (first | exact Take.head | apply Take.tail | apply Take.right)); done)); first | rfl | assumption)))); done))) | (apply Cv.fn; (focus ((repeat (first | exact Cvs.nil | (apply Cvs.cons; first | exact Cv.refl | exact Cv.le Le.nil | (apply Cv.own0; (focus ((repeat (first | exact Take.head | apply Take.tail | apply Take.right)); done)); exact (by first | omega | assumption | (simp; done) | (simp; omega) | exact Nat.le_of_ble_eq_true rfl)) | (apply Cv.own_pre; (focus ((repeat (first | exact Take.head | apply Take.tail | apply Take.right)); done)); exact (by first | omega | assumption | (simp; done) | (simp; omega) | exact Nat.le_of_ble_eq_true rfl)) | (apply Cv.ptr0; (focus ((repeat (first | exact Take.head | apply Take.tail | apply Take.right)); done)); first | rfl | assumption)))); done)))))); done)))))); done)); constructor) | (apply ev_notp; rfl)); rfl) | apply aw_seq | apply a_region | apply aw_block | apply aw_skip | (apply aw_condp; rfl; all_goals (intro hc; try (exfalso; first | omega | contradiction | (simp at hc; omega) | (simp_all; done)))) | (apply aw_cond_f; rfl) | apply go_seq | apply go_block | (apply ar_append; rfl; (focus ((repeat (first | exact Take.head | apply Take.tail | apply Take.right)); done)); rfl; exact (by first | omega | assumption | (simp; done) | (simp; omega) | exact Nat.le_of_ble_eq_true rfl); exact (by first | omega | assumption | (simp; done) | (simp; omega) | exact Nat.le_of_ble_eq_true rfl); exact (by first | omega | assumption | (simp; done) | (simp; omega) | exact Nat.le_of_ble_eq_true rfl); rfl; intro lab))
        · refine go_loop_back ⟨(j + 1, l2, ns2, true), ⟨by dsimp only; omega, ?_, by dsimp only; omega⟩, by dsimp only; omega, Sub.of (by repeat (first | exact .nil | refine .cons rfl Le.refl ?_)) (by repeat (first | exact Takes.nil | (apply Takes.cons; focus (repeat (first | exact Take.head | apply Take.tail | apply Take.right)))))⟩
          dsimp only
          rw [hstep, nstep, if_pos hc]
        · rename_i h1 h2 h3 h4 h5
          have hrow := hrowS ns2 (nm p)
          refine go_loop_back ⟨(j + 1, _, ns2 ++ [nm p], st2), ⟨by dsimp only; omega, ?_, by dsimp only; rw [List.length_append, List.length_singleton]; omega⟩, by dsimp only; omega, by dsimp only; rw [List.length_append, List.length_singleton]; exact Sub.of (by repeat (first | exact .nil | refine .cons rfl Le.refl ?_)) (by repeat (first | exact Takes.nil | (apply Takes.cons; focus (repeat (first | exact Take.head | exact Take.rowc hrow Take.head | apply Take.tail | apply Take.right)))))⟩
          dsimp only
          rw [hstep, nstep, if_neg ‹¬ nm p = tStar›, if_pos ⟨‹nm p ≠ es›, ‹nm p ∉ ns2›⟩]
        all_goals
          refine go_loop_back ⟨(j + 1, l2, ns2, st2), ⟨by dsimp only; omega, ?_, by dsimp only; omega⟩, by dsimp only; omega, Sub.of (by repeat (first | exact .nil | refine .cons rfl Le.refl ?_)) (by repeat (first | exact Takes.nil | (apply Takes.cons; focus (repeat (first | exact Take.head | apply Take.tail | apply Take.right)))))⟩
          dsimp only
          rw [hstep, nstep, if_neg ‹¬ nm p = tStar›, if_neg (by rintro ⟨h1, h2⟩; first | exact h2 (Decidable.not_not.1 ‹_›) | exact ‹¬ nm p ≠ _› h1 | simp_all)]
      · obtain rfl : j = (pcs 44 (bl f.v)).length := by omega
        have hll : (nms (bl f.v)).length = (pcs 44 (bl f.v)).length := by simp
        repeat' (first | apply ar_nil | (apply ar_ev; (apply ev_move; rfl); rfl) | (apply ar_ev; (apply ev_inc; rfl; exact (by first | omega | assumption)); rfl) | apply a_region | apply aw_exit | apply go_seq | apply go_seq_exit | apply go_block | apply go_block_exit | apply go_loop_exit)
        refine go_loop_back ⟨(i + 1, l2, ns2, st2), ⟨by dsimp only; omega, ?_, by dsimp only; omega⟩, by dsimp only; omega, Sub.of (by repeat (first | exact .nil | refine .cons rfl Le.refl ?_)) (by repeat (first | exact Takes.nil | (apply Takes.cons; focus (repeat (first | exact Take.head | apply Take.tail | apply Take.right)))))⟩
        dsimp only
        rw [foldl_take _ _ hfe, ← hf, fieldN, if_pos hc, hf2, ← hll, List.take_length]
  · obtain rfl : i = r.fs.length := by omega
    rw [List.take_length] at hf
    have hf3 : namesN r.fs = (ns, st) := hf.symm
    repeat' (first | apply ar_nil | (apply ar_ev; (apply ev_move; rfl); rfl) | (apply ar_ev; (apply ev_assign; rfl); rfl) | apply aw_seq | apply a_region | apply aw_exit | apply aw_ret | apply go_seq | apply go_seq_exit | apply go_block_exit | apply go_loop_exit)
    rw [hf3]
    exact g_ret2 (r_tmp rfl) (r_tmp rfl) (.cons (by repeat (first | exact Take.head | apply Take.tail | apply Take.right)) .nil) ⟨_, rfl, rfl, by dsimp only; omega⟩
end Go.Proofs.YtphkfejckafamaaDoor
