import Derived.Test.YtinojkkjcignhaaL
set_option linter.unusedVariables false
set_option linter.unusedSimpArgs false
set_option maxRecDepth 100000
namespace Go.Proofs.Ytinojkkjcignhaa
open Go.Proofs Go.Proofs.YtinojkkjcignhaaA

theorem cuts_len (st : Int) (b : ByteArray) (s n : Nat) : (cuts st b s n).length ≤ b.size - n := by
  induction h : b.size - n using Nat.strongRecOn generalizing n with
  | ind k ih =>
    rw [cuts]
    split
    · rename_i h1
      have := ih (b.size - (n + s)) (by omega) (n + s) rfl
      simp only [List.length_cons]
      omega
    · simp
theorem cuts_ps (st : Int) (b : ByteArray) (s n : Nat) : ∀ g, g ∈ cuts st b s n → g.ps = [] := by
  induction h : b.size - n using Nat.strongRecOn generalizing n with
  | ind k ih =>
    intro g hg
    rw [cuts] at hg
    split at hg
    · rename_i h1
      rcases List.mem_cons.1 hg with rfl | hg
      · rfl
      · exact ih (b.size - (n + s)) (by omega) (n + s) rfl g hg
    · cases hg
theorem lastF_ps (l : List Frame) : (lastF l).map (·.ps) = l.map (·.ps) := by
  unfold lastF
  apply List.ext_getElem?
  intro i
  simp only [List.getElem?_map, List.getElem?_modify]
  cases l[i]? with
  | none => rfl
  | some f => simp; split <;> rfl
theorem splitF_shape (h : Frame) (b : ByteArray) (size : Int) : ∃ f r, splitF h b size = f :: r ∧ f.ps = h.ps ∧ (∀ g, g ∈ r → g.ps = []) ∧ r.length ≤ b.size := by
  have hm := lastF_ps (splitF0 h b size)
  have hlen : (splitF h b size).length = (splitF0 h b size).length := by unfold splitF lastF; rw [List.length_modify]
  have hc := cuts_len h.stream b size.toNat (split0 h b size)
  have hl0 : (splitF0 h b size).length = (cuts h.stream b size.toNat (split0 h b size)).length + 1 := by unfold splitF0; simp
  cases hF : splitF h b size with
  | nil => rw [hF] at hlen; simp at hlen; omega
  | cons f r =>
    have hm' : (f :: r).map (·.ps) = (splitF0 h b size).map (·.ps) := by rw [← hF]; exact hm
    unfold splitF0 at hm'
    simp only [List.map_cons, List.cons.injEq] at hm'
    refine ⟨f, r, rfl, hm'.1, fun g hg => ?_, by rw [hF] at hlen; simp at hlen; omega⟩
    have : g.ps ∈ (cuts h.stream b size.toNat (split0 h b size)).map (·.ps) := by rw [← hm'.2]; exact List.mem_map_of_mem hg
    obtain ⟨g', hg', e⟩ := List.mem_map.1 this
    rw [← e]
    exact cuts_ps _ _ _ _ g' hg'
theorem onesL_encF (f : Frame) : onesL (encF f) := by
  intro x hx
  simp only [encF, fcl, List.mem_cons, List.not_mem_nil, or_false] at hx
  rcases hx with rfl | rfl | rfl | rfl | rfl | rfl | rfl | rfl | rfl | rfl | rfl <;> rfl
theorem cvs_fcl {ts : List (Nat × Tok)} {f : Frame} {x : AV} (h : Cv ts x (psl f.ps)) : Cvs ts (fcl f x) (encF f) :=
  .cons .refl (.cons .refl (.cons .refl (.cons .refl (.cons .refl (.cons .refl (.cons .refl (.cons .refl (.cons .refl (.cons .refl (.cons h .nil))))))))))
theorem cvr_rowS {ts : List (Nat × Tok)} {x : AV} {f : Frame} {r : List Frame} (h : Cv ts x (psl f.ps)) (hr : ∀ g, g ∈ r → g.ps = []) : Cvr ts (rowS x (f :: r)) ((f :: r).map encF) := by
  refine .cons (cvs_fcl h) (onesL_encF f) (Cvr.map r fun g hg => ⟨cvs_fcl (.le ?_), onesL_encF g⟩)
  rw [hr g hg]
  exact Le.nil
theorem rowS_get0 (x : AV) (f : Frame) (r : List Frame) : (rowS x (f :: r))[0]? = some (fcl f x) := rfl
theorem rowS_gets (x : AV) (f : Frame) (r : List Frame) (i : Nat) : (rowS x (f :: r))[i + 1]? = (r[i]?).map fun g => fcl g sn := by simp [rowS]
def z9 : List AV := fcl { zeroF with ty := -9 } sn
def wrow (i : Nat) (xs : List (List AV)) : List (List AV) := List.replicate i z9 ++ xs.drop i
theorem wrow_get (i : Nat) (xs : List (List AV)) : (wrow i xs)[i]? = xs[i]? := by
  unfold wrow; rw [List.getElem?_append_right (by simp)]; simp
theorem wrow_set {i : Nat} {xs : List (List AV)} (h : i < xs.length) : (wrow i xs).set i z9 = wrow (i + 1) xs := by
  unfold wrow
  rw [List.set_append_right _ _ (by simp)]
  simp only [List.length_replicate, Nat.sub_self, List.replicate_succ', List.append_assoc]
  rw [List.drop_eq_getElem_cons h]
  rfl
theorem wrow_len {i : Nat} {xs : List (List AV)} (h : i ≤ xs.length) : (wrow i xs).length = xs.length := by
  unfold wrow; simp; omega

set_option maxHeartbeats 4000000 in
theorem BlockSplits_ok (h : Frame) (b : ByteArray) (size : Int) (hd : h.data.size ≤ 1048576) (hp : h.ps.length ≤ 1048576) (hb : b.size ≤ 1048576) : PFn Try.prog 4 [.agg (encF h), vs b, vi size] (vb true) := by
  refine fn_of Try.func4 rfl Try.ntmps4 Try.results4 rfl fun G => ?_
  by_cases hE : splitErr h b size = 0
  · repeat' (first | apply ar_nil | (apply ar_ev; (apply ev_move; rfl); rfl) | (apply ar_ev; (first | exact ev_call rfl rfl (own_ok h (by omega)) | (apply ev_assign; rfl) | (apply ev_load_ptr_agg; rfl; (focus ((repeat (first | exact Take.head | apply Take.tail | apply Take.right)); done)); exact (by first | rfl | assumption | exact get_map (by assumption)); exact Nat.le_of_ble_eq_true rfl)); rfl) | (apply ar_new; (first | apply eff_alloc | (apply eff_box; rfl; exact lies_of rfl)); exact .nil; rfl; intro lab) | apply aw_seq | apply a_region | apply go_seq)
    apply ar_call (Split_ok h b size (by omega) (by omega)); rfl; rfl; (focus ((repeat (first | exact Takes.nil | (apply Takes.cons; focus (repeat (first | exact Take.head | apply Take.tail | apply Take.right))))); done)); rfl
    rintro _ _ (⟨h0, _⟩ | ⟨_, l1, lp1, rfl, rfl⟩)
    · exact absurd hE h0
    repeat' (first | apply ar_nil | (apply ar_ev; (apply ev_move; rfl); rfl) | (apply ar_ev; (first | exact ev_call rfl rfl (own_ok h (by omega)) | (apply ev_assign; rfl) | (apply ev_load_ptr_agg; rfl; (focus ((repeat (first | exact Take.head | apply Take.tail | apply Take.right)); done)); exact (by first | rfl | assumption | exact get_map (by assumption)); exact Nat.le_of_ble_eq_true rfl) | (apply ev_extract; rfl; rfl)); rfl) | apply aw_seq | apply a_region | apply go_seq)
    apply ar_call (Split_ok h b size (by omega) (by omega)); rfl; rfl; (focus ((repeat (first | exact Takes.nil | (apply Takes.cons; focus (repeat (first | exact Take.head | apply Take.tail | apply Take.right))))); done)); rfl
    rintro _ _ (⟨h0, _⟩ | ⟨_, l2, lp2, rfl, rfl⟩)
    · exact absurd hE h0
    repeat' (first | apply ar_nil | (apply ar_ev; (apply ev_move; rfl); rfl) | (apply ar_ev; (first | exact ev_call rfl rfl (own_ok h (by omega)) | (apply ev_assign; rfl) | (apply ev_load_ptr_agg; rfl; (focus ((repeat (first | exact Take.head | apply Take.tail | apply Take.right)); done)); exact (by first | rfl | assumption | exact get_map (by assumption)); exact Nat.le_of_ble_eq_true rfl) | (apply ev_extract; rfl; rfl)); rfl) | apply aw_seq | apply a_region | apply go_seq)
    apply ar_call (RSplit_ok h b size (by omega) (by omega)); rfl; rfl; (focus ((repeat (first | exact Takes.nil | (apply Takes.cons; focus (repeat (first | exact Take.head | apply Take.tail | apply Take.right))))); done)); rfl
    rintro _ _ (⟨h0, _⟩ | ⟨_, l3, rfl, rfl⟩)
    · exact absurd hE h0
    obtain ⟨f0, r0, hF, hps, hr0, hlen⟩ := splitF_shape h b size
    rw [hF]
    repeat' (first | apply ar_nil | (apply ar_splitp; (apply ev_move; rfl); rfl; all_goals (intro hc; try (exfalso; first | omega | contradiction | (simp at hc; omega) | (simp_all; done)))) | (apply ar_ev; (apply ev_move; rfl); rfl) | (apply ar_ev; (first | (apply ev_assign; rfl) | (apply ev_pick_f; rfl; rfl) | (apply ev_neip; rfl; rfl) | (apply ev_extract; rfl; rfl)); rfl) | (apply ar_take; rfl; rfl; rfl; (apply ev_move; rfl); rfl) | (apply ar_take; rfl; rfl; rfl; (first | exact ev_call rfl rfl first_ok | (apply ev_neip; rfl; rfl) | (apply ev_len_own; rfl) | (apply ev_not; rfl)); rfl) | apply aw_seq | apply a_region | apply aw_block | apply aw_skip | (apply aw_cond_f; rfl) | apply go_seq)
    have hcv3 : Cv [(l3, .row 30 11 (rowS (psl h.ps) (f0 :: r0)))] (.own l3 0 (f0 :: r0).length) (fsl (f0 :: r0)) := Cv.ownr .head (by simp [rowS]) (cvr_rowS (by rw [hps]; exact Cv.refl) hr0)
    have hcv2 : Cv [(l2, .row 30 11 (rowS (.own lp2 0 h.ps.length) (f0 :: r0))), (lp2, .row 42 2 (h.ps.map encP))] (.own l2 0 (f0 :: r0).length) (fsl (f0 :: r0)) := Cv.ownr .head (by simp [rowS]) (cvr_rowS (by rw [hps]; exact Cv.own0 (.tail .head) (by simp)) hr0)
    refine aw_cv 11 rfl (by repeat (first | exact Takes.nil | (apply Takes.cons; focus (repeat (first | exact Take.head | apply Take.tail | apply Take.right))))) hcv3 ?_
    refine aw_cv 9 rfl (by repeat (first | exact Takes.nil | (apply Takes.cons; focus (repeat (first | exact Take.head | apply Take.tail | apply Take.right))))) hcv2 ?_
    rename Nat => lq
    have hN : (rowS (.own lp1 0 h.ps.length) (f0 :: r0)).length = (f0 :: r0).length := rowS_length _ _
    have hN2 : (f0 :: r0).length ≤ 1048577 := by simp; omega
    refine a_loop (fun g : Nat × List (List AV) => ⟨[(7, .own l1 0 (f0 :: r0).length), (9, fsl (f0 :: r0)), (11, fsl (f0 :: r0)), (13, vi g.1)], [(l1, .row 30 11 (wrow g.1 (rowS (.own lp1 0 h.ps.length) (f0 :: r0)))), (lp1, .row 42 2 g.2)]⟩)
      (fun g => g.1 ≤ (f0 :: r0).length ∧ (g.1 = 0 → g.2 = h.ps.map encP)) (fun g => (f0 :: r0).length - g.1) (0, h.ps.map encP) (Sub.of (by repeat (first | exact .nil | refine .cons rfl Le.refl ?_)) (by repeat (first | exact Takes.nil | (apply Takes.cons; focus (repeat (first | exact Take.head | apply Take.tail | apply Take.right)))))) ⟨Nat.zero_le _, fun _ => rfl⟩ ?_
    rintro ⟨i, Q⟩ ⟨hi, hQ⟩
    dsimp only at hi hQ ⊢
    repeat' (first | apply ar_nil | (apply ar_ev; (apply ev_move; rfl); rfl) | (apply ar_ev; (first | (apply ev_lss; rfl; rfl) | (apply ev_len_own; rfl)); rfl) | apply aw_seq | apply a_region | apply go_seq)
    refine aw_condp rfl (fun hk => ?_) (fun hk => ?_)
    · have hil : i < (f0 :: r0).length := by omega
      rcases Nat.eq_zero_or_pos i with rfl | hpos
      · obtain rfl := hQ rfl
        obtain ⟨a1, a2, a3, a4, a5, a6, a7, a8, a9, a10, ps0⟩ := f0
        dsimp only at hps
        subst hps
        have hrow : (wrow 0 (rowS (.own lp1 0 h.ps.length) (⟨a1, a2, a3, a4, a5, a6, a7, a8, a9, a10, h.ps⟩ :: r0)))[0]? = some (fcl ⟨a1, a2, a3, a4, a5, a6, a7, a8, a9, a10, h.ps⟩ (.own lp1 0 h.ps.length)) := rfl
        repeat' (first | apply aw_seq | apply aw_block | apply aw_skip | apply go_seq)
        apply a_drawN 10; rfl; rfl
        have hsm := same_self ⟨a1, a2, a3, a4, a5, a6, a7, a8, a9, a10, h.ps⟩ (by dsimp only; omega)
        repeat' (first | apply ar_nil | (apply ar_ev; (apply ev_move; rfl); rfl) | (apply ar_ev; (first | (apply ev_callL hsm; rfl; rfl; (focus ((repeat (first | exact Cvs.nil | (apply Cvs.cons; first | exact Cv.refl | exact Cv.le Le.nil | (apply Cv.own0; (focus ((repeat (first | exact Take.head | apply Take.tail | apply Take.right)); done)); exact (by first | omega | assumption | (simp; done) | (simp; omega) | exact Nat.le_of_ble_eq_true rfl)) | (apply Cv.ptr0; (focus ((repeat (first | exact Take.head | apply Take.tail | apply Take.right)); done)); first | rfl | assumption) | (apply Cv.agg; (focus ((repeat (first | exact Cvs.nil | (apply Cvs.cons; first | exact Cv.refl | exact Cv.le Le.nil | (apply Cv.own0; (focus ((repeat (first | exact Take.head | apply Take.tail | apply Take.right)); done)); exact (by first | omega | assumption | (simp; done) | (simp; omega) | exact Nat.le_of_ble_eq_true rfl)) | (apply Cv.ptr0; (focus ((repeat (first | exact Take.head | apply Take.tail | apply Take.right)); done)); first | rfl | assumption) | (apply Cv.agg; (focus ((repeat (first | exact Cvs.nil | (apply Cvs.cons; first | exact Cv.refl | exact Cv.le Le.nil | (apply Cv.own0; (focus ((repeat (first | exact Take.head | apply Take.tail | apply Take.right)); done)); exact (by first | omega | assumption | (simp; done) | (simp; omega) | exact Nat.le_of_ble_eq_true rfl)) | (apply Cv.ptr0; (focus ((repeat (first | exact Take.head | apply Take.tail | apply Take.right)); done)); first | rfl | assumption)))); done)))))); done)))))); done)); constructor) | (apply ev_assign; rfl) | (apply ev_load_ptr_agg; rfl; (focus ((repeat (first | exact Take.head | apply Take.tail | apply Take.right)); done)); exact (by first | rfl | assumption | exact get_map (by assumption)); exact Nat.le_of_ble_eq_true rfl) | (apply ev_load_ip_agg; rfl; exact Nat.le_of_ble_eq_true rfl) | (apply ev_not; rfl) | (apply ev_indexAddr_sl; rfl; rfl; exact (by first | omega | assumption); exact (by first | rfl | assumption | exact get_map (by assumption))) | (apply ev_indexAddr_own0; rfl; rfl; exact (by first | omega | assumption); (focus ((repeat (first | exact Take.head | apply Take.tail | apply Take.right)); done)))); rfl) | apply aw_seq | apply a_region | apply aw_block | apply aw_skip | (apply aw_cond_f; rfl) | apply go_seq)
        have hzs : (wrow 0 (rowS (.own lp1 0 h.ps.length) (⟨a1, a2, a3, a4, a5, a6, a7, a8, a9, a10, h.ps⟩ :: r0))).set 0 z9 = wrow 1 (rowS (.own lp1 0 h.ps.length) (⟨a1, a2, a3, a4, a5, a6, a7, a8, a9, a10, h.ps⟩ :: r0)) := wrow_set (by rw [hN]; exact hil)
        refine a_loop (fun g : Nat × List (List AV) => ⟨[(7, .own l1 0 (⟨a1, a2, a3, a4, a5, a6, a7, a8, a9, a10, h.ps⟩ :: r0).length), (9, fsl (⟨a1, a2, a3, a4, a5, a6, a7, a8, a9, a10, h.ps⟩ :: r0)), (11, fsl (⟨a1, a2, a3, a4, a5, a6, a7, a8, a9, a10, h.ps⟩ :: r0)), (13, vi (0 : Nat)), (14, vi g.1)], [(l1, .row 30 11 (wrow 0 (rowS (.own lp1 0 h.ps.length) (⟨a1, a2, a3, a4, a5, a6, a7, a8, a9, a10, h.ps⟩ :: r0)))), (lp1, .row 42 2 g.2)]⟩)
          (fun g => g.1 ≤ h.ps.length ∧ g.2.length = h.ps.length) (fun g => h.ps.length - g.1) (0, h.ps.map encP) (Sub.of (by repeat (first | exact .nil | refine .cons rfl Le.refl ?_)) (by repeat (first | exact Takes.nil | (apply Takes.cons; focus (repeat (first | exact Take.head | apply Take.tail | apply Take.right)))))) ⟨Nat.zero_le _, by simp⟩ ?_
        rintro ⟨j, Q⟩ ⟨hj, hQ⟩
        dsimp only at hj hQ ⊢
        clear hcv2 hcv3
        repeat' (first | apply ar_nil | (apply ar_ev; (apply ev_move; rfl); rfl) | (apply ar_ev; (first | (apply ev_load_ptr_one; rfl; (focus ((repeat (first | exact Take.head | apply Take.tail | apply Take.right)); done)); exact (by first | rfl | assumption | exact get_map (by assumption)); rfl) | (apply ev_fieldAddr_ptr; rfl) | (apply ev_lss; rfl; rfl) | (apply ev_len_own; rfl) | (apply ev_indexAddr_own0; rfl; rfl; exact (by first | omega | assumption); (focus ((repeat (first | exact Take.head | apply Take.tail | apply Take.right)); done)))); rfl) | apply aw_seq | apply a_region | apply go_seq)
        refine aw_condp rfl (fun hk2 => ?_) (fun hk2 => ?_)
        · obtain ⟨q, hq⟩ : ∃ q, Q[j]? = some q := ⟨_, List.getElem?_eq_getElem (by omega)⟩
          repeat' (first | apply ar_nil | (apply ar_ev; (apply ev_move; rfl); rfl) | (apply ar_ev; (first | (apply ev_load_ptr_one; rfl; (focus ((repeat (first | exact Take.head | apply Take.tail | apply Take.right)); done)); exact (by first | rfl | assumption | exact get_map (by assumption)); rfl) | (apply ev_fieldAddr_ptr; rfl) | (apply ev_assign; rfl) | (apply ev_inc; rfl; exact (by first | omega | assumption)) | (apply ev_indexAddr_own0; rfl; rfl; exact (by first | omega | assumption); (focus ((repeat (first | exact Take.head | apply Take.tail | apply Take.right)); done))) | (apply ev_build; rfl; rfl; rfl)); rfl) | (apply ar_store; rfl; (focus ((repeat (first | exact Take.head | apply Take.tail | apply Take.right)); done)); rfl; rfl; exact (by first | rfl | assumption | exact get_map (by assumption)); rfl; rfl) | apply aw_seq | apply a_region | apply aw_block | apply aw_skip | apply go_seq | apply go_block)
          exact go_loop_back ⟨(j + 1, Q.set j (putCells q 0 [vi (-9), vi 0])), ⟨by dsimp only; omega, by dsimp only; rw [List.length_set]; exact hQ⟩, by dsimp only; omega, Sub.of (by repeat (first | exact .nil | refine .cons rfl Le.refl ?_)) (by repeat (first | exact Takes.nil | (apply Takes.cons; focus (repeat (first | exact Take.head | apply Take.tail | apply Take.right)))))⟩
        · repeat' (first | apply ar_nil | (apply ar_ev; (apply ev_move; rfl); rfl) | (apply ar_ev; (first | (apply ev_assign; rfl) | (apply ev_inc; rfl; exact (by first | omega | assumption)) | (apply ev_indexAddr_own0; rfl; rfl; exact (by first | omega | assumption); (focus ((repeat (first | exact Take.head | apply Take.tail | apply Take.right)); done))) | (apply ev_build; rfl; rfl; rfl)); rfl) | (apply ar_store; rfl; (focus ((repeat (first | exact Take.head | apply Take.tail | apply Take.right)); done)); rfl; rfl; exact (by first | rfl | assumption | exact get_map (by assumption)); rfl; rfl) | apply a_region | apply aw_exit | apply go_seq | apply go_seq_exit | apply go_block | apply go_block_exit | apply go_loop_exit)
          exact go_loop_back ⟨(1, Q), ⟨by dsimp only; omega, fun h => by cases h⟩, by dsimp only; omega, Sub.of (by repeat (first | exact .nil | refine .cons rfl Le.refl ?_)) (by repeat (first | exact Takes.nil | (apply Takes.cons; focus (repeat (first | exact Take.head | exact Take.rowc hzs Take.head | apply Take.tail | apply Take.right)))))⟩
      · obtain ⟨k, rfl⟩ : ∃ k, i = k + 1 := ⟨i - 1, by omega⟩
        obtain ⟨g, hg⟩ : ∃ g, r0[k]? = some g := ⟨_, List.getElem?_eq_getElem (by simp at hil; omega)⟩
        have hg0 := hr0 g (List.mem_of_getElem? hg)
        obtain ⟨a1, a2, a3, a4, a5, a6, a7, a8, a9, a10, ps0⟩ := g
        dsimp only at hg0
        subst hg0
        have hrow : (wrow (k + 1) (rowS (.own lp1 0 h.ps.length) (f0 :: r0)))[k + 1]? = some (fcl ⟨a1, a2, a3, a4, a5, a6, a7, a8, a9, a10, []⟩ sn) := by rw [wrow_get, rowS_gets, hg]; rfl
        have hrow2 : (f0 :: r0)[k + 1]? = some (⟨a1, a2, a3, a4, a5, a6, a7, a8, a9, a10, []⟩ : Frame) := hg
        have hzs : (wrow (k + 1) (rowS (.own lp1 0 h.ps.length) (f0 :: r0))).set (k + 1) z9 = wrow (k + 1 + 1) (rowS (.own lp1 0 h.ps.length) (f0 :: r0)) := wrow_set (by rw [hN]; exact hil)
        clear hcv2 hcv3
        repeat' (first | apply aw_seq | apply aw_block | apply aw_skip | apply go_seq)
        apply a_drawN 10; rfl; rfl
        have hsm := same_self ⟨a1, a2, a3, a4, a5, a6, a7, a8, a9, a10, []⟩ (by simp)
        repeat' (first | apply ar_nil | (apply ar_ev; (apply ev_move; rfl); rfl) | (apply ar_ev; (first | (apply ev_callL hsm; rfl; rfl; (focus ((repeat (first | exact Cvs.nil | (apply Cvs.cons; first | exact Cv.refl | exact Cv.le Le.nil | (apply Cv.own0; (focus ((repeat (first | exact Take.head | apply Take.tail | apply Take.right)); done)); exact (by first | omega | assumption | (simp; done) | (simp; omega) | exact Nat.le_of_ble_eq_true rfl)) | (apply Cv.ptr0; (focus ((repeat (first | exact Take.head | apply Take.tail | apply Take.right)); done)); first | rfl | assumption) | (apply Cv.agg; (focus ((repeat (first | exact Cvs.nil | (apply Cvs.cons; first | exact Cv.refl | exact Cv.le Le.nil | (apply Cv.own0; (focus ((repeat (first | exact Take.head | apply Take.tail | apply Take.right)); done)); exact (by first | omega | assumption | (simp; done) | (simp; omega) | exact Nat.le_of_ble_eq_true rfl)) | (apply Cv.ptr0; (focus ((repeat (first | exact Take.head | apply Take.tail | apply Take.right)); done)); first | rfl | assumption) | (apply Cv.agg; (focus ((repeat (first | exact Cvs.nil | (apply Cvs.cons; first | exact Cv.refl | exact Cv.le Le.nil | (apply Cv.own0; (focus ((repeat (first | exact Take.head | apply Take.tail | apply Take.right)); done)); exact (by first | omega | assumption | (simp; done) | (simp; omega) | exact Nat.le_of_ble_eq_true rfl)) | (apply Cv.ptr0; (focus ((repeat (first | exact Take.head | apply Take.tail | apply Take.right)); done)); first | rfl | assumption)))); done)))))); done)))))); done)); constructor) | (apply ev_assign; rfl) | (apply ev_load_ptr_agg; rfl; (focus ((repeat (first | exact Take.head | apply Take.tail | apply Take.right)); done)); exact (by first | rfl | assumption | exact get_map (by assumption)); exact Nat.le_of_ble_eq_true rfl) | (apply ev_load_ip_agg; rfl; exact Nat.le_of_ble_eq_true rfl) | (apply ev_not; rfl) | (apply ev_indexAddr_sl; rfl; rfl; exact (by first | omega | assumption); exact (by first | rfl | assumption | exact get_map (by assumption))) | (apply ev_indexAddr_own0; rfl; rfl; exact (by first | omega | assumption); (focus ((repeat (first | exact Take.head | apply Take.tail | apply Take.right)); done)))); rfl) | apply aw_seq | apply a_region | apply aw_block | apply aw_skip | (apply aw_cond_f; rfl) | apply go_seq)
        refine a_loop (fun g : Nat => ⟨[(7, .own l1 0 (f0 :: r0).length), (9, fsl (f0 :: r0)), (11, fsl (f0 :: r0)), (13, vi (k + 1 : Nat)), (14, vi (0 : Nat))], [(l1, .row 30 11 (wrow (k + 1) (rowS (.own lp1 0 h.ps.length) (f0 :: r0)))), (lp1, .row 42 2 Q)]⟩)
          (fun g => True) (fun g => g) 0 (Sub.of (by repeat (first | exact .nil | refine .cons rfl Le.refl ?_)) (by repeat (first | exact Takes.nil | (apply Takes.cons; focus (repeat (first | exact Take.head | apply Take.tail | apply Take.right)))))) trivial ?_
        rintro j -
        try dsimp only
        repeat' (first | apply ar_nil | (apply ar_ev; (apply ev_move; rfl); rfl) | (apply ar_ev; (first | (apply ev_load_ptr_one; rfl; (focus ((repeat (first | exact Take.head | apply Take.tail | apply Take.right)); done)); exact (by first | rfl | assumption | exact get_map (by assumption)); rfl) | (apply ev_fieldAddr_ptr; rfl) | (apply ev_assign; rfl) | (apply ev_lss; rfl; rfl) | (apply ev_inc; rfl; exact (by first | omega | assumption)) | (apply ev_len_val; rfl) | (apply ev_indexAddr_own0; rfl; rfl; exact (by first | omega | assumption); (focus ((repeat (first | exact Take.head | apply Take.tail | apply Take.right)); done))) | (apply ev_build; rfl; rfl; rfl)); rfl) | (apply ar_store; rfl; (focus ((repeat (first | exact Take.head | apply Take.tail | apply Take.right)); done)); rfl; rfl; exact (by first | rfl | assumption | exact get_map (by assumption)); rfl; rfl) | apply aw_seq | apply a_region | apply aw_exit | (apply aw_cond_f; rfl) | apply go_seq | apply go_seq_exit | apply go_block | apply go_block_exit | apply go_loop_exit)
        exact go_loop_back ⟨(k + 1 + 1, Q), ⟨by dsimp only; omega, fun h => by cases h⟩, by dsimp only; omega, Sub.of (by repeat (first | exact .nil | refine .cons rfl Le.refl ?_)) (by repeat (first | exact Takes.nil | (apply Takes.cons; focus (repeat (first | exact Take.head | exact Take.rowc hzs Take.head | apply Take.tail | apply Take.right)))))⟩
    · obtain rfl : i = (f0 :: r0).length := by omega
      repeat' (first | (apply ar_ev; (apply ev_move; rfl); rfl) | (apply ar_ev; (first | (apply ev_build; rfl; rfl; rfl) | (apply ev_buildSlice; rfl; rfl; rfl; rfl; rfl; rfl; rfl)); rfl) | apply aw_seq | apply a_region | apply aw_exit | apply go_seq | apply go_seq_exit | apply go_block_exit | apply go_loop_exit)
      apply ar_append; rfl; exact (by repeat (first | exact Take.head | apply Take.tail | apply Take.right)); rfl; exact (by rw [wrow_len (by rw [hN]; exact Nat.le_refl _), hN]; omega); exact (by omega); exact (by omega); rfl; intro l9
      repeat' (first | apply ar_nil | (apply ar_ev; (apply ev_assign; rfl); rfl) | apply aw_seq | apply a_region | apply aw_block | apply go_seq)
      refine a_loop (fun g : Nat => ⟨[(9, fsl (f0 :: r0)), (11, fsl (f0 :: r0)), (15, vi g)], []⟩) (fun g => g ≤ (f0 :: r0).length) (fun g => (f0 :: r0).length - g) 0 (Sub.of (by repeat (first | exact .nil | refine .cons rfl Le.refl ?_)) (by repeat (first | exact Takes.nil | (apply Takes.cons; focus (repeat (first | exact Take.head | apply Take.tail | apply Take.right)))))) (Nat.zero_le _) ?_
      rintro j hj
      try dsimp only at hj ⊢
      repeat' (first | apply ar_nil | (apply ar_ev; (apply ev_move; rfl); rfl) | (apply ar_ev; (first | (apply ev_lss; rfl; rfl) | (apply ev_len_sl; rfl)); rfl) | apply aw_seq | apply a_region | apply go_seq)
      refine aw_condp rfl (fun hk2 => ?_) (fun hk2 => ?_)
      · obtain ⟨g, hg⟩ : ∃ g, (f0 :: r0)[j]? = some g := ⟨_, List.getElem?_eq_getElem (by omega)⟩
        have hgp : g.ps.length ≤ 1048576 := by
          rcases List.mem_cons.1 (List.mem_of_getElem? hg) with rfl | h1
          · rw [hps]; exact hp
          · rw [hr0 g h1]; exact Nat.zero_le _
        have hsm := same_self g (by omega)
        repeat' (first | apply aw_seq | apply aw_block | apply aw_skip | apply go_seq)
        apply a_drawN 10; rfl; rfl
        repeat' (first | apply ar_nil | (apply ar_ev; (apply ev_move; rfl); rfl) | (apply ar_ev; (first | exact ev_call rfl rfl hsm | (apply ev_assign; rfl) | (apply ev_load_ip_agg; rfl; exact Nat.le_of_ble_eq_true rfl) | (apply ev_inc; rfl; exact (by first | omega | assumption)) | (apply ev_not; rfl) | (apply ev_indexAddr_sl; rfl; rfl; exact (by first | omega | assumption); exact (by first | rfl | assumption | exact get_map (by assumption)))); rfl) | apply a_region | apply aw_skip | (apply aw_cond_f; rfl) | apply go_seq | apply go_block)
        exact go_loop_back ⟨j + 1, by omega, by omega, Sub.of (by repeat (first | exact .nil | refine .cons rfl Le.refl ?_)) (by repeat (first | exact Takes.nil | (apply Takes.cons; focus (repeat (first | exact Take.head | apply Take.tail | apply Take.right)))))⟩
      · repeat' (first | apply ar_nil | (apply ar_ev; (apply ev_assign; rfl); rfl) | apply aw_seq | apply a_region | apply aw_exit | apply aw_ret | apply go_seq | apply go_seq_exit | apply go_block_exit | apply go_loop_exit)
        exact g_ret1 (r_tmp rfl) .nil rfl
  · repeat' (first | apply ar_nil | (apply ar_ev; (apply ev_move; rfl); rfl) | (apply ar_ev; (first | exact ev_call rfl rfl (own_ok h (by omega)) | (apply ev_assign; rfl) | (apply ev_load_ptr_agg; rfl; (focus ((repeat (first | exact Take.head | apply Take.tail | apply Take.right)); done)); exact (by first | rfl | assumption | exact get_map (by assumption)); exact Nat.le_of_ble_eq_true rfl)); rfl) | (apply ar_new; (first | apply eff_alloc | (apply eff_box; rfl; exact lies_of rfl)); exact .nil; rfl; intro lab) | apply aw_seq | apply a_region | apply go_seq)
    apply ar_call (Split_ok h b size (by omega) (by omega)); rfl; rfl; (focus ((repeat (first | exact Takes.nil | (apply Takes.cons; focus (repeat (first | exact Take.head | apply Take.tail | apply Take.right))))); done)); rfl
    rintro _ _ (⟨_, rfl, rfl⟩ | ⟨h0, _⟩)
    rotate_left
    · exact absurd h0 hE
    repeat' (first | apply ar_nil | (apply ar_ev; (apply ev_move; rfl); rfl) | (apply ar_ev; (first | exact ev_call rfl rfl (own_ok h (by omega)) | (apply ev_assign; rfl) | (apply ev_load_ptr_agg; rfl; (focus ((repeat (first | exact Take.head | apply Take.tail | apply Take.right)); done)); exact (by first | rfl | assumption | exact get_map (by assumption)); exact Nat.le_of_ble_eq_true rfl) | (apply ev_extract; rfl; rfl)); rfl) | apply aw_seq | apply a_region | apply go_seq)
    apply ar_call (Split_ok h b size (by omega) (by omega)); rfl; rfl; (focus ((repeat (first | exact Takes.nil | (apply Takes.cons; focus (repeat (first | exact Take.head | apply Take.tail | apply Take.right))))); done)); rfl
    rintro _ _ (⟨_, rfl, rfl⟩ | ⟨h0, _⟩)
    rotate_left
    · exact absurd h0 hE
    repeat' (first | apply ar_nil | (apply ar_ev; (apply ev_move; rfl); rfl) | (apply ar_ev; (first | exact ev_call rfl rfl (own_ok h (by omega)) | (apply ev_assign; rfl) | (apply ev_load_ptr_agg; rfl; (focus ((repeat (first | exact Take.head | apply Take.tail | apply Take.right)); done)); exact (by first | rfl | assumption | exact get_map (by assumption)); exact Nat.le_of_ble_eq_true rfl) | (apply ev_extract; rfl; rfl)); rfl) | apply aw_seq | apply a_region | apply go_seq)
    apply ar_call (RSplit_ok h b size (by omega) (by omega)); rfl; rfl; (focus ((repeat (first | exact Takes.nil | (apply Takes.cons; focus (repeat (first | exact Take.head | apply Take.tail | apply Take.right))))); done)); rfl
    rintro _ _ (⟨_, rfl, rfl⟩ | ⟨h0, _⟩)
    rotate_left
    · exact absurd h0 hE
    repeat' (first | apply ar_nil | (apply ar_splitp; (apply ev_move; rfl); rfl; all_goals (intro hc; try (exfalso; first | omega | contradiction | (simp at hc; omega) | (simp_all; done)))) | (apply ar_ev; (apply ev_move; rfl); rfl) | (apply ar_ev; (first | (apply ev_assign; rfl) | (apply ev_pick_f; rfl; rfl) | (apply ev_neip; rfl; rfl) | (apply ev_extract; rfl; rfl)); rfl) | (apply ar_take; rfl; rfl; rfl; (apply ev_move; rfl); rfl) | (apply ar_take; rfl; rfl; rfl; (first | exact ev_call rfl rfl first_ok | (apply ev_neip; rfl; rfl) | (apply ev_len_val; rfl) | (apply ev_not; rfl)); rfl) | apply aw_seq | apply a_region | apply aw_block | apply aw_skip | (apply aw_cond_f; rfl) | apply go_seq)
    refine a_loop (fun g : Nat => ⟨[(7, sn), (9, sn), (11, sn), (13, vi (0 : Nat))], []⟩) (fun g => True) (fun g => g) 0 (Sub.of (by repeat (first | exact .nil | refine .cons rfl Le.refl ?_)) (by repeat (first | exact Takes.nil | (apply Takes.cons; focus (repeat (first | exact Take.head | apply Take.tail | apply Take.right)))))) trivial ?_
    rintro j -
    try dsimp only
    repeat' (first | apply ar_nil | (apply ar_ev; (apply ev_move; rfl); rfl) | (apply ar_ev; (first | (apply ev_assign; rfl) | (apply ev_lss; rfl; rfl) | (apply ev_len_val; rfl) | (apply ev_build; rfl; rfl; rfl) | (apply ev_buildSlice; rfl; rfl; rfl; rfl; rfl; rfl; rfl)); rfl) | apply aw_seq | apply a_region | apply aw_block | apply aw_exit | (apply aw_cond_f; rfl) | apply go_seq | apply go_seq_exit | apply go_block_exit | apply go_loop_exit | (apply ar_new; (apply eff_append_nil; rfl; rfl; exact (by first | omega | assumption | (simp; done) | (simp; omega) | exact Nat.le_of_ble_eq_true rfl); exact (by first | omega | assumption | (simp; done) | (simp; omega) | exact Nat.le_of_ble_eq_true rfl)); exact .nil; rfl; intro lab))
    refine a_loop (fun g : Nat => ⟨[(9, sn), (11, sn), (15, vi (0 : Nat))], []⟩) (fun g => True) (fun g => g) 0 (Sub.of (by repeat (first | exact .nil | refine .cons rfl Le.refl ?_)) (by repeat (first | exact Takes.nil | (apply Takes.cons; focus (repeat (first | exact Take.head | apply Take.tail | apply Take.right)))))) trivial ?_
    rintro j -
    try dsimp only
    repeat' (first | apply ar_nil | (apply ar_ev; (apply ev_move; rfl); rfl) | (apply ar_ev; (first | (apply ev_assign; rfl) | (apply ev_lss; rfl; rfl) | (apply ev_len_val; rfl)); rfl) | apply aw_seq | apply a_region | apply aw_exit | apply aw_ret | (apply aw_cond_f; rfl) | apply go_seq | apply go_seq_exit | apply go_block_exit | apply go_loop_exit)
    exact g_ret1 (r_tmp rfl) .nil rfl
end Go.Proofs.Ytinojkkjcignhaa
