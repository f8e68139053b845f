import Derived.Test.YtfebfgmbaenhlaaDoorO
set_option linter.unusedVariables false
set_option linter.unusedSimpArgs false
set_option maxRecDepth 100000
namespace Go.Proofs.YtfebfgmbaenhlaaDoor
open Go.Proofs Go.Proofs.YtfebfgmbaenhlaaDoorA

theorem take_u8f {f : UInt8 → UInt8} {l : List UInt8} {i : Nat} {c : UInt8} (h : l[i]? = some c) : List.take i (List.drop 0 (u8cells ((l.take i).map f))) ++ List.take 1 [[v8 (f c)]] = u8cells ((l.take (i + 1)).map f) := by
  have hi := (List.getElem?_eq_some_iff.1 h).1
  rw [List.drop_zero, List.take_of_length_le (by simp [u8cells]; omega), List.take_add_one (l := l), h]
  simp [u8cells]
def great (s : ByteArray) : ByteArray := BA ((bl s).map upB)
theorem great_ok (s : ByteArray) (hn : s.size ≤ 1099511627776) : PFn Tryd.prog 21 [vs s] (vs (great s)) := by
  refine fn_of Tryd.func21 rfl Tryd.ntmps21 Tryd.results21 rfl fun G => ?_
  have hl := bl_length s
  repeat' (first | apply ar_nil | (apply ar_ev; (apply ev_assign; rfl); rfl) | apply aw_seq | apply a_region | apply aw_block | apply go_seq)
  refine aw_adopt 3 5 1 rfl fun lab => ?_
  skip
  have h0 : ([] : List (List AV)) = u8cells (((bl s).take 0).map upB) := rfl
  refine a_loop (fun g : Nat × Nat => ⟨[(0, vs s), (3, .own g.2 0 g.1), (4, vi g.1)], [(g.2, .row 5 1 (u8cells (((bl s).take g.1).map upB)))]⟩) (fun g => g.1 ≤ s.size) (fun g => s.size - g.1) (0, lab) (Sub.of (by repeat (first | exact .nil | refine .cons rfl Le.refl ?_)) (by repeat (first | exact Takes.nil | (apply Takes.cons; focus (repeat (first | exact Take.head | exact Take.rowc h0 Take.head | apply Take.tail | apply Take.right)))))) (Nat.zero_le _) ?_
  rintro ⟨i, l⟩ hi
  dsimp only at *
  repeat' (first | apply ar_nil | (apply ar_ev; (apply ev_move; rfl); rfl) | (apply ar_ev; (first | (apply ev_lss; rfl; rfl) | (apply ev_len_str; rfl)); rfl) | apply aw_seq | apply a_region | apply go_seq)
  refine aw_condp rfl (fun hk => ?_) (fun hk => ?_)
  · obtain ⟨c, hce⟩ : ∃ c, (bl s)[i]? = some c := ⟨_, List.getElem?_eq_getElem (by omega)⟩
    have hlen : (u8cells (((bl s).take i).map upB)).length = i := by simp [u8cells]; omega
    have hrow := take_u8f (f := upB) hce
    repeat' (first | apply ar_nil | (apply ar_splitp; (apply ev_move; rfl); rfl; all_goals (intro hc; try (exfalso; first | omega | contradiction | (simp at hc; omega) | (simp_all; done)))) | (apply ar_ev; (apply ev_move; rfl); rfl) | (apply ar_ev; (first | (apply ev_assign; rfl) | (apply ev_pick_t; rfl; rfl) | (apply ev_pick_f; rfl; rfl) | (apply ev_geq; rfl; rfl) | (apply ev_index_bl; rfl; rfl; assumption) | (apply ev_buildSlice; rfl; rfl; rfl; rfl; rfl; rfl; rfl) | (apply ev_subw; rfl; rfl)); rfl) | (apply ar_skip; rfl; rfl; rfl; rfl; rfl) | (apply ar_take; rfl; rfl; rfl; (apply ev_move; rfl); rfl) | (apply ar_take; rfl; rfl; rfl; (apply ev_leq; rfl; rfl); rfl) | apply aw_seq | apply a_region | apply aw_block | apply aw_skip | (apply aw_condp; rfl; all_goals (intro hc; try (exfalso; first | omega | contradiction | (simp at hc; omega) | (simp_all; done)))) | (apply aw_cond_f; rfl) | apply go_seq)
    · rename_i h1
      have hu : v8 (upB c) = .val (.int .u8 (IntKind.u8.wrap ((c.toNat : Int) - 32))) := by
        have h2 : 97 ≤ c.toNat ∧ c.toNat ≤ 122 := ⟨by omega, by omega⟩
        unfold v8
        rw [upB, if_pos h2, up_toNat c h2, wrap8]
        congr 2
        omega
      rw [hu] at hrow
      repeat' (first | apply ar_nil | (apply ar_ev; (apply ev_move; rfl); rfl) | (apply ar_ev; (first | (apply ev_assign; rfl) | (apply ev_inc; rfl; exact (by first | omega | assumption))); rfl) | apply a_region | apply go_seq | apply go_block | (apply ar_append; rfl; (focus ((repeat (first | exact Take.head | apply Take.tail | apply Take.right)); done)); rfl; exact (by first | omega | assumption | (simp; done) | (simp; omega) | exact Nat.le_of_ble_eq_true rfl); exact (by first | omega | assumption | (simp; done) | (simp; omega) | exact Nat.le_of_ble_eq_true rfl); exact (by first | omega | assumption | (simp; done) | (simp; omega) | exact Nat.le_of_ble_eq_true rfl); rfl; intro lab))
      exact go_loop_back ⟨(i + 1, _), by dsimp only; omega, by dsimp only; omega, Sub.of (by repeat (first | exact .nil | refine .cons rfl Le.refl ?_)) (by repeat (first | exact Takes.nil | (apply Takes.cons; focus (repeat (first | exact Take.head | exact Take.rowc hrow Take.head | apply Take.tail | apply Take.right)))))⟩
    all_goals
      have hs : upB c = c := by unfold upB; rw [if_neg (by omega)]
      rw [hs] at hrow
      repeat' (first | apply ar_nil | (apply ar_ev; (apply ev_move; rfl); rfl) | (apply ar_ev; (first | (apply ev_assign; rfl) | (apply ev_inc; rfl; exact (by first | omega | assumption))); rfl) | apply a_region | apply go_seq | apply go_block | (apply ar_append; rfl; (focus ((repeat (first | exact Take.head | apply Take.tail | apply Take.right)); done)); rfl; exact (by first | omega | assumption | (simp; done) | (simp; omega) | exact Nat.le_of_ble_eq_true rfl); exact (by first | omega | assumption | (simp; done) | (simp; omega) | exact Nat.le_of_ble_eq_true rfl); exact (by first | omega | assumption | (simp; done) | (simp; omega) | exact Nat.le_of_ble_eq_true rfl); rfl; intro lab))
      exact go_loop_back ⟨(i + 1, _), by dsimp only; omega, by dsimp only; omega, Sub.of (by repeat (first | exact .nil | refine .cons rfl Le.refl ?_)) (by repeat (first | exact Takes.nil | (apply Takes.cons; focus (repeat (first | exact Take.head | exact Take.rowc hrow Take.head | apply Take.tail | apply Take.right)))))⟩
  · obtain rfl : i = s.size := by omega
    have e : u8cells (((bl s).take s.size).map upB) = u8cells ((bl s).map upB) := by rw [← hl, List.take_length]
    have hlm : ((bl s).map upB).length = s.size := by rw [List.length_map, hl]
    rw [e, ← hlm]
    repeat' (first | apply ar_nil | (apply ar_ev; (apply ev_move; rfl); rfl) | (apply ar_ev; (first | (apply ev_assign; rfl) | (apply ev_conv_own; rfl; (focus ((repeat (first | exact Take.head | apply Take.tail | apply Take.right)); done)))); rfl) | apply aw_seq | apply a_region | apply aw_exit | apply aw_ret | apply go_seq | apply go_seq_exit | apply go_block_exit | apply go_loop_exit)
    exact g_ret1 (r_tmp rfl) .nil rfl

theorem nodup_ne {l : List ByteArray} (h : l.Nodup) {i j : Nat} (hij : j < i) {x y : ByteArray} (hx : l[i]? = some x) (hy : l[j]? = some y) : y ≠ x := by
  rintro rfl
  obtain ⟨h1, e1⟩ := List.getElem?_eq_some_iff.1 hx
  obtain ⟨h2, e2⟩ := List.getElem?_eq_some_iff.1 hy
  have := (List.getElem_inj (h₀ := h1) (h₁ := h2) h).1 (e1.trans e2.symm)
  omega
theorem wt_mem {l : List ByteArray} {n : ByteArray} (h : n ∈ l) : n.size + 1 ≤ wt l := by
  induction l with
  | nil => cases h
  | cons a l ih =>
    have e : wt (a :: l) = (a.size + 1) + wt l := by simp [wt]
    rcases List.mem_cons.1 h with rfl | h
    · omega
    · have := ih h; omega
theorem wt_len (l : List ByteArray) : l.length ≤ wt l := by
  induction l with
  | nil => exact Nat.zero_le _
  | cons a l ih =>
    have e : wt (a :: l) = (a.size + 1) + wt l := by simp [wt]
    rw [List.length_cons]; omega
theorem wt_take (l : List ByteArray) (i : Nat) : wt (l.take i) ≤ wt l := by
  have : wt l = wt (l.take i) + wt (l.drop i) := by
    unfold wt
    rw [← List.sum_append, ← List.map_append, List.take_append_drop]
  omega
theorem tOf_take {l : List ByteArray} {i : Nat} {n : ByteArray} (h : l[i]? = some n) : BA (tOf (l.take (i + 1))) = BA (tOf (l.take i)) ++ ⟨#[32, 9]⟩ ++ great n ++ ⟨#[32, 44, 44]⟩ := by
  rw [List.take_add_one, h]
  show BA (tOf (l.take i ++ [n])) = _
  rw [tOf_snoc, ← bl_inj]
  simp only [bl_BA, bl_append, great]
  rw [show bl ⟨#[32, 9]⟩ = [32, 9] from rfl, show bl ⟨#[32, 44, 44]⟩ = [32, 44, 44] from rfl]
  simp

set_option maxHeartbeats 8000000 in
theorem VaryTold_ok (r : Rs) (hn : r.fs.length ≤ 1048576) (hv : ∀ f, f ∈ r.fs → f.v.size ≤ 1048576) (hw : wf r.fs ≤ 1048576) : PFn Tryd.prog 7 [.agg (encR r)] (vb true) := by
  refine fn_of Tryd.func7 rfl Tryd.ntmps7 Tryd.results7 rfl fun G => ?_
  have hN := Names_ok r hn (fun f hf => Nat.le_trans (hv f hf) (by omega))
  obtain ⟨hinv, hwt⟩ := names_inv r.fs
  obtain ⟨NS, hNS⟩ : ∃ x, x = namesN r.fs := ⟨_, rfl⟩
  rw [← hNS] at hN hinv hwt
  obtain ⟨ns, st⟩ := NS
  dsimp only at hN hwt
  have hnl := wt_len ns
  repeat' (first | apply ar_nil | (apply ar_ev; (first | exact ev_call rfl rfl first_ok | (apply ev_assign; rfl) | (apply ev_load_ptr_agg; rfl; (focus ((repeat (first | exact Take.head | apply Take.tail | apply Take.right)); done)); exact (by first | rfl | assumption | exact get_map (by assumption)); exact Nat.le_of_ble_eq_true rfl) | (apply ev_not; rfl)); rfl) | (apply ar_new; (first | apply eff_alloc | (apply eff_box; rfl; exact lies_of rfl) | (apply eff_conv_bytes; rfl; exact (by first | omega | assumption | (simp; done) | (simp; omega) | exact Nat.le_of_ble_eq_true rfl))); exact .nil; rfl; intro lab) | apply aw_seq | apply a_region | apply aw_skip | (apply aw_cond_f; rfl) | apply go_seq)
  apply ar_callA hN; rfl; rfl; (focus ((repeat (first | exact Les.nil | (apply Les.cons; first | exact Le.refl | exact Le.nil | (apply Le.agg; (focus ((repeat (first | exact Les.nil | (apply Les.cons; first | exact Le.refl | exact Le.nil | (apply Le.agg; (focus ((repeat (first | exact Les.nil | (apply Les.cons; first | exact Le.refl | exact Le.nil))); done)))))); done)))))); done)); (focus ((repeat (first | exact Takes.nil | (apply Takes.cons; focus (repeat (first | exact Take.head | apply Take.tail | apply Take.right))))); done)); rfl; rintro _ _ ⟨la, rfl, rfl, -⟩
  repeat' ((fail_if_success (show AW _ (.region 4 _ _) _ _)); (first | apply ar_nil | (apply ar_ev; (apply ev_move; rfl); rfl) | (apply ar_ev; (first | (apply ev_assign; rfl) | (apply ev_extract; rfl; rfl)); rfl) | apply aw_seq | apply go_seq))
  refine aw_cv 3 (us := [(la, .row 9 1 (ns.map encS))]) rfl (.cons .head .nil) (Cv.own0 .head (by simp)) ?_
  have h0 : (⟨#[]⟩ : ByteArray) = BA (tOf (ns.take 0)) := rfl
  repeat' (first | apply ar_nil | (apply ar_ev; (apply ev_assign; rfl); rfl) | apply aw_seq | apply a_region | apply aw_block | apply go_seq)
  refine a_loop (fun i : Nat => ⟨[(3, ssl ns), (4, vb st), (5, vs (BA (tOf (ns.take i)))), (6, vi i)], []⟩) (fun i => i ≤ ns.length) (fun i => ns.length - i) 0 (Sub.of (by repeat (first | exact .nil | refine .cons rfl Le.refl ?_)) (by repeat (first | exact Takes.nil | (apply Takes.cons; focus (repeat (first | exact Take.head | apply Take.tail | apply Take.right)))))) (Nat.zero_le _) ?_
  rintro i hi
  repeat' (first | apply ar_nil | (apply ar_ev; (apply ev_move; rfl); rfl) | (apply ar_ev; (first | (apply ev_lss; rfl; rfl) | (apply ev_len_sl; rfl)); rfl) | apply aw_seq | apply a_region | apply go_seq)
  refine aw_condp rfl (fun hk => ?_) (fun hk => ?_)
  · obtain ⟨x, hx⟩ : ∃ x, ns[i]? = some x := ⟨_, List.getElem?_eq_getElem (by omega)⟩
    have hx2 := ssl_get hx
    have hxm := List.mem_of_getElem? hx
    have hok := hinv.ok x hxm
    have hxs := wt_mem hxm
    repeat' (first | apply ar_nil | (apply ar_ev; (apply ev_assign; rfl); rfl) | apply aw_seq | apply a_region | apply aw_block | apply aw_skip | apply go_seq)
    refine a_loop (fun k : Nat => ⟨[(3, ssl ns), (4, vb st), (5, vs (BA (tOf (ns.take i)))), (6, vi i), (7, vi k)], []⟩) (fun k => k ≤ i) (fun k => i - k) 0 (Sub.of (by repeat (first | exact .nil | refine .cons rfl Le.refl ?_)) (by repeat (first | exact Takes.nil | (apply Takes.cons; focus (repeat (first | exact Take.head | apply Take.tail | apply Take.right)))))) (Nat.zero_le _) ?_
    rintro k hki
    repeat' (first | apply ar_nil | (apply ar_ev; (apply ev_move; rfl); rfl) | (apply ar_ev; (apply ev_lss; rfl; rfl); rfl) | apply aw_seq | apply a_region | apply go_seq)
    refine aw_condp rfl (fun hk2 => ?_) (fun hk2 => ?_)
    · obtain ⟨y, hy⟩ : ∃ y, ns[k]? = some y := ⟨_, List.getElem?_eq_getElem (by omega)⟩
      have hy2 := ssl_get hy
      have hne := nodup_ne hinv.nodup (by omega) hx hy
      repeat' (first | apply ar_nil | (apply ar_ev; (apply ev_move; rfl); rfl) | (apply ar_ev; (first | (apply ev_load_ip_one; rfl; rfl) | (apply ev_assign; rfl) | (apply ev_inc; rfl; exact (by first | omega | assumption)) | (apply ev_eqsp; rfl; rfl) | (apply ev_indexAddr_sl; rfl; rfl; exact (by first | omega | assumption); exact (by first | rfl | assumption | exact get_map (by assumption)))); rfl) | apply aw_seq | apply a_region | apply aw_block | apply aw_skip | (apply aw_condp; rfl; all_goals (intro hc; try (exfalso; first | omega | contradiction | (simp at hc; omega) | (simp_all; done)))) | apply go_seq | apply go_block | (first | (apply a_drawN 2; rfl; rfl) | (apply a_drawN 3; rfl; rfl) | (apply a_drawN 4; rfl; rfl) | (apply a_drawN 5; rfl; rfl) | (apply a_drawN 6; rfl; rfl) | (apply a_drawN 7; rfl; rfl) | (apply a_drawN 8; rfl; rfl) | (apply a_drawN 9; rfl; rfl) | (apply a_drawN 10; rfl; rfl) | (apply a_drawN 11; rfl; rfl) | (apply a_drawN 12; rfl; rfl) | (apply a_drawN 13; rfl; rfl) | (apply a_drawN 14; rfl; rfl) | (apply a_drawN 15; rfl; rfl) | (apply a_drawN 16; rfl; rfl) | (apply a_drawN 17; rfl; rfl) | (apply a_drawN 18; rfl; rfl) | (apply a_drawN 19; rfl; rfl) | (apply a_drawN 20; rfl; rfl) | (apply a_drawN 21; rfl; rfl) | (apply a_drawN 22; rfl; rfl) | (apply a_drawN 23; rfl; rfl) | (apply a_drawN 24; rfl; rfl) | (apply a_drawN 25; rfl; rfl) | (apply a_drawN 26; rfl; rfl) | (apply a_drawN 27; rfl; rfl) | (apply a_drawN 28; rfl; rfl) | (apply a_drawN 29; rfl; rfl) | (apply a_drawN 30; rfl; rfl) | (apply a_drawN 31; rfl; rfl) | (apply a_drawN 32; rfl; rfl) | (apply a_drawN 33; rfl; rfl) | (apply a_drawN 34; rfl; rfl) | (apply a_drawN 35; rfl; rfl) | (apply a_drawN 36; rfl; rfl) | (apply a_drawN 37; rfl; rfl) | (apply a_drawN 38; rfl; rfl) | (apply a_drawN 39; rfl; rfl) | (apply a_drawN 40; rfl; rfl) | (apply a_drawN 41; rfl; rfl) | (apply a_drawN 42; rfl; rfl) | (apply a_drawN 43; rfl; rfl) | (apply a_drawN 44; rfl; rfl) | (apply a_drawN 45; rfl; rfl)))
      exact go_loop_back ⟨k + 1, by omega, by omega, Sub.of (by repeat (first | exact .nil | refine .cons rfl Le.refl ?_)) (by repeat (first | exact Takes.nil | (apply Takes.cons; focus (repeat (first | exact Take.head | apply Take.tail | apply Take.right)))))⟩
    · obtain rfl : k = i := by omega
      have hgr := great_ok x (by omega)
      have hgz : (great x).size = x.size := by rw [great, BA_size, List.length_map, bl_length]
      have hts : (BA (tOf (ns.take k))).size ≤ 5242880 := by
        rw [BA_size]
        have h1 := tOf_len (ns.take k)
        have h2 := wt_take ns k
        omega
      have hz1 : (⟨#[32, 9]⟩ : ByteArray).size = 2 := rfl
      have hz2 : (⟨#[32, 44, 44]⟩ : ByteArray).size = 3 := rfl
      have hz3 : (BA (tOf (ns.take k)) ++ ⟨#[32, 9]⟩).size = (BA (tOf (ns.take k))).size + 2 := by rw [ByteArray.size_append, hz1]
      have hz4 : (BA (tOf (ns.take k)) ++ ⟨#[32, 9]⟩ ++ great x).size = (BA (tOf (ns.take k))).size + 2 + x.size := by rw [ByteArray.size_append, hz3, hgz]
      have hst := tOf_take hx
      have hn1 := hok.ne
      have hn2 := hok.star
      repeat' (first | apply ar_nil | (apply ar_splitp; (apply ev_move; rfl); rfl; all_goals (intro hc; try (exfalso; first | omega | contradiction | (simp at hc; omega) | (simp_all; done)))) | (apply ar_ev; (apply ev_move; rfl); rfl) | (apply ar_ev; (first | exact ev_call rfl rfl hgr | (apply ev_cat; rfl; rfl; exact (by first | omega | assumption)) | (apply ev_load_ip_one; rfl; rfl) | (apply ev_assign; rfl) | (apply ev_pick_f; rfl; rfl) | (apply ev_inc; rfl; exact (by first | omega | assumption)) | (apply ev_eqsp; rfl; rfl) | (apply ev_indexAddr_sl; rfl; rfl; exact (by first | omega | assumption); exact (by first | rfl | assumption | exact get_map (by assumption)))); rfl) | (apply ar_take; rfl; rfl; rfl; (apply ev_move; rfl); rfl) | (apply ar_take; rfl; rfl; rfl; (first | (apply ev_load_ip_one; rfl; rfl) | (apply ev_eqsp; rfl; rfl) | (apply ev_indexAddr_sl; rfl; rfl; exact (by first | omega | assumption); exact (by first | rfl | assumption | exact get_map (by assumption)))); rfl) | apply aw_seq | apply a_region | apply aw_skip | apply aw_exit | (apply aw_condp; rfl; all_goals (intro hc; try (exfalso; first | omega | contradiction | (simp at hc; omega) | (simp_all; done)))) | apply go_seq | apply go_seq_exit | apply go_block | apply go_block_exit | apply go_loop_exit)
      rw [← hst]
      exact go_loop_back ⟨k + 1, by omega, by omega, Sub.of (by repeat (first | exact .nil | refine .cons rfl Le.refl ?_)) (by repeat (first | exact Takes.nil | (apply Takes.cons; focus (repeat (first | exact Take.head | apply Take.tail | apply Take.right)))))⟩
  · obtain rfl : i = ns.length := by omega
    rw [List.take_length]
    have hts : (BA (tOf ns)).size ≤ 5242880 := by
      rw [BA_size]
      have h1 := tOf_len ns
      omega
    have hz1 : (⟨#[42, 44]⟩ : ByteArray).size = 2 := rfl
    have hss : (sText ns st).size ≤ 5242882 := by
      unfold sText
      split
      · rw [ByteArray.size_append, hz1]; omega
      · omega
    have hN3 := Names3_ok ⟨0, [⟨tX, tStar, false⟩, ⟨tVary, sText ns st, false⟩, ⟨tVary, sText ns st, false⟩], es⟩ (Nat.le_refl _) (by
      intro f hf
      dsimp only at hf
      simp only [List.mem_cons, List.not_mem_nil, or_false] at hf
      rcases hf with rfl | rfl | rfl
      · decide
      · dsimp only; omega
      · dsimp only; omega)
    dsimp only at hN3
    rw [names_back hinv] at hN3
    dsimp only at hN3
    have hs := same16_ok ns ns (by omega)
    rw [decide_eq_true rfl] at hs
    cases st
    all_goals
      repeat' (first | apply ar_nil | (apply ar_ev; (apply ev_move (y := .val (.bool true)); rfl); rfl) | (apply ar_ev; (apply ev_move (y := .val (.bool false)); rfl); rfl) | (apply ar_ev; (apply ev_move; rfl); rfl) | (apply ar_ev; (first | (apply ev_cat; rfl; rfl; exact (by first | omega | assumption)) | (apply ev_assign; rfl) | (apply ev_build; rfl; rfl; rfl) | (apply ev_buildSlice; rfl; rfl; rfl; rfl; rfl; rfl; rfl)); rfl) | apply aw_seq | apply a_region | apply aw_skip | apply aw_exit | (apply aw_cond_t; rfl) | (apply aw_cond_f; rfl) | apply go_seq | apply go_seq_exit | apply go_block_exit | apply go_loop_exit)
      apply ar_callA hN3; rfl; rfl; (focus ((repeat (first | exact Les.nil | (apply Les.cons; first | exact Le.refl | exact Le.nil | (apply Le.agg; (focus ((repeat (first | exact Les.nil | (apply Les.cons; first | exact Le.refl | exact Le.nil | (apply Le.agg; (focus ((repeat (first | exact Les.nil | (apply Les.cons; first | exact Le.refl | exact Le.nil))); done)))))); done)))))); done)); (focus ((repeat (first | exact Takes.nil | (apply Takes.cons; focus (repeat (first | exact Take.head | apply Take.tail | apply Take.right))))); done)); rfl; rintro _ _ ⟨lb, rfl, rfl, -⟩
      repeat' (first | apply ar_nil | (apply ar_ev; (apply ev_move (y := .val (.bool true)); rfl); rfl) | (apply ar_ev; (apply ev_move; rfl); rfl) | (apply ar_ev; (first | (apply ev_callL hs; rfl; rfl; (focus ((repeat (first | exact Cvs.nil | (apply Cvs.cons; first | exact Cv.refl | exact Cv.le Le.nil | (apply Cv.own0; (focus ((repeat (first | exact Take.head | apply Take.tail | apply Take.right)); done)); exact (by first | omega | assumption | (simp; done) | (simp; omega) | exact Nat.le_of_ble_eq_true rfl)) | (apply Cv.own_pre; (focus ((repeat (first | exact Take.head | apply Take.tail | apply Take.right)); done)); exact (by first | omega | assumption | (simp; done) | (simp; omega) | exact Nat.le_of_ble_eq_true rfl)) | (apply Cv.ptr0; (focus ((repeat (first | exact Take.head | apply Take.tail | apply Take.right)); done)); first | rfl | assumption) | (apply Cv.agg; (focus ((repeat (first | exact Cvs.nil | (apply Cvs.cons; first | exact Cv.refl | exact Cv.le Le.nil | (apply Cv.own0; (focus ((repeat (first | exact Take.head | apply Take.tail | apply Take.right)); done)); exact (by first | omega | assumption | (simp; done) | (simp; omega) | exact Nat.le_of_ble_eq_true rfl)) | (apply Cv.own_pre; (focus ((repeat (first | exact Take.head | apply Take.tail | apply Take.right)); done)); exact (by first | omega | assumption | (simp; done) | (simp; omega) | exact Nat.le_of_ble_eq_true rfl)) | (apply Cv.ptr0; (focus ((repeat (first | exact Take.head | apply Take.tail | apply Take.right)); done)); first | rfl | assumption) | (apply Cv.agg; (focus ((repeat (first | exact Cvs.nil | (apply Cvs.cons; first | exact Cv.refl | exact Cv.le Le.nil | (apply Cv.own0; (focus ((repeat (first | exact Take.head | apply Take.tail | apply Take.right)); done)); exact (by first | omega | assumption | (simp; done) | (simp; omega) | exact Nat.le_of_ble_eq_true rfl)) | (apply Cv.own_pre; (focus ((repeat (first | exact Take.head | apply Take.tail | apply Take.right)); done)); exact (by first | omega | assumption | (simp; done) | (simp; omega) | exact Nat.le_of_ble_eq_true rfl)) | (apply Cv.ptr0; (focus ((repeat (first | exact Take.head | apply Take.tail | apply Take.right)); done)); first | rfl | assumption)))); done))) | (apply Cv.fn; (focus ((repeat (first | exact Cvs.nil | (apply Cvs.cons; first | exact Cv.refl | exact Cv.le Le.nil | (apply Cv.own0; (focus ((repeat (first | exact Take.head | apply Take.tail | apply Take.right)); done)); exact (by first | omega | assumption | (simp; done) | (simp; omega) | exact Nat.le_of_ble_eq_true rfl)) | (apply Cv.own_pre; (focus ((repeat (first | exact Take.head | apply Take.tail | apply Take.right)); done)); exact (by first | omega | assumption | (simp; done) | (simp; omega) | exact Nat.le_of_ble_eq_true rfl)) | (apply Cv.ptr0; (focus ((repeat (first | exact Take.head | apply Take.tail | apply Take.right)); done)); first | rfl | assumption)))); done)))))); done))) | (apply Cv.fn; (focus ((repeat (first | exact Cvs.nil | (apply Cvs.cons; first | exact Cv.refl | exact Cv.le Le.nil | (apply Cv.own0; (focus ((repeat (first | exact Take.head | apply Take.tail | apply Take.right)); done)); exact (by first | omega | assumption | (simp; done) | (simp; omega) | exact Nat.le_of_ble_eq_true rfl)) | (apply Cv.own_pre; (focus ((repeat (first | exact Take.head | apply Take.tail | apply Take.right)); done)); exact (by first | omega | assumption | (simp; done) | (simp; omega) | exact Nat.le_of_ble_eq_true rfl)) | (apply Cv.ptr0; (focus ((repeat (first | exact Take.head | apply Take.tail | apply Take.right)); done)); first | rfl | assumption) | (apply Cv.agg; (focus ((repeat (first | exact Cvs.nil | (apply Cvs.cons; first | exact Cv.refl | exact Cv.le Le.nil | (apply Cv.own0; (focus ((repeat (first | exact Take.head | apply Take.tail | apply Take.right)); done)); exact (by first | omega | assumption | (simp; done) | (simp; omega) | exact Nat.le_of_ble_eq_true rfl)) | (apply Cv.own_pre; (focus ((repeat (first | exact Take.head | apply Take.tail | apply Take.right)); done)); exact (by first | omega | assumption | (simp; done) | (simp; omega) | exact Nat.le_of_ble_eq_true rfl)) | (apply Cv.ptr0; (focus ((repeat (first | exact Take.head | apply Take.tail | apply Take.right)); done)); first | rfl | assumption)))); done))) | (apply Cv.fn; (focus ((repeat (first | exact Cvs.nil | (apply Cvs.cons; first | exact Cv.refl | exact Cv.le Le.nil | (apply Cv.own0; (focus ((repeat (first | exact Take.head | apply Take.tail | apply Take.right)); done)); exact (by first | omega | assumption | (simp; done) | (simp; omega) | exact Nat.le_of_ble_eq_true rfl)) | (apply Cv.own_pre; (focus ((repeat (first | exact Take.head | apply Take.tail | apply Take.right)); done)); exact (by first | omega | assumption | (simp; done) | (simp; omega) | exact Nat.le_of_ble_eq_true rfl)) | (apply Cv.ptr0; (focus ((repeat (first | exact Take.head | apply Take.tail | apply Take.right)); done)); first | rfl | assumption)))); done)))))); done)))))); done)); constructor) | (apply ev_assign; rfl) | (apply ev_pick_t; rfl; rfl) | (apply ev_extract; rfl; rfl)); rfl) | (apply ar_take; rfl; rfl; rfl; (apply ev_move (y := .val (.bool true)); rfl); rfl) | (apply ar_take; rfl; rfl; rfl; (apply ev_move (y := .val (.bool false)); rfl); rfl) | (apply ar_take; rfl; rfl; rfl; (apply ev_eqb; rfl; rfl); rfl) | apply aw_seq | apply a_region | apply aw_ret | apply go_seq)
      exact g_ret1 (r_tmp rfl) .nil rfl
end Go.Proofs.YtfebfgmbaenhlaaDoor
