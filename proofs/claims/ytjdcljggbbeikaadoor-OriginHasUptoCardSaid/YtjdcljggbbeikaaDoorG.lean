import Derived.Test.YtjdcljggbbeikaaDoorF
set_option linter.unusedVariables false
set_option linter.unusedSimpArgs false
set_option maxRecDepth 100000
namespace Go.Proofs.YtjdcljggbbeikaaDoor
open Go.Proofs Go.Proofs.YtjdcljggbbeikaaDoorA

def parseOf (cu : List UInt8 × List UInt8 × Bool) : Org × Int :=
  if cu.2.2 = true ∧ rightB (speltO (BA (cu.1.map lowB)) (BA cu.2.1)) = true then (speltO (BA (cu.1.map lowB)) (BA cu.2.1), 0) else (org0, 150)
def parseN (text : ByteArray) : Org × Int := parseOf (cut3 (bl text))
set_option maxHeartbeats 4000000 in
theorem Parse_ok {B : Base} (hB : LibF B) (text : ByteArray) (hn : text.size ≤ 1048576) : PFnB B Tryd.prog 9 [vs text] (.tup [.agg (encG (parseN text).1), vi (parseN text).2]) := by
  refine fnB_of Tryd.func9 rfl Tryd.ntmps9 Tryd.results9 rfl fun G hG => ?_
  refine aw_fact hG fun lb => ?_
  have hcut := cut_ok hB text (BA [58, 47, 47]) hn
  rw [bl_BA] at hcut
  have hcut' : PFnB B Tryd.prog 22 [vs text, vs (BA [58, 47, 47])] (.tup [vs (BA (cut3 (bl text)).1), vs (BA (cut3 (bl text)).2.1), vb (cut3 (bl text)).2.2]) := hcut
  clear hcut
  have hlen := cut3_len (bl text)
  rw [bl_length] at hlen
  unfold parseN
  generalize cut3 (bl text) = cu at *
  obtain ⟨a, b, f⟩ := cu
  dsimp only at *
  cases f
  · have hp : parseOf (a, b, false) = (org0, 150) := if_neg (by simp)
    rw [hp]
    repeat' (first | apply ar_nil | (apply ar_ev; (apply ev_move (y := .val (.bool false)); rfl); rfl) | (apply ar_ev; (apply ev_move; rfl); rfl) | (apply ar_ev; (first | (apply ev_callF hcut' (by repeat (first | exact Take.head | apply Take.tail | apply Take.right)); rfl; rfl; exact Les.refl) | (apply ev_assign; rfl) | (apply ev_not; rfl) | (apply ev_extract; rfl; rfl) | (apply ev_build; rfl; rfl; rfl)); rfl) | (apply ar_new; (first | apply eff_alloc | (apply eff_box; rfl; exact lies_of rfl) | (apply eff_conv_bytes; rfl; exact (by first | omega | assumption | (simp; done) | (simp; omega) | exact Nat.le_of_ble_eq_true rfl))); exact .nil; rfl; intro lab) | (apply ar_store; rfl; (focus ((repeat (first | exact Take.head | apply Take.tail | apply Take.right)); done)); rfl; rfl; exact (by first | rfl | assumption | exact get_map (by assumption)); rfl; rfl) | apply aw_seq | apply a_region | apply aw_ret | (apply aw_cond_t; rfl) | apply go_seq | apply go_seq_ret)
    apply g_ret2; (apply r_cell; rfl; exact (by repeat (first | exact Take.head | apply Take.tail | apply Take.right)); rfl; rfl); exact r_tmp rfl; exact .nil; exact ⟨rfl, rfl⟩
  · have hlow := lower_ok (BA a) (by rw [BA_size]; omega)
    unfold low at hlow
    rw [bl_BA] at hlow
    have hsp := spelt_ok hB (BA (a.map lowB)) (BA b) (by rw [BA_size]; omega)
    unfold parseOf
    dsimp only
    generalize speltO (BA (a.map lowB)) (BA b) = o at *
    cases hr : rightB o with
    | true =>
      rw [hr] at hsp
      rw [if_pos ⟨rfl, rfl⟩]
      repeat' (first | apply ar_nil | (apply ar_ev; (apply ev_move (y := .val (.bool true)); rfl); rfl) | (apply ar_ev; (apply ev_move; rfl); rfl) | (apply ar_ev; (first | (apply ev_callF hcut' (by repeat (first | exact Take.head | apply Take.tail | apply Take.right)); rfl; rfl; exact Les.refl) | (apply ev_callF hsp (by repeat (first | exact Take.head | apply Take.tail | apply Take.right)); rfl; rfl; exact Les.refl) | exact ev_call rfl rfl hlow | (apply ev_assign; rfl) | (apply ev_load_ptr_agg; rfl; (focus ((repeat (first | exact Take.head | apply Take.tail | apply Take.right)); done)); exact (by first | rfl | assumption | exact get_map (by assumption)); exact Nat.le_of_ble_eq_true rfl) | (apply ev_not; rfl) | (apply ev_extract; rfl; rfl)); rfl) | (apply ar_new; (first | apply eff_alloc | (apply eff_box; rfl; exact lies_of rfl) | (apply eff_conv_bytes; rfl; exact (by first | omega | assumption | (simp; done) | (simp; omega) | exact Nat.le_of_ble_eq_true rfl))); exact .nil; rfl; intro lab) | (apply ar_store; rfl; (focus ((repeat (first | exact Take.head | apply Take.tail | apply Take.right)); done)); rfl; rfl; exact (by first | rfl | assumption | exact get_map (by assumption)); rfl; rfl) | apply aw_seq | apply a_region | apply aw_skip | apply aw_ret | (apply aw_cond_f; rfl) | apply go_seq)
      apply g_ret2; (apply r_cell; rfl; exact (by repeat (first | exact Take.head | apply Take.tail | apply Take.right)); rfl; rfl); exact r_tmp rfl; exact .nil; exact ⟨rfl, rfl⟩
    | false =>
      rw [hr] at hsp
      rw [if_neg (by simp)]
      repeat' (first | apply ar_nil | (apply ar_ev; (apply ev_move (y := .val (.bool true)); rfl); rfl) | (apply ar_ev; (apply ev_move (y := .val (.bool false)); rfl); rfl) | (apply ar_ev; (apply ev_move; rfl); rfl) | (apply ar_ev; (first | (apply ev_callF hcut' (by repeat (first | exact Take.head | apply Take.tail | apply Take.right)); rfl; rfl; exact Les.refl) | (apply ev_callF hsp (by repeat (first | exact Take.head | apply Take.tail | apply Take.right)); rfl; rfl; exact Les.refl) | exact ev_call rfl rfl hlow | (apply ev_assign; rfl) | (apply ev_not; rfl) | (apply ev_extract; rfl; rfl) | (apply ev_build; rfl; rfl; rfl)); rfl) | (apply ar_new; (first | apply eff_alloc | (apply eff_box; rfl; exact lies_of rfl) | (apply eff_conv_bytes; rfl; exact (by first | omega | assumption | (simp; done) | (simp; omega) | exact Nat.le_of_ble_eq_true rfl))); exact .nil; rfl; intro lab) | (apply ar_store; rfl; (focus ((repeat (first | exact Take.head | apply Take.tail | apply Take.right)); done)); rfl; rfl; exact (by first | rfl | assumption | exact get_map (by assumption)); rfl; rfl) | apply aw_seq | apply a_region | apply aw_skip | apply aw_ret | (apply aw_cond_t; rfl) | (apply aw_cond_f; rfl) | apply go_seq | apply go_seq_ret)
      apply g_ret2; (apply r_cell; rfl; exact (by repeat (first | exact Take.head | apply Take.tail | apply Take.right)); rfl; rfl); exact r_tmp rfl; exact .nil; exact ⟨rfl, rfl⟩
theorem usual_long (s : ByteArray) (h : 5 < s.size) : usualN s = 0 := by
  unfold usualN
  rw [if_neg (fun e => by rw [e] at h; revert h; decide), if_neg (fun e => by rw [e] at h; revert h; decide)]
theorem occ_take {l : List UInt8} {i : Nat} (h : i + 3 ≤ l.length) : Lib.occAt l [58, 47, 47] i = decide ((l.drop i).take 3 = [58, 47, 47]) := by
  unfold Lib.occAt
  obtain ⟨x, y, z, r, hr⟩ : ∃ x y z r, l.drop i = x :: y :: z :: r := by
    have hl : (l.drop i).length = l.length - i := List.length_drop
    match hd : l.drop i with
    | [] => rw [hd] at hl; simp at hl; omega
    | [_] => rw [hd] at hl; simp at hl; omega
    | [_, _] => rw [hd] at hl; simp at hl; omega
    | x :: y :: z :: r => exact ⟨x, y, z, r, rfl⟩
  rw [hr]
  simp only [List.isPrefixOf, List.take_succ_cons, List.take_zero, Bool.and_true]
  rw [Bool.eq_iff_iff]
  simp only [Bool.and_eq_true, beq_iff_eq, decide_eq_true_eq, List.cons.injEq, and_true]
  constructor
  · rintro ⟨h1, h2, h3⟩; exact ⟨h1.symm, h2.symm, h3.symm⟩
  · rintro ⟨h1, h2, h3⟩; exact ⟨h1.symm, h2.symm, h3.symm⟩
theorem occ_short {l : List UInt8} {i : Nat} (h : l.length < i + 3) : Lib.occAt l [58, 47, 47] i = false := by
  unfold Lib.occAt
  cases hp : List.isPrefixOf [58, 47, 47] (l.drop i) with
  | false => rfl
  | true =>
    have := (List.isPrefixOf_iff_prefix.1 hp).length_le
    simp at this; omega
/-- Where the first one stands. -/
theorem cut3_spec (l : List UInt8) : (cut3 l = (l, [], false) ∧ ∀ j, Lib.occAt l [58, 47, 47] j = false) ∨ ∃ k, k + 3 ≤ l.length ∧ Lib.occAt l [58, 47, 47] k = true ∧ (∀ j, j < k → Lib.occAt l [58, 47, 47] j = false) ∧ cut3 l = (l.take k, l.drop (k + 3), true) := by
  unfold cut3 Lib.cut
  rcases Lib.index_spec l [58, 47, 47] with ⟨h1, h2⟩ | ⟨k, h1, h2, h3, h4⟩
  · left
    rw [h1]
    refine ⟨rfl, fun j => ?_⟩
    rcases Nat.lt_or_ge l.length (j + 3) with h | h
    · exact occ_short h
    · exact h2 j (by omega)
  · right
    have hk : k + 3 ≤ l.length := by
      rcases Nat.lt_or_ge l.length (k + 3) with h | h
      · rw [occ_short h] at h3; cases h3
      · exact h
    refine ⟨k, hk, h3, h4, ?_⟩
    rw [h1, if_pos (by omega)]
    simp
set_option maxHeartbeats 8000000 in
theorem rParse_ok (text : ByteArray) (hn : text.size ≤ 1048576) : PFn Tryd.prog 10 [vs text] (.tup [.agg (encG (parseN text).1), vi (parseN text).2]) := by
  refine fn_of Tryd.func10 rfl Tryd.ntmps10 Tryd.results10 rfl fun G => ?_
  have hl := bl_length text
  repeat' ((fail_if_success (show AW _ (.block 0 _) _ _)); (first | apply ar_nil | (apply ar_ev; (apply ev_assign; rfl); rfl) | (apply ar_new; (first | apply eff_alloc | (apply eff_box; rfl; exact lies_of rfl) | (apply eff_conv_bytes; rfl; exact (by first | omega | assumption | (simp; done) | (simp; omega) | exact Nat.le_of_ble_eq_true rfl))); exact .nil; rfl; intro lab) | apply aw_seq | apply a_region | apply go_seq))
  generalize lab = l2 at *
  have key : ∀ i : Nat, (∀ j, j < i → Lib.occAt (bl text) [58, 47, 47] j = false) → (text.size < i + 3 ∨ 6 ≤ i) → parseN text = (org0, 150) := fun i hno hi => by
    unfold parseN
    rcases cut3_spec (bl text) with ⟨h, _⟩ | ⟨k, h1, h2, h3, h⟩
    · rw [h]; exact if_neg (by simp)
    · rw [h]
      refine if_neg ?_
      rintro ⟨-, hr⟩
      have hik : i ≤ k := by
        rcases Nat.lt_or_ge k i with hk | hk
        · rw [hno k hk] at h2; cases h2
        · exact hk
      have h6 : 6 ≤ k := by omega
      unfold rightB at hr
      simp only [Bool.and_eq_true, decide_eq_true_eq] at hr
      have hu := usual_long (speltO (BA (((bl text).take k).map lowB)) (BA ((bl text).drop (k + 3)))).sch (by
        show 5 < (BA (((bl text).take k).map lowB)).size
        rw [BA_size, List.length_map, List.length_take]; omega)
      have := hr.1.1
      omega
  refine aw_block ?_
  refine a_loop (fun i : Nat => ⟨[(0, vs text), (2, .ptr l2 0 0), (4, vi i)], [(l2, .row 23 3 [encG org0])]⟩) (fun i => i ≤ 6 ∧ ∀ j, j < i → Lib.occAt (bl text) [58, 47, 47] j = false) (fun i => 6 - i) 0 (Sub.of (by repeat (first | exact .nil | refine .cons rfl Le.refl ?_)) (by repeat (first | exact Takes.nil | (apply Takes.cons; focus (repeat (first | exact Take.head | apply Take.tail | apply Take.right)))))) ⟨by omega, fun j hj => absurd hj (Nat.not_lt_zero _)⟩ ?_
  rintro i ⟨hi6, hno⟩
  by_cases hc : text.size < i + 3 ∨ 6 ≤ i
  · rw [key i hno hc]
    repeat' (first | apply ar_nil | (apply ar_splitp; (apply ev_move; rfl); rfl; all_goals (intro hc; try (exfalso; first | omega | contradiction | (simp at hc; omega) | (simp_all; done)))) | (apply ar_ev; (apply ev_move; rfl); rfl) | (apply ar_ev; (first | (apply ev_assign; rfl) | (apply ev_pick_t; rfl; rfl) | (apply ev_pick_f; rfl; rfl) | (apply ev_leq; rfl; rfl) | (apply ev_add; rfl; rfl; exact (by first | omega | assumption); exact (by first | omega | assumption)) | (apply ev_len_str; rfl) | (apply ev_build; rfl; rfl; rfl)); rfl) | (apply ar_store; rfl; (focus ((repeat (first | exact Take.head | apply Take.tail | apply Take.right)); done)); rfl; rfl; exact (by first | rfl | assumption | exact get_map (by assumption)); rfl; rfl) | (apply ar_skip; rfl; rfl; rfl; rfl; rfl) | (apply ar_take; rfl; rfl; rfl; (apply ev_move; rfl); rfl) | (apply ar_take; rfl; rfl; rfl; (apply ev_lss; rfl; rfl); rfl) | apply aw_seq | apply a_region | apply aw_exit | apply aw_ret | (apply aw_condp; rfl; all_goals (intro hc; try (exfalso; first | omega | contradiction | (simp at hc; omega) | (simp_all; done)))) | (apply aw_cond_f; rfl) | apply go_seq | apply go_seq_exit | apply go_block_exit | apply go_loop_exit)
    all_goals (apply g_ret2; (apply r_cell; rfl; exact (by repeat (first | exact Take.head | apply Take.tail | apply Take.right)); rfl; rfl); exact r_tmp rfl; exact .nil; rfl)
  · have hi1 : i + 3 ≤ text.size := by omega
    have hi2 : i < 6 := by omega
    have hocc := occ_take (l := bl text) (i := i) (by omega)
    have x0 : text.extract i (i + 3) = BA (((bl text).drop i).take 3) := by
      rw [← BA_bl text, BA_extract]; simp
    have x1 : text.extract 0 i = BA ((bl text).take i) := by rw [← BA_bl text, BA_extract]; simp
    have x2 : text.extract (i + 3) text.size = BA ((bl text).drop (i + 3)) := by
      rw [← BA_bl text, BA_extract, List.take_of_length_le (by simp; omega)]; simp
    by_cases h3 : ((bl text).drop i).take 3 = [58, 47, 47]
    · rw [h3, decide_eq_true rfl] at hocc
      have hcu : cut3 (bl text) = ((bl text).take i, (bl text).drop (i + 3), true) := by
        rcases cut3_spec (bl text) with ⟨_, h⟩ | ⟨k, h1, h2, h4, h⟩
        · rw [h i] at hocc; cases hocc
        · have : k = i := by
            rcases Nat.lt_trichotomy k i with hk | hk | hk
            · rw [hno k hk] at h2; cases h2
            · exact hk
            · rw [h4 i hk] at hocc; cases hocc
          subst this; exact h
      rw [h3] at x0
      have hsm := small_ok (BA ((bl text).take i)) (by rw [BA_size, List.length_take]; omega)
      rw [bl_BA] at hsm
      have hsp := rSpelt_ok (BA (((bl text).take i).map lowB)) (BA ((bl text).drop (i + 3))) (by rw [BA_size, List.length_drop]; omega)
      unfold parseN
      rw [hcu]
      unfold parseOf
      unfold rSpeltN at hsp
      dsimp only
      clear key hocc hcu hno
      generalize speltO (BA (((bl text).take i).map lowB)) (BA ((bl text).drop (i + 3))) = o at *
      repeat' ((fail_if_success (show AW _ (.region 5 _ _) _ _)); (first | (rw [x0]) | apply ar_nil | (apply ar_splitp; (apply ev_move; rfl); rfl; all_goals (intro hc; try (exfalso; first | omega | contradiction | (simp at hc; omega) | (simp_all; done)))) | (apply ar_ev; (apply ev_move; rfl); rfl) | (apply ar_ev; (first | (apply ev_pick_t; rfl; rfl) | (apply ev_leq; rfl; rfl) | (apply ev_add; rfl; rfl; exact (by first | omega | assumption); exact (by first | omega | assumption)) | (apply ev_eqsp; rfl; rfl) | (apply ev_len_str; rfl) | (apply ev_slice_str; rfl; exact (by first | exact LoB.none | exact LoB.some (l := 0) rfl | exact LoB.some (l := 1) rfl | exact LoB.some rfl); exact (by first | exact HiB.none | exact HiB.some rfl); exact (by first | omega | assumption); exact (by first | omega | assumption))); rfl) | (apply ar_take; rfl; rfl; rfl; (apply ev_move; rfl); rfl) | (apply ar_take; rfl; rfl; rfl; (apply ev_lss; rfl; rfl); rfl) | apply aw_seq | apply a_region | apply aw_block | apply aw_skip | (apply aw_condp; rfl; all_goals (intro hc; try (exfalso; first | omega | contradiction | (simp at hc; omega) | (simp_all; done)))) | apply go_seq))
      refine a_mix [true, true, true, true, true, true, true, true, true, true, true, true, false, false, true] [0, 1, 2, 3, 4, 5, 6, 7, 8, 9, 10, 11, 12, 13, 14] (by kernel_rfl) (by repeat (first | exact Als.nil | (apply Als.al; rfl) | (apply Als.other; rfl))) Takes.nil ?_
      cases hr : rightB o with
      | true =>
        rw [hr, if_pos rfl] at hsp
        rw [if_pos ⟨rfl, rfl⟩]
        repeat' (first | (rw [x1]) | (rw [x2]) | apply ar_nil | (apply ar_ev; (apply ev_move (y := .val (.bool true)); rfl); rfl) | (apply ar_ev; (first | (apply ev_assign; rfl) | (apply ev_load_ptr_agg; rfl; (focus ((repeat (first | exact Take.head | apply Take.tail | apply Take.right)); done)); exact (by first | rfl | assumption | exact get_map (by assumption)); exact Nat.le_of_ble_eq_true rfl)); rfl) | (apply ar_store; rfl; (focus ((repeat (first | exact Take.head | apply Take.tail | apply Take.right)); done)); rfl; rfl; exact (by first | rfl | assumption | exact get_map (by assumption)); rfl; rfl) | apply aw_seq | apply a_region | apply aw_ret | (apply aw_cond_t; rfl) | apply go_seq | apply go_seq_ret | apply go_block_ret | apply go_loop_ret | apply tl_nil | (apply tl_ev; rfl; rfl; (apply ev_move; rfl); rfl) | (apply tl_ev; rfl; rfl; (first | exact ev_call rfl rfl hsm | exact ev_call rfl rfl hsp | (apply ev_assign; rfl) | (apply ev_add; rfl; rfl; exact (by first | omega | assumption); exact (by first | omega | assumption)) | (apply ev_extract; rfl; rfl) | (apply ev_slice_str; rfl; exact (by first | exact LoB.none | exact LoB.some (l := 0) rfl | exact LoB.some (l := 1) rfl | exact LoB.some rfl); exact (by first | exact HiB.none | exact HiB.some rfl); exact (by first | omega | assumption); exact (by first | omega | assumption))); rfl) | (apply tl_alloc; rfl; rfl; infer_instance; rfl; intro lab) | (apply tl_store; rfl; rfl; rfl; infer_instance; rfl; (focus ((repeat (first | exact Take.head | apply Take.tail | apply Take.right)); done)); rfl; rfl; exact (by first | rfl | assumption | exact get_map (by assumption)); rfl; rfl))
        apply g_ret2; (apply r_cell; rfl; exact (by repeat (first | exact Take.head | apply Take.tail | apply Take.right)); rfl; rfl); exact r_tmp rfl; exact .nil; rfl
      | false =>
        rw [hr, if_neg (by decide)] at hsp
        rw [if_neg (by simp)]
        repeat' (first | (rw [x1]) | (rw [x2]) | apply ar_nil | (apply ar_ev; (apply ev_move (y := .val (.bool false)); rfl); rfl) | (apply ar_ev; (first | (apply ev_assign; rfl) | (apply ev_build; rfl; rfl; rfl)); rfl) | (apply ar_store; rfl; (focus ((repeat (first | exact Take.head | apply Take.tail | apply Take.right)); done)); rfl; rfl; exact (by first | rfl | assumption | exact get_map (by assumption)); rfl; rfl) | apply aw_seq | apply a_region | apply aw_skip | apply aw_ret | (apply aw_cond_f; rfl) | apply go_seq | apply go_seq_ret | apply go_block_ret | apply go_loop_ret | apply tl_nil | (apply tl_ev; rfl; rfl; (apply ev_move; rfl); rfl) | (apply tl_ev; rfl; rfl; (first | exact ev_call rfl rfl hsm | exact ev_call rfl rfl hsp | (apply ev_assign; rfl) | (apply ev_add; rfl; rfl; exact (by first | omega | assumption); exact (by first | omega | assumption)) | (apply ev_extract; rfl; rfl) | (apply ev_slice_str; rfl; exact (by first | exact LoB.none | exact LoB.some (l := 0) rfl | exact LoB.some (l := 1) rfl | exact LoB.some rfl); exact (by first | exact HiB.none | exact HiB.some rfl); exact (by first | omega | assumption); exact (by first | omega | assumption))); rfl) | (apply tl_alloc; rfl; rfl; infer_instance; rfl; intro lab) | (apply tl_store; rfl; rfl; rfl; infer_instance; rfl; (focus ((repeat (first | exact Take.head | apply Take.tail | apply Take.right)); done)); rfl; rfl; exact (by first | rfl | assumption | exact get_map (by assumption)); rfl; rfl))
        apply g_ret2; (apply r_cell; rfl; exact (by repeat (first | exact Take.head | apply Take.tail | apply Take.right)); rfl; rfl); exact r_tmp rfl; exact .nil; rfl
    · have hx : ¬ BA (((bl text).drop i).take 3) = BA [58, 47, 47] := fun e => h3 (BA_inj.1 e)
      have hno2 : ∀ j, j < i + 1 → Lib.occAt (bl text) [58, 47, 47] j = false := fun j hj => by
        rcases Nat.lt_or_ge j i with h | h
        · exact hno j h
        · obtain rfl : j = i := by omega
          rw [hocc]; exact decide_eq_false h3
      clear key hno
      repeat' (first | (rw [x0]) | apply ar_nil | (apply ar_splitp; (apply ev_move; rfl); rfl; all_goals (intro hc; try (exfalso; first | omega | contradiction | (simp at hc; omega) | (simp_all; done)))) | (apply ar_ev; (apply ev_move; rfl); rfl) | (apply ar_ev; (first | (apply ev_assign; rfl) | (apply ev_pick_t; rfl; rfl) | (apply ev_leq; rfl; rfl) | (apply ev_inc; rfl; exact (by first | omega | assumption)) | (apply ev_add; rfl; rfl; exact (by first | omega | assumption); exact (by first | omega | assumption)) | (apply ev_eqsp; rfl; rfl) | (apply ev_len_str; rfl) | (apply ev_slice_str; rfl; exact (by first | exact LoB.none | exact LoB.some (l := 0) rfl | exact LoB.some (l := 1) rfl | exact LoB.some rfl); exact (by first | exact HiB.none | exact HiB.some rfl); exact (by first | omega | assumption); exact (by first | omega | assumption))); rfl) | (apply ar_take; rfl; rfl; rfl; (apply ev_move; rfl); rfl) | (apply ar_take; rfl; rfl; rfl; (apply ev_lss; rfl; rfl); rfl) | apply aw_seq | apply a_region | apply aw_block | apply aw_skip | (apply aw_condp; rfl; all_goals (intro hc; try (exfalso; first | omega | contradiction | (simp at hc; omega) | (simp_all; done)))) | apply go_seq | apply go_block)
      all_goals first | exact go_loop_back ⟨i + 1, ⟨by omega, hno2⟩, by omega, Sub.of (by repeat (first | exact .nil | refine .cons rfl Le.refl ?_)) (by repeat (first | exact Takes.nil | (apply Takes.cons; focus (repeat (first | exact Take.head | apply Take.tail | apply Take.right)))))⟩ | (exfalso; exact hx (by assumption))
end Go.Proofs.YtjdcljggbbeikaaDoor
