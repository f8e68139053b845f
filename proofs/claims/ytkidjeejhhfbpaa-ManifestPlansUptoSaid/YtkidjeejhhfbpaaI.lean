import Derived.Test.YtkidjeejhhfbpaaH
set_option linter.unusedVariables false
set_option linter.unusedSimpArgs false
set_option maxRecDepth 100000
namespace Go.Proofs.Ytkidjeejhhfbpaa
open Go.Proofs Go.Proofs.YtkidjeejhhfbpaaA

theorem PlanF_ok (rs : List Rl) (hr : ∀ r, r ∈ rs → OkR r) (t : Tg) (M : Int) : PFn Try.prog 15 [manV rs, .agg (encT t), vi M] (tsl (planN (nmOf rs) (mostN M) t)) :=
  pfn_cv (Plan_ok rs hr t M) (by rintro _ _ ⟨lb, rfl, rfl⟩; exact Cv.own0 .head (by simp))
theorem names_ok (rs : List Rl) (hn : rs.length ≤ 1099511627776) (t : Tg) : PFn Try.prog 20 [rsl rs, .agg (encT t)] (tsl (nmOf rs t)) := by
  refine fn_of Try.func20 rfl Try.ntmps20 Try.results20 rfl fun G => ?_
  repeat' ((fail_if_success (show AW _ (.region 1 _ _) _ _)); (first | apply ar_nil | (apply ar_ev; (apply ev_assign; rfl); rfl) | (apply ar_new; (first | apply eff_alloc | (apply eff_box; rfl; exact lies_of rfl) | (apply eff_conv_bytes; rfl; exact (by first | omega | assumption | (simp; done) | (simp; omega) | exact Nat.le_of_ble_eq_true rfl))); exact .nil; rfl; intro lab) | apply aw_seq | apply a_region | apply go_seq))
  refine aw_cv 3 (us := [(lab, .row 35 2 [encT t])]) rfl (.cons .head .nil) (Cv.ptr0 .head rfl) ?_
  repeat' (first | apply ar_nil | (apply ar_ev; (apply ev_assign; rfl); rfl) | apply a_region | apply aw_block | apply go_seq)
  refine a_loop (fun i : Nat => ⟨[(0, rsl rs), (3, .ip (encT t)), (5, vi i)], []⟩) (fun i => i ≤ rs.length ∧ nmOf rs t = nmOf (rs.drop i) t) (fun i => rs.length - i) 0 (Sub.of (by repeat (first | exact .nil | refine .cons rfl Le.refl ?_)) (by repeat (first | exact Takes.nil | (apply Takes.cons; focus (repeat (first | exact Take.head | apply Take.tail | apply Take.right)))))) ⟨Nat.zero_le _, rfl⟩ ?_
  rintro i ⟨hi, hx⟩
  repeat' (first | apply ar_nil | (apply ar_ev; (apply ev_move; rfl); rfl) | (apply ar_ev; (first | (apply ev_lss; rfl; rfl) | (apply ev_len_sl; rfl)); rfl) | apply aw_seq | apply a_region | apply go_seq)
  refine aw_condp rfl (fun hk => ?_) (fun hk => ?_)
  · obtain ⟨r, hre⟩ : ∃ r, rs[i]? = some r := ⟨_, List.getElem?_eq_getElem (by omega)⟩
    have hr2 := rsl_get hre
    rw [drop_cons hre, nmOf] at hx
    repeat' (first | apply ar_nil | (apply ar_ev; (apply ev_move; rfl); rfl) | (apply ar_ev; (first | exact ev_eqT rfl rfl | (apply ev_load_ip_one; rfl; rfl) | (apply ev_fieldAddr_ip; rfl) | (apply ev_assign; rfl) | (apply ev_load_ip_agg; rfl; exact Nat.le_of_ble_eq_true rfl) | (apply ev_inc; rfl; exact (by first | omega | assumption)) | (apply ev_indexAddr_sl; rfl; rfl; exact (by first | omega | assumption); exact (by first | rfl | assumption | exact get_map (by assumption)))); rfl) | apply aw_seq | apply a_region | apply aw_block | apply aw_skip | apply aw_ret | (apply aw_condp; rfl; all_goals (intro hc; try (exfalso; first | omega | contradiction | (simp at hc; omega) | (simp_all; done)))) | apply go_seq | apply go_seq_ret | apply go_block | apply go_block_ret | apply go_loop_ret | (first | (apply a_drawN 2; rfl; rfl) | (apply a_drawN 3; rfl; rfl) | (apply a_drawN 4; rfl; rfl) | (apply a_drawN 5; rfl; rfl) | (apply a_drawN 6; rfl; rfl) | (apply a_drawN 7; rfl; rfl) | (apply a_drawN 8; rfl; rfl) | (apply a_drawN 9; rfl; rfl) | (apply a_drawN 10; rfl; rfl) | (apply a_drawN 11; rfl; rfl) | (apply a_drawN 12; rfl; rfl) | (apply a_drawN 13; rfl; rfl) | (apply a_drawN 14; rfl; rfl) | (apply a_drawN 15; rfl; rfl) | (apply a_drawN 16; rfl; rfl) | (apply a_drawN 17; rfl; rfl) | (apply a_drawN 18; rfl; rfl) | (apply a_drawN 19; rfl; rfl) | (apply a_drawN 20; rfl; rfl) | (apply a_drawN 21; rfl; rfl) | (apply a_drawN 22; rfl; rfl) | (apply a_drawN 23; rfl; rfl) | (apply a_drawN 24; rfl; rfl) | (apply a_drawN 25; rfl; rfl) | (apply a_drawN 26; rfl; rfl) | (apply a_drawN 27; rfl; rfl) | (apply a_drawN 28; rfl; rfl) | (apply a_drawN 29; rfl; rfl) | (apply a_drawN 30; rfl; rfl) | (apply a_drawN 31; rfl; rfl) | (apply a_drawN 32; rfl; rfl) | (apply a_drawN 33; rfl; rfl) | (apply a_drawN 34; rfl; rfl) | (apply a_drawN 35; rfl; rfl) | (apply a_drawN 36; rfl; rfl) | (apply a_drawN 37; rfl; rfl) | (apply a_drawN 38; rfl; rfl) | (apply a_drawN 39; rfl; rfl) | (apply a_drawN 40; rfl; rfl) | (apply a_drawN 41; rfl; rfl) | (apply a_drawN 42; rfl; rfl) | (apply a_drawN 43; rfl; rfl) | (apply a_drawN 44; rfl; rfl) | (apply a_drawN 45; rfl; rfl)))
    · rw [if_pos (teq.1 hc)] at hx
      exact g_ret1 (r_tmp rfl) .nil (by rw [hx])
    · rw [if_neg (fun h => hc (teq.2 h))] at hx
      exact go_loop_back ⟨i + 1, ⟨by omega, hx⟩, by omega, Sub.of (by repeat (first | exact .nil | refine .cons rfl Le.refl ?_)) (by repeat (first | exact Takes.nil | (apply Takes.cons; focus (repeat (first | exact Take.head | apply Take.tail | apply Take.right)))))⟩
  · obtain rfl : i = rs.length := by omega
    rw [List.drop_length] at hx
    repeat' (first | apply ar_nil | (apply ar_ev; (apply ev_assign; rfl); rfl) | apply aw_seq | apply a_region | apply aw_exit | apply aw_ret | apply go_seq | apply go_seq_exit | apply go_block_exit | apply go_loop_exit)
    exact g_ret1 (res_tmp rfl Le.nil) .nil (by rw [hx]; rfl)

abbrev tA : ByteArray := ⟨#[97]⟩
abbrev pT (c : UInt8) : Tg := (tA, ⟨#[47, c]⟩)
def rs0 : List Rl := [(pT 120, [pT 121, pT 122]), (pT 121, [pT 117]), (pT 117, [pT 120, pT 122])]
theorem err0 : errN rs0 = 0 := by kernel_rfl
theorem plan0 : planN (nmOf rs0) (mostN 8) (pT 120) = [pT 121, pT 117, pT 122] := by kernel_rfl
theorem plan1 : planN (nmOf rs0) (mostN 1) (pT 121) = [pT 117] := by kernel_rfl
theorem plan2 : planN (nmOf rs0) (mostN 8) (pT 122) = [] := by kernel_rfl
theorem okT0 (c : UInt8) : OkT (pT c) := ⟨by show 1 ≤ 1099511627776; omega, by show 2 ≤ 1099511627776; omega⟩
theorem okR0 : ∀ r, r ∈ rs0 → OkR r := fun r h => by
  simp only [rs0, List.mem_cons, List.not_mem_nil, or_false] at h
  rcases h with rfl | rfl | rfl
  all_goals
    refine ⟨okT0 _, by simp, fun t ht => ?_⟩
    simp only [List.mem_cons, List.not_mem_nil, or_false] at ht
    rcases ht with rfl | rfl
    all_goals exact okT0 _
set_option maxHeartbeats 4000000 in
theorem first_ok : PFn Try.prog 12 [] (vb true) := by
  refine fn_of Try.func12 rfl Try.ntmps12 Try.results12 rfl fun G => ?_
  have hOf := Of_ok rs0 (by simp [rs0]) okR0
  have e : ofV rs0 (manV rs0) = .tup [manV rs0, vi 0] := by unfold ofV; rw [err0]; rfl
  rw [e] at hOf
  have hp0 := PlanF_ok rs0 okR0 (pT 120) 8
  have hp1 := PlanF_ok rs0 okR0 (pT 121) 1
  have hp2 := PlanF_ok rs0 okR0 (pT 122) 8
  rw [plan0] at hp0
  rw [plan1] at hp1
  rw [plan2] at hp2
  have hs0 := same_ok [pT 121, pT 117, pT 122] [pT 121, pT 117, pT 122] (by simp)
  have hs1 := same_ok [pT 117] [pT 117] (by simp)
  rw [decide_eq_true rfl] at hs0 hs1
  clear e
  unfold manV at hOf hp0 hp1 hp2
  generalize encE (mapOf rs0) = E at *
  repeat' (first | apply ar_nil | (apply ar_ev; (apply ev_move (y := .val (.bool true)); rfl); rfl) | (apply ar_ev; (apply ev_move (y := .val (.bool false)); rfl); rfl) | (apply ar_ev; (apply ev_move; rfl); rfl) | (apply ar_ev; (first | exact ev_call rfl rfl (at_ok _) | exact ev_call rfl rfl hOf | exact ev_call rfl rfl hp0 | exact ev_call rfl rfl hp1 | exact ev_call rfl rfl hs0 | (apply ev_assign; rfl) | (apply ev_pick_t; rfl; rfl) | (apply ev_pick_f; rfl; rfl) | (apply ev_eqnil_p; rfl; rfl) | (apply ev_extract; rfl; rfl) | (apply ev_build; rfl; rfl; rfl) | (apply ev_buildSlice; rfl; rfl; rfl; rfl; rfl; rfl; rfl)); rfl) | (apply ar_take; rfl; rfl; rfl; (apply ev_move; rfl); rfl) | (apply ar_take; rfl; rfl; rfl; (first | exact ev_call rfl rfl (at_ok _) | exact ev_call rfl rfl hp2 | exact ev_call rfl rfl hs1 | (apply ev_eqip; rfl; rfl) | (apply ev_neip; rfl; rfl) | (apply ev_len_sl; rfl) | (apply ev_buildSlice; rfl; rfl; rfl; rfl; rfl; rfl; rfl)); rfl) | apply aw_seq | apply a_region | apply aw_skip | apply aw_ret | (apply aw_condp; rfl; all_goals (intro hc; try (exfalso; first | omega | contradiction | (simp at hc; omega) | (simp_all; done)))) | apply go_seq)
  exact g_ret1 (r_tmp rfl) .nil rfl

/-! Pages and rules that are made. -/
abbrev tHost : ByteArray := ⟨#[104, 111, 115, 116]⟩
def pgT (k : Nat) : Tg := (tHost, ⟨#[47, UInt8.ofNat (97 + k)]⟩)
def pgI (n : Int) : Tg := pgT (andI n 15).toNat
theorem and15 (n : Int) : 0 ≤ andI n 15 ∧ andI n 15 ≤ 15 := andI_range n 15 (by decide)
theorem pg_wrap (n : Int) : IntKind.u8.wrap (97 + IntKind.u8.wrap (andI n 15)) = ((UInt8.ofNat (97 + (andI n 15).toNat)).toNat : Int) := by
  have h := and15 n
  generalize andI n 15 = x at *
  simp only [IntKind.wrap, IntKind.signed, IntKind.bits]
  simp
  omega
theorem page_ok (n : Int) : PFn Try.prog 18 [vi n] (.agg (encT (pgI n))) := by
  refine fn_of Try.func18 rfl Try.ntmps18 Try.results18 rfl fun G => ?_
  have hw := pg_wrap n
  have hz1 : (⟨#[47]⟩ : ByteArray).size = 1 := rfl
  repeat' (first | (apply ar_new (d := 8); (apply eff_buildSlice; rfl; rfl; rfl; rfl; rfl; rfl; rfl); exact .nil; rfl; intro lab) | apply ar_nil | (apply ar_ev; (apply ev_move; rfl); rfl) | (apply ar_ev; (first | (apply ev_assign; rfl) | (apply ev_andI; rfl; rfl) | (apply ev_conv_int; rfl) | (apply ev_addw; rfl; rfl)); rfl) | (apply ar_new; (first | apply eff_alloc | (apply eff_box; rfl; exact lies_of rfl) | (apply eff_conv_bytes; rfl; exact (by first | omega | assumption | (simp; done) | (simp; omega) | exact Nat.le_of_ble_eq_true rfl))); exact .nil; rfl; intro lab) | apply aw_seq | apply a_region | apply go_seq)
  rw [hw]
  repeat' (first | apply ar_nil | (apply ar_ev; (first | exact ev_conv_own (bs := [UInt8.ofNat (97 + (andI n 15).toNat)]) rfl Take.head | (apply ev_cat; rfl; rfl; exact (by show 1 + 1 ≤ 9223372036854775807; omega)) | (apply ev_build; rfl; rfl; rfl)); rfl) | (apply ar_store; rfl; (focus ((repeat (first | exact Take.head | apply Take.tail | apply Take.right)); done)); rfl; rfl; exact (by first | rfl | assumption | exact get_map (by assumption)); rfl; rfl) | apply aw_ret | apply go_seq)
  exact g_ret1 (r_cell rfl (by repeat (first | exact Take.head | apply Take.tail | apply Take.right)) rfl rfl) .nil rfl

abbrev Ed : Type := Int × Int
abbrev encD (e : Ed) : List AV := [vi e.1, vi e.2]
abbrev dsl (l : List Ed) : AV := .sl 2 (l.map encD) l.length
theorem dsl_get {l : List Ed} {i : Nat} {t : Ed} (h : l[i]? = some t) : (l.map encD)[i]? = some (encD t) := by simp [h]
def pstep (i : Nat) (acc : List Tg) (e : Ed) : List Tg := if andI e.1 15 = i ∧ pgI e.2 ∉ acc ∧ acc.length < 8 then acc ++ [pgI e.2] else acc
def pushN (l : List Ed) (i : Nat) : List Tg := l.foldl (pstep i) []
def madeTo (l : List Ed) (k : Nat) : List Rl := ((List.range k).filter fun i => decide (pushN l i ≠ [])).map fun i => (pgT i, pushN l i)
def madeN (l : List Ed) : List Rl := madeTo l 16
theorem madeTo_succ (l : List Ed) (k : Nat) : madeTo l (k + 1) = if pushN l k ≠ [] then madeTo l k ++ [(pgT k, pushN l k)] else madeTo l k := by
  unfold madeTo
  rw [List.range_succ, List.filter_append, List.map_append]
  by_cases h : pushN l k = []
  · rw [if_neg (by simpa using h)]; simp [h]
  · rw [if_pos h]; simp [h]
theorem madeTo_len (l : List Ed) (k : Nat) : (madeTo l k).length ≤ k := by
  unfold madeTo
  rw [List.length_map]
  exact Nat.le_trans (List.length_filter_le _ _) (by simp)
theorem foldl_take {α β : Type} (f : β → α → β) (b : β) {l : List α} {i : Nat} {a : α} (h : l[i]? = some a) : (l.take (i + 1)).foldl f b = f ((l.take i).foldl f b) a := by
  rw [List.take_add_one, h, List.foldl_append]; rfl
theorem and15_page {k : Nat} (hk : k < 16) : andI (k : Int) 15 = k := by
  have : ∀ k : Fin 16, andI ((k.val : Nat) : Int) 15 = k.val := by decide +kernel
  exact this ⟨k, hk⟩
set_option maxHeartbeats 8000000 in
theorem made_ok (es : List Ed) (hn : es.length ≤ 1099511627776) : PFn Try.prog 17 [dsl es] (rsl (madeN es)) := by
  refine pfn_cv (Post := fun ts r => Cv ts r (rsl (madeN es))) ?_ (fun _ _ h => h)
  refine fn_of Try.func17 rfl Try.ntmps17 Try.results17 rfl fun G => ?_
  repeat' ((fail_if_success (show AW _ (.region 2 _ _) _ _)); (first | apply ar_nil | (apply ar_ev; (apply ev_assign; rfl); rfl) | apply aw_seq | apply a_region | apply go_seq))
  refine aw_adopt 3 37 3 rfl fun lr => ?_
  have h0 : ([] : List (List AV)) = (madeTo es 0).map encR := rfl
  have h1 : ([] : List (List AV)) = ([] : List Tg).map encT := rfl
  repeat' (first | apply ar_nil | (apply ar_ev; (apply ev_assign; rfl); rfl) | apply a_region | apply aw_block | apply go_seq)
  refine a_loop (fun g : Nat × Nat => ⟨[(0, dsl es), (3, .own g.2 0 (madeTo es g.1).length), (4, vi g.1)], [(g.2, .row 37 3 ((madeTo es g.1).map encR))]⟩) (fun g => g.1 ≤ 16) (fun g => 16 - g.1) (0, lr) (Sub.of (by repeat (first | exact .nil | refine .cons rfl Le.refl ?_)) (by repeat (first | exact Takes.nil | (apply Takes.cons; focus (repeat (first | exact Take.head | exact Take.rowc h0 Take.head | apply Take.tail | apply Take.right)))))) (Nat.zero_le _) ?_
  rintro ⟨i, l⟩ hi
  dsimp only at *
  have hml := madeTo_len es i
  repeat' (first | apply ar_nil | (apply ar_ev; (apply ev_move; rfl); rfl) | (apply ar_ev; (apply ev_lss; rfl; rfl); rfl) | apply aw_seq | apply a_region | apply go_seq)
  refine aw_condp rfl (fun hk => ?_) (fun hk => ?_)
  · repeat' ((fail_if_success (show AW _ (.region 6 _ _) _ _)); (first | apply ar_nil | (apply ar_ev; (apply ev_assign; rfl); rfl) | apply aw_seq | apply a_region | apply aw_block | apply aw_skip | apply go_seq))
    refine aw_adopt 5 35 2 rfl fun lp => ?_
    repeat' (first | apply ar_nil | (apply ar_ev; (apply ev_assign; rfl); rfl) | apply a_region | apply aw_block | apply go_seq)
    refine a_loop (fun g : Nat × Nat × List Tg => ⟨[(0, dsl es), (3, .own l 0 (madeTo es i).length), (4, vi i), (5, .own g.2.1 0 g.2.2.length), (6, vi g.1)], [(l, .row 37 3 ((madeTo es i).map encR)), (g.2.1, .row 35 2 (g.2.2.map encT))]⟩)
      (fun g => g.1 ≤ es.length ∧ g.2.2 = (es.take g.1).foldl (pstep i) [] ∧ g.2.2.length ≤ 8) (fun g => es.length - g.1) (0, lp, []) (Sub.of (by repeat (first | exact .nil | refine .cons rfl Le.refl ?_)) (by repeat (first | exact Takes.nil | (apply Takes.cons; focus (repeat (first | exact Take.head | exact Take.rowc h1 Take.head | apply Take.tail | apply Take.right)))))) ⟨Nat.zero_le _, rfl, by simp⟩ ?_
    rintro ⟨j, l2, acc⟩ ⟨hj, ha, hal⟩
    dsimp only at *
    repeat' (first | apply ar_nil | (apply ar_ev; (apply ev_move; rfl); rfl) | (apply ar_ev; (first | (apply ev_lss; rfl; rfl) | (apply ev_len_sl; rfl)); rfl) | apply aw_seq | apply a_region | apply go_seq)
    refine aw_condp rfl (fun hk2 => ?_) (fun hk2 => ?_)
    · obtain ⟨e, hee⟩ : ∃ e, es[j]? = some e := ⟨_, List.getElem?_eq_getElem (by omega)⟩
      have he2 := dsl_get hee
      have hst := foldl_take (pstep i) [] hee
      rw [← ha] at hst
      have hpg := page_ok e.2
      have hin := in_ok acc (pgI e.2) (by omega)
      have hrow1 : (acc.map encT).length = acc.length := List.length_map _
      repeat' (first | apply ar_nil | (apply ar_splitp; (apply ev_move; rfl); rfl; all_goals (intro hc; try (exfalso; first | omega | contradiction | (simp at hc; omega)))) | (apply ar_ev; (apply ev_move (y := .val (.bool false)); rfl); rfl) | (apply ar_ev; (apply ev_move; rfl); rfl) | (apply ar_ev; (first | exact ev_call rfl rfl hpg | (apply ev_load_ip_one; rfl; rfl) | (apply ev_fieldAddr_ip; rfl) | (apply ev_assign; rfl) | (apply ev_pick_t; rfl; rfl) | (apply ev_pick_f; rfl; rfl) | (apply ev_load_ptr_agg; rfl; (focus ((repeat (first | exact Take.head | apply Take.tail | apply Take.right)); done)); exact (by first | rfl | assumption | exact get_map (by assumption)); exact Nat.le_of_ble_eq_true rfl) | (apply ev_eqip; rfl; rfl) | (apply ev_inc; rfl; exact (by first | omega | assumption)) | (apply ev_andI; rfl; rfl) | (apply ev_indexAddr_sl; rfl; rfl; exact (by first | omega | assumption); exact (by first | rfl | assumption | exact get_map (by assumption))) | (apply ev_buildSlice; rfl; rfl; rfl; rfl; rfl; rfl; rfl)); rfl) | (apply ar_new; (first | apply eff_alloc | (apply eff_box; rfl; exact lies_of rfl) | (apply eff_conv_bytes; rfl; exact (by first | omega | assumption | (simp; done) | (simp; omega) | exact Nat.le_of_ble_eq_true rfl))); exact .nil; rfl; intro lab) | (apply ar_store; rfl; (focus ((repeat (first | exact Take.head | apply Take.tail | apply Take.right)); done)); rfl; rfl; exact (by first | rfl | assumption | exact get_map (by assumption)); rfl; rfl) | (apply ar_skip; rfl; rfl; rfl; rfl; rfl) | (apply ar_take; rfl; rfl; rfl; (apply ev_move; rfl); rfl) | (apply ar_take; rfl; rfl; rfl; (first | (apply ev_callL hin; rfl; rfl; (focus ((repeat (first | exact Cvs.nil | (apply Cvs.cons; first | exact Cv.refl | exact Cv.le Le.nil | (apply Cv.own0; (focus ((repeat (first | exact Take.head | apply Take.tail | apply Take.right)); done)); exact (by first | omega | assumption | (simp; done) | (simp; omega) | exact Nat.le_of_ble_eq_true rfl)) | (apply Cv.own_pre; (focus ((repeat (first | exact Take.head | apply Take.tail | apply Take.right)); done)); exact (by first | omega | assumption | (simp; done) | (simp; omega) | exact Nat.le_of_ble_eq_true rfl)) | (apply Cv.ptr0; (focus ((repeat (first | exact Take.head | apply Take.tail | apply Take.right)); done)); first | rfl | assumption) | (apply Cv.agg; (focus ((repeat (first | exact Cvs.nil | (apply Cvs.cons; first | exact Cv.refl | exact Cv.le Le.nil | (apply Cv.own0; (focus ((repeat (first | exact Take.head | apply Take.tail | apply Take.right)); done)); exact (by first | omega | assumption | (simp; done) | (simp; omega) | exact Nat.le_of_ble_eq_true rfl)) | (apply Cv.own_pre; (focus ((repeat (first | exact Take.head | apply Take.tail | apply Take.right)); done)); exact (by first | omega | assumption | (simp; done) | (simp; omega) | exact Nat.le_of_ble_eq_true rfl)) | (apply Cv.ptr0; (focus ((repeat (first | exact Take.head | apply Take.tail | apply Take.right)); done)); first | rfl | assumption) | (apply Cv.agg; (focus ((repeat (first | exact Cvs.nil | (apply Cvs.cons; first | exact Cv.refl | exact Cv.le Le.nil | (apply Cv.own0; (focus ((repeat (first | exact Take.head | apply Take.tail | apply Take.right)); done)); exact (by first | omega | assumption | (simp; done) | (simp; omega) | exact Nat.le_of_ble_eq_true rfl)) | (apply Cv.own_pre; (focus ((repeat (first | exact Take.head | apply Take.tail | apply Take.right)); done)); exact (by first | omega | assumption | (simp; done) | (simp; omega) | exact Nat.le_of_ble_eq_true rfl)) | (apply Cv.ptr0; (focus ((repeat (first | exact Take.head | apply Take.tail | apply Take.right)); done)); first | rfl | assumption)))); done))) | (apply Cv.fn; (focus ((repeat (first | exact Cvs.nil | (apply Cvs.cons; first | exact Cv.refl | exact Cv.le Le.nil | (apply Cv.own0; (focus ((repeat (first | exact Take.head | apply Take.tail | apply Take.right)); done)); exact (by first | omega | assumption | (simp; done) | (simp; omega) | exact Nat.le_of_ble_eq_true rfl)) | (apply Cv.own_pre; (focus ((repeat (first | exact Take.head | apply Take.tail | apply Take.right)); done)); exact (by first | omega | assumption | (simp; done) | (simp; omega) | exact Nat.le_of_ble_eq_true rfl)) | (apply Cv.ptr0; (focus ((repeat (first | exact Take.head | apply Take.tail | apply Take.right)); done)); first | rfl | assumption)))); done)))))); done))) | (apply Cv.fn; (focus ((repeat (first | exact Cvs.nil | (apply Cvs.cons; first | exact Cv.refl | exact Cv.le Le.nil | (apply Cv.own0; (focus ((repeat (first | exact Take.head | apply Take.tail | apply Take.right)); done)); exact (by first | omega | assumption | (simp; done) | (simp; omega) | exact Nat.le_of_ble_eq_true rfl)) | (apply Cv.own_pre; (focus ((repeat (first | exact Take.head | apply Take.tail | apply Take.right)); done)); exact (by first | omega | assumption | (simp; done) | (simp; omega) | exact Nat.le_of_ble_eq_true rfl)) | (apply Cv.ptr0; (focus ((repeat (first | exact Take.head | apply Take.tail | apply Take.right)); done)); first | rfl | assumption) | (apply Cv.agg; (focus ((repeat (first | exact Cvs.nil | (apply Cvs.cons; first | exact Cv.refl | exact Cv.le Le.nil | (apply Cv.own0; (focus ((repeat (first | exact Take.head | apply Take.tail | apply Take.right)); done)); exact (by first | omega | assumption | (simp; done) | (simp; omega) | exact Nat.le_of_ble_eq_true rfl)) | (apply Cv.own_pre; (focus ((repeat (first | exact Take.head | apply Take.tail | apply Take.right)); done)); exact (by first | omega | assumption | (simp; done) | (simp; omega) | exact Nat.le_of_ble_eq_true rfl)) | (apply Cv.ptr0; (focus ((repeat (first | exact Take.head | apply Take.tail | apply Take.right)); done)); first | rfl | assumption)))); done))) | (apply Cv.fn; (focus ((repeat (first | exact Cvs.nil | (apply Cvs.cons; first | exact Cv.refl | exact Cv.le Le.nil | (apply Cv.own0; (focus ((repeat (first | exact Take.head | apply Take.tail | apply Take.right)); done)); exact (by first | omega | assumption | (simp; done) | (simp; omega) | exact Nat.le_of_ble_eq_true rfl)) | (apply Cv.own_pre; (focus ((repeat (first | exact Take.head | apply Take.tail | apply Take.right)); done)); exact (by first | omega | assumption | (simp; done) | (simp; omega) | exact Nat.le_of_ble_eq_true rfl)) | (apply Cv.ptr0; (focus ((repeat (first | exact Take.head | apply Take.tail | apply Take.right)); done)); first | rfl | assumption)))); done)))))); done)))))); done)); constructor) | (apply ev_load_ptr_agg; rfl; (focus ((repeat (first | exact Take.head | apply Take.tail | apply Take.right)); done)); exact (by first | rfl | assumption | exact get_map (by assumption)); exact Nat.le_of_ble_eq_true rfl) | (apply ev_lss; rfl; rfl) | (apply ev_len_own; rfl) | (apply ev_notp; rfl)); rfl) | apply aw_seq | apply a_region | apply aw_block | apply aw_skip | (apply aw_condp; rfl; all_goals (intro hc; try (exfalso; first | omega | contradiction | (simp at hc; omega)))) | (apply aw_cond_f; rfl) | apply go_seq | apply go_block | (apply ar_append; rfl; (focus ((repeat (first | exact Take.head | apply Take.tail | apply Take.right)); done)); rfl; exact (by first | omega | assumption | (simp; done) | (simp; omega) | exact Nat.le_of_ble_eq_true rfl); exact (by first | omega | assumption | (simp; done) | (simp; omega) | exact Nat.le_of_ble_eq_true rfl); exact (by first | omega | assumption | (simp; done) | (simp; omega) | exact Nat.le_of_ble_eq_true rfl); rfl; intro lab))
      · have hrow : List.take acc.length (List.drop 0 (acc.map encT)) ++ List.take 1 [encT (pgI e.2)] = (acc ++ [pgI e.2]).map encT := by
          rw [take_one _ _ _ hrow1, List.map_append]; rfl
        refine go_loop_back ⟨(j + 1, _, acc ++ [pgI e.2]), ⟨by dsimp only; omega, ?_, by simp; omega⟩, by dsimp only; omega, by dsimp only; rw [List.length_append, List.length_singleton]; exact Sub.of (by repeat (first | exact .nil | refine .cons rfl Le.refl ?_)) (by repeat (first | exact Takes.nil | (apply Takes.cons; focus (repeat (first | exact Take.head | exact Take.rowc hrow Take.head | apply Take.tail | apply Take.right)))))⟩
        dsimp only
        rw [hst, pstep, if_pos ⟨‹andI e.1 15 = _›, ‹pgI e.2 ∉ acc›, by omega⟩]
      all_goals
        refine go_loop_back ⟨(j + 1, l2, acc), ⟨by dsimp only; omega, ?_, hal⟩, by dsimp only; omega, Sub.of (by repeat (first | exact .nil | refine .cons rfl Le.refl ?_)) (by repeat (first | exact Takes.nil | (apply Takes.cons; focus (repeat (first | exact Take.head | apply Take.tail | apply Take.right)))))⟩
        dsimp only
        rw [hst, pstep, if_neg (by rintro ⟨e1, e2, e3⟩; first | omega | contradiction)]
    · obtain rfl : j = es.length := by omega
      rw [List.take_length] at ha
      have ha : acc = pushN es i := ha
      subst ha
      clear hj hk2
      have hms := madeTo_succ es i
      have hpg := page_ok (i : Int)
      have hpe : pgI (i : Int) = pgT i := by unfold pgI; rw [and15_page (by omega)]; rfl
      rw [hpe] at hpg
      have hrow1 : ((madeTo es i).map encR).length = (madeTo es i).length := List.length_map _
      repeat' ((fail_if_success (show AW _ (.region 12 _ _) _ _)); (first | apply aw_seq | apply aw_exit | apply go_seq | apply go_seq_exit | apply go_block_exit | apply go_loop_exit))
      refine aw_cv 5 (us := [(l2, .row 35 2 ((pushN es i).map encT))]) (y := tsl (pushN es i)) rfl (by repeat (first | exact Takes.nil | (apply Takes.cons; focus (repeat (first | exact Take.head | apply Take.tail | apply Take.right))))) (Cv.own0 .head (by simp)) ?_
      repeat' (first | apply ar_nil | (apply ar_ev; (apply ev_move; rfl); rfl) | (apply ar_ev; (first | exact ev_call rfl rfl hpg | (apply ev_assign; rfl) | (apply ev_gtr; rfl; rfl) | (apply ev_inc; rfl; exact (by first | omega | assumption)) | (apply ev_len_sl; rfl) | (apply ev_build; rfl; rfl; rfl) | (apply ev_buildSlice; rfl; rfl; rfl; rfl; rfl; rfl; rfl)); rfl) | apply a_region | apply aw_skip | (apply aw_condp; rfl; all_goals (intro hc; try (exfalso; first | omega | contradiction | (simp at hc; omega)))) | apply go_seq | apply go_block | (apply ar_append; rfl; (focus ((repeat (first | exact Take.head | apply Take.tail | apply Take.right)); done)); rfl; exact (by first | omega | assumption | (simp; done) | (simp; omega) | exact Nat.le_of_ble_eq_true rfl); exact (by first | omega | assumption | (simp; done) | (simp; omega) | exact Nat.le_of_ble_eq_true rfl); exact (by first | omega | assumption | (simp; done) | (simp; omega) | exact Nat.le_of_ble_eq_true rfl); rfl; intro lab))
      · have hne : pushN es i ≠ [] := fun h => by rw [h] at hc; simp at hc
        rw [if_pos hne] at hms
        have hrow : List.take (madeTo es i).length (List.drop 0 ((madeTo es i).map encR)) ++ List.take 1 [encR (pgT i, pushN es i)] = (madeTo es (i + 1)).map encR := by
          rw [take_one _ _ _ hrow1, hms, List.map_append]; rfl
        have hlen : (madeTo es i).length + 1 = (madeTo es (i + 1)).length := by rw [hms, List.length_append]; rfl
        rw [hlen]
        exact go_loop_back ⟨(i + 1, _), by dsimp only; omega, by dsimp only; omega, Sub.of (by repeat (first | exact .nil | refine .cons rfl Le.refl ?_)) (by repeat (first | exact Takes.nil | (apply Takes.cons; focus (repeat (first | exact Take.head | exact Take.rowc hrow Take.head | apply Take.tail | apply Take.right)))))⟩
      · have hne : pushN es i = [] := List.length_eq_zero_iff.1 (by omega)
        rw [if_neg (fun h => h hne)] at hms
        rw [← hms]
        exact go_loop_back ⟨(i + 1, l), by dsimp only; omega, by dsimp only; omega, Sub.of (by repeat (first | exact .nil | refine .cons rfl Le.refl ?_)) (by repeat (first | exact Takes.nil | (apply Takes.cons; focus (repeat (first | exact Take.head | apply Take.tail | apply Take.right)))))⟩
  · obtain rfl : i = 16 := by omega
    repeat' (first | apply ar_nil | (apply ar_ev; (apply ev_move; rfl); rfl) | (apply ar_ev; (apply ev_assign; rfl); rfl) | apply aw_seq | apply a_region | apply aw_exit | apply aw_ret | apply go_seq | apply go_seq_exit | apply go_block_exit | apply go_loop_exit)
    exact g_ret1 (r_tmp rfl) (us := [(l, .row 37 3 ((madeTo es 16).map encR))]) (by repeat (first | exact Takes.nil | (apply Takes.cons; focus (repeat (first | exact Take.head | apply Take.tail | apply Take.right))))) (show Cv _ _ (rsl (madeTo es 16)) from Cv.own0 .head (by simp))
end Go.Proofs.Ytkidjeejhhfbpaa
