import Derived.Test.YtjdcljggbbeikaaDoorT
set_option linter.unusedVariables false
set_option linter.unusedSimpArgs false
set_option maxRecDepth 100000
namespace Go.Proofs.YtjdcljggbbeikaaDoor
open Go.Proofs Go.Proofs.YtjdcljggbbeikaaDoorA

theorem sep_app (s : ByteArray) (t : List UInt8) : s ++ (⟨#[58, 47, 47]⟩ : ByteArray) ++ BA t = BA (bl s ++ ([58, 47, 47] ++ t)) := by
  rw [← bl_inj]
  simp only [bl_append, bl_BA]
  simp [bl]
theorem parse_back {o : Org} (h : GoodO o) {u : List UInt8} (hu : u.map lowB = bl o.host) (b : Bool) (hb : b = true ∨ o.port = usualN o.sch) : parseN (o.sch ++ (⟨#[58, 47, 47]⟩ : ByteArray) ++ BA (authT u b o.port.toNat)) = (o, 0) := by
  rw [sep_app, parse_sch h.sch, spelt_back h hu b hb, if_pos h.right]
theorem auth_len {o : Org} (h : GoodO o) {u : List UInt8} (hu : u.length = (bl o.host).length) (b : Bool) : (authT u b o.port.toNat).length ≤ 300 := by
  have h1 := h.len
  have hp := h.port
  have h2 := (dec_spec (o.port.toNat + 1) o.port.toNat (Nat.lt_succ_self _)).2.2.2.2 5 (by omega) (by omega)
  unfold authT
  rw [List.length_append, hu]
  cases b
  · rw [if_neg Bool.false_ne_true]; simp; omega
  · rw [if_pos rfl]; simp; omega
theorem sch_size {s : ByteArray} (hs : s = sHttp ∨ s = sHttps) : s.size ≤ 5 := by rcases hs with rfl | rfl <;> decide
theorem spN_back {o : Org} (h : GoodO o) (mask : Int) (named : Bool) : parseN (o.sch ++ (⟨#[58, 47, 47]⟩ : ByteArray) ++ spN o mask named) = (o, 0) := by
  unfold spN
  refine parse_back h (by rw [upM_low, low_id h]) _ ?_
  unfold nmB
  cases named
  · by_cases hp : o.port = usualN o.sch
    · exact .inr hp
    · exact .inl (by rw [Bool.false_or]; exact decide_eq_true hp)
  · exact .inl rfl
theorem spN_size {o : Org} (h : GoodO o) (mask : Int) (named : Bool) : (spN o mask named).size ≤ 300 := by
  unfold spN
  rw [BA_size]
  exact auth_len h (upM_len _ _) _
theorem print_sp {o : Org} (h : GoodO o) : printN o = (o.sch ++ (⟨#[58, 47, 47]⟩ : ByteArray) ++ spN o 0 false, 0) := by
  rw [print_good h]
  unfold spN nmB
  rw [upM_zero, sep_app, Bool.false_or]
/-- A byte that no host may hold, written into one. -/
def badC (c : UInt8) : Prop := chB c = false ∧ lowB c = c ∧ c ≠ 46 ∧ c ≠ 58
theorem no58 {o : Org} (h : GoodO o) : (58 : UInt8) ∉ bl o.host := no_colon h (low_id h)
theorem back_bad {o : Org} (h : GoodO o) {c : UInt8} (hc : badC c) : parseN (o.sch ++ (⟨#[58, 47, 47]⟩ : ByteArray) ++ o.host ++ (⟨#[c]⟩ : ByteArray) ++ (⟨#[97]⟩ : ByteArray)) = (org0, 150) := by
  have e : o.sch ++ (⟨#[58, 47, 47]⟩ : ByteArray) ++ o.host ++ (⟨#[c]⟩ : ByteArray) ++ (⟨#[97]⟩ : ByteArray) = BA (bl o.sch ++ ([58, 47, 47] ++ (bl o.host ++ [c, 97]))) := by
    rw [← bl_inj]
    simp only [bl_append, bl_BA]
    simp [bl]
  rw [e, parse_sch h.sch, bad_host (c := c) (fun hm => ?_) (by simp) hc.2.2.1 hc.2.1 hc.1, if_neg Bool.false_ne_true]
  rcases List.mem_append.1 hm with hm | hm
  · exact no58 h hm
  · rcases List.mem_cons.1 hm with hm | hm
    · exact hc.2.2.2 hm.symm
    · revert hm; decide
theorem portN_bad (l : List UInt8) : portN (l ++ [47]) = 0 := by
  unfold portN
  rw [if_neg]
  rintro ⟨-, -, -, h⟩
  rw [List.all_append] at h
  simp [digB] at h
theorem back_slash {o : Org} (h : GoodO o) : parseN (o.sch ++ (⟨#[58, 47, 47]⟩ : ByteArray) ++ spN o 0 false ++ (⟨#[47]⟩ : ByteArray)) = (org0, 150) := by
  unfold spN
  rw [upM_zero]
  generalize nmB o false = b
  have e : o.sch ++ (⟨#[58, 47, 47]⟩ : ByteArray) ++ BA (authT (bl o.host) b o.port.toNat) ++ (⟨#[47]⟩ : ByteArray) = BA (bl o.sch ++ ([58, 47, 47] ++ (authT (bl o.host) b o.port.toNat ++ [47]))) := by
    rw [← bl_inj]
    simp only [bl_append, bl_BA]
    simp [bl]
  rw [e, parse_sch h.sch]
  unfold authT
  cases b
  · rw [if_neg Bool.false_ne_true, List.append_nil, bad_host (c := 47) (fun hm => ?_) (by simp) (by decide) (by decide) (by decide), if_neg Bool.false_ne_true]
    rcases List.mem_append.1 hm with hm | hm
    · exact no58 h hm
    · revert hm; decide
  · rw [if_pos rfl, List.append_assoc, List.cons_append, bad_port (no58 h) (portN_bad _), if_neg Bool.false_ne_true]
theorem bad_of (c : UInt8) (h1 : ¬ (48 ≤ c.toNat ∧ c.toNat ≤ 57)) (h2 : ¬ (97 ≤ c.toNat ∧ c.toNat ≤ 122)) (h3 : ¬ (65 ≤ c.toNat ∧ c.toNat ≤ 90)) (h4 : ¬ c.toNat = 45) (h5 : ¬ c.toNat = 46) (h6 : ¬ c.toNat = 58) : badC c := by
  refine ⟨?_, ?_, fun e => h5 (by rw [e]; rfl), fun e => h6 (by rw [e]; rfl)⟩
  · unfold chB chN
    simp only [Bool.or_eq_false_iff, decide_eq_false_iff_not]
    omega
  · unfold lowB
    rw [if_neg h3]
set_option maxHeartbeats 16000000 in
theorem OriginBack_ok {B : Base} (hB : LibF B) (raw : Org) (hs : raw.sch.size ≤ 1048576) (hh : raw.host.size ≤ 1048576) (mask : Int) (named : Bool) (c : UInt8) : PFnB B Tryd.prog 5 [.agg (encG raw), .val (.int .u64 mask), vb named, v8 c] (vb true) := by
  refine fnB_of Tryd.func5 rfl Tryd.ntmps5 Tryd.results5 rfl fun G hG => ?_
  refine aw_fact hG fun lb => ?_
  have hf := first_ok hB
  have hmade := made_ok raw hs hh
  repeat' ((fail_if_success (show AW _ (.region 4 _ _) _ _)); (first | (apply ar_call hmade; rfl; rfl; (focus ((repeat (first | exact Takes.nil | (apply Takes.cons; focus (repeat (first | exact Take.head | apply Take.tail | apply Take.right))))); done)); rfl; rintro _ _ ⟨rfl, o, ho, rfl⟩) | apply ar_nil | (apply ar_ev; (first | (apply ev_callF hf (by repeat (first | exact Take.head | apply Take.tail | apply Take.right)); rfl; rfl; exact Les.refl) | (apply ev_assign; rfl) | (apply ev_load_ptr_agg; rfl; (focus ((repeat (first | exact Take.head | apply Take.tail | apply Take.right)); done)); exact (by first | rfl | assumption | exact get_map (by assumption)); exact Nat.le_of_ble_eq_true rfl) | (apply ev_not; rfl)); rfl) | (apply ar_new; (first | apply eff_alloc | (apply eff_box; rfl; exact lies_of rfl) | (apply eff_conv_bytes; rfl; exact (by first | omega | assumption | (simp; done) | (simp; omega) | exact Nat.le_of_ble_eq_true rfl))); exact .nil; rfl; intro lab) | (apply ar_store; rfl; (focus ((repeat (first | exact Take.head | apply Take.tail | apply Take.right)); done)); rfl; rfl; exact (by first | rfl | assumption | exact get_map (by assumption)); rfl; rfl) | apply aw_seq | apply a_region | apply aw_skip | (apply aw_cond_f; rfl) | apply go_seq))
  generalize lab = la at *
  refine AW.sub (st' := ⟨[(1, .val (.int .u64 mask)), (2, vb named), (3, v8 c), (9, .ptr la 0 0)], [(la, .row 23 3 [encG o]), (lb, B.tok)]⟩) (Sub.of (by repeat (first | exact .nil | refine .cons rfl Le.refl ?_)) (by repeat (first | exact Takes.nil | (apply Takes.cons; focus (repeat (first | exact Take.head | apply Take.tail | apply Take.right)))))) ?_
  clear hf hmade hs hh
  have hsz := sch_size ho.sch
  have hhz := ho.len
  rw [bl_length] at hhz
  have z0 : (⟨#[58, 47, 47]⟩ : ByteArray).size = 3 := rfl
  have z1 := size_app o.sch (⟨#[58, 47, 47]⟩ : ByteArray)
  have z2 := size_app (o.sch ++ (⟨#[58, 47, 47]⟩ : ByteArray)) (spN o mask named)
  have z3 := size_app (o.sch ++ (⟨#[58, 47, 47]⟩ : ByteArray)) (spN o 0 false)
  have z4 := size_app (o.sch ++ (⟨#[58, 47, 47]⟩ : ByteArray)) o.host
  have z5 := size_app (o.sch ++ (⟨#[58, 47, 47]⟩ : ByteArray) ++ o.host) (⟨#[c]⟩ : ByteArray)
  have z6 := size_app (o.sch ++ (⟨#[58, 47, 47]⟩ : ByteArray) ++ o.host ++ (⟨#[c]⟩ : ByteArray)) (⟨#[97]⟩ : ByteArray)
  have z7 := size_app (o.sch ++ (⟨#[58, 47, 47]⟩ : ByteArray) ++ spN o 0 false) (⟨#[47]⟩ : ByteArray)
  have z8 : (⟨#[c]⟩ : ByteArray).size = 1 := rfl
  have z9 : (⟨#[97]⟩ : ByteArray).size = 1 := rfl
  have z10 : (⟨#[47]⟩ : ByteArray).size = 1 := rfl
  have z11 := spN_size ho mask named
  have z12 := spN_size ho 0 false
  have hpr := Print_ok hB o (by omega) (by omega)
  rw [print_sp ho] at hpr
  have hs1 := spelt15_ok o ho mask named
  have hs2 := spelt15_ok o ho 0 false
  have hp1 := Parse_ok hB (o.sch ++ (⟨#[58, 47, 47]⟩ : ByteArray) ++ spN o 0 false) (by omega)
  rw [spN_back ho] at hp1
  have hp2 := Parse_ok hB (o.sch ++ (⟨#[58, 47, 47]⟩ : ByteArray) ++ spN o mask named) (by omega)
  rw [spN_back ho] at hp2
  have hp3 := Parse_ok hB (o.sch ++ (⟨#[58, 47, 47]⟩ : ByteArray) ++ o.host ++ (⟨#[c]⟩ : ByteArray) ++ (⟨#[97]⟩ : ByteArray)) (by omega)
  have hp4 := Parse_ok hB (o.sch ++ (⟨#[58, 47, 47]⟩ : ByteArray) ++ spN o 0 false ++ (⟨#[47]⟩ : ByteArray)) (by omega)
  rw [back_slash ho] at hp4
  have hbad := back_bad ho (c := c)
  generalize parseN (o.sch ++ (⟨#[58, 47, 47]⟩ : ByteArray) ++ o.host ++ (⟨#[c]⟩ : ByteArray) ++ (⟨#[97]⟩ : ByteArray)) = res at *
  obtain ⟨ro, re⟩ := res
  dsimp only at *
  have hdo : decide (o = o) = true := decide_eq_true rfl
  generalize spN o mask named = sp1 at *
  generalize spN o 0 false = sp2 at *
  repeat' ((fail_if_success (show AW _ (.region 6 _ _) _ _)); (first | apply ar_nil | (apply ar_ev; (apply ev_move; rfl); rfl) | (apply ar_ev; (first | (apply ev_callF hpr (by repeat (first | exact Take.head | apply Take.tail | apply Take.right)); rfl; rfl; exact Les.refl) | (apply ev_callF hp1 (by repeat (first | exact Take.head | apply Take.tail | apply Take.right)); rfl; rfl; exact Les.refl) | (apply ev_assign; rfl) | (apply ev_load_ptr_agg; rfl; (focus ((repeat (first | exact Take.head | apply Take.tail | apply Take.right)); done)); exact (by first | rfl | assumption | exact get_map (by assumption)); exact Nat.le_of_ble_eq_true rfl) | (apply ev_extract; rfl; rfl)); rfl) | (apply ar_new; (first | apply eff_alloc | (apply eff_box; rfl; exact lies_of rfl) | (apply eff_conv_bytes; rfl; exact (by first | omega | assumption | (simp; done) | (simp; omega) | exact Nat.le_of_ble_eq_true rfl))); exact .nil; rfl; intro lab) | (apply ar_store; rfl; (focus ((repeat (first | exact Take.head | apply Take.tail | apply Take.right)); done)); rfl; rfl; exact (by first | rfl | assumption | exact get_map (by assumption)); rfl; rfl) | apply aw_seq | apply a_region | apply go_seq))
  generalize lab = l12 at *
  refine a_mix [true, true, true, true, true, true, true, true, true, true, true, true, false, false, true] [0, 1, 2, 3, 4, 5, 6, 7, 8, 9, 10, 11, 12, 13, 14] (by kernel_rfl) (by repeat (first | exact Als.nil | (apply Als.al; rfl) | (apply Als.other; rfl))) Takes.nil ?_
  repeat' ((fail_if_success (show AW _ (.region 7 _ _) _ _)); (first | apply aw_seq | apply go_seq | apply tl_nil | (apply tl_ev; rfl; rfl; (apply ev_move; rfl); rfl) | (apply tl_ev; rfl; rfl; (first | exact ev_call rfl rfl hs1 | (apply ev_callF hp2 (by repeat (first | exact Take.head | apply Take.tail | apply Take.right)); rfl; rfl; exact Les.refl) | (apply ev_cat; rfl; rfl; omega) | (apply ev_load_ptr_one; rfl; (focus ((repeat (first | exact Take.head | apply Take.tail | apply Take.right)); done)); exact (by first | rfl | assumption | exact get_map (by assumption)); rfl) | (apply ev_fieldAddr_ptr; rfl) | (apply ev_assign; rfl) | (apply ev_load_ptr_agg; rfl; (focus ((repeat (first | exact Take.head | apply Take.tail | apply Take.right)); done)); exact (by first | rfl | assumption | exact get_map (by assumption)); exact Nat.le_of_ble_eq_true rfl) | (apply ev_extract; rfl; rfl)); rfl) | (apply tl_alloc; rfl; rfl; infer_instance; rfl; intro lab) | (apply tl_store; rfl; rfl; rfl; infer_instance; rfl; (focus ((repeat (first | exact Take.head | apply Take.tail | apply Take.right)); done)); rfl; rfl; exact (by first | rfl | assumption | exact get_map (by assumption)); rfl; rfl)))
  refine AW.sub (st' := ⟨[(3, v8 c), (9, .ptr la 0 0), (10, vs (o.sch ++ (⟨#[58, 47, 47]⟩ : ByteArray) ++ sp2)), (11, vi 0), (12, .ptr l12 0 0), (13, vi 0), (14, .ptr lab 0 0), (15, vi 0)], [(la, .row 23 3 [encG o]), (l12, .row 23 3 [encG o]), (lab, .row 23 3 [encG o]), (lb, B.tok)]⟩) (Sub.of (by repeat (first | exact .nil | refine .cons rfl Le.refl ?_)) (by repeat (first | exact Takes.nil | (apply Takes.cons; focus (repeat (first | exact Take.head | apply Take.tail | apply Take.right)))))) ?_
  generalize lab = l14 at *
  clear hpr hp1 hp2 hs1 z2 z11
  have hdn : (!decide (o = o)) = false := by rw [hdo]; rfl
  have hdt : (!decide ((o.sch ++ (⟨#[58, 47, 47]⟩ : ByteArray) ++ sp2) = (o.sch ++ (⟨#[58, 47, 47]⟩ : ByteArray) ++ sp2))) = false := by rw [decide_eq_true rfl]; rfl
  repeat' ((fail_if_success (show AW _ (.region 9 _ _) _ _)); (first | (rw [hdn]) | apply ar_nil | (apply ar_ev; (apply ev_move (y := .val (.bool false)); rfl); rfl) | (apply ar_ev; (apply ev_move; rfl); rfl) | (apply ar_ev; (first | (apply ev_pick_f; rfl; rfl) | (apply ev_neip; rfl; rfl)); rfl) | (apply ar_take; rfl; rfl; rfl; (apply ev_move; rfl); rfl) | (apply ar_take; rfl; rfl; rfl; (first | exact ev_call rfl rfl hs2 | (apply ev_cat; rfl; rfl; omega) | (apply ev_neO (o := o) (p := o); rfl; rfl) | (apply ev_load_ptr_one; rfl; (focus ((repeat (first | exact Take.head | apply Take.tail | apply Take.right)); done)); exact (by first | rfl | assumption | exact get_map (by assumption)); rfl) | (apply ev_fieldAddr_ptr; rfl) | (apply ev_load_ptr_agg; rfl; (focus ((repeat (first | exact Take.head | apply Take.tail | apply Take.right)); done)); exact (by first | rfl | assumption | exact get_map (by assumption)); exact Nat.le_of_ble_eq_true rfl) | (apply ev_neip; rfl; rfl) | (apply ev_nesp; rfl; rfl)); rfl) | apply aw_seq | apply aw_skip | (apply aw_condp; rfl; all_goals (intro hc; try (exfalso; first | omega | contradiction | (simp at hc; omega) | (simp_all; done)))) | apply go_seq | (first | (apply a_drawN 2; rfl; rfl) | (apply a_drawN 3; rfl; rfl) | (apply a_drawN 4; rfl; rfl) | (apply a_drawN 5; rfl; rfl) | (apply a_drawN 6; rfl; rfl) | (apply a_drawN 7; rfl; rfl) | (apply a_drawN 8; rfl; rfl) | (apply a_drawN 9; rfl; rfl) | (apply a_drawN 10; rfl; rfl) | (apply a_drawN 11; rfl; rfl) | (apply a_drawN 12; rfl; rfl) | (apply a_drawN 13; rfl; rfl) | (apply a_drawN 14; rfl; rfl) | (apply a_drawN 15; rfl; rfl) | (apply a_drawN 16; rfl; rfl) | (apply a_drawN 17; rfl; rfl) | (apply a_drawN 18; rfl; rfl) | (apply a_drawN 19; rfl; rfl) | (apply a_drawN 20; rfl; rfl) | (apply a_drawN 21; rfl; rfl) | (apply a_drawN 22; rfl; rfl) | (apply a_drawN 23; rfl; rfl) | (apply a_drawN 24; rfl; rfl) | (apply a_drawN 25; rfl; rfl) | (apply a_drawN 26; rfl; rfl) | (apply a_drawN 27; rfl; rfl) | (apply a_drawN 28; rfl; rfl) | (apply a_drawN 29; rfl; rfl) | (apply a_drawN 30; rfl; rfl) | (apply a_drawN 31; rfl; rfl) | (apply a_drawN 32; rfl; rfl) | (apply a_drawN 33; rfl; rfl) | (apply a_drawN 34; rfl; rfl) | (apply a_drawN 35; rfl; rfl) | (apply a_drawN 36; rfl; rfl) | (apply a_drawN 37; rfl; rfl) | (apply a_drawN 38; rfl; rfl) | (apply a_drawN 39; rfl; rfl) | (apply a_drawN 40; rfl; rfl) | (apply a_drawN 41; rfl; rfl) | (apply a_drawN 42; rfl; rfl) | (apply a_drawN 43; rfl; rfl) | (apply a_drawN 44; rfl; rfl) | (apply a_drawN 45; rfl; rfl))))
  refine aw_join (fun b : Bool => ⟨[(3, v8 c), (9, .ptr la 0 0), (10, vs (o.sch ++ (⟨#[58, 47, 47]⟩ : ByteArray) ++ sp2)), (16, vb b)], [(la, .row 23 3 [encG o]), (lb, B.tok)]⟩) (fun b => b = true ∨ (b = false ∧ badC c)) ?_ ?_
  · have hbc := bad_of c
    clear hbad hp3 hp4 hs2 hdn hdt hdo z1 z3 z4 z5 z6 z7 z8 z9 z10 hB hG
    repeat' (first | apply ar_nil | (apply ar_ev; (apply ev_move (y := .val (.bool true)); rfl); rfl) | (apply ar_ev; (apply ev_move (y := .val (.bool false)); rfl); rfl) | (apply ar_splitp; (apply ev_move; rfl); rfl; all_goals (intro hc; try (exfalso; first | omega | contradiction | (simp at hc; omega) | (simp_all; done)))) | (apply ar_ev; (apply ev_move; rfl); rfl) | (apply ar_ev; (first | (apply ev_assign; rfl) | (apply ev_pick_t; rfl; rfl) | (apply ev_pick_f; rfl; rfl) | (apply ev_geq; rfl; rfl)); rfl) | (apply ar_skip; rfl; rfl; rfl; rfl; rfl) | (apply ar_tsplitp; rfl; rfl; rfl; (apply ev_move; rfl); rfl; all_goals (intro hc; try (exfalso; first | omega | contradiction | (simp at hc; omega) | (simp_all; done)))) | (apply ar_take; rfl; rfl; rfl; (apply ev_move; rfl); rfl) | (apply ar_take; rfl; rfl; rfl; (first | (apply ev_pick_t; rfl; rfl) | (apply ev_pick_f; rfl; rfl) | (apply ev_eqip; rfl; rfl) | (apply ev_leq; rfl; rfl) | (apply ev_geq; rfl; rfl)); rfl) | apply a_region)
    all_goals
      apply go_loop_back
      apply Exists.intro
      apply And.intro
      rotate_left
      exact Sub.of (by repeat (first | exact .nil | refine .cons rfl Le.refl ?_)) (by repeat (first | exact Takes.nil | (apply Takes.cons; focus (repeat (first | exact Take.head | apply Take.tail | apply Take.right)))))
      first
        | exact .inl rfl
        | (by_cases h58 : (c.toNat : Int) = 58; exact .inl (decide_eq_true h58); exact .inr ⟨decide_eq_false h58, bad_of c (by omega) (by omega) (by omega) (by omega) (by omega) (by omega)⟩)
  rintro b hb
  clear hs2 hdn hdt
  have hd150 : decide ((150 : Int) = 150) = true := by decide
  cases b with
  | false =>
    have hbc : badC c := by rcases hb with hb | hb; cases hb; exact hb.2
    have hbad := hbad hbc
    injection hbad with hb1 hb2
    subst hb1 hb2
    repeat' (first | (apply ar_new (d := 119); (apply eff_buildSlice; rfl; rfl; rfl; rfl; rfl; rfl; rfl); exact .nil; rfl; intro lab) | apply ar_nil | (apply ar_ev; (apply ev_move (y := .val (.bool true)); rfl); rfl) | (apply ar_ev; (apply ev_move (y := .val (.bool false)); rfl); rfl) | (apply ar_ev; (apply ev_move; rfl); rfl) | (apply ar_ev; (first | (apply ev_conv_own (bs := [c]); rfl; exact Take.head) | (apply ev_callF hp3 (by repeat (first | exact Take.head | apply Take.tail | apply Take.right)); rfl; rfl; exact Les.refl) | (apply ev_callF hp4 (by repeat (first | exact Take.head | apply Take.tail | apply Take.right)); rfl; rfl; exact Les.refl) | (apply ev_cat; rfl; rfl; omega) | (apply ev_load_ptr_one; rfl; (focus ((repeat (first | exact Take.head | apply Take.tail | apply Take.right)); done)); exact (by first | rfl | assumption | exact get_map (by assumption)); rfl) | (apply ev_fieldAddr_ptr; rfl) | (apply ev_assign; rfl) | (apply ev_pick_t; rfl; rfl) | (apply ev_pick_f; rfl; rfl) | (apply ev_extract; rfl; rfl)); rfl) | (apply ar_new; (first | apply eff_alloc | (apply eff_box; rfl; exact lies_of rfl) | (apply eff_conv_bytes; rfl; exact (by first | omega | assumption | (simp; done) | (simp; omega) | exact Nat.le_of_ble_eq_true rfl))); exact .nil; rfl; intro lab) | (apply ar_store; rfl; (focus ((repeat (first | exact Take.head | apply Take.tail | apply Take.right)); done)); rfl; rfl; exact (by first | rfl | assumption | exact get_map (by assumption)); rfl; rfl) | (apply ar_take; rfl; rfl; rfl; (apply ev_move; rfl); rfl) | (apply ar_take; rfl; rfl; rfl; (apply ev_eqip; rfl; rfl); rfl) | apply aw_seq | apply a_region | apply aw_ret | apply go_seq)
    all_goals exact g_ret1 (r_tmp rfl) .nil ⟨rfl, rfl⟩
  | true =>
    clear hbad
    repeat' (first | (apply ar_new (d := 119); (apply eff_buildSlice; rfl; rfl; rfl; rfl; rfl; rfl; rfl); exact .nil; rfl; intro lab) | apply ar_nil | (apply ar_ev; (apply ev_move (y := .val (.bool true)); rfl); rfl) | (apply ar_ev; (apply ev_move; rfl); rfl) | (apply ar_ev; (first | (apply ev_conv_own (bs := [c]); rfl; exact Take.head) | (apply ev_callF hp3 (by repeat (first | exact Take.head | apply Take.tail | apply Take.right)); rfl; rfl; exact Les.refl) | (apply ev_callF hp4 (by repeat (first | exact Take.head | apply Take.tail | apply Take.right)); rfl; rfl; exact Les.refl) | (apply ev_cat; rfl; rfl; omega) | (apply ev_load_ptr_one; rfl; (focus ((repeat (first | exact Take.head | apply Take.tail | apply Take.right)); done)); exact (by first | rfl | assumption | exact get_map (by assumption)); rfl) | (apply ev_fieldAddr_ptr; rfl) | (apply ev_assign; rfl) | (apply ev_pick_t; rfl; rfl) | (apply ev_extract; rfl; rfl)); rfl) | (apply ar_new; (first | apply eff_alloc | (apply eff_box; rfl; exact lies_of rfl) | (apply eff_conv_bytes; rfl; exact (by first | omega | assumption | (simp; done) | (simp; omega) | exact Nat.le_of_ble_eq_true rfl))); exact .nil; rfl; intro lab) | (apply ar_store; rfl; (focus ((repeat (first | exact Take.head | apply Take.tail | apply Take.right)); done)); rfl; rfl; exact (by first | rfl | assumption | exact get_map (by assumption)); rfl; rfl) | (apply ar_skip; rfl; rfl; rfl; rfl; rfl) | (apply ar_take; rfl; rfl; rfl; (apply ev_move; rfl); rfl) | (apply ar_take; rfl; rfl; rfl; (apply ev_eqip; rfl; rfl); rfl) | apply aw_seq | apply a_region | apply aw_ret | apply go_seq)
    all_goals exact g_ret1 (r_tmp rfl) .nil ⟨rfl, rfl⟩
end Go.Proofs.YtjdcljggbbeikaaDoor
