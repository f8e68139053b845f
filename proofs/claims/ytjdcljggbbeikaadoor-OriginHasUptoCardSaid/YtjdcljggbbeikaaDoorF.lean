import Derived.Test.YtjdcljggbbeikaaDoorE
set_option linter.unusedVariables false
set_option linter.unusedSimpArgs false
set_option maxRecDepth 100000
namespace Go.Proofs.YtjdcljggbbeikaaDoor
open Go.Proofs Go.Proofs.YtjdcljggbbeikaaDoorA

abbrev org0 : Org := ⟨es, es, 0⟩
def rSpeltN (sch auth : ByteArray) : Org × Bool := if rightB (speltO sch auth) = true then (speltO sch auth, true) else (org0, false)
theorem mem_split (l : List UInt8) : (58 : UInt8) ∉ l ∨ ∃ a b, l = a ++ 58 :: b ∧ (58 : UInt8) ∉ a := by
  by_cases h : (58 : UInt8) ∈ l
  · exact .inr (cut_of_mem h)
  · exact .inl h
theorem u8_58 (c : UInt8) : (c.toNat : Int) = 58 ↔ c = 58 := by
  constructor
  · intro h
    apply UInt8.toNat_inj.1
    have : (58 : UInt8).toNat = 58 := rfl
    omega
  · rintro rfl; rfl
set_option maxHeartbeats 8000000 in
theorem rSpelt_ok (sch auth : ByteArray) (hn : auth.size ≤ 1048576) : PFn Tryd.prog 25 [vs sch, vs auth] (.tup [.agg (encG (rSpeltN sch auth).1), vb (rSpeltN sch auth).2]) := by
  refine fn_of Tryd.func25 rfl Tryd.ntmps25 Tryd.results25 rfl fun G => ?_
  have hl := bl_length auth
  have hus := rusual_ok sch
  repeat' ((fail_if_success (show AW _ (.block 0 _) _ _)); (first | apply ar_nil | (apply ar_ev; (apply ev_move; rfl); rfl) | (apply ar_ev; (first | exact ev_call rfl rfl hus | (apply ev_assign; rfl) | (apply ev_build; rfl; rfl; rfl)); rfl) | (apply ar_new; (first | apply eff_alloc | (apply eff_box; rfl; exact lies_of rfl) | (apply eff_conv_bytes; rfl; exact (by first | omega | assumption | (simp; done) | (simp; omega) | exact Nat.le_of_ble_eq_true rfl))); exact .nil; rfl; intro lab) | (apply ar_store; rfl; (focus ((repeat (first | exact Take.head | apply Take.tail | apply Take.right)); done)); rfl; rfl; exact (by first | rfl | assumption | exact get_map (by assumption)); rfl; rfl) | apply aw_seq | apply a_region | apply go_seq))
  generalize lab = l6 at *
  rename_i l4
  -- the place of the first colon
  obtain ⟨k, hk, hno, hcut⟩ : ∃ k, k ≤ auth.size ∧ (∀ i c, i < k → (bl auth)[i]? = some c → c ≠ 58) ∧ ((k = auth.size ∧ cut1 (bl auth) = (bl auth, [], false)) ∨ (k < auth.size ∧ (bl auth)[k]? = some 58 ∧ cut1 (bl auth) = ((bl auth).take k, (bl auth).drop (k + 1), true))) := by
    rcases mem_split (bl auth) with h | ⟨a, b, h, ha⟩
    · exact ⟨auth.size, Nat.le_refl _, fun i c _ hc e => h (e ▸ List.mem_of_getElem? hc), .inl ⟨rfl, cut1_none h⟩⟩
    · have hs : auth.size = a.length + b.length + 1 := by rw [← hl, h]; simp; omega
      refine ⟨a.length, by omega, fun i c hi hc e => ?_, .inr ⟨by omega, by rw [h]; simp, by rw [h, cut1_some ha]; simp⟩⟩
      rw [h, List.getElem?_append_left hi] at hc
      exact ha (e ▸ List.mem_of_getElem? hc)
  have hlen := cut1_len (bl auth)
  rw [hl] at hlen
  have hsm := small_ok (BA (cut1 (bl auth)).1) (by rw [BA_size]; omega)
  rw [bl_BA] at hsm
  have hport := rport_ok (BA (cut1 (bl auth)).2.1) (by rw [BA_size]; omega)
  rw [bl_BA] at hport
  have hr := rRight_ok (speltO sch auth) (by simp only [speltO]; rw [BA_size, List.length_map]; omega)
  refine aw_join (fun _ : Unit => ⟨[(4, .ptr l4 0 0), (6, .ptr l6 0 0)], [(l4, .row 23 3 [encG org0]), (l6, .row 23 3 [[vs sch, vs (BA (cut1 (bl auth)).1), vi (speltO sch auth).port]])]⟩) (fun _ => True) ?_ ?_
  · refine aw_block ?_
    refine a_loop (fun i : Nat => ⟨[(1, vs auth), (4, .ptr l4 0 0), (6, .ptr l6 0 0), (7, vi i)], [(l4, .row 23 3 [encG org0]), (l6, .row 23 3 [[vs sch, vs auth, vi (usualN sch)]])]⟩) (fun i => i ≤ k) (fun i => k - i) 0 (Sub.of (by repeat (first | exact .nil | refine .cons rfl Le.refl ?_)) (by repeat (first | exact Takes.nil | (apply Takes.cons; focus (repeat (first | exact Take.head | apply Take.tail | apply Take.right)))))) (Nat.zero_le _) ?_
    intro i hi
    rcases Nat.lt_or_ge i k with hik | hik
    · obtain ⟨c, hce⟩ : ∃ c, (bl auth)[i]? = some c := ⟨_, List.getElem?_eq_getElem (by omega)⟩
      have hc58 : ¬ (c.toNat : Int) = 58 := fun e => hno i c hik hce ((u8_58 c).1 e)
      repeat' (first | apply ar_nil | (apply ar_ev; (apply ev_move; rfl); rfl) | (apply ar_ev; (first | (apply ev_assign; rfl) | (apply ev_eqip; rfl; rfl) | (apply ev_lss; rfl; rfl) | (apply ev_inc; rfl; exact (by first | omega | assumption)) | (apply ev_len_str; rfl) | (apply ev_index_bl; rfl; rfl; assumption)); rfl) | apply aw_seq | apply a_region | apply aw_block | apply aw_skip | (apply aw_condp; rfl; all_goals (intro hc; try (exfalso; first | omega | contradiction | (simp at hc; omega) | (simp_all; done)))) | apply go_seq | apply go_block)
      exact go_loop_back ⟨i + 1, by omega, by omega, Sub.of (by repeat (first | exact .nil | refine .cons rfl Le.refl ?_)) (by repeat (first | exact Takes.nil | (apply Takes.cons; focus (repeat (first | exact Take.head | apply Take.tail | apply Take.right)))))⟩
    · obtain rfl : i = k := by omega
      rcases hcut with ⟨hka, hcu⟩ | ⟨hka, hce, hcu⟩
      · have hsp : (speltO sch auth).port = usualN sch := by unfold speltO; rw [hcu]; rfl
        rw [hsp, hcu]
        dsimp only
        rw [BA_bl]
        repeat' (first | apply ar_nil | (apply ar_ev; (apply ev_move; rfl); rfl) | (apply ar_ev; (first | (apply ev_lss; rfl; rfl) | (apply ev_len_str; rfl)); rfl) | apply aw_seq | apply a_region | apply aw_exit | (apply aw_condp; rfl; all_goals (intro hc; try (exfalso; first | omega | contradiction | (simp at hc; omega) | (simp_all; done)))) | apply go_seq | apply go_seq_exit | apply go_block_exit | apply go_loop_exit)
        exact go_loop_back ⟨(), trivial, Sub.of (by repeat (first | exact .nil | refine .cons rfl Le.refl ?_)) (by repeat (first | exact Takes.nil | (apply Takes.cons; focus (repeat (first | exact Take.head | apply Take.tail | apply Take.right)))))⟩
      · have hsp : (speltO sch auth).port = portN ((bl auth).drop (i + 1)) := by unfold speltO; rw [hcu]; rfl
        rw [hsp, hcu]
        rw [hcu] at hport
        dsimp only at hport ⊢
        have x1 : auth.extract 0 i = BA ((bl auth).take i) := by rw [← BA_bl auth, BA_extract]; simp
        have x2 : auth.extract (i + 1) auth.size = BA ((bl auth).drop (i + 1)) := by
          rw [← BA_bl auth, BA_extract, List.take_of_length_le (by simp; omega)]; simp
        repeat' ((fail_if_success (show AW _ (.region 6 _ _) _ _)); (first | apply ar_nil | (apply ar_ev; (apply ev_move; rfl); rfl) | (apply ar_ev; (first | (apply ev_eqip; rfl; rfl) | (apply ev_lss; rfl; rfl) | (apply ev_len_str; rfl) | (apply ev_index_bl; rfl; rfl; assumption)); rfl) | apply aw_seq | apply a_region | apply aw_block | apply aw_skip | (apply aw_condp; rfl; all_goals (intro hc; try (exfalso; first | omega | contradiction | (simp at hc; omega) | (simp_all; done)))) | apply go_seq))
        repeat' ((fail_if_success (show AW _ (.region 7 _ _) _ _)); (first | apply ar_nil | (apply ar_ev; (apply ev_move; rfl); rfl) | (apply ar_ev; (first | (apply ev_fieldAddr_ptr; rfl) | (apply ev_slice_str; rfl; exact (by first | exact LoB.none | exact LoB.some (l := 0) rfl | exact LoB.some (l := 1) rfl | exact LoB.some rfl); exact (by first | exact HiB.none | exact HiB.some rfl); exact (by first | omega | assumption); exact (by first | omega | assumption))); rfl) | (apply ar_store1; rfl; (focus ((repeat (first | exact Take.head | apply Take.tail | apply Take.right)); done)); rfl; rfl; exact (by first | rfl | assumption | exact get_map (by assumption)); rfl) | apply aw_seq | apply a_region | apply go_seq))
        rw [x1]
        repeat' (first | (rw [x2]) | apply ar_nil | (apply ar_ev; (apply ev_move; rfl); rfl) | (apply ar_ev; (first | exact ev_call rfl rfl hport | (apply ev_fieldAddr_ptr; rfl) | (apply ev_inc; rfl; exact (by first | omega | assumption)) | (apply ev_slice_str; rfl; exact (by first | exact LoB.none | exact LoB.some (l := 0) rfl | exact LoB.some (l := 1) rfl | exact LoB.some rfl); exact (by first | exact HiB.none | exact HiB.some rfl); exact (by first | omega | assumption); exact (by first | omega | assumption))); rfl) | (apply ar_store1; rfl; (focus ((repeat (first | exact Take.head | apply Take.tail | apply Take.right)); done)); rfl; rfl; exact (by first | rfl | assumption | exact get_map (by assumption)); rfl) | apply a_region | apply aw_exit | apply go_seq | apply go_seq_exit | apply go_block_exit | (apply go_block_pass; rfl) | apply go_loop_exit)
        exact go_loop_back ⟨(), trivial, Sub.of (by repeat (first | exact .nil | refine .cons rfl Le.refl ?_)) (by repeat (first | exact Takes.nil | (apply Takes.cons; focus (repeat (first | exact Take.head | apply Take.tail | apply Take.right)))))⟩
  · rintro _ -
    have hre : (⟨sch, BA ((cut1 (bl auth)).1.map lowB), (speltO sch auth).port⟩ : Org) = speltO sch auth := rfl
    unfold rSpeltN
    rw [← hre] at hr ⊢
    clear hre hport hcut hlen
    generalize (speltO sch auth).port = pt at *
    generalize cut1 (bl auth) = cu at *
    generalize rightB ⟨sch, BA (cu.1.map lowB), pt⟩ = rb at *
    cases rb
    · repeat' (first | apply ar_nil | (apply ar_ev; (first | exact ev_call rfl rfl hsm | exact ev_call rfl rfl hr | (apply ev_load_ptr_one; rfl; (focus ((repeat (first | exact Take.head | apply Take.tail | apply Take.right)); done)); exact (by first | rfl | assumption | exact get_map (by assumption)); rfl) | (apply ev_fieldAddr_ptr; rfl) | (apply ev_assign; rfl) | (apply ev_load_ptr_agg; rfl; (focus ((repeat (first | exact Take.head | apply Take.tail | apply Take.right)); done)); exact (by first | rfl | assumption | exact get_map (by assumption)); exact Nat.le_of_ble_eq_true rfl) | (apply ev_not; rfl) | (apply ev_build; rfl; rfl; rfl)); rfl) | (apply ar_store1; rfl; (focus ((repeat (first | exact Take.head | apply Take.tail | apply Take.right)); done)); rfl; rfl; exact (by first | rfl | assumption | exact get_map (by assumption)); rfl) | (apply ar_store; rfl; (focus ((repeat (first | exact Take.head | apply Take.tail | apply Take.right)); done)); rfl; rfl; exact (by first | rfl | assumption | exact get_map (by assumption)); rfl; rfl) | apply aw_seq | apply a_region | apply aw_ret | (apply aw_cond_t; rfl) | apply go_seq | apply go_seq_ret)
      apply g_ret2; (apply r_cell; rfl; exact (by repeat (first | exact Take.head | apply Take.tail | apply Take.right)); rfl; rfl); exact r_tmp rfl; exact .nil; rfl
    · repeat' (first | apply ar_nil | (apply ar_ev; (first | exact ev_call rfl rfl hsm | exact ev_call rfl rfl hr | (apply ev_load_ptr_one; rfl; (focus ((repeat (first | exact Take.head | apply Take.tail | apply Take.right)); done)); exact (by first | rfl | assumption | exact get_map (by assumption)); rfl) | (apply ev_fieldAddr_ptr; rfl) | (apply ev_assign; rfl) | (apply ev_load_ptr_agg; rfl; (focus ((repeat (first | exact Take.head | apply Take.tail | apply Take.right)); done)); exact (by first | rfl | assumption | exact get_map (by assumption)); exact Nat.le_of_ble_eq_true rfl) | (apply ev_not; rfl)); rfl) | (apply ar_store1; rfl; (focus ((repeat (first | exact Take.head | apply Take.tail | apply Take.right)); done)); rfl; rfl; exact (by first | rfl | assumption | exact get_map (by assumption)); rfl) | (apply ar_store; rfl; (focus ((repeat (first | exact Take.head | apply Take.tail | apply Take.right)); done)); rfl; rfl; exact (by first | rfl | assumption | exact get_map (by assumption)); rfl; rfl) | apply aw_seq | apply a_region | apply aw_skip | apply aw_ret | (apply aw_cond_f; rfl) | apply go_seq)
      apply g_ret2; (apply r_cell; rfl; exact (by repeat (first | exact Take.head | apply Take.tail | apply Take.right)); rfl; rfl); exact r_tmp rfl; exact .nil; rfl
end Go.Proofs.YtjdcljggbbeikaaDoor
