import Derived.Test.YtphkfejckafamaaDoorC
set_option linter.unusedVariables false
set_option linter.unusedSimpArgs false
set_option maxRecDepth 100000
namespace Go.Proofs.YtphkfejckafamaaDoor
open Go.Proofs Go.Proofs.YtphkfejckafamaaDoorA

theorem u8_back (c : UInt8) : ((c.toNat : Int)).toNat.toUInt8 = c := by simp
theorem count_run (s : ByteArray) (c : UInt8) (w : World) : (callFunc 103 #[.string s, .int .u8 c.toNat]).run Tryd.prog w = .ok (.value (.int .i64 ((bl s).count c : Nat))) w := by
  rw [run_callFunc_extern Tryd.func103 (by kernel_rfl) (by kernel_rfl) (by kernel_rfl) (e := Extern.BytealgCount.count) (by kernel_rfl), Lib.run_countString, u8_back]
  rfl
theorem ixb_run (s : ByteArray) (c : UInt8) (w : World) : (callFunc 114 #[.string s, .int .u8 c.toNat]).run Tryd.prog w = .ok (.value (.int .i64 (Lib.indexByte (bl s) c))) w := by
  rw [run_callFunc_extern Tryd.func114 (by kernel_rfl) (by kernel_rfl) (by kernel_rfl) (e := Extern.BytealgIndexByte.indexByte) (by kernel_rfl), Lib.run_indexByteString, u8_back]
  rfl
abbrev one (c : UInt8) : ByteArray := BA [c]
theorem one_size (c : UInt8) : (one c).size = 1 := rfl
theorem one_get (c : UInt8) : (bl (one c))[0]? = some c := rfl

theorem count_ok (s : ByteArray) (c : UInt8) (hn : s.size ≤ 1099511627776) : PFn Tryd.prog 94 [vs s, vs (one c)] (vi ((bl s).count c : Nat)) := by
  refine fn_of Tryd.func94 rfl Tryd.ntmps94 Tryd.results94 rfl fun G => ?_
  have h1 := one_size c
  have h2 := one_get c
  repeat' (first | apply ar_nil | (apply ar_ev; (apply ev_move; rfl); rfl) | (apply ar_ev; (first | exact ev_call_val2 (count_run s c) rfl rfl | (apply ev_assign; rfl) | (apply ev_eqip; rfl; rfl) | (apply ev_len_str; rfl) | (apply ev_index_bl; rfl; rfl; assumption)); rfl) | apply aw_seq | apply a_region | apply aw_skip | apply aw_ret | (apply aw_condp; rfl; all_goals (intro hc; try (exfalso; first | omega | contradiction | (simp at hc; omega) | (simp_all; done)))) | apply go_seq | apply go_seq_ret)
  exact g_ret1 (r_tmp rfl) .nil rfl
theorem ib_ok (s : ByteArray) (c : UInt8) : PFn Tryd.prog 108 [vs s, v8 c] (vi (Lib.indexByte (bl s) c)) := by
  refine fn_of Tryd.func108 rfl Tryd.ntmps108 Tryd.results108 rfl fun G => ?_
  repeat' (first | apply ar_nil | (apply ar_ev; (apply ev_move; rfl); rfl) | (apply ar_ev; (first | exact ev_call_val2 (ixb_run s c) rfl rfl | (apply ev_assign; rfl)); rfl) | apply aw_seq | apply a_region | apply aw_ret | apply go_seq)
  exact g_ret1 (r_tmp rfl) .nil rfl
theorem sidx_ok (s : ByteArray) (c : UInt8) (hn : s.size ≤ 1099511627776) : PFn Tryd.prog 104 [vs s, vs (one c)] (vi (Lib.indexByte (bl s) c)) := by
  refine fn_of Tryd.func104 rfl Tryd.ntmps104 Tryd.results104 rfl fun G => ?_
  have h1 := one_size c
  have h2 := one_get c
  repeat' (first | apply ar_nil | (apply ar_splitp; (apply ev_move; rfl); rfl; all_goals (intro hc; try (exfalso; first | omega | contradiction | (simp at hc; omega) | (simp_all; done)))) | (apply ar_ev; (apply ev_move; rfl); rfl) | (apply ar_ev; (first | exact ev_call rfl rfl (ib_ok s c) | (apply ev_assign; rfl) | (apply ev_pick_f; rfl; rfl) | (apply ev_eqip; rfl; rfl) | (apply ev_len_str; rfl) | (apply ev_index_bl; rfl; rfl; assumption)); rfl) | (apply ar_take; rfl; rfl; rfl; (apply ev_move; rfl); rfl) | (apply ar_take; rfl; rfl; rfl; (apply ev_eqsp; rfl; rfl); rfl) | apply aw_seq | apply a_region | apply aw_block | apply aw_ret | (apply aw_condp; rfl; all_goals (intro hc; try (exfalso; first | omega | contradiction | (simp at hc; omega) | (simp_all; done)))) | apply go_seq | apply go_seq_ret | apply go_block_ret)
  · exact g_ret1 (r_tmp rfl) .nil (by rw [← hc, bl_BA]; simp [Lib.indexByte])
  · exact g_ret1 (r_tmp rfl) .nil rfl
theorem ix_ok (s : ByteArray) (c : UInt8) (hn : s.size ≤ 1099511627776) : PFn Tryd.prog 95 [vs s, vs (one c)] (vi (Lib.indexByte (bl s) c)) := by
  refine fn_of Tryd.func95 rfl Tryd.ntmps95 Tryd.results95 rfl fun G => ?_
  repeat' (first | apply ar_nil | (apply ar_ev; (apply ev_move; rfl); rfl) | (apply ar_ev; (first | exact ev_call rfl rfl (sidx_ok s c hn) | (apply ev_assign; rfl)); rfl) | apply aw_seq | apply a_region | apply aw_ret | apply go_seq)
  exact g_ret1 (r_tmp rfl) .nil rfl

theorem pieces_count {sep : UInt8} {l : List UInt8} (h : l.count sep = 0) : pieces sep l = [l] := pieces_none fun hm => by
  have := List.count_pos_iff.2 hm; omega
abbrev pcs (c : UInt8) (l : List UInt8) : List ByteArray := (pieces c l).map BA
/-- What the walk has so far, and what is still to come. -/
def filled (acc : List ByteArray) (n : Nat) : List ByteArray := acc ++ List.replicate n ⟨#[]⟩
theorem filled_set (acc : List ByteArray) (n : Nat) (z : ByteArray) : ((filled acc (n + 1)).map encS).set acc.length [vs z] = (filled (acc ++ [z]) n).map encS := by
  simp [filled, List.replicate_succ]
theorem filled_get (acc : List ByteArray) (n : Nat) : ((filled acc (n + 1)).map encS)[acc.length]? = some [vs ⟨#[]⟩] := by
  simp [filled, List.replicate_succ]
set_option maxHeartbeats 2000000 in
theorem genSplit_ok (s : ByteArray) (c : UInt8) (hn : s.size ≤ 1073741824) : PFn Tryd.prog 73 [vs s, vs (one c), vi 0, vi (-1)] (ssl (pcs c (bl s))) := by
  refine fn_of Tryd.func73 rfl Tryd.ntmps73 Tryd.results73 rfl fun G => ?_
  have h1 := one_size c
  have h2 : ¬ one c = ⟨#[]⟩ := fun h => by have := congrArg ByteArray.size h; rw [h1] at this; cases this
  have hcl : (bl s).count c ≤ s.size := by rw [← bl_length]; exact List.count_le_length
  have hmin : min (((bl s).count c + 1 : Nat) : Int) ((s.size + 1 : Nat) : Int) = (((bl s).count c + 1 : Nat) : Int) := by omega
  repeat' (first | apply ar_nil | (apply ar_ev; (apply ev_move; rfl); rfl) | (apply ar_ev; (first | exact ev_call rfl rfl (count_ok s c (by omega)) | (apply ev_assign; rfl) | (apply ev_eqip; rfl; rfl) | (apply ev_lss; rfl; rfl) | (apply ev_inc; rfl; exact (by first | omega | assumption)) | (apply ev_eqsp; rfl; rfl) | (apply ev_len_str; rfl) | (apply ev_min; rfl; rfl)); rfl) | apply aw_seq | apply a_region | apply aw_skip | (apply aw_condp; rfl; all_goals (intro hc; try (exfalso; first | omega | contradiction | (simp at hc; omega) | (simp_all; done)))) | apply go_seq)
  rw [hmin]
  generalize hN : (bl s).count c = N at *
  skip
  apply ar_new; (apply eff_makeSlice; rfl; rfl; exact Nat.le_refl _; omega; omega; exact Nat.one_pos); exact .nil; rfl; intro lab
  have hN1 : ((N + 1 : Nat) : Int) - 1 = (N : Nat) := by omega
  repeat' (first | apply ar_nil | (apply ar_ev; (apply ev_move; rfl); rfl) | (apply ar_ev; (first | (apply ev_assign; rfl) | (apply ev_sub; rfl; rfl; exact (by first | omega | assumption); exact (by first | omega | assumption))); rfl) | apply aw_seq | apply a_region | apply aw_block | apply go_seq)
  rw [hN1]
  have hrow0 : List.replicate (N + 1) (vcells (.string ⟨#[]⟩)) = (filled [] (N + 1)).map encS := by simp [filled, vcells, Value.cells]
  refine aw_joinb (fun g : List ByteArray × List UInt8 => ⟨[(0, vs (BA g.2)), (9, .own lab 0 (N + 1)), (10, vi g.1.length)], [(lab, .row 9 1 ((filled g.1 1).map encS))]⟩) (fun g => g.1.length = N ∧ g.1 ++ [BA g.2] = pcs c (bl s)) ?_ ?_
  · refine a_loop (fun g : List ByteArray × Nat × List UInt8 => ⟨[(0, vs (BA g.2.2)), (1, vs (one c)), (2, vi 0), (3, vi N), (9, .own lab 0 (N + 1)), (10, vi g.1.length)], [(lab, .row 9 1 ((filled g.1 (g.2.1 + 1)).map encS))]⟩)
      (fun g => g.1.length + g.2.1 = N ∧ g.2.2.count c = g.2.1 ∧ g.1 ++ pcs c g.2.2 = pcs c (bl s) ∧ g.2.2.length ≤ s.size) (fun g => g.2.1) ([], N, bl s) (by rw [BA_bl]; exact Sub.of (by repeat (first | exact .nil | refine .cons rfl Le.refl ?_)) (by repeat (first | exact Takes.nil | (apply Takes.cons; focus (repeat (first | exact Take.head | exact Take.rowc hrow0 Take.head | apply Take.tail | apply Take.right)))))) ⟨by simp, hN, by simp, by rw [bl_length]; exact Nat.le_refl _⟩ ?_
    rintro ⟨acc, n, rest⟩ ⟨ha, hn2, hp, hrl⟩
    dsimp only at *
    repeat' (first | apply ar_nil | (apply ar_ev; (apply ev_move; rfl); rfl) | (apply ar_ev; (apply ev_lss; rfl; rfl); rfl) | apply aw_seq | apply a_region | apply go_seq)
    refine aw_condp rfl (fun hk => ?_) (fun hk => ?_)
    · obtain ⟨n, rfl⟩ : ∃ m, n = m + 1 := ⟨n - 1, by omega⟩
      obtain ⟨a, b, rfl, hca⟩ := cut_of_mem (List.count_pos_iff.1 (by omega : 0 < rest.count c))
      have hab : (BA (a ++ c :: b)).size = a.length + b.length + 1 := by rw [BA_size, List.length_append, List.length_cons]; omega
      rw [List.length_append, List.length_cons] at hrl
      have hix : Lib.indexByte (bl (BA (a ++ c :: b))) c = (a.length : Nat) := by rw [bl_BA, indexByte_cut hca]
      have hspec := ix_ok (BA (a ++ c :: b)) c (by omega)
      rw [hix] at hspec
      have e0 : ((a.length : Int) + 0) = (a.length : Nat) := by omega
      have hget := filled_get acc (n + 1)
      repeat' (first | apply ar_nil | (apply ar_ev; (apply ev_move; rfl); rfl) | (apply ar_ev; (first | exact ev_call rfl rfl hspec | (apply ev_assign; rfl) | (apply ev_lss; rfl; rfl) | (apply ev_add; rfl; rfl; exact (by first | omega | assumption); exact (by first | omega | assumption))); rfl) | apply aw_seq | apply a_region | apply aw_block | apply aw_skip | (apply aw_condp; rfl; all_goals (intro hc; try (exfalso; first | omega | contradiction | (simp at hc; omega) | (simp_all; done)))) | apply go_seq)
      rw [e0]
      repeat' (first | apply ar_nil | (apply ar_ev; (apply ev_move; rfl); rfl) | (apply ar_ev; (first | (apply ev_assign; rfl) | (apply ev_inc; rfl; exact (by first | omega | assumption)) | (apply ev_add; rfl; rfl; exact (by first | omega | assumption); exact (by first | omega | assumption)) | (apply ev_len_str; rfl) | (apply ev_indexAddr_own0; rfl; rfl; exact (by first | omega | assumption); (focus ((repeat (first | exact Take.head | apply Take.tail | apply Take.right)); done))) | (apply ev_slice_str; rfl; exact (by first | exact LoB.none | exact LoB.some (l := 0) rfl | exact LoB.some (l := 1) rfl | exact LoB.some rfl); exact (by first | exact HiB.none | exact HiB.some rfl); exact (by first | omega | assumption); exact (by first | omega | assumption))); rfl) | (apply ar_store1; rfl; (focus ((repeat (first | exact Take.head | apply Take.tail | apply Take.right)); done)); rfl; rfl; exact (by first | rfl | assumption | exact get_map (by assumption)); rfl) | apply aw_seq | apply a_region | apply go_seq | apply go_block)
      have x1 : (BA (a ++ c :: b)).extract 0 a.length = BA a := by rw [BA_extract]; simp
      have x2 : (BA (a ++ c :: b)).extract (a.length + (one c).size) (BA (a ++ c :: b)).size = BA b := by
        rw [BA_extract, h1, hab, List.drop_append, List.drop_eq_nil_of_le (Nat.le_succ _), show a.length + 1 - a.length = 1 by omega, List.take_of_length_le (by simp)]
        simp
      have hrow : ((filled acc (n + 1 + 1)).map encS).set acc.length [vs ((BA (a ++ c :: b)).extract 0 a.length)] = (filled (acc ++ [BA a]) (n + 1)).map encS := by rw [x1, filled_set]
      rw [x2]
      have hab2 : acc.length + 1 = (acc ++ [BA a]).length := by simp
      rw [hab2]
      refine go_loop_back ⟨(acc ++ [BA a], n, b), ⟨by dsimp only; rw [← hab2]; omega, ?_, ?_, by dsimp only; omega⟩, by dsimp only; omega, Sub.of (by repeat (first | exact .nil | refine .cons rfl Le.refl ?_)) (by repeat (first | exact Takes.nil | (apply Takes.cons; focus (repeat (first | exact Take.head | exact Take.rowc hrow Take.head | apply Take.tail | apply Take.right)))))⟩
      · dsimp only
        rw [List.count_append, List.count_cons_self, List.count_eq_zero.2 hca] at hn2
        omega
      · dsimp only
        rw [← hp, pcs, pcs, pieces_cut hca, List.append_assoc]; rfl
    · obtain rfl : n = 0 := by omega
      repeat' (first | apply aw_exit | apply go_seq_exit | apply go_block_exit | apply go_loop_exit)
      exact go_loop_back ⟨(acc, rest), ⟨by dsimp only; omega, by dsimp only; rw [← hp, pcs, pieces_count hn2]; rfl⟩, Sub.of (by repeat (first | exact .nil | refine .cons rfl Le.refl ?_)) (by repeat (first | exact Takes.nil | (apply Takes.cons; focus (repeat (first | exact Take.head | apply Take.tail | apply Take.right)))))⟩
  · rintro ⟨acc, rest⟩ ⟨ha, hp⟩
    dsimp only at *
    have hget := filled_get acc 0
    repeat' (first | apply ar_nil | (apply ar_ev; (apply ev_move; rfl); rfl) | (apply ar_ev; (first | (apply ev_inc; rfl; exact (by first | omega | assumption)) | (apply ev_indexAddr_own0; rfl; rfl; exact (by first | omega | assumption); (focus ((repeat (first | exact Take.head | apply Take.tail | apply Take.right)); done)))); rfl) | (apply ar_store1; rfl; (focus ((repeat (first | exact Take.head | apply Take.tail | apply Take.right)); done)); rfl; rfl; exact (by first | rfl | assumption | exact get_map (by assumption)); rfl) | apply aw_seq | apply a_region | apply go_seq)
    have hrow : ((filled acc 1).map encS).set acc.length [vs (BA rest)] = (pcs c (bl s)).map encS := by rw [filled_set, ← hp]; simp [filled]
    have hpl : (pcs c (bl s)).length = N + 1 := by rw [← hp, List.length_append, ha]; rfl
    refine ar_cv 62 rfl (.cons .head .nil) (Cv.own0 .head (by simp [filled, ha])) ?_
    have hrow2 : ((filled acc 1).map encS).set acc.length ([vs ⟨#[]⟩].set 0 (vs (BA rest))) = (pcs c (bl s)).map encS := hrow
    have hpl2 : ((pcs c (bl s)).map encS).length = N + 1 := by rw [List.length_map, hpl]
    rw [hrow2]
    repeat' (first | apply ar_nil | (apply ar_ev; (first | (apply ev_assign; rfl) | (apply ev_slice_sl; rfl; exact (by first | exact LoB.none | exact LoB.some (l := 0) rfl | exact LoB.some (l := 1) rfl | exact LoB.some rfl); exact (by first | exact HiB.none | exact HiB.some rfl); exact (by first | omega | assumption); exact (by first | omega | assumption | (simp; done) | (simp; omega) | exact Nat.le_of_ble_eq_true rfl))); rfl) | apply aw_ret | apply go_seq)
    exact g_ret1 (r_tmp rfl) .nil (by rw [List.drop_zero, Nat.sub_zero, ha, ← hpl])
theorem split_ok (s : ByteArray) (c : UInt8) (hn : s.size ≤ 1073741824) : PFn Tryd.prog 42 [vs s, vs (one c)] (ssl (pcs c (bl s))) := by
  refine fn_of Tryd.func42 rfl Tryd.ntmps42 Tryd.results42 rfl fun G => ?_
  repeat' (first | apply ar_nil | (apply ar_ev; (apply ev_move; rfl); rfl) | (apply ar_ev; (first | exact ev_call rfl rfl (genSplit_ok s c hn) | (apply ev_assign; rfl)); rfl) | apply aw_seq | apply a_region | apply aw_ret | apply go_seq)
  exact g_ret1 (r_tmp rfl) .nil rfl
end Go.Proofs.YtphkfejckafamaaDoor
