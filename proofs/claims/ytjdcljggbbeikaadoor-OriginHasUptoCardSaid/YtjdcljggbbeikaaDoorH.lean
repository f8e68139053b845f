import Derived.Test.YtjdcljggbbeikaaDoorG
set_option linter.unusedVariables false
set_option linter.unusedSimpArgs false
set_option maxRecDepth 100000
namespace Go.Proofs.YtjdcljggbbeikaaDoor
open Go.Proofs Go.Proofs.YtjdcljggbbeikaaDoorA

def printS (o : Org) : ByteArray := if o.port = usualN o.sch then o.sch ++ (⟨#[58, 47, 47]⟩ : ByteArray) ++ o.host else o.sch ++ (⟨#[58, 47, 47]⟩ : ByteArray) ++ o.host ++ ((⟨#[58]⟩ : ByteArray) ++ BA (Lib.itoa o.port))
def printN (o : Org) : ByteArray × Int := if rightB o = true then (printS o, 0) else (es, 150)
theorem itoa_len (n : Nat) (h : n ≤ 65535) : (Lib.itoa (n : Nat)).length ≤ 65536 := by
  have h1 : ∀ (k u : Nat), u ≤ k → (Lib.decDigits u).length ≤ u + 1 := by
    intro k
    induction k with
    | zero =>
      intro u hu
      obtain rfl : u = 0 := by omega
      rw [Lib.decDigits]; simp
    | succ k ih =>
      intro u hu
      rw [Lib.decDigits]
      split
      · simp
      · have := ih (u / 10) (by omega)
        simp; omega
  unfold Lib.itoa
  rw [if_neg (by omega)]
  have := h1 _ n (Nat.le_refl n)
  simpa using (by omega : (Lib.decDigits n).length ≤ 65536)
theorem right_port {o : Org} (h : rightB o = true) : 1 ≤ o.port ∧ o.port ≤ 65535 := by
  unfold rightB at h
  simp only [Bool.and_eq_true, decide_eq_true_eq] at h
  exact h.2
theorem size_app (a b : ByteArray) : (a ++ b).size = a.size + b.size := ByteArray.size_append
set_option maxHeartbeats 4000000 in
theorem Print_ok {B : Base} (hB : LibF B) (o : Org) (hn : o.host.size ≤ 1048576) (hs : o.sch.size ≤ 1048576) : PFnB B Tryd.prog 12 [.agg (encG o)] (.tup [vs (printN o).1, vi (printN o).2]) := by
  refine fnB_of Tryd.func12 rfl Tryd.ntmps12 Tryd.results12 rfl fun G hG => ?_
  refine aw_fact hG fun lb => ?_
  have hr := right_ok o hn
  have hu := usual_ok o.sch
  unfold printN
  cases hrr : rightB o with
  | false =>
    rw [hrr] at hr
    rw [if_neg (by decide)]
    repeat' (first | apply ar_nil | (apply ar_ev; (first | exact ev_call rfl rfl hr | (apply ev_assign; rfl) | (apply ev_load_ptr_agg; rfl; (focus ((repeat (first | exact Take.head | apply Take.tail | apply Take.right)); done)); exact (by first | rfl | assumption | exact get_map (by assumption)); exact Nat.le_of_ble_eq_true rfl) | (apply ev_not; rfl)); rfl) | (apply ar_new; (first | apply eff_alloc | (apply eff_box; rfl; exact lies_of rfl) | (apply eff_conv_bytes; rfl; exact (by first | omega | assumption | (simp; done) | (simp; omega) | exact Nat.le_of_ble_eq_true rfl))); exact .nil; rfl; intro lab) | apply aw_seq | apply a_region | apply aw_ret | (apply aw_cond_t; rfl) | apply go_seq | apply go_seq_ret)
    exact g_ret2 (r_tmp rfl) (r_tmp rfl) .nil ⟨rfl, rfl⟩
  | true =>
    rw [hrr] at hr
    rw [if_pos rfl]
    have hp := right_port hrr
    have hi := itoa_ok hB o.port (by omega)
    have hil : (BA (Lib.itoa o.port)).size ≤ 65536 := by
      rw [BA_size]
      obtain ⟨n, hn⟩ : ∃ n : Nat, o.port = n := ⟨o.port.toNat, by omega⟩
      rw [hn]; exact itoa_len n (by omega)
    have e1 := size_app o.sch (⟨#[58, 47, 47]⟩ : ByteArray)
    have e2 := size_app (o.sch ++ (⟨#[58, 47, 47]⟩ : ByteArray)) o.host
    have e3 := size_app (⟨#[58]⟩ : ByteArray) (BA (Lib.itoa o.port))
    have e4 : (⟨#[58, 47, 47]⟩ : ByteArray).size = 3 := rfl
    have e5 : (⟨#[58]⟩ : ByteArray).size = 1 := rfl
    unfold printS
    by_cases hpu : o.port = usualN o.sch
    · rw [if_pos hpu]
      repeat' (first | apply ar_nil | (apply ar_ev; (apply ev_move; rfl); rfl) | (apply ar_ev; (first | exact ev_call rfl rfl hr | exact ev_call rfl rfl hu | (apply ev_cat; rfl; rfl; omega) | (apply ev_load_ptr_one; rfl; (focus ((repeat (first | exact Take.head | apply Take.tail | apply Take.right)); done)); exact (by first | rfl | assumption | exact get_map (by assumption)); rfl) | (apply ev_fieldAddr_ptr; rfl) | (apply ev_assign; rfl) | (apply ev_load_ptr_agg; rfl; (focus ((repeat (first | exact Take.head | apply Take.tail | apply Take.right)); done)); exact (by first | rfl | assumption | exact get_map (by assumption)); exact Nat.le_of_ble_eq_true rfl) | (apply ev_neip; rfl; rfl) | (apply ev_not; rfl)); rfl) | (apply ar_new; (first | apply eff_alloc | (apply eff_box; rfl; exact lies_of rfl) | (apply eff_conv_bytes; rfl; exact (by first | omega | assumption | (simp; done) | (simp; omega) | exact Nat.le_of_ble_eq_true rfl))); exact .nil; rfl; intro lab) | apply aw_seq | apply a_region | apply aw_skip | apply aw_ret | (apply aw_condp; rfl; all_goals (intro hc; try (exfalso; first | omega | contradiction | (simp at hc; omega) | (simp_all; done)))) | (apply aw_cond_f; rfl) | apply go_seq | (first | (apply a_drawN 2; rfl; rfl) | (apply a_drawN 3; rfl; rfl) | (apply a_drawN 4; rfl; rfl) | (apply a_drawN 5; rfl; rfl) | (apply a_drawN 6; rfl; rfl) | (apply a_drawN 7; rfl; rfl) | (apply a_drawN 8; rfl; rfl) | (apply a_drawN 9; rfl; rfl) | (apply a_drawN 10; rfl; rfl) | (apply a_drawN 11; rfl; rfl) | (apply a_drawN 12; rfl; rfl) | (apply a_drawN 13; rfl; rfl) | (apply a_drawN 14; rfl; rfl) | (apply a_drawN 15; rfl; rfl) | (apply a_drawN 16; rfl; rfl) | (apply a_drawN 17; rfl; rfl) | (apply a_drawN 18; rfl; rfl) | (apply a_drawN 19; rfl; rfl) | (apply a_drawN 20; rfl; rfl) | (apply a_drawN 21; rfl; rfl) | (apply a_drawN 22; rfl; rfl) | (apply a_drawN 23; rfl; rfl) | (apply a_drawN 24; rfl; rfl) | (apply a_drawN 25; rfl; rfl) | (apply a_drawN 26; rfl; rfl) | (apply a_drawN 27; rfl; rfl) | (apply a_drawN 28; rfl; rfl) | (apply a_drawN 29; rfl; rfl) | (apply a_drawN 30; rfl; rfl) | (apply a_drawN 31; rfl; rfl) | (apply a_drawN 32; rfl; rfl) | (apply a_drawN 33; rfl; rfl) | (apply a_drawN 34; rfl; rfl) | (apply a_drawN 35; rfl; rfl) | (apply a_drawN 36; rfl; rfl) | (apply a_drawN 37; rfl; rfl) | (apply a_drawN 38; rfl; rfl) | (apply a_drawN 39; rfl; rfl) | (apply a_drawN 40; rfl; rfl) | (apply a_drawN 41; rfl; rfl) | (apply a_drawN 42; rfl; rfl) | (apply a_drawN 43; rfl; rfl) | (apply a_drawN 44; rfl; rfl) | (apply a_drawN 45; rfl; rfl)))
      exact g_ret2 (r_tmp rfl) (r_tmp rfl) .nil ⟨rfl, rfl⟩
    · rw [if_neg hpu]
      repeat' (first | apply ar_nil | (apply ar_ev; (apply ev_move; rfl); rfl) | (apply ar_ev; (first | exact ev_call rfl rfl hr | exact ev_call rfl rfl hu | (apply ev_cat; rfl; rfl; omega) | (apply ev_callF hi (by repeat (first | exact Take.head | apply Take.tail | apply Take.right)); rfl; rfl; exact Les.refl) | (apply ev_load_ptr_one; rfl; (focus ((repeat (first | exact Take.head | apply Take.tail | apply Take.right)); done)); exact (by first | rfl | assumption | exact get_map (by assumption)); rfl) | (apply ev_fieldAddr_ptr; rfl) | (apply ev_assign; rfl) | (apply ev_load_ptr_agg; rfl; (focus ((repeat (first | exact Take.head | apply Take.tail | apply Take.right)); done)); exact (by first | rfl | assumption | exact get_map (by assumption)); exact Nat.le_of_ble_eq_true rfl) | (apply ev_neip; rfl; rfl) | (apply ev_not; rfl)); rfl) | (apply ar_new; (first | apply eff_alloc | (apply eff_box; rfl; exact lies_of rfl) | (apply eff_conv_bytes; rfl; exact (by first | omega | assumption | (simp; done) | (simp; omega) | exact Nat.le_of_ble_eq_true rfl))); exact .nil; rfl; intro lab) | apply aw_seq | apply a_region | apply aw_skip | apply aw_ret | (apply aw_condp; rfl; all_goals (intro hc; try (exfalso; first | omega | contradiction | (simp at hc; omega) | (simp_all; done)))) | (apply aw_cond_f; rfl) | apply go_seq | (first | (apply a_drawN 2; rfl; rfl) | (apply a_drawN 3; rfl; rfl) | (apply a_drawN 4; rfl; rfl) | (apply a_drawN 5; rfl; rfl) | (apply a_drawN 6; rfl; rfl) | (apply a_drawN 7; rfl; rfl) | (apply a_drawN 8; rfl; rfl) | (apply a_drawN 9; rfl; rfl) | (apply a_drawN 10; rfl; rfl) | (apply a_drawN 11; rfl; rfl) | (apply a_drawN 12; rfl; rfl) | (apply a_drawN 13; rfl; rfl) | (apply a_drawN 14; rfl; rfl) | (apply a_drawN 15; rfl; rfl) | (apply a_drawN 16; rfl; rfl) | (apply a_drawN 17; rfl; rfl) | (apply a_drawN 18; rfl; rfl) | (apply a_drawN 19; rfl; rfl) | (apply a_drawN 20; rfl; rfl) | (apply a_drawN 21; rfl; rfl) | (apply a_drawN 22; rfl; rfl) | (apply a_drawN 23; rfl; rfl) | (apply a_drawN 24; rfl; rfl) | (apply a_drawN 25; rfl; rfl) | (apply a_drawN 26; rfl; rfl) | (apply a_drawN 27; rfl; rfl) | (apply a_drawN 28; rfl; rfl) | (apply a_drawN 29; rfl; rfl) | (apply a_drawN 30; rfl; rfl) | (apply a_drawN 31; rfl; rfl) | (apply a_drawN 32; rfl; rfl) | (apply a_drawN 33; rfl; rfl) | (apply a_drawN 34; rfl; rfl) | (apply a_drawN 35; rfl; rfl) | (apply a_drawN 36; rfl; rfl) | (apply a_drawN 37; rfl; rfl) | (apply a_drawN 38; rfl; rfl) | (apply a_drawN 39; rfl; rfl) | (apply a_drawN 40; rfl; rfl) | (apply a_drawN 41; rfl; rfl) | (apply a_drawN 42; rfl; rfl) | (apply a_drawN 43; rfl; rfl) | (apply a_drawN 44; rfl; rfl) | (apply a_drawN 45; rfl; rfl)))
      exact g_ret2 (r_tmp rfl) (r_tmp rfl) .nil ⟨rfl, rfl⟩
theorem tmod10 (m : Nat) : ((m : Nat) : Int).tmod 10 = ((m % 10 : Nat) : Int) := by
  rw [Int.tmod_eq_emod_of_nonneg (by omega)]; omega
theorem digit_u8 (m : Nat) : IntKind.u8.wrap (48 + ((m % 10 : Nat) : Int)) = (((UInt8.ofNat (48 + m % 10)).toNat : Nat) : Int) := by
  rw [wrap8]
  have : (UInt8.ofNat (48 + m % 10)).toNat = (48 + m % 10) % 256 := by simp [UInt8.toNat_ofNat']
  rw [this]
  omega
theorem quo10 (m : Nat) (h : m ≤ 65535) : IntKind.i64.wrap (((m : Nat) : Int).tdiv 10) = ((m / 10 : Nat) : Int) := by
  rw [Int.tdiv_eq_ediv_of_nonneg (by omega), i64_id (by omega) (by omega)]
  omega
set_option maxHeartbeats 4000000 in
theorem digits_ok (n : Nat) (hn : n ≤ 65535) : PFn Tryd.prog 32 [vi n] (vs (if n = 0 then es else BA (Lib.itoa n))) := by
  refine fn_of Tryd.func32 rfl Tryd.ntmps32 Tryd.results32 rfl fun G => ?_
  have hit : Lib.itoa (n : Nat) = Lib.decDigits n := by unfold Lib.itoa; rw [if_neg (by omega)]; rfl
  rw [hit]
  repeat' (first | apply ar_nil | (apply ar_ev; (apply ev_assign; rfl); rfl) | apply aw_seq | apply a_region | apply aw_block | apply go_seq)
  refine a_loop (fun g : Nat × List UInt8 => ⟨[(0, vi g.1), (3, vs (BA g.2))], []⟩) (fun g => g.1 + g.2.length ≤ 65535 ∧ (if g.1 = 0 then (if n = 0 then es else BA (Lib.decDigits n)) = BA g.2 else n ≠ 0 ∧ Lib.decDigits n = Lib.decDigits g.1 ++ g.2)) (fun g => g.1) (n, []) (Sub.of (by repeat (first | exact .nil | refine .cons rfl Le.refl ?_)) (by repeat (first | exact Takes.nil | (apply Takes.cons; focus (repeat (first | exact Take.head | apply Take.tail | apply Take.right)))))) ⟨by simpa using hn, by
    dsimp only
    split
    · rfl
    · rename_i h; exact ⟨h, by simp⟩⟩ ?_
  rintro ⟨m, acc⟩ ⟨hl, hd⟩
  dsimp only at *
  repeat' (first | apply ar_nil | (apply ar_ev; (apply ev_move; rfl); rfl) | (apply ar_ev; (apply ev_gtr; rfl; rfl); rfl) | apply aw_seq | apply a_region | apply go_seq)
  refine aw_condp rfl (fun hk => ?_) (fun hk => ?_)
  · rw [if_neg (by omega)] at hd
    obtain ⟨hn0, hd⟩ := hd
    have hd1 := digit_u8 m
    have ht := tmod10 m
    have hq := quo10 m (by omega)
    have hsz : (BA acc).size = acc.length := BA_size acc
    have hnx : (if m / 10 = 0 then (if n = 0 then es else BA (Lib.decDigits n)) = BA (UInt8.ofNat (48 + m % 10) :: acc) else n ≠ 0 ∧ Lib.decDigits n = Lib.decDigits (m / 10) ++ (UInt8.ofNat (48 + m % 10) :: acc)) := by
      have hm : Lib.decDigits m = if h : m < 10 then [UInt8.ofNat (48 + m)] else Lib.decDigits (m / 10) ++ [UInt8.ofNat (48 + m % 10)] := by rw [Lib.decDigits]
      rw [hm] at hd
      split
      · rename_i h
        rw [dif_pos (by omega)] at hd
        rw [hd, show m % 10 = m by omega]; rfl
      · rename_i h
        rw [dif_neg (by omega)] at hd
        exact ⟨hn0, by rw [hd]; simp⟩
    generalize UInt8.ofNat (48 + m % 10) = c at *
    have hcat : (⟨#[c]⟩ : ByteArray) ++ BA acc = BA (c :: acc) := by
      show BA [c] ++ BA acc = _
      rw [← BA_bl (BA [c] ++ BA acc), bl_append]; simp
    have hs1 : (⟨#[c]⟩ : ByteArray).size = 1 := rfl
    clear hd
    repeat' (first | (rw [ht]) | (rw [hd1]) | (rw [hq]) | (rw [hcat]) | (apply ar_new (d := 12); (apply eff_buildSlice; rfl; rfl; rfl; rfl; rfl; rfl; rfl); exact .nil; rfl; intro lab) | apply ar_nil | (apply ar_ev; (apply ev_move; rfl); rfl) | (apply ar_ev; (first | (apply ev_conv_own (bs := [c]); rfl; exact Take.head) | (apply ev_rem; rfl; rfl; decide) | (apply ev_quow; rfl; rfl; decide) | (apply ev_cat; rfl; rfl; omega) | (apply ev_assign; rfl) | (apply ev_add; rfl; rfl; exact (by first | omega | assumption); exact (by first | omega | assumption)) | (apply ev_conv_int; rfl)); rfl) | apply aw_seq | apply a_region | apply aw_block | apply aw_skip | apply go_seq | apply go_block)
    exact go_loop_back ⟨(m / 10, c :: acc), ⟨by simp; omega, hnx⟩, by dsimp only; omega, Sub.of (by repeat (first | exact .nil | refine .cons rfl Le.refl ?_)) (by repeat (first | exact Takes.nil | (apply Takes.cons; focus (repeat (first | exact Take.head | apply Take.tail | apply Take.right)))))⟩
  · obtain rfl : m = 0 := by omega
    rw [if_pos rfl] at hd
    rw [hd]
    repeat' (first | apply ar_nil | (apply ar_ev; (apply ev_move; rfl); rfl) | (apply ar_ev; (apply ev_assign; rfl); rfl) | apply aw_seq | apply a_region | apply aw_exit | apply aw_ret | apply go_seq | apply go_seq_exit | apply go_block_exit | apply go_loop_exit)
    exact g_ret1 (r_tmp rfl) .nil rfl
end Go.Proofs.YtjdcljggbbeikaaDoor
