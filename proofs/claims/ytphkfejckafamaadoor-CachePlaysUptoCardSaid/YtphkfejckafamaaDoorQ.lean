import Derived.Test.YtphkfejckafamaaDoorO
set_option linter.unusedVariables false
set_option linter.unusedSimpArgs false
set_option maxRecDepth 100000
namespace Go.Proofs.YtphkfejckafamaaDoor
open Go.Proofs Go.Proofs.YtphkfejckafamaaDoorA

abbrev keyF (f : Fld) : List Value := [.string f.n, .string f.v, .bool f.w]
theorem keyF_eq (o p : Fld) : eqVs (keyF o) (keyF p) = decide (o = p) := by
  simp only [eqVs, eqV, toList_beq, Bool.and_true]
  rw [Bool.eq_iff_iff]
  obtain ⟨a, b, c⟩ := o
  obtain ⟨d, e, f⟩ := p
  simp
section
variable {st : St} {dst : Option Tmp} {ty : TypeId} {pos : String} {after : Array Edge} {g : Option (Nat × Bool)}
theorem ev_neF {t' : TypeId} {x y : Operand} {o p : Fld} (hx : st.get x = some (.agg (encF o))) (hy : st.get y = some (.agg (encF p))) : OpEv Tryd.prog ⟨dst, .binOp .neq 33 x y t', ty, pos, after, g⟩ st (vb (!decide (o = p))) := by
  rw [← keyF_eq]
  exact ev_net (P := Tryd.prog) (t := 33) hx hy rfl rfl rfl rfl
end
abbrev isl (l : List Int) : AV := .sl 1 (l.map fun s => [vi s]) l.length
theorem sameInts_ok (a b : List Int) (ha : a.length ≤ 4398046511104) : PFn Tryd.prog 40 [isl a, isl b] (vb (decide (a = b))) := by
  refine fn_of Tryd.func40 rfl Tryd.ntmps40 Tryd.results40 rfl fun G => ?_
  repeat' (first | apply ar_nil | (apply ar_ev; (apply ev_move; rfl); rfl) | (apply ar_ev; (first | (apply ev_assign; rfl) | (apply ev_neip; rfl; rfl) | (apply ev_len_sl; rfl)); rfl) | apply aw_seq | apply a_region | apply aw_block | apply aw_skip | apply aw_ret | (apply aw_condp; rfl; all_goals (intro hc; try (exfalso; first | omega | contradiction | (simp at hc; omega) | (simp_all; done)))) | apply go_seq | apply go_seq_ret)
  · exact g_ret1 (r_tmp rfl) .nil (by rw [decide_eq_false fun h => hc (by rw [h])])
  have hlen : a.length = b.length := by omega
  refine a_loop (fun i : Nat => ⟨[(0, isl a), (1, isl b), (5, vi i)], []⟩) (fun i => i ≤ a.length ∧ a.take i = b.take i) (fun i => a.length - i) 0 (Sub.of (by repeat (first | exact .nil | refine .cons rfl Le.refl ?_)) (by repeat (first | exact Takes.nil | (apply Takes.cons; focus (repeat (first | exact Take.head | apply Take.tail | apply Take.right)))))) ⟨Nat.zero_le _, rfl⟩ ?_
  rintro i ⟨hi, ht⟩
  repeat' (first | apply ar_nil | (apply ar_ev; (apply ev_move; rfl); rfl) | (apply ar_ev; (first | (apply ev_lss; rfl; rfl) | (apply ev_len_sl; rfl)); rfl) | apply aw_seq | apply a_region | apply go_seq)
  refine aw_condp rfl (fun hk => ?_) (fun hk => ?_)
  · obtain ⟨x, hx⟩ : ∃ x, a[i]? = some x := ⟨_, List.getElem?_eq_getElem (by omega)⟩
    obtain ⟨y, hy⟩ : ∃ y, b[i]? = some y := ⟨_, List.getElem?_eq_getElem (by omega)⟩
    have hx2 : (a.map fun s => [vi s])[i]? = some [vi x] := by rw [List.getElem?_map, hx]; rfl
    have hy2 : (b.map fun s => [vi s])[i]? = some [vi y] := by rw [List.getElem?_map, hy]; rfl
    have hst := take_eq_step hx hy
    repeat' (first | apply ar_nil | (apply ar_ev; (apply ev_move; rfl); rfl) | (apply ar_ev; (first | (apply ev_load_ip_one; rfl; rfl) | (apply ev_assign; rfl) | (apply ev_neip; rfl; rfl) | (apply ev_inc; rfl; exact (by first | omega | assumption)) | (apply ev_indexAddr_sl; rfl; rfl; exact (by first | omega | assumption); exact (by first | rfl | assumption | exact get_map (by assumption)))); rfl) | apply aw_seq | apply a_region | apply aw_block | apply aw_skip | apply aw_ret | (apply aw_condp; rfl; all_goals (intro hc; try (exfalso; first | omega | contradiction | (simp at hc; omega) | (simp_all; done)))) | apply go_seq | apply go_seq_ret | apply go_block | apply go_block_ret | apply go_loop_ret | (first | (apply a_drawN 2; rfl; rfl) | (apply a_drawN 3; rfl; rfl) | (apply a_drawN 4; rfl; rfl) | (apply a_drawN 5; rfl; rfl) | (apply a_drawN 6; rfl; rfl) | (apply a_drawN 7; rfl; rfl) | (apply a_drawN 8; rfl; rfl) | (apply a_drawN 9; rfl; rfl) | (apply a_drawN 10; rfl; rfl) | (apply a_drawN 11; rfl; rfl) | (apply a_drawN 12; rfl; rfl) | (apply a_drawN 13; rfl; rfl) | (apply a_drawN 14; rfl; rfl) | (apply a_drawN 15; rfl; rfl) | (apply a_drawN 16; rfl; rfl) | (apply a_drawN 17; rfl; rfl) | (apply a_drawN 18; rfl; rfl) | (apply a_drawN 19; rfl; rfl) | (apply a_drawN 20; rfl; rfl) | (apply a_drawN 21; rfl; rfl) | (apply a_drawN 22; rfl; rfl) | (apply a_drawN 23; rfl; rfl) | (apply a_drawN 24; rfl; rfl) | (apply a_drawN 25; rfl; rfl) | (apply a_drawN 26; rfl; rfl) | (apply a_drawN 27; rfl; rfl) | (apply a_drawN 28; rfl; rfl) | (apply a_drawN 29; rfl; rfl) | (apply a_drawN 30; rfl; rfl) | (apply a_drawN 31; rfl; rfl) | (apply a_drawN 32; rfl; rfl) | (apply a_drawN 33; rfl; rfl) | (apply a_drawN 34; rfl; rfl) | (apply a_drawN 35; rfl; rfl) | (apply a_drawN 36; rfl; rfl) | (apply a_drawN 37; rfl; rfl) | (apply a_drawN 38; rfl; rfl) | (apply a_drawN 39; rfl; rfl) | (apply a_drawN 40; rfl; rfl) | (apply a_drawN 41; rfl; rfl) | (apply a_drawN 42; rfl; rfl) | (apply a_drawN 43; rfl; rfl) | (apply a_drawN 44; rfl; rfl) | (apply a_drawN 45; rfl; rfl)))
    · exact g_ret1 (r_tmp rfl) .nil (by rw [decide_eq_false]; rintro rfl; rw [hx] at hy; exact absurd (Option.some.inj hy) ‹x ≠ y›)
    · exact go_loop_back ⟨i + 1, ⟨by omega, hst.2 ⟨ht, Decidable.not_not.1 hc⟩⟩, by omega, Sub.of (by repeat (first | exact .nil | refine .cons rfl Le.refl ?_)) (by repeat (first | exact Takes.nil | (apply Takes.cons; focus (repeat (first | exact Take.head | apply Take.tail | apply Take.right)))))⟩
  · obtain rfl : i = a.length := by omega
    repeat' (first | apply ar_nil | (apply ar_ev; (apply ev_assign; rfl); rfl) | apply aw_seq | apply a_region | apply aw_exit | apply aw_ret | apply go_seq | apply go_seq_exit | apply go_block_exit | apply go_loop_exit)
    exact g_ret1 (r_tmp rfl) .nil (by rw [decide_eq_true]; rw [List.take_length] at ht; rw [ht, hlen, List.take_length])
theorem sameFields_ok (a b : List Fld) (ha : a.length ≤ 4398046511104) : PFn Tryd.prog 72 [fsl a, fsl b] (vb (decide (a = b))) := by
  refine fn_of Tryd.func72 rfl Tryd.ntmps72 Tryd.results72 rfl fun G => ?_
  repeat' (first | apply ar_nil | (apply ar_ev; (apply ev_move; rfl); rfl) | (apply ar_ev; (first | (apply ev_assign; rfl) | (apply ev_neip; rfl; rfl) | (apply ev_len_sl; rfl)); rfl) | apply aw_seq | apply a_region | apply aw_block | apply aw_skip | apply aw_ret | (apply aw_condp; rfl; all_goals (intro hc; try (exfalso; first | omega | contradiction | (simp at hc; omega) | (simp_all; done)))) | apply go_seq | apply go_seq_ret)
  · exact g_ret1 (r_tmp rfl) .nil (by rw [decide_eq_false fun h => hc (by rw [h])])
  have hlen : a.length = b.length := by omega
  refine a_loop (fun i : Nat => ⟨[(0, fsl a), (1, fsl b), (5, vi i)], []⟩) (fun i => i ≤ a.length ∧ a.take i = b.take i) (fun i => a.length - i) 0 (Sub.of (by repeat (first | exact .nil | refine .cons rfl Le.refl ?_)) (by repeat (first | exact Takes.nil | (apply Takes.cons; focus (repeat (first | exact Take.head | apply Take.tail | apply Take.right)))))) ⟨Nat.zero_le _, rfl⟩ ?_
  rintro i ⟨hi, ht⟩
  repeat' (first | apply ar_nil | (apply ar_ev; (apply ev_move; rfl); rfl) | (apply ar_ev; (first | (apply ev_lss; rfl; rfl) | (apply ev_len_sl; rfl)); rfl) | apply aw_seq | apply a_region | apply go_seq)
  refine aw_condp rfl (fun hk => ?_) (fun hk => ?_)
  · obtain ⟨x, hx⟩ : ∃ x, a[i]? = some x := ⟨_, List.getElem?_eq_getElem (by omega)⟩
    obtain ⟨y, hy⟩ : ∃ y, b[i]? = some y := ⟨_, List.getElem?_eq_getElem (by omega)⟩
    have hx2 := fsl_get hx
    have hy2 := fsl_get hy
    have hst := take_eq_step hx hy
    by_cases hxy : x = y
    · repeat' (first | (rw [decide_eq_true hxy]) | apply ar_nil | (apply ar_ev; (apply ev_move; rfl); rfl) | (apply ar_ev; (first | (apply ev_neF (o := x) (p := y); rfl; rfl) | (apply ev_assign; rfl) | (apply ev_load_ip_agg; rfl; exact Nat.le_of_ble_eq_true rfl) | (apply ev_inc; rfl; exact (by first | omega | assumption)) | (apply ev_indexAddr_sl; rfl; rfl; exact (by first | omega | assumption); exact (by first | rfl | assumption | exact get_map (by assumption)))); rfl) | apply aw_seq | apply a_region | apply aw_block | apply aw_skip | (apply aw_cond_f; rfl) | apply go_seq | apply go_block | (first | (apply a_drawN 2; rfl; rfl) | (apply a_drawN 3; rfl; rfl) | (apply a_drawN 4; rfl; rfl) | (apply a_drawN 5; rfl; rfl) | (apply a_drawN 6; rfl; rfl) | (apply a_drawN 7; rfl; rfl) | (apply a_drawN 8; rfl; rfl) | (apply a_drawN 9; rfl; rfl) | (apply a_drawN 10; rfl; rfl) | (apply a_drawN 11; rfl; rfl) | (apply a_drawN 12; rfl; rfl) | (apply a_drawN 13; rfl; rfl) | (apply a_drawN 14; rfl; rfl) | (apply a_drawN 15; rfl; rfl) | (apply a_drawN 16; rfl; rfl) | (apply a_drawN 17; rfl; rfl) | (apply a_drawN 18; rfl; rfl) | (apply a_drawN 19; rfl; rfl) | (apply a_drawN 20; rfl; rfl) | (apply a_drawN 21; rfl; rfl) | (apply a_drawN 22; rfl; rfl) | (apply a_drawN 23; rfl; rfl) | (apply a_drawN 24; rfl; rfl) | (apply a_drawN 25; rfl; rfl) | (apply a_drawN 26; rfl; rfl) | (apply a_drawN 27; rfl; rfl) | (apply a_drawN 28; rfl; rfl) | (apply a_drawN 29; rfl; rfl) | (apply a_drawN 30; rfl; rfl) | (apply a_drawN 31; rfl; rfl) | (apply a_drawN 32; rfl; rfl) | (apply a_drawN 33; rfl; rfl) | (apply a_drawN 34; rfl; rfl) | (apply a_drawN 35; rfl; rfl) | (apply a_drawN 36; rfl; rfl) | (apply a_drawN 37; rfl; rfl) | (apply a_drawN 38; rfl; rfl) | (apply a_drawN 39; rfl; rfl) | (apply a_drawN 40; rfl; rfl) | (apply a_drawN 41; rfl; rfl) | (apply a_drawN 42; rfl; rfl) | (apply a_drawN 43; rfl; rfl) | (apply a_drawN 44; rfl; rfl) | (apply a_drawN 45; rfl; rfl)))
      · exact go_loop_back ⟨i + 1, ⟨by omega, hst.2 ⟨ht, hxy⟩⟩, by omega, Sub.of (by repeat (first | exact .nil | refine .cons rfl Le.refl ?_)) (by repeat (first | exact Takes.nil | (apply Takes.cons; focus (repeat (first | exact Take.head | apply Take.tail | apply Take.right)))))⟩
    · repeat' (first | (rw [decide_eq_false hxy]) | apply ar_nil | (apply ar_ev; (apply ev_move; rfl); rfl) | (apply ar_ev; (first | (apply ev_neF (o := x) (p := y); rfl; rfl) | (apply ev_assign; rfl) | (apply ev_load_ip_agg; rfl; exact Nat.le_of_ble_eq_true rfl) | (apply ev_indexAddr_sl; rfl; rfl; exact (by first | omega | assumption); exact (by first | rfl | assumption | exact get_map (by assumption)))); rfl) | apply aw_seq | apply a_region | apply aw_block | apply aw_skip | apply aw_ret | (apply aw_cond_t; rfl) | apply go_seq | apply go_seq_ret | apply go_block_ret | apply go_loop_ret | (first | (apply a_drawN 2; rfl; rfl) | (apply a_drawN 3; rfl; rfl) | (apply a_drawN 4; rfl; rfl) | (apply a_drawN 5; rfl; rfl) | (apply a_drawN 6; rfl; rfl) | (apply a_drawN 7; rfl; rfl) | (apply a_drawN 8; rfl; rfl) | (apply a_drawN 9; rfl; rfl) | (apply a_drawN 10; rfl; rfl) | (apply a_drawN 11; rfl; rfl) | (apply a_drawN 12; rfl; rfl) | (apply a_drawN 13; rfl; rfl) | (apply a_drawN 14; rfl; rfl) | (apply a_drawN 15; rfl; rfl) | (apply a_drawN 16; rfl; rfl) | (apply a_drawN 17; rfl; rfl) | (apply a_drawN 18; rfl; rfl) | (apply a_drawN 19; rfl; rfl) | (apply a_drawN 20; rfl; rfl) | (apply a_drawN 21; rfl; rfl) | (apply a_drawN 22; rfl; rfl) | (apply a_drawN 23; rfl; rfl) | (apply a_drawN 24; rfl; rfl) | (apply a_drawN 25; rfl; rfl) | (apply a_drawN 26; rfl; rfl) | (apply a_drawN 27; rfl; rfl) | (apply a_drawN 28; rfl; rfl) | (apply a_drawN 29; rfl; rfl) | (apply a_drawN 30; rfl; rfl) | (apply a_drawN 31; rfl; rfl) | (apply a_drawN 32; rfl; rfl) | (apply a_drawN 33; rfl; rfl) | (apply a_drawN 34; rfl; rfl) | (apply a_drawN 35; rfl; rfl) | (apply a_drawN 36; rfl; rfl) | (apply a_drawN 37; rfl; rfl) | (apply a_drawN 38; rfl; rfl) | (apply a_drawN 39; rfl; rfl) | (apply a_drawN 40; rfl; rfl) | (apply a_drawN 41; rfl; rfl) | (apply a_drawN 42; rfl; rfl) | (apply a_drawN 43; rfl; rfl) | (apply a_drawN 44; rfl; rfl) | (apply a_drawN 45; rfl; rfl)))
      · exact g_ret1 (r_tmp rfl) .nil (by rw [decide_eq_false]; rintro rfl; rw [hx] at hy; exact absurd (Option.some.inj hy) hxy)
  · obtain rfl : i = a.length := by omega
    repeat' (first | apply ar_nil | (apply ar_ev; (apply ev_assign; rfl); rfl) | apply aw_seq | apply a_region | apply aw_exit | apply aw_ret | apply go_seq | apply go_seq_exit | apply go_block_exit | apply go_loop_exit)
    exact g_ret1 (r_tmp rfl) .nil (by rw [decide_eq_true]; rw [List.take_length] at ht; rw [ht, hlen, List.take_length])
theorem same39_ok (a b : Rs) (ha : a.fs.length ≤ 4398046511104) : PFn Tryd.prog 39 [.agg (encR a), .agg (encR b)] (vb (decide (a = b))) := by
  refine fn_of Tryd.func39 rfl Tryd.ntmps39 Tryd.results39 rfl fun G => ?_
  have h1 := sameFields_ok a.fs b.fs ha
  have hd : decide (a = b) = (decide (a.st = b.st) && (decide (a.b = b.b) && decide (a.fs = b.fs))) := by
    obtain ⟨x, y, z⟩ := a
    obtain ⟨u, v, w⟩ := b
    rw [Bool.eq_iff_iff]
    simp
    exact fun _ => And.comm
  rw [hd]
  clear hd
  generalize decide (a.fs = b.fs) = F at *
  repeat' (first | apply ar_nil | (apply ar_splitp; (apply ev_move; rfl); rfl; all_goals (intro hc; try (exfalso; first | omega | contradiction | (simp at hc; omega) | (simp_all; done)))) | (apply ar_ev; (apply ev_move (y := .val (.bool false)); rfl); rfl) | (apply ar_ev; (first | (apply ev_load_ptr_one; rfl; (focus ((repeat (first | exact Take.head | apply Take.tail | apply Take.right)); done)); exact (by first | rfl | assumption | exact get_map (by assumption)); rfl) | (apply ev_fieldAddr_ptr; rfl) | (apply ev_assign; rfl) | (apply ev_pick_t; rfl; rfl) | (apply ev_pick_f; rfl; rfl) | (apply ev_eqip; rfl; rfl)); rfl) | (apply ar_new; (first | apply eff_alloc | (apply eff_box; rfl; exact lies_of rfl) | (apply eff_conv_bytes; rfl; exact (by first | omega | assumption | (simp; done) | (simp; omega) | exact Nat.le_of_ble_eq_true rfl))); exact .nil; rfl; intro lab) | (apply ar_skip; rfl; rfl; rfl; rfl; rfl) | (apply ar_take; rfl; rfl; rfl; (first | exact ev_call rfl rfl h1 | (apply ev_load_ptr_one; rfl; (focus ((repeat (first | exact Take.head | apply Take.tail | apply Take.right)); done)); exact (by first | rfl | assumption | exact get_map (by assumption)); rfl) | (apply ev_fieldAddr_ptr; rfl) | (apply ev_eqsp; rfl; rfl)); rfl) | apply aw_seq | apply a_region | apply aw_ret | apply go_seq)
  all_goals first | exact g_ret1 (r_tmp rfl) .nil (by simp_all) | skip
def okCf (c : Cf) : Bool := decide (0 ≤ c.e ∧ c.e ≤ 64) && (decide (0 ≤ c.b ∧ c.b ≤ 1152921504606846976) && (decide (0 ≤ c.l ∧ c.l ≤ 1152921504606846976) && decide (0 ≤ c.p ∧ c.p ≤ 1152921504606846976)))
def wrongN (n : Int) : Bool := decide (n < 0) || decide (n > 1152921504606846976)
theorem wrong_ok (n : Int) : PFn Tryd.prog 52 ([vi n] ++ []) (vb (wrongN n)) := by
  refine fn_of Tryd.func52 rfl Tryd.ntmps52 Tryd.results52 rfl fun G => ?_
  unfold wrongN
  repeat' (first | apply ar_nil | (apply ar_splitp; (apply ev_move; rfl); rfl; all_goals (intro hc; try (exfalso; first | omega | contradiction | (simp at hc; omega) | (simp_all; done)))) | (apply ar_ev; (apply ev_move; rfl); rfl) | (apply ar_ev; (first | (apply ev_assign; rfl) | (apply ev_pick_t; rfl; rfl) | (apply ev_pick_f; rfl; rfl) | (apply ev_lss; rfl; rfl)); rfl) | (apply ar_skip; rfl; rfl; rfl; rfl; rfl) | (apply ar_take; rfl; rfl; rfl; (apply ev_move; rfl); rfl) | (apply ar_take; rfl; rfl; rfl; (apply ev_gtr; rfl; rfl); rfl) | apply aw_seq | apply a_region | apply aw_ret | apply go_seq)
  all_goals exact g_ret1 (r_tmp rfl) .nil (by first | (simp_all; done) | (simp_all; omega))
theorem index_i (xs : List Int) (caps : List AV) (f : FuncId) [Ent Tryd.prog f] (p : Int → Bool) (hn : xs.length ≤ 1099511627776) (hp : ∀ x, x ∈ xs → PFn Tryd.prog f ([vi x] ++ caps) (vb (p x))) : PFn Tryd.prog 85 [isl xs, .fn f caps] (vi (findI p xs)) := by
  refine fn_of Tryd.func85 rfl Tryd.ntmps85 Tryd.results85 rfl fun G => ?_
  repeat' (first | apply ar_nil | (apply ar_ev; (apply ev_move; rfl); rfl) | (apply ar_ev; (first | (apply ev_assign; rfl) | (apply ev_len_sl; rfl)); rfl) | apply aw_seq | apply a_region | apply aw_block | apply go_seq)
  refine a_loop (fun i : Nat => ⟨[(0, isl xs), (1, .fn f caps), (7, vi xs.length), (8, vi i)], []⟩) (fun i => i ≤ xs.length ∧ ∀ j y, j < i → xs[j]? = some y → p y = false) (fun i => xs.length - i) 0 (Sub.of (by repeat (first | exact .nil | refine .cons rfl Le.refl ?_)) (by repeat (first | exact Takes.nil | (apply Takes.cons; focus (repeat (first | exact Take.head | apply Take.tail | apply Take.right)))))) ⟨Nat.zero_le _, fun j y hj => by omega⟩ ?_
  rintro i ⟨hi, ht⟩
  repeat' (first | apply ar_nil | (apply ar_ev; (apply ev_lss; rfl; rfl); rfl) | apply aw_seq | apply a_region | apply go_seq)
  refine aw_condp rfl (fun hk => ?_) (fun hk => ?_)
  · obtain ⟨x, hx⟩ : ∃ x, xs[i]? = some x := ⟨_, List.getElem?_eq_getElem (by omega)⟩
    have hx2 : (xs.map fun s => [vi s])[i]? = some [vi x] := by rw [List.getElem?_map, hx]; rfl
    have hpx := hp x (List.mem_of_getElem? hx)
    repeat' (first | apply ar_nil | (apply ar_ev; (apply ev_move; rfl); rfl) | (apply ar_ev; (first | exact ev_call rfl rfl hpx | (apply ev_load_ip_one; rfl; rfl) | (apply ev_assign; rfl) | (apply ev_inc; rfl; exact (by first | omega | assumption)) | (apply ev_indexAddr_sl; rfl; rfl; exact (by first | omega | assumption); exact (by first | rfl | assumption | exact get_map (by assumption)))); rfl) | apply aw_seq | apply a_region | apply aw_block | apply aw_skip | apply aw_ret | (apply aw_condb; rfl; all_goals (intro hc; try (exfalso; first | omega | contradiction | (simp at hc; omega) | (simp_all; done)))) | apply go_seq | apply go_seq_ret | apply go_block | apply go_block_ret | apply go_loop_ret)
    · have e := place_at ht hx hc
      have e2 : findI p xs = i := by unfold findI; rw [e, if_pos (by omega)]
      exact g_ret1 (r_tmp rfl) .nil (by rw [e2])
    · refine go_loop_back ⟨i + 1, ⟨by omega, fun j y hj hy => ?_⟩, by omega, Sub.of (by repeat (first | exact .nil | refine .cons rfl Le.refl ?_)) (by repeat (first | exact Takes.nil | (apply Takes.cons; focus (repeat (first | exact Take.head | apply Take.tail | apply Take.right)))))⟩
      by_cases hji : j = i
      · subst hji; rw [hx] at hy; cases hy; exact hc
      · exact ht j y (by omega) hy
  · obtain rfl : i = xs.length := by omega
    have e := place_none ht
    have e2 : findI p xs = -1 := by unfold findI; rw [e, if_neg (by omega)]
    repeat' (first | apply ar_nil | (apply ar_ev; (apply ev_assign; rfl); rfl) | apply aw_seq | apply a_region | apply aw_exit | apply aw_ret | apply go_seq | apply go_seq_exit | apply go_block_exit | apply go_loop_exit)
    exact g_ret1 (r_tmp rfl) .nil (by rw [e2])
theorem contains_i (xs : List Int) (caps : List AV) (f : FuncId) [Ent Tryd.prog f] (p : Int → Bool) (hn : xs.length ≤ 1099511627776) (hp : ∀ x, x ∈ xs → PFn Tryd.prog f ([vi x] ++ caps) (vb (p x))) : PFn Tryd.prog 53 [isl xs, .fn f caps] (vb (decide (findI p xs ≥ 0))) := by
  refine fn_of Tryd.func53 rfl Tryd.ntmps53 Tryd.results53 rfl fun G => ?_
  have h := index_i xs caps f p hn hp
  repeat' (first | apply ar_nil | (apply ar_ev; (apply ev_move; rfl); rfl) | (apply ar_ev; (first | exact ev_call rfl rfl h | (apply ev_assign; rfl) | (apply ev_geq; rfl; rfl)); rfl) | apply aw_seq | apply a_region | apply aw_ret | apply go_seq)
  exact g_ret1 (r_tmp rfl) .nil rfl
theorem new_ok (c : Cf) : FnC Tryd.prog 22 [] [.agg (encC c)] (fun ts v => (okCf c = true ∧ ∃ lc le, ts = ctok lc le c [] 0 0 ∧ v = .tup [.ptr lc 0 0, vi 0]) ∨ (okCf c = false ∧ ts = [] ∧ v = .tup [.val (.pointer none), vi 1])) := by
  refine fn_of Tryd.func22 rfl Tryd.ntmps22 Tryd.results22 rfl fun G => ?_
  have h1 := contains_i [c.b, c.l, c.p] [] 52 wrongN (by simp) (fun x _ => wrong_ok x)
  have h2 : decide (findI wrongN [c.b, c.l, c.p] ≥ 0) = (wrongN c.b || (wrongN c.l || wrongN c.p)) := by
    unfold findI placeN
    cases hb : wrongN c.b <;> cases hl : wrongN c.l <;> cases hp : wrongN c.p <;> simp [List.takeWhile, hb, hl, hp]
  rw [h2] at h1
  have hok : okCf c = (decide (0 ≤ c.e ∧ c.e ≤ 64) && !(wrongN c.b || (wrongN c.l || wrongN c.p))) := by
    unfold okCf wrongN
    rw [Bool.eq_iff_iff]
    simp
  generalize okCf c = O at *
  generalize (wrongN c.b || (wrongN c.l || wrongN c.p)) = W at *
  by_cases he : 0 ≤ c.e ∧ c.e ≤ 64
  · rw [decide_eq_true he, Bool.true_and] at hok
    obtain ⟨he1, he2⟩ := he
    cases W with
    | true =>
      repeat' (first | apply ar_nil | (apply ar_splitp; (apply ev_move; rfl); rfl; all_goals (intro hc; try (exfalso; first | omega | contradiction | (simp at hc; omega) | (simp_all; done)))) | (apply ar_ev; (first | (apply ev_load_ptr_one; rfl; (focus ((repeat (first | exact Take.head | apply Take.tail | apply Take.right)); done)); exact (by first | rfl | assumption | exact get_map (by assumption)); rfl) | (apply ev_fieldAddr_ptr; rfl) | (apply ev_assign; rfl) | (apply ev_pick_f; rfl; rfl) | (apply ev_lss; rfl; rfl)); rfl) | (apply ar_new; (first | apply eff_alloc | (apply eff_box; rfl; exact lies_of rfl) | (apply eff_conv_bytes; rfl; exact (by first | omega | assumption | (simp; done) | (simp; omega) | exact Nat.le_of_ble_eq_true rfl))); exact .nil; rfl; intro lab) | (apply ar_take; rfl; rfl; rfl; (apply ev_move; rfl); rfl) | (apply ar_take; rfl; rfl; rfl; (first | exact ev_call rfl rfl h1 | (apply ev_load_ptr_one; rfl; (focus ((repeat (first | exact Take.head | apply Take.tail | apply Take.right)); done)); exact (by first | rfl | assumption | exact get_map (by assumption)); rfl) | (apply ev_fieldAddr_ptr; rfl) | (apply ev_gtr; rfl; rfl) | (apply ev_buildSlice; rfl; rfl; rfl; rfl; rfl; rfl; rfl)); rfl) | apply aw_seq | apply a_region | apply aw_ret | (apply aw_cond_t; rfl) | apply go_seq | apply go_seq_ret)
      exact g_ret2 (us := []) (r_tmp rfl) (r_tmp rfl) .nil (.inr ⟨hok, rfl, rfl⟩)
    | false =>
      repeat' ((fail_if_success (show AW _ (.ret) _ _)); (first | apply ar_nil | (apply ar_splitp; (apply ev_move; rfl); rfl; all_goals (intro hc; try (exfalso; first | omega | contradiction | (simp at hc; omega) | (simp_all; done)))) | (apply ar_ev; (first | (apply ev_load_ptr_one; rfl; (focus ((repeat (first | exact Take.head | apply Take.tail | apply Take.right)); done)); exact (by first | rfl | assumption | exact get_map (by assumption)); rfl) | (apply ev_fieldAddr_ptr; rfl) | (apply ev_assign; rfl) | (apply ev_pick_f; rfl; rfl) | (apply ev_load_ptr_agg; rfl; (focus ((repeat (first | exact Take.head | apply Take.tail | apply Take.right)); done)); exact (by first | rfl | assumption | exact get_map (by assumption)); exact Nat.le_of_ble_eq_true rfl) | (apply ev_lss; rfl; rfl) | (apply ev_build; rfl; rfl; rfl)); rfl) | (apply ar_new; (first | apply eff_alloc | (apply eff_box; rfl; exact lies_of rfl) | (apply eff_conv_bytes; rfl; exact (by first | omega | assumption | (simp; done) | (simp; omega) | exact Nat.le_of_ble_eq_true rfl))); exact .nil; rfl; intro lab) | (apply ar_take; rfl; rfl; rfl; (apply ev_move; rfl); rfl) | (apply ar_take; rfl; rfl; rfl; (first | exact ev_call rfl rfl h1 | (apply ev_load_ptr_one; rfl; (focus ((repeat (first | exact Take.head | apply Take.tail | apply Take.right)); done)); exact (by first | rfl | assumption | exact get_map (by assumption)); rfl) | (apply ev_fieldAddr_ptr; rfl) | (apply ev_gtr; rfl; rfl) | (apply ev_buildSlice; rfl; rfl; rfl; rfl; rfl; rfl; rfl)); rfl) | apply aw_seq | apply a_region | apply aw_skip | (apply aw_cond_f; rfl) | apply go_seq))
      refine aw_adoptc (i := 0) (j := 4) 106 13 (by repeat (first | exact Take.head | apply Take.tail | apply Take.right)) rfl rfl fun le => ?_
      repeat' (apply aw_ret)
      exact g_ret2 (us := ctok lab le c [] 0 0) (r_tmp rfl) (r_tmp rfl) ((by repeat (first | exact Takes.nil | (apply Takes.cons; focus (repeat (first | exact Take.head | apply Take.tail | apply Take.right)))))) (.inl ⟨hok, lab, le, rfl, rfl⟩)
  · rw [decide_eq_false he, Bool.false_and] at hok
    have he2 : c.e < 0 ∨ 64 < c.e := by omega
    repeat' (first | apply ar_nil | (apply ar_splitp; (apply ev_move; rfl); rfl; all_goals (intro hc; try (exfalso; first | omega | contradiction | (simp at hc; omega) | (simp_all; done)))) | (apply ar_ev; (apply ev_move (y := .val (.bool true)); rfl); rfl) | (apply ar_ev; (first | (apply ev_load_ptr_one; rfl; (focus ((repeat (first | exact Take.head | apply Take.tail | apply Take.right)); done)); exact (by first | rfl | assumption | exact get_map (by assumption)); rfl) | (apply ev_fieldAddr_ptr; rfl) | (apply ev_assign; rfl) | (apply ev_pick_t; rfl; rfl) | (apply ev_pick_f; rfl; rfl) | (apply ev_lss; rfl; rfl)); rfl) | (apply ar_new; (first | apply eff_alloc | (apply eff_box; rfl; exact lies_of rfl) | (apply eff_conv_bytes; rfl; exact (by first | omega | assumption | (simp; done) | (simp; omega) | exact Nat.le_of_ble_eq_true rfl))); exact .nil; rfl; intro lab) | (apply ar_skip; rfl; rfl; rfl; rfl; rfl) | (apply ar_take; rfl; rfl; rfl; (first | (apply ev_load_ptr_one; rfl; (focus ((repeat (first | exact Take.head | apply Take.tail | apply Take.right)); done)); exact (by first | rfl | assumption | exact get_map (by assumption)); rfl) | (apply ev_fieldAddr_ptr; rfl) | (apply ev_gtr; rfl; rfl)); rfl) | apply aw_seq | apply a_region | apply aw_ret | (apply aw_cond_t; rfl) | apply go_seq | apply go_seq_ret)
    all_goals exact g_ret2 (us := []) (r_tmp rfl) (r_tmp rfl) .nil (.inr ⟨hok, rfl, rfl⟩)
end Go.Proofs.YtphkfejckafamaaDoor
