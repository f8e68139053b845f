import Derived.Test.YtphkfejckafamaaDoorJ
set_option linter.unusedVariables false
set_option linter.unusedSimpArgs false
set_option maxRecDepth 100000
namespace Go.Proofs.YtphkfejckafamaaDoor
open Go.Proofs Go.Proofs.YtphkfejckafamaaDoorA

/-- slices.Delete: what stands between goes, in its place. -/
theorem delete_ok (le : Nat) (xs : List (List AV)) (n i j : Nat) (hn : xs.length = n) (hij : i ≤ j) (hj : j ≤ n) : FnC Tryd.prog 90 [(le, .row 106 13 xs)] [.own le 0 n, vi i, vi j] (fun ts r => ts = [(le, .row 106 13 (xs.take i ++ xs.drop j))] ∧ r = .own le 0 (n - (j - i))) := by
  refine fn_of Tryd.func90 rfl Tryd.ntmps90 Tryd.results90 rfl fun G => ?_
  by_cases he : i = j
  · subst he
    repeat' (first | apply ar_nil | (apply ar_ev; (apply ev_move; rfl); rfl) | (apply ar_ev; (first | (apply ev_slice3_own; rfl; exact (by repeat (first | exact Take.head | apply Take.tail | apply Take.right)); rfl; rfl; rfl; omega; omega; omega) | (apply ev_assign; rfl) | (apply ev_eqip; rfl; rfl) | (apply ev_len_own; rfl)); rfl) | apply aw_seq | apply a_region | apply aw_ret | (apply aw_condp; rfl; all_goals (intro hc; try (exfalso; first | omega | contradiction | (simp at hc; omega) | (simp_all; done)))) | apply go_seq | apply go_seq_ret)
    have e2 : xs = xs.take i ++ xs.drop i := (List.take_append_drop _ _).symm
    have e3 : n - (i - i) = n := by omega
    rw [e3]
    exact g_ret1 (r_tmp rfl) (.cons .head .nil) ⟨congrArg (fun z => [(le, Tok.row 106 13 z)]) e2, rfl⟩
  · repeat' (first | (refine ar_eff (eff_append_room (xs := xs) rfl rfl (by omega) (by omega)) (.cons (by repeat (first | exact Take.head | apply Take.tail | apply Take.right)) .nil) rfl ?_; rintro _ _ ⟨rfl, rfl⟩) | (refine ar_effn (eff_clear rfl ?_) (.cons (by repeat (first | exact Take.head | apply Take.tail | apply Take.right)) .nil) ?_; (simp only [List.length_append, List.length_take, List.length_drop]; omega); rintro _ _ ⟨rfl, rfl⟩) | apply ar_nil | (apply ar_ev; (apply ev_move; rfl); rfl) | (apply ar_ev; (first | (apply ev_slice3_own; rfl; exact (by repeat (first | exact Take.head | apply Take.tail | apply Take.right)); rfl; rfl; rfl; omega; omega; omega) | (apply ev_assign; rfl) | (apply ev_eqip; rfl; rfl) | (apply ev_len_own; rfl) | (apply ev_slice_own; rfl; (focus ((repeat (first | exact Take.head | apply Take.tail | apply Take.right)); done)); exact (by first | exact LoB.none | exact LoB.some (l := 0) rfl | exact LoB.some (l := 1) rfl | exact LoB.some rfl); exact (by first | exact HiB.none | exact HiB.some rfl); exact (by first | omega | assumption); exact (by first | omega | assumption | (simp; done) | (simp; omega) | exact Nat.le_of_ble_eq_true rfl))); rfl) | apply aw_seq | apply a_region | apply aw_skip | apply aw_ret | (apply aw_condp; rfl; all_goals (intro hc; try (exfalso; first | omega | contradiction | (simp at hc; omega) | (simp_all; done)))) | apply go_seq | (first | (apply a_drawN 2; rfl; rfl) | (apply a_drawN 3; rfl; rfl) | (apply a_drawN 4; rfl; rfl) | (apply a_drawN 5; rfl; rfl) | (apply a_drawN 6; rfl; rfl) | (apply a_drawN 7; rfl; rfl) | (apply a_drawN 8; rfl; rfl) | (apply a_drawN 9; rfl; rfl) | (apply a_drawN 10; rfl; rfl) | (apply a_drawN 11; rfl; rfl) | (apply a_drawN 12; rfl; rfl) | (apply a_drawN 13; rfl; rfl) | (apply a_drawN 14; rfl; rfl) | (apply a_drawN 15; rfl; rfl) | (apply a_drawN 16; rfl; rfl) | (apply a_drawN 17; rfl; rfl) | (apply a_drawN 18; rfl; rfl) | (apply a_drawN 19; rfl; rfl) | (apply a_drawN 20; rfl; rfl) | (apply a_drawN 21; rfl; rfl) | (apply a_drawN 22; rfl; rfl) | (apply a_drawN 23; rfl; rfl) | (apply a_drawN 24; rfl; rfl) | (apply a_drawN 25; rfl; rfl) | (apply a_drawN 26; rfl; rfl) | (apply a_drawN 27; rfl; rfl) | (apply a_drawN 28; rfl; rfl) | (apply a_drawN 29; rfl; rfl) | (apply a_drawN 30; rfl; rfl) | (apply a_drawN 31; rfl; rfl) | (apply a_drawN 32; rfl; rfl) | (apply a_drawN 33; rfl; rfl) | (apply a_drawN 34; rfl; rfl) | (apply a_drawN 35; rfl; rfl) | (apply a_drawN 36; rfl; rfl) | (apply a_drawN 37; rfl; rfl) | (apply a_drawN 38; rfl; rfl) | (apply a_drawN 39; rfl; rfl) | (apply a_drawN 40; rfl; rfl) | (apply a_drawN 41; rfl; rfl) | (apply a_drawN 42; rfl; rfl) | (apply a_drawN 43; rfl; rfl) | (apply a_drawN 44; rfl; rfl) | (apply a_drawN 45; rfl; rfl)))
    refine g_ret1 (r_tmp rfl) (.cons .head .nil) ⟨congrArg (fun z => [(le, Tok.row 106 13 z)]) ?_, ?_⟩
    · have h1 : (xs.drop (0 + j)).take (n - j) = xs.drop j := by rw [Nat.zero_add]; exact List.take_of_length_le (by rw [List.length_drop, hn]; exact Nat.le_refl _)
      have h2 : (xs.take (i - 0)).length = i := by rw [List.length_take]; omega
      have h3 : (xs.take (i - 0) ++ xs.drop j).length = 0 + (i - 0 + (n - j)) := by rw [List.length_append, h2, List.length_drop, hn]; omega
      rw [h1, List.take_left' h3]
      rfl
    · have e3 : i - 0 + (n - j) = n - (j - i) := by omega
      rw [e3]
/-- The tokens of the cache itself: its book, its list. -/
abbrev ctok (lc le : Nat) (c : Cf) (ps : List En) (y k : Int) : List (Nat × Tok) := [(lc, .row 93 7 [cc c (.own le 0 ps.length) y k]), (le, .row 106 13 (ps.map cellsE))]
def sumZ (ps : List En) : Int := (ps.map fun p => (sizeN p.r : Int)).sum
theorem sumZ_nonneg (ps : List En) : 0 ≤ sumZ ps := by
  induction ps with
  | nil => exact Int.le_refl _
  | cons p ps ih => unfold sumZ at *; rw [List.map_cons, List.sum_cons]; omega
theorem sumZ_app (ps qs : List En) : sumZ (ps ++ qs) = sumZ ps + sumZ qs := by simp [sumZ]
theorem sumZ_one (p : En) : sumZ [p] = sizeN p.r := by simp [sumZ]
set_option maxHeartbeats 8000000 in
/-- The entries from i on, n of them, go out. -/
theorem out_ok (lc le : Nat) (c : Cf) (ps : List En) (y k : Int) (i n : Nat) (hy : y = sumZ ps) (hy2 : y ≤ 9223372036854775807) (hlen : ps.length ≤ 1048576) (h : i + n ≤ ps.length) :
    FnC Tryd.prog 69 (ctok lc le c ps y k) [.ptr lc 0 0, vi i, vi n] (fun ts r => ∃ lg, ts = [(lc, .row 93 7 [cc c (.own le 0 (ps.take i ++ ps.drop (i + n)).length) (sumZ (ps.take i ++ ps.drop (i + n))) k]), (le, .row 106 13 ((ps.take i ++ ps.drop (i + n)).map cellsE)), (lg, .row 2 1 (((ps.drop i).take n).map fun p => [vi p.st]))] ∧ r = .own lg 0 n) := by
  refine fn_of Tryd.func69 rfl Tryd.ntmps69 Tryd.results69 rfl fun G => ?_
  have hlm : (ps.map cellsE).length = ps.length := by simp
  repeat' ((fail_if_success (show AW _ (.region 2 _ _) _ _)); (first | apply ar_nil | (apply ar_ev; (apply ev_assign; rfl); rfl) | apply aw_seq | apply a_region | apply go_seq))
  refine aw_adopt 7 2 1 rfl fun lg0 => ?_
  repeat' (first | apply ar_nil | (apply ar_ev; (apply ev_move; rfl); rfl) | (apply ar_ev; (first | (apply ev_load_ptr_one; rfl; (focus ((repeat (first | exact Take.head | apply Take.tail | apply Take.right)); done)); exact (by first | rfl | assumption | exact get_map (by assumption)); rfl) | (apply ev_fieldAddr_ptr; rfl) | (apply ev_nilCheck_ptr; rfl) | (apply ev_add; rfl; rfl; exact (by first | omega | assumption); exact (by first | omega | assumption)) | (apply ev_len_own; rfl) | (apply ev_slice_own; rfl; (focus ((repeat (first | exact Take.head | apply Take.tail | apply Take.right)); done)); exact (by first | exact LoB.none | exact LoB.some (l := 0) rfl | exact LoB.some (l := 1) rfl | exact LoB.some rfl); exact (by first | exact HiB.none | exact HiB.some rfl); exact (by first | omega | assumption); exact (by first | omega | assumption | (simp; done) | (simp; omega) | exact Nat.le_of_ble_eq_true rfl))); rfl) | apply a_region | apply aw_block | apply go_seq)
  have en : i + n - i = n := by omega
  refine a_loop (fun g : Nat × Nat × Int => ⟨[(0, .ptr lc 0 0), (1, vi i), (2, vi n), (7, .own g.2.1 0 g.1), (18, .own le (0 + i) (i + n - i)), (19, vi (i + n - i : Nat)), (20, vi g.1)], [(g.2.1, .row 2 1 (((ps.drop i).take g.1).map fun p => [vi p.st])), (lc, .row 93 7 [cc c (.own le 0 ps.length) g.2.2 k]), (le, .row 106 13 (ps.map cellsE))]⟩) (fun g => g.1 ≤ n ∧ g.2.2 = y - sumZ ((ps.drop i).take g.1)) (fun g => n - g.1) (0, lg0, y) (Sub.of (by repeat (first | exact .nil | refine .cons rfl Le.refl ?_)) (by repeat (first | exact Takes.nil | (apply Takes.cons; focus (repeat (first | exact Take.head | apply Take.tail | apply Take.right)))))) ⟨Nat.zero_le _, by simp [sumZ]⟩ ?_
  rintro ⟨j, lg, v⟩ ⟨hj, hv⟩
  dsimp only at hj hv ⊢
  have hsplit : sumZ ps = sumZ (ps.take i) + (sumZ ((ps.drop i).take j) + sumZ ((ps.drop i).drop j)) := by
    rw [← sumZ_app, List.take_append_drop, ← sumZ_app, List.take_append_drop]
  have g1 := sumZ_nonneg (ps.take i)
  have g2 := sumZ_nonneg ((ps.drop i).take j)
  have g3 := sumZ_nonneg ((ps.drop i).drop j)
  by_cases hk : j < n
  · obtain ⟨p, hp⟩ : ∃ p, ps[i + j]? = some p := ⟨_, List.getElem?_eq_getElem (by omega)⟩
    have hp2 : (ps.map cellsE)[0 + i + j]? = some (cellsE p) := by rw [Nat.zero_add, List.getElem?_map, hp]; rfl
    have hp3 : (ps.drop i)[j]? = some p := by rw [List.getElem?_drop]; exact hp
    have ht : (ps.drop i).take (j + 1) = (ps.drop i).take j ++ [p] := by rw [List.take_add_one, hp3]; rfl
    have hd : (ps.drop i).drop j = p :: (ps.drop i).drop (j + 1) := by
      rw [List.drop_eq_getElem_cons (by rw [List.length_drop]; omega)]
      congr 1
      exact (List.getElem?_eq_some_iff.1 hp3).2
    have hz : sumZ ((ps.drop i).drop j) = sizeN p.r + sumZ ((ps.drop i).drop (j + 1)) := by rw [hd]; exact List.sum_cons
    have g4 := sumZ_nonneg ((ps.drop i).drop (j + 1))
    have hz2 : sumZ ((ps.drop i).take (j + 1)) = sumZ ((ps.drop i).take j) + sizeN p.r := by rw [ht, sumZ_app, sumZ_one]
    have hl : (((ps.drop i).take j).map fun p : En => [vi p.st]).length = j := by rw [List.length_map, List.length_take, List.length_drop]; omega
    have hrow : List.take j (List.drop 0 (((ps.drop i).take j).map fun p : En => [vi p.st])) ++ List.take 1 [[vi p.st]] = ((ps.drop i).take (j + 1)).map fun p : En => [vi p.st] := by
      rw [List.drop_zero, List.take_of_length_le (Nat.le_of_eq hl), ht]; simp
    clear hd hp ht
    repeat' (first | apply ar_nil | (apply ar_ev; (apply ev_move; rfl); rfl) | (apply ar_ev; (first | (apply ev_load_ptr_one; rfl; (focus ((repeat (first | exact Take.head | apply Take.tail | apply Take.right)); done)); exact (by first | rfl | assumption | exact get_map (by assumption)); rfl) | (apply ev_fieldAddr_ptr; rfl) | (apply ev_assign; rfl) | (apply ev_nilCheck_ptr; rfl) | (apply ev_load_ptr_agg; rfl; (focus ((repeat (first | exact Take.head | apply Take.tail | apply Take.right)); done)); exact (by first | rfl | assumption | exact get_map (by assumption)); exact Nat.le_of_ble_eq_true rfl) | (apply ev_lss; rfl; rfl) | (apply ev_inc; rfl; exact (by first | omega | assumption)) | (apply ev_sub; rfl; rfl; exact (by first | omega | assumption); exact (by first | omega | assumption)) | (apply ev_indexAddr_own; rfl; rfl; exact (by first | omega | assumption); (focus ((repeat (first | exact Take.head | apply Take.tail | apply Take.right)); done))) | (apply ev_buildSlice; rfl; rfl; rfl; rfl; rfl; rfl; rfl)); rfl) | (apply ar_new; (first | apply eff_alloc | (apply eff_box; rfl; exact lies_of rfl) | (apply eff_conv_bytes; rfl; exact (by first | omega | assumption | (simp; done) | (simp; omega) | exact Nat.le_of_ble_eq_true rfl))); exact .nil; rfl; intro lab) | (apply ar_store1; rfl; (focus ((repeat (first | exact Take.head | apply Take.tail | apply Take.right)); done)); rfl; rfl; exact (by first | rfl | assumption | exact get_map (by assumption)); rfl) | (apply ar_store; rfl; (focus ((repeat (first | exact Take.head | apply Take.tail | apply Take.right)); done)); rfl; rfl; exact (by first | rfl | assumption | exact get_map (by assumption)); rfl; rfl) | apply aw_seq | apply a_region | apply aw_block | apply aw_skip | (apply aw_condp; rfl; all_goals (intro hc; try (exfalso; first | omega | contradiction | (simp at hc; omega) | (simp_all; done)))) | apply go_seq | apply go_block | (first | (apply a_drawN 2; rfl; rfl) | (apply a_drawN 3; rfl; rfl) | (apply a_drawN 4; rfl; rfl) | (apply a_drawN 5; rfl; rfl) | (apply a_drawN 6; rfl; rfl) | (apply a_drawN 7; rfl; rfl) | (apply a_drawN 8; rfl; rfl) | (apply a_drawN 9; rfl; rfl) | (apply a_drawN 10; rfl; rfl) | (apply a_drawN 11; rfl; rfl) | (apply a_drawN 12; rfl; rfl) | (apply a_drawN 13; rfl; rfl) | (apply a_drawN 14; rfl; rfl) | (apply a_drawN 15; rfl; rfl) | (apply a_drawN 16; rfl; rfl) | (apply a_drawN 17; rfl; rfl) | (apply a_drawN 18; rfl; rfl) | (apply a_drawN 19; rfl; rfl) | (apply a_drawN 20; rfl; rfl) | (apply a_drawN 21; rfl; rfl) | (apply a_drawN 22; rfl; rfl) | (apply a_drawN 23; rfl; rfl) | (apply a_drawN 24; rfl; rfl) | (apply a_drawN 25; rfl; rfl) | (apply a_drawN 26; rfl; rfl) | (apply a_drawN 27; rfl; rfl) | (apply a_drawN 28; rfl; rfl) | (apply a_drawN 29; rfl; rfl) | (apply a_drawN 30; rfl; rfl) | (apply a_drawN 31; rfl; rfl) | (apply a_drawN 32; rfl; rfl) | (apply a_drawN 33; rfl; rfl) | (apply a_drawN 34; rfl; rfl) | (apply a_drawN 35; rfl; rfl) | (apply a_drawN 36; rfl; rfl) | (apply a_drawN 37; rfl; rfl) | (apply a_drawN 38; rfl; rfl) | (apply a_drawN 39; rfl; rfl) | (apply a_drawN 40; rfl; rfl) | (apply a_drawN 41; rfl; rfl) | (apply a_drawN 42; rfl; rfl) | (apply a_drawN 43; rfl; rfl) | (apply a_drawN 44; rfl; rfl) | (apply a_drawN 45; rfl; rfl)) | (apply ar_append; rfl; (focus ((repeat (first | exact Take.head | apply Take.tail | apply Take.right)); done)); rfl; exact (by first | omega | assumption | (simp; done) | (simp; omega) | exact Nat.le_of_ble_eq_true rfl); exact (by first | omega | assumption | (simp; done) | (simp; omega) | exact Nat.le_of_ble_eq_true rfl); exact (by first | omega | assumption | (simp; done) | (simp; omega) | exact Nat.le_of_ble_eq_true rfl); rfl; intro lab))
    all_goals exact go_loop_back ⟨(j + 1, _, v - sizeN p.r), ⟨by dsimp only; omega, by dsimp only; omega⟩, by dsimp only; omega, by dsimp only; exact Sub.of (by repeat (first | exact .nil | refine .cons rfl Le.refl ?_)) (by repeat (first | exact Takes.nil | (apply Takes.cons; focus (repeat (first | exact Take.head | exact Take.rowc hrow Take.head | apply Take.tail | apply Take.right)))))⟩
  · obtain rfl : j = n := by omega
    have hdel := delete_ok le (ps.map cellsE) ps.length i (i + j) hlm (by omega) h
    have hl2 : (ps.take i ++ ps.drop (i + j)).length = ps.length - (i + j - i) := by rw [List.length_append, List.length_take, List.length_drop]; omega
    have hz : v = sumZ (ps.take i ++ ps.drop (i + j)) := by rw [sumZ_app, ← List.drop_drop]; omega
    have hrow : (ps.map cellsE).take i ++ (ps.map cellsE).drop (i + j) = (ps.take i ++ ps.drop (i + j)).map cellsE := by rw [List.map_append, List.map_take, List.map_drop]
    rw [hrow, ← hl2] at hdel
    rw [Int.natCast_add] at hdel
    repeat' (first | (apply ar_call hdel; rfl; rfl; (focus ((repeat (first | exact Takes.nil | (apply Takes.cons; focus (repeat (first | exact Take.head | apply Take.tail | apply Take.right))))); done)); rfl; rintro _ _ ⟨rfl, rfl⟩) | apply ar_nil | (apply ar_ev; (apply ev_move; rfl); rfl) | (apply ar_ev; (first | (apply ev_load_ptr_one; rfl; (focus ((repeat (first | exact Take.head | apply Take.tail | apply Take.right)); done)); exact (by first | rfl | assumption | exact get_map (by assumption)); rfl) | (apply ev_fieldAddr_ptr; rfl) | (apply ev_assign; rfl) | (apply ev_nilCheck_ptr; rfl) | (apply ev_lss; rfl; rfl) | (apply ev_add; rfl; rfl; exact (by first | omega | assumption); exact (by first | omega | assumption))); rfl) | (apply ar_store1; rfl; (focus ((repeat (first | exact Take.head | apply Take.tail | apply Take.right)); done)); rfl; rfl; exact (by first | rfl | assumption | exact get_map (by assumption)); rfl) | apply aw_seq | apply a_region | apply aw_exit | apply aw_ret | (apply aw_condp; rfl; all_goals (intro hc; try (exfalso; first | omega | contradiction | (simp at hc; omega) | (simp_all; done)))) | apply go_seq | apply go_seq_exit | apply go_block_exit | apply go_loop_exit)
    rw [← hz]
    exact g_ret1 (r_tmp rfl) ((by repeat (first | exact Takes.nil | (apply Takes.cons; focus (repeat (first | exact Take.head | apply Take.tail | apply Take.right)))))) ⟨lg, rfl, rfl⟩
end Go.Proofs.YtphkfejckafamaaDoor
