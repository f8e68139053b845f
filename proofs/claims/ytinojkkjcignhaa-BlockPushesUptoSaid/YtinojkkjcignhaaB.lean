import Derived.Test.YtinojkkjcignhaaA
set_option linter.unusedVariables false
set_option maxRecDepth 100000
namespace Go.Proofs.Ytinojkkjcignhaa
open Go.Proofs Go.Proofs.YtinojkkjcignhaaA

theorem clone_ok (xs : List (List AV)) (hn : xs.length ≤ 1099511627776) : FnC Try.prog 25 [] [.sl 2 xs xs.length] (fun ts r => ∃ l, ts = [(l, .row 42 2 xs)] ∧ r = .own l 0 xs.length) := by
  refine fn_of Try.func25 rfl Try.ntmps25 Try.results25 rfl fun G => ?_
  repeat' (first | apply ar_nil | (apply ar_ev; (apply ev_move; rfl); rfl) | (apply ar_ev; (apply ev_assign; rfl); rfl) | apply aw_seq | apply a_region | apply go_seq)
  refine ar_eff (eff_eqnil_sl rfl) .nil rfl ?_
  rintro ts' r ⟨rfl, b, rfl, hb⟩
  repeat' (first | apply ar_nil | apply go_seq)
  refine aw_condb rfl (fun hc => ?_) (fun hc => ?_)
  · have hx := hb hc
    subst hx
    refine aw_seq ?_
    refine a_region ?_
    refine ar_ev (ev_assign rfl) rfl ?_
    refine ar_adopt 2 42 2 rfl ?_
    intro lab
    repeat' (first | apply ar_nil | apply aw_ret | apply go_seq | apply go_seq_ret)
    exact g_ret1 (r_tmp rfl) (by repeat (first | exact Takes.nil | (apply Takes.cons; focus (repeat (first | exact Take.head | apply Take.tail | apply Take.right))))) ⟨lab, rfl, rfl⟩
  · refine aw_skip ?_
    refine go_seq ?_
    refine aw_seq ?_
    refine a_region ?_
    refine ar_new (eff_buildSlice rfl rfl rfl rfl rfl rfl rfl) .nil rfl ?_
    intro lab
    repeat' (apply ar_ev; (apply ev_move; rfl); rfl)
    apply ar_append; rfl; exact .head; rfl; exact (by first | omega | assumption | (simp; done) | (simp; omega) | exact Nat.le_of_ble_eq_true rfl); exact (by first | omega | assumption | (simp; done) | (simp; omega) | exact Nat.le_of_ble_eq_true rfl); exact (by first | omega | assumption | (simp; done) | (simp; omega) | exact Nat.le_of_ble_eq_true rfl); rfl; intro lb
    repeat' (first | apply ar_nil | (apply ar_ev; (apply ev_assign; rfl); rfl) | apply aw_ret | apply go_seq)
    refine g_ret1 (r_tmp rfl) (.cons .head .nil) ⟨lb, ?_, ?_⟩
    · simp
    · simp
theorem clone_fr (xs : List (List AV)) (hn : xs.length ≤ 1099511627776) : PFn Try.prog 25 [.sl 2 xs xs.length] (.sl 2 xs xs.length) := pfn_freeze (by simp) (clone_ok xs hn)

theorem own_ok (f : Frame) (hn : f.ps.length ≤ 1099511627776) : PFn Try.prog 12 [.agg (encF f)] (.agg (encF f)) := by
  refine fn_of Try.func12 rfl Try.ntmps12 Try.results12 rfl fun G => ?_
  repeat' (first | apply ar_nil | (apply ar_ev; (first | (apply ev_load_ptr_one; rfl; (focus ((repeat (first | exact Take.head | apply Take.tail | apply Take.right)); done)); exact (by first | rfl | assumption | exact get_map (by assumption)); rfl) | (apply ev_fieldAddr_ptr; rfl)); rfl) | (apply ar_new; (first | apply eff_alloc | (apply eff_box; rfl; exact lies_of rfl)); exact .nil; rfl; intro lab) | apply aw_seq | apply a_region | apply go_seq)
  refine ar_new (eff_append_nil rfl rfl (by first | omega | assumption | (simp; done) | (simp; omega) | exact Nat.le_of_ble_eq_true rfl) (by first | omega | assumption | (simp; done) | (simp; omega) | exact Nat.le_of_ble_eq_true rfl)) .nil rfl ?_
  intro lb
  refine ar_freeze 5 rfl .head (by simp) ?_
  rw [List.drop_zero, List.take_of_length_le (by simp)]
  repeat' (first | apply ar_nil | (apply ar_ev; (first | (apply ev_fieldAddr_ptr; rfl) | (apply ev_load_ptr_agg; rfl; (focus ((repeat (first | exact Take.head | apply Take.tail | apply Take.right)); done)); exact (by first | rfl | assumption | exact get_map (by assumption)); exact Nat.le_of_ble_eq_true rfl)); rfl) | (apply ar_store1; rfl; (focus ((repeat (first | exact Take.head | apply Take.tail | apply Take.right)); done)); rfl; rfl; exact (by first | rfl | assumption | exact get_map (by assumption)); rfl) | (apply ar_store; rfl; (focus ((repeat (first | exact Take.head | apply Take.tail | apply Take.right)); done)); rfl; rfl; exact (by first | rfl | assumption | exact get_map (by assumption)); rfl; rfl) | apply aw_seq | apply a_region | apply aw_ret | apply go_seq)
  apply g_ret1; (apply r_cell; rfl; exact (by repeat (first | exact Take.head | apply Take.tail | apply Take.right)); rfl; rfl); exact .nil; rfl

def made (f : Frame) : Frame := { f with ty := if andI f.ty 1 = 1 then 5 else 1, flags := andI f.flags 255, stream := 1 + andI f.stream 1048575, data := ⟨#[]⟩, pad := if andI (andI f.flags 255) 8 ≠ 0 then andI f.pad 255 else 0 }
theorem made_ok (f : Frame) (hn : f.ps.length ≤ 1099511627776) (hs : 0 ≤ andI f.stream 1048575) (hs2 : andI f.stream 1048575 ≤ 1048575) : PFn Try.prog 19 [.agg (encF f)] (.agg (encF (made f))) := by
  refine fn_of Try.func19 rfl Try.ntmps19 Try.results19 rfl fun G => ?_
  repeat' (first | apply ar_nil | (apply ar_ev; (first | exact ev_call rfl rfl (own_ok _ hn) | (apply ev_load_ptr_one; rfl; (focus ((repeat (first | exact Take.head | apply Take.tail | apply Take.right)); done)); exact (by first | rfl | assumption | exact get_map (by assumption)); rfl) | (apply ev_fieldAddr_ptr; rfl) | (apply ev_load_ptr_agg; rfl; (focus ((repeat (first | exact Take.head | apply Take.tail | apply Take.right)); done)); exact (by first | rfl | assumption | exact get_map (by assumption)); exact Nat.le_of_ble_eq_true rfl) | (apply ev_eqip; rfl; rfl) | (apply ev_neip; rfl; rfl) | (apply ev_add; rfl; rfl; exact (by first | omega | assumption); exact (by first | omega | assumption)) | (apply ev_andI; rfl; rfl)); rfl) | (apply ar_new; (first | apply eff_alloc | (apply eff_box; rfl; exact lies_of rfl)); exact .nil; rfl; intro lab) | (apply ar_store1; rfl; (focus ((repeat (first | exact Take.head | apply Take.tail | apply Take.right)); done)); rfl; rfl; exact (by first | rfl | assumption | exact get_map (by assumption)); rfl) | (apply ar_store; rfl; (focus ((repeat (first | exact Take.head | apply Take.tail | apply Take.right)); done)); rfl; rfl; exact (by first | rfl | assumption | exact get_map (by assumption)); rfl; rfl) | apply aw_seq | apply a_region | apply aw_skip | apply aw_ret | (apply aw_condp; rfl; all_goals (intro hc; try (exfalso; first | omega | contradiction | (simp at hc; omega) | (simp_all; done)))) | apply go_seq)
  all_goals (apply g_ret1; (apply r_cell; rfl; exact (by repeat (first | exact Take.head | apply Take.tail | apply Take.right)); rfl; rfl); exact .nil)
  all_goals simp_all [made]
  all_goals rfl

theorem New_ok : FnC Try.prog 8 [] [] (fun ts r => ∃ l, ts = [(l, .row 54 16 [vcells (.agg #[.bool false, .int .i64 0, .int .i64 0, .int .i64 0, .string ⟨#[]⟩, .int .i64 0, .int .i64 0, .bool false, .int .i64 0, .int .i64 0, .int .i64 0, .slice none 0 0, .pointer none, .slice none 0 0, .int .i64 0, .int .i64 0])])] ∧ r = .ptr l 0 0) := by
  refine fn_of Try.func8 rfl Try.ntmps8 Try.results8 rfl fun G => ?_
  repeat' (first | apply ar_nil | (apply ar_ev; (first | (apply ev_assign; rfl) | (apply ev_build; rfl; rfl; rfl)); rfl) | (apply ar_new; (first | apply eff_alloc | (apply eff_box; rfl; exact lies_of rfl)); exact .nil; rfl; intro lab) | apply aw_seq | apply a_region | apply aw_ret | apply go_seq)
  exact g_ret1 (r_tmp rfl) (.cons .head .nil) ⟨lab, rfl, rfl⟩
theorem RNew_ok : FnC Try.prog 10 [] [] (fun ts r => ∃ l, ts = [(l, .row 56 3 [vcells (.agg #[.slice none 0 0, .int .i64 0, .int .i64 0])])] ∧ r = .ptr l 0 0) := by
  refine fn_of Try.func10 rfl Try.ntmps10 Try.results10 rfl fun G => ?_
  repeat' (first | apply ar_nil | (apply ar_ev; (first | (apply ev_assign; rfl) | (apply ev_build; rfl; rfl; rfl)); rfl) | (apply ar_new; (first | apply eff_alloc | (apply eff_box; rfl; exact lies_of rfl)); exact .nil; rfl; intro lab) | apply aw_seq | apply a_region | apply aw_ret | apply go_seq)
  exact g_ret1 (r_tmp rfl) (.cons .head .nil) ⟨lab, rfl, rfl⟩

/-- A joiner's cells. -/
abbrev jc (busy : Bool) (h : List AV) (ad bf : AV) (c s : Int) : List AV := .val (.bool busy) :: (h ++ [ad, bf, vi c, vi s])

theorem Busy_ok (l : Nat) (b : Bool) (cs : List AV) (hl : (AV.val (.bool b) :: cs).length = 16) : FnC Try.prog 15 [(l, .row 54 16 [.val (.bool b) :: cs])] [.ptr l 0 0] (fun ts r => ts = [(l, .row 54 16 [.val (.bool b) :: cs])] ∧ r = vb b) := by
  refine fn_of Try.func15 rfl Try.ntmps15 Try.results15 rfl fun G => ?_
  repeat' (first | apply ar_nil | (apply ar_ev; (apply ev_move; rfl); rfl) | (apply ar_ev; (first | (apply ev_load_ptr_one; rfl; (focus ((repeat (first | exact Take.head | apply Take.tail | apply Take.right)); done)); exact (by first | rfl | assumption | exact get_map (by assumption)); rfl) | (apply ev_fieldAddr_ptr; rfl) | (apply ev_assign; rfl) | (apply ev_nilCheck_ptr; rfl)); rfl) | apply aw_seq | apply a_region | apply aw_ret | apply go_seq)
  exact g_ret1 (r_tmp rfl) (.cons .head .nil) ⟨rfl, rfl⟩
theorem RBusy0_ok (l : Nat) (cs : List AV) : FnC Try.prog 16 [(l, .row 56 3 [.val (.slice none 0 0) :: cs])] [.ptr l 0 0] (fun ts r => ts = [(l, .row 56 3 [.val (.slice none 0 0) :: cs])] ∧ r = vb false) := by
  refine fn_of Try.func16 rfl Try.ntmps16 Try.results16 rfl fun G => ?_
  repeat' (first | apply ar_nil | (apply ar_ev; (apply ev_move; rfl); rfl) | (apply ar_ev; (first | (apply ev_load_ptr_one; rfl; (focus ((repeat (first | exact Take.head | apply Take.tail | apply Take.right)); done)); exact (by first | rfl | assumption | exact get_map (by assumption)); rfl) | (apply ev_fieldAddr_ptr; rfl) | (apply ev_assign; rfl) | (apply ev_nilCheck_ptr; rfl) | (apply ev_gtr; rfl; rfl) | (apply ev_len_val; rfl)); rfl) | apply aw_seq | apply a_region | apply aw_ret | apply go_seq)
  exact g_ret1 (r_tmp rfl) (.cons .head .nil) ⟨rfl, by simp⟩
theorem RBusy1_ok (l l2 n : Nat) (cs : List AV) : FnC Try.prog 16 [(l, .row 56 3 [.own l2 0 n :: cs])] [.ptr l 0 0] (fun ts r => ts = [(l, .row 56 3 [.own l2 0 n :: cs])] ∧ r = vb (decide (0 < n))) := by
  refine fn_of Try.func16 rfl Try.ntmps16 Try.results16 rfl fun G => ?_
  repeat' (first | apply ar_nil | (apply ar_ev; (apply ev_move; rfl); rfl) | (apply ar_ev; (first | (apply ev_load_ptr_one; rfl; (focus ((repeat (first | exact Take.head | apply Take.tail | apply Take.right)); done)); exact (by first | rfl | assumption | exact get_map (by assumption)); rfl) | (apply ev_fieldAddr_ptr; rfl) | (apply ev_assign; rfl) | (apply ev_nilCheck_ptr; rfl) | (apply ev_gtr; rfl; rfl) | (apply ev_len_own; rfl)); rfl) | apply aw_seq | apply a_region | apply aw_ret | apply go_seq)
  refine g_ret1 (r_tmp rfl) (.cons .head .nil) ⟨rfl, ?_⟩
  congr 2
  simp
end Go.Proofs.Ytinojkkjcignhaa
