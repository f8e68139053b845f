import Derived.Test.YtinojkkjcignhaaB
set_option linter.unusedVariables false
set_option maxRecDepth 100000
namespace Go.Proofs.Ytinojkkjcignhaa
open Go.Proofs Go.Proofs.YtinojkkjcignhaaA

abbrev pn : AV := .val (.pointer none)
abbrev sn : AV := .val (.slice none 0 0)
/-- A joiner's row. -/
abbrev jrow (b : Bool) (f : Frame) (x ad bf : AV) (c s : Int) : Tok := .row 54 16 [[.val (.bool b), vi f.ty, vi f.flags, vi f.stream, vs f.data, vi f.pad, vi f.dep, vb f.excl, vi f.weight, vi f.code, vi f.last, x, ad, bf, vi c, vi s]]

theorem noEscape (v : Value) (w : World) : (callFunc 34 #[v]).run Try.prog w = .ok (.value v) w := by
  rw [run_callFunc_extern Try.func34 (by kernel_rfl) (by kernel_rfl) (by kernel_rfl) (e := Extern.AbiNoEscape.same) (by kernel_rfl)]
  rfl

theorem check0_ok (l : Nat) (b : Bool) (f : Frame) (x bf : AV) (c s : Int) : FnC Try.prog 33 [(l, jrow b f x pn bf c s)] [.ptr l 0 12] (fun ts r => ts = [(l, jrow b f x (.ptr l 0 12) bf c s)] ∧ r = .tup []) := by
  refine fn_of Try.func33 rfl Try.ntmps33 Try.results33 rfl fun G => ?_
  repeat' (first | apply ar_nil | (apply ar_ev; (apply ev_move; rfl); rfl) | (apply ar_ev; (first | (apply ev_to_unsafe; exact Try.underlying70; rfl; rfl; exact (by repeat (first | exact Take.head | apply Take.tail | apply Take.right)); exact Nat.succ_pos _; rfl) | (apply ev_same_call; exact noEscape; rfl) | (apply ev_from_unsafe; exact Try.underlying70; kernel_rfl; kernel_rfl; rfl; exact (by repeat (first | exact Take.head | apply Take.tail | apply Take.right)); exact Nat.succ_pos _; rfl) | (apply ev_load_ptr_one; rfl; (focus ((repeat (first | exact Take.head | apply Take.tail | apply Take.right)); done)); exact (by first | rfl | assumption | exact get_map (by assumption)); rfl) | (apply ev_fieldAddr_ptr; rfl) | (apply ev_nilCheck_ptr; rfl) | (apply ev_eqnil_pv; rfl)); rfl) | (apply ar_store1; rfl; (focus ((repeat (first | exact Take.head | apply Take.tail | apply Take.right)); done)); rfl; rfl; exact (by first | rfl | assumption | exact get_map (by assumption)); rfl) | apply aw_seq | apply a_region | (apply aw_cond_t; rfl) | apply go_seq)
  exact g_end0 (.cons .head .nil) ⟨rfl, rfl⟩
theorem check1_ok (l : Nat) (b : Bool) (f : Frame) (x bf : AV) (c s : Int) : FnC Try.prog 33 [(l, jrow b f x (.ptr l 0 12) bf c s)] [.ptr l 0 12] (fun ts r => ts = [(l, jrow b f x (.ptr l 0 12) bf c s)] ∧ r = .tup []) := by
  refine fn_of Try.func33 rfl Try.ntmps33 Try.results33 rfl fun G => ?_
  repeat' (first | apply ar_nil | (apply ar_ev; (apply ev_move; rfl); rfl) | (apply ar_ev; (first | exact ev_neq_ptr_same rfl rfl | (apply ev_load_ptr_one; rfl; (focus ((repeat (first | exact Take.head | apply Take.tail | apply Take.right)); done)); exact (by first | rfl | assumption | exact get_map (by assumption)); rfl) | (apply ev_fieldAddr_ptr; rfl) | (apply ev_nilCheck_ptr; rfl) | (apply ev_eqnil_p; rfl; rfl)); rfl) | apply aw_seq | apply a_region | apply aw_skip | (apply aw_cond_f; rfl) | apply go_seq)
  exact g_end0 (.cons .head .nil) ⟨rfl, rfl⟩

theorem Len0_ok (l : Nat) (b : Bool) (f : Frame) (x ad : AV) (c s : Int) : FnC Try.prog 23 [(l, jrow b f x ad sn c s)] [.ptr l 0 12] (fun ts r => ts = [(l, jrow b f x ad sn c s)] ∧ r = vi 0) := by
  refine fn_of Try.func23 rfl Try.ntmps23 Try.results23 rfl fun G => ?_
  repeat' (first | apply ar_nil | (apply ar_ev; (apply ev_move; rfl); rfl) | (apply ar_ev; (first | (apply ev_load_ptr_one; rfl; (focus ((repeat (first | exact Take.head | apply Take.tail | apply Take.right)); done)); exact (by first | rfl | assumption | exact get_map (by assumption)); rfl) | (apply ev_fieldAddr_ptr; rfl) | (apply ev_assign; rfl) | (apply ev_nilCheck_ptr; rfl) | (apply ev_len_val; rfl)); rfl) | apply aw_seq | apply a_region | apply aw_ret | apply go_seq)
  exact g_ret1 (r_tmp rfl) (.cons .head .nil) ⟨rfl, rfl⟩
theorem Len1_ok (l lb n : Nat) (b : Bool) (f : Frame) (x ad : AV) (c s : Int) : FnC Try.prog 23 [(l, jrow b f x ad (.own lb 0 n) c s)] [.ptr l 0 12] (fun ts r => ts = [(l, jrow b f x ad (.own lb 0 n) c s)] ∧ r = vi n) := by
  refine fn_of Try.func23 rfl Try.ntmps23 Try.results23 rfl fun G => ?_
  repeat' (first | apply ar_nil | (apply ar_ev; (apply ev_move; rfl); rfl) | (apply ar_ev; (first | (apply ev_load_ptr_one; rfl; (focus ((repeat (first | exact Take.head | apply Take.tail | apply Take.right)); done)); exact (by first | rfl | assumption | exact get_map (by assumption)); rfl) | (apply ev_fieldAddr_ptr; rfl) | (apply ev_assign; rfl) | (apply ev_nilCheck_ptr; rfl) | (apply ev_len_own; rfl)); rfl) | apply aw_seq | apply a_region | apply aw_ret | apply go_seq)
  exact g_ret1 (r_tmp rfl) (.cons .head .nil) ⟨rfl, rfl⟩

theorem Reset_ok (l : Nat) (b : Bool) (f : Frame) (x ad bf : AV) (c s : Int) : FnC Try.prog 27 [(l, jrow b f x ad bf c s)] [.ptr l 0 12] (fun ts r => ts = [(l, jrow b f x pn sn c s)] ∧ r = .tup []) := by
  refine fn_of Try.func27 rfl Try.ntmps27 Try.results27 rfl fun G => ?_
  repeat' (first | apply ar_nil | (apply ar_ev; (apply ev_move; rfl); rfl) | (apply ar_ev; (first | (apply ev_fieldAddr_ptr; rfl) | (apply ev_nilCheck_ptr; rfl)); rfl) | (apply ar_store1; rfl; (focus ((repeat (first | exact Take.head | apply Take.tail | apply Take.right)); done)); rfl; rfl; exact (by first | rfl | assumption | exact get_map (by assumption)); rfl) | apply aw_seq | apply a_region | apply go_seq)
  exact g_end0 (.cons .head .nil) ⟨rfl, rfl⟩

theorem Write0_ok (l : Nat) (b : Bool) (f : Frame) (x : AV) (c s : Int) (t : ByteArray) (hn : t.size ≤ 1099511627776) : FnC Try.prog 24 [(l, jrow b f x pn sn c s)] [.ptr l 0 12, vs t] (fun ts r => ∃ lb, ts = [(l, jrow b f x (.ptr l 0 12) (.own lb 0 t.size) c s), (lb, .row 5 1 (u8cells t.data.toList))] ∧ r = .tup [vi t.size, .val .nilIface]) := by
  refine fn_of Try.func24 rfl Try.ntmps24 Try.results24 rfl fun G => ?_
  repeat' (first | apply ar_nil | (apply ar_ev; (apply ev_move; rfl); rfl) | (apply ar_ev; (apply ev_assign; rfl); rfl) | apply aw_seq | apply a_region | apply go_seq)
  apply ar_call (check0_ok l b f x sn c s); rfl; rfl; (focus ((repeat (first | exact Takes.nil | (apply Takes.cons; focus (repeat (first | exact Take.head | apply Take.tail | apply Take.right))))); done)); rfl; rintro _ _ ⟨rfl, rfl⟩
  repeat' (first | apply ar_nil | (apply ar_ev; (apply ev_move; rfl); rfl) | (apply ar_ev; (first | (apply ev_load_ptr_one; rfl; (focus ((repeat (first | exact Take.head | apply Take.tail | apply Take.right)); done)); exact (by first | rfl | assumption | exact get_map (by assumption)); rfl) | (apply ev_fieldAddr_ptr; rfl) | (apply ev_nilCheck_ptr; rfl)); rfl) | apply aw_seq | apply a_region | apply go_seq)
  refine ar_adopt 12 5 1 rfl ?_
  intro lb0
  apply ar_append_str; rfl; exact (by repeat (first | exact Take.head | apply Take.tail | apply Take.right)); rfl; exact (by first | omega | assumption | (simp; done) | (simp; omega) | exact Nat.le_of_ble_eq_true rfl); exact (by first | omega | assumption | (simp; done) | (simp; omega) | exact Nat.le_of_ble_eq_true rfl); exact (by first | omega | assumption | (simp; done) | (simp; omega) | exact Nat.le_of_ble_eq_true rfl); rfl; intro lb
  repeat' (first | apply ar_nil | (apply ar_ev; (apply ev_move; rfl); rfl) | (apply ar_ev; (first | (apply ev_fieldAddr_ptr; rfl) | (apply ev_assign; rfl) | (apply ev_nilCheck_ptr; rfl) | (apply ev_len_str; rfl)); rfl) | (apply ar_store1; rfl; (focus ((repeat (first | exact Take.head | apply Take.tail | apply Take.right)); done)); rfl; rfl; exact (by first | rfl | assumption | exact get_map (by assumption)); rfl) | apply aw_seq | apply a_region | apply aw_ret | apply go_seq)
  refine g_ret2 (r_tmp rfl) (r_tmp rfl) (.cons .head (.cons .head .nil)) ⟨lb, ?_, rfl⟩
  simp
theorem Write1_ok (l lb : Nat) (b : Bool) (f : Frame) (x : AV) (c s : Int) (bs : List UInt8) (t : ByteArray) (hn : bs.length + t.size ≤ 1099511627776) : FnC Try.prog 24 [(l, jrow b f x (.ptr l 0 12) (.own lb 0 bs.length) c s), (lb, .row 5 1 (u8cells bs))] [.ptr l 0 12, vs t] (fun ts r => ∃ lb', ts = [(l, jrow b f x (.ptr l 0 12) (.own lb' 0 (bs.length + t.size)) c s), (lb', .row 5 1 (u8cells (bs ++ t.data.toList)))] ∧ r = .tup [vi t.size, .val .nilIface]) := by
  refine fn_of Try.func24 rfl Try.ntmps24 Try.results24 rfl fun G => ?_
  repeat' (first | apply ar_nil | (apply ar_ev; (apply ev_move; rfl); rfl) | (apply ar_ev; (apply ev_assign; rfl); rfl) | apply aw_seq | apply a_region | apply go_seq)
  apply ar_call (check1_ok l b f x (.own lb 0 bs.length) c s); rfl; rfl; (focus ((repeat (first | exact Takes.nil | (apply Takes.cons; focus (repeat (first | exact Take.head | apply Take.tail | apply Take.right))))); done)); rfl; rintro _ _ ⟨rfl, rfl⟩
  repeat' (first | apply ar_nil | (apply ar_ev; (apply ev_move; rfl); rfl) | (apply ar_ev; (first | (apply ev_load_ptr_one; rfl; (focus ((repeat (first | exact Take.head | apply Take.tail | apply Take.right)); done)); exact (by first | rfl | assumption | exact get_map (by assumption)); rfl) | (apply ev_fieldAddr_ptr; rfl) | (apply ev_nilCheck_ptr; rfl)); rfl) | apply aw_seq | apply a_region | apply go_seq)
  apply ar_append_str; rfl; exact (by repeat (first | exact Take.head | apply Take.tail | apply Take.right)); rfl; exact (by simp [u8cells]); exact (by first | omega | assumption | (simp; done) | (simp; omega) | exact Nat.le_of_ble_eq_true rfl); exact (by first | omega | assumption | (simp; done) | (simp; omega) | exact Nat.le_of_ble_eq_true rfl); rfl; intro lb2
  repeat' (first | apply ar_nil | (apply ar_ev; (apply ev_move; rfl); rfl) | (apply ar_ev; (first | (apply ev_fieldAddr_ptr; rfl) | (apply ev_assign; rfl) | (apply ev_nilCheck_ptr; rfl) | (apply ev_len_str; rfl)); rfl) | (apply ar_store1; rfl; (focus ((repeat (first | exact Take.head | apply Take.tail | apply Take.right)); done)); rfl; rfl; exact (by first | rfl | assumption | exact get_map (by assumption)); rfl) | apply aw_seq | apply a_region | apply aw_ret | apply go_seq)
  refine g_ret2 (r_tmp rfl) (r_tmp rfl) (.cons .head (.cons .head .nil)) ⟨lb2, ?_, rfl⟩
  rw [List.drop_zero, List.take_of_length_le (by simp [u8cells])]
  simp [u8cells]

theorem String1_ok (l lb : Nat) (b : Bool) (f : Frame) (x ad : AV) (c s : Int) (bs : List UInt8) (hn : bs.length ≤ 1099511627776) : FnC Try.prog 26 [(l, jrow b f x ad (.own lb 0 bs.length) c s), (lb, .row 5 1 (u8cells bs))] [.ptr l 0 12] (fun ts r => ts = [(l, jrow b f x ad (.own lb 0 bs.length) c s)] ∧ r = vs ⟨bs.toArray⟩) := by
  refine fn_of Try.func26 rfl Try.ntmps26 Try.results26 rfl fun G => ?_
  by_cases h0 : bs = []
  · subst h0
    repeat' (first | apply ar_nil | (apply ar_ev; (apply ev_assign; rfl); rfl) | apply aw_seq | apply a_region | apply go_seq)
    refine a_mix [true, true, true, true, false, true, true, true, true, true, true, true] [0, 1, 2, 3, 5, 6, 7, 8, 9, 4, 10, 11] (by kernel_rfl) (by repeat (first | exact Als.nil | (apply Als.al; rfl) | (apply Als.other; rfl))) (.cons (.tail .head) .nil) ?_
    repeat' (first | (apply tl_ev; rfl; rfl; (apply ev_move; rfl); rfl) | (apply tl_ev; rfl; rfl; (first | (apply ev_load_ptr_one; rfl; (focus ((repeat (first | exact Take.head | apply Take.tail | apply Take.right)); done)); exact (by first | rfl | assumption | exact get_map (by assumption)); rfl) | (apply ev_fieldAddr_ptr; rfl) | (apply ev_nilCheck_ptr; rfl) | (apply ev_len_own; rfl)); rfl))
    refine tl_eff rfl rfl rfl (eff_sliceData0 rfl) (.cons .head .nil) rfl ?_
    rintro _ _ ⟨rfl, p, rfl⟩
    repeat' (first | apply aw_ret | apply go_seq | apply tl_nil | (apply tl_ev; rfl; rfl; (first | exact ev_unsafeString0 rfl rfl | (apply ev_assign; rfl)); rfl))
    exact g_ret1 (r_tmp rfl) (.cons (by repeat (first | exact Take.head | apply Take.tail | apply Take.right)) .nil) ⟨rfl, rfl⟩
  · have hpos : 0 < bs.length := List.length_pos_iff.2 h0
    repeat' (first | apply ar_nil | (apply ar_ev; (apply ev_assign; rfl); rfl) | apply aw_seq | apply a_region | apply go_seq)
    refine a_mix [true, true, true, true, false, true, true, true, true, true, false, true] [0, 1, 2, 3, 5, 6, 7, 8, 9, 4, 10, 11] (by kernel_rfl) (by repeat (first | exact Als.nil | (apply Als.al; rfl) | (apply Als.other; rfl))) (.cons (.tail .head) .nil) ?_
    repeat' (first | (apply tl_ev; rfl; rfl; (apply ev_move; rfl); rfl) | (apply tl_ev; rfl; rfl; (first | (apply ev_load_ptr_one; rfl; (focus ((repeat (first | exact Take.head | apply Take.tail | apply Take.right)); done)); exact (by first | rfl | assumption | exact get_map (by assumption)); rfl) | (apply ev_fieldAddr_ptr; rfl) | (apply ev_nilCheck_ptr; rfl) | (apply ev_len_own; rfl)); rfl))
    refine tl_evw rfl rfl rfl (ev_sliceData rfl hpos .head) rfl ?_
    refine tl_eff rfl rfl rfl (eff_unsafeString (by kernel_rfl) rfl rfl rfl h0 (by omega)) (.cons .head .nil) rfl ?_
    rintro _ _ ⟨rfl, rfl⟩
    repeat' (first | apply aw_ret | apply go_seq | apply tl_nil | (apply tl_ev; rfl; rfl; (apply ev_assign; rfl); rfl))
    exact g_ret1 (r_tmp rfl) (.cons (by repeat (first | exact Take.head | apply Take.tail | apply Take.right)) .nil) ⟨rfl, rfl⟩

/-! ### The same, the joiner lent -/
theorem LenI0_ok (ad : AV) (cs : List AV) : PFn Try.prog 23 [.ip (ad :: sn :: cs)] (vi 0) := by
  refine fn_of Try.func23 rfl Try.ntmps23 Try.results23 rfl fun G => ?_
  repeat' (first | apply ar_nil | (apply ar_ev; (apply ev_move; rfl); rfl) | (apply ar_ev; (first | (apply ev_load_ip_one; rfl; rfl) | (apply ev_fieldAddr_ip; rfl) | (apply ev_assign; rfl) | (apply ev_nilCheck_ip; rfl) | (apply ev_len_val; rfl)); rfl) | apply aw_seq | apply a_region | apply aw_ret | apply go_seq)
  exact g_ret1 (r_tmp rfl) .nil rfl
theorem LenI1_ok (lb n : Nat) (ad : AV) (cs : List AV) : PFn Try.prog 23 [.ip (ad :: .own lb 0 n :: cs)] (vi n) := by
  refine fn_of Try.func23 rfl Try.ntmps23 Try.results23 rfl fun G => ?_
  repeat' (first | apply ar_nil | (apply ar_ev; (apply ev_move; rfl); rfl) | (apply ar_ev; (first | (apply ev_load_ip_one; rfl; rfl) | (apply ev_fieldAddr_ip; rfl) | (apply ev_assign; rfl) | (apply ev_nilCheck_ip; rfl) | (apply ev_len_own; rfl)); rfl) | apply aw_seq | apply a_region | apply aw_ret | apply go_seq)
  exact g_ret1 (r_tmp rfl) .nil rfl
theorem BusyI_ok (b : Bool) (cs : List AV) : PFn Try.prog 15 [.ip (vb b :: cs)] (vb b) := by
  refine fn_of Try.func15 rfl Try.ntmps15 Try.results15 rfl fun G => ?_
  repeat' (first | apply ar_nil | (apply ar_ev; (apply ev_move; rfl); rfl) | (apply ar_ev; (first | (apply ev_load_ip_one; rfl; rfl) | (apply ev_fieldAddr_ip; rfl) | (apply ev_assign; rfl) | (apply ev_nilCheck_ip; rfl)); rfl) | apply aw_seq | apply a_region | apply aw_ret | apply go_seq)
  exact g_ret1 (r_tmp rfl) .nil rfl
theorem StringI_ok (lb : Nat) (ad : AV) (cs : List AV) (bs : List UInt8) (hn : bs.length ≤ 1099511627776) : FnC Try.prog 26 [(lb, .row 5 1 (u8cells bs))] [.ip (ad :: .own lb 0 bs.length :: cs)] (fun ts r => ts = [] ∧ r = vs ⟨bs.toArray⟩) := by
  refine fn_of Try.func26 rfl Try.ntmps26 Try.results26 rfl fun G => ?_
  by_cases h0 : bs = []
  · subst h0
    repeat' (first | apply ar_nil | (apply ar_ev; (apply ev_assign; rfl); rfl) | apply aw_seq | apply a_region | apply go_seq)
    refine a_mix [true, true, true, true, false, true, true, true, true, true, true, true] [0, 1, 2, 3, 5, 6, 7, 8, 9, 4, 10, 11] (by kernel_rfl) (by repeat (first | exact Als.nil | (apply Als.al; rfl) | (apply Als.other; rfl))) (.cons .head .nil) ?_
    repeat' (first | (apply tl_ev; rfl; rfl; (apply ev_move; rfl); rfl) | (apply tl_ev; rfl; rfl; (first | (apply ev_load_ip_one; rfl; rfl) | (apply ev_fieldAddr_ip; rfl) | (apply ev_nilCheck_ip; rfl) | (apply ev_len_own; rfl)); rfl))
    refine tl_eff rfl rfl rfl (eff_sliceData0 rfl) (.cons .head .nil) rfl ?_
    rintro _ _ ⟨rfl, p, rfl⟩
    repeat' (first | apply aw_ret | apply go_seq | apply tl_nil | (apply tl_ev; rfl; rfl; (first | exact ev_unsafeString0 rfl rfl | (apply ev_assign; rfl)); rfl))
    exact g_ret1 (r_tmp rfl) .nil ⟨rfl, rfl⟩
  · have hpos : 0 < bs.length := List.length_pos_iff.2 h0
    repeat' (first | apply ar_nil | (apply ar_ev; (apply ev_assign; rfl); rfl) | apply aw_seq | apply a_region | apply go_seq)
    refine a_mix [true, true, true, true, false, true, true, true, true, true, false, true] [0, 1, 2, 3, 5, 6, 7, 8, 9, 4, 10, 11] (by kernel_rfl) (by repeat (first | exact Als.nil | (apply Als.al; rfl) | (apply Als.other; rfl))) (.cons .head .nil) ?_
    repeat' (first | (apply tl_ev; rfl; rfl; (apply ev_move; rfl); rfl) | (apply tl_ev; rfl; rfl; (first | (apply ev_load_ip_one; rfl; rfl) | (apply ev_fieldAddr_ip; rfl) | (apply ev_nilCheck_ip; rfl) | (apply ev_len_own; rfl)); rfl))
    refine tl_evw rfl rfl rfl (ev_sliceData rfl hpos .head) rfl ?_
    refine tl_eff rfl rfl rfl (eff_unsafeString (by kernel_rfl) rfl rfl rfl h0 (by omega)) (.cons .head .nil) rfl ?_
    rintro _ _ ⟨rfl, rfl⟩
    repeat' (first | apply aw_ret | apply go_seq | apply tl_nil | (apply tl_ev; rfl; rfl; (apply ev_assign; rfl); rfl))
    exact g_ret1 (r_tmp rfl) .nil ⟨rfl, rfl⟩
end Go.Proofs.Ytinojkkjcignhaa
