import Derived.Test.YtmenbolalghljaaC
set_option linter.unusedVariables false
set_option linter.unusedSimpArgs false
set_option maxRecDepth 100000
namespace Go.Proofs.Ytmenbolalghljaa
open Go.Proofs Go.Proofs.YtmenbolalghljaaA

/-! Sizes; what stays. -/
def szE (e : En) : Nat := e.1.size + e.2.size + 32
def sumE : List En → Nat
  | [] => 0
  | e :: r => szE e + sumE r
theorem sumE_append (a b : List En) : sumE (a ++ b) = sumE a + sumE b := by
  induction a with
  | nil => simp [sumE]
  | cons e r ih => simp only [List.cons_append, sumE, ih]; omega
/-- The oldest go until the size is at most so much. -/
def shr (most : Int) : List En → List En
  | [] => []
  | e :: r => if (sumE (e :: r) : Int) > most then shr most r else e :: r
structure OkE (e : En) : Prop where
  a : e.1.size ≤ 1099511627776
  b : e.2.size ≤ 1099511627776
/-- A table's tokens: its own block; the row of those that move. -/
abbrev tabT (lt lm : Nat) (pre : List (List AV)) (mx : Int) (l : List En) : List (Nat × Tok) := [(lt, .row 63 3 [[vi mx, vi (sumE l), .own lm pre.length l.length]]), (lm, .row 66 2 (pre ++ l.map encT))]
theorem cv_tab {ts r r2 : List (Nat × Tok)} {lt lm : Nat} {pre : List (List AV)} {mx : Int} {l : List En} (h1 : Take ts lt (.row 63 3 [[vi mx, vi (sumE l), .own lm pre.length l.length]]) r) (h2 : Take ts lm (.row 66 2 (pre ++ l.map encT)) r2) : Cv ts (.ptr lt 0 0) (tabI mx (sumE l) l) := by
  refine Cv.ptrr h1 rfl (Cvs.cons .refl (Cvs.cons .refl (Cvs.cons ?_ .nil))) (fun y hy => ?_)
  · have := Cv.own (off := pre.length) (n := l.length) h2 (by simp)
    rwa [List.drop_left] at this
  · simp only [List.mem_cons, List.not_mem_nil, or_false] at hy
    rcases hy with rfl | rfl | rfl <;> rfl

theorem size_ok (e : En) (h : OkE e) : PFn Try.prog 37 [.agg (encT e)] (vi (szE e : Nat)) := by
  refine fn_of Try.func37 rfl Try.ntmps37 Try.results37 rfl fun G => ?_
  have h1 := h.a
  have h2 := h.b
  have hs : ((e.1.size : Int) + (e.2.size : Int) + 32) = ((szE e : Nat) : Int) := by unfold szE; omega
  repeat' (first | apply ar_nil | (apply ar_ev; (first | (apply ev_load_ptr_one; rfl; (focus ((repeat (first | exact Take.head | apply Take.tail | apply Take.right)); done)); exact (by first | rfl | assumption | exact get_map (by assumption)); rfl) | (apply ev_fieldAddr_ptr; rfl) | (apply ev_assign; rfl) | (apply ev_add; rfl; rfl; exact (by first | omega | assumption); exact (by first | omega | assumption)) | (apply ev_len_str; rfl)); rfl) | (apply ar_new; (first | apply eff_alloc | (apply eff_box; rfl; exact lies_of rfl) | (apply eff_conv_bytes; rfl; exact (by first | omega | assumption | (simp; done) | (simp; omega) | exact Nat.le_of_ble_eq_true rfl))); exact .nil; rfl; intro lab) | apply aw_seq | apply a_region | apply aw_ret | apply go_seq)
  rw [hs]
  exact g_ret1 (r_tmp rfl) .nil rfl
theorem bad_ok (n : Int) : PFn Try.prog 35 [vi n] (vb (decide (n < 0 ∨ 65536 < n))) := by
  refine fn_of Try.func35 rfl Try.ntmps35 Try.results35 rfl fun G => ?_
  repeat' (first | apply ar_nil | (apply ar_splitp; (apply ev_move; rfl); rfl; all_goals (intro hc; try (exfalso; first | omega | contradiction | (simp at hc; omega) | (simp_all; done)))) | (apply ar_ev; (apply ev_move; rfl); rfl) | (apply ar_ev; (first | (apply ev_assign; rfl) | (apply ev_pick_t; rfl; rfl) | (apply ev_pick_f; rfl; rfl) | (apply ev_lss; rfl; rfl)); rfl) | (apply ar_skip; rfl; rfl; rfl; rfl; rfl) | (apply ar_take; rfl; rfl; rfl; (apply ev_move; rfl); rfl) | (apply ar_take; rfl; rfl; rfl; (apply ev_gtr; rfl; rfl); rfl) | apply aw_seq | apply a_region | apply aw_ret | apply go_seq)
  all_goals exact g_ret1 (r_tmp rfl) .nil (by simp; omega)
theorem New_ok (n : Int) : FnC Try.prog 16 [] [vi n] (fun ts r => ((n < 0 ∨ 65536 < n) ∧ ts = [] ∧ r = .tup [.val (.pointer none), vi 1]) ∨
    (¬(n < 0 ∨ 65536 < n) ∧ ∃ lt lm, ts = tabT lt lm [] n [] ∧ r = .tup [.ptr lt 0 0, vi 0])) := by
  refine fn_of Try.func16 rfl Try.ntmps16 Try.results16 rfl fun G => ?_
  have hb := bad_ok n
  repeat' (first | apply ar_nil | (apply ar_ev; (apply ev_move; rfl); rfl) | (apply ar_ev; (first | exact ev_call rfl rfl hb | (apply ev_assign; rfl)); rfl) | apply aw_seq | apply a_region | apply go_seq)
  refine aw_condb rfl (fun hc => ?_) (fun hc => ?_)
  · repeat' (first | apply ar_nil | (apply ar_ev; (apply ev_assign; rfl); rfl) | apply aw_seq | apply a_region | apply aw_ret | apply go_seq | apply go_seq_ret)
    exact g_ret2 (r_tmp rfl) (r_tmp rfl) .nil (.inl ⟨by simpa using hc, rfl, rfl⟩)
  · repeat' ((fail_if_success (show AW _ (.ret) _ _)); (first | apply ar_nil | (apply ar_ev; (apply ev_move; rfl); rfl) | (apply ar_ev; (first | (apply ev_assign; rfl) | (apply ev_build; rfl; rfl; rfl)); rfl) | (apply ar_new; (first | apply eff_alloc | (apply eff_box; rfl; exact lies_of rfl) | (apply eff_conv_bytes; rfl; exact (by first | omega | assumption | (simp; done) | (simp; omega) | exact Nat.le_of_ble_eq_true rfl))); exact .nil; rfl; intro lab) | apply aw_seq | apply a_region | apply aw_skip | apply go_seq))
    refine aw_adoptc (i := 0) (j := 2) 66 2 .head rfl rfl fun lm => ?_
    repeat' (apply aw_ret)
    exact g_ret2 (r_tmp rfl) (r_tmp rfl) (us := tabT lab lm [] n []) (by repeat (first | exact Takes.nil | (apply Takes.cons; focus (repeat (first | exact Take.head | apply Take.tail | apply Take.right))))) (.inr ⟨by simpa using hc, lab, lm, rfl, rfl⟩)
theorem Len_ok (mx sz : Int) (l : List En) : PFn Try.prog 24 [tabI mx sz l] (vi l.length) := by
  refine fn_of Try.func24 rfl Try.ntmps24 Try.results24 rfl fun G => ?_
  repeat' (first | apply ar_nil | (apply ar_ev; (apply ev_move; rfl); rfl) | (apply ar_ev; (first | (apply ev_load_ip_one; rfl; rfl) | (apply ev_fieldAddr_ip; rfl) | (apply ev_assign; rfl) | (apply ev_nilCheck_ip; rfl) | (apply ev_len_sl; rfl)); rfl) | apply aw_seq | apply a_region | apply aw_ret | apply go_seq)
  exact g_ret1 (r_tmp rfl) .nil rfl
theorem Size_ok (mx sz : Int) (l : List En) : PFn Try.prog 22 [tabI mx sz l] (vi sz) := by
  refine fn_of Try.func22 rfl Try.ntmps22 Try.results22 rfl fun G => ?_
  repeat' (first | apply ar_nil | (apply ar_ev; (apply ev_move; rfl); rfl) | (apply ar_ev; (first | (apply ev_load_ip_one; rfl; rfl) | (apply ev_fieldAddr_ip; rfl) | (apply ev_assign; rfl) | (apply ev_nilCheck_ip; rfl)); rfl) | apply aw_seq | apply a_region | apply aw_ret | apply go_seq)
  exact g_ret1 (r_tmp rfl) .nil rfl
theorem Max_ok (mx sz : Int) (l : List En) : PFn Try.prog 21 [tabI mx sz l] (vi mx) := by
  refine fn_of Try.func21 rfl Try.ntmps21 Try.results21 rfl fun G => ?_
  repeat' (first | apply ar_nil | (apply ar_ev; (apply ev_move; rfl); rfl) | (apply ar_ev; (first | (apply ev_load_ip_one; rfl; rfl) | (apply ev_fieldAddr_ip; rfl) | (apply ev_assign; rfl) | (apply ev_nilCheck_ip; rfl)); rfl) | apply aw_seq | apply a_region | apply aw_ret | apply go_seq)
  exact g_ret1 (r_tmp rfl) .nil rfl
set_option maxHeartbeats 8000000 in
theorem shrink_ok (lt lm : Nat) (pre : List (List AV)) (mx most : Int) (l : List En) (hn : l.length ≤ 1099511627776) (hok : ∀ e, e ∈ l → OkE e) (hs : sumE l ≤ 65536) : FnC Try.prog 36 (tabT lt lm pre mx l) [.ptr lt 0 0, vi most] (fun ts r => (∃ pre', ts = tabT lt lm pre' mx (shr most l)) ∧ r = .tup []) := by
  refine fn_of Try.func36 rfl Try.ntmps36 Try.results36 rfl fun G => ?_
  repeat' (apply aw_block)
  refine a_loop (fun g : List (List AV) × List En => ⟨[(0, .ptr lt 0 0), (1, vi most)], tabT lt lm g.1 mx g.2⟩)
    (fun g => shr most g.2 = shr most l ∧ g.2.length ≤ l.length ∧ (∀ e, e ∈ g.2 → OkE e) ∧ sumE g.2 ≤ 65536) (fun g => g.2.length) (pre, l) (Sub.of (by repeat (first | exact .nil | refine .cons rfl Le.refl ?_)) (by repeat (first | exact Takes.nil | (apply Takes.cons; focus (repeat (first | exact Take.head | apply Take.tail | apply Take.right)))))) ⟨rfl, Nat.le_refl _, hok, hs⟩ ?_
  rintro ⟨pre, m⟩ ⟨hm, hln, hokm, hsm⟩
  dsimp only at *
  cases m with
  | nil =>
    repeat' (first | apply ar_nil | (apply ar_splitp; (apply ev_move; rfl); rfl; all_goals (intro hc; try (exfalso; first | omega | contradiction | (simp at hc; omega) | (simp_all; done)))) | (apply ar_ev; (apply ev_move; rfl); rfl) | (apply ar_ev; (first | (apply ev_load_ptr_one; rfl; (focus ((repeat (first | exact Take.head | apply Take.tail | apply Take.right)); done)); exact (by first | rfl | assumption | exact get_map (by assumption)); rfl) | (apply ev_fieldAddr_ptr; rfl) | (apply ev_nilCheck_ptr; rfl) | (apply ev_pick_f; rfl; rfl) | (apply ev_gtr; rfl; rfl) | (apply ev_len_own; rfl)); rfl) | (apply ar_skip; rfl; rfl; rfl; rfl; rfl) | apply aw_seq | apply a_region | apply aw_exit | (apply aw_cond_f; rfl) | apply go_seq | apply go_seq_exit | apply go_block_exit | apply go_loop_exit)
    exact g_end0 (us := tabT lt lm pre mx []) (by repeat (first | exact Takes.nil | (apply Takes.cons; focus (repeat (first | exact Take.head | apply Take.tail | apply Take.right))))) ⟨⟨pre, by rw [← hm]; rfl⟩, rfl⟩
  | cons e r =>
    have he := size_ok e (hokm e List.mem_cons_self)
    have hs2 : sumE (e :: r) = szE e + sumE r := rfl
    have hget : (pre ++ (e :: r).map encT)[pre.length + 0]? = some (encT e) := by simp
    have hln2 : (e :: r).length = r.length + 1 := rfl
    repeat' (first | apply ar_nil | (apply ar_splitp; (apply ev_move; rfl); rfl; all_goals (intro hc; try (exfalso; first | omega | contradiction | (simp at hc; omega) | (simp_all; done)))) | (apply ar_ev; (apply ev_move; rfl); rfl) | (apply ar_ev; (first | (apply ev_load_ptr_one; rfl; (focus ((repeat (first | exact Take.head | apply Take.tail | apply Take.right)); done)); exact (by first | rfl | assumption | exact get_map (by assumption)); rfl) | (apply ev_fieldAddr_ptr; rfl) | (apply ev_nilCheck_ptr; rfl) | (apply ev_pick_t; rfl; rfl) | (apply ev_gtr; rfl; rfl) | (apply ev_len_own; rfl)); rfl) | (apply ar_take; rfl; rfl; rfl; (apply ev_move; rfl); rfl) | (apply ar_take; rfl; rfl; rfl; (first | (apply ev_load_ptr_one; rfl; (focus ((repeat (first | exact Take.head | apply Take.tail | apply Take.right)); done)); exact (by first | rfl | assumption | exact get_map (by assumption)); rfl) | (apply ev_fieldAddr_ptr; rfl) | (apply ev_nilCheck_ptr; rfl) | (apply ev_gtr; rfl; rfl)); rfl) | apply aw_seq | apply a_region | apply go_seq)
    refine aw_condp rfl (fun hk => ?_) (fun hk => ?_)
    · have hsh : shr most (e :: r) = shr most r := if_pos hk
      have e1 : ((sumE (e :: r) : Nat) : Int) - ((szE e : Nat) : Int) = ((sumE r : Nat) : Int) := by omega
      have e2 : pre ++ (e :: r).map encT = (pre ++ [encT e]) ++ r.map encT := by simp
      have e3 : (pre ++ [encT e]).length = pre.length + 1 := by simp
      repeat' (first | apply ar_nil | (apply ar_ev; (apply ev_move; rfl); rfl) | (apply ar_ev; (first | exact ev_call rfl rfl he | (apply ev_load_ptr_one; rfl; (focus ((repeat (first | exact Take.head | apply Take.tail | apply Take.right)); done)); exact (by first | rfl | assumption | exact get_map (by assumption)); rfl) | (apply ev_fieldAddr_ptr; rfl) | (apply ev_nilCheck_ptr; rfl) | (apply ev_load_ptr_agg; rfl; (focus ((repeat (first | exact Take.head | apply Take.tail | apply Take.right)); done)); exact (by first | rfl | assumption | exact get_map (by assumption)); exact Nat.le_of_ble_eq_true rfl) | (apply ev_sub; rfl; rfl; exact (by first | omega | assumption); exact (by first | omega | assumption)) | (apply ev_indexAddr_own (i := 0); rfl; rfl; exact (by first | omega | assumption); (focus ((repeat (first | exact Take.head | apply Take.tail | apply Take.right)); done))) | (apply ev_slice_own; rfl; (focus ((repeat (first | exact Take.head | apply Take.tail | apply Take.right)); done)); exact (by first | exact LoB.none | exact LoB.some (l := 0) rfl | exact LoB.some (l := 1) rfl | exact LoB.some rfl); exact (by first | exact HiB.none | exact HiB.some rfl); exact (by first | omega | assumption); exact (by first | omega | assumption | (simp; done) | (simp; omega) | exact Nat.le_of_ble_eq_true rfl))); rfl) | (apply ar_store1; rfl; (focus ((repeat (first | exact Take.head | apply Take.tail | apply Take.right)); done)); rfl; rfl; exact (by first | rfl | assumption | exact get_map (by assumption)); rfl) | apply aw_seq | apply a_region | apply aw_block | apply aw_skip | apply go_seq | apply go_block | (first | (apply a_drawN 2; rfl; rfl) | (apply a_drawN 3; rfl; rfl) | (apply a_drawN 4; rfl; rfl) | (apply a_drawN 5; rfl; rfl) | (apply a_drawN 6; rfl; rfl) | (apply a_drawN 7; rfl; rfl) | (apply a_drawN 8; rfl; rfl) | (apply a_drawN 9; rfl; rfl) | (apply a_drawN 10; rfl; rfl) | (apply a_drawN 11; rfl; rfl) | (apply a_drawN 12; rfl; rfl) | (apply a_drawN 13; rfl; rfl) | (apply a_drawN 14; rfl; rfl) | (apply a_drawN 15; rfl; rfl) | (apply a_drawN 16; rfl; rfl) | (apply a_drawN 17; rfl; rfl) | (apply a_drawN 18; rfl; rfl) | (apply a_drawN 19; rfl; rfl) | (apply a_drawN 20; rfl; rfl) | (apply a_drawN 21; rfl; rfl) | (apply a_drawN 22; rfl; rfl) | (apply a_drawN 23; rfl; rfl) | (apply a_drawN 24; rfl; rfl) | (apply a_drawN 25; rfl; rfl) | (apply a_drawN 26; rfl; rfl) | (apply a_drawN 27; rfl; rfl) | (apply a_drawN 28; rfl; rfl) | (apply a_drawN 29; rfl; rfl) | (apply a_drawN 30; rfl; rfl) | (apply a_drawN 31; rfl; rfl) | (apply a_drawN 32; rfl; rfl) | (apply a_drawN 33; rfl; rfl) | (apply a_drawN 34; rfl; rfl) | (apply a_drawN 35; rfl; rfl) | (apply a_drawN 36; rfl; rfl) | (apply a_drawN 37; rfl; rfl) | (apply a_drawN 38; rfl; rfl) | (apply a_drawN 39; rfl; rfl) | (apply a_drawN 40; rfl; rfl) | (apply a_drawN 41; rfl; rfl) | (apply a_drawN 42; rfl; rfl) | (apply a_drawN 43; rfl; rfl) | (apply a_drawN 44; rfl; rfl) | (apply a_drawN 45; rfl; rfl)))
      exact go_loop_back ⟨(pre ++ [encT e], r), ⟨hsh ▸ hm, by dsimp only; omega, fun x hx => hokm x (List.mem_cons_of_mem _ hx), by dsimp only; omega⟩, by dsimp only; omega, by dsimp only [tabT]; rw [e3, ← e2, ← e1]; exact Sub.of (by repeat (first | exact .nil | refine .cons rfl Le.refl ?_)) (by repeat (first | exact Takes.nil | (apply Takes.cons; focus (repeat (first | exact Take.head | apply Take.tail | apply Take.right)))))⟩
    · have hsh : shr most (e :: r) = e :: r := if_neg hk
      repeat' (first | apply aw_exit | apply go_seq_exit | apply go_block_exit | apply go_loop_exit)
      exact g_end0 (us := tabT lt lm pre mx (e :: r)) (by repeat (first | exact Takes.nil | (apply Takes.cons; focus (repeat (first | exact Take.head | apply Take.tail | apply Take.right))))) ⟨⟨pre, by rw [← hm, hsh]⟩, rfl⟩
end Go.Proofs.Ytmenbolalghljaa
