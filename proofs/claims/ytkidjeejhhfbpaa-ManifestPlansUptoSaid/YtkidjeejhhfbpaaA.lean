import Derived.Test.YtkidjeejhhfbpaaTy
set_option linter.unusedVariables false
set_option linter.unusedSimpArgs false
set_option maxRecDepth 100000
namespace Go.Proofs.Ytkidjeejhhfbpaa
open Go.Proofs Go.Proofs.YtkidjeejhhfbpaaA

abbrev vi (n : Int) : AV := .val (.int .i64 n)
abbrev vb (b : Bool) : AV := .val (.bool b)
abbrev vs (s : ByteArray) : AV := .val (.string s)
abbrev v8 (c : UInt8) : AV := .val (.int .u8 c.toNat)
abbrev es : ByteArray := ⟨#[]⟩
/-- Targets, rules. -/
abbrev Tg : Type := ByteArray × ByteArray
abbrev encT (t : Tg) : List AV := [vs t.1, vs t.2]
abbrev tsl (l : List Tg) : AV := .sl 2 (l.map encT) l.length
abbrev Rl : Type := Tg × List Tg
abbrev encR (r : Rl) : List AV := [vs r.1.1, vs r.1.2, tsl r.2]
abbrev rsl (l : List Rl) : AV := .sl 3 (l.map encR) l.length
theorem tsl_get {l : List Tg} {i : Nat} {t : Tg} (h : l[i]? = some t) : (l.map encT)[i]? = some (encT t) := by simp [h]
theorem rsl_get {l : List Rl} {i : Nat} {r : Rl} (h : l[i]? = some r) : (l.map encR)[i]? = some (encR r) := by simp [h]
theorem eqs_dec (a b c d : ByteArray) : eqVs [.string a, .string b] [.string c, .string d] = decide (a = c ∧ b = d) := by
  simp only [eqVs, eqV, toList_beq, Bool.and_true]
  simp
instance memDec (x : Tg) (xs : List Tg) : Decidable (x ∈ xs) := decidable_of_iff (xs.any (fun y => decide (y = x)) = true) (by simp)
section
variable {st : St} {dst : Option Tmp} {ty : TypeId} {pos : String} {after : Array Edge} {g : Option (Nat × Bool)}
theorem ev_eqT {t' : TypeId} {x y : Operand} {a b c d : ByteArray} (hx : st.get x = some (.agg [vs a, vs b])) (hy : st.get y = some (.agg [vs c, vs d])) :
    OpEv Try.prog ⟨dst, .binOp .eql 35 x y t', ty, pos, after, g⟩ st (vb (decide (a = c ∧ b = d))) := by
  rw [← eqs_dec]
  exact ev_eqt hx hy rfl rfl rfl rfl
theorem ev_neT {t' : TypeId} {x y : Operand} {a b c d : ByteArray} (hx : st.get x = some (.agg [vs a, vs b])) (hy : st.get y = some (.agg [vs c, vs d])) :
    OpEv Try.prog ⟨dst, .binOp .neq 35 x y t', ty, pos, after, g⟩ st (vb (decide (¬ (a = c ∧ b = d)))) := by
  rw [show decide (¬ (a = c ∧ b = d)) = !decide (a = c ∧ b = d) by simp only [decide_not], ← eqs_dec]
  exact ev_net hx hy rfl rfl rfl rfl
end
theorem teq {t u : Tg} : (t.1 = u.1 ∧ t.2 = u.2) ↔ t = u := Prod.ext_iff.symm

theorem index_ok (xs : List Tg) (x : Tg) (hn : xs.length ≤ 1099511627776) : FnC Try.prog 38 [] [tsl xs, .agg (encT x)] (fun ts r => ts = [] ∧ ∃ n : Int, r = vi n ∧ (0 ≤ n ↔ x ∈ xs)) := by
  refine fn_of Try.func38 rfl Try.ntmps38 Try.results38 rfl fun G => ?_
  repeat' ((fail_if_success (show AW _ (.region 2 _ _) _ _)); (first | apply ar_nil | (apply ar_ev; (apply ev_move; rfl); rfl) | (apply ar_ev; (first | (apply ev_assign; rfl) | (apply ev_len_sl; rfl)); rfl) | (apply ar_new; (first | apply eff_alloc | (apply eff_box; rfl; exact lies_of rfl) | (apply eff_conv_bytes; rfl; exact (by first | omega | assumption | (simp; done) | (simp; omega) | exact Nat.le_of_ble_eq_true rfl))); exact .nil; rfl; intro lab) | apply aw_seq | apply a_region | apply aw_block | apply go_seq))
  refine a_loop (fun i : Nat => ⟨[(0, tsl xs), (3, .ptr lab 0 0), (7, vi xs.length), (8, vi i)], [(lab, .row 35 2 [encT x])]⟩) (fun i => i ≤ xs.length ∧ x ∉ xs.take i) (fun i => xs.length - i) 0 (Sub.of (by repeat (first | exact .nil | refine .cons rfl Le.refl ?_)) (by repeat (first | exact Takes.nil | (apply Takes.cons; focus (repeat (first | exact Take.head | apply Take.tail | apply Take.right)))))) ⟨Nat.zero_le _, by simp⟩ ?_
  rintro i ⟨hi, hx⟩
  repeat' (first | apply ar_nil | (apply ar_ev; (apply ev_lss; rfl; rfl); rfl) | apply aw_seq | apply a_region | apply go_seq)
  refine aw_condp rfl (fun hk => ?_) (fun hk => ?_)
  · obtain ⟨y, hy⟩ : ∃ y, xs[i]? = some y := ⟨_, List.getElem?_eq_getElem (by omega)⟩
    have hy2 := tsl_get hy
    repeat' (first | apply ar_nil | (apply ar_ev; (apply ev_move; rfl); rfl) | (apply ar_ev; (first | exact ev_eqT rfl rfl | (apply ev_assign; rfl) | (apply ev_load_ptr_agg; rfl; (focus ((repeat (first | exact Take.head | apply Take.tail | apply Take.right)); done)); exact (by first | rfl | assumption | exact get_map (by assumption)); exact Nat.le_of_ble_eq_true rfl) | (apply ev_load_ip_agg; rfl; exact Nat.le_of_ble_eq_true rfl) | (apply ev_inc; rfl; exact (by first | omega | assumption)) | (apply ev_indexAddr_sl; rfl; rfl; exact (by first | omega | assumption); exact (by first | rfl | assumption | exact get_map (by assumption)))); rfl) | apply aw_seq | apply a_region | apply aw_block | apply aw_skip | apply aw_ret | (apply aw_condp; rfl; all_goals (intro hc; try (exfalso; first | omega | contradiction | (simp at hc; omega) | (simp_all; done)))) | apply go_seq | apply go_seq_ret | apply go_block | apply go_block_ret | apply go_loop_ret | (first | (apply a_drawN 2; rfl; rfl) | (apply a_drawN 3; rfl; rfl) | (apply a_drawN 4; rfl; rfl) | (apply a_drawN 5; rfl; rfl) | (apply a_drawN 6; rfl; rfl) | (apply a_drawN 7; rfl; rfl) | (apply a_drawN 8; rfl; rfl) | (apply a_drawN 9; rfl; rfl) | (apply a_drawN 10; rfl; rfl) | (apply a_drawN 11; rfl; rfl) | (apply a_drawN 12; rfl; rfl) | (apply a_drawN 13; rfl; rfl) | (apply a_drawN 14; rfl; rfl) | (apply a_drawN 15; rfl; rfl) | (apply a_drawN 16; rfl; rfl) | (apply a_drawN 17; rfl; rfl) | (apply a_drawN 18; rfl; rfl) | (apply a_drawN 19; rfl; rfl) | (apply a_drawN 20; rfl; rfl) | (apply a_drawN 21; rfl; rfl) | (apply a_drawN 22; rfl; rfl) | (apply a_drawN 23; rfl; rfl) | (apply a_drawN 24; rfl; rfl) | (apply a_drawN 25; rfl; rfl) | (apply a_drawN 26; rfl; rfl) | (apply a_drawN 27; rfl; rfl) | (apply a_drawN 28; rfl; rfl) | (apply a_drawN 29; rfl; rfl) | (apply a_drawN 30; rfl; rfl) | (apply a_drawN 31; rfl; rfl) | (apply a_drawN 32; rfl; rfl) | (apply a_drawN 33; rfl; rfl) | (apply a_drawN 34; rfl; rfl) | (apply a_drawN 35; rfl; rfl) | (apply a_drawN 36; rfl; rfl) | (apply a_drawN 37; rfl; rfl) | (apply a_drawN 38; rfl; rfl) | (apply a_drawN 39; rfl; rfl) | (apply a_drawN 40; rfl; rfl) | (apply a_drawN 41; rfl; rfl) | (apply a_drawN 42; rfl; rfl) | (apply a_drawN 43; rfl; rfl) | (apply a_drawN 44; rfl; rfl) | (apply a_drawN 45; rfl; rfl)))
    · rw [teq] at hc
      exact g_ret1 (r_tmp rfl) .nil ⟨rfl, (i : Int), rfl, by rw [hc]; exact ⟨fun _ => List.mem_of_getElem? hy, fun _ => by omega⟩⟩
    · rw [teq] at hc
      refine go_loop_back ⟨i + 1, ⟨by omega, ?_⟩, by omega, Sub.of (by repeat (first | exact .nil | refine .cons rfl Le.refl ?_)) (by repeat (first | exact Takes.nil | (apply Takes.cons; focus (repeat (first | exact Take.head | apply Take.tail | apply Take.right)))))⟩
      rw [List.take_add_one, hy]
      simp only [Option.toList_some, List.mem_append, List.mem_singleton]
      rintro (h | h)
      · exact hx h
      · exact hc h
  · obtain rfl : i = xs.length := by omega
    rw [List.take_length] at hx
    repeat' (first | apply ar_nil | (apply ar_ev; (apply ev_assign; rfl); rfl) | apply aw_seq | apply a_region | apply aw_exit | apply aw_ret | apply go_seq | apply go_seq_exit | apply go_block_exit | apply go_loop_exit)
    exact g_ret1 (r_tmp rfl) .nil ⟨rfl, -1, rfl, ⟨fun h => by omega, fun h => absurd h hx⟩⟩
theorem contains_ok (xs : List Tg) (x : Tg) (hn : xs.length ≤ 1099511627776) : PFn Try.prog 36 [tsl xs, .agg (encT x)] (vb (decide (x ∈ xs))) := by
  refine fn_of Try.func36 rfl Try.ntmps36 Try.results36 rfl fun G => ?_
  repeat' (first | apply ar_nil | (apply ar_ev; (apply ev_move; rfl); rfl) | (apply ar_ev; (first | (apply ev_assign; rfl) | (apply ev_load_ptr_agg; rfl; (focus ((repeat (first | exact Take.head | apply Take.tail | apply Take.right)); done)); exact (by first | rfl | assumption | exact get_map (by assumption)); exact Nat.le_of_ble_eq_true rfl)); rfl) | (apply ar_new; (first | apply eff_alloc | (apply eff_box; rfl; exact lies_of rfl) | (apply eff_conv_bytes; rfl; exact (by first | omega | assumption | (simp; done) | (simp; omega) | exact Nat.le_of_ble_eq_true rfl))); exact .nil; rfl; intro lab) | apply aw_seq | apply a_region | apply go_seq)
  apply ar_call (index_ok xs x hn); rfl; rfl; (focus ((repeat (first | exact Takes.nil | (apply Takes.cons; focus (repeat (first | exact Take.head | apply Take.tail | apply Take.right))))); done)); rfl; rintro _ _ ⟨rfl, n, rfl, h⟩
  repeat' (first | apply ar_nil | (apply ar_ev; (first | (apply ev_assign; rfl) | (apply ev_geq; rfl; rfl)); rfl) | apply aw_ret | apply go_seq)
  exact g_ret1 (r_tmp rfl) .nil (by rw [decide_eq_decide.2 h])
theorem In_ok (xs : List Tg) (x : Tg) (hn : xs.length ≤ 1099511627776) : PFn Try.prog 30 [tsl xs, .agg (encT x)] (vb (decide (x ∈ xs))) := by
  refine fn_of Try.func30 rfl Try.ntmps30 Try.results30 rfl fun G => ?_
  repeat' ((fail_if_success (show AW _ (.region 1 _ _) _ _)); (first | apply ar_nil | (apply ar_ev; (apply ev_assign; rfl); rfl) | (apply ar_new; (first | apply eff_alloc | (apply eff_box; rfl; exact lies_of rfl) | (apply eff_conv_bytes; rfl; exact (by first | omega | assumption | (simp; done) | (simp; omega) | exact Nat.le_of_ble_eq_true rfl))); exact .nil; rfl; intro lab) | apply aw_seq | apply a_region | apply go_seq))
  refine aw_cv 3 (us := [(lab, .row 35 2 [encT x])]) rfl (.cons .head .nil) (Cv.ptr0 .head rfl) ?_
  repeat' (first | apply ar_nil | (apply ar_ev; (apply ev_assign; rfl); rfl) | apply a_region | apply aw_block | apply go_seq)
  refine a_loop (fun i : Nat => ⟨[(0, tsl xs), (3, .ip (encT x)), (5, vi i)], []⟩) (fun i => i ≤ xs.length ∧ x ∉ xs.take i) (fun i => xs.length - i) 0 (Sub.of (by repeat (first | exact .nil | refine .cons rfl Le.refl ?_)) (by repeat (first | exact Takes.nil | (apply Takes.cons; focus (repeat (first | exact Take.head | apply Take.tail | apply Take.right)))))) ⟨Nat.zero_le _, by simp⟩ ?_
  rintro i ⟨hi, hx⟩
  repeat' (first | apply ar_nil | (apply ar_ev; (apply ev_move; rfl); rfl) | (apply ar_ev; (first | (apply ev_lss; rfl; rfl) | (apply ev_len_sl; rfl)); rfl) | apply aw_seq | apply a_region | apply go_seq)
  refine aw_condp rfl (fun hk => ?_) (fun hk => ?_)
  · obtain ⟨y, hy⟩ : ∃ y, xs[i]? = some y := ⟨_, List.getElem?_eq_getElem (by omega)⟩
    have hy2 := tsl_get hy
    repeat' (first | apply ar_nil | (apply ar_ev; (apply ev_move; rfl); rfl) | (apply ar_ev; (first | exact ev_eqT rfl rfl | (apply ev_assign; rfl) | (apply ev_load_ip_agg; rfl; exact Nat.le_of_ble_eq_true rfl) | (apply ev_inc; rfl; exact (by first | omega | assumption)) | (apply ev_indexAddr_sl; rfl; rfl; exact (by first | omega | assumption); exact (by first | rfl | assumption | exact get_map (by assumption)))); rfl) | apply aw_seq | apply a_region | apply aw_block | apply aw_skip | apply aw_ret | (apply aw_condp; rfl; all_goals (intro hc; try (exfalso; first | omega | contradiction | (simp at hc; omega) | (simp_all; done)))) | apply go_seq | apply go_seq_ret | apply go_block | apply go_block_ret | apply go_loop_ret | (first | (apply a_drawN 2; rfl; rfl) | (apply a_drawN 3; rfl; rfl) | (apply a_drawN 4; rfl; rfl) | (apply a_drawN 5; rfl; rfl) | (apply a_drawN 6; rfl; rfl) | (apply a_drawN 7; rfl; rfl) | (apply a_drawN 8; rfl; rfl) | (apply a_drawN 9; rfl; rfl) | (apply a_drawN 10; rfl; rfl) | (apply a_drawN 11; rfl; rfl) | (apply a_drawN 12; rfl; rfl) | (apply a_drawN 13; rfl; rfl) | (apply a_drawN 14; rfl; rfl) | (apply a_drawN 15; rfl; rfl) | (apply a_drawN 16; rfl; rfl) | (apply a_drawN 17; rfl; rfl) | (apply a_drawN 18; rfl; rfl) | (apply a_drawN 19; rfl; rfl) | (apply a_drawN 20; rfl; rfl) | (apply a_drawN 21; rfl; rfl) | (apply a_drawN 22; rfl; rfl) | (apply a_drawN 23; rfl; rfl) | (apply a_drawN 24; rfl; rfl) | (apply a_drawN 25; rfl; rfl) | (apply a_drawN 26; rfl; rfl) | (apply a_drawN 27; rfl; rfl) | (apply a_drawN 28; rfl; rfl) | (apply a_drawN 29; rfl; rfl) | (apply a_drawN 30; rfl; rfl) | (apply a_drawN 31; rfl; rfl) | (apply a_drawN 32; rfl; rfl) | (apply a_drawN 33; rfl; rfl) | (apply a_drawN 34; rfl; rfl) | (apply a_drawN 35; rfl; rfl) | (apply a_drawN 36; rfl; rfl) | (apply a_drawN 37; rfl; rfl) | (apply a_drawN 38; rfl; rfl) | (apply a_drawN 39; rfl; rfl) | (apply a_drawN 40; rfl; rfl) | (apply a_drawN 41; rfl; rfl) | (apply a_drawN 42; rfl; rfl) | (apply a_drawN 43; rfl; rfl) | (apply a_drawN 44; rfl; rfl) | (apply a_drawN 45; rfl; rfl)))
    · rw [teq] at hc
      exact g_ret1 (r_tmp rfl) .nil (by rw [decide_eq_true]; rw [← hc]; exact List.mem_of_getElem? hy)
    · rw [teq] at hc
      refine go_loop_back ⟨i + 1, ⟨by omega, ?_⟩, by omega, Sub.of (by repeat (first | exact .nil | refine .cons rfl Le.refl ?_)) (by repeat (first | exact Takes.nil | (apply Takes.cons; focus (repeat (first | exact Take.head | apply Take.tail | apply Take.right)))))⟩
      rw [List.take_add_one, hy]
      simp only [Option.toList_some, List.mem_append, List.mem_singleton]
      rintro (h | h)
      · exact hx h
      · exact hc h.symm
  · obtain rfl : i = xs.length := by omega
    rw [List.take_length] at hx
    repeat' (first | apply ar_nil | (apply ar_ev; (apply ev_assign; rfl); rfl) | apply aw_seq | apply a_region | apply aw_exit | apply aw_ret | apply go_seq | apply go_seq_exit | apply go_block_exit | apply go_loop_exit)
    exact g_ret1 (r_tmp rfl) .nil (by rw [decide_eq_false hx])
theorem in_ok (xs : List Tg) (x : Tg) (hn : xs.length ≤ 1099511627776) : PFn Try.prog 19 [tsl xs, .agg (encT x)] (vb (decide (x ∈ xs))) := by
  refine fn_of Try.func19 rfl Try.ntmps19 Try.results19 rfl fun G => ?_
  repeat' ((fail_if_success (show AW _ (.region 1 _ _) _ _)); (first | apply ar_nil | (apply ar_ev; (apply ev_assign; rfl); rfl) | (apply ar_new; (first | apply eff_alloc | (apply eff_box; rfl; exact lies_of rfl) | (apply eff_conv_bytes; rfl; exact (by first | omega | assumption | (simp; done) | (simp; omega) | exact Nat.le_of_ble_eq_true rfl))); exact .nil; rfl; intro lab) | apply aw_seq | apply a_region | apply go_seq))
  refine aw_cv 3 (us := [(lab, .row 35 2 [encT x])]) rfl (.cons .head .nil) (Cv.ptr0 .head rfl) ?_
  repeat' (first | apply ar_nil | (apply ar_ev; (apply ev_assign; rfl); rfl) | apply a_region | apply aw_block | apply go_seq)
  refine a_loop (fun i : Nat => ⟨[(0, tsl xs), (3, .ip (encT x)), (5, vi i)], []⟩) (fun i => i ≤ xs.length ∧ x ∉ xs.take i) (fun i => xs.length - i) 0 (Sub.of (by repeat (first | exact .nil | refine .cons rfl Le.refl ?_)) (by repeat (first | exact Takes.nil | (apply Takes.cons; focus (repeat (first | exact Take.head | apply Take.tail | apply Take.right)))))) ⟨Nat.zero_le _, by simp⟩ ?_
  rintro i ⟨hi, hx⟩
  repeat' (first | apply ar_nil | (apply ar_ev; (apply ev_move; rfl); rfl) | (apply ar_ev; (first | (apply ev_lss; rfl; rfl) | (apply ev_len_sl; rfl)); rfl) | apply aw_seq | apply a_region | apply go_seq)
  refine aw_condp rfl (fun hk => ?_) (fun hk => ?_)
  · obtain ⟨y, hy⟩ : ∃ y, xs[i]? = some y := ⟨_, List.getElem?_eq_getElem (by omega)⟩
    have hy2 := tsl_get hy
    repeat' (first | apply ar_nil | (apply ar_ev; (apply ev_move; rfl); rfl) | (apply ar_ev; (first | exact ev_eqT rfl rfl | (apply ev_assign; rfl) | (apply ev_load_ip_agg; rfl; exact Nat.le_of_ble_eq_true rfl) | (apply ev_inc; rfl; exact (by first | omega | assumption)) | (apply ev_indexAddr_sl; rfl; rfl; exact (by first | omega | assumption); exact (by first | rfl | assumption | exact get_map (by assumption)))); rfl) | apply aw_seq | apply a_region | apply aw_block | apply aw_skip | apply aw_ret | (apply aw_condp; rfl; all_goals (intro hc; try (exfalso; first | omega | contradiction | (simp at hc; omega) | (simp_all; done)))) | apply go_seq | apply go_seq_ret | apply go_block | apply go_block_ret | apply go_loop_ret | (first | (apply a_drawN 2; rfl; rfl) | (apply a_drawN 3; rfl; rfl) | (apply a_drawN 4; rfl; rfl) | (apply a_drawN 5; rfl; rfl) | (apply a_drawN 6; rfl; rfl) | (apply a_drawN 7; rfl; rfl) | (apply a_drawN 8; rfl; rfl) | (apply a_drawN 9; rfl; rfl) | (apply a_drawN 10; rfl; rfl) | (apply a_drawN 11; rfl; rfl) | (apply a_drawN 12; rfl; rfl) | (apply a_drawN 13; rfl; rfl) | (apply a_drawN 14; rfl; rfl) | (apply a_drawN 15; rfl; rfl) | (apply a_drawN 16; rfl; rfl) | (apply a_drawN 17; rfl; rfl) | (apply a_drawN 18; rfl; rfl) | (apply a_drawN 19; rfl; rfl) | (apply a_drawN 20; rfl; rfl) | (apply a_drawN 21; rfl; rfl) | (apply a_drawN 22; rfl; rfl) | (apply a_drawN 23; rfl; rfl) | (apply a_drawN 24; rfl; rfl) | (apply a_drawN 25; rfl; rfl) | (apply a_drawN 26; rfl; rfl) | (apply a_drawN 27; rfl; rfl) | (apply a_drawN 28; rfl; rfl) | (apply a_drawN 29; rfl; rfl) | (apply a_drawN 30; rfl; rfl) | (apply a_drawN 31; rfl; rfl) | (apply a_drawN 32; rfl; rfl) | (apply a_drawN 33; rfl; rfl) | (apply a_drawN 34; rfl; rfl) | (apply a_drawN 35; rfl; rfl) | (apply a_drawN 36; rfl; rfl) | (apply a_drawN 37; rfl; rfl) | (apply a_drawN 38; rfl; rfl) | (apply a_drawN 39; rfl; rfl) | (apply a_drawN 40; rfl; rfl) | (apply a_drawN 41; rfl; rfl) | (apply a_drawN 42; rfl; rfl) | (apply a_drawN 43; rfl; rfl) | (apply a_drawN 44; rfl; rfl) | (apply a_drawN 45; rfl; rfl)))
    · rw [teq] at hc
      exact g_ret1 (r_tmp rfl) .nil (by rw [decide_eq_true]; rw [← hc]; exact List.mem_of_getElem? hy)
    · rw [teq] at hc
      refine go_loop_back ⟨i + 1, ⟨by omega, ?_⟩, by omega, Sub.of (by repeat (first | exact .nil | refine .cons rfl Le.refl ?_)) (by repeat (first | exact Takes.nil | (apply Takes.cons; focus (repeat (first | exact Take.head | apply Take.tail | apply Take.right)))))⟩
      rw [List.take_add_one, hy]
      simp only [Option.toList_some, List.mem_append, List.mem_singleton]
      rintro (h | h)
      · exact hx h
      · exact hc h.symm
  · obtain rfl : i = xs.length := by omega
    rw [List.take_length] at hx
    repeat' (first | apply ar_nil | (apply ar_ev; (apply ev_assign; rfl); rfl) | apply aw_seq | apply a_region | apply aw_exit | apply aw_ret | apply go_seq | apply go_seq_exit | apply go_block_exit | apply go_loop_exit)
    exact g_ret1 (r_tmp rfl) .nil (by rw [decide_eq_false hx])
theorem take_eq_step {α : Type} {a b : List α} {i : Nat} {x y : α} (ha : a[i]? = some x) (hb : b[i]? = some y) : a.take (i + 1) = b.take (i + 1) ↔ a.take i = b.take i ∧ x = y := by
  have h1 := (List.getElem?_eq_some_iff.1 ha).1
  have h2 := (List.getElem?_eq_some_iff.1 hb).1
  rw [List.take_add_one, List.take_add_one, ha, hb]
  constructor
  · intro h
    have := List.append_inj h (by simp; omega)
    exact ⟨this.1, by simpa using this.2⟩
  · rintro ⟨h, rfl⟩; rw [h]
theorem same_ok (a b : List Tg) (ha : a.length ≤ 1099511627776) : PFn Try.prog 14 [tsl a, tsl b] (vb (decide (a = b))) := by
  refine fn_of Try.func14 rfl Try.ntmps14 Try.results14 rfl fun G => ?_
  repeat' (first | apply ar_nil | (apply ar_ev; (apply ev_move; rfl); rfl) | (apply ar_ev; (first | (apply ev_assign; rfl) | (apply ev_neip; rfl; rfl) | (apply ev_len_sl; rfl)); rfl) | apply aw_seq | apply a_region | apply aw_block | apply aw_skip | apply aw_ret | (apply aw_condp; rfl; all_goals (intro hc; try (exfalso; first | omega | contradiction | (simp at hc; omega) | (simp_all; done)))) | apply go_seq | apply go_seq_ret)
  · exact g_ret1 (r_tmp rfl) .nil (by rw [decide_eq_false fun h => hc (by rw [h])])
  have hlen : a.length = b.length := by omega
  refine a_loop (fun i : Nat => ⟨[(0, tsl a), (1, tsl b), (5, vi i)], []⟩) (fun i => i ≤ a.length ∧ a.take i = b.take i) (fun i => a.length - i) 0 (Sub.of (by repeat (first | exact .nil | refine .cons rfl Le.refl ?_)) (by repeat (first | exact Takes.nil | (apply Takes.cons; focus (repeat (first | exact Take.head | apply Take.tail | apply Take.right)))))) ⟨Nat.zero_le _, rfl⟩ ?_
  rintro i ⟨hi, ht⟩
  repeat' (first | apply ar_nil | (apply ar_ev; (apply ev_move; rfl); rfl) | (apply ar_ev; (first | (apply ev_lss; rfl; rfl) | (apply ev_len_sl; rfl)); rfl) | apply aw_seq | apply a_region | apply go_seq)
  refine aw_condp rfl (fun hk => ?_) (fun hk => ?_)
  · obtain ⟨x, hx⟩ : ∃ x, a[i]? = some x := ⟨_, List.getElem?_eq_getElem (by omega)⟩
    obtain ⟨y, hy⟩ : ∃ y, b[i]? = some y := ⟨_, List.getElem?_eq_getElem (by omega)⟩
    have hx2 := tsl_get hx
    have hy2 := tsl_get hy
    have hst := take_eq_step hx hy
    clear hc
    repeat' (first | apply ar_nil | (apply ar_ev; (apply ev_move; rfl); rfl) | (apply ar_ev; (first | exact ev_neT rfl rfl | (apply ev_assign; rfl) | (apply ev_load_ip_agg; rfl; exact Nat.le_of_ble_eq_true rfl) | (apply ev_inc; rfl; exact (by first | omega | assumption)) | (apply ev_indexAddr_sl; rfl; rfl; exact (by first | omega | assumption); exact (by first | rfl | assumption | exact get_map (by assumption)))); rfl) | apply aw_seq | apply a_region | apply aw_block | apply aw_skip | apply aw_ret | (apply aw_condp; rfl; all_goals (intro hc; try (exfalso; first | omega | contradiction | (simp at hc; omega) | (simp_all; done)))) | apply go_seq | apply go_seq_ret | apply go_block | apply go_block_ret | apply go_loop_ret | (first | (apply a_drawN 2; rfl; rfl) | (apply a_drawN 3; rfl; rfl) | (apply a_drawN 4; rfl; rfl) | (apply a_drawN 5; rfl; rfl) | (apply a_drawN 6; rfl; rfl) | (apply a_drawN 7; rfl; rfl) | (apply a_drawN 8; rfl; rfl) | (apply a_drawN 9; rfl; rfl) | (apply a_drawN 10; rfl; rfl) | (apply a_drawN 11; rfl; rfl) | (apply a_drawN 12; rfl; rfl) | (apply a_drawN 13; rfl; rfl) | (apply a_drawN 14; rfl; rfl) | (apply a_drawN 15; rfl; rfl) | (apply a_drawN 16; rfl; rfl) | (apply a_drawN 17; rfl; rfl) | (apply a_drawN 18; rfl; rfl) | (apply a_drawN 19; rfl; rfl) | (apply a_drawN 20; rfl; rfl) | (apply a_drawN 21; rfl; rfl) | (apply a_drawN 22; rfl; rfl) | (apply a_drawN 23; rfl; rfl) | (apply a_drawN 24; rfl; rfl) | (apply a_drawN 25; rfl; rfl) | (apply a_drawN 26; rfl; rfl) | (apply a_drawN 27; rfl; rfl) | (apply a_drawN 28; rfl; rfl) | (apply a_drawN 29; rfl; rfl) | (apply a_drawN 30; rfl; rfl) | (apply a_drawN 31; rfl; rfl) | (apply a_drawN 32; rfl; rfl) | (apply a_drawN 33; rfl; rfl) | (apply a_drawN 34; rfl; rfl) | (apply a_drawN 35; rfl; rfl) | (apply a_drawN 36; rfl; rfl) | (apply a_drawN 37; rfl; rfl) | (apply a_drawN 38; rfl; rfl) | (apply a_drawN 39; rfl; rfl) | (apply a_drawN 40; rfl; rfl) | (apply a_drawN 41; rfl; rfl) | (apply a_drawN 42; rfl; rfl) | (apply a_drawN 43; rfl; rfl) | (apply a_drawN 44; rfl; rfl) | (apply a_drawN 45; rfl; rfl)))
    · rw [teq] at hc
      exact g_ret1 (r_tmp rfl) .nil (by rw [decide_eq_false]; rintro rfl; rw [hx] at hy; exact absurd (Option.some.inj hy) hc)
    · rw [teq] at hc
      exact go_loop_back ⟨i + 1, ⟨by omega, hst.2 ⟨ht, Decidable.not_not.1 hc⟩⟩, by omega, Sub.of (by repeat (first | exact .nil | refine .cons rfl Le.refl ?_)) (by repeat (first | exact Takes.nil | (apply Takes.cons; focus (repeat (first | exact Take.head | apply Take.tail | apply Take.right)))))⟩
  · obtain rfl : i = a.length := by omega
    repeat' (first | apply ar_nil | (apply ar_ev; (apply ev_assign; rfl); rfl) | apply aw_seq | apply a_region | apply aw_exit | apply aw_ret | apply go_seq | apply go_seq_exit | apply go_block_exit | apply go_loop_exit)
    exact g_ret1 (r_tmp rfl) .nil (by rw [decide_eq_true]; rw [List.take_length] at ht; rw [ht, hlen, List.take_length])
theorem at_ok (p : ByteArray) : PFn Try.prog 13 [vs p] (.agg (encT (⟨#[97]⟩, p))) := by
  refine fn_of Try.func13 rfl Try.ntmps13 Try.results13 rfl fun G => ?_
  repeat' (first | apply ar_nil | (apply ar_ev; (apply ev_move; rfl); rfl) | (apply ar_ev; (apply ev_build; rfl; rfl; rfl); rfl) | (apply ar_new; (first | apply eff_alloc | (apply eff_box; rfl; exact lies_of rfl) | (apply eff_conv_bytes; rfl; exact (by first | omega | assumption | (simp; done) | (simp; omega) | exact Nat.le_of_ble_eq_true rfl))); exact .nil; rfl; intro lab) | (apply ar_store; rfl; (focus ((repeat (first | exact Take.head | apply Take.tail | apply Take.right)); done)); rfl; rfl; exact (by first | rfl | assumption | exact get_map (by assumption)); rfl; rfl) | apply aw_seq | apply a_region | apply aw_ret | apply go_seq)
  exact g_ret1 (r_cell rfl .head rfl rfl) .nil rfl
theorem clone_ok (l : List Tg) (hn : l.length ≤ 1099511627776) : PFn Try.prog 28 [tsl l] (tsl l) := by
  refine pfn_cv (Post := fun ts r => Cv ts r (tsl l)) ?_ (fun _ _ h => h)
  refine fn_of Try.func28 rfl Try.ntmps28 Try.results28 rfl fun G => ?_
  repeat' (first | apply ar_nil | (apply ar_ev; (apply ev_move; rfl); rfl) | (apply ar_ev; (apply ev_assign; rfl); rfl) | apply aw_seq | apply a_region | apply go_seq)
  apply ar_eff (eff_eqnil_sl rfl) .nil rfl; rintro _ _ ⟨rfl, b, rfl, hb⟩
  cases b
  · repeat' (first | (apply ar_new (d := 5); (apply eff_buildSlice; rfl; rfl; rfl; rfl; rfl; rfl; rfl); exact .nil; rfl; intro lab) | apply ar_nil | (apply ar_ev; (apply ev_move; rfl); rfl) | (apply ar_ev; (apply ev_assign; rfl); rfl) | apply aw_seq | apply a_region | apply aw_skip | apply aw_ret | (apply aw_cond_f; rfl) | apply go_seq | (apply ar_append; rfl; (focus ((repeat (first | exact Take.head | apply Take.tail | apply Take.right)); done)); rfl; exact (by first | omega | assumption | (simp; done) | (simp; omega) | exact Nat.le_of_ble_eq_true rfl); exact (by first | omega | assumption | (simp; done) | (simp; omega) | exact Nat.le_of_ble_eq_true rfl); exact (by first | omega | assumption | (simp; done) | (simp; omega) | exact Nat.le_of_ble_eq_true rfl); rfl; intro lab))
    refine g_ret1 (r_tmp rfl) (.cons (by repeat (first | exact Take.head | apply Take.tail | apply Take.right)) .nil) ?_
    have e : List.take l.length (l.map encT) = l.map encT := List.take_of_length_le (by simp)
    rw [Nat.zero_add]
    exact Cv.own0 (xs := l.map encT) (Take.rowc e .head) (by simp)
  · have e : l = [] := List.map_eq_nil_iff.1 (hb rfl)
    subst e
    repeat' (first | apply ar_nil | (apply ar_ev; (apply ev_assign; rfl); rfl) | apply aw_seq | apply a_region | apply aw_ret | (apply aw_cond_t; rfl) | apply go_seq | apply go_seq_ret)
    exact g_ret1 (r_tmp rfl) .nil (Cv.le Le.nil)

/-! What may be a target. -/
def okB (c : UInt8) : Bool := decide (33 ≤ c.toNat) && decide (c.toNat ≤ 126)
theorem okB_iff (c : UInt8) : okB c = true ↔ 33 ≤ c.toNat ∧ c.toNat ≤ 126 := by simp [okB]
theorem all_step {l : List UInt8} {i : Nat} {c : UInt8} (h : l[i]? = some c) (f : UInt8 → Bool) (ht : (l.take i).all f = true) : (l.take (i + 1)).all f = f c := by
  rw [List.take_add_one, h, List.all_append, ht]; simp
theorem all_not {l : List UInt8} {i : Nat} {c : UInt8} (h : l[i]? = some c) (f : UInt8 → Bool) (hf : f c = false) : l.all f = false := by
  rw [List.all_eq_false]; exact ⟨c, List.mem_of_getElem? h, by rw [hf]; simp⟩
theorem plain_ok (s : ByteArray) (hn : s.size ≤ 1099511627776) : PFn Try.prog 34 [vs s] (vb ((bl s).all okB)) := by
  refine fn_of Try.func34 rfl Try.ntmps34 Try.results34 rfl fun G => ?_
  have hl := bl_length s
  repeat' (first | apply ar_nil | (apply ar_ev; (apply ev_move; rfl); rfl) | (apply ar_ev; (first | (apply ev_assign; rfl) | (apply ev_len_str; rfl)); rfl) | apply aw_seq | apply a_region | apply aw_block | apply go_seq)
  refine a_loop (fun i : Nat => ⟨[(0, vs s), (5, vi s.size), (6, vi i)], []⟩) (fun i => i ≤ s.size ∧ ((bl s).take i).all okB = true) (fun i => s.size - i) 0 (Sub.of (by repeat (first | exact .nil | refine .cons rfl Le.refl ?_)) (by repeat (first | exact Takes.nil | (apply Takes.cons; focus (repeat (first | exact Take.head | apply Take.tail | apply Take.right)))))) ⟨Nat.zero_le _, rfl⟩ ?_
  rintro i ⟨hi, hx⟩
  repeat' (first | apply ar_nil | (apply ar_ev; (apply ev_lss; rfl; rfl); rfl) | apply aw_seq | apply a_region | apply go_seq)
  refine aw_condp rfl (fun hk => ?_) (fun hk => ?_)
  · obtain ⟨c, hc0⟩ : ∃ c, (bl s)[i]? = some c := ⟨_, List.getElem?_eq_getElem (by omega)⟩
    have hst := all_step hc0 okB hx
    have hno := all_not hc0 okB
    repeat' (first | apply ar_nil | (apply ar_splitp; (apply ev_move; rfl); rfl; all_goals (intro hc; try (exfalso; first | omega | contradiction | (simp at hc; omega) | (simp_all; done)))) | (apply ar_ev; (apply ev_move; rfl); rfl) | (apply ar_ev; (first | (apply ev_assign; rfl) | (apply ev_pick_t; rfl; rfl) | (apply ev_pick_f; rfl; rfl) | (apply ev_lss; rfl; rfl) | (apply ev_inc; rfl; exact (by first | omega | assumption)) | (apply ev_index_bl; rfl; rfl; assumption)); rfl) | (apply ar_skip; rfl; rfl; rfl; rfl; rfl) | (apply ar_take; rfl; rfl; rfl; (apply ev_move; rfl); rfl) | (apply ar_take; rfl; rfl; rfl; (first | (apply ev_gtr; rfl; rfl) | (apply ev_index_bl; rfl; rfl; assumption)); rfl) | apply aw_seq | apply a_region | apply aw_block | apply aw_skip | apply aw_ret | (apply aw_condp; rfl; all_goals (intro hc; try (exfalso; first | omega | contradiction | (simp at hc; omega) | (simp_all; done)))) | (apply aw_cond_t; rfl) | apply go_seq | apply go_seq_ret | apply go_block | apply go_block_ret | apply go_loop_ret)
    · exact g_ret1 (r_tmp rfl) .nil (by rw [hno]; rw [← Bool.not_eq_true, okB_iff]; omega)
    · exact g_ret1 (r_tmp rfl) .nil (by rw [hno]; rw [← Bool.not_eq_true, okB_iff]; omega)
    · exact go_loop_back ⟨i + 1, ⟨by omega, by rw [hst, okB_iff]; omega⟩, by omega, Sub.of (by repeat (first | exact .nil | refine .cons rfl Le.refl ?_)) (by repeat (first | exact Takes.nil | (apply Takes.cons; focus (repeat (first | exact Take.head | apply Take.tail | apply Take.right)))))⟩
  · obtain rfl : i = s.size := by omega
    rw [← hl, List.take_length] at hx
    repeat' (first | apply ar_nil | (apply ar_ev; (apply ev_assign; rfl); rfl) | apply aw_seq | apply a_region | apply aw_exit | apply aw_ret | apply go_seq | apply go_seq_exit | apply go_block_exit | apply go_loop_exit)
    exact g_ret1 (r_tmp rfl) .nil (by rw [hx])
def textB (s : ByteArray) (n : Nat) : Bool := (bl s).all okB && decide (1 ≤ s.size) && decide (s.size ≤ n)
theorem text_ok (s : ByteArray) (n : Nat) (hn : s.size ≤ 1099511627776) : PFn Try.prog 37 [vs s, vi n] (vb (textB s n)) := by
  refine fn_of Try.func37 rfl Try.ntmps37 Try.results37 rfl fun G => ?_
  have hl := bl_length s
  repeat' (first | apply ar_nil | (apply ar_ev; (apply ev_assign; rfl); rfl) | apply aw_seq | apply a_region | apply aw_block | apply go_seq)
  refine a_loop (fun i : Nat => ⟨[(0, vs s), (1, vi n), (5, vi i)], []⟩) (fun i => i ≤ s.size ∧ ((bl s).take i).all okB = true) (fun i => s.size - i) 0 (Sub.of (by repeat (first | exact .nil | refine .cons rfl Le.refl ?_)) (by repeat (first | exact Takes.nil | (apply Takes.cons; focus (repeat (first | exact Take.head | apply Take.tail | apply Take.right)))))) ⟨Nat.zero_le _, rfl⟩ ?_
  rintro i ⟨hi, hx⟩
  repeat' (first | apply ar_nil | (apply ar_ev; (apply ev_move; rfl); rfl) | (apply ar_ev; (first | (apply ev_lss; rfl; rfl) | (apply ev_len_str; rfl)); rfl) | apply aw_seq | apply a_region | apply go_seq)
  refine aw_condp rfl (fun hk => ?_) (fun hk => ?_)
  · obtain ⟨c, hc0⟩ : ∃ c, (bl s)[i]? = some c := ⟨_, List.getElem?_eq_getElem (by omega)⟩
    have hst := all_step hc0 okB hx
    have hno := all_not hc0 okB
    repeat' (first | apply ar_nil | (apply ar_splitp; (apply ev_move; rfl); rfl; all_goals (intro hc; try (exfalso; first | omega | contradiction | (simp at hc; omega) | (simp_all; done)))) | (apply ar_ev; (apply ev_move; rfl); rfl) | (apply ar_ev; (first | (apply ev_assign; rfl) | (apply ev_pick_t; rfl; rfl) | (apply ev_pick_f; rfl; rfl) | (apply ev_lss; rfl; rfl) | (apply ev_inc; rfl; exact (by first | omega | assumption)) | (apply ev_index_bl; rfl; rfl; assumption)); rfl) | (apply ar_skip; rfl; rfl; rfl; rfl; rfl) | (apply ar_take; rfl; rfl; rfl; (apply ev_move; rfl); rfl) | (apply ar_take; rfl; rfl; rfl; (first | (apply ev_gtr; rfl; rfl) | (apply ev_index_bl; rfl; rfl; assumption)); rfl) | apply aw_seq | apply a_region | apply aw_block | apply aw_skip | apply aw_ret | (apply aw_condp; rfl; all_goals (intro hc; try (exfalso; first | omega | contradiction | (simp at hc; omega) | (simp_all; done)))) | (apply aw_cond_t; rfl) | apply go_seq | apply go_seq_ret | apply go_block | apply go_block_ret | apply go_loop_ret)
    · exact g_ret1 (r_tmp rfl) .nil (by unfold textB; rw [hno]; rfl; rw [← Bool.not_eq_true, okB_iff]; omega)
    · exact g_ret1 (r_tmp rfl) .nil (by unfold textB; rw [hno]; rfl; rw [← Bool.not_eq_true, okB_iff]; omega)
    · exact go_loop_back ⟨i + 1, ⟨by omega, by rw [hst, okB_iff]; omega⟩, by omega, Sub.of (by repeat (first | exact .nil | refine .cons rfl Le.refl ?_)) (by repeat (first | exact Takes.nil | (apply Takes.cons; focus (repeat (first | exact Take.head | apply Take.tail | apply Take.right)))))⟩
  · obtain rfl : i = s.size := by omega
    rw [← hl, List.take_length] at hx
    repeat' (first | apply ar_nil | (apply ar_splitp; (apply ev_move; rfl); rfl; all_goals (intro hc; try (exfalso; first | omega | contradiction | (simp at hc; omega) | (simp_all; done)))) | (apply ar_ev; (apply ev_move; rfl); rfl) | (apply ar_ev; (first | (apply ev_assign; rfl) | (apply ev_pick_t; rfl; rfl) | (apply ev_pick_f; rfl; rfl) | (apply ev_geq; rfl; rfl) | (apply ev_len_str; rfl)); rfl) | (apply ar_skip; rfl; rfl; rfl; rfl; rfl) | (apply ar_take; rfl; rfl; rfl; (apply ev_move; rfl); rfl) | (apply ar_take; rfl; rfl; rfl; (first | (apply ev_leq; rfl; rfl) | (apply ev_len_str; rfl)); rfl) | apply aw_seq | apply a_region | apply aw_exit | apply aw_ret | apply go_seq | apply go_seq_exit | apply go_block_exit | apply go_loop_exit)
    all_goals exact g_ret1 (r_tmp rfl) .nil (by unfold textB; rw [hx]; simp_all; try omega)
def rightB (t : Tg) : Bool := textB t.1 255 && textB t.2 4096 && decide ((bl t.2)[0]? = some 47)
theorem byte47 (c : UInt8) : ((c.toNat : Int) = 47) ↔ c = 47 := ⟨fun h => UInt8.toNat_inj.1 (by have : (47 : UInt8).toNat = 47 := rfl; omega), fun h => by rw [h]; rfl⟩
theorem size_es {s : ByteArray} : s = es ↔ s.size = 0 := ⟨fun h => by rw [h]; rfl, fun h => by
  have e : bl s = [] := List.length_eq_zero_iff.1 ((bl_length s).trans h)
  rw [← bl_inj, e]; rfl⟩
theorem Right_ok (t : Tg) (h1 : t.1.size ≤ 1099511627776) (h2 : t.2.size ≤ 1099511627776) : PFn Try.prog 29 [.agg (encT t)] (vb (rightB t)) := by
  refine fn_of Try.func29 rfl Try.ntmps29 Try.results29 rfl fun G => ?_
  have ht1 := text_ok t.1 255 h1
  have ht2 := text_ok t.2 4096 h2
  generalize hA : textB t.1 255 = A at *
  generalize hB : textB t.2 4096 = B at *
  have hr : rightB t = (A && B && decide ((bl t.2)[0]? = some 47)) := by rw [← hA, ← hB]; rfl
  cases A
  · repeat' (first | apply ar_nil | (apply ar_ev; (apply ev_move (y := .val (.bool false)); rfl); rfl) | (apply ar_ev; (first | exact ev_call rfl rfl ht1 | (apply ev_load_ptr_one; rfl; (focus ((repeat (first | exact Take.head | apply Take.tail | apply Take.right)); done)); exact (by first | rfl | assumption | exact get_map (by assumption)); rfl) | (apply ev_fieldAddr_ptr; rfl) | (apply ev_assign; rfl) | (apply ev_pick_f; rfl; rfl)); rfl) | (apply ar_new; (first | apply eff_alloc | (apply eff_box; rfl; exact lies_of rfl) | (apply eff_conv_bytes; rfl; exact (by first | omega | assumption | (simp; done) | (simp; omega) | exact Nat.le_of_ble_eq_true rfl))); exact .nil; rfl; intro lab) | (apply ar_skip; rfl; rfl; rfl; rfl; rfl) | apply aw_seq | apply a_region | apply aw_ret | apply go_seq)
    exact g_ret1 (r_tmp rfl) .nil (by rw [hr]; rfl)
  · cases B
    · repeat' (first | apply ar_nil | (apply ar_ev; (apply ev_move (y := .val (.bool true)); rfl); rfl) | (apply ar_ev; (apply ev_move (y := .val (.bool false)); rfl); rfl) | (apply ar_ev; (first | exact ev_call rfl rfl ht1 | (apply ev_load_ptr_one; rfl; (focus ((repeat (first | exact Take.head | apply Take.tail | apply Take.right)); done)); exact (by first | rfl | assumption | exact get_map (by assumption)); rfl) | (apply ev_fieldAddr_ptr; rfl) | (apply ev_assign; rfl) | (apply ev_pick_t; rfl; rfl) | (apply ev_pick_f; rfl; rfl)); rfl) | (apply ar_new; (first | apply eff_alloc | (apply eff_box; rfl; exact lies_of rfl) | (apply eff_conv_bytes; rfl; exact (by first | omega | assumption | (simp; done) | (simp; omega) | exact Nat.le_of_ble_eq_true rfl))); exact .nil; rfl; intro lab) | (apply ar_skip; rfl; rfl; rfl; rfl; rfl) | (apply ar_take; rfl; rfl; rfl; (first | exact ev_call rfl rfl ht2 | (apply ev_load_ptr_one; rfl; (focus ((repeat (first | exact Take.head | apply Take.tail | apply Take.right)); done)); exact (by first | rfl | assumption | exact get_map (by assumption)); rfl) | (apply ev_fieldAddr_ptr; rfl)); rfl) | apply aw_seq | apply a_region | apply aw_ret | apply go_seq)
      exact g_ret1 (r_tmp rfl) .nil (by rw [hr]; rfl)
    · have hz : 1 ≤ t.2.size := by unfold textB at hB; simp at hB; omega
      obtain ⟨c, hc0⟩ : ∃ c, (bl t.2)[0]? = some c := ⟨_, List.getElem?_eq_getElem (by rw [bl_length]; omega)⟩
      repeat' (first | apply ar_nil | (apply ar_ev; (apply ev_move (y := .val (.bool true)); rfl); rfl) | (apply ar_ev; (first | exact ev_call rfl rfl ht1 | (apply ev_load_ptr_one; rfl; (focus ((repeat (first | exact Take.head | apply Take.tail | apply Take.right)); done)); exact (by first | rfl | assumption | exact get_map (by assumption)); rfl) | (apply ev_fieldAddr_ptr; rfl) | (apply ev_assign; rfl) | (apply ev_pick_t; rfl; rfl)); rfl) | (apply ar_new; (first | apply eff_alloc | (apply eff_box; rfl; exact lies_of rfl) | (apply eff_conv_bytes; rfl; exact (by first | omega | assumption | (simp; done) | (simp; omega) | exact Nat.le_of_ble_eq_true rfl))); exact .nil; rfl; intro lab) | (apply ar_take; rfl; rfl; rfl; (first | exact ev_call rfl rfl ht2 | (apply ev_load_ptr_one; rfl; (focus ((repeat (first | exact Take.head | apply Take.tail | apply Take.right)); done)); exact (by first | rfl | assumption | exact get_map (by assumption)); rfl) | (apply ev_fieldAddr_ptr; rfl) | (apply ev_eqip; rfl; rfl) | (apply ev_index_bl; rfl; rfl; assumption)); rfl) | apply aw_seq | apply a_region | apply aw_ret | apply go_seq)
      exact g_ret1 (r_tmp rfl) .nil (by rw [hr, hc0]; simp [byte47])
theorem right_ok (t : Tg) (h1 : t.1.size ≤ 1099511627776) (h2 : t.2.size ≤ 1099511627776) : PFn Try.prog 24 [.agg (encT t)] (vb (rightB t)) := by
  refine fn_of Try.func24 rfl Try.ntmps24 Try.results24 rfl fun G => ?_
  have hp1 := plain_ok t.1 h1
  have hp2 := plain_ok t.2 h2
  have hz1 := size_es (s := t.1)
  have hz2 := size_es (s := t.2)
  have hr : rightB t = (((bl t.1).all okB && decide (1 ≤ t.1.size) && decide (t.1.size ≤ 255)) && ((bl t.2).all okB && decide (1 ≤ t.2.size) && decide (t.2.size ≤ 4096)) && decide ((bl t.2)[0]? = some 47)) := rfl
  generalize (bl t.1).all okB = A at *
  generalize (bl t.2).all okB = B at *
  repeat' ((fail_if_success (show AW _ (.region 3 _ _) _ _)); (first | apply ar_nil | (apply ar_splitp; (apply ev_move; rfl); rfl; all_goals (intro hc; try (exfalso; first | omega | contradiction | (simp at hc; omega) | (simp_all; done)))) | (apply ar_ev; (apply ev_move (y := .val (.bool true)); rfl); rfl) | (apply ar_ev; (first | (apply ev_load_ptr_one; rfl; (focus ((repeat (first | exact Take.head | apply Take.tail | apply Take.right)); done)); exact (by first | rfl | assumption | exact get_map (by assumption)); rfl) | (apply ev_fieldAddr_ptr; rfl) | (apply ev_assign; rfl) | (apply ev_pick_t; rfl; rfl) | (apply ev_pick_f; rfl; rfl) | (apply ev_eqsp; rfl; rfl)); rfl) | (apply ar_new; (first | apply eff_alloc | (apply eff_box; rfl; exact lies_of rfl) | (apply eff_conv_bytes; rfl; exact (by first | omega | assumption | (simp; done) | (simp; omega) | exact Nat.le_of_ble_eq_true rfl))); exact .nil; rfl; intro lab) | (apply ar_skip; rfl; rfl; rfl; rfl; rfl) | (apply ar_take; rfl; rfl; rfl; (first | (apply ev_load_ptr_one; rfl; (focus ((repeat (first | exact Take.head | apply Take.tail | apply Take.right)); done)); exact (by first | rfl | assumption | exact get_map (by assumption)); rfl) | (apply ev_fieldAddr_ptr; rfl) | (apply ev_gtr; rfl; rfl) | (apply ev_eqsp; rfl; rfl) | (apply ev_len_str; rfl)); rfl) | apply aw_seq | apply a_region | apply aw_skip | apply aw_ret | (apply aw_condp; rfl; all_goals (intro hc; try (exfalso; first | omega | contradiction | (simp at hc; omega) | (simp_all; done)))) | (apply aw_cond_t; rfl) | apply go_seq | apply go_seq_ret))
  · exact g_ret1 (r_tmp rfl) .nil (by rw [hr]; have := hz1.1 hc; simp [this])
  · exact g_ret1 (r_tmp rfl) .nil (by rw [hr]; rw [decide_eq_false (show ¬ t.1.size ≤ 255 by omega)]; simp)
  · exact g_ret1 (r_tmp rfl) .nil (by rw [hr]; have := hz2.1 hc; simp [this])
  · exact g_ret1 (r_tmp rfl) .nil (by rw [hr]; rw [decide_eq_false (show ¬ t.2.size ≤ 4096 by omega)]; simp)
  · rename_i c1 c2 c3
    have e1 : 1 ≤ t.1.size := Nat.pos_of_ne_zero fun h => c1 (hz1.2 h)
    have e2 : 1 ≤ t.2.size := Nat.pos_of_ne_zero fun h => c3 (hz2.2 h)
    obtain ⟨c, hc0⟩ : ∃ c, (bl t.2)[0]? = some c := ⟨_, List.getElem?_eq_getElem (by rw [bl_length]; omega)⟩
    have e3 : t.1.size ≤ 255 := by omega
    have e4 : t.2.size ≤ 4096 := by omega
    rw [hc0] at hr
    simp only [e1, e2, e3, e4, decide_true, Bool.and_true, Option.some.injEq, ← byte47] at hr
    clear hz1 hz2 c1 c2 c3 hc
    cases A <;> cases B
    all_goals
      repeat' (first | apply ar_nil | (apply ar_splitp; (apply ev_move; rfl); rfl; all_goals (intro hc; try (exfalso; first | omega | contradiction | (simp at hc; omega) | (simp_all; done)))) | (apply ar_ev; (apply ev_move (y := .val (.bool true)); rfl); rfl) | (apply ar_ev; (apply ev_move (y := .val (.bool false)); rfl); rfl) | (apply ar_ev; (first | (apply ev_load_ptr_one; rfl; (focus ((repeat (first | exact Take.head | apply Take.tail | apply Take.right)); done)); exact (by first | rfl | assumption | exact get_map (by assumption)); rfl) | (apply ev_fieldAddr_ptr; rfl) | (apply ev_assign; rfl) | (apply ev_pick_t; rfl; rfl) | (apply ev_pick_f; rfl; rfl) | (apply ev_eqip; rfl; rfl) | (apply ev_index_bl; rfl; rfl; assumption)); rfl) | (apply ar_skip; rfl; rfl; rfl; rfl; rfl) | (apply ar_take; rfl; rfl; rfl; (first | exact ev_call rfl rfl hp1 | exact ev_call rfl rfl hp2 | (apply ev_load_ptr_one; rfl; (focus ((repeat (first | exact Take.head | apply Take.tail | apply Take.right)); done)); exact (by first | rfl | assumption | exact get_map (by assumption)); rfl) | (apply ev_fieldAddr_ptr; rfl)); rfl) | apply a_region | apply aw_ret | apply go_seq)
      all_goals exact g_ret1 (r_tmp rfl) .nil (by rw [hr]; simp_all)
end Go.Proofs.Ytkidjeejhhfbpaa
