import Derived.Test.YtkidjeejhhfbpaaA
set_option linter.unusedVariables false
set_option linter.unusedSimpArgs false
set_option maxRecDepth 100000
namespace Go.Proofs.Ytkidjeejhhfbpaa
open Go.Proofs Go.Proofs.YtkidjeejhhfbpaaA

/-! The map of rules. -/
abbrev keyT (t : Tg) : List Value := [.string t.1, .string t.2]
def mapOf (rs : List Rl) : List (List Value × AV) := rs.map fun r => (keyT r.1, tsl r.2)
def nmOf : List Rl → Tg → List Tg
  | [], _ => []
  | r :: rs, t => if r.1 = t then r.2 else nmOf rs t
theorem map_fit (rs : List Rl) : ∀ p, p ∈ mapOf rs → fitsB [.str, .str] p.1 = true := fun p hp => by
  obtain ⟨r, _, rfl⟩ := List.mem_map.1 hp
  rfl
theorem key_eq (t u : Tg) : eqVs (keyT t) (keyT u) = decide (t = u) := by
  rw [eqs_dec]; exact decide_eq_decide.2 teq
theorem find_val (t : Tg) : ∀ rs : List Rl, Le (match (findIx (keyT t) (mapOf rs)).bind ((mapOf rs)[·]?) with | some p => p.2 | none => zeroAV false (.slice none 0 0)) (tsl (nmOf rs t))
  | [] => Le.nil
  | r :: rs => by
    have ih := find_val t rs
    unfold nmOf
    show Le (match (if eqVs (keyT t) (keyT r.1) then some 0 else (findIx (keyT t) (mapOf rs)).map (· + 1)).bind ((mapOf (r :: rs))[·]?) with | some p => p.2 | none => zeroAV false (.slice none 0 0)) _
    rw [key_eq]
    by_cases h : t = r.1
    · subst h
      rw [decide_eq_true rfl, if_pos rfl, if_pos rfl]
      exact Le.refl
    · rw [decide_eq_false h, if_neg (by decide), if_neg (fun e => h e.symm)]
      have e : ((findIx (keyT t) (mapOf rs)).map (· + 1)).bind ((mapOf (r :: rs))[·]?) = (findIx (keyT t) (mapOf rs)).bind ((mapOf rs)[·]?) := by
        cases findIx (keyT t) (mapOf rs) with
        | none => rfl
        | some i => simp [mapOf]
      rw [e]
      exact ih
theorem find_some (t : Tg) : ∀ rs : List Rl, (findIx (keyT t) (mapOf rs)).isSome = decide (t ∈ rs.map (·.1))
  | [] => rfl
  | r :: rs => by
    have ih := find_some t rs
    show (if eqVs (keyT t) (keyT r.1) then some 0 else (findIx (keyT t) (mapOf rs)).map (· + 1)).isSome = _
    rw [key_eq]
    by_cases h : t = r.1
    · subst h
      rw [decide_eq_true rfl, if_pos rfl]
      exact (decide_eq_true (by simp)).symm
    · rw [decide_eq_false h, if_neg (by decide), Option.isSome_map, ih]
      exact decide_eq_decide.2 (by simp [h])
theorem find_none {t : Tg} {rs : List Rl} (h : t ∉ rs.map (·.1)) : findIx (keyT t) (mapOf rs) = none := by
  have := find_some t rs
  rw [decide_eq_false h] at this
  simpa using this
theorem map_snoc (rs : List Rl) (r : Rl) : mapOf (rs ++ [r]) = mapOf rs ++ [(keyT r.1, tsl r.2)] := by simp [mapOf]

/-! Functions that look for the first. -/
theorem indexFuncT_ok (xs : List Tg) (caps : List AV) (f : FuncId) [Ent Try.prog f] (p : Tg → Bool) (hn : xs.length ≤ 1099511627776) (hp : ∀ x, x ∈ xs → PFn Try.prog f ([.agg (encT x)] ++ caps) (vb (p x))) : FnC Try.prog 35 [] [tsl xs, .fn f caps] (fun ts r => ts = [] ∧ ∃ n : Int, r = vi n ∧ (0 ≤ n ↔ xs.any p = true)) := by
  refine fn_of Try.func35 rfl Try.ntmps35 Try.results35 rfl fun G => ?_
  repeat' (first | apply ar_nil | (apply ar_ev; (apply ev_move; rfl); rfl) | (apply ar_ev; (first | (apply ev_assign; rfl) | (apply ev_len_sl; rfl)); rfl) | apply aw_seq | apply a_region | apply aw_block | apply go_seq)
  refine a_loop (fun i : Nat => ⟨[(0, tsl xs), (1, .fn f caps), (7, vi xs.length), (8, vi i)], []⟩) (fun i => i ≤ xs.length ∧ (xs.take i).any p = false) (fun i => xs.length - i) 0 (Sub.of (by repeat (first | exact .nil | refine .cons rfl Le.refl ?_)) (by repeat (first | exact Takes.nil | (apply Takes.cons; focus (repeat (first | exact Take.head | apply Take.tail | apply Take.right)))))) ⟨Nat.zero_le _, rfl⟩ ?_
  rintro i ⟨hi, ht⟩
  repeat' (first | apply ar_nil | (apply ar_ev; (apply ev_lss; rfl; rfl); rfl) | apply aw_seq | apply a_region | apply go_seq)
  refine aw_condp rfl (fun hk => ?_) (fun hk => ?_)
  · obtain ⟨x, hx⟩ : ∃ x, xs[i]? = some x := ⟨_, List.getElem?_eq_getElem (by omega)⟩
    have hx2 := tsl_get hx
    have hpx := hp x (List.mem_of_getElem? hx)
    repeat' (first | apply ar_nil | (apply ar_ev; (apply ev_move; rfl); rfl) | (apply ar_ev; (first | exact ev_call rfl rfl hpx | (apply ev_assign; rfl) | (apply ev_load_ip_agg; rfl; exact Nat.le_of_ble_eq_true rfl) | (apply ev_inc; rfl; exact (by first | omega | assumption)) | (apply ev_indexAddr_sl; rfl; rfl; exact (by first | omega | assumption); exact (by first | rfl | assumption | exact get_map (by assumption)))); rfl) | apply aw_seq | apply a_region | apply aw_block | apply aw_skip | apply aw_ret | (apply aw_condb; rfl; all_goals (intro hc; try (exfalso; first | omega | contradiction | (simp at hc; omega) | (simp_all; done)))) | apply go_seq | apply go_seq_ret | apply go_block | apply go_block_ret | apply go_loop_ret)
    · exact g_ret1 (r_tmp rfl) .nil ⟨rfl, (i : Int), rfl, ⟨fun _ => List.any_eq_true.2 ⟨x, List.mem_of_getElem? hx, hc⟩, fun _ => by omega⟩⟩
    · refine go_loop_back ⟨i + 1, ⟨by omega, ?_⟩, by omega, Sub.of (by repeat (first | exact .nil | refine .cons rfl Le.refl ?_)) (by repeat (first | exact Takes.nil | (apply Takes.cons; focus (repeat (first | exact Take.head | apply Take.tail | apply Take.right)))))⟩
      rw [List.take_add_one, hx, List.any_append, ht, Option.toList_some, List.any_cons, hc]; rfl
  · obtain rfl : i = xs.length := by omega
    rw [List.take_length] at ht
    repeat' (first | apply ar_nil | (apply ar_ev; (apply ev_assign; rfl); rfl) | apply aw_seq | apply a_region | apply aw_exit | apply aw_ret | apply go_seq | apply go_seq_exit | apply go_block_exit | apply go_loop_exit)
    exact g_ret1 (r_tmp rfl) .nil ⟨rfl, -1, rfl, ⟨fun h => by omega, fun h => by rw [ht] at h; cases h⟩⟩
theorem containsFuncT_ok (xs : List Tg) (caps : List AV) (f : FuncId) [Ent Try.prog f] (p : Tg → Bool) (hn : xs.length ≤ 1099511627776) (hp : ∀ x, x ∈ xs → PFn Try.prog f ([.agg (encT x)] ++ caps) (vb (p x))) : PFn Try.prog 26 [tsl xs, .fn f caps] (vb (xs.any p)) := by
  refine fn_of Try.func26 rfl Try.ntmps26 Try.results26 rfl fun G => ?_
  repeat' (first | apply ar_nil | (apply ar_ev; (apply ev_move; rfl); rfl) | (apply ar_ev; (apply ev_assign; rfl); rfl) | apply aw_seq | apply a_region | apply go_seq)
  apply ar_call (indexFuncT_ok xs caps f p hn hp); rfl; rfl; (focus ((repeat (first | exact Takes.nil | (apply Takes.cons; focus (repeat (first | exact Take.head | apply Take.tail | apply Take.right))))); done)); rfl; rintro _ _ ⟨rfl, n, rfl, h⟩
  repeat' (first | apply ar_nil | (apply ar_ev; (first | (apply ev_assign; rfl) | (apply ev_geq; rfl; rfl)); rfl) | apply aw_ret | apply go_seq)
  have e : decide (n ≥ 0) = xs.any p := Bool.eq_iff_iff.2 (by rw [decide_eq_true_iff]; exact h)
  exact g_ret1 (r_tmp rfl) .nil (by rw [e])
theorem indexFuncR_ok (xs : List Rl) (caps : List AV) (f : FuncId) [Ent Try.prog f] (p : Rl → Bool) (hn : xs.length ≤ 1099511627776) (hp : ∀ x, x ∈ xs → PFn Try.prog f ([.agg (encR x)] ++ caps) (vb (p x))) : FnC Try.prog 33 [] [rsl xs, .fn f caps] (fun ts r => ts = [] ∧ ∃ n : Int, r = vi n ∧ (0 ≤ n ↔ xs.any p = true)) := by
  refine fn_of Try.func33 rfl Try.ntmps33 Try.results33 rfl fun G => ?_
  repeat' (first | apply ar_nil | (apply ar_ev; (apply ev_move; rfl); rfl) | (apply ar_ev; (first | (apply ev_assign; rfl) | (apply ev_len_sl; rfl)); rfl) | apply aw_seq | apply a_region | apply aw_block | apply go_seq)
  refine a_loop (fun i : Nat => ⟨[(0, rsl xs), (1, .fn f caps), (7, vi xs.length), (8, vi i)], []⟩) (fun i => i ≤ xs.length ∧ (xs.take i).any p = false) (fun i => xs.length - i) 0 (Sub.of (by repeat (first | exact .nil | refine .cons rfl Le.refl ?_)) (by repeat (first | exact Takes.nil | (apply Takes.cons; focus (repeat (first | exact Take.head | apply Take.tail | apply Take.right)))))) ⟨Nat.zero_le _, rfl⟩ ?_
  rintro i ⟨hi, ht⟩
  repeat' (first | apply ar_nil | (apply ar_ev; (apply ev_lss; rfl; rfl); rfl) | apply aw_seq | apply a_region | apply go_seq)
  refine aw_condp rfl (fun hk => ?_) (fun hk => ?_)
  · obtain ⟨x, hx⟩ : ∃ x, xs[i]? = some x := ⟨_, List.getElem?_eq_getElem (by omega)⟩
    have hx2 := rsl_get hx
    have hpx := hp x (List.mem_of_getElem? hx)
    repeat' (first | apply ar_nil | (apply ar_ev; (apply ev_move; rfl); rfl) | (apply ar_ev; (first | exact ev_call rfl rfl hpx | (apply ev_assign; rfl) | (apply ev_load_ip_agg; rfl; exact Nat.le_of_ble_eq_true rfl) | (apply ev_inc; rfl; exact (by first | omega | assumption)) | (apply ev_indexAddr_sl; rfl; rfl; exact (by first | omega | assumption); exact (by first | rfl | assumption | exact get_map (by assumption)))); rfl) | apply aw_seq | apply a_region | apply aw_block | apply aw_skip | apply aw_ret | (apply aw_condb; rfl; all_goals (intro hc; try (exfalso; first | omega | contradiction | (simp at hc; omega) | (simp_all; done)))) | apply go_seq | apply go_seq_ret | apply go_block | apply go_block_ret | apply go_loop_ret)
    · exact g_ret1 (r_tmp rfl) .nil ⟨rfl, (i : Int), rfl, ⟨fun _ => List.any_eq_true.2 ⟨x, List.mem_of_getElem? hx, hc⟩, fun _ => by omega⟩⟩
    · refine go_loop_back ⟨i + 1, ⟨by omega, ?_⟩, by omega, Sub.of (by repeat (first | exact .nil | refine .cons rfl Le.refl ?_)) (by repeat (first | exact Takes.nil | (apply Takes.cons; focus (repeat (first | exact Take.head | apply Take.tail | apply Take.right)))))⟩
      rw [List.take_add_one, hx, List.any_append, ht, Option.toList_some, List.any_cons, hc]; rfl
  · obtain rfl : i = xs.length := by omega
    rw [List.take_length] at ht
    repeat' (first | apply ar_nil | (apply ar_ev; (apply ev_assign; rfl); rfl) | apply aw_seq | apply a_region | apply aw_exit | apply aw_ret | apply go_seq | apply go_seq_exit | apply go_block_exit | apply go_loop_exit)
    exact g_ret1 (r_tmp rfl) .nil ⟨rfl, -1, rfl, ⟨fun h => by omega, fun h => by rw [ht] at h; cases h⟩⟩
theorem containsFuncR_ok (xs : List Rl) (caps : List AV) (f : FuncId) [Ent Try.prog f] (p : Rl → Bool) (hn : xs.length ≤ 1099511627776) (hp : ∀ x, x ∈ xs → PFn Try.prog f ([.agg (encR x)] ++ caps) (vb (p x))) : PFn Try.prog 21 [rsl xs, .fn f caps] (vb (xs.any p)) := by
  refine fn_of Try.func21 rfl Try.ntmps21 Try.results21 rfl fun G => ?_
  repeat' (first | apply ar_nil | (apply ar_ev; (apply ev_move; rfl); rfl) | (apply ar_ev; (apply ev_assign; rfl); rfl) | apply aw_seq | apply a_region | apply go_seq)
  apply ar_call (indexFuncR_ok xs caps f p hn hp); rfl; rfl; (focus ((repeat (first | exact Takes.nil | (apply Takes.cons; focus (repeat (first | exact Take.head | apply Take.tail | apply Take.right))))); done)); rfl; rintro _ _ ⟨rfl, n, rfl, h⟩
  repeat' (first | apply ar_nil | (apply ar_ev; (first | (apply ev_assign; rfl) | (apply ev_geq; rfl; rfl)); rfl) | apply aw_ret | apply go_seq)
  have e : decide (n ≥ 0) = xs.any p := Bool.eq_iff_iff.2 (by rw [decide_eq_true_iff]; exact h)
  exact g_ret1 (r_tmp rfl) .nil (by rw [e])

/-! Sizes. -/
structure OkT (t : Tg) : Prop where
  a : t.1.size ≤ 1099511627776
  p : t.2.size ≤ 1099511627776
structure OkR (r : Rl) : Prop where
  of : OkT r.1
  len : r.2.length ≤ 1099511627776
  push : ∀ t, t ∈ r.2 → OkT t
abbrev longR (r : Rl) : Bool := decide (8 < r.2.length)
abbrev wrongR (r : Rl) : Bool := !rightB r.1 || r.2.any fun t => !rightB t
theorem of1_ok (r : Rl) : PFn Try.prog 22 [.agg (encR r)] (vb (longR r)) := by
  refine fn_of Try.func22 rfl Try.ntmps22 Try.results22 rfl fun G => ?_
  repeat' (first | apply ar_nil | (apply ar_ev; (first | (apply ev_load_ptr_one; rfl; (focus ((repeat (first | exact Take.head | apply Take.tail | apply Take.right)); done)); exact (by first | rfl | assumption | exact get_map (by assumption)); rfl) | (apply ev_fieldAddr_ptr; rfl) | (apply ev_assign; rfl) | (apply ev_gtr; rfl; rfl) | (apply ev_len_sl; rfl)); rfl) | (apply ar_new; (first | apply eff_alloc | (apply eff_box; rfl; exact lies_of rfl) | (apply eff_conv_bytes; rfl; exact (by first | omega | assumption | (simp; done) | (simp; omega) | exact Nat.le_of_ble_eq_true rfl))); exact .nil; rfl; intro lab) | apply aw_seq | apply a_region | apply aw_ret | apply go_seq)
  exact g_ret1 (r_tmp rfl) .nil (by simp [longR]; omega)
theorem of2_ok (t : Tg) (h : OkT t) : PFn Try.prog 23 [.agg (encT t)] (vb (!rightB t)) := by
  refine fn_of Try.func23 rfl Try.ntmps23 Try.results23 rfl fun G => ?_
  have hr := right_ok t h.a h.p
  repeat' (first | apply ar_nil | (apply ar_ev; (first | exact ev_call rfl rfl hr | (apply ev_assign; rfl) | (apply ev_load_ptr_agg; rfl; (focus ((repeat (first | exact Take.head | apply Take.tail | apply Take.right)); done)); exact (by first | rfl | assumption | exact get_map (by assumption)); exact Nat.le_of_ble_eq_true rfl) | (apply ev_not; rfl)); rfl) | (apply ar_new; (first | apply eff_alloc | (apply eff_box; rfl; exact lies_of rfl) | (apply eff_conv_bytes; rfl; exact (by first | omega | assumption | (simp; done) | (simp; omega) | exact Nat.le_of_ble_eq_true rfl))); exact .nil; rfl; intro lab) | apply aw_seq | apply a_region | apply aw_ret | apply go_seq)
  exact g_ret1 (r_tmp rfl) .nil rfl
theorem of3_ok (r : Rl) (h : OkR r) : PFn Try.prog 25 ([.agg (encR r)] ++ [.ip [.fn 23 []]]) (vb (wrongR r)) := by
  refine fn_of Try.func25 rfl Try.ntmps25 Try.results25 rfl fun G => ?_
  have h1 := of2_ok r.1 h.of
  have h2 := containsFuncT_ok r.2 [] 23 (fun t => !rightB t) h.len (fun t ht => of2_ok t (h.push t ht))
  have hw : wrongR r = (!rightB r.1 || r.2.any fun t => !rightB t) := rfl
  generalize (!rightB r.1) = A at *
  generalize (r.2.any fun t => !rightB t) = B at *
  cases A
  all_goals
    repeat' (first | apply ar_nil | (apply ar_ev; (apply ev_move (y := .val (.bool true)); rfl); rfl) | (apply ar_ev; (apply ev_move (y := .val (.bool false)); rfl); rfl) | (apply ar_ev; (first | exact ev_call rfl rfl h1 | (apply ev_load_ip_one; rfl; rfl) | (apply ev_fieldAddr_ptr; rfl) | (apply ev_assign; rfl) | (apply ev_pick_t; rfl; rfl) | (apply ev_pick_f; rfl; rfl) | (apply ev_load_ptr_agg; rfl; (focus ((repeat (first | exact Take.head | apply Take.tail | apply Take.right)); done)); exact (by first | rfl | assumption | exact get_map (by assumption)); exact Nat.le_of_ble_eq_true rfl)); rfl) | (apply ar_new; (first | apply eff_alloc | (apply eff_box; rfl; exact lies_of rfl) | (apply eff_conv_bytes; rfl; exact (by first | omega | assumption | (simp; done) | (simp; omega) | exact Nat.le_of_ble_eq_true rfl))); exact .nil; rfl; intro lab) | (apply ar_skip; rfl; rfl; rfl; rfl; rfl) | (apply ar_take; rfl; rfl; rfl; (first | exact ev_call rfl rfl h2 | (apply ev_load_ptr_one; rfl; (focus ((repeat (first | exact Take.head | apply Take.tail | apply Take.right)); done)); exact (by first | rfl | assumption | exact get_map (by assumption)); rfl) | (apply ev_load_ip_one; rfl; rfl) | (apply ev_fieldAddr_ptr; rfl)); rfl) | apply aw_seq | apply a_region | apply aw_ret | apply go_seq)
    exact g_ret1 (r_tmp rfl) .nil (by rw [hw]; simp)
/-- Does one stand there twice? -/
def dupB : List Tg → Bool
  | [] => false
  | t :: l => decide (t ∈ l) || dupB l
theorem dup_iff : ∀ l : List Tg, dupB l = false ↔ l.Nodup
  | [] => by simp [dupB]
  | t :: l => by simp [dupB, dup_iff l]
theorem nodup_step {l : List Tg} {i : Nat} {t : Tg} (h : l[i]? = some t) : (l.take (i + 1)).Nodup ↔ (l.take i).Nodup ∧ t ∉ l.take i := by
  rw [List.take_add_one, h, Option.toList_some, List.nodup_append]
  constructor
  · rintro ⟨h1, _, h2⟩; exact ⟨h1, fun h3 => h2 t h3 t (List.mem_singleton.2 rfl) rfl⟩
  · rintro ⟨h1, h2⟩; exact ⟨h1, by simp, fun a ha b hb e => h2 (by obtain rfl := List.mem_singleton.1 hb; exact e ▸ ha)⟩
theorem nodup_of_take {l : List Tg} {i : Nat} (h : ¬ (l.take i).Nodup) : dupB l = true := by
  rw [← Bool.not_eq_false, dup_iff]; exact fun h2 => h (h2.sublist (List.take_sublist _ _))
theorem twice_ok (l : List Tg) (hn : l.length ≤ 1099511627776) : PFn Try.prog 27 [tsl l] (vb (dupB l)) := by
  refine fn_of Try.func27 rfl Try.ntmps27 Try.results27 rfl fun G => ?_
  repeat' (first | apply ar_nil | (apply ar_ev; (apply ev_move; rfl); rfl) | (apply ar_ev; (first | (apply ev_assign; rfl) | (apply ev_len_sl; rfl)); rfl) | apply aw_seq | apply a_region | apply aw_block | apply go_seq)
  refine a_loop (fun i : Nat => ⟨[(0, tsl l), (5, tsl l), (6, vi l.length), (7, vi i)], []⟩) (fun i => i ≤ l.length ∧ (l.take i).Nodup) (fun i => l.length - i) 0 (Sub.of (by repeat (first | exact .nil | refine .cons rfl Le.refl ?_)) (by repeat (first | exact Takes.nil | (apply Takes.cons; focus (repeat (first | exact Take.head | apply Take.tail | apply Take.right)))))) ⟨Nat.zero_le _, by simp⟩ ?_
  rintro i ⟨hi, ht⟩
  repeat' (first | apply ar_nil | (apply ar_ev; (apply ev_lss; rfl; rfl); rfl) | apply aw_seq | apply a_region | apply go_seq)
  refine aw_condp rfl (fun hk => ?_) (fun hk => ?_)
  · obtain ⟨x, hx⟩ : ∃ x, l[i]? = some x := ⟨_, List.getElem?_eq_getElem (by omega)⟩
    have hx2 := tsl_get hx
    have hct := contains_ok (l.take i) x (by rw [List.length_take]; omega)
    have hle : Le (.sl 2 (l.map encT) i) (tsl (l.take i)) := by
      have := Le.take (k := 2) (n := i) (xs := (l.take i).map encT) (ys := (l.drop i).map encT) (by rw [List.length_map, List.length_take]; omega)
      rw [← List.map_append, List.take_append_drop] at this
      have e : (l.take i).length = i := by rw [List.length_take]; omega
      show Le _ (.sl 2 ((l.take i).map encT) (l.take i).length)
      rwa [e]
    have hst := nodup_step hx
    repeat' (first | apply ar_nil | (apply ar_ev; (apply ev_move; rfl); rfl) | (apply ar_ev; (first | (apply ev_callA hct; rfl; rfl; exact Les.cons hle (Les.cons Le.refl Les.nil)) | (apply ev_assign; rfl) | (apply ev_load_ptr_agg; rfl; (focus ((repeat (first | exact Take.head | apply Take.tail | apply Take.right)); done)); exact (by first | rfl | assumption | exact get_map (by assumption)); exact Nat.le_of_ble_eq_true rfl) | (apply ev_load_ip_agg; rfl; exact Nat.le_of_ble_eq_true rfl) | (apply ev_inc; rfl; exact (by first | omega | assumption)) | (apply ev_indexAddr_sl; rfl; rfl; exact (by first | omega | assumption); exact (by first | rfl | assumption | exact get_map (by assumption))) | (apply ev_slice_sl; rfl; exact (by first | exact LoB.none | exact LoB.some (l := 0) rfl | exact LoB.some (l := 1) rfl | exact LoB.some rfl); exact (by first | exact HiB.none | exact HiB.some rfl); exact (by first | omega | assumption); exact (by first | omega | assumption | (simp; done) | (simp; omega) | exact Nat.le_of_ble_eq_true rfl))); rfl) | (apply ar_new; (first | apply eff_alloc | (apply eff_box; rfl; exact lies_of rfl) | (apply eff_conv_bytes; rfl; exact (by first | omega | assumption | (simp; done) | (simp; omega) | exact Nat.le_of_ble_eq_true rfl))); exact .nil; rfl; intro lab) | (apply ar_store; rfl; (focus ((repeat (first | exact Take.head | apply Take.tail | apply Take.right)); done)); rfl; rfl; exact (by first | rfl | assumption | exact get_map (by assumption)); rfl; rfl) | apply aw_seq | apply a_region | apply aw_block | apply aw_skip | apply aw_ret | (apply aw_condp; rfl; all_goals (intro hc; try (exfalso; first | omega | contradiction | (simp at hc; omega) | (simp_all; done)))) | apply go_seq | apply go_seq_ret | apply go_block | apply go_block_ret | apply go_loop_ret | (first | (apply a_drawN 2; rfl; rfl) | (apply a_drawN 3; rfl; rfl) | (apply a_drawN 4; rfl; rfl) | (apply a_drawN 5; rfl; rfl) | (apply a_drawN 6; rfl; rfl) | (apply a_drawN 7; rfl; rfl) | (apply a_drawN 8; rfl; rfl) | (apply a_drawN 9; rfl; rfl) | (apply a_drawN 10; rfl; rfl) | (apply a_drawN 11; rfl; rfl) | (apply a_drawN 12; rfl; rfl) | (apply a_drawN 13; rfl; rfl) | (apply a_drawN 14; rfl; rfl) | (apply a_drawN 15; rfl; rfl) | (apply a_drawN 16; rfl; rfl) | (apply a_drawN 17; rfl; rfl) | (apply a_drawN 18; rfl; rfl) | (apply a_drawN 19; rfl; rfl) | (apply a_drawN 20; rfl; rfl) | (apply a_drawN 21; rfl; rfl) | (apply a_drawN 22; rfl; rfl) | (apply a_drawN 23; rfl; rfl) | (apply a_drawN 24; rfl; rfl) | (apply a_drawN 25; rfl; rfl) | (apply a_drawN 26; rfl; rfl) | (apply a_drawN 27; rfl; rfl) | (apply a_drawN 28; rfl; rfl) | (apply a_drawN 29; rfl; rfl) | (apply a_drawN 30; rfl; rfl) | (apply a_drawN 31; rfl; rfl) | (apply a_drawN 32; rfl; rfl) | (apply a_drawN 33; rfl; rfl) | (apply a_drawN 34; rfl; rfl) | (apply a_drawN 35; rfl; rfl) | (apply a_drawN 36; rfl; rfl) | (apply a_drawN 37; rfl; rfl) | (apply a_drawN 38; rfl; rfl) | (apply a_drawN 39; rfl; rfl) | (apply a_drawN 40; rfl; rfl) | (apply a_drawN 41; rfl; rfl) | (apply a_drawN 42; rfl; rfl) | (apply a_drawN 43; rfl; rfl) | (apply a_drawN 44; rfl; rfl) | (apply a_drawN 45; rfl; rfl)))
    · exact g_ret1 (r_tmp rfl) .nil (by rw [nodup_of_take (i := i + 1)]; rw [hst]; exact fun h => h.2 hc)
    · exact go_loop_back ⟨i + 1, ⟨by omega, hst.2 ⟨ht, hc⟩⟩, by omega, Sub.of (by repeat (first | exact .nil | refine .cons rfl Le.refl ?_)) (by repeat (first | exact Takes.nil | (apply Takes.cons; focus (repeat (first | exact Take.head | apply Take.tail | apply Take.right)))))⟩
  · obtain rfl : i = l.length := by omega
    rw [List.take_length] at ht
    repeat' (first | apply ar_nil | (apply ar_ev; (apply ev_assign; rfl); rfl) | apply aw_seq | apply a_region | apply aw_exit | apply aw_ret | apply go_seq | apply go_seq_exit | apply go_block_exit | apply go_loop_exit)
    exact g_ret1 (r_tmp rfl) .nil (by rw [(dup_iff l).2 ht])
end Go.Proofs.Ytkidjeejhhfbpaa
