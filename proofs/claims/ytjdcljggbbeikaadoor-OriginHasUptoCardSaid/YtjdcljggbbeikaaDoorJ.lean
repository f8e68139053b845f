import Derived.Test.YtjdcljggbbeikaaDoorI
set_option linter.unusedVariables false
set_option linter.unusedSimpArgs false
set_option maxRecDepth 100000
namespace Go.Proofs.YtjdcljggbbeikaaDoor
open Go.Proofs Go.Proofs.YtjdcljggbbeikaaDoorA

structure OkG (o : Org) : Prop where
  h : o.host.size ≤ 1048576
  s : o.sch.size ≤ 1048576
theorem cloneG_ok (l : List Org) (hn : l.length ≤ 1099511627776) : FnC Tryd.prog 33 [] [gsl l] (fun ts r => ∃ lab, ts = [(lab, .row 23 3 (l.map encG))] ∧ r = .own lab 0 l.length) := by
  refine fn_of Tryd.func33 rfl Tryd.ntmps33 Tryd.results33 rfl fun G => ?_
  repeat' (first | apply ar_nil | (apply ar_ev; (apply ev_move; rfl); rfl) | (apply ar_ev; (apply ev_assign; rfl); rfl) | apply aw_seq | apply a_region | apply go_seq)
  apply ar_eff (eff_eqnil_sl rfl) .nil rfl; rintro _ _ ⟨rfl, b, rfl, hb⟩
  cases b
  · repeat' (first | (apply ar_new (d := 5); (apply eff_buildSlice; rfl; rfl; rfl; rfl; rfl; rfl; rfl); exact .nil; rfl; intro lab) | apply ar_nil | (apply ar_ev; (apply ev_move; rfl); rfl) | (apply ar_ev; (apply ev_assign; rfl); rfl) | apply aw_seq | apply a_region | apply aw_skip | apply aw_ret | (apply aw_cond_f; rfl) | apply go_seq | (apply ar_append; rfl; (focus ((repeat (first | exact Take.head | apply Take.tail | apply Take.right)); done)); rfl; exact (by first | omega | assumption | (simp; done) | (simp; omega) | exact Nat.le_of_ble_eq_true rfl); exact (by first | omega | assumption | (simp; done) | (simp; omega) | exact Nat.le_of_ble_eq_true rfl); exact (by first | omega | assumption | (simp; done) | (simp; omega) | exact Nat.le_of_ble_eq_true rfl); rfl; intro lab))
    refine g_ret1 (r_tmp rfl) (.cons (by repeat (first | exact Take.head | apply Take.tail | apply Take.right)) .nil) ⟨lab, ?_, by rw [Nat.zero_add]⟩
    have e : List.take l.length (l.map encG) = l.map encG := List.take_of_length_le (by simp)
    exact congrArg (fun z => [(lab, Tok.row 23 3 z)]) e
  · have e : l = [] := List.map_eq_nil_iff.1 (hb rfl)
    subst e
    repeat' ((fail_if_success (show AW _ (.ret) _ _)); (first | apply ar_nil | (apply ar_ev; (apply ev_assign; rfl); rfl) | apply aw_seq | apply a_region | (apply aw_cond_t; rfl) | apply go_seq))
    refine aw_adopt 2 23 3 rfl fun lab => ?_
    repeat' (first | apply aw_ret | apply go_seq_ret)
    exact g_ret1 (r_tmp rfl) (.cons .head .nil) ⟨lab, rfl, rfl⟩
theorem indexFuncG_ok (xs : List Org) (caps : List AV) (f : FuncId) [Ent Tryd.prog f] (p : Org → Bool) (hn : xs.length ≤ 1099511627776) (hp : ∀ x, x ∈ xs → PFn Tryd.prog f ([.agg (encG x)] ++ caps) (vb (p x))) : FnC Tryd.prog 42 [] [gsl xs, .fn f caps] (fun ts r => ts = [] ∧ ∃ n : Int, r = vi n ∧ (0 ≤ n ↔ xs.any p = true)) := by
  refine fn_of Tryd.func42 rfl Tryd.ntmps42 Tryd.results42 rfl fun G => ?_
  repeat' (first | apply ar_nil | (apply ar_ev; (apply ev_move; rfl); rfl) | (apply ar_ev; (first | (apply ev_assign; rfl) | (apply ev_len_sl; rfl)); rfl) | apply aw_seq | apply a_region | apply aw_block | apply go_seq)
  refine a_loop (fun i : Nat => ⟨[(0, gsl xs), (1, .fn f caps), (7, vi xs.length), (8, vi i)], []⟩) (fun i => i ≤ xs.length ∧ (xs.take i).any p = false) (fun i => xs.length - i) 0 (Sub.of (by repeat (first | exact .nil | refine .cons rfl Le.refl ?_)) (by repeat (first | exact Takes.nil | (apply Takes.cons; focus (repeat (first | exact Take.head | apply Take.tail | apply Take.right)))))) ⟨Nat.zero_le _, rfl⟩ ?_
  rintro i ⟨hi, ht⟩
  repeat' (first | apply ar_nil | (apply ar_ev; (apply ev_lss; rfl; rfl); rfl) | apply aw_seq | apply a_region | apply go_seq)
  refine aw_condp rfl (fun hk => ?_) (fun hk => ?_)
  · obtain ⟨x, hx⟩ : ∃ x, xs[i]? = some x := ⟨_, List.getElem?_eq_getElem (by omega)⟩
    have hx2 := gsl_get hx
    have hpx := hp x (List.mem_of_getElem? hx)
    repeat' (first | apply ar_nil | (apply ar_ev; (apply ev_move; rfl); rfl) | (apply ar_ev; (first | exact ev_call rfl rfl hpx | (apply ev_assign; rfl) | (apply ev_load_ip_agg; rfl; exact Nat.le_of_ble_eq_true rfl) | (apply ev_inc; rfl; exact (by first | omega | assumption)) | (apply ev_indexAddr_sl; rfl; rfl; exact (by first | omega | assumption); exact (by first | rfl | assumption | exact get_map (by assumption)))); rfl) | apply aw_seq | apply a_region | apply aw_block | apply aw_skip | apply aw_ret | (apply aw_condb; rfl; all_goals (intro hc; try (exfalso; first | omega | contradiction | (simp at hc; omega) | (simp_all; done)))) | apply go_seq | apply go_seq_ret | apply go_block | apply go_block_ret | apply go_loop_ret)
    · exact g_ret1 (r_tmp rfl) .nil ⟨rfl, (i : Int), rfl, ⟨fun _ => List.any_eq_true.2 ⟨x, List.mem_of_getElem? hx, hc⟩, fun _ => by omega⟩⟩
    · refine go_loop_back ⟨i + 1, ⟨by omega, ?_⟩, by omega, Sub.of (by repeat (first | exact .nil | refine .cons rfl Le.refl ?_)) (by repeat (first | exact Takes.nil | (apply Takes.cons; focus (repeat (first | exact Take.head | apply Take.tail | apply Take.right)))))⟩
      rw [List.take_add_one, hx, List.any_append, ht, Option.toList_some, List.any_cons, hc]; rfl
  · obtain rfl : i = xs.length := by omega
    rw [List.take_length] at ht
    repeat' (first | apply ar_nil | (apply ar_ev; (apply ev_assign; rfl); rfl) | apply aw_seq | apply a_region | apply aw_exit | apply aw_ret | apply go_seq | apply go_seq_exit | apply go_block_exit | apply go_loop_exit)
    exact g_ret1 (r_tmp rfl) .nil ⟨rfl, -1, rfl, ⟨fun h => by omega, fun h => by rw [ht] at h; cases h⟩⟩
theorem containsFuncG_ok (xs : List Org) (caps : List AV) (f : FuncId) [Ent Tryd.prog f] (p : Org → Bool) (hn : xs.length ≤ 1099511627776) (hp : ∀ x, x ∈ xs → PFn Tryd.prog f ([.agg (encG x)] ++ caps) (vb (p x))) : PFn Tryd.prog 34 [gsl xs, .fn f caps] (vb (xs.any p)) := by
  refine fn_of Tryd.func34 rfl Tryd.ntmps34 Tryd.results34 rfl fun G => ?_
  repeat' (first | apply ar_nil | (apply ar_ev; (apply ev_move; rfl); rfl) | (apply ar_ev; (apply ev_assign; rfl); rfl) | apply aw_seq | apply a_region | apply go_seq)
  apply ar_call (indexFuncG_ok xs caps f p hn hp); rfl; rfl; (focus ((repeat (first | exact Takes.nil | (apply Takes.cons; focus (repeat (first | exact Take.head | apply Take.tail | apply Take.right))))); done)); rfl; rintro _ _ ⟨rfl, n, rfl, h⟩
  repeat' (first | apply ar_nil | (apply ar_ev; (first | (apply ev_assign; rfl) | (apply ev_geq; rfl; rfl)); rfl) | apply aw_ret | apply go_seq)
  have e : decide (n ≥ 0) = xs.any p := Bool.eq_iff_iff.2 (by rw [decide_eq_true_iff]; exact h)
  exact g_ret1 (r_tmp rfl) .nil (by rw [e])
theorem of1_ok (o : Org) (h : OkG o) : PFn Tryd.prog 35 [.agg (encG o)] (vb (!rightB o)) := by
  refine fn_of Tryd.func35 rfl Tryd.ntmps35 Tryd.results35 rfl fun G => ?_
  have hr := right_ok o h.h
  repeat' (first | apply ar_nil | (apply ar_ev; (first | exact ev_call rfl rfl hr | (apply ev_assign; rfl) | (apply ev_load_ptr_agg; rfl; (focus ((repeat (first | exact Take.head | apply Take.tail | apply Take.right)); done)); exact (by first | rfl | assumption | exact get_map (by assumption)); exact Nat.le_of_ble_eq_true rfl) | (apply ev_not; rfl)); rfl) | (apply ar_new; (first | apply eff_alloc | (apply eff_box; rfl; exact lies_of rfl) | (apply eff_conv_bytes; rfl; exact (by first | omega | assumption | (simp; done) | (simp; omega) | exact Nat.le_of_ble_eq_true rfl))); exact .nil; rfl; intro lab) | apply aw_seq | apply a_region | apply aw_ret | apply go_seq)
  exact g_ret1 (r_tmp rfl) .nil rfl

/-! Does one stand there twice? -/
def dupB : List Org → Bool
  | [] => false
  | t :: l => decide (t ∈ l) || dupB l
theorem dup_iff : ∀ l : List Org, dupB l = false ↔ l.Nodup
  | [] => by simp [dupB]
  | t :: l => by simp [dupB, dup_iff l]
theorem nodup_step {l : List Org} {i : Nat} {t : Org} (h : l[i]? = some t) : (l.take (i + 1)).Nodup ↔ (l.take i).Nodup ∧ t ∉ l.take i := by
  rw [List.take_add_one, h, Option.toList_some, List.nodup_append]
  constructor
  · rintro ⟨h1, _, h2⟩; exact ⟨h1, fun h3 => h2 t h3 t (List.mem_singleton.2 rfl) rfl⟩
  · rintro ⟨h1, h2⟩; exact ⟨h1, by simp, fun a ha b hb e => h2 (by obtain rfl := List.mem_singleton.1 hb; exact e ▸ ha)⟩
theorem nodup_of_take {l : List Org} {i : Nat} (h : ¬ (l.take i).Nodup) : dupB l = true := by
  rw [← Bool.not_eq_false, dup_iff]; exact fun h2 => h (h2.sublist (List.take_sublist _ _))
def ofE (l : List Org) : Nat := if l.any (fun o => !rightB o) = true then 150 else if dupB l = true then 7 else if 16 < l.length then 6 else 0
section
variable {st : St} {dst : Option Tmp} {ty : TypeId} {pos : String} {after : Array Edge} {g : Option (Nat × Bool)}
theorem ev_at {x ix : Operand} {o : Org} {lm n : Nat} {l : List Org} {r : List (Nat × Tok)} (hv : (match (findIx (keyG o) (mapG l)).bind ((mapG l)[·]?) with | some p => p.2 | none => zeroAV false (.int .i64 0)) = vi (n : Int)) (hx : st.get x = some (.mref lm)) (hi : st.get ix = some (.agg (encG o))) (ht : Take st.toks lm (.map (encE (mapG l))) r) :
    OpEv Tryd.prog ⟨dst, .lookup 61 x ix false, ty, pos, after, g⟩ st (vi (n : Int)) := by
  rw [← hv]
  exact ev_lookup (P := Tryd.prog) (dst := dst) (ty := ty) (pos := pos) (after := after) (g := g) (t := 61) hx hi rfl rfl ht (map_fit l) (fun h => by cases h)
theorem ev_ati {x ix : Operand} {o : Org} {n : Nat} {l : List Org} (hv : (match (findIx (keyG o) (mapG l)).bind ((mapG l)[·]?) with | some p => p.2 | none => zeroAV false (.int .i64 0)) = vi (n : Int)) (hx : st.get x = some (.imap (encE (mapG l)))) (hi : st.get ix = some (.agg (encG o))) :
    OpEv Tryd.prog ⟨dst, .lookup 61 x ix false, ty, pos, after, g⟩ st (vi (n : Int)) := by
  rw [← hv]
  exact ev_lookupi (P := Tryd.prog) (dst := dst) (ty := ty) (pos := pos) (after := after) (g := g) (t := 61) hx hi rfl rfl (map_fit l) (fun h => by cases h)
end
/-- A set's tokens: its own block; its list; its map. -/
abbrev setT (ls ll lm : Nat) (l : List Org) : List (Nat × Tok) := [(ls, .row 63 2 [[.own ll 0 l.length, .mref lm]]), (ll, .row 23 3 (l.map encG)), (lm, .map (encE (mapG l)))]
/-- A set that is only read. -/
abbrev setI (l : List Org) : AV := .ip [gsl l, .imap (encE (mapG l))]
theorem cv_set {ts r r2 r3 : List (Nat × Tok)} {ls ll lm : Nat} {l : List Org} (h1 : Take ts ls (.row 63 2 [[.own ll 0 l.length, .mref lm]]) r) (h2 : Take ts ll (.row 23 3 (l.map encG)) r2) (h3 : Take ts lm (.map (encE (mapG l))) r3) : Cv ts (.ptr ls 0 0) (setI l) := by
  refine Cv.ptrr h1 rfl (Cvs.cons ?_ (Cvs.cons (Cv.map h3) .nil)) (fun y hy => ?_)
  · have := Cv.own0 (n := l.length) h2 (by simp)
    exact this
  · simp only [List.mem_cons, List.not_mem_nil, or_false] at hy
    rcases hy with rfl | rfl <;> rfl
set_option maxHeartbeats 8000000 in
theorem Of_ok (l : List Org) (hn : l.length ≤ 1048576) (hok : ∀ o, o ∈ l → OkG o) : FnC Tryd.prog 16 [] [gsl l] (fun ts r => (ofE l ≠ 0 ∧ ts = [] ∧ r = .tup [nilP, vi (ofE l : Nat)]) ∨ (ofE l = 0 ∧ ∃ ls ll lm, ts = setT ls ll lm l ∧ r = .tup [.ptr ls 0 0, vi 0])) := by
  refine fn_of Tryd.func16 rfl Tryd.ntmps16 Tryd.results16 rfl fun G => ?_
  have hcl := cloneG_ok l (by omega)
  have hcf := containsFuncG_ok l [] 35 (fun o => !rightB o) (by omega) (fun o ho => of1_ok o (hok o ho))
  have he : ofE l = if l.any (fun o => !rightB o) = true then 150 else if dupB l = true then 7 else if 16 < l.length then 6 else 0 := rfl
  generalize l.any (fun o => !rightB o) = A at *
  cases A
  · rw [if_neg (by decide)] at he
    repeat' ((fail_if_success (show AW _ (.region 4 _ _) _ _)); (first | (apply ar_call hcl; rfl; rfl; (focus ((repeat (first | exact Takes.nil | (apply Takes.cons; focus (repeat (first | exact Take.head | apply Take.tail | apply Take.right))))); done)); rfl; rintro _ _ ⟨ll, rfl, rfl⟩) | (apply ar_new; apply eff_makeMap; exact .nil; rfl; intro lab) | apply ar_nil | (apply ar_ev; (apply ev_move; rfl); rfl) | (apply ar_ev; (first | exact ev_call rfl rfl hcf | (apply ev_assign; rfl) | (apply ev_len_sl; rfl) | (apply ev_not; rfl) | (apply ev_build; rfl; rfl; rfl)); rfl) | (apply ar_new; (first | apply eff_alloc | (apply eff_box; rfl; exact lies_of rfl) | (apply eff_conv_bytes; rfl; exact (by first | omega | assumption | (simp; done) | (simp; omega) | exact Nat.le_of_ble_eq_true rfl))); exact .nil; rfl; intro lab) | apply aw_seq | apply a_region | apply aw_block | (apply aw_cond_t; rfl) | apply go_seq))
    generalize lab = ls at *
    rename_i lm
    refine a_loop (fun i : Nat => ⟨[(0, gsl l), (4, .ptr ls 0 0), (15, gsl l), (16, vi l.length), (17, vi i)], [(ls, .row 63 2 [[.own ll 0 l.length, .mref lm]]), (ll, .row 23 3 (l.map encG)), (lm, .map (encE (mapG (l.take i))))]⟩)
      (fun i => i ≤ l.length ∧ (l.take i).Nodup) (fun i => l.length - i) 0 (Sub.of (by repeat (first | exact .nil | refine .cons rfl Le.refl ?_)) (by repeat (first | exact Takes.nil | (apply Takes.cons; focus (repeat (first | exact Take.head | apply Take.tail | apply Take.right)))))) ⟨Nat.zero_le _, by simp⟩ ?_
    rintro i ⟨hi, hnd⟩
    repeat' (first | apply ar_nil | (apply ar_ev; (apply ev_lss; rfl; rfl); rfl) | apply aw_seq | apply a_region | apply go_seq)
    refine aw_condp rfl (fun hk => ?_) (fun hk => ?_)
    · obtain ⟨o, ho⟩ : ∃ o, l[i]? = some o := ⟨_, List.getElem?_eq_getElem (by omega)⟩
      have ho2 := gsl_get ho
      have hst := nodup_step ho
      obtain ⟨n, hv, hmem⟩ := find_val o (l.take i) 0
      by_cases hm : o ∈ l.take i
      · have hdup : dupB l = true := nodup_of_take (i := i + 1) (by rw [hst]; exact fun h => h.2 hm)
        rw [if_pos hdup] at he
        have hnp := hmem.2 hm
        repeat' (first | apply ar_nil | (apply ar_ev; (apply ev_move; rfl); rfl) | (apply ar_ev; (first | (apply ev_at hv; rfl; rfl; exact (by repeat (first | exact Take.head | apply Take.tail | apply Take.right))) | (apply ev_load_ptr_one; rfl; (focus ((repeat (first | exact Take.head | apply Take.tail | apply Take.right)); done)); exact (by first | rfl | assumption | exact get_map (by assumption)); rfl) | (apply ev_fieldAddr_ptr; rfl) | (apply ev_assign; rfl) | (apply ev_nilCheck_ptr; rfl) | (apply ev_load_ptr_agg; rfl; (focus ((repeat (first | exact Take.head | apply Take.tail | apply Take.right)); done)); exact (by first | rfl | assumption | exact get_map (by assumption)); exact Nat.le_of_ble_eq_true rfl) | (apply ev_load_ip_agg; rfl; exact Nat.le_of_ble_eq_true rfl) | (apply ev_gtr; rfl; rfl) | (apply ev_indexAddr_sl; rfl; rfl; exact (by first | omega | assumption); exact (by first | rfl | assumption | exact get_map (by assumption)))); rfl) | (apply ar_new; (first | apply eff_alloc | (apply eff_box; rfl; exact lies_of rfl) | (apply eff_conv_bytes; rfl; exact (by first | omega | assumption | (simp; done) | (simp; omega) | exact Nat.le_of_ble_eq_true rfl))); exact .nil; rfl; intro lab) | (apply ar_store; rfl; (focus ((repeat (first | exact Take.head | apply Take.tail | apply Take.right)); done)); rfl; rfl; exact (by first | rfl | assumption | exact get_map (by assumption)); rfl; rfl) | apply aw_seq | apply a_region | apply aw_block | apply aw_skip | apply aw_ret | (apply aw_condp; rfl; all_goals (intro hc; try (exfalso; first | omega | contradiction | (simp at hc; omega) | (simp_all; done)))) | apply go_seq | apply go_seq_ret | apply go_block_ret | apply go_loop_ret | (first | (apply a_drawN 2; rfl; rfl) | (apply a_drawN 3; rfl; rfl) | (apply a_drawN 4; rfl; rfl) | (apply a_drawN 5; rfl; rfl) | (apply a_drawN 6; rfl; rfl) | (apply a_drawN 7; rfl; rfl) | (apply a_drawN 8; rfl; rfl) | (apply a_drawN 9; rfl; rfl) | (apply a_drawN 10; rfl; rfl) | (apply a_drawN 11; rfl; rfl) | (apply a_drawN 12; rfl; rfl) | (apply a_drawN 13; rfl; rfl) | (apply a_drawN 14; rfl; rfl) | (apply a_drawN 15; rfl; rfl) | (apply a_drawN 16; rfl; rfl) | (apply a_drawN 17; rfl; rfl) | (apply a_drawN 18; rfl; rfl) | (apply a_drawN 19; rfl; rfl) | (apply a_drawN 20; rfl; rfl) | (apply a_drawN 21; rfl; rfl) | (apply a_drawN 22; rfl; rfl) | (apply a_drawN 23; rfl; rfl) | (apply a_drawN 24; rfl; rfl) | (apply a_drawN 25; rfl; rfl) | (apply a_drawN 26; rfl; rfl) | (apply a_drawN 27; rfl; rfl) | (apply a_drawN 28; rfl; rfl) | (apply a_drawN 29; rfl; rfl) | (apply a_drawN 30; rfl; rfl) | (apply a_drawN 31; rfl; rfl) | (apply a_drawN 32; rfl; rfl) | (apply a_drawN 33; rfl; rfl) | (apply a_drawN 34; rfl; rfl) | (apply a_drawN 35; rfl; rfl) | (apply a_drawN 36; rfl; rfl) | (apply a_drawN 37; rfl; rfl) | (apply a_drawN 38; rfl; rfl) | (apply a_drawN 39; rfl; rfl) | (apply a_drawN 40; rfl; rfl) | (apply a_drawN 41; rfl; rfl) | (apply a_drawN 42; rfl; rfl) | (apply a_drawN 43; rfl; rfl) | (apply a_drawN 44; rfl; rfl) | (apply a_drawN 45; rfl; rfl)))
        exact g_ret2 (r_tmp rfl) (r_tmp rfl) .nil (.inl ⟨by omega, rfl, by rw [he]; rfl⟩)
      · have hnp : n = 0 := by
          rcases Nat.eq_zero_or_pos n with h | h
          · exact h
          · exact absurd (hmem.1 h) hm
        have hnone := find_none hm
        have hlen : (l.take i).length = i := by rw [List.length_take]; omega
        have hmap : mapG (l.take (i + 1)) = mapG (l.take i) ++ [([.string o.sch, .string o.host, .int .i64 o.port], vi ((i + 1 : Nat) : Int))] := by
          rw [List.take_add_one, ho, Option.toList_some, map_snoc, hlen]
        repeat' (first | (refine a_draw 7 rfl ?_) | (apply ar_set; apply eff_mapPush (es := mapG (l.take i)) rfl rfl rfl rfl rfl (map_fit _) hnone; exact (by repeat (first | exact Takes.nil | (apply Takes.cons; focus (repeat (first | exact Take.head | apply Take.tail | apply Take.right)))))) | apply ar_nil | (apply ar_ev; (apply ev_move; rfl); rfl) | (apply ar_ev; (first | (apply ev_at hv; rfl; rfl; exact (by repeat (first | exact Take.head | apply Take.tail | apply Take.right))) | (apply ev_load_ptr_one; rfl; (focus ((repeat (first | exact Take.head | apply Take.tail | apply Take.right)); done)); exact (by first | rfl | assumption | exact get_map (by assumption)); rfl) | (apply ev_fieldAddr_ptr; rfl) | (apply ev_assign; rfl) | (apply ev_nilCheck_ptr; rfl) | (apply ev_load_ptr_agg; rfl; (focus ((repeat (first | exact Take.head | apply Take.tail | apply Take.right)); done)); exact (by first | rfl | assumption | exact get_map (by assumption)); exact Nat.le_of_ble_eq_true rfl) | (apply ev_load_ip_agg; rfl; exact Nat.le_of_ble_eq_true rfl) | (apply ev_gtr; rfl; rfl) | (apply ev_inc; rfl; exact (by first | omega | assumption)) | (apply ev_indexAddr_sl; rfl; rfl; exact (by first | omega | assumption); exact (by first | rfl | assumption | exact get_map (by assumption)))); rfl) | (apply ar_new; (first | apply eff_alloc | (apply eff_box; rfl; exact lies_of rfl) | (apply eff_conv_bytes; rfl; exact (by first | omega | assumption | (simp; done) | (simp; omega) | exact Nat.le_of_ble_eq_true rfl))); exact .nil; rfl; intro lab) | (apply ar_store; rfl; (focus ((repeat (first | exact Take.head | apply Take.tail | apply Take.right)); done)); rfl; rfl; exact (by first | rfl | assumption | exact get_map (by assumption)); rfl; rfl) | apply aw_seq | apply a_region | apply aw_block | apply aw_skip | (apply aw_condp; rfl; all_goals (intro hc; try (exfalso; first | omega | contradiction | (simp at hc; omega) | (simp_all; done)))) | apply go_seq | apply go_block)
        exact go_loop_back ⟨i + 1, ⟨by omega, hst.2 ⟨hnd, hm⟩⟩, by omega, by rw [hmap]; exact Sub.of (by repeat (first | exact .nil | refine .cons rfl Le.refl ?_)) (by repeat (first | exact Takes.nil | (apply Takes.cons; focus (repeat (first | exact Take.head | apply Take.tail | apply Take.right)))))⟩
    · obtain rfl : i = l.length := by omega
      rw [List.take_length] at hnd ⊢
      rw [if_neg (by rw [(dup_iff l).2 hnd]; decide)] at he
      repeat' (first | apply ar_nil | (apply ar_ev; (apply ev_move; rfl); rfl) | (apply ar_ev; (first | (apply ev_assign; rfl) | (apply ev_gtr; rfl; rfl) | (apply ev_len_sl; rfl)); rfl) | apply aw_seq | apply a_region | apply aw_skip | apply aw_exit | apply aw_ret | (apply aw_condp; rfl; all_goals (intro hc; try (exfalso; first | omega | contradiction | (simp at hc; omega) | (simp_all; done)))) | apply go_seq | apply go_seq_exit | apply go_seq_ret | apply go_block_exit | apply go_loop_exit)
      · exact g_ret2 (r_tmp rfl) (r_tmp rfl) .nil (.inl ⟨by rw [if_pos (by omega)] at he; omega, rfl, by rw [he, if_pos (by omega)]; rfl⟩)
      · exact g_ret2 (r_tmp rfl) (r_tmp rfl) (us := setT ls ll lm l) (by repeat (first | exact Takes.nil | (apply Takes.cons; focus (repeat (first | exact Take.head | apply Take.tail | apply Take.right))))) (.inr ⟨by rw [he, if_neg (by omega)], ls, ll, lm, rfl, rfl⟩)
  · rw [if_pos rfl] at he
    repeat' (first | (apply ar_call hcl; rfl; rfl; (focus ((repeat (first | exact Takes.nil | (apply Takes.cons; focus (repeat (first | exact Take.head | apply Take.tail | apply Take.right))))); done)); rfl; rintro _ _ ⟨ll, rfl, rfl⟩) | (apply ar_new; apply eff_makeMap; exact .nil; rfl; intro lab) | apply ar_nil | (apply ar_ev; (apply ev_move; rfl); rfl) | (apply ar_ev; (first | exact ev_call rfl rfl hcf | (apply ev_assign; rfl) | (apply ev_not; rfl) | (apply ev_build; rfl; rfl; rfl)); rfl) | (apply ar_new; (first | apply eff_alloc | (apply eff_box; rfl; exact lies_of rfl) | (apply eff_conv_bytes; rfl; exact (by first | omega | assumption | (simp; done) | (simp; omega) | exact Nat.le_of_ble_eq_true rfl))); exact .nil; rfl; intro lab) | apply aw_seq | apply a_region | apply aw_skip | apply aw_ret | (apply aw_cond_f; rfl) | apply go_seq)
    exact g_ret2 (r_tmp rfl) (r_tmp rfl) .nil (.inl ⟨by omega, rfl, by rw [he]; rfl⟩)
end Go.Proofs.YtjdcljggbbeikaaDoor
