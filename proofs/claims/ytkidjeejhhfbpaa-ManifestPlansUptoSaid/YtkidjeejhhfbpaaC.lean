import Derived.Test.YtkidjeejhhfbpaaB
set_option linter.unusedVariables false
set_option linter.unusedSimpArgs false
set_option maxRecDepth 100000
namespace Go.Proofs.Ytkidjeejhhfbpaa
open Go.Proofs Go.Proofs.YtkidjeejhhfbpaaA

def dupR (rs : List Rl) : Bool := dupB (rs.map (·.1)) || rs.any fun r => dupB r.2
/-- The fault of rules. -/
def errN (rs : List Rl) : Nat := if 64 < rs.length ∨ rs.any longR = true then 3 else if rs.any wrongR = true then 180 else if dupR rs = true then 7 else 0
def manV (rs : List Rl) : AV := .ip [.imap (encE (mapOf rs))]
def ofV (rs : List Rl) (ok : AV) : AV := .tup [if errN rs = 0 then ok else .val (.pointer none), vi (errN rs)]
theorem Le.tup {xs ys : List AV} (h : Les xs ys) : Le (.tup xs) (.tup ys) := fun S R w v hv => by
  cases hv with
  | tup hl hf =>
    refine .tup (by rw [hl, h.len]) fun i x hx => ?_
    obtain ⟨y, hy, hle⟩ := h.get i x hx
    exact hle.rep (hf i y hy)
section
variable {st : St} {dst : Option Tmp} {ty : TypeId} {pos : String} {after : Array Edge} {g : Option (Nat × Bool)}
theorem ev_there {x ix : Operand} {t : Tg} {l : Nat} {rs : List Rl} {r : List (Nat × Tok)} (hx : st.get x = some (.mref l)) (hi : st.get ix = some (.agg (encT t))) (ht : Take st.toks l (.map (encE (mapOf rs))) r) :
    OpEv Try.prog ⟨dst, .lookup 53 x ix true, ty, pos, after, g⟩ st (.tup [.dead, vb (decide (t ∈ rs.map (·.1)))]) := by
  have h := ev_lookup_ok (P := Try.prog) (dst := dst) (ty := ty) (pos := pos) (after := after) (g := g) (t := 53) hx hi rfl rfl ht (map_fit rs) (fun h => by cases h)
  refine ev_le h (Le.tup (.cons Le.dead (.cons ?_ .nil)))
  rw [← find_some]
  exact Le.refl
theorem ev_names {x ix : Operand} {t : Tg} {rs : List Rl} (hx : st.get x = some (.imap (encE (mapOf rs)))) (hi : st.get ix = some (.agg (encT t))) :
    OpEv Try.prog ⟨dst, .lookup 53 x ix false, ty, pos, after, g⟩ st (tsl (nmOf rs t)) :=
  ev_le (ev_lookupi (P := Try.prog) (dst := dst) (ty := ty) (pos := pos) (after := after) (g := g) (t := 53) hx hi rfl rfl (map_fit rs) (fun h => by cases h)) (find_val t rs)
end
theorem any_of_get {α : Type} {l : List α} {i : Nat} {x : α} (h : l[i]? = some x) {p : α → Bool} (hp : p x = true) : l.any p = true := List.any_eq_true.2 ⟨x, List.mem_of_getElem? h, hp⟩
theorem any_take {α : Type} {l : List α} {i : Nat} {x : α} (h : l[i]? = some x) {p : α → Bool} (hp : (l.take i).any p = false) (hx : p x = false) : (l.take (i + 1)).any p = false := by
  rw [List.take_add_one, h, List.any_append, hp, Option.toList_some, List.any_cons, hx]; rfl
theorem map_get1 {rs : List Rl} {i : Nat} {r : Rl} (h : rs[i]? = some r) : (rs.map (·.1))[i]? = some r.1 := by simp [h]
theorem dupR_there {rs : List Rl} {i : Nat} {r : Rl} (h : rs[i]? = some r) (hm : r.1 ∈ (rs.take i).map (·.1)) : dupR rs = true := by
  have : dupB (rs.map (·.1)) = true := nodup_of_take (i := i + 1) (by rw [nodup_step (map_get1 h), ← List.map_take]; exact fun h2 => h2.2 hm)
  unfold dupR; rw [this]; rfl
theorem dupR_push {rs : List Rl} {i : Nat} {r : Rl} (h : rs[i]? = some r) (hm : dupB r.2 = true) : dupR rs = true := by
  unfold dupR; rw [any_of_get h (p := fun r => dupB r.2) hm, Bool.or_true]

set_option maxHeartbeats 8000000 in
theorem Of_ok (rs : List Rl) (hn : rs.length ≤ 1099511627776) (hr : ∀ r, r ∈ rs → OkR r) : PFn Try.prog 8 [rsl rs] (ofV rs (manV rs)) := by
  refine pfn_cv (Post := fun ts r => Cv ts r (ofV rs (manV rs))) ?_ (fun _ _ h => h)
  refine fn_of Try.func8 rfl Try.ntmps8 Try.results8 rfl fun G => ?_
  have h1 := containsFuncR_ok rs [] 22 longR hn (fun r _ => of1_ok r)
  have h2 := containsFuncR_ok rs [.ip [.fn 23 []]] 25 wrongR hn (fun r hm => of3_ok r (hr r hm))
  have he : errN rs = if 64 < rs.length ∨ rs.any longR = true then 3 else if rs.any wrongR = true then 180 else if dupR rs = true then 7 else 0 := rfl
  generalize rs.any longR = A at *
  generalize rs.any wrongR = B at *
  repeat' (first | apply ar_nil | (apply ar_splitp; (apply ev_move; rfl); rfl; all_goals (intro hc; try (exfalso; first | omega | contradiction | (simp at hc; omega) | (simp_all; done)))) | (apply ar_ev; (apply ev_move; rfl); rfl) | (apply ar_ev; (first | (apply ev_assign; rfl) | (apply ev_pick_t; rfl; rfl) | (apply ev_pick_f; rfl; rfl) | (apply ev_gtr; rfl; rfl) | (apply ev_len_sl; rfl) | (apply ev_makeFunc; rfl)); rfl) | (apply ar_new; (first | apply eff_alloc | (apply eff_box; rfl; exact lies_of rfl) | (apply eff_conv_bytes; rfl; exact (by first | omega | assumption | (simp; done) | (simp; omega) | exact Nat.le_of_ble_eq_true rfl))); exact .nil; rfl; intro lab) | (apply ar_store1; rfl; (focus ((repeat (first | exact Take.head | apply Take.tail | apply Take.right)); done)); rfl; rfl; exact (by first | rfl | assumption | exact get_map (by assumption)); rfl) | (apply ar_skip; rfl; rfl; rfl; rfl; rfl) | (apply ar_take; rfl; rfl; rfl; (apply ev_move; rfl); rfl) | (apply ar_take; rfl; rfl; rfl; exact ev_call rfl rfl h1; rfl) | apply aw_seq | apply a_region | apply aw_skip | apply aw_ret | (apply aw_cond_t; rfl) | (apply aw_condb; rfl; all_goals (intro hc; try (exfalso; first | omega | contradiction | (simp at hc; omega) | (simp_all; done)))) | apply go_seq | apply go_seq_ret)
  · rw [if_pos (.inl (by omega))] at he
    exact g_ret2 (r_tmp rfl) (r_tmp rfl) .nil (by unfold ofV; rw [he]; exact .refl)
  · rw [if_pos (.inr hc)] at he
    exact g_ret2 (r_tmp rfl) (r_tmp rfl) .nil (by unfold ofV; rw [he]; exact .refl)
  rw [if_neg (by rintro (h | h); omega; rw [hc] at h; cases h)] at he
  clear hc
  repeat' ((fail_if_success (show AW _ (.region 6 _ _) _ _)); (first | apply ar_nil | (apply ar_ev; (first | (apply ev_callL h2; rfl; rfl; (focus ((repeat (first | exact Cvs.nil | (apply Cvs.cons; first | exact Cv.refl | exact Cv.le Le.nil | (apply Cv.own0; (focus ((repeat (first | exact Take.head | apply Take.tail | apply Take.right)); done)); exact (by first | omega | assumption | (simp; done) | (simp; omega) | exact Nat.le_of_ble_eq_true rfl)) | (apply Cv.own_pre; (focus ((repeat (first | exact Take.head | apply Take.tail | apply Take.right)); done)); exact (by first | omega | assumption | (simp; done) | (simp; omega) | exact Nat.le_of_ble_eq_true rfl)) | (apply Cv.ptr0; (focus ((repeat (first | exact Take.head | apply Take.tail | apply Take.right)); done)); first | rfl | assumption) | (apply Cv.agg; (focus ((repeat (first | exact Cvs.nil | (apply Cvs.cons; first | exact Cv.refl | exact Cv.le Le.nil | (apply Cv.own0; (focus ((repeat (first | exact Take.head | apply Take.tail | apply Take.right)); done)); exact (by first | omega | assumption | (simp; done) | (simp; omega) | exact Nat.le_of_ble_eq_true rfl)) | (apply Cv.own_pre; (focus ((repeat (first | exact Take.head | apply Take.tail | apply Take.right)); done)); exact (by first | omega | assumption | (simp; done) | (simp; omega) | exact Nat.le_of_ble_eq_true rfl)) | (apply Cv.ptr0; (focus ((repeat (first | exact Take.head | apply Take.tail | apply Take.right)); done)); first | rfl | assumption) | (apply Cv.agg; (focus ((repeat (first | exact Cvs.nil | (apply Cvs.cons; first | exact Cv.refl | exact Cv.le Le.nil | (apply Cv.own0; (focus ((repeat (first | exact Take.head | apply Take.tail | apply Take.right)); done)); exact (by first | omega | assumption | (simp; done) | (simp; omega) | exact Nat.le_of_ble_eq_true rfl)) | (apply Cv.own_pre; (focus ((repeat (first | exact Take.head | apply Take.tail | apply Take.right)); done)); exact (by first | omega | assumption | (simp; done) | (simp; omega) | exact Nat.le_of_ble_eq_true rfl)) | (apply Cv.ptr0; (focus ((repeat (first | exact Take.head | apply Take.tail | apply Take.right)); done)); first | rfl | assumption)))); done))) | (apply Cv.fn; (focus ((repeat (first | exact Cvs.nil | (apply Cvs.cons; first | exact Cv.refl | exact Cv.le Le.nil | (apply Cv.own0; (focus ((repeat (first | exact Take.head | apply Take.tail | apply Take.right)); done)); exact (by first | omega | assumption | (simp; done) | (simp; omega) | exact Nat.le_of_ble_eq_true rfl)) | (apply Cv.own_pre; (focus ((repeat (first | exact Take.head | apply Take.tail | apply Take.right)); done)); exact (by first | omega | assumption | (simp; done) | (simp; omega) | exact Nat.le_of_ble_eq_true rfl)) | (apply Cv.ptr0; (focus ((repeat (first | exact Take.head | apply Take.tail | apply Take.right)); done)); first | rfl | assumption)))); done)))))); done))) | (apply Cv.fn; (focus ((repeat (first | exact Cvs.nil | (apply Cvs.cons; first | exact Cv.refl | exact Cv.le Le.nil | (apply Cv.own0; (focus ((repeat (first | exact Take.head | apply Take.tail | apply Take.right)); done)); exact (by first | omega | assumption | (simp; done) | (simp; omega) | exact Nat.le_of_ble_eq_true rfl)) | (apply Cv.own_pre; (focus ((repeat (first | exact Take.head | apply Take.tail | apply Take.right)); done)); exact (by first | omega | assumption | (simp; done) | (simp; omega) | exact Nat.le_of_ble_eq_true rfl)) | (apply Cv.ptr0; (focus ((repeat (first | exact Take.head | apply Take.tail | apply Take.right)); done)); first | rfl | assumption) | (apply Cv.agg; (focus ((repeat (first | exact Cvs.nil | (apply Cvs.cons; first | exact Cv.refl | exact Cv.le Le.nil | (apply Cv.own0; (focus ((repeat (first | exact Take.head | apply Take.tail | apply Take.right)); done)); exact (by first | omega | assumption | (simp; done) | (simp; omega) | exact Nat.le_of_ble_eq_true rfl)) | (apply Cv.own_pre; (focus ((repeat (first | exact Take.head | apply Take.tail | apply Take.right)); done)); exact (by first | omega | assumption | (simp; done) | (simp; omega) | exact Nat.le_of_ble_eq_true rfl)) | (apply Cv.ptr0; (focus ((repeat (first | exact Take.head | apply Take.tail | apply Take.right)); done)); first | rfl | assumption)))); done))) | (apply Cv.fn; (focus ((repeat (first | exact Cvs.nil | (apply Cvs.cons; first | exact Cv.refl | exact Cv.le Le.nil | (apply Cv.own0; (focus ((repeat (first | exact Take.head | apply Take.tail | apply Take.right)); done)); exact (by first | omega | assumption | (simp; done) | (simp; omega) | exact Nat.le_of_ble_eq_true rfl)) | (apply Cv.own_pre; (focus ((repeat (first | exact Take.head | apply Take.tail | apply Take.right)); done)); exact (by first | omega | assumption | (simp; done) | (simp; omega) | exact Nat.le_of_ble_eq_true rfl)) | (apply Cv.ptr0; (focus ((repeat (first | exact Take.head | apply Take.tail | apply Take.right)); done)); first | rfl | assumption)))); done)))))); done)))))); done)); constructor) | (apply ev_assign; rfl)); rfl) | apply aw_seq | apply a_region | apply aw_skip | apply aw_ret | (apply aw_condb; rfl; all_goals (intro hc; try (exfalso; first | omega | contradiction | (simp at hc; omega) | (simp_all; done)))) | apply go_seq | apply go_seq_ret))
  · rw [if_pos ‹B = true›] at he
    exact g_ret2 (r_tmp rfl) (r_tmp rfl) .nil (by unfold ofV; rw [he]; exact .refl)
  rw [if_neg (by rw [‹B = false›]; decide)] at he
  clear h1 h2
  repeat' (first | (apply ar_new; apply eff_makeMap; exact .nil; rfl; intro lab) | apply ar_nil | (apply ar_ev; (apply ev_move; rfl); rfl) | (apply ar_ev; (first | (apply ev_assign; rfl) | (apply ev_len_sl; rfl) | (apply ev_build; rfl; rfl; rfl)); rfl) | (apply ar_new; (first | apply eff_alloc | (apply eff_box; rfl; exact lies_of rfl) | (apply eff_conv_bytes; rfl; exact (by first | omega | assumption | (simp; done) | (simp; omega) | exact Nat.le_of_ble_eq_true rfl))); exact .nil; rfl; intro lab) | apply aw_seq | apply a_region | apply aw_block | apply go_seq)
  rename_i lm
  refine a_loop (fun i : Nat => ⟨[(5, .ptr lab 0 0), (23, rsl rs), (24, vi rs.length), (25, vi i)], [(lab, .row 55 1 [[.mref lm]]), (lm, .map (encE (mapOf (rs.take i))))]⟩)
    (fun i => i ≤ rs.length ∧ ((rs.take i).map (·.1)).Nodup ∧ (rs.take i).any (fun r => dupB r.2) = false) (fun i => rs.length - i) 0 (Sub.of (by repeat (first | exact .nil | refine .cons rfl Le.refl ?_)) (by repeat (first | exact Takes.nil | (apply Takes.cons; focus (repeat (first | exact Take.head | apply Take.tail | apply Take.right)))))) ⟨Nat.zero_le _, by simp, rfl⟩ ?_
  rintro i ⟨hi, hd1, hd2⟩
  repeat' (first | apply ar_nil | (apply ar_ev; (apply ev_lss; rfl; rfl); rfl) | apply aw_seq | apply a_region | apply go_seq)
  refine aw_condp rfl (fun hk => ?_) (fun hk => ?_)
  · obtain ⟨r, hre⟩ : ∃ r, rs[i]? = some r := ⟨_, List.getElem?_eq_getElem (by omega)⟩
    have hr2 := rsl_get hre
    have hrok := hr r (List.mem_of_getElem? hre)
    have htw := twice_ok r.2 hrok.len
    have hcl := clone_ok r.2 hrok.len
    repeat' ((fail_if_success (show AW _ (.region 11 _ _) _ _)); (first | apply ar_nil | (apply ar_ev; (apply ev_move; rfl); rfl) | (apply ar_ev; (first | (apply ev_there (t := r.1); rfl; rfl; exact (by repeat (first | exact Take.head | apply Take.tail | apply Take.right))) | (apply ev_load_ptr_one; rfl; (focus ((repeat (first | exact Take.head | apply Take.tail | apply Take.right)); done)); exact (by first | rfl | assumption | exact get_map (by assumption)); rfl) | (apply ev_fieldAddr_ptr; rfl) | (apply ev_assign; rfl) | (apply ev_nilCheck_ptr; rfl) | (apply ev_load_ptr_agg; rfl; (focus ((repeat (first | exact Take.head | apply Take.tail | apply Take.right)); done)); exact (by first | rfl | assumption | exact get_map (by assumption)); exact Nat.le_of_ble_eq_true rfl) | (apply ev_load_ip_agg; rfl; exact Nat.le_of_ble_eq_true rfl) | (apply ev_indexAddr_sl; rfl; rfl; exact (by first | omega | assumption); exact (by first | rfl | assumption | exact get_map (by assumption))) | (apply ev_extract; rfl; rfl)); rfl) | (apply ar_new; (first | apply eff_alloc | (apply eff_box; rfl; exact lies_of rfl) | (apply eff_conv_bytes; rfl; exact (by first | omega | assumption | (simp; done) | (simp; omega) | exact Nat.le_of_ble_eq_true rfl))); exact .nil; rfl; intro lab) | (apply ar_store; rfl; (focus ((repeat (first | exact Take.head | apply Take.tail | apply Take.right)); done)); rfl; rfl; exact (by first | rfl | assumption | exact get_map (by assumption)); rfl; rfl) | apply aw_seq | apply a_region | apply aw_block | apply aw_skip | apply go_seq | (first | (apply a_drawN 2; rfl; rfl) | (apply a_drawN 3; rfl; rfl) | (apply a_drawN 4; rfl; rfl) | (apply a_drawN 5; rfl; rfl) | (apply a_drawN 6; rfl; rfl) | (apply a_drawN 7; rfl; rfl) | (apply a_drawN 8; rfl; rfl) | (apply a_drawN 9; rfl; rfl) | (apply a_drawN 10; rfl; rfl) | (apply a_drawN 11; rfl; rfl) | (apply a_drawN 12; rfl; rfl) | (apply a_drawN 13; rfl; rfl) | (apply a_drawN 14; rfl; rfl) | (apply a_drawN 15; rfl; rfl) | (apply a_drawN 16; rfl; rfl) | (apply a_drawN 17; rfl; rfl) | (apply a_drawN 18; rfl; rfl) | (apply a_drawN 19; rfl; rfl) | (apply a_drawN 20; rfl; rfl) | (apply a_drawN 21; rfl; rfl) | (apply a_drawN 22; rfl; rfl) | (apply a_drawN 23; rfl; rfl) | (apply a_drawN 24; rfl; rfl) | (apply a_drawN 25; rfl; rfl) | (apply a_drawN 26; rfl; rfl) | (apply a_drawN 27; rfl; rfl) | (apply a_drawN 28; rfl; rfl) | (apply a_drawN 29; rfl; rfl) | (apply a_drawN 30; rfl; rfl) | (apply a_drawN 31; rfl; rfl) | (apply a_drawN 32; rfl; rfl) | (apply a_drawN 33; rfl; rfl) | (apply a_drawN 34; rfl; rfl) | (apply a_drawN 35; rfl; rfl) | (apply a_drawN 36; rfl; rfl) | (apply a_drawN 37; rfl; rfl) | (apply a_drawN 38; rfl; rfl) | (apply a_drawN 39; rfl; rfl) | (apply a_drawN 40; rfl; rfl) | (apply a_drawN 41; rfl; rfl) | (apply a_drawN 42; rfl; rfl) | (apply a_drawN 43; rfl; rfl) | (apply a_drawN 44; rfl; rfl) | (apply a_drawN 45; rfl; rfl))))
    by_cases hth : r.1 ∈ (rs.take i).map (·.1)
    · rw [if_pos (dupR_there hre hth)] at he
      simp only [decide_eq_true hth]
      repeat' (first | apply ar_nil | (apply ar_ev; (apply ev_move (y := .val (.bool true)); rfl); rfl) | (apply ar_ev; (first | (apply ev_assign; rfl) | (apply ev_pick_t; rfl; rfl)); rfl) | (apply ar_skip; rfl; rfl; rfl; rfl; rfl) | apply aw_seq | apply a_region | apply aw_ret | (apply aw_cond_t; rfl) | apply go_seq | apply go_seq_ret | apply go_block_ret | apply go_loop_ret)
      exact g_ret2 (r_tmp rfl) (r_tmp rfl) .nil (by unfold ofV; rw [he]; exact .refl)
    · simp only [decide_eq_false hth]
      cases htr : dupB r.2
      · rw [htr] at htw
        have hnone := find_none hth
        have hst := nodup_step (map_get1 hre)
        rw [← List.map_take, ← List.map_take] at hst
        have hmap : mapOf (rs.take (i + 1)) = mapOf (rs.take i) ++ [([.string r.1.1, .string r.1.2], tsl r.2)] := by rw [List.take_add_one, hre]; exact map_snoc _ _
        repeat' (first | (apply ar_set; apply eff_mapPush (es := mapOf (rs.take i)) rfl rfl rfl rfl rfl (map_fit _) hnone; exact (by repeat (first | exact Takes.nil | (apply Takes.cons; focus (repeat (first | exact Take.head | apply Take.tail | apply Take.right)))))) | apply ar_nil | (apply ar_ev; (apply ev_move (y := .val (.bool false)); rfl); rfl) | (apply ar_ev; (apply ev_move; rfl); rfl) | (apply ar_ev; (first | exact ev_call rfl rfl hcl | (apply ev_load_ptr_one; rfl; (focus ((repeat (first | exact Take.head | apply Take.tail | apply Take.right)); done)); exact (by first | rfl | assumption | exact get_map (by assumption)); rfl) | (apply ev_fieldAddr_ptr; rfl) | (apply ev_nilCheck_ptr; rfl) | (apply ev_pick_f; rfl; rfl) | (apply ev_load_ptr_agg; rfl; (focus ((repeat (first | exact Take.head | apply Take.tail | apply Take.right)); done)); exact (by first | rfl | assumption | exact get_map (by assumption)); exact Nat.le_of_ble_eq_true rfl) | (apply ev_inc; rfl; exact (by first | omega | assumption))); rfl) | (apply ar_take; rfl; rfl; rfl; (first | exact ev_call rfl rfl htw | (apply ev_load_ptr_one; rfl; (focus ((repeat (first | exact Take.head | apply Take.tail | apply Take.right)); done)); exact (by first | rfl | assumption | exact get_map (by assumption)); rfl) | (apply ev_fieldAddr_ptr; rfl)); rfl) | apply a_region | apply aw_skip | (apply aw_cond_f; rfl) | apply go_seq | apply go_block | (first | (apply a_drawN 2; rfl; rfl) | (apply a_drawN 3; rfl; rfl) | (apply a_drawN 4; rfl; rfl) | (apply a_drawN 5; rfl; rfl) | (apply a_drawN 6; rfl; rfl) | (apply a_drawN 7; rfl; rfl) | (apply a_drawN 8; rfl; rfl) | (apply a_drawN 9; rfl; rfl) | (apply a_drawN 10; rfl; rfl) | (apply a_drawN 11; rfl; rfl) | (apply a_drawN 12; rfl; rfl) | (apply a_drawN 13; rfl; rfl) | (apply a_drawN 14; rfl; rfl) | (apply a_drawN 15; rfl; rfl) | (apply a_drawN 16; rfl; rfl) | (apply a_drawN 17; rfl; rfl) | (apply a_drawN 18; rfl; rfl) | (apply a_drawN 19; rfl; rfl) | (apply a_drawN 20; rfl; rfl) | (apply a_drawN 21; rfl; rfl) | (apply a_drawN 22; rfl; rfl) | (apply a_drawN 23; rfl; rfl) | (apply a_drawN 24; rfl; rfl) | (apply a_drawN 25; rfl; rfl) | (apply a_drawN 26; rfl; rfl) | (apply a_drawN 27; rfl; rfl) | (apply a_drawN 28; rfl; rfl) | (apply a_drawN 29; rfl; rfl) | (apply a_drawN 30; rfl; rfl) | (apply a_drawN 31; rfl; rfl) | (apply a_drawN 32; rfl; rfl) | (apply a_drawN 33; rfl; rfl) | (apply a_drawN 34; rfl; rfl) | (apply a_drawN 35; rfl; rfl) | (apply a_drawN 36; rfl; rfl) | (apply a_drawN 37; rfl; rfl) | (apply a_drawN 38; rfl; rfl) | (apply a_drawN 39; rfl; rfl) | (apply a_drawN 40; rfl; rfl) | (apply a_drawN 41; rfl; rfl) | (apply a_drawN 42; rfl; rfl) | (apply a_drawN 43; rfl; rfl) | (apply a_drawN 44; rfl; rfl) | (apply a_drawN 45; rfl; rfl)))
        rw [← hmap]
        exact go_loop_back ⟨i + 1, ⟨by omega, hst.2 ⟨hd1, hth⟩, any_take hre hd2 htr⟩, by omega, Sub.of (by repeat (first | exact .nil | refine .cons rfl Le.refl ?_)) (by repeat (first | exact Takes.nil | (apply Takes.cons; focus (repeat (first | exact Take.head | apply Take.tail | apply Take.right)))))⟩
      · rw [if_pos (dupR_push hre htr)] at he
        rw [htr] at htw
        repeat' (first | apply ar_nil | (apply ar_ev; (apply ev_move (y := .val (.bool false)); rfl); rfl) | (apply ar_ev; (first | (apply ev_assign; rfl) | (apply ev_pick_f; rfl; rfl)); rfl) | (apply ar_take; rfl; rfl; rfl; (first | exact ev_call rfl rfl htw | (apply ev_load_ptr_one; rfl; (focus ((repeat (first | exact Take.head | apply Take.tail | apply Take.right)); done)); exact (by first | rfl | assumption | exact get_map (by assumption)); rfl) | (apply ev_fieldAddr_ptr; rfl)); rfl) | apply aw_seq | apply a_region | apply aw_ret | (apply aw_cond_t; rfl) | apply go_seq | apply go_seq_ret | apply go_block_ret | apply go_loop_ret)
        exact g_ret2 (r_tmp rfl) (r_tmp rfl) .nil (by unfold ofV; rw [he]; exact .refl)
  · obtain rfl : i = rs.length := by omega
    rw [List.take_length] at hd1 hd2
    rw [List.take_length]
    have hd : dupR rs = false := by unfold dupR; rw [(dup_iff _).2 hd1, hd2]; rfl
    rw [if_neg (by rw [hd]; decide)] at he
    repeat' (first | apply ar_nil | (apply ar_ev; (apply ev_move; rfl); rfl) | (apply ar_ev; (apply ev_assign; rfl); rfl) | apply aw_seq | apply a_region | apply aw_exit | apply aw_ret | apply go_seq | apply go_seq_exit | apply go_block_exit | apply go_loop_exit)
    refine g_ret2 (r_tmp rfl) (r_tmp rfl) (us := [(lab, .row 55 1 [[.mref lm]]), (lm, .map (encE (mapOf rs)))]) (by repeat (first | exact Takes.nil | (apply Takes.cons; focus (repeat (first | exact Take.head | apply Take.tail | apply Take.right))))) ?_
    unfold ofV manV
    rw [he, if_pos rfl]
    refine Cv.tup (Cvs.cons (Cv.ptrr .head rfl (Cvs.cons (Cv.map (.tail .head)) .nil) ?_) (Cvs.cons .refl .nil))
    intro y hy
    obtain rfl := List.mem_singleton.1 hy
    rfl
end Go.Proofs.Ytkidjeejhhfbpaa
