import Derived.Test.YtkidjeejhhfbpaaI
set_option linter.unusedVariables false
set_option linter.unusedSimpArgs false
set_option maxRecDepth 100000
namespace Go.Proofs.Ytkidjeejhhfbpaa
open Go.Proofs Go.Proofs.YtkidjeejhhfbpaaA

/-! Rules whose lists are one's own: each with its list's label. -/
abbrev Pr : Type := Rl × Nat
abbrev mk : Tg := (⟨#[109, 97, 114, 107]⟩, es)
abbrev rowR (p : Pr) : List AV := [vs p.1.1.1, vs p.1.1.2, .own p.2 0 p.1.2.length]
abbrev rowM : List AV := [vs mk.1, vs mk.2, .val (.slice none 0 0)]
def rowsP (ps : List Pr) : List (List AV) := ps.map rowR
def toksM (ps : List Pr) : List (Nat × Tok) := ps.map fun p => (p.2, .row 35 2 (p.1.2.map encT ++ [encT mk]))
def toksC (ps : List Pr) : List (Nat × Tok) := ps.map fun p => (p.2, .row 35 2 (p.1.2.map encT))
def mapP (ps : List Pr) : List (List Value × AV) := ps.map fun p => (keyT p.1.1, .own p.2 0 p.1.2.length)
theorem rowsP_len (ps : List Pr) : (rowsP ps).length = ps.length := List.length_map _
theorem rowsP_snoc (ps : List Pr) (p : Pr) : rowsP (ps ++ [p]) = rowsP ps ++ [rowR p] := by simp [rowsP]
theorem toksM_snoc (ps : List Pr) (p : Pr) : toksM (ps ++ [p]) = toksM ps ++ [(p.2, .row 35 2 (p.1.2.map encT ++ [encT mk]))] := by simp [toksM]
theorem toksC_snoc (ps : List Pr) (p : Pr) : toksC (ps ++ [p]) = toksC ps ++ [(p.2, .row 35 2 (p.1.2.map encT))] := by simp [toksC]
theorem mapP_snoc (ps : List Pr) (p : Pr) : mapP (ps ++ [p]) = mapP ps ++ [(keyT p.1.1, .own p.2 0 p.1.2.length)] := by simp [mapP]
theorem mapP_fit (ps : List Pr) : ∀ p, p ∈ mapP ps → fitsB [.str, .str] p.1 = true := fun p hp => by
  obtain ⟨r, _, rfl⟩ := List.mem_map.1 hp
  rfl
theorem findIx_keys (us : List Value) : ∀ (es es' : List (List Value × AV)), es.map (·.1) = es'.map (·.1) → findIx us es = findIx us es'
  | [], [], _ => rfl
  | [], _ :: _, h => by cases h
  | _ :: _, [], h => by cases h
  | p :: es, q :: es', h => by
    rw [List.map_cons, List.map_cons] at h
    injection h with h1 h2
    unfold findIx
    rw [h1, findIx_keys us es es' h2]
theorem findP (t : Tg) (ps : List Pr) : findIx (keyT t) (mapP ps) = findIx (keyT t) (mapOf (ps.map (·.1))) :=
  findIx_keys _ _ _ (by simp [mapP, mapOf])
section
variable {st : St} {dst : Option Tmp} {ty : TypeId} {pos : String} {after : Array Edge} {g : Option (Nat × Bool)}
theorem ev_thereP {x ix : Operand} {t : Tg} {l : Nat} {ps : List Pr} {r : List (Nat × Tok)} (hx : st.get x = some (.mref l)) (hi : st.get ix = some (.agg (encT t))) (ht : Take st.toks l (.map (encE (mapP ps))) r) :
    OpEv Try.prog ⟨dst, .lookup 53 x ix true, ty, pos, after, g⟩ st (.tup [.dead, vb (decide (t ∈ (ps.map (·.1)).map (·.1)))]) := by
  have h := ev_lookup_ok (P := Try.prog) (dst := dst) (ty := ty) (pos := pos) (after := after) (g := g) (t := 53) hx hi rfl rfl ht (mapP_fit ps) (fun h => by cases h)
  refine ev_le h (Le.tup (.cons Le.dead (.cons ?_ .nil)))
  rw [← find_some, ← findP]
  exact Le.refl
end
/-- The marks stay: what is lent reads as the rules. -/
theorem cvr_M (ts : List (Nat × Tok)) : ∀ ps : List Pr, (∀ p, p ∈ toksM ps → p ∈ ts) → Cvr ts (rowsP ps) ((ps.map (·.1)).map encR)
  | [], _ => .nil
  | p :: ps, h => by
    obtain ⟨r, hr⟩ := take_mem (h _ List.mem_cons_self)
    refine .cons (Cvs.cons .refl (Cvs.cons .refl (Cvs.cons (Cv.own_pre hr (by simp)) .nil))) ?_ (cvr_M ts ps fun q hq => h q (List.mem_cons_of_mem _ hq))
    intro y hy
    simp only [List.mem_cons, List.not_mem_nil, or_false] at hy
    rcases hy with rfl | rfl | rfl <;> rfl
abbrev rowK (r : Rl) : List AV := [vs r.1.1, vs r.1.2, .sl 2 (r.2.map encT ++ [encT mk]) r.2.length]
theorem cvr_K (ts : List (Nat × Tok)) : ∀ ps : List Pr, (∀ p, p ∈ toksM ps → p ∈ ts) → Cvr ts (rowsP ps ++ [rowM]) ((ps.map (·.1)).map rowK ++ [encR (mk, [])])
  | [], _ => by
    refine .cons (Cvs.cons .refl (Cvs.cons .refl (Cvs.cons (.le Le.nil) .nil))) ?_ .nil
    intro y hy
    simp only [List.mem_cons, List.not_mem_nil, or_false] at hy
    rcases hy with rfl | rfl | rfl <;> rfl
  | p :: ps, h => by
    obtain ⟨r, hr⟩ := take_mem (h _ List.mem_cons_self)
    refine .cons (Cvs.cons .refl (Cvs.cons .refl (Cvs.cons (Cv.own0 hr (by simp)) .nil))) ?_ (cvr_K ts ps fun q hq => h q (List.mem_cons_of_mem _ hq))
    intro y hy
    simp only [List.mem_cons, List.not_mem_nil, or_false] at hy
    rcases hy with rfl | rfl | rfl <;> rfl
theorem cvs_C (ts : List (Nat × Tok)) (ps : List Pr) (h : ∀ p, p ∈ toksC ps → p ∈ ts) : Cv ts (.imap (encE (mapP ps))) (.imap (encE (mapOf (ps.map (·.1))))) := by
  refine Cv.imapv (by simp [encE, mapP, mapOf]) fun i p q hp hq => ?_
  simp only [encE, mapP, mapOf, List.getElem?_map, Option.map_eq_some_iff] at hp hq
  obtain ⟨_, ⟨a, ha, rfl⟩, rfl⟩ := hp
  obtain ⟨_, ⟨b, ⟨c, hc, rfl⟩, rfl⟩, rfl⟩ := hq
  rw [ha] at hc
  cases hc
  refine ⟨rfl, ?_⟩
  obtain ⟨r, hr⟩ := take_mem (h (a.2, .row 35 2 (a.1.2.map encT)) (List.mem_map.2 ⟨a, List.mem_of_getElem? ha, rfl⟩))
  exact Cv.own0 hr (by simp)

theorem cloneO_ok (l : List Tg) (hn : l.length ≤ 1099511627776) : FnC Try.prog 28 [] [tsl l] (fun ts r => ∃ lab, ts = [(lab, .row 35 2 (l.map encT))] ∧ r = .own lab 0 l.length) := by
  refine fn_of Try.func28 rfl Try.ntmps28 Try.results28 rfl fun G => ?_
  repeat' (first | apply ar_nil | (apply ar_ev; (apply ev_move; rfl); rfl) | (apply ar_ev; (apply ev_assign; rfl); rfl) | apply aw_seq | apply a_region | apply go_seq)
  apply ar_eff (eff_eqnil_sl rfl) .nil rfl; rintro _ _ ⟨rfl, b, rfl, hb⟩
  cases b
  · repeat' (first | (apply ar_new (d := 5); (apply eff_buildSlice; rfl; rfl; rfl; rfl; rfl; rfl; rfl); exact .nil; rfl; intro lab) | apply ar_nil | (apply ar_ev; (apply ev_move; rfl); rfl) | (apply ar_ev; (apply ev_assign; rfl); rfl) | apply aw_seq | apply a_region | apply aw_skip | apply aw_ret | (apply aw_cond_f; rfl) | apply go_seq | (apply ar_append; rfl; (focus ((repeat (first | exact Take.head | apply Take.tail | apply Take.right)); done)); rfl; exact (by first | omega | assumption | (simp; done) | (simp; omega) | exact Nat.le_of_ble_eq_true rfl); exact (by first | omega | assumption | (simp; done) | (simp; omega) | exact Nat.le_of_ble_eq_true rfl); exact (by first | omega | assumption | (simp; done) | (simp; omega) | exact Nat.le_of_ble_eq_true rfl); rfl; intro lab))
    refine g_ret1 (r_tmp rfl) (.cons (by repeat (first | exact Take.head | apply Take.tail | apply Take.right)) .nil) ⟨lab, ?_, by rw [Nat.zero_add]⟩
    have e : List.take l.length (l.map encT) = l.map encT := List.take_of_length_le (by simp)
    exact congrArg (fun z => [(lab, Tok.row 35 2 z)]) e
  · have e : l = [] := List.map_eq_nil_iff.1 (hb rfl)
    subst e
    repeat' ((fail_if_success (show AW _ (.ret) _ _)); (first | apply ar_nil | (apply ar_ev; (apply ev_assign; rfl); rfl) | apply aw_seq | apply a_region | (apply aw_cond_t; rfl) | apply go_seq))
    refine aw_adopt 2 35 2 rfl fun lab => ?_
    repeat' (first | apply aw_ret | apply go_seq_ret)
    exact g_ret1 (r_tmp rfl) (.cons .head .nil) ⟨lab, rfl, rfl⟩
set_option maxHeartbeats 8000000 in
theorem OfO_ok (rs : List Rl) (hn : rs.length ≤ 1099511627776) (hr : ∀ r, r ∈ rs → OkR r) : FnC Try.prog 8 [] [rsl rs] (fun ts r => (errN rs ≠ 0 ∧ ts = [] ∧ r = .tup [.val (.pointer none), vi (errN rs)]) ∨
    (errN rs = 0 ∧ ∃ lp lm ps, ps.map (·.1) = rs ∧ ts = (lp, .row 55 1 [[.mref lm]]) :: (lm, .map (encE (mapP ps))) :: toksC ps ∧ r = .tup [.ptr lp 0 0, vi 0])) := by
  refine fn_of Try.func8 rfl Try.ntmps8 Try.results8 rfl fun G => ?_
  have h1 := containsFuncR_ok rs [] 22 longR hn (fun r _ => of1_ok r)
  have h2 := containsFuncR_ok rs [.ip [.fn 23 []]] 25 wrongR hn (fun r hm => of3_ok r (hr r hm))
  have he : errN rs = if 64 < rs.length ∨ rs.any longR = true then 3 else if rs.any wrongR = true then 180 else if dupR rs = true then 7 else 0 := rfl
  generalize rs.any longR = A at *
  generalize rs.any wrongR = B at *
  repeat' (first | apply ar_nil | (apply ar_splitp; (apply ev_move; rfl); rfl; all_goals (intro hc; try (exfalso; first | omega | contradiction | (simp at hc; omega) | (simp_all; done)))) | (apply ar_ev; (apply ev_move; rfl); rfl) | (apply ar_ev; (first | (apply ev_assign; rfl) | (apply ev_pick_t; rfl; rfl) | (apply ev_pick_f; rfl; rfl) | (apply ev_gtr; rfl; rfl) | (apply ev_len_sl; rfl) | (apply ev_makeFunc; rfl)); rfl) | (apply ar_new; (first | apply eff_alloc | (apply eff_box; rfl; exact lies_of rfl) | (apply eff_conv_bytes; rfl; exact (by first | omega | assumption | (simp; done) | (simp; omega) | exact Nat.le_of_ble_eq_true rfl))); exact .nil; rfl; intro lab) | (apply ar_store1; rfl; (focus ((repeat (first | exact Take.head | apply Take.tail | apply Take.right)); done)); rfl; rfl; exact (by first | rfl | assumption | exact get_map (by assumption)); rfl) | (apply ar_skip; rfl; rfl; rfl; rfl; rfl) | (apply ar_take; rfl; rfl; rfl; (apply ev_move; rfl); rfl) | (apply ar_take; rfl; rfl; rfl; exact ev_call rfl rfl h1; rfl) | apply aw_seq | apply a_region | apply aw_skip | apply aw_ret | (apply aw_cond_t; rfl) | (apply aw_condb; rfl; all_goals (intro hc; try (exfalso; first | omega | contradiction | (simp at hc; omega) | (simp_all; done)))) | apply go_seq | apply go_seq_ret)
  · rw [if_pos (.inl (by omega))] at he
    exact g_ret2 (r_tmp rfl) (r_tmp rfl) .nil (.inl ⟨by omega, rfl, by rw [he]; rfl⟩)
  · rw [if_pos (.inr hc)] at he
    exact g_ret2 (r_tmp rfl) (r_tmp rfl) .nil (.inl ⟨by omega, rfl, by rw [he]; rfl⟩)
  rw [if_neg (by rintro (h | h); omega; rw [hc] at h; cases h)] at he
  clear hc
  repeat' ((fail_if_success (show AW _ (.region 6 _ _) _ _)); (first | apply ar_nil | (apply ar_ev; (first | (apply ev_callL h2; rfl; rfl; (focus ((repeat (first | exact Cvs.nil | (apply Cvs.cons; first | exact Cv.refl | exact Cv.le Le.nil | (apply Cv.own0; (focus ((repeat (first | exact Take.head | apply Take.tail | apply Take.right)); done)); exact (by first | omega | assumption | (simp; done) | (simp; omega) | exact Nat.le_of_ble_eq_true rfl)) | (apply Cv.own_pre; (focus ((repeat (first | exact Take.head | apply Take.tail | apply Take.right)); done)); exact (by first | omega | assumption | (simp; done) | (simp; omega) | exact Nat.le_of_ble_eq_true rfl)) | (apply Cv.ptr0; (focus ((repeat (first | exact Take.head | apply Take.tail | apply Take.right)); done)); first | rfl | assumption) | (apply Cv.agg; (focus ((repeat (first | exact Cvs.nil | (apply Cvs.cons; first | exact Cv.refl | exact Cv.le Le.nil | (apply Cv.own0; (focus ((repeat (first | exact Take.head | apply Take.tail | apply Take.right)); done)); exact (by first | omega | assumption | (simp; done) | (simp; omega) | exact Nat.le_of_ble_eq_true rfl)) | (apply Cv.own_pre; (focus ((repeat (first | exact Take.head | apply Take.tail | apply Take.right)); done)); exact (by first | omega | assumption | (simp; done) | (simp; omega) | exact Nat.le_of_ble_eq_true rfl)) | (apply Cv.ptr0; (focus ((repeat (first | exact Take.head | apply Take.tail | apply Take.right)); done)); first | rfl | assumption) | (apply Cv.agg; (focus ((repeat (first | exact Cvs.nil | (apply Cvs.cons; first | exact Cv.refl | exact Cv.le Le.nil | (apply Cv.own0; (focus ((repeat (first | exact Take.head | apply Take.tail | apply Take.right)); done)); exact (by first | omega | assumption | (simp; done) | (simp; omega) | exact Nat.le_of_ble_eq_true rfl)) | (apply Cv.own_pre; (focus ((repeat (first | exact Take.head | apply Take.tail | apply Take.right)); done)); exact (by first | omega | assumption | (simp; done) | (simp; omega) | exact Nat.le_of_ble_eq_true rfl)) | (apply Cv.ptr0; (focus ((repeat (first | exact Take.head | apply Take.tail | apply Take.right)); done)); first | rfl | assumption)))); done))) | (apply Cv.fn; (focus ((repeat (first | exact Cvs.nil | (apply Cvs.cons; first | exact Cv.refl | exact Cv.le Le.nil | (apply Cv.own0; (focus ((repeat (first | exact Take.head | apply Take.tail | apply Take.right)); done)); exact (by first | omega | assumption | (simp; done) | (simp; omega) | exact Nat.le_of_ble_eq_true rfl)) | (apply Cv.own_pre; (focus ((repeat (first | exact Take.head | apply Take.tail | apply Take.right)); done)); exact (by first | omega | assumption | (simp; done) | (simp; omega) | exact Nat.le_of_ble_eq_true rfl)) | (apply Cv.ptr0; (focus ((repeat (first | exact Take.head | apply Take.tail | apply Take.right)); done)); first | rfl | assumption)))); done)))))); done))) | (apply Cv.fn; (focus ((repeat (first | exact Cvs.nil | (apply Cvs.cons; first | exact Cv.refl | exact Cv.le Le.nil | (apply Cv.own0; (focus ((repeat (first | exact Take.head | apply Take.tail | apply Take.right)); done)); exact (by first | omega | assumption | (simp; done) | (simp; omega) | exact Nat.le_of_ble_eq_true rfl)) | (apply Cv.own_pre; (focus ((repeat (first | exact Take.head | apply Take.tail | apply Take.right)); done)); exact (by first | omega | assumption | (simp; done) | (simp; omega) | exact Nat.le_of_ble_eq_true rfl)) | (apply Cv.ptr0; (focus ((repeat (first | exact Take.head | apply Take.tail | apply Take.right)); done)); first | rfl | assumption) | (apply Cv.agg; (focus ((repeat (first | exact Cvs.nil | (apply Cvs.cons; first | exact Cv.refl | exact Cv.le Le.nil | (apply Cv.own0; (focus ((repeat (first | exact Take.head | apply Take.tail | apply Take.right)); done)); exact (by first | omega | assumption | (simp; done) | (simp; omega) | exact Nat.le_of_ble_eq_true rfl)) | (apply Cv.own_pre; (focus ((repeat (first | exact Take.head | apply Take.tail | apply Take.right)); done)); exact (by first | omega | assumption | (simp; done) | (simp; omega) | exact Nat.le_of_ble_eq_true rfl)) | (apply Cv.ptr0; (focus ((repeat (first | exact Take.head | apply Take.tail | apply Take.right)); done)); first | rfl | assumption)))); done))) | (apply Cv.fn; (focus ((repeat (first | exact Cvs.nil | (apply Cvs.cons; first | exact Cv.refl | exact Cv.le Le.nil | (apply Cv.own0; (focus ((repeat (first | exact Take.head | apply Take.tail | apply Take.right)); done)); exact (by first | omega | assumption | (simp; done) | (simp; omega) | exact Nat.le_of_ble_eq_true rfl)) | (apply Cv.own_pre; (focus ((repeat (first | exact Take.head | apply Take.tail | apply Take.right)); done)); exact (by first | omega | assumption | (simp; done) | (simp; omega) | exact Nat.le_of_ble_eq_true rfl)) | (apply Cv.ptr0; (focus ((repeat (first | exact Take.head | apply Take.tail | apply Take.right)); done)); first | rfl | assumption)))); done)))))); done)))))); done)); constructor) | (apply ev_assign; rfl)); rfl) | apply aw_seq | apply a_region | apply aw_skip | apply aw_ret | (apply aw_condb; rfl; all_goals (intro hc; try (exfalso; first | omega | contradiction | (simp at hc; omega) | (simp_all; done)))) | apply go_seq | apply go_seq_ret))
  · rw [if_pos ‹B = true›] at he
    exact g_ret2 (r_tmp rfl) (r_tmp rfl) .nil (.inl ⟨by omega, rfl, by rw [he]; rfl⟩)
  rw [if_neg (by rw [‹B = false›]; decide)] at he
  clear h1 h2
  repeat' (first | (apply ar_new; apply eff_makeMap; exact .nil; rfl; intro lab) | apply ar_nil | (apply ar_ev; (apply ev_move; rfl); rfl) | (apply ar_ev; (first | (apply ev_assign; rfl) | (apply ev_len_sl; rfl) | (apply ev_build; rfl; rfl; rfl)); rfl) | (apply ar_new; (first | apply eff_alloc | (apply eff_box; rfl; exact lies_of rfl) | (apply eff_conv_bytes; rfl; exact (by first | omega | assumption | (simp; done) | (simp; omega) | exact Nat.le_of_ble_eq_true rfl))); exact .nil; rfl; intro lab) | apply aw_seq | apply a_region | apply aw_block | apply go_seq)
  rename_i lm
  generalize lab = lp at *
  refine a_loop (fun g : Nat × List Pr => ⟨[(5, .ptr lp 0 0), (23, rsl rs), (24, vi rs.length), (25, vi g.1)], (lp, .row 55 1 [[.mref lm]]) :: (lm, .map (encE (mapP g.2))) :: toksC g.2⟩)
    (fun g => g.1 ≤ rs.length ∧ g.2.map (·.1) = rs.take g.1 ∧ ((rs.take g.1).map (·.1)).Nodup ∧ (rs.take g.1).any (fun r => dupB r.2) = false) (fun g => rs.length - g.1) (0, []) (Sub.of (by repeat (first | exact .nil | refine .cons rfl Le.refl ?_)) (by repeat (first | exact Takes.nil | (apply Takes.cons; focus (repeat (first | exact Take.head | apply Take.tail | apply Take.right)))))) ⟨Nat.zero_le _, rfl, by simp, rfl⟩ ?_
  rintro ⟨i, ps⟩ ⟨hi, hps, hd1, hd2⟩
  dsimp only at *
  repeat' (first | apply ar_nil | (apply ar_ev; (apply ev_lss; rfl; rfl); rfl) | apply aw_seq | apply a_region | apply go_seq)
  refine aw_condp rfl (fun hk => ?_) (fun hk => ?_)
  · obtain ⟨r, hre⟩ : ∃ r, rs[i]? = some r := ⟨_, List.getElem?_eq_getElem (by omega)⟩
    have hr2 := rsl_get hre
    have hrok := hr r (List.mem_of_getElem? hre)
    have htw := twice_ok r.2 hrok.len
    have hcl := cloneO_ok r.2 hrok.len
    have hpl := hrok.len
    repeat' ((fail_if_success (show AW _ (.region 11 _ _) _ _)); (first | apply ar_nil | (apply ar_ev; (apply ev_move; rfl); rfl) | (apply ar_ev; (first | (apply ev_thereP (t := r.1); rfl; rfl; exact (by repeat (first | exact Take.head | apply Take.tail | apply Take.right))) | (apply ev_load_ptr_one; rfl; (focus ((repeat (first | exact Take.head | apply Take.tail | apply Take.right)); done)); exact (by first | rfl | assumption | exact get_map (by assumption)); rfl) | (apply ev_fieldAddr_ptr; rfl) | (apply ev_assign; rfl) | (apply ev_nilCheck_ptr; rfl) | (apply ev_load_ptr_agg; rfl; (focus ((repeat (first | exact Take.head | apply Take.tail | apply Take.right)); done)); exact (by first | rfl | assumption | exact get_map (by assumption)); exact Nat.le_of_ble_eq_true rfl) | (apply ev_load_ip_agg; rfl; exact Nat.le_of_ble_eq_true rfl) | (apply ev_indexAddr_sl; rfl; rfl; exact (by first | omega | assumption); exact (by first | rfl | assumption | exact get_map (by assumption))) | (apply ev_extract; rfl; rfl)); rfl) | (apply ar_new; (first | apply eff_alloc | (apply eff_box; rfl; exact lies_of rfl) | (apply eff_conv_bytes; rfl; exact (by first | omega | assumption | (simp; done) | (simp; omega) | exact Nat.le_of_ble_eq_true rfl))); exact .nil; rfl; intro lab) | (apply ar_store; rfl; (focus ((repeat (first | exact Take.head | apply Take.tail | apply Take.right)); done)); rfl; rfl; exact (by first | rfl | assumption | exact get_map (by assumption)); rfl; rfl) | apply aw_seq | apply a_region | apply aw_block | apply aw_skip | apply go_seq | (first | (apply a_drawN 2; rfl; rfl) | (apply a_drawN 3; rfl; rfl) | (apply a_drawN 4; rfl; rfl) | (apply a_drawN 5; rfl; rfl) | (apply a_drawN 6; rfl; rfl) | (apply a_drawN 7; rfl; rfl) | (apply a_drawN 8; rfl; rfl) | (apply a_drawN 9; rfl; rfl) | (apply a_drawN 10; rfl; rfl) | (apply a_drawN 11; rfl; rfl) | (apply a_drawN 12; rfl; rfl) | (apply a_drawN 13; rfl; rfl) | (apply a_drawN 14; rfl; rfl) | (apply a_drawN 15; rfl; rfl) | (apply a_drawN 16; rfl; rfl) | (apply a_drawN 17; rfl; rfl) | (apply a_drawN 18; rfl; rfl) | (apply a_drawN 19; rfl; rfl) | (apply a_drawN 20; rfl; rfl) | (apply a_drawN 21; rfl; rfl) | (apply a_drawN 22; rfl; rfl) | (apply a_drawN 23; rfl; rfl) | (apply a_drawN 24; rfl; rfl) | (apply a_drawN 25; rfl; rfl) | (apply a_drawN 26; rfl; rfl) | (apply a_drawN 27; rfl; rfl) | (apply a_drawN 28; rfl; rfl) | (apply a_drawN 29; rfl; rfl) | (apply a_drawN 30; rfl; rfl) | (apply a_drawN 31; rfl; rfl) | (apply a_drawN 32; rfl; rfl) | (apply a_drawN 33; rfl; rfl) | (apply a_drawN 34; rfl; rfl) | (apply a_drawN 35; rfl; rfl) | (apply a_drawN 36; rfl; rfl) | (apply a_drawN 37; rfl; rfl) | (apply a_drawN 38; rfl; rfl) | (apply a_drawN 39; rfl; rfl) | (apply a_drawN 40; rfl; rfl) | (apply a_drawN 41; rfl; rfl) | (apply a_drawN 42; rfl; rfl) | (apply a_drawN 43; rfl; rfl) | (apply a_drawN 44; rfl; rfl) | (apply a_drawN 45; rfl; rfl))))
    rw [hps]
    by_cases hth : r.1 ∈ (rs.take i).map (·.1)
    · rw [if_pos (dupR_there hre hth)] at he
      simp only [decide_eq_true hth]
      repeat' (first | apply ar_nil | (apply ar_ev; (apply ev_move (y := .val (.bool true)); rfl); rfl) | (apply ar_ev; (first | (apply ev_assign; rfl) | (apply ev_pick_t; rfl; rfl)); rfl) | (apply ar_skip; rfl; rfl; rfl; rfl; rfl) | apply aw_seq | apply a_region | apply aw_ret | (apply aw_cond_t; rfl) | apply go_seq | apply go_seq_ret | apply go_block_ret | apply go_loop_ret)
      exact g_ret2 (r_tmp rfl) (r_tmp rfl) .nil (.inl ⟨by omega, rfl, by rw [he]; rfl⟩)
    · simp only [decide_eq_false hth]
      cases htr : dupB r.2
      · rw [htr] at htw
        have hnone : findIx (keyT r.1) (mapP ps) = none := by rw [findP, hps]; exact find_none hth
        have hst := nodup_step (map_get1 hre)
        rw [← List.map_take, ← List.map_take] at hst
        repeat' ((fail_if_success (show AW _ (.region 13 _ _) _ _)); (first | apply ar_nil | (apply ar_ev; (apply ev_move (y := .val (.bool false)); rfl); rfl) | (apply ar_ev; (apply ev_pick_f; rfl; rfl); rfl) | (apply ar_take; rfl; rfl; rfl; (first | exact ev_call rfl rfl htw | (apply ev_load_ptr_one; rfl; (focus ((repeat (first | exact Take.head | apply Take.tail | apply Take.right)); done)); exact (by first | rfl | assumption | exact get_map (by assumption)); rfl) | (apply ev_fieldAddr_ptr; rfl)); rfl) | apply a_region | apply aw_skip | (apply aw_cond_f; rfl) | apply go_seq))
        refine a_mix [true, true, true, true, true, true, true, true, false, false] [0, 1, 2, 3, 4, 5, 6, 7, 8, 9] (by kernel_rfl) (by repeat (first | exact Als.nil | (apply Als.al; rfl) | (apply Als.other; rfl))) (Takes.cons (l := lm) (by repeat (first | exact Take.head | apply Take.tail | apply Take.right)) Takes.nil) ?_
        repeat' (first | (apply tl_ev; rfl; rfl; (apply ev_move; rfl); rfl) | (apply tl_ev; rfl; rfl; (first | (apply ev_load_ptr_one; rfl; (focus ((repeat (first | exact Take.head | apply Take.tail | apply Take.right)); done)); exact (by first | rfl | assumption | exact get_map (by assumption)); rfl) | (apply ev_fieldAddr_ptr; rfl) | (apply ev_nilCheck_ptr; rfl) | (apply ev_load_ptr_agg; rfl; (focus ((repeat (first | exact Take.head | apply Take.tail | apply Take.right)); done)); exact (by first | rfl | assumption | exact get_map (by assumption)); exact Nat.le_of_ble_eq_true rfl)); rfl))
        apply tl_call hcl; rfl; rfl; rfl; rfl; rfl; exact .nil; rfl; rintro _ _ ⟨lc, rfl, rfl⟩
        refine tl_set rfl rfl rfl (eff_mapPush (es := mapP ps) rfl rfl rfl rfl rfl (mapP_fit _) hnone) (by repeat (first | exact Takes.nil | (apply Takes.cons; focus (repeat (first | exact Take.head | apply Take.tail | apply Take.right))))) ?_
        repeat' (first | apply ar_nil | (apply ar_ev; (apply ev_move; rfl); rfl) | (apply ar_ev; (apply ev_inc; rfl; exact (by first | omega | assumption)); rfl) | apply a_region | apply go_seq | apply go_block | apply tl_nil)
        exact go_loop_back ⟨(i + 1, ps ++ [(r, lc)]), ⟨by dsimp only; omega, by dsimp only; rw [List.map_append, hps, List.take_add_one, hre]; rfl, hst.2 ⟨hd1, hth⟩, any_take hre hd2 htr⟩, by dsimp only; omega, by dsimp only; rw [mapP_snoc, toksC_snoc]; exact Sub.of (by repeat (first | exact .nil | refine .cons rfl Le.refl ?_)) (by repeat (first | exact Takes.nil | exact takes_blk | exact takes_all | (apply takes_app; focus (repeat (first | exact takes_blk | exact takes_all | apply takes_right | apply takes_skip))) | (apply takes_cons; focus (repeat (first | exact Take.head | apply Take.tail | apply Take.right))) | apply takes_right | apply takes_skip))⟩
      · rw [if_pos (dupR_push hre htr)] at he
        rw [htr] at htw
        repeat' (first | apply ar_nil | (apply ar_ev; (apply ev_move (y := .val (.bool false)); rfl); rfl) | (apply ar_ev; (first | (apply ev_assign; rfl) | (apply ev_pick_f; rfl; rfl)); rfl) | (apply ar_take; rfl; rfl; rfl; (first | exact ev_call rfl rfl htw | (apply ev_load_ptr_one; rfl; (focus ((repeat (first | exact Take.head | apply Take.tail | apply Take.right)); done)); exact (by first | rfl | assumption | exact get_map (by assumption)); rfl) | (apply ev_fieldAddr_ptr; rfl)); rfl) | apply aw_seq | apply a_region | apply aw_ret | (apply aw_cond_t; rfl) | apply go_seq | apply go_seq_ret | apply go_block_ret | apply go_loop_ret)
        exact g_ret2 (r_tmp rfl) (r_tmp rfl) .nil (.inl ⟨by omega, rfl, by rw [he]; rfl⟩)
  · obtain rfl : i = rs.length := by omega
    rw [List.take_length] at hd1 hd2 hps
    have hd : dupR rs = false := by unfold dupR; rw [(dup_iff _).2 hd1, hd2]; rfl
    rw [if_neg (by rw [hd]; decide)] at he
    repeat' (first | apply ar_nil | (apply ar_ev; (apply ev_move; rfl); rfl) | (apply ar_ev; (apply ev_assign; rfl); rfl) | apply aw_seq | apply a_region | apply aw_exit | apply aw_ret | apply go_seq | apply go_seq_exit | apply go_block_exit | apply go_loop_exit)
    refine g_ret2 (r_tmp rfl) (r_tmp rfl) (us := (lp, .row 55 1 [[.mref lm]]) :: (lm, .map (encE (mapP ps))) :: toksC ps) (.cons .head (.cons .head takes_all)) (.inr ⟨he, lp, lm, ps, hps, rfl, rfl⟩)
end Go.Proofs.Ytkidjeejhhfbpaa
