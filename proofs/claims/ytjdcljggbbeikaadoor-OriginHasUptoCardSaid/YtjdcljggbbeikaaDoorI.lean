import Derived.Test.YtjdcljggbbeikaaDoorH
set_option linter.unusedVariables false
set_option linter.unusedSimpArgs false
set_option maxRecDepth 100000
namespace Go.Proofs.YtjdcljggbbeikaaDoor
open Go.Proofs Go.Proofs.YtjdcljggbbeikaaDoorA

theorem app_assoc (a b c : ByteArray) : a ++ b ++ c = a ++ (b ++ c) := by
  rw [← BA_bl (a ++ b ++ c), ← BA_bl (a ++ (b ++ c))]
  simp only [bl_append, List.append_assoc]
set_option maxHeartbeats 4000000 in
theorem rPrint_ok (o : Org) (hn : o.host.size ≤ 1048576) (hs : o.sch.size ≤ 1048576) : PFn Tryd.prog 13 [.agg (encG o)] (.tup [vs (printN o).1, vi (printN o).2]) := by
  refine fn_of Tryd.func13 rfl Tryd.ntmps13 Tryd.results13 rfl fun G => ?_
  have hr := rRight_ok o hn
  have hu := rusual_ok o.sch
  unfold printN
  cases hrr : rightB o with
  | false =>
    rw [hrr] at hr
    rw [if_neg (by decide)]
    repeat' (first | apply ar_nil | (apply ar_ev; (first | exact ev_call rfl rfl hr | (apply ev_assign; rfl) | (apply ev_load_ptr_agg; rfl; (focus ((repeat (first | exact Take.head | apply Take.tail | apply Take.right)); done)); exact (by first | rfl | assumption | exact get_map (by assumption)); exact Nat.le_of_ble_eq_true rfl) | (apply ev_not; rfl)); rfl) | (apply ar_new; (first | apply eff_alloc | (apply eff_box; rfl; exact lies_of rfl) | (apply eff_conv_bytes; rfl; exact (by first | omega | assumption | (simp; done) | (simp; omega) | exact Nat.le_of_ble_eq_true rfl))); exact .nil; rfl; intro lab) | apply aw_seq | apply a_region | apply aw_ret | (apply aw_cond_t; rfl) | apply go_seq | apply go_seq_ret)
    exact g_ret2 (r_tmp rfl) (r_tmp rfl) .nil rfl
  | true =>
    rw [hrr] at hr
    rw [if_pos rfl]
    have hp := right_port hrr
    obtain ⟨n, hpn⟩ : ∃ n : Nat, o.port = n := ⟨o.port.toNat, by omega⟩
    obtain ⟨a, b, p⟩ := o
    dsimp only at hpn
    subst hpn
    dsimp only [encG] at *
    have hi := digits_ok n (by omega)
    rw [if_neg (by omega)] at hi
    have hil : (BA (Lib.itoa n)).size ≤ 65536 := by rw [BA_size]; exact itoa_len n (by omega)
    have e1 := size_app a (⟨#[58, 47, 47]⟩ : ByteArray)
    have e2 := size_app (a ++ (⟨#[58, 47, 47]⟩ : ByteArray)) b
    have e3 := size_app (a ++ (⟨#[58, 47, 47]⟩ : ByteArray) ++ b) (⟨#[58]⟩ : ByteArray)
    have e4 : (⟨#[58, 47, 47]⟩ : ByteArray).size = 3 := rfl
    have e5 : (⟨#[58]⟩ : ByteArray).size = 1 := rfl
    unfold printS
    dsimp only
    by_cases hpu : (n : Int) = usualN a
    · rw [if_pos hpu]
      repeat' (first | apply ar_nil | (apply ar_ev; (apply ev_move; rfl); rfl) | (apply ar_ev; (first | exact ev_call rfl rfl hr | exact ev_call rfl rfl hu | (apply ev_cat; rfl; rfl; omega) | (apply ev_load_ptr_one; rfl; (focus ((repeat (first | exact Take.head | apply Take.tail | apply Take.right)); done)); exact (by first | rfl | assumption | exact get_map (by assumption)); rfl) | (apply ev_fieldAddr_ptr; rfl) | (apply ev_assign; rfl) | (apply ev_load_ptr_agg; rfl; (focus ((repeat (first | exact Take.head | apply Take.tail | apply Take.right)); done)); exact (by first | rfl | assumption | exact get_map (by assumption)); exact Nat.le_of_ble_eq_true rfl) | (apply ev_neip; rfl; rfl) | (apply ev_not; rfl)); rfl) | (apply ar_new; (first | apply eff_alloc | (apply eff_box; rfl; exact lies_of rfl) | (apply eff_conv_bytes; rfl; exact (by first | omega | assumption | (simp; done) | (simp; omega) | exact Nat.le_of_ble_eq_true rfl))); exact .nil; rfl; intro lab) | apply aw_seq | apply a_region | apply aw_skip | apply aw_ret | (apply aw_condp; rfl; all_goals (intro hc; try (exfalso; first | omega | contradiction | (simp at hc; omega) | (simp_all; done)))) | (apply aw_cond_f; rfl) | apply go_seq | (first | (apply a_drawN 2; rfl; rfl) | (apply a_drawN 3; rfl; rfl) | (apply a_drawN 4; rfl; rfl) | (apply a_drawN 5; rfl; rfl) | (apply a_drawN 6; rfl; rfl) | (apply a_drawN 7; rfl; rfl) | (apply a_drawN 8; rfl; rfl) | (apply a_drawN 9; rfl; rfl) | (apply a_drawN 10; rfl; rfl) | (apply a_drawN 11; rfl; rfl) | (apply a_drawN 12; rfl; rfl) | (apply a_drawN 13; rfl; rfl) | (apply a_drawN 14; rfl; rfl) | (apply a_drawN 15; rfl; rfl) | (apply a_drawN 16; rfl; rfl) | (apply a_drawN 17; rfl; rfl) | (apply a_drawN 18; rfl; rfl) | (apply a_drawN 19; rfl; rfl) | (apply a_drawN 20; rfl; rfl) | (apply a_drawN 21; rfl; rfl) | (apply a_drawN 22; rfl; rfl) | (apply a_drawN 23; rfl; rfl) | (apply a_drawN 24; rfl; rfl) | (apply a_drawN 25; rfl; rfl) | (apply a_drawN 26; rfl; rfl) | (apply a_drawN 27; rfl; rfl) | (apply a_drawN 28; rfl; rfl) | (apply a_drawN 29; rfl; rfl) | (apply a_drawN 30; rfl; rfl) | (apply a_drawN 31; rfl; rfl) | (apply a_drawN 32; rfl; rfl) | (apply a_drawN 33; rfl; rfl) | (apply a_drawN 34; rfl; rfl) | (apply a_drawN 35; rfl; rfl) | (apply a_drawN 36; rfl; rfl) | (apply a_drawN 37; rfl; rfl) | (apply a_drawN 38; rfl; rfl) | (apply a_drawN 39; rfl; rfl) | (apply a_drawN 40; rfl; rfl) | (apply a_drawN 41; rfl; rfl) | (apply a_drawN 42; rfl; rfl) | (apply a_drawN 43; rfl; rfl) | (apply a_drawN 44; rfl; rfl) | (apply a_drawN 45; rfl; rfl)))
      exact g_ret2 (r_tmp rfl) (r_tmp rfl) .nil rfl
    · rw [if_neg hpu]
      repeat' (first | apply ar_nil | (apply ar_ev; (apply ev_move; rfl); rfl) | (apply ar_ev; (first | exact ev_call rfl rfl hr | exact ev_call rfl rfl hu | (apply ev_cat; rfl; rfl; omega) | exact ev_call rfl rfl hi | (apply ev_load_ptr_one; rfl; (focus ((repeat (first | exact Take.head | apply Take.tail | apply Take.right)); done)); exact (by first | rfl | assumption | exact get_map (by assumption)); rfl) | (apply ev_fieldAddr_ptr; rfl) | (apply ev_assign; rfl) | (apply ev_load_ptr_agg; rfl; (focus ((repeat (first | exact Take.head | apply Take.tail | apply Take.right)); done)); exact (by first | rfl | assumption | exact get_map (by assumption)); exact Nat.le_of_ble_eq_true rfl) | (apply ev_neip; rfl; rfl) | (apply ev_not; rfl)); rfl) | (apply ar_new; (first | apply eff_alloc | (apply eff_box; rfl; exact lies_of rfl) | (apply eff_conv_bytes; rfl; exact (by first | omega | assumption | (simp; done) | (simp; omega) | exact Nat.le_of_ble_eq_true rfl))); exact .nil; rfl; intro lab) | apply aw_seq | apply a_region | apply aw_skip | apply aw_ret | (apply aw_condp; rfl; all_goals (intro hc; try (exfalso; first | omega | contradiction | (simp at hc; omega) | (simp_all; done)))) | (apply aw_cond_f; rfl) | apply go_seq | (first | (apply a_drawN 2; rfl; rfl) | (apply a_drawN 3; rfl; rfl) | (apply a_drawN 4; rfl; rfl) | (apply a_drawN 5; rfl; rfl) | (apply a_drawN 6; rfl; rfl) | (apply a_drawN 7; rfl; rfl) | (apply a_drawN 8; rfl; rfl) | (apply a_drawN 9; rfl; rfl) | (apply a_drawN 10; rfl; rfl) | (apply a_drawN 11; rfl; rfl) | (apply a_drawN 12; rfl; rfl) | (apply a_drawN 13; rfl; rfl) | (apply a_drawN 14; rfl; rfl) | (apply a_drawN 15; rfl; rfl) | (apply a_drawN 16; rfl; rfl) | (apply a_drawN 17; rfl; rfl) | (apply a_drawN 18; rfl; rfl) | (apply a_drawN 19; rfl; rfl) | (apply a_drawN 20; rfl; rfl) | (apply a_drawN 21; rfl; rfl) | (apply a_drawN 22; rfl; rfl) | (apply a_drawN 23; rfl; rfl) | (apply a_drawN 24; rfl; rfl) | (apply a_drawN 25; rfl; rfl) | (apply a_drawN 26; rfl; rfl) | (apply a_drawN 27; rfl; rfl) | (apply a_drawN 28; rfl; rfl) | (apply a_drawN 29; rfl; rfl) | (apply a_drawN 30; rfl; rfl) | (apply a_drawN 31; rfl; rfl) | (apply a_drawN 32; rfl; rfl) | (apply a_drawN 33; rfl; rfl) | (apply a_drawN 34; rfl; rfl) | (apply a_drawN 35; rfl; rfl) | (apply a_drawN 36; rfl; rfl) | (apply a_drawN 37; rfl; rfl) | (apply a_drawN 38; rfl; rfl) | (apply a_drawN 39; rfl; rfl) | (apply a_drawN 40; rfl; rfl) | (apply a_drawN 41; rfl; rfl) | (apply a_drawN 42; rfl; rfl) | (apply a_drawN 43; rfl; rfl) | (apply a_drawN 44; rfl; rfl) | (apply a_drawN 45; rfl; rfl)))
      exact g_ret2 (r_tmp rfl) (r_tmp rfl) .nil (by rw [app_assoc])

/-! Sets. -/
abbrev gsl (l : List Org) : AV := .sl 3 (l.map encG) l.length
abbrev keyG (o : Org) : List Value := [.string o.sch, .string o.host, .int .i64 o.port]
abbrev nilP : AV := .val (.pointer none)
def mapG (l : List Org) : List (List Value × AV) := l.zipIdx.map fun p => (keyG p.1, vi ((p.2 + 1 : Nat) : Int))
theorem gsl_get {l : List Org} {i : Nat} {o : Org} (h : l[i]? = some o) : (l.map encG)[i]? = some (encG o) := by simp [h]
theorem key_eq (o p : Org) : eqVs (keyG o) (keyG p) = decide (o = p) := by
  simp only [eqVs, eqV, toList_beq, Bool.and_true]
  rw [Bool.eq_iff_iff]
  obtain ⟨a, b, c⟩ := o
  obtain ⟨d, e, f⟩ := p
  simp
theorem map_fit (l : List Org) : ∀ p, p ∈ mapG l → fitsB [.str, .str, .int .i64] p.1 = true := fun p hp => by
  obtain ⟨r, _, rfl⟩ := List.mem_map.1 hp
  rfl
theorem map_snoc (l : List Org) (o : Org) : mapG (l ++ [o]) = mapG l ++ [(keyG o, vi ((l.length + 1 : Nat) : Int))] := by
  simp [mapG, List.zipIdx_append]
/-- What the map tells of an origin: more than 0 just if it stands there. -/
theorem find_val (o : Org) : ∀ (l : List Org) (k : Nat), (∃ n : Nat, (match (findIx (keyG o) ((l.zipIdx k).map fun p => (keyG p.1, vi ((p.2 + 1 : Nat) : Int)))).bind (((l.zipIdx k).map fun p => (keyG p.1, vi ((p.2 + 1 : Nat) : Int)))[·]?) with | some p => p.2 | none => zeroAV false (.int .i64 0)) = vi (n : Int) ∧ (0 < n ↔ o ∈ l))
  | [], k => ⟨0, rfl, by simp⟩
  | p :: l, k => by
    obtain ⟨n, h1, h2⟩ := find_val o l (k + 1)
    show ∃ n : Nat, (match (if eqVs (keyG o) (keyG p) then some 0 else (findIx (keyG o) ((l.zipIdx (k + 1)).map fun p => (keyG p.1, vi ((p.2 + 1 : Nat) : Int)))).map (· + 1)).bind ((((p :: l).zipIdx k).map fun p => (keyG p.1, vi ((p.2 + 1 : Nat) : Int)))[·]?) with | some p => p.2 | none => zeroAV false (.int .i64 0)) = vi (n : Int) ∧ (0 < n ↔ o ∈ p :: l)
    rw [key_eq]
    by_cases h : o = p
    · subst h
      rw [decide_eq_true rfl, if_pos rfl]
      exact ⟨k + 1, rfl, by simp⟩
    · rw [decide_eq_false h, if_neg (by decide)]
      refine ⟨n, ?_, by simp [h, h2]⟩
      rw [← h1]
      cases findIx (keyG o) ((l.zipIdx (k + 1)).map fun p => (keyG p.1, vi ((p.2 + 1 : Nat) : Int))) with
      | none => rfl
      | some i => simp [List.zipIdx_cons]
theorem find_none {o : Org} {l : List Org} (h : o ∉ l) : findIx (keyG o) (mapG l) = none := by
  unfold mapG
  have : ∀ (l : List Org) (k : Nat), o ∉ l → findIx (keyG o) ((l.zipIdx k).map fun p => (keyG p.1, vi ((p.2 + 1 : Nat) : Int))) = none := by
    intro l
    induction l with
    | nil => intro k _; rfl
    | cons p l ih =>
      intro k h
      show (if eqVs (keyG o) (keyG p) then some 0 else (findIx (keyG o) ((l.zipIdx (k + 1)).map fun p => (keyG p.1, vi ((p.2 + 1 : Nat) : Int)))).map (· + 1)) = none
      rw [key_eq, decide_eq_false (fun e => h (by rw [e]; exact List.mem_cons_self)), if_neg (by decide), ih (k + 1) (fun hm => h (List.mem_cons_of_mem _ hm))]
      rfl
  exact this l 0 h
def atG (o : Org) (l : List Org) : Nat := if o ∈ l then 1 else 0
end Go.Proofs.YtjdcljggbbeikaaDoor
