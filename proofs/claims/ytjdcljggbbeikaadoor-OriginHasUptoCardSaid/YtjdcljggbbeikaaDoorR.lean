import Derived.Test.YtjdcljggbbeikaaDoorQ
set_option linter.unusedVariables false
set_option linter.unusedSimpArgs false
set_option maxRecDepth 100000
namespace Go.Proofs.YtjdcljggbbeikaaDoor
open Go.Proofs Go.Proofs.YtjdcljggbbeikaaDoorA

section
variable {P : Program} {n : Nat} {ro : Option Nat} {G : CtxR P n ro} {K : Kont} {st : St}
/-- Behind x and x2 the ways come together. -/
theorem aw_join3 {x x2 y : Code} {ι : Type} (I : ι → St) (Inv : ι → Prop) (h1 : AW G x st (.seq x2 (.loop (fun st' => ∃ g, Inv g ∧ Sub st' (I g)) K))) (h2 : ∀ g, Inv g → AW G y (I g) K) : AW G x st (.seq x2 (.seq y K)) := by
  refine ⟨fun a w hr => wpIn_mono (h1.h a w hr) ?_⟩
  rintro e a' w' ⟨st', hq, hr'⟩
  refine ⟨st', ?_, hr'⟩
  cases e with
  | normal => exact (aw_join I Inv ⟨hq⟩ h2).h
  | _ => exact hq
end
/-- A host that grows: its last piece has from m to k bytes. -/
def Hb (b : List UInt8) (m k : Nat) : Prop := ∃ ps cur, pieces 46 b = ps ++ [cur] ∧ (∀ p, p ∈ ps → Clean p) ∧ (∀ c, c ∈ cur → alB c = true) ∧ m ≤ cur.length ∧ cur.length ≤ k ∧ ∀ c, c ∈ b → alB c = true ∨ c = 46
theorem Hb.nil (k : Nat) : Hb [] 0 k := ⟨[], [], rfl, by simp, by simp, Nat.le_refl _, Nat.zero_le _, by simp⟩
theorem Hb.mono {b : List UInt8} {m k m' k' : Nat} (h : Hb b m k) (hm : m' ≤ m) (hk : k ≤ k') : Hb b m' k' := by
  obtain ⟨ps, cur, h1, h2, h3, h4, h5, h6⟩ := h
  exact ⟨ps, cur, h1, h2, h3, by omega, by omega, h6⟩
theorem Hb.letter {b : List UInt8} {m k : Nat} {c : UInt8} (h : Hb b m k) (hc : alB c = true) : Hb (b ++ [c]) (m + 1) (k + 1) := by
  obtain ⟨ps, cur, h1, h2, h3, h4, h5, h6⟩ := h
  have hc46 : c ≠ 46 := al_ne hc 46 (.inl (by decide))
  have hp : pieces 46 [c] = [c] :: [] := by simp [pieces, hc46]
  refine ⟨ps, cur ++ [c], pieces_app hp b ps cur h1, h2, fun x hx => ?_, by simp; omega, by simp; omega, fun x hx => ?_⟩
  · rcases List.mem_append.1 hx with hx | hx
    · exact h3 x hx
    · rw [List.mem_singleton.1 hx]; exact hc
  · rcases List.mem_append.1 hx with hx | hx
    · exact h6 x hx
    · rw [List.mem_singleton.1 hx]; exact .inl hc
theorem Hb.clean {b : List UInt8} {k : Nat} (h : Hb b 1 k) (hk : k ≤ 63) : ∀ p, p ∈ pieces 46 b → Clean p := by
  obtain ⟨ps, cur, h1, h2, h3, h4, h5, h6⟩ := h
  intro p hp
  rw [h1] at hp
  rcases List.mem_append.1 hp with hp | hp
  · exact h2 p hp
  · rw [List.mem_singleton.1 hp]
    exact ⟨fun e => by rw [e] at h4; simp at h4, by omega, h3⟩
theorem Hb.dot {b : List UInt8} {k : Nat} (h : Hb b 1 k) (hk : k ≤ 63) : Hb (b ++ [46]) 0 0 := by
  have hcl := h.clean hk
  obtain ⟨ps, cur, h1, h2, h3, h4, h5, h6⟩ := h
  have hp : pieces 46 [46] = [] :: [[]] := by simp [pieces]
  refine ⟨ps ++ [cur], [], ?_, fun p hp => hcl p (h1 ▸ hp), by simp, by simp, by simp, fun x hx => ?_⟩
  · rw [pieces_app hp b ps cur h1]; simp
  · rcases List.mem_append.1 hx with hx | hx
    · exact h6 x hx
    · exact .inr (List.mem_singleton.1 hx)
abbrev letters : ByteArray := ⟨#[97, 98, 99, 100, 101, 102, 103, 104, 105, 106, 107, 108, 109, 110, 111, 112, 113, 114, 115, 116, 117, 118, 119, 120, 121, 122, 48, 49, 50, 51, 52, 53, 54, 55, 56, 57]⟩
theorem letter_at (n : Nat) (h : n < 36) : ∃ d, (bl letters)[n]? = some d ∧ alB d = true := by
  have hall : (bl letters).all alB = true := by decide
  have hlen : n < (bl letters).length := h
  exact ⟨_, List.getElem?_eq_getElem hlen, List.all_eq_true.1 hall _ (List.getElem_mem hlen)⟩
theorem wrap64_u8 (c : UInt8) : IntKind.i64.wrap ((c.toNat : Nat) : Int) = ((c.toNat : Nat) : Int) := i64_id (by omega) (by have := c.toNat_lt; omega)
theorem tmodn (m k : Nat) (hk : 0 < k) : ((m : Nat) : Int).tmod (k : Nat) = ((m % k : Nat) : Int) := by
  rw [Int.tmod_eq_emod_of_nonneg (by omega)]; omega
set_option maxHeartbeats 8000000 in
theorem made_ok (raw : Org) (hs : raw.sch.size ≤ 1048576) (hh : raw.host.size ≤ 1048576) : FnC Tryd.prog 14 [] [.agg (encG raw)] (fun ts r => ts = [] ∧ ∃ o : Org, GoodO o ∧ r = .agg (encG o)) := by
  refine fn_of Tryd.func14 rfl Tryd.ntmps14 Tryd.results14 rfl fun G => ?_
  have hl := bl_length raw.host
  have hpr : 0 ≤ andI raw.port 32767 ∧ andI raw.port 32767 ≤ 32767 := andI_range raw.port 32767 (by decide)
  repeat' ((fail_if_success (show AW _ (.region 2 _ _) _ _)); (first | apply ar_nil | (apply ar_ev; (first | (apply ev_load_ptr_one; rfl; (focus ((repeat (first | exact Take.head | apply Take.tail | apply Take.right)); done)); exact (by first | rfl | assumption | exact get_map (by assumption)); rfl) | (apply ev_fieldAddr_ptr; rfl) | (apply ev_add; rfl; rfl; exact (by first | omega | assumption); exact (by first | omega | assumption)) | (apply ev_andI; rfl; rfl) | (apply ev_build; rfl; rfl; rfl)); rfl) | (apply ar_new; (first | apply eff_alloc | (apply eff_box; rfl; exact lies_of rfl) | (apply eff_conv_bytes; rfl; exact (by first | omega | assumption | (simp; done) | (simp; omega) | exact Nat.le_of_ble_eq_true rfl))); exact .nil; rfl; intro lab) | (apply ar_store; rfl; (focus ((repeat (first | exact Take.head | apply Take.tail | apply Take.right)); done)); rfl; rfl; exact (by first | rfl | assumption | exact get_map (by assumption)); rfl; rfl) | apply aw_seq | apply a_region | apply go_seq))
  rename_i la lb
  generalize lab = lc at *
  refine aw_join3 (fun b : Bool => ⟨[(1, .ptr la 0 0), (2, .ptr lb 0 0), (3, .ptr lc 0 0)], [(lc, .row 23 3 [[vs (if b = true then sHttps else sHttp), vs es, vi (1 + andI raw.port 32767)]]), (lb, .row 23 3 [encG org0]), (la, .row 23 3 [encG raw])]⟩) (fun _ => True) ?_ ?_
  · repeat' (first | apply ar_nil | (apply ar_ev; (first | (apply ev_rem; rfl; rfl; decide) | (apply ev_load_ptr_one; rfl; (focus ((repeat (first | exact Take.head | apply Take.tail | apply Take.right)); done)); exact (by first | rfl | assumption | exact get_map (by assumption)); rfl) | (apply ev_fieldAddr_ptr; rfl) | (apply ev_eqip; rfl; rfl) | (apply ev_len_str; rfl)); rfl) | (apply ar_store1; rfl; (focus ((repeat (first | exact Take.head | apply Take.tail | apply Take.right)); done)); rfl; rfl; exact (by first | rfl | assumption | exact get_map (by assumption)); rfl) | apply a_region | apply aw_skip | (apply aw_condp; rfl; all_goals (intro hc; try (exfalso; first | omega | contradiction | (simp at hc; omega) | (simp_all; done)))) | apply go_seq)
    · exact go_loop_back ⟨true, trivial, Sub.of (by repeat (first | exact .nil | refine .cons rfl Le.refl ?_)) (by repeat (first | exact Takes.nil | (apply Takes.cons; focus (repeat (first | exact Take.head | apply Take.tail | apply Take.right)))))⟩
    · exact go_loop_back ⟨false, trivial, Sub.of (by repeat (first | exact .nil | refine .cons rfl Le.refl ?_)) (by repeat (first | exact Takes.nil | (apply Takes.cons; focus (repeat (first | exact Take.head | apply Take.tail | apply Take.right)))))⟩
  have hpv : ∃ pv, pv = 1 + andI raw.port 32767 ∧ 1 ≤ pv ∧ pv ≤ 65535 := ⟨_, rfl, by omega, by omega⟩
  obtain ⟨pv, hpe, hpv⟩ := hpv
  rw [← hpe]
  clear hpe hpr
  rintro b -
  refine aw_seq (aw_seq (aw_join3 (fun p : Int => ⟨[(1, .ptr la 0 0), (2, .ptr lb 0 0), (3, .ptr lc 0 0)], [(lc, .row 23 3 [[vs (if b = true then sHttps else sHttp), vs es, vi p]]), (lb, .row 23 3 [encG org0]), (la, .row 23 3 [encG raw])]⟩) (fun p => 1 ≤ p ∧ p ≤ 65535) ?_ ?_))
  · cases b
    · repeat' (first | apply ar_nil | (apply ar_ev; (first | (apply ev_load_ptr_one; rfl; (focus ((repeat (first | exact Take.head | apply Take.tail | apply Take.right)); done)); exact (by first | rfl | assumption | exact get_map (by assumption)); rfl) | (apply ev_fieldAddr_ptr; rfl) | (apply ev_lss; rfl; rfl) | (apply ev_eqsp; rfl; rfl)); rfl) | (apply ar_store1; rfl; (focus ((repeat (first | exact Take.head | apply Take.tail | apply Take.right)); done)); rfl; rfl; exact (by first | rfl | assumption | exact get_map (by assumption)); rfl) | apply aw_seq | apply a_region | apply aw_skip | (apply aw_condp; rfl; all_goals (intro hc; try (exfalso; first | omega | contradiction | (simp at hc; omega) | (simp_all; done)))) | apply go_seq)
      · exact go_loop_back ⟨80, by omega, Sub.of (by repeat (first | exact .nil | refine .cons rfl Le.refl ?_)) (by repeat (first | exact Takes.nil | (apply Takes.cons; focus (repeat (first | exact Take.head | apply Take.tail | apply Take.right)))))⟩
      · exact go_loop_back ⟨pv, by omega, Sub.of (by repeat (first | exact .nil | refine .cons rfl Le.refl ?_)) (by repeat (first | exact Takes.nil | (apply Takes.cons; focus (repeat (first | exact Take.head | apply Take.tail | apply Take.right)))))⟩
    · repeat' (first | apply ar_nil | (apply ar_ev; (first | (apply ev_load_ptr_one; rfl; (focus ((repeat (first | exact Take.head | apply Take.tail | apply Take.right)); done)); exact (by first | rfl | assumption | exact get_map (by assumption)); rfl) | (apply ev_fieldAddr_ptr; rfl) | (apply ev_lss; rfl; rfl) | (apply ev_eqsp; rfl; rfl)); rfl) | (apply ar_store1; rfl; (focus ((repeat (first | exact Take.head | apply Take.tail | apply Take.right)); done)); rfl; rfl; exact (by first | rfl | assumption | exact get_map (by assumption)); rfl) | apply aw_seq | apply a_region | apply aw_skip | (apply aw_condp; rfl; all_goals (intro hc; try (exfalso; first | omega | contradiction | (simp at hc; omega) | (simp_all; done)))) | apply go_seq)
      · exact go_loop_back ⟨443, by omega, Sub.of (by repeat (first | exact .nil | refine .cons rfl Le.refl ?_)) (by repeat (first | exact Takes.nil | (apply Takes.cons; focus (repeat (first | exact Take.head | apply Take.tail | apply Take.right)))))⟩
      · exact go_loop_back ⟨pv, by omega, Sub.of (by repeat (first | exact .nil | refine .cons rfl Le.refl ?_)) (by repeat (first | exact Takes.nil | (apply Takes.cons; focus (repeat (first | exact Take.head | apply Take.tail | apply Take.right)))))⟩
  rintro p hp
  obtain ⟨sc, hsc, hsc2⟩ : ∃ sc, (if b = true then sHttps else sHttp) = sc ∧ (sc = sHttp ∨ sc = sHttps) := ⟨_, rfl, by cases b <;> simp⟩
  rw [hsc]
  clear hsc hpv
  repeat' ((fail_if_success (show AW _ (.block 0 _) _ _)); (first | apply ar_nil | (apply ar_ev; (apply ev_assign; rfl); rfl) | apply aw_seq | apply a_region | apply go_seq))
  refine aw_adopt 5 5 1 rfl fun l0 => ?_
  refine aw_block ?_
  refine a_loop (fun g : Nat × Nat × Nat × List UInt8 => ⟨[(1, .ptr la 0 0), (2, .ptr lb 0 0), (3, .ptr lc 0 0), (4, vs letters), (5, .own g.2.1 0 g.2.2.1), (6, vi g.1)], [(g.2.1, .row 5 1 (u8cells g.2.2.2)), (lc, .row 23 3 [[vs sc, vs es, vi p]]), (lb, .row 23 3 [encG org0]), (la, .row 23 3 [encG raw])]⟩) (fun g => g.1 ≤ raw.host.size ∧ g.1 ≤ 90 ∧ g.2.2.1 = g.2.2.2.length ∧ g.2.2.2.length ≤ 2 * g.1 ∧ Hb g.2.2.2 (min g.1 1) (g.1 % 9 + 1)) (fun g => raw.host.size - g.1) (0, l0, 0, []) (Sub.of (by repeat (first | exact .nil | refine .cons rfl Le.refl ?_)) (by repeat (first | exact Takes.nil | (apply Takes.cons; focus (repeat (first | exact Take.head | apply Take.tail | apply Take.right)))))) ⟨by omega, by omega, rfl, by simp, Hb.nil _⟩ ?_
  rintro ⟨i, l5, n5, bs⟩ ⟨hi1, hi2, hi5, hi3, hi4⟩
  dsimp only at hi1 hi2 hi3 hi4 hi5 ⊢
  subst hi5
  by_cases hk : i < raw.host.size ∧ i < 90
  · obtain ⟨c, hce⟩ : ∃ c, (bl raw.host)[i]? = some c := ⟨_, List.getElem?_eq_getElem (by omega)⟩
    obtain ⟨d, hd, hda⟩ := letter_at (c.toNat % 36) (Nat.mod_lt _ (by decide))
    have ht : ((i : Nat) : Int).tmod 9 = ((i % 9 : Nat) : Int) := tmodn i 9 (by decide)
    have hw := wrap64_u8 c
    have ht2 : ((c.toNat : Nat) : Int).tmod 36 = ((c.toNat % 36 : Nat) : Int) := tmodn c.toNat 36 (by decide)
    have hrow : ∀ (l : List UInt8) (x : UInt8), List.take l.length (List.drop 0 (u8cells l)) ++ List.take 1 [[v8 x]] = u8cells (l ++ [x]) := fun l x => by
      rw [u8_append, List.drop_zero, List.take_of_length_le (Nat.le_of_eq (u8_len l))]; rfl
    have hll := u8_len bs
    by_cases h8 : i % 9 = 8
    · have hr1 := hrow bs 46
      have h3 : bs.length + 1 = (bs ++ [46]).length := by simp
      repeat' ((fail_if_success (show AW _ (.region 15 _ _) _ _)); (first | (rw [ht]) | apply ar_nil | (apply ar_splitp; (apply ev_move; rfl); rfl; all_goals (intro hc; try (exfalso; first | omega | contradiction | (simp at hc; omega) | (simp_all; done)))) | (apply ar_ev; (apply ev_move; rfl); rfl) | (apply ar_ev; (first | (apply ev_rem; rfl; rfl; decide) | (apply ev_load_ptr_one; rfl; (focus ((repeat (first | exact Take.head | apply Take.tail | apply Take.right)); done)); exact (by first | rfl | assumption | exact get_map (by assumption)); rfl) | (apply ev_fieldAddr_ptr; rfl) | (apply ev_assign; rfl) | (apply ev_pick_t; rfl; rfl) | (apply ev_eqip; rfl; rfl) | (apply ev_lss; rfl; rfl) | (apply ev_len_str; rfl) | (apply ev_buildSlice; rfl; rfl; rfl; rfl; rfl; rfl; rfl)); rfl) | (apply ar_take; rfl; rfl; rfl; (apply ev_move; rfl); rfl) | (apply ar_take; rfl; rfl; rfl; (apply ev_lss; rfl; rfl); rfl) | apply aw_seq | apply a_region | apply aw_block | apply aw_skip | (apply aw_condp; rfl; all_goals (intro hc; try (exfalso; first | omega | contradiction | (simp at hc; omega) | (simp_all; done)))) | apply go_seq | (apply ar_append; rfl; (focus ((repeat (first | exact Take.head | apply Take.tail | apply Take.right)); done)); rfl; exact (by first | omega | assumption | (simp; done) | (simp; omega) | exact Nat.le_of_ble_eq_true rfl); exact (by first | omega | assumption | (simp; done) | (simp; omega) | exact Nat.le_of_ble_eq_true rfl); exact (by first | omega | assumption | (simp; done) | (simp; omega) | exact Nat.le_of_ble_eq_true rfl); rfl; intro lab)))
      refine AW.sub (st' := ⟨[(1, .ptr la 0 0), (2, .ptr lb 0 0), (3, .ptr lc 0 0), (4, vs letters), (5, .own lab 0 (bs.length + 1)), (6, vi i)], [(lab, .row 5 1 (u8cells (bs ++ [46]))), (lc, .row 23 3 [[vs sc, vs es, vi p]]), (lb, .row 23 3 [encG org0]), (la, .row 23 3 [encG raw])]⟩) (Sub.of (by repeat (first | exact .nil | refine .cons rfl Le.refl ?_)) (by repeat (first | exact Takes.nil | (apply Takes.cons; focus (repeat (first | exact Take.head | exact Take.rowc hr1 Take.head | apply Take.tail | apply Take.right)))))) ?_
      rw [h3]
      have hd' := ((hi4.mono (by omega) (Nat.le_refl _)).dot (by omega)).letter hda
      have hll2 := u8_len (bs ++ [46])
      have hr2 := hrow (bs ++ [46]) d
      have h4 : (bs ++ [46]).length + 1 = (bs ++ [46] ++ [d]).length := by simp
      have h5 : (bs ++ [46] ++ [d]).length = bs.length + 2 := by simp
      generalize bs ++ [46] = bs2 at *
      generalize bs2 ++ [d] = bs3 at *
      clear hr1
      repeat' (first | (rw [hw]) | (rw [ht2]) | apply ar_nil | (apply ar_ev; (apply ev_move; rfl); rfl) | (apply ar_ev; (first | (apply ev_rem; rfl; rfl; decide) | (apply ev_index_bl; rfl; rfl; exact hd) | (apply ev_load_ptr_one; rfl; (focus ((repeat (first | exact Take.head | apply Take.tail | apply Take.right)); done)); exact (by first | rfl | assumption | exact get_map (by assumption)); rfl) | (apply ev_fieldAddr_ptr; rfl) | (apply ev_assign; rfl) | (apply ev_inc; rfl; exact (by first | omega | assumption)) | (apply ev_index_bl; rfl; rfl; assumption) | (apply ev_buildSlice; rfl; rfl; rfl; rfl; rfl; rfl; rfl) | (apply ev_conv_int; rfl)); rfl) | apply a_region | apply go_seq | apply go_block | (apply ar_append; rfl; (focus ((repeat (first | exact Take.head | apply Take.tail | apply Take.right)); done)); rfl; exact (by first | omega | assumption | (simp; done) | (simp; omega) | exact Nat.le_of_ble_eq_true rfl); exact (by first | omega | assumption | (simp; done) | (simp; omega) | exact Nat.le_of_ble_eq_true rfl); exact (by first | omega | assumption | (simp; done) | (simp; omega) | exact Nat.le_of_ble_eq_true rfl); rfl; intro lab))
      all_goals exact go_loop_back ⟨(i + 1, _, bs2.length + 1, bs3), ⟨by dsimp only; omega, by dsimp only; omega, by dsimp only; omega, by dsimp only; omega, hd'.mono (by dsimp only; omega) (by dsimp only; omega)⟩, by dsimp only; omega, by dsimp only; exact Sub.of (by repeat (first | exact .nil | refine .cons rfl Le.refl ?_)) (by repeat (first | exact Takes.nil | (apply Takes.cons; focus (repeat (first | exact Take.head | exact Take.rowc hr2 Take.head | apply Take.tail | apply Take.right)))))⟩
    · have hr1 := hrow bs d
      have h4 : bs.length + 1 = (bs ++ [d]).length := by simp
      have hd' := hi4.letter hda
      generalize bs ++ [d] = bs3 at *
      repeat' (first | (rw [ht]) | (rw [hw]) | (rw [ht2]) | apply ar_nil | (apply ar_splitp; (apply ev_move; rfl); rfl; all_goals (intro hc; try (exfalso; first | omega | contradiction | (simp at hc; omega) | (simp_all; done)))) | (apply ar_ev; (apply ev_move; rfl); rfl) | (apply ar_ev; (first | (apply ev_rem; rfl; rfl; decide) | (apply ev_index_bl; rfl; rfl; exact hd) | (apply ev_load_ptr_one; rfl; (focus ((repeat (first | exact Take.head | apply Take.tail | apply Take.right)); done)); exact (by first | rfl | assumption | exact get_map (by assumption)); rfl) | (apply ev_fieldAddr_ptr; rfl) | (apply ev_assign; rfl) | (apply ev_pick_t; rfl; rfl) | (apply ev_eqip; rfl; rfl) | (apply ev_lss; rfl; rfl) | (apply ev_inc; rfl; exact (by first | omega | assumption)) | (apply ev_len_str; rfl) | (apply ev_index_bl; rfl; rfl; assumption) | (apply ev_buildSlice; rfl; rfl; rfl; rfl; rfl; rfl; rfl) | (apply ev_conv_int; rfl)); rfl) | (apply ar_take; rfl; rfl; rfl; (apply ev_move; rfl); rfl) | (apply ar_take; rfl; rfl; rfl; (apply ev_lss; rfl; rfl); rfl) | apply aw_seq | apply a_region | apply aw_block | apply aw_skip | (apply aw_condp; rfl; all_goals (intro hc; try (exfalso; first | omega | contradiction | (simp at hc; omega) | (simp_all; done)))) | apply go_seq | apply go_block | (apply ar_append; rfl; (focus ((repeat (first | exact Take.head | apply Take.tail | apply Take.right)); done)); rfl; exact (by first | omega | assumption | (simp; done) | (simp; omega) | exact Nat.le_of_ble_eq_true rfl); exact (by first | omega | assumption | (simp; done) | (simp; omega) | exact Nat.le_of_ble_eq_true rfl); exact (by first | omega | assumption | (simp; done) | (simp; omega) | exact Nat.le_of_ble_eq_true rfl); rfl; intro lab))
      all_goals exact go_loop_back ⟨(i + 1, _, bs.length + 1, bs3), ⟨by dsimp only; omega, by dsimp only; omega, by dsimp only; omega, by dsimp only; omega, hd'.mono (by dsimp only; omega) (by dsimp only; omega)⟩, by dsimp only; omega, by dsimp only; exact Sub.of (by repeat (first | exact .nil | refine .cons rfl Le.refl ?_)) (by repeat (first | exact Takes.nil | (apply Takes.cons; focus (repeat (first | exact Take.head | exact Take.rowc hr1 Take.head | apply Take.tail | apply Take.right)))))⟩
  · have hfin : ∀ bs' : List UInt8, bs'.length ≤ 180 → Hb bs' 1 10 → GoodO ⟨sc, ⟨bs'.toArray⟩, p⟩ := fun bs' h1 h2 => ⟨hsc2, hp, h2.choose_spec.choose_spec.2.2.2.2.2, Nat.le_trans h1 (by decide), h2.clean (by decide)⟩
    by_cases hb0 : bs = []
    · subst hb0
      have hg := hfin [104] (by decide) ((Hb.nil 9).letter (by decide))
      repeat' (first | apply ar_nil | (apply ar_splitp; (apply ev_move; rfl); rfl; all_goals (intro hc; try (exfalso; first | omega | contradiction | (simp at hc; omega) | (simp_all; done)))) | (apply ar_ev; (apply ev_move; rfl); rfl) | (apply ar_ev; (first | (apply ev_conv_own (bs := [104]); rfl; exact Take.head) | (apply ev_load_ptr_one; rfl; (focus ((repeat (first | exact Take.head | apply Take.tail | apply Take.right)); done)); exact (by first | rfl | assumption | exact get_map (by assumption)); rfl) | (apply ev_fieldAddr_ptr; rfl) | (apply ev_assign; rfl) | (apply ev_pick_t; rfl; rfl) | (apply ev_pick_f; rfl; rfl) | (apply ev_load_ptr_agg; rfl; (focus ((repeat (first | exact Take.head | apply Take.tail | apply Take.right)); done)); exact (by first | rfl | assumption | exact get_map (by assumption)); exact Nat.le_of_ble_eq_true rfl) | (apply ev_eqip; rfl; rfl) | (apply ev_lss; rfl; rfl) | (apply ev_len_own; rfl) | (apply ev_len_str; rfl) | (apply ev_buildSlice; rfl; rfl; rfl; rfl; rfl; rfl; rfl)); rfl) | (apply ar_store1; rfl; (focus ((repeat (first | exact Take.head | apply Take.tail | apply Take.right)); done)); rfl; rfl; exact (by first | rfl | assumption | exact get_map (by assumption)); rfl) | (apply ar_store; rfl; (focus ((repeat (first | exact Take.head | apply Take.tail | apply Take.right)); done)); rfl; rfl; exact (by first | rfl | assumption | exact get_map (by assumption)); rfl; rfl) | (apply ar_skip; rfl; rfl; rfl; rfl; rfl) | (apply ar_take; rfl; rfl; rfl; (apply ev_move; rfl); rfl) | (apply ar_take; rfl; rfl; rfl; (apply ev_lss; rfl; rfl); rfl) | apply aw_seq | apply a_region | apply aw_exit | apply aw_ret | (apply aw_condp; rfl; all_goals (intro hc; try (exfalso; first | omega | contradiction | (simp at hc; omega) | (simp_all; done)))) | (apply aw_cond_f; rfl) | apply go_seq | apply go_seq_exit | apply go_block_exit | apply go_loop_exit | (apply ar_append; rfl; (focus ((repeat (first | exact Take.head | apply Take.tail | apply Take.right)); done)); rfl; exact (by first | omega | assumption | (simp; done) | (simp; omega) | exact Nat.le_of_ble_eq_true rfl); exact (by first | omega | assumption | (simp; done) | (simp; omega) | exact Nat.le_of_ble_eq_true rfl); exact (by first | omega | assumption | (simp; done) | (simp; omega) | exact Nat.le_of_ble_eq_true rfl); rfl; intro lab))
      all_goals (apply g_ret1; (apply r_cell; rfl; exact (by repeat (first | exact Take.head | apply Take.tail | apply Take.right)); rfl; rfl); exact .nil; exact ⟨rfl, _, hg, rfl⟩)
    · have hb1 : 0 < bs.length := List.length_pos_iff.2 hb0
      have hg := hfin bs (by omega) (hi4.mono (by omega) (by omega))
      repeat' (first | apply ar_nil | (apply ar_splitp; (apply ev_move; rfl); rfl; all_goals (intro hc; try (exfalso; first | omega | contradiction | (simp at hc; omega) | (simp_all; done)))) | (apply ar_ev; (apply ev_move; rfl); rfl) | (apply ar_ev; (first | (apply ev_load_ptr_one; rfl; (focus ((repeat (first | exact Take.head | apply Take.tail | apply Take.right)); done)); exact (by first | rfl | assumption | exact get_map (by assumption)); rfl) | (apply ev_fieldAddr_ptr; rfl) | (apply ev_pick_t; rfl; rfl) | (apply ev_pick_f; rfl; rfl) | (apply ev_load_ptr_agg; rfl; (focus ((repeat (first | exact Take.head | apply Take.tail | apply Take.right)); done)); exact (by first | rfl | assumption | exact get_map (by assumption)); exact Nat.le_of_ble_eq_true rfl) | (apply ev_eqip; rfl; rfl) | (apply ev_lss; rfl; rfl) | (apply ev_len_own; rfl) | (apply ev_len_str; rfl) | (apply ev_conv_own; rfl; (focus ((repeat (first | exact Take.head | apply Take.tail | apply Take.right)); done)))); rfl) | (apply ar_store1; rfl; (focus ((repeat (first | exact Take.head | apply Take.tail | apply Take.right)); done)); rfl; rfl; exact (by first | rfl | assumption | exact get_map (by assumption)); rfl) | (apply ar_store; rfl; (focus ((repeat (first | exact Take.head | apply Take.tail | apply Take.right)); done)); rfl; rfl; exact (by first | rfl | assumption | exact get_map (by assumption)); rfl; rfl) | (apply ar_skip; rfl; rfl; rfl; rfl; rfl) | (apply ar_take; rfl; rfl; rfl; (apply ev_move; rfl); rfl) | (apply ar_take; rfl; rfl; rfl; (apply ev_lss; rfl; rfl); rfl) | apply aw_seq | apply a_region | apply aw_skip | apply aw_exit | apply aw_ret | (apply aw_condp; rfl; all_goals (intro hc; try (exfalso; first | omega | contradiction | (simp at hc; omega) | (simp_all; done)))) | (apply aw_cond_f; rfl) | apply go_seq | apply go_seq_exit | apply go_block_exit | apply go_loop_exit)
      all_goals (apply g_ret1; (apply r_cell; rfl; exact (by repeat (first | exact Take.head | apply Take.tail | apply Take.right)); rfl; rfl); exact .nil; exact ⟨rfl, _, hg, rfl⟩)
end Go.Proofs.YtjdcljggbbeikaaDoor
