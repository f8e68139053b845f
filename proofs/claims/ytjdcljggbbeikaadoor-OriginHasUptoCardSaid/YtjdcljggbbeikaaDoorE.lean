import Derived.Test.YtjdcljggbbeikaaDoorD
import Derived.Test.YtjdcljggbbeikaaDoorShelf
import Derived.WalkSmall
import Derived.Lib.IndexMore
set_option linter.unusedVariables false
set_option linter.unusedSimpArgs false
set_option maxRecDepth 100000
namespace Go.Proofs.YtjdcljggbbeikaaDoor
open Go.Proofs Go.Proofs.YtjdcljggbbeikaaDoorA

structure Org where
  sch : ByteArray
  host : ByteArray
  port : Int
deriving DecidableEq
abbrev encG (o : Org) : List AV := [vs o.sch, vs o.host, vi o.port]
def rightB (o : Org) : Bool := decide (0 < usualN o.sch) && hostB (bl o.host) && decide (1 ≤ o.port ∧ o.port ≤ 65535)
theorem usual_range (s : ByteArray) : 0 ≤ usualN s ∧ usualN s ≤ 443 := by
  unfold usualN
  split
  · omega
  · split <;> omega
theorem right_ok (o : Org) (hn : o.host.size ≤ 1048576) : PFn Tryd.prog 27 [.agg (encG o)] (vb (rightB o)) := by
  refine fn_of Tryd.func27 rfl Tryd.ntmps27 Tryd.results27 rfl fun G => ?_
  have hu := usual_ok o.sch
  have hh := host_ok o.host hn
  unfold rightB
  generalize usualN o.sch = u at *
  generalize hostB (bl o.host) = b at *
  repeat' (first | apply ar_nil | (apply ar_splitp; (apply ev_move; rfl); rfl; all_goals (intro hc; try (exfalso; first | omega | contradiction | (simp at hc; omega) | (simp_all; done)))) | (apply ar_ev; (apply ev_move (y := .val (.bool false)); rfl); rfl) | (apply ar_split; (apply ev_move; rfl); rfl; all_goals (intro hc; try (exfalso; first | omega | contradiction | (simp at hc; omega) | (simp_all; done)))) | (apply ar_ev; (first | exact ev_call rfl rfl hu | (apply ev_load_ptr_one; rfl; (focus ((repeat (first | exact Take.head | apply Take.tail | apply Take.right)); done)); exact (by first | rfl | assumption | exact get_map (by assumption)); rfl) | (apply ev_fieldAddr_ptr; rfl) | (apply ev_assign; rfl) | (apply ev_pick_t; rfl; rfl) | (apply ev_pick_f; rfl; rfl) | (apply ev_gtr; rfl; rfl)); rfl) | (apply ar_new; (first | apply eff_alloc | (apply eff_box; rfl; exact lies_of rfl) | (apply eff_conv_bytes; rfl; exact (by first | omega | assumption | (simp; done) | (simp; omega) | exact Nat.le_of_ble_eq_true rfl))); exact .nil; rfl; intro lab) | (apply ar_skip; rfl; rfl; rfl; rfl; rfl) | (apply ar_take; rfl; rfl; rfl; (first | exact ev_call rfl rfl hh | (apply ev_load_ptr_one; rfl; (focus ((repeat (first | exact Take.head | apply Take.tail | apply Take.right)); done)); exact (by first | rfl | assumption | exact get_map (by assumption)); rfl) | (apply ev_fieldAddr_ptr; rfl) | (apply ev_leq; rfl; rfl) | (apply ev_geq; rfl; rfl)); rfl) | apply aw_seq | apply a_region | apply aw_ret | apply go_seq)
  all_goals exact g_ret1 (r_tmp rfl) .nil (by simp_all; try omega)
theorem rRight_ok (o : Org) (hn : o.host.size ≤ 1048576) : PFn Tryd.prog 30 [.agg (encG o)] (vb (rightB o)) := by
  refine fn_of Tryd.func30 rfl Tryd.ntmps30 Tryd.results30 rfl fun G => ?_
  have hu := rusual_ok o.sch
  have hh := rHost_ok o.host hn
  unfold rightB
  generalize usualN o.sch = u at *
  generalize hostB (bl o.host) = b at *
  repeat' (first | apply ar_nil | (apply ar_splitp; (apply ev_move; rfl); rfl; all_goals (intro hc; try (exfalso; first | omega | contradiction | (simp at hc; omega) | (simp_all; done)))) | (apply ar_ev; (apply ev_move (y := .val (.bool false)); rfl); rfl) | (apply ar_split; (apply ev_move; rfl); rfl; all_goals (intro hc; try (exfalso; first | omega | contradiction | (simp at hc; omega) | (simp_all; done)))) | (apply ar_ev; (first | exact ev_call rfl rfl hu | (apply ev_load_ptr_one; rfl; (focus ((repeat (first | exact Take.head | apply Take.tail | apply Take.right)); done)); exact (by first | rfl | assumption | exact get_map (by assumption)); rfl) | (apply ev_fieldAddr_ptr; rfl) | (apply ev_assign; rfl) | (apply ev_pick_t; rfl; rfl) | (apply ev_pick_f; rfl; rfl) | (apply ev_gtr; rfl; rfl)); rfl) | (apply ar_new; (first | apply eff_alloc | (apply eff_box; rfl; exact lies_of rfl) | (apply eff_conv_bytes; rfl; exact (by first | omega | assumption | (simp; done) | (simp; omega) | exact Nat.le_of_ble_eq_true rfl))); exact .nil; rfl; intro lab) | (apply ar_skip; rfl; rfl; rfl; rfl; rfl) | (apply ar_take; rfl; rfl; rfl; (first | exact ev_call rfl rfl hh | (apply ev_load_ptr_one; rfl; (focus ((repeat (first | exact Take.head | apply Take.tail | apply Take.right)); done)); exact (by first | rfl | assumption | exact get_map (by assumption)); rfl) | (apply ev_fieldAddr_ptr; rfl) | (apply ev_leq; rfl; rfl) | (apply ev_geq; rfl; rfl)); rfl) | apply aw_seq | apply a_region | apply aw_ret | apply go_seq)
  all_goals exact g_ret1 (r_tmp rfl) .nil (by simp_all; try omega)

/-! What is laid of the library's. -/
def Later (B : Base) (w : World) : Prop := ∀ b, B.S b → w.heap[b]? = B.w.heap[b]?
structure LibF (B : Base) : Prop where
  cell : ∃ m : Int, ∀ w, Later B w → w.cell? ⟨0, 0, none⟩ = some (.int .i64 m)
  tab : ∀ w, Later B w → Lib.TabIs Tryd.prog w "internal/strconv.uint64pow10" .u64 Lib.pow10Tab
theorem rep_vals {S : Nat → Prop} {R : Lab} {w : World} (vs : List Value) : RepV S R w (.tup (vs.map .val)) (.tuple vs.toArray) := by
  refine .tup (by simp) fun i x hx => ?_
  rw [List.getElem?_map, Option.map_eq_some_iff] at hx
  obtain ⟨v, hv, rfl⟩ := hx
  have : vs.toArray.getD i undef = v := by simp [Array.getD_eq_getD_getElem?, hv]
  rw [this]; exact .val _
open Go.RowKit Go.Sort in
theorem cut_ok {B : Base} (hB : LibF B) (s sep : ByteArray) (hs : s.size ≤ 1048576) : PFnB B Tryd.prog 22 [vs s, vs sep] (.tup [vs (BA (Lib.cut (bl s) (bl sep)).1), vs (BA (Lib.cut (bl s) (bl sep)).2.1), vb (Lib.cut (bl s) (bl sep)).2.2]) := by
  obtain ⟨m, hm⟩ := hB.cell
  refine fnB_kit (args := [.string s, .string sep]) (v := .tuple #[.string ⟨(Lib.cut s.data.toList sep.data.toList).1.toArray⟩, .string ⟨(Lib.cut s.data.toList sep.data.toList).2.1.toArray⟩, .bool (Lib.cut s.data.toList sep.data.toList).2.2]) (fun S R w => rep_vals [_, _, _]) fun w hw => ?_
  refine (Tryd.strings_Cut s sep m w (by omega) (hm w hw)).mono ?_
  rintro e w' ⟨rfl, n, rfl⟩
  exact ⟨rfl, below_drewN (Below.refl _ _) n⟩
open Go.RowKit Go.Sort in
theorem itoa_ok {B : Base} (hB : LibF B) (n : Int) (h : -9223372036854775808 ≤ n ∧ n ≤ 9223372036854775807) : PFnB B Tryd.prog 29 [vi n] (vs (BA (Lib.itoa n))) := by
  refine fnB_kit (args := [.int .i64 n]) (v := .string ⟨(Lib.itoa n).toArray⟩) (fun S R w => .val _) fun w hw => ?_
  refine (Tryd.strconv_Itoa n h.1 h.2 w (hB.tab w hw)).mono ?_
  rintro e w' ⟨rfl, k, os, rfl⟩
  refine ⟨rfl, (below_drewN (Below.refl _ _) k).trans ⟨rfl, rfl, rfl, by simp [grow], fun b hb => ?_⟩⟩
  simp only [grow]
  rw [Array.getElem?_append_left (by simpa using hb)]

/-! Cutting. -/
def cut1 (l : List UInt8) : List UInt8 × List UInt8 × Bool := Lib.cut l [58]
def cut3 (l : List UInt8) : List UInt8 × List UInt8 × Bool := Lib.cut l [58, 47, 47]
theorem cut1_none {l : List UInt8} (h : (58 : UInt8) ∉ l) : cut1 l = (l, [], false) := by
  unfold cut1 Lib.cut
  rw [Lib.index_one, if_neg]
  intro h0
  have := Lib.indexByte_ge l 58
  obtain ⟨k, hk⟩ : ∃ k : Nat, Lib.indexByte l 58 = k := ⟨(Lib.indexByte l 58).toNat, by omega⟩
  exact h (List.mem_of_getElem? (Lib.indexByte_some hk).1)
theorem cut1_some {a b : List UInt8} (h : (58 : UInt8) ∉ a) : cut1 (a ++ 58 :: b) = (a, b, true) := by
  unfold cut1 Lib.cut
  rw [Lib.index_one, indexByte_cut h, if_pos (by omega)]
  simp
def speltO (sch auth : ByteArray) : Org := ⟨sch, BA ((cut1 (bl auth)).1.map lowB), if (cut1 (bl auth)).2.2 then portN (cut1 (bl auth)).2.1 else usualN sch⟩
theorem cut1_len (l : List UInt8) : (cut1 l).1.length ≤ l.length ∧ (cut1 l).2.1.length ≤ l.length := by
  unfold cut1 Lib.cut
  split
  · simp; omega
  · simp
theorem cut3_len (l : List UInt8) : (cut3 l).1.length ≤ l.length ∧ (cut3 l).2.1.length ≤ l.length := by
  unfold cut3 Lib.cut
  split
  · simp; omega
  · simp
theorem portN_range (l : List UInt8) : 0 ≤ portN l ∧ portN l < 100000 := by
  unfold portN
  split
  · rename_i h
    have h1 := numF_lt l.length l rfl h.2.2.2
    have h2 : 10 ^ l.length ≤ 10 ^ 5 := Nat.pow_le_pow_right (by omega) h.2.1
    omega
  · omega
set_option maxHeartbeats 4000000 in
theorem spelt_ok {B : Base} (hB : LibF B) (sch auth : ByteArray) (hn : auth.size ≤ 1048576) : PFnB B Tryd.prog 23 [vs sch, vs auth] (.tup [.agg (encG (speltO sch auth)), vb (rightB (speltO sch auth))]) := by
  refine fnB_of Tryd.func23 rfl Tryd.ntmps23 Tryd.results23 rfl fun G hG => ?_
  refine aw_fact hG fun lb => ?_
  have hcut := cut_ok hB auth (one 58) hn
  rw [show bl (one 58) = [58] by simp] at hcut
  have hlen := cut1_len (bl auth)
  rw [bl_length] at hlen
  have hlow := lower_ok (BA (cut1 (bl auth)).1) (by rw [BA_size]; omega)
  have hus := usual_ok sch
  have hport := port_ok (BA (cut1 (bl auth)).2.1) (by rw [BA_size]; omega)
  have hr := right_ok (speltO sch auth) (by simp only [speltO]; rw [BA_size, List.length_map]; omega)
  unfold low at hlow
  rw [bl_BA] at hlow hport
  have hcut' : PFnB B Tryd.prog 22 [vs auth, vs (one 58)] (.tup [vs (BA (cut1 (bl auth)).1), vs (BA (cut1 (bl auth)).2.1), vb (cut1 (bl auth)).2.2]) := hcut
  clear hcut
  generalize rightB (speltO sch auth) = rb at *
  unfold speltO at hr ⊢
  generalize cut1 (bl auth) = cu at *
  obtain ⟨c1, c2, c3⟩ := cu
  dsimp only at *
  cases c3
  · repeat' (first | apply ar_nil | (apply ar_ev; (apply ev_move (y := .val (.bool false)); rfl); rfl) | (apply ar_ev; (apply ev_move; rfl); rfl) | (apply ar_ev; (first | (apply ev_callF hcut' (by repeat (first | exact Take.head | apply Take.tail | apply Take.right)); rfl; rfl; exact Les.refl) | exact ev_call rfl rfl hlow | exact ev_call rfl rfl hus | exact ev_call rfl rfl hr | (apply ev_assign; rfl) | (apply ev_load_ptr_agg; rfl; (focus ((repeat (first | exact Take.head | apply Take.tail | apply Take.right)); done)); exact (by first | rfl | assumption | exact get_map (by assumption)); exact Nat.le_of_ble_eq_true rfl) | (apply ev_extract; rfl; rfl) | (apply ev_build; rfl; rfl; rfl)); rfl) | (apply ar_new; (first | apply eff_alloc | (apply eff_box; rfl; exact lies_of rfl) | (apply eff_conv_bytes; rfl; exact (by first | omega | assumption | (simp; done) | (simp; omega) | exact Nat.le_of_ble_eq_true rfl))); exact .nil; rfl; intro lab) | (apply ar_store; rfl; (focus ((repeat (first | exact Take.head | apply Take.tail | apply Take.right)); done)); rfl; rfl; exact (by first | rfl | assumption | exact get_map (by assumption)); rfl; rfl) | apply aw_seq | apply a_region | apply aw_skip | apply aw_ret | (apply aw_cond_f; rfl) | apply go_seq | (first | (apply a_drawN 2; rfl; rfl) | (apply a_drawN 3; rfl; rfl) | (apply a_drawN 4; rfl; rfl) | (apply a_drawN 5; rfl; rfl) | (apply a_drawN 6; rfl; rfl) | (apply a_drawN 7; rfl; rfl) | (apply a_drawN 8; rfl; rfl) | (apply a_drawN 9; rfl; rfl) | (apply a_drawN 10; rfl; rfl) | (apply a_drawN 11; rfl; rfl) | (apply a_drawN 12; rfl; rfl) | (apply a_drawN 13; rfl; rfl) | (apply a_drawN 14; rfl; rfl) | (apply a_drawN 15; rfl; rfl) | (apply a_drawN 16; rfl; rfl) | (apply a_drawN 17; rfl; rfl) | (apply a_drawN 18; rfl; rfl) | (apply a_drawN 19; rfl; rfl) | (apply a_drawN 20; rfl; rfl) | (apply a_drawN 21; rfl; rfl) | (apply a_drawN 22; rfl; rfl) | (apply a_drawN 23; rfl; rfl) | (apply a_drawN 24; rfl; rfl) | (apply a_drawN 25; rfl; rfl) | (apply a_drawN 26; rfl; rfl) | (apply a_drawN 27; rfl; rfl) | (apply a_drawN 28; rfl; rfl) | (apply a_drawN 29; rfl; rfl) | (apply a_drawN 30; rfl; rfl) | (apply a_drawN 31; rfl; rfl) | (apply a_drawN 32; rfl; rfl) | (apply a_drawN 33; rfl; rfl) | (apply a_drawN 34; rfl; rfl) | (apply a_drawN 35; rfl; rfl) | (apply a_drawN 36; rfl; rfl) | (apply a_drawN 37; rfl; rfl) | (apply a_drawN 38; rfl; rfl) | (apply a_drawN 39; rfl; rfl) | (apply a_drawN 40; rfl; rfl) | (apply a_drawN 41; rfl; rfl) | (apply a_drawN 42; rfl; rfl) | (apply a_drawN 43; rfl; rfl) | (apply a_drawN 44; rfl; rfl) | (apply a_drawN 45; rfl; rfl)))
    apply g_ret2; (apply r_cell; rfl; exact (by repeat (first | exact Take.head | apply Take.tail | apply Take.right)); rfl; rfl); exact r_tmp rfl; exact .nil; exact ⟨rfl, rfl⟩
  · repeat' (first | apply ar_nil | (apply ar_ev; (apply ev_move (y := .val (.bool true)); rfl); rfl) | (apply ar_ev; (apply ev_move; rfl); rfl) | (apply ar_ev; (first | (apply ev_callF hcut' (by repeat (first | exact Take.head | apply Take.tail | apply Take.right)); rfl; rfl; exact Les.refl) | exact ev_call rfl rfl hlow | exact ev_call rfl rfl hus | exact ev_call rfl rfl hport | exact ev_call rfl rfl hr | (apply ev_fieldAddr_ptr; rfl) | (apply ev_assign; rfl) | (apply ev_load_ptr_agg; rfl; (focus ((repeat (first | exact Take.head | apply Take.tail | apply Take.right)); done)); exact (by first | rfl | assumption | exact get_map (by assumption)); exact Nat.le_of_ble_eq_true rfl) | (apply ev_extract; rfl; rfl) | (apply ev_build; rfl; rfl; rfl)); rfl) | (apply ar_new; (first | apply eff_alloc | (apply eff_box; rfl; exact lies_of rfl) | (apply eff_conv_bytes; rfl; exact (by first | omega | assumption | (simp; done) | (simp; omega) | exact Nat.le_of_ble_eq_true rfl))); exact .nil; rfl; intro lab) | (apply ar_store1; rfl; (focus ((repeat (first | exact Take.head | apply Take.tail | apply Take.right)); done)); rfl; rfl; exact (by first | rfl | assumption | exact get_map (by assumption)); rfl) | (apply ar_store; rfl; (focus ((repeat (first | exact Take.head | apply Take.tail | apply Take.right)); done)); rfl; rfl; exact (by first | rfl | assumption | exact get_map (by assumption)); rfl; rfl) | apply aw_seq | apply a_region | apply aw_ret | (apply aw_cond_t; rfl) | apply go_seq | (first | (apply a_drawN 2; rfl; rfl) | (apply a_drawN 3; rfl; rfl) | (apply a_drawN 4; rfl; rfl) | (apply a_drawN 5; rfl; rfl) | (apply a_drawN 6; rfl; rfl) | (apply a_drawN 7; rfl; rfl) | (apply a_drawN 8; rfl; rfl) | (apply a_drawN 9; rfl; rfl) | (apply a_drawN 10; rfl; rfl) | (apply a_drawN 11; rfl; rfl) | (apply a_drawN 12; rfl; rfl) | (apply a_drawN 13; rfl; rfl) | (apply a_drawN 14; rfl; rfl) | (apply a_drawN 15; rfl; rfl) | (apply a_drawN 16; rfl; rfl) | (apply a_drawN 17; rfl; rfl) | (apply a_drawN 18; rfl; rfl) | (apply a_drawN 19; rfl; rfl) | (apply a_drawN 20; rfl; rfl) | (apply a_drawN 21; rfl; rfl) | (apply a_drawN 22; rfl; rfl) | (apply a_drawN 23; rfl; rfl) | (apply a_drawN 24; rfl; rfl) | (apply a_drawN 25; rfl; rfl) | (apply a_drawN 26; rfl; rfl) | (apply a_drawN 27; rfl; rfl) | (apply a_drawN 28; rfl; rfl) | (apply a_drawN 29; rfl; rfl) | (apply a_drawN 30; rfl; rfl) | (apply a_drawN 31; rfl; rfl) | (apply a_drawN 32; rfl; rfl) | (apply a_drawN 33; rfl; rfl) | (apply a_drawN 34; rfl; rfl) | (apply a_drawN 35; rfl; rfl) | (apply a_drawN 36; rfl; rfl) | (apply a_drawN 37; rfl; rfl) | (apply a_drawN 38; rfl; rfl) | (apply a_drawN 39; rfl; rfl) | (apply a_drawN 40; rfl; rfl) | (apply a_drawN 41; rfl; rfl) | (apply a_drawN 42; rfl; rfl) | (apply a_drawN 43; rfl; rfl) | (apply a_drawN 44; rfl; rfl) | (apply a_drawN 45; rfl; rfl)))
    apply g_ret2; (apply r_cell; rfl; exact (by repeat (first | exact Take.head | apply Take.tail | apply Take.right)); rfl; rfl); exact r_tmp rfl; exact .nil; exact ⟨rfl, rfl⟩
set_option maxHeartbeats 4000000 in
theorem small_ok (s : ByteArray) (hn : s.size ≤ 1048576) : PFn Tryd.prog 26 [vs s] (vs (BA ((bl s).map lowB))) := by
  refine fn_of Tryd.func26 rfl Tryd.ntmps26 Tryd.results26 rfl fun G => ?_
  have hl := bl_length s
  repeat' ((fail_if_success (show AW _ (.region 2 _ _) _ _)); (first | apply ar_nil | (apply ar_ev; (apply ev_assign; rfl); rfl) | apply aw_seq | apply a_region | apply go_seq))
  refine aw_adopt 3 5 1 rfl fun lab => ?_
  repeat' ((fail_if_success (show AW _ (.region 3 _ _) _ _)); (first | apply ar_nil | (apply ar_ev; (apply ev_assign; rfl); rfl) | apply a_region | apply aw_block | apply go_seq))
  refine a_loop (fun g : Nat × Nat => ⟨[(0, vs s), (3, .own g.2 0 g.1), (4, vi g.1)], [(g.2, .row 5 1 (u8cells (((bl s).take g.1).map lowB)))]⟩) (fun g => g.1 ≤ s.size) (fun g => s.size - g.1) (0, lab) (Sub.of (by repeat (first | exact .nil | refine .cons rfl Le.refl ?_)) (by repeat (first | exact Takes.nil | (apply Takes.cons; focus (repeat (first | exact Take.head | apply Take.tail | apply Take.right)))))) (Nat.zero_le _) ?_
  rintro ⟨i, lab⟩ hi
  dsimp only at *
  repeat' (first | apply ar_nil | (apply ar_ev; (apply ev_move; rfl); rfl) | (apply ar_ev; (first | (apply ev_lss; rfl; rfl) | (apply ev_len_str; rfl)); rfl) | apply aw_seq | apply a_region | apply go_seq)
  refine aw_condp rfl (fun hk => ?_) (fun hk => ?_)
  · obtain ⟨c, hce⟩ : ∃ c, (bl s)[i]? = some c := ⟨_, List.getElem?_eq_getElem (by omega)⟩
    have hw := c.toNat_lt
    have hll : (u8cells (((bl s).take i).map lowB)).length = i := by rw [u8_len, List.length_map, List.length_take]; omega
    have hsn : ((bl s).take (i + 1)).map lowB = ((bl s).take i).map lowB ++ [lowB c] := by rw [List.take_add_one, hce]; simp
    have hrow : ∀ x : AV, x = v8 (lowB c) → List.take i (List.drop 0 (u8cells (((bl s).take i).map lowB))) ++ List.take 1 [[x]] = u8cells (((bl s).take (i + 1)).map lowB) := by
      rintro x rfl
      rw [hsn, u8_append, List.drop_zero, List.take_of_length_le (Nat.le_of_eq hll)]; rfl
    repeat' ((fail_if_success (show AW _ (.region 8 _ _) _ _)); (first | apply ar_nil | (apply ar_splitp; (apply ev_move; rfl); rfl; all_goals (intro hc; try (exfalso; first | omega | contradiction | (simp at hc; omega) | (simp_all; done)))) | (apply ar_ev; (apply ev_move; rfl); rfl) | (apply ar_ev; (first | (apply ev_assign; rfl) | (apply ev_pick_t; rfl; rfl) | (apply ev_pick_f; rfl; rfl) | (apply ev_geq; rfl; rfl) | (apply ev_index_bl; rfl; rfl; assumption) | (apply ev_addw; rfl; rfl)); rfl) | (apply ar_skip; rfl; rfl; rfl; rfl; rfl) | (apply ar_take; rfl; rfl; rfl; (apply ev_move; rfl); rfl) | (apply ar_take; rfl; rfl; rfl; (apply ev_leq; rfl; rfl); rfl) | apply aw_seq | apply a_region | apply aw_block | apply aw_skip | (apply aw_condp; rfl; all_goals (intro hc; try (exfalso; first | omega | contradiction | (simp at hc; omega) | (simp_all; done)))) | (apply aw_cond_f; rfl) | apply go_seq))
    · rename_i h1
      have hu : lowB c = c + 32 := if_pos ⟨by omega, by omega⟩
      have hr1 := hrow (.val (.int .u8 (IntKind.u8.wrap ((c.toNat : Int) + 32)))) (by
        have hx : ((c.toNat : Int) + 32) % 256 = (((c + 32 : UInt8).toNat : Nat) : Int) := by rw [low_toNat c ⟨by omega, by omega⟩]; omega
        rw [hu, wrap8, hx])
      repeat' (first | apply ar_nil | (apply ar_ev; (apply ev_move; rfl); rfl) | (apply ar_ev; (first | (apply ev_assign; rfl) | (apply ev_inc; rfl; exact (by first | omega | assumption)) | (apply ev_buildSlice; rfl; rfl; rfl; rfl; rfl; rfl; rfl)); rfl) | apply a_region | apply go_seq | apply go_block | (apply ar_append; rfl; (focus ((repeat (first | exact Take.head | apply Take.tail | apply Take.right)); done)); rfl; exact (by first | omega | assumption | (simp; done) | (simp; omega) | exact Nat.le_of_ble_eq_true rfl); exact (by first | omega | assumption | (simp; done) | (simp; omega) | exact Nat.le_of_ble_eq_true rfl); exact (by first | omega | assumption | (simp; done) | (simp; omega) | exact Nat.le_of_ble_eq_true rfl); rfl; intro lab))
      exact go_loop_back ⟨(i + 1, lab), by dsimp only; omega, by dsimp only; omega, by dsimp only; exact Sub.of (by repeat (first | exact .nil | refine .cons rfl Le.refl ?_)) (by repeat (first | exact Takes.nil | (apply Takes.cons; focus (repeat (first | exact Take.head | exact Take.rowc hr1 Take.head | apply Take.tail | apply Take.right)))))⟩
    all_goals
      have hu : lowB c = c := if_neg (by omega)
      have hr1 := hrow (v8 c) (by rw [hu])
      repeat' (first | apply ar_nil | (apply ar_ev; (apply ev_move; rfl); rfl) | (apply ar_ev; (first | (apply ev_assign; rfl) | (apply ev_inc; rfl; exact (by first | omega | assumption)) | (apply ev_buildSlice; rfl; rfl; rfl; rfl; rfl; rfl; rfl)); rfl) | apply a_region | apply go_seq | apply go_block | (apply ar_append; rfl; (focus ((repeat (first | exact Take.head | apply Take.tail | apply Take.right)); done)); rfl; exact (by first | omega | assumption | (simp; done) | (simp; omega) | exact Nat.le_of_ble_eq_true rfl); exact (by first | omega | assumption | (simp; done) | (simp; omega) | exact Nat.le_of_ble_eq_true rfl); exact (by first | omega | assumption | (simp; done) | (simp; omega) | exact Nat.le_of_ble_eq_true rfl); rfl; intro lab))
      exact go_loop_back ⟨(i + 1, lab), by dsimp only; omega, by dsimp only; omega, by dsimp only; exact Sub.of (by repeat (first | exact .nil | refine .cons rfl Le.refl ?_)) (by repeat (first | exact Takes.nil | (apply Takes.cons; focus (repeat (first | exact Take.head | exact Take.rowc hr1 Take.head | apply Take.tail | apply Take.right)))))⟩
  · obtain rfl : i = s.size := by omega
    rw [List.take_of_length_le (by omega)]
    have hlm : ((bl s).map lowB).length = s.size := by rw [List.length_map, hl]
    rw [← hlm]
    repeat' (first | apply ar_nil | (apply ar_ev; (apply ev_move; rfl); rfl) | (apply ar_ev; (first | (apply ev_assign; rfl) | (apply ev_conv_own; rfl; (focus ((repeat (first | exact Take.head | apply Take.tail | apply Take.right)); done)))); rfl) | apply aw_seq | apply a_region | apply aw_exit | apply aw_ret | apply go_seq | apply go_seq_exit | apply go_block_exit | apply go_loop_exit)
    exact g_ret1 (r_tmp rfl) .nil rfl
end Go.Proofs.YtjdcljggbbeikaaDoor
