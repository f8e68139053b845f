import Derived.Test.YtphkfejckafamaaDoorI
import Derived.Test.YtphkfejckafamaaDoorG6
set_option linter.unusedVariables false
set_option linter.unusedSimpArgs false
set_option maxRecDepth 100000
namespace Go.Proofs.YtphkfejckafamaaDoor
open Go.Proofs Go.Proofs.YtphkfejckafamaaDoorA

/-! The cache: what it is set to, what it holds. -/
structure Cf where
  e : Int
  b : Int
  l : Int
  p : Int
abbrev encC (c : Cf) : List AV := [vi c.e, vi c.b, vi c.l, vi c.p]
abbrev cc (c : Cf) (E : AV) (y k : Int) : List AV := [vi c.e, vi c.b, vi c.l, vi c.p, E, vi y, vi k]
structure En where
  q : Rq
  r : Rs
  st : Int
  ar : Int
def fieldZ (f : Fld) : Nat := f.n.size + f.v.size + 32
def sizeL (l : List Fld) : Nat := (l.map fieldZ).sum
def sizeN (r : Rs) : Nat := r.b.size + sizeL r.fs
abbrev namesE (x : En) : List ByteArray := (namesN x.r.fs).1
abbrev cellsE (x : En) : List AV := [vs x.q.m, vs x.q.s, vs x.q.a, vs x.q.p, fsl x.q.fs, vs x.q.b, vi x.r.st, fsl x.r.fs, vs x.r.b, ssl (namesE x), vi x.st, vi x.ar, vi (sizeN x.r)]
structure OkFs (l : List Fld) : Prop where
  len : l.length ≤ 1048576
  fit : ∀ f, f ∈ l → f.n.size ≤ 1048580 ∧ f.v.size ≤ 1048580
structure OkE (x : En) : Prop where
  q : OkFs x.q.fs
  r : OkFs x.r.fs
  b : x.r.b.size ≤ 1048580
  nm : (namesE x).length ≤ 1099511627776
theorem sizeL_take {l : List Fld} (h : OkFs l) (i : Nat) : sizeL (l.take i) ≤ i * 2097192 := by
  induction i with
  | zero => simp [sizeL]
  | succ i ih =>
    rw [List.take_add_one]
    unfold sizeL at *
    rw [List.map_append, List.sum_append]
    cases hx : l[i]? with
    | none =>
      refine Nat.le_trans (Nat.le_of_eq (Nat.add_zero _)) ?_
      have e : (i + 1) * 2097192 = i * 2097192 + 2097192 := Nat.succ_mul _ _
      rw [e]
      exact Nat.le_trans ih (Nat.le_add_right _ _)
    | some f =>
      have := h.fit f (List.mem_of_getElem? hx)
      have e : (i + 1) * 2097192 = i * 2097192 + 2097192 := Nat.succ_mul _ _
      rw [e]
      refine Nat.add_le_add ih ?_
      simp only [Option.toList_some, List.map_cons, List.map_nil, List.sum_cons, List.sum_nil, fieldZ]
      omega
theorem sizeL_le {l : List Fld} (h : OkFs l) : sizeL l ≤ 2199073587360 := by
  have h1 := sizeL_take h l.length
  have h2 := h.len
  rw [List.take_of_length_le (Nat.le_refl _)] at h1
  omega
theorem sizeL_step {l : List Fld} {i : Nat} {f : Fld} (h : l[i]? = some f) : sizeL (l.take (i + 1)) = sizeL (l.take i) + fieldZ f := by
  unfold sizeL
  rw [List.take_add_one, h]
  simp
theorem size_ok (r : Rs) (h : OkFs r.fs) (hb : r.b.size ≤ 1048580) : PFn Tryd.prog 25 [.agg (encR r)] (vi (sizeN r)) := by
  refine fn_of Tryd.func25 rfl Tryd.ntmps25 Tryd.results25 rfl fun G => ?_
  have hlen := h.len
  repeat' (first | apply ar_nil | (apply ar_ev; (apply ev_move; rfl); rfl) | (apply ar_ev; (first | (apply ev_load_ptr_one; rfl; (focus ((repeat (first | exact Take.head | apply Take.tail | apply Take.right)); done)); exact (by first | rfl | assumption | exact get_map (by assumption)); rfl) | (apply ev_fieldAddr_ptr; rfl) | (apply ev_assign; rfl) | (apply ev_len_sl; rfl) | (apply ev_len_str; rfl)); rfl) | (apply ar_new; (first | apply eff_alloc | (apply eff_box; rfl; exact lies_of rfl) | (apply eff_conv_bytes; rfl; exact (by first | omega | assumption | (simp; done) | (simp; omega) | exact Nat.le_of_ble_eq_true rfl))); exact .nil; rfl; intro lab) | apply aw_seq | apply a_region | apply aw_block | apply go_seq)
  generalize lab = l1 at *
  refine a_loop (fun i : Nat => ⟨[(3, vi (r.b.size + sizeL (r.fs.take i) : Nat)), (10, fsl r.fs), (11, vi r.fs.length), (12, vi i)], []⟩) (fun i => i ≤ r.fs.length) (fun i => r.fs.length - i) 0 (Sub.of (by repeat (first | exact .nil | refine .cons rfl Le.refl ?_)) (by repeat (first | exact Takes.nil | (apply Takes.cons; focus (repeat (first | exact Take.head | apply Take.tail | apply Take.right)))))) (Nat.zero_le _) ?_
  intro i hi
  have hsz := sizeL_take h i
  by_cases hk : i < r.fs.length
  · obtain ⟨f, hf⟩ : ∃ f, r.fs[i]? = some f := ⟨_, List.getElem?_eq_getElem hk⟩
    have hf2 := fsl_get hf
    have hff := h.fit f (List.mem_of_getElem? hf)
    have hst := sizeL_step hf
    have hsum : ((r.b.size + sizeL (r.fs.take i) : Nat) : Int) + (((f.n.size : Int) + (f.v.size : Int)) + 32) = ((r.b.size + sizeL (r.fs.take (i + 1)) : Nat) : Int) := by
      rw [hst]; unfold fieldZ; omega
    repeat' (first | apply ar_nil | (apply ar_ev; (apply ev_move; rfl); rfl) | (apply ar_ev; (first | (apply ev_load_ptr_one; rfl; (focus ((repeat (first | exact Take.head | apply Take.tail | apply Take.right)); done)); exact (by first | rfl | assumption | exact get_map (by assumption)); rfl) | (apply ev_fieldAddr_ptr; rfl) | (apply ev_assign; rfl) | (apply ev_load_ip_agg; rfl; exact Nat.le_of_ble_eq_true rfl) | (apply ev_lss; rfl; rfl) | (apply ev_inc; rfl; exact (by first | omega | assumption)) | (apply ev_add; rfl; rfl; exact (by first | omega | assumption); exact (by first | omega | assumption)) | (apply ev_len_str; rfl) | (apply ev_indexAddr_sl; rfl; rfl; exact (by first | omega | assumption); exact (by first | rfl | assumption | exact get_map (by assumption)))); rfl) | (apply ar_new; (first | apply eff_alloc | (apply eff_box; rfl; exact lies_of rfl) | (apply eff_conv_bytes; rfl; exact (by first | omega | assumption | (simp; done) | (simp; omega) | exact Nat.le_of_ble_eq_true rfl))); exact .nil; rfl; intro lab) | (apply ar_store; rfl; (focus ((repeat (first | exact Take.head | apply Take.tail | apply Take.right)); done)); rfl; rfl; exact (by first | rfl | assumption | exact get_map (by assumption)); rfl; rfl) | apply aw_seq | apply a_region | apply aw_block | apply aw_skip | (apply aw_condp; rfl; all_goals (intro hc; try (exfalso; first | omega | contradiction | (simp at hc; omega) | (simp_all; done)))) | apply go_seq | apply go_block)
    all_goals exact go_loop_back ⟨i + 1, by omega, by omega, by rw [← hsum]; exact Sub.of (by repeat (first | exact .nil | refine .cons rfl Le.refl ?_)) (by repeat (first | exact Takes.nil | (apply Takes.cons; focus (repeat (first | exact Take.head | apply Take.tail | apply Take.right)))))⟩
  · obtain rfl : i = r.fs.length := by omega
    rw [List.take_of_length_le (Nat.le_refl _)]
    repeat' (first | apply ar_nil | (apply ar_ev; (apply ev_move; rfl); rfl) | (apply ar_ev; (first | (apply ev_assign; rfl) | (apply ev_lss; rfl; rfl)); rfl) | apply aw_seq | apply a_region | apply aw_exit | apply aw_ret | (apply aw_condp; rfl; all_goals (intro hc; try (exfalso; first | omega | contradiction | (simp at hc; omega) | (simp_all; done)))) | apply go_seq | apply go_seq_exit | apply go_block_exit | apply go_loop_exit)
    all_goals exact g_ret1 (r_tmp rfl) .nil rfl
theorem hear_ok (lc : Nat) (c : Cf) (E : AV) (y k tick : Int) : FnC Tryd.prog 67 [(lc, .row 93 7 [cc c E y k])] [.ptr lc 0 0, vi tick] (fun ts r => ts = [(lc, .row 93 7 [cc c E y (max k tick)])] ∧ r = .tup []) := by
  refine fn_of Tryd.func67 rfl Tryd.ntmps67 Tryd.results67 rfl fun G => ?_
  repeat' (first | apply ar_nil | (apply ar_ev; (apply ev_move; rfl); rfl) | (apply ar_ev; (first | (apply ev_load_ptr_one; rfl; (focus ((repeat (first | exact Take.head | apply Take.tail | apply Take.right)); done)); exact (by first | rfl | assumption | exact get_map (by assumption)); rfl) | (apply ev_fieldAddr_ptr; rfl) | (apply ev_nilCheck_ptr; rfl) | (apply ev_max; rfl; rfl)); rfl) | (apply ar_store1; rfl; (focus ((repeat (first | exact Take.head | apply Take.tail | apply Take.right)); done)); rfl; rfl; exact (by first | rfl | assumption | exact get_map (by assumption)); rfl) | apply a_region)
  all_goals exact g_end0 ((by repeat (first | exact Takes.nil | (apply Takes.cons; focus (repeat (first | exact Take.head | apply Take.tail | apply Take.right)))))) ⟨rfl, rfl⟩
/-- Has an entry lapsed? -/
def late (c : Cf) (k : Int) (x : En) : Bool := decide (k - x.ar > c.l)
theorem expired_ok (c : Cf) (E : AV) (y k : Int) (p : En) (h : 0 ≤ p.ar ∧ p.ar ≤ k ∧ k ≤ 9223372036854775807) : PFn Tryd.prog 89 [.ip (cc c E y k), .agg (cellsE p)] (vb (late c k p)) := by
  refine fn_of Tryd.func89 rfl Tryd.ntmps89 Tryd.results89 rfl fun G => ?_
  obtain ⟨h1, h2, h3⟩ := h
  repeat' (first | apply ar_nil | (apply ar_ev; (apply ev_move; rfl); rfl) | (apply ar_ev; (first | (apply ev_load_ptr_one; rfl; (focus ((repeat (first | exact Take.head | apply Take.tail | apply Take.right)); done)); exact (by first | rfl | assumption | exact get_map (by assumption)); rfl) | (apply ev_load_ip_one; rfl; rfl) | (apply ev_fieldAddr_ptr; rfl) | (apply ev_fieldAddr_ip; rfl) | (apply ev_assign; rfl) | (apply ev_nilCheck_ip; rfl) | (apply ev_gtr; rfl; rfl) | (apply ev_sub; rfl; rfl; exact (by first | omega | assumption); exact (by first | omega | assumption))); rfl) | (apply ar_new; (first | apply eff_alloc | (apply eff_box; rfl; exact lies_of rfl) | (apply eff_conv_bytes; rfl; exact (by first | omega | assumption | (simp; done) | (simp; omega) | exact Nat.le_of_ble_eq_true rfl))); exact .nil; rfl; intro lab) | apply aw_seq | apply a_region | apply aw_ret | apply go_seq | (first | (apply a_drawN 2; rfl; rfl) | (apply a_drawN 3; rfl; rfl) | (apply a_drawN 4; rfl; rfl) | (apply a_drawN 5; rfl; rfl) | (apply a_drawN 6; rfl; rfl) | (apply a_drawN 7; rfl; rfl) | (apply a_drawN 8; rfl; rfl) | (apply a_drawN 9; rfl; rfl) | (apply a_drawN 10; rfl; rfl) | (apply a_drawN 11; rfl; rfl) | (apply a_drawN 12; rfl; rfl) | (apply a_drawN 13; rfl; rfl) | (apply a_drawN 14; rfl; rfl) | (apply a_drawN 15; rfl; rfl) | (apply a_drawN 16; rfl; rfl) | (apply a_drawN 17; rfl; rfl) | (apply a_drawN 18; rfl; rfl) | (apply a_drawN 19; rfl; rfl) | (apply a_drawN 20; rfl; rfl) | (apply a_drawN 21; rfl; rfl) | (apply a_drawN 22; rfl; rfl) | (apply a_drawN 23; rfl; rfl) | (apply a_drawN 24; rfl; rfl) | (apply a_drawN 25; rfl; rfl) | (apply a_drawN 26; rfl; rfl) | (apply a_drawN 27; rfl; rfl) | (apply a_drawN 28; rfl; rfl) | (apply a_drawN 29; rfl; rfl) | (apply a_drawN 30; rfl; rfl) | (apply a_drawN 31; rfl; rfl) | (apply a_drawN 32; rfl; rfl) | (apply a_drawN 33; rfl; rfl) | (apply a_drawN 34; rfl; rfl) | (apply a_drawN 35; rfl; rfl) | (apply a_drawN 36; rfl; rfl) | (apply a_drawN 37; rfl; rfl) | (apply a_drawN 38; rfl; rfl) | (apply a_drawN 39; rfl; rfl) | (apply a_drawN 40; rfl; rfl) | (apply a_drawN 41; rfl; rfl) | (apply a_drawN 42; rfl; rfl) | (apply a_drawN 43; rfl; rfl) | (apply a_drawN 44; rfl; rfl) | (apply a_drawN 45; rfl; rfl)))
  all_goals exact g_ret1 (r_tmp rfl) .nil rfl
end Go.Proofs.YtphkfejckafamaaDoor
