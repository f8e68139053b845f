import Derived.Test.YtinojkkjcignhaaTy
set_option linter.unusedVariables false
set_option maxRecDepth 100000
namespace Go.Proofs.Ytinojkkjcignhaa
open Go.Proofs Go.Proofs.YtinojkkjcignhaaA

abbrev Param := Int × Int
structure Frame where
  ty : Int
  flags : Int
  stream : Int
  data : ByteArray
  pad : Int
  dep : Int
  excl : Bool
  weight : Int
  code : Int
  last : Int
  ps : List Param

abbrev vi (n : Int) : AV := .val (.int .i64 n)
abbrev vb (b : Bool) : AV := .val (.bool b)
abbrev vs (s : ByteArray) : AV := .val (.string s)
def encP (p : Param) : List AV := [vi p.1, vi p.2]
/-- A frame's cells; x: what stands for its list. -/
abbrev fcl (f : Frame) (x : AV) : List AV := [vi f.ty, vi f.flags, vi f.stream, vs f.data, vi f.pad, vi f.dep, vb f.excl, vi f.weight, vi f.code, vi f.last, x]
abbrev psl (l : List Param) : AV := .sl 2 (l.map encP) l.length
abbrev encF (f : Frame) : List AV := fcl f (psl f.ps)
abbrev fsl (l : List Frame) : AV := .sl 11 (l.map encF) l.length

/-! ### What only reckons -/
def isHead (f : Frame) : Bool := decide (f.ty = 1) || decide (f.ty = 5)
theorem isHead_ok (f : Frame) : PFn Try.prog 22 [.agg (encF f)] (vb (isHead f)) := by
  refine fn_of Try.func22 rfl Try.ntmps22 Try.results22 rfl fun G => ?_
  repeat' (first | apply ar_nil | (apply ar_splitp; (apply ev_move; rfl); rfl; all_goals (intro hc; try (exfalso; first | omega | contradiction | (simp at hc; omega) | (simp_all; done)))) | (apply ar_ev; (first | (apply ev_load_ptr_one; rfl; (focus ((repeat (first | exact Take.head | apply Take.tail | apply Take.right)); done)); exact (by first | rfl | assumption | exact get_map (by assumption)); rfl) | (apply ev_fieldAddr_ptr; rfl) | (apply ev_assign; rfl) | (apply ev_pick_t; rfl; rfl) | (apply ev_pick_f; rfl; rfl) | (apply ev_eqip; rfl; rfl)); rfl) | (apply ar_new; (first | apply eff_alloc | (apply eff_box; rfl; exact lies_of rfl)); exact .nil; rfl; intro lab) | (apply ar_skip; rfl; rfl; rfl; rfl; rfl) | (apply ar_take; rfl; rfl; rfl; (first | (apply ev_load_ptr_one; rfl; (focus ((repeat (first | exact Take.head | apply Take.tail | apply Take.right)); done)); exact (by first | rfl | assumption | exact get_map (by assumption)); rfl) | (apply ev_fieldAddr_ptr; rfl) | (apply ev_eqip; rfl; rfl)); rfl) | apply aw_seq | apply a_region | apply aw_ret | apply go_seq)
  all_goals (refine g_ret1 (r_tmp rfl) .nil ?_; simp_all [isHead])
theorem Head_ok (f : Frame) : PFn Try.prog 29 [.agg (encF f)] (vb (isHead f)) := by
  refine fn_of Try.func29 rfl Try.ntmps29 Try.results29 rfl fun G => ?_
  repeat' (first | apply ar_nil | (apply ar_splitp; (apply ev_move; rfl); rfl; all_goals (intro hc; try (exfalso; first | omega | contradiction | (simp at hc; omega) | (simp_all; done)))) | (apply ar_ev; (first | (apply ev_load_ptr_one; rfl; (focus ((repeat (first | exact Take.head | apply Take.tail | apply Take.right)); done)); exact (by first | rfl | assumption | exact get_map (by assumption)); rfl) | (apply ev_fieldAddr_ptr; rfl) | (apply ev_assign; rfl) | (apply ev_pick_t; rfl; rfl) | (apply ev_pick_f; rfl; rfl) | (apply ev_eqip; rfl; rfl)); rfl) | (apply ar_new; (first | apply eff_alloc | (apply eff_box; rfl; exact lies_of rfl)); exact .nil; rfl; intro lab) | (apply ar_skip; rfl; rfl; rfl; rfl; rfl) | (apply ar_take; rfl; rfl; rfl; (first | (apply ev_load_ptr_one; rfl; (focus ((repeat (first | exact Take.head | apply Take.tail | apply Take.right)); done)); exact (by first | rfl | assumption | exact get_map (by assumption)); rfl) | (apply ev_fieldAddr_ptr; rfl) | (apply ev_eqip; rfl; rfl)); rfl) | apply aw_seq | apply a_region | apply aw_ret | apply go_seq)
  all_goals (refine g_ret1 (r_tmp rfl) .nil ?_; simp_all [isHead])
theorem Has_ok (a b : Int) : PFn Try.prog 30 [vi a, vi b] (vb (decide (andI a b ≠ 0))) := by
  refine fn_of Try.func30 rfl Try.ntmps30 Try.results30 rfl fun G => ?_
  repeat' (first | apply ar_nil | (apply ar_ev; (apply ev_move; rfl); rfl) | (apply ar_ev; (first | (apply ev_assign; rfl) | (apply ev_neip; rfl; rfl) | (apply ev_andI; rfl; rfl)); rfl) | apply aw_seq | apply a_region | apply aw_ret | apply go_seq)
  all_goals (refine g_ret1 (r_tmp rfl) .nil rfl)

def room (f : Frame) (n : Int) : Int := n - (if andI f.flags 8 ≠ 0 then 1 + f.pad else 0) - (if f.ty = 1 ∧ andI f.flags 32 ≠ 0 then 5 else 0) - (if f.ty = 5 then 4 else 0)
theorem room_ok (f : Frame) (n : Int) (h1 : 0 ≤ f.pad) (h2 : f.pad ≤ 255) (h3 : 0 ≤ n) (h4 : n ≤ 65536) : PFn Try.prog 31 [.agg (encF f), vi n] (vi (room f n)) := by
  refine fn_of Try.func31 rfl Try.ntmps31 Try.results31 rfl fun G => ?_
  repeat' (first | apply ar_nil | (apply ar_splitp; (apply ev_move; rfl); rfl; all_goals (intro hc; try (exfalso; first | omega | contradiction | (simp at hc; omega) | (simp_all; done)))) | (apply ar_ev; (apply ev_move; rfl); rfl) | (apply ar_ev; (first | (apply ev_load_ptr_one; rfl; (focus ((repeat (first | exact Take.head | apply Take.tail | apply Take.right)); done)); exact (by first | rfl | assumption | exact get_map (by assumption)); rfl) | (apply ev_fieldAddr_ptr; rfl) | (apply ev_assign; rfl) | (apply ev_pick_t; rfl; rfl) | (apply ev_pick_f; rfl; rfl) | (apply ev_eqip; rfl; rfl) | (apply ev_neip; rfl; rfl) | (apply ev_add; rfl; rfl; exact (by first | omega | assumption); exact (by first | omega | assumption)) | (apply ev_sub; rfl; rfl; exact (by first | omega | assumption); exact (by first | omega | assumption)) | (apply ev_andI; rfl; rfl)); rfl) | (apply ar_new; (first | apply eff_alloc | (apply eff_box; rfl; exact lies_of rfl)); exact .nil; rfl; intro lab) | (apply ar_skip; rfl; rfl; rfl; rfl; rfl) | (apply ar_take; rfl; rfl; rfl; (first | (apply ev_load_ptr_one; rfl; (focus ((repeat (first | exact Take.head | apply Take.tail | apply Take.right)); done)); exact (by first | rfl | assumption | exact get_map (by assumption)); rfl) | (apply ev_fieldAddr_ptr; rfl) | (apply ev_neip; rfl; rfl) | (apply ev_andI; rfl; rfl)); rfl) | apply aw_seq | apply a_region | apply aw_skip | apply aw_ret | (apply aw_condp; rfl; all_goals (intro hc; try (exfalso; first | omega | contradiction | (simp at hc; omega) | (simp_all; done)))) | (apply aw_cond_f; rfl) | apply go_seq)
  all_goals (refine g_ret1 (r_tmp rfl) .nil ?_; simp_all [room]; try omega)
theorem Room_ok (f : Frame) (n : Int) (h1 : 0 ≤ f.pad) (h2 : f.pad ≤ 255) (h3 : 0 ≤ n) (h4 : n ≤ 65536) : PFn Try.prog 32 [.agg (encF f), vi n] (vi (room f n)) := by
  refine fn_of Try.func32 rfl Try.ntmps32 Try.results32 rfl fun G => ?_
  repeat' (first | apply ar_nil | (apply ar_splitp; (apply ev_move; rfl); rfl; all_goals (intro hc; try (exfalso; first | omega | contradiction | (simp at hc; omega) | (simp_all; done)))) | (apply ar_ev; (apply ev_move; rfl); rfl) | (apply ar_ev; (first | exact ev_call rfl rfl (Has_ok _ _) | (apply ev_load_ptr_one; rfl; (focus ((repeat (first | exact Take.head | apply Take.tail | apply Take.right)); done)); exact (by first | rfl | assumption | exact get_map (by assumption)); rfl) | (apply ev_fieldAddr_ptr; rfl) | (apply ev_assign; rfl) | (apply ev_pick_t; rfl; rfl) | (apply ev_pick_f; rfl; rfl) | (apply ev_eqip; rfl; rfl) | (apply ev_sub; rfl; rfl; exact (by first | omega | assumption); exact (by first | omega | assumption))); rfl) | (apply ar_new; (first | apply eff_alloc | (apply eff_box; rfl; exact lies_of rfl)); exact .nil; rfl; intro lab) | (apply ar_skip; rfl; rfl; rfl; rfl; rfl) | (apply ar_take; rfl; rfl; rfl; (first | exact ev_call rfl rfl (Has_ok _ _) | (apply ev_load_ptr_one; rfl; (focus ((repeat (first | exact Take.head | apply Take.tail | apply Take.right)); done)); exact (by first | rfl | assumption | exact get_map (by assumption)); rfl) | (apply ev_fieldAddr_ptr; rfl)); rfl) | apply aw_seq | apply a_region | apply aw_skip | apply aw_ret | (apply aw_condp; rfl; all_goals (intro hc; try (exfalso; first | omega | contradiction | (simp at hc; omega) | (simp_all; done)))) | (apply aw_cond_f; rfl) | apply go_seq)
  all_goals (refine g_ret1 (r_tmp rfl) .nil ?_; simp_all [room]; try omega)

def payload (f : Frame) : Int := f.data.size + (if f.ty ≠ 9 ∧ andI f.flags 8 ≠ 0 then 1 + f.pad else 0) + (if f.ty = 1 ∧ andI f.flags 32 ≠ 0 then 5 else 0) + (if f.ty = 5 then 4 else 0)
theorem payload_ok (f : Frame) (h1 : 0 ≤ f.pad) (h2 : f.pad ≤ 255) (h3 : f.data.size ≤ 1099511627776) : PFn Try.prog 20 [.agg (encF f)] (vi (payload f)) := by
  refine fn_of Try.func20 rfl Try.ntmps20 Try.results20 rfl fun G => ?_
  repeat' (first | apply ar_nil | (apply ar_splitp; (apply ev_move; rfl); rfl; all_goals (intro hc; try (exfalso; first | omega | contradiction | (simp at hc; omega) | (simp_all; done)))) | (apply ar_ev; (apply ev_move; rfl); rfl) | (apply ar_ev; (first | (apply ev_load_ptr_one; rfl; (focus ((repeat (first | exact Take.head | apply Take.tail | apply Take.right)); done)); exact (by first | rfl | assumption | exact get_map (by assumption)); rfl) | (apply ev_fieldAddr_ptr; rfl) | (apply ev_assign; rfl) | (apply ev_pick_t; rfl; rfl) | (apply ev_pick_f; rfl; rfl) | (apply ev_eqip; rfl; rfl) | (apply ev_neip; rfl; rfl) | (apply ev_inc; rfl; exact (by first | omega | assumption)) | (apply ev_add; rfl; rfl; exact (by first | omega | assumption); exact (by first | omega | assumption)) | (apply ev_len_str; rfl)); rfl) | (apply ar_new; (first | apply eff_alloc | (apply eff_box; rfl; exact lies_of rfl)); exact .nil; rfl; intro lab) | (apply ar_skip; rfl; rfl; rfl; rfl; rfl) | (apply ar_take; rfl; rfl; rfl; (first | (apply ev_load_ptr_one; rfl; (focus ((repeat (first | exact Take.head | apply Take.tail | apply Take.right)); done)); exact (by first | rfl | assumption | exact get_map (by assumption)); rfl) | (apply ev_fieldAddr_ptr; rfl) | (apply ev_neip; rfl; rfl) | (apply ev_andI; rfl; rfl)); rfl) | apply aw_seq | apply a_region | apply aw_skip | apply aw_ret | (apply aw_condp; rfl; all_goals (intro hc; try (exfalso; first | omega | contradiction | (simp at hc; omega) | (simp_all; done)))) | (apply aw_cond_f; rfl) | apply go_seq)
  all_goals (refine g_ret1 (r_tmp rfl) .nil ?_; simp_all [payload]; try omega)

def sameF (f g : Frame) : Bool := decide (f.ty = g.ty ∧ f.flags = g.flags ∧ f.stream = g.stream ∧ f.data = g.data ∧ f.pad = g.pad ∧ f.dep = g.dep ∧ f.excl = g.excl ∧ f.weight = g.weight ∧ f.code = g.code ∧ f.last = g.last ∧ f.ps = g.ps)
theorem take_step {α : Type} {l m : List α} {k : Nat} {x : α} (h : l.take k = m.take k) (h1 : l[k]? = some x) (h2 : m[k]? = some x) : l.take (k + 1) = m.take (k + 1) := by
  rw [List.take_add_one, List.take_add_one, h, h1, h2]
theorem take_ne {α : Type} {l m : List α} {k : Nat} {x y : α} (h : l = m) (h1 : l[k]? = some x) (h2 : m[k]? = some y) : x = y := by
  subst h; rw [h1] at h2; exact Option.some.inj h2
theorem eqVs_p (p q : Param) : eqVs [.int .i64 p.1, .int .i64 p.2] [.int .i64 q.1, .int .i64 q.2] = decide (p = q) := by
  cases p; cases q
  simp only [eqVs, eqV, Bool.and_true, Prod.mk.injEq]
  rw [Bool.eq_iff_iff]; simp

theorem same_ok (f g : Frame) (hn : f.ps.length < 9223372036854775807) : PFn Try.prog 14 [.agg (encF f), .agg (encF g)] (vb (sameF f g)) := by
  refine fn_of Try.func14 rfl Try.ntmps14 Try.results14 rfl fun G => ?_
  repeat' (first | apply ar_nil | (apply ar_splitp; (apply ev_move; rfl); rfl; all_goals (intro hc; try (exfalso; first | omega | contradiction | (simp at hc; omega) | (simp_all; done)))) | (apply ar_ev; (apply ev_move (y := .val (.bool true)); rfl); rfl) | (apply ar_split; (apply ev_move; rfl); rfl; all_goals (intro hc; try (exfalso; first | omega | contradiction | (simp at hc; omega) | (simp_all; done)))) | (apply ar_ev; (first | (apply ev_load_ptr_one; rfl; (focus ((repeat (first | exact Take.head | apply Take.tail | apply Take.right)); done)); exact (by first | rfl | assumption | exact get_map (by assumption)); rfl) | (apply ev_fieldAddr_ptr; rfl) | (apply ev_assign; rfl) | (apply ev_pick_t; rfl; rfl) | (apply ev_pick_f; rfl; rfl) | (apply ev_neip; rfl; rfl)); rfl) | (apply ar_new; (first | apply eff_alloc | (apply eff_box; rfl; exact lies_of rfl)); exact .nil; rfl; intro lab) | (apply ar_skip; rfl; rfl; rfl; rfl; rfl) | (apply ar_take; rfl; rfl; rfl; (first | (apply ev_load_ptr_one; rfl; (focus ((repeat (first | exact Take.head | apply Take.tail | apply Take.right)); done)); exact (by first | rfl | assumption | exact get_map (by assumption)); rfl) | (apply ev_fieldAddr_ptr; rfl) | (apply ev_neip; rfl; rfl) | (apply ev_nesp; rfl; rfl) | (apply ev_neb; rfl; rfl) | (apply ev_len_sl; rfl)); rfl) | apply aw_seq | apply a_region | apply aw_block | apply aw_skip | apply aw_ret | (apply aw_condp; rfl; all_goals (intro hc; try (exfalso; first | omega | contradiction | (simp at hc; omega) | (simp_all; done)))) | (apply aw_cond_t; rfl) | apply go_seq | apply go_seq_ret)
  all_goals first
    | (refine g_ret1 (r_tmp rfl) .nil ?_; refine congrArg vb (decide_eq_false ?_).symm; intro h; simp_all; done)
    | skip
  rename_i la h1 h2 h3 h4 h5 h6 h7 h8 h9 h10
  have hlen : f.ps.length = g.ps.length := by omega
  refine a_loop (fun k : Nat => ⟨[(2, .ptr la 0 0), (3, .ptr lab 0 0), (5, vi k)], [(la, .row 30 11 [encF f]), (lab, .row 30 11 [encF g])]⟩) (fun k => k ≤ f.ps.length ∧ f.ps.take k = g.ps.take k) (fun k => f.ps.length - k) 0 (Sub.of (by repeat (first | exact .nil | refine .cons rfl Le.refl ?_)) (by repeat (first | exact Takes.nil | (apply Takes.cons; focus (repeat (first | exact Take.head | apply Take.tail | apply Take.right)))))) ⟨by omega, by simp⟩ ?_
  rintro k ⟨hk, htk⟩
  repeat' (first | apply ar_nil | (apply ar_ev; (apply ev_move; rfl); rfl) | (apply ar_ev; (first | (apply ev_load_ptr_one; rfl; (focus ((repeat (first | exact Take.head | apply Take.tail | apply Take.right)); done)); exact (by first | rfl | assumption | exact get_map (by assumption)); rfl) | (apply ev_fieldAddr_ptr; rfl) | (apply ev_lss; rfl; rfl) | (apply ev_len_sl; rfl)); rfl) | apply aw_seq | apply a_region | apply go_seq)
  refine aw_condp rfl (fun hc => ?_) (fun hc => ?_)
  · have hlt : k < f.ps.length := by omega
    obtain ⟨p, hp⟩ : ∃ p, f.ps[k]? = some p := ⟨_, List.getElem?_eq_getElem hlt⟩
    obtain ⟨q, hq⟩ : ∃ q, g.ps[k]? = some q := ⟨_, List.getElem?_eq_getElem (by omega)⟩
    repeat' (first | apply ar_nil | (apply ar_ev; (apply ev_move; rfl); rfl) | (apply ar_ev; (first | (apply ev_load_ptr_one; rfl; (focus ((repeat (first | exact Take.head | apply Take.tail | apply Take.right)); done)); exact (by first | rfl | assumption | exact get_map (by assumption)); rfl) | (apply ev_fieldAddr_ptr; rfl) | (apply ev_load_ip_agg; rfl; exact Nat.le_of_ble_eq_true rfl) | (apply ev_net; rfl; rfl; rfl; rfl; rfl; rfl) | (apply ev_indexAddr_sl; rfl; rfl; exact (by first | omega | assumption); exact (by first | rfl | assumption | exact get_map (by assumption)))); rfl) | apply aw_seq | apply aw_block | apply aw_skip | apply go_seq | (first | (apply a_drawN 2; rfl; rfl) | (apply a_drawN 3; rfl; rfl) | (apply a_drawN 4; rfl; rfl) | (apply a_drawN 5; rfl; rfl) | (apply a_drawN 6; rfl; rfl) | (apply a_drawN 7; rfl; rfl) | (apply a_drawN 8; rfl; rfl) | (apply a_drawN 9; rfl; rfl) | (apply a_drawN 10; rfl; rfl) | (apply a_drawN 11; rfl; rfl) | (apply a_drawN 12; rfl; rfl) | (apply a_drawN 13; rfl; rfl) | (apply a_drawN 14; rfl; rfl) | (apply a_drawN 15; rfl; rfl) | (apply a_drawN 16; rfl; rfl) | (apply a_drawN 17; rfl; rfl) | (apply a_drawN 18; rfl; rfl) | (apply a_drawN 19; rfl; rfl) | (apply a_drawN 20; rfl; rfl) | (apply a_drawN 21; rfl; rfl) | (apply a_drawN 22; rfl; rfl) | (apply a_drawN 23; rfl; rfl) | (apply a_drawN 24; rfl; rfl) | (apply a_drawN 25; rfl; rfl) | (apply a_drawN 26; rfl; rfl) | (apply a_drawN 27; rfl; rfl) | (apply a_drawN 28; rfl; rfl) | (apply a_drawN 29; rfl; rfl) | (apply a_drawN 30; rfl; rfl) | (apply a_drawN 31; rfl; rfl) | (apply a_drawN 32; rfl; rfl) | (apply a_drawN 33; rfl; rfl) | (apply a_drawN 34; rfl; rfl) | (apply a_drawN 35; rfl; rfl) | (apply a_drawN 36; rfl; rfl) | (apply a_drawN 37; rfl; rfl) | (apply a_drawN 38; rfl; rfl) | (apply a_drawN 39; rfl; rfl) | (apply a_drawN 40; rfl; rfl) | (apply a_drawN 41; rfl; rfl) | (apply a_drawN 42; rfl; rfl) | (apply a_drawN 43; rfl; rfl) | (apply a_drawN 44; rfl; rfl) | (apply a_drawN 45; rfl; rfl)))
    rw [eqVs_p]
    refine aw_condb rfl (fun hc => ?_) (fun hc => ?_)
    · repeat' (first | apply ar_nil | (apply ar_ev; (apply ev_assign; rfl); rfl) | apply aw_seq | apply a_region | apply aw_ret | apply go_seq | apply go_seq_ret | apply go_block_ret | apply go_loop_ret)
      refine g_ret1 (r_tmp rfl) .nil ?_
      refine congrArg vb (decide_eq_false ?_).symm
      intro h
      have := take_ne h.2.2.2.2.2.2.2.2.2.2 hp hq
      simp_all
    · repeat' (first | apply ar_nil | (apply ar_ev; (apply ev_move; rfl); rfl) | (apply ar_ev; (first | (apply ev_assign; rfl) | (apply ev_inc; rfl; exact (by first | omega | assumption))); rfl) | apply a_region | apply aw_skip | apply go_seq | apply go_block)
      refine go_loop_back ⟨k + 1, ⟨by omega, take_step htk hp ?_⟩, by omega, Sub.of (by repeat (first | exact .nil | refine .cons rfl Le.refl ?_)) (by repeat (first | exact Takes.nil | (apply Takes.cons; focus (repeat (first | exact Take.head | apply Take.tail | apply Take.right)))))⟩
      have : p = q := by simpa using hc
      rw [this]; exact hq
  · repeat' (first | apply ar_nil | (apply ar_ev; (apply ev_assign; rfl); rfl) | apply aw_seq | apply a_region | apply aw_exit | apply aw_ret | apply go_seq | apply go_seq_exit | apply go_block_exit | apply go_loop_exit)
    refine g_ret1 (r_tmp rfl) .nil ?_
    refine congrArg vb (decide_eq_true ?_).symm
    have : f.ps = g.ps := by
      rw [List.take_of_length_le (by omega), List.take_of_length_le (by omega)] at htk
      exact htk
    simp_all
end Go.Proofs.Ytinojkkjcignhaa
