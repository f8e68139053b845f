import Derived.Test.YtmenbolalghljaaB
set_option linter.unusedVariables false
set_option linter.unusedSimpArgs false
set_option maxRecDepth 100000
namespace Go.Proofs.Ytmenbolalghljaa
open Go.Proofs Go.Proofs.YtmenbolalghljaaA

def stepN (nm : ByteArray) (n : Nat) (x : En × Nat) : Nat := if x.1.1 = nm ∧ n = 0 then x.2 else n
def hitB (nm vl : ByteArray) (x : En × Nat) : Bool := decide (x.1.1 = nm ∧ x.1.2 = vl)
def findN (l : List En) (nm vl : ByteArray) : Nat × Bool :=
  match (allX l).find? (hitB nm vl) with
  | some x => (x.2, true)
  | none => ((allX l).foldl (stepN nm) 0, false)
theorem find_hit {l ini rest : List (En × Nat)} {x : En × Nat} {p : En × Nat → Bool} (hl : l = ini ++ [x] ++ rest) (h1 : ∀ y, y ∈ ini → p y = false) (h2 : p x = true) : l.find? p = some x := by
  subst hl
  rw [List.append_assoc, List.find?_append, List.find?_eq_none.2 (fun y hy => by rw [h1 y hy]; decide)]
  simp [h2]
theorem no_snoc {nm vl : ByteArray} {pre : List (En × Nat)} {x : En × Nat} (h : ∀ y, y ∈ pre → hitB nm vl y = false) (hx : hitB nm vl x = false) : ∀ y, y ∈ pre ++ [x] → hitB nm vl y = false := fun y hy => by
  rcases List.mem_append.1 hy with hy | hy
  · exact h y hy
  · rw [List.mem_singleton.1 hy]; exact hx
set_option maxHeartbeats 8000000 in
theorem Find_ok (mx sz : Int) (l : List En) (hn : l.length ≤ 1099511627776) (nm vl : ByteArray) : PFn Try.prog 23 [tabI mx sz l, vs nm, vs vl] (.tup [vi (findN l nm vl).1, vb (findN l nm vl).2]) := by
  refine fn_rf Try.func23 rfl Try.ntmps23 Try.results23 rfl fun G => ?_
  repeat' ((fail_if_success (show AW _ (.region 2 _ _) _ _)); (first | apply ar_nil | (apply ar_new; (first | apply eff_alloc | (apply eff_box; rfl; exact lies_of rfl) | (apply eff_conv_bytes; rfl; exact (by first | omega | assumption | (simp; done) | (simp; omega) | exact Nat.le_of_ble_eq_true rfl))); exact .nil; rfl; intro lab) | (apply ar_store1; rfl; (focus ((repeat (first | exact Take.head | apply Take.tail | apply Take.right)); done)); rfl; rfl; exact (by first | rfl | assumption | exact get_map (by assumption)); rfl) | apply a_region | apply go_seq))
  rename_i l4 l5 l6 l7
  refine aw_cv 4 (us := [(l4, .row 9 1 [[vs nm]])]) (y := .ip [vs nm]) rfl (by repeat (first | exact Takes.nil | (apply Takes.cons; focus (repeat (first | exact Take.head | apply Take.tail | apply Take.right))))) (Cv.ptr0 .head rfl) ?_
  refine aw_cv 5 (us := [(l5, .row 9 1 [[vs vl]])]) (y := .ip [vs vl]) rfl (by repeat (first | exact Takes.nil | (apply Takes.cons; focus (repeat (first | exact Take.head | apply Take.tail | apply Take.right))))) (Cv.ptr0 .head rfl) ?_
  repeat' (first | apply ar_nil | (apply ar_ev; (apply ev_move; rfl); rfl) | (apply ar_ev; (apply ev_makeBound; rfl); rfl) | apply a_region)
  generalize lab = l8 at *
  refine go_nil ⟨rfl, ⟨{
    α := En × Nat
    sl := [(4, .ip [vs nm]), (5, .ip [vs vl]), (6, .ptr l6 0 0), (7, .ptr l7 0 0), (8, .ptr l8 0 0), (12, .bm 39 [tabI mx sz l])]
    us := [(l6, .row 3 1 [[vi 0]]), (l7, .row 4 1 [[vb false]]), (l8, .row 3 1 [[vi 0]])]
    gf := 39
    bs := [tabI mx sz l]
    e1 := fun x => vi x.2
    e2 := fun x => .agg (encT x.1)
    N := 61 + l.length
    S := fun xs => xs = allX l
    Sp := fun pre => ∃ k, k ≤ 61 + l.length ∧ pre = (allX l).take k
    I := fun pre ts => (∀ x, x ∈ pre → hitB nm vl x = false) ∧ ts = [(l6, .row 3 1 [[vi 0]]), (l7, .row 4 1 [[vb false]]), (l8, .row 3 1 [[vi (pre.foldl (stepN nm) 0 : Nat)]])]
    X := fun pre ts => ∃ ini x, pre = ini ++ [x] ∧ (∀ y, y ∈ ini → hitB nm vl y = false) ∧ hitB nm vl x = true ∧ ∃ n : Int, ts = [(l6, .row 3 1 [[vi x.2]]), (l7, .row 4 1 [[vb true]]), (l8, .row 3 1 [[vi n]])]
    ent := Try.ent39
    sub := Sub.of (by repeat (first | exact .nil | refine .cons rfl Le.refl ?_)) (by repeat (first | exact Takes.nil | (apply Takes.cons; focus (repeat (first | exact Take.head | apply Take.tail | apply Take.right)))))
    get := rfl
    h0 := ⟨fun x hx => (nomatch hx), rfl⟩
    hp1 := by decide
    hp2 := by decide
    hne := by decide
    hit := fun B lo J Jx hY ts hJ => all_ok mx sz l hn B lo J Jx hY ts hJ
    hround := ?hround
    hdone := ?hdone
    hstop := ?hstop }⟩⟩
  case hround =>
    rintro lo G' pre x _ ⟨hpre, rfl⟩ hlen rt
    show AW G' _ ⟨_, (l6, .row 3 1 [[vi 0]]) :: (l7, .row 4 1 [[vb false]]) :: (l8, .row 3 1 [[vi (pre.foldl (stepN nm) 0 : Nat)]]) :: rt⟩ _
    repeat' (first | apply ar_nil | (apply ar_ev; (apply ev_assign; rfl); rfl) | (apply ar_new; (first | apply eff_alloc | (apply eff_box; rfl; exact lies_of rfl) | (apply eff_conv_bytes; rfl; exact (by first | omega | assumption | (simp; done) | (simp; omega) | exact Nat.le_of_ble_eq_true rfl))); exact .nil; rfl; intro lab) | (apply ar_store; rfl; (focus ((repeat (first | exact Take.head | apply Take.tail | apply Take.right)); done)); rfl; rfl; exact (by first | rfl | assumption | exact get_map (by assumption)); rfl; rfl) | apply aw_seq | apply a_region | apply go_seq)
    refine go_nil ⟨rfl, [(4, .ip [vs nm]), (5, .ip [vs vl]), (6, .ptr l6 0 0), (7, .ptr l7 0 0), (8, .ptr l8 0 0), (9, vi x.2), (10, .ptr lab 0 0)], [(lab, .row 66 2 [encT x.1]), (l6, .row 3 1 [[vi 0]]), (l7, .row 4 1 [[vb false]]), (l8, .row 3 1 [[vi (pre.foldl (stepN nm) 0 : Nat)]])], Sub.of (by repeat (first | exact .nil | refine .cons rfl Le.refl ?_)) (by repeat (first | exact Takes.nil | exact takes_blk | exact takes_all | (apply takes_app; focus (repeat (first | exact takes_blk | exact takes_all | apply takes_right | apply takes_skip))) | (apply takes_cons; focus (repeat (first | exact Take.head | apply Take.tail | apply Take.right))) | apply takes_right | apply takes_skip)), fun rt' => ?_⟩
    show AW G' _ ⟨_, (lab, .row 66 2 [encT x.1]) :: (l6, .row 3 1 [[vi 0]]) :: (l7, .row 4 1 [[vb false]]) :: (l8, .row 3 1 [[vi (pre.foldl (stepN nm) 0 : Nat)]]) :: rt'⟩ _
    generalize hac : pre.foldl (stepN nm) 0 = ac at *
    repeat' (first | apply ar_nil | (apply ar_ev; (apply ev_move; rfl); rfl) | (apply ar_ev; (first | (apply ev_load_ptr_one; rfl; (focus ((repeat (first | exact Take.head | apply Take.tail | apply Take.right)); done)); exact (by first | rfl | assumption | exact get_map (by assumption)); rfl) | (apply ev_load_ip_one; rfl; rfl) | (apply ev_fieldAddr_ptr; rfl) | (apply ev_assign; rfl) | (apply ev_eqip; rfl; rfl) | (apply ev_eqsp; rfl; rfl) | (apply ev_nesp; rfl; rfl)); rfl) | (apply ar_store1; rfl; (focus ((repeat (first | exact Take.head | apply Take.tail | apply Take.right)); done)); rfl; rfl; exact (by first | rfl | assumption | exact get_map (by assumption)); rfl) | apply aw_seq | apply a_region | apply aw_block | apply aw_skip | apply aw_ret | (apply aw_condp; rfl; all_goals (intro hc; try (exfalso; first | omega | contradiction | (simp at hc; omega) | (simp_all; done)))) | apply go_seq | apply go_block | apply go_block_ret)
    · have hst : (pre ++ [x]).foldl (stepN nm) 0 = ac := by rw [List.foldl_append, hac]; exact if_neg (fun h => hc h.1)
      exact go_nil (.inl ⟨rfl, _, ⟨no_snoc hpre (decide_eq_false fun h => hc h.1), rfl⟩, by rw [hst]; simp only [List.cons_append, List.nil_append]; exact Sub.of (by repeat (first | exact .nil | refine .cons rfl Le.refl ?_)) (by repeat (first | exact Takes.nil | exact takes_blk | exact takes_all | (apply takes_app; focus (repeat (first | exact takes_blk | exact takes_all | apply takes_right | apply takes_skip))) | (apply takes_cons; focus (repeat (first | exact Take.head | apply Take.tail | apply Take.right))) | apply takes_right | apply takes_skip))⟩)
    · rename_i hc1
      exact go_nil (.inr ⟨rfl, _, ⟨pre, x, rfl, hpre, decide_eq_true ⟨Decidable.not_not.1 hc1, hc⟩, (ac : Int), rfl⟩, by simp only [List.cons_append, List.nil_append]; exact Sub.of (by repeat (first | exact .nil | refine .cons rfl Le.refl ?_)) (by repeat (first | exact Takes.nil | exact takes_blk | exact takes_all | (apply takes_app; focus (repeat (first | exact takes_blk | exact takes_all | apply takes_right | apply takes_skip))) | (apply takes_cons; focus (repeat (first | exact Take.head | apply Take.tail | apply Take.right))) | apply takes_right | apply takes_skip))⟩)
    · rename_i hc1 hc2
      have hst : (pre ++ [x]).foldl (stepN nm) 0 = x.2 := by rw [List.foldl_append, hac]; exact if_pos ⟨Decidable.not_not.1 hc1, by omega⟩
      exact go_nil (.inl ⟨rfl, _, ⟨no_snoc hpre (decide_eq_false fun h => hc2 h.2), rfl⟩, by rw [hst]; simp only [List.cons_append, List.nil_append]; exact Sub.of (by repeat (first | exact .nil | refine .cons rfl Le.refl ?_)) (by repeat (first | exact Takes.nil | exact takes_blk | exact takes_all | (apply takes_app; focus (repeat (first | exact takes_blk | exact takes_all | apply takes_right | apply takes_skip))) | (apply takes_cons; focus (repeat (first | exact Take.head | apply Take.tail | apply Take.right))) | apply takes_right | apply takes_skip))⟩)
    · rename_i hc1 hc2
      have hst : (pre ++ [x]).foldl (stepN nm) 0 = ac := by rw [List.foldl_append, hac]; exact if_neg (fun h => hc (by have := h.2; omega))
      exact go_nil (.inl ⟨rfl, _, ⟨no_snoc hpre (decide_eq_false fun h => hc2 h.2), rfl⟩, by rw [hst]; simp only [List.cons_append, List.nil_append]; exact Sub.of (by repeat (first | exact .nil | refine .cons rfl Le.refl ?_)) (by repeat (first | exact Takes.nil | exact takes_blk | exact takes_all | (apply takes_app; focus (repeat (first | exact takes_blk | exact takes_all | apply takes_right | apply takes_skip))) | (apply takes_cons; focus (repeat (first | exact Take.head | apply Take.tail | apply Take.right))) | apply takes_right | apply takes_skip))⟩)
  case hdone =>
    rintro G2 xs _ rt rfl ⟨hno, rfl⟩
    show AW G2 _ ⟨_, (l6, .row 3 1 [[vi 0]]) :: (l7, .row 4 1 [[vb false]]) :: (l8, .row 3 1 [[vi ((allX l).foldl (stepN nm) 0 : Nat)]]) :: rt⟩ _
    have hf : findN l nm vl = ((allX l).foldl (stepN nm) 0, false) := by
      unfold findN
      rw [List.find?_eq_none.2 (fun y hy => by rw [hno y hy]; decide)]
    rw [hf]
    repeat' (first | apply ar_nil | (apply ar_ev; (apply ev_load_ptr_one; rfl; (focus ((repeat (first | exact Take.head | apply Take.tail | apply Take.right)); done)); exact (by first | rfl | assumption | exact get_map (by assumption)); rfl); rfl) | (apply ar_store1; rfl; (focus ((repeat (first | exact Take.head | apply Take.tail | apply Take.right)); done)); rfl; rfl; exact (by first | rfl | assumption | exact get_map (by assumption)); rfl) | apply aw_seq | apply a_region | apply aw_ret | apply go_seq)
    refine go_nil ⟨.inr rfl, [(6, .ptr l6 0 0), (7, .ptr l7 0 0)], [(l6, .row 3 1 [[vi ((allX l).foldl (stepN nm) 0 : Nat)]]), (l7, .row 4 1 [[vb false]]), (l8, .row 3 1 [[vi ((allX l).foldl (stepN nm) 0 : Nat)]])], by simp only [List.cons_append, List.nil_append]; exact Sub.of (by repeat (first | exact .nil | refine .cons rfl Le.refl ?_)) (by repeat (first | exact Takes.nil | exact takes_blk | exact takes_all | (apply takes_app; focus (repeat (first | exact takes_blk | exact takes_all | apply takes_right | apply takes_skip))) | (apply takes_cons; focus (repeat (first | exact Take.head | apply Take.tail | apply Take.right))) | apply takes_right | apply takes_skip)), ?_⟩
    exact ret2 (res_cell1 rfl .head rfl rfl) (res_cell1 rfl (.tail .head) rfl rfl) .nil rfl
  case hstop =>
    rintro pre _ ⟨k, hk, hpk⟩ ⟨ini, x, rfl, h1, h2, n, rfl⟩
    have hf : findN l nm vl = (x.2, true) := by
      unfold findN
      rw [find_hit (ini := ini) (rest := (allX l).drop k) (x := x) (by rw [hpk, List.take_append_drop]) h1 h2]
    rw [hf]
    exact ret2 (res_cell1 rfl .head rfl rfl) (res_cell1 rfl (.tail .head) rfl rfl) .nil rfl
end Go.Proofs.Ytmenbolalghljaa
