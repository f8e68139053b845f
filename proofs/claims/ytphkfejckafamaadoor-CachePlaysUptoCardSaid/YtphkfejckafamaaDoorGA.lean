import Derived.Test.YtphkfejckafamaaDoorFA
set_option linter.unusedVariables false
set_option linter.unusedSimpArgs false
set_option maxRecDepth 100000
namespace Go.Proofs.YtphkfejckafamaaDoor
open Go.Proofs Go.Proofs.YtphkfejckafamaaDoorA

theorem cv_gone {ts r : List (Nat × Tok)} {lg n : Nat} {L : List Int} (h : Take ts lg (.row 2 1 (L.map fun s => [vi s])) r) (hn : n = L.length) : Cv ts (.own lg 0 n) (isl L) := by
  subst hn; exact Cv.own0 h (by simp)
set_option maxHeartbeats 16000000 in
theorem stored_ok {B : Base} (hB : MarkF B) (lc le lm ll : Nat) (c : Cf) (l : List En) (k : Int) (o : Op) (h : OkC c l k) (hs : SrtA l) (ho : OkO o) :
    FnB B Tryd.prog 56 (ctok lc le c l (sumZ l) k ++ rtok lm ll c l k) [.ptr lc 0 0, .ptr lm 0 0, .agg (encO o)] (fun ts v => ∃ le' ll', ts = ctok lc le' c (keepN c (max k o.tk) o.q o.r o.st l) (sumZ (keepN c (max k o.tk) o.q o.r o.st l)) (max k o.tk) ++ rtok lm ll' c (keepN c (max k o.tk) o.q o.r o.st l) (max k o.tk) ∧ v = vb true) := by
  refine fnB_of Tryd.func56 rfl Tryd.ntmps56 Tryd.results56 rfl fun G hG => ?_
  refine aw_fact hG fun lb => ?_
  have hql := ho.q.len
  have hrl := ho.r.fs.len
  have hlq := lent_ok hB o.q.fs (by omega)
  have hlr := lent_ok hB o.r.fs (by omega)
  have hkq := kept_ok19 hB o.q.fs (by omega)
  have hkr := kept_ok19 hB o.r.fs (by omega)
  have hso := fun lq lr => storeO_ok lc le lq lr c l k o.q o.r o.st o.tk h ho.t ho.q ho.r
  have hsr := store86_ok lm ll c l k o.q o.r o.st o.tk h hs ho.t ho.q ho.r
  have hgl : goneN c (max k o.tk) o.r l = (sts (l.take (goneN c (max k o.tk) o.r l))).length := by
    have := gone_le c (max k o.tk) o.r l
    simp; omega
  have hgl2 := gone_le c (max k o.tk) o.r l
  have hce := h.e
  have hlen := h.len
  have hsi : PFn Tryd.prog 40 [isl (sts (l.take (goneN c (max k o.tk) o.r l))), isl (sts (l.take (goneN c (max k o.tk) o.r l)))] (vb true) := by
    have h9 := sameInts_ok (sts (l.take (goneN c (max k o.tk) o.r l))) (sts (l.take (goneN c (max k o.tk) o.r l))) (by omega)
    rwa [decide_eq_true rfl] at h9
  have hmm : (!(mayN c o.r == mayN c o.r)) = false := by simp
  generalize keepN c (max k o.tk) o.q o.r o.st l = KP at *
  generalize goneN c (max k o.tk) o.r l = GN at *
  generalize mayN c o.r = MY at *
  generalize sts (l.take GN) = GO at *
  generalize max k o.tk = k' at *
  repeat' ((fail_if_success (show AW _ (.region 5 _ _) _ _)); (first | (apply ar_callF hlq; rfl; rfl; exact Les.refl; exact Takes.nil; exact (by repeat (first | exact Take.head | apply Take.tail | apply Take.right)); rfl; rintro _ _ ⟨lq, rfl, rfl⟩) | (apply ar_callF hlr; rfl; rfl; exact Les.refl; exact Takes.nil; exact (by repeat (first | exact Take.head | apply Take.tail | apply Take.right)); rfl; rintro _ _ ⟨lr, rfl, rfl⟩) | apply ar_nil | (apply ar_ev; (first | (apply ev_load_ptr_one; rfl; (focus ((repeat (first | exact Take.head | apply Take.tail | apply Take.right)); done)); exact (by first | rfl | assumption | exact get_map (by assumption)); rfl) | (apply ev_fieldAddr_ptr; rfl) | (apply ev_assign; rfl) | (apply ev_load_ptr_agg; rfl; (focus ((repeat (first | exact Take.head | apply Take.tail | apply Take.right)); done)); exact (by first | rfl | assumption | exact get_map (by assumption)); exact Nat.le_of_ble_eq_true rfl)); rfl) | (apply ar_new; (first | apply eff_alloc | (apply eff_box; rfl; exact lies_of rfl) | (apply eff_conv_bytes; rfl; exact (by first | omega | assumption | (simp; done) | (simp; omega) | exact Nat.le_of_ble_eq_true rfl))); exact .nil; rfl; intro lab) | (apply ar_store1; rfl; (focus ((repeat (first | exact Take.head | apply Take.tail | apply Take.right)); done)); rfl; rfl; exact (by first | rfl | assumption | exact get_map (by assumption)); rfl) | (apply ar_store; rfl; (focus ((repeat (first | exact Take.head | apply Take.tail | apply Take.right)); done)); rfl; rfl; exact (by first | rfl | assumption | exact get_map (by assumption)); rfl; rfl) | apply aw_seq | apply a_region | apply go_seq))
  generalize lab = l8 at *
  rename_i l5 l7
  have hso := hso lq lr
  refine AW.sub (st' := ⟨[(0, .ptr lc 0 0), (1, .ptr lm 0 0), (5, .ptr l5 0 0), (7, .ptr l7 0 0), (8, .ptr l8 0 0)], ctok lc le c l (sumZ l) k ++ rtok lm ll c l k ++ [(l5, .row 54 13 [encO o]), (l7, .row 36 6 [qO o.q lq]), (l8, .row 24 3 [rO o.r lr]), (lq, .row 33 3 (o.q.fs.map encF ++ [encF mk19])), (lr, .row 33 3 (o.r.fs.map encF ++ [encF mk19])), (lb, B.tok)]⟩) (Sub.of (by repeat (first | exact .nil | refine .cons rfl Le.refl ?_)) (by repeat (first | exact Takes.nil | (apply Takes.cons; focus (repeat (first | exact Take.head | apply Take.tail | apply Take.right)))))) ?_
  clear hlq hlr
  repeat' ((fail_if_success (show AW _ (.region 7 _ _) _ _)); (first | (apply ar_call hso; rfl; rfl; (focus ((repeat (first | exact Takes.nil | (apply Takes.cons; focus (repeat (first | exact Take.head | apply Take.tail | apply Take.right))))); done)); rfl; rintro _ _ ⟨lg, le2, rfl, rfl⟩) | (apply ar_call hsr; rfl; rfl; (focus ((repeat (first | exact Takes.nil | (apply Takes.cons; focus (repeat (first | exact Take.head | apply Take.tail | apply Take.right))))); done)); rfl; rintro _ _ ⟨ll2, lg2, rfl, rfl⟩) | apply ar_nil | (apply ar_ev; (apply ev_move; rfl); rfl) | (apply ar_ev; (first | (apply ev_load_ptr_one; rfl; (focus ((repeat (first | exact Take.head | apply Take.tail | apply Take.right)); done)); exact (by first | rfl | assumption | exact get_map (by assumption)); rfl) | (apply ev_fieldAddr_ptr; rfl) | (apply ev_assign; rfl) | (apply ev_load_ptr_agg; rfl; (focus ((repeat (first | exact Take.head | apply Take.tail | apply Take.right)); done)); exact (by first | rfl | assumption | exact get_map (by assumption)); exact Nat.le_of_ble_eq_true rfl) | (apply ev_extract; rfl; rfl)); rfl) | apply aw_seq | apply a_region | apply go_seq))
  have hov1 := over_ok lq o.q.fs.length (o.q.fs.map encF ++ [encF mk19]) (by simp) (by omega)
  have hov2 := over_ok lr o.r.fs.length (o.r.fs.map encF ++ [encF mk19]) (by simp) (by omega)
  clear hso hsr
  repeat' (first | (rw [hmm]) | (apply ar_call hov1; rfl; rfl; (focus ((repeat (first | exact Takes.nil | (apply Takes.cons; focus (repeat (first | exact Take.head | apply Take.tail | apply Take.right))))); done)); rfl; rintro _ _ ⟨rfl, rfl⟩) | (apply ar_call hov2; rfl; rfl; (focus ((repeat (first | exact Takes.nil | (apply Takes.cons; focus (repeat (first | exact Take.head | apply Take.tail | apply Take.right))))); done)); rfl; rintro _ _ ⟨rfl, rfl⟩) | apply ar_nil | (apply ar_ev; (apply ev_move (y := .val (.bool false)); rfl); rfl) | (apply ar_ev; (apply ev_move; rfl); rfl) | (apply ar_ev; (first | (apply ev_load_ptr_one; rfl; (focus ((repeat (first | exact Take.head | apply Take.tail | apply Take.right)); done)); exact (by first | rfl | assumption | exact get_map (by assumption)); rfl) | (apply ev_fieldAddr_ptr; rfl) | (apply ev_assign; rfl) | (apply ev_pick_f; rfl; rfl) | (apply ev_neb; rfl; rfl)); rfl) | (apply ar_take; rfl; rfl; rfl; (apply ev_move; rfl); rfl) | (apply ar_take; rfl; rfl; rfl; (first | (apply ev_callL hsi; rfl; rfl; exact Cvs.cons (cv_gone (by repeat (first | exact Take.head | apply Take.tail | apply Take.right)) hgl) (Cvs.cons (cv_gone (by repeat (first | exact Take.head | apply Take.tail | apply Take.right)) hgl) .nil); constructor) | (apply ev_callFL hkq (by repeat (first | exact Take.head | apply Take.tail | apply Take.right)); rfl; rfl; exact Cvs.cons (Cv.own0 (by repeat (first | exact Take.head | apply Take.tail | apply Take.right)) (by simp)) (Cvs.cons Cv.refl .nil); constructor) | (apply ev_callFL hkr (by repeat (first | exact Take.head | apply Take.tail | apply Take.right)); rfl; rfl; exact Cvs.cons (Cv.own0 (by repeat (first | exact Take.head | apply Take.tail | apply Take.right)) (by simp)) (Cvs.cons Cv.refl .nil); constructor) | (apply ev_load_ptr_one; rfl; (focus ((repeat (first | exact Take.head | apply Take.tail | apply Take.right)); done)); exact (by first | rfl | assumption | exact get_map (by assumption)); rfl) | (apply ev_fieldAddr_ptr; rfl) | (apply ev_not; rfl)); rfl) | apply aw_seq | apply a_region | apply aw_skip | apply aw_ret | (apply aw_cond_f; rfl) | apply go_seq)
  all_goals exact g_ret1 (us := ctok lc le2 c KP (sumZ KP) k' ++ rtok lm ll2 c KP k') (r_tmp rfl) ((by repeat (first | exact Takes.nil | (apply Takes.cons; focus (repeat (first | exact Take.head | apply Take.tail | apply Take.right)))))) ⟨le2, ll2, rfl, rfl⟩
end Go.Proofs.YtphkfejckafamaaDoor
