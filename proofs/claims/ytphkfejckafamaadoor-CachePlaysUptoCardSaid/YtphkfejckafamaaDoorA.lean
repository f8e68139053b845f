import Derived.Test.YtphkfejckafamaaDoorTy
set_option linter.unusedVariables false
set_option linter.unusedSimpArgs false
set_option maxRecDepth 100000
namespace Go.Proofs.YtphkfejckafamaaDoor
open Go.Proofs Go.Proofs.YtphkfejckafamaaDoorA

abbrev vi (n : Int) : AV := .val (.int .i64 n)
abbrev vb (b : Bool) : AV := .val (.bool b)
abbrev vs (s : ByteArray) : AV := .val (.string s)
abbrev v8 (c : UInt8) : AV := .val (.int .u8 c.toNat)
abbrev encS (s : ByteArray) : List AV := [vs s]
abbrev ssl (l : List ByteArray) : AV := .sl 1 (l.map encS) l.length
abbrev es : ByteArray := ⟨#[]⟩
def low (s : ByteArray) : ByteArray := BA ((bl s).map lowB)

theorem u8_at {l : List UInt8} {i : Nat} {c : UInt8} (h : l[i]? = some c) : (u8cells l)[i]? = some [v8 c] := by simp [u8cells, h]
theorem u8_set {l : List UInt8} {i : Nat} (c : UInt8) : (u8cells l).set i [v8 c] = u8cells (l.set i c) := by simp [u8cells, List.map_set]
theorem u8_len (l : List UInt8) : (u8cells l).length = l.length := by simp [u8cells]
theorem u8_append (l m : List UInt8) : u8cells (l ++ m) = u8cells l ++ u8cells m := by simp [u8cells]
def lowTo (l : List UInt8) (i : Nat) : List UInt8 := (l.take i).map lowB ++ l.drop i
theorem lowTo_at {l : List UInt8} {i : Nat} {c : UInt8} (h : l[i]? = some c) : (lowTo l i)[i]? = some c := by
  have hi := (List.getElem?_eq_some_iff.1 h).1
  unfold lowTo
  rw [List.getElem?_append_right (by simp; omega)]
  simp [List.getElem?_drop, Nat.min_eq_left (Nat.le_of_lt hi), h]
theorem lowTo_succ {l : List UInt8} {i : Nat} {c : UInt8} (h : l[i]? = some c) : (lowTo l i).set i (lowB c) = lowTo l (i + 1) := by
  have hi := (List.getElem?_eq_some_iff.1 h).1
  have hd : l.drop i = c :: l.drop (i + 1) := by rw [List.drop_eq_getElem_cons hi]; congr 1; have := (List.getElem?_eq_some_iff.1 h).2; exact this
  unfold lowTo
  rw [List.set_append_right _ _ (by simp; omega), hd, List.take_add_one, h]
  simp [Nat.min_eq_left (Nat.le_of_lt hi)]
theorem lowTo_same {l : List UInt8} {i : Nat} {c : UInt8} (h : l[i]? = some c) (hc : lowB c = c) : lowTo l i = lowTo l (i + 1) := by
  rw [← lowTo_succ h, hc]
  obtain ⟨hi, he⟩ := List.getElem?_eq_some_iff.1 (lowTo_at h)
  rw [← he, List.set_getElem_self]
theorem lowTo_len (l : List UInt8) (i : Nat) : (lowTo l i).length = l.length := by simp [lowTo]; omega
theorem lowTo_all (l : List UInt8) : lowTo l l.length = l.map lowB := by simp [lowTo]
theorem wrap8 (n : Int) : IntKind.u8.wrap n = n % 256 := by simp [IntKind.wrap, IntKind.signed, IntKind.bits]
theorem up_wrap (c : UInt8) (h : 65 ≤ c.toNat ∧ c.toNat ≤ 90) : IntKind.u8.wrap (IntKind.u8.wrap ((c.toNat : Int) + 97) - 65) = ((lowB c).toNat : Int) := by
  rw [lowB, if_pos h, low_toNat c h, wrap8, wrap8]
  omega

theorem small_ok (s : ByteArray) (hn : s.size ≤ 1099511627776) : PFn Tryd.prog 43 [vs s] (vs (low s)) := by
  refine fn_of Tryd.func43 rfl Tryd.ntmps43 Tryd.results43 rfl fun G => ?_
  repeat' (first | apply ar_nil | (apply ar_ev; (apply ev_move; rfl); rfl) | (apply ar_ev; (first | (apply ev_assign; rfl) | (apply ev_len_own; rfl)); rfl) | (apply ar_new; (first | apply eff_alloc | (apply eff_box; rfl; exact lies_of rfl) | (apply eff_conv_bytes; rfl; exact (by first | omega | assumption | (simp; done) | (simp; omega) | exact Nat.le_of_ble_eq_true rfl))); exact .nil; rfl; intro lab) | apply aw_seq | apply a_region | apply aw_block | apply go_seq)
  have hl := bl_length s
  have h0 : u8cells s.data.toList = u8cells (lowTo (bl s) 0) := rfl
  refine a_loop (fun i : Nat => ⟨[(3, .own lab 0 s.size), (8, .own lab 0 s.size), (9, vi s.size), (10, vi i)], [(lab, .row 5 1 (u8cells (lowTo (bl s) i)))]⟩) (fun i => i ≤ s.size) (fun i => s.size - i) 0 (Sub.of (by repeat (first | exact .nil | refine .cons rfl Le.refl ?_)) (by repeat (first | exact Takes.nil | (apply Takes.cons; focus (repeat (first | exact Take.head | exact Take.rowc h0 Take.head | apply Take.tail | apply Take.right)))))) (Nat.zero_le _) ?_
  rintro i hi
  repeat' (first | apply ar_nil | (apply ar_ev; (apply ev_lss; rfl; rfl); rfl) | apply aw_seq | apply a_region | apply go_seq)
  refine aw_condp rfl (fun hk => ?_) (fun hk => ?_)
  · obtain ⟨c, hce⟩ : ∃ c, (bl s)[i]? = some c := ⟨_, List.getElem?_eq_getElem (by omega)⟩
    have hat := u8_at (lowTo_at hce)
    repeat' (first | apply ar_nil | (apply ar_splitp; (apply ev_move; rfl); rfl; all_goals (intro hc; try (exfalso; first | omega | contradiction | (simp at hc; omega) | (simp_all; done)))) | (apply ar_ev; (apply ev_move; rfl); rfl) | (apply ar_ev; (first | (apply ev_load_ptr_one; rfl; (focus ((repeat (first | exact Take.head | apply Take.tail | apply Take.right)); done)); exact (by first | rfl | assumption | exact get_map (by assumption)); rfl) | (apply ev_assign; rfl) | (apply ev_pick_t; rfl; rfl) | (apply ev_pick_f; rfl; rfl) | (apply ev_geq; rfl; rfl) | (apply ev_inc; rfl; exact (by first | omega | assumption)) | (apply ev_indexAddr_own0; rfl; rfl; exact (by first | omega | assumption); (focus ((repeat (first | exact Take.head | apply Take.tail | apply Take.right)); done))) | (apply ev_addw; rfl; rfl) | (apply ev_subw; rfl; rfl)); rfl) | (apply ar_store1; rfl; (focus ((repeat (first | exact Take.head | apply Take.tail | apply Take.right)); done)); rfl; rfl; exact (by first | rfl | assumption | exact get_map (by assumption)); rfl) | (apply ar_skip; rfl; rfl; rfl; rfl; rfl) | (apply ar_take; rfl; rfl; rfl; (apply ev_move; rfl); rfl) | (apply ar_take; rfl; rfl; rfl; (apply ev_leq; rfl; rfl); rfl) | apply aw_seq | apply a_region | apply aw_block | apply aw_skip | (apply aw_condp; rfl; all_goals (intro hc; try (exfalso; first | omega | contradiction | (simp at hc; omega) | (simp_all; done)))) | (apply aw_cond_f; rfl) | apply go_seq | apply go_block)
    · rename_i h1
      have hu := up_wrap c ⟨by omega, by omega⟩
      have hrow : (u8cells (lowTo (bl s) i)).set i [.val (.int .u8 (IntKind.u8.wrap (IntKind.u8.wrap ((c.toNat : Int) + 97) - 65)))] = u8cells (lowTo (bl s) (i + 1)) := by
        rw [hu, u8_set, lowTo_succ hce]
      exact go_loop_back ⟨i + 1, by omega, by omega, Sub.of (by repeat (first | exact .nil | refine .cons rfl Le.refl ?_)) (by repeat (first | exact Takes.nil | (apply Takes.cons; focus (repeat (first | exact Take.head | exact Take.rowc hrow Take.head | apply Take.tail | apply Take.right)))))⟩
    all_goals
      have hs : lowB c = c := by unfold lowB; rw [if_neg (by omega)]
      rw [lowTo_same hce hs]
      exact go_loop_back ⟨i + 1, by omega, by omega, Sub.of (by repeat (first | exact .nil | refine .cons rfl Le.refl ?_)) (by repeat (first | exact Takes.nil | (apply Takes.cons; focus (repeat (first | exact Take.head | apply Take.tail | apply Take.right)))))⟩
  · obtain rfl : i = s.size := by omega
    have e : u8cells (lowTo (bl s) s.size) = u8cells ((bl s).map lowB) := by rw [← hl, lowTo_all]
    have hlm : ((bl s).map lowB).length = s.size := by rw [List.length_map, hl]
    rw [e, ← hlm]
    repeat' (first | apply ar_nil | (apply ar_ev; (apply ev_move; rfl); rfl) | (apply ar_ev; (first | (apply ev_assign; rfl) | (apply ev_conv_own; rfl; (focus ((repeat (first | exact Take.head | apply Take.tail | apply Take.right)); done)))); rfl) | apply aw_seq | apply a_region | apply aw_exit | apply aw_ret | apply go_seq | apply go_seq_exit | apply go_block_exit | apply go_loop_exit)
    exact g_ret1 (r_tmp rfl) .nil rfl
end Go.Proofs.YtphkfejckafamaaDoor
