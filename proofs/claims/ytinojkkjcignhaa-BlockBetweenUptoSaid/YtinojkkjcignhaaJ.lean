import Derived.Test.YtinojkkjcignhaaI
set_option linter.unusedVariables false
set_option linter.unusedSimpArgs false
set_option maxRecDepth 100000
namespace Go.Proofs.Ytinojkkjcignhaa
open Go.Proofs Go.Proofs.YtinojkkjcignhaaA

theorem NewJ_ok : FnC Try.prog 8 [] [] (fun ts r => ∃ l, JAt l (jIdle 0 0) ts ∧ r = .ptr l 0 0) :=
  New_ok.mono fun ts r ⟨l, h1, h2⟩ => ⟨l, .inl ⟨rfl, rfl, rfl, h1⟩, h2⟩
def rIdle (c s : Int) : RS := ⟨[], c, s⟩
theorem NewR_ok : FnC Try.prog 10 [] [] (fun ts r => ∃ l, RAt l (rIdle 0 0) ts ∧ r = .ptr l 0 0) :=
  RNew_ok.mono fun ts r ⟨l, h1, h2⟩ => ⟨l, .inl ⟨rfl, h1⟩, h2⟩
theorem BusyJ_ok {l : Nat} {j : JS} {ts0 : List (Nat × Tok)} (hj : JAt l j ts0) : FnC Try.prog 15 ts0 [.ptr l 0 0] (fun ts r => ts = ts0 ∧ r = vb j.busy) := by
  rcases hj with ⟨h1, h2, h3, rfl⟩ | ⟨h1, h2, h3, h4, lb, rfl⟩
  · rw [h1]
    exact Busy_ok l false _ rfl
  · rw [h1]
    refine fn_of Try.func15 rfl Try.ntmps15 Try.results15 rfl fun G => ?_
    repeat' (first | apply ar_nil | (apply ar_ev; (apply ev_move; rfl); rfl) | (apply ar_ev; (first | (apply ev_load_ptr_one; rfl; (focus ((repeat (first | exact Take.head | apply Take.tail | apply Take.right)); done)); exact (by first | rfl | assumption | exact get_map (by assumption)); rfl) | (apply ev_fieldAddr_ptr; rfl) | (apply ev_assign; rfl) | (apply ev_nilCheck_ptr; rfl)); rfl) | apply aw_seq | apply a_region | apply aw_ret | apply go_seq)
    exact g_ret1 (r_tmp rfl) (by repeat (first | exact Takes.nil | (apply Takes.cons; focus (repeat (first | exact Take.head | apply Take.tail | apply Take.right))))) ⟨rfl, rfl⟩
theorem BusyR_ok {l : Nat} {j : RS} {ts0 : List (Nat × Tok)} (hj : RAt l j ts0) : FnC Try.prog 16 ts0 [.ptr l 0 0] (fun ts r => ts = ts0 ∧ r = vb (decide (j.frames ≠ []))) := by
  rcases hj with ⟨h1, rfl⟩ | ⟨h1, h2, h3, h4, lb, rfl⟩
  · rw [h1]
    exact RBusy0_ok l _
  · refine fn_of Try.func16 rfl Try.ntmps16 Try.results16 rfl fun G => ?_
    repeat' (first | apply ar_nil | (apply ar_ev; (apply ev_move; rfl); rfl) | (apply ar_ev; (first | (apply ev_load_ptr_one; rfl; (focus ((repeat (first | exact Take.head | apply Take.tail | apply Take.right)); done)); exact (by first | rfl | assumption | exact get_map (by assumption)); rfl) | (apply ev_fieldAddr_ptr; rfl) | (apply ev_assign; rfl) | (apply ev_nilCheck_ptr; rfl) | (apply ev_gtr; rfl; rfl) | (apply ev_len_own; rfl)); rfl) | apply aw_seq | apply a_region | apply aw_ret | apply go_seq)
    refine g_ret1 (r_tmp rfl) (by repeat (first | exact Takes.nil | (apply Takes.cons; focus (repeat (first | exact Take.head | apply Take.tail | apply Take.right))))) ⟨rfl, ?_⟩
    congr 2
    have := List.length_pos_iff.2 h1
    simp [h1]
    omega
theorem JAt_idle {l : Nat} {c s : Int} {ts : List (Nat × Tok)} (h : JAt l (jIdle c s) ts) : ts = [(l, jrow false zeroF sn pn sn c s)] := by
  rcases h with ⟨h1, h2, h3, rfl⟩ | ⟨h1, _⟩
  · rfl
  · cases h1
theorem JAt_busy {l : Nat} {h : Frame} {bs : List UInt8} {c s : Int} {ts : List (Nat × Tok)} (hj : JAt l ⟨true, h, bs, c, s⟩ ts) : ∃ lb, ts = [(l, jrow true h (psl h.ps) (.ptr l 0 12) (.own lb 0 bs.length) c s), (lb, .row 5 1 (u8cells bs))] := by
  rcases hj with ⟨h1, _⟩ | ⟨h1, h2, h3, h4, lb, rfl⟩
  · cases h1
  · exact ⟨lb, rfl⟩

/-! ### The two joiners go alike -/
def Lk (j : JS) (r : RS) : Prop :=
  j.fc = r.fc ∧ j.fs = r.fs ∧ ((j.busy = false ∧ j.head = zeroF ∧ j.bytes = [] ∧ r.frames = []) ∨
    (j.busy = true ∧ ∃ h t, r.frames = h :: t ∧ j.head = { h with data := es } ∧ j.bytes = (cat (h :: t)).data.toList))
theorem bytes_len {b : ByteArray} : b.data.toList.length = b.size := by simp
theorem lk_push {j : JS} {r : RS} (h : Lk j r) (f : Frame) : Lk (push j f).1 (rpush r f).1 ∧ (rpush r f).2 = (push j f).2 ∧ (rpush r f).1.frames.length ≤ r.frames.length + 1 := by
  obtain ⟨b, hd, bs, c, s⟩ := j
  obtain ⟨fr, c', s'⟩ := r
  obtain ⟨h1, h2, h3⟩ := h
  dsimp only at h1 h2 h3
  subst h1; subst h2
  rcases h3 with ⟨rfl, rfl, rfl, rfl⟩ | ⟨rfl, h0, t, rfl, rfl, rfl⟩
  · unfold push rpush
    dsimp only
    by_cases e : (c, s) ≠ ((0, 0) : Int × Int)
    · rw [if_pos e, if_pos e]
      exact ⟨⟨rfl, rfl, .inl ⟨rfl, rfl, rfl, rfl⟩⟩, rfl, by simp⟩
    · rw [if_neg e, if_neg e]
      by_cases e9 : f.ty = 9
      · rw [if_pos (by simp [e9]), if_pos e9]
        exact ⟨⟨rfl, rfl, .inl ⟨rfl, rfl, rfl, rfl⟩⟩, rfl, by simp⟩
      · rw [if_neg (by simp [e9]), if_neg e9]
        by_cases eh : isHead f = false
        · rw [if_pos ⟨rfl, eh⟩, if_pos eh]
          exact ⟨⟨rfl, rfl, .inl ⟨rfl, rfl, rfl, rfl⟩⟩, rfl, by simp⟩
        · rw [if_neg (by simp [eh]), if_neg eh]
          by_cases el : f.data.size > 131072
          · rw [if_pos (by simpa using el), if_pos el]
            exact ⟨⟨rfl, rfl, .inl ⟨rfl, rfl, rfl, rfl⟩⟩, rfl, by simp⟩
          · rw [if_neg (by simpa using el), if_neg el]
            by_cases ef : andI f.flags 4 = 0
            · rw [if_pos ef, if_pos ef]
              refine ⟨⟨rfl, rfl, .inr ⟨rfl, f, [], rfl, by simp, by simp [cat]⟩⟩, rfl, by simp⟩
            · rw [if_neg ef, if_neg ef]
              refine ⟨⟨rfl, rfl, .inl ⟨rfl, rfl, rfl, rfl⟩⟩, ?_, by simp⟩
              simp
  · unfold push rpush
    dsimp only
    by_cases e : (c, s) ≠ ((0, 0) : Int × Int)
    · rw [if_pos e, if_pos e]
      exact ⟨⟨rfl, rfl, .inr ⟨rfl, h0, t, rfl, rfl, rfl⟩⟩, rfl, by simp⟩
    · rw [if_neg e, if_neg e]
      have e' : (c, s) = ((0, 0) : Int × Int) := Decidable.not_not.1 e
      obtain ⟨rfl, rfl⟩ := Prod.mk.inj e'
      by_cases e9 : f.ty ≠ 9 ∨ f.stream ≠ h0.stream
      · rw [if_pos (by simpa using e9), if_pos e9]
        exact ⟨⟨rfl, rfl, .inl ⟨rfl, rfl, rfl, rfl⟩⟩, rfl, by simp⟩
      · rw [if_neg (by simpa using e9), if_neg e9, if_neg (by simp)]
        have hsz : (cat (h0 :: t)).data.toList.length + f.data.size = (cat (h0 :: t ++ [f])).size := by rw [bytes_len, cat_append, ByteArray.size_append, cat_one]
        have hby : (cat (h0 :: t)).data.toList ++ f.data.data.toList = (cat (h0 :: t ++ [f])).data.toList := by rw [cat_append, cat_one, ByteArray.data_append, Array.toList_append]
        rw [hsz]
        by_cases el : (cat (h0 :: t ++ [f])).size > 131072
        · rw [if_pos el, if_pos el]
          exact ⟨⟨rfl, rfl, .inl ⟨rfl, rfl, rfl, rfl⟩⟩, rfl, by simp⟩
        · rw [if_neg el, if_neg el, hby]
          by_cases ef : andI f.flags 4 = 0
          · rw [if_pos ef, if_pos ef]
            refine ⟨⟨rfl, rfl, .inr ⟨rfl, h0, t ++ [f], rfl, by simp, rfl⟩⟩, rfl, by simp⟩
          · rw [if_neg ef, if_neg ef]
            refine ⟨⟨rfl, rfl, .inl ⟨rfl, rfl, rfl, rfl⟩⟩, ?_, by simp⟩
            simp
end Go.Proofs.Ytinojkkjcignhaa
