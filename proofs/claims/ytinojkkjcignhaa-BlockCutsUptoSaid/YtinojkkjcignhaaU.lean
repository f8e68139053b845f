import Derived.Test.YtinojkkjcignhaaR
set_option linter.unusedVariables false
set_option linter.unusedSimpArgs false
set_option maxRecDepth 100000
namespace Go.Proofs.Ytinojkkjcignhaa
open Go.Proofs Go.Proofs.YtinojkkjcignhaaA

abbrev encS (s : ByteArray) : List AV := [vs s]
def catS : List ByteArray → ByteArray
  | [] => es
  | s :: r => s ++ catS r
theorem catS_append (l m : List ByteArray) : catS (l ++ m) = catS l ++ catS m := by
  induction l with
  | nil => simp [catS]
  | cons x l ih => simp [catS, ih, ByteArray.append_assoc]
theorem catS_take {l : List ByteArray} {k : Nat} {x : ByteArray} (h : l[k]? = some x) : catS (l.take k) ++ x = catS (l.take (k + 1)) := by
  rw [List.take_add_one, h, catS_append]; simp [catS]
theorem catS_le (l : List ByteArray) (k : Nat) : (catS (l.take k)).size ≤ (catS l).size := by
  have := congrArg ByteArray.size (catS_append (l.take k) (l.drop k))
  rw [List.take_append_drop, ByteArray.size_append] at this
  omega
theorem catS_mem {l : List ByteArray} {x : ByteArray} (h : x ∈ l) : x.size ≤ (catS l).size := by
  induction l with
  | nil => cases h
  | cons y r ih =>
    simp only [catS, ByteArray.size_append]
    rcases List.mem_cons.1 h with rfl | h
    · omega
    · have := ih h; omega

/-- The joiner behind i pieces. -/
def CInv (h : Frame) (ls : List ByteArray) (i : Nat) (j : JS) : Prop :=
  (i = 0 ∧ j = jIdle 0 0) ∨ (0 < i ∧ j = ⟨true, hdF h, (catS (ls.take i)).data.toList, 0, 0⟩)
/-- The frame of piece i. -/
def pieceF (h : Frame) (N i : Nat) (x : ByteArray) : Frame :=
  let f : Frame := if i = 0 then { h with flags := nandI h.flags 4, data := x } else { zeroF with ty := 9, stream := h.stream, data := x }
  if (i : Int) = (N : Int) - 1 then { f with flags := orI f.flags 4 } else f
theorem pieceF_data (h : Frame) (N i : Nat) (x : ByteArray) : (pieceF h N i x).data = x ∧ ((pieceF h N i x).ps = h.ps ∨ (pieceF h N i x).ps = []) := by
  unfold pieceF
  dsimp only
  split <;> split <;> simp [zeroF]
theorem cstep {h : Frame} {ls : List ByteArray} {i : Nat} {j : JS} {x : ByteArray} (q1 : isHead h = true) (q2 : h.ty ≠ 9) (hx : ls[i]? = some x) (hj : CInv h ls i j) (hp : (catS (ls.take i)).size ≤ 131072) :
    ((catS (ls.take (i + 1))).size > 131072 ∧ push j (pieceF h ls.length i x) = (jIdle 11 0, none0 11 0)) ∨
    ((catS (ls.take (i + 1))).size ≤ 131072 ∧ (i : Int) < (ls.length : Int) - 1 ∧ (push j (pieceF h ls.length i x)).2 = none0 0 0 ∧ CInv h ls (i + 1) (push j (pieceF h ls.length i x)).1) ∨
    ((catS (ls.take (i + 1))).size ≤ 131072 ∧ (i : Int) = (ls.length : Int) - 1 ∧ ∃ hd, push j (pieceF h ls.length i x) = (jIdle 0 0, ⟨true, hd, catS (ls.take (i + 1)), 0, 0⟩)) := by
  have hcat := catS_take hx
  have hf4 : (BitVec.ofInt 64 4).toInt ≠ 0 := by decide
  have h04 : andI 0 4 = 0 := by rw [andI_bv]; decide
  have hlt : i < ls.length := (List.getElem?_eq_some_iff.1 hx).1
  rcases hj with ⟨rfl, rfl⟩ | ⟨hi, rfl⟩
  · have e0 : catS (ls.take (0 + 1)) = x := by rw [← hcat]; simp [catS]
    rw [e0]
    by_cases hbig : x.size > 131072
    · left
      refine ⟨hbig, ?_⟩
      unfold push pieceF jIdle
      have q1' : isHead { h with flags := nandI h.flags 4, data := x } = true := q1
      by_cases hl : ((0 : Nat) : Int) = (ls.length : Int) - 1
      · have q1'' : isHead { h with flags := orI (nandI h.flags 4) 4, data := x } = true := q1
        simp only [if_pos hl, if_true]
        simp [q2, q1'', hbig]
      · simp only [if_neg hl, if_true]
        simp [q2, q1', hbig]
    · right
      by_cases hl : ((0 : Nat) : Int) = (ls.length : Int) - 1
      · right
        refine ⟨by omega, hl, { h with data := es, flags := orI (orI (nandI h.flags 4) 4) 4 }, ?_⟩
        unfold pieceF
        simp only [if_pos hl, if_true]
        rw [push_head (f := { h with flags := orI (nandI h.flags 4) 4, data := x }) q1 q2 (by (try dsimp only); omega), if_neg (by dsimp only; rw [andI_same]; exact hf4)]
      · left
        have e1 : push (jIdle 0 0) (pieceF h ls.length 0 x) = (⟨true, hdF h, x.data.toList, 0, 0⟩, none0 0 0) := by
          unfold pieceF
          simp only [if_neg hl, if_true]
          rw [push_head (f := { h with flags := nandI h.flags 4, data := x }) q1 q2 (by (try dsimp only); omega), if_pos (by dsimp only; exact andI_nandI_same _ _)]
          rfl
        rw [e1]
        exact ⟨by omega, by omega, rfl, .inr ⟨by omega, by rw [e0]⟩⟩
  · have hi0 : i ≠ 0 := by omega
    have hlen : (catS (ls.take i)).data.toList.length + x.size = (catS (ls.take (i + 1))).size := by rw [bytes_len, ← hcat, ByteArray.size_append]
    have hby : (catS (ls.take i)).data.toList ++ x.data.toList = (catS (ls.take (i + 1))).data.toList := by rw [← hcat, ByteArray.data_append, Array.toList_append]
    by_cases hbig : (catS (ls.take (i + 1))).size > 131072
    · left
      refine ⟨hbig, ?_⟩
      unfold push pieceF
      by_cases hl : (i : Int) = (ls.length : Int) - 1
      · simp only [if_pos hl, if_neg hi0]
        rw [if_neg (by simp), if_neg (by simp [hdF]), if_neg (by simp), hlen, if_pos hbig]
      · simp only [if_neg hl, if_neg hi0]
        rw [if_neg (by simp), if_neg (by simp [hdF]), if_neg (by simp), hlen, if_pos hbig]
    · right
      by_cases hl : (i : Int) = (ls.length : Int) - 1
      · right
        refine ⟨by omega, hl, { hdF h with flags := orI (hdF h).flags 4 }, ?_⟩
        unfold pieceF
        simp only [if_pos hl, if_neg hi0]
        rw [push_cont (f := { zeroF with ty := 9, stream := h.stream, data := x, flags := orI zeroF.flags 4 }) (hd := hdF h) rfl rfl (by (try dsimp only); omega), if_neg (by dsimp only; rw [andI_same]; exact hf4)]
        dsimp only
        rw [hby]
      · left
        have e1 : push ⟨true, hdF h, (catS (ls.take i)).data.toList, 0, 0⟩ (pieceF h ls.length i x) = (⟨true, hdF h, (catS (ls.take (i + 1))).data.toList, 0, 0⟩, none0 0 0) := by
          unfold pieceF
          simp only [if_neg hl, if_neg hi0]
          rw [push_cont (f := { zeroF with ty := 9, stream := h.stream, data := x }) (hd := hdF h) rfl rfl (by (try dsimp only); omega), if_pos (by exact h04)]
          dsimp only
          rw [hby]
        rw [e1]
        exact ⟨by omega, by omega, rfl, .inr ⟨by omega, rfl⟩⟩
end Go.Proofs.Ytinojkkjcignhaa
