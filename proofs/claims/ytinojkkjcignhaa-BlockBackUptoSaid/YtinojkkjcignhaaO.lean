import Derived.Test.YtinojkkjcignhaaM
import Derived.Test.YtinojkkjcignhaaAw27
set_option linter.unusedVariables false
set_option linter.unusedSimpArgs false
set_option maxRecDepth 100000
namespace Go.Proofs.Ytinojkkjcignhaa
open Go.Proofs Go.Proofs.YtinojkkjcignhaaA

/-! ### One step of the joiner -/
theorem push_head {f : Frame} (h1 : isHead f = true) (h2 : f.ty ≠ 9) (h3 : f.data.size ≤ 131072) : push (jIdle 0 0) f =
    if andI f.flags 4 = 0 then (⟨true, { f with data := es }, f.data.data.toList, 0, 0⟩, none0 0 0) else (jIdle 0 0, ⟨true, { f with data := es, flags := orI f.flags 4 }, f.data, 0, 0⟩) := by
  unfold push jIdle
  simp [h1, h2]
  intro h; omega
theorem push_cont {f hd : Frame} {bs : List UInt8} (h1 : f.ty = 9) (h2 : f.stream = hd.stream) (h3 : bs.length + f.data.size ≤ 131072) : push ⟨true, hd, bs, 0, 0⟩ f =
    if andI f.flags 4 = 0 then (⟨true, hd, bs ++ f.data.data.toList, 0, 0⟩, none0 0 0) else (jIdle 0 0, ⟨true, { hd with flags := orI hd.flags 4 }, ⟨(bs ++ f.data.data.toList).toArray⟩, 0, 0⟩) := by
  unfold push jIdle
  simp [h1, h2]
  intro h; omega

theorem made_facts (f : Frame) : isHead (made f) = true ∧ (made f).ty ≠ 9 ∧ (made f).data = es ∧ 1 ≤ (made f).stream ∧ 0 ≤ (made f).pad ∧ (made f).pad ≤ 255 ∧ ((made f).pad ≠ 0 → andI (made f).flags 8 ≠ 0) := by
  have h1 : 0 ≤ andI f.stream 1048575 ∧ andI f.stream 1048575 ≤ 1048575 := andI_range f.stream 1048575 (by decide)
  have h2 : 0 ≤ andI f.pad 255 ∧ andI f.pad 255 ≤ 255 := andI_range f.pad 255 (by decide)
  simp only [made, isHead]
  refine ⟨?_, ?_, trivial, by omega, ?_, ?_, ?_⟩
  · split <;> simp
  · split <;> decide
  · split <;> omega
  · split <;> omega
  · split
    · intro _; assumption
    · intro h; exact absurd rfl h
theorem made_err (f : Frame) (b : ByteArray) (s : Int) (h1 : 16384 ≤ s) (h2 : s ≤ 65536) : splitErr (made f) b s = if b.size > 131072 then 3 else 0 := by
  obtain ⟨q1, q2, q3, q4, q5, q6, q7⟩ := made_facts f
  unfold splitErr
  rw [if_neg]
  rintro (h | h | h | h | h | ⟨h, h'⟩ | h | h)
  · rw [q1] at h; cases h
  · exact h q3
  · omega
  · omega
  · omega
  · exact q7 h h'
  · omega
  · omega
theorem extract_cat (b : ByteArray) {o p : Nat} (h : o ≤ p) : (b.extract 0 o).data.toList ++ (b.extract o p).data.toList = (b.extract 0 p).data.toList := by
  simp only [ByteArray.data_extract, Array.toList_extract, List.extract_eq_take_drop]
  simp only [Nat.sub_zero, List.drop_zero]
  obtain ⟨k, rfl⟩ := Nat.exists_eq_add_of_le h
  rw [Nat.add_sub_cancel_left, List.take_add]
theorem extract_all (b : ByteArray) : b.extract 0 b.size = b := by
  apply ByteArray.ext
  simp
theorem lastF_one (f : Frame) : lastF [f] = [{ f with flags := orI f.flags 4 }] := rfl
theorem lastF_cons (f g : Frame) (l : List Frame) : lastF (f :: g :: l) = f :: lastF (g :: l) := by
  unfold lastF
  simp
theorem lastF_len (l : List Frame) : (lastF l).length = l.length := by unfold lastF; simp

/-! ### BlockBack -/
def hdF (h : Frame) : Frame := { h with flags := nandI h.flags 4, data := es }
def BInv (h : Frame) (b : ByteArray) (s : Int) (F : List Frame) (i : Nat) (j : JS) : Prop :=
  (i = 0 ∧ j = jIdle 0 0) ∨ (0 < i ∧ ∃ o, o < b.size ∧ F.drop i = lastF (cuts h.stream b s.toNat o) ∧ j = ⟨true, hdF h, (b.extract 0 o).data.toList, 0, 0⟩)
structure BStep (h : Frame) (b : ByteArray) (s : Int) (F : List Frame) (N i : Nat) (x : Frame) (j : JS) : Prop where
  at' : F[i]? = some x
  pad0 : 0 ≤ x.pad
  pad1 : x.pad ≤ 255
  dsz : x.data.size ≤ 131072
  pay : payload x ≤ s
  fl : decide (andI x.flags 4 ≠ 0) = decide ((i : Int) = (N : Int) - 1)
  st : x.stream = h.stream
  ty : 0 < i → x.ty = 9
  mid : 0 < i → (i : Int) < (N : Int) - 1 → payload x = s
  fst : i = 0 → (N : Int) > 1 → payload x = s
  ne : 0 < i → x.data.size ≠ 0
  go : ((i : Int) < (N : Int) - 1 ∧ (push j x).2 = none0 0 0 ∧ (push j x).1.busy = true ∧ BInv h b s F (i + 1) (push j x).1) ∨
    ((i : Int) = (N : Int) - 1 ∧ (push j x).1 = jIdle 0 0 ∧ ∃ fl, (push j x).2 = ⟨true, { h with flags := fl }, b, 0, 0⟩ ∧ nandI fl 4 = nandI h.flags 4)
theorem payload_cut (x : Frame) (h : x.ty = 9) : payload x = x.data.size := by simp [payload, h]
theorem bstep {h : Frame} {b : ByteArray} {s : Int} (q1 : isHead h = true) (q2 : h.ty ≠ 9) (q3 : h.data = es) (q5 : 0 ≤ h.pad) (q6 : h.pad ≤ 255) (hs1 : 16384 ≤ s) (hs2 : s ≤ 65536) (hb : b.size ≤ 131072) {i : Nat} {j : JS}
    (hi : i < (splitF h b s).length) (hj : BInv h b s (splitF h b s) i j) : ∃ x, BStep h b s (splitF h b s) (splitF h b s).length i x j := by
  have hrm := room_bounds (h := h) q5 q6 hs1 hs2
  have hpay : ∀ (d : ByteArray) (fl : Int), andI fl 8 = andI h.flags 8 → andI fl 32 = andI h.flags 32 → payload { h with flags := fl, data := d } = d.size + (s - room h s) := by
    intro d fl h8 h32
    simp only [payload, room, h8, h32]
    by_cases e1 : andI h.flags 8 ≠ 0 <;> by_cases e2 : h.ty = 1 ∧ andI h.flags 32 ≠ 0 <;> by_cases e3 : h.ty = 5 <;> simp [e1, e2, e3, q2] <;> omega
  have hn1 : split0 h b s ≤ b.size := by unfold split0; omega
  have hor8 : ∀ a : Int, andI (orI a 4) 8 = andI a 8 := fun a => andI_orI a 4 8 (by decide)
  have hor32 : ∀ a : Int, andI (orI a 4) 32 = andI a 32 := fun a => andI_orI a 4 32 (by decide)
  have hf4 : (BitVec.ofInt 64 4).toInt ≠ 0 := by decide
  rcases hj with ⟨rfl, rfl⟩ | ⟨hi0, o, ho, hdrop, rfl⟩
  · -- the head frame
    rcases Nat.lt_or_ge (split0 h b s) b.size with hlt | hge
    · have hF : splitF h b s = { h with flags := nandI h.flags 4, data := b.extract 0 (split0 h b s) } :: lastF (cuts h.stream b s.toNat (split0 h b s)) := by
        unfold splitF splitF0
        rw [cuts_cons hlt (by omega), lastF_cons]
      have hN : 1 < (splitF h b s).length := by
        rw [hF, List.length_cons, lastF_len, cuts_cons hlt (by omega)]; simp
      have hsz : (b.extract 0 (split0 h b s)).size = split0 h b s := by rw [ByteArray.size_extract]; omega
      have hroom : (split0 h b s : Int) = room h s := by unfold split0 at hlt ⊢; omega
      have hp : payload { h with flags := nandI h.flags 4, data := b.extract 0 (split0 h b s) } = s := by rw [hpay _ _ (andI_8 _) (andI_32 _), hsz]; omega
      have hpush : push (jIdle 0 0) { h with flags := nandI h.flags 4, data := b.extract 0 (split0 h b s) } = (⟨true, hdF h, (b.extract 0 (split0 h b s)).data.toList, 0, 0⟩, none0 0 0) := by
        rw [push_head (f := { h with flags := nandI h.flags 4, data := b.extract 0 (split0 h b s) }) q1 q2 (by dsimp only; omega), if_pos (andI_nandI_same _ _)]
        rfl
      refine ⟨{ h with flags := nandI h.flags 4, data := b.extract 0 (split0 h b s) }, ⟨by rw [hF]; rfl, q5, q6, by dsimp only; omega, by rw [hp]; exact Int.le_refl _, ?_, rfl, fun h => absurd h (by decide), fun h => absurd h (by decide), fun _ _ => hp, fun h => absurd h (by decide), .inl ⟨by omega, ?_, ?_, ?_⟩⟩⟩
      · rw [decide_eq_false (by simp [andI_nandI_same]), decide_eq_false (by omega)]
      · rw [hpush]
      · rw [hpush]
      · rw [hpush]
        exact .inr ⟨by omega, split0 h b s, hlt, by rw [hF]; rfl, rfl⟩
    · have hF : splitF h b s = [{ h with flags := orI (nandI h.flags 4) 4, data := b.extract 0 (split0 h b s) }] := by
        unfold splitF splitF0
        rw [cuts_nil hge, lastF_one]
      have e0 : split0 h b s = b.size := by omega
      have hN : (splitF h b s).length = 1 := by rw [hF]; rfl
      rw [e0, extract_all] at hF
      have hp : payload { h with flags := orI (nandI h.flags 4) 4, data := b } ≤ s := by
        rw [hpay _ _ (by rw [hor8, andI_8]) (by rw [hor32, andI_32])]
        unfold split0 at e0
        omega
      have hpush : push (jIdle 0 0) { h with flags := orI (nandI h.flags 4) 4, data := b } = (jIdle 0 0, ⟨true, { h with flags := orI (orI (nandI h.flags 4) 4) 4 }, b, 0, 0⟩) := by
        rw [push_head (f := { h with flags := orI (nandI h.flags 4) 4, data := b }) q1 q2 (by dsimp only; omega), if_neg (by rw [andI_same]; exact hf4)]
        dsimp only
        rw [← q3]
      refine ⟨{ h with flags := orI (nandI h.flags 4) 4, data := b }, ⟨by rw [hF]; rfl, q5, q6, by dsimp only; omega, hp, ?_, rfl, fun h => absurd h (by decide), fun h => absurd h (by decide), fun _ h => by omega, fun h => absurd h (by decide), .inr ⟨by omega, ?_, orI (orI (nandI h.flags 4) 4) 4, ?_, ?_⟩⟩⟩
      · rw [decide_eq_true (by rw [andI_same]; exact hf4), decide_eq_true (by omega)]
      · rw [hpush]
      · rw [hpush]
      · rw [nandI_orI, nandI_orI, nandI_nandI]
  · -- a frame that goes on
    have hS : 0 < s.toNat := by omega
    have hlen : ((splitF h b s).drop i).length = (splitF h b s).length - i := List.length_drop ..
    rw [hdrop, lastF_len] at hlen
    have hbs : (b.extract 0 o).data.toList.length = o := by rw [bytes_len, ByteArray.size_extract]; omega
    have hget : ∀ x r, (splitF h b s).drop i = x :: r → (splitF h b s)[i]? = some x ∧ (splitF h b s).drop (i + 1) = r := by
      intro x r e
      constructor
      · have := congrArg (fun l => l[0]?) e
        simpa [List.getElem?_drop] using this
      · have := congrArg List.tail e
        simpa [List.tail_drop] using this
    have hsz : (b.extract o (min b.size (o + s.toNat))).size = min b.size (o + s.toNat) - o := by rw [ByteArray.size_extract]; omega
    rcases Nat.lt_or_ge (min b.size (o + s.toNat)) b.size with hlt | hge
    · have hc : lastF (cuts h.stream b s.toNat o) = { zeroF with ty := 9, stream := h.stream, data := b.extract o (min b.size (o + s.toNat)) } :: lastF (cuts h.stream b s.toNat (min b.size (o + s.toNat))) := by
        rw [cuts_cons ho hS, cuts_cons hlt hS, lastF_cons]
      have hcl : 1 < (cuts h.stream b s.toNat o).length := by rw [cuts_cons ho hS, cuts_cons hlt hS]; simp
      obtain ⟨hx, hr⟩ := hget _ _ (hdrop.trans hc)
      have hpush : push ⟨true, hdF h, (b.extract 0 o).data.toList, 0, 0⟩ { zeroF with ty := 9, stream := h.stream, data := b.extract o (min b.size (o + s.toNat)) } = (⟨true, hdF h, (b.extract 0 (min b.size (o + s.toNat))).data.toList, 0, 0⟩, none0 0 0) := by
        rw [push_cont (f := { zeroF with ty := 9, stream := h.stream, data := b.extract o (min b.size (o + s.toNat)) }) (hd := hdF h) rfl rfl (by dsimp only; omega), if_pos (by show andI 0 4 = 0; rw [andI_bv]; decide)]
        dsimp only
        rw [extract_cat b (by omega)]
      refine ⟨{ zeroF with ty := 9, stream := h.stream, data := b.extract o (min b.size (o + s.toNat)) }, ⟨hx, Int.le_refl _, (by show (0 : Int) ≤ 255; decide), by dsimp only; omega, ?_, ?_, rfl, fun _ => rfl, fun _ _ => ?_, fun h => by omega, fun _ => by dsimp only; omega, .inl ⟨by omega, ?_, ?_, ?_⟩⟩⟩
      · rw [payload_cut _ rfl]; dsimp only; omega
      · rw [decide_eq_false (by simp; show andI 0 4 = 0; rw [andI_bv]; decide), decide_eq_false (by omega)]
      · rw [payload_cut _ rfl]; dsimp only; omega
      · rw [hpush]
      · rw [hpush]
      · rw [hpush]
        exact .inr ⟨by omega, _, hlt, hr, rfl⟩
    · have hc : lastF (cuts h.stream b s.toNat o) = [{ zeroF with ty := 9, stream := h.stream, data := b.extract o (min b.size (o + s.toNat)), flags := orI 0 4 }] := by
        rw [cuts_cons ho hS, cuts_nil hge, lastF_one]
        rfl
      have hcl : (cuts h.stream b s.toNat o).length = 1 := by rw [cuts_cons ho hS, cuts_nil hge]; rfl
      obtain ⟨hx, hr⟩ := hget _ _ (hdrop.trans hc)
      have e0 : min b.size (o + s.toNat) = b.size := by omega
      rw [e0] at hx hsz
      have hpush : push ⟨true, hdF h, (b.extract 0 o).data.toList, 0, 0⟩ { zeroF with ty := 9, stream := h.stream, data := b.extract o b.size, flags := orI 0 4 } = (jIdle 0 0, ⟨true, { h with flags := orI (nandI h.flags 4) 4 }, b, 0, 0⟩) := by
        rw [push_cont (f := { zeroF with ty := 9, stream := h.stream, data := b.extract o b.size, flags := orI 0 4 }) (hd := hdF h) rfl rfl (by dsimp only; omega), if_neg (by dsimp only; rw [andI_same]; exact hf4)]
        dsimp only [hdF]
        rw [extract_cat b (by omega), extract_all, ← q3]
      refine ⟨{ zeroF with ty := 9, stream := h.stream, data := b.extract o b.size, flags := orI 0 4 }, ⟨hx, Int.le_refl _, (by show (0 : Int) ≤ 255; decide), by dsimp only; omega, ?_, ?_, rfl, fun _ => rfl, fun _ _ => by omega, fun h => by omega, fun _ => by dsimp only; omega, .inr ⟨by omega, ?_, orI (nandI h.flags 4) 4, ?_, ?_⟩⟩⟩
      · rw [payload_cut _ rfl]; dsimp only; omega
      · rw [decide_eq_true (by dsimp only; rw [andI_same]; exact hf4), decide_eq_true (by omega)]
      · rw [hpush]
      · rw [hpush]
      · rw [nandI_orI, nandI_nandI]
end Go.Proofs.Ytinojkkjcignhaa
