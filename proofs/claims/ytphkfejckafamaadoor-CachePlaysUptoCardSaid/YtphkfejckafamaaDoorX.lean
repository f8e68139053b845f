import Derived.Test.YtphkfejckafamaaDoorW
set_option linter.unusedVariables false
set_option linter.unusedSimpArgs false
set_option maxRecDepth 100000
namespace Go.Proofs.YtphkfejckafamaaDoor
open Go.Proofs Go.Proofs.YtphkfejckafamaaDoorA

/-! What a store throws out: no more than it must. -/
theorem room_tight {c : Cf} {z : Int} : ∀ {l : List En} {m : Nat}, roomN c z l = m + 1 → tight c z (l.drop m) = true
  | [], m, h => by cases h
  | x :: l, m, h => by
    unfold roomN at h
    cases ht : tight c z (x :: l) with
    | false => rw [ht] at h; cases h
    | true =>
      rw [ht, if_pos rfl] at h
      cases m with
      | zero => exact ht
      | succ m => exact room_tight (l := l) (by omega)
theorem tw_take {α : Type} {f : α → Bool} : ∀ {l : List α} {i : Nat} {y : α}, i < (l.takeWhile f).length → l[i]? = some y → f y = true
  | [], i, y, h, _ => by simp at h
  | a :: l, i, y, h, hy => by
    cases hf : f a with
    | false => rw [List.takeWhile_cons, hf] at h; simp at h
    | true =>
      rw [List.takeWhile_cons, hf, if_pos rfl, List.length_cons] at h
      cases i with
      | zero => simp at hy; rw [← hy]; exact hf
      | succ i => exact tw_take (l := l) (i := i) (by omega) (by simpa using hy)
theorem tw_next {α : Type} {f : α → Bool} : ∀ {l : List α} {y : α}, l[(l.takeWhile f).length]? = some y → f y = false
  | [], y, hy => by simp at hy
  | a :: l, y, hy => by
    cases hf : f a with
    | false => rw [List.takeWhile_cons, hf] at hy; simp at hy; rw [← hy]; exact hf
    | true =>
      rw [List.takeWhile_cons, hf, if_pos rfl, List.length_cons] at hy
      exact tw_next (l := l) (by simpa using hy)
/-- In their order: arrivals do not fall, streams rise. -/
structure Srt (l : List En) : Prop where
  ar : l.Pairwise fun x y => x.ar ≤ y.ar
  st : l.Pairwise fun x y => x.st < y.st
theorem Srt.rest {c : Cf} {k : Int} {l : List En} (h : Srt l) {n : Nat} (hn : lapseN c k l ≤ n) : ∀ y, y ∈ l.drop n → late c k y = false := by
  intro y hy
  obtain ⟨j, hj⟩ := List.getElem?_of_mem hy
  rw [List.getElem?_drop] at hj
  have hlt := (List.getElem?_eq_some_iff.1 hj).1
  obtain ⟨x, hx⟩ : ∃ x, l[lapseN c k l]? = some x := ⟨_, List.getElem?_eq_getElem (by omega)⟩
  have hf := tw_next (f := late c k) (l := l) hx
  have hle : x.ar ≤ y.ar := by
    by_cases he : lapseN c k l = n + j
    · rw [he, hj] at hx; cases hx; exact Int.le_refl _
    · have := List.pairwise_iff_getElem.1 h.ar (lapseN c k l) (n + j) (by omega) hlt (by omega)
      rw [(List.getElem?_eq_some_iff.1 hx).2, (List.getElem?_eq_some_iff.1 hj).2] at this
      exact this
  unfold late at hf ⊢
  simp only [decide_eq_false_iff_not] at hf ⊢
  omega
theorem Srt.find {l : List En} (h : Srt l) {i : Nat} {x : En} (hx : l[i]? = some x) : findI (fun y => decide (y.st = x.st)) l = i := by
  have hlt := (List.getElem?_eq_some_iff.1 hx).1
  have e := place_at (f := fun y : En => decide (y.st = x.st)) (l := l) (n := i) (fun j y hj hy => by
    have hjl := (List.getElem?_eq_some_iff.1 hy).1
    have := List.pairwise_iff_getElem.1 h.st j i hjl hlt hj
    rw [(List.getElem?_eq_some_iff.1 hx).2, (List.getElem?_eq_some_iff.1 hy).2] at this
    exact decide_eq_false (by omega)) hx (decide_eq_true rfl)
  unfold findI
  rw [e, if_pos hlt]
theorem Srt.drop {l : List En} (h : Srt l) (n : Nat) : Srt (l.drop n) := ⟨h.ar.sublist (List.drop_sublist n l), h.st.sublist (List.drop_sublist n l)⟩
theorem gone_le (c : Cf) (k : Int) (r : Rs) (l : List En) : goneN c k r l ≤ l.length := by
  have h1 := lapse_le c k l
  have h2 := room_le c (sizeN r) (l.drop (lapseN c k l))
  rw [List.length_drop] at h2
  unfold goneN
  split <;> omega
theorem gone_ge (c : Cf) (k : Int) (r : Rs) (l : List En) : lapseN c k l ≤ goneN c k r l := by unfold goneN; omega
theorem gone_late {c : Cf} {k : Int} {r : Rs} {l : List En} {i : Nat} {y : En} (hi : i < goneN c k r l) (hy : l[i]? = some y) : mayN c r = true ∨ late c k y = true := by
  cases hm : mayN c r with
  | true => exact .inl rfl
  | false =>
    unfold goneN at hi
    rw [hm, if_neg Bool.false_ne_true, Nat.add_zero] at hi
    exact .inr (tw_take hi hy)
/-- The last that went, not lapsed: with it there was no room. -/
theorem gone_last {c : Cf} {k : Int} {r : Rs} {l : List En} {x : En} (hx : l[goneN c k r l - 1]? = some x) (hp : 0 < goneN c k r l) (hl : late c k x = false) :
    c.e < ((l.drop (goneN c k r l)).length : Int) + 2 ∨ c.b < sumZ (l.drop (goneN c k r l)) + sizeN x.r + sizeN r := by
  have hn : lapseN c k l ≤ goneN c k r l - 1 := by
    refine Nat.le_of_not_lt fun h => ?_
    have := tw_take (f := late c k) (l := l) h hx
    rw [hl] at this; cases this
  have hm : mayN c r = true := by
    cases hm : mayN c r with
    | true => rfl
    | false => unfold goneN at hn hp; rw [hm, if_neg Bool.false_ne_true] at hn hp; omega
  have hg : goneN c k r l = lapseN c k l + roomN c (sizeN r) (l.drop (lapseN c k l)) := by unfold goneN; rw [hm, if_pos rfl]
  have ht := room_tight (c := c) (z := sizeN r) (l := l.drop (lapseN c k l)) (m := goneN c k r l - 1 - lapseN c k l) (by omega)
  rw [List.drop_drop, show lapseN c k l + (goneN c k r l - 1 - lapseN c k l) = goneN c k r l - 1 by omega] at ht
  have hd : l.drop (goneN c k r l - 1) = x :: l.drop (goneN c k r l) := by
    rw [List.drop_eq_getElem_cons (List.getElem?_eq_some_iff.1 hx).1, (List.getElem?_eq_some_iff.1 hx).2, show goneN c k r l - 1 + 1 = goneN c k r l by omega]
  rw [hd] at ht
  have hz : sumZ (x :: l.drop (goneN c k r l)) = sizeN x.r + sumZ (l.drop (goneN c k r l)) := List.sum_cons
  have ht2 : ((x :: l.drop (goneN c k r l)).length : Int) ≥ c.e ∨ sumZ (x :: l.drop (goneN c k r l)) > c.b - sizeN r := by simpa [tight] using ht
  rw [hz, List.length_cons] at ht2
  omega
end Go.Proofs.YtphkfejckafamaaDoor
