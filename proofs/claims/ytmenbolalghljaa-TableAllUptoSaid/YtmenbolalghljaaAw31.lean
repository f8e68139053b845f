/- []byte(s): bytes of one's own. -/
import Derived.Test.YtmenbolalghljaaAw30
import Derived.Laws.IdiomStrings
set_option linter.unusedVariables false
namespace Go.Proofs.YtmenbolalghljaaA
open Go.RowKit
/-- One token over a fresh block, whatever its mark. -/
theorem fresh_rowf {S : Nat → Prop} {R : Lab} {w : World} {N : Nat} (hN : R N = none) (htop : ∃ N, ∀ m, N ≤ m → R m = none) (hlow : ∀ b, S b → b < w.heap.size) {w1 : World} (hw1 : Below w.heap.size w w1) (hs1 : w1.heap.size = w.heap.size) {cur : Array Value} {e : TypeId} {fr : Nat × Nat} {k t : Nat} {xs : List (List AV)} (hfr : cur.size ≤ fr.1 ∨ fr = (0, 0)) (hc : cur.size = t * k) (ht : xs.length ≤ t) (hm : t ≤ maxLen)
    (hr : ∀ (i : Nat) (x : List AV), xs[i]? = some x → x.length = k ∧ ∀ (j : Nat) (y : AV), x[j]? = some y → y.one = true ∧ ∃ u, cur[i * k + j]? = some u ∧ RepV S R w y u) :
    Holds S (bindL R N (some ⟨w.heap.size, 0, k, t⟩)) (w1.alloc (.cells cur e fr)) [(N, .row e k xs)] ∧ Out w S R (Foot R []) (fun l => ∃ t, (l, t) ∈ ([] : List (Nat × Tok))) S (bindL R N (some ⟨w.heap.size, 0, k, t⟩)) (w1.alloc (.cells cur e fr)) [(N, .row e k xs)] := by
  have hfoot : ∀ g, Foot (bindL R N (some ⟨w.heap.size, 0, k, t⟩)) [(N, .row e k xs)] g → g = w.heap.size := by
    rintro g ⟨l, t', hm', hg⟩
    simp at hm'
    obtain ⟨rfl, rfl⟩ := hm'
    simp [blkOf, bindL] at hg
    exact hg.symm
  have hsz : (w1.alloc (.cells cur e fr)).heap.size = w.heap.size + 1 := by simp [hs1]
  have hb : ∀ b, b < w.heap.size → (w1.alloc (.cells cur e fr)).heap[b]? = w.heap[b]? := fun b hb => (Below.heap_alloc _ _ _ (by omega)).trans (hw1.block b hb)
  refine ⟨⟨bindL_top htop, by simp, ?_, ?_, fun b hb => by rw [hsz]; have := hlow b hb; omega⟩, ?_⟩
  · intro l t' hm'
    simp at hm'
    obtain ⟨rfl, rfl⟩ := hm'
    simp only [TokHolds, bindL_same]
    refine ⟨trivial, cur, fr, ?_, hfr, hc, by simpa using ht, hm, fun i x hx => ⟨(hr i x hx).1, fun j y hy => ?_⟩⟩
    · show (w1.heap.push (.cells cur e fr))[w.heap.size]? = _
      rw [← hs1]; simp
    · obtain ⟨h1, u, hu, hrep⟩ := (hr i x hx).2 j y hy
      exact ⟨h1, u, by simpa using hu, hrep.mono (fun _ h => h) (bindL_mono hN) (fun b hb' => hb b (hlow b hb'))⟩
  · intro g hg hs
    have := hfoot g hg
    have := hlow g hs
    omega
  · refine ⟨hw1.os, hw1.tape, hw1.output, by rw [hsz]; omega, fun b hb' _ => hb b hb', fun _ h => h, fun _ h => .inl h, bindL_mono hN, fun g hg => .inr (by rw [hfoot g hg]; exact Nat.le_refl _), fun l t' hm' => ?_⟩
    simp at hm'
    exact .inr (by rw [hm'.1]; exact hN)

section
variable {P : Program} {st : St} {dst : Option Tmp} {ty : TypeId} {pos : String} {after : Array Edge} {g : Option (Nat × Bool)}
theorem eff_conv_bytes {src d e : TypeId} {x : Operand} {s : ByteArray} [hs : Und P src .string] [hd : Und P d (.slice e)] [he : Und P e (.int .u8)] (hx : st.get x = some (.val (.string s))) (hm : s.size ≤ 1099511627776) :
    OpEff P ⟨dst, .convert src d x, ty, pos, after, g⟩ st [] (fun ts r => ∃ l, ts = [(l, .row e 1 (u8cells s.data.toList))] ∧ r = .own l 0 s.size) := by
  refine ⟨?_⟩
  intro S R a w hh ho next Q hk
  obtain ⟨N, hN⟩ := hh.free
  have e1 := rep_val (ho x (by simp [Op.operands]) _ hx)
  have hrun := run_bytes_of_string (P := P) w src d e s hs.h hd.h he.h
  have hge := grownCap_ge w s.size 0 e
  have hle := grownCap_le_maxLen w s.size 0 e (by simp [maxLen]; omega)
  generalize hcap : grownCap w s.size 0 e = cap at *
  have hsz : (bytesRow s cap).size = cap := by
    simp only [bytesRow, Array.size_append, Array.size_map, Array.size_replicate]
    have : s.data.size = s.size := rfl
    omega
  have hf := fresh_rowf (e := e) (w1 := w.drew) hN hh.top hh.low ((Below.refl _ w).drew) rfl (cur := bytesRow s cap) (fr := ((bytesRow s cap).size, (bytesRow s cap).size + 1)) (k := 1) (t := cap) (xs := u8cells s.data.toList) (.inl (Nat.le_refl _)) (by rw [hsz, Nat.mul_one]) (by simp [u8cells]; exact hge) hle (fun i y hy => by
    simp only [u8cells, List.getElem?_map, Option.map_eq_some_iff] at hy
    obtain ⟨c, hc, rfl⟩ := hy
    refine ⟨rfl, fun j v hv => ?_⟩
    match j, hv with
    | 0, hv =>
      simp at hv
      subst hv
      have hlt : i < s.data.size := by have := (List.getElem?_eq_some_iff.1 hc).1; simpa using this
      refine ⟨rfl, _, ?_, .val _⟩
      rw [Nat.mul_one, Nat.add_zero, bytesRow_at s cap i hlt]
      rw [Array.getElem?_toList, Array.getElem?_eq_getElem hlt] at hc
      cases hc
      rfl)
  unfold Oper.wp
  have hex : (execOp a.eval ⟨dst, .convert src d x, ty, pos, after, g⟩).run P w = .ok (.value (.slice (some ⟨w.heap.size, 0, none⟩) s.size cap)) (w.drew.alloc (.cells (bytesRow s cap) e ((bytesRow s cap).size, (bytesRow s cap).size + 1))) := by
    simp [execOp, e1, hrun]
  rw [hex]
  have hp : RepV S (bindL R N (some ⟨w.heap.size, 0, 1, cap⟩)) (w.drew.alloc (.cells (bytesRow s cap) e ((bytesRow s cap).size, (bytesRow s cap).size + 1))) (.own N 0 s.size) (.slice (some ⟨w.heap.size, 0, none⟩) s.size cap) :=
    .own (bindL_same (R := R) (q := some ⟨w.heap.size, 0, 1, cap⟩)) hge hle (by simp) (.inr (by simp)) ⟨_, rfl, rfl⟩
  exact hk _ _ S _ _ _ ⟨N, rfl, rfl⟩ hf.1 hp hf.2
end
end Go.Proofs.YtmenbolalghljaaA
