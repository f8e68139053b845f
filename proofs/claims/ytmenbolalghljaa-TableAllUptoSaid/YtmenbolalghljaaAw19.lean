/- Appends onto nil. -/
import Derived.Test.YtmenbolalghljaaAw18
set_option linter.unusedVariables false
namespace Go.Proofs.YtmenbolalghljaaA
open Go.RowKit

/-- A contract (a name that nothing else has). -/
abbrev FnC (P : Program) (f : FuncId) (ts : List (Nat × Tok)) (args : List AV) (Post : List (Nat × Tok) → AV → Prop) : Prop := Fn P f ts args Post

section
variable {P : Program} {st : St} {dst : Option Tmp} {ty : TypeId} {pos : String} {after : Array Edge} {g : Option (Nat × Bool)}

/-- append(nil, immutable...) -/
theorem eff_append_nil {t e : TypeId} {x y : Operand} {k b m : Nat} {z : Value} {ys : List (List AV)} [hu : Und P t (.slice e)] [he : ElF P e z k b] (hx : st.get x = some (.val (.slice none 0 0))) (hy : st.get y = some (.sl k ys m)) (hb : m * b ≤ 140737488355328) (hnm : m ≤ 140737488355328) :
    OpEff P ⟨dst, .call ⟨.builtin .append, #[x, y], #[t, t]⟩, ty, pos, after, g⟩ st [] (fun ts r => ∃ l', ts = [(l', .row e k (ys.take m))] ∧ r = .own l' 0 m) := by
  refine ⟨?_⟩
  intro S R a w hh ho next Q hk
  have hxv := rep_val (ho x (by simp [Op.operands, Call.operands]) _ hx)
  have hyv := ho y (by simp [Op.operands, Call.operands]) _ hy
  obtain ⟨news, hs, hrep⟩ := src_sl (P := P) hu.h hyv
  have hm : (ys.take m).length = m := by
    generalize a.eval y = u at hyv
    cases hyv with
    | sl hn _ _ _ _ _ _ => simp; omega
  obtain ⟨N, hN⟩ := hh.free
  have hmono : ∀ {y : AV} {u : Value}, RepV S R w y u → RepV S (bindL R N none) w y u := fun h => h.mono (fun _ h => h) (bindL_mono hN) (fun _ _ => rfl)
  have hno : ∀ g, ¬ Foot (bindL R N none) [(N, .row e k [])] g := by
    rintro g ⟨l', t', hm', hg⟩
    simp at hm'
    obtain ⟨rfl, rfl⟩ := hm'
    simp [blkOf, bindL_same] at hg
  have hno0 : ∀ (R : Lab) (g : Nat), ¬ Foot R [] g := by rintro R g ⟨_, _, h, _⟩; simp at h
  have hh' : Holds S (bindL R N none) w [(N, .row e k [])] := ⟨bindL_top hh.top, by simp, fun l' t' hm' => by
    simp at hm'
    obtain ⟨rfl, rfl⟩ := hm'
    simp [TokHolds, bindL_same], fun g hg => (hno g hg).elim, hh.low⟩
  obtain ⟨r, w', R', N', hrun, h1, h2, h3⟩ := app_core (P := P) (ty := ty) (t := t) (t2 := t) (xs := []) (off := 0) (n := 0) (ys := ys.take m) hh' (.onil bindL_same) (by simp) hs (fun i x hx' hi => by
    obtain ⟨h4, h5⟩ := hrep i x hi (by rwa [List.getElem?_take, if_pos hi] at hx')
    exact ⟨h4, fun j y hy => by
      obtain ⟨h6, u, h7, h8⟩ := h5 j y hy
      exact ⟨h6, u, h7, hmono h8⟩⟩) hm (by simpa using hb) (by simpa using hnm)
  rw [← hxv] at hrun
  unfold Oper.wp
  rw [exec_append hrun]
  simp only [List.drop_nil, List.take_nil, List.nil_append, Nat.zero_add] at h1 h2 h3
  refine hk r _ S R' w' _ ⟨N', rfl, rfl⟩ h1 h2 ⟨h3.os, h3.tape, h3.output, h3.size, fun b hb _ => h3.block b hb (hno b), h3.S0, fun b hb => ?_, fun l q hq => h3.R0 l q (bindL_mono hN l q hq), fun g hg => ?_, fun l' t' hm' => ?_⟩
  · rcases h3.S1 b hb with h4 | h4 | h4
    · exact .inl h4
    · exact (hno b h4).elim
    · exact .inr (.inr h4)
  · rcases h3.foot g hg with h4 | h4
    · exact (hno g h4).elim
    · exact .inr h4
  · refine .inr ?_
    rcases h3.keys l' t' hm' with ⟨t2, h4⟩ | h4
    · simp at h4
      rw [h4.1]; exact hN
    · unfold bindL at h4
      split at h4
      · cases h4
      · exact h4
end

end Go.Proofs.YtmenbolalghljaaA
