/- Arrays as values. -/
import Derived.Test.YtmenbolalghljaaAw38
namespace Go.Proofs.YtmenbolalghljaaA
open Go.RowKit
section
variable {P : Program} {st : St} {dst : Option Tmp} {ty : TypeId} {pos : String} {after : Array Edge} {g : Option (Nat × Bool)}

theorem ev_build_arr {t e : TypeId} {len k b kt bt : Nat} {z zt : Value} {parts : List (Nat × Operand)} {ps : List (Nat × AV)} {cs : List AV} [hu : Und P t (.array len e)] [hz : ElF P t zt kt bt] [he : ElF P e z k b] (hp : getParts st parts = some ps) (h1 : onesB ps = true)
    (hf : fillAV (fun (i : Nat) => some (i * k, k)) (vcells zt) ps = some cs) : OpEv P ⟨dst, .build t parts.toArray, ty, pos, after, g⟩ st (.agg cs) :=
  ev_same fun S R a w _ ho => by
    obtain ⟨us, hus, hr⟩ := fill_rep (S := S) (R := R) (w := w) (a := a) (vs := zt.cells) hp (fun p hp' y hy => ho p.2 (by simp [Op.operands]; exact ⟨p.1, hp'⟩) y hy) (onesB_iff h1) ⟨by simp [vcells], fun i y hy => by
      simp only [vcells, List.getElem?_map, Option.map_eq_some_iff, Array.getElem?_toList] at hy
      obtain ⟨u, hu', rfl⟩ := hy
      have : zt.cells.getD i undef = u := by simp [Array.getD_eq_getD_getElem?, hu']
      rw [this]; exact .val _⟩ hf
    refine ⟨.agg us, ?_, .agg hr.1 hr.2⟩
    simp only [execOp, Instr.build, Sem.run_bind, ElF.zero (e := hz), run_underlying hu.h, ElF.size (e := he), Result.andThen_ok, Sem.run_pure]
    simp only [List.map_toArray]
    rw [hus]
    simp

/-- An element that is several cells. -/
theorem ev_index_arr {t e : TypeId} {x ix : Operand} {ki : IntKind} {len k q b : Nat} {z : Value} {cs : List AV} [hu : Und P t (.array len e)] [he : ElF P e z k b] [hg : AgF P e true] (hx : st.get x = some (.agg cs)) (hi : st.get ix = some (.val (.int ki (q : Nat)))) (hq : q < len) (hl : q * k + k ≤ cs.length) :
    OpEv P ⟨dst, .index t x ix, ty, pos, after, g⟩ st (.agg ((cs.drop (q * k)).take k)) :=
  ev_same fun S R a w _ ho => by
    have hr := ho x (by simp [Op.operands]) _ hx
    have hi' := rep_val (ho ix (by simp [Op.operands]) _ hi)
    generalize hv : a.eval x = v at hr
    cases hr with
    | agg hl2 h =>
      rename_i vs
      refine ⟨.agg (vs.extract (q * k) (q * k + k)), ?_, .agg ?_ ?_⟩
      · simp [execOp, Instr.index, hv, hi', asIntOf, run_underlying hu.h, ElF.size (e := he), hg.h, part, hq]
      · simp; omega
      · intro i y hy
        rw [List.getElem?_take] at hy
        split at hy
        · rename_i hik
          rw [List.getElem?_drop] at hy
          have hlt := (List.getElem?_eq_some_iff.1 hy).1
          have e1 : (vs.extract (q * k) (q * k + k)).getD i undef = vs.getD (q * k + i) undef := by
            have h1 : i < min (q * k + k) vs.size - q * k := by omega
            have h2 : q * k + i < vs.size := by omega
            simp [Array.getD_eq_getD_getElem?, Array.getElem?_extract, h1, h2]
          rw [e1]
          exact h _ _ hy
        · cases hy
end
end Go.Proofs.YtmenbolalghljaaA
