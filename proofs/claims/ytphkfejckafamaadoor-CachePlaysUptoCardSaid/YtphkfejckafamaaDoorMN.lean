import Derived.Test.YtphkfejckafamaaDoorTO
import Derived.Test.YtphkfejckafamaaDoorBA
set_option linter.unusedVariables false
set_option linter.unusedSimpArgs false
set_option maxRecDepth 100000
namespace Go.Proofs.YtphkfejckafamaaDoor
open Go.Proofs Go.Proofs.YtphkfejckafamaaDoorA

/-! What the row lists: the law's mark, as it lies in its variable. -/
abbrev LibF (B : Base) : Prop := MarkF B
abbrev mB : ByteArray := ⟨#[109, 97, 114, 107]⟩
theorem trod_mark {H : Type} {enc : TypeId × Value → H} {w : World} {base : Nat} {sp : Nat → Bool} {held : Bool} {fuel : Nat} {cs : List Value} {p : List MemPlace}
    (h : DataW.trod enc Tryd.prog w base sp held fuel 33 cs = some (Rows.laid_herald_heraldlaw19_mark, p)) : cs = [.string mB, .string mB, .bool false] := by
  obtain ⟨xs, n, rfl, hx, hl, hxl, hf⟩ := DataW.trod_struct Tryd.underlying33 h
  have hc33 : Tryd.prog.cellsOf 33 = 3 := by kernel_rfl
  have hc9 : Tryd.prog.cellsOf 9 = 1 := by kernel_rfl
  have hc4 : Tryd.prog.cellsOf 4 = 1 := by kernel_rfl
  rw [hc33] at hl
  obtain ⟨c0, c1, c2, rfl⟩ : ∃ c0 c1 c2, cs = [c0, c1, c2] := by
    match cs, hl with
    | [a, b, c], _ => exact ⟨a, b, c, rfl⟩
  obtain ⟨x0, x1, x2, rfl⟩ : ∃ x0 x1 x2, xs = [x0, x1, x2] := by
    match xs, hxl with
    | [a, b, c], _ => exact ⟨a, b, c, rfl⟩
  have hm := congrArg Prod.fst hx
  simp only [Rows.laid_herald_heraldlaw19_mark, List.map_cons, List.map_nil, DataW.agg.injEq, List.cons.injEq, and_true] at hm
  obtain ⟨m0, m1, m2⟩ := hm
  have e0 := hf 0 _ rfl
  have e1 := hf 1 _ rfl
  have e2 := hf 2 _ rfl
  simp only [hc9, hc4, List.drop_zero, List.drop_succ_cons, List.take_succ_cons, List.take_zero, List.getElem?_cons_zero, List.getElem?_cons_succ] at e0 e1 e2
  obtain ⟨s0, h0, g0, -⟩ := DataW.trod_string Tryd.underlying9 e0
  obtain ⟨s1, h1, g1, -⟩ := DataW.trod_string Tryd.underlying9 e1
  obtain ⟨b2, h2, g2⟩ := DataW.trod_bool Tryd.underlying4 e2
  rw [g0] at m0
  rw [g1] at m1
  rw [g2] at m2
  simp only [DataW.lit.injEq, Lit.string.injEq, Lit.bool.injEq] at m0 m1 m2
  have k0 : c0 = .string s0 := by simpa [hc9] using h0
  have k1 : c1 = .string s1 := by simpa [hc9] using h1
  have k2 : c2 = .bool b2 := by simpa [hc4] using h2
  have f : ∀ s : ByteArray, [109, 97, 114, 107] = s.data.toList → s = mB := fun s hs => by
    obtain ⟨⟨l⟩⟩ := s
    simp only at hs
    rw [← hs]
  rw [k0, k1, k2, f s0 m0, f s1 m1, ← m2]
theorem gMark : Tryd.prog.globalNamed "herald/heraldlaw19.mark" = some 0 := by kernel_rfl
theorem libF_of {W : World} {laid : List (String × DataW Unit)} (hp : (laid.all fun x => x.2.handleName?.isNone) = true) (hf : laid.filter (fun x => x.1 == "herald/heraldlaw19.mark") = [("herald/heraldlaw19.mark", Rows.laid_herald_heraldlaw19_mark)])
    (hL : laidMetH Tryd.prog laid W) (hsh : W.ShapedOpen Tryd.prog) : LibF (baseOf W) := by
  rw [Go.MakeChecks.laidMetH_plain Tryd.prog laid W hp] at hL
  have h1 := hL.filter (fun x => x.1 == "herald/heraldlaw19.mark")
  rw [hf] at h1
  obtain ⟨ps, ⟨g, t, cs, fuel, p, q, hg, hty, hvar, htr, -, -⟩, -⟩ := h1
  have ht : t = 33 := Option.some.inj (hty.symm.trans (by rw [Option.some.inj (hg.symm.trans gMark)]; kernel_rfl))
  subst ht
  have hcs := trod_mark htr
  have hcell := fun i => World.var?_cell gMark hvar i
  have hget : ∀ i, cs[i]? = ([.string mB, .string mB, .bool false] : List Value)[i]? := fun i => by rw [← hcs, Array.getElem?_toList]
  have h0 : 0 < W.heap.size := by
    have := hcell 0
    rw [hget 0] at this
    simp only [World.cell?] at this
    cases hh : W.heap[0]? with
    | none => rw [hh] at this; simp at this
    | some o => exact (Array.getElem?_eq_some_iff.1 hh).1
  refine .ip (F := fun j => (([.string mB, .string mB, .bool false] : List Value)[j]?).getD undef) h0 (fun j y hy => ?_) (fun y hy => ?_) (fun j y hy => ?_)
  · have hj := (List.getElem?_eq_some_iff.1 hy).1
    have e : (⟨0, 0, none⟩ : Addr).add j = ⟨0, j, none⟩ := by rw [add_mk, Nat.zero_add]
    rw [e, hcell j, hget j]
    match j, hj with
    | 0, _ => rfl
    | 1, _ => rfl
    | 2, _ => rfl
  · simp only [List.mem_cons, List.not_mem_nil, or_false] at hy
    rcases hy with rfl | rfl | rfl <;> rfl
  · have hj := (List.getElem?_eq_some_iff.1 hy).1
    match j, hj with
    | 0, _ => cases hy; exact .val _
    | 1, _ => cases hy; exact .val _
    | 2, _ => cases hy; exact .val _
end Go.Proofs.YtphkfejckafamaaDoor
