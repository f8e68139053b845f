/- More of arithmetic. -/
import Derived.Test.YtmenbolalghljaaAw39
namespace Go.Proofs.YtmenbolalghljaaA
open Go.RowKit
section
variable {P : Program} {st : St} {dst : Option Tmp} {ty : TypeId} {pos : String} {after : Array Edge} {g : Option (Nat × Bool)}

theorem ev_negw {t : TypeId} {x : Operand} {k : IntKind} {p : Int} (hx : st.get x = some (.val (.int k p))) : OpEv P ⟨dst, .unOp .neg t x, ty, pos, after, g⟩ st (.val (.int k (k.wrap (0 - p)))) :=
  ev_same fun S R a w _ ho => ⟨_, by
    have e1 := rep_val (ho x (by simp [Op.operands]) _ hx)
    simp [execOp, e1, Op.unary, Op.intArith], .val _⟩
theorem ev_neg {t : TypeId} {x : Operand} {p : Int} (hx : st.get x = some (.val (.int .i64 p))) (h1 : -9223372036854775808 ≤ 0 - p) (h2 : 0 - p ≤ 9223372036854775807) : OpEv P ⟨dst, .unOp .neg t x, ty, pos, after, g⟩ st (.val (.int .i64 (0 - p))) := by
  have := ev_negw (P := P) (dst := dst) (ty := ty) (pos := pos) (after := after) (g := g) (t := t) hx
  rwa [i64_id h1 h2] at this
theorem ev_quow {t t' : TypeId} {x y : Operand} {k : IntKind} {p q : Int} (hx : st.get x = some (.val (.int k p))) (hy : st.get y = some (.val (.int k q))) (hq : q ≠ 0) :
    OpEv P ⟨dst, .binOp .quo t x y t', ty, pos, after, g⟩ st (.val (.int k (k.wrap (p.tdiv q)))) := ev_bin hx hy fun w => by simp [eqGuard, binOp, Op.intDiv, hq]
theorem ev_mul {t t' : TypeId} {x y : Operand} {p q : Int} (hx : st.get x = some (.val (.int .i64 p))) (hy : st.get y = some (.val (.int .i64 q))) (h1 : -9223372036854775808 ≤ p * q) (h2 : p * q ≤ 9223372036854775807) :
    OpEv P ⟨dst, .binOp .mul t x y t', ty, pos, after, g⟩ st (.val (.int .i64 (p * q))) := by
  have := ev_mulw (P := P) (dst := dst) (ty := ty) (pos := pos) (after := after) (g := g) (t := t) (t' := t') hx hy
  rwa [i64_id h1 h2] at this
end
section
variable {P : Program} {n : Nat} {ro : Option Nat} {G : CtxR P n ro} {K : Kont} {st : St}
/-- Behind x and x2 the ways come together. -/
theorem aw_join2 {x x2 y : Code} {ι : Type} (I : ι → St) (Inv : ι → Prop) (h1 : AW G x st (.seq x2 (.loop (fun st' => ∃ g, Inv g ∧ Sub st' (I g)) K))) (h2 : ∀ g, Inv g → AW G y (I g) K) : AW G x st (.seq (.seq x2 y) K) := by
  refine ⟨fun a w hr => wpIn_mono (h1.h a w hr) ?_⟩
  rintro e a' w' ⟨st', hq, hr'⟩
  refine ⟨st', ?_, hr'⟩
  cases e with
  | normal => exact (aw_seq (aw_join I Inv ⟨hq⟩ h2)).h
  | _ => exact hq
end
end Go.Proofs.YtmenbolalghljaaA
