/- Bits of numbers by their names. -/
import Derived.Test.YtmenbolalghljaaAw17
set_option linter.unusedVariables false
namespace Go.Proofs.YtmenbolalghljaaA
open Go.RowKit

@[irreducible] def andI (p q : Int) : Int := IntKind.i64.wrap ((BitVec.ofInt IntKind.i64.bits p &&& BitVec.ofInt IntKind.i64.bits q).toNat)
@[irreducible] def orI (p q : Int) : Int := IntKind.i64.wrap ((BitVec.ofInt IntKind.i64.bits p ||| BitVec.ofInt IntKind.i64.bits q).toNat)
@[irreducible] def nandI (p q : Int) : Int := IntKind.i64.wrap ((BitVec.ofInt IntKind.i64.bits p &&& ~~~ BitVec.ofInt IntKind.i64.bits q).toNat)

section
variable {P : Program} {st : St} {dst : Option Tmp} {ty : TypeId} {pos : String} {after : Array Edge} {g : Option (Nat × Bool)}
theorem ev_andI {t t' : TypeId} {x y : Operand} {p q : Int} (hx : st.get x = some (.val (.int .i64 p))) (hy : st.get y = some (.val (.int .i64 q))) : OpEv P ⟨dst, .binOp .and t x y t', ty, pos, after, g⟩ st (.val (.int .i64 (andI p q))) := by rw [andI]; exact ev_and hx hy
theorem ev_orI {t t' : TypeId} {x y : Operand} {p q : Int} (hx : st.get x = some (.val (.int .i64 p))) (hy : st.get y = some (.val (.int .i64 q))) : OpEv P ⟨dst, .binOp .or t x y t', ty, pos, after, g⟩ st (.val (.int .i64 (orI p q))) := by rw [orI]; exact ev_or hx hy
theorem ev_nandI {t t' : TypeId} {x y : Operand} {p q : Int} (hx : st.get x = some (.val (.int .i64 p))) (hy : st.get y = some (.val (.int .i64 q))) : OpEv P ⟨dst, .binOp .andNot t x y t', ty, pos, after, g⟩ st (.val (.int .i64 (nandI p q))) := by rw [nandI]; exact ev_andNot hx hy
end

end Go.Proofs.YtmenbolalghljaaA
