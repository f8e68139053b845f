/- Tokens up to equality; small rules. -/
import Derived.Test.YtmenbolalghljaaAw21
namespace Go.Proofs.YtmenbolalghljaaA
open Go.RowKit

theorem Take.cast {ts : List (Nat × Tok)} {l : Nat} {t t' : Tok} {r : List (Nat × Tok)} (h : Take ts l t r) (e : t = t') : Take ts l t' r := e ▸ h
theorem Take.rowc {ts : List (Nat × Tok)} {l : Nat} {e : TypeId} {k : Nat} {xs ys : List (List AV)} {r : List (Nat × Tok)} (he : xs = ys) (h : Take ts l (.row e k xs) r) : Take ts l (.row e k ys) r := he ▸ h
variable {P : Program} {st : St} {dst : Option Tmp} {ty : TypeId} {pos : String} {after : Array Edge} {g : Option (Nat × Bool)}
theorem ev_indexAddr_own0 {t e e' : TypeId} {x ix : Operand} {ki : IntKind} {k n i b l : Nat} {z : Value} {xs : List (List AV)} {r : List (Nat × Tok)} [hu : Und P t (.slice e)] [he : ElF P e z k b] (hx : st.get x = some (.own l 0 n)) (hi : st.get ix = some (.val (.int ki (i : Nat)))) (hn : i < n) (ht : Take st.toks l (.row e' k xs) r) : OpEv P ⟨dst, .indexAddr t x ix, ty, pos, after, g⟩ st (.ptr l i 0) := by
  have h := ev_indexAddr_own (P := P) (t := t) (e := e) (z := z) (b := b) (dst := dst) (ty := ty) (pos := pos) (after := after) (g := g) hx hi hn ht
  rwa [Nat.zero_add] at h
end Go.Proofs.YtmenbolalghljaaA
