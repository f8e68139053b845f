/- Tokens in bundles. -/
import Derived.Test.YtmenbolalghljaaAw23
set_option linter.unusedVariables false
namespace Go.Proofs.YtmenbolalghljaaA
open Go.RowKit

theorem Take.right {a b r : List (Nat × Tok)} {l : Nat} {t : Tok} (h : Take b l t r) : Take (a ++ b) l t (a ++ r) := by
  induction a with
  | nil => exact h
  | cons p a ih => exact .tail ih
theorem takes_blk {a b : List (Nat × Tok)} : Takes (a ++ b) a b := by
  induction a with
  | nil => exact .nil
  | cons p a ih => exact .cons .head ih
theorem takes_all {a : List (Nat × Tok)} : Takes a a [] := by
  have := takes_blk (a := a) (b := [])
  rwa [List.append_nil] at this
theorem takes_right {a b us rs : List (Nat × Tok)} (h : Takes b us rs) : Takes (a ++ b) us (a ++ rs) := by
  induction h with
  | nil => exact .nil
  | cons h _ ih => exact .cons h.right ih
theorem takes_skip {p : Nat × Tok} {b us rs : List (Nat × Tok)} (h : Takes b us rs) : Takes (p :: b) us (p :: rs) := by
  induction h with
  | nil => exact .nil
  | cons h _ ih => exact .cons (.tail h) ih
theorem takes_app {ts us r1 vs r2 : List (Nat × Tok)} (h : Takes ts us r1) (h' : Takes r1 vs r2) : Takes ts (us ++ vs) r2 := by
  induction h with
  | nil => exact h'
  | cons h _ ih => exact .cons h (ih h')
theorem takes_cons {ts us r1 r2 : List (Nat × Tok)} {l : Nat} {t : Tok} (h : Take ts l t r1) (h' : Takes r1 us r2) : Takes ts ((l, t) :: us) r2 := .cons h h'

section
variable {P : Program} {n : Nat} {ro : Option Nat} {G : CtxR P n ro} {l : List Oper} {sl : List (Nat × AV)} {ts : List (Nat × Tok)} {K : Kont} {d : Nat} {ty : TypeId} {pos : String} {after : Array Edge} {bs : List Bool} {rs0 : List (Nat × Tok)} {q : Nat} {r : List Nat} {rest : List Oper}
theorem ar_callA {c : Operand} {xs : List Operand} {tys : Array TypeId} {f : FuncId} {ys zs : List AV} {us rs : List (Nat × Tok)} {Post : List (Nat × Tok) → AV → Prop} [Ent P f] (hF : Fn P f us zs Post) (hc : St.get ⟨sl, ts⟩ c = some (.fn f [])) (hx : gets ⟨sl, ts⟩ xs = some ys) (hl : Les ys zs) (ht : Takes ts us rs) (hd : Nat.blt d n = true)
    (h : ∀ ts' r, Post ts' r → AR G l 0 rest ⟨(d, r) :: sl, ts' ++ rs⟩ K) : AR G l 0 (⟨some d, .call ⟨.value c, xs.toArray, tys⟩, ty, pos, after, none⟩ :: rest) ⟨sl, ts⟩ K :=
  ar_call (fn_args hF hl) hc hx ht hd h
theorem tl_callA {c : Operand} {xs : List Operand} {tys : Array TypeId} {f : FuncId} {ys zs : List AV} {us rs : List (Nat × Tok)} {Post : List (Nat × Tok) → AV → Prop} [Ent P f] (hF : Fn P f us zs Post) (ho : l[q]? = some ⟨some d, .call ⟨.value c, xs.toArray, tys⟩, ty, pos, after, none⟩) (hb : bs.getD q false = false) (hna : isAl l q = false) (hc : St.get ⟨sl, []⟩ c = some (.fn f [])) (hx : gets ⟨sl, []⟩ xs = some ys) (hl : Les ys zs) (ht : Takes ts us rs) (hd : Nat.blt d n = true)
    (h : ∀ ts' x, Post ts' x → TL G l bs rs0 K r ((d, x) :: sl) (ts' ++ rs)) : TL G l bs rs0 K (q :: r) sl ts :=
  tl_call (fn_args hF hl) ho hb hna hc hx ht hd h
theorem ev_callA {st : St} {dst : Option Tmp} {g : Option (Nat × Bool)} {c : Operand} {xs : List Operand} {tys : Array TypeId} {f : FuncId} {ys zs : List AV} {x : AV} [Ent P f] (hF : PFn P f zs x) (hc : st.get c = some (.fn f [])) (hx : gets st xs = some ys) (hl : Les ys zs) : OpEv P ⟨dst, .call ⟨.value c, xs.toArray, tys⟩, ty, pos, after, g⟩ st x :=
  ev_call hc hx (by rw [List.append_nil]; exact fn_args hF hl)
end
end Go.Proofs.YtmenbolalghljaaA
