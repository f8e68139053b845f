/- Calls that take tokens while others are lent. -/
import Derived.Test.YtmenbolalghljaaAw20
set_option linter.unusedVariables false
namespace Go.Proofs.YtmenbolalghljaaA
open Go.RowKit

theorem Bo.ptrd {ts : List (Nat × Tok)} {l i j k : Nat} {e : TypeId} {xs : List (List AV)} {cs ds : List AV} {r : List (Nat × Tok)} (ht : Take ts l (.row e k xs) r) (hc : xs[i]? = some cs) (hd : cs.drop j = ds) : Bo ts (.ptr l i j) (.ip ds) := by subst hd; exact .ptr ht hc
theorem Bo.ownd {ts : List (Nat × Tok)} {l off n k : Nat} {e : TypeId} {xs ys : List (List AV)} {r : List (Nat × Tok)} (ht : Take ts l (.row e k xs) r) (hn : off + n ≤ xs.length) (hd : xs.drop off = ys) : Bo ts (.own l off n) (.sl k ys n) := by subst hd; exact .own ht hn

section
variable {P : Program} {st : St} {dst : Option Tmp} {ty : TypeId} {pos : String} {after : Array Edge} {g : Option (Nat × Bool)}

/-- A call that uses tokens up and answers plainly; what the state holds is lent. -/
theorem effr_callB {c : Operand} {xs : List Operand} {tys : Array TypeId} {f : FuncId} {ys zs : List AV} {us : List (Nat × Tok)} {x : AV} [Ent P f] (hF : Fn P f us zs (fun ts r => ts = [] ∧ r = x)) (hc : st.get c = some (.fn f [])) (hx : gets st xs = some ys) (hb : Bos st.toks ys zs) (hp : plainAV x = true) :
    OpEffR P ⟨dst, .call ⟨.value c, xs.toArray, tys⟩, ty, pos, after, g⟩ st us (fun ts r => ts = [] ∧ r = x) := by
  refine ⟨?_⟩
  intro S R a w hh ho next Q hk
  obtain ⟨vs, hv, hcap⟩ := rep_fn (ho c (by simp [Op.operands, Call.operands]) _ hc)
  have hargs := gets_reps (S := S) (R := R) (w := w) (a := a) hx (fun z hz => ho z (by simp [Op.operands, Call.operands, hz]))
  have hvs : vs.toList = [] := List.eq_nil_of_length_eq_zero (by simpa using hcap.1)
  have hap := List.pairwise_append.1 hh.apart
  have hrd : Holds S R w st.toks := hh.sub ⟨us, List.perm_append_comm⟩
  have hus : Holds S R w us := hh.sub ⟨st.toks, .refl _⟩
  unfold Oper.wp
  rw [run_call hv]
  rw [Oper.upon_enter]
  let S' : Nat → Prop := fun b => S b ∨ Foot R st.toks b
  have hh' : Holds S' R w us := by
    refine ⟨hh.top, hap.1, fun l t hm => (hus.tok l t hm).mono (fun _ h => .inl h) (fun _ _ h => h) (fun _ _ => rfl) (fun _ _ => rfl), ?_, ?_⟩
    · rintro b ⟨l, t, hm, hg⟩ (hb | ⟨l', t', hm', hg'⟩)
      · exact hus.notS b ⟨l, t, hm, hg⟩ hb
      · exact (hap.2.2 _ hm _ hm').2 b hg hg'
    · rintro b (hb | ⟨l, t, hm, hg⟩)
      · exact hh.low b hb
      · exact (hrd.tok l t hm).lt hg
  have hreps : Reps S' R w zs ((xs.map a.eval) ++ vs.toList) := by
    rw [hvs, List.append_nil]
    refine ⟨by rw [hargs.1, hb.len], fun i y hy => ?_⟩
    exact Bos.rep hrd (fun _ h => .inl h) (fun g hg => .inr hg) hb (fun j z hz => hargs.2 j z hz) i y hy
  refine (hF.h S' R w _ hh' hreps).mono ?_
  rintro e w' ⟨v, r, S2, R2, ts', rfl, ⟨rfl, rfl⟩, h2, hrep, o⟩
  have hno : ∀ (R : Lab) (g : Nat), ¬ Foot R [] g := by rintro R g ⟨_, _, h, _⟩; simp at h
  refine hk v _ S R2 w' [] ⟨rfl, rfl⟩ ⟨h2.top, .nil, fun _ _ h => (by cases h), fun g hg => (hno _ g hg).elim, fun b hb => Nat.lt_of_lt_of_le (hh.low b hb) o.size⟩ (plain_rep hp hrep) ⟨o.os, o.tape, o.output, o.size, o.block, fun _ h => h, fun _ h => .inl h, o.R0, fun g hg => (hno _ g hg).elim, fun _ _ h => (by cases h)⟩
end

section
variable {P : Program} {n : Nat} {ro : Option Nat} {G : CtxR P n ro} {l : List Oper} {sl : List (Nat × AV)} {ts : List (Nat × Tok)} {K : Kont} {d : Nat} {ty : TypeId} {pos : String} {after : Array Edge} {bs : List Bool} {rs0 : List (Nat × Tok)} {q : Nat} {r : List Nat}
theorem tl_callB {c : Operand} {xs : List Operand} {tys : Array TypeId} {f : FuncId} {ys zs : List AV} {us rs : List (Nat × Tok)} {x : AV} [Ent P f] (hF : Fn P f us zs (fun ts r => ts = [] ∧ r = x)) (ho : l[q]? = some ⟨some d, .call ⟨.value c, xs.toArray, tys⟩, ty, pos, after, none⟩) (hb : bs.getD q false = false) (hna : isAl l q = false) (hc : St.get ⟨sl, rs0⟩ c = some (.fn f [])) (hx : gets ⟨sl, rs0⟩ xs = some ys) (hbo : Bos rs0 ys zs) (hp : plainAV x = true) (ht : Takes ts us rs) (hd : Nat.blt d n = true)
    (h : TL G l bs rs0 K r ((d, x) :: sl) rs) : TL G l bs rs0 K (q :: r) sl ts :=
  .effr ho hb hna (.inl rfl) ht (effr_callB hF hc hx hbo hp) hd fun ts' y ⟨h1, h2⟩ => by subst h1; subst h2; exact h
end

end Go.Proofs.YtmenbolalghljaaA
