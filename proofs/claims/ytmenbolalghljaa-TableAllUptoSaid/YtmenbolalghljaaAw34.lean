/- Bundles: a state that says less, by a permutation; maps' values converted. -/
import Derived.Test.YtmenbolalghljaaAw33
set_option linter.unusedVariables false
namespace Go.Proofs.YtmenbolalghljaaA
open Go.RowKit

theorem Sub.perm {st st' : St} (h1 : SlLe st.sl st'.sl) {r : List (Nat × Tok)} (h2 : st.toks.Perm (st'.toks ++ r)) : Sub st st' :=
  fun S R a w hs _ => ⟨fun d y hy => by obtain ⟨x, hx, hle⟩ := h1.get d y hy; exact hle.rep (hs d x hx), r, h2⟩
theorem take_mem {ts : List (Nat × Tok)} {l : Nat} {t : Tok} (h : (l, t) ∈ ts) : ∃ r, Take ts l t r := by
  induction ts with
  | nil => cases h
  | cons p ts ih =>
    rcases List.mem_cons.1 h with h | h
    · subst h; exact ⟨ts, .head⟩
    · obtain ⟨r, hr⟩ := ih h
      exact ⟨p :: r, .tail hr⟩
theorem Cv.imapv {ts : List (Nat × Tok)} {es es' : List (AV × AV)} (hl : es'.length = es.length) (h : ∀ (i : Nat) (p q : AV × AV), es[i]? = some p → es'[i]? = some q → p.1 = q.1 ∧ Cv ts p.2 q.2) : Cv ts (.imap es) (.imap es') := fun S S' R w hh hS hF v hv => by
  have hget : ∀ (i : Nat) (q : AV × AV), es'[i]? = some q → ∃ p, es[i]? = some p := fun i q hq => by
    have := (List.getElem?_eq_some_iff.1 hq).1
    exact ⟨_, List.getElem?_eq_getElem (by omega)⟩
  cases hv with
  | imap hb hh2 hl2 hm hk hv2 =>
    rename_i g ents clock A B
    refine .imap (A := A) (B := B) hb hh2 (by rw [hl2, hl]) (fun i q hq => ?_) (fun i q hq => ?_) (fun i q hq => ?_)
    · obtain ⟨p, hp⟩ := hget i q hq
      exact hm i p hp
    · obtain ⟨p, hp⟩ := hget i q hq
      rw [← (h i p q hp hq).1]
      exact hk i p hp
    · obtain ⟨p, hp⟩ := hget i q hq
      exact (h i p q hp hq).2 S S' R w hh hS hF _ (hv2 i p hp)
/-- Ahead of code: the same tokens in another order. -/
theorem aw_perm {P : Program} {n : Nat} {ro : Option Nat} {G : CtxR P n ro} {c : Code} {sl : List (Nat × AV)} {ts us : List (Nat × Tok)} {K : Kont} (hp : ts.Perm us) (h : AW G c ⟨sl, us⟩ K) : AW G c ⟨sl, ts⟩ K :=
  AW.sub (st' := ⟨sl, us⟩) (fun S R a w hs _ => ⟨hs, [], by rw [List.append_nil]; exact hp⟩) h
end Go.Proofs.YtmenbolalghljaaA
