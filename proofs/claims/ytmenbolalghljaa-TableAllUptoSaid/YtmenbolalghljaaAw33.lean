/- Maps that are only read. -/
import Derived.Test.YtmenbolalghljaaAwS1
import Derived.Test.YtmenbolalghljaaAw32
set_option linter.unusedVariables false
namespace Go.Proofs.YtmenbolalghljaaA
open Go.RowKit

theorem mapAt_imap {S : Nat → Prop} {R : Lab} {w : World} {g : Nat} {ents : Array MapEntry} {clock : _} {es : List (AV × AV)} (hS : S g) (hh : w.heap[g]? = some (.map ents clock)) (h : MapAt S R w ents es) : RepV S R w (.imap es) (.map (some g)) := by
  obtain ⟨hl, h⟩ := h
  refine .imap (A := fun i => match ents[i]? with | some m => m.key | none => undef) (B := fun i => match ents[i]? with | some m => m.val | none => undef) hS hh hl (fun i p hp => ?_) (fun i p hp => ?_) (fun i p hp => ?_)
  · obtain ⟨m, hm, _⟩ := h i p hp
    exact ⟨m, hm, by simp only [hm], by simp only [hm]⟩
  · obtain ⟨m, hm, h1, _⟩ := h i p hp
    simpa only [hm] using h1
  · obtain ⟨m, hm, _, h2⟩ := h i p hp
    simpa only [hm] using h2
theorem imap_mapAt {S : Nat → Prop} {R : Lab} {w : World} {es : List (AV × AV)} {v : Value} (h : RepV S R w (.imap es) v) : ∃ g ents clock, v = .map (some g) ∧ w.heap[g]? = some (.map ents clock) ∧ MapAt S R w ents es := by
  cases h with
  | imap hS hh hl hm hk hv =>
    refine ⟨_, _, _, rfl, hh, hl, fun i p hp => ?_⟩
    obtain ⟨m, h1, h2, h3⟩ := hm i p hp
    exact ⟨m, h1, h2 ▸ hk i p hp, h3 ▸ hv i p hp⟩

theorem Cv.map {ts r : List (Nat × Tok)} {l : Nat} {es : List (AV × AV)} (ht : Take ts l (.map es) r) : Cv ts (.mref l) (.imap es) := fun S S' R w hh hS hF v hv => by
  have htok := hh.tok l _ (ht.perm.mem_iff.2 List.mem_cons_self)
  cases hv with
  | mref h =>
    rename_i q
    simp only [TokHolds, h] at htok
    obtain ⟨ents, clock, hg, hl, hat⟩ := htok
    refine mapAt_imap (hF _ ⟨l, _, ht.perm.mem_iff.2 List.mem_cons_self, by simp [blkOf, h]⟩) hg ⟨hl, fun i p hp => ?_⟩
    obtain ⟨m, h1, h2, h3⟩ := hat i p hp
    exact ⟨m, h1, h2.mono hS (fun _ _ h => h) (fun _ _ => rfl), h3.mono hS (fun _ _ h => h) (fun _ _ => rfl)⟩

section
variable {P : Program} {st : St} {dst : Option Tmp} {ty : TypeId} {pos : String} {after : Array Edge} {g : Option (Nat × Bool)}
theorem look_runi {t kt e : TypeId} {ks : List CK} {x ix : Operand} {us : List Value} {es : List (List Value × AV)} {ok : Bool} [hm : Und P t (.map kt e)] [hk : KeyF P kt ks] {S : Nat → Prop} {R : Lab} {a : Act} {w : World} (hx : RepV S R w (.imap (encE es)) (a.eval x)) (hi : a.eval ix = .agg us.toArray) (hu : fitsB ks us = true) (hfit : ∀ p, p ∈ es → fitsB ks p.1 = true) :
    (findIx us es = none → ∀ z, (zeroValue e).run P w = .ok z w → (execOp a.eval ⟨dst, .lookup t x ix ok, ty, pos, after, g⟩).run P w = .ok (.value (if ok then .tuple #[z, .bool false] else z)) w) ∧
    (∀ i p, findIx us es = some i → es[i]? = some p → ∃ v, RepV S R w p.2 v ∧ (execOp a.eval ⟨dst, .lookup t x ix ok, ty, pos, after, g⟩).run P w = .ok (.value (if ok then .tuple #[v, .bool true] else v)) w) := by
  obtain ⟨gg, ents, clock, hxe, hg, hat⟩ := imap_mapAt hx
  obtain ⟨h1, h2⟩ := mapAt_get hat
  have hf := run_findKey (P := P) (kt := kt) (w := w) hu ents.toList es h1 (fun i m p hm hp => (h2 i m p hm hp).1) hfit
  have hget := Go.MapKept.run_getObj_map (P := P) hg
  constructor
  · intro hn z hz
    have hf1 := hf.1 hn
    simp [execOp, Instr.lookup, run_underlying hm.h, hxe, hi, hget, hk.chk _ us w hu, hf1, hz]
  · intro i p hi2 hp
    obtain ⟨m, hm1, hm2⟩ := hf.2 i hi2
    refine ⟨m.val, (h2 i m p hm1 hp).2, ?_⟩
    simp [execOp, Instr.lookup, run_underlying hm.h, hxe, hi, hget, hk.chk _ us w hu, hm2]
/-- m[k] of a map that is only read. -/
theorem ev_lookupi {t kt e : TypeId} {ks : List CK} {z : Value} {k b : Nat} {ag : Bool} {x ix : Operand} {cs : List AV} {us : List Value} {es : List (List Value × AV)} [hm : Und P t (.map kt e)] [hk : KeyF P kt ks] [he : ElF P e z k b] [hag : AgF P e ag] (hx : st.get x = some (.imap (encE es))) (hi : st.get ix = some (.agg cs)) (hp : plains cs = some us) (hu : fitsB ks us = true) (hfit : ∀ p, p ∈ es → fitsB ks p.1 = true) (hz : ag = true → ∃ zs, z = .agg zs) :
    OpEv P ⟨dst, .lookup t x ix false, ty, pos, after, g⟩ st (match (findIx us es).bind (es[·]?) with | some p => p.2 | none => zeroAV ag z) := by
  refine ev_same fun S R a w hh ho => ?_
  have hxv := ho x (by simp [Op.operands]) _ hx
  have hiv := ho ix (by simp [Op.operands]) _ hi
  rw [plains_map hp] at hiv
  have hie : a.eval ix = .agg us.toArray := by
    generalize a.eval ix = iv at hiv
    cases hiv with
    | agg hl hf => rw [agg_vals (.agg hl hf)]
  have hl := look_runi (P := P) (t := t) (dst := dst) (ty := ty) (pos := pos) (after := after) (g := g) (ok := false) hxv hie hu hfit
  cases hfx : findIx us es with
  | none =>
    refine ⟨_, hl.1 hfx z (ElF.zero (P := P) (t := e) w), ?_⟩
    simp only [Option.bind_none, Bool.false_eq_true, if_false]
    unfold zeroAV
    cases ag with
    | false => exact .val _
    | true =>
      obtain ⟨zs, rfl⟩ := hz rfl
      simp only [if_true]
      refine .agg (by simp [vcells, Value.cells]) fun i y hy => ?_
      simp only [vcells, Value.cells, List.getElem?_map, Option.map_eq_some_iff] at hy
      obtain ⟨u, hu, rfl⟩ := hy
      have : zs.getD i undef = u := by
        simp only [Array.getElem?_toList] at hu
        simp [Array.getD_eq_getD_getElem?, hu]
      rw [this]; exact .val _
  | some i =>
    obtain ⟨p, hp⟩ := findIx_lt hfx
    obtain ⟨v, hv, hrun⟩ := hl.2 i p hfx hp
    refine ⟨_, hrun, ?_⟩
    simp only [Option.bind_some, hp, Bool.false_eq_true, if_false]
    exact hv
end
/-- From here on the code is walked once for all states I i. -/
theorem aw_via {P : Program} {n : Nat} {ro : Option Nat} {G : CtxR P n ro} {c : Code} {st : St} {K : Kont} {ι : Type} (I : ι → St) (h1 : (∀ i, AW G c (I i) K) → AW G c st K) (h2 : ∀ i, AW G c (I i) K) : AW G c st K := h1 h2
section
variable {P : Program} {n : Nat} {ro : Option Nat} {G : CtxR P n ro} {K : Kont} {st : St}
theorem row_adopt {S : Nat → Prop} {R : Lab} {w : World} {l N i j k : Nat} {e : TypeId} {xs : List (List AV)} {cs : List AV} (hN : R N = none) (hi : xs[i]? = some cs) (hj : cs[j]? = some (.val (.slice none 0 0))) (h : TokHolds S R w l (.row e k xs)) : TokHolds S (bindL R N none) w l (.row e k (xs.set i (cs.set j (.own N 0 0)))) := by
  unfold TokHolds at h ⊢
  split at h
  · rename_i e1
    cases e1
    simp_all
  · rename_i q ty k' xs' e1 e2
    cases e2
    rw [bindL_mono hN _ _ e1]
    obtain ⟨hk, cur, fr, hh, hfr, hs, hb, hm, hrow⟩ := h
    refine ⟨hk, cur, fr, hh, hfr, hs, by rw [List.length_set]; exact hb, hm, fun i' x hx => ?_⟩
    have hlt := (List.getElem?_eq_some_iff.1 hi).1
    have hmono : ∀ {y : AV} {u : Value}, RepV S R w y u → RepV S (bindL R N none) w y u := fun h => h.mono (fun _ h => h) (bindL_mono hN) (fun _ _ => rfl)
    by_cases hii : i = i'
    · subst hii
      rw [List.getElem?_set_self hlt] at hx
      cases hx
      obtain ⟨hl, hc⟩ := hrow i cs hi
      refine ⟨by rw [List.length_set]; exact hl, fun j' y hy => ?_⟩
      have hjl := (List.getElem?_eq_some_iff.1 hj).1
      by_cases hjj : j = j'
      · subst hjj
        rw [List.getElem?_set_self hjl] at hy
        cases hy
        obtain ⟨_, u, hu, hr⟩ := hc j _ hj
        refine ⟨rfl, u, hu, ?_⟩
        rw [rep_val hr]
        exact .onil bindL_same
      · rw [List.getElem?_set_ne hjj] at hy
        obtain ⟨h1, u, hu, hr⟩ := hc j' y hy
        exact ⟨h1, u, hu, hmono hr⟩
    · rw [List.getElem?_set_ne hii] at hx
      obtain ⟨hl, hc⟩ := hrow i' x hx
      refine ⟨hl, fun j' y hy => ?_⟩
      obtain ⟨h1, u, hu, hr⟩ := hc j' y hy
      exact ⟨h1, u, hu, hmono hr⟩
  · rename_i e2; cases e2
  · rename_i e2; cases e2
  · exact h.elim

/-- A nil slice in a cell as a row of one's own. -/
theorem aw_adoptc {c : Code} {l i j k : Nat} {e : TypeId} (e2 : TypeId) (k2 : Nat) {xs : List (List AV)} {cs : List AV} {r : List (Nat × Tok)} (ht : Take st.toks l (.row e k xs) r) (hi : xs[i]? = some cs) (hj : cs[j]? = some (.val (.slice none 0 0)))
    (h : ∀ lab, AW G c ⟨st.sl, (lab, .row e2 k2 []) :: (l, .row e k (xs.set i (cs.set j (.own lab 0 0)))) :: r⟩ K) : AW G c st K := by
  refine ⟨?_⟩
  rintro a w ⟨S, R, hr0⟩
  have hr : RelAt G S R ⟨st.sl, (l, .row e k xs) :: r⟩ a w := ⟨hr0.holds.sub ⟨[], by simpa using ht.perm⟩, hr0.slots, hr0.out.sub (fun p hp => ht.perm.mem_iff.2 hp), hr0.defers, hr0.size⟩
  obtain ⟨N, hN⟩ := hr.holds.free
  have hb : ∀ p, p ∈ (l, Tok.row e k xs) :: r → blkOf (bindL R N none) p.1 = blkOf R p.1 := fun p hp => blkOf_mono (bindL_mono hN) (hr.holds.tok p.1 p.2 hp).bound
  have hlb := hb (l, .row e k xs) List.mem_cons_self
  have hfoot : ∀ g, Foot (bindL R N none) ((N, .row e2 k2 []) :: (l, .row e k (xs.set i (cs.set j (.own N 0 0)))) :: r) g → Foot R ((l, .row e k xs) :: r) g := by
    rintro g ⟨l', t', hm, hg⟩
    rcases List.mem_cons.1 hm with h1 | h1
    · cases h1; simp [blkOf, bindL_same] at hg
    · rcases List.mem_cons.1 h1 with h2 | h2
      · cases h2
        rw [hlb] at hg
        exact ⟨l, _, List.mem_cons_self, hg⟩
      · rw [hb (l', t') (List.mem_cons_of_mem _ h2)] at hg
        exact ⟨l', t', List.mem_cons_of_mem _ h2, hg⟩
  have hmono : ∀ {y : AV} {u : Value}, RepV S R w y u → RepV S (bindL R N none) w y u := fun h => h.mono (fun _ h => h) (bindL_mono hN) (fun _ _ => rfl)
  have hne : ∀ p, p ∈ (l, Tok.row e k xs) :: r → N ≠ p.1 := fun p hp e1 => by
    obtain ⟨q, hq⟩ := (hr.holds.tok p.1 p.2 hp).bound
    rw [← e1, hN] at hq; cases hq
  have hap := List.pairwise_cons.1 hr.holds.apart
  refine (h N).h a w ⟨S, bindL R N none, ⟨bindL_top hr.holds.top, ?_, ?_, fun g hg => hr.holds.notS g (hfoot g hg), hr.holds.low⟩, ?_, ?_, hr.defers, hr.size⟩
  · refine List.pairwise_cons.2 ⟨fun p hp => ⟨fun e1 => ?_, fun g hg => ?_⟩, List.pairwise_cons.2 ⟨fun p hp => ⟨(hap.1 p hp).1, fun g hg => ?_⟩, hap.2.imp_of_mem fun {p q} hp hq hpq => ⟨hpq.1, fun g => ?_⟩⟩⟩
    · rcases List.mem_cons.1 hp with h2 | h2
      · subst h2; exact hne (l, .row e k xs) List.mem_cons_self e1
      · exact hne p (List.mem_cons_of_mem _ h2) e1
    · simp [blkOf, bindL_same] at hg
    · rw [hb p (List.mem_cons_of_mem _ hp)]
      exact (hap.1 p hp).2 g (by rw [← hlb]; exact hg)
    · rw [hb p (List.mem_cons_of_mem _ hp), hb q (List.mem_cons_of_mem _ hq)]
      exact hpq.2 g
  · intro l' t' hm
    rcases List.mem_cons.1 hm with h1 | h1
    · cases h1; simp [TokHolds, bindL_same]
    · rcases List.mem_cons.1 h1 with h2 | h2
      · cases h2; exact row_adopt hN hi hj (hr.holds.tok l _ List.mem_cons_self)
      · exact (hr.holds.tok l' t' (List.mem_cons_of_mem _ h2)).mono (fun _ h => h) (bindL_mono hN) (fun _ _ => rfl) (fun _ _ => rfl)
  · exact fun d x hx => hmono (hr.slots d x hx)
  · have o := hr.out
    refine ⟨o.os, o.tape, o.output, o.size, o.block, o.S0, o.S1, fun l q hq => bindL_mono hN _ _ (o.R0 l q hq), fun g hg => o.foot g (hfoot g hg), fun l' t' hm => ?_⟩
    rcases List.mem_cons.1 hm with h1 | h1
    · cases h1
      refine .inr ?_
      cases hq : G.R0 N with
      | none => rfl
      | some q => have := o.R0 N q hq; rw [hN] at this; cases this
    · rcases List.mem_cons.1 h1 with h2 | h2
      · cases h2; exact o.keys l _ List.mem_cons_self
      · exact o.keys l' t' (List.mem_cons_of_mem _ h2)
end
section
variable {P : Program} {n : Nat} {ro : Option Nat} {G : CtxR P n ro} {K : Kont} {st : St}
theorem row_cvc {S : Nat → Prop} {R : Lab} {w : World} {l i j k : Nat} {e : TypeId} {xs : List (List AV)} {cs : List AV} {x y : AV} (hi : xs[i]? = some cs) (hj : cs[j]? = some x) (hy : y.one = true) (hc : ∀ u, RepV S R w x u → RepV S R w y u) (h : TokHolds S R w l (.row e k xs)) : TokHolds S R w l (.row e k (xs.set i (cs.set j y))) := by
  unfold TokHolds at h ⊢
  split at h
  · rename_i e1
    cases e1
    simp_all
  · rename_i q ty k' xs' e1 e2
    cases e2
    rw [e1]
    obtain ⟨hk, cur, fr, hh, hfr, hs, hb, hm, hrow⟩ := h
    refine ⟨hk, cur, fr, hh, hfr, hs, by rw [List.length_set]; exact hb, hm, fun i' z hz => ?_⟩
    have hlt := (List.getElem?_eq_some_iff.1 hi).1
    by_cases hii : i = i'
    · subst hii
      rw [List.getElem?_set_self hlt] at hz
      cases hz
      obtain ⟨hl, hcell⟩ := hrow i cs hi
      refine ⟨by rw [List.length_set]; exact hl, fun j' z hz => ?_⟩
      have hjl := (List.getElem?_eq_some_iff.1 hj).1
      by_cases hjj : j = j'
      · subst hjj
        rw [List.getElem?_set_self hjl] at hz
        cases hz
        obtain ⟨_, u, hu, hr⟩ := hcell j _ hj
        exact ⟨hy, u, hu, hc u hr⟩
      · rw [List.getElem?_set_ne hjj] at hz
        exact hcell j' z hz
    · rw [List.getElem?_set_ne hii] at hz
      exact hrow i' z hz
  · rename_i e2; cases e2
  · rename_i e2; cases e2
  · exact h.elim

/-- What a cell of one's own holds is no longer written, nor what it reaches. -/
theorem aw_cvc {c : Code} {l i j k : Nat} {e : TypeId} {xs : List (List AV)} {cs : List AV} {x y : AV} {us rs0 rs : List (Nat × Tok)} (ht : Takes st.toks us rs0) (hl : Take rs0 l (.row e k xs) rs) (hi : xs[i]? = some cs) (hj : cs[j]? = some x) (hcv : Cv us x y) (hy : y.one = true)
    (h : AW G c ⟨st.sl, (l, .row e k (xs.set i (cs.set j y))) :: rs⟩ K) : AW G c st K := by
  refine ⟨?_⟩
  rintro a w ⟨S, R, hr⟩
  have hperm : st.toks.Perm (us ++ ((l, .row e k xs) :: rs)) := ht.perm.trans (hl.perm.append_left us)
  have ha : Holds S R w (us ++ ((l, .row e k xs) :: rs)) := hr.holds.sub ⟨[], by simpa using hperm⟩
  have h1 : Holds S R w us := ha.sub ⟨_, .refl _⟩
  have h2 : Holds S R w ((l, .row e k xs) :: rs) := ha.sub ⟨us, List.perm_append_comm⟩
  have hap := List.pairwise_append.1 ha.apart
  have hin1 : ∀ p, p ∈ us → p ∈ st.toks := fun p hp => hperm.mem_iff.2 (List.mem_append_left _ hp)
  have hin2 : ∀ p, p ∈ (l, Tok.row e k xs) :: rs → p ∈ st.toks := fun p hp => hperm.mem_iff.2 (List.mem_append_right _ hp)
  have hmono : ∀ {y : AV} {u : Value}, RepV S R w y u → RepV (fun b => S b ∨ Foot R us b) R w y u := fun h => h.mono (fun _ h => .inl h) (fun _ _ h => h) (fun _ _ => rfl)
  have hfoot : ∀ g, Foot R ((l, .row e k (xs.set i (cs.set j y))) :: rs) g → Foot R ((l, .row e k xs) :: rs) g := by
    rintro g ⟨l', t', hm, hg⟩
    rcases List.mem_cons.1 hm with h3 | h3
    · cases h3; exact ⟨l, _, List.mem_cons_self, hg⟩
    · exact ⟨l', t', List.mem_cons_of_mem _ h3, hg⟩
  refine h.h a w ⟨fun b => S b ∨ Foot R us b, R, ⟨hr.holds.top, ?_, ?_, ?_, ?_⟩, fun d x hx => hmono (hr.slots d x hx), ?_, hr.defers, hr.size⟩
  · have := List.pairwise_cons.1 hap.2.1
    exact List.pairwise_cons.2 ⟨fun p hp => this.1 p hp, this.2⟩
  · intro l' t' hm
    rcases List.mem_cons.1 hm with h3 | h3
    · cases h3
      exact row_cvc hi hj hy (fun u hu => hcv S _ R w h1 (fun _ h => .inl h) (fun g hg => .inr hg) u hu) ((h2.tok l _ List.mem_cons_self).mono (fun _ h => .inl h) (fun _ _ h => h) (fun _ _ => rfl) (fun _ _ => rfl))
    · exact (h2.tok l' t' (List.mem_cons_of_mem _ h3)).mono (fun _ h => .inl h) (fun _ _ h => h) (fun _ _ => rfl) (fun _ _ => rfl)
  · rintro g hf (hb | ⟨l', t', hm', hg'⟩)
    · exact h2.notS g (hfoot g hf) hb
    · obtain ⟨l2, t2, hm2, hg2⟩ := hfoot g hf
      exact (hap.2.2 _ hm' _ hm2).2 g hg' hg2
  · rintro b (hb | ⟨l', t', hm, hg⟩)
    · exact hr.holds.low b hb
    · exact (h1.tok l' t' hm).lt hg
  · have o := hr.out
    refine ⟨o.os, o.tape, o.output, o.size, o.block, fun b hb => .inl (o.S0 b hb), ?_, o.R0, fun g hf => ?_, fun l' t' hm => ?_⟩
    · rintro b (hb | ⟨l', t', hm, hg⟩)
      · exact o.S1 b hb
      · exact .inr (o.foot b ⟨l', t', hin1 _ hm, hg⟩)
    · obtain ⟨l2, t2, hm2, hg2⟩ := hfoot g hf
      exact o.foot g ⟨l2, t2, hin2 _ hm2, hg2⟩
    · rcases List.mem_cons.1 hm with h3 | h3
      · cases h3; exact o.keys l _ (hin2 _ List.mem_cons_self)
      · exact o.keys l' t' (hin2 _ (List.mem_cons_of_mem _ h3))
end
section
variable {P : Program} {st : St} {dst : Option Tmp} {ty : TypeId} {pos : String} {after : Array Edge} {g : Option (Nat × Bool)}
/-- What makes something new reckons, if nobody will write that. -/
theorem ev_of_eff {o : Oper} {Post : List (Nat × Tok) → AV → Prop} {x : AV} (he : OpEff P o st [] Post) (hc : ∀ ts r, Post ts r → Cv ts r x) : OpEv P o st x := ⟨fun S R a w hh ho next Q hk => by
  have h0 : Holds S R w [] := ⟨hh.top, by simp, by simp, by rintro g ⟨_, _, h, _⟩; simp at h, hh.low⟩
  refine he.h S R a w h0 ho next Q fun v r S' R' w' ts' hp hh' hr o => ?_
  have hf : ∀ b, ¬ Foot R [] b := by rintro b ⟨_, _, h, _⟩; simp at h
  refine hk v (fun b => S' b ∨ Foot R' ts' b) R' w' ⟨⟨o.os, o.tape, o.output, o.size, fun b hb => o.block b hb (hf b)⟩, fun b hb => .inl (o.S0 b hb), ?_, o.R0, hh'.top⟩ (hc ts' r hp S' _ R' w' hh' (fun _ h => .inl h) (fun g hg => .inr hg) v (hr.mono (fun _ h => .inl h) (fun _ _ h => h) (fun _ _ => rfl)))
  rintro b (hb | ⟨l, t, hm, hg⟩)
  · rcases o.S1 b hb with h1 | h1 | h1
    · exact .inl h1
    · exact (hf b h1).elim
    · exact .inr ⟨h1, hh'.low b hb⟩
  · refine .inr ⟨?_, (hh'.tok l t hm).lt hg⟩
    rcases o.foot b ⟨l, t, hm, hg⟩ with h1 | h1
    · exact (hf b h1).elim
    · exact h1⟩
/-- append(nil, ys...), only read from then on. -/
theorem ev_append_nil {t e : TypeId} {x y : Operand} {k b m : Nat} {z : Value} {ys : List (List AV)} [hu : Und P t (.slice e)] [he : ElF P e z k b] (hx : st.get x = some (.val (.slice none 0 0))) (hy : st.get y = some (.sl k ys m)) (hm : m = ys.length) (hb : m * b ≤ 140737488355328) (hnm : m ≤ 140737488355328) :
    OpEv P ⟨dst, .call ⟨.builtin .append, #[x, y], #[t, t]⟩, ty, pos, after, g⟩ st (.sl k ys m) :=
  ev_of_eff (eff_append_nil hx hy hb hnm) (by
    rintro _ _ ⟨l', rfl, rfl⟩
    rw [List.take_of_length_le (by omega)]
    exact Cv.own0 .head (by omega))
end
section
variable {P : Program} {st : St} {dst : Option Tmp} {ty : TypeId} {pos : String} {after : Array Edge} {g : Option (Nat × Bool)}
/-- append(own, ys...), and what it was made longer from can still be read: it stands in its place, or the new one stands in a block of its own. -/
theorem eff_append_keep {t e : TypeId} {x y : Operand} {k b l n m : Nat} {z : Value} {xs ys : List (List AV)} [hu : Und P t (.slice e)] [he : ElF P e z k b] (hx : st.get x = some (.own l 0 n)) (hy : st.get y = some (.sl k ys m)) (hoff : n ≤ xs.length) (hb : (n + m) * b ≤ 140737488355328) (hnm : n + m ≤ 140737488355328) :
    OpEff P ⟨dst, .call ⟨.builtin .append, #[x, y], #[t, t]⟩, ty, pos, after, g⟩ st [(l, .row e k xs)] (fun ts r => (ts = [(l, .row e k (xs.take n ++ ys.take m))] ∧ r = .own l 0 (n + m)) ∨ ∃ l', ts = [(l', .row e k (xs.take n ++ ys.take m)), (l, .row e k xs)] ∧ r = .own l' 0 (n + m)) := by
  refine ⟨?_⟩
  intro S R a w hh ho next Q hk
  have hxv := ho x (by simp [Op.operands, Call.operands]) _ hx
  have hyv := ho y (by simp [Op.operands, Call.operands]) _ hy
  obtain ⟨news, hs, hrep⟩ := src_sl (P := P) hu.h hyv
  have hm : (ys.take m).length = m := by
    generalize a.eval y = u at hyv
    cases hyv with
    | sl hn _ _ _ _ _ _ => simp; omega
  obtain ⟨r, w', R', N, hrun, h1, h2, h3, hN, h4⟩ := app_core2 (P := P) (ty := ty) (t := t) (t2 := t) (ys := ys.take m) hh hxv (by omega) hs (fun i x hx' hi => hrep i x hi (by rwa [List.getElem?_take, if_pos hi] at hx')) hm hb hnm
  unfold Oper.wp
  rw [exec_append hrun]
  rw [List.drop_zero] at h1 h3 h4
  have hne : N ≠ l := fun e => by
    obtain ⟨q, hq⟩ := (hh.tok l _ List.mem_cons_self).bound
    rw [← e, hN] at hq; cases hq
  rcases h4 with ⟨q, hq, hq'⟩ | h4
  · rw [Nat.add_zero] at hq'
    have hRl : R' l = some (some q) := h3.R0 l _ hq
    have hqe : (⟨q.g, q.b, q.k, q.t⟩ : Blk) = q := rfl
    rw [hqe] at hq'
    have hblk : blkOf R' l = blkOf R' N := by simp [blkOf, hRl, hq']
    have htokN := h1.tok N _ List.mem_cons_self
    have hfoot : ∀ g, Foot R' [(l, Tok.row e k (xs.take n ++ ys.take m))] g → Foot R' [(N, Tok.row e k (xs.take n ++ ys.take m))] g := by
      rintro g ⟨l', t', hm', hg⟩
      simp at hm'
      obtain ⟨rfl, rfl⟩ := hm'
      exact ⟨N, _, List.mem_cons_self, by rw [← hblk]; exact hg⟩
    refine hk r (.own l 0 (n + m)) S R' w' [(l, .row e k (xs.take n ++ ys.take m))] (.inl ⟨rfl, rfl⟩) ⟨h1.top, by simp, ?_, fun g hg => h1.notS g (hfoot g hg), h1.low⟩ ?_ ⟨h3.os, h3.tape, h3.output, h3.size, h3.block, h3.S0, h3.S1, h3.R0, fun g hg => h3.foot g (hfoot g hg), ?_⟩
    · intro l' t' hm'
      simp at hm'
      obtain ⟨rfl, rfl⟩ := hm'
      simp only [TokHolds, hRl]
      simpa only [TokHolds, hq'] using htokN
    · generalize n + m = nm at h2 ⊢
      cases h2 with
      | own h5 h6 h7 h8 h9 h10 =>
        rw [hq'] at h5
        cases h5
        exact .own hRl h6 h7 h8 h9 h10
      | onil h5 => rw [hq'] at h5; cases h5
    · intro l' t' hm'
      simp at hm'
      obtain ⟨rfl, rfl⟩ := hm'
      exact .inl ⟨_, List.mem_cons_self⟩
  · have hno : ∀ g, ¬ Foot R [] g := by rintro g ⟨_, _, h, _⟩; simp at h
    have htl := hh.tok l _ List.mem_cons_self
    have hbl : blkOf R' l = blkOf R l := blkOf_mono h3.R0 htl.bound
    have hbN : ∀ g, blkOf R' N = some g → w.heap.size ≤ g := fun g hg => (h4.foot g ⟨N, _, List.mem_cons_self, hg⟩).resolve_left (hno g)
    refine hk r (.own N 0 (n + m)) S R' w' [(N, .row e k (xs.take n ++ ys.take m)), (l, .row e k xs)] (.inr ⟨N, rfl, rfl⟩) ⟨h1.top, ?_, ?_, ?_, h1.low⟩ h2 ⟨h3.os, h3.tape, h3.output, h3.size, h3.block, h3.S0, h3.S1, h3.R0, ?_, ?_⟩
    · refine List.pairwise_cons.2 ⟨fun p hp => ⟨fun e1 => ?_, fun g hg => ?_⟩, by simp⟩
      · obtain rfl := List.mem_singleton.1 hp; exact hne e1
      · obtain rfl := List.mem_singleton.1 hp
        show blkOf R' l ≠ some g
        rw [hbl]
        intro hl
        have := htl.lt hl
        have := hbN g hg
        omega
    · intro l' t' hm'
      rcases List.mem_cons.1 hm' with h5 | h5
      · cases h5; exact h1.tok N _ List.mem_cons_self
      · cases List.mem_singleton.1 h5
        exact htl.mono (fun _ h => h) h3.R0 (fun b hb => h4.block b (hh.low b hb) (hno b)) (fun g hg => h4.block g (htl.lt hg) (hno g))
    · rintro g ⟨l', t', hm', hg⟩
      rcases List.mem_cons.1 hm' with h5 | h5
      · cases h5; exact h1.notS g ⟨N, _, List.mem_cons_self, hg⟩
      · cases List.mem_singleton.1 h5
        rw [hbl] at hg
        exact hh.notS g ⟨l, _, List.mem_cons_self, hg⟩
    · rintro g ⟨l', t', hm', hg⟩
      rcases List.mem_cons.1 hm' with h5 | h5
      · cases h5; exact .inr (hbN g hg)
      · cases List.mem_singleton.1 h5
        rw [hbl] at hg
        exact .inl ⟨l, _, List.mem_cons_self, hg⟩
    · intro l' t' hm'
      rcases List.mem_cons.1 hm' with h5 | h5
      · cases h5; exact .inr hN
      · cases List.mem_singleton.1 h5; exact .inl ⟨_, List.mem_cons_self⟩
end
end Go.Proofs.YtmenbolalghljaaA
