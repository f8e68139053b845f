/- A function that holds a range over a bound method. -/
import Derived.Test.YtmenbolalghljaaAw36
namespace Go.Proofs.YtmenbolalghljaaA
open Go.RowKit

section
variable {P : Program} {n : Nat}

/-- What one owes of the statement, of what stands behind it in the function too. -/
structure Rng (P : Program) (n : Nat) (g : Operand) (p1 p2 : Tmp) (as bd D : Code) (rvs : Array ResultVar) (Post : List (Nat × Tok) → AV → Prop) (st : St) where
  α : Type
  sl : List (Nat × AV)
  us : List (Nat × Tok)
  gf : FuncId
  bs : List AV
  e1 : α → AV
  e2 : α → AV
  N : Nat
  S : List α → Prop
  Sp : List α → Prop
  I : List α → List (Nat × Tok) → Prop
  X : List α → List (Nat × Tok) → Prop
  ent : Ent P gf
  sub : Sub st ⟨sl, us⟩
  get : St.get ⟨sl, us⟩ g = some (.bm gf bs)
  h0 : I [] us
  hp1 : p1 < n
  hp2 : p2 < n
  hne : p1 ≠ p2
  hit : ∀ (B : Base) (l : Nat) (J Jx : List α → List (Nat × Tok) → Prop), (∀ pre x ts, J pre ts → pre.length < N → Yld B P l ts [e1 x, e2 x] (fun ts' r => (r = .val (.bool true) ∧ J (pre ++ [x]) ts') ∨ (r = .val (.bool false) ∧ Jx (pre ++ [x]) ts'))) →
    ∀ ts, J [] ts → FnB B P gf ts (bs ++ [.val (.func (.yield l) #[] #[])]) (fun ts' _ => (∃ xs, S xs ∧ J xs ts') ∨ (∃ pre, Sp pre ∧ Jx pre ts'))
  hround : ∀ (l : Nat) (G' : CtxR P n (some l)) (pre : List α) (x : α) (ts : List (Nat × Tok)), I pre ts → pre.length < N → ∀ rt, AW G' as ⟨(p1, e1 x) :: (p2, e2 x) :: sl, ts ++ rt⟩ (.nil fun e st => e = .normal ∧ ∃ sl2 ts2, Sub st ⟨sl2, ts2 ++ rt⟩ ∧
    ∀ rt', AW G' bd ⟨sl2, ts2 ++ rt'⟩ (.nil fun e st => (e = .normal ∧ ∃ ts', I (pre ++ [x]) ts' ∧ Sub st ⟨[], ts' ++ rt'⟩) ∨ (e = .ret ∧ ∃ ts', X (pre ++ [x]) ts' ∧ Sub st ⟨[], ts' ++ rt'⟩)))
  hdone : ∀ (G2 : Ctx P n) (xs : List α) (ts rt : List (Nat × Tok)), S xs → I xs ts → AW G2 D ⟨sl, ts ++ rt⟩ (.nil fun e st => (e = .normal ∨ e = .ret) ∧ ∃ slf tsf, Sub st ⟨slf, tsf ++ rt⟩ ∧ ResQ P rvs Post ⟨slf, tsf⟩)
  hstop : ∀ (pre : List α) (ts : List (Nat × Tok)), Sp pre → X pre ts → ResQ P rvs Post ⟨sl, ts⟩

def CtxR.wds {ro : Option Nat} (G : CtxR P n ro) (ds : List Deferred) : CtxR P n ro := ⟨G.w0, G.S0, G.R0, G.F0, G.K0, ds⟩
/-- How it is left. -/
def Fin (G : Ctx P n) (rvs : Array ResultVar) (Post : List (Nat × Tok) → AV → Prop) (a : Act) (w : World) : Prop :=
  ∃ (q : Blk) (S : Nat → Prop) (R : Lab) (N : Nat) (sl : List (Nat × AV)) (ts : List (Nat × Tok)), RelAt (G.wds [{ target := .collected q.g, args := #[] }]) S R ⟨sl, (N, .obj (.deferred (some []))) :: ts⟩ a w ∧ R N = some (some q) ∧ ResQ P rvs Post ⟨sl, ts⟩

theorem RelAt.ds {G : Ctx P n} {S : Nat → Prop} {R : Lab} {st : St} {a : Act} {w : World} (hr : RelAt G S R st a w) (ds : List Deferred) : RelAt (G.wds ds) S R st { a with defers := ds } w :=
  ⟨hr.holds, hr.slots, hr.out, rfl, hr.size⟩

theorem rng_wp {G : Ctx P n} (hds : G.ds = []) {g : Operand} {p1 p2 : Tmp} {as bd D : Code} {rvs : Array ResultVar} {Post : List (Nat × Tok) → AV → Prop} {st : St} (h : Rng P n g p1 p2 as bd D rvs Post st) {a : Act} {w : World} (hr0 : Rel G st a w) {Q : Exit → Act → World → Prop}
    (hn : ∀ a' w', D.wpIn Fence.wide 0 P (fun e a w => (e = .normal ∨ e = .ret) ∧ Fin G rvs Post a w) a' w' → Q .normal a' w') (hq : ∀ a' w', Fin G rvs Post a' w' → Q .ret a' w') : (Code.rangeFunc g #[p1, p2] as bd).wpIn Fence.wide 0 P Q a w := by
  obtain ⟨S, R, hr⟩ := hr0
  replace hr := hr.sub h.sub
  refine wpIn_rangeFunc fun fn hfn => ?_
  rw [show Fence.wide.round = none from rfl]
  obtain ⟨rec, hrec⟩ : ∃ rec : LoopState → Option Code → Loop, rec = fun s pe => { state := s, pending := pe, fn, tmps := a.tmps, params := #[p1, p2], assign := as, body := bd, defers := w.heap.size } := ⟨_, rfl⟩
  obtain ⟨lD, R1, hR1, hD, hr1⟩ := hr.newObj (.deferred (some []))
  obtain ⟨lL, R2, hR2, hL, hr2⟩ := hr1.newObj (.loop (rec .ready none))
  replace hD := hR2 _ _ hD
  have hsz : (w.alloc (.deferred (some []))).heap.size = w.heap.size + 1 := by rw [alloc_heap]; simp
  rw [hsz] at hL
  obtain ⟨W1, hW1⟩ : ∃ W1, (w.alloc (.deferred (some []))).alloc (.loop (rec .ready none)) = W1 := ⟨_, rfl⟩
  rw [hW1] at hr2
  obtain ⟨vs, hg, hbs⟩ : ∃ vs : Array Value, a.eval g = .func (.func h.gf) vs #[] ∧ Reps S R2 W1 h.bs vs.toList := by
    have hv := hr2.slots.eval (st := ⟨h.sl, _⟩) (o := g) (x := .bm h.gf h.bs) (by have := h.get; cases g <;> exact this)
    generalize a.eval g = v at hv
    cases hv with
    | bm hl hx => exact ⟨_, rfl, by simpa using hl, fun i x hi => by simpa using hx i x hi⟩
  have := h.ent
  refine ⟨w.heap.size + 1, [{ target := .collected w.heap.size, args := #[] }], W1, { target := .fn (.func h.gf) #[], args := vs ++ #[.func (.yield (w.heap.size + 1)) #[] #[]] }, W1, h.gf, vs ++ #[.func (.yield (w.heap.size + 1)) #[] #[]], W1, ?_, ?_, fun _ _ => trivial, ?_, fun h => (nomatch h), ?_⟩
  · rw [← hW1, hrec]; exact run_enterLoop_outer _ _ _ _ _
  · simp only [resolve, hg]
    simp [go_sem, rangeCall]
  · simp [invoke, go_sem, this.h]
  have hext : Base.Ext ⟨S, R2, W1⟩ S R2 W1 := ⟨fun _ h => h, fun _ _ h => h, fun _ _ => rfl⟩
  have hargs : Reps S R2 W1 (h.bs ++ [.val (.func (.yield (w.heap.size + 1)) #[] #[])]) (vs.toList ++ [.func (.yield (w.heap.size + 1)) #[] #[]]) :=
    hbs.append ⟨rfl, fun i x hx => by
      cases i with
      | zero => cases hx; exact .val _
      | succ i => simp at hx⟩
  have hF := (h.hit ⟨S, R2, W1⟩ (w.heap.size + 1)
    (fun pre ts => ∃ us', h.I pre us' ∧ ts = (lL, .obj (.loop (rec .ready none))) :: (lD, .obj (.deferred (some []))) :: us')
    (fun pre ts => ∃ us', h.X pre us' ∧ ts = (lL, .obj (.loop (rec .done (some .ret)))) :: (lD, .obj (.deferred (some []))) :: us') ?_ _ ⟨h.us, h.h0, rfl⟩).h S R2 W1 _ hext hr2.holds hargs
  · show CallsIn Fence.wide 0 P h.gf _ W1 _
    rw [show vs ++ #[Value.func (.yield (w.heap.size + 1)) #[] #[]] = (vs.toList ++ [Value.func (.yield (w.heap.size + 1)) #[] #[]]).toArray from by apply Array.ext'; simp]
    refine callsIn_wide.2 (hF.mono ?_)
    rintro e W2 ⟨v, r, S', R', ts', rfl, hpost, hh', hrep, o⟩
    have hf := hr2.frame (rs := []) (by simp) hh' o
    rw [List.append_nil] at hf
    have hL' := o.R0 _ _ hL
    have hD' := o.R0 _ _ hD
    have hdf : [{ target := .collected w.heap.size, args := #[] }] ++ a.defers = [{ target := .collected w.heap.size, args := #[] }] := by rw [hr.defers, hds]; rfl
    rw [hdf]
    rcases hpost with ⟨xs, hS, us', hI, rfl⟩ | ⟨pre, hSp, us', hX, rfl⟩
    · have hend := run_endLoop (P := P) (hf.obj (o := .loop (rec .ready none)) List.mem_cons_self hL') (by rw [hrec]; simp)
      have hf2 := hf.putObj hL' (.loop { rec .ready none with state := .exhausted })
      refine ⟨_, _, hend, ?_⟩
      rw [hrec]
      refine hn _ _ ?_
      rw [← hrec]
      have hw := (h.hdone ⟨_, S', R', Foot R' (us' ++ [(lL, .obj (.loop { rec .ready none with state := .exhausted })), (lD, .obj (.deferred (some [])))]), fun k => ∃ t, (k, t) ∈ (us' ++ [(lL, .obj (.loop { rec .ready none with state := .exhausted })), (lD, .obj (.deferred (some [])))]), [{ target := .collected w.heap.size, args := #[] }]⟩ xs us' [(lL, .obj (.loop { rec .ready none with state := .exhausted })), (lD, .obj (.deferred (some [])))] hS hI).h { a with defers := [{ target := .collected w.heap.size, args := #[] }] } (W2.putObj (w.heap.size + 1) (.loop { rec .ready none with state := .exhausted }))
        ⟨S', R', hf2.holds.sub ⟨[], by rw [List.append_nil]; exact List.perm_append_comm (l₁ := [_, _])⟩, hf2.slots, ⟨rfl, rfl, rfl, Nat.le_refl _, fun _ _ _ => rfl, fun _ h => h, fun _ h => .inl h, fun _ _ h => h, fun g h => .inl h, fun l t ht => .inl ⟨t, ht⟩⟩, rfl, hf2.size⟩
      refine wpIn_mono hw ?_
      rintro e a3 w3 ⟨st3, ⟨he, slf, tsf, hsub, hres⟩, S3, R3, hr3⟩
      refine ⟨he, ⟨w.heap.size, 0, 0, 0⟩, S3, R3, lD, slf, tsf, ?_, hr3.out.R0 _ _ hD', hres⟩
      have hr3s := hr3.sub hsub
      have hf3 := (hf2.perm' (us := us' ++ [(lL, .obj (.loop { rec .ready none with state := .exhausted })), (lD, .obj (.deferred (some [])))]) (List.perm_append_comm (l₁ := [_, _]))).frame (rs := []) (by simp) hr3s.holds hr3s.out
      have hout := hf3.out.sub (us := (lD, .obj (.deferred (some []))) :: tsf) (fun p hp => by simp at hp ⊢; rcases hp with rfl | hp <;> simp [*])
      exact ⟨hr3s.holds.sub ⟨[(lL, .obj (.loop { rec .ready none with state := .exhausted }))], (List.perm_append_comm (l₁ := tsf)).trans ((List.Perm.swap ..).trans (.cons _ (List.perm_append_comm (l₁ := [_]))))⟩, hr3s.slots, hout, hr3s.defers, hr3s.size⟩
    · have hend := run_endLoop (P := P) (hf.obj (o := .loop (rec .done (some .ret))) List.mem_cons_self hL') (by rw [hrec]; simp)
      have hf2 := hf.putObj hL' (.loop { rec .done (some .ret) with state := .exhausted })
      refine ⟨_, _, hend, ?_⟩
      rw [hrec]
      refine wpIn_ret (hq _ _ ?_)
      rw [← hrec]
      refine ⟨⟨w.heap.size, 0, 0, 0⟩, S', R', lD, h.sl, us', ?_, hD', h.hstop pre us' hSp hX⟩
      have hf3 := hf2.ds [{ target := .collected w.heap.size, args := #[] }]
      exact ⟨hf3.holds.sub ⟨[_], List.perm_append_comm (l₁ := [_])⟩, hf3.slots, hf3.out.sub (fun p hp => List.mem_cons_of_mem _ hp), hf3.defers, hf3.size⟩
  · rintro pre x ts ⟨us', hI, rfl⟩ hlen
    refine ⟨fun S' R' w' vs' hB hh hreps => ?_⟩
    have hL' := hB.R _ _ hL
    have hD' := hB.R _ _ hD
    have hlp : w'.heap[w.heap.size + 1]? = some (.loop (rec .ready none)) := by
      have := hh.tok lL _ List.mem_cons_self
      simpa only [TokHolds, hL'] using this
    obtain ⟨v1, v2, rfl⟩ : ∃ v1 v2, vs' = [v1, v2] := by
      have := hreps.1
      match vs', this with
      | [v1, v2], _ => exact ⟨v1, v2, rfl⟩
    have hy := run_yield (P := P) (args := [v1, v2].toArray) hlp (by rw [hrec]; rfl)
    have e0 : ((#[p1, p2] : Array Tmp).zip [v1, v2].toArray).foldl (fun tmps (t, a) => tmps.setIfInBounds t a) a.tmps = (a.tmps.setIfInBounds p1 v1).setIfInBounds p2 v2 := by simp
    rw [hrec] at hy
    dsimp only at hy
    rw [e0] at hy
    refine ⟨_, _, _, _, hy, roundIn_of_wpIn trivial ?_⟩
    clear hy
    show as.wpIn (fen (some (w.heap.size + 1))) 0 P _ { tmps := (a.tmps.setIfInBounds p1 v1).setIfInBounds p2 v2, defers := [] } w'
    have hsz2 := hr2.size
    have hr' : RelAt (ro := some (w.heap.size + 1)) (P := P) (n := n) ⟨w', S', R', Foot R' ((lL, .obj (.loop (rec .ready none))) :: (lD, .obj (.deferred (some []))) :: us'), fun k => ∃ t, (k, t) ∈ ((lL, Tok.obj (.loop (rec .ready none))) :: (lD, .obj (.deferred (some []))) :: us'), []⟩ S' R'
        ⟨(p1, h.e1 x) :: (p2, h.e2 x) :: h.sl, us' ++ [(lL, .obj (.loop (rec .ready none))), (lD, .obj (.deferred (some [])))]⟩ { tmps := (a.tmps.setIfInBounds p1 v1).setIfInBounds p2 v2, defers := [] } w' := by
      refine ⟨hh.sub ⟨[], by rw [List.append_nil]; exact List.perm_append_comm (l₁ := [_, _])⟩, fun d y hy => ?_, ⟨rfl, rfl, rfl, Nat.le_refl _, fun _ _ _ => rfl, fun _ h => h, fun _ h => .inl h, fun _ _ h => h, fun g ⟨l, t, hm, hg⟩ => .inl ⟨l, t, ?_, hg⟩, fun l t hm => .inl ⟨t, ?_⟩⟩, rfl, by simpa using hsz2⟩
      · simp only [look] at hy
        by_cases h1 : p1 = d
        · subst h1
          rw [Nat.beq_refl] at hy
          cases hy
          have := hreps.2 0 _ rfl
          have hp := h.hp1
          have hne := h.hne
          simpa [Array.getD_eq_getD_getElem?, Array.getElem?_setIfInBounds, hsz2, hp, hne, Ne.symm hne] using this
        · rw [beq_of_ne h1] at hy
          by_cases h2 : p2 = d
          · subst h2
            rw [Nat.beq_refl] at hy
            cases hy
            have := hreps.2 1 _ rfl
            have hp := h.hp2
            simpa [Array.getD_eq_getD_getElem?, Array.getElem?_setIfInBounds, hsz2, hp] using this
          · rw [beq_of_ne h2] at hy
            have := hB.rep (hr2.slots d y hy)
            simpa [Array.getD_eq_getD_getElem?, Array.getElem?_setIfInBounds, h1, h2] using this
      · simp at hm ⊢; rcases hm with hm | hm | hm <;> simp [hm]
      · simp at hm ⊢; rcases hm with hm | hm | hm <;> simp [hm]
    refine wpIn_mono ((h.hround _ _ pre x us' hI hlen _).h _ _ ⟨S', R', hr'⟩) ?_
    rintro e a1 w1 ⟨st1, ⟨rfl, sl2, ts2, hsub, hbody⟩, S1, R1', hr1'⟩
    have hra := (hr1'.sub hsub).perm' (List.perm_append_comm (l₂ := [_, _]))
    have hL1 : R1' lL = _ := hra.out.R0 _ _ hL'
    have hrb := hra.putObj hL1 (.loop { rec .ready none with state := .busy })
    refine ⟨_, run_beginRound (hra.obj (o := .loop (rec .ready none)) List.mem_cons_self hL1) (by rw [hrec]), ?_⟩
    refine wpIn_mono ((hbody [(lL, .obj (.loop { rec .ready none with state := .busy })), (lD, .obj (.deferred (some [])))]).h _ _ ⟨S1, R1', hrb.perm' (List.perm_append_comm (l₁ := [_, _]))⟩) ?_
    rintro e a3 w3 ⟨st3, hq3, S3, R3, hr3⟩
    rcases hq3 with ⟨rfl, ts3, hI3, hsub3⟩ | ⟨rfl, ts3, hX3, hsub3⟩
    · have hrc := (hr3.sub hsub3).perm' (List.perm_append_comm (l₂ := [_, _]))
      have hL3 : R3 lL = _ := hrc.out.R0 _ _ hL'
      have hend := run_endRound (P := P) none (hrc.obj (o := .loop { rec .ready none with state := .busy }) List.mem_cons_self hL3)
      have hrd := hrc.putObj hL3 (.loop (rec .ready none))
      have e4 : ({ { rec .ready none with state := .busy } with state := if Option.isNone (none : Option Code) then .ready else .done, pending := none } : Loop) = rec .ready none := by rw [hrec]; rfl
      rw [e4] at hend
      exact ⟨_, _, hend, .bool true, .val (.bool true), S3, R3, _, rfl, .inl ⟨rfl, ts3, hI3, rfl⟩, hrd.holds, .val _, hrd.out⟩
    · have hrc := (hr3.sub hsub3).perm' (List.perm_append_comm (l₂ := [_, _]))
      have hL3 : R3 lL = _ := hrc.out.R0 _ _ hL'
      have hend := run_endRound (P := P) (some .ret) (hrc.obj (o := .loop { rec .ready none with state := .busy }) List.mem_cons_self hL3)
      have hrd := hrc.putObj hL3 (.loop (rec .done (some .ret)))
      have e4 : ({ { rec .ready none with state := .busy } with state := if Option.isNone (some Code.ret) then .ready else .done, pending := some .ret } : Loop) = rec .done (some .ret) := by rw [hrec]; rfl
      rw [e4] at hend
      exact ⟨_, _, hend, .bool false, .val (.bool false), S3, R3, _, rfl, .inr ⟨rfl, ts3, hX3, rfl⟩, hrd.holds, .val _, hrd.out⟩
end
end Go.Proofs.YtmenbolalghljaaA
