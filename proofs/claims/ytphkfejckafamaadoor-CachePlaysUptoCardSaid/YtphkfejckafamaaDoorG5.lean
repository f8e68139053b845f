import Derived.Test.YtphkfejckafamaaDoorG4
import Derived.Laws.RangeString
import Derived.Below
/- A function that holds a range over a bound method. -/
namespace Go.Proofs.YtphkfejckafamaaDoorA
open Go.RowKit

section
variable {P : Program} {n : Nat}

/-- What one owes of the statement, of what stands behind it in the function too. -/
structure Rng (P : Program) (n : Nat) (g : Operand) (p1 p2 : Tmp) (as bd D : Code) (rvs : Array ResultVar) (Post : List (Nat × Tok) → AV → Prop) (st : St) where
  α : Type
  sl : List (Nat × AV)
  us : List (Nat × Tok)
  gf : FuncId
  bs : List AV
  e1 : α → AV
  e2 : α → AV
  N : Nat
  S : List α → Prop
  Sp : List α → Prop
  I : List α → List (Nat × Tok) → Prop
  X : List α → List (Nat × Tok) → Prop
  ent : Ent P gf
  sub : Sub st ⟨sl, us⟩
  get : St.get ⟨sl, us⟩ g = some (.bm gf bs)
  h0 : I [] us
  hp1 : p1 < n
  hp2 : p2 < n
  hne : p1 ≠ p2
  hit : ∀ (B : Base) (l : Nat) (J Jx : List α → List (Nat × Tok) → Prop), (∀ pre x ts, J pre ts → pre.length < N → Yld B P l ts [e1 x, e2 x] (fun ts' r => (r = .val (.bool true) ∧ J (pre ++ [x]) ts') ∨ (r = .val (.bool false) ∧ Jx (pre ++ [x]) ts'))) →
    ∀ ts, J [] ts → FnB B P gf ts (bs ++ [.val (.func (.yield l) #[] #[])]) (fun ts' _ => (∃ xs, S xs ∧ J xs ts') ∨ (∃ pre, Sp pre ∧ Jx pre ts'))
  hround : ∀ (l : Nat) (G' : CtxR P n (some l)) (pre : List α) (x : α) (ts : List (Nat × Tok)), I pre ts → pre.length < N → ∀ rt, AW G' as ⟨(p1, e1 x) :: (p2, e2 x) :: sl, ts ++ rt⟩ (.nil fun e st => e = .normal ∧ ∃ sl2 ts2, Sub st ⟨sl2, ts2 ++ rt⟩ ∧
    ∀ rt', AW G' bd ⟨sl2, ts2 ++ rt'⟩ (.nil fun e st => (e = .normal ∧ ∃ ts', I (pre ++ [x]) ts' ∧ Sub st ⟨[], ts' ++ rt'⟩) ∨ (e = .ret ∧ ∃ ts', X (pre ++ [x]) ts' ∧ Sub st ⟨[], ts' ++ rt'⟩)))
  hdone : ∀ (G2 : Ctx P n) (xs : List α) (ts rt : List (Nat × Tok)), S xs → I xs ts → AW G2 D ⟨sl, ts ++ rt⟩ (.nil fun e st => (e = .normal ∨ e = .ret) ∧ ∃ slf tsf, Sub st ⟨slf, tsf ++ rt⟩ ∧ ResQ P rvs Post ⟨slf, tsf⟩)
  hstop : ∀ (pre : List α) (ts : List (Nat × Tok)), Sp pre → X pre ts → ResQ P rvs Post ⟨sl, ts⟩

def CtxR.wds {ro : Option Nat} (G : CtxR P n ro) (ds : List Deferred) : CtxR P n ro := ⟨G.w0, G.S0, G.R0, G.F0, G.K0, ds⟩
/-- How it is left. -/
def Fin (G : Ctx P n) (rvs : Array ResultVar) (Post : List (Nat × Tok) → AV → Prop) (a : Act) (w : World) : Prop :=
  ∃ (q : Blk) (S : Nat → Prop) (R : Lab) (N : Nat) (sl : List (Nat × AV)) (ts : List (Nat × Tok)), RelAt (G.wds [{ target := .collected q.g, args := #[] }]) S R ⟨sl, (N, .obj (.deferred (some []))) :: ts⟩ a w ∧ R N = some (some q) ∧ ResQ P rvs Post ⟨sl, ts⟩

theorem RelAt.ds {G : Ctx P n} {S : Nat → Prop} {R : Lab} {st : St} {a : Act} {w : World} (hr : RelAt G S R st a w) (ds : List Deferred) : RelAt (G.wds ds) S R st { a with defers := ds } w :=
  ⟨hr.holds, hr.slots, hr.out, rfl, hr.size⟩

theorem rng_wp {G : Ctx P n} (hds : G.ds = []) {g : Operand} {p1 p2 : Tmp} {as bd D : Code} {rvs : Array ResultVar} {Post : List (Nat × Tok) → AV → Prop} {st : St} (h : Rng P n g p1 p2 as bd D rvs Post st) {a : Act} {w : World} (hr0 : Rel G st a w) {Q : Exit → Act → World → Prop}
    (hn : ∀ a' w', D.wpIn Fence.wide 0 P (fun e a w => (e = .normal ∨ e = .ret) ∧ Fin G rvs Post a w) a' w' → Q .normal a' w') (hq : ∀ a' w', Fin G rvs Post a' w' → Q .ret a' w') : (Code.rangeFunc g #[p1, p2] as bd).wpIn Fence.wide 0 P Q a w := by
  obtain ⟨S, R, hr⟩ := hr0
  replace hr := hr.sub h.sub
  refine wpIn_rangeFunc fun fn hfn => ?_
  rw [show Fence.wide.round = none from rfl]
  obtain ⟨rec, hrec⟩ : ∃ rec : LoopState → Option Code → Loop, rec = fun s pe => { state := s, pending := pe, fn, tmps := a.tmps, params := #[p1, p2], assign := as, body := bd, defers := w.heap.size } := ⟨_, rfl⟩
  obtain ⟨lD, R1, hR1, hD, hr1⟩ := hr.newObj (.deferred (some []))
  obtain ⟨lL, R2, hR2, hL, hr2⟩ := hr1.newObj (.loop (rec .ready none))
  replace hD := hR2 _ _ hD
  have hsz : (w.alloc (.deferred (some []))).heap.size = w.heap.size + 1 := by rw [alloc_heap]; simp
  rw [hsz] at hL
  obtain ⟨W1, hW1⟩ : ∃ W1, (w.alloc (.deferred (some []))).alloc (.loop (rec .ready none)) = W1 := ⟨_, rfl⟩
  rw [hW1] at hr2
  obtain ⟨vs, hg, hbs⟩ : ∃ vs : Array Value, a.eval g = .func (.func h.gf) vs #[] ∧ Reps S R2 W1 h.bs vs.toList := by
    have hv := hr2.slots.eval (st := ⟨h.sl, _⟩) (o := g) (x := .bm h.gf h.bs) (by have := h.get; cases g <;> exact this)
    generalize a.eval g = v at hv
    cases hv with
    | bm hl hx => exact ⟨_, rfl, by simpa using hl, fun i x hi => by simpa using hx i x hi⟩
  have := h.ent
  refine ⟨w.heap.size + 1, [{ target := .collected w.heap.size, args := #[] }], W1, { target := .fn (.func h.gf) #[], args := vs ++ #[.func (.yield (w.heap.size + 1)) #[] #[]] }, W1, h.gf, vs ++ #[.func (.yield (w.heap.size + 1)) #[] #[]], W1, ?_, ?_, fun _ _ => trivial, ?_, fun h => (nomatch h), ?_⟩
  · rw [← hW1, hrec]; exact run_enterLoop_outer _ _ _ _ _
  · simp only [resolve, hg]
    simp [go_sem, rangeCall]
  · simp [invoke, go_sem, this.h]
  have hext : Base.Ext ⟨S, R2, W1⟩ S R2 W1 := ⟨fun _ h => h, fun _ _ h => h, fun _ _ => rfl⟩
  have hargs : Reps S R2 W1 (h.bs ++ [.val (.func (.yield (w.heap.size + 1)) #[] #[])]) (vs.toList ++ [.func (.yield (w.heap.size + 1)) #[] #[]]) :=
    hbs.append ⟨rfl, fun i x hx => by
      cases i with
      | zero => cases hx; exact .val _
      | succ i => simp at hx⟩
  have hF := (h.hit ⟨S, R2, W1⟩ (w.heap.size + 1)
    (fun pre ts => ∃ us', h.I pre us' ∧ ts = (lL, .obj (.loop (rec .ready none))) :: (lD, .obj (.deferred (some []))) :: us')
    (fun pre ts => ∃ us', h.X pre us' ∧ ts = (lL, .obj (.loop (rec .done (some .ret)))) :: (lD, .obj (.deferred (some []))) :: us') ?_ _ ⟨h.us, h.h0, rfl⟩).h S R2 W1 _ hext hr2.holds hargs
  · show CallsIn Fence.wide 0 P h.gf _ W1 _
    rw [show vs ++ #[Value.func (.yield (w.heap.size + 1)) #[] #[]] = (vs.toList ++ [Value.func (.yield (w.heap.size + 1)) #[] #[]]).toArray from by apply Array.ext'; simp]
    refine callsIn_wide.2 (hF.mono ?_)
    rintro e W2 ⟨v, r, S', R', ts', rfl, hpost, hh', hrep, o⟩
    have hf := hr2.frame (rs := []) (by simp) hh' o
    rw [List.append_nil] at hf
    have hL' := o.R0 _ _ hL
    have hD' := o.R0 _ _ hD
    have hdf : [{ target := .collected w.heap.size, args := #[] }] ++ a.defers = [{ target := .collected w.heap.size, args := #[] }] := by rw [hr.defers, hds]; rfl
    rw [hdf]
    rcases hpost with ⟨xs, hS, us', hI, rfl⟩ | ⟨pre, hSp, us', hX, rfl⟩
    · have hend := run_endLoop (P := P) (hf.obj (o := .loop (rec .ready none)) List.mem_cons_self hL') (by rw [hrec]; simp)
      have hf2 := hf.putObj hL' (.loop { rec .ready none with state := .exhausted })
      refine ⟨_, _, hend, ?_⟩
      rw [hrec]
      refine hn _ _ ?_
      rw [← hrec]
      have hw := (h.hdone ⟨_, S', R', Foot R' (us' ++ [(lL, .obj (.loop { rec .ready none with state := .exhausted })), (lD, .obj (.deferred (some [])))]), fun k => ∃ t, (k, t) ∈ (us' ++ [(lL, .obj (.loop { rec .ready none with state := .exhausted })), (lD, .obj (.deferred (some [])))]), [{ target := .collected w.heap.size, args := #[] }]⟩ xs us' [(lL, .obj (.loop { rec .ready none with state := .exhausted })), (lD, .obj (.deferred (some [])))] hS hI).h { a with defers := [{ target := .collected w.heap.size, args := #[] }] } (W2.putObj (w.heap.size + 1) (.loop { rec .ready none with state := .exhausted }))
        ⟨S', R', hf2.holds.sub ⟨[], by rw [List.append_nil]; exact List.perm_append_comm (l₁ := [_, _])⟩, hf2.slots, ⟨rfl, rfl, rfl, Nat.le_refl _, fun _ _ _ => rfl, fun _ h => h, fun _ h => .inl h, fun _ _ h => h, fun g h => .inl h, fun l t ht => .inl ⟨t, ht⟩⟩, rfl, hf2.size⟩
      refine wpIn_mono hw ?_
      rintro e a3 w3 ⟨st3, ⟨he, slf, tsf, hsub, hres⟩, S3, R3, hr3⟩
      refine ⟨he, ⟨w.heap.size, 0, 0, 0⟩, S3, R3, lD, slf, tsf, ?_, hr3.out.R0 _ _ hD', hres⟩
      have hr3s := hr3.sub hsub
      have hf3 := (hf2.perm' (us := us' ++ [(lL, .obj (.loop { rec .ready none with state := .exhausted })), (lD, .obj (.deferred (some [])))]) (List.perm_append_comm (l₁ := [_, _]))).frame (rs := []) (by simp) hr3s.holds hr3s.out
      have hout := hf3.out.sub (us := (lD, .obj (.deferred (some []))) :: tsf) (fun p hp => by simp at hp ⊢; rcases hp with rfl | hp <;> simp [*])
      exact ⟨hr3s.holds.sub ⟨[(lL, .obj (.loop { rec .ready none with state := .exhausted }))], (List.perm_append_comm (l₁ := tsf)).trans ((List.Perm.swap ..).trans (.cons _ (List.perm_append_comm (l₁ := [_]))))⟩, hr3s.slots, hout, hr3s.defers, hr3s.size⟩
    · have hend := run_endLoop (P := P) (hf.obj (o := .loop (rec .done (some .ret))) List.mem_cons_self hL') (by rw [hrec]; simp)
      have hf2 := hf.putObj hL' (.loop { rec .done (some .ret) with state := .exhausted })
      refine ⟨_, _, hend, ?_⟩
      rw [hrec]
      refine wpIn_ret (hq _ _ ?_)
      rw [← hrec]
      refine ⟨⟨w.heap.size, 0, 0, 0⟩, S', R', lD, h.sl, us', ?_, hD', h.hstop pre us' hSp hX⟩
      have hf3 := hf2.ds [{ target := .collected w.heap.size, args := #[] }]
      exact ⟨hf3.holds.sub ⟨[_], List.perm_append_comm (l₁ := [_])⟩, hf3.slots, hf3.out.sub (fun p hp => List.mem_cons_of_mem _ hp), hf3.defers, hf3.size⟩
  · rintro pre x ts ⟨us', hI, rfl⟩ hlen
    refine ⟨fun S' R' w' vs' hB hh hreps => ?_⟩
    have hL' := hB.R _ _ hL
    have hD' := hB.R _ _ hD
    have hlp : w'.heap[w.heap.size + 1]? = some (.loop (rec .ready none)) := by
      have := hh.tok lL _ List.mem_cons_self
      simp only [TokHolds, hL'] at this
      exact this.2
    obtain ⟨v1, v2, rfl⟩ : ∃ v1 v2, vs' = [v1, v2] := by
      have := hreps.1
      match vs', this with
      | [v1, v2], _ => exact ⟨v1, v2, rfl⟩
    have hy := run_yield (P := P) (args := [v1, v2].toArray) hlp (by rw [hrec]; rfl)
    have e0 : ((#[p1, p2] : Array Tmp).zip [v1, v2].toArray).foldl (fun tmps (t, a) => tmps.setIfInBounds t a) a.tmps = (a.tmps.setIfInBounds p1 v1).setIfInBounds p2 v2 := by simp
    rw [hrec] at hy
    dsimp only at hy
    rw [e0] at hy
    refine ⟨_, _, _, _, hy, roundIn_of_wpIn trivial ?_⟩
    clear hy
    show as.wpIn (fen (some (w.heap.size + 1))) 0 P _ { tmps := (a.tmps.setIfInBounds p1 v1).setIfInBounds p2 v2, defers := [] } w'
    have hsz2 := hr2.size
    have hr' : RelAt (ro := some (w.heap.size + 1)) (P := P) (n := n) ⟨w', S', R', Foot R' ((lL, .obj (.loop (rec .ready none))) :: (lD, .obj (.deferred (some []))) :: us'), fun k => ∃ t, (k, t) ∈ ((lL, Tok.obj (.loop (rec .ready none))) :: (lD, .obj (.deferred (some []))) :: us'), []⟩ S' R'
        ⟨(p1, h.e1 x) :: (p2, h.e2 x) :: h.sl, us' ++ [(lL, .obj (.loop (rec .ready none))), (lD, .obj (.deferred (some [])))]⟩ { tmps := (a.tmps.setIfInBounds p1 v1).setIfInBounds p2 v2, defers := [] } w' := by
      refine ⟨hh.sub ⟨[], by rw [List.append_nil]; exact List.perm_append_comm (l₁ := [_, _])⟩, fun d y hy => ?_, ⟨rfl, rfl, rfl, Nat.le_refl _, fun _ _ _ => rfl, fun _ h => h, fun _ h => .inl h, fun _ _ h => h, fun g ⟨l, t, hm, hg⟩ => .inl ⟨l, t, ?_, hg⟩, fun l t hm => .inl ⟨t, ?_⟩⟩, rfl, by simpa using hsz2⟩
      · simp only [look] at hy
        by_cases h1 : p1 = d
        · subst h1
          rw [Nat.beq_refl] at hy
          cases hy
          have := hreps.2 0 _ rfl
          have hp := h.hp1
          have hne := h.hne
          simpa [Array.getD_eq_getD_getElem?, Array.getElem?_setIfInBounds, hsz2, hp, hne, Ne.symm hne] using this
        · rw [beq_of_ne h1] at hy
          by_cases h2 : p2 = d
          · subst h2
            rw [Nat.beq_refl] at hy
            cases hy
            have := hreps.2 1 _ rfl
            have hp := h.hp2
            simpa [Array.getD_eq_getD_getElem?, Array.getElem?_setIfInBounds, hsz2, hp] using this
          · rw [beq_of_ne h2] at hy
            have := hB.rep (hr2.slots d y hy)
            simpa [Array.getD_eq_getD_getElem?, Array.getElem?_setIfInBounds, h1, h2] using this
      · simp at hm ⊢; rcases hm with hm | hm | hm <;> simp [hm]
      · simp at hm ⊢; rcases hm with hm | hm | hm <;> simp [hm]
    refine wpIn_mono ((h.hround _ _ pre x us' hI hlen _).h _ _ ⟨S', R', hr'⟩) ?_
    rintro e a1 w1 ⟨st1, ⟨rfl, sl2, ts2, hsub, hbody⟩, S1, R1', hr1'⟩
    have hra := (hr1'.sub hsub).perm' (List.perm_append_comm (l₂ := [_, _]))
    have hL1 : R1' lL = _ := hra.out.R0 _ _ hL'
    have hrb := hra.putObj hL1 (.loop { rec .ready none with state := .busy })
    refine ⟨_, run_beginRound (hra.obj (o := .loop (rec .ready none)) List.mem_cons_self hL1) (by rw [hrec]), ?_⟩
    refine wpIn_mono ((hbody [(lL, .obj (.loop { rec .ready none with state := .busy })), (lD, .obj (.deferred (some [])))]).h _ _ ⟨S1, R1', hrb.perm' (List.perm_append_comm (l₁ := [_, _]))⟩) ?_
    rintro e a3 w3 ⟨st3, hq3, S3, R3, hr3⟩
    rcases hq3 with ⟨rfl, ts3, hI3, hsub3⟩ | ⟨rfl, ts3, hX3, hsub3⟩
    · have hrc := (hr3.sub hsub3).perm' (List.perm_append_comm (l₂ := [_, _]))
      have hL3 : R3 lL = _ := hrc.out.R0 _ _ hL'
      have hend := run_endRound (P := P) none (hrc.obj (o := .loop { rec .ready none with state := .busy }) List.mem_cons_self hL3)
      have hrd := hrc.putObj hL3 (.loop (rec .ready none))
      have e4 : ({ { rec .ready none with state := .busy } with state := if Option.isNone (none : Option Code) then .ready else .done, pending := none } : Loop) = rec .ready none := by rw [hrec]; rfl
      rw [e4] at hend
      exact ⟨_, _, hend, .bool true, .val (.bool true), S3, R3, _, rfl, .inl ⟨rfl, ts3, hI3, rfl⟩, hrd.holds, .val _, hrd.out⟩
    · have hrc := (hr3.sub hsub3).perm' (List.perm_append_comm (l₂ := [_, _]))
      have hL3 : R3 lL = _ := hrc.out.R0 _ _ hL'
      have hend := run_endRound (P := P) (some .ret) (hrc.obj (o := .loop { rec .ready none with state := .busy }) List.mem_cons_self hL3)
      have hrd := hrc.putObj hL3 (.loop (rec .done (some .ret)))
      have e4 : ({ { rec .ready none with state := .busy } with state := if Option.isNone (some Code.ret) then .ready else .done, pending := some .ret } : Loop) = rec .done (some .ret) := by rw [hrec]; rfl
      rw [e4] at hend
      exact ⟨_, _, hend, .bool false, .val (.bool false), S3, R3, _, rfl, .inr ⟨rfl, ts3, hX3, rfl⟩, hrd.holds, .val _, hrd.out⟩
end
end Go.Proofs.YtphkfejckafamaaDoorA

/- A function that holds a range over a bound method: its contract. -/
namespace Go.Proofs.YtphkfejckafamaaDoorA
open Go.RowKit

/-- How a bound method comes to be. -/
theorem ev_makeBound {P : Program} {st : St} {dst : Option Tmp} {ty : TypeId} {pos : String} {after : Array Edge} {g : Option (Nat × Bool)} {f : FuncId} {xs : List Operand} {ys : List AV} (hx : gets st xs = some ys) : OpEv P ⟨dst, .makeFunc (.func f) xs.toArray #[], ty, pos, after, g⟩ st (.bm f ys) :=
  ev_same fun S R a w hh ho => by
    have hr := gets_reps (S := S) (R := R) (w := w) (a := a) hx (fun z hz => ho z (by simp [Op.operands, hz]))
    refine ⟨.func (.func f) (xs.map a.eval).toArray #[], by simp [execOp, Instr.makeFunc], .bm (by simpa using hr.1) (fun i y hy => by simpa using hr.2 i y hy)⟩

theorem fn_rf {P : Program} {f : FuncId} {fn : Func} {A B C D as bd : Code} {id n : Nat} {g : Operand} {p1 p2 : Tmp} {rvs : Array ResultVar} {ts : List (Nat × Tok)} {args : List AV} {Post : List (Nat × Tok) → AV → Prop} (hf : P.funcs[f]? = some fn)
    (hb : fn.body = some (A.seq (B.seq ((C.seq (.block id (.rangeFunc g #[p1, p2] as bd))).seq D)))) (hn : fn.ntmps = n) (hrv : fn.results = rvs) (hl' : Nat.ble args.length n = true)
    (h : ∀ G : Ctx P n, AW G A ⟨argSl 0 args, ts⟩ (.seq B (.seq C (.nil fun e st => e = .normal ∧ Nonempty (Rng P n g p1 p2 as bd D rvs Post st))))) : Fn P f ts args Post := by
  refine ⟨?_⟩
  intro S R w vs hh hr
  have hl := Nat.le_of_ble_eq_true hl'
  refine callsIn_wide.1 (callsIn_of_wp_marks (F := Fence.wide) (n := 0) hf hb trivial ?_ rfl)
  have hsz : (vs.toArray ++ Array.replicate (fn.ntmps - vs.toArray.size) undef).size = n := by
    have := hr.1
    simp [hn]; omega
  obtain ⟨G, hG⟩ : ∃ G : Ctx P n, G = ⟨w, S, R, Foot R ts, fun l => ∃ t, (l, t) ∈ ts, []⟩ := ⟨_, rfl⟩
  have hr0 : RelAt G S R ⟨argSl 0 args, ts⟩ { tmps := vs.toArray ++ Array.replicate (fn.ntmps - vs.toArray.size) undef, defers := [] } w := by
    rw [hG]
    refine ⟨hh, ?_, ?_, rfl, hsz⟩
    · intro d x hx
      obtain ⟨_, h2⟩ := look_argSl args 0 d x hx
      have hd : d < args.length := by
        have := (List.getElem?_eq_some_iff.1 h2).1
        simpa using this
      have hv := hr.2 d x (by simpa using h2)
      have : d < vs.length := by rw [hr.1]; exact hd
      have e : (vs.toArray ++ Array.replicate (fn.ntmps - vs.toArray.size) undef).getD d undef = vs.getD d undef := by
        simp [Array.getElem?_append, this]
      show RepV S R w x ((vs.toArray ++ Array.replicate (fn.ntmps - vs.toArray.size) undef).getD d undef)
      rw [e]; exact hv
    · refine ⟨rfl, rfl, rfl, Nat.le_refl _, fun _ _ _ => rfl, fun _ h => h, fun _ h => .inl h, fun _ _ h => h, fun g h => .inl h, fun l t ht => .inl ⟨t, ht⟩⟩
  have hds : G.ds = [] := by rw [hG]
  -- how it is left
  have hfin : ∀ a' w', Fin G rvs Post a' w' → LeavesInM Fence.wide 0 P fn a'.tmps (FnPost S R w ts Post) a'.defers .returning w' := by
    rintro a' w' ⟨q, S1, R1, N, sl, ts1, hr1, hN, hres⟩
    rw [hr1.defers]
    have hr2 := hr1.putObj hN (.deferred none)
    refine ⟨by simp, .inl ⟨_, _, rfl, run_takeDeferred (hr1.obj List.mem_cons_self hN), ?_⟩⟩
    obtain ⟨r, hrs, ts', rest, ht, hp⟩ := hres
    have hr3 : RelAt (G.wds [{ target := .collected q.g, args := #[] }]) S1 R1 ⟨sl, ts1⟩ a' (w'.putObj q.g (.deferred none)) := ⟨hr2.holds.sub ⟨[_], List.perm_append_comm (l₁ := [_])⟩, hr2.slots, hr2.out.sub (fun p hp => List.mem_cons_of_mem _ hp), hr2.defers, hr2.size⟩
    obtain ⟨v, hv, hrep⟩ := hrs S1 R1 a' _ hr3.holds hr3.slots fn hrv
    have ho := hr3.out.sub (us := ts') fun p hm => ht.perm.mem_iff.2 (List.mem_append_left _ hm)
    rw [hG] at ho
    exact ⟨v, hv, v, r, S1, R1, ts', rfl, hp, hr3.holds.sub ⟨rest, ht.perm⟩, hrep, ho⟩
  refine wpIn_seq (wpIn_mono ((h G).h _ _ ⟨S, R, hr0⟩) ?_)
  rintro e a1 w1 ⟨st1, hq1, hr1⟩
  cases e with
  | normal =>
    refine wpIn_seq (wpIn_mono (hq1 _ _ hr1) ?_)
    rintro e a2 w2 ⟨st2, hq2, hr2⟩
    cases e with
    | normal =>
      refine wpIn_seq (wpIn_seq (wpIn_mono (hq2 _ _ hr2) ?_))
      rintro e a3 w3 ⟨st3, ⟨rfl, ⟨hrng⟩⟩, hr3⟩
      refine wpIn_block (rng_wp hds hrng hr3 (fun a4 w4 hD => ?_) (fun a4 w4 hF => hfin _ _ hF))
      refine wpIn_mono hD ?_
      rintro e a5 w5 ⟨rfl | rfl, hF⟩
      · exact hfin _ _ hF
      · exact hfin _ _ hF
    | _ => exact absurd hq2.1 (by simp)
  | _ => exact absurd hq1.1 (by simp)

/-- A result that lies in a cell. -/
theorem res_cell1 {P : Program} {st : St} {t e : TypeId} {ad : Tmp} {k l i j : Nat} {xs : List (List AV)} {cs : List AV} {y : AV} {r : List (Nat × Tok)} [hu : AgF P t false] (hx : look st.sl ad = some (.ptr l i j)) (ht : Take st.toks l (.row e k xs) r) (hcs : xs[i]? = some cs) (hy : cs[j]? = some y) :
    Res1 P st (.cell ad t) y := by
  intro S R a w hh hs
  have hv := hs ad _ hx
  generalize hvv : a.tmps.getD ad undef = v at hv
  cases hv with
  | ptr h =>
    rename_i q
    have htok := hh.tok l _ (ht.perm.mem_iff.2 (List.mem_cons_self))
    simp only [TokHolds, h] at htok
    obtain ⟨hkk, cur, fr, hg, _, _, _, _, hrow⟩ := htok
    obtain ⟨u, hu', hr', _⟩ := rowAt_cell hg hrow hcs hy
    refine ⟨u, ?_, hr'⟩
    simp only [resOne, Sem.run_bind, hvv, asAddr, Sem.run_pure, Result.andThen_ok]
    exact run_loadVar_one _ u w hu'
end Go.Proofs.YtphkfejckafamaaDoorA

/- Arrays as values. -/
namespace Go.Proofs.YtphkfejckafamaaDoorA
open Go.RowKit
section
variable {P : Program} {st : St} {dst : Option Tmp} {ty : TypeId} {pos : String} {after : Array Edge} {g : Option (Nat × Bool)}

theorem ev_build_arr {t e : TypeId} {len k b kt bt : Nat} {z zt : Value} {parts : List (Nat × Operand)} {ps : List (Nat × AV)} {cs : List AV} [hu : Und P t (.array len e)] [hz : ElF P t zt kt bt] [he : ElF P e z k b] (hp : getParts st parts = some ps) (h1 : onesB ps = true)
    (hf : fillAV (fun (i : Nat) => some (i * k, k)) (vcells zt) ps = some cs) : OpEv P ⟨dst, .build t parts.toArray, ty, pos, after, g⟩ st (.agg cs) :=
  ev_same fun S R a w _ ho => by
    obtain ⟨us, hus, hr⟩ := fill_rep (S := S) (R := R) (w := w) (a := a) (vs := zt.cells) hp (fun p hp' y hy => ho p.2 (by simp [Op.operands]; exact ⟨p.1, hp'⟩) y hy) (onesB_iff h1) ⟨by simp [vcells], fun i y hy => by
      simp only [vcells, List.getElem?_map, Option.map_eq_some_iff, Array.getElem?_toList] at hy
      obtain ⟨u, hu', rfl⟩ := hy
      have : zt.cells.getD i undef = u := by simp [Array.getD_eq_getD_getElem?, hu']
      rw [this]; exact .val _⟩ hf
    refine ⟨.agg us, ?_, .agg hr.1 hr.2⟩
    simp only [execOp, Instr.build, Sem.run_bind, ElF.zero (e := hz), run_underlying hu.h, ElF.size (e := he), Result.andThen_ok, Sem.run_pure]
    simp only [List.map_toArray]
    rw [hus]
    simp

/-- An element that is several cells. -/
theorem ev_index_arr {t e : TypeId} {x ix : Operand} {ki : IntKind} {len k q b : Nat} {z : Value} {cs : List AV} [hu : Und P t (.array len e)] [he : ElF P e z k b] [hg : AgF P e true] (hx : st.get x = some (.agg cs)) (hi : st.get ix = some (.val (.int ki (q : Nat)))) (hq : q < len) (hl : q * k + k ≤ cs.length) :
    OpEv P ⟨dst, .index t x ix, ty, pos, after, g⟩ st (.agg ((cs.drop (q * k)).take k)) :=
  ev_same fun S R a w _ ho => by
    have hr := ho x (by simp [Op.operands]) _ hx
    have hi' := rep_val (ho ix (by simp [Op.operands]) _ hi)
    generalize hv : a.eval x = v at hr
    cases hr with
    | agg hl2 h =>
      rename_i vs
      refine ⟨.agg (vs.extract (q * k) (q * k + k)), ?_, .agg ?_ ?_⟩
      · simp [execOp, Instr.index, hv, hi', asIntOf, run_underlying hu.h, ElF.size (e := he), hg.h, part, hq]
      · simp; omega
      · intro i y hy
        rw [List.getElem?_take] at hy
        split at hy
        · rename_i hik
          rw [List.getElem?_drop] at hy
          have hlt := (List.getElem?_eq_some_iff.1 hy).1
          have e1 : (vs.extract (q * k) (q * k + k)).getD i undef = vs.getD (q * k + i) undef := by
            have h1 : i < min (q * k + k) vs.size - q * k := by omega
            have h2 : q * k + i < vs.size := by omega
            simp [Array.getD_eq_getD_getElem?, Array.getElem?_extract, h1, h2]
          rw [e1]
          exact h _ _ hy
        · cases hy
end
end Go.Proofs.YtphkfejckafamaaDoorA

/- More of arithmetic. -/
namespace Go.Proofs.YtphkfejckafamaaDoorA
open Go.RowKit
section
variable {P : Program} {st : St} {dst : Option Tmp} {ty : TypeId} {pos : String} {after : Array Edge} {g : Option (Nat × Bool)}

theorem ev_negw {t : TypeId} {x : Operand} {k : IntKind} {p : Int} (hx : st.get x = some (.val (.int k p))) : OpEv P ⟨dst, .unOp .neg t x, ty, pos, after, g⟩ st (.val (.int k (k.wrap (0 - p)))) :=
  ev_same fun S R a w _ ho => ⟨_, by
    have e1 := rep_val (ho x (by simp [Op.operands]) _ hx)
    simp [execOp, e1, Op.unary, Op.intArith], .val _⟩
theorem ev_neg {t : TypeId} {x : Operand} {p : Int} (hx : st.get x = some (.val (.int .i64 p))) (h1 : -9223372036854775808 ≤ 0 - p) (h2 : 0 - p ≤ 9223372036854775807) : OpEv P ⟨dst, .unOp .neg t x, ty, pos, after, g⟩ st (.val (.int .i64 (0 - p))) := by
  have := ev_negw (P := P) (dst := dst) (ty := ty) (pos := pos) (after := after) (g := g) (t := t) hx
  rwa [i64_id h1 h2] at this
theorem ev_quow {t t' : TypeId} {x y : Operand} {k : IntKind} {p q : Int} (hx : st.get x = some (.val (.int k p))) (hy : st.get y = some (.val (.int k q))) (hq : q ≠ 0) :
    OpEv P ⟨dst, .binOp .quo t x y t', ty, pos, after, g⟩ st (.val (.int k (k.wrap (p.tdiv q)))) := ev_bin hx hy fun w => by simp [eqGuard, binOp, Op.intDiv, hq]
theorem ev_mul {t t' : TypeId} {x y : Operand} {p q : Int} (hx : st.get x = some (.val (.int .i64 p))) (hy : st.get y = some (.val (.int .i64 q))) (h1 : -9223372036854775808 ≤ p * q) (h2 : p * q ≤ 9223372036854775807) :
    OpEv P ⟨dst, .binOp .mul t x y t', ty, pos, after, g⟩ st (.val (.int .i64 (p * q))) := by
  have := ev_mulw (P := P) (dst := dst) (ty := ty) (pos := pos) (after := after) (g := g) (t := t) (t' := t') hx hy
  rwa [i64_id h1 h2] at this
end
section
variable {P : Program} {n : Nat} {ro : Option Nat} {G : CtxR P n ro} {K : Kont} {st : St}
/-- Behind x and x2 the ways come together. -/
theorem aw_join2 {x x2 y : Code} {ι : Type} (I : ι → St) (Inv : ι → Prop) (h1 : AW G x st (.seq x2 (.loop (fun st' => ∃ g, Inv g ∧ Sub st' (I g)) K))) (h2 : ∀ g, Inv g → AW G y (I g) K) : AW G x st (.seq (.seq x2 y) K) := by
  refine ⟨fun a w hr => wpIn_mono (h1.h a w hr) ?_⟩
  rintro e a' w' ⟨st', hq, hr'⟩
  refine ⟨st', ?_, hr'⟩
  cases e with
  | normal => exact (aw_seq (aw_join I Inv ⟨hq⟩ h2)).h
  | _ => exact hq
end
end Go.Proofs.YtphkfejckafamaaDoorA

/- A range over a string. -/
set_option linter.unusedSimpArgs false
namespace Go.Proofs.YtphkfejckafamaaDoorA
open Go.RowKit
section
variable {P : Program} {st : St} {dst : Option Tmp} {ty : TypeId} {pos : String} {after : Array Edge} {g : Option (Nat × Bool)}

theorem eff_range_str {t : TypeId} {x : Operand} {s : ByteArray} [hu : Und P t .string] (hx : st.get x = some (.val (.string s))) : OpEff P ⟨dst, .range t x, ty, pos, after, g⟩ st [] (fun ts r => ∃ N, ts = [(N, .obj (.stringIter s 0))] ∧ r = .ptr N 0 0) := by
  refine ⟨?_⟩
  intro S R a w hh ho next Q hk
  obtain ⟨N, hN⟩ := hh.free
  have hxv := rep_val (ho x (by simp [Op.operands]) _ hx)
  have hrun : (execOp a.eval ⟨dst, .range t x, ty, pos, after, g⟩).run P w = .ok (.value (.pointer (some ⟨w.heap.size, 0, none⟩))) (w.alloc (.stringIter s 0)) := by
    simp only [execOp, hxv, Sem.run_bind, run_range_string w t s hu.h]
    rfl
  unfold Oper.wp
  rw [hrun]
  have hblk : w.heap.size < (w.alloc (.stringIter s 0)).heap.size := by rw [alloc_heap]; simp
  have hb : blkOf (bindL R N (some ⟨w.heap.size, 0, 0, 0⟩)) N = some w.heap.size := by simp [blkOf, bindL_same]
  have hfoot : ∀ g, Foot (bindL R N (some ⟨w.heap.size, 0, 0, 0⟩)) [(N, .obj (.stringIter s 0))] g → g = w.heap.size := by
    rintro g ⟨l', t', hm, hg⟩
    simp at hm
    obtain ⟨rfl, rfl⟩ := hm
    rw [hb] at hg
    exact (Option.some.inj hg).symm
  refine hk _ (.ptr N 0 0) S (bindL R N (some ⟨w.heap.size, 0, 0, 0⟩)) _ _ ⟨N, rfl, rfl⟩ ⟨bindL_top hh.top, by simp, ?_, ?_, fun b hb => Nat.lt_trans (hh.low b hb) hblk⟩ (.ptr (q := ⟨w.heap.size, 0, 0, 0⟩) bindL_same) ⟨rfl, rfl, rfl, Nat.le_of_lt hblk, fun b hb _ => ?_, fun _ h => h, fun _ h => .inl h, bindL_mono hN, fun g hg => .inr ?_, fun l t hm => ?_⟩
  · intro l' t' hm
    simp at hm
    obtain ⟨rfl, rfl⟩ := hm
    simp only [TokHolds, bindL_same]
    exact ⟨trivial, by rw [alloc_heap]; simp⟩
  · rintro g hg hs
    have := hfoot g hg
    subst this
    exact absurd (hh.low _ hs) (Nat.lt_irrefl _)
  · rw [alloc_heap, Array.getElem?_push, if_neg (by omega)]
  · rw [hfoot g hg]; exact Nat.le_refl _
  · simp at hm
    exact .inr (by rw [hm.1]; exact hN)

theorem ptr_obj {S : Nat → Prop} {R : Lab} {w : World} {l : Nat} {o : Obj} {v : Value} (ht : TokHolds S R w l (.obj o)) (hv : RepV S R w (.ptr l 0 0) v) : ∃ q : Blk, R l = some (some q) ∧ v = .pointer (some ⟨q.g, 0, none⟩) ∧ w.heap[q.g]? = some o ∧ q.k = 0 := by
  cases hv with
  | ptr h =>
    rename_i q
    simp only [TokHolds, h] at ht
    exact ⟨q, h, by simp [ht.1], ht.2, ht.1⟩
/-- The next of a string. -/
theorem eff_next_more {x : Operand} {s : ByteArray} {l p : Nat} (hx : st.get x = some (.ptr l 0 0)) (hp : p < s.size) : OpEff P ⟨dst, .next x true, ty, pos, after, g⟩ st [(l, .obj (.stringIter s p))]
    (fun ts r => ts = [(l, .obj (.stringIter s (p + (Utf8.decode s p).2)))] ∧ r = .tup [.val (.bool true), .val (.int .i64 (p : Nat)), .val (.int .i32 ((Utf8.decode s p).1 : Nat))]) := by
  refine ⟨?_⟩
  intro S R a w hh ho next Q hk
  have htok := hh.tok l _ List.mem_cons_self
  obtain ⟨q, hR, hv, hg, hk0⟩ := ptr_obj htok (ho x (by simp [Op.operands]) _ hx)
  have hlt : q.g < w.heap.size := (Array.getElem?_eq_some_iff.1 hg).1
  have hrun : (execOp a.eval ⟨dst, .next x true, ty, pos, after, g⟩).run P w = .ok (.value (.tuple #[.bool true, .int .i64 (p : Nat), .int .i32 ((Utf8.decode s p).1 : Nat)])) (w.putObj q.g (.stringIter s (p + (Utf8.decode s p).2))) := by
    simp [execOp, hv, Instr.next, getObj, setObj, Sem.run, hg, hp, goInt, World.putObj]
  unfold Oper.wp
  rw [hrun]
  have hother : ∀ b, b ≠ q.g → (w.putObj q.g (.stringIter s (p + (Utf8.decode s p).2))).heap[b]? = w.heap[b]? := fun b hb => World.putObj_heap_other hb
  have hsz : (w.putObj q.g (.stringIter s (p + (Utf8.decode s p).2))).heap.size = w.heap.size := World.putObj_size ..
  have hnS : ¬ S q.g := fun hs => hh.notS q.g ⟨l, _, List.mem_cons_self, by simp [blkOf, hR]⟩ hs
  have hfoot : ∀ (o : Obj) g, Foot R [(l, .obj o)] g → g = q.g := by
    rintro o g ⟨l', t', hm', hg'⟩
    simp at hm'
    obtain ⟨rfl, rfl⟩ := hm'
    simp only [blkOf, hR] at hg'
    exact (Option.some.inj hg').symm
  refine hk _ _ S R _ [(l, .obj (.stringIter s (p + (Utf8.decode s p).2)))] ⟨rfl, rfl⟩ ⟨hh.top, by simp, ?_, ?_, fun b hb => by rw [hsz]; exact hh.low b hb⟩
    (.tup rfl fun i y hy => ?_) ⟨rfl, rfl, rfl, by rw [hsz]; exact Nat.le_refl _, fun b _ hnf => ?_, fun _ h => h, fun _ h => .inl h, fun _ _ h => h, fun g hg' => .inl ?_, fun l' t' hm => .inl ?_⟩
  · intro l' t' hm
    simp at hm
    obtain ⟨rfl, rfl⟩ := hm
    simp only [TokHolds, hR]
    exact ⟨hk0, World.putObj_heap_same hlt⟩
  · intro g hg' hs
    rw [hfoot _ _ hg'] at hs
    exact hnS hs
  · match i, hy with
    | 0, hy => cases hy; exact .val _
    | 1, hy => cases hy; exact .val _
    | 2, hy => cases hy; exact .val _
  · exact hother b fun e => hnf (e ▸ ⟨l, _, List.mem_cons_self, by simp [blkOf, hR]⟩)
  · rw [hfoot _ _ hg']; exact ⟨l, _, List.mem_cons_self, by simp [blkOf, hR]⟩
  · simp at hm
    exact ⟨_, by rw [hm.1]; exact List.mem_cons_self⟩
theorem eff_next_end {x : Operand} {s : ByteArray} {l p : Nat} (hx : st.get x = some (.ptr l 0 0)) (hp : ¬ p < s.size) : OpEff P ⟨dst, .next x true, ty, pos, after, g⟩ st [(l, .obj (.stringIter s p))]
    (fun ts r => ts = [(l, .obj (.stringIter s p))] ∧ r = .tup [.val (.bool false)]) := by
  refine ⟨?_⟩
  intro S R a w hh ho next Q hk
  have htok := hh.tok l _ List.mem_cons_self
  obtain ⟨q, hR, hv, hg, hk0⟩ := ptr_obj htok (ho x (by simp [Op.operands]) _ hx)
  have hrun : (execOp a.eval ⟨dst, .next x true, ty, pos, after, g⟩).run P w = .ok (.value (.tuple #[.bool false])) w := by
    simp [execOp, hv, Instr.next, getObj, setObj, Sem.run, hg, hp, goInt]
  unfold Oper.wp
  rw [hrun]
  exact hk _ _ S R _ [(l, .obj (.stringIter s p))] ⟨rfl, rfl⟩ hh (.tup rfl fun i y hy => by
    match i, hy with
    | 0, hy => cases hy; exact .val _) ⟨rfl, rfl, rfl, Nat.le_refl _, fun _ _ _ => rfl, fun _ h => h, fun _ h => .inl h, fun _ _ h => h, fun g h => .inl h, fun l t h => .inl ⟨t, h⟩⟩

/-! What is read of a byte. -/
theorem dec_low {s : ByteArray} {p : Nat} (h : p < s.size) (hb : (s[p]'h).toNat < 128) : Utf8.decode s p = ((s[p]'h).toNat, 1) := decode_ascii s p h hb
theorem dec_high {s : ByteArray} {p : Nat} (h : p < s.size) (hb : 128 ≤ (s[p]'h).toNat) : 128 ≤ (Utf8.decode s p).1 := by
  have e : s.get! (p + 0) = s[p]'h := by
    show s.get! p = _
    simp [ByteArray.get!, getElem!_pos, h]
    rfl
  have he : Utf8.runeError = 65533 := rfl
  simp only [Utf8.decode, e]
  rw [if_neg (by omega)]
  split
  · split
    · dsimp only; omega
    · dsimp only; omega
  split
  · split
    · rename_i h1
      simp only [Bool.and_eq_true, decide_eq_true_eq] at h1
      dsimp only; omega
    · dsimp only; omega
  split
  · split
    · rename_i h1
      simp only [Bool.and_eq_true, decide_eq_true_eq] at h1
      dsimp only; omega
    · dsimp only; omega
  · dsimp only; omega
end
end Go.Proofs.YtphkfejckafamaaDoorA

/- Contracts that hold later than a base (a variable of the library's is laid there): the base as a token; calls of such functions. -/
set_option linter.unusedVariables false
namespace Go.Proofs.YtphkfejckafamaaDoorA
open Go.RowKit

abbrev Base.tok (B : Base) : Tok := .fact B.S B.R B.w
theorem Base.tok_ext {B : Base} {S : Nat → Prop} {R : Lab} {w : World} {ts : List (Nat × Tok)} (hh : Holds S R w ts) {l : Nat} {r : List (Nat × Tok)} (ht : Take ts l B.tok r) : B.Ext S R w := by
  have h := hh.tok l _ (ht.perm.mem_iff.2 List.mem_cons_self)
  unfold Base.tok TokHolds at h
  split at h
  · rename_i e; cases e
  · rename_i e1 e2
    cases e2
    exact ⟨h.1, h.2.1, h.2.2⟩
  · rename_i e; cases e
  · rename_i e; cases e
  · rename_i e; cases e
  · exact h.elim

section
variable {P : Program} {n : Nat} {ro : Option Nat} {G : CtxR P n ro} {K : Kont} {st : St}
/-- The base as a token. -/
theorem aw_fact {B : Base} {c : Code} (hG : G.After B) (h : ∀ lab, AW G c ⟨st.sl, (lab, B.tok) :: st.toks⟩ K) : AW G c st K := by
  refine ⟨?_⟩
  rintro a w ⟨S, R, hr⟩
  have hB := hr.ext hG
  obtain ⟨N, hN⟩ := hr.holds.free
  have hfoot : ∀ g, Foot (bindL R N none) ((N, B.tok) :: st.toks) g → Foot R st.toks g := by
    rintro g ⟨l', t', hm, hg⟩
    rcases List.mem_cons.1 hm with h1 | h1
    · cases h1; simp [blkOf, bindL_same] at hg
    · rw [blkOf_mono (bindL_mono hN) (hr.holds.tok l' t' h1).bound] at hg
      exact ⟨l', t', h1, hg⟩
  have hmono : ∀ {y : AV} {u : Value}, RepV S R w y u → RepV S (bindL R N none) w y u := fun h => h.mono (fun _ h => h) (bindL_mono hN) (fun _ _ => rfl)
  refine (h N).h a w ⟨S, bindL R N none, ⟨bindL_top hr.holds.top, ?_, ?_, fun g hg => hr.holds.notS g (hfoot g hg), hr.holds.low⟩, ?_, ?_, hr.defers, hr.size⟩
  · refine List.pairwise_cons.2 ⟨fun p hp => ⟨fun e1 => ?_, fun g hg => ?_⟩, hr.holds.apart.imp_of_mem fun {p q} hp hq hpq => ⟨hpq.1, fun g => ?_⟩⟩
    · obtain ⟨q, hq⟩ := (hr.holds.tok p.1 p.2 hp).bound
      have e1' : N = p.1 := e1
      rw [← e1', hN] at hq; cases hq
    · simp [blkOf, bindL_same] at hg
    · rw [blkOf_mono (bindL_mono hN) (hr.holds.tok p.1 p.2 hp).bound, blkOf_mono (bindL_mono hN) (hr.holds.tok q.1 q.2 hq).bound]
      exact hpq.2 g
  · intro l' t' hm
    rcases List.mem_cons.1 hm with h1 | h1
    · cases h1
      simp only [TokHolds, bindL_same, Base.tok]
      exact ⟨hB.S, fun l q hq => bindL_mono hN l q (hB.R l q hq), hB.w⟩
    · exact (hr.holds.tok l' t' h1).mono (fun _ h => h) (bindL_mono hN) (fun _ _ => rfl) (fun _ _ => rfl)
  · intro d' x hx
    exact hmono (hr.slots d' x hx)
  · have o := hr.out
    refine ⟨o.os, o.tape, o.output, o.size, o.block, o.S0, o.S1, fun l q hq => bindL_mono hN l q (o.R0 l q hq), fun g hg => o.foot g (hfoot g hg), fun l t hm => ?_⟩
    rcases List.mem_cons.1 hm with h1 | h1
    · cases h1
      right
      cases hq : G.R0 N with
      | none => rfl
      | some q => rw [o.R0 N q hq] at hN; cases hN
    · exact o.keys l t h1
end

section
variable {P : Program} {st : St} {dst : Option Tmp} {ty : TypeId} {pos : String} {after : Array Edge} {g : Option (Nat × Bool)}
theorem effr_callF {B : Base} {c : Operand} {xs : List Operand} {tys : Array TypeId} {f : FuncId} {ys zs : List AV} {us : List (Nat × Tok)} {Post : List (Nat × Tok) → AV → Prop} [Ent P f] (hF : FnB B P f us zs Post) {lb : Nat} {rb : List (Nat × Tok)} (htk : Take st.toks lb B.tok rb) (hc : st.get c = some (.fn f [])) (hx : gets st xs = some ys) (hl : Les ys zs) :
    OpEffR P ⟨dst, .call ⟨.value c, xs.toArray, tys⟩, ty, pos, after, g⟩ st us Post := by
  refine ⟨?_⟩
  intro S R a w hh ho next Q hk
  obtain ⟨vs, hv, hcap⟩ := rep_fn (ho c (by simp [Op.operands, Call.operands]) _ hc)
  have hargs := gets_reps (S := S) (R := R) (w := w) (a := a) hx (fun z hz => ho z (by simp [Op.operands, Call.operands, hz]))
  have hvs : vs.toList = [] := List.eq_nil_of_length_eq_zero (by simpa using hcap.1)
  have hrd : Holds S R w st.toks := hh.sub ⟨us, List.perm_append_comm⟩
  have hus : Holds S R w us := hh.sub ⟨st.toks, .refl _⟩
  unfold Oper.wp
  rw [run_call hv]
  rw [Oper.upon_enter]
  have hreps : Reps S R w zs ((xs.map a.eval) ++ vs.toList) := by
    rw [hvs, List.append_nil]
    exact ⟨by rw [hargs.1, hl.len], fun i y hy => by
      obtain ⟨x, hx, hle⟩ := hl.get i y hy
      exact hle.rep (hargs.2 i x hx)⟩
  refine (hF.h S R w _ (Base.tok_ext hrd htk) hus hreps).mono ?_
  rintro e w' ⟨v, r, S', R', ts', rfl, hpost, hh', hrep, o⟩
  exact hk v r S' R' w' ts' hpost hh' hrep o
/-- The same, with what else the state holds lent. -/
theorem effr_callFL {B : Base} {c : Operand} {xs : List Operand} {tys : Array TypeId} {f : FuncId} {ys zs : List AV} {us : List (Nat × Tok)} {Post : List (Nat × Tok) → AV → Prop} [Ent P f] (hF : FnB B P f us zs Post) {lb : Nat} {rb : List (Nat × Tok)} (htk : Take st.toks lb B.tok rb) (hfree : ∀ ts r, Post ts r → AVFree r ∧ ∀ p, p ∈ ts → TokFree p.2) (hc : st.get c = some (.fn f [])) (hx : gets st xs = some ys) (hb : Cvs st.toks ys zs) :
    OpEffR P ⟨dst, .call ⟨.value c, xs.toArray, tys⟩, ty, pos, after, g⟩ st us Post := by
  refine ⟨?_⟩
  intro S R a w hh ho next Q hk
  obtain ⟨vs, hv, hcap⟩ := rep_fn (ho c (by simp [Op.operands, Call.operands]) _ hc)
  have hargs := gets_reps (S := S) (R := R) (w := w) (a := a) hx (fun z hz => ho z (by simp [Op.operands, Call.operands, hz]))
  have hvs : vs.toList = [] := List.eq_nil_of_length_eq_zero (by simpa using hcap.1)
  have hap := List.pairwise_append.1 hh.apart
  have hrd : Holds S R w st.toks := hh.sub ⟨us, List.perm_append_comm⟩
  have hus : Holds S R w us := hh.sub ⟨st.toks, .refl _⟩
  unfold Oper.wp
  rw [run_call hv]
  rw [Oper.upon_enter]
  let S' : Nat → Prop := fun b => S b ∨ Foot R st.toks b
  have hh' : Holds S' R w us := by
    refine ⟨hh.top, hap.1, fun l t hm => (hus.tok l t hm).mono (fun _ h => .inl h) (fun _ _ h => h) (fun _ _ => rfl) (fun _ _ => rfl), ?_, ?_⟩
    · rintro b ⟨l, t, hm, hg⟩ (hb | ⟨l', t', hm', hg'⟩)
      · exact hus.notS b ⟨l, t, hm, hg⟩ hb
      · exact (hap.2.2 _ hm _ hm').2 b hg hg'
    · rintro b (hb | ⟨l, t, hm, hg⟩)
      · exact hh.low b hb
      · exact (hrd.tok l t hm).lt hg
  have hreps : Reps S' R w zs ((xs.map a.eval) ++ vs.toList) := by
    rw [hvs, List.append_nil]
    refine ⟨by rw [hargs.1, hb.len], fun i y hy => ?_⟩
    obtain ⟨x, hxx, hcv⟩ := hb.get i y hy
    exact hcv S S' R w hrd (fun _ h => .inl h) (fun g hg => .inr hg) _ ((hargs.2 i x hxx).mono (fun _ h => .inl h) (fun _ _ h => h) (fun _ _ => rfl))
  have hBx := Base.tok_ext hrd htk
  refine (hF.h S' R w _ ⟨fun b hb => .inl (hBx.S b hb), hBx.R, hBx.w⟩ hh' hreps).mono ?_
  rintro e w' ⟨v, r, S2, R2, ts', rfl, hpost, h2, hrep, o⟩
  obtain ⟨hfr, hft⟩ := hfree ts' r hpost
  refine hk v r S R2 w' ts' hpost ⟨h2.top, h2.apart, fun l t hm => (hft _ hm).holds (h2.tok l t hm), fun g hg hs => ?_, fun b hb => Nat.lt_of_lt_of_le (hh.low b hb) o.size⟩ (hfr.rep hrep) ⟨o.os, o.tape, o.output, o.size, o.block, fun _ h => h, fun _ h => .inl h, o.R0, o.foot, o.keys⟩
  exact h2.notS g hg (o.S0 g (.inl hs))
/-- One that only reckons, later than a base. -/
abbrev PFnB (B : Base) (P : Program) (f : FuncId) (args : List AV) (x : AV) : Prop := FnB B P f [] args (fun ts r => ts = [] ∧ r = x)
theorem ev_of_effr {o : Oper} {x : AV} (h : OpEffR P o st [] (fun ts r => ts = [] ∧ r = x)) : OpEv P o st x := by
  refine ⟨?_⟩
  intro S R a w hh ho next Q hk
  refine h.h S R a w (by simpa using hh) ho next Q ?_
  rintro v r S' R' w' ts' ⟨rfl, rfl⟩ h2 hrep o
  have hno : ∀ (R : Lab) (g : Nat), ¬ Foot R [] g := by rintro R g ⟨_, _, h, _⟩; simp at h
  refine hk v S' R' w' ⟨⟨o.os, o.tape, o.output, o.size, fun b hb => o.block b hb (hno _ b)⟩, o.S0, fun b hb => ?_, o.R0, h2.top⟩ hrep
  rcases o.S1 b hb with h1 | h1 | h1
  · exact .inl h1
  · exact (hno _ b h1).elim
  · exact .inr ⟨h1, h2.low b hb⟩
theorem ev_callF {B : Base} {c : Operand} {xs : List Operand} {tys : Array TypeId} {f : FuncId} {ys zs : List AV} {x : AV} [Ent P f] (hF : PFnB B P f zs x) {lb : Nat} {rb : List (Nat × Tok)} (htk : Take st.toks lb B.tok rb) (hc : st.get c = some (.fn f [])) (hx : gets st xs = some ys) (hl : Les ys zs) : OpEv P ⟨dst, .call ⟨.value c, xs.toArray, tys⟩, ty, pos, after, g⟩ st x :=
  ev_of_effr (effr_callF hF htk hc hx hl)
theorem ev_callFL {B : Base} {c : Operand} {xs : List Operand} {tys : Array TypeId} {f : FuncId} {ys zs : List AV} {x : AV} [Ent P f] (hF : PFnB B P f zs x) {lb : Nat} {rb : List (Nat × Tok)} (htk : Take st.toks lb B.tok rb) (hc : st.get c = some (.fn f [])) (hx : gets st xs = some ys) (hb : Cvs st.toks ys zs) (hp : AVFree x) : OpEv P ⟨dst, .call ⟨.value c, xs.toArray, tys⟩, ty, pos, after, g⟩ st x :=
  ev_of_effr (effr_callFL hF htk (by rintro ts r ⟨rfl, rfl⟩; exact ⟨hp, by simp⟩) hc hx hb)
end

section
variable {P : Program} {n : Nat} {ro : Option Nat} {G : CtxR P n ro} {l : List Oper} {sl : List (Nat × AV)} {ts : List (Nat × Tok)} {K : Kont} {d : Nat} {ty : TypeId} {pos : String} {after : Array Edge} {bs : List Bool} {rs0 : List (Nat × Tok)} {q : Nat} {r : List Nat} {rest : List Oper}
theorem ar_callF {B : Base} {c : Operand} {xs : List Operand} {tys : Array TypeId} {f : FuncId} {ys zs : List AV} {us rs : List (Nat × Tok)} {Post : List (Nat × Tok) → AV → Prop} [Ent P f] (hF : FnB B P f us zs Post) (hc : St.get ⟨sl, rs⟩ c = some (.fn f [])) (hx : gets ⟨sl, rs⟩ xs = some ys) (hl : Les ys zs) (ht : Takes ts us rs) {lb : Nat} {rb : List (Nat × Tok)} (htk : Take rs lb B.tok rb) (hd : Nat.blt d n = true)
    (h : ∀ ts' r, Post ts' r → AR G l 0 rest ⟨(d, r) :: sl, ts' ++ rs⟩ K) : AR G l 0 (⟨some d, .call ⟨.value c, xs.toArray, tys⟩, ty, pos, after, none⟩ :: rest) ⟨sl, ts⟩ K :=
  ar_of (awo_effr (effr_callF hF htk hc hx hl) ht hd fun ts' r hp => (h ts' r hp).awo)
theorem ar_callFL {B : Base} {c : Operand} {xs : List Operand} {tys : Array TypeId} {f : FuncId} {ys zs : List AV} {us rs : List (Nat × Tok)} {Post : List (Nat × Tok) → AV → Prop} [Ent P f] (hF : FnB B P f us zs Post) (hc : St.get ⟨sl, rs⟩ c = some (.fn f [])) (hx : gets ⟨sl, rs⟩ xs = some ys) (ht : Takes ts us rs) (hb : Cvs rs ys zs) {lb : Nat} {rb : List (Nat × Tok)} (htk : Take rs lb B.tok rb) (hfree : ∀ ts r, Post ts r → AVFree r ∧ ∀ p, p ∈ ts → TokFree p.2) (hd : Nat.blt d n = true)
    (h : ∀ ts' r, Post ts' r → AR G l 0 rest ⟨(d, r) :: sl, ts' ++ rs⟩ K) : AR G l 0 (⟨some d, .call ⟨.value c, xs.toArray, tys⟩, ty, pos, after, none⟩ :: rest) ⟨sl, ts⟩ K :=
  ar_of (awo_effr (effr_callFL hF htk hfree hc hx hb) ht hd fun ts' r hp => (h ts' r hp).awo)
end

/-- A contract that holds everywhere holds later than a base. -/
theorem FnB.of {B : Base} {P : Program} {f : FuncId} {ts : List (Nat × Tok)} {args : List AV} {Post : List (Nat × Tok) → AV → Prop} (h : Fn P f ts args Post) : FnB B P f ts args Post := ⟨fun S R w vs _ hh hr => h.h S R w vs hh hr⟩
/-- At the base a contract later than it is one. -/
theorem FnB.pure {B : Base} {P : Program} {f : FuncId} {args : List AV} {Post : List (Nat × Tok) → AV → Prop} {x : AV} (h : FnB B P f [] args Post) (hp : ∀ ts r, Post ts r → ts = [] ∧ r = x) : PFnB B P f args x := ⟨fun S R w vs hB hh hr => (h.h S R w vs hB hh hr).mono fun e w' ⟨v, r, S', R', ts', he, hpost, h2, hrep, o⟩ => ⟨v, r, S', R', ts', he, hp _ _ hpost, h2, hrep, o⟩⟩
theorem FnB.mono {B : Base} {P : Program} {f : FuncId} {ts : List (Nat × Tok)} {args : List AV} {Post Post' : List (Nat × Tok) → AV → Prop} (h : FnB B P f ts args Post) (hp : ∀ ts r, Post ts r → Post' ts r) : FnB B P f ts args Post' := ⟨fun S R w vs hB hh hr => (h.h S R w vs hB hh hr).mono fun e w' ⟨v, r, S', R', ts', he, hpost, h2, hrep, o⟩ => ⟨v, r, S', R', ts', he, hp _ _ hpost, h2, hrep, o⟩⟩
/-- A contract of the kit's: plain values come back, the world is only longer. -/
theorem fnB_kit {B : Base} {P : Program} {f : FuncId} {args : List Value} {x : AV} {v : Value} (hx : ∀ S R w, RepV S R w x v) (h : ∀ w : World, (∀ b, B.S b → w.heap[b]? = B.w.heap[b]?) → Calls P f args.toArray w fun e w' => e = .returned v ∧ Below w.heap.size w w') : PFnB B P f (args.map .val) x := by
  refine ⟨?_⟩
  intro S R w vs hB hh hr
  have e : vs = args := by
    apply List.ext_getElem?
    intro i
    have hl := hr.1
    rw [List.length_map] at hl
    by_cases hi : i < args.length
    · have h1 := hr.2 i (.val args[i]) (by simp [hi])
      have h2 := rep_val h1
      have hv : i < vs.length := by omega
      rw [List.getElem?_eq_getElem hv, List.getElem?_eq_getElem hi]
      have : vs.getD i undef = vs[i] := by simp [hv]
      rw [this] at h2
      rw [h2]
    · rw [List.getElem?_eq_none (by omega), List.getElem?_eq_none (by omega)]
  subst e
  refine (h w hB.w).mono ?_
  rintro e w' ⟨rfl, hb⟩
  have hno : ∀ (R : Lab) (g : Nat), ¬ Foot R [] g := by rintro R g ⟨_, _, h, _⟩; simp at h
  exact ⟨v, x, S, R, [], rfl, ⟨rfl, rfl⟩, ⟨hh.top, by simp, by simp, fun g hg => (hno _ _ hg).elim, fun b hb' => Nat.lt_of_lt_of_le (hh.low b hb') hb.size⟩, hx _ _ _, ⟨hb.os, hb.tape, hb.output, hb.size, fun b hlt _ => hb.block b hlt, fun _ h => h, fun _ h => .inl h, fun _ _ h => h, fun g hg => (hno _ _ hg).elim, fun l t hm => by simp at hm⟩⟩
end Go.Proofs.YtphkfejckafamaaDoorA

/- The law's contract, later than the call's own world (what is laid there of the library's may be read). -/
set_option linter.unusedVariables false
namespace Go.Proofs.YtphkfejckafamaaDoorA
open Go.RowKit Go.ChangeShapes
abbrev baseOf (W : World) : Base := ⟨fun b => b < W.heap.size, fun _ => none, W⟩
variable {P : Program}
theorem law_callsB {f : FuncId} {xs : List AV} {args : Array Value} {W : World} (hF : PFnB (baseOf W) P f xs (.val (.bool true))) (hr : ∀ (S : Nat → Prop) (R : Lab), (∀ b, b < W.heap.size → S b) → Reps S R W xs args.toList) :
    Calls P f args W fun e W' => e = .returned (.bool true) ∧ Below W.heap.size W W' := by
  have h := hF.h (fun b => b < W.heap.size) (fun _ => none) W args.toList ⟨fun _ h => h, fun _ _ h => (by cases h), fun _ _ => rfl⟩ ⟨⟨0, fun _ _ => rfl⟩, .nil, (by intro l t h; cases h), (by rintro g ⟨_, _, h, _⟩; cases h), fun _ h => h⟩ (hr _ _ (fun _ h => h))
  refine h.mono ?_
  rintro e W' ⟨v, r, S', R', ts', rfl, ⟨rfl, rfl⟩, hh, hrep, o⟩
  have hv := rep_val hrep
  subst hv
  exact ⟨rfl, ⟨o.os, o.tape, o.output, o.size, fun b hb => o.block b hb (by rintro ⟨_, _, h, _⟩; cases h)⟩⟩
theorem law_holdsB {H : Type} {enc : TypeId × Value → H} {fid : FuncId} {f : Func} {s : ChangeSpec} {apart fresh handsOn again : Bool} {W : World} {base : Nat} {args : Array Value} {ds gs : List (DataW H)} {before : List MemPlace} {t4 : TypeId} {α : Type} {xs : α → List AV} {sz : α → Nat} {inv : α → Prop}
    (hl : laidOutB P = true) (hr : ∀ t, t ∈ f.params.toList → P.readableRec t = true ∧ t < P.types.size) (hrt : f.resultTypes = #[t4]) (h4 : P.underlying t4 = some .bool) (hsv : s.vars = [])
    (hs : ∀ ds : List (DataW H), ds.length = f.params.toList.length → (s.fn H ds).results = [.lit (.bool true)] ∧ (s.fn H ds).args = ds ∧ (s.fn H ds).vars = [])
    (hp : Pars P f.params.toList α xs sz inv) (hlaw : ∀ a, inv a → sz a ≤ bulkAll (ds ++ gs) → PFnB (baseOf W) P fid (xs a) (.val (.bool true)))
    (hval : ∀ (j : Nat) (t : TypeId) (v : Value), f.params[j]? = some t → args[j]? = some v → Value.okWide P W .any base t v)
    (hW : DataW.Whole enc P f.params.toList s.vars apart W args.toList ds gs before) :
    Calls P fid args W fun e W' => ∃ v, e = .returned v ∧ s.post enc P f apart fresh handsOn again W args v W' := by
  have hW0 := hW
  obtain ⟨p, q, hA, hV, rfl, hz, hn⟩ := hW
  rw [hsv] at hV
  obtain ⟨rfl, rfl⟩ := trodVars_none hV
  obtain ⟨a, q1, q2, q4, q3⟩ := hp.read H enc W base args.toList ds p (fun j t v hj hv => hval j t v (by simpa using hj) (by simpa using hv)) hA
  rw [List.append_nil] at hlaw
  refine (law_callsB (hlaw a q2 q1) q3).mono ?_
  rintro e W' ⟨rfl, hb⟩
  obtain ⟨h1, h2, h3⟩ := hs (ds ++ []) (by simpa using q4)
  exact ⟨_, rfl, law_post hl hr hb hrt h4 hsv h1 (by rw [h2, List.append_nil]) h3 hW0⟩
end Go.Proofs.YtphkfejckafamaaDoorA
