/- Contracts of functions: how one is proved, how one is used. -/
import Derived.Test.YtmenbolalghljaaAw4
set_option linter.unusedVariables false
namespace Go.Proofs.YtmenbolalghljaaA
open Go.RowKit

def Reps (S : Nat → Prop) (R : Lab) (w : World) (xs : List AV) (vs : List Value) : Prop := vs.length = xs.length ∧ ∀ (i : Nat) (x : AV), xs[i]? = some x → RepV S R w x (vs.getD i undef)

def FnPost (S : Nat → Prop) (R : Lab) (w : World) (ts : List (Nat × Tok)) (Post : List (Nat × Tok) → AV → Prop) : Ending → World → Prop := fun e w' =>
  ∃ v r S' R' ts', e = .returned v ∧ Post ts' r ∧ Holds S' R' w' ts' ∧ RepV S' R' w' r v ∧ Out w S R (Foot R ts) (fun l => ∃ t, (l, t) ∈ ts) S' R' w' ts'

/-- Called with these tokens and arguments the function returns so. -/
structure Fn (P : Program) (f : FuncId) (ts : List (Nat × Tok)) (args : List AV) (Post : List (Nat × Tok) → AV → Prop) : Prop where
  h : ∀ (S : Nat → Prop) (R : Lab) (w : World) (vs : List Value), Holds S R w ts → Reps S R w args vs → Calls P f vs.toArray w (FnPost S R w ts Post)

/-- A function that only reckons. -/
def PFn (P : Program) (f : FuncId) (args : List AV) (x : AV) : Prop := Fn P f [] args (fun _ r => r = x)

theorem Fn.mono {P : Program} {f : FuncId} {ts : List (Nat × Tok)} {args : List AV} {Post Post' : List (Nat × Tok) → AV → Prop} (h : Fn P f ts args Post) (hp : ∀ ts' r, Post ts' r → Post' ts' r) : Fn P f ts args Post' :=
  ⟨fun S R w vs hh hr => (h.h S R w vs hh hr).mono fun _ _ ⟨v, r, S', R', ts', he, hq, rest⟩ => ⟨v, r, S', R', ts', he, hp _ _ hq, rest⟩⟩

/-! ### What is returned -/
def resOne (tmps : Array Value) : ResultVar → Sem Value
  | .tmp t => pure (tmps.getD t undef)
  | .cell a t => do loadVar t (← asAddr (tmps.getD a undef))

theorem results_eq {fn : Func} {rvs : Array ResultVar} (h : fn.results = rvs) (tmps : Array Value) : results fn tmps = (do
    let vs ← rvs.mapM (resOne tmps)
    pure (if h : vs.size = 1 then vs[0] else .tuple vs)) := by
  subst h
  unfold results
  congr 1

def Res1 (P : Program) (st : St) (rv : ResultVar) (x : AV) : Prop :=
  ∀ S R (a : Act) w, Holds S R w st.toks → Slots S R w st.sl a → ∃ v, (resOne a.tmps rv).run P w = .ok v w ∧ RepV S R w x v

theorem res_tmp {P : Program} {st : St} {t : Tmp} {x y : AV} (h : look st.sl t = some x) (hl : Le x y) : Res1 P st (.tmp t) y := fun S R a w _ hs => ⟨_, rfl, hl.rep (hs t x h)⟩

def ResQ (P : Program) (rvs : Array ResultVar) (Post : List (Nat × Tok) → AV → Prop) (st : St) : Prop :=
  ∃ r, (∀ S R (a : Act) w, Holds S R w st.toks → Slots S R w st.sl a → ∀ fn : Func, fn.results = rvs → ∃ v, (results fn a.tmps).run P w = .ok v w ∧ RepV S R w r v) ∧ ∃ ts' rest, Takes st.toks ts' rest ∧ Post ts' r

def RetQ (P : Program) (rvs : Array ResultVar) (Post : List (Nat × Tok) → AV → Prop) : Exit → St → Prop
  | .normal, st => ResQ P rvs Post st
  | .ret, st => ResQ P rvs Post st
  | _, _ => False

theorem ret1 {P : Program} {Post : List (Nat × Tok) → AV → Prop} {st : St} {rv : ResultVar} {x : AV} (h : Res1 P st rv x) {ts' rest : List (Nat × Tok)} (ht : Takes st.toks ts' rest) (hp : Post ts' x) : ResQ P #[rv] Post st :=
  ⟨x, fun S R a w hh hs fn hfn => by
    obtain ⟨v, hv, hr⟩ := h S R a w hh hs
    exact ⟨v, by rw [results_eq hfn]; simp [hv], hr⟩, ts', rest, ht, hp⟩
theorem ret0 {P : Program} {Post : List (Nat × Tok) → AV → Prop} {st : St} {ts' rest : List (Nat × Tok)} (ht : Takes st.toks ts' rest) (hp : Post ts' (.tup [])) : ResQ P #[] Post st :=
  ⟨.tup [], fun _ _ a w _ _ fn hfn => ⟨.tuple #[], by rw [results_eq hfn]; simp, .tup rfl (by simp)⟩, ts', rest, ht, hp⟩
theorem ret2 {P : Program} {Post : List (Nat × Tok) → AV → Prop} {st : St} {r1 r2 : ResultVar} {x1 x2 : AV} (h1 : Res1 P st r1 x1) (h2 : Res1 P st r2 x2) {ts' rest : List (Nat × Tok)} (ht : Takes st.toks ts' rest) (hp : Post ts' (.tup [x1, x2])) : ResQ P #[r1, r2] Post st :=
  ⟨.tup [x1, x2], fun S R a w hh hs fn hfn => by
    obtain ⟨v1, hv1, hr1⟩ := h1 S R a w hh hs
    obtain ⟨v2, hv2, hr2⟩ := h2 S R a w hh hs
    refine ⟨.tuple #[v1, v2], by rw [results_eq hfn]; simp [hv1, hv2], .tup rfl (fun i x hx => ?_)⟩
    match i, hx with
    | 0, hx => cases hx; exact hr1
    | 1, hx => cases hx; exact hr2, ts', rest, ht, hp⟩
theorem ret3 {P : Program} {Post : List (Nat × Tok) → AV → Prop} {st : St} {r1 r2 r3 : ResultVar} {x1 x2 x3 : AV} (h1 : Res1 P st r1 x1) (h2 : Res1 P st r2 x2) (h3 : Res1 P st r3 x3) {ts' rest : List (Nat × Tok)} (ht : Takes st.toks ts' rest) (hp : Post ts' (.tup [x1, x2, x3])) :
    ResQ P #[r1, r2, r3] Post st :=
  ⟨.tup [x1, x2, x3], fun S R a w hh hs fn hfn => by
    obtain ⟨v1, hv1, hr1⟩ := h1 S R a w hh hs
    obtain ⟨v2, hv2, hr2⟩ := h2 S R a w hh hs
    obtain ⟨v3, hv3, hr3⟩ := h3 S R a w hh hs
    refine ⟨.tuple #[v1, v2, v3], by rw [results_eq hfn]; simp [hv1, hv2, hv3], .tup rfl (fun i x hx => ?_)⟩
    match i, hx with
    | 0, hx => cases hx; exact hr1
    | 1, hx => cases hx; exact hr2
    | 2, hx => cases hx; exact hr3, ts', rest, ht, hp⟩
theorem ret4 {P : Program} {Post : List (Nat × Tok) → AV → Prop} {st : St} {r1 r2 r3 r4 : ResultVar} {x1 x2 x3 x4 : AV} (h1 : Res1 P st r1 x1) (h2 : Res1 P st r2 x2) (h3 : Res1 P st r3 x3) (h4 : Res1 P st r4 x4) {ts' rest : List (Nat × Tok)} (ht : Takes st.toks ts' rest)
    (hp : Post ts' (.tup [x1, x2, x3, x4])) : ResQ P #[r1, r2, r3, r4] Post st :=
  ⟨.tup [x1, x2, x3, x4], fun S R a w hh hs fn hfn => by
    obtain ⟨v1, hv1, hr1⟩ := h1 S R a w hh hs
    obtain ⟨v2, hv2, hr2⟩ := h2 S R a w hh hs
    obtain ⟨v3, hv3, hr3⟩ := h3 S R a w hh hs
    obtain ⟨v4, hv4, hr4⟩ := h4 S R a w hh hs
    refine ⟨.tuple #[v1, v2, v3, v4], by rw [results_eq hfn]; simp [hv1, hv2, hv3, hv4], .tup rfl (fun i x hx => ?_)⟩
    match i, hx with
    | 0, hx => cases hx; exact hr1
    | 1, hx => cases hx; exact hr2
    | 2, hx => cases hx; exact hr3
    | 3, hx => cases hx; exact hr4, ts', rest, ht, hp⟩

/-! ### Entering -/
def argSl : Nat → List AV → List (Nat × AV)
  | _, [] => []
  | i, x :: r => (i, x) :: argSl (i + 1) r

theorem look_argSl (xs : List AV) : ∀ i d y, look (argSl i xs) d = some y → i ≤ d ∧ xs[d - i]? = some y := by
  induction xs with
  | nil => intro i d y h; cases h
  | cons x r ih =>
    intro i d y h
    simp only [argSl, look] at h
    by_cases hid : i = d
    · subst hid
      rw [Nat.beq_refl] at h
      cases h
      simp
    · rw [beq_of_ne hid] at h
      obtain ⟨h1, h2⟩ := ih _ _ _ h
      refine ⟨by omega, ?_⟩
      have : d - i = (d - (i + 1)) + 1 := by omega
      rw [this]
      simpa using h2

theorem fn_of {P : Program} {f : FuncId} {fn : Func} {c : Code} {n : Nat} {rvs : Array ResultVar} {ts : List (Nat × Tok)} {args : List AV} {Post : List (Nat × Tok) → AV → Prop} (hf : P.funcs[f]? = some fn) (hb : fn.body = some c) (hn : fn.ntmps = n) (hrv : fn.results = rvs) (hl' : Nat.ble args.length n = true)
    (h : ∀ G : Ctx P n, AW G c ⟨argSl 0 args, ts⟩ (.nil (RetQ P rvs Post))) : Fn P f ts args Post := by
  refine ⟨?_⟩
  intro S R w vs hh hr
  have hl := Nat.le_of_ble_eq_true hl'
  refine calls_of_wp hf hb ?_
  have hsz : (vs.toArray ++ Array.replicate (fn.ntmps - vs.toArray.size) undef).size = n := by
    have := hr.1
    simp [hn]; omega
  refine (wpIn_wide (n := 0)).1 (wpIn_mono ((h ⟨w, S, R, Foot R ts, fun l => ∃ t, (l, t) ∈ ts, []⟩).h _ w ⟨S, R, hh, ?_, ?_, rfl, hsz⟩) ?_)
  · intro d x hx
    obtain ⟨_, h2⟩ := look_argSl args 0 d x hx
    have hd : d < args.length := by
      have := (List.getElem?_eq_some_iff.1 h2).1
      simpa using this
    have hv := hr.2 d x (by simpa using h2)
    have : d < vs.length := by rw [hr.1]; exact hd
    have e : (vs.toArray ++ Array.replicate (fn.ntmps - vs.toArray.size) undef).getD d undef = vs.getD d undef := by
      simp [Array.getElem?_append, this]
    show RepV S R w x ((vs.toArray ++ Array.replicate (fn.ntmps - vs.toArray.size) undef).getD d undef)
    rw [e]; exact hv
  · refine ⟨rfl, rfl, rfl, Nat.le_refl _, fun _ _ _ => rfl, fun _ h => h, fun _ h => .inl h, fun _ _ h => h, fun g h => .inl h, fun l t ht => .inl ⟨t, ht⟩⟩
  · rintro e a' w' ⟨st', hq, S', R', hr'⟩
    have fin : ResQ P rvs Post st' → a'.defers = [] ∧ ∃ v, (results fn a'.tmps).run P w' = .ok v w' ∧ FnPost S R w ts Post (.returned v) w' := by
      rintro ⟨r, hres, ts', rest, ht, hp⟩
      obtain ⟨v, hv, hrep⟩ := hres S' R' a' w' hr'.holds hr'.slots fn hrv
      refine ⟨hr'.defers, v, hv, v, r, S', R', ts', rfl, hp, hr'.holds.sub ⟨rest, ht.perm⟩, hrep, ?_⟩
      exact hr'.out.sub fun p hm => ht.perm.mem_iff.2 (List.mem_append_left _ hm)
    cases e with
    | normal => exact fin hq
    | ret => exact fin hq
    | _ => exact hq.elim

/-! ### Calling -/
class Ent (P : Program) (f : FuncId) : Prop where
  h : ∀ args w, (callFunc f args).run P w = .ok (.enter f args) w

theorem ent_of {P : Program} {f : FuncId} {fn : Func} (hf : P.funcs[f]? = some fn) (hn : (fn.name == "runtime.NumGoroutine") = false) (hb : fn.body.isNone = false) : Ent P f :=
  ⟨fun args w => by
    unfold callFunc
    simp only [Sem.run_bind, run_program, Result.andThen_ok, hf, hn, hb, Bool.false_eq_true, if_false]
    rfl⟩

def gets (st : St) : List Operand → Option (List AV)
  | [] => some []
  | x :: r => match st.get x, gets st r with
    | some y, some ys => some (y :: ys)
    | _, _ => none

theorem gets_reps {S : Nat → Prop} {R : Lab} {w : World} {st : St} {a : Act} : ∀ {xs : List Operand} {ys : List AV}, gets st xs = some ys → (∀ x, x ∈ xs → ∀ y, st.get x = some y → RepV S R w y (a.eval x)) → Reps S R w ys (xs.map a.eval)
  | [], ys, h, _ => by cases h; exact ⟨rfl, by simp⟩
  | x :: r, ys, h, hx => by
    simp only [gets] at h
    split at h
    · rename_i y ys' h1 h2
      cases h
      have ih := gets_reps h2 (fun z hz => hx z (List.mem_cons_of_mem _ hz))
      refine ⟨by simp [ih.1], fun i z hz => ?_⟩
      cases i with
      | zero => cases hz; exact hx x (List.mem_cons_self) _ h1
      | succ i => exact ih.2 i z (by simpa using hz)
    · cases h

theorem Reps.append {S : Nat → Prop} {R : Lab} {w : World} {xs ys : List AV} {us vs : List Value} (h1 : Reps S R w xs us) (h2 : Reps S R w ys vs) : Reps S R w (xs ++ ys) (us ++ vs) := by
  refine ⟨by simp [h1.1, h2.1], fun i x hx => ?_⟩
  rw [List.getElem?_append] at hx
  have hu := h1.1
  split at hx
  · rename_i hlt
    have := h1.2 i x hx
    simpa [List.getElem?_append, hu, hlt] using this
  · rename_i hge
    have := h2.2 _ x hx
    simpa [List.getElem?_append, hu, hge] using this

theorem run_call {P : Program} {f : FuncId} [he : Ent P f] {a : Act} {dst : Option Tmp} {ty : TypeId} {pos : String} {after : Array Edge} {g : Option (Nat × Bool)} {c : Operand} {xs : List Operand} {tys : Array TypeId} {caps : Array Value} {w : World}
    (hc : a.eval c = .func (.func f) #[] caps) : (execOp a.eval ⟨dst, .call ⟨.value c, xs.toArray, tys⟩, ty, pos, after, g⟩).run P w = .ok (.enter f ((xs.map a.eval) ++ caps.toList).toArray) w := by
  simp [execOp, resolve, hc, Deferred.ofValue, invoke, he.h]

theorem rep_fn {S : Nat → Prop} {R : Lab} {w : World} {f : FuncId} {cs : List AV} {v : Value} (h : RepV S R w (.fn f cs) v) : ∃ vs : Array Value, v = .func (.func f) #[] vs ∧ Reps S R w cs vs.toList := by
  cases h with
  | fn hl h => exact ⟨_, rfl, by simpa using hl, fun i x hx => by simpa using h i x hx⟩

/-- A call of a function that only reckons. -/
theorem ev_call {P : Program} {st : St} {dst : Option Tmp} {ty : TypeId} {pos : String} {after : Array Edge} {g : Option (Nat × Bool)} {c : Operand} {xs : List Operand} {tys : Array TypeId} {f : FuncId} {caps ys : List AV} {x : AV} [Ent P f]
    (hc : st.get c = some (.fn f caps)) (hx : gets st xs = some ys) (hF : PFn P f (ys ++ caps) x) : OpEv P ⟨dst, .call ⟨.value c, xs.toArray, tys⟩, ty, pos, after, g⟩ st x := by
  refine ⟨?_⟩
  intro S R a w hh ho next Q hk
  obtain ⟨vs, hv, hcap⟩ := rep_fn (ho c (by simp [Op.operands, Call.operands]) _ hc)
  have hargs := gets_reps (S := S) (R := R) (w := w) (a := a) hx (fun z hz => ho z (by simp [Op.operands, Call.operands, hz]))
  unfold Oper.wp
  rw [run_call hv]
  rw [Oper.upon_enter]
  refine (hF.h S R w _ ⟨hh.top, by simp, by simp, by rintro g ⟨_, _, h, _⟩; simp at h, hh.low⟩ (hargs.append hcap)).mono ?_
  rintro e w' ⟨v, r, S', R', ts', rfl, rfl, hh', hr, o⟩
  have hf : ∀ b, ¬ Foot R [] b := by rintro b ⟨_, _, h, _⟩; simp at h
  refine hk v S' R' w' ⟨⟨o.os, o.tape, o.output, o.size, fun b hb => o.block b hb (hf b)⟩, o.S0, fun b hb => ?_, o.R0, hh'.top⟩ hr
  rcases o.S1 b hb with h1 | h1 | h1
  · exact .inl h1
  · exact (hf b h1).elim
  · exact .inr ⟨h1, hh'.low b hb⟩

/-- An operation that takes tokens and gives others back: what else there is stays. -/
theorem RelAt.frame {P : Program} {n : Nat} {ro : Option Nat} {G : CtxR P n ro} {S S' : Nat → Prop} {R R' : Lab} {st : St} {a : Act} {w w' : World} {ts ts' rs : List (Nat × Tok)} (hr : RelAt G S R st a w) (hp : st.toks.Perm (ts ++ rs)) (hh' : Holds S' R' w' ts')
    (o : Out w S R (Foot R ts) (fun l => ∃ t, (l, t) ∈ ts) S' R' w' ts') : RelAt G S' R' ⟨st.sl, ts' ++ rs⟩ a w' := by
  have hh := hr.holds
  have hall : Holds S R w (ts ++ rs) := hh.sub ⟨[], by simpa using hp⟩
  have hrs : ∀ l t, (l, t) ∈ rs → TokHolds S R w l t := fun l t hm => hall.tok l t (List.mem_append_right _ hm)
  have happ := List.pairwise_append.1 hall.apart
  have hnot : ∀ l t, (l, t) ∈ rs → ∀ g, blkOf R l = some g → ¬ Foot R ts g := by
    rintro l t hm g hg ⟨l', t', hm', hg'⟩
    exact (happ.2.2 _ hm' _ hm).2 g hg' hg
  have hsame : ∀ b, S b → w'.heap[b]? = w.heap[b]? := fun b hb => o.block b (hh.low b hb) (fun hf => by
    obtain ⟨l, t, hm, hg⟩ := hf
    exact hall.notS b ⟨l, t, List.mem_append_left _ hm, hg⟩ hb)
  have hholds : Holds S' R' w' (ts' ++ rs) := by
    refine ⟨hh'.top, List.pairwise_append.2 ⟨hh'.apart, ?_, ?_⟩, ?_, ?_, hh'.low⟩
    · refine happ.2.1.imp_of_mem fun {p q} hp hq hpq => ⟨hpq.1, fun g => ?_⟩
      rw [blkOf_mono o.R0 (hrs p.1 p.2 hp).bound, blkOf_mono o.R0 (hrs q.1 q.2 hq).bound]
      exact hpq.2 g
    · rintro ⟨l, t⟩ hm ⟨l', t'⟩ hm'
      refine ⟨fun e => ?_, fun g hg => ?_⟩
      · have e' : l = l' := e
        subst e'
        rcases o.keys l t hm with ⟨t2, h2⟩ | h2
        · exact (happ.2.2 _ h2 _ hm').1 rfl
        · obtain ⟨q, hq⟩ := (hrs l t' hm').bound
          rw [h2] at hq
          cases hq
      · show blkOf R' l' ≠ some g
        rw [blkOf_mono o.R0 (hrs l' t' hm').bound]
        intro hg'
        rcases o.foot g ⟨l, t, hm, hg⟩ with h1 | h1
        · exact hnot l' t' hm' g hg' h1
        · have := (hrs l' t' hm').lt hg'
          omega
    · intro l t hm
      rcases List.mem_append.1 hm with h1 | h1
      · exact hh'.tok l t h1
      · exact (hrs l t h1).mono o.S0 o.R0 hsame (fun g hg => o.block g ((hrs l t h1).lt hg) (hnot l t h1 g hg))
    · rintro g ⟨l, t, hm, hg⟩ hs
      rcases List.mem_append.1 hm with h1 | h1
      · exact hh'.notS g ⟨l, t, h1, hg⟩ hs
      · rw [blkOf_mono o.R0 (hrs l t h1).bound] at hg
        rcases o.S1 g hs with h2 | h2 | h2
        · exact hall.notS g ⟨l, t, List.mem_append_right _ h1, hg⟩ h2
        · exact hnot l t h1 g hg h2
        · have := (hrs l t h1).lt hg
          omega
  have hft : ∀ g, Foot R ts g → Foot R st.toks g := fun g ⟨l, t, hm, hg⟩ => ⟨l, t, hp.mem_iff.2 (List.mem_append_left _ hm), hg⟩
  have oo := hr.out
  refine ⟨hholds, hr.slots.mono o.S0 o.R0 hsame, ?_, hr.defers, hr.size⟩
  refine ⟨o.os.trans oo.os, o.tape.trans oo.tape, o.output.trans oo.output, Nat.le_trans oo.size o.size, fun b hb hf => ?_, fun b hb => o.S0 b (oo.S0 b hb), fun b hb => ?_, fun l q hq => o.R0 l q (oo.R0 l q hq), ?_, ?_⟩
  · refine (o.block b (Nat.lt_of_lt_of_le hb oo.size) (fun hf' => ?_)).trans (oo.block b hb hf)
    rcases oo.foot b (hft b hf') with h1 | h1
    · exact hf h1
    · omega
  · rcases o.S1 b hb with h1 | h1 | h1
    · exact oo.S1 b h1
    · rcases oo.foot b (hft b h1) with h2 | h2
      · exact .inr (.inl h2)
      · exact .inr (.inr h2)
    · exact .inr (.inr (Nat.le_trans oo.size h1))
  · rintro g ⟨l, t, hm, hg⟩
    rcases List.mem_append.1 hm with h1 | h1
    · rcases o.foot g ⟨l, t, h1, hg⟩ with h2 | h2
      · exact oo.foot g (hft g h2)
      · exact .inr (Nat.le_trans oo.size h2)
    · rw [blkOf_mono o.R0 (hrs l t h1).bound] at hg
      exact oo.foot g ⟨l, t, hp.mem_iff.2 (List.mem_append_right _ h1), hg⟩
  · intro l t hm
    rcases List.mem_append.1 hm with h1 | h1
    · rcases o.keys l t h1 with ⟨t2, h2⟩ | h2
      · exact oo.keys l t2 (hp.mem_iff.2 (List.mem_append_left _ h2))
      · refine .inr ?_
        cases hb : G.R0 l with
        | none => rfl
        | some q => rw [oo.R0 l q hb] at h2; cases h2
    · exact oo.keys l t (hp.mem_iff.2 (List.mem_append_right _ h1))

/-- The operation takes the tokens ts. -/
structure OpEff (P : Program) (o : Oper) (st : St) (ts : List (Nat × Tok)) (Post : List (Nat × Tok) → AV → Prop) : Prop where
  h : ∀ (S : Nat → Prop) (R : Lab) (a : Act) (w : World), Holds S R w ts → OpsAt S R w st a o.op → ∀ (next : Act → World → Prop) (Q : Exit → Act → World → Prop),
    (∀ v r S' R' w' ts', Post ts' r → Holds S' R' w' ts' → RepV S' R' w' r v → Out w S R (Foot R ts) (fun l => ∃ t, (l, t) ∈ ts) S' R' w' ts' → next (a.put o.dst v) w') → o.wp P a w next Q

theorem awo_eff {P : Program} {n : Nat} {ro : Option Nat} {G : CtxR P n ro} {ops : Array Oper} {rest : List Oper} {st : St} {K : Kont} {dst : Option Tmp} {op : Op} {ty : TypeId} {pos : String} {after : Array Edge} {ts rs : List (Nat × Tok)} {Post : List (Nat × Tok) → AV → Prop}
    (he : OpEff P ⟨dst, op, ty, pos, after, none⟩ st ts Post) (ht : Takes st.toks ts rs) (hd : dstOk dst n = true) (h : ∀ ts' r, Post ts' r → AWo G ops rest ⟨putSl st.sl dst r, ts' ++ rs⟩ K) : AWo G ops (⟨dst, op, ty, pos, after, none⟩ :: rest) st K := by
  refine ⟨?_⟩
  rintro a w ⟨S, R, hr⟩
  refine wpListIn_plain rfl fun k hk => ?_
  refine oper_in (he.h S R a w (hr.holds.sub ⟨rs, ht.perm⟩) (opsAt hr.slots op) _ _ fun v r S' R' w' ts' hpost hh' hrep o => ⟨hk _ _ ((h ts' r hpost).h _ _ ?_), put_defers ..⟩)
  have hf := hr.frame ht.perm hh' o
  exact ⟨S', R', hf.holds, hf.slots.put hrep (fun d e => by rw [hr.size]; exact dstOk_lt hd d e), hf.out, (put_defers ..).trans hr.defers, (put_size ..).trans hr.size⟩

/-- A call that takes tokens and gives others back. -/
theorem eff_call {P : Program} {st : St} {dst : Option Tmp} {ty : TypeId} {pos : String} {after : Array Edge} {g : Option (Nat × Bool)} {c : Operand} {xs : List Operand} {tys : Array TypeId} {f : FuncId} {caps ys : List AV} {ts : List (Nat × Tok)} {Post : List (Nat × Tok) → AV → Prop} [Ent P f]
    (hc : st.get c = some (.fn f caps)) (hx : gets st xs = some ys) (hF : Fn P f ts (ys ++ caps) Post) : OpEff P ⟨dst, .call ⟨.value c, xs.toArray, tys⟩, ty, pos, after, g⟩ st ts Post := by
  refine ⟨?_⟩
  intro S R a w hh ho next Q hk
  obtain ⟨vs, hv, hcap⟩ := rep_fn (ho c (by simp [Op.operands, Call.operands]) _ hc)
  have hargs := gets_reps (S := S) (R := R) (w := w) (a := a) hx (fun z hz => ho z (by simp [Op.operands, Call.operands, hz]))
  unfold Oper.wp
  rw [run_call hv]
  rw [Oper.upon_enter]
  refine (hF.h S R w _ hh (hargs.append hcap)).mono ?_
  rintro e w' ⟨v, r, S', R', ts', rfl, hpost, hh', hrep, o⟩
  exact hk v r S' R' w' ts' hpost hh' hrep o

end Go.Proofs.YtmenbolalghljaaA
