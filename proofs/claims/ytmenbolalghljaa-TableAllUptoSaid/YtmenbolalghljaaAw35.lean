/- A range over a function: what yield is to the iterator; the statement; a function that holds one. -/
import Derived.Test.YtmenbolalghljaaAw34
import Derived.RangeFuncLeaves
import Derived.RangeFuncSeq
import Derived.RangeFuncRecord
namespace Go.Proofs.YtmenbolalghljaaA
open Go.RowKit

/-- Where something was proved: what was stable then, what was bound. -/
structure Base where
  S : Nat → Prop
  R : Lab
  w : World
/-- Later than that. -/
structure Base.Ext (B : Base) (S : Nat → Prop) (R : Lab) (w : World) : Prop where
  S : ∀ b, B.S b → S b
  R : ∀ l q, B.R l = some q → R l = some q
  w : ∀ b, B.S b → w.heap[b]? = B.w.heap[b]?
theorem Base.Ext.rep {B : Base} {S : Nat → Prop} {R : Lab} {w : World} (h : B.Ext S R w) {x : AV} {v : Value} (hv : RepV B.S B.R B.w x v) : RepV S R w x v := hv.mono h.S h.R h.w

/-- A contract at whatever is later than that. -/
structure FnB (B : Base) (P : Program) (f : FuncId) (ts : List (Nat × Tok)) (args : List AV) (Post : List (Nat × Tok) → AV → Prop) : Prop where
  h : ∀ (S : Nat → Prop) (R : Lab) (w : World) (vs : List Value), B.Ext S R w → Holds S R w ts → Reps S R w args vs → Calls P f vs.toArray w (FnPost S R w ts Post)
/-- What a call of yield does. -/
structure Yld (B : Base) (P : Program) (l : Nat) (ts : List (Nat × Tok)) (args : List AV) (Post : List (Nat × Tok) → AV → Prop) : Prop where
  h : ∀ (S : Nat → Prop) (R : Lab) (w : World) (vs : List Value), B.Ext S R w → Holds S R w ts → Reps S R w args vs → YieldAt Fence.wide 0 P l vs.toArray w (FnPost S R w ts Post)

/-- The context of a function that is called later than that. -/
structure CtxR.After {P : Program} {n : Nat} {ro : Option Nat} (G : CtxR P n ro) (B : Base) : Prop where
  ext : B.Ext G.S0 G.R0 G.w0
  low : ∀ b, G.S0 b → b < G.w0.heap.size
  notF : ∀ b, G.S0 b → ¬ G.F0 b
theorem RelAt.ext {P : Program} {n : Nat} {ro : Option Nat} {G : CtxR P n ro} {B : Base} (hG : G.After B) {S : Nat → Prop} {R : Lab} {st : St} {a : Act} {w : World} (h : RelAt G S R st a w) : B.Ext S R w :=
  ⟨fun b hb => h.out.S0 b (hG.ext.S b hb), fun l q hq => h.out.R0 l q (hG.ext.R l q hq), fun b hb => (h.out.block b (hG.low b (hG.ext.S b hb)) (hG.notF b (hG.ext.S b hb))).trans (hG.ext.w b hb)⟩

theorem fnB_of {B : Base} {P : Program} {f : FuncId} {fn : Func} {c : Code} {n : Nat} {rvs : Array ResultVar} {ts : List (Nat × Tok)} {args : List AV} {Post : List (Nat × Tok) → AV → Prop} (hf : P.funcs[f]? = some fn) (hb : fn.body = some c) (hn : fn.ntmps = n) (hrv : fn.results = rvs) (hl' : Nat.ble args.length n = true)
    (h : ∀ G : Ctx P n, G.After B → AW G c ⟨argSl 0 args, ts⟩ (.nil (RetQ P rvs Post))) : FnB B P f ts args Post := by
  refine ⟨?_⟩
  intro S R w vs hB hh hr
  have hl := Nat.le_of_ble_eq_true hl'
  refine calls_of_wp hf hb ?_
  have hsz : (vs.toArray ++ Array.replicate (fn.ntmps - vs.toArray.size) undef).size = n := by
    have := hr.1
    simp [hn]; omega
  refine (wpIn_wide (n := 0)).1 (wpIn_mono ((h ⟨w, S, R, Foot R ts, fun l => ∃ t, (l, t) ∈ ts, []⟩ ⟨hB, hh.low, fun b hb hf => hh.notS b hf hb⟩).h _ w ⟨S, R, hh, ?_, ?_, rfl, hsz⟩) ?_)
  · intro d x hx
    obtain ⟨_, h2⟩ := look_argSl args 0 d x hx
    have hd : d < args.length := by
      have := (List.getElem?_eq_some_iff.1 h2).1
      simpa using this
    have hv := hr.2 d x (by simpa using h2)
    have : d < vs.length := by rw [hr.1]; exact hd
    have e : (vs.toArray ++ Array.replicate (fn.ntmps - vs.toArray.size) undef).getD d undef = vs.getD d undef := by
      simp [Array.getElem?_append, this]
    show RepV S R w x ((vs.toArray ++ Array.replicate (fn.ntmps - vs.toArray.size) undef).getD d undef)
    rw [e]; exact hv
  · refine ⟨rfl, rfl, rfl, Nat.le_refl _, fun _ _ _ => rfl, fun _ h => h, fun _ h => .inl h, fun _ _ h => h, fun g h => .inl h, fun l t ht => .inl ⟨t, ht⟩⟩
  · rintro e a' w' ⟨st', hq, S', R', hr'⟩
    have fin : ResQ P rvs Post st' → a'.defers = [] ∧ ∃ v, (results fn a'.tmps).run P w' = .ok v w' ∧ FnPost S R w ts Post (.returned v) w' := by
      rintro ⟨r, hres, ts', rest, ht, hp⟩
      obtain ⟨v, hv, hrep⟩ := hres S' R' a' w' hr'.holds hr'.slots fn hrv
      refine ⟨hr'.defers, v, hv, v, r, S', R', ts', rfl, hp, hr'.holds.sub ⟨rest, ht.perm⟩, hrep, ?_⟩
      exact hr'.out.sub fun p hm => ht.perm.mem_iff.2 (List.mem_append_left _ hm)
    cases e with
    | normal => exact fin hq
    | ret => exact fin hq
    | _ => exact hq.elim

/-! ### A call of yield -/
theorem run_callY {P : Program} {a : Act} {dst : Option Tmp} {ty : TypeId} {pos : String} {after : Array Edge} {g : Option (Nat × Bool)} {c : Operand} {xs : List Operand} {tys : Array TypeId} {l : Nat} {w : World} (hc : a.eval c = .func (.yield l) #[] #[]) :
    (execOp a.eval ⟨dst, .call ⟨.value c, xs.toArray, tys⟩, ty, pos, after, g⟩).run P w = (Instr.yield l (xs.map a.eval).toArray).run P w := by
  simp [execOp, resolve, hc, Deferred.ofValue, invoke]

section
variable {P : Program} {n : Nat} {G : Ctx P n} {l : List Oper} {sl : List (Nat × AV)} {ts : List (Nat × Tok)} {K : Kont} {d : Nat} {ty : TypeId} {pos : String} {after : Array Edge} {rest : List Oper}
theorem ar_yield {B : Base} {lo : Nat} {c : Operand} {xs : List Operand} {tys : Array TypeId} {ys : List AV} {us rs : List (Nat × Tok)} {Post : List (Nat × Tok) → AV → Prop} (hG : G.After B) (hY : Yld B P lo us ys Post) (hc : St.get ⟨sl, ts⟩ c = some (.val (.func (.yield lo) #[] #[]))) (hx : gets ⟨sl, ts⟩ xs = some ys)
    (ht : Takes ts us rs) (hd : Nat.blt d n = true) (h : ∀ ts' r, Post ts' r → AR G l 0 rest ⟨(d, r) :: sl, ts' ++ rs⟩ K) : AR G l 0 (⟨some d, .call ⟨.value c, xs.toArray, tys⟩, ty, pos, after, none⟩ :: rest) ⟨sl, ts⟩ K := by
  refine ar_of ⟨?_⟩
  rintro a w ⟨S, R, hr⟩
  refine wpListIn_plain rfl fun k hk => ⟨fun _ _ => trivial, ?_⟩
  have hcv : a.eval c = .func (.yield lo) #[] #[] := rep_val (hr.slots.eval hc)
  rw [show Oper.semAt (fen none).round a.eval _ = execOp a.eval _ from Oper.semAt_none a.eval _, run_callY hcv]
  obtain ⟨fn, tmps, as, bd, hy, hR⟩ := hY.h S R w (xs.map a.eval) (hr.ext hG) (hr.holds.sub ⟨rs, ht.perm⟩) (gets_reps hx fun z _ y hz => hr.slots.eval hz)
  rw [hy]
  refine ⟨fun h => (nomatch h), hR.mono ?_⟩
  rintro e w' ⟨v, r, S', R', ts', rfl, hpost, hh', hrep, o⟩
  have hf := hr.frame ht.perm hh' o
  exact hk _ _ ((h ts' r hpost).awo.h _ _ ⟨S', R', hf.holds, hf.slots.put (dst := some d) hrep (fun d' e => by cases e; rw [hr.size]; simpa [Nat.blt_eq] using hd), hf.out, (put_defers ..).trans hr.defers, (put_size ..).trans hr.size⟩)
end

end Go.Proofs.YtmenbolalghljaaA
