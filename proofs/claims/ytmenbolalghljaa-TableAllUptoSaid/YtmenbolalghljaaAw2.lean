/- The logic's states, its assertion over code, the rules of control, contracts of functions. -/
import Derived.Test.YtmenbolalghljaaAw1
import Derived.Deep.LoopGhost
import Derived.TacticsIn
import Derived.OrdersIn
namespace Go.Proofs.YtmenbolalghljaaA
open Go.RowKit

/-- What a function's proof is about: the program; how the world stood when the function was entered. -/
structure CtxR (P : Program) (n : Nat) (ro : Option Nat) where
  w0 : World
  S0 : Nat → Prop
  R0 : Lab
  F0 : Nat → Prop
  K0 : Nat → Prop
  ds : List Deferred := []
abbrev Ctx (P : Program) (n : Nat) := CtxR P n none
/-- Where it runs: anywhere, or in a round of a range over a function. -/
abbrev fen (ro : Option Nat) : Fence := { fn := fun _ => True, depth := none, alive := false, round := ro }

structure St where
  sl : List (Nat × AV)
  toks : List (Nat × Tok)

def look : List (Nat × AV) → Nat → Option AV
  | [], _ => none
  | (d, x) :: r, t => bif Nat.beq d t then some x else look r t

def St.get (st : St) : Operand → Option AV
  | .tmp t => look st.sl t
  | .const v => some (.val v)
  | .global g => some (.val (.pointer (some ⟨g, 0, none⟩)))
  | .func f => some (.fn f [])

def putSl (sl : List (Nat × AV)) (dst : Option Tmp) (x : AV) : List (Nat × AV) :=
  match dst with
  | some d => (d, x) :: sl
  | none => sl

/-- What has been done since the function was entered. -/
structure Out (P0 : World) (A0 : Nat → Prop) (B0 : Lab) (F0 K0 : Nat → Prop) (S : Nat → Prop) (R : Lab) (w : World) (ts : List (Nat × Tok)) : Prop where
  os : w.os = P0.os
  tape : w.tape = P0.tape
  output : w.output = P0.output
  size : P0.heap.size ≤ w.heap.size
  block : ∀ b, b < P0.heap.size → ¬ F0 b → w.heap[b]? = P0.heap[b]?
  S0 : ∀ b, A0 b → S b
  S1 : ∀ b, S b → A0 b ∨ F0 b ∨ P0.heap.size ≤ b
  R0 : ∀ l q, B0 l = some q → R l = some q
  foot : ∀ g, Foot R ts g → F0 g ∨ P0.heap.size ≤ g
  keys : ∀ l t, (l, t) ∈ ts → K0 l ∨ B0 l = none

def Slots (S : Nat → Prop) (R : Lab) (w : World) (sl : List (Nat × AV)) (a : Act) : Prop :=
  ∀ d x, look sl d = some x → RepV S R w x (a.tmps.getD d undef)

structure RelAt {P : Program} {n : Nat} {ro : Option Nat} (G : CtxR P n ro) (S : Nat → Prop) (R : Lab) (st : St) (a : Act) (w : World) : Prop where
  holds : Holds S R w st.toks
  slots : Slots S R w st.sl a
  out : Out G.w0 G.S0 G.R0 G.F0 G.K0 S R w st.toks
  defers : a.defers = G.ds
  size : a.tmps.size = n

def Rel {P : Program} {n : Nat} {ro : Option Nat} (G : CtxR P n ro) (st : St) (a : Act) (w : World) : Prop := ∃ S R, RelAt G S R st a w

theorem Slots.eval {S : Nat → Prop} {R : Lab} {w : World} {st : St} {a : Act} (h : Slots S R w st.sl a) {o : Operand} {x : AV} (hx : st.get o = some x) : RepV S R w x (a.eval o) := by
  cases o with
  | tmp t => exact h t x hx
  | const v => cases hx; exact .val _
  | global g => cases hx; exact .val _
  | func f =>
    cases hx
    exact RepV.fn (vs := #[]) rfl (fun i x hx => by simp at hx)

theorem Slots.mono {S S' : Nat → Prop} {R R' : Lab} {w w' : World} {sl : List (Nat × AV)} {a : Act} (h : Slots S R w sl a) (hS : ∀ b, S b → S' b) (hR : ∀ l q, R l = some q → R' l = some q)
    (hw : ∀ b, S b → w'.heap[b]? = w.heap[b]?) : Slots S' R' w' sl a := fun d x hx => (h d x hx).mono hS hR hw

theorem beq_of_ne {a b : Nat} (h : a ≠ b) : Nat.beq a b = false := by
  cases hb : Nat.beq a b with
  | true => exact absurd (Nat.eq_of_beq_eq_true hb) h
  | false => rfl

theorem Slots.put {S : Nat → Prop} {R : Lab} {w : World} {sl : List (Nat × AV)} {a : Act} (h : Slots S R w sl a) {dst : Option Tmp} {x : AV} {v : Value} (hv : RepV S R w x v) (hd : ∀ d, dst = some d → d < a.tmps.size) :
    Slots S R w (putSl sl dst x) (a.put dst v) := by
  cases dst with
  | none => exact h
  | some d =>
    intro e y hy
    simp only [putSl, look] at hy
    by_cases hde : d = e
    · subst hde
      rw [Nat.beq_refl] at hy
      cases hy
      have := hd d rfl
      simpa [Act.put, Array.getElem?_setIfInBounds_self_of_lt this] using hv
    · rw [beq_of_ne hde] at hy
      have := h e y hy
      simpa [Act.put, Array.getElem?_setIfInBounds_ne hde] using this

theorem Slots.undef {S : Nat → Prop} {R : Lab} {w : World} {sl : List (Nat × AV)} {a : Act} (h : Slots S R w sl a) {dst : Option Tmp} (v : Value) (hd : ∀ d, dst = some d → d < a.tmps.size) :
    Slots S R w (putSl sl dst .dead) (a.put dst v) := h.put (.dead v) hd

/-- Does a guard that wants b say no at this value? -/
def skipB (u : Value) (b : Bool) : Bool :=
  match u with
  | .bool c => !(c == b)
  | _ => true

theorem yielded_ne {ops : List Oper} {a : Act} {j d : Nat} {o : Oper} {u : Value} {want : Bool} (ho : ops[j]? = some o) (hod : o.dst = some d) (hv : a.tmps.getD d Go.undef = u) (hs : skipB u want = true) : yielded ops.toArray a.tmps j ≠ some want := by
  simp only [yielded, List.getElem?_toArray, ho, Option.bind_some, hod]
  rcases Nat.lt_or_ge d a.tmps.size with h | h
  · rw [Array.getElem?_eq_getElem h]
    have : a.tmps[d] = u := by simpa [h] using hv
    rw [this]
    cases u <;> first | (intro e; cases e; done) | (intro e; simp only [Option.some.injEq] at e; subst e; simp [skipB] at hs)
  · rw [Array.getElem?_eq_none h]
    intro e; cases e

theorem put_size (a : Act) (dst : Option Tmp) (v : Value) : (a.put dst v).tmps.size = a.tmps.size := by cases dst <;> simp [Act.put]
theorem put_defers (a : Act) (dst : Option Tmp) (v : Value) : (a.put dst v).defers = a.defers := by cases dst <;> rfl

/-! ### What is proved of an operation anywhere holds in a round too -/
theorem wpIn_ghost {F : Fence} {m : Nat} {P : Program} {Q : Exit → Act → World → Prop} {a : Act} {w : World} {c : Code} (I : Nat → Act → World → Prop) (k : Nat) (h0 : I k a w)
    (round : ∀ n a w, I n a w → c.wpIn F m P (Exit.then (fun a' w' => ∃ n', n' < n ∧ I n' a' w') Q) a w) : (Code.loop c).wpIn F m P Q a w := by
  refine wpIn_loop (fun a w => ∃ n, I n a w) (fun a w => leastOf (fun n => I n a w)) ⟨k, h0⟩ fun a w hI => ?_
  have hs := leastOf_spec hI
  refine wpIn_mono (round _ a w hs.1) fun e a' w' hq => ?_
  cases e with
  | normal =>
    obtain ⟨n', hlt, hI'⟩ := hq
    exact ⟨⟨n', hI'⟩, Nat.lt_of_le_of_lt ((leastOf_spec (p := fun n => I n a' w') ⟨n', hI'⟩).2 n' hI') hlt⟩
  | _ => exact hq

theorem oper_in {ro : Option Nat} {P : Program} {o : Oper} {a : Act} {w : World} {next : Act → World → Prop} {Q : Exit → Act → World → Prop}
    (h : o.wp P a w (fun a' w' => next a' w' ∧ a'.defers = a.defers) (fun _ _ _ => False)) : o.wpIn (fen ro) 0 P a w next Q := by
  refine ⟨fun _ _ => trivial, ?_⟩
  unfold Oper.wp at h
  have hnd : ∀ c, o.op ≠ .defer c := by
    intro c hc
    unfold execOp at h
    rw [hc] at h
    cases hr : (resolve a.eval c o.type).run P w with
    | ok d w' =>
      simp only [Sem.run_bind, hr, Result.andThen_ok, Sem.run_pure] at h
      have h2 := h.2
      rw [put_defers] at h2
      have := congrArg List.length h2
      simp at this
    | halt x w' =>
      simp only [Sem.run_bind, hr, Result.andThen_halt] at h
      cases x <;> exact h.elim
  rw [Oper.semAt_eq ro a.eval o hnd]
  generalize (execOp a.eval o).run P w = r at h
  match r, h with
  | .ok (.value v) w', h => exact h.1
  | .ok .skip w', h => exact h.1
  | .ok (.defer d) w', h => exact h.1
  | .ok (.enter f args) w', h =>
    refine ⟨fun h => (nomatch h), ?_⟩
    show CallsIn Fence.wide 0 P f args w' _
    refine callsIn_wide.2 (Calls.mono h ?_)
    intro e w'' hq
    cases e with
    | returned v => exact hq.1
    | panicked _ => exact hq.elim
    | outgrown => obtain ⟨_, _, hf⟩ := hq; exact hf.elim
  | .ok (.row row args) w', h =>
    refine ⟨fun h => (nomatch h), fun c cs _ => ?_⟩
    obtain ⟨v, w3, hq, hs⟩ := h c cs
    exact ⟨v, w3, hq.1, (stepsIn_wide (P := P)).2 hs⟩
  | .halt (.panic v) w', h => exact h.elim

/-! ### Code -/
inductive Kont where
  | nil (Q : Exit → St → Prop)
  | seq (y : Code) (K : Kont)
  | block (id : Nat) (K : Kont)
  | loop (B : St → Prop) (K : Kont)

def lift {P : Program} {n : Nat} {ro : Option Nat} (G : CtxR P n ro) (Q : Exit → St → Prop) : Exit → Act → World → Prop := fun e a w => ∃ st, Q e st ∧ Rel G st a w

def AWP {P : Program} {n : Nat} {ro : Option Nat} (G : CtxR P n ro) (c : Code) (st : St) (Q : Exit → St → Prop) : Prop := ∀ a w, Rel G st a w → c.wpIn (fen ro) 0 P (lift G Q) a w

def Kont.at {P : Program} {n : Nat} {ro : Option Nat} (G : CtxR P n ro) : Kont → Exit → St → Prop
  | .nil Q, e, st => Q e st
  | .seq y K, .normal, st => AWP G y st (K.at G)
  | .seq _ K, e, st => K.at G e st
  | .block id K, .exit id', st => if id' = id then K.at G .normal st else K.at G (.exit id') st
  | .block _ K, e, st => K.at G e st
  | .loop B _, .normal, st => B st
  | .loop _ K, e, st => K.at G e st

/-- The code is run in this state, with this behind it. -/
structure AW {P : Program} {n : Nat} {ro : Option Nat} (G : CtxR P n ro) (c : Code) (st : St) (K : Kont) : Prop where
  h : AWP G c st (K.at G)
/-- What is behind is gone on with. -/
structure Goes {P : Program} {n : Nat} {ro : Option Nat} (G : CtxR P n ro) (K : Kont) (e : Exit) (st : St) : Prop where
  h : K.at G e st

section
variable {P : Program} {n : Nat} {ro : Option Nat} {G : CtxR P n ro} {st : St} {K : Kont}
theorem aw_seq {x y : Code} (h : AW G x st (.seq y K)) : AW G (.seq x y) st K := ⟨fun a w hr => by
  refine wpIn_seq (wpIn_mono (h.h a w hr) ?_)
  rintro e a' w' ⟨st', hq, hr'⟩
  cases e with
  | normal => exact hq a' w' hr'
  | _ => exact ⟨st', hq, hr'⟩⟩
theorem aw_skip (h : Goes G K .normal st) : AW G .skip st K := ⟨fun _ _ hr => wpIn_skip ⟨st, h.h, hr⟩⟩
theorem aw_ret (h : Goes G K .ret st) : AW G .ret st K := ⟨fun _ _ hr => wpIn_ret ⟨st, h.h, hr⟩⟩
theorem aw_label {l : Nat} (h : Goes G K .normal st) : AW G (.label l) st K := ⟨fun _ _ hr => wpIn_label ⟨st, h.h, hr⟩⟩
theorem aw_exit {id : Nat} (h : Goes G K (.exit id) st) : AW G (.exit id) st K := ⟨fun _ _ hr => wpIn_exit ⟨st, h.h, hr⟩⟩
theorem aw_block {id : Nat} {c : Code} (h : AW G c st (.block id K)) : AW G (.block id c) st K := ⟨fun a w hr => by
  refine wpIn_block (wpIn_mono (h.h a w hr) ?_)
  rintro e a' w' ⟨st', hq, hr'⟩
  cases e with
  | exit id' =>
    simp only [Kont.at] at hq
    simp only [Exit.inBlock]
    split
    · rw [if_pos ‹_›] at hq; exact ⟨st', hq, hr'⟩
    · rw [if_neg ‹_›] at hq; exact ⟨st', hq, hr'⟩
  | _ => exact ⟨st', hq, hr'⟩⟩
theorem eval_bool {S : Nat → Prop} {R : Lab} {w : World} {a : Act} (hs : Slots S R w st.sl a) {c : Operand} {v : Value} (hx : st.get c = some (.val v)) : a.eval c = v := by
  have := hs.eval hx
  cases this
  rfl
theorem aw_cond {c : Operand} {x y : Code} {t : Bool} (hc : st.get c = some (.val (.bool t))) (ht : t = true → AW G x st K) (hf : t = false → AW G y st K) : AW G (.cond c x y) st K := ⟨fun a w hr => by
  obtain ⟨S, R, hr'⟩ := hr
  have he : a.eval c = .bool t := eval_bool hr'.slots hc
  exact wpIn_cond_split he (fun h => (ht h).h a w ⟨S, R, hr'⟩) (fun h => (hf h).h a w ⟨S, R, hr'⟩)⟩
theorem aw_cond_t {c : Operand} {x y : Code} (hc : st.get c = some (.val (.bool true))) (ht : AW G x st K) : AW G (.cond c x y) st K := aw_cond hc (fun _ => ht) (fun h => by cases h)
theorem aw_cond_f {c : Operand} {x y : Code} (hc : st.get c = some (.val (.bool false))) (hf : AW G y st K) : AW G (.cond c x y) st K := aw_cond hc (fun h => by cases h) (fun _ => hf)

theorem go_seq {y : Code} (h : AW G y st K) : Goes G (.seq y K) .normal st := ⟨h.h⟩
theorem go_seq_exit {y : Code} {id : Nat} (h : Goes G K (.exit id) st) : Goes G (.seq y K) (.exit id) st := ⟨h.h⟩
theorem go_seq_ret {y : Code} (h : Goes G K .ret st) : Goes G (.seq y K) .ret st := ⟨h.h⟩
theorem go_block {id : Nat} (h : Goes G K .normal st) : Goes G (.block id K) .normal st := ⟨h.h⟩
theorem go_block_exit {id : Nat} (h : Goes G K .normal st) : Goes G (.block id K) (.exit id) st := by
  refine ⟨?_⟩
  show (if id = id then _ else _)
  rw [if_pos rfl]; exact h.h
theorem go_block_pass {id id' : Nat} (hn : Nat.beq id' id = false) (h : Goes G K (.exit id') st) : Goes G (.block id K) (.exit id') st := by
  refine ⟨?_⟩
  show (if id' = id then _ else _)
  rw [if_neg (fun e => by rw [e, Nat.beq_refl] at hn; cases hn)]; exact h.h
theorem go_block_ret {id : Nat} (h : Goes G K .ret st) : Goes G (.block id K) .ret st := ⟨h.h⟩
theorem go_loop_back {B : St → Prop} (h : B st) : Goes G (.loop B K) .normal st := ⟨h⟩
theorem go_loop_exit {B : St → Prop} {id : Nat} (h : Goes G K (.exit id) st) : Goes G (.loop B K) (.exit id) st := ⟨h.h⟩
theorem go_loop_ret {B : St → Prop} (h : Goes G K .ret st) : Goes G (.loop B K) .ret st := ⟨h.h⟩
theorem go_nil {Q : Exit → St → Prop} {e : Exit} (h : Q e st) : Goes G (.nil Q) e st := ⟨h⟩
end

/-! ### A state that says less -/
def SubSl (sl sl' : List (Nat × AV)) : Prop := ∀ d x, look sl' d = some x → look sl d = some x

/-- st says at least what st' says. -/
def Sub (st st' : St) : Prop := ∀ S R a w, Slots S R w st.sl a → Holds S R w st.toks → Slots S R w st'.sl a ∧ ∃ r, st.toks.Perm (st'.toks ++ r)

theorem Out.sub {w0 : World} {S0 : Nat → Prop} {R0 : Lab} {F0 K0 S : Nat → Prop} {R : Lab} {w : World} {ts us : List (Nat × Tok)} (h : Out w0 S0 R0 F0 K0 S R w ts) (hs : ∀ p, p ∈ us → p ∈ ts) : Out w0 S0 R0 F0 K0 S R w us :=
  ⟨h.os, h.tape, h.output, h.size, h.block, h.S0, h.S1, h.R0, fun g ⟨l, t, ht, hg⟩ => h.foot g ⟨l, t, hs _ ht, hg⟩, fun l t ht => h.keys l t (hs _ ht)⟩

theorem Rel.sub {P : Program} {n : Nat} {ro : Option Nat} {G : CtxR P n ro} {st st' : St} {a : Act} {w : World} (h : Rel G st a w) (hs : Sub st st') : Rel G st' a w := by
  obtain ⟨S, R, hr⟩ := h
  obtain ⟨h1, r, hp⟩ := hs S R a w hr.slots hr.holds
  exact ⟨S, R, hr.holds.sub ⟨r, hp⟩, h1, hr.out.sub (fun p hm => hp.mem_iff.2 (List.mem_append_left _ hm)), hr.defers, hr.size⟩

theorem AW.sub {P : Program} {n : Nat} {ro : Option Nat} {G : CtxR P n ro} {c : Code} {st st' : St} {K : Kont} (hs : Sub st st') (h : AW G c st' K) : AW G c st K := ⟨fun a w hr => h.h a w (hr.sub hs)⟩

/-- y says no more than x. -/
def Le (x y : AV) : Prop := ∀ (S : Nat → Prop) (R : Lab) (w : World) (v : Value), RepV S R w x v → RepV S R w y v
theorem Le.refl {x : AV} : Le x x := fun _ _ _ _ h => h
theorem Le.dead {x : AV} : Le x .dead := fun _ _ _ _ _ => .dead _
theorem Le.nil {k : Nat} : Le (.val (.slice none 0 0)) (.sl k [] 0) := fun _ _ _ v hv => by
  cases hv
  exact .sl (F := fun _ _ => undef) (by simp) (by simp) (by simp [maxLen]) (by simp) (by simp) (by simp) (by simp)
theorem Le.rep {S : Nat → Prop} {R : Lab} {w : World} {x y : AV} (h : Le x y) {v : Value} (hv : RepV S R w x v) : RepV S R w y v := h S R w v hv

theorem Sub.mk' {st st' : St} (h1 : ∀ d y, look st'.sl d = some y → ∃ x, look st.sl d = some x ∧ Le x y) {r : List (Nat × Tok)} (h2 : Takes st.toks st'.toks r) : Sub st st' :=
  fun S R a w hs _ => ⟨fun d y hy => by obtain ⟨x, hx, hle⟩ := h1 d y hy; exact hle.rep (hs d x hx), r, h2.perm⟩

/-- The slots of a state, one by one. -/
inductive SlLe (sl : List (Nat × AV)) : List (Nat × AV) → Prop
  | nil : SlLe sl []
  | cons {d : Nat} {x y : AV} {r : List (Nat × AV)} (h : look sl d = some x) (hl : Le x y) (hr : SlLe sl r) : SlLe sl ((d, y) :: r)

theorem SlLe.get {sl sl' : List (Nat × AV)} (h : SlLe sl sl') : ∀ d y, look sl' d = some y → ∃ x, look sl d = some x ∧ Le x y := by
  induction h with
  | nil => intro d y hy; cases hy
  | cons h hl _ ih =>
    intro d' y' hy
    simp only [look] at hy
    rename_i d x y r hr
    by_cases hde : d = d'
    · subst hde
      rw [Nat.beq_refl] at hy
      cases hy
      exact ⟨_, h, hl⟩
    · rw [beq_of_ne hde] at hy
      exact ih d' y' hy

theorem Sub.of {st st' : St} (h1 : SlLe st.sl st'.sl) {r : List (Nat × Tok)} (h2 : Takes st.toks st'.toks r) : Sub st st' := Sub.mk' h1.get h2

/-! ### Loops -/
theorem aw_loop {P : Program} {n : Nat} {ro : Option Nat} {G : CtxR P n ro} {c : Code} {st : St} {K : Kont} {ι : Type} (I : ι → St) (μ : ι → Nat) (i0 : ι) (h0 : Sub st (I i0))
    (round : ∀ i, AW G c (I i) (.loop (fun st' => ∃ i', μ i' < μ i ∧ Sub st' (I i')) K)) : AW G (.loop c) st K := ⟨fun a w hr => by
  refine wpIn_ghost (fun n a w => ∃ i, μ i = n ∧ Rel G (I i) a w) (μ i0) ⟨i0, rfl, hr.sub h0⟩ ?_
  rintro n a w ⟨i, rfl, hr⟩
  refine wpIn_mono ((round i).h a w hr) ?_
  rintro e a' w' ⟨st', hq, hr'⟩
  cases e with
  | normal =>
    obtain ⟨i', hlt, hs⟩ := hq
    exact ⟨μ i', hlt, i', rfl, hr'.sub hs⟩
  | _ => exact ⟨st', hq, hr'⟩⟩

end Go.Proofs.YtmenbolalghljaaA
