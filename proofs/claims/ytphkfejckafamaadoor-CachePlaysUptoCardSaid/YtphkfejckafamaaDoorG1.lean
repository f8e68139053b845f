import Derived.WalkKit
import Derived.Orders
import Derived.Deep.LoopGhost
import Derived.TacticsIn
import Derived.OrdersIn
/- A small program logic over the model's weakest preconditions: values that bear their contents, tokens for what may be written. -/
namespace Go.Proofs.YtphkfejckafamaaDoorA
open Go.RowKit

/-- Where a token lies: block, base (in elements), cells an element, elements in the block. -/
structure Blk where
  g : Nat
  b : Nat
  k : Nat
  t : Nat

/-- What a label is bound to: nothing yet; a nil slice; a block. -/
abbrev Lab := Nat → Option (Option Blk)

inductive AV where
  | val (v : Value)
  | dead
  | agg (cs : List AV)
  | tup (cs : List AV)
  | sl (k : Nat) (xs : List (List AV)) (n : Nat)
  | ip (cs : List AV)
  | ptr (l i j : Nat)
  | own (l off n : Nat)
  | mref (l : Nat)
  | fn (f : FuncId) (caps : List AV)
  | imap (es : List (AV × AV))
  | bm (f : FuncId) (bs : List AV)

/-- May it stand in one cell? -/
def AV.one : AV → Bool
  | .val v => v.oneCell'
  | .dead => false
  | .agg _ => false
  | .tup _ => false
  | _ => true

inductive RepV (S : Nat → Prop) (R : Lab) (w : World) : AV → Value → Prop
  | val (v : Value) : RepV S R w (.val v) v
  | dead (v : Value) : RepV S R w .dead v
  | agg {cs : List AV} {vs : Array Value} (hl : vs.size = cs.length) (h : ∀ i x, cs[i]? = some x → RepV S R w x (vs.getD i undef)) : RepV S R w (.agg cs) (.agg vs)
  | tup {cs : List AV} {vs : Array Value} (hl : vs.size = cs.length) (h : ∀ i x, cs[i]? = some x → RepV S R w x (vs.getD i undef)) : RepV S R w (.tup cs) (.tuple vs)
  | sl {k n c : Nat} {xs : List (List AV)} {a : Option Addr} {F : Nat → Nat → Value} (hn : n ≤ xs.length) (hc : xs.length ≤ c) (hm : c ≤ maxLen) (hk : ∀ x, x ∈ xs → x.length = k)
      (ha : xs ≠ [] → ∃ ad, a = some ad ∧ S ad.block ∧ ∀ i x j y, xs[i]? = some x → x[j]? = some y → w.cell? (ad.add (i * k + j)) = some (F i j))
      (h1 : ∀ x, x ∈ xs → ∀ y, y ∈ x → y.one = true)
      (hF : ∀ i x j y, xs[i]? = some x → x[j]? = some y → RepV S R w y (F i j)) : RepV S R w (.sl k xs n) (.slice a n c)
  | ip {cs : List AV} {ad : Addr} {F : Nat → Value} (hS : S ad.block) (hc : ∀ j y, cs[j]? = some y → w.cell? (ad.add j) = some (F j)) (h1 : ∀ y, y ∈ cs → y.one = true)
      (hF : ∀ j y, cs[j]? = some y → RepV S R w y (F j)) : RepV S R w (.ip cs) (.pointer (some ad))
  | ptr {l i j : Nat} {q : Blk} (h : R l = some (some q)) : RepV S R w (.ptr l i j) (.pointer (some ⟨q.g, (q.b + i) * q.k + j, none⟩))
  | own {l off n c : Nat} {q : Blk} {a : Option Addr} (h : R l = some (some q)) (hn : n ≤ c) (hm : c ≤ maxLen) (ht : q.b + off + c = q.t) (ha : c = 0 ∨ a = some ⟨q.g, (q.b + off) * q.k, none⟩) (hs : ∃ ad, a = some ad ∧ ad.block = q.g) : RepV S R w (.own l off n) (.slice a n c)
  | onil {l : Nat} (h : R l = some none) : RepV S R w (.own l 0 0) (.slice none 0 0)
  | mref {l : Nat} {q : Blk} (h : R l = some (some q)) : RepV S R w (.mref l) (.map (some q.g))
  | fn {f : FuncId} {cs : List AV} {vs : Array Value} (hl : vs.size = cs.length) (h : ∀ i x, cs[i]? = some x → RepV S R w x (vs.getD i undef)) : RepV S R w (.fn f cs) (.func (.func f) #[] vs)
  | imap {es : List (AV × AV)} {g : Nat} {ents : Array MapEntry} {clock : _} {A B : Nat → Value} (hS : S g) (hh : w.heap[g]? = some (.map ents clock)) (hl : ents.size = es.length)
      (hm : ∀ (i : Nat) (p : AV × AV), es[i]? = some p → ∃ m : MapEntry, ents[i]? = some m ∧ m.key = A i ∧ m.val = B i) (hk : ∀ (i : Nat) (p : AV × AV), es[i]? = some p → RepV S R w p.1 (A i)) (hv : ∀ (i : Nat) (p : AV × AV), es[i]? = some p → RepV S R w p.2 (B i)) : RepV S R w (.imap es) (.map (some g))
  | bm {f : FuncId} {cs : List AV} {vs : Array Value} (hl : vs.size = cs.length) (h : ∀ i x, cs[i]? = some x → RepV S R w x (vs.getD i undef)) : RepV S R w (.bm f cs) (.func (.func f) vs #[])

theorem add_block (a : Addr) (n : Nat) : (a.add n).block = a.block := by unfold Addr.add; split <;> rfl

/-- What is read lies in unturned blocks, what is bound stays bound: a reading lives on. -/
theorem RepV.mono {S S' : Nat → Prop} {R R' : Lab} {w w' : World} (hS : ∀ b, S b → S' b) (hR : ∀ l q, R l = some q → R' l = some q) (hw : ∀ b, S b → w'.heap[b]? = w.heap[b]?)
    {x : AV} {v : Value} (h : RepV S R w x v) : RepV S' R' w' x v := by
  induction h with
  | val v => exact .val v
  | dead v => exact .dead v
  | agg hl _ ih => exact .agg hl ih
  | tup hl _ ih => exact .tup hl ih
  | sl hn hc hm hk ha h1 _ ih =>
    refine .sl hn hc hm hk (fun hne => ?_) h1 ih
    obtain ⟨ad, e, hb, hcell⟩ := ha hne
    exact ⟨ad, e, hS _ hb, fun i x j y hx hy => (World.cell?_of_block (by rw [add_block]; exact hw _ hb)).trans (hcell i x j y hx hy)⟩
  | ip hb hc h1 _ ih =>
    exact .ip (hS _ hb) (fun j y hy => (World.cell?_of_block (by rw [add_block]; exact hw _ hb)).trans (hc j y hy)) h1 ih
  | ptr h => exact .ptr (hR _ _ h)
  | own h hn hm ht ha hs => exact .own (hR _ _ h) hn hm ht ha hs
  | onil h => exact .onil (hR _ _ h)
  | mref h => exact .mref (hR _ _ h)
  | fn hl _ ih => exact .fn hl ih
  | imap hb hh hl hm _ _ ihk ihv => exact .imap (hS _ hb) ((hw _ hb).trans hh) hl hm ihk ihv
  | bm hl _ ih => exact .bm hl ih

theorem RepV.one {S : Nat → Prop} {R : Lab} {w : World} {x : AV} {v : Value} (h : RepV S R w x v) (h1 : x.one = true) : v.oneCell' = true := by
  cases h <;> first | exact h1 | rfl | (simp [AV.one] at h1)

inductive Tok where
  | row (e : TypeId) (k : Nat) (xs : List (List AV))
  | map (es : List (AV × AV))
  | obj (o : Obj)
  | fact (BS : Nat → Prop) (BR : Lab) (Bw : World)

/-- A token's cells in its block. -/
def RowAt (S : Nat → Prop) (R : Lab) (w : World) (q : Blk) (cur : Array Value) (xs : List (List AV)) : Prop :=
  ∀ i x, xs[i]? = some x → x.length = q.k ∧ ∀ j y, x[j]? = some y → y.one = true ∧ ∃ u, cur[(q.b + i) * q.k + j]? = some u ∧ RepV S R w y u

/-- A map's entries, in their order. -/
def MapAt (S : Nat → Prop) (R : Lab) (w : World) (ents : Array MapEntry) (es : List (AV × AV)) : Prop :=
  ents.size = es.length ∧ ∀ (i : Nat) (p : AV × AV), es[i]? = some p → ∃ m : MapEntry, ents[i]? = some m ∧ RepV S R w p.1 m.key ∧ RepV S R w p.2 m.val

def TokHolds (S : Nat → Prop) (R : Lab) (w : World) (l : Nat) (t : Tok) : Prop :=
  match R l, t with
  | some none, .row _ _ xs => xs = []
  | some none, .fact BS BR Bw => (∀ b, BS b → S b) ∧ (∀ l q, BR l = some q → R l = some q) ∧ ∀ b, BS b → w.heap[b]? = Bw.heap[b]?
  | some (some q), .row e k xs => q.k = k ∧ ∃ cur fr, w.heap[q.g]? = some (.cells cur e fr) ∧ (cur.size ≤ fr.1 ∨ fr = (0, 0)) ∧ cur.size = q.t * k ∧ q.b + xs.length ≤ q.t ∧ q.t ≤ maxLen ∧ RowAt S R w q cur xs
  | some (some q), .map es => ∃ ents clock, w.heap[q.g]? = some (.map ents clock) ∧ MapAt S R w ents es
  | some (some q), .obj o => q.k = 0 ∧ w.heap[q.g]? = some o
  | _, _ => False

def blkOf (R : Lab) (l : Nat) : Option Nat :=
  match R l with
  | some (some q) => some q.g
  | _ => none

/-- The blocks of tokens. -/
def Foot (R : Lab) (ts : List (Nat × Tok)) (g : Nat) : Prop := ∃ l t, (l, t) ∈ ts ∧ blkOf R l = some g

structure Holds (S : Nat → Prop) (R : Lab) (w : World) (ts : List (Nat × Tok)) : Prop where
  top : ∃ N, ∀ l, N ≤ l → R l = none
  apart : ts.Pairwise fun p q => p.1 ≠ q.1 ∧ ∀ g, blkOf R p.1 = some g → blkOf R q.1 ≠ some g
  tok : ∀ l t, (l, t) ∈ ts → TokHolds S R w l t
  notS : ∀ g, Foot R ts g → ¬ S g
  low : ∀ b, S b → b < w.heap.size

theorem TokHolds.bound {S : Nat → Prop} {R : Lab} {w : World} {l : Nat} {t : Tok} (h : TokHolds S R w l t) : ∃ q, R l = some q := by
  unfold TokHolds at h
  split at h <;> first | exact ⟨_, ‹_›⟩ | exact h.elim

theorem TokHolds.lt {S : Nat → Prop} {R : Lab} {w : World} {l : Nat} {t : Tok} (h : TokHolds S R w l t) {g : Nat} (hg : blkOf R l = some g) : g < w.heap.size := by
  unfold TokHolds at h
  split at h
  · rename_i e; simp [blkOf, e] at hg
  · rename_i e; simp [blkOf, e] at hg
  · rename_i e
    obtain ⟨_, cur, fr, hh, _⟩ := h
    simp [blkOf, e] at hg
    subst hg
    exact (Array.getElem?_eq_some_iff.1 hh).1
  · rename_i e
    obtain ⟨ents, clock, hh, _⟩ := h
    simp [blkOf, e] at hg
    subst hg
    exact (Array.getElem?_eq_some_iff.1 hh).1
  · rename_i e
    simp [blkOf, e] at hg
    subst hg
    exact (Array.getElem?_eq_some_iff.1 h.2).1
  · exact h.elim

theorem TokHolds.mono {S S' : Nat → Prop} {R R' : Lab} {w w' : World} {l : Nat} {t : Tok} (hS : ∀ b, S b → S' b) (hR : ∀ l q, R l = some q → R' l = some q) (hw : ∀ b, S b → w'.heap[b]? = w.heap[b]?)
    (hg : ∀ g, blkOf R l = some g → w'.heap[g]? = w.heap[g]?) (h : TokHolds S R w l t) : TokHolds S' R' w' l t := by
  unfold TokHolds at h ⊢
  split at h
  · rename_i e
    rw [hR _ _ e]
    exact h
  · rename_i e
    rw [hR _ _ e]
    exact ⟨fun b hb => hS b (h.1 b hb), fun l q hq => hR l q (h.2.1 l q hq), fun b hb => (hw b (h.1 b hb)).trans (h.2.2 b hb)⟩
  · rename_i q ty k xs e
    rw [hR _ _ e]
    obtain ⟨hk, cur, fr, hh, hfr, hs, hb, hm, hr⟩ := h
    refine ⟨hk, cur, fr, ?_, hfr, hs, hb, hm, fun i x hx => ⟨(hr i x hx).1, fun j y hy => ?_⟩⟩
    · rw [hg q.g (by simp [blkOf, e])]; exact hh
    · obtain ⟨h1, u, hu, hrep⟩ := (hr i x hx).2 j y hy
      exact ⟨h1, u, hu, hrep.mono hS hR hw⟩
  · rename_i q es e
    rw [hR _ _ e]
    obtain ⟨ents, clock, hh, hs, hr⟩ := h
    refine ⟨ents, clock, ?_, hs, fun i p hp => ?_⟩
    · rw [hg q.g (by simp [blkOf, e])]; exact hh
    · obtain ⟨m, hm, h1, h2⟩ := hr i p hp
      exact ⟨m, hm, h1.mono hS hR hw, h2.mono hS hR hw⟩
  · rename_i q o e
    rw [hR _ _ e]
    exact ⟨h.1, (hg q.g (by simp [blkOf, e])).trans h.2⟩
  · exact h.elim

theorem blkOf_mono {R R' : Lab} (hR : ∀ l q, R l = some q → R' l = some q) {l : Nat} (hb : ∃ q, R l = some q) : blkOf R' l = blkOf R l := by
  obtain ⟨q, hq⟩ := hb
  simp [blkOf, hq, hR _ _ hq]

theorem Holds.sub {S : Nat → Prop} {R : Lab} {w : World} {ts us : List (Nat × Tok)} (h : Holds S R w ts) (hs : ∃ r, ts.Perm (us ++ r)) : Holds S R w us := by
  obtain ⟨r, hp⟩ := hs
  have hsym : ∀ p q : Nat × Tok, (p.1 ≠ q.1 ∧ ∀ g, blkOf R p.1 = some g → blkOf R q.1 ≠ some g) → (q.1 ≠ p.1 ∧ ∀ g, blkOf R q.1 = some g → blkOf R p.1 ≠ some g) :=
    fun p q hpq => ⟨fun e => hpq.1 e.symm, fun g h1 h2 => hpq.2 g h2 h1⟩
  refine ⟨h.top, ?_, fun l t ht => h.tok l t (hp.mem_iff.2 (List.mem_append_left _ ht)), fun g ⟨l, t, ht, hg⟩ => h.notS g ⟨l, t, hp.mem_iff.2 (List.mem_append_left _ ht), hg⟩, h.low⟩
  have := (hp.pairwise_iff (fun {p q} hpq => hsym p q hpq)).1 h.apart
  exact (List.pairwise_append.1 this).1

/-- The world goes on to another in which nothing that lay there has turned; more may be stable, more may be bound. -/
theorem Holds.mono {S S' : Nat → Prop} {R R' : Lab} {w w' : World} {ts : List (Nat × Tok)} (h : Holds S R w ts) (hS : ∀ b, S b → S' b) (hS' : ∀ b, S' b → S b ∨ (w.heap.size ≤ b ∧ b < w'.heap.size)) (hR : ∀ l q, R l = some q → R' l = some q)
    (htop : ∃ N, ∀ l, N ≤ l → R' l = none) (hsz : w.heap.size ≤ w'.heap.size) (hw : ∀ b, b < w.heap.size → w'.heap[b]? = w.heap[b]?) : Holds S' R' w' ts := by
  have hb : ∀ l t, (l, t) ∈ ts → blkOf R' l = blkOf R l := fun l t ht => blkOf_mono hR (h.tok l t ht).bound
  refine ⟨htop, ?_, fun l t ht => (h.tok l t ht).mono hS hR (fun b hb => hw b (h.low b hb)) (fun g hg => hw g ((h.tok l t ht).lt hg)), ?_, ?_⟩
  · refine h.apart.imp_of_mem fun {p q} hp hq hpq => ⟨hpq.1, fun g => ?_⟩
    rw [hb p.1 p.2 hp, hb q.1 q.2 hq]
    exact hpq.2 g
  · rintro g ⟨l, t, ht, hg⟩ hs
    rw [hb l t ht] at hg
    rcases hS' g hs with h1 | h1
    · exact h.notS g ⟨l, t, ht, hg⟩ h1
    · have := (h.tok l t ht).lt hg
      omega
  · intro b hs
    rcases hS' b hs with h1 | h1
    · exact Nat.lt_of_lt_of_le (h.low b h1) hsz
    · exact h1.2

/-- Taking one token out of a list. -/
inductive Take : List (Nat × Tok) → Nat → Tok → List (Nat × Tok) → Prop
  | head {l : Nat} {t : Tok} {r : List (Nat × Tok)} : Take ((l, t) :: r) l t r
  | tail {p : Nat × Tok} {l : Nat} {t : Tok} {r r' : List (Nat × Tok)} (h : Take r l t r') : Take (p :: r) l t (p :: r')

theorem Take.perm {ts : List (Nat × Tok)} {l : Nat} {t : Tok} {r : List (Nat × Tok)} (h : Take ts l t r) : ts.Perm ((l, t) :: r) := by
  induction h with
  | head => exact .refl _
  | tail _ ih => exact (ih.cons _).trans (.swap ..)

/-- Taking several. -/
inductive Takes : List (Nat × Tok) → List (Nat × Tok) → List (Nat × Tok) → Prop
  | nil {ts : List (Nat × Tok)} : Takes ts [] ts
  | cons {ts us r r' : List (Nat × Tok)} {l : Nat} {t : Tok} (h : Take ts l t r) (hs : Takes r us r') : Takes ts ((l, t) :: us) r'

theorem Takes.perm {ts us r : List (Nat × Tok)} (h : Takes ts us r) : ts.Perm (us ++ r) := by
  induction h with
  | nil => exact .refl _
  | cons h _ ih => exact h.perm.trans (ih.cons _)

end Go.Proofs.YtphkfejckafamaaDoorA

/- The logic's states, its assertion over code, the rules of control, contracts of functions. -/
namespace Go.Proofs.YtphkfejckafamaaDoorA
open Go.RowKit

/-- What a function's proof is about: the program; how the world stood when the function was entered. -/
structure CtxR (P : Program) (n : Nat) (ro : Option Nat) where
  w0 : World
  S0 : Nat → Prop
  R0 : Lab
  F0 : Nat → Prop
  K0 : Nat → Prop
  ds : List Deferred := []
abbrev Ctx (P : Program) (n : Nat) := CtxR P n none
/-- Where it runs: anywhere, or in a round of a range over a function. -/
abbrev fen (ro : Option Nat) : Fence := { fn := fun _ => True, depth := none, alive := false, round := ro }

structure St where
  sl : List (Nat × AV)
  toks : List (Nat × Tok)

def look : List (Nat × AV) → Nat → Option AV
  | [], _ => none
  | (d, x) :: r, t => bif Nat.beq d t then some x else look r t

def St.get (st : St) : Operand → Option AV
  | .tmp t => look st.sl t
  | .const v => some (.val v)
  | .global g => some (.val (.pointer (some ⟨g, 0, none⟩)))
  | .func f => some (.fn f [])

def putSl (sl : List (Nat × AV)) (dst : Option Tmp) (x : AV) : List (Nat × AV) :=
  match dst with
  | some d => (d, x) :: sl
  | none => sl

/-- What has been done since the function was entered. -/
structure Out (P0 : World) (A0 : Nat → Prop) (B0 : Lab) (F0 K0 : Nat → Prop) (S : Nat → Prop) (R : Lab) (w : World) (ts : List (Nat × Tok)) : Prop where
  os : w.os = P0.os
  tape : w.tape = P0.tape
  output : w.output = P0.output
  size : P0.heap.size ≤ w.heap.size
  block : ∀ b, b < P0.heap.size → ¬ F0 b → w.heap[b]? = P0.heap[b]?
  S0 : ∀ b, A0 b → S b
  S1 : ∀ b, S b → A0 b ∨ F0 b ∨ P0.heap.size ≤ b
  R0 : ∀ l q, B0 l = some q → R l = some q
  foot : ∀ g, Foot R ts g → F0 g ∨ P0.heap.size ≤ g
  keys : ∀ l t, (l, t) ∈ ts → K0 l ∨ B0 l = none

def Slots (S : Nat → Prop) (R : Lab) (w : World) (sl : List (Nat × AV)) (a : Act) : Prop :=
  ∀ d x, look sl d = some x → RepV S R w x (a.tmps.getD d undef)

structure RelAt {P : Program} {n : Nat} {ro : Option Nat} (G : CtxR P n ro) (S : Nat → Prop) (R : Lab) (st : St) (a : Act) (w : World) : Prop where
  holds : Holds S R w st.toks
  slots : Slots S R w st.sl a
  out : Out G.w0 G.S0 G.R0 G.F0 G.K0 S R w st.toks
  defers : a.defers = G.ds
  size : a.tmps.size = n

def Rel {P : Program} {n : Nat} {ro : Option Nat} (G : CtxR P n ro) (st : St) (a : Act) (w : World) : Prop := ∃ S R, RelAt G S R st a w

theorem Slots.eval {S : Nat → Prop} {R : Lab} {w : World} {st : St} {a : Act} (h : Slots S R w st.sl a) {o : Operand} {x : AV} (hx : st.get o = some x) : RepV S R w x (a.eval o) := by
  cases o with
  | tmp t => exact h t x hx
  | const v => cases hx; exact .val _
  | global g => cases hx; exact .val _
  | func f =>
    cases hx
    exact RepV.fn (vs := #[]) rfl (fun i x hx => by simp at hx)

theorem Slots.mono {S S' : Nat → Prop} {R R' : Lab} {w w' : World} {sl : List (Nat × AV)} {a : Act} (h : Slots S R w sl a) (hS : ∀ b, S b → S' b) (hR : ∀ l q, R l = some q → R' l = some q)
    (hw : ∀ b, S b → w'.heap[b]? = w.heap[b]?) : Slots S' R' w' sl a := fun d x hx => (h d x hx).mono hS hR hw

theorem beq_of_ne {a b : Nat} (h : a ≠ b) : Nat.beq a b = false := by
  cases hb : Nat.beq a b with
  | true => exact absurd (Nat.eq_of_beq_eq_true hb) h
  | false => rfl

theorem Slots.put {S : Nat → Prop} {R : Lab} {w : World} {sl : List (Nat × AV)} {a : Act} (h : Slots S R w sl a) {dst : Option Tmp} {x : AV} {v : Value} (hv : RepV S R w x v) (hd : ∀ d, dst = some d → d < a.tmps.size) :
    Slots S R w (putSl sl dst x) (a.put dst v) := by
  cases dst with
  | none => exact h
  | some d =>
    intro e y hy
    simp only [putSl, look] at hy
    by_cases hde : d = e
    · subst hde
      rw [Nat.beq_refl] at hy
      cases hy
      have := hd d rfl
      simpa [Act.put, Array.getElem?_setIfInBounds_self_of_lt this] using hv
    · rw [beq_of_ne hde] at hy
      have := h e y hy
      simpa [Act.put, Array.getElem?_setIfInBounds_ne hde] using this

theorem Slots.undef {S : Nat → Prop} {R : Lab} {w : World} {sl : List (Nat × AV)} {a : Act} (h : Slots S R w sl a) {dst : Option Tmp} (v : Value) (hd : ∀ d, dst = some d → d < a.tmps.size) :
    Slots S R w (putSl sl dst .dead) (a.put dst v) := h.put (.dead v) hd

/-- Does a guard that wants b say no at this value? -/
def skipB (u : Value) (b : Bool) : Bool :=
  match u with
  | .bool c => !(c == b)
  | _ => true

theorem yielded_ne {ops : List Oper} {a : Act} {j d : Nat} {o : Oper} {u : Value} {want : Bool} (ho : ops[j]? = some o) (hod : o.dst = some d) (hv : a.tmps.getD d Go.undef = u) (hs : skipB u want = true) : yielded ops.toArray a.tmps j ≠ some want := by
  simp only [yielded, List.getElem?_toArray, ho, Option.bind_some, hod]
  rcases Nat.lt_or_ge d a.tmps.size with h | h
  · rw [Array.getElem?_eq_getElem h]
    have : a.tmps[d] = u := by simpa [h] using hv
    rw [this]
    cases u <;> first | (intro e; cases e; done) | (intro e; simp only [Option.some.injEq] at e; subst e; simp [skipB] at hs)
  · rw [Array.getElem?_eq_none h]
    intro e; cases e

theorem put_size (a : Act) (dst : Option Tmp) (v : Value) : (a.put dst v).tmps.size = a.tmps.size := by cases dst <;> simp [Act.put]
theorem put_defers (a : Act) (dst : Option Tmp) (v : Value) : (a.put dst v).defers = a.defers := by cases dst <;> rfl

/-! ### What is proved of an operation anywhere holds in a round too -/
theorem wpIn_ghost {F : Fence} {m : Nat} {P : Program} {Q : Exit → Act → World → Prop} {a : Act} {w : World} {c : Code} (I : Nat → Act → World → Prop) (k : Nat) (h0 : I k a w)
    (round : ∀ n a w, I n a w → c.wpIn F m P (Exit.then (fun a' w' => ∃ n', n' < n ∧ I n' a' w') Q) a w) : (Code.loop c).wpIn F m P Q a w := by
  refine wpIn_loop (fun a w => ∃ n, I n a w) (fun a w => leastOf (fun n => I n a w)) ⟨k, h0⟩ fun a w hI => ?_
  have hs := leastOf_spec hI
  refine wpIn_mono (round _ a w hs.1) fun e a' w' hq => ?_
  cases e with
  | normal =>
    obtain ⟨n', hlt, hI'⟩ := hq
    exact ⟨⟨n', hI'⟩, Nat.lt_of_le_of_lt ((leastOf_spec (p := fun n => I n a' w') ⟨n', hI'⟩).2 n' hI') hlt⟩
  | _ => exact hq

theorem oper_in {ro : Option Nat} {P : Program} {o : Oper} {a : Act} {w : World} {next : Act → World → Prop} {Q : Exit → Act → World → Prop}
    (h : o.wp P a w (fun a' w' => next a' w' ∧ a'.defers = a.defers) (fun _ _ _ => False)) : o.wpIn (fen ro) 0 P a w next Q := by
  refine ⟨fun _ _ => trivial, ?_⟩
  unfold Oper.wp at h
  have hnd : ∀ c, o.op ≠ .defer c := by
    intro c hc
    unfold execOp at h
    rw [hc] at h
    cases hr : (resolve a.eval c o.type).run P w with
    | ok d w' =>
      simp only [Sem.run_bind, hr, Result.andThen_ok, Sem.run_pure] at h
      have h2 := h.2
      rw [put_defers] at h2
      have := congrArg List.length h2
      simp at this
    | halt x w' =>
      simp only [Sem.run_bind, hr, Result.andThen_halt] at h
      cases x <;> exact h.elim
  rw [Oper.semAt_eq ro a.eval o hnd]
  generalize (execOp a.eval o).run P w = r at h
  match r, h with
  | .ok (.value v) w', h => exact h.1
  | .ok .skip w', h => exact h.1
  | .ok (.defer d) w', h => exact h.1
  | .ok (.enter f args) w', h =>
    refine ⟨fun h => (nomatch h), ?_⟩
    show CallsIn Fence.wide 0 P f args w' _
    refine callsIn_wide.2 (Calls.mono h ?_)
    intro e w'' hq
    cases e with
    | returned v => exact hq.1
    | panicked _ => exact hq.elim
    | outgrown => obtain ⟨_, _, hf⟩ := hq; exact hf.elim
  | .ok (.row row args) w', h =>
    refine ⟨fun h => (nomatch h), fun c cs _ => ?_⟩
    obtain ⟨v, w3, hq, hs⟩ := h c cs
    exact ⟨v, w3, hq.1, (stepsIn_wide (P := P)).2 hs⟩
  | .halt (.panic v) w', h => exact h.elim

/-! ### Code -/
inductive Kont where
  | nil (Q : Exit → St → Prop)
  | seq (y : Code) (K : Kont)
  | block (id : Nat) (K : Kont)
  | loop (B : St → Prop) (K : Kont)

def lift {P : Program} {n : Nat} {ro : Option Nat} (G : CtxR P n ro) (Q : Exit → St → Prop) : Exit → Act → World → Prop := fun e a w => ∃ st, Q e st ∧ Rel G st a w

def AWP {P : Program} {n : Nat} {ro : Option Nat} (G : CtxR P n ro) (c : Code) (st : St) (Q : Exit → St → Prop) : Prop := ∀ a w, Rel G st a w → c.wpIn (fen ro) 0 P (lift G Q) a w

def Kont.at {P : Program} {n : Nat} {ro : Option Nat} (G : CtxR P n ro) : Kont → Exit → St → Prop
  | .nil Q, e, st => Q e st
  | .seq y K, .normal, st => AWP G y st (K.at G)
  | .seq _ K, e, st => K.at G e st
  | .block id K, .exit id', st => if id' = id then K.at G .normal st else K.at G (.exit id') st
  | .block _ K, e, st => K.at G e st
  | .loop B _, .normal, st => B st
  | .loop _ K, e, st => K.at G e st

/-- The code is run in this state, with this behind it. -/
structure AW {P : Program} {n : Nat} {ro : Option Nat} (G : CtxR P n ro) (c : Code) (st : St) (K : Kont) : Prop where
  h : AWP G c st (K.at G)
/-- What is behind is gone on with. -/
structure Goes {P : Program} {n : Nat} {ro : Option Nat} (G : CtxR P n ro) (K : Kont) (e : Exit) (st : St) : Prop where
  h : K.at G e st

section
variable {P : Program} {n : Nat} {ro : Option Nat} {G : CtxR P n ro} {st : St} {K : Kont}
theorem aw_seq {x y : Code} (h : AW G x st (.seq y K)) : AW G (.seq x y) st K := ⟨fun a w hr => by
  refine wpIn_seq (wpIn_mono (h.h a w hr) ?_)
  rintro e a' w' ⟨st', hq, hr'⟩
  cases e with
  | normal => exact hq a' w' hr'
  | _ => exact ⟨st', hq, hr'⟩⟩
theorem aw_skip (h : Goes G K .normal st) : AW G .skip st K := ⟨fun _ _ hr => wpIn_skip ⟨st, h.h, hr⟩⟩
theorem aw_ret (h : Goes G K .ret st) : AW G .ret st K := ⟨fun _ _ hr => wpIn_ret ⟨st, h.h, hr⟩⟩
theorem aw_label {l : Nat} (h : Goes G K .normal st) : AW G (.label l) st K := ⟨fun _ _ hr => wpIn_label ⟨st, h.h, hr⟩⟩
theorem aw_exit {id : Nat} (h : Goes G K (.exit id) st) : AW G (.exit id) st K := ⟨fun _ _ hr => wpIn_exit ⟨st, h.h, hr⟩⟩
theorem aw_block {id : Nat} {c : Code} (h : AW G c st (.block id K)) : AW G (.block id c) st K := ⟨fun a w hr => by
  refine wpIn_block (wpIn_mono (h.h a w hr) ?_)
  rintro e a' w' ⟨st', hq, hr'⟩
  cases e with
  | exit id' =>
    simp only [Kont.at] at hq
    simp only [Exit.inBlock]
    split
    · rw [if_pos ‹_›] at hq; exact ⟨st', hq, hr'⟩
    · rw [if_neg ‹_›] at hq; exact ⟨st', hq, hr'⟩
  | _ => exact ⟨st', hq, hr'⟩⟩
theorem eval_bool {S : Nat → Prop} {R : Lab} {w : World} {a : Act} (hs : Slots S R w st.sl a) {c : Operand} {v : Value} (hx : st.get c = some (.val v)) : a.eval c = v := by
  have := hs.eval hx
  cases this
  rfl
theorem aw_cond {c : Operand} {x y : Code} {t : Bool} (hc : st.get c = some (.val (.bool t))) (ht : t = true → AW G x st K) (hf : t = false → AW G y st K) : AW G (.cond c x y) st K := ⟨fun a w hr => by
  obtain ⟨S, R, hr'⟩ := hr
  have he : a.eval c = .bool t := eval_bool hr'.slots hc
  exact wpIn_cond_split he (fun h => (ht h).h a w ⟨S, R, hr'⟩) (fun h => (hf h).h a w ⟨S, R, hr'⟩)⟩
theorem aw_cond_t {c : Operand} {x y : Code} (hc : st.get c = some (.val (.bool true))) (ht : AW G x st K) : AW G (.cond c x y) st K := aw_cond hc (fun _ => ht) (fun h => by cases h)
theorem aw_cond_f {c : Operand} {x y : Code} (hc : st.get c = some (.val (.bool false))) (hf : AW G y st K) : AW G (.cond c x y) st K := aw_cond hc (fun h => by cases h) (fun _ => hf)

theorem go_seq {y : Code} (h : AW G y st K) : Goes G (.seq y K) .normal st := ⟨h.h⟩
theorem go_seq_exit {y : Code} {id : Nat} (h : Goes G K (.exit id) st) : Goes G (.seq y K) (.exit id) st := ⟨h.h⟩
theorem go_seq_ret {y : Code} (h : Goes G K .ret st) : Goes G (.seq y K) .ret st := ⟨h.h⟩
theorem go_block {id : Nat} (h : Goes G K .normal st) : Goes G (.block id K) .normal st := ⟨h.h⟩
theorem go_block_exit {id : Nat} (h : Goes G K .normal st) : Goes G (.block id K) (.exit id) st := by
  refine ⟨?_⟩
  show (if id = id then _ else _)
  rw [if_pos rfl]; exact h.h
theorem go_block_pass {id id' : Nat} (hn : Nat.beq id' id = false) (h : Goes G K (.exit id') st) : Goes G (.block id K) (.exit id') st := by
  refine ⟨?_⟩
  show (if id' = id then _ else _)
  rw [if_neg (fun e => by rw [e, Nat.beq_refl] at hn; cases hn)]; exact h.h
theorem go_block_ret {id : Nat} (h : Goes G K .ret st) : Goes G (.block id K) .ret st := ⟨h.h⟩
theorem go_loop_back {B : St → Prop} (h : B st) : Goes G (.loop B K) .normal st := ⟨h⟩
theorem go_loop_exit {B : St → Prop} {id : Nat} (h : Goes G K (.exit id) st) : Goes G (.loop B K) (.exit id) st := ⟨h.h⟩
theorem go_loop_ret {B : St → Prop} (h : Goes G K .ret st) : Goes G (.loop B K) .ret st := ⟨h.h⟩
theorem go_nil {Q : Exit → St → Prop} {e : Exit} (h : Q e st) : Goes G (.nil Q) e st := ⟨h⟩
end

/-! ### A state that says less -/
def SubSl (sl sl' : List (Nat × AV)) : Prop := ∀ d x, look sl' d = some x → look sl d = some x

/-- st says at least what st' says. -/
def Sub (st st' : St) : Prop := ∀ S R a w, Slots S R w st.sl a → Holds S R w st.toks → Slots S R w st'.sl a ∧ ∃ r, st.toks.Perm (st'.toks ++ r)

theorem Out.sub {w0 : World} {S0 : Nat → Prop} {R0 : Lab} {F0 K0 S : Nat → Prop} {R : Lab} {w : World} {ts us : List (Nat × Tok)} (h : Out w0 S0 R0 F0 K0 S R w ts) (hs : ∀ p, p ∈ us → p ∈ ts) : Out w0 S0 R0 F0 K0 S R w us :=
  ⟨h.os, h.tape, h.output, h.size, h.block, h.S0, h.S1, h.R0, fun g ⟨l, t, ht, hg⟩ => h.foot g ⟨l, t, hs _ ht, hg⟩, fun l t ht => h.keys l t (hs _ ht)⟩

theorem Rel.sub {P : Program} {n : Nat} {ro : Option Nat} {G : CtxR P n ro} {st st' : St} {a : Act} {w : World} (h : Rel G st a w) (hs : Sub st st') : Rel G st' a w := by
  obtain ⟨S, R, hr⟩ := h
  obtain ⟨h1, r, hp⟩ := hs S R a w hr.slots hr.holds
  exact ⟨S, R, hr.holds.sub ⟨r, hp⟩, h1, hr.out.sub (fun p hm => hp.mem_iff.2 (List.mem_append_left _ hm)), hr.defers, hr.size⟩

theorem AW.sub {P : Program} {n : Nat} {ro : Option Nat} {G : CtxR P n ro} {c : Code} {st st' : St} {K : Kont} (hs : Sub st st') (h : AW G c st' K) : AW G c st K := ⟨fun a w hr => h.h a w (hr.sub hs)⟩

/-- y says no more than x. -/
def Le (x y : AV) : Prop := ∀ (S : Nat → Prop) (R : Lab) (w : World) (v : Value), RepV S R w x v → RepV S R w y v
theorem Le.refl {x : AV} : Le x x := fun _ _ _ _ h => h
theorem Le.dead {x : AV} : Le x .dead := fun _ _ _ _ _ => .dead _
theorem Le.nil {k : Nat} : Le (.val (.slice none 0 0)) (.sl k [] 0) := fun _ _ _ v hv => by
  cases hv
  exact .sl (F := fun _ _ => undef) (by simp) (by simp) (by simp [maxLen]) (by simp) (by simp) (by simp) (by simp)
theorem Le.rep {S : Nat → Prop} {R : Lab} {w : World} {x y : AV} (h : Le x y) {v : Value} (hv : RepV S R w x v) : RepV S R w y v := h S R w v hv

theorem Sub.mk' {st st' : St} (h1 : ∀ d y, look st'.sl d = some y → ∃ x, look st.sl d = some x ∧ Le x y) {r : List (Nat × Tok)} (h2 : Takes st.toks st'.toks r) : Sub st st' :=
  fun S R a w hs _ => ⟨fun d y hy => by obtain ⟨x, hx, hle⟩ := h1 d y hy; exact hle.rep (hs d x hx), r, h2.perm⟩

/-- The slots of a state, one by one. -/
inductive SlLe (sl : List (Nat × AV)) : List (Nat × AV) → Prop
  | nil : SlLe sl []
  | cons {d : Nat} {x y : AV} {r : List (Nat × AV)} (h : look sl d = some x) (hl : Le x y) (hr : SlLe sl r) : SlLe sl ((d, y) :: r)

theorem SlLe.get {sl sl' : List (Nat × AV)} (h : SlLe sl sl') : ∀ d y, look sl' d = some y → ∃ x, look sl d = some x ∧ Le x y := by
  induction h with
  | nil => intro d y hy; cases hy
  | cons h hl _ ih =>
    intro d' y' hy
    simp only [look] at hy
    rename_i d x y r hr
    by_cases hde : d = d'
    · subst hde
      rw [Nat.beq_refl] at hy
      cases hy
      exact ⟨_, h, hl⟩
    · rw [beq_of_ne hde] at hy
      exact ih d' y' hy

theorem Sub.of {st st' : St} (h1 : SlLe st.sl st'.sl) {r : List (Nat × Tok)} (h2 : Takes st.toks st'.toks r) : Sub st st' := Sub.mk' h1.get h2

/-! ### Loops -/
theorem aw_loop {P : Program} {n : Nat} {ro : Option Nat} {G : CtxR P n ro} {c : Code} {st : St} {K : Kont} {ι : Type} (I : ι → St) (μ : ι → Nat) (i0 : ι) (h0 : Sub st (I i0))
    (round : ∀ i, AW G c (I i) (.loop (fun st' => ∃ i', μ i' < μ i ∧ Sub st' (I i')) K)) : AW G (.loop c) st K := ⟨fun a w hr => by
  refine wpIn_ghost (fun n a w => ∃ i, μ i = n ∧ Rel G (I i) a w) (μ i0) ⟨i0, rfl, hr.sub h0⟩ ?_
  rintro n a w ⟨i, rfl, hr⟩
  refine wpIn_mono ((round i).h a w hr) ?_
  rintro e a' w' ⟨st', hq, hr'⟩
  cases e with
  | normal =>
    obtain ⟨i', hlt, hs⟩ := hq
    exact ⟨μ i', hlt, i', rfl, hr'.sub hs⟩
  | _ => exact ⟨st', hq, hr'⟩⟩

end Go.Proofs.YtphkfejckafamaaDoorA

/- Regions; operations that only reckon and read. -/
namespace Go.Proofs.YtphkfejckafamaaDoorA
open Go.RowKit

/-! ### Regions -/
section
variable {P : Program} {n : Nat} {ro : Option Nat}

structure AWo (G : CtxR P n ro) (ops : Array Oper) (l : List Oper) (st : St) (K : Kont) : Prop where
  h : ∀ a w, Rel G st a w → wpListIn (fen ro) 0 P ops (lift G (K.at G)) l a w

theorem aw_region {G : CtxR P n ro} {id : Nat} {l : List Oper} {st : St} {K : Kont} (h : AWo G l.toArray l st K) : AW G (.region id l.toArray false) st K := ⟨fun a w hr => wpIn_region_lit (h.h a w hr)⟩
theorem awo_nil {G : CtxR P n ro} {ops : Array Oper} {st : St} {K : Kont} (h : Goes G K .normal st) : AWo G ops [] st K := ⟨fun _ _ hr => ⟨st, h.h, hr⟩⟩
theorem AWo.sub {G : CtxR P n ro} {ops : Array Oper} {l : List Oper} {st st' : St} {K : Kont} (hs : Sub st st') (h : AWo G ops l st' K) : AWo G ops l st K := ⟨fun a w hr => h.h a w (hr.sub hs)⟩
/-- What an operation that writes nothing old leaves. -/
structure Grow (S : Nat → Prop) (R : Lab) (w : World) (S' : Nat → Prop) (R' : Lab) (w' : World) : Prop where
  below : Below w.heap.size w w'
  st : ∀ b, S b → S' b
  st' : ∀ b, S' b → S b ∨ (w.heap.size ≤ b ∧ b < w'.heap.size)
  lab : ∀ l q, R l = some q → R' l = some q
  top : ∃ N, ∀ l, N ≤ l → R' l = none

theorem Grow.refl {S : Nat → Prop} {R : Lab} (w : World) (ht : ∃ N, ∀ l, N ≤ l → R l = none) : Grow S R w S R w := ⟨Below.refl _ _, fun _ h => h, fun _ h => .inl h, fun _ _ h => h, ht⟩

def OpsAt (S : Nat → Prop) (R : Lab) (w : World) (st : St) (a : Act) (op : Op) : Prop := ∀ x, x ∈ op.operands → ∀ y, st.get x = some y → RepV S R w y (a.eval x)

/-- The operation writes nothing old and gives x. -/
structure OpEv (P : Program) (o : Oper) (st : St) (x : AV) : Prop where
  h : ∀ (S : Nat → Prop) (R : Lab) (a : Act) (w : World), Holds S R w st.toks → OpsAt S R w st a o.op → ∀ (next : Act → World → Prop) (Q : Exit → Act → World → Prop),
    (∀ v S' R' w', Grow S R w S' R' w' → RepV S' R' w' x v → next (a.put o.dst v) w') → o.wp P a w next Q

theorem RelAt.grow {G : CtxR P n ro} {S S' : Nat → Prop} {R R' : Lab} {st : St} {a : Act} {w w' : World} (h : RelAt G S R st a w) (hg : Grow S R w S' R' w') : RelAt G S' R' st a w' := by
  have hw : ∀ b, b < w.heap.size → w'.heap[b]? = w.heap[b]? := hg.below.block
  refine ⟨h.holds.mono hg.st hg.st' hg.lab hg.top hg.below.size hw, h.slots.mono hg.st hg.lab (fun b hb => hw b (h.holds.low b hb)), ?_, h.defers, h.size⟩
  have o := h.out
  refine ⟨hg.below.os.trans o.os, hg.below.tape.trans o.tape, hg.below.output.trans o.output, Nat.le_trans o.size hg.below.size, fun b hb hf => (hw b (Nat.lt_of_lt_of_le hb o.size)).trans (o.block b hb hf),
    fun b hb => hg.st b (o.S0 b hb), fun b hb => ?_, fun l q hq => hg.lab l q (o.R0 l q hq), ?_, o.keys⟩
  · rcases hg.st' b hb with h1 | h1
    · exact o.S1 b h1
    · exact .inr (.inr (Nat.le_trans o.size h1.1))
  · rintro g ⟨l, t, ht, hb⟩
    rw [blkOf_mono hg.lab (h.holds.tok l t ht).bound] at hb
    exact o.foot g ⟨l, t, ht, hb⟩

def dstOk (dst : Option Tmp) (n : Nat) : Bool :=
  match dst with
  | some d => Nat.blt d n
  | none => true

theorem dstOk_lt {dst : Option Tmp} {n : Nat} (h : dstOk dst n = true) : ∀ d, dst = some d → d < n := fun d e => by
  subst e
  simpa [dstOk, Nat.blt_eq] using h

theorem opsAt {S : Nat → Prop} {R : Lab} {w : World} {st : St} {a : Act} (h : Slots S R w st.sl a) (op : Op) : OpsAt S R w st a op := fun _ _ _ hy => h.eval hy

theorem awo_ev {G : CtxR P n ro} {ops : Array Oper} {rest : List Oper} {dst : Option Tmp} {op : Op} {ty : TypeId} {pos : String} {after : Array Edge} {st : St} {K : Kont} {x : AV}
    (he : OpEv P ⟨dst, op, ty, pos, after, none⟩ st x) (hd : dstOk dst n = true) (h : AWo G ops rest ⟨putSl st.sl dst x, st.toks⟩ K) : AWo G ops (⟨dst, op, ty, pos, after, none⟩ :: rest) st K := by
  refine ⟨?_⟩
  rintro a w ⟨S, R, hr⟩
  refine wpListIn_plain rfl fun k hk => ?_
  refine oper_in (he.h S R a w hr.holds (opsAt hr.slots op) _ _ fun v S' R' w' hg hv => ⟨hk _ _ (h.h _ _ ?_), put_defers ..⟩)
  have hr' := hr.grow hg
  exact ⟨S', R', hr'.holds, hr'.slots.put hv (fun d e => by rw [hr.size]; exact dstOk_lt hd d e), hr'.out, (put_defers ..).trans hr.defers, (put_size ..).trans hr.size⟩

theorem rep_val {S : Nat → Prop} {R : Lab} {w : World} {u v : Value} (h : RepV S R w (.val u) v) : v = u := by cases h; rfl

theorem slot_lt {S : Nat → Prop} {R : Lab} {w : World} {a : Act} {d : Nat} {b : Bool} (hv : RepV S R w (.val (.bool b)) (a.tmps.getD d undef)) : a.tmps[d]? = some (.bool b) := by
  have hv := rep_val hv
  rcases Nat.lt_or_ge d a.tmps.size with h | h
  · rw [Array.getElem?_eq_getElem h]
    simpa [h] using hv
  · simp [Nat.not_lt.2 h, undef] at hv

/-- A guarded operation whose guard says yes. -/
theorem awo_take {G : CtxR P n ro} {ops : List Oper} {rest : List Oper} {dst : Option Tmp} {op : Op} {ty : TypeId} {pos : String} {after : Array Edge} {st : St} {K : Kont} {j d : Nat} {want : Bool} {o : Oper}
    (ho : ops[j]? = some o) (hod : o.dst = some d) (hx : look st.sl d = some (.val (.bool want))) (h : AWo G ops.toArray (⟨dst, op, ty, pos, after, none⟩ :: rest) st K) : AWo G ops.toArray (⟨dst, op, ty, pos, after, some (j, want)⟩ :: rest) st K := by
  refine ⟨?_⟩
  rintro a w ⟨S, R, hr⟩
  have hv := slot_lt (hr.slots d _ hx)
  have hy : yielded ops.toArray a.tmps j = some want := by simp [yielded, ho, hod, hv]
  have h' := h.h a w ⟨S, R, hr⟩
  unfold wpListIn at h' ⊢
  rw [if_pos (by simp [Region.wanted])] at h'
  rw [if_pos (by simp [Region.wanted, hy])]
  exact h'

theorem awo_skip {G : CtxR P n ro} {ops : List Oper} {rest : List Oper} {dst : Option Tmp} {op : Op} {ty : TypeId} {pos : String} {after : Array Edge} {st : St} {K : Kont} {j d : Nat} {want : Bool} {u : Value} {o : Oper}
    (ho : ops[j]? = some o) (hod : o.dst = some d) (hx : look st.sl d = some (.val u)) (hb : skipB u want = true) (hd : dstOk dst n = true) (h : AWo G ops.toArray rest ⟨putSl st.sl dst (.val undef), st.toks⟩ K) :
    AWo G ops.toArray (⟨dst, op, ty, pos, after, some (j, want)⟩ :: rest) st K := by
  refine ⟨?_⟩
  rintro a w ⟨S, R, hr⟩
  have hy : yielded ops.toArray a.tmps j ≠ some want := yielded_ne ho hod (rep_val (hr.slots d _ hx)) hb
  unfold wpListIn
  rw [if_neg (by simpa [Region.wanted] using hy)]
  exact ⟨fun _ _ => trivial, h.h _ _ ⟨S, R, hr.holds, hr.slots.put (.val undef) (fun d e => by rw [hr.size]; exact dstOk_lt hd d e), hr.out, (put_defers ..).trans hr.defers, (put_size ..).trans hr.size⟩⟩
end

/-! ### Operations that give a value in the same world -/
section
variable {P : Program} {st : St} {dst : Option Tmp} {ty : TypeId} {pos : String} {after : Array Edge} {g : Option (Nat × Bool)}

theorem ev_same {o : Oper} {x : AV} (h : ∀ S R a w, Holds S R w st.toks → OpsAt S R w st a o.op → ∃ v, (execOp a.eval o).run P w = .ok (.value v) w ∧ RepV S R w x v) : OpEv P o st x :=
  ⟨fun S R a w hh ho next Q hk => by
    obtain ⟨v, hrun, hv⟩ := h S R a w hh ho
    unfold Oper.wp
    rw [hrun]
    exact hk v S R w (.refl w hh.top) hv⟩

theorem ev_le {o : Oper} {x y : AV} (h : OpEv P o st x) (hl : Le x y) : OpEv P o st y := ⟨fun S R a w hh ho next Q hk => h.h S R a w hh ho next Q fun v S' R' w' hg hv => hk v S' R' w' hg (hl _ _ _ _ hv)⟩

theorem ev_move {x : Operand} {y : AV} (hx : st.get x = some y) : OpEv P ⟨dst, .move x, ty, pos, after, g⟩ st y :=
  ev_same fun S R a w _ ho => ⟨a.eval x, rfl, ho x (by simp [Op.operands]) y hx⟩
theorem ev_assign {x : Operand} {y : AV} (hx : st.get x = some y) : OpEv P ⟨dst, .assign x, ty, pos, after, g⟩ st y :=
  ev_same fun S R a w _ ho => ⟨a.eval x, rfl, ho x (by simp [Op.operands]) y hx⟩

theorem ev_pick_t {c x y : Operand} {z : AV} (hc : st.get c = some (.val (.bool true))) (hx : st.get x = some z) : OpEv P ⟨dst, .pick c x y, ty, pos, after, g⟩ st z :=
  ev_same fun S R a w _ ho => ⟨a.eval x, by
    have := rep_val (ho c (by simp [Op.operands]) _ hc)
    simp [execOp, this, asBool], ho x (by simp [Op.operands]) z hx⟩
theorem ev_pick_f {c x y : Operand} {z : AV} (hc : st.get c = some (.val (.bool false))) (hx : st.get y = some z) : OpEv P ⟨dst, .pick c x y, ty, pos, after, g⟩ st z :=
  ev_same fun S R a w _ ho => ⟨a.eval y, by
    have := rep_val (ho c (by simp [Op.operands]) _ hc)
    simp [execOp, this, asBool], ho y (by simp [Op.operands]) z hx⟩

/-- A binary operation on plain values. -/
theorem ev_bin {op : BinOp} {t t' : TypeId} {x y : Operand} {u v r : Value} (hx : st.get x = some (.val u)) (hy : st.get y = some (.val v))
    (h : ∀ w, ((do eqGuard op t x y u v; binOp op t u v : Sem Value)).run P w = .ok r w) : OpEv P ⟨dst, .binOp op t x y t', ty, pos, after, g⟩ st (.val r) :=
  ev_same fun S R a w _ ho => ⟨r, by
    have e1 := rep_val (ho x (by simp [Op.operands]) _ hx)
    have e2 := rep_val (ho y (by simp [Op.operands]) _ hy)
    have := h w
    simp only [execOp, e1, e2]
    rw [Sem.run_bind, this]
    rfl, .val _⟩

theorem ev_lss {t t' : TypeId} {x y : Operand} {k : IntKind} {p q : Int} (hx : st.get x = some (.val (.int k p))) (hy : st.get y = some (.val (.int k q))) :
    OpEv P ⟨dst, .binOp .lss t x y t', ty, pos, after, g⟩ st (.val (.bool (decide (p < q)))) := ev_bin hx hy fun w => by simp [eqGuard, binOp, Op.intCmp]
theorem ev_leq {t t' : TypeId} {x y : Operand} {k : IntKind} {p q : Int} (hx : st.get x = some (.val (.int k p))) (hy : st.get y = some (.val (.int k q))) :
    OpEv P ⟨dst, .binOp .leq t x y t', ty, pos, after, g⟩ st (.val (.bool (decide (p ≤ q)))) := ev_bin hx hy fun w => by simp [eqGuard, binOp, Op.intCmp]
theorem ev_gtr {t t' : TypeId} {x y : Operand} {k : IntKind} {p q : Int} (hx : st.get x = some (.val (.int k p))) (hy : st.get y = some (.val (.int k q))) :
    OpEv P ⟨dst, .binOp .gtr t x y t', ty, pos, after, g⟩ st (.val (.bool (decide (p > q)))) := ev_bin hx hy fun w => by simp [eqGuard, binOp, Op.intCmp]
theorem ev_geq {t t' : TypeId} {x y : Operand} {k : IntKind} {p q : Int} (hx : st.get x = some (.val (.int k p))) (hy : st.get y = some (.val (.int k q))) :
    OpEv P ⟨dst, .binOp .geq t x y t', ty, pos, after, g⟩ st (.val (.bool (decide (p ≥ q)))) := ev_bin hx hy fun w => by simp [eqGuard, binOp, Op.intCmp]
theorem ev_eqi {t t' : TypeId} {x y : Operand} {k : IntKind} {p q : Int} (hx : st.get x = some (.val (.int k p))) (hy : st.get y = some (.val (.int k q))) :
    OpEv P ⟨dst, .binOp .eql t x y t', ty, pos, after, g⟩ st (.val (.bool (p == q))) := ev_bin hx hy fun w => by simp [eqGuard, binOp, Op.intCmp]
theorem ev_nei {t t' : TypeId} {x y : Operand} {k : IntKind} {p q : Int} (hx : st.get x = some (.val (.int k p))) (hy : st.get y = some (.val (.int k q))) :
    OpEv P ⟨dst, .binOp .neq t x y t', ty, pos, after, g⟩ st (.val (.bool (p != q))) := ev_bin hx hy fun w => by simp [eqGuard, binOp, Op.intCmp]
theorem ev_addw {t t' : TypeId} {x y : Operand} {k : IntKind} {p q : Int} (hx : st.get x = some (.val (.int k p))) (hy : st.get y = some (.val (.int k q))) :
    OpEv P ⟨dst, .binOp .add t x y t', ty, pos, after, g⟩ st (.val (.int k (k.wrap (p + q)))) := ev_bin hx hy fun w => by simp [eqGuard, binOp, Op.intArith]
theorem ev_subw {t t' : TypeId} {x y : Operand} {k : IntKind} {p q : Int} (hx : st.get x = some (.val (.int k p))) (hy : st.get y = some (.val (.int k q))) :
    OpEv P ⟨dst, .binOp .sub t x y t', ty, pos, after, g⟩ st (.val (.int k (k.wrap (p - q)))) := ev_bin hx hy fun w => by simp [eqGuard, binOp, Op.intArith]
theorem ev_mulw {t t' : TypeId} {x y : Operand} {k : IntKind} {p q : Int} (hx : st.get x = some (.val (.int k p))) (hy : st.get y = some (.val (.int k q))) :
    OpEv P ⟨dst, .binOp .mul t x y t', ty, pos, after, g⟩ st (.val (.int k (k.wrap (p * q)))) := ev_bin hx hy fun w => by simp [eqGuard, binOp, Op.intArith]
theorem i64_id {p : Int} (h1 : -9223372036854775808 ≤ p) (h2 : p ≤ 9223372036854775807) : IntKind.i64.wrap p = p := by
  simp only [IntKind.wrap, IntKind.signed, IntKind.bits]
  simp
  omega
theorem ev_add {t t' : TypeId} {x y : Operand} {p q : Int} (hx : st.get x = some (.val (.int .i64 p))) (hy : st.get y = some (.val (.int .i64 q))) (h1 : -9223372036854775808 ≤ p + q) (h2 : p + q ≤ 9223372036854775807) :
    OpEv P ⟨dst, .binOp .add t x y t', ty, pos, after, g⟩ st (.val (.int .i64 (p + q))) := by
  have := ev_addw (P := P) (dst := dst) (ty := ty) (pos := pos) (after := after) (g := g) (t := t) (t' := t') hx hy
  rwa [i64_id h1 h2] at this
theorem ev_sub {t t' : TypeId} {x y : Operand} {p q : Int} (hx : st.get x = some (.val (.int .i64 p))) (hy : st.get y = some (.val (.int .i64 q))) (h1 : -9223372036854775808 ≤ p - q) (h2 : p - q ≤ 9223372036854775807) :
    OpEv P ⟨dst, .binOp .sub t x y t', ty, pos, after, g⟩ st (.val (.int .i64 (p - q))) := by
  have := ev_subw (P := P) (dst := dst) (ty := ty) (pos := pos) (after := after) (g := g) (t := t) (t' := t') hx hy
  rwa [i64_id h1 h2] at this
/-- A counter goes on. -/
theorem ev_inc {t t' : TypeId} {x : Operand} {k : Nat} (hx : st.get x = some (.val (.int .i64 (k : Nat)))) (h2 : k < 9223372036854775807) :
    OpEv P ⟨dst, .binOp .add t x (.const (.int .i64 1)) t', ty, pos, after, g⟩ st (.val (.int .i64 ((k + 1 : Nat) : Int))) := by
  have := ev_add (P := P) (dst := dst) (ty := ty) (pos := pos) (after := after) (g := g) (t := t) (t' := t') hx (y := .const (.int .i64 1)) rfl (by omega) (by omega)
  simpa using this

theorem ev_eqs {t t' : TypeId} {x y : Operand} {p q : ByteArray} (hx : st.get x = some (.val (.string p))) (hy : st.get y = some (.val (.string q))) :
    OpEv P ⟨dst, .binOp .eql t x y t', ty, pos, after, g⟩ st (.val (.bool (p.toList == q.toList))) := ev_bin hx hy fun w => by simp [eqGuard, binOp, Op.stringOp]
theorem ev_nes {t t' : TypeId} {x y : Operand} {p q : ByteArray} (hx : st.get x = some (.val (.string p))) (hy : st.get y = some (.val (.string q))) :
    OpEv P ⟨dst, .binOp .neq t x y t', ty, pos, after, g⟩ st (.val (.bool (!(p.toList == q.toList)))) := ev_bin hx hy fun w => by simp [eqGuard, binOp, Op.stringOp]
theorem ev_cat {t t' : TypeId} {x y : Operand} {p q : ByteArray} (hx : st.get x = some (.val (.string p))) (hy : st.get y = some (.val (.string q))) (h : p.size + q.size ≤ 9223372036854775807) :
    OpEv P ⟨dst, .binOp .add t x y t', ty, pos, after, g⟩ st (.val (.string (p ++ q))) := ev_bin hx hy fun w => by
  simp [eqGuard, binOp, Op.stringOp, IntKind.max, IntKind.signed, IntKind.bits]
  omega
end

end Go.Proofs.YtphkfejckafamaaDoorA

/- Facts on types; operations that read. -/
namespace Go.Proofs.YtphkfejckafamaaDoorA
open Go.RowKit

class Und (P : Program) (t : TypeId) (d : outParam TypeDesc) : Prop where
  h : P.underlying t = some d
class ElF (P : Program) (t : TypeId) (z : outParam Value) (k b : outParam Nat) : Prop where
  h : ∃ i, P.info? t = some i ∧ i.zero = some z ∧ i.size = k ∧ i.bytes = b ∧ z.cells.size = k ∧ z.cells.toList.all (·.oneCell') = true
/-- A struct's field: where it begins, its cells, whether it is a struct or an array. -/
class FldF (P : Program) (t : TypeId) (f : Nat) (off k : outParam Nat) (ag : outParam Bool) : Prop where
  h : ∃ fs fd, P.underlying t = some (.struct fs) ∧ fs[f]? = some fd ∧ fd.offset = off ∧ 0 < k ∧ (∀ w, (sizeOf fd.type).run P w = .ok k w) ∧ (∀ w, (isAgg fd.type).run P w = .ok ag w)

/-- Is a value of the type several cells? -/
class AgF (P : Program) (t : TypeId) (ag : outParam Bool) : Prop where
  h : ∀ w, (isAgg t).run P w = .ok ag w
theorem ElF.size {P : Program} {t : TypeId} {z : Value} {k b : Nat} [e : ElF P t z k b] (w : World) : (sizeOf t).run P w = .ok k w := by
  obtain ⟨i, hi, _, hk, _⟩ := e.h
  simp [sizeOf, typeInfo, hi, hk]
theorem ElF.zero {P : Program} {t : TypeId} {z : Value} {k b : Nat} [e : ElF P t z k b] (w : World) : (zeroValue t).run P w = .ok z w := by
  obtain ⟨i, hi, hz, _⟩ := e.h
  simp [zeroValue, typeInfo, hi, hz]

theorem add_add (a : Addr) (m n : Nat) : (a.add m).add n = a.add (m + n) := by
  unfold Addr.add
  by_cases h1 : m = 0
  · subst h1; simp
  · by_cases h2 : n = 0
    · subst h2; simp [h1]
    · simp [h1, h2, Nat.add_assoc]
theorem add_mk (g o n : Nat) : (⟨g, o, none⟩ : Addr).add n = ⟨g, o + n, none⟩ := by
  unfold Addr.add
  split <;> simp_all

/-- The bytes of a string, by their places. -/
def byteAt (s : ByteArray) (i : Nat) : Nat := (s.data.toList[i]?.getD 0).toNat

section
variable {P : Program} {st : St} {dst : Option Tmp} {ty : TypeId} {pos : String} {after : Array Edge} {g : Option (Nat × Bool)}

theorem rep_sl {S : Nat → Prop} {R : Lab} {w : World} {k n : Nat} {xs : List (List AV)} {v : Value} (h : RepV S R w (.sl k xs n) v) : ∃ a c, v = .slice a n c := by cases h; exact ⟨_, _, rfl⟩
theorem rep_own {S : Nat → Prop} {R : Lab} {w : World} {l off n : Nat} {v : Value} (h : RepV S R w (.own l off n) v) : ∃ a c, v = .slice a n c := by cases h <;> exact ⟨_, _, rfl⟩

theorem run_len_slice {t e : TypeId} (h : P.underlying t = some (.slice e)) (a : Option Addr) (n c : Nat) (w : World) (ty : TypeId) : (Builtin.len_ #[t] ty #[.slice a n c]).run P w = .ok (.int .i64 n) w := by
  simp [Builtin.len_, run_underlying h, goInt]
theorem run_len_string {t : TypeId} (h : P.underlying t = some .string) (s : ByteArray) (w : World) (ty : TypeId) : (Builtin.len_ #[t] ty #[.string s]).run P w = .ok (.int .i64 s.size) w := by
  simp [Builtin.len_, run_underlying h, goInt]

theorem exec_len {a : Act} {x : Operand} {t : TypeId} {w : World} {v : Value} (h : (Builtin.len_ #[t] ty #[a.eval x]).run P w = .ok v w) :
    (execOp a.eval ⟨dst, .call ⟨.builtin .len, #[x], #[t]⟩, ty, pos, after, g⟩).run P w = .ok (.value v) w := by
  simp [execOp, resolve, invoke, builtin, h]

theorem ev_len_sl {t e : TypeId} {x : Operand} {k n : Nat} {xs : List (List AV)} [hu : Und P t (.slice e)] (hx : st.get x = some (.sl k xs n)) : OpEv P ⟨dst, .call ⟨.builtin .len, #[x], #[t]⟩, ty, pos, after, g⟩ st (.val (.int .i64 n)) :=
  ev_same fun S R a w _ ho => by
    obtain ⟨ad, c, e⟩ := rep_sl (ho x (by simp [Op.operands, Call.operands]) _ hx)
    exact ⟨_, exec_len (by rw [e]; exact run_len_slice hu.h ..), .val _⟩
theorem ev_len_own {t e : TypeId} {x : Operand} {l off n : Nat} [hu : Und P t (.slice e)] (hx : st.get x = some (.own l off n)) : OpEv P ⟨dst, .call ⟨.builtin .len, #[x], #[t]⟩, ty, pos, after, g⟩ st (.val (.int .i64 n)) :=
  ev_same fun S R a w _ ho => by
    obtain ⟨ad, c, e⟩ := rep_own (ho x (by simp [Op.operands, Call.operands]) _ hx)
    exact ⟨_, exec_len (by rw [e]; exact run_len_slice hu.h ..), .val _⟩
theorem ev_len_val {t e : TypeId} {x : Operand} {ad : Option Addr} {n c : Nat} [hu : Und P t (.slice e)] (hx : st.get x = some (.val (.slice ad n c))) : OpEv P ⟨dst, .call ⟨.builtin .len, #[x], #[t]⟩, ty, pos, after, g⟩ st (.val (.int .i64 n)) :=
  ev_same fun S R a w _ ho => ⟨_, exec_len (by rw [rep_val (ho x (by simp [Op.operands, Call.operands]) _ hx)]; exact run_len_slice hu.h ..), .val _⟩
theorem ev_len_str {t : TypeId} {x : Operand} {s : ByteArray} [hu : Und P t .string] (hx : st.get x = some (.val (.string s))) : OpEv P ⟨dst, .call ⟨.builtin .len, #[x], #[t]⟩, ty, pos, after, g⟩ st (.val (.int .i64 s.size)) :=
  ev_same fun S R a w _ ho => ⟨_, exec_len (by rw [rep_val (ho x (by simp [Op.operands, Call.operands]) _ hx)]; exact run_len_string hu.h ..), .val _⟩

/-! fields of values -/
theorem getD_of {vs : Array Value} {i : Nat} {u : Value} (hi : i < vs.size) (h : vs.getD i undef = u) : vs[i]? = some u := by
  rw [Array.getElem?_eq_getElem hi]
  simpa [hi] using h

theorem ev_field_one {t : TypeId} {x : Operand} {f off k : Nat} {cs : List AV} {y : AV} [hf : FldF P t f off k false] (hx : st.get x = some (.agg cs)) (hy : cs[off]? = some y) : OpEv P ⟨dst, .field t x f, ty, pos, after, g⟩ st y :=
  ev_same fun S R a w _ ho => by
    have hr := ho x (by simp [Op.operands]) _ hx
    generalize hv : a.eval x = v at hr
    cases hr with
    | agg hl h =>
      rename_i vs
      obtain ⟨fs, fd, hu, hfd, rfl, hk, hs, ha⟩ := hf.h
      have hlt : fd.offset < vs.size := by rw [hl]; exact (List.getElem?_eq_some_iff.1 hy).1
      refine ⟨_, ?_, h _ _ hy⟩
      simp [execOp, Instr.field, run_underlying hu, hfd, hv, asAgg, part, ha, hlt]
theorem ev_field_agg {t : TypeId} {x : Operand} {f off k : Nat} {cs : List AV} [hf : FldF P t f off k true] (hx : st.get x = some (.agg cs)) (hk : off + k ≤ cs.length) : OpEv P ⟨dst, .field t x f, ty, pos, after, g⟩ st (.agg ((cs.drop off).take k)) :=
  ev_same fun S R a w _ ho => by
    have hr := ho x (by simp [Op.operands]) _ hx
    generalize hv : a.eval x = v at hr
    cases hr with
    | agg hl h =>
      rename_i vs
      obtain ⟨fs, fd, hu, hfd, rfl, hk0, hs, ha⟩ := hf.h
      refine ⟨.agg (vs.extract fd.offset (fd.offset + k)), ?_, .agg ?_ ?_⟩
      · simp [execOp, Instr.field, run_underlying hu, hfd, hv, asAgg, part, ha, hs]
      · simp; omega
      · intro i y hy
        have hi := (List.getElem?_eq_some_iff.1 hy).1
        simp at hi
        rw [List.getElem?_take, if_pos (by omega), List.getElem?_drop] at hy
        have := h _ _ hy
        have e : (vs.extract fd.offset (fd.offset + k)).getD i undef = vs.getD (fd.offset + i) undef := by
          simp only [Array.getD_eq_getD_getElem?, Array.getElem?_extract]
          rw [if_pos (by omega)]
        rw [e]; exact this

theorem ev_extract {x : Operand} {i : Nat} {cs : List AV} {y : AV} (hx : st.get x = some (.tup cs)) (hy : cs[i]? = some y) : OpEv P ⟨dst, .extract x i, ty, pos, after, g⟩ st y :=
  ev_same fun S R a w _ ho => by
    have hr := ho x (by simp [Op.operands]) _ hx
    generalize hv : a.eval x = v at hr
    cases hr with
    | tup hl h =>
      rename_i vs
      have hlt : i < vs.size := by rw [hl]; exact (List.getElem?_eq_some_iff.1 hy).1
      refine ⟨_, ?_, h _ _ hy⟩
      simp [execOp, Instr.extract, hv, hlt]

/-! addresses -/
theorem run_fieldAt {t : TypeId} {f off k : Nat} {ag : Bool} [hf : FldF P t f off k ag] (ad : Addr) (w : World) : (Instr.fieldAt t (.pointer (some ad)) f).run P w = .ok (.pointer (some (ad.add off))) w := by
  obtain ⟨fs, fd, hu, hfd, rfl, hk, hs, _⟩ := hf.h
  have : k ≠ 0 := by omega
  simp [Instr.fieldAt, run_underlying hu, hfd, Instr.sureAddr, fieldPlace, hs, this]

theorem ev_fieldAddr_ip {t : TypeId} {x : Operand} {f off k : Nat} {ag : Bool} {cs : List AV} [hf : FldF P t f off k ag] (hx : st.get x = some (.ip cs)) : OpEv P ⟨dst, .fieldAddr t x f, ty, pos, after, g⟩ st (.ip (cs.drop off)) :=
  ev_same fun S R a w _ ho => by
    have hr := ho x (by simp [Op.operands]) _ hx
    generalize hv : a.eval x = v at hr
    cases hr with
    | ip hS hc h1 hF =>
      rename_i ad F
      refine ⟨.pointer (some (ad.add off)), ?_, .ip (F := fun j => F (off + j)) (by rw [add_block]; exact hS) (fun j y hy => ?_) (fun y hy => h1 y (List.mem_of_mem_drop hy)) (fun j y hy => hF _ _ (by rwa [List.getElem?_drop] at hy))⟩
      · simp [execOp, hv, run_fieldAt]
      · rw [add_add]; exact hc _ _ (by rwa [List.getElem?_drop] at hy)
theorem ev_fieldAddr_ptr {t : TypeId} {x : Operand} {f off k : Nat} {ag : Bool} {l i j : Nat} [hf : FldF P t f off k ag] (hx : st.get x = some (.ptr l i j)) : OpEv P ⟨dst, .fieldAddr t x f, ty, pos, after, g⟩ st (.ptr l i (j + off)) :=
  ev_same fun S R a w _ ho => by
    have hr := ho x (by simp [Op.operands]) _ hx
    generalize hv : a.eval x = v at hr
    cases hr with
    | ptr h =>
      rename_i q
      refine ⟨_, ?_, .ptr h⟩
      simp [execOp, hv, run_fieldAt, add_mk, Nat.add_assoc]

theorem ev_indexAddr_sl {t e : TypeId} {x ix : Operand} {ki : IntKind} {k n i b : Nat} {z : Value} {xs : List (List AV)} {cs : List AV} [hu : Und P t (.slice e)] [he : ElF P e z k b] (hx : st.get x = some (.sl k xs n)) (hi : st.get ix = some (.val (.int ki (i : Nat))))
    (hn : i < n) (hcs : xs[i]? = some cs) : OpEv P ⟨dst, .indexAddr t x ix, ty, pos, after, g⟩ st (.ip cs) :=
  ev_same fun S R a w _ ho => by
    have hr := ho x (by simp [Op.operands]) _ hx
    have hi' := rep_val (ho ix (by simp [Op.operands]) _ hi)
    generalize hv : a.eval x = v at hr
    cases hr with
    | sl hn' hc hm hk ha h1 hF =>
      rename_i c ad F
      obtain ⟨ad, rfl, hS, hcell⟩ := ha (by intro e; subst e; simp at hcs)
      refine ⟨.pointer (some (ad.add (i * k))), ?_, .ip (F := fun j => F i j) (by rw [add_block]; exact hS) (fun j y hy => ?_) (h1 cs (List.mem_of_getElem? hcs)) (fun j y hy => hF i cs j y hcs hy)⟩
      · simp [execOp, Instr.indexAt, hv, hi', asIntOf, run_underlying hu.h, ElF.size (P := P) (t := e)]
        exact fun hh => absurd hh (by omega)
      · rw [add_add]; exact hcell i cs j y hcs hy

theorem ev_indexAddr_own {t e e' : TypeId} {x ix : Operand} {ki : IntKind} {k n i b l off : Nat} {z : Value} {xs : List (List AV)} {r : List (Nat × Tok)} [hu : Und P t (.slice e)] [he : ElF P e z k b] (hx : st.get x = some (.own l off n)) (hi : st.get ix = some (.val (.int ki (i : Nat))))
    (hn : i < n) (ht : Take st.toks l (.row e' k xs) r) : OpEv P ⟨dst, .indexAddr t x ix, ty, pos, after, g⟩ st (.ptr l (off + i) 0) :=
  ev_same fun S R a w hh ho => by
    have hr := ho x (by simp [Op.operands]) _ hx
    have hi' := rep_val (ho ix (by simp [Op.operands]) _ hi)
    have htok := hh.tok l _ (ht.perm.mem_iff.2 (List.mem_cons_self))
    generalize hv : a.eval x = v at hr
    cases hr with
    | own h hn' hm hT ha hs =>
      rename_i c q ad
      rcases ha with rfl | rfl
      · omega
      · simp only [TokHolds, h] at htok
        obtain ⟨hk, _⟩ := htok
        refine ⟨_, ?_, .ptr h⟩
        simp [execOp, Instr.indexAt, hv, hi', asIntOf, run_underlying hu.h, ElF.size (P := P) (t := e), add_mk, hk, Nat.add_mul, Nat.add_assoc]
        exact fun hh => absurd hh (by omega)
    | onil h => omega

theorem ev_nilCheck_ip {x : Operand} {cs : List AV} (hx : st.get x = some (.ip cs)) : OpEv P ⟨dst, .nilCheck x, ty, pos, after, g⟩ st (.ip cs) :=
  ev_same fun S R a w _ ho => by
    have hr := ho x (by simp [Op.operands]) _ hx
    generalize hv : a.eval x = v at hr
    refine ⟨v, ?_, hr⟩
    cases hr
    simp [execOp, hv]
theorem ev_nilCheck_ptr {x : Operand} {l i j : Nat} (hx : st.get x = some (.ptr l i j)) : OpEv P ⟨dst, .nilCheck x, ty, pos, after, g⟩ st (.ptr l i j) :=
  ev_same fun S R a w _ ho => by
    have hr := ho x (by simp [Op.operands]) _ hx
    generalize hv : a.eval x = v at hr
    refine ⟨v, ?_, hr⟩
    cases hr
    simp [execOp, hv]

/-! loads -/
theorem run_loadVar_agg {t : TypeId} {z : Value} {k b : Nat} [hu : AgF P t true] [he : ElF P t z k b] (ad : Addr) (vs : List Value) (hl : vs.length = k) (w : World) (h : ∀ j v, vs[j]? = some v → w.cell? (ad.add j) = some v) :
    (loadVar t ad).run P w = .ok (.agg vs.toArray) w := by
  have := run_loadCells_list (P := P) (w := w) ad vs h
  rw [hl] at this
  simp [loadVar, hu.h, ElF.size (P := P) (t := t), this]
theorem run_loadVar_one {t : TypeId} [hu : AgF P t false] (ad : Addr) (v : Value) (w : World) (h : w.cell? ad = some v) : (loadVar t ad).run P w = .ok v w := by
  simp [loadVar, hu.h, h]

theorem ev_load_ip_one {t : TypeId} {x : Operand} {y : AV} {cs r : List AV} [hu : AgF P t false] (hx : st.get x = some (.ip cs)) (hc : cs = y :: r) : OpEv P ⟨dst, .load t x, ty, pos, after, g⟩ st y :=
  ev_same fun S R a w _ ho => by
    have hr := ho x (by simp [Op.operands]) _ hx
    generalize hv : a.eval x = v at hr
    subst hc
    cases hr with
    | ip hS hc h1 hF =>
      rename_i ad F
      refine ⟨_, ?_, hF 0 y rfl⟩
      have := hc 0 y rfl
      have h0 : ad.add 0 = ad := by simp [Addr.add]
      rw [h0] at this
      simp [execOp, Instr.loadAt, hv, Instr.sureAddr, run_loadVar_one (P := P) (t := t) ad _ w this]
theorem ev_load_ip_agg {t : TypeId} {x : Operand} {z : Value} {k b : Nat} {cs : List AV} [hu : AgF P t true] [he : ElF P t z k b] (hx : st.get x = some (.ip cs)) (hk : k ≤ cs.length) : OpEv P ⟨dst, .load t x, ty, pos, after, g⟩ st (.agg (cs.take k)) :=
  ev_same fun S R a w _ ho => by
    have hr := ho x (by simp [Op.operands]) _ hx
    generalize hv : a.eval x = v at hr
    cases hr with
    | ip hS hc h1 hF =>
      rename_i ad F
      have hr : ∀ j y, (cs.take k)[j]? = some y → j < k ∧ cs[j]? = some y := fun j y hy => by
        have hj := (List.getElem?_eq_some_iff.1 hy).1
        rw [List.length_take] at hj
        rw [List.getElem?_take, if_pos (by omega)] at hy
        exact ⟨by omega, hy⟩
      refine ⟨.agg ((List.range k).map F).toArray, ?_, .agg (by simp; omega) (fun i y hy => ?_)⟩
      · have := run_loadVar_agg (P := P) (t := t) ad ((List.range k).map F) (by simp) w (fun j v hjv => by
          have hj := (List.getElem?_eq_some_iff.1 hjv).1
          simp at hj
          simp [hj] at hjv
          obtain ⟨y, hy⟩ : ∃ y, cs[j]? = some y := ⟨_, List.getElem?_eq_getElem (by omega)⟩
          rw [hc j y hy, hjv])
        simp [execOp, Instr.loadAt, hv, Instr.sureAddr, this]
      · obtain ⟨hik, hy'⟩ := hr i y hy
        have := hF i y hy'
        simpa [hik] using this

theorem rowAt_cell {S : Nat → Prop} {R : Lab} {w : World} {q : Blk} {cur : Array Value} {xs : List (List AV)} {e : TypeId} {fr : Nat × Nat} {i j : Nat} {cs : List AV} {y : AV} (hg : w.heap[q.g]? = some (.cells cur e fr)) (h : RowAt S R w q cur xs) (hx : xs[i]? = some cs) (hy : cs[j]? = some y) :
    ∃ u, w.cell? ⟨q.g, (q.b + i) * q.k + j, none⟩ = some u ∧ RepV S R w y u ∧ y.one = true := by
  obtain ⟨h1, u, hu, hr⟩ := (h i cs hx).2 j y hy
  exact ⟨u, by rw [cell_of_row w q.g _ cur e fr hg]; exact hu, hr, h1⟩

theorem ev_load_ptr_one {t e' : TypeId} {x : Operand} {k l i j : Nat} {y : AV} {xs : List (List AV)} {cs : List AV} {r : List (Nat × Tok)} [hu : AgF P t false] (hx : st.get x = some (.ptr l i j)) (ht : Take st.toks l (.row e' k xs) r)
    (hcs : xs[i]? = some cs) (hy : cs[j]? = some y) : OpEv P ⟨dst, .load t x, ty, pos, after, g⟩ st y :=
  ev_same fun S R a w hh ho => by
    have hr := ho x (by simp [Op.operands]) _ hx
    have htok := hh.tok l _ (ht.perm.mem_iff.2 (List.mem_cons_self))
    generalize hv : a.eval x = v at hr
    cases hr with
    | ptr h =>
      rename_i q
      simp only [TokHolds, h] at htok
      obtain ⟨hk, cur, fr, hg, _, _, _, _, hrow⟩ := htok
      obtain ⟨u, hu', hr', _⟩ := rowAt_cell hg hrow hcs hy
      refine ⟨u, ?_, hr'⟩
      simp [execOp, Instr.loadAt, hv, Instr.sureAddr, run_loadVar_one (P := P) (t := t) _ _ w hu']
theorem ev_load_ptr_agg {t e' : TypeId} {x : Operand} {z : Value} {kt b k l i j : Nat} {xs : List (List AV)} {cs : List AV} {r : List (Nat × Tok)} [hu : AgF P t true] [he : ElF P t z kt b] (hx : st.get x = some (.ptr l i j)) (ht : Take st.toks l (.row e' k xs) r)
    (hcs : xs[i]? = some cs) (hk : j + kt ≤ cs.length) : OpEv P ⟨dst, .load t x, ty, pos, after, g⟩ st (.agg ((cs.drop j).take kt)) :=
  ev_same fun S R a w hh ho => by
    have hr := ho x (by simp [Op.operands]) _ hx
    have htok := hh.tok l _ (ht.perm.mem_iff.2 (List.mem_cons_self))
    generalize hv : a.eval x = v at hr
    cases hr with
    | ptr h =>
      rename_i q
      simp only [TokHolds, h] at htok
      obtain ⟨hkk, cur, fr, hg, _, _, _, _, hrow⟩ := htok
      have hcell : ∀ m, m < kt → ∃ y u, cs[j + m]? = some y ∧ w.cell? ⟨q.g, (q.b + i) * q.k + (j + m), none⟩ = some u ∧ RepV S R w y u := fun m hm => by
        obtain ⟨y, hy⟩ : ∃ y, cs[j + m]? = some y := ⟨_, List.getElem?_eq_getElem (by omega)⟩
        obtain ⟨u, hu', hr', _⟩ := rowAt_cell hg hrow hcs hy
        exact ⟨y, u, hy, hu', hr'⟩
      have hF : ∃ F : Nat → Value, ∀ m, m < kt → ∃ y, cs[j + m]? = some y ∧ w.cell? ⟨q.g, (q.b + i) * q.k + (j + m), none⟩ = some (F m) ∧ RepV S R w y (F m) := by
        refine ⟨fun m => if hm : m < kt then Classical.choose (Classical.choose_spec (hcell m hm)) else undef, fun m hm => ?_⟩
        simp only [hm, dif_pos]
        exact ⟨_, Classical.choose_spec (Classical.choose_spec (hcell m hm))⟩
      obtain ⟨F, hF⟩ := hF
      refine ⟨.agg ((List.range kt).map F).toArray, ?_, .agg (by simp; omega) (fun m y hy => ?_)⟩
      · have := run_loadVar_agg (P := P) (t := t) ⟨q.g, (q.b + i) * q.k + j, none⟩ ((List.range kt).map F) (by simp) w (fun m v hmv => by
          have hm := (List.getElem?_eq_some_iff.1 hmv).1
          simp at hm
          simp [hm] at hmv
          obtain ⟨y, _, hc, _⟩ := hF m hm
          rw [add_mk, Nat.add_assoc, hc, hmv])
        simp [execOp, Instr.loadAt, hv, Instr.sureAddr, this]
      · have hm := (List.getElem?_eq_some_iff.1 hy).1
        rw [List.length_take] at hm
        have hm : m < kt := by omega
        rw [List.getElem?_take, if_pos hm, List.getElem?_drop] at hy
        obtain ⟨y', hy', _, hr'⟩ := hF m hm
        rw [hy] at hy'
        cases hy'
        simpa [hm] using hr'
end

end Go.Proofs.YtphkfejckafamaaDoorA

/- Contracts of functions: how one is proved, how one is used. -/
set_option linter.unusedVariables false
namespace Go.Proofs.YtphkfejckafamaaDoorA
open Go.RowKit

def Reps (S : Nat → Prop) (R : Lab) (w : World) (xs : List AV) (vs : List Value) : Prop := vs.length = xs.length ∧ ∀ (i : Nat) (x : AV), xs[i]? = some x → RepV S R w x (vs.getD i undef)

def FnPost (S : Nat → Prop) (R : Lab) (w : World) (ts : List (Nat × Tok)) (Post : List (Nat × Tok) → AV → Prop) : Ending → World → Prop := fun e w' =>
  ∃ v r S' R' ts', e = .returned v ∧ Post ts' r ∧ Holds S' R' w' ts' ∧ RepV S' R' w' r v ∧ Out w S R (Foot R ts) (fun l => ∃ t, (l, t) ∈ ts) S' R' w' ts'

/-- Called with these tokens and arguments the function returns so. -/
structure Fn (P : Program) (f : FuncId) (ts : List (Nat × Tok)) (args : List AV) (Post : List (Nat × Tok) → AV → Prop) : Prop where
  h : ∀ (S : Nat → Prop) (R : Lab) (w : World) (vs : List Value), Holds S R w ts → Reps S R w args vs → Calls P f vs.toArray w (FnPost S R w ts Post)

/-- A function that only reckons. -/
def PFn (P : Program) (f : FuncId) (args : List AV) (x : AV) : Prop := Fn P f [] args (fun _ r => r = x)

theorem Fn.mono {P : Program} {f : FuncId} {ts : List (Nat × Tok)} {args : List AV} {Post Post' : List (Nat × Tok) → AV → Prop} (h : Fn P f ts args Post) (hp : ∀ ts' r, Post ts' r → Post' ts' r) : Fn P f ts args Post' :=
  ⟨fun S R w vs hh hr => (h.h S R w vs hh hr).mono fun _ _ ⟨v, r, S', R', ts', he, hq, rest⟩ => ⟨v, r, S', R', ts', he, hp _ _ hq, rest⟩⟩

/-! ### What is returned -/
def resOne (tmps : Array Value) : ResultVar → Sem Value
  | .tmp t => pure (tmps.getD t undef)
  | .cell a t => do loadVar t (← asAddr (tmps.getD a undef))

theorem results_eq {fn : Func} {rvs : Array ResultVar} (h : fn.results = rvs) (tmps : Array Value) : results fn tmps = (do
    let vs ← rvs.mapM (resOne tmps)
    pure (if h : vs.size = 1 then vs[0] else .tuple vs)) := by
  subst h
  unfold results
  congr 1

def Res1 (P : Program) (st : St) (rv : ResultVar) (x : AV) : Prop :=
  ∀ S R (a : Act) w, Holds S R w st.toks → Slots S R w st.sl a → ∃ v, (resOne a.tmps rv).run P w = .ok v w ∧ RepV S R w x v

theorem res_tmp {P : Program} {st : St} {t : Tmp} {x y : AV} (h : look st.sl t = some x) (hl : Le x y) : Res1 P st (.tmp t) y := fun S R a w _ hs => ⟨_, rfl, hl.rep (hs t x h)⟩

def ResQ (P : Program) (rvs : Array ResultVar) (Post : List (Nat × Tok) → AV → Prop) (st : St) : Prop :=
  ∃ r, (∀ S R (a : Act) w, Holds S R w st.toks → Slots S R w st.sl a → ∀ fn : Func, fn.results = rvs → ∃ v, (results fn a.tmps).run P w = .ok v w ∧ RepV S R w r v) ∧ ∃ ts' rest, Takes st.toks ts' rest ∧ Post ts' r

def RetQ (P : Program) (rvs : Array ResultVar) (Post : List (Nat × Tok) → AV → Prop) : Exit → St → Prop
  | .normal, st => ResQ P rvs Post st
  | .ret, st => ResQ P rvs Post st
  | _, _ => False

theorem ret1 {P : Program} {Post : List (Nat × Tok) → AV → Prop} {st : St} {rv : ResultVar} {x : AV} (h : Res1 P st rv x) {ts' rest : List (Nat × Tok)} (ht : Takes st.toks ts' rest) (hp : Post ts' x) : ResQ P #[rv] Post st :=
  ⟨x, fun S R a w hh hs fn hfn => by
    obtain ⟨v, hv, hr⟩ := h S R a w hh hs
    exact ⟨v, by rw [results_eq hfn]; simp [hv], hr⟩, ts', rest, ht, hp⟩
theorem ret0 {P : Program} {Post : List (Nat × Tok) → AV → Prop} {st : St} {ts' rest : List (Nat × Tok)} (ht : Takes st.toks ts' rest) (hp : Post ts' (.tup [])) : ResQ P #[] Post st :=
  ⟨.tup [], fun _ _ a w _ _ fn hfn => ⟨.tuple #[], by rw [results_eq hfn]; simp, .tup rfl (by simp)⟩, ts', rest, ht, hp⟩
theorem ret2 {P : Program} {Post : List (Nat × Tok) → AV → Prop} {st : St} {r1 r2 : ResultVar} {x1 x2 : AV} (h1 : Res1 P st r1 x1) (h2 : Res1 P st r2 x2) {ts' rest : List (Nat × Tok)} (ht : Takes st.toks ts' rest) (hp : Post ts' (.tup [x1, x2])) : ResQ P #[r1, r2] Post st :=
  ⟨.tup [x1, x2], fun S R a w hh hs fn hfn => by
    obtain ⟨v1, hv1, hr1⟩ := h1 S R a w hh hs
    obtain ⟨v2, hv2, hr2⟩ := h2 S R a w hh hs
    refine ⟨.tuple #[v1, v2], by rw [results_eq hfn]; simp [hv1, hv2], .tup rfl (fun i x hx => ?_)⟩
    match i, hx with
    | 0, hx => cases hx; exact hr1
    | 1, hx => cases hx; exact hr2, ts', rest, ht, hp⟩
theorem ret3 {P : Program} {Post : List (Nat × Tok) → AV → Prop} {st : St} {r1 r2 r3 : ResultVar} {x1 x2 x3 : AV} (h1 : Res1 P st r1 x1) (h2 : Res1 P st r2 x2) (h3 : Res1 P st r3 x3) {ts' rest : List (Nat × Tok)} (ht : Takes st.toks ts' rest) (hp : Post ts' (.tup [x1, x2, x3])) :
    ResQ P #[r1, r2, r3] Post st :=
  ⟨.tup [x1, x2, x3], fun S R a w hh hs fn hfn => by
    obtain ⟨v1, hv1, hr1⟩ := h1 S R a w hh hs
    obtain ⟨v2, hv2, hr2⟩ := h2 S R a w hh hs
    obtain ⟨v3, hv3, hr3⟩ := h3 S R a w hh hs
    refine ⟨.tuple #[v1, v2, v3], by rw [results_eq hfn]; simp [hv1, hv2, hv3], .tup rfl (fun i x hx => ?_)⟩
    match i, hx with
    | 0, hx => cases hx; exact hr1
    | 1, hx => cases hx; exact hr2
    | 2, hx => cases hx; exact hr3, ts', rest, ht, hp⟩
theorem ret4 {P : Program} {Post : List (Nat × Tok) → AV → Prop} {st : St} {r1 r2 r3 r4 : ResultVar} {x1 x2 x3 x4 : AV} (h1 : Res1 P st r1 x1) (h2 : Res1 P st r2 x2) (h3 : Res1 P st r3 x3) (h4 : Res1 P st r4 x4) {ts' rest : List (Nat × Tok)} (ht : Takes st.toks ts' rest)
    (hp : Post ts' (.tup [x1, x2, x3, x4])) : ResQ P #[r1, r2, r3, r4] Post st :=
  ⟨.tup [x1, x2, x3, x4], fun S R a w hh hs fn hfn => by
    obtain ⟨v1, hv1, hr1⟩ := h1 S R a w hh hs
    obtain ⟨v2, hv2, hr2⟩ := h2 S R a w hh hs
    obtain ⟨v3, hv3, hr3⟩ := h3 S R a w hh hs
    obtain ⟨v4, hv4, hr4⟩ := h4 S R a w hh hs
    refine ⟨.tuple #[v1, v2, v3, v4], by rw [results_eq hfn]; simp [hv1, hv2, hv3, hv4], .tup rfl (fun i x hx => ?_)⟩
    match i, hx with
    | 0, hx => cases hx; exact hr1
    | 1, hx => cases hx; exact hr2
    | 2, hx => cases hx; exact hr3
    | 3, hx => cases hx; exact hr4, ts', rest, ht, hp⟩

/-! ### Entering -/
def argSl : Nat → List AV → List (Nat × AV)
  | _, [] => []
  | i, x :: r => (i, x) :: argSl (i + 1) r

theorem look_argSl (xs : List AV) : ∀ i d y, look (argSl i xs) d = some y → i ≤ d ∧ xs[d - i]? = some y := by
  induction xs with
  | nil => intro i d y h; cases h
  | cons x r ih =>
    intro i d y h
    simp only [argSl, look] at h
    by_cases hid : i = d
    · subst hid
      rw [Nat.beq_refl] at h
      cases h
      simp
    · rw [beq_of_ne hid] at h
      obtain ⟨h1, h2⟩ := ih _ _ _ h
      refine ⟨by omega, ?_⟩
      have : d - i = (d - (i + 1)) + 1 := by omega
      rw [this]
      simpa using h2

theorem fn_of {P : Program} {f : FuncId} {fn : Func} {c : Code} {n : Nat} {rvs : Array ResultVar} {ts : List (Nat × Tok)} {args : List AV} {Post : List (Nat × Tok) → AV → Prop} (hf : P.funcs[f]? = some fn) (hb : fn.body = some c) (hn : fn.ntmps = n) (hrv : fn.results = rvs) (hl' : Nat.ble args.length n = true)
    (h : ∀ G : Ctx P n, AW G c ⟨argSl 0 args, ts⟩ (.nil (RetQ P rvs Post))) : Fn P f ts args Post := by
  refine ⟨?_⟩
  intro S R w vs hh hr
  have hl := Nat.le_of_ble_eq_true hl'
  refine calls_of_wp hf hb ?_
  have hsz : (vs.toArray ++ Array.replicate (fn.ntmps - vs.toArray.size) undef).size = n := by
    have := hr.1
    simp [hn]; omega
  refine (wpIn_wide (n := 0)).1 (wpIn_mono ((h ⟨w, S, R, Foot R ts, fun l => ∃ t, (l, t) ∈ ts, []⟩).h _ w ⟨S, R, hh, ?_, ?_, rfl, hsz⟩) ?_)
  · intro d x hx
    obtain ⟨_, h2⟩ := look_argSl args 0 d x hx
    have hd : d < args.length := by
      have := (List.getElem?_eq_some_iff.1 h2).1
      simpa using this
    have hv := hr.2 d x (by simpa using h2)
    have : d < vs.length := by rw [hr.1]; exact hd
    have e : (vs.toArray ++ Array.replicate (fn.ntmps - vs.toArray.size) undef).getD d undef = vs.getD d undef := by
      simp [Array.getElem?_append, this]
    show RepV S R w x ((vs.toArray ++ Array.replicate (fn.ntmps - vs.toArray.size) undef).getD d undef)
    rw [e]; exact hv
  · refine ⟨rfl, rfl, rfl, Nat.le_refl _, fun _ _ _ => rfl, fun _ h => h, fun _ h => .inl h, fun _ _ h => h, fun g h => .inl h, fun l t ht => .inl ⟨t, ht⟩⟩
  · rintro e a' w' ⟨st', hq, S', R', hr'⟩
    have fin : ResQ P rvs Post st' → a'.defers = [] ∧ ∃ v, (results fn a'.tmps).run P w' = .ok v w' ∧ FnPost S R w ts Post (.returned v) w' := by
      rintro ⟨r, hres, ts', rest, ht, hp⟩
      obtain ⟨v, hv, hrep⟩ := hres S' R' a' w' hr'.holds hr'.slots fn hrv
      refine ⟨hr'.defers, v, hv, v, r, S', R', ts', rfl, hp, hr'.holds.sub ⟨rest, ht.perm⟩, hrep, ?_⟩
      exact hr'.out.sub fun p hm => ht.perm.mem_iff.2 (List.mem_append_left _ hm)
    cases e with
    | normal => exact fin hq
    | ret => exact fin hq
    | _ => exact hq.elim

/-! ### Calling -/
class Ent (P : Program) (f : FuncId) : Prop where
  h : ∀ args w, (callFunc f args).run P w = .ok (.enter f args) w

theorem ent_of {P : Program} {f : FuncId} {fn : Func} (hf : P.funcs[f]? = some fn) (hn : (fn.name == "runtime.NumGoroutine") = false) (hb : fn.body.isNone = false) : Ent P f :=
  ⟨fun args w => by
    unfold callFunc
    simp only [Sem.run_bind, run_program, Result.andThen_ok, hf, hn, hb, Bool.false_eq_true, if_false]
    rfl⟩

def gets (st : St) : List Operand → Option (List AV)
  | [] => some []
  | x :: r => match st.get x, gets st r with
    | some y, some ys => some (y :: ys)
    | _, _ => none

theorem gets_reps {S : Nat → Prop} {R : Lab} {w : World} {st : St} {a : Act} : ∀ {xs : List Operand} {ys : List AV}, gets st xs = some ys → (∀ x, x ∈ xs → ∀ y, st.get x = some y → RepV S R w y (a.eval x)) → Reps S R w ys (xs.map a.eval)
  | [], ys, h, _ => by cases h; exact ⟨rfl, by simp⟩
  | x :: r, ys, h, hx => by
    simp only [gets] at h
    split at h
    · rename_i y ys' h1 h2
      cases h
      have ih := gets_reps h2 (fun z hz => hx z (List.mem_cons_of_mem _ hz))
      refine ⟨by simp [ih.1], fun i z hz => ?_⟩
      cases i with
      | zero => cases hz; exact hx x (List.mem_cons_self) _ h1
      | succ i => exact ih.2 i z (by simpa using hz)
    · cases h

theorem Reps.append {S : Nat → Prop} {R : Lab} {w : World} {xs ys : List AV} {us vs : List Value} (h1 : Reps S R w xs us) (h2 : Reps S R w ys vs) : Reps S R w (xs ++ ys) (us ++ vs) := by
  refine ⟨by simp [h1.1, h2.1], fun i x hx => ?_⟩
  rw [List.getElem?_append] at hx
  have hu := h1.1
  split at hx
  · rename_i hlt
    have := h1.2 i x hx
    simpa [List.getElem?_append, hu, hlt] using this
  · rename_i hge
    have := h2.2 _ x hx
    simpa [List.getElem?_append, hu, hge] using this

theorem run_call {P : Program} {f : FuncId} [he : Ent P f] {a : Act} {dst : Option Tmp} {ty : TypeId} {pos : String} {after : Array Edge} {g : Option (Nat × Bool)} {c : Operand} {xs : List Operand} {tys : Array TypeId} {caps : Array Value} {w : World}
    (hc : a.eval c = .func (.func f) #[] caps) : (execOp a.eval ⟨dst, .call ⟨.value c, xs.toArray, tys⟩, ty, pos, after, g⟩).run P w = .ok (.enter f ((xs.map a.eval) ++ caps.toList).toArray) w := by
  simp [execOp, resolve, hc, Deferred.ofValue, invoke, he.h]

theorem rep_fn {S : Nat → Prop} {R : Lab} {w : World} {f : FuncId} {cs : List AV} {v : Value} (h : RepV S R w (.fn f cs) v) : ∃ vs : Array Value, v = .func (.func f) #[] vs ∧ Reps S R w cs vs.toList := by
  cases h with
  | fn hl h => exact ⟨_, rfl, by simpa using hl, fun i x hx => by simpa using h i x hx⟩

/-- A call of a function that only reckons. -/
theorem ev_call {P : Program} {st : St} {dst : Option Tmp} {ty : TypeId} {pos : String} {after : Array Edge} {g : Option (Nat × Bool)} {c : Operand} {xs : List Operand} {tys : Array TypeId} {f : FuncId} {caps ys : List AV} {x : AV} [Ent P f]
    (hc : st.get c = some (.fn f caps)) (hx : gets st xs = some ys) (hF : PFn P f (ys ++ caps) x) : OpEv P ⟨dst, .call ⟨.value c, xs.toArray, tys⟩, ty, pos, after, g⟩ st x := by
  refine ⟨?_⟩
  intro S R a w hh ho next Q hk
  obtain ⟨vs, hv, hcap⟩ := rep_fn (ho c (by simp [Op.operands, Call.operands]) _ hc)
  have hargs := gets_reps (S := S) (R := R) (w := w) (a := a) hx (fun z hz => ho z (by simp [Op.operands, Call.operands, hz]))
  unfold Oper.wp
  rw [run_call hv]
  rw [Oper.upon_enter]
  refine (hF.h S R w _ ⟨hh.top, by simp, by simp, by rintro g ⟨_, _, h, _⟩; simp at h, hh.low⟩ (hargs.append hcap)).mono ?_
  rintro e w' ⟨v, r, S', R', ts', rfl, rfl, hh', hr, o⟩
  have hf : ∀ b, ¬ Foot R [] b := by rintro b ⟨_, _, h, _⟩; simp at h
  refine hk v S' R' w' ⟨⟨o.os, o.tape, o.output, o.size, fun b hb => o.block b hb (hf b)⟩, o.S0, fun b hb => ?_, o.R0, hh'.top⟩ hr
  rcases o.S1 b hb with h1 | h1 | h1
  · exact .inl h1
  · exact (hf b h1).elim
  · exact .inr ⟨h1, hh'.low b hb⟩

/-- An operation that takes tokens and gives others back: what else there is stays. -/
theorem RelAt.frame {P : Program} {n : Nat} {ro : Option Nat} {G : CtxR P n ro} {S S' : Nat → Prop} {R R' : Lab} {st : St} {a : Act} {w w' : World} {ts ts' rs : List (Nat × Tok)} (hr : RelAt G S R st a w) (hp : st.toks.Perm (ts ++ rs)) (hh' : Holds S' R' w' ts')
    (o : Out w S R (Foot R ts) (fun l => ∃ t, (l, t) ∈ ts) S' R' w' ts') : RelAt G S' R' ⟨st.sl, ts' ++ rs⟩ a w' := by
  have hh := hr.holds
  have hall : Holds S R w (ts ++ rs) := hh.sub ⟨[], by simpa using hp⟩
  have hrs : ∀ l t, (l, t) ∈ rs → TokHolds S R w l t := fun l t hm => hall.tok l t (List.mem_append_right _ hm)
  have happ := List.pairwise_append.1 hall.apart
  have hnot : ∀ l t, (l, t) ∈ rs → ∀ g, blkOf R l = some g → ¬ Foot R ts g := by
    rintro l t hm g hg ⟨l', t', hm', hg'⟩
    exact (happ.2.2 _ hm' _ hm).2 g hg' hg
  have hsame : ∀ b, S b → w'.heap[b]? = w.heap[b]? := fun b hb => o.block b (hh.low b hb) (fun hf => by
    obtain ⟨l, t, hm, hg⟩ := hf
    exact hall.notS b ⟨l, t, List.mem_append_left _ hm, hg⟩ hb)
  have hholds : Holds S' R' w' (ts' ++ rs) := by
    refine ⟨hh'.top, List.pairwise_append.2 ⟨hh'.apart, ?_, ?_⟩, ?_, ?_, hh'.low⟩
    · refine happ.2.1.imp_of_mem fun {p q} hp hq hpq => ⟨hpq.1, fun g => ?_⟩
      rw [blkOf_mono o.R0 (hrs p.1 p.2 hp).bound, blkOf_mono o.R0 (hrs q.1 q.2 hq).bound]
      exact hpq.2 g
    · rintro ⟨l, t⟩ hm ⟨l', t'⟩ hm'
      refine ⟨fun e => ?_, fun g hg => ?_⟩
      · have e' : l = l' := e
        subst e'
        rcases o.keys l t hm with ⟨t2, h2⟩ | h2
        · exact (happ.2.2 _ h2 _ hm').1 rfl
        · obtain ⟨q, hq⟩ := (hrs l t' hm').bound
          rw [h2] at hq
          cases hq
      · show blkOf R' l' ≠ some g
        rw [blkOf_mono o.R0 (hrs l' t' hm').bound]
        intro hg'
        rcases o.foot g ⟨l, t, hm, hg⟩ with h1 | h1
        · exact hnot l' t' hm' g hg' h1
        · have := (hrs l' t' hm').lt hg'
          omega
    · intro l t hm
      rcases List.mem_append.1 hm with h1 | h1
      · exact hh'.tok l t h1
      · exact (hrs l t h1).mono o.S0 o.R0 hsame (fun g hg => o.block g ((hrs l t h1).lt hg) (hnot l t h1 g hg))
    · rintro g ⟨l, t, hm, hg⟩ hs
      rcases List.mem_append.1 hm with h1 | h1
      · exact hh'.notS g ⟨l, t, h1, hg⟩ hs
      · rw [blkOf_mono o.R0 (hrs l t h1).bound] at hg
        rcases o.S1 g hs with h2 | h2 | h2
        · exact hall.notS g ⟨l, t, List.mem_append_right _ h1, hg⟩ h2
        · exact hnot l t h1 g hg h2
        · have := (hrs l t h1).lt hg
          omega
  have hft : ∀ g, Foot R ts g → Foot R st.toks g := fun g ⟨l, t, hm, hg⟩ => ⟨l, t, hp.mem_iff.2 (List.mem_append_left _ hm), hg⟩
  have oo := hr.out
  refine ⟨hholds, hr.slots.mono o.S0 o.R0 hsame, ?_, hr.defers, hr.size⟩
  refine ⟨o.os.trans oo.os, o.tape.trans oo.tape, o.output.trans oo.output, Nat.le_trans oo.size o.size, fun b hb hf => ?_, fun b hb => o.S0 b (oo.S0 b hb), fun b hb => ?_, fun l q hq => o.R0 l q (oo.R0 l q hq), ?_, ?_⟩
  · refine (o.block b (Nat.lt_of_lt_of_le hb oo.size) (fun hf' => ?_)).trans (oo.block b hb hf)
    rcases oo.foot b (hft b hf') with h1 | h1
    · exact hf h1
    · omega
  · rcases o.S1 b hb with h1 | h1 | h1
    · exact oo.S1 b h1
    · rcases oo.foot b (hft b h1) with h2 | h2
      · exact .inr (.inl h2)
      · exact .inr (.inr h2)
    · exact .inr (.inr (Nat.le_trans oo.size h1))
  · rintro g ⟨l, t, hm, hg⟩
    rcases List.mem_append.1 hm with h1 | h1
    · rcases o.foot g ⟨l, t, h1, hg⟩ with h2 | h2
      · exact oo.foot g (hft g h2)
      · exact .inr (Nat.le_trans oo.size h2)
    · rw [blkOf_mono o.R0 (hrs l t h1).bound] at hg
      exact oo.foot g ⟨l, t, hp.mem_iff.2 (List.mem_append_right _ h1), hg⟩
  · intro l t hm
    rcases List.mem_append.1 hm with h1 | h1
    · rcases o.keys l t h1 with ⟨t2, h2⟩ | h2
      · exact oo.keys l t2 (hp.mem_iff.2 (List.mem_append_left _ h2))
      · refine .inr ?_
        cases hb : G.R0 l with
        | none => rfl
        | some q => rw [oo.R0 l q hb] at h2; cases h2
    · exact oo.keys l t (hp.mem_iff.2 (List.mem_append_right _ h1))

/-- The operation takes the tokens ts. -/
structure OpEff (P : Program) (o : Oper) (st : St) (ts : List (Nat × Tok)) (Post : List (Nat × Tok) → AV → Prop) : Prop where
  h : ∀ (S : Nat → Prop) (R : Lab) (a : Act) (w : World), Holds S R w ts → OpsAt S R w st a o.op → ∀ (next : Act → World → Prop) (Q : Exit → Act → World → Prop),
    (∀ v r S' R' w' ts', Post ts' r → Holds S' R' w' ts' → RepV S' R' w' r v → Out w S R (Foot R ts) (fun l => ∃ t, (l, t) ∈ ts) S' R' w' ts' → next (a.put o.dst v) w') → o.wp P a w next Q

theorem awo_eff {P : Program} {n : Nat} {ro : Option Nat} {G : CtxR P n ro} {ops : Array Oper} {rest : List Oper} {st : St} {K : Kont} {dst : Option Tmp} {op : Op} {ty : TypeId} {pos : String} {after : Array Edge} {ts rs : List (Nat × Tok)} {Post : List (Nat × Tok) → AV → Prop}
    (he : OpEff P ⟨dst, op, ty, pos, after, none⟩ st ts Post) (ht : Takes st.toks ts rs) (hd : dstOk dst n = true) (h : ∀ ts' r, Post ts' r → AWo G ops rest ⟨putSl st.sl dst r, ts' ++ rs⟩ K) : AWo G ops (⟨dst, op, ty, pos, after, none⟩ :: rest) st K := by
  refine ⟨?_⟩
  rintro a w ⟨S, R, hr⟩
  refine wpListIn_plain rfl fun k hk => ?_
  refine oper_in (he.h S R a w (hr.holds.sub ⟨rs, ht.perm⟩) (opsAt hr.slots op) _ _ fun v r S' R' w' ts' hpost hh' hrep o => ⟨hk _ _ ((h ts' r hpost).h _ _ ?_), put_defers ..⟩)
  have hf := hr.frame ht.perm hh' o
  exact ⟨S', R', hf.holds, hf.slots.put hrep (fun d e => by rw [hr.size]; exact dstOk_lt hd d e), hf.out, (put_defers ..).trans hr.defers, (put_size ..).trans hr.size⟩

/-- A call that takes tokens and gives others back. -/
theorem eff_call {P : Program} {st : St} {dst : Option Tmp} {ty : TypeId} {pos : String} {after : Array Edge} {g : Option (Nat × Bool)} {c : Operand} {xs : List Operand} {tys : Array TypeId} {f : FuncId} {caps ys : List AV} {ts : List (Nat × Tok)} {Post : List (Nat × Tok) → AV → Prop} [Ent P f]
    (hc : st.get c = some (.fn f caps)) (hx : gets st xs = some ys) (hF : Fn P f ts (ys ++ caps) Post) : OpEff P ⟨dst, .call ⟨.value c, xs.toArray, tys⟩, ty, pos, after, g⟩ st ts Post := by
  refine ⟨?_⟩
  intro S R a w hh ho next Q hk
  obtain ⟨vs, hv, hcap⟩ := rep_fn (ho c (by simp [Op.operands, Call.operands]) _ hc)
  have hargs := gets_reps (S := S) (R := R) (w := w) (a := a) hx (fun z hz => ho z (by simp [Op.operands, Call.operands, hz]))
  unfold Oper.wp
  rw [run_call hv]
  rw [Oper.upon_enter]
  refine (hF.h S R w _ hh (hargs.append hcap)).mono ?_
  rintro e w' ⟨v, r, S', R', ts', rfl, hpost, hh', hrep, o⟩
  exact hk v r S' R' w' ts' hpost hh' hrep o

end Go.Proofs.YtphkfejckafamaaDoorA

/- Operations that make or write memory. -/
set_option linter.unusedVariables false
namespace Go.Proofs.YtphkfejckafamaaDoorA
open Go.RowKit

/-- The cells of a value. -/
def AV.cells : AV → List AV
  | .agg cs => cs
  | x => [x]

theorem rep_cells {S : Nat → Prop} {R : Lab} {w : World} {x : AV} {v : Value} (h : RepV S R w x v) (h1 : x.one = true ∨ ∃ cs, x = .agg cs) : v.cells.size = x.cells.length ∧ ∀ (i : Nat) (y : AV), x.cells[i]? = some y → RepV S R w y (v.cells.getD i undef) := by
  rcases h1 with h1 | ⟨cs, rfl⟩
  · have hc : v.cells = #[v] := by
      have := h.one h1
      cases v <;> simp_all [Value.cells, Value.oneCell']
    have hx : x.cells = [x] := by cases x <;> simp_all [AV.cells, AV.one]
    rw [hc, hx]
    refine ⟨rfl, fun i y hy => ?_⟩
    match i, hy with
    | 0, hy => cases hy; simpa using h
  · cases h with
    | agg hl hf => exact ⟨by simpa [Value.cells, AV.cells] using hl, fun i y hy => by simpa [Value.cells] using hf i y hy⟩

/-- What may be laid into cells: its cells each fit one cell. -/
def AV.lies (x : AV) : Prop := (x.one = true ∨ ∃ cs, x = .agg cs) ∧ ∀ y, y ∈ x.cells → y.one = true

def liesB : AV → Bool
  | .agg cs => cs.all (·.one)
  | x => x.one

theorem lies_of {x : AV} (h : liesB x = true) : x.lies := by
  cases x <;> first
    | exact ⟨.inl h, fun y hy => by simp only [AV.cells, List.mem_singleton] at hy; subst hy; exact h⟩
    | exact ⟨.inr ⟨_, rfl⟩, fun y hy => List.all_eq_true.1 h y hy⟩
    | cases h

def bindL (R : Lab) (l : Nat) (q : Option Blk) : Lab := fun m => if m = l then some q else R m

theorem bindL_same {R : Lab} {l : Nat} {q : Option Blk} : bindL R l q l = some q := by simp [bindL]
theorem bindL_mono {R : Lab} {l : Nat} {q : Option Blk} (h : R l = none) : ∀ m p, R m = some p → bindL R l q m = some p := fun m p hm => by
  unfold bindL
  split
  · subst_vars; rw [h] at hm; cases hm
  · exact hm
theorem bindL_top {R : Lab} {l : Nat} {q : Option Blk} (h : ∃ N, ∀ m, N ≤ m → R m = none) : ∃ N, ∀ m, N ≤ m → bindL R l q m = none := by
  obtain ⟨N, hN⟩ := h
  refine ⟨N + l + 1, fun m hm => ?_⟩
  unfold bindL
  rw [if_neg (by omega)]
  exact hN m (by omega)

section
variable {P : Program} {st : St} {dst : Option Tmp} {ty : TypeId} {pos : String} {after : Array Edge} {g : Option (Nat × Bool)}

theorem alloc_heap (w : World) (o : Obj) : (w.alloc o).heap = w.heap.push o := rfl

/-- One token over a fresh block. -/
theorem fresh_row {S : Nat → Prop} {R : Lab} {w : World} {N : Nat} (hN : R N = none) (htop : ∃ N, ∀ m, N ≤ m → R m = none) (hlow : ∀ b, S b → b < w.heap.size) {w1 : World} (hw1 : Below w.heap.size w w1) (hs1 : w1.heap.size = w.heap.size) {cur : Array Value} {e : TypeId} {k t : Nat} {xs : List (List AV)} (hc : cur.size = t * k) (ht : xs.length ≤ t) (hm : t ≤ maxLen)
    (hr : ∀ (i : Nat) (x : List AV), xs[i]? = some x → x.length = k ∧ ∀ (j : Nat) (y : AV), x[j]? = some y → y.one = true ∧ ∃ u, cur[i * k + j]? = some u ∧ RepV S R w y u) :
    Holds S (bindL R N (some ⟨w.heap.size, 0, k, t⟩)) (w1.alloc (.cells cur e)) [(N, .row e k xs)] ∧ Out w S R (Foot R []) (fun l => ∃ t, (l, t) ∈ ([] : List (Nat × Tok))) S (bindL R N (some ⟨w.heap.size, 0, k, t⟩)) (w1.alloc (.cells cur e)) [(N, .row e k xs)] := by
  have hfoot : ∀ g, Foot (bindL R N (some ⟨w.heap.size, 0, k, t⟩)) [(N, .row e k xs)] g → g = w.heap.size := by
    rintro g ⟨l, t', hm', hg⟩
    simp at hm'
    obtain ⟨rfl, rfl⟩ := hm'
    simp [blkOf, bindL] at hg
    exact hg.symm
  have hsz : (w1.alloc (.cells cur e)).heap.size = w.heap.size + 1 := by simp [hs1]
  have hb : ∀ b, b < w.heap.size → (w1.alloc (.cells cur e)).heap[b]? = w.heap[b]? := fun b hb => (Below.heap_alloc _ _ _ (by omega)).trans (hw1.block b hb)
  refine ⟨⟨bindL_top htop, by simp, ?_, ?_, fun b hb => by rw [hsz]; have := hlow b hb; omega⟩, ?_⟩
  · intro l t' hm'
    simp at hm'
    obtain ⟨rfl, rfl⟩ := hm'
    simp only [TokHolds, bindL_same]
    refine ⟨trivial, cur, (0, 0), ?_, .inr rfl, hc, by simpa using ht, hm, fun i x hx => ⟨(hr i x hx).1, fun j y hy => ?_⟩⟩
    · show (w1.heap.push (.cells cur e))[w.heap.size]? = _
      rw [← hs1]; simp
    · obtain ⟨h1, u, hu, hrep⟩ := (hr i x hx).2 j y hy
      exact ⟨h1, u, by simpa using hu, hrep.mono (fun _ h => h) (bindL_mono hN) (fun b hb' => hb b (hlow b hb'))⟩
  · intro g hg hs
    have := hfoot g hg
    have := hlow g hs
    omega
  · refine ⟨hw1.os, hw1.tape, hw1.output, by rw [hsz]; omega, fun b hb' _ => hb b hb', fun _ h => h, fun _ h => .inl h, bindL_mono hN, fun g hg => .inr (by rw [hfoot g hg]; exact Nat.le_refl _), fun l t' hm' => ?_⟩
    simp at hm'
    exact .inr (by rw [hm'.1]; exact hN)

theorem Holds.free {S : Nat → Prop} {R : Lab} {w : World} {ts : List (Nat × Tok)} (h : Holds S R w ts) : ∃ N, R N = none := by
  obtain ⟨N, hN⟩ := h.top
  exact ⟨N, hN N (Nat.le_refl _)⟩

theorem eff_newVar {o : Oper} {t : TypeId} {x : AV} (hl : x.lies) (h : ∀ S R a w, Holds S R w [] → OpsAt S R w st a o.op → ∃ v, RepV S R w x v ∧ (execOp a.eval o).run P w = .ok (.value (.pointer (some ⟨w.heap.size, 0, none⟩))) (w.alloc (.cells v.cells t))) :
    OpEff P o st [] (fun ts r => ∃ l, ts = [(l, .row t x.cells.length [x.cells])] ∧ r = .ptr l 0 0) := by
  refine ⟨?_⟩
  intro S R a w hh ho next Q hk
  obtain ⟨N, hN⟩ := hh.free
  obtain ⟨v, hv, hrun⟩ := h S R a w hh ho
  obtain ⟨hsz, hrep⟩ := rep_cells hv hl.1
  have hf := fresh_row (e := t) hN hh.top hh.low (Below.refl _ w) rfl (cur := v.cells) (k := x.cells.length) (t := 1) (xs := [x.cells]) (by simpa using hsz) (by simp) (by simp [maxLen]) (fun i y hy => by
    match i, hy with
    | 0, hy =>
      cases hy
      refine ⟨rfl, fun j z hz => ⟨hl.2 z (List.mem_of_getElem? hz), v.cells.getD j undef, ?_, hrep j z hz⟩⟩
      have hj : j < v.cells.size := by rw [hsz]; exact (List.getElem?_eq_some_iff.1 hz).1
      simp [hj])
  unfold Oper.wp
  rw [hrun]
  have hp : RepV S (bindL R N (some ⟨w.heap.size, 0, x.cells.length, 1⟩)) (w.alloc (.cells v.cells t)) (.ptr N 0 0) (.pointer (some ⟨w.heap.size, 0, none⟩)) := by
    have := RepV.ptr (S := S) (w := w.alloc (.cells v.cells t)) (l := N) (i := 0) (j := 0) (bindL_same (R := R) (q := some ⟨w.heap.size, 0, x.cells.length, 1⟩))
    simpa using this
  exact hk _ _ S _ _ _ ⟨N, rfl, rfl⟩ hf.1 hp hf.2

theorem eff_box {t : TypeId} {x : Operand} {y : AV} (hx : st.get x = some y) (hl : y.lies) : OpEff P ⟨dst, .box t x, ty, pos, after, g⟩ st [] (fun ts r => ∃ l, ts = [(l, .row t y.cells.length [y.cells])] ∧ r = .ptr l 0 0) :=
  eff_newVar hl fun S R a w hh ho => ⟨a.eval x, ho x (by simp [Op.operands]) y hx, by simp [execOp, Instr.box, newVar, newRow]⟩

/-- The cells of a plain value. -/
def vcells (v : Value) : List AV := v.cells.toList.map .val

theorem eff_alloc {t : TypeId} {z : Value} {k b : Nat} [he : ElF P t z k b] : OpEff P ⟨dst, .alloc t, ty, pos, after, g⟩ st [] (fun ts r => ∃ l, ts = [(l, .row t k [vcells z])] ∧ r = .ptr l 0 0) := by
  obtain ⟨i, hi, hz, hsz, hb, hzc, hall⟩ := he.h
  have hlen : (AV.agg (vcells z)).cells.length = k := by simp [AV.cells, vcells, hzc]
  have := eff_newVar (P := P) (st := st) (o := ⟨dst, .alloc t, ty, pos, after, g⟩) (t := t) (x := .agg (vcells z)) ⟨.inr ⟨_, rfl⟩, fun y hy => by
      simp only [AV.cells, vcells, List.mem_map] at hy
      obtain ⟨u, hu, rfl⟩ := hy
      exact List.all_eq_true.1 hall u hu⟩
    (fun S R a w hh ho => ⟨.agg z.cells, .agg (by simp [vcells]) (fun i y hy => by
      simp only [vcells, List.getElem?_map, Option.map_eq_some_iff] at hy
      obtain ⟨u, hu, rfl⟩ := hy
      have : z.cells.getD i undef = u := by
        simp only [Array.getElem?_toList] at hu
        simp [Array.getD_eq_getD_getElem?, hu]
      rw [this]; exact .val _), by simp [execOp, Instr.alloc, ElF.zero (P := P) (t := t), newVar, newRow, Value.cells]⟩)
  have hlen' : (vcells z).length = k := hlen
  simpa [AV.cells, hlen'] using this

/-! stores -/
/-- A row with a piece laid over it. -/
def seg (cur : Array Value) (o : Nat) (vs : List Value) : Array Value := (cur.toList.take o ++ vs ++ cur.toList.drop (o + vs.length)).toArray

theorem seg_size {cur : Array Value} {o : Nat} {vs : List Value} (h : o + vs.length ≤ cur.size) : (seg cur o vs).size = cur.size := by
  simp only [seg, List.size_toArray, List.length_append, List.length_take, List.length_drop, Array.length_toList]
  omega
theorem seg_get {cur : Array Value} {o : Nat} {vs : List Value} (h : o + vs.length ≤ cur.size) (m : Nat) : (seg cur o vs)[m]? = if m < o then cur[m]? else if m < o + vs.length then vs[m - o]? else cur[m]? := by
  simp only [seg, List.getElem?_toArray, List.append_assoc, List.getElem?_append, List.length_take, Array.length_toList]
  by_cases h1 : m < o
  · rw [if_pos (by omega), if_pos h1, List.getElem?_take, if_pos h1, Array.getElem?_toList]
  · rw [if_neg (by omega), if_neg h1]
    by_cases h2 : m < o + vs.length
    · rw [if_pos (by omega), if_pos h2]
      congr 1; omega
    · rw [if_neg (by omega), if_neg h2, List.getElem?_drop, Array.getElem?_toList]
      congr 1; omega
theorem seg_cons {cur : Array Value} {o : Nat} {v : Value} {vs : List Value} (h : o + (vs.length + 1) ≤ cur.size) : seg (cur.setIfInBounds o v) (o + 1) vs = seg cur o (v :: vs) := by
  apply Array.ext_getElem?
  intro m
  rw [seg_get (by simpa using (by omega)), seg_get (by simpa using h)]
  simp only [List.length_cons]
  by_cases h1 : m < o
  · rw [if_pos (by omega), if_pos h1, Array.getElem?_setIfInBounds_ne (by omega)]
  · rw [if_neg h1]
    by_cases h2 : m = o
    · subst h2
      rw [if_pos (by omega), if_pos (by omega), Array.getElem?_setIfInBounds_self_of_lt (by omega)]
      simp
    · rw [if_neg (by omega)]
      by_cases h3 : m < o + 1 + vs.length
      · rw [if_pos h3, if_pos (by omega)]
        have : m - o = (m - (o + 1)) + 1 := by omega
        rw [this]; simp
      · rw [if_neg h3, if_neg (by omega), Array.getElem?_setIfInBounds_ne (by omega)]

theorem run_storeCells_seg (P : Program) (g : Nat) (t : TypeId) (fr : Nat × Nat) : ∀ (vs : List Value) (o i : Nat) (cur : Array Value) (w : World), w.heap[g]? = some (.cells cur t fr) → (cur.size ≤ fr.1 ∨ fr = (0, 0)) → o + i + vs.length ≤ cur.size → (∀ v ∈ vs, v.oneCell' = true) →
    (storeCells ⟨g, o, none⟩ vs i).run P w = .ok () (w.setRow g (seg cur (o + i) vs))
  | [], o, i, cur, w, hg, _, _, _ => by
    have : seg cur (o + i) [] = cur := by simp [seg]
    rw [this, setRow_self w g cur t fr hg]
    simp [storeCells]
  | v :: vs, o, i, cur, w, hg, hfr, hl, h1 => by
    simp only [List.length_cons] at hl
    have hi : o + i < cur.size := by omega
    have hfro : w.frozen? ⟨g, o + i, none⟩ = false := by
      rcases hfr with h | h
      · simp [World.frozen?, hg]; omega
      · simp [World.frozen?, hg, h]
    have hst : (store ((⟨g, o, none⟩ : Addr).add i) v).run P w = .ok () (w.setRow g (cur.setIfInBounds (o + i) v)) := by
      rw [add_mk, run_store P w _ v _ (h1 v (by simp)), cell_of_row w g _ cur t fr hg, Array.getElem?_eq_getElem hi]
      simp [hfro, setCell_eq_setRow w g (o + i) cur t fr v hg]
    have ih := run_storeCells_seg P g t fr vs o (i + 1) (cur.setIfInBounds (o + i) v) (w.setRow g (cur.setIfInBounds (o + i) v)) (setRow_heap w g cur _ t _ hg) (by simpa using hfr) (by simp; omega) (fun x hx => h1 x (by simp [hx]))
    simp only [storeCells, Sem.run_bind, hst, Result.andThen_ok, ih, setRow_setRow]
    rw [← Nat.add_assoc, seg_cons (by omega)]

def putCells (cs : List AV) (j : Nat) (ys : List AV) : List AV := cs.take j ++ ys ++ cs.drop (j + ys.length)

theorem eff_store {t e : TypeId} {p x : Operand} {y : AV} {l i j k kt b : Nat} {z : Value} {xs : List (List AV)} {cs : List AV} [he : ElF P t z kt b] (hp : st.get p = some (.ptr l i j)) (hx : st.get x = some y) (hl : y.lies) (hcs : xs[i]? = some cs) (hk : y.cells.length = kt) (hj : j + kt ≤ cs.length) :
    OpEff P ⟨dst, .store t p x, ty, pos, after, g⟩ st [(l, .row e k xs)] (fun ts r => ts = [(l, .row e k (xs.set i (putCells cs j y.cells)))] ∧ r = .dead) := by
  refine ⟨?_⟩
  intro S R a w hh ho next Q hkk
  have hpv := ho p (by simp [Op.operands]) _ hp
  have hxv := ho x (by simp [Op.operands]) _ hx
  have htok := hh.tok l _ (List.mem_cons_self)
  obtain ⟨hsz, hrep⟩ := rep_cells hxv hl.1
  generalize hv : a.eval p = v at hpv
  cases hpv with
  | ptr h =>
    rename_i q
    simp only [TokHolds, h] at htok
    obtain ⟨rfl, cur, fr, hg, hfr, hcur, hb, hm, hrow⟩ := htok
    have hlen := (hrow i cs hcs).1
    have hi : i < xs.length := (List.getElem?_eq_some_iff.1 hcs).1
    have hfit : (q.b + i) * q.k + q.k ≤ cur.size := by
      rw [hcur]
      calc (q.b + i) * q.k + q.k = (q.b + i + 1) * q.k := by rw [Nat.add_mul, Nat.add_mul, Nat.add_mul]; omega
        _ ≤ q.t * q.k := Nat.mul_le_mul_right _ (by omega)
    have hvl : (a.eval x).cells.toList.length = kt := by rw [Array.length_toList, hsz, hk]
    have hfit' : (q.b + i) * q.k + j + (a.eval x).cells.toList.length ≤ cur.size := by omega
    have hst := run_storeCells_seg P q.g e fr (a.eval x).cells.toList ((q.b + i) * q.k + j) 0 cur w hg hfr (by simpa using hfit') (fun v hv' => by
      obtain ⟨m, hm', he'⟩ := List.mem_iff_getElem.1 hv'
      rw [Array.length_toList] at hm'
      have hmy : m < y.cells.length := by omega
      have hr := hrep m _ (List.getElem?_eq_getElem hmy)
      have : (a.eval x).cells.getD m undef = v := by simpa [hm'] using he'
      rw [this] at hr
      exact hr.one (hl.2 _ (List.getElem_mem hmy)))
    simp only [Nat.add_zero] at hst
    have hrun : (execOp a.eval ⟨dst, .store t p x, ty, pos, after, g⟩).run P w = .ok .skip (w.setRow q.g (seg cur ((q.b + i) * q.k + j) (a.eval x).cells.toList)) := by
      have hsz' : (a.eval x).cells.size = kt := by omega
      simp [execOp, Instr.storeAt, hv, Instr.sureAddr, storeVar, ElF.size (P := P) (t := t), hsz', hst]
    unfold Oper.wp
    rw [hrun]
    have hlow : ∀ b, S b → (w.setRow q.g (seg cur ((q.b + i) * q.k + j) (a.eval x).cells.toList)).heap[b]? = w.heap[b]? := fun b hb => by
      rw [setRow_other]
      rintro rfl
      exact hh.notS q.g ⟨l, _, List.mem_cons_self, by simp [blkOf, h]⟩ hb
    have hfoot : ∀ (xs' : List (List AV)) g, Foot R [(l, .row e q.k xs')] g → g = q.g := by
      rintro xs' g ⟨l', t', hm', hg'⟩
      simp at hm'
      obtain ⟨rfl, rfl⟩ := hm'
      simp [blkOf, h] at hg'
      exact hg'.symm
    refine hkk undef .dead S R _ _ ⟨rfl, rfl⟩ ⟨hh.top, by simp, ?_, ?_, fun b hb => by simpa using hh.low b hb⟩ (.dead _) ⟨rfl, rfl, rfl, by simp, fun b hb hf => ?_, fun _ h => h, fun _ h => .inl h, fun _ _ h => h, fun g hg' => .inl ?_, fun l' t' hm' => .inl ?_⟩
    · intro l' t' hm'
      simp at hm'
      obtain ⟨rfl, rfl⟩ := hm'
      simp only [TokHolds, h]
      refine ⟨trivial, _, fr, setRow_heap w q.g cur _ e _ hg, by rw [seg_size hfit']; exact hfr, by rw [seg_size hfit']; exact hcur, by simpa using hb, hm, ?_⟩
      · intro i' x' hx'
        have hput : (putCells cs j y.cells).length = q.k := by
          simp only [putCells, List.length_append, List.length_take, List.length_drop]
          omega
        have hcellpos := seg_get hfit'
        rw [hvl] at hcellpos
        by_cases hii : i' = i
        · subst hii
          rw [List.getElem?_set_self hi] at hx'
          cases hx'
          refine ⟨hput, fun m u hu => ?_⟩
          have hmk : m < q.k := by rw [← hput]; exact (List.getElem?_eq_some_iff.1 hu).1
          rw [hcellpos]
          simp only [putCells, List.append_assoc, List.getElem?_append, List.length_take] at hu
          by_cases h1 : m < j
          · rw [if_pos (by omega), List.getElem?_take, if_pos h1] at hu
            obtain ⟨h1', u', hu', hr'⟩ := (hrow _ cs hcs).2 m u hu
            exact ⟨h1', u', by rw [if_pos (by omega)]; exact hu', hr'.mono (fun _ h => h) (fun _ _ h => h) hlow⟩
          · rw [if_neg (by omega)] at hu
            have hmin : min j cs.length = j := by omega
            rw [hmin] at hu
            by_cases h2 : m < j + kt
            · rw [if_pos (by omega)] at hu
              refine ⟨hl.2 u (List.mem_of_getElem? hu), (a.eval x).cells.getD (m - j) undef, ?_, (hrep _ u hu).mono (fun _ h => h) (fun _ _ h => h) hlow⟩
              rw [if_neg (by omega), if_pos (by omega)]
              have hlt : m - j < (a.eval x).cells.size := by omega
              have : (q.b + i') * q.k + m - ((q.b + i') * q.k + j) = m - j := by omega
              rw [this]
              simp [hlt]
            · rw [if_neg (by omega), List.getElem?_drop] at hu
              have e1 : j + y.cells.length + (m - j - y.cells.length) = m := by omega
              rw [e1] at hu
              obtain ⟨h1', u', hu', hr'⟩ := (hrow _ cs hcs).2 m u hu
              exact ⟨h1', u', by rw [if_neg (by omega), if_neg (by omega)]; exact hu', hr'.mono (fun _ h => h) (fun _ _ h => h) hlow⟩
        · rw [List.getElem?_set_ne (fun e => hii e.symm)] at hx'
          refine ⟨(hrow i' x' hx').1, fun m u hu => ?_⟩
          obtain ⟨h1', u', hu', hr'⟩ := (hrow i' x' hx').2 m u hu
          refine ⟨h1', u', ?_, hr'.mono (fun _ h => h) (fun _ _ h => h) hlow⟩
          have hmk : m < q.k := by rw [← (hrow i' x' hx').1]; exact (List.getElem?_eq_some_iff.1 hu).1
          rw [hcellpos]
          rcases Nat.lt_or_gt_of_ne hii with h3 | h3
          · have : (q.b + i') * q.k + q.k ≤ (q.b + i) * q.k := by
              calc (q.b + i') * q.k + q.k = (q.b + i' + 1) * q.k := by rw [Nat.add_mul (q.b + i') 1]; omega
                _ ≤ (q.b + i) * q.k := Nat.mul_le_mul_right _ (by omega)
            rw [if_pos (by omega)]; exact hu'
          · have : (q.b + i) * q.k + q.k ≤ (q.b + i') * q.k := by
              calc (q.b + i) * q.k + q.k = (q.b + i + 1) * q.k := by rw [Nat.add_mul (q.b + i) 1]; omega
                _ ≤ (q.b + i') * q.k := Nat.mul_le_mul_right _ (by omega)
            rw [if_neg (by omega), if_neg (by omega)]; exact hu'
    · intro g' hg' hs
      have e1 := hfoot _ g' hg'
      subst e1
      exact hh.notS _ ⟨l, _, List.mem_cons_self, by simp [blkOf, h]⟩ hs
    · rw [setRow_other]
      rintro rfl
      exact hf ⟨l, _, List.mem_cons_self, by simp [blkOf, h]⟩
    · have e1 := hfoot _ g hg'
      subst e1
      exact ⟨l, _, List.mem_cons_self, by simp [blkOf, h]⟩
    · simp at hm'
      exact ⟨_, by rw [hm'.1]; exact List.mem_cons_self⟩
end

end Go.Proofs.YtphkfejckafamaaDoorA

/- A region that draws its order: its first operations, in whatever order their edges allow, come to what they come to in the text's; the others follow all of them, one behind the other. -/
set_option linter.unusedVariables false
namespace Go.Proofs.YtphkfejckafamaaDoorA
open Go.RowKit

def edgesOf (o : Oper) : List Nat := (o.after.toList.filter (Region.binds .any)).map (·.on)

/-- The slots that an operation looks at. -/
def looks (l : List Oper) (o : Oper) : List Nat :=
  (o.op.operands.toList.filterMap fun | .tmp t => some t | _ => none) ++ (match o.guard with
    | some (j, _) => ((l[j]?).bind (·.dst)).toList
    | none => [])

/-- Does j come ahead of i, by the edges? -/
def ancB (l : List Oper) : Nat → Nat → Nat → Bool
  | 0, _, _ => false
  | f + 1, i, j => match l[i]? with
    | some o => (edgesOf o).any fun e => Nat.beq e j || ancB l f e j
    | none => false

def allB (n : Nat) (p : Nat → Bool) : Bool := (List.range n).all p

/-- The first m operations are free, the others follow all. -/
def drawOk (l : List Oper) (m : Nat) : Bool :=
  allB l.length (fun i => match l[i]? with
    | some o => (edgesOf o).all (fun e => Nat.blt e i) &&
      (if Nat.blt i m then
        allB m (fun j => match l[j]? with
          | some p => (match p.dst with
            | some d => (!(looks l o).contains d || ancB l l.length i j) && (Nat.beq i j || !(o.dst == some d))
            | none => true)
          | none => false)
      else allB i (fun j => ancB l l.length i j))
    | none => false) && Nat.ble m l.length

theorem allB_iff {n : Nat} {p : Nat → Bool} (h : allB n p = true) {i : Nat} (hi : i < n) : p i = true := by
  unfold allB at h
  exact List.all_eq_true.1 h i (List.mem_range.2 hi)

class Mix (P : Program) : Prop where
  h : P.follows .mixedOrders = true

/-- What an operation of the free part gives, its guard minded; fin: the slots behind all of them. -/
inductive GEv (P : Program) (l : List Oper) (fin : List (Nat × AV)) (ts : List (Nat × Tok)) : Oper → AV → Prop
  | plain {o : Oper} {x : AV} (hg : o.guard = none) (h : OpEv P o ⟨fin, ts⟩ x) : GEv P l fin ts o x
  | take {o p : Oper} {x : AV} {j d : Nat} {b : Bool} (hg : o.guard = some (j, b)) (hp : l[j]? = some p) (hd : p.dst = some d) (hx : look fin d = some (.val (.bool b))) (h : OpEv P o ⟨fin, ts⟩ x) : GEv P l fin ts o x
  | skip {o p : Oper} {j d : Nat} {b : Bool} {u : Value} (hg : o.guard = some (j, b)) (hp : l[j]? = some p) (hd : p.dst = some d) (hx : look fin d = some (.val u)) (hn : skipB u b = true) : GEv P l fin ts o (.val undef)

/-- The slots behind the first operations. -/
def finSl (sl : List (Nat × AV)) : List Oper → List AV → List (Nat × AV)
  | o :: l, x :: xs => finSl (putSl sl o.dst x) l xs
  | _, _ => sl

theorem finSl_look (l : List Oper) : ∀ (xs : List AV) (sl : List (Nat × AV)) (d : Nat) (y : AV), look (finSl sl l xs) d = some y →
    (∃ (i : Nat) (o : Oper), l[i]? = some o ∧ xs[i]? = some y ∧ o.dst = some d) ∨ (look sl d = some y ∧ ∀ (i : Nat) (o : Oper), i < xs.length → l[i]? = some o → o.dst ≠ some d) := by
  induction l with
  | nil => intro xs sl d y h; exact .inr ⟨by simpa [finSl] using h, by simp⟩
  | cons o l ih =>
    intro xs sl d y h
    cases xs with
    | nil => exact .inr ⟨by simpa [finSl] using h, by simp⟩
    | cons x xs =>
      simp only [finSl] at h
      rcases ih xs _ d y h with ⟨i, p, h1, h2, h3⟩ | ⟨h1, h2⟩
      · exact .inl ⟨i + 1, p, by simpa using h1, by simpa using h2, h3⟩
      · by_cases hd : o.dst = some d
        · rw [hd] at h1
          simp only [putSl, look, Nat.beq_refl, cond_true] at h1
          exact .inl ⟨0, o, rfl, by simpa using h1, hd⟩
        · refine .inr ⟨?_, fun i p hi hp => ?_⟩
          · cases hod : o.dst with
            | none => rw [hod] at h1; exact h1
            | some e =>
              rw [hod] at h1
              simp only [putSl, look] at h1
              rw [beq_of_ne (fun he => hd (by rw [hod, he]))] at h1
              exact h1
          · cases i with
            | zero => cases hp; exact hd
            | succ i => exact h2 i p (by simpa using hi) (by simpa using hp)

section
variable {P : Program} {n : Nat} {ro : Option Nat} {G : CtxR P n ro}

/-- Behind some of the free operations. -/
structure Part {ro : Option Nat} (G : CtxR P n ro) (l : List Oper) (xs : List AV) (st : St) (L : Nat → Prop) (S : Nat → Prop) (R : Lab) (a : Act) (w : World) : Prop where
  holds : Holds S R w st.toks
  done : ∀ (i : Nat) (o : Oper) (x : AV) (d : Nat), L i → l[i]? = some o → xs[i]? = some x → o.dst = some d → RepV S R w x (a.tmps.getD d undef)
  rest : ∀ (d : Nat) (x : AV), look st.sl d = some x → (∀ (i : Nat) (o : Oper), i < xs.length → L i → l[i]? = some o → o.dst ≠ some d) → RepV S R w x (a.tmps.getD d undef)
  out : Out G.w0 G.S0 G.R0 G.F0 G.K0 S R w st.toks
  defers : a.defers = G.ds
  size : a.tmps.size = n

theorem Part.all {l : List Oper} {xs : List AV} {st : St} {L S : Nat → Prop} {R : Lab} {a : Act} {w : World} (h : Part G l xs st L S R a w) (hL : ∀ i, i < xs.length → L i) : Rel G ⟨finSl st.sl l xs, st.toks⟩ a w := by
  refine ⟨S, R, h.holds, fun d x hx => ?_, h.out, h.defers, h.size⟩
  rcases finSl_look l xs st.sl d x hx with ⟨i, o, h1, h2, h3⟩ | ⟨h1, h2⟩
  · exact h.done i o x d (hL i (List.getElem?_eq_some_iff.1 h2).1) h1 h2 h3
  · exact h.rest d x h1 (fun i o hi _ ho => h2 i o hi ho)

def Lst (listed : Array Bool) (i : Nat) : Prop := listed.getD i false = true

def unl (n : Nat) (listed : Array Bool) : List Nat := (List.range n).filter fun i => !listed.getD i false

theorem unl_lt {n i : Nat} {listed : Array Bool} (hs : listed.size = n) (hi : i < n) (hl : ¬ Lst listed i) : (unl n (listed.setIfInBounds i true)).length < (unl n listed).length := by
  have hsub : (unl n (listed.setIfInBounds i true)).Sublist (unl n listed) := by
    have e : unl n (listed.setIfInBounds i true) = (unl n listed).filter (fun j => !(listed.setIfInBounds i true).getD j false) := by
      unfold unl
      rw [List.filter_filter]
      refine List.filter_congr (fun j _ => ?_)
      by_cases hij : i = j
      · subst hij
        have : i < listed.size := by omega
        simp [this]
      · simp [Array.getD_eq_getD_getElem?, Array.getElem?_setIfInBounds_ne hij]
    rw [e]
    exact List.filter_sublist
  rcases Nat.lt_or_ge (unl n (listed.setIfInBounds i true)).length (unl n listed).length with h | h
  · exact h
  · have he := hsub.eq_of_length_le h
    have hm : i ∈ unl n listed := by
      simp only [unl, List.mem_filter, List.mem_range]
      refine ⟨hi, ?_⟩
      have : listed.getD i false = false := by
        cases hb : listed.getD i false with
        | true => exact absurd hb hl
        | false => rfl
      rw [this]; rfl
    rw [← he] at hm
    simp only [unl, List.mem_filter] at hm
    have hlt : i < listed.size := by omega
    simp [hlt] at hm

theorem lst_set {listed : Array Bool} {i j : Nat} (hi : i < listed.size) : Lst (listed.setIfInBounds i true) j ↔ j = i ∨ Lst listed j := by
  unfold Lst
  by_cases hij : i = j
  · subst hij
    simp [hi]
  · simp only [Array.getD_eq_getD_getElem?, Array.getElem?_setIfInBounds_ne hij]
    constructor
    · exact fun h => .inr h
    · rintro (h | h)
      · exact absurd h.symm hij
      · exact h

theorem mem_ready {l : List Oper} {listed : Array Bool} {i : Nat} (hs : listed.size = l.length) (h : i ∈ Region.ready .any l.toArray listed) : i < l.length ∧ ¬ Lst listed i ∧ ∃ o, l[i]? = some o ∧ ∀ e, e ∈ edgesOf o → Lst listed e := by
  simp only [Region.ready, List.size_toArray, List.mem_filter, List.mem_range, List.getElem?_toArray, Bool.and_eq_true, Bool.not_eq_true'] at h
  obtain ⟨hi, h1, h2⟩ := h
  have hlt : i < listed.size := by omega
  refine ⟨hi, ?_, l[i], List.getElem?_eq_getElem hi, fun e he => ?_⟩
  · simp [Lst, hlt] at h1 ⊢
    exact h1
  · rw [List.getElem?_eq_getElem hi] at h2
    simp only [Option.map_some, Option.getD_some, ← Array.all_toList, List.all_eq_true] at h2
    simp only [edgesOf, List.mem_map, List.mem_filter] at he
    obtain ⟨e', ⟨hm, hb⟩, rfl⟩ := he
    have := h2 e' hm
    simpa [hb, Lst] using this

theorem ready_mem {l : List Oper} {listed : Array Bool} {i : Nat} {o : Oper} (hs : listed.size = l.length) (ho : l[i]? = some o) (hl : ¬ Lst listed i) (he : ∀ e, e ∈ edgesOf o → Lst listed e) : i ∈ Region.ready .any l.toArray listed := by
  have hi := (List.getElem?_eq_some_iff.1 ho).1
  simp only [Region.ready, List.size_toArray, List.mem_filter, List.mem_range, List.getElem?_toArray, Bool.and_eq_true, Bool.not_eq_true']
  have hlt : i < listed.size := by omega
  refine ⟨hi, ?_, ?_⟩
  · simp [Lst, hlt] at hl ⊢
    exact hl
  · rw [ho]
    simp only [Option.map_some, Option.getD_some, ← Array.all_toList, List.all_eq_true]
    intro e hm
    by_cases hb : Region.binds .any e = true
    · have := he e.on (by simp only [edgesOf, List.mem_map, List.mem_filter]; exact ⟨e, ⟨hm, hb⟩, rfl⟩)
      simpa [hb, Lst] using this
    · simp [hb]

theorem anc_lst {l : List Oper} {listed : Array Bool} (hd : ∀ (i : Nat) (o : Oper), Lst listed i → l[i]? = some o → ∀ e, e ∈ edgesOf o → Lst listed e) : ∀ (f i j : Nat) (o : Oper), l[i]? = some o → (∀ e, e ∈ edgesOf o → Lst listed e) → ancB l f i j = true → Lst listed j
  | 0, _, _, _, _, _, h => by cases h
  | f + 1, i, j, o, ho, he, h => by
    simp only [ancB, ho, List.any_eq_true, Bool.or_eq_true] at h
    obtain ⟨e, hm, h1 | h1⟩ := h
    · rw [← Nat.eq_of_beq_eq_true h1]; exact he e hm
    · cases hp : l[e]? with
      | none =>
        cases f with
        | zero => cases h1
        | succ f => simp [ancB, hp] at h1
      | some p => exact anc_lst hd f e j p hp (hd e p (he e hm) hp) h1

/-- The others, one behind the other. -/
theorem tail_any {l : List Oper} {m : Nat} {Q : Exit → Act → World → Prop} (hok : drawOk l m = true) : ∀ (k fuel : Nat) (listed : Array Bool) (a : Act) (w : World), m ≤ l.length - k → k ≤ l.length → listed.size = l.length → (∀ i, Lst listed i ↔ i < l.length - k) → k ≤ fuel →
    wpOpsIn (fen ro) 0 P l.toArray Q (List.range' (l.length - k) k) a w → wpAnyIn (fen ro) 0 P .any l.toArray Q fuel listed a w := by
  simp only [drawOk, Bool.and_eq_true] at hok
  intro k
  induction k with
  | zero =>
    intro fuel listed a w hm hk hs hL hf h
    have hnil : Region.ready .any l.toArray listed = [] := by
      rw [List.eq_nil_iff_forall_not_mem]
      intro i hi
      obtain ⟨h1, h2, _⟩ := mem_ready hs hi
      exact h2 ((hL i).2 (by omega))
    simp only [List.range'_zero, wpOpsIn] at h
    cases fuel with
    | zero => exact ⟨hnil, h⟩
    | succ f => exact ⟨fun _ => h, fun i hi => by rw [hnil] at hi; cases hi⟩
  | succ k ih =>
    intro fuel listed a w hm hk hs hL hf h
    obtain ⟨f, rfl⟩ : ∃ f, fuel = f + 1 := ⟨fuel - 1, by omega⟩
    have hlt : l.length - (k + 1) < l.length := by omega
    have hrow := allB_iff hok.1 hlt
    simp only [List.getElem?_eq_getElem hlt, Bool.and_eq_true] at hrow
    rw [if_neg (by simp; omega)] at hrow
    have hready : l.length - (k + 1) ∈ Region.ready .any l.toArray listed := by
      refine ready_mem hs (List.getElem?_eq_getElem hlt) (fun hc => by have := (hL _).1 hc; omega) (fun e he => (hL e).2 ?_)
      have := List.all_eq_true.1 hrow.1 e he
      simpa [Nat.blt_eq] using this
    have hone : ∀ i, i ∈ Region.ready .any l.toArray listed → i = l.length - (k + 1) := by
      intro i hi
      obtain ⟨h1, h2, o, ho, he⟩ := mem_ready hs hi
      rcases Nat.lt_trichotomy i (l.length - (k + 1)) with h3 | h3 | h3
      · exact absurd ((hL i).2 h3) h2
      · exact h3
      · exfalso
        have hrow' := allB_iff hok.1 h1
        simp only [ho, Bool.and_eq_true] at hrow'
        rw [if_neg (by simp; omega)] at hrow'
        have hanc := allB_iff hrow'.2 h3
        have hL' : Lst listed (l.length - (k + 1)) := anc_lst (fun j p hj hp e hm' => by
          have hj' := (hL j).1 hj
          have hr := allB_iff hok.1 (show j < l.length by omega)
          simp only [hp, Bool.and_eq_true] at hr
          have := List.all_eq_true.1 hr.1 e hm'
          simp [Nat.blt_eq] at this
          exact (hL e).2 (by omega)) _ _ _ o ho he hanc
        have := (hL _).1 hL'
        omega
    refine ⟨fun hn => (by rw [hn] at hready; cases hready), fun i hi => ?_⟩
    rw [hone i hi]
    rw [List.range'_succ, wpOpsIn_cons] at h
    refine wpOpIn_mono (fun a w h' => ih f _ a w (by omega) (by omega) (by simpa using hs) (fun j => ?_) (by omega) ?_) h
    · rw [lst_set (by omega), hL]
      omega
    · have : l.length - k = l.length - (k + 1) + 1 := by omega
      rw [this]; exact h'

theorem draw_aux {l : List Oper} {xs : List AV} {st : St} {Q : Exit → Act → World → Prop} (hok : drawOk l xs.length = true) (hdst : ∀ (i : Nat) (o : Oper), i < xs.length → l[i]? = some o → dstOk o.dst n = true)
    (hev : ∀ (i : Nat) (o : Oper) (x : AV), l[i]? = some o → xs[i]? = some x → GEv P l (finSl st.sl l xs) st.toks o x)
    (htail : ∀ a w, Rel G ⟨finSl st.sl l xs, st.toks⟩ a w → wpOpsIn (fen ro) 0 P l.toArray Q (List.range' xs.length (l.length - xs.length)) a w) :
    ∀ (fuel : Nat) (listed : Array Bool) (a : Act) (w : World), listed.size = l.length → (∀ i, Lst listed i → i < xs.length) → (∀ (i : Nat) (o : Oper), Lst listed i → l[i]? = some o → ∀ e, e ∈ edgesOf o → Lst listed e) →
      (unl l.length listed).length ≤ fuel → (∃ S R, Part G l xs st (Lst listed) S R a w) → wpAnyIn (fen ro) 0 P .any l.toArray Q fuel listed a w := by
  have hok' := hok
  simp only [drawOk, Bool.and_eq_true] at hok'
  have hml : xs.length ≤ l.length := by simpa using hok'.2
  intro fuel
  induction fuel with
  | zero =>
    intro listed a w hs hL hd hf ⟨S, R, hp⟩
    have hall : ∀ i, i < l.length → Lst listed i := fun i hi => by
      by_cases hl : Lst listed i
      · exact hl
      · have : i ∈ unl l.length listed := by
          simp only [unl, List.mem_filter, List.mem_range]
          refine ⟨hi, ?_⟩
          cases hb : listed.getD i false with
          | true => exact absurd hb hl
          | false => rfl
        have := List.length_pos_of_mem this
        omega
    have he : l.length = xs.length := by
      rcases Nat.lt_or_ge xs.length l.length with h | h
      · have := hL _ (hall _ h); omega
      · omega
    have h := htail a w (hp.all (fun i hi => hall i (by omega)))
    rw [he] at h
    simp only [Nat.sub_self, List.range'_zero, wpOpsIn] at h
    refine ⟨?_, h⟩
    rw [List.eq_nil_iff_forall_not_mem]
    intro i hi
    obtain ⟨h1, h2, _⟩ := mem_ready hs hi
    exact h2 (hall i h1)
  | succ fuel ih =>
    intro listed a w hs hL hd hf ⟨S, R, hp⟩
    by_cases hall : ∀ i, i < xs.length → Lst listed i
    · refine tail_any hok (l.length - xs.length) (fuel + 1) listed a w (by omega) (by omega) hs (fun i => ⟨fun h => by have := hL i h; omega, fun h => hall i (by omega)⟩) ?_ ?_
      · have : (List.range' xs.length (l.length - xs.length)).length ≤ (unl l.length listed).length := by
          have hsub : (List.range' xs.length (l.length - xs.length)).Sublist (unl l.length listed) := by
            have h1 : (List.range' xs.length (l.length - xs.length)).Sublist (List.range l.length) := by
              rw [List.range_eq_range']
              have : List.range' 0 l.length = List.range' 0 xs.length ++ List.range' (0 + xs.length) (l.length - xs.length) := by
                rw [List.range'_append_1]; congr 1; omega
              rw [this]
              simp
            have h2 := h1.filter (fun i => !listed.getD i false)
            have h3 : (List.range' xs.length (l.length - xs.length)).filter (fun i => !listed.getD i false) = List.range' xs.length (l.length - xs.length) := by
              rw [List.filter_eq_self]
              intro i hi
              simp only [List.mem_range'_1] at hi
              cases hb : listed.getD i false with
              | true => have := hL i hb; omega
              | false => rfl
            rw [h3] at h2
            exact h2
          exact hsub.length_le
        simp only [List.length_range'] at this
        omega
      · have e1 : l.length - (l.length - xs.length) = xs.length := by omega
        rw [e1]
        exact htail a w (hp.all hall)
    · -- some free one is still to come: the least of them is ready
      have hex : ∃ i, i < xs.length ∧ ¬ Lst listed i := Classical.byContradiction fun hc => hall fun i hi => Classical.byContradiction fun hl => hc ⟨i, hi, hl⟩
      obtain ⟨i0, ⟨hi0, hl0⟩, hmin⟩ := exists_least hex
      have hlt0 : i0 < l.length := by omega
      have hrow0 := allB_iff hok'.1 hlt0
      simp only [List.getElem?_eq_getElem hlt0, Bool.and_eq_true] at hrow0
      have hr0 : i0 ∈ Region.ready .any l.toArray listed := ready_mem hs (List.getElem?_eq_getElem hlt0) hl0 (fun e he => by
        have := List.all_eq_true.1 hrow0.1 e he
        simp [Nat.blt_eq] at this
        exact Classical.byContradiction fun hc => by have := hmin e ⟨by omega, hc⟩; omega)
      refine ⟨fun hn => (by rw [hn] at hr0; cases hr0), fun i hi => ?_⟩
      obtain ⟨h1, h2, o, ho, he⟩ := mem_ready hs hi
      have hrow := allB_iff hok'.1 h1
      simp only [ho, Bool.and_eq_true] at hrow
      have him : i < xs.length := by
        rcases Nat.lt_or_ge i xs.length with h | h
        · exact h
        · exfalso
          rw [if_neg (by simp; omega)] at hrow
          exact hl0 (anc_lst hd _ _ _ o ho he (allB_iff hrow.2 (show i0 < i by omega)))
      rw [if_pos (by simp [Nat.blt_eq]; omega)] at hrow
      obtain ⟨x, hx⟩ : ∃ x, xs[i]? = some x := ⟨_, List.getElem?_eq_getElem him⟩
      -- the slots that it looks at
      have hlook : ∀ t, t ∈ looks l o → ∀ y, look (finSl st.sl l xs) t = some y → RepV S R w y (a.tmps.getD t undef) := by
        intro t ht y hy
        rcases finSl_look l xs st.sl t y hy with ⟨j, p, h3, h4, h5⟩ | ⟨h3, h4⟩
        · have hj := allB_iff hrow.2 ((List.getElem?_eq_some_iff.1 h4).1)
          simp only [h3, h5, Bool.and_eq_true, Bool.or_eq_true, Bool.not_eq_true'] at hj
          have hanc : ancB l l.length i j = true := by
            rcases hj.1 with h6 | h6
            · rw [List.contains_iff_mem.2 ht] at h6; cases h6
            · exact h6
          exact hp.done j p y t (anc_lst hd _ _ _ o ho he hanc) h3 h4 h5
        · exact hp.rest t y h3 (fun j p hj _ hpj => h4 j p hj hpj)
      have hops : OpsAt S R w ⟨finSl st.sl l xs, st.toks⟩ a o.op := by
        intro z hz y hy
        cases z with
        | tmp t =>
          refine hlook t ?_ y hy
          simp only [looks, List.mem_append, List.mem_filterMap]
          exact .inl ⟨.tmp t, by simpa using hz, rfl⟩
        | const v => cases hy; exact .val _
        | global g => cases hy; exact .val _
        | func f => cases hy; exact RepV.fn (vs := #[]) rfl (fun i x hx => by simp at hx)
      -- it goes on
      have hnext : ∀ (S' : Nat → Prop) (R' : Lab) (w' : World) (v : Value), Grow S R w S' R' w' → RepV S' R' w' x v → wpAnyIn (fen ro) 0 P .any l.toArray Q fuel (listed.setIfInBounds i true) (a.put o.dst v) w' := by
        intro S' R' w' v hg hv
        refine ih _ _ _ (by simpa using hs) (fun j hj => ?_) (fun j p hj hpj e hem => ?_) ?_ ⟨S', R', ?_⟩
        · rcases (lst_set (by omega)).1 hj with rfl | h
          · exact him
          · exact hL j h
        · refine (lst_set (by omega)).2 (.inr ?_)
          rcases (lst_set (by omega)).1 hj with rfl | h
          · rw [ho] at hpj; cases hpj; exact he e hem
          · exact hd j p h hpj e hem
        · have := unl_lt (n := l.length) hs h1 h2; omega
        · have hw : ∀ b, b < w.heap.size → w'.heap[b]? = w.heap[b]? := hg.below.block
          have hmono : ∀ {y : AV} {u : Value}, RepV S R w y u → RepV S' R' w' y u := fun h => h.mono hg.st hg.lab (fun b hb => hw b (hp.holds.low b hb))
          have hdlt : ∀ d, o.dst = some d → d < a.tmps.size := fun d e => by rw [hp.size]; exact dstOk_lt (hdst i o him ho) d e
          have hother : ∀ d, o.dst ≠ some d → (a.put o.dst v).tmps.getD d undef = a.tmps.getD d undef := by
            intro d hne
            cases hod : o.dst with
            | none => rfl
            | some e =>
              have : e ≠ d := fun h => hne (by rw [hod, h])
              simp [Act.put, Array.getElem?_setIfInBounds_ne this]
          have hsame : ∀ d, o.dst = some d → (a.put o.dst v).tmps.getD d undef = v := by
            intro d hd'
            rw [hd']
            have := hdlt d hd'
            simp [Act.put, this]
          refine ⟨hp.holds.mono hg.st hg.st' hg.lab hg.top hg.below.size hw, fun j p y d hj hpj hy hdj => ?_, fun d y hy hno => ?_, ?_, (put_defers ..).trans hp.defers, (put_size ..).trans hp.size⟩
          · rcases (lst_set (by omega)).1 hj with rfl | h
            · rw [ho] at hpj; cases hpj
              rw [hx] at hy; cases hy
              rw [hsame d hdj]; exact hv
            · have hne : o.dst ≠ some d := by
                intro hod
                have hj' := allB_iff hrow.2 (hL j h)
                simp only [hpj, hdj, Bool.and_eq_true, Bool.or_eq_true] at hj'
                rcases hj'.2 with h6 | h6
                · have := Nat.eq_of_beq_eq_true h6
                  subst this
                  exact h2 h
                · simp [hod] at h6
              rw [hother d hne]
              exact hmono (hp.done j p y d h hpj hy hdj)
          · have hne : o.dst ≠ some d := hno i o him ((lst_set (by omega)).2 (.inl rfl)) ho
            rw [hother d hne]
            exact hmono (hp.rest d y hy (fun j p hj hLj hpj => hno j p hj ((lst_set (by omega)).2 (.inr hLj)) hpj))
          · have o' := hp.out
            refine ⟨hg.below.os.trans o'.os, hg.below.tape.trans o'.tape, hg.below.output.trans o'.output, Nat.le_trans o'.size hg.below.size, fun b hb hf => (hw b (Nat.lt_of_lt_of_le hb o'.size)).trans (o'.block b hb hf),
              fun b hb => hg.st b (o'.S0 b hb), fun b hb => ?_, fun l q hq => hg.lab l q (o'.R0 l q hq), ?_, o'.keys⟩
            · rcases hg.st' b hb with h1 | h1
              · exact o'.S1 b h1
              · exact .inr (.inr (Nat.le_trans o'.size h1.1))
            · rintro g ⟨l', t, ht, hb⟩
              rw [blkOf_mono hg.lab (hp.holds.tok l' t ht).bound] at hb
              exact o'.foot g ⟨l', t, ht, hb⟩
      have hgrefl : Grow S R w S R w := .refl w hp.holds.top
      have hguard : ∀ (j d : Nat) (p : Oper) (c b : Bool), o.guard = some (j, b) → l[j]? = some p → p.dst = some d → look (finSl st.sl l xs) d = some (.val (.bool c)) → yielded l.toArray a.tmps j = some c := by
        intro j d p c b hg hpj hdj hxj
        have hv := slot_lt (hlook d (by simp only [looks, hg, hpj, List.mem_append]; exact .inr (by simp [hdj])) _ hxj)
        simp [yielded, hpj, hdj, hv]
      unfold wpOpIn
      simp only [List.getElem?_toArray, ho]
      cases hev i o x ho hx with
      | plain hg h =>
        rw [if_pos (by simp [Region.wanted, hg])]
        exact oper_in (h.h S R a w hp.holds hops _ _ (fun v S' R' w' hgr hv => ⟨hnext S' R' w' v hgr hv, put_defers ..⟩))
      | take hg hpj hdj hxj h =>
        rw [if_pos (by simp [Region.wanted, hg, hguard _ _ _ _ _ hg hpj hdj hxj])]
        exact oper_in (h.h S R a w hp.holds hops _ _ (fun v S' R' w' hgr hv => ⟨hnext S' R' w' v hgr hv, put_defers ..⟩))
      | skip hg hpj hdj hxj hn =>
        have hv := rep_val (hlook _ (by simp only [looks, hg, hpj, List.mem_append]; exact .inr (by simp [hdj])) _ hxj)
        rw [if_neg (by simpa [Region.wanted, hg] using yielded_ne hpj hdj hv hn)]
        exact ⟨fun _ _ => trivial, hnext S R w _ hgrefl (.val undef)⟩

/-- The facts of the free operations, one by one. -/
inductive GEvs (P : Program) (l : List Oper) (n : Nat) (fin : List (Nat × AV)) (ts : List (Nat × Tok)) : List Oper → List AV → Prop
  | nil {r : List Oper} : GEvs P l n fin ts r []
  | cons {o : Oper} {x : AV} {r : List Oper} {xs : List AV} (h : GEv P l fin ts o x) (hd : dstOk o.dst n = true) (hr : GEvs P l n fin ts r xs) : GEvs P l n fin ts (o :: r) (x :: xs)

theorem GEvs.get {l : List Oper} {fin : List (Nat × AV)} {ts : List (Nat × Tok)} {r : List Oper} {xs : List AV} (h : GEvs P l n fin ts r xs) : ∀ (i : Nat) (o : Oper) (x : AV), r[i]? = some o → xs[i]? = some x → GEv P l fin ts o x ∧ dstOk o.dst n = true := by
  induction h with
  | nil => intro i o x _ hx; simp at hx
  | cons h hd _ ih =>
    intro i o x ho hx
    cases i with
    | zero => cases ho; cases hx; exact ⟨h, hd⟩
    | succ i => exact ih i o x (by simpa using ho) (by simpa using hx)

theorem aw_draw {id : Nat} {l : List Oper} {st : St} {K : Kont} [hm : Mix P] (xs : List AV) (hok : drawOk l xs.length = true) (hev : GEvs P l n (finSl st.sl l xs) st.toks l xs) (htail : AWo G l.toArray (l.drop xs.length) ⟨finSl st.sl l xs, st.toks⟩ K) : AW G (.region id l.toArray true) st K := by
  have hml : xs.length ≤ l.length := by
    simp only [drawOk, Bool.and_eq_true] at hok
    simpa using hok.2
  refine ⟨?_⟩
  intro a w ⟨S, R, hr⟩
  refine wpIn_region_any hm.h ?_
  refine draw_aux (G := G) (st := st) hok (fun i o hi ho => (hev.get i o _ ho (List.getElem?_eq_getElem hi)).2) (fun i o x ho hx => (hev.get i o x ho hx).1) (fun a w hrel => ?_) l.length _ a _ (by simp) ?_ ?_ ?_ ⟨S, R, ?_⟩
  · have h := htail.h a w hrel
    rw [← wpOpsIn_eq_wpListIn (ops := l.toArray) (l.drop xs.length) xs.length (fun j => by simp)] at h
    simpa using h
  · intro i hi
    simp [Lst, Array.getD_eq_getD_getElem?, Array.getElem?_replicate] at hi
    split at hi <;> simp at hi
  · intro i o hi
    simp [Lst, Array.getD_eq_getD_getElem?, Array.getElem?_replicate] at hi
    split at hi <;> simp at hi
  · exact Nat.le_trans (List.length_filter_le _ _) (by simp)
  · have hg : Grow S R w S R { w with drawn := w.drawn + 1 } := ⟨⟨rfl, rfl, rfl, Nat.le_refl _, fun _ _ => rfl⟩, fun _ h => h, fun _ h => .inl h, fun _ _ h => h, hr.holds.top⟩
    have hr' := hr.grow hg
    refine ⟨hr'.holds, fun i o x d hi => ?_, fun d x hx _ => hr'.slots d x hx, hr'.out, hr'.defers, hr'.size⟩
    simp [Lst, Array.getD_eq_getD_getElem?, Array.getElem?_replicate] at hi
    split at hi <;> simp at hi
end

end Go.Proofs.YtphkfejckafamaaDoorA

/- Slices, literals, appends. -/
set_option linter.unusedVariables false
namespace Go.Proofs.YtphkfejckafamaaDoorA
open Go.RowKit

/-- A slice expression's bounds. -/
inductive LoB (st : St) : Option Operand → Nat → Prop
  | none : LoB st none 0
  | some {x : Operand} {k : IntKind} {l : Nat} (h : st.get x = some (.val (.int k (l : Nat)))) : LoB st (some x) l
inductive HiB (st : St) (len : Nat) : Option Operand → Nat → Prop
  | none : HiB st len none len
  | some {x : Operand} {k : IntKind} {l : Nat} (h : st.get x = some (.val (.int k (l : Nat)))) : HiB st len (some x) l

theorem run_sliceBound {P : Program} {k : IntKind} {l y : Nat} {c : BoundsCode} (h : l ≤ y) (w : World) : (Instr.sliceBound (.int k (l : Nat)) y c).run P w = .ok l w := by
  have h0 : (0 : Int) ≤ (l : Int) ∧ (l : Int) ≤ (y : Int) := by omega
  simp only [Instr.sliceBound, asIntOf, Sem.run_bind, Sem.run_pure, Result.andThen_ok]
  rw [if_pos h0]
  simp

section
variable {P : Program} {st : St} {dst : Option Tmp} {ty : TypeId} {pos : String} {after : Array Edge} {g : Option (Nat × Bool)}

theorem run_bounds {S : Nat → Prop} {R : Lab} {w : World} {a : Act} {b : Bool} {len cap l h : Nat} {lo hi : Option Operand} (hl : LoB st lo l) (hh : HiB st len hi h) (h1 : l ≤ h) (h2 : h ≤ cap) (ho : ∀ x, (lo = some x ∨ hi = some x) → ∀ y, st.get x = some y → RepV S R w y (a.eval x)) :
    (Instr.sliceBounds b len cap (lo.map a.eval) (hi.map a.eval) none).run P w = .ok (l, h, cap) w := by
  cases hl with
  | none =>
    cases hh with
    | none => simp [Instr.sliceBounds]
    | some hx =>
      rename_i x k
      have := rep_val (ho x (.inr rfl) _ hx)
      simp [Instr.sliceBounds, this, run_sliceBound h2]
  | some hx =>
    rename_i x k
    have e1 := rep_val (ho x (.inl rfl) _ hx)
    cases hh with
    | none => simp [Instr.sliceBounds, e1, run_sliceBound h1]
    | some hy =>
      rename_i z k'
      have e2 := rep_val (ho z (.inr rfl) _ hy)
      simp [Instr.sliceBounds, e1, e2, run_sliceBound h1, run_sliceBound h2]

theorem slice_ops {t : TypeId} {x : Operand} {lo hi : Option Operand} {S : Nat → Prop} {R : Lab} {w : World} {a : Act} (ho : OpsAt S R w st a (.slice t x lo hi none)) : (∀ y, st.get x = some y → RepV S R w y (a.eval x)) ∧ ∀ z, (lo = some z ∨ hi = some z) → ∀ y, st.get z = some y → RepV S R w y (a.eval z) :=
  ⟨fun y hy => ho x (by simp [Op.operands]) y hy, fun z hz y hy => ho z (by rcases hz with rfl | rfl <;> simp [Op.operands]) y hy⟩

theorem ev_slice_str {t : TypeId} {x : Operand} {lo hi : Option Operand} {s : ByteArray} {l h : Nat} [hu : Und P t .string] (hx : st.get x = some (.val (.string s))) (hl : LoB st lo l) (hh : HiB st s.size hi h) (h1 : l ≤ h) (h2 : h ≤ s.size) :
    OpEv P ⟨dst, .slice t x lo hi none, ty, pos, after, g⟩ st (.val (.string (s.extract l h))) :=
  ev_same fun S R a w _ ho => by
    obtain ⟨ho1, ho2⟩ := slice_ops ho
    have e := rep_val (ho1 _ hx)
    have hb := run_bounds (P := P) (b := false) hl hh h1 h2 ho2
    exact ⟨_, by simp [execOp, Instr.sliceAt, run_underlying hu.h, Instr.slice, e, hb], .val _⟩

theorem ev_slice_sl {t e : TypeId} {x : Operand} {lo hi : Option Operand} {k n l h b : Nat} {z : Value} {xs : List (List AV)} [hu : Und P t (.slice e)] [he : ElF P e z k b] (hx : st.get x = some (.sl k xs n)) (hl : LoB st lo l) (hh : HiB st n hi h) (h1 : l ≤ h) (h2 : h ≤ xs.length) :
    OpEv P ⟨dst, .slice t x lo hi none, ty, pos, after, g⟩ st (.sl k (xs.drop l) (h - l)) :=
  ev_same fun S R a w _ ho => by
    obtain ⟨ho1, ho2⟩ := slice_ops ho
    have hr := ho1 _ hx
    generalize hv : a.eval x = v at hr
    cases hr with
    | sl hn hc hm hk ha h1' hF =>
      rename_i c ad F
      have hb := run_bounds (P := P) (b := true) hl hh h1 (Nat.le_trans h2 hc) ho2
      refine ⟨.slice (if c = l then ad else ad.map (·.add (l * k))) (h - l) (c - l), ?_, .sl (F := fun i j => F (l + i) j) (by simp; omega) (by simp; omega) (by omega) (fun y hy => hk y (List.mem_of_mem_drop hy)) (fun hne => ?_) (fun y hy => h1' y (List.mem_of_mem_drop hy)) (fun i y j u hy hu' => hF _ y j u (by rwa [List.getElem?_drop] at hy) hu')⟩
      · simp [execOp, Instr.sliceAt, run_underlying hu.h, Instr.slice, hv, hb, ElF.size (P := P) (t := e)]
      · have hlt : l < xs.length := by
          rcases Nat.lt_or_ge l xs.length with h3 | h3
          · exact h3
          · exact absurd (List.drop_eq_nil_of_le h3) hne
        obtain ⟨ad', rfl, hS, hcell⟩ := ha (by intro e0; subst e0; simp at hlt)
        refine ⟨ad'.add (l * k), by rw [if_neg (by omega)]; rfl, by rw [add_block]; exact hS, fun i y j u hy hu' => ?_⟩
        rw [add_add, show l * k + (i * k + j) = (l + i) * k + j by rw [Nat.add_mul, Nat.add_assoc]]
        exact hcell _ y j u (by rwa [List.getElem?_drop] at hy) hu'

theorem ev_slice_own {t e e' : TypeId} {x : Operand} {lo hi : Option Operand} {k n l h b lab off : Nat} {z : Value} {xs : List (List AV)} {r : List (Nat × Tok)} [hu : Und P t (.slice e)] [he : ElF P e z k b] (hx : st.get x = some (.own lab off n)) (ht : Take st.toks lab (.row e' k xs) r) (hl : LoB st lo l) (hh : HiB st n hi h) (h1 : l ≤ h) (h2 : off + h ≤ xs.length) :
    OpEv P ⟨dst, .slice t x lo hi none, ty, pos, after, g⟩ st (.own lab (off + l) (h - l)) :=
  ev_same fun S R a w hh' ho => by
    obtain ⟨ho1, ho2⟩ := slice_ops ho
    have hr := ho1 _ hx
    have htok := hh'.tok lab _ (ht.perm.mem_iff.2 (List.mem_cons_self))
    generalize hv : a.eval x = v at hr
    cases hr with
    | own hlab hn hm hT ha hs =>
      rename_i c q ad
      simp only [TokHolds, hlab] at htok
      obtain ⟨hk, cur, fr, hg, hfr, hcur, hb, hmt, hrow⟩ := htok
      have hb' := run_bounds (P := P) (b := true) hl hh h1 (by omega : h ≤ c) ho2
      obtain ⟨ad', rfl, hbk⟩ := hs
      refine ⟨.slice (if c = l then some ad' else (some ad').map (·.add (l * k))) (h - l) (c - l), ?_, .own hlab (by omega) (by omega) (by omega) ?_ ?_⟩
      · simp [execOp, Instr.sliceAt, run_underlying hu.h, Instr.slice, hv, hb', ElF.size (P := P) (t := e)]
      · by_cases hcl : c = l
        · exact .inl (by omega)
        · refine .inr ?_
          rw [if_neg hcl]
          rcases ha with h3 | h3
          · omega
          · cases h3
            simp [add_mk, hk, Nat.add_mul, Nat.add_assoc]
      · by_cases hcl : c = l
        · exact ⟨ad', by rw [if_pos hcl], hbk⟩
        · exact ⟨_, by rw [if_neg hcl]; rfl, by rw [add_block]; exact hbk⟩
    | onil hlab =>
      simp only [TokHolds, hlab] at htok
      subst htok
      simp at h2
      obtain ⟨rfl, rfl⟩ : h = 0 ∧ l = 0 := by omega
      have hb' := run_bounds (P := P) (len := 0) (cap := 0) (b := true) hl hh h1 (Nat.le_refl _) ho2
      exact ⟨.slice none 0 0, by simp [execOp, Instr.sliceAt, run_underlying hu.h, Instr.slice, hv, hb', ElF.size (P := P) (t := e)], .onil hlab⟩

theorem ev_index_str {t : TypeId} {x ix : Operand} {ki : IntKind} {s : ByteArray} {i : Nat} [hu : Und P t .string] (hx : st.get x = some (.val (.string s))) (hi : st.get ix = some (.val (.int ki (i : Nat)))) (h : i < s.size) :
    OpEv P ⟨dst, .index t x ix, ty, pos, after, g⟩ st (.val (.int .u8 (byteAt s i))) :=
  ev_same fun S R a w _ ho => by
    have e1 := rep_val (ho x (by simp [Op.operands]) _ hx)
    have e2 := rep_val (ho ix (by simp [Op.operands]) _ hi)
    refine ⟨.int .u8 (byteAt s i), ?_, .val _⟩
    simp [execOp, Instr.index, e1, e2, asIntOf, run_underlying hu.h, h, byteAt]
    rfl

/-! ### Function values -/
theorem ev_makeFunc {f : FuncId} {xs : List Operand} {ys : List AV} (hx : gets st xs = some ys) : OpEv P ⟨dst, .makeFunc (.func f) #[] xs.toArray, ty, pos, after, g⟩ st (.fn f ys) :=
  ev_same fun S R a w _ ho => by
    have hr := gets_reps (S := S) (R := R) (w := w) (a := a) hx (fun z hz => ho z (by simp [Op.operands, hz]))
    refine ⟨.func (.func f) #[] (xs.map a.eval).toArray, by simp [execOp, Instr.makeFunc], .fn (by simpa using hr.1) (fun i y hy => by simpa using hr.2 i y hy)⟩

/-! ### Literals -/
def fillAV (place : Nat → Option (Nat × Nat)) : List AV → List (Nat × AV) → Option (List AV)
  | cs, [] => some cs
  | cs, (i, x) :: rest => match place i with
    | none => none
    | some (off, size) => bif Nat.beq x.cells.length size && Nat.ble (off + size) cs.length then fillAV place (putCells cs off x.cells) rest else none

def getParts (st : St) : List (Nat × Operand) → Option (List (Nat × AV))
  | [] => some []
  | (i, x) :: r => match st.get x, getParts st r with
    | some y, some ys => some ((i, y) :: ys)
    | _, _ => none

/-- Cells as values. -/
def RepC (S : Nat → Prop) (R : Lab) (w : World) (cs : List AV) (vs : Array Value) : Prop := vs.size = cs.length ∧ ∀ (i : Nat) (y : AV), cs[i]? = some y → RepV S R w y (vs.getD i undef)

theorem fold_set (us : List Value) : ∀ (vs : Array Value) (off m : Nat), off + m + us.length ≤ vs.size → (us.zipIdx m).foldl (fun cs (p : Value × Nat) => cs.setIfInBounds (off + p.2) p.1) vs = seg vs (off + m) us := by
  induction us with
  | nil => intro vs off m _; simp [seg]
  | cons u us ih =>
    intro vs off m h
    simp only [List.length_cons] at h
    rw [List.zipIdx_cons, List.foldl_cons, ih _ _ _ (by simp; omega), ← Nat.add_assoc, seg_cons (by omega)]

theorem repc_put {S : Nat → Prop} {R : Lab} {w : World} {cs ys : List AV} {vs us : Array Value} {off : Nat} (h : RepC S R w cs vs) (hy : RepC S R w ys us) (hf : off + ys.length ≤ cs.length) : RepC S R w (putCells cs off ys) (seg vs off us.toList) := by
  have hl : us.toList.length = ys.length := by rw [Array.length_toList, hy.1]
  have hfit : off + us.toList.length ≤ vs.size := by rw [hl, h.1]; exact hf
  refine ⟨?_, fun i y hi => ?_⟩
  · rw [seg_size hfit, h.1]
    simp only [putCells, List.length_append, List.length_take, List.length_drop]
    omega
  · rw [Array.getD_eq_getD_getElem?, seg_get hfit, hl]
    simp only [putCells, List.append_assoc, List.getElem?_append, List.length_take] at hi
    have hmin : min off cs.length = off := by omega
    rw [hmin] at hi
    by_cases h1 : i < off
    · rw [if_pos h1, List.getElem?_take, if_pos h1] at hi
      rw [if_pos h1, ← Array.getD_eq_getD_getElem?]
      exact h.2 i y hi
    · rw [if_neg h1] at hi
      rw [if_neg h1]
      by_cases h2 : i < off + ys.length
      · rw [if_pos (by omega)] at hi
        rw [if_pos h2]
        have := hy.2 _ y hi
        rw [Array.getD_eq_getD_getElem?] at this
        rwa [Array.getElem?_toList]
      · rw [if_neg (by omega), List.getElem?_drop] at hi
        rw [if_neg h2, ← Array.getD_eq_getD_getElem?]
        have e1 : off + ys.length + (i - off - ys.length) = i := by omega
        rw [e1] at hi
        exact h.2 i y hi

theorem fill_rep {S : Nat → Prop} {R : Lab} {w : World} {a : Act} {place : Nat → Option (Nat × Nat)} : ∀ {parts : List (Nat × Operand)} {ps : List (Nat × AV)} {cs ds : List AV} {vs : Array Value}, getParts st parts = some ps → (∀ p, p ∈ parts → ∀ y, st.get p.2 = some y → RepV S R w y (a.eval p.2)) →
    (∀ p, p ∈ ps → p.2.one = true ∨ ∃ cs, p.2 = .agg cs) → RepC S R w cs vs → fillAV place cs ps = some ds → ∃ us, Instr.fill place vs (parts.map fun (i, x) => (i, a.eval x)) = some us ∧ RepC S R w ds us
  | [], ps, cs, ds, vs, hp, _, _, hc, hf => by
    cases hp
    cases hf
    exact ⟨vs, rfl, hc⟩
  | (i, x) :: r, ps, cs, ds, vs, hp, hx, h1, hc, hf => by
    simp only [getParts] at hp
    split at hp
    · rename_i y ys hy hys
      cases hp
      simp only [fillAV] at hf
      cases hpl : place i with
      | none => rw [hpl] at hf; cases hf
      | some q =>
        obtain ⟨off, size⟩ := q
        rw [hpl] at hf
        cases hb : (Nat.beq y.cells.length size && Nat.ble (off + size) cs.length) with
        | false => simp only [hb, cond_false] at hf; cases hf
        | true =>
          simp only [hb, cond_true] at hf
          simp only [Bool.and_eq_true] at hb
          have hbs := Nat.eq_of_beq_eq_true hb.1
          have hbl := Nat.le_of_ble_eq_true hb.2
          have hrep := rep_cells (hx (i, x) (List.mem_cons_self) y hy) (h1 (i, y) (List.mem_cons_self))
          have hput := repc_put (off := off) hc (show RepC S R w y.cells (a.eval x).cells from hrep) (by omega)
          obtain ⟨us, hus, hr⟩ := fill_rep hys (fun p hp => hx p (List.mem_cons_of_mem _ hp)) (fun p hp => h1 p (List.mem_cons_of_mem _ hp)) hput hf
          refine ⟨us, ?_, hr⟩
          have e1 : (a.eval x).cells.size = y.cells.length := hrep.1
          have e2 := hc.1
          simp only [List.map_cons, Instr.fill, hpl]
          rw [if_neg (by simp; omega)]
          rw [← Array.foldl_toList, Array.toList_zipIdx]
          have := fold_set (a.eval x).cells.toList vs off 0 (by rw [Array.length_toList]; omega)
          simp only [Nat.add_zero] at this
          rw [this]
          exact hus
    · cases hp

class StrF (P : Program) (t : TypeId) (z : outParam Value) (pl : outParam (List (Nat × Nat))) : Prop where
  zero : ∀ w, (zeroValue t).run P w = .ok z w
  h : ∃ fs, P.underlying t = some (.struct fs) ∧ ∀ w, (fs.mapM fun f => do pure (f.offset, ← sizeOf f.type) : Sem (Array (Nat × Nat))).run P w = .ok pl.toArray w

def onesB (ps : List (Nat × AV)) : Bool := ps.all fun p => match p.2 with
  | .agg _ => true
  | x => x.one

theorem onesB_iff {ps : List (Nat × AV)} (h : onesB ps = true) : ∀ p, p ∈ ps → p.2.one = true ∨ ∃ cs, p.2 = .agg cs := fun p hp => by
  have := List.all_eq_true.1 h p hp
  cases hx : p.2 <;> rw [hx] at this <;> first | exact .inl this | exact .inr ⟨_, rfl⟩

theorem ev_build {t : TypeId} {parts : List (Nat × Operand)} {ps : List (Nat × AV)} {cs : List AV} {z : Value} {pl : List (Nat × Nat)} [hs : StrF P t z pl] (hp : getParts st parts = some ps) (h1 : onesB ps = true) (hf : fillAV (fun (i : Nat) => pl[i]?) (vcells z) ps = some cs) :
    OpEv P ⟨dst, .build t parts.toArray, ty, pos, after, g⟩ st (.agg cs) :=
  ev_same fun S R a w _ ho => by
    obtain ⟨fs, hu, hm⟩ := hs.h
    obtain ⟨us, hus, hr⟩ := fill_rep (S := S) (R := R) (w := w) (a := a) (vs := z.cells) hp (fun p hp' y hy => ho p.2 (by simp [Op.operands]; exact ⟨p.1, hp'⟩) y hy) (onesB_iff h1) ⟨by simp [vcells], fun i y hy => by
      simp only [vcells, List.getElem?_map, Option.map_eq_some_iff, Array.getElem?_toList] at hy
      obtain ⟨u, hu', rfl⟩ := hy
      have : z.cells.getD i undef = u := by simp [Array.getD_eq_getD_getElem?, hu']
      rw [this]; exact .val _⟩ hf
    refine ⟨.agg us, ?_, .agg hr.1 hr.2⟩
    simp only [execOp, Instr.build, Sem.run_bind, hs.zero, run_underlying hu, Result.andThen_ok, hm, Sem.run_pure]
    simp only [List.map_toArray]
    have hfun : (fun (x : Nat) => pl.toArray[x]?) = (fun (i : Nat) => pl[i]?) := by funext i; simp
    rw [hfun, hus]
    simp
end

end Go.Proofs.YtphkfejckafamaaDoorA

/- Appends, slice literals, what is no longer written. -/
set_option linter.unusedVariables false
namespace Go.Proofs.YtphkfejckafamaaDoorA
open Go.RowKit

section
variable {P : Program} {st : St} {dst : Option Tmp} {ty : TypeId} {pos : String} {after : Array Edge} {g : Option (Nat × Bool)}

/-- What is appended: how many, and their cells. -/
structure Src (P : Program) (w : World) (k m : Nat) (t2 : TypeId) (v : Value) (news : List Value) : Prop where
  ty : P.underlying t2 = some .string ∨ ∃ e, P.underlying t2 = some (.slice e)
  len : ∀ w', (Builtin.lenOf v).run P w' = .ok m w'
  cells : ∀ w' : World, w'.heap = w.heap → (Builtin.firstCells k m v).run P w' = .ok news.toArray w'
  num : news.length = m * k
  one : ∀ u ∈ news, u.oneCell' = true

theorem run_append_room' {w : World} {t t2 e : TypeId} {z : Value} {k b : Nat} [he : ElF P e z k b] (ht : P.underlying t = some (.slice e)) {gb o n c m : Nat} {cur : Array Value} {t0 : TypeId} {fr : Nat × Nat} {v : Value} {news : List Value}
    (hs : Src P w k m t2 v news) (hg : w.heap[gb]? = some (.cells cur t0 fr)) (hfr : cur.size ≤ fr.1 ∨ fr = (0, 0)) (hroom : n + m ≤ c) (hfit : o + n * k + m * k ≤ cur.size) :
    (Builtin.append_ #[t, t2] ty #[.slice (some ⟨gb, o, none⟩) n c, v]).run P w = .ok (.slice (some ⟨gb, o, none⟩) (n + m) c) (w.setRow gb (seg cur (o + n * k) news)) := by
  have hst := run_storeCells_seg P gb t0 fr news (o + n * k) 0 cur w hg hfr (by rw [hs.num]; omega) hs.one
  simp only [Nat.add_zero] at hst
  have hc := hs.cells w rfl
  rcases hs.ty with hd | ⟨e2, hd⟩ <;>
    simp only [Builtin.append_, List.getElem?_toArray, List.getElem?_cons_zero, List.getElem?_cons_succ, Sem.run_bind, run_underlying ht, Result.andThen_ok, ElF.size (P := P) (t := e), run_underlying hd, Sem.run_pure,
      Bool.false_eq_true, if_false, hs.len, hroom, if_true, Bool.not_false, hc, add_mk, hst]

/-- Nothing is appended. -/
theorem run_append_none {w : World} {t t2 e : TypeId} {z : Value} {k b : Nat} [he : ElF P e z k b] (ht : P.underlying t = some (.slice e)) {ad : Option Addr} {c : Nat} {v : Value} (hs : Src P w k 0 t2 v []) :
    (Builtin.append_ #[t, t2] ty #[.slice ad 0 c, v]).run P w = .ok (.slice ad 0 c) w := by
  have hc := hs.cells w rfl
  have hl := hs.len w
  have h0 : 0 + 0 ≤ c := Nat.zero_le _
  rcases hs.ty with hd | ⟨e2, hd⟩ <;> cases ad <;>
    simp only [Builtin.append_, List.getElem?_toArray, List.getElem?_cons_zero, List.getElem?_cons_succ, Sem.run_bind, run_underlying ht, Result.andThen_ok, ElF.size (P := P) (t := e), run_underlying hd, Sem.run_pure,
      Bool.false_eq_true, if_false, hl, h0, if_true, Bool.not_false, hc, storeCells]

theorem run_append_grow' {w : World} {t t2 e : TypeId} {z : Value} {k b : Nat} [he : ElF P e z k b] (ht : P.underlying t = some (.slice e)) {base : Option Addr} {n c m : Nat} {v : Value} {olds news : List Value}
    (hs : Src P w k m t2 v news) (ho : ∀ w' : World, w'.heap = w.heap → (Builtin.firstCells k n (.slice base n c)).run P w' = .ok olds.toArray w') (hroom : c < n + m) (hb : (n + m) * b ≤ 140737488355328) (hm : n + m ≤ 140737488355328) :
    (Builtin.append_ #[t, t2] ty #[.slice base n c, v]).run P w = .ok (.slice (some ⟨w.heap.size, 0, none⟩) (n + m) (grownCap w (n + m) c e))
      (w.drew.alloc (.cells (olds.toArray ++ news.toArray ++ Builtin.zeroCells z.cells (grownCap w (n + m) c e - (n + m))) e)) := by
  obtain ⟨i, hi, hz, hk, hbb, hzc, hall⟩ := he.h
  have h48 := growslice_fits hroom hb
  subst hk
  subst hbb
  have hn : ¬ (n + m ≤ c) := by omega
  have h63' : ¬ (9223372036854775807 < ((n : Int) + (m : Int))) := by omega
  have h48' : ¬ (281474976710656 < Builtin.nextslicecap (n + m) c * i.bytes) := by omega
  have hc1 := hs.cells w.drew rfl
  have hc2 := ho w.drew rfl
  have hl := hs.len w
  rcases hs.ty with hd | ⟨e2, hd⟩ <;>
    simp [Builtin.append_, run_underlying ht, run_underlying hd, sizeOf, typeInfo, zeroValue, hi, hz, hl, hn, h63', h48', Question.forced, hc1, hc2, newRow, grownCap] <;>
    (congr 2; apply Array.ext'; simp)

theorem src_sl {S : Nat → Prop} {R : Lab} {w : World} {t e : TypeId} {k n : Nat} {xs : List (List AV)} {v : Value} (ht : P.underlying t = some (.slice e)) (h : RepV S R w (.sl k xs n) v) :
    ∃ news, Src P w k n t v news ∧ ∀ (i : Nat) (x : List AV), i < n → xs[i]? = some x → x.length = k ∧ ∀ (j : Nat) (y : AV), x[j]? = some y → y.one = true ∧ ∃ u, news[i * k + j]? = some u ∧ RepV S R w y u := by
  cases h with
  | sl hn hc hm hk ha h1 hF =>
    rename_i c a F
    let news : List Value := (List.range (n * k)).map fun p => F (p / k) (p % k)
    have hget : ∀ p, p < n * k → ∃ x y, xs[p / k]? = some x ∧ x[p % k]? = some y := fun p hp => by
      have hk0 : 0 < k := Nat.pos_of_ne_zero (fun e => by subst e; simp at hp)
      have hq : p / k < n := Nat.div_lt_of_lt_mul (by rwa [Nat.mul_comm] at hp)
      have hx : p / k < xs.length := by omega
      have hxl := hk _ (List.getElem_mem hx)
      exact ⟨xs[p / k], _, List.getElem?_eq_getElem hx, List.getElem?_eq_getElem (by rw [hxl]; exact Nat.mod_lt _ hk0)⟩
    have hnews : ∀ (p : Nat) (u : Value), news[p]? = some u → p < n * k ∧ u = F (p / k) (p % k) := fun p u hu => by
      simp only [news, List.getElem?_map, Option.map_eq_some_iff] at hu
      obtain ⟨q, hq, rfl⟩ := hu
      have := List.getElem?_eq_some_iff.1 hq
      obtain ⟨h1, h2⟩ := this
      simp at h1 h2
      subst h2
      exact ⟨h1, rfl⟩
    refine ⟨news, ⟨.inr ⟨_, ht⟩, fun w' => by simp [Builtin.lenOf], fun w' hw => ?_, by simp [news], fun u hu => ?_⟩, fun i x hi hx => ⟨hk x (List.mem_of_getElem? hx), fun j y hy => ⟨h1 x (List.mem_of_getElem? hx) y (List.mem_of_getElem? hy), F i j, ?_, hF i x j y hx hy⟩⟩⟩
    · by_cases hx0 : xs = []
      · subst hx0
        have hn0 : n = 0 := by simpa using hn
        subst hn0
        have : news = [] := by simp [news]
        rw [this]
        cases a <;> simp [Builtin.firstCells, loadCells, loadCellsFrom]
      · obtain ⟨ad, rfl, hS, hcell⟩ := ha hx0
        refine run_firstCells_some (P := P) w' k n ad n c news (by simp [news]) (fun p u hu => ?_)
        obtain ⟨hp, rfl⟩ := hnews p u hu
        obtain ⟨x, y, hx, hy⟩ := hget p hp
        have := hcell _ x _ y hx hy
        have e1 : p / k * k + p % k = p := by rw [Nat.mul_comm]; exact Nat.div_add_mod p k
        rw [e1] at this
        rw [← this]
        exact World.cell?_of_block (by rw [hw])
    · obtain ⟨p, hp⟩ := List.getElem?_of_mem hu
      obtain ⟨hp', rfl⟩ := hnews p u hp
      obtain ⟨x, y, hx, hy⟩ := hget p hp'
      exact (hF _ x _ y hx hy).one (h1 x (List.mem_of_getElem? hx) y (List.mem_of_getElem? hy))
    · have hj : j < k := by rw [← hk x (List.mem_of_getElem? hx)]; exact (List.getElem?_eq_some_iff.1 hy).1
      have hp : i * k + j < n * k := by
        calc i * k + j < i * k + k := by omega
          _ = (i + 1) * k := by rw [Nat.add_mul]; omega
          _ ≤ n * k := Nat.mul_le_mul_right _ (by omega)
      have hk0 : 0 < k := by omega
      have e1 : (i * k + j) / k = i := by rw [Nat.mul_comm, Nat.mul_add_div hk0, Nat.div_eq_of_lt hj]; rfl
      have e2 : (i * k + j) % k = j := by rw [Nat.mul_comm, Nat.mul_add_mod, Nat.mod_eq_of_lt hj]
      simp [news, hp, e1, e2]

theorem src_str {w : World} {t2 : TypeId} {s : ByteArray} (ht : P.underlying t2 = some .string) : Src P w 1 s.size t2 (.string s) (s.data.toList.map fun b => .int .u8 b.toNat) := by
  refine ⟨.inl ht, fun w' => by simp [Builtin.lenOf], fun w' _ => ?_, by simp, fun u hu => by simp at hu; obtain ⟨b, _, rfl⟩ := hu; rfl⟩
  have : s.extract 0 s.size = s := by simp
  simp [Builtin.firstCells, this]
  apply Array.ext'
  simp

/-- The whole of an append onto a row of one's own. -/
theorem app_core2 {S : Nat → Prop} {R : Lab} {w : World} {t t2 e : TypeId} {z : Value} {k b l off n m : Nat} {xs ys : List (List AV)} {sv v : Value} {news : List Value} [hu : Und P t (.slice e)] [he : ElF P e z k b]
    (hh : Holds S R w [(l, .row e k xs)]) (hsv : RepV S R w (.own l off n) sv) (hoff : off + n ≤ xs.length) (hs : Src P w k m t2 v news)
    (hrep : ∀ (i : Nat) (x : List AV), ys[i]? = some x → i < m → x.length = k ∧ ∀ (j : Nat) (y : AV), x[j]? = some y → y.one = true ∧ ∃ u, news[i * k + j]? = some u ∧ RepV S R w y u) (hm : ys.length = m) (hb : (n + m) * b ≤ 140737488355328) (hnm : n + m ≤ 140737488355328) :
    ∃ r w' R' N, (Builtin.append_ #[t, t2] ty #[sv, v]).run P w = .ok r w' ∧ Holds S R' w' [(N, .row e k ((xs.drop off).take n ++ ys))] ∧ RepV S R' w' (.own N 0 (n + m)) r ∧ Out w S R (Foot R [(l, Tok.row e k xs)]) (fun l' => ∃ t', (l', t') ∈ [(l, Tok.row e k xs)]) S R' w' [(N, .row e k ((xs.drop off).take n ++ ys))] ∧ R N = none ∧ ((∃ q, R l = some (some q) ∧ R' N = some (some ⟨q.g, q.b + off, q.k, q.t⟩)) ∨ Out w S R (Foot R []) (fun l' => ∃ t', (l', t') ∈ ([] : List (Nat × Tok))) S R' w' [(N, .row e k ((xs.drop off).take n ++ ys))]) := by
  obtain ⟨N, hN⟩ := hh.free
  have htok := hh.tok l _ (List.mem_cons_self)
  have hlen : ((xs.drop off).take n ++ ys).length = n + m := by simp; omega
  have hml : maxLen = 9223372036854775807 := rfl
  -- what a fresh block gives
  have fresh : ∀ (base : Option Addr) (c : Nat) (olds : List Value), c < n + m → (∀ w' : World, w'.heap = w.heap → (Builtin.firstCells k n (.slice base n c)).run P w' = .ok olds.toArray w') → olds.length = n * k →
      (∀ (i : Nat) (x : List AV), (xs.drop off)[i]? = some x → i < n → x.length = k ∧ ∀ (j : Nat) (y : AV), x[j]? = some y → y.one = true ∧ ∃ u, olds[i * k + j]? = some u ∧ RepV S R w y u) →
      ∃ r w' R' N, (Builtin.append_ #[t, t2] ty #[.slice base n c, v]).run P w = .ok r w' ∧ Holds S R' w' [(N, .row e k ((xs.drop off).take n ++ ys))] ∧ RepV S R' w' (.own N 0 (n + m)) r ∧ Out w S R (Foot R []) (fun l' => ∃ t', (l', t') ∈ ([] : List (Nat × Tok))) S R' w' [(N, .row e k ((xs.drop off).take n ++ ys))] ∧ R N = none := by
    intro base c olds hc hol hoz hor
    have hrun := run_append_grow' (P := P) (ty := ty) (t := t) (e := e) hu.h hs hol hc hb hnm
    have hge := grownCap_ge w (n + m) c e
    have hle := grownCap_le_maxLen w (n + m) c e (by rw [hml]; omega)
    obtain ⟨i0, hi, hz, hk0, hbb, hzc, hall⟩ := he.h
    have hf := fresh_row (S := S) (R := R) (w := w) (N := N) (e := e) (w1 := w.drew) hN hh.top hh.low ((Below.refl _ w).drew) rfl
      (cur := olds.toArray ++ news.toArray ++ Builtin.zeroCells z.cells (grownCap w (n + m) c e - (n + m))) (k := k) (t := grownCap w (n + m) c e) (xs := (xs.drop off).take n ++ ys)
      (by simp only [Array.size_append, List.size_toArray, size_zeroCells, hzc, hoz, hs.num, ← Nat.add_mul]; congr 1; omega) (by omega) hle (fun i x hx => by
        rw [List.getElem?_append] at hx
        simp only [Array.append_assoc]
        split at hx
        · rename_i hlt
          have hin : i < n := by simp at hlt; omega
          rw [List.getElem?_take, if_pos hin] at hx
          obtain ⟨h1, h2⟩ := hor i x hx hin
          refine ⟨h1, fun j y hy => ?_⟩
          obtain ⟨h3, u, hu', h4⟩ := h2 j y hy
          have hlt' : i * k + j < olds.length := (List.getElem?_eq_some_iff.1 hu').1
          exact ⟨h3, u, by rw [Array.getElem?_append_left (by simpa using hlt')]; simpa using hu', h4⟩
        · rename_i hge'
          have hl : ((xs.drop off).take n).length = n := by simp; omega
          rw [hl] at hx hge'
          obtain ⟨h1, h2⟩ := hrep (i - n) x hx (by rw [← hm]; exact (List.getElem?_eq_some_iff.1 hx).1)
          refine ⟨h1, fun j y hy => ?_⟩
          obtain ⟨h3, u, hu', h4⟩ := h2 j y hy
          have hlt' : (i - n) * k + j < news.length := (List.getElem?_eq_some_iff.1 hu').1
          have e1 : i * k + j - olds.length = (i - n) * k + j := by
            have : i * k = (i - n) * k + n * k := by rw [← Nat.add_mul]; congr 1; omega
            omega
          have hge2 : olds.length ≤ i * k + j := by
            rw [hoz]
            have : n * k ≤ i * k := Nat.mul_le_mul_right _ (by omega)
            omega
          refine ⟨h3, u, ?_, h4⟩
          rw [Array.getElem?_append_right (by simpa using hge2), Array.getElem?_append_left (by simp only [List.size_toArray]; omega)]
          simp only [List.size_toArray, e1]
          simpa using hu')
    refine ⟨_, _, _, N, hrun, hf.1, ?_, hf.2, hN⟩
    have := RepV.own (S := S) (R := bindL R N (some ⟨w.heap.size, 0, k, grownCap w (n + m) c e⟩)) (w := w.drew.alloc (.cells (olds.toArray ++ news.toArray ++ Builtin.zeroCells z.cells (grownCap w (n + m) c e - (n + m))) e)) (off := 0) (n := n + m) (c := grownCap w (n + m) c e) (a := some ⟨w.heap.size, 0, none⟩) bindL_same hge hle (by simp) (.inr (by simp)) ⟨_, rfl, rfl⟩
    exact this
  have out_of : ∀ {S' : Nat → Prop} {R' : Lab} {w' : World} {ts' : List (Nat × Tok)}, Out w S R (Foot R []) (fun l' => ∃ t', (l', t') ∈ ([] : List (Nat × Tok))) S' R' w' ts' → Out w S R (Foot R [(l, Tok.row e k xs)]) (fun l' => ∃ t', (l', t') ∈ [(l, Tok.row e k xs)]) S' R' w' ts' := fun o =>
    have hno : ∀ g, ¬ Foot R [] g := by rintro g ⟨_, _, h, _⟩; simp at h
    ⟨o.os, o.tape, o.output, o.size, fun b hb _ => o.block b hb (hno b), o.S0, fun b hb => (o.S1 b hb).imp id (fun h => h.imp (fun h => (hno b h).elim) id), o.R0, fun g hg => (o.foot g hg).imp (fun h => (hno g h).elim) id, fun l' t' ht => by
      rcases o.keys l' t' ht with ⟨t2, h2⟩ | h2
      · simp at h2
      · exact .inr h2⟩
  cases hsv with
  | onil h =>
    simp only [TokHolds, h] at htok
    subst htok
    by_cases hm0 : m = 0
    · subst hm0
      have hys : ys = [] := List.eq_nil_of_length_eq_zero hm
      subst hys
      have hnews : news = [] := List.eq_nil_of_length_eq_zero (by rw [hs.num]; simp)
      subst hnews
      have hrun := run_append_none (P := P) (ty := ty) (t := t) (e := e) (ad := none) (c := 0) hu.h hs
      refine ⟨_, w, bindL R N none, N, hrun, ⟨bindL_top hh.top, by simp, ?_, ?_, hh.low⟩, .onil bindL_same, ⟨rfl, rfl, rfl, Nat.le_refl _, fun _ _ _ => rfl, fun _ h => h, fun _ h => .inl h, bindL_mono hN, ?_, ?_⟩, hN, .inr ⟨rfl, rfl, rfl, Nat.le_refl _, fun _ _ _ => rfl, fun _ h => h, fun _ h => .inl h, bindL_mono hN, ?_, ?_⟩⟩
      · intro l' t' hm'
        simp at hm'
        obtain ⟨rfl, rfl⟩ := hm'
        simp [TokHolds, bindL_same]
      · rintro g ⟨l', t', hm', hg⟩
        simp at hm'
        obtain ⟨rfl, rfl⟩ := hm'
        simp [blkOf, bindL_same] at hg
      · rintro g ⟨l', t', hm', hg⟩
        simp at hm'
        obtain ⟨rfl, rfl⟩ := hm'
        simp [blkOf, bindL_same] at hg
      · intro l' t' hm'
        simp at hm'
        exact .inr (by rw [hm'.1]; exact hN)
      · rintro g ⟨l', t', hm', hg⟩
        simp at hm'
        obtain ⟨rfl, rfl⟩ := hm'
        simp [blkOf, bindL_same] at hg
      · intro l' t' hm'
        simp at hm'
        exact .inr (by rw [hm'.1]; exact hN)
    · obtain ⟨r, w', R', N', h1, h2, h3, h4, h5⟩ := fresh none 0 [] (by omega) (fun w' _ => by simp [Builtin.firstCells]) (by simp) (by simp)
      exact ⟨r, w', R', N', h1, h2, h3, out_of h4, h5, .inr h4⟩
  | own h hn hmx hT ha hsad =>
    rename_i c q ad
    simp only [TokHolds, h] at htok
    obtain ⟨rfl, cur, fr, hg, hfr, hcur, hbx, hmt, hrow⟩ := htok
    have hcells : ∀ (i : Nat) (x : List AV), (xs.drop off)[i]? = some x → i < n → x.length = q.k ∧ ∀ (j : Nat) (y : AV), x[j]? = some y → y.one = true ∧ ∃ u, cur[(q.b + off + i) * q.k + j]? = some u ∧ RepV S R w y u := fun i x hx hi => by
      rw [List.getElem?_drop] at hx
      have := hrow _ x hx
      rw [← Nat.add_assoc] at this
      exact this
    by_cases hroom : n + m ≤ c
    · -- it is written in its place
      by_cases hc0 : c = 0
      · -- nothing at all
        subst hc0
        obtain ⟨rfl, rfl⟩ : n = 0 ∧ m = 0 := by omega
        have hys : ys = [] := List.eq_nil_of_length_eq_zero hm
        subst hys
        have hnews : news = [] := List.eq_nil_of_length_eq_zero (by rw [hs.num]; simp)
        subst hnews
        have hrun := run_append_none (P := P) (ty := ty) (t := t) (e := e) (ad := ad) (c := 0) hu.h hs
        refine ⟨_, w, bindL R N (some ⟨q.g, q.b + off, q.k, q.t⟩), N, hrun, ⟨bindL_top hh.top, by simp, ?_, ?_, hh.low⟩, ?_, ⟨rfl, rfl, rfl, Nat.le_refl _, fun _ _ _ => rfl, fun _ h => h, fun _ h => .inl h, bindL_mono hN, ?_, ?_⟩, hN, .inl ⟨q, h, bindL_same⟩⟩
        · intro l' t' hm'
          simp at hm'
          obtain ⟨rfl, rfl⟩ := hm'
          simp only [TokHolds, bindL_same]
          exact ⟨trivial, cur, fr, hg, hfr, hcur, by simp; omega, hmt, by simp [RowAt]⟩
        · rintro g ⟨l', t', hm', hg'⟩
          simp at hm'
          obtain ⟨rfl, rfl⟩ := hm'
          simp [blkOf, bindL_same] at hg'
          subst hg'
          exact hh.notS _ ⟨l, _, List.mem_cons_self, by simp [blkOf, h]⟩
        · exact .own bindL_same (by omega) hmx (by simpa using hT) (.inl rfl) hsad
        · rintro g ⟨l', t', hm', hg'⟩
          simp at hm'
          obtain ⟨rfl, rfl⟩ := hm'
          simp [blkOf, bindL_same] at hg'
          subst hg'
          exact .inl ⟨l, _, List.mem_cons_self, by simp [blkOf, h]⟩
        · intro l' t' hm'
          simp at hm'
          exact .inr (by rw [hm'.1]; exact hN)
      · obtain rfl : ad = some ⟨q.g, (q.b + off) * q.k, none⟩ := ha.resolve_left hc0
        have hfit : (q.b + off) * q.k + n * q.k + m * q.k ≤ cur.size := by
          rw [hcur, ← Nat.add_mul, ← Nat.add_mul]
          exact Nat.mul_le_mul_right _ (by omega)
        have hrun := run_append_room' (P := P) (ty := ty) (t := t) (e := e) hu.h hs hg hfr hroom hfit
        have hfit' : (q.b + off) * q.k + n * q.k + news.length ≤ cur.size := by rw [hs.num]; exact hfit
        have hlow : ∀ b, S b → (w.setRow q.g (seg cur ((q.b + off) * q.k + n * q.k) news)).heap[b]? = w.heap[b]? := fun b hb => by
          rw [setRow_other]
          rintro rfl
          exact hh.notS q.g ⟨l, _, List.mem_cons_self, by simp [blkOf, h]⟩ hb
        refine ⟨_, _, bindL R N (some ⟨q.g, q.b + off, q.k, q.t⟩), N, hrun, ⟨bindL_top hh.top, by simp, ?_, ?_, fun b hb => by simpa using hh.low b hb⟩, ?_, ⟨rfl, rfl, rfl, by simp, fun b hb hf => ?_, fun _ h => h, fun _ h => .inl h, bindL_mono hN, ?_, ?_⟩, hN, .inl ⟨q, h, bindL_same⟩⟩
        · intro l' t' hm'
          simp at hm'
          obtain ⟨rfl, rfl⟩ := hm'
          simp only [TokHolds, bindL_same]
          refine ⟨trivial, _, fr, setRow_heap w q.g cur _ e _ hg, by rw [seg_size hfit']; exact hfr, by rw [seg_size hfit']; exact hcur, by simp only [hlen]; omega, hmt, fun i x hx => ?_⟩
          rw [List.getElem?_append] at hx
          have hl : ((xs.drop off).take n).length = n := by simp; omega
          rw [hl] at hx
          split at hx
          · rename_i hin
            rw [List.getElem?_take, if_pos hin] at hx
            obtain ⟨h1, h2⟩ := hcells i x hx hin
            refine ⟨h1, fun j y hy => ?_⟩
            obtain ⟨h3, u, hu', h4⟩ := h2 j y hy
            have hj : j < q.k := by rw [← h1]; exact (List.getElem?_eq_some_iff.1 hy).1
            refine ⟨h3, u, ?_, h4.mono (fun _ h => h) (bindL_mono hN) hlow⟩
            rw [seg_get hfit', if_pos]
            · exact hu'
            · have : (q.b + off + i) * q.k + q.k ≤ (q.b + off) * q.k + n * q.k := by
                rw [← Nat.add_mul]
                calc (q.b + off + i) * q.k + q.k = (q.b + off + i + 1) * q.k := by rw [Nat.add_mul (q.b + off + i) 1]; omega
                  _ ≤ (q.b + off + n) * q.k := Nat.mul_le_mul_right _ (by omega)
              show (q.b + off + i) * q.k + j < _
              omega
          · rename_i hin
            obtain ⟨h1, h2⟩ := hrep (i - n) x hx (by rw [← hm]; exact (List.getElem?_eq_some_iff.1 hx).1)
            refine ⟨h1, fun j y hy => ?_⟩
            obtain ⟨h3, u, hu', h4⟩ := h2 j y hy
            refine ⟨h3, u, ?_, h4.mono (fun _ h => h) (bindL_mono hN) hlow⟩
            have hlt' : (i - n) * q.k + j < news.length := (List.getElem?_eq_some_iff.1 hu').1
            have e1 : (q.b + off + i) * q.k + j = (q.b + off) * q.k + n * q.k + ((i - n) * q.k + j) := by
              rw [← Nat.add_mul, ← Nat.add_assoc, ← Nat.add_mul]; congr 2; omega
            show (seg cur ((q.b + off) * q.k + n * q.k) news)[(q.b + off + i) * q.k + j]? = some u
            rw [e1, seg_get hfit', if_neg (by omega), if_pos (by omega)]
            rw [Nat.add_sub_cancel_left]
            exact hu'
        · rintro g ⟨l', t', hm', hg'⟩
          simp at hm'
          obtain ⟨rfl, rfl⟩ := hm'
          simp [blkOf, bindL_same] at hg'
          subst hg'
          exact hh.notS _ ⟨l, _, List.mem_cons_self, by simp [blkOf, h]⟩
        · exact .own bindL_same hroom hmx (by simpa using hT) (.inr (by simp)) ⟨_, rfl, rfl⟩
        · rw [setRow_other]
          rintro rfl
          exact hf ⟨l, _, List.mem_cons_self, by simp [blkOf, h]⟩
        · rintro g ⟨l', t', hm', hg'⟩
          simp at hm'
          obtain ⟨rfl, rfl⟩ := hm'
          simp [blkOf, bindL_same] at hg'
          subst hg'
          exact .inl ⟨l, _, List.mem_cons_self, by simp [blkOf, h]⟩
        · intro l' t' hm'
          simp at hm'
          exact .inr (by rw [hm'.1]; exact hN)
    · -- a new block
      have hol : ∃ olds : List Value, (∀ w' : World, w'.heap = w.heap → (Builtin.firstCells q.k n (.slice ad n c)).run P w' = .ok olds.toArray w') ∧ olds.length = n * q.k ∧
          (∀ (i : Nat) (x : List AV), (xs.drop off)[i]? = some x → i < n → x.length = q.k ∧ ∀ (j : Nat) (y : AV), x[j]? = some y → y.one = true ∧ ∃ u, olds[i * q.k + j]? = some u ∧ RepV S R w y u) := by
        by_cases hn0 : n = 0
        · subst hn0
          refine ⟨[], fun w' _ => ?_, by simp, fun i x _ hi => by omega⟩
          cases ad <;> simp [Builtin.firstCells, loadCells, loadCellsFrom]
        · obtain rfl : ad = some ⟨q.g, (q.b + off) * q.k, none⟩ := ha.resolve_left (by omega)
          have hsz : (q.b + off) * q.k + n * q.k ≤ cur.size := by
            rw [hcur, ← Nat.add_mul]
            exact Nat.mul_le_mul_right _ (by omega)
          refine ⟨(cur.toList.drop ((q.b + off) * q.k)).take (n * q.k), fun w' hw => ?_, by simp; omega, fun i x hx hi => ?_⟩
          · refine run_firstCells_some (P := P) w' q.k n _ n c _ (by simp; omega) (fun p u hu => ?_)
            have hp : p < n * q.k := by
              have := (List.getElem?_eq_some_iff.1 hu).1
              simp at this; omega
            rw [List.getElem?_take, if_pos hp, List.getElem?_drop, Array.getElem?_toList] at hu
            rw [add_mk, World.cell?_of_block (w := w) (by rw [hw]), cell_of_row w q.g _ cur e fr hg]
            exact hu
          · obtain ⟨h1, h2⟩ := hcells i x hx hi
            refine ⟨h1, fun j y hy => ?_⟩
            obtain ⟨h3, u, hu', h4⟩ := h2 j y hy
            have hj : j < q.k := by rw [← h1]; exact (List.getElem?_eq_some_iff.1 hy).1
            have hp : i * q.k + j < n * q.k := by
              calc i * q.k + j < i * q.k + q.k := by omega
                _ = (i + 1) * q.k := by rw [Nat.add_mul]; omega
                _ ≤ n * q.k := Nat.mul_le_mul_right _ (by omega)
            refine ⟨h3, u, ?_, h4⟩
            rw [List.getElem?_take, if_pos hp, List.getElem?_drop, Array.getElem?_toList, ← Nat.add_assoc, ← Nat.add_mul]
            exact hu'
      obtain ⟨olds, ho1, ho2, ho3⟩ := hol
      obtain ⟨r, w', R', N', h1, h2, h3, h4, h5⟩ := fresh ad c olds (by omega) ho1 ho2 ho3
      exact ⟨r, w', R', N', h1, h2, h3, out_of h4, h5, .inr h4⟩

/-- The whole of an append onto a row of one's own. -/
theorem app_core {S : Nat → Prop} {R : Lab} {w : World} {t t2 e : TypeId} {z : Value} {k b l off n m : Nat} {xs ys : List (List AV)} {sv v : Value} {news : List Value} [hu : Und P t (.slice e)] [he : ElF P e z k b]
    (hh : Holds S R w [(l, .row e k xs)]) (hsv : RepV S R w (.own l off n) sv) (hoff : off + n ≤ xs.length) (hs : Src P w k m t2 v news)
    (hrep : ∀ (i : Nat) (x : List AV), ys[i]? = some x → i < m → x.length = k ∧ ∀ (j : Nat) (y : AV), x[j]? = some y → y.one = true ∧ ∃ u, news[i * k + j]? = some u ∧ RepV S R w y u) (hm : ys.length = m) (hb : (n + m) * b ≤ 140737488355328) (hnm : n + m ≤ 140737488355328) :
    ∃ r w' R' N, (Builtin.append_ #[t, t2] ty #[sv, v]).run P w = .ok r w' ∧ Holds S R' w' [(N, .row e k ((xs.drop off).take n ++ ys))] ∧ RepV S R' w' (.own N 0 (n + m)) r ∧ Out w S R (Foot R [(l, Tok.row e k xs)]) (fun l' => ∃ t', (l', t') ∈ [(l, Tok.row e k xs)]) S R' w' [(N, .row e k ((xs.drop off).take n ++ ys))] := by
  obtain ⟨r, w', R', N, h1, h2, h3, h4, _⟩ := app_core2 (P := P) (ty := ty) (t := t) (t2 := t2) hh hsv hoff hs hrep hm hb hnm
  exact ⟨r, w', R', N, h1, h2, h3, h4⟩

theorem exec_append {a : Act} {x y : Operand} {t t2 : TypeId} {w w' : World} {v : Value} (h : (Builtin.append_ #[t, t2] ty #[a.eval x, a.eval y]).run P w = .ok v w') :
    (execOp a.eval ⟨dst, .call ⟨.builtin .append, #[x, y], #[t, t2]⟩, ty, pos, after, g⟩).run P w = .ok (.value v) w' := by
  simp [execOp, resolve, invoke, builtin, h]

/-- append(own, immutable...) -/
theorem eff_append {t e : TypeId} {x y : Operand} {k b l off n m : Nat} {z : Value} {xs ys : List (List AV)} [hu : Und P t (.slice e)] [he : ElF P e z k b] (hx : st.get x = some (.own l off n)) (hy : st.get y = some (.sl k ys m)) (hoff : off + n ≤ xs.length) (hb : (n + m) * b ≤ 140737488355328) (hnm : n + m ≤ 140737488355328) :
    OpEff P ⟨dst, .call ⟨.builtin .append, #[x, y], #[t, t]⟩, ty, pos, after, g⟩ st [(l, .row e k xs)] (fun ts r => ∃ l', ts = [(l', .row e k ((xs.drop off).take n ++ ys.take m))] ∧ r = .own l' 0 (n + m)) := by
  refine ⟨?_⟩
  intro S R a w hh ho next Q hk
  have hxv := ho x (by simp [Op.operands, Call.operands]) _ hx
  have hyv := ho y (by simp [Op.operands, Call.operands]) _ hy
  obtain ⟨news, hs, hrep⟩ := src_sl (P := P) hu.h hyv
  have hm : (ys.take m).length = m := by
    generalize a.eval y = u at hyv
    cases hyv with
    | sl hn _ _ _ _ _ _ => simp; omega
  obtain ⟨r, w', R', N, hrun, h1, h2, h3⟩ := app_core (P := P) (ty := ty) (t := t) (t2 := t) (ys := ys.take m) hh hxv hoff hs (fun i x hx' hi => hrep i x hi (by rwa [List.getElem?_take, if_pos hi] at hx')) hm hb hnm
  unfold Oper.wp
  rw [exec_append hrun]
  exact hk r _ S R' w' _ ⟨N, rfl, rfl⟩ h1 h2 h3

/-- append(own, string...) -/
theorem eff_append_str {t t2 e : TypeId} {x y : Operand} {b l off n : Nat} {z : Value} {xs : List (List AV)} {s : ByteArray} [hu : Und P t (.slice e)] [he : ElF P e z 1 b] [hu2 : Und P t2 .string] (hx : st.get x = some (.own l off n)) (hy : st.get y = some (.val (.string s))) (hoff : off + n ≤ xs.length) (hb : (n + s.size) * b ≤ 140737488355328) (hnm : n + s.size ≤ 140737488355328) :
    OpEff P ⟨dst, .call ⟨.builtin .append, #[x, y], #[t, t2]⟩, ty, pos, after, g⟩ st [(l, .row e 1 xs)] (fun ts r => ∃ l', ts = [(l', .row e 1 ((xs.drop off).take n ++ s.data.toList.map fun c => [.val (.int .u8 c.toNat)]))] ∧ r = .own l' 0 (n + s.size)) := by
  refine ⟨?_⟩
  intro S R a w hh ho next Q hk
  have hxv := ho x (by simp [Op.operands, Call.operands]) _ hx
  have hyv := rep_val (ho y (by simp [Op.operands, Call.operands]) _ hy)
  have hs := src_str (P := P) (w := w) (s := s) hu2.h
  rw [← hyv] at hs
  obtain ⟨r, w', R', N, hrun, h1, h2, h3⟩ := app_core (P := P) (ty := ty) (t := t) (t2 := t2) (ys := s.data.toList.map fun c => [.val (.int .u8 c.toNat)]) hh hxv hoff hs (fun i x hx' hi => by
    simp only [List.getElem?_map, Option.map_eq_some_iff] at hx'
    obtain ⟨c, hc, rfl⟩ := hx'
    refine ⟨rfl, fun j y hy' => ?_⟩
    match j, hy' with
    | 0, hy' =>
      cases hy'
      exact ⟨rfl, _, by simp only [Nat.mul_one, Nat.add_zero, List.getElem?_map, hc, Option.map_some], .val _⟩) (by simp) hb hnm
  unfold Oper.wp
  rw [exec_append hrun]
  exact hk r _ S R' w' _ ⟨N, rfl, rfl⟩ h1 h2 h3

/-- A nil slice as a row of one's own. -/
theorem AWo.adopt {n : Nat} {ro : Option Nat} {G : CtxR P n ro} {ops : Array Oper} {l : List Oper} {K : Kont} (d : Nat) (e : TypeId) (k : Nat) (hd : look st.sl d = some (.val (.slice none 0 0))) (h : ∀ lab, AWo G ops l ⟨(d, .own lab 0 0) :: st.sl, (lab, .row e k []) :: st.toks⟩ K) : AWo G ops l st K := by
  refine ⟨?_⟩
  rintro a w ⟨S, R, hr⟩
  obtain ⟨N, hN⟩ := hr.holds.free
  have hfoot : ∀ g, Foot (bindL R N none) ((N, .row e k []) :: st.toks) g → Foot R st.toks g := by
    rintro g ⟨l', t', hm, hg⟩
    rcases List.mem_cons.1 hm with h1 | h1
    · cases h1; simp [blkOf, bindL_same] at hg
    · rw [blkOf_mono (bindL_mono hN) (hr.holds.tok l' t' h1).bound] at hg
      exact ⟨l', t', h1, hg⟩
  have hmono : ∀ {y : AV} {u : Value}, RepV S R w y u → RepV S (bindL R N none) w y u := fun h => h.mono (fun _ h => h) (bindL_mono hN) (fun _ _ => rfl)
  refine (h N).h a w ⟨S, bindL R N none, ⟨bindL_top hr.holds.top, ?_, ?_, fun g hg => hr.holds.notS g (hfoot g hg), hr.holds.low⟩, ?_, ?_, hr.defers, hr.size⟩
  · refine List.pairwise_cons.2 ⟨fun p hp => ⟨fun e1 => ?_, fun g hg => ?_⟩, hr.holds.apart.imp_of_mem fun {p q} hp hq hpq => ⟨hpq.1, fun g => ?_⟩⟩
    · obtain ⟨q, hq⟩ := (hr.holds.tok p.1 p.2 hp).bound
      have e1' : N = p.1 := e1
      rw [← e1', hN] at hq; cases hq
    · simp [blkOf, bindL_same] at hg
    · rw [blkOf_mono (bindL_mono hN) (hr.holds.tok p.1 p.2 hp).bound, blkOf_mono (bindL_mono hN) (hr.holds.tok q.1 q.2 hq).bound]
      exact hpq.2 g
  · intro l' t' hm
    rcases List.mem_cons.1 hm with h1 | h1
    · cases h1; simp [TokHolds, bindL_same]
    · exact (hr.holds.tok l' t' h1).mono (fun _ h => h) (bindL_mono hN) (fun _ _ => rfl) (fun _ _ => rfl)
  · intro d' x hx
    simp only [look] at hx
    by_cases hdd : d = d'
    · subst hdd
      rw [Nat.beq_refl] at hx
      cases hx
      have := rep_val (hr.slots d _ hd)
      rw [this]
      exact .onil bindL_same
    · rw [beq_of_ne hdd] at hx
      exact hmono (hr.slots d' x hx)
  · have o := hr.out
    refine ⟨o.os, o.tape, o.output, o.size, o.block, o.S0, o.S1, fun l q hq => bindL_mono hN _ _ (o.R0 l q hq), fun g hg => o.foot g (hfoot g hg), fun l' t' hm => ?_⟩
    rcases List.mem_cons.1 hm with h1 | h1
    · cases h1
      refine .inr ?_
      cases hb : G.R0 N with
      | none => rfl
      | some q => rw [o.R0 _ q hb] at hN; cases hN
    · exact o.keys l' t' h1

/-- A row that is no longer written. -/
theorem AWo.freeze {n : Nat} {ro : Option Nat} {G : CtxR P n ro} {ops : Array Oper} {l : List Oper} {K : Kont} (d : Nat) {lab off m : Nat} {e : TypeId} {k : Nat} {xs : List (List AV)} {rs : List (Nat × Tok)} (hd : look st.sl d = some (.own lab off m)) (ht : Take st.toks lab (.row e k xs) rs) (hm : off + m ≤ xs.length)
    (h : AWo G ops l ⟨(d, .sl k (xs.drop off) m) :: st.sl, rs⟩ K) : AWo G ops l st K := by
  refine ⟨?_⟩
  rintro a w ⟨S, R, hr⟩
  have hp := ht.perm
  have hh := hr.holds.sub (us := (lab, .row e k xs) :: rs) ⟨[], by simpa using hp⟩
  have htok := hh.tok lab _ (List.mem_cons_self)
  have hv := hr.slots d _ hd
  let S' : Nat → Prop := fun b => S b ∨ blkOf R lab = some b
  have hmono : ∀ {y : AV} {u : Value}, RepV S R w y u → RepV S' R w y u := fun h => h.mono (fun _ h => .inl h) (fun _ _ h => h) (fun _ _ => rfl)
  have hap := List.pairwise_cons.1 hh.apart
  have hrs : Foot R rs = fun g => ∃ l t, (l, t) ∈ rs ∧ blkOf R l = some g := rfl
  refine h.h a w ⟨S', R, ⟨hh.top, hap.2, ?_, ?_, ?_⟩, ?_, ?_, hr.defers, hr.size⟩
  · intro l' t' hm'
    exact (hh.tok l' t' (List.mem_cons_of_mem _ hm')).mono (fun _ h => .inl h) (fun _ _ h => h) (fun _ _ => rfl) (fun _ _ => rfl)
  · rintro g ⟨l', t', hm', hg⟩ (h1 | h1)
    · exact hh.notS g ⟨l', t', List.mem_cons_of_mem _ hm', hg⟩ h1
    · exact (hap.1 _ hm').2 g h1 hg
  · rintro b (h1 | h1)
    · exact hh.low b h1
    · exact htok.lt h1
  · intro d' x hx
    simp only [look] at hx
    by_cases hdd : d = d'
    · subst hdd
      rw [Nat.beq_refl] at hx
      cases hx
      generalize a.tmps.getD d undef = v at hv
      cases hv with
      | onil h1 =>
        simp only [TokHolds, h1] at htok
        subst htok
        exact .sl (F := fun _ _ => undef) (by simp) (by simp) (by simp [maxLen]) (by simp) (by simp) (by simp) (by simp)
      | own h1 hn hmx hT ha hs =>
        rename_i c q ad
        simp only [TokHolds, h1] at htok
        obtain ⟨rfl, cur, fr, hg, hfr, hcur, hbx, hmt, hrow⟩ := htok
        refine .sl (F := fun i j => cur.getD ((q.b + off + i) * q.k + j) undef) (by simp; omega) (by simp; omega) hmx (fun x hx => ?_) (fun hne => ?_) (fun x hx y hy => ?_) (fun i x j y hx hy => ?_)
        · obtain ⟨i, hi⟩ := List.getElem?_of_mem hx
          rw [List.getElem?_drop] at hi
          exact (hrow _ x hi).1
        · have hlt : off < xs.length := by
            rcases Nat.lt_or_ge off xs.length with h3 | h3
            · exact h3
            · exact absurd (List.drop_eq_nil_of_le h3) hne
          obtain rfl : ad = some ⟨q.g, (q.b + off) * q.k, none⟩ := ha.resolve_left (by omega)
          refine ⟨_, rfl, .inr (by simp [blkOf, h1]), fun i x j y hx hy => ?_⟩
          rw [List.getElem?_drop] at hx
          obtain ⟨_, u, hu, _⟩ := (hrow _ x hx).2 j y hy
          rw [add_mk, cell_of_row w q.g _ cur e fr hg]
          have e1 : (q.b + off) * q.k + (i * q.k + j) = (q.b + (off + i)) * q.k + j := by rw [← Nat.add_assoc, ← Nat.add_mul, Nat.add_assoc q.b]
          have e2 : (q.b + off + i) * q.k + j = (q.b + (off + i)) * q.k + j := by rw [Nat.add_assoc q.b]
          rw [e1, hu, e2, Array.getD_eq_getD_getElem?, hu]
          rfl
        · obtain ⟨i, hi⟩ := List.getElem?_of_mem hx
          obtain ⟨j, hj⟩ := List.getElem?_of_mem hy
          rw [List.getElem?_drop] at hi
          exact ((hrow _ x hi).2 j y hj).1
        · rw [List.getElem?_drop] at hx
          obtain ⟨_, u, hu, hrep⟩ := (hrow _ x hx).2 j y hy
          have e2 : (q.b + off + i) * q.k + j = (q.b + (off + i)) * q.k + j := by rw [Nat.add_assoc q.b]
          have : cur.getD ((q.b + off + i) * q.k + j) undef = u := by rw [e2, Array.getD_eq_getD_getElem?, hu]; rfl
          rw [this]
          exact hmono hrep
    · rw [beq_of_ne hdd] at hx
      exact hmono (hr.slots d' x hx)
  · have o := hr.out
    refine ⟨o.os, o.tape, o.output, o.size, o.block, fun b hb => .inl (o.S0 b hb), ?_, o.R0, fun g ⟨l', t', hm', hg⟩ => o.foot g ⟨l', t', hp.mem_iff.2 (List.mem_cons_of_mem _ hm'), hg⟩, fun l' t' hm' => o.keys l' t' (hp.mem_iff.2 (List.mem_cons_of_mem _ hm'))⟩
    rintro b (h1 | h1)
    · exact o.S1 b h1
    · exact .inr (o.foot b ⟨lab, _, hp.mem_iff.2 (List.mem_cons_self), h1⟩)
end

end Go.Proofs.YtphkfejckafamaaDoorA

/- Struct results, slice literals, conversions, the small operations. -/
set_option linter.unusedVariables false
namespace Go.Proofs.YtphkfejckafamaaDoorA
open Go.RowKit

section
variable {P : Program} {st : St} {dst : Option Tmp} {ty : TypeId} {pos : String} {after : Array Edge} {g : Option (Nat × Bool)}

theorem res_cell {t e : TypeId} {ad : Tmp} {z : Value} {kt b k l i j : Nat} {xs : List (List AV)} {cs : List AV} {r : List (Nat × Tok)} [hu : AgF P t true] [he : ElF P t z kt b] (hx : look st.sl ad = some (.ptr l i j)) (ht : Take st.toks l (.row e k xs) r) (hcs : xs[i]? = some cs) (hk : j + kt ≤ cs.length) :
    Res1 P st (.cell ad t) (.agg ((cs.drop j).take kt)) := by
  intro S R a w hh hs
  have hv := hs ad _ hx
  generalize hvv : a.tmps.getD ad undef = v at hv
  cases hv with
  | ptr h =>
    rename_i q
    have htok := hh.tok l _ (ht.perm.mem_iff.2 (List.mem_cons_self))
    simp only [TokHolds, h] at htok
    obtain ⟨hkk, cur, fr, hg, _, _, _, _, hrow⟩ := htok
    have hcell : ∀ m, m < kt → ∃ y u, cs[j + m]? = some y ∧ w.cell? ⟨q.g, (q.b + i) * q.k + (j + m), none⟩ = some u ∧ RepV S R w y u := fun m hm => by
      obtain ⟨y, hy⟩ : ∃ y, cs[j + m]? = some y := ⟨_, List.getElem?_eq_getElem (by omega)⟩
      obtain ⟨u, hu', hr', _⟩ := rowAt_cell hg hrow hcs hy
      exact ⟨y, u, hy, hu', hr'⟩
    have hF : ∃ F : Nat → Value, ∀ m, m < kt → ∃ y, cs[j + m]? = some y ∧ w.cell? ⟨q.g, (q.b + i) * q.k + (j + m), none⟩ = some (F m) ∧ RepV S R w y (F m) := by
      refine ⟨fun m => if hm : m < kt then Classical.choose (Classical.choose_spec (hcell m hm)) else undef, fun m hm => ?_⟩
      simp only [hm, dif_pos]
      exact ⟨_, Classical.choose_spec (Classical.choose_spec (hcell m hm))⟩
    obtain ⟨F, hF⟩ := hF
    refine ⟨.agg ((List.range kt).map F).toArray, ?_, .agg (by simp; omega) (fun m y hy => ?_)⟩
    · have hl := run_loadVar_agg (P := P) (t := t) ⟨q.g, (q.b + i) * q.k + j, none⟩ ((List.range kt).map F) (by simp) w (fun m v hmv => by
        have hm := (List.getElem?_eq_some_iff.1 hmv).1
        simp at hm
        simp [hm] at hmv
        obtain ⟨y, _, hc, _⟩ := hF m hm
        rw [add_mk, Nat.add_assoc, hc, hmv])
      simp only [resOne, Sem.run_bind, hvv, asAddr, Sem.run_pure, Result.andThen_ok, hl]
    · have hm := (List.getElem?_eq_some_iff.1 hy).1
      rw [List.length_take] at hm
      have hm : m < kt := by omega
      rw [List.getElem?_take, if_pos hm, List.getElem?_drop] at hy
      obtain ⟨y', hy', _, hr'⟩ := hF m hm
      rw [hy] at hy'
      cases hy'
      simpa [hm] using hr'

/-! ### Slice literals -/
def chunk (k : Nat) (cs : List AV) : Nat → List (List AV)
  | 0 => []
  | n + 1 => cs.take k :: chunk k (cs.drop k) n

theorem chunk_get {k : Nat} : ∀ {n : Nat} {cs : List AV} {i : Nat} {x : List AV}, (chunk k cs n)[i]? = some x → i < n ∧ x = (cs.drop (i * k)).take k
  | 0, cs, i, x, h => by simp [chunk] at h
  | n + 1, cs, i, x, h => by
    cases i with
    | zero => simp only [chunk, List.getElem?_cons_zero] at h; cases h; simp
    | succ i =>
      simp only [chunk, List.getElem?_cons_succ] at h
      obtain ⟨h1, h2⟩ := chunk_get h
      refine ⟨by omega, ?_⟩
      rw [h2, List.drop_drop, Nat.add_mul]
      congr 2; omega
theorem chunk_len {k : Nat} : ∀ (n : Nat) (cs : List AV), (chunk k cs n).length = n
  | 0, _ => rfl
  | n + 1, cs => by simp [chunk, chunk_len n]

def repl (n : Nat) (zs : List AV) : List AV := (List.replicate n zs).flatten

theorem repl_len (n : Nat) (zs : List AV) : (repl n zs).length = n * zs.length := by simp [repl]
theorem repl_get {n : Nat} {zs : List AV} {i : Nat} {y : AV} (h : (repl n zs)[i]? = some y) : zs[i % zs.length]? = some y := by
  induction n generalizing i with
  | zero => simp [repl] at h
  | succ n ih =>
    have e : repl (n + 1) zs = zs ++ repl n zs := by simp [repl, List.replicate_succ]
    rw [e, List.getElem?_append] at h
    split at h
    · rename_i hlt
      rw [Nat.mod_eq_of_lt hlt]; exact h
    · rename_i hge
      have := ih h
      rwa [← Nat.mod_eq_sub_mod (by omega)] at this

def allOnes (cs : List AV) : Bool := cs.all (·.one)

theorem run_buildSlice {S : Nat → Prop} {R : Lab} {w : World} {a : Act} {t e : TypeId} {z : Value} {k b len : Nat} [hu : Und P t (.slice e)] [he : ElF P e z k b] {parts : List (Nat × Operand)} {ps : List (Nat × AV)} {cs : List AV} (hk0 : 0 < k) (hlen : len * k ≤ 16777216) (hp : getParts st parts = some ps)
    (h1 : onesB ps = true) (hf : fillAV (fun (i : Nat) => some (i * k, k)) (repl len (vcells z)) ps = some cs) (ho : OpsAt S R w st a (.buildSlice t len parts.toArray)) :
    ∃ us, (execOp a.eval ⟨dst, .buildSlice t len parts.toArray, ty, pos, after, g⟩).run P w = .ok (.value (.slice (some ⟨w.heap.size, 0, none⟩) len len)) (w.alloc (.cells us e)) ∧ RepC S R w cs us := by
  obtain ⟨i0, hi, hz, hsz, hb, hzc, hall⟩ := he.h
  let zv : Array Value := (Array.range (len * k)).map (z.cells[· % z.cells.size]!)
  have hvz : (vcells z).length = k := by simp [vcells, hzc]
  obtain ⟨us, hus, hr⟩ := fill_rep (S := S) (R := R) (w := w) (a := a) (place := fun (i : Nat) => some (i * k, k)) (vs := zv) hp (fun p hp' y hy => ho p.2 (by simp [Op.operands]; exact ⟨p.1, hp'⟩) y hy) (onesB_iff h1) ⟨by simp [zv, repl_len, hvz], fun i y hy => by
    have hlt := (List.getElem?_eq_some_iff.1 hy).1
    rw [repl_len, hvz] at hlt
    have hy' := repl_get hy
    rw [hvz] at hy'
    simp only [vcells, List.getElem?_map, Option.map_eq_some_iff, Array.getElem?_toList] at hy'
    obtain ⟨u, hu', rfl⟩ := hy'
    have hm : i % k < z.cells.size := by rw [hzc]; exact Nat.mod_lt _ hk0
    have : zv.getD i undef = u := by
      have e1 : z.cells[i % z.cells.size]! = u := by
        rw [hzc]
        simp only [getElem!_def, hu']
      simp [zv, hlt, e1]
    rw [this]; exact .val _⟩ hf
  refine ⟨us, ?_, hr⟩
  have hn : ¬ (len * k > 2 ^ 24) := by
    have : (2 : Nat) ^ 24 = 16777216 := rfl
    omega
  have hmap : (parts.toArray.map fun (p : Nat × Operand) => (p.1, a.eval p.2)).toList = parts.map fun p => (p.1, a.eval p.2) := by simp
  simp only [execOp, Instr.buildSlice, Sem.run_bind, run_underlying hu.h, Result.andThen_ok, ElF.size (P := P) (t := e), if_neg hn, Sem.run_pure]
  by_cases hl0 : len * k = 0
  · have hz0 : zv = #[] := by simp [zv, hl0]
    have hzz : Array.map (fun (_ : Nat) => (default : Value)) (Array.range 0) = #[] := by
      apply Array.ext'
      simp [Array.range]
    rw [hz0] at hus
    simp [hl0, newRow]
    rw [hzz, hus]
    simp
  · simp only [if_neg hl0, Sem.run_bind, ElF.zero (P := P) (t := e), Sem.run_pure, Result.andThen_ok]
    simp only [hmap]
    change ((match Instr.fill (fun i => some (i * k, k)) zv (parts.map fun p => (p.1, a.eval p.2)) with
      | some cells => _
      | _ => _ : Sem Value).run P w).andThen _ = _
    rw [hus]
    simp [newRow]

/-- A slice literal that is only read. -/
theorem ev_buildSlice {t e : TypeId} {z : Value} {k b len : Nat} {parts : List (Nat × Operand)} {ps : List (Nat × AV)} {cs : List AV} [hu : Und P t (.slice e)] [he : ElF P e z k b] (hp : getParts st parts = some ps) (hk0 : Nat.blt 0 k = true) (hlen : Nat.ble (len * k) 16777216 = true) (h1 : onesB ps = true)
    (hf : fillAV (fun (i : Nat) => some (i * k, k)) (repl len (vcells z)) ps = some cs) (h2 : allOnes cs = true) (h3 : Nat.beq cs.length (len * k) = true) : OpEv P ⟨dst, .buildSlice t len parts.toArray, ty, pos, after, g⟩ st (.sl k (chunk k cs len) len) := by
  refine ⟨?_⟩
  intro S R a w hh ho next Q hk
  have hk0 : 0 < k := by simpa [Nat.blt_eq] using hk0
  have hlen := Nat.le_of_ble_eq_true hlen
  have h3 := Nat.eq_of_beq_eq_true h3
  obtain ⟨us, hrun, hr⟩ := run_buildSlice (P := P) (dst := dst) (ty := ty) (pos := pos) (after := after) (g := g) (t := t) (e := e) hk0 hlen hp h1 hf ho
  unfold Oper.wp
  rw [hrun]
  have hsz : (w.alloc (.cells us e)).heap.size = w.heap.size + 1 := by simp
  let S' : Nat → Prop := fun b => S b ∨ b = w.heap.size
  have hgrow : Grow S R w S' R (w.alloc (.cells us e)) := ⟨(Below.refl _ w).alloc (Nat.le_refl _) _, fun _ h => .inl h, fun b h => h.imp id (fun e => by subst e; rw [hsz]; omega), fun _ _ h => h, hh.top⟩
  have hmono : ∀ {y : AV} {u : Value}, RepV S R w y u → RepV S' R (w.alloc (.cells us e)) y u := fun h => h.mono hgrow.st hgrow.lab (fun b hb => hgrow.below.block b (hh.low b hb))
  have hget : ∀ (i : Nat) (x : List AV) (j : Nat) (y : AV), (chunk k cs len)[i]? = some x → x[j]? = some y → i * k + j < us.size ∧ cs[i * k + j]? = some y := fun i x j y hx hy => by
    obtain ⟨hi, rfl⟩ := chunk_get hx
    have hj := (List.getElem?_eq_some_iff.1 hy).1
    rw [List.length_take] at hj
    rw [List.getElem?_take, if_pos (by omega), List.getElem?_drop] at hy
    exact ⟨by rw [hr.1]; exact (List.getElem?_eq_some_iff.1 hy).1, hy⟩
  refine hk _ S' R _ hgrow (.sl (F := fun i j => us.getD (i * k + j) undef) (by rw [chunk_len]; exact Nat.le_refl _) (by rw [chunk_len]; exact Nat.le_refl _) (by
    have : maxLen = 9223372036854775807 := rfl
    have : len ≤ len * k := Nat.le_mul_of_pos_right _ hk0
    omega) (fun x hx => ?_) (fun _ => ⟨_, rfl, .inr rfl, fun i x j y hx hy => ?_⟩) (fun x hx y hy => ?_) (fun i x j y hx hy => ?_))
  · obtain ⟨i, hi⟩ := List.getElem?_of_mem hx
    obtain ⟨h4, rfl⟩ := chunk_get hi
    rw [List.length_take, List.length_drop, h3]
    have : (i + 1) * k ≤ len * k := Nat.mul_le_mul_right _ (by omega)
    rw [Nat.add_mul] at this
    omega
  · obtain ⟨hlt, _⟩ := hget i x j y hx hy
    rw [add_mk, Nat.zero_add]
    have : (w.alloc (.cells us e)).cell? ⟨w.heap.size, i * k + j, none⟩ = us[i * k + j]? := World.cell?_alloc_at _ _ _ _ rfl
    rw [this, Array.getElem?_eq_getElem hlt]
    simp [hlt]
  · obtain ⟨i, hi⟩ := List.getElem?_of_mem hx
    obtain ⟨j, hj⟩ := List.getElem?_of_mem hy
    exact List.all_eq_true.1 h2 y (List.mem_of_getElem? (hget i x j y hi hj).2)
  · exact hmono (hr.2 _ y (hget i x j y hx hy).2)

/-- A slice literal that will be written. -/
theorem eff_buildSlice {t e : TypeId} {z : Value} {k b len : Nat} {parts : List (Nat × Operand)} {ps : List (Nat × AV)} {cs : List AV} [hu : Und P t (.slice e)] [he : ElF P e z k b] (hp : getParts st parts = some ps) (hk0 : Nat.blt 0 k = true) (hlen : Nat.ble (len * k) 16777216 = true) (h1 : onesB ps = true)
    (hf : fillAV (fun (i : Nat) => some (i * k, k)) (repl len (vcells z)) ps = some cs) (h2 : allOnes cs = true) (h3 : Nat.beq cs.length (len * k) = true) : OpEff P ⟨dst, .buildSlice t len parts.toArray, ty, pos, after, g⟩ st [] (fun ts r => ∃ l, ts = [(l, .row e k (chunk k cs len))] ∧ r = .own l 0 len) := by
  refine ⟨?_⟩
  intro S R a w hh ho next Q hk
  have hk0 : 0 < k := by simpa [Nat.blt_eq] using hk0
  have hlen := Nat.le_of_ble_eq_true hlen
  have h3 := Nat.eq_of_beq_eq_true h3
  obtain ⟨us, hrun, hr⟩ := run_buildSlice (P := P) (dst := dst) (ty := ty) (pos := pos) (after := after) (g := g) (t := t) (e := e) hk0 hlen hp h1 hf ho
  obtain ⟨N, hN⟩ := hh.free
  have hml : maxLen = 9223372036854775807 := rfl
  have hle : len ≤ len * k := Nat.le_mul_of_pos_right _ hk0
  have hf' := fresh_row (e := e) hN hh.top hh.low (Below.refl _ w) rfl (cur := us) (k := k) (t := len) (xs := chunk k cs len) (by rw [hr.1, h3]) (by rw [chunk_len]; exact Nat.le_refl _) (by omega) (fun i x hx => by
    obtain ⟨h4, rfl⟩ := chunk_get hx
    have hik : (i + 1) * k ≤ len * k := Nat.mul_le_mul_right _ (by omega)
    rw [Nat.add_mul] at hik
    refine ⟨by rw [List.length_take, List.length_drop, h3]; omega, fun j y hy => ?_⟩
    have hj := (List.getElem?_eq_some_iff.1 hy).1
    rw [List.length_take] at hj
    rw [List.getElem?_take, if_pos (by omega), List.getElem?_drop] at hy
    have hlt : i * k + j < us.size := by rw [hr.1]; exact (List.getElem?_eq_some_iff.1 hy).1
    refine ⟨List.all_eq_true.1 h2 y (List.mem_of_getElem? hy), us.getD (i * k + j) undef, ?_, hr.2 _ y hy⟩
    rw [Array.getElem?_eq_getElem hlt]
    simp [hlt])
  unfold Oper.wp
  rw [hrun]
  refine hk _ _ S _ _ _ ⟨N, rfl, rfl⟩ hf'.1 ?_ hf'.2
  exact .own bindL_same (Nat.le_refl _) (by omega) (by simp) (.inr (by simp)) ⟨_, rfl, rfl⟩

/-! ### Small ones -/
theorem ev_not {t : TypeId} {x : Operand} {p : Bool} (hx : st.get x = some (.val (.bool p))) : OpEv P ⟨dst, .unOp .not t x, ty, pos, after, g⟩ st (.val (.bool (!p))) :=
  ev_same fun S R a w _ ho => ⟨_, by
    have e1 := rep_val (ho x (by simp [Op.operands]) _ hx)
    simp [execOp, e1, Op.unary], .val _⟩
theorem ev_pick_b {c x y : Operand} {b p q : Bool} (hc : st.get c = some (.val (.bool b))) (hx : st.get x = some (.val (.bool p))) (hy : st.get y = some (.val (.bool q))) : OpEv P ⟨dst, .pick c x y, ty, pos, after, g⟩ st (.val (.bool (bif b then p else q))) :=
  ev_same fun S R a w _ ho => ⟨.bool (bif b then p else q), by
    have e1 := rep_val (ho c (by simp [Op.operands]) _ hc)
    have e2 := rep_val (ho x (by simp [Op.operands]) _ hx)
    have e3 := rep_val (ho y (by simp [Op.operands]) _ hy)
    cases b <;> simp [execOp, e1, e2, e3, asBool], .val _⟩
theorem ev_eqb {t t' : TypeId} {x y : Operand} {p q : Bool} [hu : Und P t .bool] (hx : st.get x = some (.val (.bool p))) (hy : st.get y = some (.val (.bool q))) : OpEv P ⟨dst, .binOp .eql t x y t', ty, pos, after, g⟩ st (.val (.bool (p == q))) :=
  ev_bin hx hy fun w => by
    have := run_equalIn_bool' (P := P) w 9999 t p q hu.h
    simp [eqGuard, binOp, Op.equal, Op.maxDepth, this]
theorem ev_neb {t t' : TypeId} {x y : Operand} {p q : Bool} [hu : Und P t .bool] (hx : st.get x = some (.val (.bool p))) (hy : st.get y = some (.val (.bool q))) : OpEv P ⟨dst, .binOp .neq t x y t', ty, pos, after, g⟩ st (.val (.bool (!(p == q)))) :=
  ev_bin hx hy fun w => by
    have := run_equalIn_bool' (P := P) w 9999 t p q hu.h
    simp [eqGuard, binOp, Op.equal, Op.maxDepth, this]
/-- Structs, by the type's own law. -/
theorem ev_eqa {t t' : TypeId} {x y : Operand} {cs ds : List AV} {r : Bool} (hx : st.get x = some (.agg cs)) (hy : st.get y = some (.agg ds)) (hg : P.eqGuardType P.depth t = false)
    (h : ∀ S R w (us vs : Array Value), RepV S R w (.agg cs) (.agg us) → RepV S R w (.agg ds) (.agg vs) → (Op.equal t (.agg us) (.agg vs)).run P w = .ok r w) : OpEv P ⟨dst, .binOp .eql t x y t', ty, pos, after, g⟩ st (.val (.bool r)) :=
  ev_same fun S R a w _ ho => by
    have h1 := ho x (by simp [Op.operands]) _ hx
    have h2 := ho y (by simp [Op.operands]) _ hy
    generalize hu : a.eval x = u at h1
    generalize hv : a.eval y = v at h2
    cases h1 with
    | agg hl1 hr1 =>
      cases h2 with
      | agg hl2 hr2 =>
        refine ⟨.bool r, ?_, .val _⟩
        have := h S R w _ _ (.agg hl1 hr1) (.agg hl2 hr2)
        simp [execOp, hu, hv, eqGuard, hg, binOp, this]
theorem ev_nea {t t' : TypeId} {x y : Operand} {cs ds : List AV} {r : Bool} (hx : st.get x = some (.agg cs)) (hy : st.get y = some (.agg ds)) (hg : P.eqGuardType P.depth t = false)
    (h : ∀ S R w (us vs : Array Value), RepV S R w (.agg cs) (.agg us) → RepV S R w (.agg ds) (.agg vs) → (Op.equal t (.agg us) (.agg vs)).run P w = .ok r w) : OpEv P ⟨dst, .binOp .neq t x y t', ty, pos, after, g⟩ st (.val (.bool (!r))) :=
  ev_same fun S R a w _ ho => by
    have h1 := ho x (by simp [Op.operands]) _ hx
    have h2 := ho y (by simp [Op.operands]) _ hy
    generalize hu : a.eval x = u at h1
    generalize hv : a.eval y = v at h2
    cases h1 with
    | agg hl1 hr1 =>
      cases h2 with
      | agg hl2 hr2 =>
        refine ⟨.bool (!r), ?_, .val _⟩
        have := h S R w _ _ (.agg hl1 hr1) (.agg hl2 hr2)
        simp [execOp, hu, hv, eqGuard, hg, binOp, this]

/-- A struct's plain cells as they lie. -/
theorem agg_vals {S : Nat → Prop} {R : Lab} {w : World} {vs : List Value} {us : Array Value} (h : RepV S R w (.agg (vs.map .val)) (.agg us)) : us = vs.toArray := by
  cases h with
  | agg hl hr =>
    apply Array.ext_getElem?
    intro i
    by_cases hi : i < vs.length
    · have hx : (vs.map AV.val)[i]? = some (.val vs[i]) := by simp [hi]
      have := rep_val (hr i _ hx)
      have hlt : i < us.size := by rw [hl]; simpa using hi
      rw [Array.getElem?_eq_getElem hlt]
      simp [hlt] at this
      simp [hi, this]
    · have h1 : us.size ≤ i := by rw [hl]; simpa using hi
      rw [Array.getElem?_eq_none h1]
      simp; omega

theorem ev_and {t t' : TypeId} {x y : Operand} {k : IntKind} {p q : Int} (hx : st.get x = some (.val (.int k p))) (hy : st.get y = some (.val (.int k q))) :
    OpEv P ⟨dst, .binOp .and t x y t', ty, pos, after, g⟩ st (.val (.int k (k.wrap ((BitVec.ofInt k.bits p &&& BitVec.ofInt k.bits q).toNat)))) := ev_bin hx hy fun w => by simp [eqGuard, binOp, Op.intBits]
theorem ev_or {t t' : TypeId} {x y : Operand} {k : IntKind} {p q : Int} (hx : st.get x = some (.val (.int k p))) (hy : st.get y = some (.val (.int k q))) :
    OpEv P ⟨dst, .binOp .or t x y t', ty, pos, after, g⟩ st (.val (.int k (k.wrap ((BitVec.ofInt k.bits p ||| BitVec.ofInt k.bits q).toNat)))) := ev_bin hx hy fun w => by simp [eqGuard, binOp, Op.intBits]
theorem ev_rem {t t' : TypeId} {x y : Operand} {k : IntKind} {p q : Int} (hx : st.get x = some (.val (.int k p))) (hy : st.get y = some (.val (.int k q))) (h0 : q ≠ 0) :
    OpEv P ⟨dst, .binOp .rem t x y t', ty, pos, after, g⟩ st (.val (.int k (p.tmod q))) := ev_bin hx hy fun w => by simp [eqGuard, binOp, Op.intDiv, h0]
theorem ev_quo {t t' : TypeId} {x y : Operand} {k : IntKind} {p q : Int} (hx : st.get x = some (.val (.int k p))) (hy : st.get y = some (.val (.int k q))) (h0 : q ≠ 0) :
    OpEv P ⟨dst, .binOp .quo t x y t', ty, pos, after, g⟩ st (.val (.int k (k.wrap (p.tdiv q)))) := ev_bin hx hy fun w => by simp [eqGuard, binOp, Op.intDiv, h0]

theorem ev_conv_int {src d : TypeId} {x : Operand} {k k' k2 : IntKind} {p : Int} [hs : Und P src (.int k2)] [hd : Und P d (.int k')] (hx : st.get x = some (.val (.int k p))) : OpEv P ⟨dst, .convert src d x, ty, pos, after, g⟩ st (.val (.int k' (k'.wrap p))) :=
  ev_same fun S R a w _ ho => ⟨_, by
    have e1 := rep_val (ho x (by simp [Op.operands]) _ hx)
    simp [execOp, convert, run_underlying hs.h, run_underlying hd.h, e1, Conv.intToInt], .val _⟩
theorem ev_conv_str {src d : TypeId} {x : Operand} {s : ByteArray} [hs : Und P src .string] [hd : Und P d .string] (hx : st.get x = some (.val (.string s))) : OpEv P ⟨dst, .convert src d x, ty, pos, after, g⟩ st (.val (.string s)) :=
  ev_same fun S R a w _ ho => ⟨_, by
    have e1 := rep_val (ho x (by simp [Op.operands]) _ hx)
    simp [execOp, convert, run_underlying hs.h, run_underlying hd.h, e1], .val _⟩

/-- Bytes as cells. -/
def bcells (ns : List Int) : List (List AV) := ns.map fun n => [.val (.int .u8 n)]
def ofInts (ns : List Int) : ByteArray := ⟨(ns.map fun n => UInt8.ofNat n.toNat).toArray⟩

theorem run_conv_bytes {src d e : TypeId} [hs : Und P src (.slice e)] [he : Und P e (.int .u8)] [hd : Und P d .string] {w : World} {a : Option Addr} {n c : Nat} {ns : List Int} (hl : ns.length = n) (h : 0 < n → ∃ ad, a = some ad ∧ ∀ (j : Nat) (p : Int), ns[j]? = some p → w.cell? (ad.add j) = some (.int .u8 p)) :
    (convert src d (.slice a n c)).run P w = .ok (.string (ofInts ns)) w := by
  have hconv : (convert src d (.slice a n c)).run P w = (Conv.bytesToString (.slice a n c)).run P w := by simp [convert, run_underlying hs.h, run_underlying hd.h, run_underlying he.h]
  rw [hconv]
  have hcat : ∀ (ns : List Int) (s : ByteArray), (ns.foldl (fun (r : ByteArray) n => r.push (UInt8.ofNat n.toNat)) s) = s ++ ofInts ns := by
    intro ns
    induction ns with
    | nil => intro s; apply ByteArray.ext; apply Array.ext'; simp [ofInts]
    | cons n ns ih =>
      intro s
      rw [List.foldl_cons, ih]
      apply ByteArray.ext
      apply Array.ext'
      simp [ofInts, ByteArray.push]
  cases a with
  | none =>
    have hn0 : n = 0 := by
      rcases Nat.eq_zero_or_pos n with h0 | h0
      · exact h0
      · obtain ⟨ad, h1, _⟩ := h h0; cases h1
    subst hn0
    have : ns = [] := List.eq_nil_of_length_eq_zero hl
    subst this
    simp [Conv.bytesToString, ofInts]; rfl
  | some ad =>
    have hload : (loadCells ad n).run P w = .ok (ns.map (Value.int .u8)).toArray w := by
      have := run_loadCells_list (P := P) (w := w) ad (ns.map (Value.int .u8)) (fun j v hv => by
        simp only [List.getElem?_map, Option.map_eq_some_iff] at hv
        obtain ⟨p, hp, rfl⟩ := hv
        have hlt := (List.getElem?_eq_some_iff.1 hp).1
        obtain ⟨ad', e1, hc⟩ := h (by omega)
        cases e1
        exact hc j p hp)
      simpa [hl] using this
    simp only [Conv.bytesToString, Sem.run_bind, hload, Result.andThen_ok]
    rw [← Array.forIn_toList]
    have hce := hcat ns ByteArray.empty
    have he0 : ByteArray.empty ++ ofInts ns = ofInts ns := by simp
    rw [he0] at hce
    simp [hce]
end

end Go.Proofs.YtphkfejckafamaaDoorA
