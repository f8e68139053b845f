/- A small program logic over the model's weakest preconditions: values that bear their contents, tokens for what may be written. -/
import Derived.WalkKit
import Derived.Orders
namespace Go.Proofs.YtmenbolalghljaaA
open Go.RowKit

/-- Where a token lies: block, base (in elements), cells an element, elements in the block. -/
structure Blk where
  g : Nat
  b : Nat
  k : Nat
  t : Nat

/-- What a label is bound to: nothing yet; a nil slice; a block. -/
abbrev Lab := Nat → Option (Option Blk)

inductive AV where
  | val (v : Value)
  | dead
  | agg (cs : List AV)
  | tup (cs : List AV)
  | sl (k : Nat) (xs : List (List AV)) (n : Nat)
  | ip (cs : List AV)
  | ptr (l i j : Nat)
  | own (l off n : Nat)
  | mref (l : Nat)
  | fn (f : FuncId) (caps : List AV)
  | imap (es : List (AV × AV))
  | bm (f : FuncId) (bs : List AV)

/-- May it stand in one cell? -/
def AV.one : AV → Bool
  | .val v => v.oneCell'
  | .dead => false
  | .agg _ => false
  | .tup _ => false
  | _ => true

inductive RepV (S : Nat → Prop) (R : Lab) (w : World) : AV → Value → Prop
  | val (v : Value) : RepV S R w (.val v) v
  | dead (v : Value) : RepV S R w .dead v
  | agg {cs : List AV} {vs : Array Value} (hl : vs.size = cs.length) (h : ∀ i x, cs[i]? = some x → RepV S R w x (vs.getD i undef)) : RepV S R w (.agg cs) (.agg vs)
  | tup {cs : List AV} {vs : Array Value} (hl : vs.size = cs.length) (h : ∀ i x, cs[i]? = some x → RepV S R w x (vs.getD i undef)) : RepV S R w (.tup cs) (.tuple vs)
  | sl {k n c : Nat} {xs : List (List AV)} {a : Option Addr} {F : Nat → Nat → Value} (hn : n ≤ xs.length) (hc : xs.length ≤ c) (hm : c ≤ maxLen) (hk : ∀ x, x ∈ xs → x.length = k)
      (ha : xs ≠ [] → ∃ ad, a = some ad ∧ S ad.block ∧ ∀ i x j y, xs[i]? = some x → x[j]? = some y → w.cell? (ad.add (i * k + j)) = some (F i j))
      (h1 : ∀ x, x ∈ xs → ∀ y, y ∈ x → y.one = true)
      (hF : ∀ i x j y, xs[i]? = some x → x[j]? = some y → RepV S R w y (F i j)) : RepV S R w (.sl k xs n) (.slice a n c)
  | ip {cs : List AV} {ad : Addr} {F : Nat → Value} (hS : S ad.block) (hc : ∀ j y, cs[j]? = some y → w.cell? (ad.add j) = some (F j)) (h1 : ∀ y, y ∈ cs → y.one = true)
      (hF : ∀ j y, cs[j]? = some y → RepV S R w y (F j)) : RepV S R w (.ip cs) (.pointer (some ad))
  | ptr {l i j : Nat} {q : Blk} (h : R l = some (some q)) : RepV S R w (.ptr l i j) (.pointer (some ⟨q.g, (q.b + i) * q.k + j, none⟩))
  | own {l off n c : Nat} {q : Blk} {a : Option Addr} (h : R l = some (some q)) (hn : n ≤ c) (hm : c ≤ maxLen) (ht : q.b + off + c = q.t) (ha : c = 0 ∨ a = some ⟨q.g, (q.b + off) * q.k, none⟩) (hs : ∃ ad, a = some ad ∧ ad.block = q.g) : RepV S R w (.own l off n) (.slice a n c)
  | onil {l : Nat} (h : R l = some none) : RepV S R w (.own l 0 0) (.slice none 0 0)
  | mref {l : Nat} {q : Blk} (h : R l = some (some q)) : RepV S R w (.mref l) (.map (some q.g))
  | fn {f : FuncId} {cs : List AV} {vs : Array Value} (hl : vs.size = cs.length) (h : ∀ i x, cs[i]? = some x → RepV S R w x (vs.getD i undef)) : RepV S R w (.fn f cs) (.func (.func f) #[] vs)
  | imap {es : List (AV × AV)} {g : Nat} {ents : Array MapEntry} {clock : _} {A B : Nat → Value} (hS : S g) (hh : w.heap[g]? = some (.map ents clock)) (hl : ents.size = es.length)
      (hm : ∀ (i : Nat) (p : AV × AV), es[i]? = some p → ∃ m : MapEntry, ents[i]? = some m ∧ m.key = A i ∧ m.val = B i) (hk : ∀ (i : Nat) (p : AV × AV), es[i]? = some p → RepV S R w p.1 (A i)) (hv : ∀ (i : Nat) (p : AV × AV), es[i]? = some p → RepV S R w p.2 (B i)) : RepV S R w (.imap es) (.map (some g))
  | bm {f : FuncId} {cs : List AV} {vs : Array Value} (hl : vs.size = cs.length) (h : ∀ i x, cs[i]? = some x → RepV S R w x (vs.getD i undef)) : RepV S R w (.bm f cs) (.func (.func f) vs #[])

theorem add_block (a : Addr) (n : Nat) : (a.add n).block = a.block := by unfold Addr.add; split <;> rfl

/-- What is read lies in unturned blocks, what is bound stays bound: a reading lives on. -/
theorem RepV.mono {S S' : Nat → Prop} {R R' : Lab} {w w' : World} (hS : ∀ b, S b → S' b) (hR : ∀ l q, R l = some q → R' l = some q) (hw : ∀ b, S b → w'.heap[b]? = w.heap[b]?)
    {x : AV} {v : Value} (h : RepV S R w x v) : RepV S' R' w' x v := by
  induction h with
  | val v => exact .val v
  | dead v => exact .dead v
  | agg hl _ ih => exact .agg hl ih
  | tup hl _ ih => exact .tup hl ih
  | sl hn hc hm hk ha h1 _ ih =>
    refine .sl hn hc hm hk (fun hne => ?_) h1 ih
    obtain ⟨ad, e, hb, hcell⟩ := ha hne
    exact ⟨ad, e, hS _ hb, fun i x j y hx hy => (World.cell?_of_block (by rw [add_block]; exact hw _ hb)).trans (hcell i x j y hx hy)⟩
  | ip hb hc h1 _ ih =>
    exact .ip (hS _ hb) (fun j y hy => (World.cell?_of_block (by rw [add_block]; exact hw _ hb)).trans (hc j y hy)) h1 ih
  | ptr h => exact .ptr (hR _ _ h)
  | own h hn hm ht ha hs => exact .own (hR _ _ h) hn hm ht ha hs
  | onil h => exact .onil (hR _ _ h)
  | mref h => exact .mref (hR _ _ h)
  | fn hl _ ih => exact .fn hl ih
  | imap hb hh hl hm _ _ ihk ihv => exact .imap (hS _ hb) ((hw _ hb).trans hh) hl hm ihk ihv
  | bm hl _ ih => exact .bm hl ih

theorem RepV.one {S : Nat → Prop} {R : Lab} {w : World} {x : AV} {v : Value} (h : RepV S R w x v) (h1 : x.one = true) : v.oneCell' = true := by
  cases h <;> first | exact h1 | rfl | (simp [AV.one] at h1)

inductive Tok where
  | row (e : TypeId) (k : Nat) (xs : List (List AV))
  | map (es : List (AV × AV))
  | obj (o : Obj)

/-- A token's cells in its block. -/
def RowAt (S : Nat → Prop) (R : Lab) (w : World) (q : Blk) (cur : Array Value) (xs : List (List AV)) : Prop :=
  ∀ i x, xs[i]? = some x → x.length = q.k ∧ ∀ j y, x[j]? = some y → y.one = true ∧ ∃ u, cur[(q.b + i) * q.k + j]? = some u ∧ RepV S R w y u

/-- A map's entries, in their order. -/
def MapAt (S : Nat → Prop) (R : Lab) (w : World) (ents : Array MapEntry) (es : List (AV × AV)) : Prop :=
  ents.size = es.length ∧ ∀ (i : Nat) (p : AV × AV), es[i]? = some p → ∃ m : MapEntry, ents[i]? = some m ∧ RepV S R w p.1 m.key ∧ RepV S R w p.2 m.val

def TokHolds (S : Nat → Prop) (R : Lab) (w : World) (l : Nat) (t : Tok) : Prop :=
  match R l, t with
  | some none, .row _ _ xs => xs = []
  | some (some q), .row e k xs => q.k = k ∧ ∃ cur fr, w.heap[q.g]? = some (.cells cur e fr) ∧ (cur.size ≤ fr.1 ∨ fr = (0, 0)) ∧ cur.size = q.t * k ∧ q.b + xs.length ≤ q.t ∧ q.t ≤ maxLen ∧ RowAt S R w q cur xs
  | some (some q), .map es => ∃ ents clock, w.heap[q.g]? = some (.map ents clock) ∧ MapAt S R w ents es
  | some (some q), .obj o => w.heap[q.g]? = some o
  | _, _ => False

def blkOf (R : Lab) (l : Nat) : Option Nat :=
  match R l with
  | some (some q) => some q.g
  | _ => none

/-- The blocks of tokens. -/
def Foot (R : Lab) (ts : List (Nat × Tok)) (g : Nat) : Prop := ∃ l t, (l, t) ∈ ts ∧ blkOf R l = some g

structure Holds (S : Nat → Prop) (R : Lab) (w : World) (ts : List (Nat × Tok)) : Prop where
  top : ∃ N, ∀ l, N ≤ l → R l = none
  apart : ts.Pairwise fun p q => p.1 ≠ q.1 ∧ ∀ g, blkOf R p.1 = some g → blkOf R q.1 ≠ some g
  tok : ∀ l t, (l, t) ∈ ts → TokHolds S R w l t
  notS : ∀ g, Foot R ts g → ¬ S g
  low : ∀ b, S b → b < w.heap.size

theorem TokHolds.bound {S : Nat → Prop} {R : Lab} {w : World} {l : Nat} {t : Tok} (h : TokHolds S R w l t) : ∃ q, R l = some q := by
  unfold TokHolds at h
  split at h <;> first | exact ⟨_, ‹_›⟩ | exact h.elim

theorem TokHolds.lt {S : Nat → Prop} {R : Lab} {w : World} {l : Nat} {t : Tok} (h : TokHolds S R w l t) {g : Nat} (hg : blkOf R l = some g) : g < w.heap.size := by
  unfold TokHolds at h
  split at h
  · rename_i e; simp [blkOf, e] at hg
  · rename_i e
    obtain ⟨_, cur, fr, hh, _⟩ := h
    simp [blkOf, e] at hg
    subst hg
    exact (Array.getElem?_eq_some_iff.1 hh).1
  · rename_i e
    obtain ⟨ents, clock, hh, _⟩ := h
    simp [blkOf, e] at hg
    subst hg
    exact (Array.getElem?_eq_some_iff.1 hh).1
  · rename_i e
    simp [blkOf, e] at hg
    subst hg
    exact (Array.getElem?_eq_some_iff.1 h).1
  · exact h.elim

theorem TokHolds.mono {S S' : Nat → Prop} {R R' : Lab} {w w' : World} {l : Nat} {t : Tok} (hS : ∀ b, S b → S' b) (hR : ∀ l q, R l = some q → R' l = some q) (hw : ∀ b, S b → w'.heap[b]? = w.heap[b]?)
    (hg : ∀ g, blkOf R l = some g → w'.heap[g]? = w.heap[g]?) (h : TokHolds S R w l t) : TokHolds S' R' w' l t := by
  unfold TokHolds at h ⊢
  split at h
  · rename_i e
    rw [hR _ _ e]
    exact h
  · rename_i q ty k xs e
    rw [hR _ _ e]
    obtain ⟨hk, cur, fr, hh, hfr, hs, hb, hm, hr⟩ := h
    refine ⟨hk, cur, fr, ?_, hfr, hs, hb, hm, fun i x hx => ⟨(hr i x hx).1, fun j y hy => ?_⟩⟩
    · rw [hg q.g (by simp [blkOf, e])]; exact hh
    · obtain ⟨h1, u, hu, hrep⟩ := (hr i x hx).2 j y hy
      exact ⟨h1, u, hu, hrep.mono hS hR hw⟩
  · rename_i q es e
    rw [hR _ _ e]
    obtain ⟨ents, clock, hh, hs, hr⟩ := h
    refine ⟨ents, clock, ?_, hs, fun i p hp => ?_⟩
    · rw [hg q.g (by simp [blkOf, e])]; exact hh
    · obtain ⟨m, hm, h1, h2⟩ := hr i p hp
      exact ⟨m, hm, h1.mono hS hR hw, h2.mono hS hR hw⟩
  · rename_i q o e
    rw [hR _ _ e]
    exact (hg q.g (by simp [blkOf, e])).trans h
  · exact h.elim

theorem blkOf_mono {R R' : Lab} (hR : ∀ l q, R l = some q → R' l = some q) {l : Nat} (hb : ∃ q, R l = some q) : blkOf R' l = blkOf R l := by
  obtain ⟨q, hq⟩ := hb
  simp [blkOf, hq, hR _ _ hq]

theorem Holds.sub {S : Nat → Prop} {R : Lab} {w : World} {ts us : List (Nat × Tok)} (h : Holds S R w ts) (hs : ∃ r, ts.Perm (us ++ r)) : Holds S R w us := by
  obtain ⟨r, hp⟩ := hs
  have hsym : ∀ p q : Nat × Tok, (p.1 ≠ q.1 ∧ ∀ g, blkOf R p.1 = some g → blkOf R q.1 ≠ some g) → (q.1 ≠ p.1 ∧ ∀ g, blkOf R q.1 = some g → blkOf R p.1 ≠ some g) :=
    fun p q hpq => ⟨fun e => hpq.1 e.symm, fun g h1 h2 => hpq.2 g h2 h1⟩
  refine ⟨h.top, ?_, fun l t ht => h.tok l t (hp.mem_iff.2 (List.mem_append_left _ ht)), fun g ⟨l, t, ht, hg⟩ => h.notS g ⟨l, t, hp.mem_iff.2 (List.mem_append_left _ ht), hg⟩, h.low⟩
  have := (hp.pairwise_iff (fun {p q} hpq => hsym p q hpq)).1 h.apart
  exact (List.pairwise_append.1 this).1

/-- The world goes on to another in which nothing that lay there has turned; more may be stable, more may be bound. -/
theorem Holds.mono {S S' : Nat → Prop} {R R' : Lab} {w w' : World} {ts : List (Nat × Tok)} (h : Holds S R w ts) (hS : ∀ b, S b → S' b) (hS' : ∀ b, S' b → S b ∨ (w.heap.size ≤ b ∧ b < w'.heap.size)) (hR : ∀ l q, R l = some q → R' l = some q)
    (htop : ∃ N, ∀ l, N ≤ l → R' l = none) (hsz : w.heap.size ≤ w'.heap.size) (hw : ∀ b, b < w.heap.size → w'.heap[b]? = w.heap[b]?) : Holds S' R' w' ts := by
  have hb : ∀ l t, (l, t) ∈ ts → blkOf R' l = blkOf R l := fun l t ht => blkOf_mono hR (h.tok l t ht).bound
  refine ⟨htop, ?_, fun l t ht => (h.tok l t ht).mono hS hR (fun b hb => hw b (h.low b hb)) (fun g hg => hw g ((h.tok l t ht).lt hg)), ?_, ?_⟩
  · refine h.apart.imp_of_mem fun {p q} hp hq hpq => ⟨hpq.1, fun g => ?_⟩
    rw [hb p.1 p.2 hp, hb q.1 q.2 hq]
    exact hpq.2 g
  · rintro g ⟨l, t, ht, hg⟩ hs
    rw [hb l t ht] at hg
    rcases hS' g hs with h1 | h1
    · exact h.notS g ⟨l, t, ht, hg⟩ h1
    · have := (h.tok l t ht).lt hg
      omega
  · intro b hs
    rcases hS' b hs with h1 | h1
    · exact Nat.lt_of_lt_of_le (h.low b h1) hsz
    · exact h1.2

/-- Taking one token out of a list. -/
inductive Take : List (Nat × Tok) → Nat → Tok → List (Nat × Tok) → Prop
  | head {l : Nat} {t : Tok} {r : List (Nat × Tok)} : Take ((l, t) :: r) l t r
  | tail {p : Nat × Tok} {l : Nat} {t : Tok} {r r' : List (Nat × Tok)} (h : Take r l t r') : Take (p :: r) l t (p :: r')

theorem Take.perm {ts : List (Nat × Tok)} {l : Nat} {t : Tok} {r : List (Nat × Tok)} (h : Take ts l t r) : ts.Perm ((l, t) :: r) := by
  induction h with
  | head => exact .refl _
  | tail _ ih => exact (ih.cons _).trans (.swap ..)

/-- Taking several. -/
inductive Takes : List (Nat × Tok) → List (Nat × Tok) → List (Nat × Tok) → Prop
  | nil {ts : List (Nat × Tok)} : Takes ts [] ts
  | cons {ts us r r' : List (Nat × Tok)} {l : Nat} {t : Tok} (h : Take ts l t r) (hs : Takes r us r') : Takes ts ((l, t) :: us) r'

theorem Takes.perm {ts us r : List (Nat × Tok)} (h : Takes ts us r) : ts.Perm (us ++ r) := by
  induction h with
  | nil => exact .refl _
  | cons h _ ih => exact h.perm.trans (ih.cons _)

end Go.Proofs.YtmenbolalghljaaA
