/- Deep conversions: what is one's own seen as what is only read, with all that it holds; lending to any call. -/
import Derived.Test.YtmenbolalghljaaAw22
set_option linter.unusedVariables false
namespace Go.Proofs.YtmenbolalghljaaA
open Go.RowKit

/-- Where the tokens ts are no longer written, x reads as y. -/
def Cv (ts : List (Nat × Tok)) (x y : AV) : Prop :=
  ∀ (S S' : Nat → Prop) (R : Lab) (w : World), Holds S R w ts → (∀ b, S b → S' b) → (∀ g, Foot R ts g → S' g) → ∀ v, RepV S' R w x v → RepV S' R w y v

theorem Cv.refl {ts : List (Nat × Tok)} {x : AV} : Cv ts x x := fun _ _ _ _ _ _ _ _ h => h
theorem Cv.le {ts : List (Nat × Tok)} {x y : AV} (h : Le x y) : Cv ts x y := fun _ _ _ _ _ _ _ _ hv => h.rep hv
theorem Cv.trans {ts : List (Nat × Tok)} {x y z : AV} (h : Cv ts x y) (h' : Cv ts y z) : Cv ts x z := fun S S' R w hh hS hF v hv => h' S S' R w hh hS hF v (h S S' R w hh hS hF v hv)
theorem Cv.more {ts us : List (Nat × Tok)} {x y : AV} (h : Cv us x y) (hs : ∃ r, ts.Perm (us ++ r)) : Cv ts x y := fun S S' R w hh hS hF v hv => by
  obtain ⟨r, hp⟩ := hs
  exact h S S' R w (hh.sub ⟨r, hp⟩) hS (fun g ⟨l, t, hm, hg⟩ => hF g ⟨l, t, hp.mem_iff.2 (List.mem_append_left _ hm), hg⟩) v hv
theorem Cv.takes {ts us rs : List (Nat × Tok)} {x y : AV} (h : Cv us x y) (ht : Takes ts us rs) : Cv ts x y := h.more ⟨rs, ht.perm⟩

theorem own_rep {S S' : Nat → Prop} {R : Lab} {w : World} {l off n : Nat} {v : Value} (h : RepV S R w (.own l off n) v) : RepV S' R w (.own l off n) v := by
  cases h with
  | own h1 hn hm ht ha hs => exact .own h1 hn hm ht ha hs
  | onil h1 => exact .onil h1
theorem ptr_rep {S S' : Nat → Prop} {R : Lab} {w : World} {l i j : Nat} {v : Value} (h : RepV S R w (.ptr l i j) v) : RepV S' R w (.ptr l i j) v := by
  cases h with
  | ptr h1 => exact .ptr h1

theorem Cv.own {ts r : List (Nat × Tok)} {l off n k : Nat} {e : TypeId} {xs : List (List AV)} (ht : Take ts l (.row e k xs) r) (hn : off + n ≤ xs.length) : Cv ts (.own l off n) (.sl k (xs.drop off) n) := by
  intro S S' R w hh hS hF v hv
  have hm := ht.perm.mem_iff.2 List.mem_cons_self
  exact own_to_sl (hh.tok _ _ hm) (own_rep hv) hn hS (fun g hg => hF g ⟨_, _, hm, hg⟩)
theorem Cv.own0 {ts r : List (Nat × Tok)} {l n k : Nat} {e : TypeId} {xs : List (List AV)} (ht : Take ts l (.row e k xs) r) (hn : n ≤ xs.length) : Cv ts (.own l 0 n) (.sl k xs n) := by
  have := Cv.own (off := 0) (n := n) ht (by omega)
  simpa using this
theorem Cv.ptr {ts r : List (Nat × Tok)} {l i j k : Nat} {e : TypeId} {xs : List (List AV)} {cs : List AV} (ht : Take ts l (.row e k xs) r) (hc : xs[i]? = some cs) : Cv ts (.ptr l i j) (.ip (cs.drop j)) := by
  intro S S' R w hh hS hF v hv
  have hm := ht.perm.mem_iff.2 List.mem_cons_self
  exact ptr_to_ip (hh.tok _ _ hm) (ptr_rep hv) hc hS (fun g hg => hF g ⟨_, _, hm, hg⟩)
theorem Cv.ptr0 {ts r : List (Nat × Tok)} {l i k : Nat} {e : TypeId} {xs : List (List AV)} {cs : List AV} (ht : Take ts l (.row e k xs) r) (hc : xs[i]? = some cs) : Cv ts (.ptr l i 0) (.ip cs) := Cv.ptr (j := 0) ht hc

/-- One by one. -/
inductive Cvs (ts : List (Nat × Tok)) : List AV → List AV → Prop
  | nil : Cvs ts [] []
  | cons {x y : AV} {xs ys : List AV} (h : Cv ts x y) (hs : Cvs ts xs ys) : Cvs ts (x :: xs) (y :: ys)
theorem Cvs.refl {ts : List (Nat × Tok)} : ∀ {xs : List AV}, Cvs ts xs xs
  | [] => .nil
  | _ :: _ => .cons .refl Cvs.refl
theorem Cvs.len {ts : List (Nat × Tok)} {xs ys : List AV} (h : Cvs ts xs ys) : ys.length = xs.length := by
  induction h with
  | nil => rfl
  | cons _ _ ih => simp [ih]
theorem Cvs.get {ts : List (Nat × Tok)} {xs ys : List AV} (h : Cvs ts xs ys) : ∀ (i : Nat) (y : AV), ys[i]? = some y → ∃ x, xs[i]? = some x ∧ Cv ts x y := by
  induction h with
  | nil => intro i y hy; simp at hy
  | cons h hs ih =>
    intro i z hz
    cases i with
    | zero => simp at hz; subst hz; exact ⟨_, rfl, h⟩
    | succ i => simpa using ih i z (by simpa using hz)
theorem Cvs.more {ts us : List (Nat × Tok)} {xs ys : List AV} (h : Cvs us xs ys) (hs : ∃ r, ts.Perm (us ++ r)) : Cvs ts xs ys := by
  induction h with
  | nil => exact .nil
  | cons h _ ih => exact .cons (h.more hs) ih
theorem Cv.agg {ts : List (Nat × Tok)} {cs ds : List AV} (h : Cvs ts cs ds) : Cv ts (.agg cs) (.agg ds) := fun S S' R w hh hS hF v hv => by
  cases hv with
  | agg hl hf =>
    refine .agg (by rw [hl, h.len]) fun i y hy => ?_
    obtain ⟨x, hx, hc⟩ := h.get i y hy
    exact hc S S' R w hh hS hF _ (hf i x hx)
theorem Cv.tup {ts : List (Nat × Tok)} {cs ds : List AV} (h : Cvs ts cs ds) : Cv ts (.tup cs) (.tup ds) := fun S S' R w hh hS hF v hv => by
  cases hv with
  | tup hl hf =>
    refine .tup (by rw [hl, h.len]) fun i y hy => ?_
    obtain ⟨x, hx, hc⟩ := h.get i y hy
    exact hc S S' R w hh hS hF _ (hf i x hx)

/-- Cells that may stand in rows. -/
def onesL (xs : List AV) : Prop := ∀ x, x ∈ xs → x.one = true
/-- Rows' elements, one by one; the new ones fit cells too. -/
inductive Cvr (ts : List (Nat × Tok)) : List (List AV) → List (List AV) → Prop
  | nil : Cvr ts [] []
  | cons {x y : List AV} {xs ys : List (List AV)} (h : Cvs ts x y) (h1 : onesL y) (hs : Cvr ts xs ys) : Cvr ts (x :: xs) (y :: ys)
theorem Cvr.len {ts : List (Nat × Tok)} {xs ys : List (List AV)} (h : Cvr ts xs ys) : ys.length = xs.length := by
  induction h with
  | nil => rfl
  | cons _ _ _ ih => simp [ih]
theorem Cvr.get {ts : List (Nat × Tok)} {xs ys : List (List AV)} (h : Cvr ts xs ys) : ∀ (i : Nat) (y : List AV), ys[i]? = some y → ∃ x, xs[i]? = some x ∧ Cvs ts x y ∧ onesL y := by
  induction h with
  | nil => intro i y hy; simp at hy
  | cons h h1 hs ih =>
    intro i z hz
    cases i with
    | zero => simp at hz; subst hz; exact ⟨_, rfl, h, h1⟩
    | succ i => simpa using ih i z (by simpa using hz)
theorem Cvr.map {ts : List (Nat × Tok)} {α : Type} {f g : α → List AV} : ∀ (l : List α), (∀ x, x ∈ l → Cvs ts (f x) (g x) ∧ onesL (g x)) → Cvr ts (l.map f) (l.map g)
  | [], _ => .nil
  | x :: l, h => .cons (h x List.mem_cons_self).1 (h x List.mem_cons_self).2 (Cvr.map l fun y hy => h y (List.mem_cons_of_mem _ hy))
theorem Cvr.refl {ts : List (Nat × Tok)} : ∀ {xs : List (List AV)}, (∀ x, x ∈ xs → onesL x) → Cvr ts xs xs
  | [], _ => .nil
  | _ :: _, h => .cons .refl (h _ List.mem_cons_self) (Cvr.refl fun y hy => h y (List.mem_cons_of_mem _ hy))
theorem Cvr.append {ts : List (Nat × Tok)} {xs ys us vs : List (List AV)} (h : Cvr ts xs ys) (h' : Cvr ts us vs) : Cvr ts (xs ++ us) (ys ++ vs) := by
  induction h with
  | nil => exact h'
  | cons h h1 _ ih => exact .cons h h1 ih
theorem Cv.sl {ts : List (Nat × Tok)} {k n : Nat} {xs ys : List (List AV)} (h : Cvr ts xs ys) : Cv ts (.sl k xs n) (.sl k ys n) := fun S S' R w hh hS hF v hv => by
  cases hv with
  | sl hn hc hm hk ha h1 hf =>
    rename_i c a F
    refine .sl (F := F) (by rw [h.len]; exact hn) (by rw [h.len]; exact hc) hm (fun x hx => ?_) (fun hne => ?_) (fun x hx y hy => ?_) (fun i x j y hx hy => ?_)
    · obtain ⟨i, hi⟩ := List.getElem?_of_mem hx
      obtain ⟨z, hz, hc, _⟩ := h.get i x hi
      rw [hc.len]
      exact hk z (List.mem_of_getElem? hz)
    · obtain ⟨ad, e, hb, hcell⟩ := ha (fun h0 => hne (by have := h.len; rw [h0] at this; exact List.eq_nil_of_length_eq_zero this))
      refine ⟨ad, e, hb, fun i x j y hx hy => ?_⟩
      obtain ⟨z, hz, hc, _⟩ := h.get i x hx
      obtain ⟨u, hu, _⟩ := hc.get j y hy
      exact hcell i z j u hz hu
    · obtain ⟨i, hi⟩ := List.getElem?_of_mem hx
      obtain ⟨z, hz, hc, ho⟩ := h.get i x hi
      exact ho y hy
    · obtain ⟨z, hz, hc, _⟩ := h.get i x hx
      obtain ⟨u, hu, hcv⟩ := hc.get j y hy
      exact hcv S S' R w hh hS hF _ (hf i z j u hz hu)
theorem Cv.ip {ts : List (Nat × Tok)} {xs ys : List AV} (h : Cvs ts xs ys) (h1 : onesL ys) : Cv ts (.ip xs) (.ip ys) := fun S S' R w hh hS hF v hv => by
  cases hv with
  | ip hS2 hc h2 hf =>
    rename_i ad F
    refine .ip (F := F) hS2 (fun j y hy => ?_) h1 (fun j y hy => ?_)
    · obtain ⟨x, hx, _⟩ := h.get j y hy
      exact hc j x hx
    · obtain ⟨x, hx, hcv⟩ := h.get j y hy
      exact hcv S S' R w hh hS hF _ (hf j x hx)
/-- A row of one's own with all that it holds. -/
theorem Cv.ownr {ts r : List (Nat × Tok)} {l n k : Nat} {e : TypeId} {xs ys : List (List AV)} (ht : Take ts l (.row e k xs) r) (hn : n ≤ xs.length) (h : Cvr ts xs ys) : Cv ts (.own l 0 n) (.sl k ys n) := (Cv.own0 ht hn).trans (.sl h)
theorem Cv.ptrr {ts r : List (Nat × Tok)} {l i k : Nat} {e : TypeId} {xs : List (List AV)} {cs ds : List AV} (ht : Take ts l (.row e k xs) r) (hc : xs[i]? = some cs) (h : Cvs ts cs ds) (h1 : onesL ds) : Cv ts (.ptr l i 0) (.ip ds) := (Cv.ptr0 ht hc).trans (.ip h h1)

section
variable {P : Program}
/-- Results of one's own that nobody will write. -/
theorem fn_cv {f : FuncId} {us : List (Nat × Tok)} {args : List AV} {Post Post' : List (Nat × Tok) → AV → Prop} (h : Fn P f us args Post) (hc : ∀ ts r, Post ts r → ∃ ts1 ts2 r', ts.Perm (ts1 ++ ts2) ∧ Cv ts1 r r' ∧ Post' ts2 r') : Fn P f us args Post' := by
  refine ⟨fun S R w vs hh hr => (h.h S R w vs hh hr).mono ?_⟩
  rintro en w' ⟨v, r, S', R', ts', he, hp, hh', hrep, o⟩
  obtain ⟨ts1, ts2, r', hperm, hcv, hp'⟩ := hc ts' r hp
  have ha : Holds S' R' w' (ts1 ++ ts2) := hh'.sub ⟨[], by simpa using hperm⟩
  have h1 : Holds S' R' w' ts1 := ha.sub ⟨ts2, .refl _⟩
  have h2 : Holds S' R' w' ts2 := ha.sub ⟨ts1, List.perm_append_comm⟩
  have hap := List.pairwise_append.1 ha.apart
  have hin1 : ∀ p, p ∈ ts1 → p ∈ ts' := fun p hp => hperm.mem_iff.2 (List.mem_append_left _ hp)
  have hin2 : ∀ p, p ∈ ts2 → p ∈ ts' := fun p hp => hperm.mem_iff.2 (List.mem_append_right _ hp)
  let S'' : Nat → Prop := fun b => S' b ∨ Foot R' ts1 b
  refine ⟨v, r', S'', R', ts2, he, hp', ⟨hh'.top, hap.2.1, fun l t hm => (h2.tok l t hm).mono (fun _ h => .inl h) (fun _ _ h => h) (fun _ _ => rfl) (fun _ _ => rfl), ?_, ?_⟩, hcv S' S'' R' w' h1 (fun _ h => .inl h) (fun g hg => .inr hg) v (hrep.mono (fun _ h => .inl h) (fun _ _ h => h) (fun _ _ => rfl)), ?_⟩
  · rintro g ⟨l, t, hm, hg⟩ (hb | ⟨l', t', hm', hg'⟩)
    · exact h2.notS g ⟨l, t, hm, hg⟩ hb
    · exact (hap.2.2 _ hm' _ hm).2 g hg' hg
  · rintro b (hb | ⟨l, t, hm, hg⟩)
    · exact hh'.low b hb
    · exact (h1.tok l t hm).lt hg
  · refine ⟨o.os, o.tape, o.output, o.size, o.block, fun b hb => .inl (o.S0 b hb), ?_, o.R0, fun g ⟨l, t, hm, hg⟩ => o.foot g ⟨l, t, hin2 _ hm, hg⟩, fun l t hm => o.keys l t (hin2 _ hm)⟩
    rintro b (hb | ⟨l, t, hm, hg⟩)
    · exact o.S1 b hb
    · exact .inr (o.foot b ⟨l, t, hin1 _ hm, hg⟩)
theorem pfn_cv {f : FuncId} {args : List AV} {Post : List (Nat × Tok) → AV → Prop} {x : AV} (h : Fn P f [] args Post) (hc : ∀ ts r, Post ts r → Cv ts r x) : PFn P f args x :=
  fn_cv h fun ts r hp => ⟨ts, [], x, by simp, hc ts r hp, rfl⟩

variable {n : Nat} {ro : Option Nat} {G : CtxR P n ro} {K : Kont} {st : St}
theorem RelAt.cv {S : Nat → Prop} {R : Lab} {a : Act} {w : World} (hr : RelAt G S R st a w) (d : Nat) {us rs : List (Nat × Tok)} {x y : AV} (hd : look st.sl d = some x) (ht : Takes st.toks us rs) (hcv : Cv us x y) : RelAt G (fun b => S b ∨ Foot R us b) R ⟨(d, y) :: st.sl, rs⟩ a w := by
  have hperm := ht.perm
  have ha : Holds S R w (us ++ rs) := hr.holds.sub ⟨[], by simpa using hperm⟩
  have h1 : Holds S R w us := ha.sub ⟨rs, .refl _⟩
  have h2 : Holds S R w rs := ha.sub ⟨us, List.perm_append_comm⟩
  have hap := List.pairwise_append.1 ha.apart
  have hin1 : ∀ p, p ∈ us → p ∈ st.toks := fun p hp => hperm.mem_iff.2 (List.mem_append_left _ hp)
  have hin2 : ∀ p, p ∈ rs → p ∈ st.toks := fun p hp => hperm.mem_iff.2 (List.mem_append_right _ hp)
  have hmono : ∀ {y : AV} {u : Value}, RepV S R w y u → RepV (fun b => S b ∨ Foot R us b) R w y u := fun h => h.mono (fun _ h => .inl h) (fun _ _ h => h) (fun _ _ => rfl)
  refine ⟨⟨hr.holds.top, hap.2.1, fun l t hm => (h2.tok l t hm).mono (fun _ h => .inl h) (fun _ _ h => h) (fun _ _ => rfl) (fun _ _ => rfl), ?_, ?_⟩, ?_, ?_, hr.defers, hr.size⟩
  · rintro g ⟨l, t, hm, hg⟩ (hb | ⟨l', t', hm', hg'⟩)
    · exact h2.notS g ⟨l, t, hm, hg⟩ hb
    · exact (hap.2.2 _ hm' _ hm).2 g hg' hg
  · rintro b (hb | ⟨l, t, hm, hg⟩)
    · exact hr.holds.low b hb
    · exact (h1.tok l t hm).lt hg
  · intro d' z hx
    simp only [look] at hx
    by_cases hdd : d = d'
    · subst hdd
      rw [Nat.beq_refl] at hx
      cases hx
      exact hcv S _ R w h1 (fun _ h => .inl h) (fun g hg => .inr hg) _ (hmono (hr.slots d _ hd))
    · rw [beq_of_ne hdd] at hx
      exact hmono (hr.slots d' z hx)
  · have o := hr.out
    refine ⟨o.os, o.tape, o.output, o.size, o.block, fun b hb => .inl (o.S0 b hb), ?_, o.R0, fun g ⟨l, t, hm, hg⟩ => o.foot g ⟨l, t, hin2 _ hm, hg⟩, fun l t hm => o.keys l t (hin2 _ hm)⟩
    rintro b (hb | ⟨l, t, hm, hg⟩)
    · exact o.S1 b hb
    · exact .inr (o.foot b ⟨l, t, hin1 _ hm, hg⟩)
/-- What slot d holds is no longer written, nor what it reaches: us. -/
theorem aw_cv {c : Code} (d : Nat) {us rs : List (Nat × Tok)} {x y : AV} (hd : look st.sl d = some x) (ht : Takes st.toks us rs) (hcv : Cv us x y) (h : AW G c ⟨(d, y) :: st.sl, rs⟩ K) : AW G c st K :=
  ⟨fun a w ⟨S, R, hr⟩ => h.h a w ⟨_, R, hr.cv d hd ht hcv⟩⟩
theorem awo_cv {ops : Array Oper} {l : List Oper} (d : Nat) {us rs : List (Nat × Tok)} {x y : AV} (hd : look st.sl d = some x) (ht : Takes st.toks us rs) (hcv : Cv us x y) (h : AWo G ops l ⟨(d, y) :: st.sl, rs⟩ K) : AWo G ops l st K :=
  ⟨fun a w ⟨S, R, hr⟩ => h.h a w ⟨_, R, hr.cv d hd ht hcv⟩⟩
theorem ar_cv {l rest : List Oper} {sl : List (Nat × AV)} {ts : List (Nat × Tok)} (d : Nat) {us rs : List (Nat × Tok)} {x y : AV} (hd : look sl d = some x) (ht : Takes ts us rs) (hcv : Cv us x y) (h : AR G l 0 rest ⟨(d, y) :: sl, rs⟩ K) : AR G l 0 rest ⟨sl, ts⟩ K :=
  ar_of (awo_cv d hd ht hcv h.awo)
theorem go_cv {e : Exit} {sl : List (Nat × AV)} {ts : List (Nat × Tok)} {Q : Exit → St → Prop} (d : Nat) {us rs : List (Nat × Tok)} {x y : AV} (hd : look sl d = some x) (ht : Takes ts us rs) (hcv : Cv us x y) (h : AW G .skip ⟨(d, y) :: sl, rs⟩ K) : AW G .skip ⟨sl, ts⟩ K :=
  aw_cv d hd ht hcv h
end

/-! ### What hangs on no memory that is lent -/
inductive AVFree : AV → Prop
  | val (v : Value) : AVFree (.val v)
  | dead : AVFree .dead
  | agg {cs : List AV} (h : ∀ x, x ∈ cs → AVFree x) : AVFree (.agg cs)
  | tup {cs : List AV} (h : ∀ x, x ∈ cs → AVFree x) : AVFree (.tup cs)
  | ptr (l i j : Nat) : AVFree (.ptr l i j)
  | own (l off n : Nat) : AVFree (.own l off n)
  | mref (l : Nat) : AVFree (.mref l)
  | fn (f : FuncId) : AVFree (.fn f [])
inductive TokFree : Tok → Prop
  | row {e : TypeId} {k : Nat} {xs : List (List AV)} (h : ∀ x, x ∈ xs → ∀ y, y ∈ x → AVFree y) : TokFree (.row e k xs)
  | map {es : List (AV × AV)} (h : ∀ p, p ∈ es → AVFree p.1 ∧ AVFree p.2) : TokFree (.map es)
theorem AVFree.rep {S S' : Nat → Prop} {R : Lab} {w : World} {x : AV} (hx : AVFree x) : ∀ {v : Value}, RepV S R w x v → RepV S' R w x v := by
  induction hx with
  | val u => intro v h; have := rep_val h; subst this; exact .val _
  | dead => intro v h; exact .dead _
  | agg _ ih => intro v h; cases h with | agg hl hf => exact .agg hl fun i x hx => ih x (List.mem_of_getElem? hx) (hf i x hx)
  | tup _ ih => intro v h; cases h with | tup hl hf => exact .tup hl fun i x hx => ih x (List.mem_of_getElem? hx) (hf i x hx)
  | ptr => intro v h; exact ptr_rep h
  | own => intro v h; exact own_rep h
  | mref => intro v h; cases h with | mref h => exact .mref h
  | fn => intro v h; cases h with | fn hl hf => exact .fn hl fun i x hx => by simp at hx
theorem TokFree.holds {S S' : Nat → Prop} {R : Lab} {w : World} {l : Nat} {t : Tok} (hf : TokFree t) (h : TokHolds S R w l t) : TokHolds S' R w l t := by
  unfold TokHolds at h ⊢
  split at h
  · rename_i e; (try rw [e]); exact h
  · rename_i q ty k xs e
    (try rw [e])
    obtain ⟨hk, cur, fr, hh, hfr, hs, hb, hm, hr⟩ := h
    cases hf with
    | row hf =>
      refine ⟨hk, cur, fr, hh, hfr, hs, hb, hm, fun i x hx => ⟨(hr i x hx).1, fun j y hy => ?_⟩⟩
      obtain ⟨h1, u, hu, hrep⟩ := (hr i x hx).2 j y hy
      exact ⟨h1, u, hu, (hf x (List.mem_of_getElem? hx) y (List.mem_of_getElem? hy)).rep hrep⟩
  · rename_i q es e
    (try rw [e])
    obtain ⟨ents, clock, hh, hs, hr⟩ := h
    cases hf with
    | map hf =>
      refine ⟨ents, clock, hh, hs, fun i p hp => ?_⟩
      obtain ⟨m, hm, h1, h2⟩ := hr i p hp
      have := hf p (List.mem_of_getElem? hp)
      exact ⟨m, hm, this.1.rep h1, this.2.rep h2⟩
  · rename_i e; (try rw [e]); exact h
  · exact h.elim

section
variable {P : Program} {st : St} {dst : Option Tmp} {ty : TypeId} {pos : String} {after : Array Edge} {g : Option (Nat × Bool)}
/-- Any call: it takes the tokens us; what else the state holds is lent. -/
theorem effr_callL {c : Operand} {xs : List Operand} {tys : Array TypeId} {f : FuncId} {ys zs : List AV} {us : List (Nat × Tok)} {Post : List (Nat × Tok) → AV → Prop} [Ent P f] (hF : Fn P f us zs Post) (hfree : ∀ ts r, Post ts r → AVFree r ∧ ∀ p, p ∈ ts → TokFree p.2) (hc : st.get c = some (.fn f [])) (hx : gets st xs = some ys) (hb : Cvs st.toks ys zs) :
    OpEffR P ⟨dst, .call ⟨.value c, xs.toArray, tys⟩, ty, pos, after, g⟩ st us Post := by
  refine ⟨?_⟩
  intro S R a w hh ho next Q hk
  obtain ⟨vs, hv, hcap⟩ := rep_fn (ho c (by simp [Op.operands, Call.operands]) _ hc)
  have hargs := gets_reps (S := S) (R := R) (w := w) (a := a) hx (fun z hz => ho z (by simp [Op.operands, Call.operands, hz]))
  have hvs : vs.toList = [] := List.eq_nil_of_length_eq_zero (by simpa using hcap.1)
  have hap := List.pairwise_append.1 hh.apart
  have hrd : Holds S R w st.toks := hh.sub ⟨us, List.perm_append_comm⟩
  have hus : Holds S R w us := hh.sub ⟨st.toks, .refl _⟩
  unfold Oper.wp
  rw [run_call hv]
  rw [Oper.upon_enter]
  let S' : Nat → Prop := fun b => S b ∨ Foot R st.toks b
  have hh' : Holds S' R w us := by
    refine ⟨hh.top, hap.1, fun l t hm => (hus.tok l t hm).mono (fun _ h => .inl h) (fun _ _ h => h) (fun _ _ => rfl) (fun _ _ => rfl), ?_, ?_⟩
    · rintro b ⟨l, t, hm, hg⟩ (hb | ⟨l', t', hm', hg'⟩)
      · exact hus.notS b ⟨l, t, hm, hg⟩ hb
      · exact (hap.2.2 _ hm _ hm').2 b hg hg'
    · rintro b (hb | ⟨l, t, hm, hg⟩)
      · exact hh.low b hb
      · exact (hrd.tok l t hm).lt hg
  have hreps : Reps S' R w zs ((xs.map a.eval) ++ vs.toList) := by
    rw [hvs, List.append_nil]
    refine ⟨by rw [hargs.1, hb.len], fun i y hy => ?_⟩
    obtain ⟨x, hxx, hcv⟩ := hb.get i y hy
    exact hcv S S' R w hrd (fun _ h => .inl h) (fun g hg => .inr hg) _ ((hargs.2 i x hxx).mono (fun _ h => .inl h) (fun _ _ h => h) (fun _ _ => rfl))
  refine (hF.h S' R w _ hh' hreps).mono ?_
  rintro e w' ⟨v, r, S2, R2, ts', rfl, hpost, h2, hrep, o⟩
  obtain ⟨hfr, hft⟩ := hfree ts' r hpost
  -- S is what stays stable
  refine hk v r S R2 w' ts' hpost ⟨h2.top, h2.apart, fun l t hm => (hft _ hm).holds (h2.tok l t hm), fun g hg hs => ?_, fun b hb => Nat.lt_of_lt_of_le (hh.low b hb) o.size⟩ (hfr.rep hrep) ⟨o.os, o.tape, o.output, o.size, o.block, fun _ h => h, fun _ h => .inl h, o.R0, o.foot, o.keys⟩
  exact h2.notS g hg (o.S0 g (.inl hs))
end

section
variable {P : Program} {n : Nat} {ro : Option Nat} {G : CtxR P n ro} {l : List Oper} {sl : List (Nat × AV)} {ts : List (Nat × Tok)} {K : Kont} {d : Nat} {ty : TypeId} {pos : String} {after : Array Edge} {bs : List Bool} {rs0 : List (Nat × Tok)} {q : Nat} {r : List Nat} {rest : List Oper}
theorem awo_effr {ops : Array Oper} {st : St} {dst : Option Tmp} {op : Op} {us rs : List (Nat × Tok)} {Post : List (Nat × Tok) → AV → Prop}
    (he : OpEffR P ⟨dst, op, ty, pos, after, none⟩ ⟨st.sl, rs⟩ us Post) (ht : Takes st.toks us rs) (hd : dstOk dst n = true) (h : ∀ ts' r, Post ts' r → AWo G ops rest ⟨putSl st.sl dst r, ts' ++ rs⟩ K) : AWo G ops (⟨dst, op, ty, pos, after, none⟩ :: rest) st K := by
  refine ⟨?_⟩
  rintro a w ⟨S, R, hr⟩
  refine wpListIn_plain rfl fun k hk => ?_
  refine oper_in (he.h S R a w (hr.holds.sub ⟨[], by simpa using ht.perm⟩) (opsAt (st := ⟨st.sl, rs⟩) hr.slots op) _ _ fun v r S' R' w' ts' hpost hh' hrep o => ⟨hk _ _ ((h ts' r hpost).h _ _ ?_), put_defers ..⟩)
  have hf := hr.frame ht.perm hh' o
  exact ⟨S', R', hf.holds, hf.slots.put hrep (fun d e => by rw [hr.size]; exact dstOk_lt hd d e), hf.out, (put_defers ..).trans hr.defers, (put_size ..).trans hr.size⟩
theorem ar_callL {c : Operand} {xs : List Operand} {tys : Array TypeId} {f : FuncId} {ys zs : List AV} {us rs : List (Nat × Tok)} {Post : List (Nat × Tok) → AV → Prop} [Ent P f] (hF : Fn P f us zs Post) (hc : St.get ⟨sl, rs⟩ c = some (.fn f [])) (hx : gets ⟨sl, rs⟩ xs = some ys) (ht : Takes ts us rs) (hb : Cvs rs ys zs) (hfree : ∀ ts r, Post ts r → AVFree r ∧ ∀ p, p ∈ ts → TokFree p.2) (hd : Nat.blt d n = true)
    (h : ∀ ts' r, Post ts' r → AR G l 0 rest ⟨(d, r) :: sl, ts' ++ rs⟩ K) : AR G l 0 (⟨some d, .call ⟨.value c, xs.toArray, tys⟩, ty, pos, after, none⟩ :: rest) ⟨sl, ts⟩ K :=
  ar_of (awo_effr (effr_callL hF hfree hc hx hb) ht hd fun ts' r hp => (h ts' r hp).awo)
theorem tl_callL {c : Operand} {xs : List Operand} {tys : Array TypeId} {f : FuncId} {ys zs : List AV} {us rs : List (Nat × Tok)} {Post : List (Nat × Tok) → AV → Prop} [Ent P f] (hF : Fn P f us zs Post) (ho : l[q]? = some ⟨some d, .call ⟨.value c, xs.toArray, tys⟩, ty, pos, after, none⟩) (hbs : bs.getD q false = false) (hna : isAl l q = false) (hc : St.get ⟨sl, rs0⟩ c = some (.fn f [])) (hx : gets ⟨sl, rs0⟩ xs = some ys) (ht : Takes ts us rs) (hb : Cvs rs0 ys zs) (hfree : ∀ ts r, Post ts r → AVFree r ∧ ∀ p, p ∈ ts → TokFree p.2) (hd : Nat.blt d n = true)
    (h : ∀ ts' x, Post ts' x → TL G l bs rs0 K r ((d, x) :: sl) (ts' ++ rs)) : TL G l bs rs0 K (q :: r) sl ts :=
  .effr ho hbs hna (.inl rfl) ht (effr_callL hF hfree hc hx hb) hd fun ts' y hp => h ts' y hp

/-- A call that only reckons, with what is one's own lent: its answer hangs on none of it. -/
theorem ev_callL {st : St} {dst : Option Tmp} {g : Option (Nat × Bool)} {c : Operand} {xs : List Operand} {tys : Array TypeId} {f : FuncId} {ys zs : List AV} {x : AV} [Ent P f] (hF : PFn P f zs x) (hc : st.get c = some (.fn f [])) (hx : gets st xs = some ys) (hb : Cvs st.toks ys zs) (hp : AVFree x) : OpEv P ⟨dst, .call ⟨.value c, xs.toArray, tys⟩, ty, pos, after, g⟩ st x := by
  refine ⟨?_⟩
  intro S R a w hh ho next Q hk
  refine (effr_callL (st := st) (us := []) (Fn.pure hF) (by rintro ts r ⟨rfl, rfl⟩; exact ⟨hp, by simp⟩) hc hx hb).h S R a w (by simpa using hh) ho next Q ?_
  rintro v r S' R' w' ts' ⟨rfl, rfl⟩ h2 hrep o
  have hno : ∀ (R : Lab) (g : Nat), ¬ Foot R [] g := by rintro R g ⟨_, _, h, _⟩; simp at h
  refine hk v S' R' w' ⟨⟨o.os, o.tape, o.output, o.size, fun b hb => o.block b hb (hno _ b)⟩, o.S0, fun b hb => ?_, o.R0, h2.top⟩ hrep
  rcases o.S1 b hb with h1 | h1 | h1
  · exact .inl h1
  · exact (hno _ b h1).elim
  · exact .inr ⟨h1, h2.low b hb⟩
end

end Go.Proofs.YtmenbolalghljaaA
