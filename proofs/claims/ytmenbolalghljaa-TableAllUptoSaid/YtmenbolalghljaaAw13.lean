/- A region that draws its order, some of whose operations write: it is read in one order (T); those that only reckon may come anywhere the edges allow, the others follow one another. -/
import Derived.Test.YtmenbolalghljaaAw12
set_option linter.unusedVariables false
namespace Go.Proofs.YtmenbolalghljaaA
open Go.RowKit

/-- An alloc without a guard: it may be done ahead of its turn. -/
def isAl (l : List Oper) (i : Nat) : Bool :=
  match l[i]? with
  | some ⟨some _, .alloc _, _, _, _, none⟩ => true
  | _ => false

/-- i is read behind j. -/
def prB (l : List Oper) (bs : List Bool) (i j : Nat) : Bool :=
  !Nat.beq i j && (match l[i]?, l[j]? with
    | some o, some p =>
      (match p.dst with
        | some d => (!(looks l o).contains d || ancB l l.length i j) && !(o.dst == some d)
        | none => true) &&
      (match o.dst with
        | some d => !(looks l p).contains d || ancB l l.length i j
        | none => true) &&
      (bs.getD j false || ancB l l.length i j || isAl l i)
    | _, _ => false)

def pairsB (f : Nat → Nat → Bool) : List Nat → Bool
  | [] => true
  | i :: r => r.all (f i) && pairsB f r

/-- T: the order in which it is read; bs: which only reckon. -/
def ordOk (l : List Oper) (bs : List Bool) (T : List Nat) : Bool :=
  allB l.length (fun i => T.contains i && (match l[i]? with
    | some o => (edgesOf o).all (fun e => Nat.blt e i) && (match o.dst with
      | some d => !(looks l o).contains d
      | none => true) && !(isAl l i && bs.getD i false)
    | none => false)) && (pairsB (prB l bs) T.reverse && T.all (fun j => Nat.blt j l.length))

theorem pairsB_iff {f : Nat → Nat → Bool} : ∀ {l : List Nat}, pairsB f l = true → l.Pairwise (fun i j => f i j = true)
  | [], _ => .nil
  | i :: r, h => by
    simp only [pairsB, Bool.and_eq_true] at h
    exact List.pairwise_cons.2 ⟨fun j hj => List.all_eq_true.1 h.1 j hj, pairsB_iff h.2⟩

structure PR (l : List Oper) (bs : List Bool) (i j : Nat) : Prop where
  ne : i ≠ j
  reads : ∀ (o p : Oper) (d : Nat), l[i]? = some o → l[j]? = some p → p.dst = some d → d ∈ looks l o → ancB l l.length i j = true
  dsts : ∀ (o p : Oper) (d : Nat), l[i]? = some o → l[j]? = some p → p.dst = some d → o.dst ≠ some d
  over : ∀ (o p : Oper) (d : Nat), l[i]? = some o → l[j]? = some p → o.dst = some d → d ∈ looks l p → ancB l l.length i j = true
  write : bs.getD j false = false → ancB l l.length i j = true ∨ isAl l i = true

theorem prB_iff {l : List Oper} {bs : List Bool} {i j : Nat} (h : prB l bs i j = true) : PR l bs i j := by
  simp only [prB, Bool.and_eq_true] at h
  obtain ⟨h1, h2⟩ := h
  cases hi : l[i]? with
  | none => simp [hi] at h2
  | some o =>
    cases hj : l[j]? with
    | none => simp [hi, hj] at h2
    | some p =>
      simp only [hi, hj, Bool.and_eq_true] at h2
      obtain ⟨⟨h2, h3⟩, h4⟩ := h2
      refine ⟨fun e => by subst e; simp [Nat.beq_refl] at h1, fun o' p' d ho hp hd hm => ?_, fun o' p' d ho hp hd => ?_, fun o' p' d ho hp hd hm => ?_, fun hb => ?_⟩
      · cases Option.some.inj (ho.symm.trans hi); cases Option.some.inj (hp.symm.trans hj)
        rw [hd] at h2
        simp only [Bool.and_eq_true, Bool.or_eq_true, Bool.not_eq_true'] at h2
        rcases h2.1 with h6 | h6
        · rw [List.contains_iff_mem.2 hm] at h6; cases h6
        · exact h6
      · cases Option.some.inj (ho.symm.trans hi); cases Option.some.inj (hp.symm.trans hj)
        rw [hd] at h2
        simp only [Bool.and_eq_true] at h2
        intro he
        simp [he] at h2
      · cases Option.some.inj (ho.symm.trans hi); cases Option.some.inj (hp.symm.trans hj)
        rw [hd] at h3
        simp only [Bool.or_eq_true, Bool.not_eq_true'] at h3
        rcases h3 with h6 | h6
        · rw [List.contains_iff_mem.2 hm] at h6; cases h6
        · exact h6
      · rw [hb] at h4
        simpa using h4

/-- What was read: the operation, and what it gives; the last one first. -/
def envOf (sl0 : List (Nat × AV)) : List (Nat × Oper × AV) → List (Nat × AV)
  | [] => sl0
  | p :: h => putSl (envOf sl0 h) p.2.1.dst p.2.2

theorem envOf_look {sl0 : List (Nat × AV)} : ∀ {h : List (Nat × Oper × AV)} {d : Nat} {y : AV}, look (envOf sl0 h) d = some y →
    (∃ p, p ∈ h ∧ p.2.1.dst = some d ∧ p.2.2 = y) ∨ (look sl0 d = some y ∧ ∀ p, p ∈ h → p.2.1.dst ≠ some d)
  | [], d, y, h => .inr ⟨h, fun _ hp => by cases hp⟩
  | p :: h, d, y, hl => by
    by_cases hd : p.2.1.dst = some d
    · simp only [envOf, hd, putSl, look, Nat.beq_refl, cond_true] at hl
      exact .inl ⟨p, List.mem_cons_self, hd, by cases hl; rfl⟩
    · have hl' : look (envOf sl0 h) d = some y := by
        simp only [envOf] at hl
        cases hod : p.2.1.dst with
        | none => rw [hod] at hl; exact hl
        | some e =>
          rw [hod] at hl
          simp only [putSl, look] at hl
          rw [beq_of_ne (fun he => hd (by rw [hod, he]))] at hl
          exact hl
      rcases envOf_look hl' with ⟨q, h1, h2, h3⟩ | ⟨h1, h2⟩
      · exact .inl ⟨q, List.mem_cons_of_mem _ h1, h2, h3⟩
      · refine .inr ⟨h1, fun q hq => ?_⟩
        rcases List.mem_cons.1 hq with rfl | hq
        · exact hd
        · exact h2 q hq

section
variable {P : Program} {n : Nat} {ro : Option Nat} {G : CtxR P n ro}

/-- Which slots hold what: V. -/
structure MidS {ro : Option Nat} (G : CtxR P n ro) (V : Nat → AV → Prop) (toks : List (Nat × Tok)) (S : Nat → Prop) (R : Lab) (a : Act) (w : World) : Prop where
  holds : Holds S R w toks
  slots : ∀ d x, V d x → RepV S R w x (a.tmps.getD d undef)
  out : Out G.w0 G.S0 G.R0 G.F0 G.K0 S R w toks
  defers : a.defers = G.ds
  size : a.tmps.size = n

theorem MidS.rel1 {V : Nat → AV → Prop} {toks : List (Nat × Tok)} {S : Nat → Prop} {R : Lab} {a : Act} {w : World} (h : MidS G V toks S R a w) {sl : List (Nat × AV)} (hs : ∀ d x, look sl d = some x → V d x) : RelAt G S R ⟨sl, toks⟩ a w :=
  ⟨h.holds, fun d x hx => h.slots d x (hs d x hx), h.out, h.defers, h.size⟩

theorem look_one {d d' : Nat} {x y : AV} (h : look [(d, x)] d' = some y) : d = d' ∧ x = y := by
  by_cases hd : d = d'
  · subst hd
    simp only [look, Nat.beq_refl, cond_true] at h
    exact ⟨rfl, Option.some.inj h⟩
  · simp only [look, beq_of_ne hd, cond_false] at h
    cases h

theorem MidS.of_rel {V : Nat → AV → Prop} {toks toks' : List (Nat × Tok)} {S S' : Nat → Prop} {R R' : Lab} {a : Act} {w w' : World} (h : MidS G V toks S R a w)
    (hf : ∀ sl, RelAt G S R ⟨sl, toks⟩ a w → RelAt G S' R' ⟨sl, toks'⟩ a w') : MidS G V toks' S' R' a w' := by
  have h0 := hf [] (h.rel1 (fun d x hx => by cases hx))
  refine ⟨h0.holds, fun d x hx => ?_, h0.out, h0.defers, h0.size⟩
  have h1 := hf [(d, x)] (h.rel1 (fun d' y hy => by obtain ⟨rfl, rfl⟩ := look_one hy; exact hx))
  exact h1.slots d x (by simp [look, Nat.beq_refl])

theorem MidS.put {V V' : Nat → AV → Prop} {toks : List (Nat × Tok)} {S : Nat → Prop} {R : Lab} {a : Act} {w : World} (h : MidS G V toks S R a w) {dst : Option Tmp} {x : AV} {v : Value} (hd : dstOk dst n = true) (hv : RepV S R w x v)
    (hV : ∀ d y, V' d y → (dst = some d → y = x) ∧ (dst ≠ some d → V d y)) : MidS G V' toks S R (a.put dst v) w := by
  refine ⟨h.holds, fun d y hy => ?_, h.out, (put_defers ..).trans h.defers, (put_size ..).trans h.size⟩
  obtain ⟨h1, h2⟩ := hV d y hy
  cases hod : dst with
  | none =>
    exact h.slots d y (h2 (by rw [hod]; simp))
  | some e =>
    by_cases he : e = d
    · subst he
      have : e < a.tmps.size := by rw [h.size]; exact dstOk_lt hd e hod
      have hx : y = x := h1 hod
      subst hx
      simp [Act.put, this]
      exact hv
    · have := h.slots d y (h2 (by rw [hod]; simpa using he))
      simpa [Act.put, Array.getElem?_setIfInBounds_ne he] using this

def GOk (l : List Oper) (sl : List (Nat × AV)) (o : Oper) : Prop :=
  o.guard = none ∨ ∃ (j d : Nat) (p : Oper) (b : Bool), o.guard = some (j, b) ∧ l[j]? = some p ∧ p.dst = some d ∧ look sl d = some (.val (.bool b))

/-- An operation that takes tokens and gives others back; the state's are only read. -/
structure OpEffR (P : Program) (o : Oper) (st : St) (us : List (Nat × Tok)) (Post : List (Nat × Tok) → AV → Prop) : Prop where
  h : ∀ (S : Nat → Prop) (R : Lab) (a : Act) (w : World), Holds S R w (us ++ st.toks) → OpsAt S R w st a o.op → ∀ (next : Act → World → Prop) (Q : Exit → Act → World → Prop),
    (∀ v r S' R' w' ts', Post ts' r → Holds S' R' w' ts' → RepV S' R' w' r v → Out w S R (Foot R us) (fun l => ∃ t, (l, t) ∈ us) S' R' w' ts' → next (a.put o.dst v) w') → o.wp P a w next Q

/-- What is read, one behind the other; rs: the tokens that those that only reckon read. -/
inductive TL {ro : Option Nat} (G : CtxR P n ro) (l : List Oper) (bs : List Bool) (rs : List (Nat × Tok)) (K : Kont) : List Nat → List (Nat × AV) → List (Nat × Tok) → Prop
  | nil {sl : List (Nat × AV)} {ts : List (Nat × Tok)} (h : Goes G K .normal ⟨sl, ts ++ rs⟩) : TL G l bs rs K [] sl ts
  | ev {i : Nat} {r : List Nat} {o : Oper} {sl : List (Nat × AV)} {ts : List (Nat × Tok)} {x : AV} (ho : l[i]? = some o) (hb : bs.getD i false = true) (he : GEv P l sl rs o x) (hd : dstOk o.dst n = true) (h : TL G l bs rs K r (putSl sl o.dst x) ts) : TL G l bs rs K (i :: r) sl ts
  | evw {i : Nat} {r : List Nat} {o : Oper} {sl : List (Nat × AV)} {ts : List (Nat × Tok)} {x : AV} (ho : l[i]? = some o) (hb : bs.getD i false = false) (hna : isAl l i = false) (he : GEv P l sl (ts ++ rs) o x) (hd : dstOk o.dst n = true) (h : TL G l bs rs K r (putSl sl o.dst x) ts) : TL G l bs rs K (i :: r) sl ts
  | eff {i : Nat} {r : List Nat} {o : Oper} {sl : List (Nat × AV)} {ts us ts2 : List (Nat × Tok)} {Post : List (Nat × Tok) → AV → Prop} (ho : l[i]? = some o) (hb : bs.getD i false = false) (hna : isAl l i = false) (hg : GOk l sl o) (ht : Takes ts us ts2) (he : OpEff P o ⟨sl, []⟩ us Post) (hd : dstOk o.dst n = true)
      (h : ∀ ts' x, Post ts' x → TL G l bs rs K r (putSl sl o.dst x) (ts' ++ ts2)) : TL G l bs rs K (i :: r) sl ts

  | al {i : Nat} {r : List Nat} {d : Nat} {t ty : TypeId} {pos : String} {after : Array Edge} {sl : List (Nat × AV)} {ts : List (Nat × Tok)} {z : Value} {k b : Nat} (ho : l[i]? = some ⟨some d, .alloc t, ty, pos, after, none⟩) (hb : bs.getD i false = false) (he : ElF P t z k b) (hd : dstOk (some d) n = true)
      (h : ∀ lab, TL G l bs rs K r ((d, .ptr lab 0 0) :: sl) ((lab, .row t k [vcells z]) :: ts)) : TL G l bs rs K (i :: r) sl ts
  | effr {i : Nat} {r : List Nat} {o : Oper} {sl : List (Nat × AV)} {ts us ts2 : List (Nat × Tok)} {Post : List (Nat × Tok) → AV → Prop} (ho : l[i]? = some o) (hb : bs.getD i false = false) (hna : isAl l i = false) (hg : GOk l sl o) (ht : Takes ts us ts2) (he : OpEffR P o ⟨sl, rs⟩ us Post) (hd : dstOk o.dst n = true)
      (h : ∀ ts' x, Post ts' x → TL G l bs rs K r (putSl sl o.dst x) (ts' ++ ts2)) : TL G l bs rs K (i :: r) sl ts

/-- What the slots hold behind those that are done. -/
def VOf (sl0 : List (Nat × AV)) (D : List (Nat × Oper × AV)) (d : Nat) (x : AV) : Prop :=
  (∃ p, p ∈ D ∧ p.2.1.dst = some d ∧ p.2.2 = x) ∨ (look sl0 d = some x ∧ ∀ p, p ∈ D → p.2.1.dst ≠ some d)

/-- An alloc that is done ahead of its turn: its place, itself, what it gives; its token. -/
structure Early where
  p : Nat × Oper × AV
  t : Nat × Tok

/-- It is what an alloc gives. -/
def EOk (P : Program) (n : Nat) (l : List Oper) (e : Early) : Prop :=
  ∃ (d : Nat) (t ty : TypeId) (pos : String) (after : Array Edge) (z : Value) (k b : Nat), l[e.p.1]? = some e.p.2.1 ∧ e.p.2.1 = ⟨some d, .alloc t, ty, pos, after, none⟩ ∧ ElF P t z k b ∧ e.t = (e.t.1, .row t k [vcells z]) ∧ e.p.2.2 = .ptr e.t.1 0 0

theorem elf_same {P : Program} {t : TypeId} {z z' : Value} {k k' b b' : Nat} (h : ElF P t z k b) (h' : ElF P t z' k' b') : z = z' ∧ k = k' := by
  obtain ⟨i, h1, h2, h3, _⟩ := h.h
  obtain ⟨i', h1', h2', h3', _⟩ := h'.h
  rw [h1] at h1'
  cases h1'
  rw [h2] at h2'
  cases h2'
  exact ⟨rfl, by rw [← h3, h3']⟩

def etoks (E : List Early) : List (Nat × Tok) := E.map (·.t)

/-- What was read (h), what is still to be read (r), allocs that are done ahead of their turn (E), what is done (D, L). -/
structure Hist (P : Program) (n : Nat) (l : List Oper) (bs : List Bool) (rs : List (Nat × Tok)) (sl0 : List (Nat × AV)) (T' : List Nat) (D : List (Nat × Oper × AV)) (E : List Early) (h : List (Nat × Oper × AV)) (r : List Nat) (L : Nat → Prop) : Prop where
  order : T' = r.reverse ++ h.map (·.1)
  opers : ∀ p, p ∈ h → l[p.1]? = some p.2.1
  pend : ∀ a p b, h = a ++ p :: b → L p.1 ∨ (bs.getD p.1 false = true ∧ GEv P l (envOf sl0 b) rs p.2.1 p.2.2 ∧ dstOk p.2.1.dst n = true)
  dop : ∀ p, p ∈ D → l[p.1]? = some p.2.1 ∧ L p.1
  hD : ∀ p, p ∈ h → L p.1 → p ∈ D
  dh : ∀ i, L i → i ∈ h.map (·.1) ∨ ∃ e, e ∈ E ∧ e.p.1 = i
  eok : ∀ e, e ∈ E → EOk P n l e
  eD : ∀ e, e ∈ E → e.p ∈ D
  er : ∀ e, e ∈ E → e.p.1 ∈ r
  en : E.Pairwise (fun e e' => e.p.1 ≠ e'.p.1)

theorem opsAt_of {S : Nat → Prop} {R : Lab} {w : World} {l : List Oper} {o : Oper} {sl : List (Nat × AV)} {ts : List (Nat × Tok)} {a : Act} (h : ∀ t, t ∈ looks l o → ∀ y, look sl t = some y → RepV S R w y (a.tmps.getD t undef)) : OpsAt S R w ⟨sl, ts⟩ a o.op := by
  intro z hz y hy
  cases z with
  | tmp t =>
    refine h t ?_ y hy
    simp only [looks, List.mem_append, List.mem_filterMap]
    exact .inl ⟨.tmp t, by simpa using hz, rfl⟩
  | const v => cases hy; exact .val _
  | global g => cases hy; exact .val _
  | func f => cases hy; exact RepV.fn (vs := #[]) rfl (fun i x hx => by simp at hx)

/-- What one operation leaves. -/
def After {ro : Option Nat} (G : CtxR P n ro) (l : List Oper) (o : Oper) (i : Nat) (a : Act) (w : World) (S : Nat → Prop) (R : Lab) (toks : List (Nat × Tok)) (next : Act → World → Prop) : Prop :=
  ∀ Q : Exit → Act → World → Prop, wpOpIn (fen ro) 0 P l.toArray Q i next a w

/-- One that reckons is done. -/
theorem run_gev {l : List Oper} {i : Nat} {o : Oper} {x : AV} {sl : List (Nat × AV)} {toks rts : List (Nat × Tok)} {V : Nat → AV → Prop} {S : Nat → Prop} {R : Lab} {a : Act} {w : World} {Q : Exit → Act → World → Prop} {next : Act → World → Prop} (ho : l[i]? = some o)
    (he : GEv P l sl rts o x) (hm : MidS G V toks S R a w) (hr : ∃ us, toks.Perm (us ++ rts)) (hlook : ∀ t, t ∈ looks l o → ∀ y, look sl t = some y → RepV S R w y (a.tmps.getD t undef))
    (hn : ∀ S' R' w' v, MidS G V toks S' R' a w' → RepV S' R' w' x v → next (a.put o.dst v) w') : wpOpIn (fen ro) 0 P l.toArray Q i next a w := by
  obtain ⟨us, hperm⟩ := hr
  have hh : Holds S R w rts := hm.holds.sub ⟨us, hperm.trans List.perm_append_comm⟩
  have hops : OpsAt S R w ⟨sl, rts⟩ a o.op := opsAt_of hlook
  have hguard : ∀ (j d : Nat) (p : Oper) (c b : Bool), o.guard = some (j, b) → l[j]? = some p → p.dst = some d → look sl d = some (.val (.bool c)) → yielded l.toArray a.tmps j = some c := by
    intro j d p c b hg hpj hdj hxj
    have hv := slot_lt (hlook d (by simp only [looks, hg, hpj, List.mem_append]; exact .inr (by simp [hdj])) _ hxj)
    simp [yielded, hpj, hdj, hv]
  have hnext : ∀ v S' R' w', Grow S R w S' R' w' → RepV S' R' w' x v → next (a.put o.dst v) w' := fun v S' R' w' hg hv =>
    hn S' R' w' v (hm.of_rel fun sl h => h.grow hg) hv
  unfold wpOpIn
  simp only [List.getElem?_toArray, ho]
  cases he with
  | plain hg h =>
    rw [if_pos (by simp [Region.wanted, hg])]
    exact oper_in (h.h S R a w hh hops _ _ fun v S' R' w' hg hv => ⟨hnext v S' R' w' hg hv, put_defers ..⟩)
  | take hg hpj hdj hxj h =>
    rw [if_pos (by simp [Region.wanted, hg, hguard _ _ _ _ _ hg hpj hdj hxj])]
    exact oper_in (h.h S R a w hh hops _ _ fun v S' R' w' hg hv => ⟨hnext v S' R' w' hg hv, put_defers ..⟩)
  | skip hg hpj hdj hxj hne =>
    have hv := rep_val (hlook _ (by simp only [looks, hg, hpj, List.mem_append]; exact .inr (by simp [hdj])) _ hxj)
    rw [if_neg (by simpa [Region.wanted, hg] using yielded_ne hpj hdj hv hne)]
    exact ⟨fun _ _ => trivial, hnext _ S R w (.refl w hm.holds.top) (.val undef)⟩

theorem run_geff {l : List Oper} {i : Nat} {o : Oper} {sl : List (Nat × AV)} {toks us rts : List (Nat × Tok)} {Post : List (Nat × Tok) → AV → Prop} {V : Nat → AV → Prop} {S : Nat → Prop} {R : Lab} {a : Act} {w : World} {Q : Exit → Act → World → Prop} {next : Act → World → Prop} (ho : l[i]? = some o)
    (hg : GOk l sl o) (he : OpEff P o ⟨sl, []⟩ us Post) (hm : MidS G V toks S R a w) (hr : toks.Perm (us ++ rts)) (hlook : ∀ t, t ∈ looks l o → ∀ y, look sl t = some y → RepV S R w y (a.tmps.getD t undef))
    (hn : ∀ S' R' w' v x ts', Post ts' x → MidS G V (ts' ++ rts) S' R' a w' → RepV S' R' w' x v → next (a.put o.dst v) w') : wpOpIn (fen ro) 0 P l.toArray Q i next a w := by
  have hh : Holds S R w us := hm.holds.sub ⟨rts, hr⟩
  have hops : OpsAt S R w ⟨sl, []⟩ a o.op := opsAt_of hlook
  have hw : Region.wanted o (yielded l.toArray a.tmps) = true := by
    rcases hg with hg | ⟨j, d, p, b, hg, hpj, hdj, hxj⟩
    · simp [Region.wanted, hg]
    · have hv := slot_lt (hlook d (by simp only [looks, hg, hpj, List.mem_append]; exact .inr (by simp [hdj])) _ hxj)
      simp [Region.wanted, hg, yielded, hpj, hdj, hv]
  unfold wpOpIn
  simp only [List.getElem?_toArray, ho]
  rw [if_pos hw]
  refine oper_in (he.h S R a w hh hops _ _ fun v x S' R' w' ts' hpost hh' hrep out => ⟨hn S' R' w' v x ts' hpost ?_ hrep, put_defers ..⟩)
  exact hm.of_rel fun sl h => h.frame hr hh' out

theorem run_geffr {l : List Oper} {i : Nat} {o : Oper} {sl : List (Nat × AV)} {toks us ts2 rs : List (Nat × Tok)} {Post : List (Nat × Tok) → AV → Prop} {V : Nat → AV → Prop} {S : Nat → Prop} {R : Lab} {a : Act} {w : World} {Q : Exit → Act → World → Prop} {next : Act → World → Prop} (ho : l[i]? = some o)
    (hg : GOk l sl o) (he : OpEffR P o ⟨sl, rs⟩ us Post) (hm : MidS G V toks S R a w) (hr : toks.Perm (us ++ (ts2 ++ rs))) (hlook : ∀ t, t ∈ looks l o → ∀ y, look sl t = some y → RepV S R w y (a.tmps.getD t undef))
    (hn : ∀ S' R' w' v x ts', Post ts' x → MidS G V (ts' ++ (ts2 ++ rs)) S' R' a w' → RepV S' R' w' x v → next (a.put o.dst v) w') : wpOpIn (fen ro) 0 P l.toArray Q i next a w := by
  have hh : Holds S R w (us ++ rs) := hm.holds.sub ⟨ts2, hr.trans (by rw [List.append_assoc]; exact List.perm_append_comm.append_left us)⟩
  have hops : OpsAt S R w ⟨sl, rs⟩ a o.op := opsAt_of hlook
  have hw : Region.wanted o (yielded l.toArray a.tmps) = true := by
    rcases hg with hg | ⟨j, d, p, b, hg, hpj, hdj, hxj⟩
    · simp [Region.wanted, hg]
    · have hv := slot_lt (hlook d (by simp only [looks, hg, hpj, List.mem_append]; exact .inr (by simp [hdj])) _ hxj)
      simp [Region.wanted, hg, yielded, hpj, hdj, hv]
  unfold wpOpIn
  simp only [List.getElem?_toArray, ho]
  rw [if_pos hw]
  refine oper_in (he.h S R a w hh hops _ _ fun v x S' R' w' ts' hpost hh' hrep out => ⟨hn S' R' w' v x ts' hpost ?_ hrep, put_defers ..⟩)
  exact hm.of_rel fun sl h => h.frame hr hh' out

section
variable {l : List Oper} {bs : List Bool} {rs : List (Nat × Tok)} {sl0 : List (Nat × AV)} {T' : List Nat} {D : List (Nat × Oper × AV)} {E : List Early} {h : List (Nat × Oper × AV)} {r : List Nat} {L : Nat → Prop} {K : Kont}

/-- What one looks at. -/
theorem look_gen {b : List (Nat × Oper × AV)} {i : Nat} {o : Oper} {toks : List (Nat × Tok)} {S : Nat → Prop} {R : Lab} {ac : Act} {w : World} (ho : l[i]? = some o) (hown : ∀ d, o.dst = some d → d ∉ looks l o) (hb : ∀ q, q ∈ b → PR l bs i q.1 ∧ l[q.1]? = some q.2.1 ∧ (L q.1 → q ∈ D)) (hD : ∀ p, p ∈ D → l[p.1]? = some p.2.1 ∧ L p.1)
    (hrest : ∀ j, L j → (∃ q, q ∈ b ∧ q.1 = j) ∨ j = i ∨ PR l bs j i) (hanc : ∀ j, ancB l l.length i j = true → L j) (hnot : ∀ j, ancB l l.length j i = true → ¬ L j) (hm : MidS G (VOf sl0 D) toks S R ac w) :
    ∀ t, t ∈ looks l o → ∀ y, Go.Proofs.YtmenbolalghljaaA.look (envOf sl0 b) t = some y → RepV S R w y (ac.tmps.getD t undef) := by
  intro t ht y hy
  rcases envOf_look hy with ⟨q, h1, h2, h3⟩ | ⟨h1, h2⟩
  · obtain ⟨hp, hq, hd⟩ := hb q h1
    exact hm.slots t y (.inl ⟨q, hd (hanc _ (hp.reads _ _ _ ho hq h2 ht)), h2, h3⟩)
  · refine hm.slots t y (.inr ⟨h1, fun p hp hd => ?_⟩)
    obtain ⟨hpo, hpL⟩ := hD p hp
    rcases hrest p.1 hpL with ⟨q, hq, hqp⟩ | hji | hji
    · have := (hb q hq).2.1
      rw [hqp, hpo] at this
      exact h2 q hq (by rw [← Option.some.inj this]; exact hd)
    · rw [hji, ho] at hpo
      exact hown t (by rw [Option.some.inj hpo]; exact hd) ht
    · exact hnot p.1 (hji.over _ _ _ hpo ho hd ht) hpL

/-- One more is done. -/
theorem VOf.step {i : Nat} {o : Oper} {x : AV} (hdst : ∀ p, p ∈ D → ∀ d, o.dst = some d → p.2.1.dst ≠ some d) (d : Nat) (y : AV) (hv : VOf sl0 ((i, o, x) :: D) d y) : (o.dst = some d → y = x) ∧ (o.dst ≠ some d → VOf sl0 D d y) := by
  rcases hv with ⟨q, h1, h2, h3⟩ | ⟨h1, h2⟩
  · rcases List.mem_cons.1 h1 with rfl | h1
    · exact ⟨fun _ => h3.symm, fun hne => absurd h2 hne⟩
    · exact ⟨fun hd => absurd h2 (hdst q h1 d hd), fun _ => .inl ⟨q, h1, h2, h3⟩⟩
  · exact ⟨fun hd => absurd hd (h2 _ List.mem_cons_self), fun _ => .inr ⟨h1, fun q hq => h2 q (List.mem_cons_of_mem _ hq)⟩⟩

theorem Hist.cons {i : Nat} (H : Hist P n l bs rs sl0 T' D E h (i :: r) L) (hT : T'.Pairwise (fun i j => PR l bs i j)) {o : Oper} {x : AV} (ho : l[i]? = some o) (hb : bs.getD i false = true) (hna : isAl l i = false) (he : GEv P l (envOf sl0 h) rs o x) (hd : dstOk o.dst n = true) : Hist P n l bs rs sl0 T' D E ((i, o, x) :: h) r L := by
  have hiE : ∀ e, e ∈ E → e.p.1 ≠ i := fun e hm hi => by
    obtain ⟨d, t, ty, pos, after, z, k, b, h1, h2, _⟩ := H.eok e hm
    rw [hi, h2] at h1
    simp [isAl, h1] at hna
  have hnl : ¬ L i := fun hl => by
    rcases H.dh i hl with h1 | ⟨e, h1, h2⟩
    · rw [H.order] at hT
      exact ((List.pairwise_append.1 hT).2.2 i (by simp) i h1).ne rfl
    · exact hiE e h1 h2
  refine ⟨by rw [H.order]; simp, fun p hp => ?_, fun a p b hab => ?_, H.dop, fun p hp hl => ?_, fun j hj => ?_, H.eok, H.eD, fun e he' => ?_, H.en⟩
  · rcases List.mem_cons.1 hp with rfl | hp
    · exact ho
    · exact H.opers p hp
  · cases a with
    | nil =>
      simp only [List.nil_append, List.cons.injEq] at hab
      obtain ⟨rfl, rfl⟩ := hab
      exact .inr ⟨hb, he, hd⟩
    | cons q a =>
      simp only [List.cons_append, List.cons.injEq] at hab
      exact H.pend a p b hab.2
  · rcases List.mem_cons.1 hp with rfl | hp
    · exact absurd hl hnl
    · exact H.hD p hp hl
  · rcases H.dh j hj with h1 | h1
    · exact .inl (by simp only [List.map_cons, List.mem_cons]; exact .inr h1)
    · exact .inr h1
  · rcases List.mem_cons.1 (H.er e he') with h1 | h1
    · exact absurd h1 (hiE e he')
    · exact h1

/-- An alloc that was done ahead of its turn: now it is its turn. -/
theorem Hist.turn {E1 E2 : List Early} {e : Early} (H : Hist P n l bs rs sl0 T' D (E1 ++ e :: E2) h (e.p.1 :: r) L) : Hist P n l bs rs sl0 T' D (E1 ++ E2) (e.p :: h) r L := by
  have hmem : ∀ e', e' ∈ E1 ++ E2 → e' ∈ E1 ++ e :: E2 := fun e' h' => by
    rcases List.mem_append.1 h' with h1 | h1
    · exact List.mem_append_left _ h1
    · exact List.mem_append_right _ (List.mem_cons_of_mem _ h1)
  have hen := List.pairwise_append.1 H.en
  have hen2 := List.pairwise_cons.1 hen.2.1
  have hne : ∀ e', e' ∈ E1 ++ E2 → e'.p.1 ≠ e.p.1 := fun e' h' => by
    rcases List.mem_append.1 h' with h1 | h1
    · exact hen.2.2 e' h1 e List.mem_cons_self
    · exact (hen2.1 e' h1).symm
  have heD := H.eD e (by simp)
  refine ⟨by rw [H.order]; simp, fun p hp => ?_, fun a p b hab => ?_, H.dop, fun p hp hl => ?_, fun j hj => ?_, fun e' h' => H.eok e' (hmem e' h'), fun e' h' => H.eD e' (hmem e' h'), fun e' h' => ?_, List.pairwise_append.2 ⟨hen.1, hen2.2, fun a ha b hb => hen.2.2 a ha b (List.mem_cons_of_mem _ hb)⟩⟩
  · rcases List.mem_cons.1 hp with rfl | hp
    · exact (H.dop _ heD).1
    · exact H.opers p hp
  · cases a with
    | nil =>
      simp only [List.nil_append, List.cons.injEq] at hab
      obtain ⟨rfl, rfl⟩ := hab
      exact .inl (H.dop _ heD).2
    | cons q a =>
      simp only [List.cons_append, List.cons.injEq] at hab
      exact H.pend a p b hab.2
  · rcases List.mem_cons.1 hp with rfl | hp
    · exact heD
    · exact H.hD p hp hl
  · simp only [List.map_cons, List.mem_cons]
    rcases H.dh j hj with h1 | ⟨e', h1, h2⟩
    · exact .inl (.inr h1)
    · rcases List.mem_append.1 h1 with h3 | h3
      · exact .inr ⟨e', List.mem_append_left _ h3, h2⟩
      · rcases List.mem_cons.1 h3 with rfl | h3
        · exact .inl (.inl h2.symm)
        · exact .inr ⟨e', List.mem_append_right _ h3, h2⟩
  · rcases List.mem_cons.1 (H.er e' (hmem e' h')) with h1 | h1
    · exact absurd h1 (hne e' h')
    · exact h1

/-- What stands ahead is read. -/
theorem TL.advance (hT : T'.Pairwise (fun i j => PR l bs i j)) (hal : ∀ i, isAl l i = true → bs.getD i false = false) {r2 : List Nat} : ∀ (r1 : List Nat) (h : List (Nat × Oper × AV)) (E : List Early) (ts : List (Nat × Tok)), Hist P n l bs rs sl0 T' D E h (r1 ++ r2) L → (∀ j, j ∈ r1 → bs.getD j false = true ∨ ∃ e, e ∈ E ∧ e.p.1 = j) →
    TL G l bs rs K (r1 ++ r2) (envOf sl0 h) ts → ∃ h' E' ts', Hist P n l bs rs sl0 T' D E' h' r2 L ∧ TL G l bs rs K r2 (envOf sl0 h') ts' ∧ (ts' ++ etoks E').Perm (ts ++ etoks E)
  | [], h, E, ts, H, _, htl => ⟨h, E, ts, H, htl, .refl _⟩
  | j :: r1, h, E, ts, H, hb, htl => by
    have hbj := hb j List.mem_cons_self
    have isal : ∀ e, e ∈ E → e.p.1 = j → isAl l j = true := fun e hm hj => by
      obtain ⟨d, t, ty, pos, after, z, k, b, h1, h2, _⟩ := H.eok e hm
      rw [hj, h2] at h1
      simp [isAl, h1]
    have hin : bs.getD j false = false → ∃ e, e ∈ E ∧ e.p.1 = j := fun hf => hbj.resolve_left (by rw [hf]; simp)
    cases htl with
    | ev ho hb' he hd h' =>
      rename_i o x
      have hna : isAl l j = false := by
        cases hc : isAl l j with
        | false => rfl
        | true => rw [hal j hc] at hb'; cases hb'
      exact TL.advance hT hal r1 ((j, o, x) :: h) E ts (H.cons hT ho hb' hna he hd) (fun k hk => hb k (List.mem_cons_of_mem _ hk)) h'
    | evw ho hb' hna => obtain ⟨e, h1, h2⟩ := hin hb'; rw [isal e h1 h2] at hna; cases hna
    | eff ho hb' hna => obtain ⟨e, h1, h2⟩ := hin hb'; rw [isal e h1 h2] at hna; cases hna
    | effr ho hb' hna => obtain ⟨e, h1, h2⟩ := hin hb'; rw [isal e h1 h2] at hna; cases hna
    | al ho hb' he hd h' =>
      rename_i d t ty pos after z k b
      obtain ⟨e, h1, rfl⟩ := hin hb'
      obtain ⟨d', t', ty', pos', after', z', k', b', g1, g2, g3, g4, g5⟩ := H.eok e h1
      rw [ho, g2] at g1
      simp only [Option.some.injEq, Oper.mk.injEq, Op.alloc.injEq] at g1
      obtain ⟨rfl, rfl, _⟩ := g1
      obtain ⟨rfl, rfl⟩ := elf_same he g3
      obtain ⟨E1, E2, rfl⟩ := List.append_of_mem h1
      have h2 := h' e.t.1
      have henv : envOf sl0 (e.p :: h) = (d, .ptr e.t.1 0 0) :: envOf sl0 h := by
        simp only [envOf, g2, g5]; rfl
      rw [← henv] at h2
      obtain ⟨h3, E3, ts3, a1, a2, a3⟩ := TL.advance hT hal r1 (e.p :: h) (E1 ++ E2) _ H.turn (fun j hj => by
        rcases hb j (List.mem_cons_of_mem _ hj) with c1 | ⟨e', c1, c2⟩
        · exact .inl c1
        · rcases List.mem_append.1 c1 with c3 | c3
          · exact .inr ⟨e', List.mem_append_left _ c3, c2⟩
          · rcases List.mem_cons.1 c3 with rfl | c3
            · exfalso
              have hT' := hT
              rw [H.order] at hT'
              have := (List.pairwise_append.1 hT').1
              simp only [List.cons_append, List.reverse_cons] at this
              exact ((List.pairwise_append.1 this).2.2 j (by simp [hj]) e'.p.1 (by simp)).ne c2.symm
            · exact .inr ⟨e', List.mem_append_right _ c3, c2⟩) h2
      refine ⟨h3, E3, ts3, a1, a2, a3.trans ?_⟩
      rw [← g4]
      simp only [etoks, List.map_append, List.map_cons, List.cons_append]
      have : (e.t :: (ts ++ (E1.map (·.t) ++ E2.map (·.t)))).Perm (ts ++ (e.t :: (E1.map (·.t) ++ E2.map (·.t)))) := List.perm_middle.symm
      refine this.trans (List.Perm.append_left ts ?_)
      exact List.perm_middle.symm
end


theorem pw_or {α : Type} {R : α → α → Prop} : ∀ {l : List α}, l.Pairwise R → ∀ i j, i ∈ l → j ∈ l → i ≠ j → R i j ∨ R j i
  | [], _, _, _, h, _, _ => by cases h
  | a :: l, hp, i, j, hi, hj, hne => by
    have hp' := List.pairwise_cons.1 hp
    rcases List.mem_cons.1 hi with e1 | g1
    · rcases List.mem_cons.1 hj with e2 | g2
      · exact absurd (e1.trans e2.symm) hne
      · exact .inl (by rw [e1]; exact hp'.1 j g2)
    · rcases List.mem_cons.1 hj with e2 | g2
      · exact .inr (by rw [e2]; exact hp'.1 i g1)
      · exact pw_or hp'.2 i j g1 g2 hne

theorem MidS.perm {V : Nat → AV → Prop} {toks toks' : List (Nat × Tok)} {S : Nat → Prop} {R : Lab} {a : Act} {w : World} (h : MidS G V toks S R a w) (hp : toks.Perm toks') : MidS G V toks' S R a w := by
  have o := h.out
  exact ⟨h.holds.sub ⟨[], by simpa using hp⟩, h.slots, ⟨o.os, o.tape, o.output, o.size, o.block, o.S0, o.S1, o.R0, fun g ⟨l', t', hm', hg⟩ => o.foot g ⟨l', t', hp.mem_iff.2 hm', hg⟩, fun l' t' hm' => o.keys l' t' (hp.mem_iff.2 hm')⟩, h.defers, h.size⟩

/-- What the allocs make is known. -/
inductive Als (P : Program) (n : Nat) : List Oper → Prop
  | nil : Als P n []
  | al {d : Nat} {t ty : TypeId} {pos : String} {after : Array Edge} {z : Value} {k b : Nat} {r : List Oper} [he : ElF P t z k b] (hd : Nat.blt d n = true) (hr : Als P n r) : Als P n (⟨some d, .alloc t, ty, pos, after, none⟩ :: r)
  | other {o : Oper} {r : List Oper} (ho : isAl [o] 0 = false) (hr : Als P n r) : Als P n (o :: r)

theorem Als.get {l : List Oper} (h : Als P n l) : ∀ (i : Nat), isAl l i = true → ∃ (d : Nat) (t ty : TypeId) (pos : String) (after : Array Edge) (z : Value) (k b : Nat), l[i]? = some ⟨some d, .alloc t, ty, pos, after, none⟩ ∧ ElF P t z k b ∧ dstOk (some d) n = true := by
  induction h with
  | nil => intro i hi; simp [isAl] at hi
  | al hd hr ih =>
    rename_i d t ty pos after z k b r he
    intro i hi
    cases i with
    | zero => exact ⟨d, t, ty, pos, after, z, k, b, rfl, he, hd⟩
    | succ i => simpa using ih i (by simpa [isAl] using hi)
  | other ho hr ih =>
    intro i hi
    cases i with
    | zero =>
      rename_i o r
      have h0 : isAl [o] 0 = true := hi
      rw [ho] at h0
      cases h0
    | succ i => simpa using ih i (by simpa [isAl] using hi)

section
variable {l : List Oper} {bs : List Bool} {rs : List (Nat × Tok)} {sl0 : List (Nat × AV)} {T' : List Nat} {D : List (Nat × Oper × AV)} {E : List Early} {h : List (Nat × Oper × AV)} {r : List Nat} {L : Nat → Prop}

theorem Hist.mark (H : Hist P n l bs rs sl0 T' D E h r L) (hT : T'.Pairwise (fun i j => PR l bs i j)) {p : Nat × Oper × AV} (hp : p ∈ h) : Hist P n l bs rs sl0 T' (p :: D) E h r (fun j => j = p.1 ∨ L j) := by
  have hpw : (h.map (·.1)).Pairwise (fun i j => PR l bs i j) := by
    rw [H.order] at hT
    exact (List.pairwise_append.1 hT).2.1
  have huniq : ∀ q, q ∈ h → q.1 = p.1 → q = p := by
    intro q hq he
    have : ∀ (m : List (Nat × Oper × AV)), (m.map (·.1)).Pairwise (fun i j => PR l bs i j) → p ∈ m → q ∈ m → q = p := by
      intro m
      induction m with
      | nil => intro _ h1; cases h1
      | cons z m ih =>
        intro hpw h1 h2
        have hpw' := List.pairwise_cons.1 hpw
        rcases List.mem_cons.1 h1 with e1 | g1
        · rcases List.mem_cons.1 h2 with e2 | g2
          · rw [e1, e2]
          · subst e1
            exact absurd he.symm (hpw'.1 q.1 (List.mem_map_of_mem g2)).ne
        · rcases List.mem_cons.1 h2 with e2 | g2
          · subst e2
            exact absurd he (hpw'.1 p.1 (List.mem_map_of_mem g1)).ne
          · exact ih hpw'.2 g1 g2
    exact this h hpw hp hq
  refine ⟨H.order, H.opers, fun a q b hab => (H.pend a q b hab).imp .inr id, fun q hq => ?_, fun q hq hl => ?_, fun j hj => ?_, H.eok, fun e he => List.mem_cons_of_mem _ (H.eD e he), H.er, H.en⟩
  · rcases List.mem_cons.1 hq with rfl | hq
    · exact ⟨H.opers _ hp, .inl rfl⟩
    · exact ⟨(H.dop q hq).1, .inr (H.dop q hq).2⟩
  · rcases hl with hl | hl
    · rw [huniq q hq hl]; exact List.mem_cons_self
    · exact List.mem_cons_of_mem _ (H.hD q hq hl)
  · rcases hj with rfl | hj
    · exact .inl (List.mem_map_of_mem hp)
    · exact H.dh j hj

theorem Hist.write {i : Nat} (H : Hist P n l bs rs sl0 T' D E h (i :: r) L) (hni : ∀ e, e ∈ E → e.p.1 ≠ i) (hnh : ∀ q, q ∈ h → q.1 ≠ i) {o : Oper} {x : AV} (ho : l[i]? = some o) : Hist P n l bs rs sl0 T' ((i, o, x) :: D) E ((i, o, x) :: h) r (fun j => j = i ∨ L j) := by
  refine ⟨by rw [H.order]; simp, fun p hp => ?_, fun a p b hab => ?_, fun q hq => ?_, fun q hq hl => ?_, fun j hj => ?_, H.eok, fun e he => List.mem_cons_of_mem _ (H.eD e he), fun e he => ?_, H.en⟩
  · rcases List.mem_cons.1 hp with rfl | hp
    · exact ho
    · exact H.opers p hp
  · cases a with
    | nil =>
      simp only [List.nil_append, List.cons.injEq] at hab
      obtain ⟨rfl, rfl⟩ := hab
      exact .inl (.inl rfl)
    | cons q a =>
      simp only [List.cons_append, List.cons.injEq] at hab
      exact (H.pend a p b hab.2).imp .inr id
  · rcases List.mem_cons.1 hq with rfl | hq
    · exact ⟨ho, .inl rfl⟩
    · exact ⟨(H.dop q hq).1, .inr (H.dop q hq).2⟩
  · rcases List.mem_cons.1 hq with rfl | hq
    · exact List.mem_cons_self
    · rcases hl with hl | hl
      · exact absurd hl (hnh q hq)
      · exact List.mem_cons_of_mem _ (H.hD q hq hl)
  · simp only [List.map_cons, List.mem_cons]
    rcases hj with rfl | hj
    · exact .inl (.inl rfl)
    · exact (H.dh j hj).imp .inr id
  · rcases List.mem_cons.1 (H.er e he) with h1 | h1
    · exact absurd h1 (hni e he)
    · exact h1
end

theorem mix_aux {l : List Oper} {bs : List Bool} {T : List Nat} {sl0 : List (Nat × AV)} {rs : List (Nat × Tok)} {K : Kont} (hok : ordOk l bs T = true) (hals : Als P n l) :
    ∀ (fuel : Nat) (listed : Array Bool) (a : Act) (w : World) (D : List (Nat × Oper × AV)) (E : List Early) (h : List (Nat × Oper × AV)) (r : List Nat) (ts : List (Nat × Tok)), listed.size = l.length →
      (∀ (i : Nat) (o : Oper), Lst listed i → l[i]? = some o → ∀ e, e ∈ edgesOf o → Lst listed e) → (∀ i, Lst listed i → i < l.length) →
      Hist P n l bs rs sl0 T.reverse D E h r (Lst listed) → TL G l bs rs K r (envOf sl0 h) ts →
      (unl l.length listed).length ≤ fuel → (∃ S R, MidS G (VOf sl0 D) (ts ++ (etoks E ++ rs)) S R a w) → wpAnyIn (fen ro) 0 P .any l.toArray (lift G (K.at G)) fuel listed a w := by
  simp only [ordOk, Bool.and_eq_true] at hok
  obtain ⟨hok1, hok2, hok3⟩ := hok
  have hpw : T.reverse.Pairwise (fun i j => PR l bs i j) := (pairsB_iff hok2).imp fun h => prB_iff h
  have hrow : ∀ (i : Nat) (o : Oper), l[i]? = some o → i ∈ T ∧ (∀ e, e ∈ edgesOf o → e < i) ∧ (∀ d, o.dst = some d → d ∉ looks l o) ∧ (isAl l i = true → bs.getD i false = false) := by
    intro i o ho
    have := allB_iff hok1 (List.getElem?_eq_some_iff.1 ho).1
    simp only [ho, Bool.and_eq_true] at this
    refine ⟨List.contains_iff_mem.1 this.1, fun e he => by simpa [Nat.blt_eq] using List.all_eq_true.1 this.2.1.1 e he, fun d hd hm => ?_, fun hal => ?_⟩
    · have h2 := this.2.1.2
      simp only [hd, Bool.not_eq_true'] at h2
      rw [List.contains_iff_mem.2 hm] at h2
      cases h2
    · have h2 := this.2.2
      rw [hal] at h2
      simpa using h2
  have hal : ∀ i, isAl l i = true → bs.getD i false = false := fun i hi => by
    obtain ⟨d, t, ty, pos, after, z, k, b, ho, _⟩ := hals.get i hi
    exact (hrow i _ ho).2.2.2 hi
  have hinT : ∀ (i : Nat) (o : Oper), l[i]? = some o → i ∈ T.reverse := fun i o ho => List.mem_reverse.2 (hrow i o ho).1
  -- no two write one slot
  have hdst : ∀ (i j : Nat) (o p : Oper) (d : Nat), i ≠ j → l[i]? = some o → l[j]? = some p → o.dst = some d → p.dst ≠ some d := by
    intro i j o p d hne ho hp hd hd'
    rcases pw_or hpw i j (hinT i o ho) (hinT j p hp) hne with h1 | h1
    · exact h1.dsts _ _ d ho hp hd' hd
    · exact h1.dsts _ _ d hp ho hd hd'
  have hfin : ∀ (listed : Array Bool) (a : Act) (w : World) (D : List (Nat × Oper × AV)) (E : List Early) (h : List (Nat × Oper × AV)) (r : List Nat) (ts : List (Nat × Tok)), (∀ i, i < l.length → Lst listed i) → Hist P n l bs rs sl0 T.reverse D E h r (Lst listed) → TL G l bs rs K r (envOf sl0 h) ts → (∃ S R, MidS G (VOf sl0 D) (ts ++ (etoks E ++ rs)) S R a w) → lift G (K.at G) .normal a w := by
    intro listed a w D E h r ts hall H htl ⟨S, R, hm⟩
    have hrl : ∀ j, j ∈ r → j < l.length → ∃ e, e ∈ E ∧ e.p.1 = j := fun j hj hlt => by
      rcases H.dh j (hall j hlt) with h1 | h1
      · have hp' := hpw
        rw [H.order] at hp'
        exact absurd rfl ((List.pairwise_append.1 hp').2.2 j (by simpa using hj) j h1).ne
      · exact h1
    -- what is left is in the list
    have hlen : ∀ j, j ∈ r → j < l.length := fun j hj => by
      have hjT : j ∈ T.reverse := by rw [H.order]; simp [hj]
      have := List.all_eq_true.1 hok3 j (List.mem_reverse.1 hjT)
      simpa [Nat.blt_eq] using this
    obtain ⟨h', E', ts', H', htl', hperm⟩ := TL.advance hpw hal (r2 := []) r h E ts (by simpa using H) (fun j hj => .inr (hrl j hj (hlen j hj))) (by simpa using htl)
    have hE' : E' = [] := List.eq_nil_iff_forall_not_mem.2 fun e he => by have := H'.er e he; cases this
    subst hE'
    simp only [etoks, List.map_nil, List.append_nil] at hperm
    have hm' : MidS G (VOf sl0 D) (ts' ++ rs) S R a w := hm.perm (by
      rw [← List.append_assoc]
      exact hperm.symm.append_right rs)
    cases htl' with
    | nil hgo =>
      refine ⟨_, hgo.h, S, R, hm'.rel1 fun d x hx => ?_⟩
      rcases envOf_look hx with ⟨p, h1, h2, h3⟩ | ⟨h1, h2⟩
      · exact .inl ⟨p, H'.hD p h1 (hall _ (List.getElem?_eq_some_iff.1 (H'.opers p h1)).1), h2, h3⟩
      · refine .inr ⟨h1, fun p hp hd => ?_⟩
        obtain ⟨g1, g2⟩ := H'.dop p hp
        rcases H'.dh _ g2 with g3 | ⟨e, g3, _⟩
        · obtain ⟨q, hq, hqp⟩ := List.mem_map.1 g3
          have := H'.opers q hq
          rw [hqp, g1] at this
          exact h2 q hq (by rw [← Option.some.inj this]; exact hd)
        · cases g3
  intro fuel
  induction fuel with
  | zero =>
    intro listed a w D E h r ts hs hd hL H htl hf hm
    have hall : ∀ i, i < l.length → Lst listed i := fun i hi => by
      by_cases hl : Lst listed i
      · exact hl
      · have : i ∈ unl l.length listed := by
          simp only [unl, List.mem_filter, List.mem_range]
          refine ⟨hi, ?_⟩
          cases hb : listed.getD i false with
          | true => exact absurd hb hl
          | false => rfl
        have := List.length_pos_of_mem this
        omega
    refine ⟨?_, hfin _ _ _ _ _ _ _ _ hall H htl hm⟩
    rw [List.eq_nil_iff_forall_not_mem]
    intro i hi
    obtain ⟨h1, h2, _⟩ := mem_ready hs hi
    exact h2 (hall i h1)
  | succ fuel ih =>
    intro listed a w D E h r ts hs hd hL H htl hf hmid
    by_cases hall : ∀ i, i < l.length → Lst listed i
    · refine ⟨fun _ => hfin _ _ _ _ _ _ _ _ hall H htl hmid, fun i hi => ?_⟩
      obtain ⟨h1, h2, _⟩ := mem_ready hs hi
      exact absurd (hall i h1) h2
    · have hex : ∃ i, i < l.length ∧ ¬ Lst listed i := Classical.byContradiction fun hc => hall fun i hi => Classical.byContradiction fun hl => hc ⟨i, hi, hl⟩
      obtain ⟨i0, ⟨hi0, hl0⟩, hmin⟩ := exists_least hex
      have hr0 : i0 ∈ Region.ready .any l.toArray listed := ready_mem hs (List.getElem?_eq_getElem hi0) hl0 (fun e he => by
        have := (hrow i0 _ (List.getElem?_eq_getElem hi0)).2.1 e he
        exact Classical.byContradiction fun hc => by have := hmin e ⟨by omega, hc⟩; omega)
      refine ⟨fun hn => (by rw [hn] at hr0; cases hr0), fun i hi => ?_⟩
      obtain ⟨h1, h2, o, ho, he⟩ := mem_ready hs hi
      have hown := (hrow i o ho).2.2.1
      have hanc : ∀ j, ancB l l.length i j = true → Lst listed j := fun j h => anc_lst hd _ _ _ o ho he h
      have hnot : ∀ (j : Nat), ancB l l.length j i = true → ¬ Lst listed j := fun j h hj => by
        cases hq : l[j]? with
        | none =>
          have : ∀ f, ancB l f j i = false := fun f => by cases f <;> simp [ancB, hq]
          rw [this] at h; cases h
        | some q => exact h2 (anc_lst hd _ _ _ q hq (hd j q hj hq) h)
      have hset : Lst (listed.setIfInBounds i true) = fun j => j = i ∨ Lst listed j := funext fun j => propext (lst_set (by omega))
      have hd' : ∀ (j : Nat) (p : Oper), Lst (listed.setIfInBounds i true) j → l[j]? = some p → ∀ e, e ∈ edgesOf p → Lst (listed.setIfInBounds i true) e := fun j p hj hpj e hem => by
        rw [hset] at hj ⊢
        refine .inr ?_
        rcases hj with rfl | h
        · rw [ho] at hpj; cases hpj; exact he e hem
        · exact hd j p h hpj e hem
      have hL' : ∀ j, Lst (listed.setIfInBounds i true) j → j < l.length := fun j hj => by
        rw [hset] at hj
        rcases hj with rfl | hj
        · exact h1
        · exact hL j hj
      have hfu : (unl l.length (listed.setIfInBounds i true)).length ≤ fuel := by have := unl_lt (n := l.length) hs h1 h2; omega
      -- one more is done: the slots
      have hstep : ∀ (D : List (Nat × Oper × AV)) (x : AV), (∀ p, p ∈ D → l[p.1]? = some p.2.1 ∧ Lst listed p.1) → ∀ d y, VOf sl0 ((i, o, x) :: D) d y → (o.dst = some d → y = x) ∧ (o.dst ≠ some d → VOf sl0 D d y) := fun D x hD d y hv =>
        VOf.step (fun p hp d' hd' => hdst i p.1 o p.2.1 d' (fun e => h2 (by rw [e]; exact (hD p hp).2)) ho (hD p hp).1 hd') d y hv
      -- one of the history that only reckons
      have hpend : ∀ (E : List Early) (h : List (Nat × Oper × AV)) (r : List Nat) (ts : List (Nat × Tok)) (a1 b1 : List (Nat × Oper × AV)) (p : Nat × Oper × AV), h = a1 ++ p :: b1 → p.1 = i → Hist P n l bs rs sl0 T.reverse D E h r (Lst listed) → TL G l bs rs K r (envOf sl0 h) ts → (∃ S R, MidS G (VOf sl0 D) (ts ++ (etoks E ++ rs)) S R a w) →
          wpOpIn (fen ro) 0 P l.toArray (lift G (K.at G)) i (wpAnyIn (fen ro) 0 P .any l.toArray (lift G (K.at G)) fuel (listed.setIfInBounds i true)) a w := by
        intro E h r ts a1 b1 p hh hpi H htl ⟨S, R, hm⟩
        obtain ⟨pi, po, px⟩ := p
        have hpi' : pi = i := hpi
        subst hpi'
        have hpm : (pi, po, px) ∈ h := by rw [hh]; simp
        have hpo : po = o := Option.some.inj ((H.opers _ hpm).symm.trans ho)
        subst hpo
        have hhT := hpw
        rw [H.order] at hhT
        have hhp := List.pairwise_append.1 hhT
        have hh2 := hhp.2.1
        rw [hh, List.map_append, List.map_cons] at hh2
        have hpw1 := List.pairwise_append.1 hh2
        have hpw2 := List.pairwise_cons.1 hpw1.2.1
        rcases H.pend a1 _ b1 hh with hl | ⟨_, hge, hdk⟩
        · exact absurd hl h2
        · have hlook := look_gen (b := b1) ho hown (fun q hq => ⟨hpw2.1 q.1 (List.mem_map_of_mem hq), H.opers q (by rw [hh]; simp [hq]), fun hl => H.hD q (by rw [hh]; simp [hq]) hl⟩) H.dop (fun j hj => by
            rcases H.dh j hj with g1 | ⟨e, g1, g2⟩
            · rw [hh, List.map_append, List.map_cons] at g1
              rcases List.mem_append.1 g1 with g3 | g3
              · exact .inr (.inr (hpw1.2.2 j g3 pi (by simp)))
              · rcases List.mem_cons.1 g3 with g4 | g4
                · exact .inr (.inl g4)
                · obtain ⟨q, g5, g6⟩ := List.mem_map.1 g4
                  exact .inl ⟨q, g5, g6⟩
            · have := H.er e g1
              rw [g2] at this
              exact .inr (.inr (hhp.2.2 j (by simpa using this) pi (List.mem_map_of_mem hpm)))) hanc hnot hm
          refine run_gev ho hge hm ⟨ts ++ etoks E, by rw [List.append_assoc]⟩ hlook fun S' R' w' v hm' hv => ?_
          refine ih _ _ _ ((pi, po, px) :: D) E h r ts (by simpa using hs) hd' hL' (by rw [hset]; exact H.mark hpw hpm) htl hfu ⟨S', R', ?_⟩
          exact hm'.put hdk hv (hstep D px H.dop)
      by_cases hih : i ∈ h.map (·.1)
      · obtain ⟨p, hpm, hpi⟩ := List.mem_map.1 hih
        obtain ⟨a1, b1, hab⟩ := List.append_of_mem hpm
        exact hpend E h r ts a1 b1 p hab hpi H htl hmid
      · -- it is still to be read
        have hir : i ∈ r := by
          have hT := hinT i o ho
          rw [H.order] at hT
          rcases List.mem_append.1 hT with h3 | h3
          · exact List.mem_reverse.1 h3
          · exact absurd h3 hih
        have hiE : ∀ e, e ∈ E → e.p.1 ≠ i := fun e he hei => h2 (by rw [← hei]; exact (H.dop _ (H.eD e he)).2)
        by_cases hial : isAl l i = true
        · -- an alloc: ahead of its turn
          obtain ⟨d, t, ty, pos, after, z, k, b, ho', helf, hdk⟩ := hals.get i hial
          have hoo : o = ⟨some d, .alloc t, ty, pos, after, none⟩ := Option.some.inj (ho.symm.trans ho')
          obtain ⟨S, R, hm⟩ := hmid
          have heff : OpEff P o ⟨sl0, []⟩ [] (fun ts' r => ∃ lab, ts' = [(lab, .row t k [vcells z])] ∧ r = .ptr lab 0 0) := by rw [hoo]; exact eff_alloc
          refine run_geff ho (.inl (by rw [hoo])) heff hm (rts := ts ++ (etoks E ++ rs)) (.refl _) (fun t' ht' => by
            rw [hoo] at ht'
            simp [looks, Op.operands] at ht') fun S' R' w' v x ts' hpost hm' hv => ?_
          obtain ⟨lab, rfl, rfl⟩ := hpost
          refine ih _ _ _ ((i, o, .ptr lab 0 0) :: D) (⟨(i, o, .ptr lab 0 0), (lab, .row t k [vcells z])⟩ :: E) h r ts (by simpa using hs) hd' hL' ?_ htl hfu ⟨S', R', ?_⟩
          · rw [hset]
            refine ⟨H.order, H.opers, fun a q b hab => (H.pend a q b hab).imp .inr id, fun q hq => ?_, fun q hq hl => ?_, fun j hj => ?_, fun e he => ?_, fun e he => ?_, fun e he => ?_, List.pairwise_cons.2 ⟨fun e he => (hiE e he).symm, H.en⟩⟩
            · rcases List.mem_cons.1 hq with rfl | hq
              · exact ⟨ho, .inl rfl⟩
              · exact ⟨(H.dop q hq).1, .inr (H.dop q hq).2⟩
            · rcases hl with hl | hl
              · exact absurd (by rw [← hl]; exact List.mem_map_of_mem hq) hih
              · exact List.mem_cons_of_mem _ (H.hD q hq hl)
            · rcases hj with rfl | hj
              · exact .inr ⟨_, List.mem_cons_self, rfl⟩
              · exact (H.dh j hj).imp id fun ⟨e, g1, g2⟩ => ⟨e, List.mem_cons_of_mem _ g1, g2⟩
            · rcases List.mem_cons.1 he with rfl | he
              · exact ⟨d, t, ty, pos, after, z, k, b, ho, hoo, helf, rfl, rfl⟩
              · exact H.eok e he
            · rcases List.mem_cons.1 he with rfl | he
              · exact List.mem_cons_self
              · exact List.mem_cons_of_mem _ (H.eD e he)
            · rcases List.mem_cons.1 he with rfl | he
              · exact hir
              · exact H.er e he
          · have hm2 := hm'.put (x := .ptr lab 0 0) (v := v) (dst := o.dst) (by rw [hoo]; exact hdk) hv (hstep D (.ptr lab 0 0) H.dop)
            refine hm2.perm ?_
            simp only [etoks, List.map_cons, List.cons_append, List.nil_append]
            exact List.perm_middle.symm
        · have hna : isAl l i = false := by simpa using hial
          obtain ⟨r1, r2, rfl⟩ := List.append_of_mem hir
          have hready : ∀ j, j ∈ r1 → bs.getD j false = true ∨ ∃ e, e ∈ E ∧ e.p.1 = j := fun j hj => by
            cases hb : bs.getD j false with
            | true => exact .inl rfl
            | false =>
              refine .inr ?_
              have hp' := hpw
              rw [H.order] at hp'
              have hp'' := (List.pairwise_append.1 hp')
              have hji : PR l bs i j := by
                have h3 := hp''.1
                simp only [List.reverse_append, List.reverse_cons, List.append_assoc] at h3
                have h4 := (List.pairwise_append.1 h3).2.1
                exact (List.pairwise_cons.1 h4).1 j (List.mem_reverse.2 hj)
              have hjL : Lst listed j := by
                rcases hji.write hb with g1 | g1
                · exact hanc j g1
                · rw [g1] at hna; cases hna
              rcases H.dh j hjL with g1 | g1
              · exact absurd rfl (hp''.2.2 j (by simp [hj]) j g1).ne
              · exact g1
          obtain ⟨h', E', ts', H', htl', hperm⟩ := TL.advance hpw hal r1 h E ts H hready htl
          obtain ⟨S, R, hm⟩ := hmid
          have hm2 : MidS G (VOf sl0 D) (ts' ++ (etoks E' ++ rs)) S R a w := hm.perm (by
            rw [← List.append_assoc, ← List.append_assoc]
            exact hperm.symm.append_right rs)
          have hT' := hpw
          rw [H'.order] at hT'
          have hpa := List.pairwise_append.1 hT'
          have hiE' : ∀ e, e ∈ E' → e.p.1 ≠ i := fun e he hei => h2 (by rw [← hei]; exact (H'.dop _ (H'.eD e he)).2)
          have hnh : ∀ q, q ∈ h' → q.1 ≠ i := fun q hq e => (hpa.2.2 i (by simp) q.1 (List.mem_map_of_mem hq)).ne e.symm
          have hlook := look_gen (b := h') ho hown (fun q hq => ⟨hpa.2.2 i (by simp) q.1 (List.mem_map_of_mem hq), H'.opers q hq, fun hl => H'.hD q hq hl⟩) H'.dop (fun j hj => by
            rcases H'.dh j hj with g1 | ⟨e, g1, g2⟩
            · obtain ⟨q, g5, g6⟩ := List.mem_map.1 g1
              exact .inl ⟨q, g5, g6⟩
            · have := H'.er e g1
              rw [g2] at this
              rcases List.mem_cons.1 this with g3 | g3
              · exact .inr (.inl g3)
              · have g4 := hpa.1
                simp only [List.reverse_cons] at g4
                exact .inr (.inr ((List.pairwise_append.1 g4).2.2 j (by simpa using g3) i (by simp)))) hanc hnot hm2
          cases htl' with
          | ev ho' hb' hge hdk h'' =>
            rename_i o' x
            have : o' = o := Option.some.inj (ho'.symm.trans ho)
            subst this
            exact hpend E' ((i, o', x) :: h') r2 ts' [] h' (i, o', x) rfl rfl (H'.cons hpw ho' hb' hna hge hdk) h'' ⟨S, R, hm2⟩
          | evw ho' hb' hna' hge hdk h'' =>
            rename_i o' x
            have : o' = o := Option.some.inj (ho'.symm.trans ho)
            subst this
            refine run_gev ho hge hm2 ⟨etoks E', by
              rw [← List.append_assoc, ← List.append_assoc]
              exact List.perm_append_comm.append_right rs⟩ hlook fun S' R' w' v hm' hv => ?_
            refine ih _ _ _ ((i, o', x) :: D) E' ((i, o', x) :: h') r2 ts' (by simpa using hs) hd' hL' (by rw [hset]; exact H'.write hiE' hnh ho) h'' hfu ⟨S', R', ?_⟩
            exact hm'.put hdk hv (hstep D x H'.dop)
          | eff ho' hb' hna' hg ht hge hdk h'' =>
            rename_i o' us ts2 Post
            have : o' = o := Option.some.inj (ho'.symm.trans ho)
            subst this
            have hperm2 : (ts' ++ (etoks E' ++ rs)).Perm (us ++ (ts2 ++ (etoks E' ++ rs))) := by
              have := ht.perm.append_right (etoks E' ++ rs)
              rwa [List.append_assoc] at this
            refine run_geff ho hg hge hm2 hperm2 hlook fun S' R' w' v x ts3 hpost hm' hv => ?_
            refine ih _ _ _ ((i, o', x) :: D) E' ((i, o', x) :: h') r2 (ts3 ++ ts2) (by simpa using hs) hd' hL' (by rw [hset]; exact H'.write hiE' hnh ho) (h'' ts3 x hpost) hfu ⟨S', R', ?_⟩
            rw [List.append_assoc]
            exact hm'.put hdk hv (hstep D x H'.dop)
          | effr ho' hb' hna' hg ht hge hdk h'' =>
            rename_i o' us ts2 Post
            have : o' = o := Option.some.inj (ho'.symm.trans ho)
            subst this
            have hperm2 : (ts' ++ (etoks E' ++ rs)).Perm (us ++ ((ts2 ++ etoks E') ++ rs)) := by
              have := ht.perm.append_right (etoks E' ++ rs)
              rwa [List.append_assoc, ← List.append_assoc ts2] at this
            refine run_geffr ho hg hge hm2 hperm2 hlook fun S' R' w' v x ts3 hpost hm' hv => ?_
            refine ih _ _ _ ((i, o', x) :: D) E' ((i, o', x) :: h') r2 (ts3 ++ ts2) (by simpa using hs) hd' hL' (by rw [hset]; exact H'.write hiE' hnh ho) (h'' ts3 x hpost) hfu ⟨S', R', ?_⟩
            have := hm'.put hdk hv (hstep D x H'.dop)
            refine this.perm ?_
            simp only [List.append_assoc]
            exact .refl _
          | al ho' => simp [isAl, ho'] at hna

/-- The rule. -/
theorem a_mix {id : Nat} {l : List Oper} {K : Kont} {sl : List (Nat × AV)} {ts rs us : List (Nat × Tok)} [hmx : Mix P] (bs : List Bool) (T : List Nat) (hok : ordOk l bs T = true) (hals : Als P n l) (ht : Takes ts us rs) (h : TL G l bs rs K T sl us) : AW G (.region id l.toArray true) ⟨sl, ts⟩ K := by
  refine ⟨?_⟩
  intro a w ⟨S, R, hr⟩
  refine wpIn_region_any hmx.h ?_
  have hz : ∀ i, ¬ Lst (Array.replicate l.toArray.size false) i := fun i hi => by
    simp [Lst, Array.getD_eq_getD_getElem?, Array.getElem?_replicate] at hi
    split at hi <;> simp at hi
  refine mix_aux (G := G) hok hals l.length _ a _ [] [] [] T us (by simp) (fun i o hi => absurd hi (hz i)) (fun i hi => absurd hi (hz i)) ⟨by simp, fun _ hp => (by cases hp), fun a p b hab => (by simp at hab), fun _ hp => (by cases hp), fun _ hp => (by cases hp), fun i hi => absurd hi (hz i), fun _ hp => (by cases hp), fun _ hp => (by cases hp), fun _ hp => (by cases hp), .nil⟩ h (Nat.le_trans (List.length_filter_le _ _) (by simp)) ⟨S, R, ?_⟩
  have hg : Grow S R w S R { w with drawn := w.drawn + 1 } := ⟨⟨rfl, rfl, rfl, Nat.le_refl _, fun _ _ => rfl⟩, fun _ h => h, fun _ h => .inl h, fun _ _ h => h, hr.holds.top⟩
  have hr' := hr.grow hg
  have hms : MidS G (VOf sl []) ts S R a { w with drawn := w.drawn + 1 } := ⟨hr'.holds, fun d x hx => by
    rcases hx with ⟨p, hp', _⟩ | ⟨h1, _⟩
    · cases hp'
    · exact hr'.slots d x h1, hr'.out, hr'.defers, hr'.size⟩
  exact hms.perm (by simpa [etoks] using ht.perm)
end

end Go.Proofs.YtmenbolalghljaaA
