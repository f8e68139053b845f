/- The rules as they are used: a region's operations one by one, whether it draws its order or not; states written out. -/
import Derived.Test.YtmenbolalghljaaAw11
set_option linter.unusedVariables false
namespace Go.Proofs.YtmenbolalghljaaA
open Go.RowKit

section
variable {P : Program} {n : Nat} {ro : Option Nat} {G : CtxR P n ro} {l rest : List Oper} {sl : List (Nat × AV)} {ts : List (Nat × Tok)} {K : Kont}

/-- A region's run: m operations are still free. -/
structure AR {ro : Option Nat} (G : CtxR P n ro) (l : List Oper) (m : Nat) (rest : List Oper) (st : St) (K : Kont) : Prop where
  h : ∃ xs : List AV, xs.length = m ∧ m ≤ rest.length ∧ (∀ (i : Nat) (o : Oper) (x : AV), rest[i]? = some o → xs[i]? = some x → GEv P l (finSl st.sl rest (xs.take i)) st.toks o x ∧ dstOk o.dst n = true) ∧
    AWo G l.toArray (rest.drop m) ⟨finSl st.sl rest xs, st.toks⟩ K

theorem ar_of {st : St} (h : AWo G l.toArray rest st K) : AR G l 0 rest st K := ⟨[], rfl, Nat.zero_le _, by simp, by cases rest <;> simpa [finSl] using h⟩
theorem AR.awo {st : St} (h : AR G l 0 rest st K) : AWo G l.toArray rest st K := by
  obtain ⟨xs, hx, _, _, h⟩ := h.h
  have : xs = [] := List.eq_nil_of_length_eq_zero hx
  subst this
  cases rest <;> simpa [finSl] using h

theorem a_region {id : Nat} {st : St} (h : AR G l 0 l st K) : AW G (.region id l.toArray false) st K := aw_region h.awo

theorem finSl_append (l1 l2 : List Oper) : ∀ (xs1 : List AV) (xs2 : List AV) (sl : List (Nat × AV)), l1.length = xs1.length → finSl sl (l1 ++ l2) (xs1 ++ xs2) = finSl (finSl sl l1 xs1) l2 xs2 := by
  induction l1 with
  | nil => intro xs1 xs2 sl h; cases xs1 with
    | nil => simp [finSl]
    | cons _ _ => simp at h
  | cons o l1 ih => intro xs1 xs2 sl h; cases xs1 with
    | nil => simp at h
    | cons x xs1 => simp only [List.cons_append, finSl]; exact ih xs1 xs2 _ (by simpa using h)

theorem finSl_hit {l : List Oper} : ∀ {xs : List AV} {sl : List (Nat × AV)} {i d : Nat} {o : Oper} {x : AV}, l[i]? = some o → xs[i]? = some x → o.dst = some d → (∀ (j : Nat) (p : Oper), i < j → j < xs.length → l[j]? = some p → p.dst ≠ some d) → look (finSl sl l xs) d = some x := by
  induction l with
  | nil => intro xs sl i d o x h; simp at h
  | cons p l ih =>
    intro xs sl i d o x ho hx hd hno
    cases xs with
    | nil => simp at hx
    | cons y xs =>
      simp only [finSl]
      cases i with
      | succ i => exact ih (by simpa using ho) (by simpa using hx) hd (fun j q hj hl hq => hno (j + 1) q (by omega) (by simpa using hl) (by simpa using hq))
      | zero =>
        simp only [List.getElem?_cons_zero, Option.some.injEq] at ho hx
        subst ho
        subst hx
        rw [hd]
        -- no later one writes it
        cases hl : look (finSl (putSl sl (some d) y) l xs) d with
        | none =>
          exfalso
          have : ∀ (l : List Oper) (xs : List AV) (sl : List (Nat × AV)), (∃ z, look sl d = some z) → ∃ z, look (finSl sl l xs) d = some z := by
            intro l
            induction l with
            | nil => intro xs sl h; simpa [finSl] using h
            | cons q l ih2 =>
              intro xs sl h
              cases xs with
              | nil => simpa [finSl] using h
              | cons u xs =>
                refine ih2 xs _ ?_
                cases hq : q.dst with
                | none => exact h
                | some e =>
                  simp only [putSl, look]
                  by_cases hed : e = d
                  · subst hed; rw [Nat.beq_refl]; exact ⟨u, rfl⟩
                  · rw [beq_of_ne hed]; exact h
          obtain ⟨z, hz⟩ := this l xs (putSl sl (some d) y) ⟨y, by simp only [putSl, look, Nat.beq_refl, cond_true]⟩
          rw [hl] at hz; cases hz
        | some z =>
          rcases finSl_look l xs _ d z hl with ⟨j, q, h1, h2, h3⟩ | ⟨h1, _⟩
          · exact absurd h3 (hno (j + 1) q (by omega) (by simpa using (List.getElem?_eq_some_iff.1 h2).1) (by simpa using h1))
          · simp only [putSl, look, Nat.beq_refl, cond_true] at h1
            exact h1.symm

theorem OpEv.of_looks {o : Oper} {x : AV} {sl sl' : List (Nat × AV)} (h : OpEv P o ⟨sl, ts⟩ x) (hl : ∀ t, Operand.tmp t ∈ o.op.operands → ∀ y, look sl t = some y → look sl' t = some y) : OpEv P o ⟨sl', ts⟩ x :=
  ⟨fun S R a w hh ho => h.h S R a w hh fun z hz y hy => ho z hz y (by
    cases z with
    | tmp t => exact hl t hz y hy
    | _ => exact hy)⟩

/-- How many operations at a region's head only reckon, read or call. -/
def freeOp : Op → Bool
  | .store .. => false
  | .alloc .. => false
  | .box .. => false
  | .mapUpdate .. => false
  | .insert .. => false
  | .makeMap .. => false
  | .makeSlice .. => false
  | .range .. => false
  | .next .. => false
  | .call ⟨.builtin .append, _, _⟩ => false
  | .call ⟨.builtin .copy, _, _⟩ => false
  | .call ⟨.builtin .delete, _, _⟩ => false
  | _ => true
def freeN : List Oper → Nat
  | [] => 0
  | o :: r => bif freeOp o.op then freeN r + 1 else 0

theorem a_draw {id : Nat} {st : St} [hm : Mix P] (m : Nat) (hok : drawOk l m = true) (h : AR G l m l st K) : AW G (.region id l.toArray true) st K := by
  obtain ⟨xs, rfl, hml, hev, htail⟩ := h.h
  have hok' := hok
  simp only [drawOk, Bool.and_eq_true] at hok'
  -- what the operations look at is what it is in the end
  have hlook : ∀ (i : Nat) (o : Oper) (x : AV), l[i]? = some o → xs[i]? = some x → ∀ t, t ∈ looks l o → ∀ y, look (finSl st.sl l (xs.take i)) t = some y → look (finSl st.sl l xs) t = some y := by
    intro i o x ho hx t ht y hy
    have him : i < xs.length := (List.getElem?_eq_some_iff.1 hx).1
    have hrow := allB_iff hok'.1 (show i < l.length by omega)
    simp only [ho, Bool.and_eq_true] at hrow
    rw [if_pos (by simp [Nat.blt_eq]; omega)] at hrow
    -- whoever writes t is an ancestor, so stands ahead
    have hanc : ∀ (j : Nat) (p : Oper), j < xs.length → l[j]? = some p → p.dst = some t → j < i := by
      intro j p hj hp hd
      have := allB_iff hrow.2 hj
      simp only [hp, hd, Bool.and_eq_true, Bool.or_eq_true, Bool.not_eq_true'] at this
      have ha : ancB l l.length i j = true := by
        rcases this.1 with h6 | h6
        · rw [List.contains_iff_mem.2 ht] at h6; cases h6
        · exact h6
      have hlow : ∀ (f i j : Nat), ancB l f i j = true → j < i := by
        intro f
        induction f with
        | zero => intro i j h; cases h
        | succ f ih =>
          intro i j h
          cases hq : l[i]? with
          | none => simp [ancB, hq] at h
          | some q =>
            have hil := (List.getElem?_eq_some_iff.1 hq).1
            have hr := allB_iff hok'.1 hil
            simp only [hq, Bool.and_eq_true] at hr
            simp only [ancB, hq, List.any_eq_true, Bool.or_eq_true] at h
            obtain ⟨e, he, h1 | h1⟩ := h
            · have := List.all_eq_true.1 hr.1 e he
              simp [Nat.blt_eq] at this
              rw [← Nat.eq_of_beq_eq_true h1]; exact this
            · have := List.all_eq_true.1 hr.1 e he
              simp [Nat.blt_eq] at this
              exact Nat.lt_trans (ih e j h1) this
      exact hlow _ _ _ ha
    -- the same, for two that write one slot: there are none
    rcases finSl_look l (xs.take i) st.sl t y hy with ⟨j, p, h1, h2, h3⟩ | ⟨h1, h2⟩
    · have hji : j < i := by have := (List.getElem?_eq_some_iff.1 h2).1; rw [List.length_take] at this; omega
      rw [List.getElem?_take, if_pos hji] at h2
      refine finSl_hit h1 h2 h3 (fun j' p' hj' hl' hp' hd' => ?_)
      have hrow' := allB_iff hok'.1 (show j' < l.length by omega)
      simp only [hp', Bool.and_eq_true] at hrow'
      rw [if_pos (by simp [Nat.blt_eq]; omega)] at hrow'
      have := allB_iff hrow'.2 (show j < xs.length by omega)
      simp only [h1, h3, Bool.and_eq_true, Bool.or_eq_true] at this
      rcases this.2 with h6 | h6
      · have := Nat.eq_of_beq_eq_true h6; omega
      · simp [hd'] at h6
    · -- nobody writes it
      have hno : ∀ (j : Nat) (p : Oper), j < xs.length → l[j]? = some p → p.dst ≠ some t := fun j p hj hp hd => by
        have hji := hanc j p hj hp hd
        exact h2 j p (by rw [List.length_take]; omega) hp hd
      have keep : ∀ (l' : List Oper) (xs' : List AV) (sl' : List (Nat × AV)), look sl' t = some y → (∀ (j : Nat) (p : Oper), j < xs'.length → l'[j]? = some p → p.dst ≠ some t) → look (finSl sl' l' xs') t = some y := by
        intro l'
        induction l' with
        | nil => intro xs' sl' h _; simpa [finSl] using h
        | cons q l' ih =>
          intro xs' sl' h hno'
          cases xs' with
          | nil => simpa [finSl] using h
          | cons u xs' =>
            refine ih xs' _ ?_ (fun j p hj hp => hno' (j + 1) p (by simpa using hj) (by simpa using hp))
            have := hno' 0 q (by simp) rfl
            cases hq : q.dst with
            | none => exact h
            | some e =>
              simp only [putSl, look]
              rw [beq_of_ne (fun he => this (by rw [hq, he]))]
              exact h
      exact keep l xs st.sl h1 hno
  refine aw_draw xs hok ?_ htail
  have hconv : ∀ (i : Nat) (o : Oper) (x : AV), l[i]? = some o → xs[i]? = some x → GEv P l (finSl st.sl l xs) st.toks o x := by
    intro i o x ho hx
    have hl := hlook i o x ho hx
    have hops : ∀ t, Operand.tmp t ∈ o.op.operands → t ∈ looks l o := fun t ht => by
      simp only [looks, List.mem_append, List.mem_filterMap]
      exact .inl ⟨.tmp t, by simpa using ht, rfl⟩
    have hgd : ∀ (j d : Nat) (b : Bool) (p : Oper), o.guard = some (j, b) → l[j]? = some p → p.dst = some d → d ∈ looks l o := fun j d b p hg hp hd => by
      simp only [looks, hg, hp, List.mem_append]
      exact .inr (by simp [hd])
    cases (hev i o x ho hx).1 with
    | plain hg h => exact .plain hg (h.of_looks fun t ht => hl t (hops t ht))
    | take hg hp hd hy h => exact .take hg hp hd (hl _ (hgd _ _ _ _ hg hp hd) _ hy) (h.of_looks fun t ht => hl t (hops t ht))
    | skip hg hp hd hy hn => exact .skip hg hp hd (hl _ (hgd _ _ _ _ hg hp hd) _ hy) hn
  have hall : ∀ (r : List Oper) (ys : List AV), ys.length ≤ r.length → (∀ (i : Nat) (o : Oper) (x : AV), r[i]? = some o → ys[i]? = some x → GEv P l (finSl st.sl l xs) st.toks o x ∧ dstOk o.dst n = true) → GEvs P l n (finSl st.sl l xs) st.toks r ys := by
    intro r
    induction r with
    | nil => intro ys hl _; cases ys with
      | nil => exact .nil
      | cons _ _ => simp at hl
    | cons o r ih => intro ys hl hf; cases ys with
      | nil => exact .nil
      | cons y ys =>
        have h0 := hf 0 o y rfl rfl
        exact .cons h0.1 h0.2 (ih ys (by simpa using hl) (fun i p z hp hz => hf (i + 1) p z (by simpa using hp) (by simpa using hz)))
  exact hall l xs hml (fun i o x ho hx => ⟨hconv i o x ho hx, (hev i o x ho hx).2⟩)

theorem a_drawN {id : Nat} {st : St} [hm : Mix P] (m : Nat) (hf : Nat.beq (freeN l) m = true) (hok : drawOk l m = true) (h : AR G l m l st K) : AW G (.region id l.toArray true) st K := a_draw m hok h

theorem ar_cons {m : Nat} {o : Oper} {x : AV} {st : St} (he : GEv P l st.sl st.toks o x) (hd : dstOk o.dst n = true) (h : AR G l m rest ⟨putSl st.sl o.dst x, st.toks⟩ K) : AR G l (m + 1) (o :: rest) st K := by
  obtain ⟨xs, rfl, hml, hev, ht⟩ := h.h
  refine ⟨x :: xs, rfl, by simpa using hml, fun i p y hp hy => ?_, by simpa [finSl] using ht⟩
  cases i with
  | zero =>
    simp only [List.getElem?_cons_zero, Option.some.injEq] at hp hy
    subst hp
    subst hy
    exact ⟨by simpa [finSl] using he, hd⟩
  | succ i =>
    have := hev i p y (by simpa using hp) (by simpa using hy)
    simpa [finSl] using this

theorem ar_ev {m d : Nat} {op : Op} {ty : TypeId} {pos : String} {after : Array Edge} {x : AV} (he : OpEv P ⟨some d, op, ty, pos, after, none⟩ ⟨sl, ts⟩ x) (hd : Nat.blt d n = true) (h : AR G l (m - 1) rest ⟨(d, x) :: sl, ts⟩ K) : AR G l m (⟨some d, op, ty, pos, after, none⟩ :: rest) ⟨sl, ts⟩ K := by
  cases m with
  | zero => exact ar_of (awo_ev he hd h.awo)
  | succ m => exact ar_cons (.plain rfl he) hd h

theorem awo_take' {d d0 j : Nat} {op : Op} {ty : TypeId} {pos : String} {after : Array Edge} {b : Bool} {o : Oper} {x : AV} (ho : l[j]? = some o) (hod : o.dst = some d0) (hx : look sl d0 = some (.val (.bool b))) (he : OpEv P ⟨some d, op, ty, pos, after, none⟩ ⟨sl, ts⟩ x) : OpEv P ⟨some d, op, ty, pos, after, some (j, b)⟩ ⟨sl, ts⟩ x := ⟨he.h⟩

/-- A guarded operation whose guard says yes. -/
theorem ar_take {m d d0 j : Nat} {op : Op} {ty : TypeId} {pos : String} {after : Array Edge} {b : Bool} {o : Oper} {x : AV} (ho : l[j]? = some o) (hod : o.dst = some d0) (hx : look sl d0 = some (.val (.bool b))) (he : OpEv P ⟨some d, op, ty, pos, after, none⟩ ⟨sl, ts⟩ x) (hd : Nat.blt d n = true)
    (h : AR G l (m - 1) rest ⟨(d, x) :: sl, ts⟩ K) : AR G l m (⟨some d, op, ty, pos, after, some (j, b)⟩ :: rest) ⟨sl, ts⟩ K := by
  cases m with
  | zero => exact ar_of (awo_take ho hod hx (awo_ev he hd h.awo))
  | succ m => exact ar_cons (.take rfl ho hod hx ⟨he.h⟩) hd h
theorem ar_skip {m d d0 j : Nat} {op : Op} {ty : TypeId} {pos : String} {after : Array Edge} {b : Bool} {u : Value} {o : Oper} (ho : l[j]? = some o) (hod : o.dst = some d0) (hx : look sl d0 = some (.val u)) (hn : skipB u b = true) (hd : Nat.blt d n = true)
    (h : AR G l (m - 1) rest ⟨(d, .val undef) :: sl, ts⟩ K) : AR G l m (⟨some d, op, ty, pos, after, some (j, b)⟩ :: rest) ⟨sl, ts⟩ K := by
  cases m with
  | zero => exact ar_of (awo_skip ho hod hx hn hd h.awo)
  | succ m => exact ar_cons (.skip rfl ho hod hx hn) hd h

theorem ar_nil {st : St} (h : Goes G K .normal st) : AR G l 0 [] st K := ar_of (awo_nil h)

/-- What makes or changes one token. -/
theorem ar_new {d : Nat} {op : Op} {ty : TypeId} {pos : String} {after : Array Edge} {us rs : List (Nat × Tok)} {T : Tok} {X : Nat → AV} (he : OpEff P ⟨some d, op, ty, pos, after, none⟩ ⟨sl, ts⟩ us (fun ts' r => ∃ lab, ts' = [(lab, T)] ∧ r = X lab)) (ht : Takes ts us rs) (hd : Nat.blt d n = true)
    (h : ∀ lab, AR G l 0 rest ⟨(d, X lab) :: sl, (lab, T) :: rs⟩ K) : AR G l 0 (⟨some d, op, ty, pos, after, none⟩ :: rest) ⟨sl, ts⟩ K :=
  ar_of (awo_eff he ht hd fun ts' r ⟨lab, h1, h2⟩ => by subst h1; subst h2; exact (h lab).awo)
theorem ar_set {op : Op} {ty : TypeId} {pos : String} {after : Array Edge} {us rs : List (Nat × Tok)} {lab : Nat} {T : Tok} {r0 : AV} (he : OpEff P ⟨none, op, ty, pos, after, none⟩ ⟨sl, ts⟩ us (fun ts' r => ts' = [(lab, T)] ∧ r = r0)) (ht : Takes ts us rs)
    (h : AR G l 0 rest ⟨sl, (lab, T) :: rs⟩ K) : AR G l 0 (⟨none, op, ty, pos, after, none⟩ :: rest) ⟨sl, ts⟩ K :=
  ar_of (awo_eff he ht rfl fun ts' r ⟨h1, h2⟩ => by subst h1; subst h2; exact h.awo)
theorem ar_eff {d : Nat} {op : Op} {ty : TypeId} {pos : String} {after : Array Edge} {us rs : List (Nat × Tok)} {Post : List (Nat × Tok) → AV → Prop} (he : OpEff P ⟨some d, op, ty, pos, after, none⟩ ⟨sl, ts⟩ us Post) (ht : Takes ts us rs) (hd : Nat.blt d n = true)
    (h : ∀ ts' r, Post ts' r → AR G l 0 rest ⟨(d, r) :: sl, ts' ++ rs⟩ K) : AR G l 0 (⟨some d, op, ty, pos, after, none⟩ :: rest) ⟨sl, ts⟩ K :=
  ar_of (awo_eff he ht hd fun ts' r hp => (h ts' r hp).awo)
theorem ar_freeze (d : Nat) {lab off m : Nat} {e : TypeId} {k : Nat} {xs : List (List AV)} {rs : List (Nat × Tok)} (hd : look sl d = some (.own lab off m)) (ht : Take ts lab (.row e k xs) rs) (hm : off + m ≤ xs.length) (h : AR G l 0 rest ⟨(d, .sl k (xs.drop off) m) :: sl, rs⟩ K) : AR G l 0 rest ⟨sl, ts⟩ K :=
  ar_of (AWo.freeze d hd ht hm h.awo)
theorem ar_adopt (d : Nat) (e : TypeId) (k : Nat) (hd : look sl d = some (.val (.slice none 0 0))) (h : ∀ lab, AR G l 0 rest ⟨(d, .own lab 0 0) :: sl, (lab, .row e k []) :: ts⟩ K) : AR G l 0 rest ⟨sl, ts⟩ K :=
  ar_of (AWo.adopt d e k hd fun lab => (h lab).awo)
theorem ar_sub {st st' : St} (hs : Sub st st') (h : AR G l 0 rest st' K) : AR G l 0 rest st K := ar_of (AWo.sub hs h.awo)

/-! ### Loops, with what holds -/
theorem a_loop {c : Code} {st : St} {ι : Type} (I : ι → St) (Inv : ι → Prop) (μ : ι → Nat) (i0 : ι) (h0 : Sub st (I i0)) (hi : Inv i0)
    (round : ∀ i, Inv i → AW G c (I i) (.loop (fun st' => ∃ i', Inv i' ∧ μ i' < μ i ∧ Sub st' (I i')) K)) : AW G (.loop c) st K :=
  aw_loop (ι := { i : ι // Inv i }) (fun i => I i.1) (fun i => μ i.1) ⟨i0, hi⟩ h0 fun i => ⟨fun a w hr => by
    refine wpIn_mono ((round i.1 i.2).h a w hr) ?_
    rintro e a' w' ⟨st', hq, hr'⟩
    cases e with
    | normal =>
      obtain ⟨i', h1, h2, h3⟩ := hq
      exact ⟨st', ⟨⟨i', h1⟩, h2, h3⟩, hr'⟩
    | _ => exact ⟨st', hq, hr'⟩⟩

/-! ### Ends -/
theorem g_ret0 {Post : List (Nat × Tok) → AV → Prop} {us rs : List (Nat × Tok)} (ht : Takes ts us rs) (hp : Post us (.tup [])) : Goes G (.nil (RetQ P #[] Post)) .ret ⟨sl, ts⟩ := go_nil (ret0 ht hp)
theorem g_end0 {Post : List (Nat × Tok) → AV → Prop} {us rs : List (Nat × Tok)} (ht : Takes ts us rs) (hp : Post us (.tup [])) : Goes G (.nil (RetQ P #[] Post)) .normal ⟨sl, ts⟩ := go_nil (ret0 ht hp)
theorem g_ret1 {Post : List (Nat × Tok) → AV → Prop} {rv : ResultVar} {x : AV} {us rs : List (Nat × Tok)} (h : Res1 P ⟨sl, ts⟩ rv x) (ht : Takes ts us rs) (hp : Post us x) : Goes G (.nil (RetQ P #[rv] Post)) .ret ⟨sl, ts⟩ := go_nil (ret1 h ht hp)
theorem g_ret2 {Post : List (Nat × Tok) → AV → Prop} {r1 r2 : ResultVar} {x1 x2 : AV} {us rs : List (Nat × Tok)} (h1 : Res1 P ⟨sl, ts⟩ r1 x1) (h2 : Res1 P ⟨sl, ts⟩ r2 x2) (ht : Takes ts us rs) (hp : Post us (.tup [x1, x2])) : Goes G (.nil (RetQ P #[r1, r2] Post)) .ret ⟨sl, ts⟩ := go_nil (ret2 h1 h2 ht hp)
theorem g_ret3 {Post : List (Nat × Tok) → AV → Prop} {r1 r2 r3 : ResultVar} {x1 x2 x3 : AV} {us rs : List (Nat × Tok)} (h1 : Res1 P ⟨sl, ts⟩ r1 x1) (h2 : Res1 P ⟨sl, ts⟩ r2 x2) (h3 : Res1 P ⟨sl, ts⟩ r3 x3) (ht : Takes ts us rs) (hp : Post us (.tup [x1, x2, x3])) : Goes G (.nil (RetQ P #[r1, r2, r3] Post)) .ret ⟨sl, ts⟩ := go_nil (ret3 h1 h2 h3 ht hp)
theorem g_ret4 {Post : List (Nat × Tok) → AV → Prop} {r1 r2 r3 r4 : ResultVar} {x1 x2 x3 x4 : AV} {us rs : List (Nat × Tok)} (h1 : Res1 P ⟨sl, ts⟩ r1 x1) (h2 : Res1 P ⟨sl, ts⟩ r2 x2) (h3 : Res1 P ⟨sl, ts⟩ r3 x3) (h4 : Res1 P ⟨sl, ts⟩ r4 x4) (ht : Takes ts us rs) (hp : Post us (.tup [x1, x2, x3, x4])) : Goes G (.nil (RetQ P #[r1, r2, r3, r4] Post)) .ret ⟨sl, ts⟩ := go_nil (ret4 h1 h2 h3 h4 ht hp)
theorem r_tmp {st : St} {t : Tmp} {x : AV} (h : look st.sl t = some x) : Res1 P st (.tmp t) x := res_tmp h Le.refl
theorem r_nil {st : St} {t : Tmp} {k : Nat} (h : look st.sl t = some (.val (.slice none 0 0))) : Res1 P st (.tmp t) (.sl k [] 0) := res_tmp h Le.nil
theorem r_cell {st : St} {t e : TypeId} {ad : Tmp} {z : Value} {kt b k l i j : Nat} {xs : List (List AV)} {cs : List AV} {r : List (Nat × Tok)} [hu : AgF P t true] [he : ElF P t z kt b] (hx : look st.sl ad = some (.ptr l i j)) (ht : Take st.toks l (.row e k xs) r) (hcs : xs[i]? = some cs) (hk : Nat.ble (j + kt) cs.length = true) :
    Res1 P st (.cell ad t) (.agg ((cs.drop j).take kt)) := res_cell hx ht hcs (Nat.le_of_ble_eq_true hk)
end

end Go.Proofs.YtmenbolalghljaaA
