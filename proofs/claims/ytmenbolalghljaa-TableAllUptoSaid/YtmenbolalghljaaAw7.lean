/- A region that draws its order: its first operations, in whatever order their edges allow, come to what they come to in the text's; the others follow all of them, one behind the other. -/
import Derived.Test.YtmenbolalghljaaAw6
set_option linter.unusedVariables false
namespace Go.Proofs.YtmenbolalghljaaA
open Go.RowKit

def edgesOf (o : Oper) : List Nat := (o.after.toList.filter (Region.binds .any)).map (·.on)

/-- The slots that an operation looks at. -/
def looks (l : List Oper) (o : Oper) : List Nat :=
  (o.op.operands.toList.filterMap fun | .tmp t => some t | _ => none) ++ (match o.guard with
    | some (j, _) => ((l[j]?).bind (·.dst)).toList
    | none => [])

/-- Does j come ahead of i, by the edges? -/
def ancB (l : List Oper) : Nat → Nat → Nat → Bool
  | 0, _, _ => false
  | f + 1, i, j => match l[i]? with
    | some o => (edgesOf o).any fun e => Nat.beq e j || ancB l f e j
    | none => false

def allB (n : Nat) (p : Nat → Bool) : Bool := (List.range n).all p

/-- The first m operations are free, the others follow all. -/
def drawOk (l : List Oper) (m : Nat) : Bool :=
  allB l.length (fun i => match l[i]? with
    | some o => (edgesOf o).all (fun e => Nat.blt e i) &&
      (if Nat.blt i m then
        allB m (fun j => match l[j]? with
          | some p => (match p.dst with
            | some d => (!(looks l o).contains d || ancB l l.length i j) && (Nat.beq i j || !(o.dst == some d))
            | none => true)
          | none => false)
      else allB i (fun j => ancB l l.length i j))
    | none => false) && Nat.ble m l.length

theorem allB_iff {n : Nat} {p : Nat → Bool} (h : allB n p = true) {i : Nat} (hi : i < n) : p i = true := by
  unfold allB at h
  exact List.all_eq_true.1 h i (List.mem_range.2 hi)

class Mix (P : Program) : Prop where
  h : P.follows .mixedOrders = true

/-- What an operation of the free part gives, its guard minded; fin: the slots behind all of them. -/
inductive GEv (P : Program) (l : List Oper) (fin : List (Nat × AV)) (ts : List (Nat × Tok)) : Oper → AV → Prop
  | plain {o : Oper} {x : AV} (hg : o.guard = none) (h : OpEv P o ⟨fin, ts⟩ x) : GEv P l fin ts o x
  | take {o p : Oper} {x : AV} {j d : Nat} {b : Bool} (hg : o.guard = some (j, b)) (hp : l[j]? = some p) (hd : p.dst = some d) (hx : look fin d = some (.val (.bool b))) (h : OpEv P o ⟨fin, ts⟩ x) : GEv P l fin ts o x
  | skip {o p : Oper} {j d : Nat} {b : Bool} {u : Value} (hg : o.guard = some (j, b)) (hp : l[j]? = some p) (hd : p.dst = some d) (hx : look fin d = some (.val u)) (hn : skipB u b = true) : GEv P l fin ts o (.val undef)

/-- The slots behind the first operations. -/
def finSl (sl : List (Nat × AV)) : List Oper → List AV → List (Nat × AV)
  | o :: l, x :: xs => finSl (putSl sl o.dst x) l xs
  | _, _ => sl

theorem finSl_look (l : List Oper) : ∀ (xs : List AV) (sl : List (Nat × AV)) (d : Nat) (y : AV), look (finSl sl l xs) d = some y →
    (∃ (i : Nat) (o : Oper), l[i]? = some o ∧ xs[i]? = some y ∧ o.dst = some d) ∨ (look sl d = some y ∧ ∀ (i : Nat) (o : Oper), i < xs.length → l[i]? = some o → o.dst ≠ some d) := by
  induction l with
  | nil => intro xs sl d y h; exact .inr ⟨by simpa [finSl] using h, by simp⟩
  | cons o l ih =>
    intro xs sl d y h
    cases xs with
    | nil => exact .inr ⟨by simpa [finSl] using h, by simp⟩
    | cons x xs =>
      simp only [finSl] at h
      rcases ih xs _ d y h with ⟨i, p, h1, h2, h3⟩ | ⟨h1, h2⟩
      · exact .inl ⟨i + 1, p, by simpa using h1, by simpa using h2, h3⟩
      · by_cases hd : o.dst = some d
        · rw [hd] at h1
          simp only [putSl, look, Nat.beq_refl, cond_true] at h1
          exact .inl ⟨0, o, rfl, by simpa using h1, hd⟩
        · refine .inr ⟨?_, fun i p hi hp => ?_⟩
          · cases hod : o.dst with
            | none => rw [hod] at h1; exact h1
            | some e =>
              rw [hod] at h1
              simp only [putSl, look] at h1
              rw [beq_of_ne (fun he => hd (by rw [hod, he]))] at h1
              exact h1
          · cases i with
            | zero => cases hp; exact hd
            | succ i => exact h2 i p (by simpa using hi) (by simpa using hp)

section
variable {P : Program} {n : Nat} {ro : Option Nat} {G : CtxR P n ro}

/-- Behind some of the free operations. -/
structure Part {ro : Option Nat} (G : CtxR P n ro) (l : List Oper) (xs : List AV) (st : St) (L : Nat → Prop) (S : Nat → Prop) (R : Lab) (a : Act) (w : World) : Prop where
  holds : Holds S R w st.toks
  done : ∀ (i : Nat) (o : Oper) (x : AV) (d : Nat), L i → l[i]? = some o → xs[i]? = some x → o.dst = some d → RepV S R w x (a.tmps.getD d undef)
  rest : ∀ (d : Nat) (x : AV), look st.sl d = some x → (∀ (i : Nat) (o : Oper), i < xs.length → L i → l[i]? = some o → o.dst ≠ some d) → RepV S R w x (a.tmps.getD d undef)
  out : Out G.w0 G.S0 G.R0 G.F0 G.K0 S R w st.toks
  defers : a.defers = G.ds
  size : a.tmps.size = n

theorem Part.all {l : List Oper} {xs : List AV} {st : St} {L S : Nat → Prop} {R : Lab} {a : Act} {w : World} (h : Part G l xs st L S R a w) (hL : ∀ i, i < xs.length → L i) : Rel G ⟨finSl st.sl l xs, st.toks⟩ a w := by
  refine ⟨S, R, h.holds, fun d x hx => ?_, h.out, h.defers, h.size⟩
  rcases finSl_look l xs st.sl d x hx with ⟨i, o, h1, h2, h3⟩ | ⟨h1, h2⟩
  · exact h.done i o x d (hL i (List.getElem?_eq_some_iff.1 h2).1) h1 h2 h3
  · exact h.rest d x h1 (fun i o hi _ ho => h2 i o hi ho)

def Lst (listed : Array Bool) (i : Nat) : Prop := listed.getD i false = true

def unl (n : Nat) (listed : Array Bool) : List Nat := (List.range n).filter fun i => !listed.getD i false

theorem unl_lt {n i : Nat} {listed : Array Bool} (hs : listed.size = n) (hi : i < n) (hl : ¬ Lst listed i) : (unl n (listed.setIfInBounds i true)).length < (unl n listed).length := by
  have hsub : (unl n (listed.setIfInBounds i true)).Sublist (unl n listed) := by
    have e : unl n (listed.setIfInBounds i true) = (unl n listed).filter (fun j => !(listed.setIfInBounds i true).getD j false) := by
      unfold unl
      rw [List.filter_filter]
      refine List.filter_congr (fun j _ => ?_)
      by_cases hij : i = j
      · subst hij
        have : i < listed.size := by omega
        simp [this]
      · simp [Array.getD_eq_getD_getElem?, Array.getElem?_setIfInBounds_ne hij]
    rw [e]
    exact List.filter_sublist
  rcases Nat.lt_or_ge (unl n (listed.setIfInBounds i true)).length (unl n listed).length with h | h
  · exact h
  · have he := hsub.eq_of_length_le h
    have hm : i ∈ unl n listed := by
      simp only [unl, List.mem_filter, List.mem_range]
      refine ⟨hi, ?_⟩
      have : listed.getD i false = false := by
        cases hb : listed.getD i false with
        | true => exact absurd hb hl
        | false => rfl
      rw [this]; rfl
    rw [← he] at hm
    simp only [unl, List.mem_filter] at hm
    have hlt : i < listed.size := by omega
    simp [hlt] at hm

theorem lst_set {listed : Array Bool} {i j : Nat} (hi : i < listed.size) : Lst (listed.setIfInBounds i true) j ↔ j = i ∨ Lst listed j := by
  unfold Lst
  by_cases hij : i = j
  · subst hij
    simp [hi]
  · simp only [Array.getD_eq_getD_getElem?, Array.getElem?_setIfInBounds_ne hij]
    constructor
    · exact fun h => .inr h
    · rintro (h | h)
      · exact absurd h.symm hij
      · exact h

theorem mem_ready {l : List Oper} {listed : Array Bool} {i : Nat} (hs : listed.size = l.length) (h : i ∈ Region.ready .any l.toArray listed) : i < l.length ∧ ¬ Lst listed i ∧ ∃ o, l[i]? = some o ∧ ∀ e, e ∈ edgesOf o → Lst listed e := by
  simp only [Region.ready, List.size_toArray, List.mem_filter, List.mem_range, List.getElem?_toArray, Bool.and_eq_true, Bool.not_eq_true'] at h
  obtain ⟨hi, h1, h2⟩ := h
  have hlt : i < listed.size := by omega
  refine ⟨hi, ?_, l[i], List.getElem?_eq_getElem hi, fun e he => ?_⟩
  · simp [Lst, hlt] at h1 ⊢
    exact h1
  · rw [List.getElem?_eq_getElem hi] at h2
    simp only [Option.map_some, Option.getD_some, ← Array.all_toList, List.all_eq_true] at h2
    simp only [edgesOf, List.mem_map, List.mem_filter] at he
    obtain ⟨e', ⟨hm, hb⟩, rfl⟩ := he
    have := h2 e' hm
    simpa [hb, Lst] using this

theorem ready_mem {l : List Oper} {listed : Array Bool} {i : Nat} {o : Oper} (hs : listed.size = l.length) (ho : l[i]? = some o) (hl : ¬ Lst listed i) (he : ∀ e, e ∈ edgesOf o → Lst listed e) : i ∈ Region.ready .any l.toArray listed := by
  have hi := (List.getElem?_eq_some_iff.1 ho).1
  simp only [Region.ready, List.size_toArray, List.mem_filter, List.mem_range, List.getElem?_toArray, Bool.and_eq_true, Bool.not_eq_true']
  have hlt : i < listed.size := by omega
  refine ⟨hi, ?_, ?_⟩
  · simp [Lst, hlt] at hl ⊢
    exact hl
  · rw [ho]
    simp only [Option.map_some, Option.getD_some, ← Array.all_toList, List.all_eq_true]
    intro e hm
    by_cases hb : Region.binds .any e = true
    · have := he e.on (by simp only [edgesOf, List.mem_map, List.mem_filter]; exact ⟨e, ⟨hm, hb⟩, rfl⟩)
      simpa [hb, Lst] using this
    · simp [hb]

theorem anc_lst {l : List Oper} {listed : Array Bool} (hd : ∀ (i : Nat) (o : Oper), Lst listed i → l[i]? = some o → ∀ e, e ∈ edgesOf o → Lst listed e) : ∀ (f i j : Nat) (o : Oper), l[i]? = some o → (∀ e, e ∈ edgesOf o → Lst listed e) → ancB l f i j = true → Lst listed j
  | 0, _, _, _, _, _, h => by cases h
  | f + 1, i, j, o, ho, he, h => by
    simp only [ancB, ho, List.any_eq_true, Bool.or_eq_true] at h
    obtain ⟨e, hm, h1 | h1⟩ := h
    · rw [← Nat.eq_of_beq_eq_true h1]; exact he e hm
    · cases hp : l[e]? with
      | none =>
        cases f with
        | zero => cases h1
        | succ f => simp [ancB, hp] at h1
      | some p => exact anc_lst hd f e j p hp (hd e p (he e hm) hp) h1

/-- The others, one behind the other. -/
theorem tail_any {l : List Oper} {m : Nat} {Q : Exit → Act → World → Prop} (hok : drawOk l m = true) : ∀ (k fuel : Nat) (listed : Array Bool) (a : Act) (w : World), m ≤ l.length - k → k ≤ l.length → listed.size = l.length → (∀ i, Lst listed i ↔ i < l.length - k) → k ≤ fuel →
    wpOpsIn (fen ro) 0 P l.toArray Q (List.range' (l.length - k) k) a w → wpAnyIn (fen ro) 0 P .any l.toArray Q fuel listed a w := by
  simp only [drawOk, Bool.and_eq_true] at hok
  intro k
  induction k with
  | zero =>
    intro fuel listed a w hm hk hs hL hf h
    have hnil : Region.ready .any l.toArray listed = [] := by
      rw [List.eq_nil_iff_forall_not_mem]
      intro i hi
      obtain ⟨h1, h2, _⟩ := mem_ready hs hi
      exact h2 ((hL i).2 (by omega))
    simp only [List.range'_zero, wpOpsIn] at h
    cases fuel with
    | zero => exact ⟨hnil, h⟩
    | succ f => exact ⟨fun _ => h, fun i hi => by rw [hnil] at hi; cases hi⟩
  | succ k ih =>
    intro fuel listed a w hm hk hs hL hf h
    obtain ⟨f, rfl⟩ : ∃ f, fuel = f + 1 := ⟨fuel - 1, by omega⟩
    have hlt : l.length - (k + 1) < l.length := by omega
    have hrow := allB_iff hok.1 hlt
    simp only [List.getElem?_eq_getElem hlt, Bool.and_eq_true] at hrow
    rw [if_neg (by simp; omega)] at hrow
    have hready : l.length - (k + 1) ∈ Region.ready .any l.toArray listed := by
      refine ready_mem hs (List.getElem?_eq_getElem hlt) (fun hc => by have := (hL _).1 hc; omega) (fun e he => (hL e).2 ?_)
      have := List.all_eq_true.1 hrow.1 e he
      simpa [Nat.blt_eq] using this
    have hone : ∀ i, i ∈ Region.ready .any l.toArray listed → i = l.length - (k + 1) := by
      intro i hi
      obtain ⟨h1, h2, o, ho, he⟩ := mem_ready hs hi
      rcases Nat.lt_trichotomy i (l.length - (k + 1)) with h3 | h3 | h3
      · exact absurd ((hL i).2 h3) h2
      · exact h3
      · exfalso
        have hrow' := allB_iff hok.1 h1
        simp only [ho, Bool.and_eq_true] at hrow'
        rw [if_neg (by simp; omega)] at hrow'
        have hanc := allB_iff hrow'.2 h3
        have hL' : Lst listed (l.length - (k + 1)) := anc_lst (fun j p hj hp e hm' => by
          have hj' := (hL j).1 hj
          have hr := allB_iff hok.1 (show j < l.length by omega)
          simp only [hp, Bool.and_eq_true] at hr
          have := List.all_eq_true.1 hr.1 e hm'
          simp [Nat.blt_eq] at this
          exact (hL e).2 (by omega)) _ _ _ o ho he hanc
        have := (hL _).1 hL'
        omega
    refine ⟨fun hn => (by rw [hn] at hready; cases hready), fun i hi => ?_⟩
    rw [hone i hi]
    rw [List.range'_succ, wpOpsIn_cons] at h
    refine wpOpIn_mono (fun a w h' => ih f _ a w (by omega) (by omega) (by simpa using hs) (fun j => ?_) (by omega) ?_) h
    · rw [lst_set (by omega), hL]
      omega
    · have : l.length - k = l.length - (k + 1) + 1 := by omega
      rw [this]; exact h'

theorem draw_aux {l : List Oper} {xs : List AV} {st : St} {Q : Exit → Act → World → Prop} (hok : drawOk l xs.length = true) (hdst : ∀ (i : Nat) (o : Oper), i < xs.length → l[i]? = some o → dstOk o.dst n = true)
    (hev : ∀ (i : Nat) (o : Oper) (x : AV), l[i]? = some o → xs[i]? = some x → GEv P l (finSl st.sl l xs) st.toks o x)
    (htail : ∀ a w, Rel G ⟨finSl st.sl l xs, st.toks⟩ a w → wpOpsIn (fen ro) 0 P l.toArray Q (List.range' xs.length (l.length - xs.length)) a w) :
    ∀ (fuel : Nat) (listed : Array Bool) (a : Act) (w : World), listed.size = l.length → (∀ i, Lst listed i → i < xs.length) → (∀ (i : Nat) (o : Oper), Lst listed i → l[i]? = some o → ∀ e, e ∈ edgesOf o → Lst listed e) →
      (unl l.length listed).length ≤ fuel → (∃ S R, Part G l xs st (Lst listed) S R a w) → wpAnyIn (fen ro) 0 P .any l.toArray Q fuel listed a w := by
  have hok' := hok
  simp only [drawOk, Bool.and_eq_true] at hok'
  have hml : xs.length ≤ l.length := by simpa using hok'.2
  intro fuel
  induction fuel with
  | zero =>
    intro listed a w hs hL hd hf ⟨S, R, hp⟩
    have hall : ∀ i, i < l.length → Lst listed i := fun i hi => by
      by_cases hl : Lst listed i
      · exact hl
      · have : i ∈ unl l.length listed := by
          simp only [unl, List.mem_filter, List.mem_range]
          refine ⟨hi, ?_⟩
          cases hb : listed.getD i false with
          | true => exact absurd hb hl
          | false => rfl
        have := List.length_pos_of_mem this
        omega
    have he : l.length = xs.length := by
      rcases Nat.lt_or_ge xs.length l.length with h | h
      · have := hL _ (hall _ h); omega
      · omega
    have h := htail a w (hp.all (fun i hi => hall i (by omega)))
    rw [he] at h
    simp only [Nat.sub_self, List.range'_zero, wpOpsIn] at h
    refine ⟨?_, h⟩
    rw [List.eq_nil_iff_forall_not_mem]
    intro i hi
    obtain ⟨h1, h2, _⟩ := mem_ready hs hi
    exact h2 (hall i h1)
  | succ fuel ih =>
    intro listed a w hs hL hd hf ⟨S, R, hp⟩
    by_cases hall : ∀ i, i < xs.length → Lst listed i
    · refine tail_any hok (l.length - xs.length) (fuel + 1) listed a w (by omega) (by omega) hs (fun i => ⟨fun h => by have := hL i h; omega, fun h => hall i (by omega)⟩) ?_ ?_
      · have : (List.range' xs.length (l.length - xs.length)).length ≤ (unl l.length listed).length := by
          have hsub : (List.range' xs.length (l.length - xs.length)).Sublist (unl l.length listed) := by
            have h1 : (List.range' xs.length (l.length - xs.length)).Sublist (List.range l.length) := by
              rw [List.range_eq_range']
              have : List.range' 0 l.length = List.range' 0 xs.length ++ List.range' (0 + xs.length) (l.length - xs.length) := by
                rw [List.range'_append_1]; congr 1; omega
              rw [this]
              simp
            have h2 := h1.filter (fun i => !listed.getD i false)
            have h3 : (List.range' xs.length (l.length - xs.length)).filter (fun i => !listed.getD i false) = List.range' xs.length (l.length - xs.length) := by
              rw [List.filter_eq_self]
              intro i hi
              simp only [List.mem_range'_1] at hi
              cases hb : listed.getD i false with
              | true => have := hL i hb; omega
              | false => rfl
            rw [h3] at h2
            exact h2
          exact hsub.length_le
        simp only [List.length_range'] at this
        omega
      · have e1 : l.length - (l.length - xs.length) = xs.length := by omega
        rw [e1]
        exact htail a w (hp.all hall)
    · -- some free one is still to come: the least of them is ready
      have hex : ∃ i, i < xs.length ∧ ¬ Lst listed i := Classical.byContradiction fun hc => hall fun i hi => Classical.byContradiction fun hl => hc ⟨i, hi, hl⟩
      obtain ⟨i0, ⟨hi0, hl0⟩, hmin⟩ := exists_least hex
      have hlt0 : i0 < l.length := by omega
      have hrow0 := allB_iff hok'.1 hlt0
      simp only [List.getElem?_eq_getElem hlt0, Bool.and_eq_true] at hrow0
      have hr0 : i0 ∈ Region.ready .any l.toArray listed := ready_mem hs (List.getElem?_eq_getElem hlt0) hl0 (fun e he => by
        have := List.all_eq_true.1 hrow0.1 e he
        simp [Nat.blt_eq] at this
        exact Classical.byContradiction fun hc => by have := hmin e ⟨by omega, hc⟩; omega)
      refine ⟨fun hn => (by rw [hn] at hr0; cases hr0), fun i hi => ?_⟩
      obtain ⟨h1, h2, o, ho, he⟩ := mem_ready hs hi
      have hrow := allB_iff hok'.1 h1
      simp only [ho, Bool.and_eq_true] at hrow
      have him : i < xs.length := by
        rcases Nat.lt_or_ge i xs.length with h | h
        · exact h
        · exfalso
          rw [if_neg (by simp; omega)] at hrow
          exact hl0 (anc_lst hd _ _ _ o ho he (allB_iff hrow.2 (show i0 < i by omega)))
      rw [if_pos (by simp [Nat.blt_eq]; omega)] at hrow
      obtain ⟨x, hx⟩ : ∃ x, xs[i]? = some x := ⟨_, List.getElem?_eq_getElem him⟩
      -- the slots that it looks at
      have hlook : ∀ t, t ∈ looks l o → ∀ y, look (finSl st.sl l xs) t = some y → RepV S R w y (a.tmps.getD t undef) := by
        intro t ht y hy
        rcases finSl_look l xs st.sl t y hy with ⟨j, p, h3, h4, h5⟩ | ⟨h3, h4⟩
        · have hj := allB_iff hrow.2 ((List.getElem?_eq_some_iff.1 h4).1)
          simp only [h3, h5, Bool.and_eq_true, Bool.or_eq_true, Bool.not_eq_true'] at hj
          have hanc : ancB l l.length i j = true := by
            rcases hj.1 with h6 | h6
            · rw [List.contains_iff_mem.2 ht] at h6; cases h6
            · exact h6
          exact hp.done j p y t (anc_lst hd _ _ _ o ho he hanc) h3 h4 h5
        · exact hp.rest t y h3 (fun j p hj _ hpj => h4 j p hj hpj)
      have hops : OpsAt S R w ⟨finSl st.sl l xs, st.toks⟩ a o.op := by
        intro z hz y hy
        cases z with
        | tmp t =>
          refine hlook t ?_ y hy
          simp only [looks, List.mem_append, List.mem_filterMap]
          exact .inl ⟨.tmp t, by simpa using hz, rfl⟩
        | const v => cases hy; exact .val _
        | global g => cases hy; exact .val _
        | func f => cases hy; exact RepV.fn (vs := #[]) rfl (fun i x hx => by simp at hx)
      -- it goes on
      have hnext : ∀ (S' : Nat → Prop) (R' : Lab) (w' : World) (v : Value), Grow S R w S' R' w' → RepV S' R' w' x v → wpAnyIn (fen ro) 0 P .any l.toArray Q fuel (listed.setIfInBounds i true) (a.put o.dst v) w' := by
        intro S' R' w' v hg hv
        refine ih _ _ _ (by simpa using hs) (fun j hj => ?_) (fun j p hj hpj e hem => ?_) ?_ ⟨S', R', ?_⟩
        · rcases (lst_set (by omega)).1 hj with rfl | h
          · exact him
          · exact hL j h
        · refine (lst_set (by omega)).2 (.inr ?_)
          rcases (lst_set (by omega)).1 hj with rfl | h
          · rw [ho] at hpj; cases hpj; exact he e hem
          · exact hd j p h hpj e hem
        · have := unl_lt (n := l.length) hs h1 h2; omega
        · have hw : ∀ b, b < w.heap.size → w'.heap[b]? = w.heap[b]? := hg.below.block
          have hmono : ∀ {y : AV} {u : Value}, RepV S R w y u → RepV S' R' w' y u := fun h => h.mono hg.st hg.lab (fun b hb => hw b (hp.holds.low b hb))
          have hdlt : ∀ d, o.dst = some d → d < a.tmps.size := fun d e => by rw [hp.size]; exact dstOk_lt (hdst i o him ho) d e
          have hother : ∀ d, o.dst ≠ some d → (a.put o.dst v).tmps.getD d undef = a.tmps.getD d undef := by
            intro d hne
            cases hod : o.dst with
            | none => rfl
            | some e =>
              have : e ≠ d := fun h => hne (by rw [hod, h])
              simp [Act.put, Array.getElem?_setIfInBounds_ne this]
          have hsame : ∀ d, o.dst = some d → (a.put o.dst v).tmps.getD d undef = v := by
            intro d hd'
            rw [hd']
            have := hdlt d hd'
            simp [Act.put, this]
          refine ⟨hp.holds.mono hg.st hg.st' hg.lab hg.top hg.below.size hw, fun j p y d hj hpj hy hdj => ?_, fun d y hy hno => ?_, ?_, (put_defers ..).trans hp.defers, (put_size ..).trans hp.size⟩
          · rcases (lst_set (by omega)).1 hj with rfl | h
            · rw [ho] at hpj; cases hpj
              rw [hx] at hy; cases hy
              rw [hsame d hdj]; exact hv
            · have hne : o.dst ≠ some d := by
                intro hod
                have hj' := allB_iff hrow.2 (hL j h)
                simp only [hpj, hdj, Bool.and_eq_true, Bool.or_eq_true] at hj'
                rcases hj'.2 with h6 | h6
                · have := Nat.eq_of_beq_eq_true h6
                  subst this
                  exact h2 h
                · simp [hod] at h6
              rw [hother d hne]
              exact hmono (hp.done j p y d h hpj hy hdj)
          · have hne : o.dst ≠ some d := hno i o him ((lst_set (by omega)).2 (.inl rfl)) ho
            rw [hother d hne]
            exact hmono (hp.rest d y hy (fun j p hj hLj hpj => hno j p hj ((lst_set (by omega)).2 (.inr hLj)) hpj))
          · have o' := hp.out
            refine ⟨hg.below.os.trans o'.os, hg.below.tape.trans o'.tape, hg.below.output.trans o'.output, Nat.le_trans o'.size hg.below.size, fun b hb hf => (hw b (Nat.lt_of_lt_of_le hb o'.size)).trans (o'.block b hb hf),
              fun b hb => hg.st b (o'.S0 b hb), fun b hb => ?_, fun l q hq => hg.lab l q (o'.R0 l q hq), ?_, o'.keys⟩
            · rcases hg.st' b hb with h1 | h1
              · exact o'.S1 b h1
              · exact .inr (.inr (Nat.le_trans o'.size h1.1))
            · rintro g ⟨l', t, ht, hb⟩
              rw [blkOf_mono hg.lab (hp.holds.tok l' t ht).bound] at hb
              exact o'.foot g ⟨l', t, ht, hb⟩
      have hgrefl : Grow S R w S R w := .refl w hp.holds.top
      have hguard : ∀ (j d : Nat) (p : Oper) (c b : Bool), o.guard = some (j, b) → l[j]? = some p → p.dst = some d → look (finSl st.sl l xs) d = some (.val (.bool c)) → yielded l.toArray a.tmps j = some c := by
        intro j d p c b hg hpj hdj hxj
        have hv := slot_lt (hlook d (by simp only [looks, hg, hpj, List.mem_append]; exact .inr (by simp [hdj])) _ hxj)
        simp [yielded, hpj, hdj, hv]
      unfold wpOpIn
      simp only [List.getElem?_toArray, ho]
      cases hev i o x ho hx with
      | plain hg h =>
        rw [if_pos (by simp [Region.wanted, hg])]
        exact oper_in (h.h S R a w hp.holds hops _ _ (fun v S' R' w' hgr hv => ⟨hnext S' R' w' v hgr hv, put_defers ..⟩))
      | take hg hpj hdj hxj h =>
        rw [if_pos (by simp [Region.wanted, hg, hguard _ _ _ _ _ hg hpj hdj hxj])]
        exact oper_in (h.h S R a w hp.holds hops _ _ (fun v S' R' w' hgr hv => ⟨hnext S' R' w' v hgr hv, put_defers ..⟩))
      | skip hg hpj hdj hxj hn =>
        have hv := rep_val (hlook _ (by simp only [looks, hg, hpj, List.mem_append]; exact .inr (by simp [hdj])) _ hxj)
        rw [if_neg (by simpa [Region.wanted, hg] using yielded_ne hpj hdj hv hn)]
        exact ⟨fun _ _ => trivial, hnext S R w _ hgrefl (.val undef)⟩

/-- The facts of the free operations, one by one. -/
inductive GEvs (P : Program) (l : List Oper) (n : Nat) (fin : List (Nat × AV)) (ts : List (Nat × Tok)) : List Oper → List AV → Prop
  | nil {r : List Oper} : GEvs P l n fin ts r []
  | cons {o : Oper} {x : AV} {r : List Oper} {xs : List AV} (h : GEv P l fin ts o x) (hd : dstOk o.dst n = true) (hr : GEvs P l n fin ts r xs) : GEvs P l n fin ts (o :: r) (x :: xs)

theorem GEvs.get {l : List Oper} {fin : List (Nat × AV)} {ts : List (Nat × Tok)} {r : List Oper} {xs : List AV} (h : GEvs P l n fin ts r xs) : ∀ (i : Nat) (o : Oper) (x : AV), r[i]? = some o → xs[i]? = some x → GEv P l fin ts o x ∧ dstOk o.dst n = true := by
  induction h with
  | nil => intro i o x _ hx; simp at hx
  | cons h hd _ ih =>
    intro i o x ho hx
    cases i with
    | zero => cases ho; cases hx; exact ⟨h, hd⟩
    | succ i => exact ih i o x (by simpa using ho) (by simpa using hx)

theorem aw_draw {id : Nat} {l : List Oper} {st : St} {K : Kont} [hm : Mix P] (xs : List AV) (hok : drawOk l xs.length = true) (hev : GEvs P l n (finSl st.sl l xs) st.toks l xs) (htail : AWo G l.toArray (l.drop xs.length) ⟨finSl st.sl l xs, st.toks⟩ K) : AW G (.region id l.toArray true) st K := by
  have hml : xs.length ≤ l.length := by
    simp only [drawOk, Bool.and_eq_true] at hok
    simpa using hok.2
  refine ⟨?_⟩
  intro a w ⟨S, R, hr⟩
  refine wpIn_region_any hm.h ?_
  refine draw_aux (G := G) (st := st) hok (fun i o hi ho => (hev.get i o _ ho (List.getElem?_eq_getElem hi)).2) (fun i o x ho hx => (hev.get i o x ho hx).1) (fun a w hrel => ?_) l.length _ a _ (by simp) ?_ ?_ ?_ ⟨S, R, ?_⟩
  · have h := htail.h a w hrel
    rw [← wpOpsIn_eq_wpListIn (ops := l.toArray) (l.drop xs.length) xs.length (fun j => by simp)] at h
    simpa using h
  · intro i hi
    simp [Lst, Array.getD_eq_getD_getElem?, Array.getElem?_replicate] at hi
    split at hi <;> simp at hi
  · intro i o hi
    simp [Lst, Array.getD_eq_getD_getElem?, Array.getElem?_replicate] at hi
    split at hi <;> simp at hi
  · exact Nat.le_trans (List.length_filter_le _ _) (by simp)
  · have hg : Grow S R w S R { w with drawn := w.drawn + 1 } := ⟨⟨rfl, rfl, rfl, Nat.le_refl _, fun _ _ => rfl⟩, fun _ h => h, fun _ h => .inl h, fun _ _ h => h, hr.holds.top⟩
    have hr' := hr.grow hg
    refine ⟨hr'.holds, fun i o x d hi => ?_, fun d x hx _ => hr'.slots d x hx, hr'.out, hr'.defers, hr'.size⟩
    simp [Lst, Array.getD_eq_getD_getElem?, Array.getElem?_replicate] at hi
    split at hi <;> simp at hi
end

end Go.Proofs.YtmenbolalghljaaA
