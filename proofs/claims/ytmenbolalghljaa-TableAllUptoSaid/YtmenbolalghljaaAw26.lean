/- Readings of structs; what a law's contract gives the statement. -/
import Derived.Test.YtmenbolalghljaaAw25
set_option linter.unusedVariables false
namespace Go.Proofs.YtmenbolalghljaaA
open Go.RowKit Go.ChangeShapes

variable {P : Program}
/-- Fields one behind the other, from off on; they take k cells. -/
def RdF (P : Program) (fs : List Field) (off k : Nat) {α : Type} (cells : α → List AV) (sz : α → Nat) (inv : α → Prop) : Prop :=
  ∀ (H : Type) (enc : TypeId × Value → H) (w : World) (n : Nat) (cs : List Value) (zs : List (DataW H × List MemPlace)), off + k ≤ cs.length →
    (fs.mapM fun f => DataW.trod enc P w 0 (fun _ => true) true n f.type ((cs.drop f.offset).take (P.cellsOf f.type))) = some zs →
    ∃ a : α, sz a ≤ bulkAll (zs.map (·.1)) ∧ inv a ∧ (cells a).length = k ∧ onesL (cells a) ∧ ∀ (S : Nat → Prop) (R : Lab), (∀ b, b < w.heap.size → S b) → ∀ (i : Nat) (x : AV), (cells a)[i]? = some x → RepV S R w x (cs.getD (off + i) undef)
theorem rdf_nil {off : Nat} : RdF P [] off 0 (fun _ : Unit => []) (fun _ => 0) (fun _ => True) := by
  intro H enc w n cs zs hl h
  exact ⟨(), Nat.zero_le _, trivial, rfl, (by intro x hx; cases hx), fun S R hS i x hx => by simp at hx⟩
theorem rdf_cons {f : Field} {fs : List Field} {off k1 k2 : Nat} {α β : Type} {c1 : α → List AV} {s1 : α → Nat} {i1 : α → Prop} {c2 : β → List AV} {s2 : β → Nat} {i2 : β → Prop} (ho : f.offset = off) (hc : P.cellsOf f.type = k1) (h1 : Rd P f.type c1 s1 i1) (h2 : RdF P fs (off + k1) k2 c2 s2 i2) :
    RdF P (f :: fs) off (k1 + k2) (fun p : α × β => c1 p.1 ++ c2 p.2) (fun p => s1 p.1 + s2 p.2) (fun p => i1 p.1 ∧ i2 p.2) := by
  intro H enc w n cs zs hl h
  rw [List.mapM_cons] at h
  simp only [Option.pure_def, Option.bind_eq_bind, Option.bind_eq_some_iff, Option.some.injEq] at h
  obtain ⟨z, hz, zs', hzs, rfl⟩ := h
  rw [ho, hc] at hz
  obtain ⟨a, q1, q2, q3, q4, q5⟩ := h1 H enc w n _ z.1 z.2 hz
  obtain ⟨b, r1, r2, r3, r4, r5⟩ := h2 H enc w n cs zs' (by omega) hzs
  have hk1 : (c1 a).length = k1 := by rw [← q3]; simp; omega
  refine ⟨(a, b), by simp [bulkAll]; omega, ⟨q2, r2⟩, by simp [hk1, r3], ?_, fun S R hS i x hx => ?_⟩
  · intro x hx
    rcases List.mem_append.1 hx with h | h
    · exact q4 x h
    · exact r4 x h
  · replace hx : (c1 a ++ c2 b)[i]? = some x := hx
    rcases Nat.lt_or_ge i k1 with hi | hi
    · rw [List.getElem?_append_left (by omega)] at hx
      have := q5 S R hS i x hx
      rw [List.getD_eq_getElem?_getD, List.getElem?_take_of_lt hi, List.getElem?_drop] at this
      rw [List.getD_eq_getElem?_getD]
      exact this
    · rw [List.getElem?_append_right (by omega), hk1] at hx
      have := r5 S R hS (i - k1) x hx
      rwa [show off + k1 + (i - k1) = off + i by omega] at this
theorem rd_struct {t : TypeId} {fs : Array Field} {k : Nat} {α : Type} {cells : α → List AV} {sz : α → Nat} {inv : α → Prop} (hu : P.underlying t = some (.struct fs)) (hk : P.cellsOf t = k) (h : RdF P fs.toList 0 k cells sz inv) : Rd P t cells sz inv := by
  intro H enc w n cs d ps hd
  cases n with
  | zero => simp [DataW.trod] at hd
  | succ n =>
    unfold DataW.trod at hd
    rw [hu] at hd
    split at hd
    all_goals first
      | (exfalso; simp_all; done)
      | skip
    all_goals first
      | (rename_i heq; simp at heq; done)
      | skip
    rename_i heq
    cases heq
    rename_i cs0 x0 cs1
    split at hd
    · rename_i hlen
      rw [Option.map_eq_some_iff] at hd
      obtain ⟨zs, hzs, e⟩ := hd
      simp only [Prod.mk.injEq] at e
      obtain ⟨rfl, rfl⟩ := e
      obtain ⟨a, q1, q2, q3, q4, q5⟩ := h H enc w n cs0 zs (by omega) hzs
      refine ⟨a, by simp only [bulk]; omega, q2, by omega, q4, fun S R hS i x hx => ?_⟩
      have := q5 S R hS i x hx
      rwa [Nat.zero_add] at this
    · cases hd
theorem rd_map {t : TypeId} {α β : Type} {c1 : α → List AV} {s1 : α → Nat} {i1 : α → Prop} {c2 : β → List AV} {s2 : β → Nat} {i2 : β → Prop} (h : Rd P t c1 s1 i1) (g : α → β) (hc : ∀ a, c2 (g a) = c1 a) (hs : ∀ a, s2 (g a) ≤ s1 a) (hi : ∀ a, i1 a → i2 (g a)) : Rd P t c2 s2 i2 := by
  intro H enc w n cs d ps hd
  obtain ⟨a, q1, q2, q3, q4, q5⟩ := h H enc w n cs d ps hd
  exact ⟨g a, Nat.le_trans (hs a) q1, hi a q2, by rw [hc]; exact q3, by rw [hc]; exact q4, fun S R hS i x hx => q5 S R hS i x (by rwa [← hc])⟩

/-! ### Parameters -/
/-- A parameter's value reads as one of these. -/
def Par (P : Program) (t : TypeId) {α : Type} (av : α → AV) (sz : α → Nat) (inv : α → Prop) : Prop :=
  ∀ (H : Type) (enc : TypeId × Value → H) (w : World) (base : Nat) (v : Value) (d : DataW H) (ps : List MemPlace), Value.okWide P w .any base t v → DataW.Trod enc P w 0 (fun _ => true) true t v d ps →
    ∃ a : α, sz a ≤ bulk d ∧ inv a ∧ ∀ (S : Nat → Prop) (R : Lab), (∀ b, b < w.heap.size → S b) → RepV S R w (av a) v
theorem par_one {t : TypeId} {α : Type} {x : α → AV} {sz : α → Nat} {inv : α → Prop} (h : Rd P t (fun a => [x a]) sz inv) (hv : ∀ (w : World) (base : Nat) (v : Value), Value.okWide P w .any base t v → v.cells.toList = [v]) : Par P t x sz inv := by
  intro H enc w base v d ps hok ⟨n, hn⟩
  rw [hv w base v hok] at hn
  obtain ⟨a, q1, q2, q3, q4, q5⟩ := h H enc w n _ d ps hn
  exact ⟨a, q1, q2, fun S R hS => q5 S R hS 0 (x a) rfl⟩
theorem par_int {t : TypeId} {k : IntKind} (hu : P.underlying t = some (.int k)) : Par P t (fun n : Int => .val (.int k n)) (fun _ => 1) (fun n => (Lit.int k n).wf = true) :=
  par_one (rd_int hu) fun w base v hok => by obtain ⟨n, rfl⟩ := Go.WideShapes.okWide_int hu hok; rfl
theorem par_bool {t : TypeId} (hu : P.underlying t = some .bool) : Par P t (fun b : Bool => .val (.bool b)) (fun _ => 1) (fun _ => True) :=
  par_one (rd_bool hu) fun w base v hok => by obtain ⟨n, rfl⟩ := Go.WideShapes.okWide_bool hu hok; rfl
theorem par_string {t : TypeId} (hu : P.underlying t = some .string) : Par P t (fun s : ByteArray => .val (.string s)) (fun s => s.size + 1) (fun _ => True) :=
  par_one (rd_string hu) fun w base v hok => by obtain ⟨n, rfl⟩ := Go.WideShapes.okWide_string hu hok; rfl
theorem par_slice {t e : TypeId} {α : Type} {cells : α → List AV} {sz : α → Nat} {inv : α → Prop} {k : Nat} (hu : P.underlying t = some (.slice e)) (he : Rd P e cells sz inv) (hc : P.cellsOf e = k) (hk : ∀ a, (cells a).length = k) (hk0 : 0 < k) :
    Par P t (fun l : List α => .sl k (l.map cells) l.length) (fun l => (l.map sz).sum + 1) (fun l => ∀ x, x ∈ l → inv x) :=
  par_one (rd_slice hu he hc hk hk0) fun w base v hok => by obtain ⟨a, n, c, rfl⟩ := Go.WideShapes.okWide_slice hu hok; rfl
theorem par_struct {t : TypeId} {fs : Array Field} {α : Type} {cells : α → List AV} {sz : α → Nat} {inv : α → Prop} (hu : P.underlying t = some (.struct fs)) (h : Rd P t cells sz inv) : Par P t (fun a => .agg (cells a)) sz inv := by
  intro H enc w base v d ps hok ⟨n, hn⟩
  obtain ⟨cs, rfl, hcs⟩ := Go.WideShapes.okWide_struct hu hok
  obtain ⟨a, q1, q2, q3, q4, q5⟩ := h H enc w n _ d ps hn
  have e : (Value.agg cs).cells.toList = cs.toList := rfl
  rw [e] at q3 q5
  refine ⟨a, q1, q2, fun S R hS => .agg (by simpa using q3) fun i x hx => ?_⟩
  have := q5 S R hS i x hx
  rwa [List.getD_eq_getElem?_getD, Array.getElem?_toList, ← Array.getD_eq_getD_getElem?] at this

/-- Parameters, one by one. -/
inductive Pars (P : Program) : List TypeId → (α : Type) → (α → List AV) → (α → Nat) → (α → Prop) → Prop
  | nil : Pars P [] Unit (fun _ => []) (fun _ => 0) (fun _ => True)
  | cons {t : TypeId} {ts : List TypeId} {α β : Type} {x : α → AV} {s1 : α → Nat} {i1 : α → Prop} {xs : β → List AV} {s2 : β → Nat} {i2 : β → Prop} (h : Par P t x s1 i1) (hs : Pars P ts β xs s2 i2) : Pars P (t :: ts) (α × β) (fun p => x p.1 :: xs p.2) (fun p => s1 p.1 + s2 p.2) (fun p => i1 p.1 ∧ i2 p.2)
theorem Pars.read {ts : List TypeId} {α : Type} {xs : α → List AV} {sz : α → Nat} {inv : α → Prop} (h : Pars P ts α xs sz inv) : ∀ (H : Type) (enc : TypeId × Value → H) (w : World) (base : Nat) (vs : List Value) (ds : List (DataW H)) (ps : List MemPlace),
    (∀ (j : Nat) (t : TypeId) (v : Value), ts[j]? = some t → vs[j]? = some v → Value.okWide P w .any base t v) → DataW.TrodAll enc P w 0 (fun _ => true) true ts vs ds ps →
    ∃ a : α, sz a ≤ bulkAll ds ∧ inv a ∧ ds.length = ts.length ∧ ∀ (S : Nat → Prop) (R : Lab), (∀ b, b < w.heap.size → S b) → Reps S R w (xs a) vs := by
  induction h with
  | nil =>
    intro H enc w base vs ds ps hok ht
    obtain ⟨rfl, rfl, rfl⟩ := trodAll_nil ht
    exact ⟨(), Nat.zero_le _, trivial, rfl, fun S R hS => ⟨rfl, by intro i x hx; simp at hx⟩⟩
  | cons h1 hs ih =>
    intro H enc w base vs ds ps hok ht
    obtain ⟨v, vs', d, ds', p, q, rfl, rfl, rfl, h0, hr⟩ := trodAll_cons ht
    obtain ⟨a, q1, q2, q3⟩ := h1 H enc w base v d p (hok 0 _ _ rfl rfl) h0
    obtain ⟨b, r1, r2, r4, r3⟩ := ih H enc w base vs' ds' q (fun j t v hj hv => hok (j + 1) t v hj hv) hr
    refine ⟨(a, b), by simp only [bulkAll]; omega, ⟨q2, r2⟩, by simp [r4], fun S R hS => ⟨by simp [(r3 S R hS).1], fun i x hx => ?_⟩⟩
    cases i with
    | zero => simp at hx; subst hx; exact q3 S R hS
    | succ i => exact (r3 S R hS).2 i x (by simpa using hx)

/-! ### The statement -/
theorem trodAll_stays {H : Type} {enc : TypeId × Value → H} (hl : laidOutB P = true) {W W' : World} {sp : Nat → Bool} : ∀ {ts : List TypeId} {vs : List Value} {ds : List (DataW H)} {ps : List MemPlace},
    (∀ t, t ∈ ts → P.readableRec t = true ∧ t < P.types.size) → DataW.TrodAll enc P W 0 (fun _ => true) true ts vs ds ps → (∀ p, p ∈ ps → W.sameAt W' p) → (∀ p, p ∈ ps → sp p.block = true) → DataW.TrodAll enc P W' 0 sp true ts vs ds ps
  | [], _, _, _, _, h, _, _ => by
    obtain ⟨rfl, rfl, rfl⟩ := trodAll_nil h
    exact trodAll_mk0
  | t :: ts, _, _, _, hr, h, h1, h2 => by
    obtain ⟨v, vs', d, ds', p, q, rfl, rfl, rfl, h0, hq⟩ := trodAll_cons h
    exact trodAll_cons_mk (Go.WideElems.Trod_stays hl (hr t List.mem_cons_self).1 (hr t List.mem_cons_self).2 h0 (fun x hx => h1 x (List.mem_append_left _ hx)) (fun x hx => h2 x (List.mem_append_left _ hx)))
      (trodAll_stays hl (fun t ht => hr t (List.mem_cons_of_mem _ ht)) hq (fun x hx => h1 x (List.mem_append_right _ hx)) (fun x hx => h2 x (List.mem_append_right _ hx)))

theorem law_post {H : Type} {enc : TypeId × Value → H} {f : Func} {s : ChangeSpec} {apart fresh handsOn again : Bool} {W W' : World} {args : Array Value} {ds gs : List (DataW H)} {before : List MemPlace} {t4 : TypeId}
    (hl : laidOutB P = true) (hr : ∀ t, t ∈ f.params.toList → P.readableRec t = true ∧ t < P.types.size) (hb : Below W.heap.size W W')
    (hrt : f.resultTypes = #[t4]) (h4 : P.underlying t4 = some .bool) (hsv : s.vars = []) (hsr : (s.fn H (ds ++ gs)).results = [.lit (.bool true)]) (hsa : (s.fn H (ds ++ gs)).args = ds) (hsg : (s.fn H (ds ++ gs)).vars = [])
    (hW : DataW.Whole enc P f.params.toList s.vars apart W args.toList ds gs before) : s.post enc P f apart fresh handsOn again W args (.bool true) W' := by
  have hlt : ∀ p ∈ before, p.block < W.heap.size := hW.lt
  have hW0 := hW
  obtain ⟨p, q, hA, hV, rfl, hz, hn⟩ := hW
  rw [hsv] at hV
  obtain ⟨rfl, rfl⟩ := trodVars_none hV
  simp only [List.append_nil] at hlt hz hn hW0 hsr hsa hsg
  have hargs : ∀ sp : Nat → Bool, (∀ x ∈ p, sp x.block = true) → DataW.TrodAll enc P W' 0 sp true f.params.toList args.toList ds p := fun sp hsp =>
    trodAll_stays hl hr hA (fun x hx => hb.same (hlt x hx)) hsp
  have hres : ∀ (b : Nat) (sp : Nat → Bool) (hd : Bool), DataW.TrodAll enc P W' b sp hd f.resultTypes.toList ((Value.bool true).resultList f.resultTypes.size) [.lit (.bool true)] [] := fun b sp hd => by
    rw [hrt]
    exact trodAll_cons_mk (shut_bool h4 _) trodAll_mk0
  have hvs : ∀ sp : Nat → Bool, DataW.TrodVars enc P W' sp s.vars [] [] := fun sp => by rw [hsv]; rfl
  refine ⟨ds, [], p, [], p, [], hW0, ?_, ?_, ?_, ?_, fun ha => ?_⟩
  · rw [List.append_nil, hsr]; exact hres _ _ _
  · rw [List.append_nil, hsa]; exact hargs _ (fun x hx => by simpa using hlt x hx)
  · rw [List.append_nil, hsg]; exact hvs _
  · exact World.keptBut_mono (fun x hx => ⟨hx, .inr (.inl hx)⟩) (hb.frame _)
  · refine ⟨ok_one hrt rfl (okWide_bool_mk h4 _), .lit (.bool true) :: ds, [], p, ⟨[] ++ p, [], trodAll_append (hargs _ (fun _ _ => rfl)) (hres _ _ _), hvs _, by simp, ?_, ?_⟩, fun x hx _ => hx⟩
    · intro b off hp
      rw [hb.frozen (p := ⟨b, off, none⟩) (hlt _ hp)]
      exact hz b off hp
    · exact hn

theorem law_calls {f : FuncId} {xs : List AV} {args : Array Value} {W : World} (hF : PFn P f xs (.val (.bool true))) (hr : ∀ (S : Nat → Prop) (R : Lab), (∀ b, b < W.heap.size → S b) → Reps S R W xs args.toList) :
    Calls P f args W fun e W' => e = .returned (.bool true) ∧ Below W.heap.size W W' := by
  have h := hF.h (fun b => b < W.heap.size) (fun _ => none) W args.toList ⟨⟨0, fun _ _ => rfl⟩, .nil, (by intro l t h; cases h), (by rintro g ⟨_, _, h, _⟩; cases h), fun _ h => h⟩ (hr _ _ (fun _ h => h))
  refine h.mono ?_
  rintro e W' ⟨v, r, S', R', ts', rfl, rfl, hh, hrep, o⟩
  have hv := rep_val hrep
  subst hv
  exact ⟨rfl, ⟨o.os, o.tape, o.output, o.size, fun b hb => o.block b hb (by rintro ⟨_, _, h, _⟩; cases h)⟩⟩

/-- The law's contract, for what its parameters read as. -/
theorem law_holds {H : Type} {enc : TypeId × Value → H} {fid : FuncId} {f : Func} {s : ChangeSpec} {apart fresh handsOn again : Bool} {W : World} {base : Nat} {args : Array Value} {ds gs : List (DataW H)} {before : List MemPlace} {t4 : TypeId} {α : Type} {xs : α → List AV} {sz : α → Nat} {inv : α → Prop}
    (hl : laidOutB P = true) (hr : ∀ t, t ∈ f.params.toList → P.readableRec t = true ∧ t < P.types.size) (hrt : f.resultTypes = #[t4]) (h4 : P.underlying t4 = some .bool) (hsv : s.vars = [])
    (hs : ∀ ds : List (DataW H), ds.length = f.params.toList.length → (s.fn H ds).results = [.lit (.bool true)] ∧ (s.fn H ds).args = ds ∧ (s.fn H ds).vars = [])
    (hp : Pars P f.params.toList α xs sz inv) (hlaw : ∀ a, inv a → sz a ≤ bulkAll (ds ++ gs) → PFn P fid (xs a) (.val (.bool true)))
    (hval : ∀ (j : Nat) (t : TypeId) (v : Value), f.params[j]? = some t → args[j]? = some v → Value.okWide P W .any base t v)
    (hW : DataW.Whole enc P f.params.toList s.vars apart W args.toList ds gs before) :
    Calls P fid args W fun e W' => ∃ v, e = .returned v ∧ s.post enc P f apart fresh handsOn again W args v W' := by
  have hW0 := hW
  obtain ⟨p, q, hA, hV, rfl, hz, hn⟩ := hW
  rw [hsv] at hV
  obtain ⟨rfl, rfl⟩ := trodVars_none hV
  obtain ⟨a, q1, q2, q4, q3⟩ := hp.read H enc W base args.toList ds p (fun j t v hj hv => hval j t v (by simpa using hj) (by simpa using hv)) hA
  rw [List.append_nil] at hlaw
  refine (law_calls (hlaw a q2 q1) q3).mono ?_
  rintro e W' ⟨rfl, hb⟩
  obtain ⟨h1, h2, h3⟩ := hs (ds ++ []) (by simpa using q4)
  exact ⟨_, rfl, law_post hl hr hb hrt h4 hsv h1 (by rw [h2, List.append_nil]) h3 hW0⟩
end Go.Proofs.YtmenbolalghljaaA
