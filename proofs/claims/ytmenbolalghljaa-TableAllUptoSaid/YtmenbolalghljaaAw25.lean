/- From a statement's reading to values that bear their contents; what a law's contract gives the statement. -/
import Derived.Test.YtmenbolalghljaaAw24
import Derived.ProofKit
import Derived.OpenShut
set_option linter.unusedVariables false
namespace Go.Proofs.YtmenbolalghljaaA
open Go.RowKit Go.ChangeShapes

mutual
def bulk {H : Type} : DataW H → Nat
  | .lit (.string bytes) => bytes.length + 1
  | .lit _ => 1
  | .nil => 1
  | .ptr d => bulk d + 1
  | .slice elems spare => bulkAll elems + bulkAll spare + 1
  | .agg parts => bulkAll parts + 1
  | .iface _ d => bulk d + 1
  | .map entries => bulkEntries entries + 1
  | .held _ => 1
def bulkAll {H : Type} : List (DataW H) → Nat
  | [] => 0
  | d :: r => bulk d + bulkAll r
def bulkEntries {H : Type} : List (Lit × DataW H) → Nat
  | [] => 0
  | x :: r => bulkEntry x + bulkEntries r
def bulkEntry {H : Type} : Lit × DataW H → Nat
  | (.string bytes, d) => bytes.length + bulk d + 1
  | (_, d) => bulk d + 1
end

/-- Cells that read as d are those of some a. -/
def Rd (P : Program) (t : TypeId) {α : Type} (cells : α → List AV) (sz : α → Nat) (inv : α → Prop) : Prop :=
  ∀ (H : Type) (enc : TypeId × Value → H) (w : World) (n : Nat) (cs : List Value) (d : DataW H) (ps : List MemPlace), DataW.trod enc P w 0 (fun _ => true) true n t cs = some (d, ps) →
    ∃ a : α, sz a ≤ bulk d ∧ inv a ∧ cs.length = (cells a).length ∧ onesL (cells a) ∧ ∀ (S : Nat → Prop) (R : Lab), (∀ b, b < w.heap.size → S b) → ∀ (i : Nat) (x : AV), (cells a)[i]? = some x → RepV S R w x (cs.getD i undef)

theorem rep_one {S : Nat → Prop} {R : Lab} {w : World} {y : AV} {v : Value} (h : RepV S R w y v) (i : Nat) (x : AV) (hx : [y][i]? = some x) : RepV S R w x ([v].getD i undef) := by
  cases i with
  | zero => simp at hx; subst hx; exact h
  | succ i => simp at hx
theorem ones_one {y : AV} (h : y.one = true) : onesL [y] := by
  intro x hx; simp at hx; subst hx; exact h

variable {P : Program}
theorem rd_int {t : TypeId} {k : IntKind} (hu : P.underlying t = some (.int k)) : Rd P t (fun n : Int => [.val (.int k n)]) (fun _ => 1) (fun n => (Lit.int k n).wf = true) := by
  intro H enc w n cs d ps h
  cases n with
  | zero => simp [DataW.trod] at h
  | succ n =>
    unfold DataW.trod at h
    rw [hu] at h
    split at h
    all_goals first
      | (exfalso; simp_all; done)
      | skip
    all_goals first
      | (rename_i heq; simp at heq; done)
      | skip
    rename_i k0 k' m heq
    cases heq
    split at h
    · rename_i hw
      obtain ⟨rfl, hw⟩ := hw
      simp only [Option.some.injEq, Prod.mk.injEq] at h
      obtain ⟨rfl, rfl⟩ := h
      exact ⟨m, by simp [bulk], hw, rfl, ones_one rfl, fun S R hS i x hx => rep_one (.val _) i x hx⟩
    · cases h
theorem rd_bool {t : TypeId} (hu : P.underlying t = some .bool) : Rd P t (fun b : Bool => [.val (.bool b)]) (fun _ => 1) (fun _ => True) := by
  intro H enc w n cs d ps h
  cases n with
  | zero => simp [DataW.trod] at h
  | succ n =>
    unfold DataW.trod at h
    rw [hu] at h
    split at h
    all_goals first
      | (exfalso; simp_all; done)
      | skip
    all_goals first
      | (rename_i heq; simp at heq; done)
      | skip
    rename_i b heq
    simp only [Option.some.injEq, Prod.mk.injEq] at h
    obtain ⟨rfl, rfl⟩ := h
    exact ⟨b, by simp [bulk], trivial, rfl, ones_one rfl, fun S R hS i x hx => rep_one (.val _) i x hx⟩
theorem rd_string {t : TypeId} (hu : P.underlying t = some .string) : Rd P t (fun s : ByteArray => [.val (.string s)]) (fun s => s.size + 1) (fun _ => True) := by
  intro H enc w n cs d ps h
  cases n with
  | zero => simp [DataW.trod] at h
  | succ n =>
    unfold DataW.trod at h
    rw [hu] at h
    split at h
    all_goals first
      | (exfalso; simp_all; done)
      | skip
    all_goals first
      | (rename_i heq; simp at heq; done)
      | skip
    rename_i s heq
    split at h
    · simp only [Option.some.injEq, Prod.mk.injEq] at h
      obtain ⟨rfl, rfl⟩ := h
      exact ⟨s, by simp [bulk], trivial, rfl, ones_one rfl, fun S R hS i x hx => rep_one (.val _) i x hx⟩
    · cases h

theorem bulkAll_sum {H : Type} : ∀ (l : List (DataW H)), bulkAll l = (l.map bulk).sum
  | [] => rfl
  | d :: r => by simp [bulkAll, bulkAll_sum r]

/-- A list, its elements read one by one. -/
theorem each_of {α β : Type} {Q : β → α → Prop} : ∀ (l : List β), (∀ x, x ∈ l → ∃ a, Q x a) → ∃ as : List α, as.length = l.length ∧ ∀ (i : Nat) (x : β), l[i]? = some x → ∃ a, as[i]? = some a ∧ Q x a
  | [], _ => ⟨[], rfl, by simp⟩
  | x :: l, h => by
    obtain ⟨a, ha⟩ := h x List.mem_cons_self
    obtain ⟨as, h1, h2⟩ := each_of l fun y hy => h y (List.mem_cons_of_mem _ hy)
    refine ⟨a :: as, by simp [h1], fun i y hy => ?_⟩
    cases i with
    | zero => simp at hy; subst hy; exact ⟨a, rfl, ha⟩
    | succ i => simpa using h2 i y (by simpa using hy)
theorem sum_le {α β : Type} {f : α → Nat} {g : β → Nat} : ∀ (as : List α) (l : List β), as.length = l.length → (∀ (i : Nat) (x : β), l[i]? = some x → ∃ a, as[i]? = some a ∧ f a ≤ g x) → (as.map f).sum ≤ (l.map g).sum
  | [], [], _, _ => by simp
  | a :: as, x :: l, hl, h => by
    obtain ⟨a', h1, h2⟩ := h 0 x rfl
    simp at h1; subst h1
    have := sum_le as l (by simpa using hl) fun i y hy => by simpa using h (i + 1) y (by simpa using hy)
    simp; omega
  | [], _ :: _, hl, _ => by simp at hl
  | _ :: _, [], hl, _ => by simp at hl

theorem rd_slice {t e : TypeId} {α : Type} {cells : α → List AV} {sz : α → Nat} {inv : α → Prop} {k : Nat} (hu : P.underlying t = some (.slice e)) (he : Rd P e cells sz inv) (hc : P.cellsOf e = k) (hk : ∀ a, (cells a).length = k) (hk0 : 0 < k) :
    Rd P t (fun l : List α => [.sl k (l.map cells) l.length]) (fun l => (l.map sz).sum + 1) (fun l => ∀ x, x ∈ l → inv x) := by
  intro H enc w n cs d ps h
  cases n with
  | zero => simp [DataW.trod] at h
  | succ n =>
    unfold DataW.trod at h
    rw [hu] at h
    split at h <;> try (simp_all; done)
    · rename_i heq
      simp at h
      obtain ⟨rfl, rfl⟩ := h
      refine ⟨[], by simp [bulk], by simp, rfl, ones_one rfl, fun S R hS i x hx => ?_⟩
      refine rep_one ?_ i x hx
      exact .sl (F := fun _ _ => undef) (by simp) (by simp) (by simp [maxLen]) (by simp) (by simp) (by simp) (by simp)
    · rename_i e' a len cap heq
      cases heq
      split at h
      · rename_i hb
        obtain ⟨hb0, hlc, hcm⟩ := hb
        rw [Option.bind_eq_some_iff] at h
        obtain ⟨elems, hel, h⟩ := h
        rw [Option.map_eq_some_iff] at h
        obtain ⟨rest, hrest, h⟩ := h
        simp only [Prod.mk.injEq] at h
        obtain ⟨rfl, rfl⟩ := h
        have hlen : elems.length = len := by simpa using mapM_some_length hel
        -- one element
        have hone : ∀ (i : Nat) (z : DataW H × List MemPlace), elems[i]? = some z → ∃ vs : List Value, w.cells? 0 (a.add (i * k)) k = some vs ∧ DataW.trod enc P w 0 (fun _ => true) true n e vs = some z := by
          intro i z hz
          have hi : i < len := by rw [← hlen]; exact (List.getElem?_eq_some_iff.1 hz).1
          have := mapM_some_get hel i i (by simp [hi])
          rw [hz] at this
          rw [Option.bind_eq_some_iff] at this
          obtain ⟨vs, h1, h2⟩ := this
          rw [hc] at h1
          exact ⟨vs, h1, h2⟩
        obtain ⟨as, hal, has⟩ := each_of (Q := fun (z : Nat × (DataW H × List MemPlace)) (x : α) => sz x ≤ bulk z.2.1 ∧ inv x ∧ onesL (cells x) ∧ ∃ vs : List Value, w.cells? 0 (a.add (z.1 * k)) k = some vs ∧ ∀ (S : Nat → Prop) (R : Lab), (∀ b, b < w.heap.size → S b) → ∀ (i : Nat) (y : AV), (cells x)[i]? = some y → RepV S R w y (vs.getD i undef)) (elems.zipIdx.map fun p => (p.2, p.1)) (by
          rintro ⟨i, z⟩ hz
          obtain ⟨⟨z', i'⟩, hz', e1⟩ := List.mem_map.1 hz
          cases e1
          obtain ⟨vs, h1, h2⟩ := hone i' z' (by simpa using List.mem_zipIdx_iff_getElem?.1 hz')
          obtain ⟨x, q1, q2, q3, q4, q5⟩ := he H enc w n vs z'.1 z'.2 h2
          exact ⟨x, q1, q2, q4, vs, h1, q5⟩)
        have hal' : as.length = elems.length := by simpa using hal
        have has' : ∀ (i : Nat) (z : DataW H × List MemPlace), elems[i]? = some z → ∃ x, as[i]? = some x ∧ sz x ≤ bulk z.1 ∧ inv x ∧ onesL (cells x) ∧ ∃ vs : List Value, w.cells? 0 (a.add (i * k)) k = some vs ∧ ∀ (S : Nat → Prop) (R : Lab), (∀ b, b < w.heap.size → S b) → ∀ (i : Nat) (y : AV), (cells x)[i]? = some y → RepV S R w y (vs.getD i undef) := by
          intro i z hz
          obtain ⟨x, h1, h2⟩ := has i (i, z) (by simp [List.getElem?_zipIdx, hz])
          exact ⟨x, h1, h2⟩
        have hat : ∀ (i : Nat) (x : α), as[i]? = some x → ∃ z, elems[i]? = some z ∧ sz x ≤ bulk z.1 ∧ inv x ∧ onesL (cells x) ∧ ∃ vs : List Value, w.cells? 0 (a.add (i * k)) k = some vs ∧ ∀ (S : Nat → Prop) (R : Lab), (∀ b, b < w.heap.size → S b) → ∀ (i : Nat) (y : AV), (cells x)[i]? = some y → RepV S R w y (vs.getD i undef) := by
          intro i x hx
          have hi : i < elems.length := by rw [← hal']; exact (List.getElem?_eq_some_iff.1 hx).1
          obtain ⟨x', h1, h2⟩ := has' i elems[i] (List.getElem?_eq_getElem hi)
          rw [hx] at h1
          cases h1
          exact ⟨_, List.getElem?_eq_getElem hi, h2⟩
        refine ⟨as, ?_, fun x hx => ?_, rfl, ones_one rfl, fun S R hS i x hx => ?_⟩
        · have := sum_le (f := sz) (g := bulk) as (elems.map (·.1)) (by simpa using hal') (by
            intro i y hy
            rw [List.getElem?_map, Option.map_eq_some_iff] at hy
            obtain ⟨z, hz, rfl⟩ := hy
            obtain ⟨x, h1, h2, _⟩ := has' i z hz
            exact ⟨x, h1, h2⟩)
          simp only [bulk, bulkAll_sum]
          omega
        · obtain ⟨i, hi⟩ := List.getElem?_of_mem hx
          obtain ⟨z, _, _, h3, _⟩ := hat i x hi
          exact h3
        · refine rep_one ?_ i x hx
          refine hal'.trans hlen ▸ ?_
          refine .sl (F := fun i j => (w.cell? (a.add (i * k + j))).getD undef) (by simp) (by simp; omega) hcm (fun y hy => ?_) (fun hne => ⟨a, rfl, hS _ ?_, fun i y j u hy hu => ?_⟩) (fun y hy u hu => ?_) (fun i y j u hy hu => ?_)
          · obtain ⟨x', _, rfl⟩ := List.mem_map.1 hy
            exact hk x'
          · have hpos : 0 < as.length := List.length_pos_iff.2 (fun h0 => hne (by rw [h0]; rfl))
            obtain ⟨z, _, _, _, _, vs, h6, _⟩ := hat 0 as[0] (List.getElem?_eq_getElem hpos)
            have := World.cells?_block h6 hk0
            rwa [add_block] at this
          · rw [List.getElem?_map, Option.map_eq_some_iff] at hy
            obtain ⟨x', hx', rfl⟩ := hy
            obtain ⟨z, _, _, _, _, vs, h6, _⟩ := hat i x' hx'
            obtain ⟨_, h7, h8⟩ := World.cells?_some h6
            have hj : j < k := by rw [← hk x']; exact (List.getElem?_eq_some_iff.1 hu).1
            have h9 := h8 j hj
            rw [Addr.add_add] at h9
            rw [h9, List.getElem?_eq_getElem (by omega)]
            rfl
          · obtain ⟨x', hx', rfl⟩ := List.mem_map.1 hy
            obtain ⟨i, hi⟩ := List.getElem?_of_mem hx'
            obtain ⟨z, _, _, _, h5, _⟩ := hat i x' hi
            exact h5 u hu
          · rw [List.getElem?_map, Option.map_eq_some_iff] at hy
            obtain ⟨x', hx', rfl⟩ := hy
            obtain ⟨z, _, _, _, _, vs, h6, h10⟩ := hat i x' hx'
            obtain ⟨_, h7, h8⟩ := World.cells?_some h6
            have hj : j < k := by rw [← hk x']; exact (List.getElem?_eq_some_iff.1 hu).1
            have h9 := h8 j hj
            rw [Addr.add_add] at h9
            have := h10 S R hS j u hu
            rwa [h9, ← List.getD_eq_getElem?_getD]
      · simp at h
end Go.Proofs.YtmenbolalghljaaA
