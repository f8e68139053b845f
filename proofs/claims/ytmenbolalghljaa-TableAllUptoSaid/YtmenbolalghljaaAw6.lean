/- Operations that make or write memory. -/
import Derived.Test.YtmenbolalghljaaAw5
set_option linter.unusedVariables false
namespace Go.Proofs.YtmenbolalghljaaA
open Go.RowKit

/-- The cells of a value. -/
def AV.cells : AV → List AV
  | .agg cs => cs
  | x => [x]

theorem rep_cells {S : Nat → Prop} {R : Lab} {w : World} {x : AV} {v : Value} (h : RepV S R w x v) (h1 : x.one = true ∨ ∃ cs, x = .agg cs) : v.cells.size = x.cells.length ∧ ∀ (i : Nat) (y : AV), x.cells[i]? = some y → RepV S R w y (v.cells.getD i undef) := by
  rcases h1 with h1 | ⟨cs, rfl⟩
  · have hc : v.cells = #[v] := by
      have := h.one h1
      cases v <;> simp_all [Value.cells, Value.oneCell']
    have hx : x.cells = [x] := by cases x <;> simp_all [AV.cells, AV.one]
    rw [hc, hx]
    refine ⟨rfl, fun i y hy => ?_⟩
    match i, hy with
    | 0, hy => cases hy; simpa using h
  · cases h with
    | agg hl hf => exact ⟨by simpa [Value.cells, AV.cells] using hl, fun i y hy => by simpa [Value.cells] using hf i y hy⟩

/-- What may be laid into cells: its cells each fit one cell. -/
def AV.lies (x : AV) : Prop := (x.one = true ∨ ∃ cs, x = .agg cs) ∧ ∀ y, y ∈ x.cells → y.one = true

def liesB : AV → Bool
  | .agg cs => cs.all (·.one)
  | x => x.one

theorem lies_of {x : AV} (h : liesB x = true) : x.lies := by
  cases x <;> first
    | exact ⟨.inl h, fun y hy => by simp only [AV.cells, List.mem_singleton] at hy; subst hy; exact h⟩
    | exact ⟨.inr ⟨_, rfl⟩, fun y hy => List.all_eq_true.1 h y hy⟩
    | cases h

def bindL (R : Lab) (l : Nat) (q : Option Blk) : Lab := fun m => if m = l then some q else R m

theorem bindL_same {R : Lab} {l : Nat} {q : Option Blk} : bindL R l q l = some q := by simp [bindL]
theorem bindL_mono {R : Lab} {l : Nat} {q : Option Blk} (h : R l = none) : ∀ m p, R m = some p → bindL R l q m = some p := fun m p hm => by
  unfold bindL
  split
  · subst_vars; rw [h] at hm; cases hm
  · exact hm
theorem bindL_top {R : Lab} {l : Nat} {q : Option Blk} (h : ∃ N, ∀ m, N ≤ m → R m = none) : ∃ N, ∀ m, N ≤ m → bindL R l q m = none := by
  obtain ⟨N, hN⟩ := h
  refine ⟨N + l + 1, fun m hm => ?_⟩
  unfold bindL
  rw [if_neg (by omega)]
  exact hN m (by omega)

section
variable {P : Program} {st : St} {dst : Option Tmp} {ty : TypeId} {pos : String} {after : Array Edge} {g : Option (Nat × Bool)}

theorem alloc_heap (w : World) (o : Obj) : (w.alloc o).heap = w.heap.push o := rfl

/-- One token over a fresh block. -/
theorem fresh_row {S : Nat → Prop} {R : Lab} {w : World} {N : Nat} (hN : R N = none) (htop : ∃ N, ∀ m, N ≤ m → R m = none) (hlow : ∀ b, S b → b < w.heap.size) {w1 : World} (hw1 : Below w.heap.size w w1) (hs1 : w1.heap.size = w.heap.size) {cur : Array Value} {e : TypeId} {k t : Nat} {xs : List (List AV)} (hc : cur.size = t * k) (ht : xs.length ≤ t) (hm : t ≤ maxLen)
    (hr : ∀ (i : Nat) (x : List AV), xs[i]? = some x → x.length = k ∧ ∀ (j : Nat) (y : AV), x[j]? = some y → y.one = true ∧ ∃ u, cur[i * k + j]? = some u ∧ RepV S R w y u) :
    Holds S (bindL R N (some ⟨w.heap.size, 0, k, t⟩)) (w1.alloc (.cells cur e)) [(N, .row e k xs)] ∧ Out w S R (Foot R []) (fun l => ∃ t, (l, t) ∈ ([] : List (Nat × Tok))) S (bindL R N (some ⟨w.heap.size, 0, k, t⟩)) (w1.alloc (.cells cur e)) [(N, .row e k xs)] := by
  have hfoot : ∀ g, Foot (bindL R N (some ⟨w.heap.size, 0, k, t⟩)) [(N, .row e k xs)] g → g = w.heap.size := by
    rintro g ⟨l, t', hm', hg⟩
    simp at hm'
    obtain ⟨rfl, rfl⟩ := hm'
    simp [blkOf, bindL] at hg
    exact hg.symm
  have hsz : (w1.alloc (.cells cur e)).heap.size = w.heap.size + 1 := by simp [hs1]
  have hb : ∀ b, b < w.heap.size → (w1.alloc (.cells cur e)).heap[b]? = w.heap[b]? := fun b hb => (Below.heap_alloc _ _ _ (by omega)).trans (hw1.block b hb)
  refine ⟨⟨bindL_top htop, by simp, ?_, ?_, fun b hb => by rw [hsz]; have := hlow b hb; omega⟩, ?_⟩
  · intro l t' hm'
    simp at hm'
    obtain ⟨rfl, rfl⟩ := hm'
    simp only [TokHolds, bindL_same]
    refine ⟨trivial, cur, (0, 0), ?_, .inr rfl, hc, by simpa using ht, hm, fun i x hx => ⟨(hr i x hx).1, fun j y hy => ?_⟩⟩
    · show (w1.heap.push (.cells cur e))[w.heap.size]? = _
      rw [← hs1]; simp
    · obtain ⟨h1, u, hu, hrep⟩ := (hr i x hx).2 j y hy
      exact ⟨h1, u, by simpa using hu, hrep.mono (fun _ h => h) (bindL_mono hN) (fun b hb' => hb b (hlow b hb'))⟩
  · intro g hg hs
    have := hfoot g hg
    have := hlow g hs
    omega
  · refine ⟨hw1.os, hw1.tape, hw1.output, by rw [hsz]; omega, fun b hb' _ => hb b hb', fun _ h => h, fun _ h => .inl h, bindL_mono hN, fun g hg => .inr (by rw [hfoot g hg]; exact Nat.le_refl _), fun l t' hm' => ?_⟩
    simp at hm'
    exact .inr (by rw [hm'.1]; exact hN)

theorem Holds.free {S : Nat → Prop} {R : Lab} {w : World} {ts : List (Nat × Tok)} (h : Holds S R w ts) : ∃ N, R N = none := by
  obtain ⟨N, hN⟩ := h.top
  exact ⟨N, hN N (Nat.le_refl _)⟩

theorem eff_newVar {o : Oper} {t : TypeId} {x : AV} (hl : x.lies) (h : ∀ S R a w, Holds S R w [] → OpsAt S R w st a o.op → ∃ v, RepV S R w x v ∧ (execOp a.eval o).run P w = .ok (.value (.pointer (some ⟨w.heap.size, 0, none⟩))) (w.alloc (.cells v.cells t))) :
    OpEff P o st [] (fun ts r => ∃ l, ts = [(l, .row t x.cells.length [x.cells])] ∧ r = .ptr l 0 0) := by
  refine ⟨?_⟩
  intro S R a w hh ho next Q hk
  obtain ⟨N, hN⟩ := hh.free
  obtain ⟨v, hv, hrun⟩ := h S R a w hh ho
  obtain ⟨hsz, hrep⟩ := rep_cells hv hl.1
  have hf := fresh_row (e := t) hN hh.top hh.low (Below.refl _ w) rfl (cur := v.cells) (k := x.cells.length) (t := 1) (xs := [x.cells]) (by simpa using hsz) (by simp) (by simp [maxLen]) (fun i y hy => by
    match i, hy with
    | 0, hy =>
      cases hy
      refine ⟨rfl, fun j z hz => ⟨hl.2 z (List.mem_of_getElem? hz), v.cells.getD j undef, ?_, hrep j z hz⟩⟩
      have hj : j < v.cells.size := by rw [hsz]; exact (List.getElem?_eq_some_iff.1 hz).1
      simp [hj])
  unfold Oper.wp
  rw [hrun]
  have hp : RepV S (bindL R N (some ⟨w.heap.size, 0, x.cells.length, 1⟩)) (w.alloc (.cells v.cells t)) (.ptr N 0 0) (.pointer (some ⟨w.heap.size, 0, none⟩)) := by
    have := RepV.ptr (S := S) (w := w.alloc (.cells v.cells t)) (l := N) (i := 0) (j := 0) (bindL_same (R := R) (q := some ⟨w.heap.size, 0, x.cells.length, 1⟩))
    simpa using this
  exact hk _ _ S _ _ _ ⟨N, rfl, rfl⟩ hf.1 hp hf.2

theorem eff_box {t : TypeId} {x : Operand} {y : AV} (hx : st.get x = some y) (hl : y.lies) : OpEff P ⟨dst, .box t x, ty, pos, after, g⟩ st [] (fun ts r => ∃ l, ts = [(l, .row t y.cells.length [y.cells])] ∧ r = .ptr l 0 0) :=
  eff_newVar hl fun S R a w hh ho => ⟨a.eval x, ho x (by simp [Op.operands]) y hx, by simp [execOp, Instr.box, newVar, newRow]⟩

/-- The cells of a plain value. -/
def vcells (v : Value) : List AV := v.cells.toList.map .val

theorem eff_alloc {t : TypeId} {z : Value} {k b : Nat} [he : ElF P t z k b] : OpEff P ⟨dst, .alloc t, ty, pos, after, g⟩ st [] (fun ts r => ∃ l, ts = [(l, .row t k [vcells z])] ∧ r = .ptr l 0 0) := by
  obtain ⟨i, hi, hz, hsz, hb, hzc, hall⟩ := he.h
  have hlen : (AV.agg (vcells z)).cells.length = k := by simp [AV.cells, vcells, hzc]
  have := eff_newVar (P := P) (st := st) (o := ⟨dst, .alloc t, ty, pos, after, g⟩) (t := t) (x := .agg (vcells z)) ⟨.inr ⟨_, rfl⟩, fun y hy => by
      simp only [AV.cells, vcells, List.mem_map] at hy
      obtain ⟨u, hu, rfl⟩ := hy
      exact List.all_eq_true.1 hall u hu⟩
    (fun S R a w hh ho => ⟨.agg z.cells, .agg (by simp [vcells]) (fun i y hy => by
      simp only [vcells, List.getElem?_map, Option.map_eq_some_iff] at hy
      obtain ⟨u, hu, rfl⟩ := hy
      have : z.cells.getD i undef = u := by
        simp only [Array.getElem?_toList] at hu
        simp [Array.getD_eq_getD_getElem?, hu]
      rw [this]; exact .val _), by simp [execOp, Instr.alloc, ElF.zero (P := P) (t := t), newVar, newRow, Value.cells]⟩)
  have hlen' : (vcells z).length = k := hlen
  simpa [AV.cells, hlen'] using this

/-! stores -/
/-- A row with a piece laid over it. -/
def seg (cur : Array Value) (o : Nat) (vs : List Value) : Array Value := (cur.toList.take o ++ vs ++ cur.toList.drop (o + vs.length)).toArray

theorem seg_size {cur : Array Value} {o : Nat} {vs : List Value} (h : o + vs.length ≤ cur.size) : (seg cur o vs).size = cur.size := by
  simp only [seg, List.size_toArray, List.length_append, List.length_take, List.length_drop, Array.length_toList]
  omega
theorem seg_get {cur : Array Value} {o : Nat} {vs : List Value} (h : o + vs.length ≤ cur.size) (m : Nat) : (seg cur o vs)[m]? = if m < o then cur[m]? else if m < o + vs.length then vs[m - o]? else cur[m]? := by
  simp only [seg, List.getElem?_toArray, List.append_assoc, List.getElem?_append, List.length_take, Array.length_toList]
  by_cases h1 : m < o
  · rw [if_pos (by omega), if_pos h1, List.getElem?_take, if_pos h1, Array.getElem?_toList]
  · rw [if_neg (by omega), if_neg h1]
    by_cases h2 : m < o + vs.length
    · rw [if_pos (by omega), if_pos h2]
      congr 1; omega
    · rw [if_neg (by omega), if_neg h2, List.getElem?_drop, Array.getElem?_toList]
      congr 1; omega
theorem seg_cons {cur : Array Value} {o : Nat} {v : Value} {vs : List Value} (h : o + (vs.length + 1) ≤ cur.size) : seg (cur.setIfInBounds o v) (o + 1) vs = seg cur o (v :: vs) := by
  apply Array.ext_getElem?
  intro m
  rw [seg_get (by simpa using (by omega)), seg_get (by simpa using h)]
  simp only [List.length_cons]
  by_cases h1 : m < o
  · rw [if_pos (by omega), if_pos h1, Array.getElem?_setIfInBounds_ne (by omega)]
  · rw [if_neg h1]
    by_cases h2 : m = o
    · subst h2
      rw [if_pos (by omega), if_pos (by omega), Array.getElem?_setIfInBounds_self_of_lt (by omega)]
      simp
    · rw [if_neg (by omega)]
      by_cases h3 : m < o + 1 + vs.length
      · rw [if_pos h3, if_pos (by omega)]
        have : m - o = (m - (o + 1)) + 1 := by omega
        rw [this]; simp
      · rw [if_neg h3, if_neg (by omega), Array.getElem?_setIfInBounds_ne (by omega)]

theorem run_storeCells_seg (P : Program) (g : Nat) (t : TypeId) (fr : Nat × Nat) : ∀ (vs : List Value) (o i : Nat) (cur : Array Value) (w : World), w.heap[g]? = some (.cells cur t fr) → (cur.size ≤ fr.1 ∨ fr = (0, 0)) → o + i + vs.length ≤ cur.size → (∀ v ∈ vs, v.oneCell' = true) →
    (storeCells ⟨g, o, none⟩ vs i).run P w = .ok () (w.setRow g (seg cur (o + i) vs))
  | [], o, i, cur, w, hg, _, _, _ => by
    have : seg cur (o + i) [] = cur := by simp [seg]
    rw [this, setRow_self w g cur t fr hg]
    simp [storeCells]
  | v :: vs, o, i, cur, w, hg, hfr, hl, h1 => by
    simp only [List.length_cons] at hl
    have hi : o + i < cur.size := by omega
    have hfro : w.frozen? ⟨g, o + i, none⟩ = false := by
      rcases hfr with h | h
      · simp [World.frozen?, hg]; omega
      · simp [World.frozen?, hg, h]
    have hst : (store ((⟨g, o, none⟩ : Addr).add i) v).run P w = .ok () (w.setRow g (cur.setIfInBounds (o + i) v)) := by
      rw [add_mk, run_store P w _ v _ (h1 v (by simp)), cell_of_row w g _ cur t fr hg, Array.getElem?_eq_getElem hi]
      simp [hfro, setCell_eq_setRow w g (o + i) cur t fr v hg]
    have ih := run_storeCells_seg P g t fr vs o (i + 1) (cur.setIfInBounds (o + i) v) (w.setRow g (cur.setIfInBounds (o + i) v)) (setRow_heap w g cur _ t _ hg) (by simpa using hfr) (by simp; omega) (fun x hx => h1 x (by simp [hx]))
    simp only [storeCells, Sem.run_bind, hst, Result.andThen_ok, ih, setRow_setRow]
    rw [← Nat.add_assoc, seg_cons (by omega)]

def putCells (cs : List AV) (j : Nat) (ys : List AV) : List AV := cs.take j ++ ys ++ cs.drop (j + ys.length)

theorem eff_store {t e : TypeId} {p x : Operand} {y : AV} {l i j k kt b : Nat} {z : Value} {xs : List (List AV)} {cs : List AV} [he : ElF P t z kt b] (hp : st.get p = some (.ptr l i j)) (hx : st.get x = some y) (hl : y.lies) (hcs : xs[i]? = some cs) (hk : y.cells.length = kt) (hj : j + kt ≤ cs.length) :
    OpEff P ⟨dst, .store t p x, ty, pos, after, g⟩ st [(l, .row e k xs)] (fun ts r => ts = [(l, .row e k (xs.set i (putCells cs j y.cells)))] ∧ r = .dead) := by
  refine ⟨?_⟩
  intro S R a w hh ho next Q hkk
  have hpv := ho p (by simp [Op.operands]) _ hp
  have hxv := ho x (by simp [Op.operands]) _ hx
  have htok := hh.tok l _ (List.mem_cons_self)
  obtain ⟨hsz, hrep⟩ := rep_cells hxv hl.1
  generalize hv : a.eval p = v at hpv
  cases hpv with
  | ptr h =>
    rename_i q
    simp only [TokHolds, h] at htok
    obtain ⟨rfl, cur, fr, hg, hfr, hcur, hb, hm, hrow⟩ := htok
    have hlen := (hrow i cs hcs).1
    have hi : i < xs.length := (List.getElem?_eq_some_iff.1 hcs).1
    have hfit : (q.b + i) * q.k + q.k ≤ cur.size := by
      rw [hcur]
      calc (q.b + i) * q.k + q.k = (q.b + i + 1) * q.k := by rw [Nat.add_mul, Nat.add_mul, Nat.add_mul]; omega
        _ ≤ q.t * q.k := Nat.mul_le_mul_right _ (by omega)
    have hvl : (a.eval x).cells.toList.length = kt := by rw [Array.length_toList, hsz, hk]
    have hfit' : (q.b + i) * q.k + j + (a.eval x).cells.toList.length ≤ cur.size := by omega
    have hst := run_storeCells_seg P q.g e fr (a.eval x).cells.toList ((q.b + i) * q.k + j) 0 cur w hg hfr (by simpa using hfit') (fun v hv' => by
      obtain ⟨m, hm', he'⟩ := List.mem_iff_getElem.1 hv'
      rw [Array.length_toList] at hm'
      have hmy : m < y.cells.length := by omega
      have hr := hrep m _ (List.getElem?_eq_getElem hmy)
      have : (a.eval x).cells.getD m undef = v := by simpa [hm'] using he'
      rw [this] at hr
      exact hr.one (hl.2 _ (List.getElem_mem hmy)))
    simp only [Nat.add_zero] at hst
    have hrun : (execOp a.eval ⟨dst, .store t p x, ty, pos, after, g⟩).run P w = .ok .skip (w.setRow q.g (seg cur ((q.b + i) * q.k + j) (a.eval x).cells.toList)) := by
      have hsz' : (a.eval x).cells.size = kt := by omega
      simp [execOp, Instr.storeAt, hv, Instr.sureAddr, storeVar, ElF.size (P := P) (t := t), hsz', hst]
    unfold Oper.wp
    rw [hrun]
    have hlow : ∀ b, S b → (w.setRow q.g (seg cur ((q.b + i) * q.k + j) (a.eval x).cells.toList)).heap[b]? = w.heap[b]? := fun b hb => by
      rw [setRow_other]
      rintro rfl
      exact hh.notS q.g ⟨l, _, List.mem_cons_self, by simp [blkOf, h]⟩ hb
    have hfoot : ∀ (xs' : List (List AV)) g, Foot R [(l, .row e q.k xs')] g → g = q.g := by
      rintro xs' g ⟨l', t', hm', hg'⟩
      simp at hm'
      obtain ⟨rfl, rfl⟩ := hm'
      simp [blkOf, h] at hg'
      exact hg'.symm
    refine hkk undef .dead S R _ _ ⟨rfl, rfl⟩ ⟨hh.top, by simp, ?_, ?_, fun b hb => by simpa using hh.low b hb⟩ (.dead _) ⟨rfl, rfl, rfl, by simp, fun b hb hf => ?_, fun _ h => h, fun _ h => .inl h, fun _ _ h => h, fun g hg' => .inl ?_, fun l' t' hm' => .inl ?_⟩
    · intro l' t' hm'
      simp at hm'
      obtain ⟨rfl, rfl⟩ := hm'
      simp only [TokHolds, h]
      refine ⟨trivial, _, fr, setRow_heap w q.g cur _ e _ hg, by rw [seg_size hfit']; exact hfr, by rw [seg_size hfit']; exact hcur, by simpa using hb, hm, ?_⟩
      · intro i' x' hx'
        have hput : (putCells cs j y.cells).length = q.k := by
          simp only [putCells, List.length_append, List.length_take, List.length_drop]
          omega
        have hcellpos := seg_get hfit'
        rw [hvl] at hcellpos
        by_cases hii : i' = i
        · subst hii
          rw [List.getElem?_set_self hi] at hx'
          cases hx'
          refine ⟨hput, fun m u hu => ?_⟩
          have hmk : m < q.k := by rw [← hput]; exact (List.getElem?_eq_some_iff.1 hu).1
          rw [hcellpos]
          simp only [putCells, List.append_assoc, List.getElem?_append, List.length_take] at hu
          by_cases h1 : m < j
          · rw [if_pos (by omega), List.getElem?_take, if_pos h1] at hu
            obtain ⟨h1', u', hu', hr'⟩ := (hrow _ cs hcs).2 m u hu
            exact ⟨h1', u', by rw [if_pos (by omega)]; exact hu', hr'.mono (fun _ h => h) (fun _ _ h => h) hlow⟩
          · rw [if_neg (by omega)] at hu
            have hmin : min j cs.length = j := by omega
            rw [hmin] at hu
            by_cases h2 : m < j + kt
            · rw [if_pos (by omega)] at hu
              refine ⟨hl.2 u (List.mem_of_getElem? hu), (a.eval x).cells.getD (m - j) undef, ?_, (hrep _ u hu).mono (fun _ h => h) (fun _ _ h => h) hlow⟩
              rw [if_neg (by omega), if_pos (by omega)]
              have hlt : m - j < (a.eval x).cells.size := by omega
              have : (q.b + i') * q.k + m - ((q.b + i') * q.k + j) = m - j := by omega
              rw [this]
              simp [hlt]
            · rw [if_neg (by omega), List.getElem?_drop] at hu
              have e1 : j + y.cells.length + (m - j - y.cells.length) = m := by omega
              rw [e1] at hu
              obtain ⟨h1', u', hu', hr'⟩ := (hrow _ cs hcs).2 m u hu
              exact ⟨h1', u', by rw [if_neg (by omega), if_neg (by omega)]; exact hu', hr'.mono (fun _ h => h) (fun _ _ h => h) hlow⟩
        · rw [List.getElem?_set_ne (fun e => hii e.symm)] at hx'
          refine ⟨(hrow i' x' hx').1, fun m u hu => ?_⟩
          obtain ⟨h1', u', hu', hr'⟩ := (hrow i' x' hx').2 m u hu
          refine ⟨h1', u', ?_, hr'.mono (fun _ h => h) (fun _ _ h => h) hlow⟩
          have hmk : m < q.k := by rw [← (hrow i' x' hx').1]; exact (List.getElem?_eq_some_iff.1 hu).1
          rw [hcellpos]
          rcases Nat.lt_or_gt_of_ne hii with h3 | h3
          · have : (q.b + i') * q.k + q.k ≤ (q.b + i) * q.k := by
              calc (q.b + i') * q.k + q.k = (q.b + i' + 1) * q.k := by rw [Nat.add_mul (q.b + i') 1]; omega
                _ ≤ (q.b + i) * q.k := Nat.mul_le_mul_right _ (by omega)
            rw [if_pos (by omega)]; exact hu'
          · have : (q.b + i) * q.k + q.k ≤ (q.b + i') * q.k := by
              calc (q.b + i) * q.k + q.k = (q.b + i + 1) * q.k := by rw [Nat.add_mul (q.b + i) 1]; omega
                _ ≤ (q.b + i') * q.k := Nat.mul_le_mul_right _ (by omega)
            rw [if_neg (by omega), if_neg (by omega)]; exact hu'
    · intro g' hg' hs
      have e1 := hfoot _ g' hg'
      subst e1
      exact hh.notS _ ⟨l, _, List.mem_cons_self, by simp [blkOf, h]⟩ hs
    · rw [setRow_other]
      rintro rfl
      exact hf ⟨l, _, List.mem_cons_self, by simp [blkOf, h]⟩
    · have e1 := hfoot _ g hg'
      subst e1
      exact ⟨l, _, List.mem_cons_self, by simp [blkOf, h]⟩
    · simp at hm'
      exact ⟨_, by rw [hm'.1]; exact List.mem_cons_self⟩
end

end Go.Proofs.YtmenbolalghljaaA
