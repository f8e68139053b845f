/- Slices, literals, appends. -/
import Derived.Test.YtmenbolalghljaaAw7
set_option linter.unusedVariables false
namespace Go.Proofs.YtmenbolalghljaaA
open Go.RowKit

/-- A slice expression's bounds. -/
inductive LoB (st : St) : Option Operand → Nat → Prop
  | none : LoB st none 0
  | some {x : Operand} {k : IntKind} {l : Nat} (h : st.get x = some (.val (.int k (l : Nat)))) : LoB st (some x) l
inductive HiB (st : St) (len : Nat) : Option Operand → Nat → Prop
  | none : HiB st len none len
  | some {x : Operand} {k : IntKind} {l : Nat} (h : st.get x = some (.val (.int k (l : Nat)))) : HiB st len (some x) l

theorem run_sliceBound {P : Program} {k : IntKind} {l y : Nat} {c : BoundsCode} (h : l ≤ y) (w : World) : (Instr.sliceBound (.int k (l : Nat)) y c).run P w = .ok l w := by
  have h0 : (0 : Int) ≤ (l : Int) ∧ (l : Int) ≤ (y : Int) := by omega
  simp only [Instr.sliceBound, asIntOf, Sem.run_bind, Sem.run_pure, Result.andThen_ok]
  rw [if_pos h0]
  simp

section
variable {P : Program} {st : St} {dst : Option Tmp} {ty : TypeId} {pos : String} {after : Array Edge} {g : Option (Nat × Bool)}

theorem run_bounds {S : Nat → Prop} {R : Lab} {w : World} {a : Act} {b : Bool} {len cap l h : Nat} {lo hi : Option Operand} (hl : LoB st lo l) (hh : HiB st len hi h) (h1 : l ≤ h) (h2 : h ≤ cap) (ho : ∀ x, (lo = some x ∨ hi = some x) → ∀ y, st.get x = some y → RepV S R w y (a.eval x)) :
    (Instr.sliceBounds b len cap (lo.map a.eval) (hi.map a.eval) none).run P w = .ok (l, h, cap) w := by
  cases hl with
  | none =>
    cases hh with
    | none => simp [Instr.sliceBounds]
    | some hx =>
      rename_i x k
      have := rep_val (ho x (.inr rfl) _ hx)
      simp [Instr.sliceBounds, this, run_sliceBound h2]
  | some hx =>
    rename_i x k
    have e1 := rep_val (ho x (.inl rfl) _ hx)
    cases hh with
    | none => simp [Instr.sliceBounds, e1, run_sliceBound h1]
    | some hy =>
      rename_i z k'
      have e2 := rep_val (ho z (.inr rfl) _ hy)
      simp [Instr.sliceBounds, e1, e2, run_sliceBound h1, run_sliceBound h2]

theorem slice_ops {t : TypeId} {x : Operand} {lo hi : Option Operand} {S : Nat → Prop} {R : Lab} {w : World} {a : Act} (ho : OpsAt S R w st a (.slice t x lo hi none)) : (∀ y, st.get x = some y → RepV S R w y (a.eval x)) ∧ ∀ z, (lo = some z ∨ hi = some z) → ∀ y, st.get z = some y → RepV S R w y (a.eval z) :=
  ⟨fun y hy => ho x (by simp [Op.operands]) y hy, fun z hz y hy => ho z (by rcases hz with rfl | rfl <;> simp [Op.operands]) y hy⟩

theorem ev_slice_str {t : TypeId} {x : Operand} {lo hi : Option Operand} {s : ByteArray} {l h : Nat} [hu : Und P t .string] (hx : st.get x = some (.val (.string s))) (hl : LoB st lo l) (hh : HiB st s.size hi h) (h1 : l ≤ h) (h2 : h ≤ s.size) :
    OpEv P ⟨dst, .slice t x lo hi none, ty, pos, after, g⟩ st (.val (.string (s.extract l h))) :=
  ev_same fun S R a w _ ho => by
    obtain ⟨ho1, ho2⟩ := slice_ops ho
    have e := rep_val (ho1 _ hx)
    have hb := run_bounds (P := P) (b := false) hl hh h1 h2 ho2
    exact ⟨_, by simp [execOp, Instr.sliceAt, run_underlying hu.h, Instr.slice, e, hb], .val _⟩

theorem ev_slice_sl {t e : TypeId} {x : Operand} {lo hi : Option Operand} {k n l h b : Nat} {z : Value} {xs : List (List AV)} [hu : Und P t (.slice e)] [he : ElF P e z k b] (hx : st.get x = some (.sl k xs n)) (hl : LoB st lo l) (hh : HiB st n hi h) (h1 : l ≤ h) (h2 : h ≤ xs.length) :
    OpEv P ⟨dst, .slice t x lo hi none, ty, pos, after, g⟩ st (.sl k (xs.drop l) (h - l)) :=
  ev_same fun S R a w _ ho => by
    obtain ⟨ho1, ho2⟩ := slice_ops ho
    have hr := ho1 _ hx
    generalize hv : a.eval x = v at hr
    cases hr with
    | sl hn hc hm hk ha h1' hF =>
      rename_i c ad F
      have hb := run_bounds (P := P) (b := true) hl hh h1 (Nat.le_trans h2 hc) ho2
      refine ⟨.slice (if c = l then ad else ad.map (·.add (l * k))) (h - l) (c - l), ?_, .sl (F := fun i j => F (l + i) j) (by simp; omega) (by simp; omega) (by omega) (fun y hy => hk y (List.mem_of_mem_drop hy)) (fun hne => ?_) (fun y hy => h1' y (List.mem_of_mem_drop hy)) (fun i y j u hy hu' => hF _ y j u (by rwa [List.getElem?_drop] at hy) hu')⟩
      · simp [execOp, Instr.sliceAt, run_underlying hu.h, Instr.slice, hv, hb, ElF.size (P := P) (t := e)]
      · have hlt : l < xs.length := by
          rcases Nat.lt_or_ge l xs.length with h3 | h3
          · exact h3
          · exact absurd (List.drop_eq_nil_of_le h3) hne
        obtain ⟨ad', rfl, hS, hcell⟩ := ha (by intro e0; subst e0; simp at hlt)
        refine ⟨ad'.add (l * k), by rw [if_neg (by omega)]; rfl, by rw [add_block]; exact hS, fun i y j u hy hu' => ?_⟩
        rw [add_add, show l * k + (i * k + j) = (l + i) * k + j by rw [Nat.add_mul, Nat.add_assoc]]
        exact hcell _ y j u (by rwa [List.getElem?_drop] at hy) hu'

theorem ev_slice_own {t e e' : TypeId} {x : Operand} {lo hi : Option Operand} {k n l h b lab off : Nat} {z : Value} {xs : List (List AV)} {r : List (Nat × Tok)} [hu : Und P t (.slice e)] [he : ElF P e z k b] (hx : st.get x = some (.own lab off n)) (ht : Take st.toks lab (.row e' k xs) r) (hl : LoB st lo l) (hh : HiB st n hi h) (h1 : l ≤ h) (h2 : off + h ≤ xs.length) :
    OpEv P ⟨dst, .slice t x lo hi none, ty, pos, after, g⟩ st (.own lab (off + l) (h - l)) :=
  ev_same fun S R a w hh' ho => by
    obtain ⟨ho1, ho2⟩ := slice_ops ho
    have hr := ho1 _ hx
    have htok := hh'.tok lab _ (ht.perm.mem_iff.2 (List.mem_cons_self))
    generalize hv : a.eval x = v at hr
    cases hr with
    | own hlab hn hm hT ha hs =>
      rename_i c q ad
      simp only [TokHolds, hlab] at htok
      obtain ⟨hk, cur, fr, hg, hfr, hcur, hb, hmt, hrow⟩ := htok
      have hb' := run_bounds (P := P) (b := true) hl hh h1 (by omega : h ≤ c) ho2
      obtain ⟨ad', rfl, hbk⟩ := hs
      refine ⟨.slice (if c = l then some ad' else (some ad').map (·.add (l * k))) (h - l) (c - l), ?_, .own hlab (by omega) (by omega) (by omega) ?_ ?_⟩
      · simp [execOp, Instr.sliceAt, run_underlying hu.h, Instr.slice, hv, hb', ElF.size (P := P) (t := e)]
      · by_cases hcl : c = l
        · exact .inl (by omega)
        · refine .inr ?_
          rw [if_neg hcl]
          rcases ha with h3 | h3
          · omega
          · cases h3
            simp [add_mk, hk, Nat.add_mul, Nat.add_assoc]
      · by_cases hcl : c = l
        · exact ⟨ad', by rw [if_pos hcl], hbk⟩
        · exact ⟨_, by rw [if_neg hcl]; rfl, by rw [add_block]; exact hbk⟩
    | onil hlab =>
      simp only [TokHolds, hlab] at htok
      subst htok
      simp at h2
      obtain ⟨rfl, rfl⟩ : h = 0 ∧ l = 0 := by omega
      have hb' := run_bounds (P := P) (len := 0) (cap := 0) (b := true) hl hh h1 (Nat.le_refl _) ho2
      exact ⟨.slice none 0 0, by simp [execOp, Instr.sliceAt, run_underlying hu.h, Instr.slice, hv, hb', ElF.size (P := P) (t := e)], .onil hlab⟩

theorem ev_index_str {t : TypeId} {x ix : Operand} {ki : IntKind} {s : ByteArray} {i : Nat} [hu : Und P t .string] (hx : st.get x = some (.val (.string s))) (hi : st.get ix = some (.val (.int ki (i : Nat)))) (h : i < s.size) :
    OpEv P ⟨dst, .index t x ix, ty, pos, after, g⟩ st (.val (.int .u8 (byteAt s i))) :=
  ev_same fun S R a w _ ho => by
    have e1 := rep_val (ho x (by simp [Op.operands]) _ hx)
    have e2 := rep_val (ho ix (by simp [Op.operands]) _ hi)
    refine ⟨.int .u8 (byteAt s i), ?_, .val _⟩
    simp [execOp, Instr.index, e1, e2, asIntOf, run_underlying hu.h, h, byteAt]
    rfl

/-! ### Function values -/
theorem ev_makeFunc {f : FuncId} {xs : List Operand} {ys : List AV} (hx : gets st xs = some ys) : OpEv P ⟨dst, .makeFunc (.func f) #[] xs.toArray, ty, pos, after, g⟩ st (.fn f ys) :=
  ev_same fun S R a w _ ho => by
    have hr := gets_reps (S := S) (R := R) (w := w) (a := a) hx (fun z hz => ho z (by simp [Op.operands, hz]))
    refine ⟨.func (.func f) #[] (xs.map a.eval).toArray, by simp [execOp, Instr.makeFunc], .fn (by simpa using hr.1) (fun i y hy => by simpa using hr.2 i y hy)⟩

/-! ### Literals -/
def fillAV (place : Nat → Option (Nat × Nat)) : List AV → List (Nat × AV) → Option (List AV)
  | cs, [] => some cs
  | cs, (i, x) :: rest => match place i with
    | none => none
    | some (off, size) => bif Nat.beq x.cells.length size && Nat.ble (off + size) cs.length then fillAV place (putCells cs off x.cells) rest else none

def getParts (st : St) : List (Nat × Operand) → Option (List (Nat × AV))
  | [] => some []
  | (i, x) :: r => match st.get x, getParts st r with
    | some y, some ys => some ((i, y) :: ys)
    | _, _ => none

/-- Cells as values. -/
def RepC (S : Nat → Prop) (R : Lab) (w : World) (cs : List AV) (vs : Array Value) : Prop := vs.size = cs.length ∧ ∀ (i : Nat) (y : AV), cs[i]? = some y → RepV S R w y (vs.getD i undef)

theorem fold_set (us : List Value) : ∀ (vs : Array Value) (off m : Nat), off + m + us.length ≤ vs.size → (us.zipIdx m).foldl (fun cs (p : Value × Nat) => cs.setIfInBounds (off + p.2) p.1) vs = seg vs (off + m) us := by
  induction us with
  | nil => intro vs off m _; simp [seg]
  | cons u us ih =>
    intro vs off m h
    simp only [List.length_cons] at h
    rw [List.zipIdx_cons, List.foldl_cons, ih _ _ _ (by simp; omega), ← Nat.add_assoc, seg_cons (by omega)]

theorem repc_put {S : Nat → Prop} {R : Lab} {w : World} {cs ys : List AV} {vs us : Array Value} {off : Nat} (h : RepC S R w cs vs) (hy : RepC S R w ys us) (hf : off + ys.length ≤ cs.length) : RepC S R w (putCells cs off ys) (seg vs off us.toList) := by
  have hl : us.toList.length = ys.length := by rw [Array.length_toList, hy.1]
  have hfit : off + us.toList.length ≤ vs.size := by rw [hl, h.1]; exact hf
  refine ⟨?_, fun i y hi => ?_⟩
  · rw [seg_size hfit, h.1]
    simp only [putCells, List.length_append, List.length_take, List.length_drop]
    omega
  · rw [Array.getD_eq_getD_getElem?, seg_get hfit, hl]
    simp only [putCells, List.append_assoc, List.getElem?_append, List.length_take] at hi
    have hmin : min off cs.length = off := by omega
    rw [hmin] at hi
    by_cases h1 : i < off
    · rw [if_pos h1, List.getElem?_take, if_pos h1] at hi
      rw [if_pos h1, ← Array.getD_eq_getD_getElem?]
      exact h.2 i y hi
    · rw [if_neg h1] at hi
      rw [if_neg h1]
      by_cases h2 : i < off + ys.length
      · rw [if_pos (by omega)] at hi
        rw [if_pos h2]
        have := hy.2 _ y hi
        rw [Array.getD_eq_getD_getElem?] at this
        rwa [Array.getElem?_toList]
      · rw [if_neg (by omega), List.getElem?_drop] at hi
        rw [if_neg h2, ← Array.getD_eq_getD_getElem?]
        have e1 : off + ys.length + (i - off - ys.length) = i := by omega
        rw [e1] at hi
        exact h.2 i y hi

theorem fill_rep {S : Nat → Prop} {R : Lab} {w : World} {a : Act} {place : Nat → Option (Nat × Nat)} : ∀ {parts : List (Nat × Operand)} {ps : List (Nat × AV)} {cs ds : List AV} {vs : Array Value}, getParts st parts = some ps → (∀ p, p ∈ parts → ∀ y, st.get p.2 = some y → RepV S R w y (a.eval p.2)) →
    (∀ p, p ∈ ps → p.2.one = true ∨ ∃ cs, p.2 = .agg cs) → RepC S R w cs vs → fillAV place cs ps = some ds → ∃ us, Instr.fill place vs (parts.map fun (i, x) => (i, a.eval x)) = some us ∧ RepC S R w ds us
  | [], ps, cs, ds, vs, hp, _, _, hc, hf => by
    cases hp
    cases hf
    exact ⟨vs, rfl, hc⟩
  | (i, x) :: r, ps, cs, ds, vs, hp, hx, h1, hc, hf => by
    simp only [getParts] at hp
    split at hp
    · rename_i y ys hy hys
      cases hp
      simp only [fillAV] at hf
      cases hpl : place i with
      | none => rw [hpl] at hf; cases hf
      | some q =>
        obtain ⟨off, size⟩ := q
        rw [hpl] at hf
        cases hb : (Nat.beq y.cells.length size && Nat.ble (off + size) cs.length) with
        | false => simp only [hb, cond_false] at hf; cases hf
        | true =>
          simp only [hb, cond_true] at hf
          simp only [Bool.and_eq_true] at hb
          have hbs := Nat.eq_of_beq_eq_true hb.1
          have hbl := Nat.le_of_ble_eq_true hb.2
          have hrep := rep_cells (hx (i, x) (List.mem_cons_self) y hy) (h1 (i, y) (List.mem_cons_self))
          have hput := repc_put (off := off) hc (show RepC S R w y.cells (a.eval x).cells from hrep) (by omega)
          obtain ⟨us, hus, hr⟩ := fill_rep hys (fun p hp => hx p (List.mem_cons_of_mem _ hp)) (fun p hp => h1 p (List.mem_cons_of_mem _ hp)) hput hf
          refine ⟨us, ?_, hr⟩
          have e1 : (a.eval x).cells.size = y.cells.length := hrep.1
          have e2 := hc.1
          simp only [List.map_cons, Instr.fill, hpl]
          rw [if_neg (by simp; omega)]
          rw [← Array.foldl_toList, Array.toList_zipIdx]
          have := fold_set (a.eval x).cells.toList vs off 0 (by rw [Array.length_toList]; omega)
          simp only [Nat.add_zero] at this
          rw [this]
          exact hus
    · cases hp

class StrF (P : Program) (t : TypeId) (z : outParam Value) (pl : outParam (List (Nat × Nat))) : Prop where
  zero : ∀ w, (zeroValue t).run P w = .ok z w
  h : ∃ fs, P.underlying t = some (.struct fs) ∧ ∀ w, (fs.mapM fun f => do pure (f.offset, ← sizeOf f.type) : Sem (Array (Nat × Nat))).run P w = .ok pl.toArray w

def onesB (ps : List (Nat × AV)) : Bool := ps.all fun p => match p.2 with
  | .agg _ => true
  | x => x.one

theorem onesB_iff {ps : List (Nat × AV)} (h : onesB ps = true) : ∀ p, p ∈ ps → p.2.one = true ∨ ∃ cs, p.2 = .agg cs := fun p hp => by
  have := List.all_eq_true.1 h p hp
  cases hx : p.2 <;> rw [hx] at this <;> first | exact .inl this | exact .inr ⟨_, rfl⟩

theorem ev_build {t : TypeId} {parts : List (Nat × Operand)} {ps : List (Nat × AV)} {cs : List AV} {z : Value} {pl : List (Nat × Nat)} [hs : StrF P t z pl] (hp : getParts st parts = some ps) (h1 : onesB ps = true) (hf : fillAV (fun (i : Nat) => pl[i]?) (vcells z) ps = some cs) :
    OpEv P ⟨dst, .build t parts.toArray, ty, pos, after, g⟩ st (.agg cs) :=
  ev_same fun S R a w _ ho => by
    obtain ⟨fs, hu, hm⟩ := hs.h
    obtain ⟨us, hus, hr⟩ := fill_rep (S := S) (R := R) (w := w) (a := a) (vs := z.cells) hp (fun p hp' y hy => ho p.2 (by simp [Op.operands]; exact ⟨p.1, hp'⟩) y hy) (onesB_iff h1) ⟨by simp [vcells], fun i y hy => by
      simp only [vcells, List.getElem?_map, Option.map_eq_some_iff, Array.getElem?_toList] at hy
      obtain ⟨u, hu', rfl⟩ := hy
      have : z.cells.getD i undef = u := by simp [Array.getD_eq_getD_getElem?, hu']
      rw [this]; exact .val _⟩ hf
    refine ⟨.agg us, ?_, .agg hr.1 hr.2⟩
    simp only [execOp, Instr.build, Sem.run_bind, hs.zero, run_underlying hu, Result.andThen_ok, hm, Sem.run_pure]
    simp only [List.map_toArray]
    have hfun : (fun (x : Nat) => pl.toArray[x]?) = (fun (i : Nat) => pl[i]?) := by funext i; simp
    rw [hfun, hus]
    simp
end

end Go.Proofs.YtmenbolalghljaaA
