/- Maps whose keys are structs of plain cells. -/
import Derived.Test.YtmenbolalghljaaAw29
import Derived.MapKept
set_option linter.unusedVariables false
namespace Go.Proofs.YtmenbolalghljaaA
open Go.RowKit
variable {P : Program}

theorem chk_str {t : TypeId} [hu : Und P t .string] (e : Bool) (n : Nat) (v : Value) (w : World) : (Instr.checkKey e (n + 1) t v).run P w = .ok () w := by
  unfold Instr.checkKey
  simp [run_underlying hu.h]
theorem chk_int {t : TypeId} {k : IntKind} [hu : Und P t (.int k)] (e : Bool) (n : Nat) (v : Value) (w : World) : (Instr.checkKey e (n + 1) t v).run P w = .ok () w := by
  unfold Instr.checkKey
  simp [run_underlying hu.h]
theorem chk_bool {t : TypeId} [hu : Und P t .bool] (e : Bool) (n : Nat) (v : Value) (w : World) : (Instr.checkKey e (n + 1) t v).run P w = .ok () w := by
  unfold Instr.checkKey
  simp [run_underlying hu.h]
/-- A field's type is plain and of one cell. -/
structure ChkD (P : Program) (n : Nat) (t : TypeId) : Prop where
  chk : ∀ (e : Bool) (v : Value) (w : World), (Instr.checkKey e n t v).run P w = .ok () w
  ag : ∀ w, (isAgg t).run P w = .ok false w
theorem chkd_str {n : Nat} {t : TypeId} [hu : Und P t .string] (ha : ∀ w, (isAgg t).run P w = .ok false w) : ChkD P (n + 1) t := ⟨fun e v w => chk_str e n v w, ha⟩
theorem chkd_int {n : Nat} {t : TypeId} {k : IntKind} [hu : Und P t (.int k)] (ha : ∀ w, (isAgg t).run P w = .ok false w) : ChkD P (n + 1) t := ⟨fun e v w => chk_int e n v w, ha⟩
theorem chkd_bool {n : Nat} {t : TypeId} [hu : Und P t .bool] (ha : ∀ w, (isAgg t).run P w = .ok false w) : ChkD P (n + 1) t := ⟨fun e v w => chk_bool e n v w, ha⟩
theorem chk_struct {t : TypeId} {fs : Array Field} {n : Nat} (hu : P.underlying t = some (.struct fs)) (h : ∀ f, f ∈ fs.toList → ChkD P n f.type) (e : Bool) (us : List Value) (hlen : ∀ f, f ∈ fs.toList → f.offset < us.length) (w : World) : (Instr.checkKey e (n + 1) t (.agg us.toArray)).run P w = .ok () w := by
  unfold Instr.checkKey
  simp only [Sem.run_bind, run_underlying hu, Result.andThen_ok]
  rw [← Array.forIn_toList]
  have key : ∀ l : List Field, (∀ f, f ∈ l → ChkD P n f.type) → (∀ f, f ∈ l → f.offset < us.length) → (forIn l PUnit.unit fun (f : Field) (__s : PUnit) =>
      if f.name ≠ "_" then do
        let c ← part f.type us.toArray f.offset
        Instr.checkKey e n f.type c
        pure (ForInStep.yield PUnit.unit)
      else pure (ForInStep.yield PUnit.unit) : Sem PUnit).run P w = .ok () w := by
    intro l
    induction l with
    | nil => intro _ _; simp
    | cons f l ih =>
      intro h1 h2
      have hf := h1 f List.mem_cons_self
      have hl := h2 f List.mem_cons_self
      have hrest := ih (fun g hg => h1 g (List.mem_cons_of_mem _ hg)) (fun g hg => h2 g (List.mem_cons_of_mem _ hg))
      have hpart : (part f.type us.toArray f.offset).run P w = .ok (us.toArray[f.offset]'(by simpa using hl)) w := by
        simp [part, hf.ag, hl]
      rw [List.forIn_cons]
      by_cases hn : f.name ≠ "_"
      · rw [if_pos hn]
        simp only [Sem.run_bind, hpart, Result.andThen_ok, hf.chk, Sem.run_pure]
        exact hrest
      · rw [if_neg hn]
        simp only [Sem.run_bind, Result.andThen_ok, Sem.run_pure]
        exact hrest
  rw [key fs.toList h hlen]
  rfl

/-- A key's type: a struct of plain cells of these kinds. -/
class KeyF (P : Program) (kt : TypeId) (ks : outParam (List CK)) : Prop where
  chk : ∀ (e : Bool) (us : List Value) (w : World), fitsB ks us = true → (Instr.checkKey e 10000 kt (.agg us.toArray)).run P w = .ok () w
  eq : EqD P 10000 kt ks true
  str : ∃ fs, P.underlying kt = some (.struct fs)

def findIx (us : List Value) : List (List Value × AV) → Option Nat
  | [] => none
  | p :: r => if eqVs us p.1 then some 0 else (findIx us r).map (· + 1)

theorem mkV_true (us : List Value) : mkV true us = .agg us.toArray := by unfold mkV; cases us <;> rfl

theorem run_findAsking {kt : TypeId} {ks : List CK} [hk : KeyF P kt ks] {us : List Value} {w : World} (hu : fitsB ks us = true) : ∀ (L : List MapEntry) (es : List (List Value × AV)) (i0 : Nat), L.length = es.length → (∀ (i : Nat) (m : MapEntry) (p : List Value × AV), L[i]? = some m → es[i]? = some p → m.key = .agg p.1.toArray) → (∀ p, p ∈ es → fitsB ks p.1 = true) →
    (findIx us es = none → (Instr.findAsking kt (.agg us.toArray) L i0).run P w = .ok none w) ∧ (∀ i, findIx us es = some i → ∃ m, L[i]? = some m ∧ (Instr.findAsking kt (.agg us.toArray) L i0).run P w = .ok (some (i0 + i, m.val)) w)
  | [], [], i0, _, _, _ => ⟨fun _ => by simp [Instr.findAsking], fun i h => by simp [findIx] at h⟩
  | m :: L, p :: es, i0, hl, hkey, hfit => by
    have ih := run_findAsking (kt := kt) (w := w) hu L es (i0 + 1) (by simpa using hl) (fun i m p h1 h2 => hkey (i + 1) m p (by simpa using h1) (by simpa using h2)) (fun p hp => hfit p (List.mem_cons_of_mem _ hp))
    have hm := hkey 0 m p rfl rfl
    have he : (Op.equal kt (.agg us.toArray) m.key).run P w = .ok (eqVs us p.1) w := by
      rw [hm]
      have := hk.eq us p.1 w hu (hfit p List.mem_cons_self)
      rw [mkV_true, mkV_true] at this
      exact this
    unfold Instr.findAsking findIx
    simp only [Sem.run_bind, he, Result.andThen_ok]
    by_cases hb : eqVs us p.1 = true
    · simp only [hb, if_true, Sem.run_pure]
      exact ⟨(fun h => by cases h), fun i h => by cases h; exact ⟨m, rfl, rfl⟩⟩
    · simp only [Bool.not_eq_true] at hb
      simp only [hb, Bool.false_eq_true, if_false]
      refine ⟨fun h => ih.1 (by simpa using h), fun i h => ?_⟩
      rw [Option.map_eq_some_iff] at h
      obtain ⟨j, hj, rfl⟩ := h
      obtain ⟨m', h1, h2⟩ := ih.2 j hj
      exact ⟨m', by simpa using h1, by rw [h2]; congr 3; omega⟩
  | [], _ :: _, _, hl, _, _ => by simp at hl
  | _ :: _, [], _, hl, _, _ => by simp at hl

theorem run_findKey {kt : TypeId} {ks : List CK} [hk : KeyF P kt ks] {us : List Value} {w : World} (hu : fitsB ks us = true) (L : List MapEntry) (es : List (List Value × AV)) (hl : L.length = es.length) (hkey : ∀ (i : Nat) (m : MapEntry) (p : List Value × AV), L[i]? = some m → es[i]? = some p → m.key = .agg p.1.toArray) (hfit : ∀ p, p ∈ es → fitsB ks p.1 = true) :
    (findIx us es = none → (Instr.findKey kt (.agg us.toArray) L).run P w = .ok none w) ∧ (∀ i, findIx us es = some i → ∃ m, L[i]? = some m ∧ (Instr.findKey kt (.agg us.toArray) L).run P w = .ok (some (i, m.val)) w) := by
  obtain ⟨fs, hfs⟩ := hk.str
  have h := run_findAsking (P := P) (kt := kt) (w := w) hu L es 0 hl hkey hfit
  have e : (Instr.findKey kt (.agg us.toArray) L).run P w = (Instr.findAsking kt (.agg us.toArray) L 0).run P w := by
    unfold Instr.findKey
    simp only [Sem.run_bind, run_underlying hfs, Result.andThen_ok]
    cases L with
    | nil => simp [Instr.findNow, Instr.findAsking]
    | cons m L => simp [Instr.findNow, Instr.sameNow]
  rw [e]
  refine ⟨h.1, fun i hi => ?_⟩
  obtain ⟨m, h1, h2⟩ := h.2 i hi
  exact ⟨m, h1, by rw [h2, Nat.zero_add]⟩

/-- Entries as a token has them. -/
def encE (es : List (List Value × AV)) : List (AV × AV) := es.map fun p => (.agg (p.1.map .val), p.2)

theorem mapAt_get {S : Nat → Prop} {R : Lab} {w : World} {ents : Array MapEntry} {es : List (List Value × AV)} (h : MapAt S R w ents (encE es)) : ents.toList.length = es.length ∧ (∀ (i : Nat) (m : MapEntry) (p : List Value × AV), ents.toList[i]? = some m → es[i]? = some p → m.key = .agg p.1.toArray ∧ RepV S R w p.2 m.val) := by
  obtain ⟨h1, h2⟩ := h
  refine ⟨by simpa [encE] using h1, fun i m p hm hp => ?_⟩
  have hp' : (encE es)[i]? = some (.agg (p.1.map .val), p.2) := by simp [encE, hp]
  obtain ⟨m', hm', hk, hv⟩ := h2 i _ hp'
  rw [Array.getElem?_toList] at hm
  rw [hm] at hm'
  cases hm'
  refine ⟨?_, hv⟩
  generalize m.key = kk at hk
  cases hk with
  | agg hl hf =>
    rename_i vs
    have := agg_vals (S := S) (R := R) (w := w) (RepV.agg hl hf)
    rw [this]

section
variable {st : St} {dst : Option Tmp} {ty : TypeId} {pos : String} {after : Array Edge} {g : Option (Nat × Bool)}

theorem eff_makeMap {t : TypeId} : OpEff P ⟨dst, .makeMap t none, ty, pos, after, g⟩ st [] (fun ts r => ∃ l, ts = [(l, .map (encE []))] ∧ r = .mref l) := by
  refine ⟨?_⟩
  intro S R a w hh ho next Q hk
  obtain ⟨N, hN⟩ := hh.free
  have hrun : (execOp a.eval ⟨dst, .makeMap t none, ty, pos, after, g⟩).run P w = .ok (.value (.map (some w.heap.size))) (w.alloc (.map #[] 0)) := rfl
  unfold Oper.wp
  rw [hrun]
  have hblk : w.heap.size < (w.alloc (.map #[] 0)).heap.size := by rw [alloc_heap]; simp
  have hb : blkOf (bindL R N (some ⟨w.heap.size, 0, 0, 0⟩)) N = some w.heap.size := by simp [blkOf, bindL_same]
  have hfoot : ∀ g, Foot (bindL R N (some ⟨w.heap.size, 0, 0, 0⟩)) [(N, .map (encE []))] g → g = w.heap.size := by
    rintro g ⟨l', t', hm, hg⟩
    simp at hm
    obtain ⟨rfl, rfl⟩ := hm
    rw [hb] at hg
    exact (Option.some.inj hg).symm
  refine hk _ (.mref N) S (bindL R N (some ⟨w.heap.size, 0, 0, 0⟩)) _ _ ⟨N, rfl, rfl⟩ ⟨bindL_top hh.top, by simp, ?_, ?_, fun b hb => Nat.lt_trans (hh.low b hb) hblk⟩ (.mref (q := ⟨w.heap.size, 0, 0, 0⟩) bindL_same) ⟨rfl, rfl, rfl, Nat.le_of_lt hblk, fun b hb _ => ?_, fun _ h => h, fun _ h => .inl h, fun m q hq => bindL_mono hN m q hq, fun g hg => .inr ?_, fun l' t' hm => ?_⟩
  · intro l' t' hm
    simp at hm
    obtain ⟨rfl, rfl⟩ := hm
    simp only [TokHolds, bindL_same]
    exact ⟨#[], 0, by rw [alloc_heap]; simp, ⟨rfl, by intro i p hp; simp [encE] at hp⟩⟩
  · rintro g hg hs
    have := hfoot g hg
    subst this
    exact absurd (hh.low _ hs) (Nat.lt_irrefl _)
  · rw [alloc_heap, Array.getElem?_push, if_neg (by omega)]
  · rw [hfoot g hg]; exact Nat.le_refl _
  · simp at hm
    exact .inr (by rw [hm.1]; exact hN)

/-- What an empty place of a type reads as. -/
def zeroAV (ag : Bool) (z : Value) : AV := if ag then .agg (vcells z) else .val z
theorem look_run {t kt e : TypeId} {ks : List CK} {x ix : Operand} {us : List Value} {l : Nat} {es : List (List Value × AV)} {ok : Bool} [hm : Und P t (.map kt e)] [hk : KeyF P kt ks] {S : Nat → Prop} {R : Lab} {a : Act} {w : World} (htok : TokHolds S R w l (.map (encE es))) (hx : RepV S R w (.mref l) (a.eval x)) (hi : a.eval ix = .agg us.toArray) (hu : fitsB ks us = true) (hfit : ∀ p, p ∈ es → fitsB ks p.1 = true) :
    (findIx us es = none → ∀ z, (zeroValue e).run P w = .ok z w → (execOp a.eval ⟨dst, .lookup t x ix ok, ty, pos, after, g⟩).run P w = .ok (.value (if ok then .tuple #[z, .bool false] else z)) w) ∧
    (∀ i p, findIx us es = some i → es[i]? = some p → ∃ v, RepV S R w p.2 v ∧ (execOp a.eval ⟨dst, .lookup t x ix ok, ty, pos, after, g⟩).run P w = .ok (.value (if ok then .tuple #[v, .bool true] else v)) w) := by
  generalize hxe : a.eval x = xv at hx
  cases hx with
  | mref h =>
    rename_i q
    simp only [TokHolds, h] at htok
    obtain ⟨ents, clock, hg, hat⟩ := htok
    obtain ⟨h1, h2⟩ := mapAt_get hat
    have hf := run_findKey (P := P) (kt := kt) (w := w) hu ents.toList es h1 (fun i m p hm hp => (h2 i m p hm hp).1) hfit
    have hget := Go.MapKept.run_getObj_map (P := P) hg
    constructor
    · intro hn z hz
      have hf1 := hf.1 hn
      simp [execOp, Instr.lookup, run_underlying hm.h, hxe, hi, hget, hk.chk _ us w hu, hf1, hz]
    · intro i p hi2 hp
      obtain ⟨m, hm1, hm2⟩ := hf.2 i hi2
      refine ⟨m.val, (h2 i m p hm1 hp).2, ?_⟩
      simp [execOp, Instr.lookup, run_underlying hm.h, hxe, hi, hget, hk.chk _ us w hu, hm2]

theorem findIx_lt {us : List Value} : ∀ {es : List (List Value × AV)} {i : Nat}, findIx us es = some i → ∃ p, es[i]? = some p
  | p :: r, i, h => by
    unfold findIx at h
    split at h
    · cases h; exact ⟨p, rfl⟩
    · rw [Option.map_eq_some_iff] at h
      obtain ⟨j, hj, rfl⟩ := h
      simpa using findIx_lt hj
/-- v, ok := m[k] -/
theorem ev_lookup_ok {t kt e : TypeId} {ks : List CK} {z : Value} {k b : Nat} {ag : Bool} {x ix : Operand} {cs : List AV} {us : List Value} {l : Nat} {es : List (List Value × AV)} {r : List (Nat × Tok)} [hm : Und P t (.map kt e)] [hk : KeyF P kt ks] [he : ElF P e z k b] [hag : AgF P e ag] (hx : st.get x = some (.mref l)) (hi : st.get ix = some (.agg cs)) (hp : plains cs = some us) (hu : fitsB ks us = true) (ht : Take st.toks l (.map (encE es)) r) (hfit : ∀ p, p ∈ es → fitsB ks p.1 = true) (hz : ag = true → ∃ zs, z = .agg zs) :
    OpEv P ⟨dst, .lookup t x ix true, ty, pos, after, g⟩ st (.tup [match (findIx us es).bind (es[·]?) with | some p => p.2 | none => zeroAV ag z, .val (.bool (findIx us es).isSome)]) := by
  refine ev_same fun S R a w hh ho => ?_
  have hxv := ho x (by simp [Op.operands]) _ hx
  have hiv := ho ix (by simp [Op.operands]) _ hi
  have htok := hh.tok l _ (ht.perm.mem_iff.2 List.mem_cons_self)
  rw [plains_map hp] at hiv
  have hie : a.eval ix = .agg us.toArray := by
    generalize a.eval ix = iv at hiv
    cases hiv with
    | agg hl hf => rw [agg_vals (.agg hl hf)]
  have hl := look_run (P := P) (t := t) (dst := dst) (ty := ty) (pos := pos) (after := after) (g := g) (ok := true) htok hxv hie hu hfit
  have htup : ∀ (y1 : AV) (v1 v2 : Value), RepV S R w y1 v1 → RepV S R w (.tup [y1, .val v2]) (.tuple #[v1, v2]) := fun y1 v1 v2 h => by
    refine .tup rfl fun i x hx => ?_
    match i, hx with
    | 0, hx => simp at hx; subst hx; exact h
    | 1, hx => simp at hx; subst hx; exact .val _
  cases hfx : findIx us es with
  | none =>
    refine ⟨_, hl.1 hfx z (ElF.zero (P := P) (t := e) w), ?_⟩
    simp only [Option.bind_none, Option.isSome_none, if_true]
    refine htup _ _ _ ?_
    unfold zeroAV
    cases ag with
    | false => exact .val _
    | true =>
      obtain ⟨zs, rfl⟩ := hz rfl
      simp only [if_true]
      refine .agg (by simp [vcells, Value.cells]) fun i y hy => ?_
      simp only [vcells, Value.cells, List.getElem?_map, Option.map_eq_some_iff] at hy
      obtain ⟨u, hu, rfl⟩ := hy
      have : zs.getD i undef = u := by
        simp only [Array.getElem?_toList] at hu
        simp [Array.getD_eq_getD_getElem?, hu]
      rw [this]; exact .val _
  | some i =>
    obtain ⟨p, hp⟩ := findIx_lt hfx
    obtain ⟨v, hv, hrun⟩ := hl.2 i p hfx hp
    refine ⟨_, hrun, ?_⟩
    simp only [Option.bind_some, hp, Option.isSome_some, if_true]
    exact htup _ _ _ hv
/-- m[k] -/
theorem ev_lookup {t kt e : TypeId} {ks : List CK} {z : Value} {k b : Nat} {ag : Bool} {x ix : Operand} {cs : List AV} {us : List Value} {l : Nat} {es : List (List Value × AV)} {r : List (Nat × Tok)} [hm : Und P t (.map kt e)] [hk : KeyF P kt ks] [he : ElF P e z k b] [hag : AgF P e ag] (hx : st.get x = some (.mref l)) (hi : st.get ix = some (.agg cs)) (hp : plains cs = some us) (hu : fitsB ks us = true) (ht : Take st.toks l (.map (encE es)) r) (hfit : ∀ p, p ∈ es → fitsB ks p.1 = true) (hz : ag = true → ∃ zs, z = .agg zs) :
    OpEv P ⟨dst, .lookup t x ix false, ty, pos, after, g⟩ st (match (findIx us es).bind (es[·]?) with | some p => p.2 | none => zeroAV ag z) := by
  refine ev_same fun S R a w hh ho => ?_
  have hxv := ho x (by simp [Op.operands]) _ hx
  have hiv := ho ix (by simp [Op.operands]) _ hi
  have htok := hh.tok l _ (ht.perm.mem_iff.2 List.mem_cons_self)
  rw [plains_map hp] at hiv
  have hie : a.eval ix = .agg us.toArray := by
    generalize a.eval ix = iv at hiv
    cases hiv with
    | agg hl hf => rw [agg_vals (.agg hl hf)]
  have hl := look_run (P := P) (t := t) (dst := dst) (ty := ty) (pos := pos) (after := after) (g := g) (ok := false) htok hxv hie hu hfit
  cases hfx : findIx us es with
  | none =>
    refine ⟨_, hl.1 hfx z (ElF.zero (P := P) (t := e) w), ?_⟩
    simp only [Option.bind_none, Bool.false_eq_true, if_false]
    unfold zeroAV
    cases ag with
    | false => exact .val _
    | true =>
      obtain ⟨zs, rfl⟩ := hz rfl
      simp only [if_true]
      refine .agg (by simp [vcells, Value.cells]) fun i y hy => ?_
      simp only [vcells, Value.cells, List.getElem?_map, Option.map_eq_some_iff] at hy
      obtain ⟨u, hu, rfl⟩ := hy
      have : zs.getD i undef = u := by
        simp only [Array.getElem?_toList] at hu
        simp [Array.getD_eq_getD_getElem?, hu]
      rw [this]; exact .val _
  | some i =>
    obtain ⟨p, hp⟩ := findIx_lt hfx
    obtain ⟨v, hv, hrun⟩ := hl.2 i p hfx hp
    refine ⟨_, hrun, ?_⟩
    simp only [Option.bind_some, hp, Bool.false_eq_true, if_false]
    exact hv

/-- m[k] = v, a key that is new -/
theorem eff_mapPush {t kt e : TypeId} {ks : List CK} {m ix x : Operand} {cs : List AV} {us : List Value} {y : AV} {l : Nat} {es : List (List Value × AV)} [hm : Und P t (.map kt e)] [hk : KeyF P kt ks] (hmx : st.get m = some (.mref l)) (hi : st.get ix = some (.agg cs)) (hp : plains cs = some us) (hu : fitsB ks us = true) (hx : st.get x = some y) (hfit : ∀ p, p ∈ es → fitsB ks p.1 = true) (hn : findIx us es = none) :
    OpEff P ⟨dst, .mapUpdate t m ix x, ty, pos, after, g⟩ st [(l, .map (encE es))] (fun ts r => ts = [(l, .map (encE (es ++ [(us, y)])))] ∧ r = .dead) := by
  refine ⟨?_⟩
  intro S R a w hh ho next Q hkk
  have hmv := ho m (by simp [Op.operands]) _ hmx
  have hiv := ho ix (by simp [Op.operands]) _ hi
  have hxv := ho x (by simp [Op.operands]) _ hx
  have htok := hh.tok l _ List.mem_cons_self
  rw [plains_map hp] at hiv
  have hie : a.eval ix = .agg us.toArray := by
    generalize a.eval ix = iv at hiv
    cases hiv with
    | agg hl hf => rw [agg_vals (.agg hl hf)]
  generalize hme : a.eval m = mv at hmv
  cases hmv with
  | mref h =>
    rename_i q
    simp only [TokHolds, h] at htok
    obtain ⟨ents, clock, hg, hat⟩ := htok
    obtain ⟨h1, h2⟩ := mapAt_get hat
    have hf := (run_findKey (P := P) (kt := kt) (w := w) hu ents.toList es h1 (fun i m p hm hp => (h2 i m p hm hp).1) hfit).1 hn
    have hget := Go.MapKept.run_getObj_map (P := P) hg
    have hlt : q.g < w.heap.size := (Array.getElem?_eq_some_iff.1 hg).1
    let o' : Obj := .map (ents.push { key := .agg us.toArray, val := a.eval x, born := clock }) (clock + 1)
    have hset := Go.MapKept.run_setObj_map (P := P) o' hg
    generalize hw' : ({ w with heap := w.heap.setIfInBounds q.g o' } : World) = w' at hset
    have hheap : w'.heap = w.heap.setIfInBounds q.g o' := by rw [← hw']
    have hrun : (execOp a.eval ⟨dst, .mapUpdate t m ix x, ty, pos, after, g⟩).run P w = .ok .skip w' := by
      simp [execOp, Instr.mapUpdate, run_underlying hm.h, hme, hie, hget, hk.chk _ us w hu, hf]
      rw [show (Obj.map (ents.push { key := .agg us.toArray, val := a.eval x, born := clock }) (clock + 1)) = o' from rfl, hset]
      rfl
    unfold Oper.wp
    rw [hrun]
    have hother : ∀ b, b ≠ q.g → w'.heap[b]? = w.heap[b]? := fun b hb => by
      rw [hheap, Array.getElem?_setIfInBounds, if_neg (fun e => hb e.symm)]
    have hsz : w'.heap.size = w.heap.size := by rw [hheap]; simp
    have hnS : ¬ S q.g := fun hs => hh.notS q.g ⟨l, _, List.mem_cons_self, by simp [blkOf, h]⟩ hs
    have hlow : ∀ b, S b → w'.heap[b]? = w.heap[b]? := fun b hb => hother b (fun e => hnS (e ▸ hb))
    have hfoot : ∀ (es' : List (AV × AV)) g, Foot R [(l, .map es')] g → g = q.g := by
      rintro es' g ⟨l', t', hm', hg'⟩
      simp at hm'
      obtain ⟨rfl, rfl⟩ := hm'
      simp [blkOf, h] at hg'
      exact hg'.symm
    refine hkk undef .dead S R w' _ ⟨rfl, rfl⟩ ⟨hh.top, by simp, ?_, ?_, fun b hb => by rw [hsz]; exact hh.low b hb⟩ (.dead _) ⟨by rw [← hw'], by rw [← hw'], by rw [← hw'], Nat.le_of_eq hsz.symm, fun b hb hf => hother b (fun e => hf ⟨l, _, List.mem_cons_self, by rw [e]; simp [blkOf, h]⟩), fun _ h => h, fun _ h => .inl h, fun _ _ h => h, fun g hg' => .inl ?_, fun l' t' hm' => .inl ?_⟩
    · intro l' t' hm'
      simp at hm'
      obtain ⟨rfl, rfl⟩ := hm'
      simp only [TokHolds, h]
      refine ⟨_, clock + 1, by rw [hheap, Array.getElem?_setIfInBounds, if_pos rfl, if_pos hlt], ?_, ?_⟩
      · simp [encE]; simpa using h1
      · intro i p hp
        simp only [encE, List.map_append, List.map_cons, List.map_nil] at hp
        rcases Nat.lt_or_ge i es.length with hi | hi
        · rw [List.getElem?_append_left (by simpa using hi)] at hp
          obtain ⟨m0, hm0, hk0, hv0⟩ := hat.2 i p (by simpa [encE] using hp)
          refine ⟨m0, ?_, hk0.mono (fun _ h => h) (fun _ _ h => h) hlow, hv0.mono (fun _ h => h) (fun _ _ h => h) hlow⟩
          rw [Array.getElem?_push, if_neg (by have := (Array.getElem?_eq_some_iff.1 hm0).1; omega)]
          exact hm0
        · rw [List.getElem?_append_right (by simpa using hi)] at hp
          have hi2 : i = es.length := by
            have := (List.getElem?_eq_some_iff.1 hp).1
            simp at this
            omega
          subst hi2
          simp at hp
          subst hp
          refine ⟨⟨.agg us.toArray, a.eval x, clock⟩, ?_, ?_, hxv.mono (fun _ h => h) (fun _ _ h => h) hlow⟩
          · rw [Array.getElem?_push, if_pos (by simpa using h1.symm)]
          · exact .agg (by simp) fun i y hy => by
              simp only [List.getElem?_map, Option.map_eq_some_iff] at hy
              obtain ⟨u, hu, rfl⟩ := hy
              have : us.toArray.getD i undef = u := by simp [Array.getD_eq_getD_getElem?, hu]
              rw [this]; exact .val _
    · rintro g hg' hs
      have := hfoot _ g hg'
      subst this
      exact hnS hs
    · exact ⟨l, _, List.mem_cons_self, by rw [hfoot _ g hg']; simp [blkOf, h]⟩
    · simp at hm'
      exact ⟨_, by rw [hm'.1]; exact List.mem_cons_self⟩
end
end Go.Proofs.YtmenbolalghljaaA
