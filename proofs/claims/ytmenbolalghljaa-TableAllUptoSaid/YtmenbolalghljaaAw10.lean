/- Struct results, slice literals, conversions, the small operations. -/
import Derived.Test.YtmenbolalghljaaAw9
set_option linter.unusedVariables false
namespace Go.Proofs.YtmenbolalghljaaA
open Go.RowKit

section
variable {P : Program} {st : St} {dst : Option Tmp} {ty : TypeId} {pos : String} {after : Array Edge} {g : Option (Nat × Bool)}

theorem res_cell {t e : TypeId} {ad : Tmp} {z : Value} {kt b k l i j : Nat} {xs : List (List AV)} {cs : List AV} {r : List (Nat × Tok)} [hu : AgF P t true] [he : ElF P t z kt b] (hx : look st.sl ad = some (.ptr l i j)) (ht : Take st.toks l (.row e k xs) r) (hcs : xs[i]? = some cs) (hk : j + kt ≤ cs.length) :
    Res1 P st (.cell ad t) (.agg ((cs.drop j).take kt)) := by
  intro S R a w hh hs
  have hv := hs ad _ hx
  generalize hvv : a.tmps.getD ad undef = v at hv
  cases hv with
  | ptr h =>
    rename_i q
    have htok := hh.tok l _ (ht.perm.mem_iff.2 (List.mem_cons_self))
    simp only [TokHolds, h] at htok
    obtain ⟨hkk, cur, fr, hg, _, _, _, _, hrow⟩ := htok
    have hcell : ∀ m, m < kt → ∃ y u, cs[j + m]? = some y ∧ w.cell? ⟨q.g, (q.b + i) * q.k + (j + m), none⟩ = some u ∧ RepV S R w y u := fun m hm => by
      obtain ⟨y, hy⟩ : ∃ y, cs[j + m]? = some y := ⟨_, List.getElem?_eq_getElem (by omega)⟩
      obtain ⟨u, hu', hr', _⟩ := rowAt_cell hg hrow hcs hy
      exact ⟨y, u, hy, hu', hr'⟩
    have hF : ∃ F : Nat → Value, ∀ m, m < kt → ∃ y, cs[j + m]? = some y ∧ w.cell? ⟨q.g, (q.b + i) * q.k + (j + m), none⟩ = some (F m) ∧ RepV S R w y (F m) := by
      refine ⟨fun m => if hm : m < kt then Classical.choose (Classical.choose_spec (hcell m hm)) else undef, fun m hm => ?_⟩
      simp only [hm, dif_pos]
      exact ⟨_, Classical.choose_spec (Classical.choose_spec (hcell m hm))⟩
    obtain ⟨F, hF⟩ := hF
    refine ⟨.agg ((List.range kt).map F).toArray, ?_, .agg (by simp; omega) (fun m y hy => ?_)⟩
    · have hl := run_loadVar_agg (P := P) (t := t) ⟨q.g, (q.b + i) * q.k + j, none⟩ ((List.range kt).map F) (by simp) w (fun m v hmv => by
        have hm := (List.getElem?_eq_some_iff.1 hmv).1
        simp at hm
        simp [hm] at hmv
        obtain ⟨y, _, hc, _⟩ := hF m hm
        rw [add_mk, Nat.add_assoc, hc, hmv])
      simp only [resOne, Sem.run_bind, hvv, asAddr, Sem.run_pure, Result.andThen_ok, hl]
    · have hm := (List.getElem?_eq_some_iff.1 hy).1
      rw [List.length_take] at hm
      have hm : m < kt := by omega
      rw [List.getElem?_take, if_pos hm, List.getElem?_drop] at hy
      obtain ⟨y', hy', _, hr'⟩ := hF m hm
      rw [hy] at hy'
      cases hy'
      simpa [hm] using hr'

/-! ### Slice literals -/
def chunk (k : Nat) (cs : List AV) : Nat → List (List AV)
  | 0 => []
  | n + 1 => cs.take k :: chunk k (cs.drop k) n

theorem chunk_get {k : Nat} : ∀ {n : Nat} {cs : List AV} {i : Nat} {x : List AV}, (chunk k cs n)[i]? = some x → i < n ∧ x = (cs.drop (i * k)).take k
  | 0, cs, i, x, h => by simp [chunk] at h
  | n + 1, cs, i, x, h => by
    cases i with
    | zero => simp only [chunk, List.getElem?_cons_zero] at h; cases h; simp
    | succ i =>
      simp only [chunk, List.getElem?_cons_succ] at h
      obtain ⟨h1, h2⟩ := chunk_get h
      refine ⟨by omega, ?_⟩
      rw [h2, List.drop_drop, Nat.add_mul]
      congr 2; omega
theorem chunk_len {k : Nat} : ∀ (n : Nat) (cs : List AV), (chunk k cs n).length = n
  | 0, _ => rfl
  | n + 1, cs => by simp [chunk, chunk_len n]

def repl (n : Nat) (zs : List AV) : List AV := (List.replicate n zs).flatten

theorem repl_len (n : Nat) (zs : List AV) : (repl n zs).length = n * zs.length := by simp [repl]
theorem repl_get {n : Nat} {zs : List AV} {i : Nat} {y : AV} (h : (repl n zs)[i]? = some y) : zs[i % zs.length]? = some y := by
  induction n generalizing i with
  | zero => simp [repl] at h
  | succ n ih =>
    have e : repl (n + 1) zs = zs ++ repl n zs := by simp [repl, List.replicate_succ]
    rw [e, List.getElem?_append] at h
    split at h
    · rename_i hlt
      rw [Nat.mod_eq_of_lt hlt]; exact h
    · rename_i hge
      have := ih h
      rwa [← Nat.mod_eq_sub_mod (by omega)] at this

def allOnes (cs : List AV) : Bool := cs.all (·.one)

theorem run_buildSlice {S : Nat → Prop} {R : Lab} {w : World} {a : Act} {t e : TypeId} {z : Value} {k b len : Nat} [hu : Und P t (.slice e)] [he : ElF P e z k b] {parts : List (Nat × Operand)} {ps : List (Nat × AV)} {cs : List AV} (hk0 : 0 < k) (hlen : len * k ≤ 16777216) (hp : getParts st parts = some ps)
    (h1 : onesB ps = true) (hf : fillAV (fun (i : Nat) => some (i * k, k)) (repl len (vcells z)) ps = some cs) (ho : OpsAt S R w st a (.buildSlice t len parts.toArray)) :
    ∃ us, (execOp a.eval ⟨dst, .buildSlice t len parts.toArray, ty, pos, after, g⟩).run P w = .ok (.value (.slice (some ⟨w.heap.size, 0, none⟩) len len)) (w.alloc (.cells us e)) ∧ RepC S R w cs us := by
  obtain ⟨i0, hi, hz, hsz, hb, hzc, hall⟩ := he.h
  let zv : Array Value := (Array.range (len * k)).map (z.cells[· % z.cells.size]!)
  have hvz : (vcells z).length = k := by simp [vcells, hzc]
  obtain ⟨us, hus, hr⟩ := fill_rep (S := S) (R := R) (w := w) (a := a) (place := fun (i : Nat) => some (i * k, k)) (vs := zv) hp (fun p hp' y hy => ho p.2 (by simp [Op.operands]; exact ⟨p.1, hp'⟩) y hy) (onesB_iff h1) ⟨by simp [zv, repl_len, hvz], fun i y hy => by
    have hlt := (List.getElem?_eq_some_iff.1 hy).1
    rw [repl_len, hvz] at hlt
    have hy' := repl_get hy
    rw [hvz] at hy'
    simp only [vcells, List.getElem?_map, Option.map_eq_some_iff, Array.getElem?_toList] at hy'
    obtain ⟨u, hu', rfl⟩ := hy'
    have hm : i % k < z.cells.size := by rw [hzc]; exact Nat.mod_lt _ hk0
    have : zv.getD i undef = u := by
      have e1 : z.cells[i % z.cells.size]! = u := by
        rw [hzc]
        simp only [getElem!_def, hu']
      simp [zv, hlt, e1]
    rw [this]; exact .val _⟩ hf
  refine ⟨us, ?_, hr⟩
  have hn : ¬ (len * k > 2 ^ 24) := by
    have : (2 : Nat) ^ 24 = 16777216 := rfl
    omega
  have hmap : (parts.toArray.map fun (p : Nat × Operand) => (p.1, a.eval p.2)).toList = parts.map fun p => (p.1, a.eval p.2) := by simp
  simp only [execOp, Instr.buildSlice, Sem.run_bind, run_underlying hu.h, Result.andThen_ok, ElF.size (P := P) (t := e), if_neg hn, Sem.run_pure]
  by_cases hl0 : len * k = 0
  · have hz0 : zv = #[] := by simp [zv, hl0]
    have hzz : Array.map (fun (_ : Nat) => (default : Value)) (Array.range 0) = #[] := by
      apply Array.ext'
      simp [Array.range]
    rw [hz0] at hus
    simp [hl0, newRow]
    rw [hzz, hus]
    simp
  · simp only [if_neg hl0, Sem.run_bind, ElF.zero (P := P) (t := e), Sem.run_pure, Result.andThen_ok]
    simp only [hmap]
    change ((match Instr.fill (fun i => some (i * k, k)) zv (parts.map fun p => (p.1, a.eval p.2)) with
      | some cells => _
      | _ => _ : Sem Value).run P w).andThen _ = _
    rw [hus]
    simp [newRow]

/-- A slice literal that is only read. -/
theorem ev_buildSlice {t e : TypeId} {z : Value} {k b len : Nat} {parts : List (Nat × Operand)} {ps : List (Nat × AV)} {cs : List AV} [hu : Und P t (.slice e)] [he : ElF P e z k b] (hp : getParts st parts = some ps) (hk0 : Nat.blt 0 k = true) (hlen : Nat.ble (len * k) 16777216 = true) (h1 : onesB ps = true)
    (hf : fillAV (fun (i : Nat) => some (i * k, k)) (repl len (vcells z)) ps = some cs) (h2 : allOnes cs = true) (h3 : Nat.beq cs.length (len * k) = true) : OpEv P ⟨dst, .buildSlice t len parts.toArray, ty, pos, after, g⟩ st (.sl k (chunk k cs len) len) := by
  refine ⟨?_⟩
  intro S R a w hh ho next Q hk
  have hk0 : 0 < k := by simpa [Nat.blt_eq] using hk0
  have hlen := Nat.le_of_ble_eq_true hlen
  have h3 := Nat.eq_of_beq_eq_true h3
  obtain ⟨us, hrun, hr⟩ := run_buildSlice (P := P) (dst := dst) (ty := ty) (pos := pos) (after := after) (g := g) (t := t) (e := e) hk0 hlen hp h1 hf ho
  unfold Oper.wp
  rw [hrun]
  have hsz : (w.alloc (.cells us e)).heap.size = w.heap.size + 1 := by simp
  let S' : Nat → Prop := fun b => S b ∨ b = w.heap.size
  have hgrow : Grow S R w S' R (w.alloc (.cells us e)) := ⟨(Below.refl _ w).alloc (Nat.le_refl _) _, fun _ h => .inl h, fun b h => h.imp id (fun e => by subst e; rw [hsz]; omega), fun _ _ h => h, hh.top⟩
  have hmono : ∀ {y : AV} {u : Value}, RepV S R w y u → RepV S' R (w.alloc (.cells us e)) y u := fun h => h.mono hgrow.st hgrow.lab (fun b hb => hgrow.below.block b (hh.low b hb))
  have hget : ∀ (i : Nat) (x : List AV) (j : Nat) (y : AV), (chunk k cs len)[i]? = some x → x[j]? = some y → i * k + j < us.size ∧ cs[i * k + j]? = some y := fun i x j y hx hy => by
    obtain ⟨hi, rfl⟩ := chunk_get hx
    have hj := (List.getElem?_eq_some_iff.1 hy).1
    rw [List.length_take] at hj
    rw [List.getElem?_take, if_pos (by omega), List.getElem?_drop] at hy
    exact ⟨by rw [hr.1]; exact (List.getElem?_eq_some_iff.1 hy).1, hy⟩
  refine hk _ S' R _ hgrow (.sl (F := fun i j => us.getD (i * k + j) undef) (by rw [chunk_len]; exact Nat.le_refl _) (by rw [chunk_len]; exact Nat.le_refl _) (by
    have : maxLen = 9223372036854775807 := rfl
    have : len ≤ len * k := Nat.le_mul_of_pos_right _ hk0
    omega) (fun x hx => ?_) (fun _ => ⟨_, rfl, .inr rfl, fun i x j y hx hy => ?_⟩) (fun x hx y hy => ?_) (fun i x j y hx hy => ?_))
  · obtain ⟨i, hi⟩ := List.getElem?_of_mem hx
    obtain ⟨h4, rfl⟩ := chunk_get hi
    rw [List.length_take, List.length_drop, h3]
    have : (i + 1) * k ≤ len * k := Nat.mul_le_mul_right _ (by omega)
    rw [Nat.add_mul] at this
    omega
  · obtain ⟨hlt, _⟩ := hget i x j y hx hy
    rw [add_mk, Nat.zero_add]
    have : (w.alloc (.cells us e)).cell? ⟨w.heap.size, i * k + j, none⟩ = us[i * k + j]? := World.cell?_alloc_at _ _ _ _ rfl
    rw [this, Array.getElem?_eq_getElem hlt]
    simp [hlt]
  · obtain ⟨i, hi⟩ := List.getElem?_of_mem hx
    obtain ⟨j, hj⟩ := List.getElem?_of_mem hy
    exact List.all_eq_true.1 h2 y (List.mem_of_getElem? (hget i x j y hi hj).2)
  · exact hmono (hr.2 _ y (hget i x j y hx hy).2)

/-- A slice literal that will be written. -/
theorem eff_buildSlice {t e : TypeId} {z : Value} {k b len : Nat} {parts : List (Nat × Operand)} {ps : List (Nat × AV)} {cs : List AV} [hu : Und P t (.slice e)] [he : ElF P e z k b] (hp : getParts st parts = some ps) (hk0 : Nat.blt 0 k = true) (hlen : Nat.ble (len * k) 16777216 = true) (h1 : onesB ps = true)
    (hf : fillAV (fun (i : Nat) => some (i * k, k)) (repl len (vcells z)) ps = some cs) (h2 : allOnes cs = true) (h3 : Nat.beq cs.length (len * k) = true) : OpEff P ⟨dst, .buildSlice t len parts.toArray, ty, pos, after, g⟩ st [] (fun ts r => ∃ l, ts = [(l, .row e k (chunk k cs len))] ∧ r = .own l 0 len) := by
  refine ⟨?_⟩
  intro S R a w hh ho next Q hk
  have hk0 : 0 < k := by simpa [Nat.blt_eq] using hk0
  have hlen := Nat.le_of_ble_eq_true hlen
  have h3 := Nat.eq_of_beq_eq_true h3
  obtain ⟨us, hrun, hr⟩ := run_buildSlice (P := P) (dst := dst) (ty := ty) (pos := pos) (after := after) (g := g) (t := t) (e := e) hk0 hlen hp h1 hf ho
  obtain ⟨N, hN⟩ := hh.free
  have hml : maxLen = 9223372036854775807 := rfl
  have hle : len ≤ len * k := Nat.le_mul_of_pos_right _ hk0
  have hf' := fresh_row (e := e) hN hh.top hh.low (Below.refl _ w) rfl (cur := us) (k := k) (t := len) (xs := chunk k cs len) (by rw [hr.1, h3]) (by rw [chunk_len]; exact Nat.le_refl _) (by omega) (fun i x hx => by
    obtain ⟨h4, rfl⟩ := chunk_get hx
    have hik : (i + 1) * k ≤ len * k := Nat.mul_le_mul_right _ (by omega)
    rw [Nat.add_mul] at hik
    refine ⟨by rw [List.length_take, List.length_drop, h3]; omega, fun j y hy => ?_⟩
    have hj := (List.getElem?_eq_some_iff.1 hy).1
    rw [List.length_take] at hj
    rw [List.getElem?_take, if_pos (by omega), List.getElem?_drop] at hy
    have hlt : i * k + j < us.size := by rw [hr.1]; exact (List.getElem?_eq_some_iff.1 hy).1
    refine ⟨List.all_eq_true.1 h2 y (List.mem_of_getElem? hy), us.getD (i * k + j) undef, ?_, hr.2 _ y hy⟩
    rw [Array.getElem?_eq_getElem hlt]
    simp [hlt])
  unfold Oper.wp
  rw [hrun]
  refine hk _ _ S _ _ _ ⟨N, rfl, rfl⟩ hf'.1 ?_ hf'.2
  exact .own bindL_same (Nat.le_refl _) (by omega) (by simp) (.inr (by simp)) ⟨_, rfl, rfl⟩

/-! ### Small ones -/
theorem ev_not {t : TypeId} {x : Operand} {p : Bool} (hx : st.get x = some (.val (.bool p))) : OpEv P ⟨dst, .unOp .not t x, ty, pos, after, g⟩ st (.val (.bool (!p))) :=
  ev_same fun S R a w _ ho => ⟨_, by
    have e1 := rep_val (ho x (by simp [Op.operands]) _ hx)
    simp [execOp, e1, Op.unary], .val _⟩
theorem ev_pick_b {c x y : Operand} {b p q : Bool} (hc : st.get c = some (.val (.bool b))) (hx : st.get x = some (.val (.bool p))) (hy : st.get y = some (.val (.bool q))) : OpEv P ⟨dst, .pick c x y, ty, pos, after, g⟩ st (.val (.bool (bif b then p else q))) :=
  ev_same fun S R a w _ ho => ⟨.bool (bif b then p else q), by
    have e1 := rep_val (ho c (by simp [Op.operands]) _ hc)
    have e2 := rep_val (ho x (by simp [Op.operands]) _ hx)
    have e3 := rep_val (ho y (by simp [Op.operands]) _ hy)
    cases b <;> simp [execOp, e1, e2, e3, asBool], .val _⟩
theorem ev_eqb {t t' : TypeId} {x y : Operand} {p q : Bool} [hu : Und P t .bool] (hx : st.get x = some (.val (.bool p))) (hy : st.get y = some (.val (.bool q))) : OpEv P ⟨dst, .binOp .eql t x y t', ty, pos, after, g⟩ st (.val (.bool (p == q))) :=
  ev_bin hx hy fun w => by
    have := run_equalIn_bool' (P := P) w 9999 t p q hu.h
    simp [eqGuard, binOp, Op.equal, Op.maxDepth, this]
theorem ev_neb {t t' : TypeId} {x y : Operand} {p q : Bool} [hu : Und P t .bool] (hx : st.get x = some (.val (.bool p))) (hy : st.get y = some (.val (.bool q))) : OpEv P ⟨dst, .binOp .neq t x y t', ty, pos, after, g⟩ st (.val (.bool (!(p == q)))) :=
  ev_bin hx hy fun w => by
    have := run_equalIn_bool' (P := P) w 9999 t p q hu.h
    simp [eqGuard, binOp, Op.equal, Op.maxDepth, this]
/-- Structs, by the type's own law. -/
theorem ev_eqa {t t' : TypeId} {x y : Operand} {cs ds : List AV} {r : Bool} (hx : st.get x = some (.agg cs)) (hy : st.get y = some (.agg ds)) (hg : P.eqGuardType P.depth t = false)
    (h : ∀ S R w (us vs : Array Value), RepV S R w (.agg cs) (.agg us) → RepV S R w (.agg ds) (.agg vs) → (Op.equal t (.agg us) (.agg vs)).run P w = .ok r w) : OpEv P ⟨dst, .binOp .eql t x y t', ty, pos, after, g⟩ st (.val (.bool r)) :=
  ev_same fun S R a w _ ho => by
    have h1 := ho x (by simp [Op.operands]) _ hx
    have h2 := ho y (by simp [Op.operands]) _ hy
    generalize hu : a.eval x = u at h1
    generalize hv : a.eval y = v at h2
    cases h1 with
    | agg hl1 hr1 =>
      cases h2 with
      | agg hl2 hr2 =>
        refine ⟨.bool r, ?_, .val _⟩
        have := h S R w _ _ (.agg hl1 hr1) (.agg hl2 hr2)
        simp [execOp, hu, hv, eqGuard, hg, binOp, this]
theorem ev_nea {t t' : TypeId} {x y : Operand} {cs ds : List AV} {r : Bool} (hx : st.get x = some (.agg cs)) (hy : st.get y = some (.agg ds)) (hg : P.eqGuardType P.depth t = false)
    (h : ∀ S R w (us vs : Array Value), RepV S R w (.agg cs) (.agg us) → RepV S R w (.agg ds) (.agg vs) → (Op.equal t (.agg us) (.agg vs)).run P w = .ok r w) : OpEv P ⟨dst, .binOp .neq t x y t', ty, pos, after, g⟩ st (.val (.bool (!r))) :=
  ev_same fun S R a w _ ho => by
    have h1 := ho x (by simp [Op.operands]) _ hx
    have h2 := ho y (by simp [Op.operands]) _ hy
    generalize hu : a.eval x = u at h1
    generalize hv : a.eval y = v at h2
    cases h1 with
    | agg hl1 hr1 =>
      cases h2 with
      | agg hl2 hr2 =>
        refine ⟨.bool (!r), ?_, .val _⟩
        have := h S R w _ _ (.agg hl1 hr1) (.agg hl2 hr2)
        simp [execOp, hu, hv, eqGuard, hg, binOp, this]

/-- A struct's plain cells as they lie. -/
theorem agg_vals {S : Nat → Prop} {R : Lab} {w : World} {vs : List Value} {us : Array Value} (h : RepV S R w (.agg (vs.map .val)) (.agg us)) : us = vs.toArray := by
  cases h with
  | agg hl hr =>
    apply Array.ext_getElem?
    intro i
    by_cases hi : i < vs.length
    · have hx : (vs.map AV.val)[i]? = some (.val vs[i]) := by simp [hi]
      have := rep_val (hr i _ hx)
      have hlt : i < us.size := by rw [hl]; simpa using hi
      rw [Array.getElem?_eq_getElem hlt]
      simp [hlt] at this
      simp [hi, this]
    · have h1 : us.size ≤ i := by rw [hl]; simpa using hi
      rw [Array.getElem?_eq_none h1]
      simp; omega

theorem ev_and {t t' : TypeId} {x y : Operand} {k : IntKind} {p q : Int} (hx : st.get x = some (.val (.int k p))) (hy : st.get y = some (.val (.int k q))) :
    OpEv P ⟨dst, .binOp .and t x y t', ty, pos, after, g⟩ st (.val (.int k (k.wrap ((BitVec.ofInt k.bits p &&& BitVec.ofInt k.bits q).toNat)))) := ev_bin hx hy fun w => by simp [eqGuard, binOp, Op.intBits]
theorem ev_or {t t' : TypeId} {x y : Operand} {k : IntKind} {p q : Int} (hx : st.get x = some (.val (.int k p))) (hy : st.get y = some (.val (.int k q))) :
    OpEv P ⟨dst, .binOp .or t x y t', ty, pos, after, g⟩ st (.val (.int k (k.wrap ((BitVec.ofInt k.bits p ||| BitVec.ofInt k.bits q).toNat)))) := ev_bin hx hy fun w => by simp [eqGuard, binOp, Op.intBits]
theorem ev_rem {t t' : TypeId} {x y : Operand} {k : IntKind} {p q : Int} (hx : st.get x = some (.val (.int k p))) (hy : st.get y = some (.val (.int k q))) (h0 : q ≠ 0) :
    OpEv P ⟨dst, .binOp .rem t x y t', ty, pos, after, g⟩ st (.val (.int k (p.tmod q))) := ev_bin hx hy fun w => by simp [eqGuard, binOp, Op.intDiv, h0]
theorem ev_quo {t t' : TypeId} {x y : Operand} {k : IntKind} {p q : Int} (hx : st.get x = some (.val (.int k p))) (hy : st.get y = some (.val (.int k q))) (h0 : q ≠ 0) :
    OpEv P ⟨dst, .binOp .quo t x y t', ty, pos, after, g⟩ st (.val (.int k (k.wrap (p.tdiv q)))) := ev_bin hx hy fun w => by simp [eqGuard, binOp, Op.intDiv, h0]

theorem ev_conv_int {src d : TypeId} {x : Operand} {k k' k2 : IntKind} {p : Int} [hs : Und P src (.int k2)] [hd : Und P d (.int k')] (hx : st.get x = some (.val (.int k p))) : OpEv P ⟨dst, .convert src d x, ty, pos, after, g⟩ st (.val (.int k' (k'.wrap p))) :=
  ev_same fun S R a w _ ho => ⟨_, by
    have e1 := rep_val (ho x (by simp [Op.operands]) _ hx)
    simp [execOp, convert, run_underlying hs.h, run_underlying hd.h, e1, Conv.intToInt], .val _⟩
theorem ev_conv_str {src d : TypeId} {x : Operand} {s : ByteArray} [hs : Und P src .string] [hd : Und P d .string] (hx : st.get x = some (.val (.string s))) : OpEv P ⟨dst, .convert src d x, ty, pos, after, g⟩ st (.val (.string s)) :=
  ev_same fun S R a w _ ho => ⟨_, by
    have e1 := rep_val (ho x (by simp [Op.operands]) _ hx)
    simp [execOp, convert, run_underlying hs.h, run_underlying hd.h, e1], .val _⟩

/-- Bytes as cells. -/
def bcells (ns : List Int) : List (List AV) := ns.map fun n => [.val (.int .u8 n)]
def ofInts (ns : List Int) : ByteArray := ⟨(ns.map fun n => UInt8.ofNat n.toNat).toArray⟩

theorem run_conv_bytes {src d e : TypeId} [hs : Und P src (.slice e)] [he : Und P e (.int .u8)] [hd : Und P d .string] {w : World} {a : Option Addr} {n c : Nat} {ns : List Int} (hl : ns.length = n) (h : 0 < n → ∃ ad, a = some ad ∧ ∀ (j : Nat) (p : Int), ns[j]? = some p → w.cell? (ad.add j) = some (.int .u8 p)) :
    (convert src d (.slice a n c)).run P w = .ok (.string (ofInts ns)) w := by
  have hconv : (convert src d (.slice a n c)).run P w = (Conv.bytesToString (.slice a n c)).run P w := by simp [convert, run_underlying hs.h, run_underlying hd.h, run_underlying he.h]
  rw [hconv]
  have hcat : ∀ (ns : List Int) (s : ByteArray), (ns.foldl (fun (r : ByteArray) n => r.push (UInt8.ofNat n.toNat)) s) = s ++ ofInts ns := by
    intro ns
    induction ns with
    | nil => intro s; apply ByteArray.ext; apply Array.ext'; simp [ofInts]
    | cons n ns ih =>
      intro s
      rw [List.foldl_cons, ih]
      apply ByteArray.ext
      apply Array.ext'
      simp [ofInts, ByteArray.push]
  cases a with
  | none =>
    have hn0 : n = 0 := by
      rcases Nat.eq_zero_or_pos n with h0 | h0
      · exact h0
      · obtain ⟨ad, h1, _⟩ := h h0; cases h1
    subst hn0
    have : ns = [] := List.eq_nil_of_length_eq_zero hl
    subst this
    simp [Conv.bytesToString, ofInts]; rfl
  | some ad =>
    have hload : (loadCells ad n).run P w = .ok (ns.map (Value.int .u8)).toArray w := by
      have := run_loadCells_list (P := P) (w := w) ad (ns.map (Value.int .u8)) (fun j v hv => by
        simp only [List.getElem?_map, Option.map_eq_some_iff] at hv
        obtain ⟨p, hp, rfl⟩ := hv
        have hlt := (List.getElem?_eq_some_iff.1 hp).1
        obtain ⟨ad', e1, hc⟩ := h (by omega)
        cases e1
        exact hc j p hp)
      simpa [hl] using this
    simp only [Conv.bytesToString, Sem.run_bind, hload, Result.andThen_ok]
    rw [← Array.forIn_toList]
    have hce := hcat ns ByteArray.empty
    have he0 : ByteArray.empty ++ ofInts ns = ofInts ns := by simp
    rw [he0] at hce
    simp [hce]
end

end Go.Proofs.YtmenbolalghljaaA
