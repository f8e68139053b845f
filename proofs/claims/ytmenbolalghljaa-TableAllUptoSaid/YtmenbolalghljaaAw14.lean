/- More rules as they are used: reading a drawn region in an order, splitting at what is asked, comparisons as propositions. -/
import Derived.Test.YtmenbolalghljaaAw13
import Derived.Laws.Pointers
import Derived.Laws.Cover3
set_option linter.unusedVariables false
namespace Go.Proofs.YtmenbolalghljaaA
open Go.RowKit

section
variable {P : Program} {n : Nat} {ro : Option Nat} {G : CtxR P n ro} {l rest : List Oper} {sl : List (Nat × AV)} {ts : List (Nat × Tok)} {K : Kont}
variable {d : Nat} {op : Op} {ty : TypeId} {pos : String} {after : Array Edge}

/-! ### Splitting -/
theorem ar_split {m : Nat} {c : Bool} (he : OpEv P ⟨some d, op, ty, pos, after, none⟩ ⟨sl, ts⟩ (.val (.bool c))) (hd : Nat.blt d n = true) (h1 : c = true → AR G l (m - 1) rest ⟨(d, .val (.bool true)) :: sl, ts⟩ K) (h0 : c = false → AR G l (m - 1) rest ⟨(d, .val (.bool false)) :: sl, ts⟩ K) :
    AR G l m (⟨some d, op, ty, pos, after, none⟩ :: rest) ⟨sl, ts⟩ K := by
  cases c with
  | true => exact ar_ev he hd (h1 rfl)
  | false => exact ar_ev he hd (h0 rfl)
theorem ar_splitp {m : Nat} {p : Prop} {hp : Decidable p} (he : OpEv P ⟨some d, op, ty, pos, after, none⟩ ⟨sl, ts⟩ (.val (.bool (decide p)))) (hd : Nat.blt d n = true) (h1 : p → AR G l (m - 1) rest ⟨(d, .val (.bool true)) :: sl, ts⟩ K) (h0 : ¬ p → AR G l (m - 1) rest ⟨(d, .val (.bool false)) :: sl, ts⟩ K) :
    AR G l m (⟨some d, op, ty, pos, after, none⟩ :: rest) ⟨sl, ts⟩ K :=
  ar_split he hd (fun h => h1 (by simpa using h)) (fun h => h0 (by simpa using h))
theorem ar_tsplit {m d0 j : Nat} {b c : Bool} {o : Oper} (ho : l[j]? = some o) (hod : o.dst = some d0) (hx : look sl d0 = some (.val (.bool b))) (he : OpEv P ⟨some d, op, ty, pos, after, none⟩ ⟨sl, ts⟩ (.val (.bool c))) (hd : Nat.blt d n = true)
    (h1 : c = true → AR G l (m - 1) rest ⟨(d, .val (.bool true)) :: sl, ts⟩ K) (h0 : c = false → AR G l (m - 1) rest ⟨(d, .val (.bool false)) :: sl, ts⟩ K) : AR G l m (⟨some d, op, ty, pos, after, some (j, b)⟩ :: rest) ⟨sl, ts⟩ K := by
  cases c with
  | true => exact ar_take ho hod hx he hd (h1 rfl)
  | false => exact ar_take ho hod hx he hd (h0 rfl)
theorem ar_tsplitp {m d0 j : Nat} {b : Bool} {p : Prop} {hp : Decidable p} {o : Oper} (ho : l[j]? = some o) (hod : o.dst = some d0) (hx : look sl d0 = some (.val (.bool b))) (he : OpEv P ⟨some d, op, ty, pos, after, none⟩ ⟨sl, ts⟩ (.val (.bool (decide p)))) (hd : Nat.blt d n = true)
    (h1 : p → AR G l (m - 1) rest ⟨(d, .val (.bool true)) :: sl, ts⟩ K) (h0 : ¬ p → AR G l (m - 1) rest ⟨(d, .val (.bool false)) :: sl, ts⟩ K) : AR G l m (⟨some d, op, ty, pos, after, some (j, b)⟩ :: rest) ⟨sl, ts⟩ K :=
  ar_tsplit ho hod hx he hd (fun h => h1 (by simpa using h)) (fun h => h0 (by simpa using h))

theorem aw_condp {c : Operand} {A B : Code} {p : Prop} {hp : Decidable p} {st : St} (hc : st.get c = some (.val (.bool (decide p)))) (h1 : p → AW G A st K) (h0 : ¬ p → AW G B st K) : AW G (.cond c A B) st K := by
  by_cases h : p
  · exact aw_cond_t (by rw [hc]; simp [h]) (h1 h)
  · exact aw_cond_f (by rw [hc]; simp [h]) (h0 h)
theorem aw_condb {c : Operand} {A B : Code} {b : Bool} {st : St} (hc : st.get c = some (.val (.bool b))) (h1 : b = true → AW G A st K) (h0 : b = false → AW G B st K) : AW G (.cond c A B) st K := by
  cases b with
  | true => exact aw_cond_t hc (h1 rfl)
  | false => exact aw_cond_f hc (h0 rfl)

/-- A guarded operation that writes, its guard says yes. -/
theorem ar_tset {d0 j : Nat} {b : Bool} {o : Oper} {us rs : List (Nat × Tok)} {lab : Nat} {T : Tok} {r0 : AV} (ho : l[j]? = some o) (hod : o.dst = some d0) (hx : look sl d0 = some (.val (.bool b))) (he : OpEff P ⟨none, op, ty, pos, after, none⟩ ⟨sl, ts⟩ us (fun ts' r => ts' = [(lab, T)] ∧ r = r0)) (ht : Takes ts us rs)
    (h : AR G l 0 rest ⟨sl, (lab, T) :: rs⟩ K) : AR G l 0 (⟨none, op, ty, pos, after, some (j, b)⟩ :: rest) ⟨sl, ts⟩ K :=
  ar_of (awo_take ho hod hx (ar_set he ht h).awo)
theorem ar_teff {d0 j : Nat} {b : Bool} {o : Oper} {us rs : List (Nat × Tok)} {Post : List (Nat × Tok) → AV → Prop} (ho : l[j]? = some o) (hod : o.dst = some d0) (hx : look sl d0 = some (.val (.bool b))) (he : OpEff P ⟨some d, op, ty, pos, after, none⟩ ⟨sl, ts⟩ us Post) (ht : Takes ts us rs) (hd : Nat.blt d n = true)
    (h : ∀ ts' r, Post ts' r → AR G l 0 rest ⟨(d, r) :: sl, ts' ++ rs⟩ K) : AR G l 0 (⟨some d, op, ty, pos, after, some (j, b)⟩ :: rest) ⟨sl, ts⟩ K :=
  ar_of (awo_take ho hod hx (ar_eff he ht hd h).awo)
/-- No value is kept. -/
theorem ar_evn {x : AV} (he : OpEv P ⟨none, op, ty, pos, after, none⟩ ⟨sl, ts⟩ x) (h : AR G l 0 rest ⟨sl, ts⟩ K) : AR G l 0 (⟨none, op, ty, pos, after, none⟩ :: rest) ⟨sl, ts⟩ K := ar_of (awo_ev he rfl h.awo)
theorem ar_effn {us rs : List (Nat × Tok)} {Post : List (Nat × Tok) → AV → Prop} (he : OpEff P ⟨none, op, ty, pos, after, none⟩ ⟨sl, ts⟩ us Post) (ht : Takes ts us rs) (h : ∀ ts' r, Post ts' r → AR G l 0 rest ⟨sl, ts' ++ rs⟩ K) : AR G l 0 (⟨none, op, ty, pos, after, none⟩ :: rest) ⟨sl, ts⟩ K :=
  ar_of (awo_eff he ht rfl fun ts' r hp => (h ts' r hp).awo)

/-! ### A drawn region in an order -/
section
variable {bs : List Bool} {rs : List (Nat × Tok)} {i : Nat} {r : List Nat}

theorem tl_ev {x : AV} (ho : l[i]? = some ⟨some d, op, ty, pos, after, none⟩) (hb : bs.getD i false = true) (he : OpEv P ⟨some d, op, ty, pos, after, none⟩ ⟨sl, rs⟩ x) (hd : Nat.blt d n = true) (h : TL G l bs rs K r ((d, x) :: sl) ts) : TL G l bs rs K (i :: r) sl ts :=
  .ev ho hb (.plain rfl he) hd h
theorem tl_take {d0 j : Nat} {b : Bool} {o : Oper} {x : AV} (ho : l[i]? = some ⟨some d, op, ty, pos, after, some (j, b)⟩) (hb : bs.getD i false = true) (hj : l[j]? = some o) (hod : o.dst = some d0) (hx : look sl d0 = some (.val (.bool b))) (he : OpEv P ⟨some d, op, ty, pos, after, none⟩ ⟨sl, rs⟩ x) (hd : Nat.blt d n = true)
    (h : TL G l bs rs K r ((d, x) :: sl) ts) : TL G l bs rs K (i :: r) sl ts := .ev ho hb (.take rfl hj hod hx ⟨he.h⟩) hd h
theorem tl_skip {d0 j : Nat} {b : Bool} {u : Value} {o : Oper} (ho : l[i]? = some ⟨some d, op, ty, pos, after, some (j, b)⟩) (hb : bs.getD i false = true) (hj : l[j]? = some o) (hod : o.dst = some d0) (hx : look sl d0 = some (.val u)) (hn : skipB u b = true) (hd : Nat.blt d n = true)
    (h : TL G l bs rs K r ((d, .val undef) :: sl) ts) : TL G l bs rs K (i :: r) sl ts := .ev ho hb (.skip rfl hj hod hx hn) hd h
theorem tl_evw {x : AV} (ho : l[i]? = some ⟨some d, op, ty, pos, after, none⟩) (hb : bs.getD i false = false) (hna : isAl l i = false) (he : OpEv P ⟨some d, op, ty, pos, after, none⟩ ⟨sl, ts ++ rs⟩ x) (hd : Nat.blt d n = true) (h : TL G l bs rs K r ((d, x) :: sl) ts) : TL G l bs rs K (i :: r) sl ts :=
  .evw ho hb hna (.plain rfl he) hd h
theorem tl_new {us ts2 : List (Nat × Tok)} {T : Tok} {X : Nat → AV} (ho : l[i]? = some ⟨some d, op, ty, pos, after, none⟩) (hb : bs.getD i false = false) (hna : isAl l i = false) (he : OpEff P ⟨some d, op, ty, pos, after, none⟩ ⟨sl, []⟩ us (fun ts' r => ∃ lab, ts' = [(lab, T)] ∧ r = X lab)) (ht : Takes ts us ts2) (hd : Nat.blt d n = true)
    (h : ∀ lab, TL G l bs rs K r ((d, X lab) :: sl) ((lab, T) :: ts2)) : TL G l bs rs K (i :: r) sl ts :=
  .eff ho hb hna (.inl rfl) ht he hd fun ts' x ⟨lab, h1, h2⟩ => by subst h1; subst h2; exact h lab
theorem tl_set {us ts2 : List (Nat × Tok)} {lab : Nat} {T : Tok} {r0 : AV} (ho : l[i]? = some ⟨none, op, ty, pos, after, none⟩) (hb : bs.getD i false = false) (hna : isAl l i = false) (he : OpEff P ⟨none, op, ty, pos, after, none⟩ ⟨sl, []⟩ us (fun ts' r => ts' = [(lab, T)] ∧ r = r0)) (ht : Takes ts us ts2)
    (h : TL G l bs rs K r sl ((lab, T) :: ts2)) : TL G l bs rs K (i :: r) sl ts :=
  .eff ho hb hna (.inl rfl) ht he rfl fun ts' x ⟨h1, h2⟩ => by subst h1; subst h2; exact h
theorem tl_eff {us ts2 : List (Nat × Tok)} {Post : List (Nat × Tok) → AV → Prop} (ho : l[i]? = some ⟨some d, op, ty, pos, after, none⟩) (hb : bs.getD i false = false) (hna : isAl l i = false) (he : OpEff P ⟨some d, op, ty, pos, after, none⟩ ⟨sl, []⟩ us Post) (ht : Takes ts us ts2) (hd : Nat.blt d n = true)
    (h : ∀ ts' x, Post ts' x → TL G l bs rs K r ((d, x) :: sl) (ts' ++ ts2)) : TL G l bs rs K (i :: r) sl ts :=
  .eff ho hb hna (.inl rfl) ht he hd h
theorem tl_alloc {t : TypeId} {z : Value} {k b : Nat} (ho : l[i]? = some ⟨some d, .alloc t, ty, pos, after, none⟩) (hb : bs.getD i false = false) (he : ElF P t z k b) (hd : Nat.blt d n = true) (h : ∀ lab, TL G l bs rs K r ((d, .ptr lab 0 0) :: sl) ((lab, .row t k [vcells z]) :: ts)) : TL G l bs rs K (i :: r) sl ts :=
  .al ho hb he hd h
theorem tl_nil (h : Goes G K .normal ⟨sl, ts ++ rs⟩) : TL G l bs rs K [] sl ts := .nil h
theorem tl_split {c : Bool} (ho : l[i]? = some ⟨some d, op, ty, pos, after, none⟩) (hb : bs.getD i false = true) (he : OpEv P ⟨some d, op, ty, pos, after, none⟩ ⟨sl, rs⟩ (.val (.bool c))) (hd : Nat.blt d n = true) (h1 : c = true → TL G l bs rs K r ((d, .val (.bool true)) :: sl) ts)
    (h0 : c = false → TL G l bs rs K r ((d, .val (.bool false)) :: sl) ts) : TL G l bs rs K (i :: r) sl ts := by
  cases c with
  | true => exact tl_ev ho hb he hd (h1 rfl)
  | false => exact tl_ev ho hb he hd (h0 rfl)
end
end

/-! ### Comparisons as propositions -/
section
variable {P : Program} {st : St} {dst : Option Tmp} {ty : TypeId} {pos : String} {after : Array Edge} {g : Option (Nat × Bool)}

theorem ev_eqip {t t' : TypeId} {x y : Operand} {k : IntKind} {p q : Int} (hx : st.get x = some (.val (.int k p))) (hy : st.get y = some (.val (.int k q))) :
    OpEv P ⟨dst, .binOp .eql t x y t', ty, pos, after, g⟩ st (.val (.bool (decide (p = q)))) := ev_bin hx hy fun w => by simp [eqGuard, binOp, Op.intCmp]; rfl
theorem ev_neip {t t' : TypeId} {x y : Operand} {k : IntKind} {p q : Int} (hx : st.get x = some (.val (.int k p))) (hy : st.get y = some (.val (.int k q))) :
    OpEv P ⟨dst, .binOp .neq t x y t', ty, pos, after, g⟩ st (.val (.bool (decide (p ≠ q)))) := ev_bin hx hy fun w => by
  simp [eqGuard, binOp, Op.intCmp]
  by_cases h : p = q <;> simp [h]
theorem toList_beq (p q : ByteArray) : (p.toList == q.toList) = decide (p = q) := by
  have hh : ∀ b : ByteArray, b.toList = b.data.toList := fun b => ByteArray.toList_eq b
  rw [hh, hh]
  by_cases h : p = q
  · subst h; simp
  · have : p.data.toList ≠ q.data.toList := fun e => h (by cases p; cases q; simp at e; simp [e])
    rw [decide_eq_false h]
    exact beq_eq_false_iff_ne.2 this
theorem ev_eqsp {t t' : TypeId} {x y : Operand} {p q : ByteArray} (hx : st.get x = some (.val (.string p))) (hy : st.get y = some (.val (.string q))) :
    OpEv P ⟨dst, .binOp .eql t x y t', ty, pos, after, g⟩ st (.val (.bool (decide (p = q)))) := by
  have := ev_eqs (P := P) (dst := dst) (ty := ty) (pos := pos) (after := after) (g := g) (t := t) (t' := t') hx hy
  rwa [toList_beq] at this
theorem ev_nesp {t t' : TypeId} {x y : Operand} {p q : ByteArray} (hx : st.get x = some (.val (.string p))) (hy : st.get y = some (.val (.string q))) :
    OpEv P ⟨dst, .binOp .neq t x y t', ty, pos, after, g⟩ st (.val (.bool (decide (p ≠ q)))) := by
  have := ev_nes (P := P) (dst := dst) (ty := ty) (pos := pos) (after := after) (g := g) (t := t) (t' := t') hx hy
  rw [toList_beq] at this
  rwa [show decide (p ≠ q) = !decide (p = q) from decide_not]
theorem ev_notp {t : TypeId} {x : Operand} {p : Prop} {hp : Decidable p} (hx : st.get x = some (.val (.bool (decide p)))) : OpEv P ⟨dst, .unOp .not t x, ty, pos, after, g⟩ st (.val (.bool (decide (¬ p)))) := by
  have := ev_not (P := P) (dst := dst) (ty := ty) (pos := pos) (after := after) (g := g) (t := t) hx
  rwa [show decide (¬ p) = !decide p from decide_not]

theorem get_map {α β : Type} {ts : List α} {f : α → β} {i : Nat} {t : α} (h : ts[i]? = some t) : (ts.map f)[i]? = some (f t) := by simp [h]

/-- A number that is a place. -/
theorem idx_of {st : St} {x : Operand} {k : IntKind} {p : Int} {i : Nat} (h : st.get x = some (.val (.int k p))) (hp : p = (i : Int)) : st.get x = some (.val (.int k (i : Nat))) := by rw [h, hp]

/-! pointers and nil -/
def isPtr : AV → Bool
  | .ptr .. => true
  | .ip .. => true
  | _ => false

theorem rep_isptr {S : Nat → Prop} {R : Lab} {w : World} {x : AV} {v : Value} (h : RepV S R w x v) (hx : isPtr x = true) : ∃ ad, v = .pointer (some ad) := by
  cases h <;> first | exact ⟨_, rfl⟩ | cases hx

theorem ev_eqnil_p {t t' e : TypeId} {x : Operand} {y : AV} [hu : Und P t (.pointer e)] (hx : st.get x = some y) (hy : isPtr y = true) : OpEv P ⟨dst, .binOp .eql t x (.const (.pointer none)) t', ty, pos, after, g⟩ st (.val (.bool false)) :=
  ev_same fun S R a w _ ho => by
    obtain ⟨ad, hv⟩ := rep_isptr (ho x (by simp [Op.operands]) _ hx) hy
    have hpt : P.underlying t = some (.pointer (P.pointee t)) := by simp [Program.pointee, hu.h]
    refine ⟨.bool false, ?_, .val _⟩
    have := run_equal_pointer_nil (P := P) w t (some ad) hpt
    have hc : a.eval (.const (.pointer none)) = .pointer none := rfl
    simp [execOp, hv, eqGuard, binOp, hc, this]
theorem ev_nenil_p {t t' e : TypeId} {x : Operand} {y : AV} [hu : Und P t (.pointer e)] (hx : st.get x = some y) (hy : isPtr y = true) : OpEv P ⟨dst, .binOp .neq t x (.const (.pointer none)) t', ty, pos, after, g⟩ st (.val (.bool true)) :=
  ev_same fun S R a w _ ho => by
    obtain ⟨ad, hv⟩ := rep_isptr (ho x (by simp [Op.operands]) _ hx) hy
    have hpt : P.underlying t = some (.pointer (P.pointee t)) := by simp [Program.pointee, hu.h]
    refine ⟨.bool true, ?_, .val _⟩
    have := run_equal_pointer_nil (P := P) w t (some ad) hpt
    have hc : a.eval (.const (.pointer none)) = .pointer none := rfl
    simp [execOp, hv, eqGuard, binOp, hc, this]
theorem ev_eqnil_pv {t t' e : TypeId} {x : Operand} [hu : Und P t (.pointer e)] (hx : st.get x = some (.val (.pointer none))) : OpEv P ⟨dst, .binOp .eql t x (.const (.pointer none)) t', ty, pos, after, g⟩ st (.val (.bool true)) :=
  ev_same fun S R a w _ ho => by
    have hv := rep_val (ho x (by simp [Op.operands]) _ hx)
    have hpt : P.underlying t = some (.pointer (P.pointee t)) := by simp [Program.pointee, hu.h]
    refine ⟨.bool true, ?_, .val _⟩
    have := run_equal_pointer_nil (P := P) w t none hpt
    have hc : a.eval (.const (.pointer none)) = .pointer none := rfl
    simp [execOp, hv, eqGuard, binOp, hc, this]
theorem ev_nenil_pv {t t' e : TypeId} {x : Operand} [hu : Und P t (.pointer e)] (hx : st.get x = some (.val (.pointer none))) : OpEv P ⟨dst, .binOp .neq t x (.const (.pointer none)) t', ty, pos, after, g⟩ st (.val (.bool false)) :=
  ev_same fun S R a w _ ho => by
    have hv := rep_val (ho x (by simp [Op.operands]) _ hx)
    have hpt : P.underlying t = some (.pointer (P.pointee t)) := by simp [Program.pointee, hu.h]
    refine ⟨.bool false, ?_, .val _⟩
    have := run_equal_pointer_nil (P := P) w t none hpt
    have hc : a.eval (.const (.pointer none)) = .pointer none := rfl
    simp [execOp, hv, eqGuard, binOp, hc, this]

/-- Is a slice nil? If it is it has no elements. -/
theorem eff_eqnil_sl {t t' e : TypeId} {x : Operand} {k n : Nat} {xs : List (List AV)} [hu : Und P t (.slice e)] (hx : st.get x = some (.sl k xs n)) : OpEff P ⟨dst, .binOp .eql t x (.const (.slice none 0 0)) t', ty, pos, after, g⟩ st [] (fun ts r => ts = [] ∧ ∃ b : Bool, r = .val (.bool b) ∧ (b = true → xs = [])) := by
  refine ⟨?_⟩
  intro S R a w hh ho next Q hk
  have hr := ho x (by simp [Op.operands]) _ hx
  generalize hv : a.eval x = v at hr
  cases hr with
  | sl hn hc hm hkk ha h1 hF =>
    rename_i c ad F
    have hrun := run_equal_slice_nil (P := P) w t e ad n c hu.h
    have hex : (execOp a.eval ⟨dst, .binOp .eql t x (.const (.slice none 0 0)) t', ty, pos, after, g⟩).run P w = .ok (.value (.bool ad.isNone)) w := by
      have hc : a.eval (.const (.slice none 0 0)) = .slice none 0 0 := rfl
      simp [execOp, hv, eqGuard, binOp, hc, hrun]
    unfold Oper.wp
    rw [hex]
    refine hk _ _ S R w [] ⟨rfl, ad.isNone, rfl, fun hb => ?_⟩ hh (.val _) ⟨rfl, rfl, rfl, Nat.le_refl _, fun _ _ _ => rfl, fun _ h => h, fun _ h => .inl h, fun _ _ h => h, fun g hg => .inl hg, fun l' t' hm => (by cases hm)⟩
    by_cases hx0 : xs = []
    · exact hx0
    · obtain ⟨ad', rfl, _⟩ := ha hx0
      cases hb

/-! small ones -/
theorem ev_min {x y : Operand} {tys : Array TypeId} {k : IntKind} {p q : Int} (hx : st.get x = some (.val (.int k p))) (hy : st.get y = some (.val (.int k q))) : OpEv P ⟨dst, .call ⟨.builtin .min, #[x, y], tys⟩, ty, pos, after, g⟩ st (.val (.int k (min p q))) :=
  ev_same fun S R a w _ ho => by
    have e1 := rep_val (ho x (by simp [Op.operands, Call.operands]) _ hx)
    have e2 := rep_val (ho y (by simp [Op.operands, Call.operands]) _ hy)
    refine ⟨.int k (min p q), ?_, .val _⟩
    have := run_min_int2 (P := P) w tys ty k k p q
    have e3 : (if q < p then q else p) = min p q := by omega
    rw [e3] at this
    simp [execOp, resolve, invoke, builtin, e1, e2, this]
theorem ev_max {x y : Operand} {tys : Array TypeId} {k : IntKind} {p q : Int} (hx : st.get x = some (.val (.int k p))) (hy : st.get y = some (.val (.int k q))) : OpEv P ⟨dst, .call ⟨.builtin .max, #[x, y], tys⟩, ty, pos, after, g⟩ st (.val (.int k (max p q))) :=
  ev_same fun S R a w _ ho => by
    have e1 := rep_val (ho x (by simp [Op.operands, Call.operands]) _ hx)
    have e2 := rep_val (ho y (by simp [Op.operands, Call.operands]) _ hy)
    refine ⟨.int k (max p q), ?_, .val _⟩
    have := run_max_int2 (P := P) w tys ty k k p q
    have e3 : (if q > p then q else p) = max p q := by omega
    rw [e3] at this
    simp [execOp, resolve, invoke, builtin, e1, e2, this]
theorem ev_andNot {t t' : TypeId} {x y : Operand} {k : IntKind} {p q : Int} (hx : st.get x = some (.val (.int k p))) (hy : st.get y = some (.val (.int k q))) :
    OpEv P ⟨dst, .binOp .andNot t x y t', ty, pos, after, g⟩ st (.val (.int k (k.wrap ((BitVec.ofInt k.bits p &&& ~~~ BitVec.ofInt k.bits q).toNat)))) := ev_bin hx hy fun w => by simp [eqGuard, binOp, Op.intBits]
end

end Go.Proofs.YtmenbolalghljaaA
