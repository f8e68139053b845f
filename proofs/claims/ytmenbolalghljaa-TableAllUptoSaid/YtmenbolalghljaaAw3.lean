/- Regions; operations that only reckon and read. -/
import Derived.Test.YtmenbolalghljaaAw2
namespace Go.Proofs.YtmenbolalghljaaA
open Go.RowKit

/-! ### Regions -/
section
variable {P : Program} {n : Nat} {ro : Option Nat}

structure AWo (G : CtxR P n ro) (ops : Array Oper) (l : List Oper) (st : St) (K : Kont) : Prop where
  h : ∀ a w, Rel G st a w → wpListIn (fen ro) 0 P ops (lift G (K.at G)) l a w

theorem aw_region {G : CtxR P n ro} {id : Nat} {l : List Oper} {st : St} {K : Kont} (h : AWo G l.toArray l st K) : AW G (.region id l.toArray false) st K := ⟨fun a w hr => wpIn_region_lit (h.h a w hr)⟩
theorem awo_nil {G : CtxR P n ro} {ops : Array Oper} {st : St} {K : Kont} (h : Goes G K .normal st) : AWo G ops [] st K := ⟨fun _ _ hr => ⟨st, h.h, hr⟩⟩
theorem AWo.sub {G : CtxR P n ro} {ops : Array Oper} {l : List Oper} {st st' : St} {K : Kont} (hs : Sub st st') (h : AWo G ops l st' K) : AWo G ops l st K := ⟨fun a w hr => h.h a w (hr.sub hs)⟩
/-- What an operation that writes nothing old leaves. -/
structure Grow (S : Nat → Prop) (R : Lab) (w : World) (S' : Nat → Prop) (R' : Lab) (w' : World) : Prop where
  below : Below w.heap.size w w'
  st : ∀ b, S b → S' b
  st' : ∀ b, S' b → S b ∨ (w.heap.size ≤ b ∧ b < w'.heap.size)
  lab : ∀ l q, R l = some q → R' l = some q
  top : ∃ N, ∀ l, N ≤ l → R' l = none

theorem Grow.refl {S : Nat → Prop} {R : Lab} (w : World) (ht : ∃ N, ∀ l, N ≤ l → R l = none) : Grow S R w S R w := ⟨Below.refl _ _, fun _ h => h, fun _ h => .inl h, fun _ _ h => h, ht⟩

def OpsAt (S : Nat → Prop) (R : Lab) (w : World) (st : St) (a : Act) (op : Op) : Prop := ∀ x, x ∈ op.operands → ∀ y, st.get x = some y → RepV S R w y (a.eval x)

/-- The operation writes nothing old and gives x. -/
structure OpEv (P : Program) (o : Oper) (st : St) (x : AV) : Prop where
  h : ∀ (S : Nat → Prop) (R : Lab) (a : Act) (w : World), Holds S R w st.toks → OpsAt S R w st a o.op → ∀ (next : Act → World → Prop) (Q : Exit → Act → World → Prop),
    (∀ v S' R' w', Grow S R w S' R' w' → RepV S' R' w' x v → next (a.put o.dst v) w') → o.wp P a w next Q

theorem RelAt.grow {G : CtxR P n ro} {S S' : Nat → Prop} {R R' : Lab} {st : St} {a : Act} {w w' : World} (h : RelAt G S R st a w) (hg : Grow S R w S' R' w') : RelAt G S' R' st a w' := by
  have hw : ∀ b, b < w.heap.size → w'.heap[b]? = w.heap[b]? := hg.below.block
  refine ⟨h.holds.mono hg.st hg.st' hg.lab hg.top hg.below.size hw, h.slots.mono hg.st hg.lab (fun b hb => hw b (h.holds.low b hb)), ?_, h.defers, h.size⟩
  have o := h.out
  refine ⟨hg.below.os.trans o.os, hg.below.tape.trans o.tape, hg.below.output.trans o.output, Nat.le_trans o.size hg.below.size, fun b hb hf => (hw b (Nat.lt_of_lt_of_le hb o.size)).trans (o.block b hb hf),
    fun b hb => hg.st b (o.S0 b hb), fun b hb => ?_, fun l q hq => hg.lab l q (o.R0 l q hq), ?_, o.keys⟩
  · rcases hg.st' b hb with h1 | h1
    · exact o.S1 b h1
    · exact .inr (.inr (Nat.le_trans o.size h1.1))
  · rintro g ⟨l, t, ht, hb⟩
    rw [blkOf_mono hg.lab (h.holds.tok l t ht).bound] at hb
    exact o.foot g ⟨l, t, ht, hb⟩

def dstOk (dst : Option Tmp) (n : Nat) : Bool :=
  match dst with
  | some d => Nat.blt d n
  | none => true

theorem dstOk_lt {dst : Option Tmp} {n : Nat} (h : dstOk dst n = true) : ∀ d, dst = some d → d < n := fun d e => by
  subst e
  simpa [dstOk, Nat.blt_eq] using h

theorem opsAt {S : Nat → Prop} {R : Lab} {w : World} {st : St} {a : Act} (h : Slots S R w st.sl a) (op : Op) : OpsAt S R w st a op := fun _ _ _ hy => h.eval hy

theorem awo_ev {G : CtxR P n ro} {ops : Array Oper} {rest : List Oper} {dst : Option Tmp} {op : Op} {ty : TypeId} {pos : String} {after : Array Edge} {st : St} {K : Kont} {x : AV}
    (he : OpEv P ⟨dst, op, ty, pos, after, none⟩ st x) (hd : dstOk dst n = true) (h : AWo G ops rest ⟨putSl st.sl dst x, st.toks⟩ K) : AWo G ops (⟨dst, op, ty, pos, after, none⟩ :: rest) st K := by
  refine ⟨?_⟩
  rintro a w ⟨S, R, hr⟩
  refine wpListIn_plain rfl fun k hk => ?_
  refine oper_in (he.h S R a w hr.holds (opsAt hr.slots op) _ _ fun v S' R' w' hg hv => ⟨hk _ _ (h.h _ _ ?_), put_defers ..⟩)
  have hr' := hr.grow hg
  exact ⟨S', R', hr'.holds, hr'.slots.put hv (fun d e => by rw [hr.size]; exact dstOk_lt hd d e), hr'.out, (put_defers ..).trans hr.defers, (put_size ..).trans hr.size⟩

theorem rep_val {S : Nat → Prop} {R : Lab} {w : World} {u v : Value} (h : RepV S R w (.val u) v) : v = u := by cases h; rfl

theorem slot_lt {S : Nat → Prop} {R : Lab} {w : World} {a : Act} {d : Nat} {b : Bool} (hv : RepV S R w (.val (.bool b)) (a.tmps.getD d undef)) : a.tmps[d]? = some (.bool b) := by
  have hv := rep_val hv
  rcases Nat.lt_or_ge d a.tmps.size with h | h
  · rw [Array.getElem?_eq_getElem h]
    simpa [h] using hv
  · simp [Nat.not_lt.2 h, undef] at hv

/-- A guarded operation whose guard says yes. -/
theorem awo_take {G : CtxR P n ro} {ops : List Oper} {rest : List Oper} {dst : Option Tmp} {op : Op} {ty : TypeId} {pos : String} {after : Array Edge} {st : St} {K : Kont} {j d : Nat} {want : Bool} {o : Oper}
    (ho : ops[j]? = some o) (hod : o.dst = some d) (hx : look st.sl d = some (.val (.bool want))) (h : AWo G ops.toArray (⟨dst, op, ty, pos, after, none⟩ :: rest) st K) : AWo G ops.toArray (⟨dst, op, ty, pos, after, some (j, want)⟩ :: rest) st K := by
  refine ⟨?_⟩
  rintro a w ⟨S, R, hr⟩
  have hv := slot_lt (hr.slots d _ hx)
  have hy : yielded ops.toArray a.tmps j = some want := by simp [yielded, ho, hod, hv]
  have h' := h.h a w ⟨S, R, hr⟩
  unfold wpListIn at h' ⊢
  rw [if_pos (by simp [Region.wanted])] at h'
  rw [if_pos (by simp [Region.wanted, hy])]
  exact h'

theorem awo_skip {G : CtxR P n ro} {ops : List Oper} {rest : List Oper} {dst : Option Tmp} {op : Op} {ty : TypeId} {pos : String} {after : Array Edge} {st : St} {K : Kont} {j d : Nat} {want : Bool} {u : Value} {o : Oper}
    (ho : ops[j]? = some o) (hod : o.dst = some d) (hx : look st.sl d = some (.val u)) (hb : skipB u want = true) (hd : dstOk dst n = true) (h : AWo G ops.toArray rest ⟨putSl st.sl dst (.val undef), st.toks⟩ K) :
    AWo G ops.toArray (⟨dst, op, ty, pos, after, some (j, want)⟩ :: rest) st K := by
  refine ⟨?_⟩
  rintro a w ⟨S, R, hr⟩
  have hy : yielded ops.toArray a.tmps j ≠ some want := yielded_ne ho hod (rep_val (hr.slots d _ hx)) hb
  unfold wpListIn
  rw [if_neg (by simpa [Region.wanted] using hy)]
  exact ⟨fun _ _ => trivial, h.h _ _ ⟨S, R, hr.holds, hr.slots.put (.val undef) (fun d e => by rw [hr.size]; exact dstOk_lt hd d e), hr.out, (put_defers ..).trans hr.defers, (put_size ..).trans hr.size⟩⟩
end

/-! ### Operations that give a value in the same world -/
section
variable {P : Program} {st : St} {dst : Option Tmp} {ty : TypeId} {pos : String} {after : Array Edge} {g : Option (Nat × Bool)}

theorem ev_same {o : Oper} {x : AV} (h : ∀ S R a w, Holds S R w st.toks → OpsAt S R w st a o.op → ∃ v, (execOp a.eval o).run P w = .ok (.value v) w ∧ RepV S R w x v) : OpEv P o st x :=
  ⟨fun S R a w hh ho next Q hk => by
    obtain ⟨v, hrun, hv⟩ := h S R a w hh ho
    unfold Oper.wp
    rw [hrun]
    exact hk v S R w (.refl w hh.top) hv⟩

theorem ev_le {o : Oper} {x y : AV} (h : OpEv P o st x) (hl : Le x y) : OpEv P o st y := ⟨fun S R a w hh ho next Q hk => h.h S R a w hh ho next Q fun v S' R' w' hg hv => hk v S' R' w' hg (hl _ _ _ _ hv)⟩

theorem ev_move {x : Operand} {y : AV} (hx : st.get x = some y) : OpEv P ⟨dst, .move x, ty, pos, after, g⟩ st y :=
  ev_same fun S R a w _ ho => ⟨a.eval x, rfl, ho x (by simp [Op.operands]) y hx⟩
theorem ev_assign {x : Operand} {y : AV} (hx : st.get x = some y) : OpEv P ⟨dst, .assign x, ty, pos, after, g⟩ st y :=
  ev_same fun S R a w _ ho => ⟨a.eval x, rfl, ho x (by simp [Op.operands]) y hx⟩

theorem ev_pick_t {c x y : Operand} {z : AV} (hc : st.get c = some (.val (.bool true))) (hx : st.get x = some z) : OpEv P ⟨dst, .pick c x y, ty, pos, after, g⟩ st z :=
  ev_same fun S R a w _ ho => ⟨a.eval x, by
    have := rep_val (ho c (by simp [Op.operands]) _ hc)
    simp [execOp, this, asBool], ho x (by simp [Op.operands]) z hx⟩
theorem ev_pick_f {c x y : Operand} {z : AV} (hc : st.get c = some (.val (.bool false))) (hx : st.get y = some z) : OpEv P ⟨dst, .pick c x y, ty, pos, after, g⟩ st z :=
  ev_same fun S R a w _ ho => ⟨a.eval y, by
    have := rep_val (ho c (by simp [Op.operands]) _ hc)
    simp [execOp, this, asBool], ho y (by simp [Op.operands]) z hx⟩

/-- A binary operation on plain values. -/
theorem ev_bin {op : BinOp} {t t' : TypeId} {x y : Operand} {u v r : Value} (hx : st.get x = some (.val u)) (hy : st.get y = some (.val v))
    (h : ∀ w, ((do eqGuard op t x y u v; binOp op t u v : Sem Value)).run P w = .ok r w) : OpEv P ⟨dst, .binOp op t x y t', ty, pos, after, g⟩ st (.val r) :=
  ev_same fun S R a w _ ho => ⟨r, by
    have e1 := rep_val (ho x (by simp [Op.operands]) _ hx)
    have e2 := rep_val (ho y (by simp [Op.operands]) _ hy)
    have := h w
    simp only [execOp, e1, e2]
    rw [Sem.run_bind, this]
    rfl, .val _⟩

theorem ev_lss {t t' : TypeId} {x y : Operand} {k : IntKind} {p q : Int} (hx : st.get x = some (.val (.int k p))) (hy : st.get y = some (.val (.int k q))) :
    OpEv P ⟨dst, .binOp .lss t x y t', ty, pos, after, g⟩ st (.val (.bool (decide (p < q)))) := ev_bin hx hy fun w => by simp [eqGuard, binOp, Op.intCmp]
theorem ev_leq {t t' : TypeId} {x y : Operand} {k : IntKind} {p q : Int} (hx : st.get x = some (.val (.int k p))) (hy : st.get y = some (.val (.int k q))) :
    OpEv P ⟨dst, .binOp .leq t x y t', ty, pos, after, g⟩ st (.val (.bool (decide (p ≤ q)))) := ev_bin hx hy fun w => by simp [eqGuard, binOp, Op.intCmp]
theorem ev_gtr {t t' : TypeId} {x y : Operand} {k : IntKind} {p q : Int} (hx : st.get x = some (.val (.int k p))) (hy : st.get y = some (.val (.int k q))) :
    OpEv P ⟨dst, .binOp .gtr t x y t', ty, pos, after, g⟩ st (.val (.bool (decide (p > q)))) := ev_bin hx hy fun w => by simp [eqGuard, binOp, Op.intCmp]
theorem ev_geq {t t' : TypeId} {x y : Operand} {k : IntKind} {p q : Int} (hx : st.get x = some (.val (.int k p))) (hy : st.get y = some (.val (.int k q))) :
    OpEv P ⟨dst, .binOp .geq t x y t', ty, pos, after, g⟩ st (.val (.bool (decide (p ≥ q)))) := ev_bin hx hy fun w => by simp [eqGuard, binOp, Op.intCmp]
theorem ev_eqi {t t' : TypeId} {x y : Operand} {k : IntKind} {p q : Int} (hx : st.get x = some (.val (.int k p))) (hy : st.get y = some (.val (.int k q))) :
    OpEv P ⟨dst, .binOp .eql t x y t', ty, pos, after, g⟩ st (.val (.bool (p == q))) := ev_bin hx hy fun w => by simp [eqGuard, binOp, Op.intCmp]
theorem ev_nei {t t' : TypeId} {x y : Operand} {k : IntKind} {p q : Int} (hx : st.get x = some (.val (.int k p))) (hy : st.get y = some (.val (.int k q))) :
    OpEv P ⟨dst, .binOp .neq t x y t', ty, pos, after, g⟩ st (.val (.bool (p != q))) := ev_bin hx hy fun w => by simp [eqGuard, binOp, Op.intCmp]
theorem ev_addw {t t' : TypeId} {x y : Operand} {k : IntKind} {p q : Int} (hx : st.get x = some (.val (.int k p))) (hy : st.get y = some (.val (.int k q))) :
    OpEv P ⟨dst, .binOp .add t x y t', ty, pos, after, g⟩ st (.val (.int k (k.wrap (p + q)))) := ev_bin hx hy fun w => by simp [eqGuard, binOp, Op.intArith]
theorem ev_subw {t t' : TypeId} {x y : Operand} {k : IntKind} {p q : Int} (hx : st.get x = some (.val (.int k p))) (hy : st.get y = some (.val (.int k q))) :
    OpEv P ⟨dst, .binOp .sub t x y t', ty, pos, after, g⟩ st (.val (.int k (k.wrap (p - q)))) := ev_bin hx hy fun w => by simp [eqGuard, binOp, Op.intArith]
theorem ev_mulw {t t' : TypeId} {x y : Operand} {k : IntKind} {p q : Int} (hx : st.get x = some (.val (.int k p))) (hy : st.get y = some (.val (.int k q))) :
    OpEv P ⟨dst, .binOp .mul t x y t', ty, pos, after, g⟩ st (.val (.int k (k.wrap (p * q)))) := ev_bin hx hy fun w => by simp [eqGuard, binOp, Op.intArith]
theorem i64_id {p : Int} (h1 : -9223372036854775808 ≤ p) (h2 : p ≤ 9223372036854775807) : IntKind.i64.wrap p = p := by
  simp only [IntKind.wrap, IntKind.signed, IntKind.bits]
  simp
  omega
theorem ev_add {t t' : TypeId} {x y : Operand} {p q : Int} (hx : st.get x = some (.val (.int .i64 p))) (hy : st.get y = some (.val (.int .i64 q))) (h1 : -9223372036854775808 ≤ p + q) (h2 : p + q ≤ 9223372036854775807) :
    OpEv P ⟨dst, .binOp .add t x y t', ty, pos, after, g⟩ st (.val (.int .i64 (p + q))) := by
  have := ev_addw (P := P) (dst := dst) (ty := ty) (pos := pos) (after := after) (g := g) (t := t) (t' := t') hx hy
  rwa [i64_id h1 h2] at this
theorem ev_sub {t t' : TypeId} {x y : Operand} {p q : Int} (hx : st.get x = some (.val (.int .i64 p))) (hy : st.get y = some (.val (.int .i64 q))) (h1 : -9223372036854775808 ≤ p - q) (h2 : p - q ≤ 9223372036854775807) :
    OpEv P ⟨dst, .binOp .sub t x y t', ty, pos, after, g⟩ st (.val (.int .i64 (p - q))) := by
  have := ev_subw (P := P) (dst := dst) (ty := ty) (pos := pos) (after := after) (g := g) (t := t) (t' := t') hx hy
  rwa [i64_id h1 h2] at this
/-- A counter goes on. -/
theorem ev_inc {t t' : TypeId} {x : Operand} {k : Nat} (hx : st.get x = some (.val (.int .i64 (k : Nat)))) (h2 : k < 9223372036854775807) :
    OpEv P ⟨dst, .binOp .add t x (.const (.int .i64 1)) t', ty, pos, after, g⟩ st (.val (.int .i64 ((k + 1 : Nat) : Int))) := by
  have := ev_add (P := P) (dst := dst) (ty := ty) (pos := pos) (after := after) (g := g) (t := t) (t' := t') hx (y := .const (.int .i64 1)) rfl (by omega) (by omega)
  simpa using this

theorem ev_eqs {t t' : TypeId} {x y : Operand} {p q : ByteArray} (hx : st.get x = some (.val (.string p))) (hy : st.get y = some (.val (.string q))) :
    OpEv P ⟨dst, .binOp .eql t x y t', ty, pos, after, g⟩ st (.val (.bool (p.toList == q.toList))) := ev_bin hx hy fun w => by simp [eqGuard, binOp, Op.stringOp]
theorem ev_nes {t t' : TypeId} {x y : Operand} {p q : ByteArray} (hx : st.get x = some (.val (.string p))) (hy : st.get y = some (.val (.string q))) :
    OpEv P ⟨dst, .binOp .neq t x y t', ty, pos, after, g⟩ st (.val (.bool (!(p.toList == q.toList)))) := ev_bin hx hy fun w => by simp [eqGuard, binOp, Op.stringOp]
theorem ev_cat {t t' : TypeId} {x y : Operand} {p q : ByteArray} (hx : st.get x = some (.val (.string p))) (hy : st.get y = some (.val (.string q))) (h : p.size + q.size ≤ 9223372036854775807) :
    OpEv P ⟨dst, .binOp .add t x y t', ty, pos, after, g⟩ st (.val (.string (p ++ q))) := ev_bin hx hy fun w => by
  simp [eqGuard, binOp, Op.stringOp, IntKind.max, IntKind.signed, IntKind.bits]
  omega
end

end Go.Proofs.YtmenbolalghljaaA
