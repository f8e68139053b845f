/- Pointers through unsafe.Pointer (strings.Builder's copyCheck), slices' conversions, row makers. -/
import Derived.Test.YtmenbolalghljaaAw15
import Derived.Lib.Builder
import Derived.Laws.Externs
set_option linter.unusedVariables false
namespace Go.Proofs.YtmenbolalghljaaA
open Go.RowKit

section
variable {P : Program} {st : St} {dst : Option Tmp} {ty : TypeId} {pos : String} {after : Array Edge} {g : Option (Nat × Bool)}

theorem rowAt_shift {fits : TypeId → Bool} {d : Nat} {e : TypeId} {i r count : Nat} (hr : r < P.cellsOf e) (hi : i < count) (h : rowAt P fits (d + 1) e 1 r 1 = true) : rowAt P fits (d + 1) e count (i * P.cellsOf e + r) 1 = true := by
  have h0 : P.cellsOf e ≠ 0 := by omega
  have e1 : (i * P.cellsOf e + r) % P.cellsOf e = r := by rw [Nat.mul_comm, Nat.mul_add_mod, Nat.mod_eq_of_lt hr]
  have e2 : (i * P.cellsOf e + r) / P.cellsOf e = i := by rw [Nat.mul_comm, Nat.mul_add_div (by omega), Nat.div_eq_of_lt hr]; rfl
  have e3 : r % P.cellsOf e = r := Nat.mod_eq_of_lt hr
  have e4 : r / P.cellsOf e = 0 := Nat.div_eq_of_lt hr
  rw [rowAt] at h ⊢
  simp only [if_neg h0, e1, e2, e3, e4, Bool.or_eq_true, Bool.and_eq_true, decide_eq_true_eq] at h ⊢
  rcases h with ⟨⟨h1, h2⟩, h3⟩ | ⟨h1, h2⟩
  · exact .inl ⟨⟨h1, by omega⟩, h3⟩
  · exact .inr ⟨hi, h2⟩

/-- Where a pointer into a row points. -/
theorem ptr_place {S : Nat → Prop} {R : Lab} {w : World} {l i j k : Nat} {e : TypeId} {xs : List (List AV)} {v : Value} (htok : TokHolds S R w l (.row e k xs)) (hv : RepV S R w (.ptr l i j) v) (hi : i < xs.length) (hj : j < k) :
    ∃ g b t, v = .pointer (some ⟨g, b * k + j, none⟩) ∧ w.shape? g = some (e, t * k) ∧ b < t := by
  cases hv with
  | ptr h =>
    rename_i q
    simp only [TokHolds, h] at htok
    obtain ⟨rfl, cur, fr, hg, hfr, hcur, hb, hm, hrow⟩ := htok
    exact ⟨q.g, q.b + i, q.t, rfl, by simp [World.shape?, hg, hcur], by omega⟩

theorem ev_to_unsafe {src d t e : TypeId} {x : Operand} {l i j k kt bt : Nat} {z : Value} {xs : List (List AV)} {r : List (Nat × Tok)} [hs : Und P src (.pointer t)] (hd : P.underlying d = some .unsafePointer) [he : ElF P t z kt bt] (h0 : Nat.blt 0 kt = true) (hx : st.get x = some (.ptr l i j)) (ht : Take st.toks l (.row e k xs) r) (hi : i < xs.length) (hj : Nat.blt j k = true) :
    OpEv P ⟨dst, .convert src d x, ty, pos, after, g⟩ st (.ptr l i j) :=
  ev_same fun S R a w hh ho => by
    have hr := ho x (by simp [Op.operands]) _ hx
    have htok := hh.tok l _ (ht.perm.mem_iff.2 List.mem_cons_self)
    have hj' : j < k := by simpa [Nat.blt_eq] using hj
    have h0' : 0 < kt := by simpa [Nat.blt_eq] using h0
    obtain ⟨g', b, t', hv, hsh, hb⟩ := ptr_place htok hr hi hj'
    obtain ⟨inf, hinf, _, hsz, _⟩ := he.h
    refine ⟨_, ?_, hr⟩
    rw [hv]
    have := Lib.run_to_unsafe (P := P) w (src := src) (dst := d) (t := t) (j := inf) (e := e) (cells := t' * k) ⟨g', b * k + j, none⟩ hs.h hd hinf (by rw [hsz]; omega) hsh (by
      show b * k + j < t' * k
      calc b * k + j < b * k + k := by omega
        _ = (b + 1) * k := by rw [Nat.add_mul]; omega
        _ ≤ t' * k := Nat.mul_le_mul_right _ (by omega))
    simp [execOp, hv, this]

theorem ev_from_unsafe {src d u e : TypeId} {x : Operand} {l i j k kt bt : Nat} {z : Value} {xs : List (List AV)} {r : List (Nat × Tok)} (hs : P.underlying src = some .unsafePointer) [hd : Und P d (.pointer u)] [he : ElF P u z kt bt] (hk : P.cellsOf e = k) (hrow : rowAt P (sameLayout P P.depth · u) P.depth e 1 j 1 = true)
    (hx : st.get x = some (.ptr l i j)) (ht : Take st.toks l (.row e k xs) r) (hi : i < xs.length) (hj : Nat.blt j k = true) : OpEv P ⟨dst, .convert src d x, ty, pos, after, g⟩ st (.ptr l i j) :=
  ev_same fun S R a w hh ho => by
    have hr := ho x (by simp [Op.operands]) _ hx
    have htok := hh.tok l _ (ht.perm.mem_iff.2 List.mem_cons_self)
    have hj' : j < k := by simpa [Nat.blt_eq] using hj
    obtain ⟨g', b, t', hv, hsh, hb⟩ := ptr_place htok hr hi hj'
    obtain ⟨inf, hinf, _, hsz, _⟩ := he.h
    refine ⟨_, ?_, hr⟩
    rw [hv]
    have hdd : P.depth = (2 * (P.types.size + Made.depth) + 1) + 1 := rfl
    have hlies : liesAt P P.depth e (t' * k / P.cellsOf e) (b * k + j) u 1 = true := by
      have e1 : t' * k / P.cellsOf e = t' := by rw [hk, Nat.mul_div_cancel _ (by omega)]
      rw [e1]
      have h1 : rowAt P (sameLayout P P.depth · u) P.depth e t' (b * k + j) 1 = true := by
        rw [← hk]
        exact rowAt_shift (by rw [hk]; exact hj') hb hrow
      have hun : liesAt P P.depth e t' (b * k + j) u 1 = (rowAt P (sameLayout P P.depth · u) P.depth e t' (b * k + j) 1 || match P.underlying u with
        | some (.array m u') => liesAt P (2 * (P.types.size + Made.depth) + 1) e t' (b * k + j) u' (1 * m)
        | _ => false) := rfl
      rw [hun, h1]
      rfl
    have := Lib.run_from_unsafe (P := P) w (src := src) (dst := d) (u := u) (j := inf) (e := e) (cells := t' * k) ⟨g', b * k + j, none⟩ hs hd.h hinf hsh hlies
    simp [execOp, hv, this]

/-- A function without a body that gives its argument back. -/
theorem ev_same_call {f : FuncId} {x : Operand} {tys : Array TypeId} {y : AV} (hf : ∀ v w, (callFunc f #[v]).run P w = .ok (.value v) w) (hx : st.get x = some y) : OpEv P ⟨dst, .call ⟨.value (.func f), #[x], tys⟩, ty, pos, after, g⟩ st y :=
  ev_same fun S R a w hh ho => by
    have hr := ho x (by simp [Op.operands, Call.operands]) _ hx
    refine ⟨_, ?_, hr⟩
    have hc : a.eval (.func f) = .func (.func f) #[] #[] := rfl
    simp [execOp, resolve, invoke, hc, Deferred.ofValue, hf]

/-- A pointer against itself. -/
theorem ev_neq_ptr_same {t t' e : TypeId} {x y : Operand} {l i j kt bt : Nat} {z : Value} [hu : Und P t (.pointer e)] [he : ElF P e z kt bt] (hx : st.get x = some (.ptr l i j)) (hy : st.get y = some (.ptr l i j)) : OpEv P ⟨dst, .binOp .neq t x y t', ty, pos, after, g⟩ st (.val (.bool false)) :=
  ev_same fun S R a w hh ho => by
    have h1 := ho x (by simp [Op.operands]) _ hx
    have h2 := ho y (by simp [Op.operands]) _ hy
    generalize hu1 : a.eval x = u at h1
    generalize hv1 : a.eval y = v at h2
    cases h1 with
    | ptr g1 =>
      cases h2 with
      | ptr g2 =>
        rw [g1] at g2
        cases g2
        rename_i q
        obtain ⟨inf, hinf, _⟩ := he.h
        refine ⟨.bool false, ?_, .val _⟩
        have := Lib.run_neq_ptr_same (P := P) w (tp := t) (te := e) (j := inf) ⟨q.g, (q.b + i) * q.k + j, none⟩ hu.h hinf
        simp [execOp, hu1, hv1, eqGuard, this]
end

end Go.Proofs.YtmenbolalghljaaA
