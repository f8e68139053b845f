/- '==' of structs, cell by cell. -/
import Derived.Test.YtmenbolalghljaaAw10
import Derived.Laws.StructEq
set_option linter.unusedVariables false
namespace Go.Proofs.YtmenbolalghljaaA
open Go.RowKit

inductive CK where
  | str
  | int (k : IntKind)
  | bool

def fit1 : CK → Value → Bool
  | .str, .string _ => true
  | .int k, .int k' _ => k == k'
  | .bool, .bool _ => true
  | _, _ => false

def fitsB : List CK → List Value → Bool
  | [], [] => true
  | c :: cs, v :: vs => fit1 c v && fitsB cs vs
  | _, _ => false

def eqV : Value → Value → Bool
  | .string a, .string b => a.toList == b.toList
  | .int _ a, .int _ b => a == b
  | .bool a, .bool b => a == b
  | _, _ => false

def eqVs : List Value → List Value → Bool
  | [], [] => true
  | x :: xs, y :: ys => eqV x y && eqVs xs ys
  | _, _ => false

def mkV (ag : Bool) (us : List Value) : Value :=
  match ag, us with
  | false, [v] => v
  | _, us => .agg us.toArray

theorem fitsB_len : ∀ {ks : List CK} {us : List Value}, fitsB ks us = true → us.length = ks.length
  | [], [], _ => rfl
  | c :: cs, v :: vs, h => by
    simp only [fitsB, Bool.and_eq_true] at h
    simp [fitsB_len h.2]
theorem fitsB_app : ∀ {ks1 ks2 : List CK} {us : List Value}, fitsB (ks1 ++ ks2) us = true → fitsB ks1 (us.take ks1.length) = true ∧ fitsB ks2 (us.drop ks1.length) = true
  | [], ks2, us, h => by simpa [fitsB] using h
  | c :: cs, ks2, v :: vs, h => by
    simp only [List.cons_append, fitsB, Bool.and_eq_true] at h
    obtain ⟨h1, h2⟩ := fitsB_app h.2
    simp [fitsB, h.1, h1, h2]
theorem eqVs_app : ∀ (xs ys us vs : List Value), xs.length = ys.length → eqVs (xs ++ us) (ys ++ vs) = (eqVs xs ys && eqVs us vs)
  | [], [], us, vs, _ => by simp [eqVs]
  | x :: xs, y :: ys, us, vs, h => by
    simp only [List.cons_append, eqVs, eqVs_app xs ys us vs (by simpa using h), Bool.and_assoc]

section
variable {P : Program}

def EqD (P : Program) (d : Nat) (t : TypeId) (ks : List CK) (ag : Bool) : Prop := ∀ (us vs : List Value) (w : World), fitsB ks us = true → fitsB ks vs = true → (Op.equalIn d t (mkV ag us) (mkV ag vs)).run P w = .ok (eqVs us vs) w
def EqFl (P : Program) (d : Nat) (fs : List Field) (off : Nat) (ks : List CK) : Prop := ∀ (xs ys us vs : List Value) (w : World), xs.length = off → ys.length = off → fitsB ks us = true → fitsB ks vs = true →
  (Op.eqFields d (xs ++ us).toArray (ys ++ vs).toArray fs).run P w = .ok (eqVs us vs) w

theorem fit_one {c : CK} {us : List Value} (h : fitsB [c] us = true) : ∃ v, us = [v] ∧ fit1 c v = true := by
  match us, h with
  | [v], h => exact ⟨v, rfl, by simpa [fitsB] using h⟩
  | v :: u :: r, h => simp [fitsB] at h
theorem fit_str {v : Value} (h : fit1 .str v = true) : ∃ s, v = .string s := by cases v <;> first | exact ⟨_, rfl⟩ | cases h
theorem fit_bool {v : Value} (h : fit1 .bool v = true) : ∃ s, v = .bool s := by cases v <;> first | exact ⟨_, rfl⟩ | cases h
theorem fit_int {k : IntKind} {v : Value} (h : fit1 (.int k) v = true) : ∃ n, v = .int k n := by
  cases v <;> first | (simp only [fit1, beq_iff_eq] at h; subst h; exact ⟨_, rfl⟩) | cases h

theorem eqd_str {d : Nat} {t : TypeId} [hu : Und P t .string] : EqD P (d + 1) t [.str] false := fun us vs w h1 h2 => by
  obtain ⟨u, rfl, g1⟩ := fit_one h1
  obtain ⟨v, rfl, g2⟩ := fit_one h2
  obtain ⟨u, rfl⟩ := fit_str g1
  obtain ⟨v, rfl⟩ := fit_str g2
  simp [mkV, eqVs, eqV, run_equalIn_string (P := P) w d t _ _ hu.h]
theorem eqd_bool {d : Nat} {t : TypeId} [hu : Und P t .bool] : EqD P (d + 1) t [.bool] false := fun us vs w h1 h2 => by
  obtain ⟨u, rfl, g1⟩ := fit_one h1
  obtain ⟨v, rfl, g2⟩ := fit_one h2
  obtain ⟨u, rfl⟩ := fit_bool g1
  obtain ⟨v, rfl⟩ := fit_bool g2
  simp [mkV, eqVs, eqV, run_equalIn_bool' (P := P) w d t _ _ hu.h]
theorem eqd_int {d : Nat} {t : TypeId} {k : IntKind} [hu : Und P t (.int k)] : EqD P (d + 1) t [.int k] false := fun us vs w h1 h2 => by
  obtain ⟨u, rfl, g1⟩ := fit_one h1
  obtain ⟨v, rfl, g2⟩ := fit_one h2
  obtain ⟨u, rfl⟩ := fit_int g1
  obtain ⟨v, rfl⟩ := fit_int g2
  simp [mkV, eqVs, eqV, run_equalIn_int (P := P) w d t _ _ _ _ hu.h]
theorem eqf_nil {d off : Nat} : EqFl P d [] off [] := fun xs ys us vs w _ _ h1 h2 => by
  match us, vs, h1, h2 with
  | [], [], _, _ => simp [Op.eqFields, eqVs]
theorem eqf_cons {d off : Nat} {f : Field} {fs : List Field} {ks1 ks2 : List CK} {ag : Bool} (hn : (f.name == "_") = false) (ho : f.offset = off) (he : EqD P d f.type ks1 ag) (hag : ∀ w, (isAgg f.type).run P w = .ok ag w) (hsz : ∀ w, (sizeOf f.type).run P w = .ok ks1.length w) (h1 : ag = false → ks1.length = 1)
    (hr : EqFl P d fs (off + ks1.length) ks2) : EqFl P d (f :: fs) off (ks1 ++ ks2) := fun xs ys us vs w hx hy hu hv => by
  obtain ⟨hu1, hu2⟩ := fitsB_app hu
  obtain ⟨hv1, hv2⟩ := fitsB_app hv
  have hul := fitsB_len hu
  have hvl := fitsB_len hv
  simp only [List.length_append] at hul hvl
  have hpart : ∀ (zs ws : List Value), zs.length = off → ks1.length ≤ ws.length → (part f.type (zs ++ ws).toArray f.offset).run P w = .ok (mkV ag (ws.take ks1.length)) w := by
    intro zs ws hz hw
    subst ho
    cases ag with
    | true =>
      have : (zs ++ ws).toArray.extract f.offset (f.offset + ks1.length) = (ws.take ks1.length).toArray := by
        apply Array.ext'
        simp [← hz]
      simp only [part, Sem.run_bind, hag, Result.andThen_ok, if_true, hsz, Sem.run_pure, this, mkV]
    | false =>
      have hk := h1 rfl
      have hlt : 0 < ws.length := by omega
      obtain ⟨u, ws', rfl⟩ : ∃ u ws', ws = u :: ws' := by cases ws with
        | nil => simp at hlt
        | cons u ws' => exact ⟨u, ws', rfl⟩
      have : (zs ++ u :: ws').toArray[f.offset]? = some u := by simp [← hz]
      simp only [part, Sem.run_bind, hag, Result.andThen_ok, Bool.false_eq_true, if_false, this, Sem.run_pure, hk, List.take_succ_cons, List.take_zero, mkV]
  have hn' : f.name ≠ "_" := by simpa using hn
  rw [Op.eqFields, if_pos hn']
  simp only [Sem.run_bind, hpart xs us hx (by omega), hpart ys vs hy (by omega), Result.andThen_ok, he _ _ w hu1 hv1]
  have hrest := hr (xs ++ us.take ks1.length) (ys ++ vs.take ks1.length) (us.drop ks1.length) (vs.drop ks1.length) w (by simp; omega) (by simp; omega) hu2 hv2
  simp only [List.append_assoc, List.take_append_drop] at hrest
  have happ := eqVs_app (us.take ks1.length) (vs.take ks1.length) (us.drop ks1.length) (vs.drop ks1.length) (by simp; omega)
  simp only [List.take_append_drop] at happ
  rw [happ]
  cases eqVs (us.take ks1.length) (vs.take ks1.length)
  · simp
  · simpa using hrest
theorem eqd_struct {d : Nat} {t : TypeId} {fs : Array Field} {ks : List CK} (hu : P.underlying t = some (.struct fs)) (hs : P.stoodInHeld t = false) (h : EqFl P d fs.toList 0 ks) : EqD P (d + 1) t ks true := fun us vs w h1 h2 => by
  have hf : P.fieldsOf t = fs := by simp [Program.fieldsOf, hu]
  have e1 : mkV true us = .agg us.toArray := by unfold mkV; cases us <;> rfl
  have e2 : mkV true vs = .agg vs.toArray := by unfold mkV; cases vs <;> rfl
  rw [e1, e2, run_equalIn_struct (P := P) w d t _ _ (by rw [hf]; exact hu) hs, hf]
  exact h [] [] us vs w rfl rfl h1 h2

class EqT (P : Program) (t : TypeId) (ks : outParam (List CK)) : Prop where
  g : P.eqGuardType P.depth t = false
  h : EqD P 10000 t ks true

def plains : List AV → Option (List Value)
  | [] => some []
  | .val v :: r => match plains r with
    | some vs => some (v :: vs)
    | none => none
  | _ => none

theorem plains_map : ∀ {cs : List AV} {vs : List Value}, plains cs = some vs → cs = vs.map .val
  | [], vs, h => by cases h; rfl
  | .val v :: r, vs, h => by
    simp only [plains] at h
    split at h
    · rename_i ws hw
      cases h
      simp [plains_map hw]
    · cases h

variable {st : St} {dst : Option Tmp} {ty : TypeId} {pos : String} {after : Array Edge} {g : Option (Nat × Bool)}

theorem ev_eqt {t t' : TypeId} {x y : Operand} {cs ds : List AV} {us vs : List Value} {ks : List CK} [he : EqT P t ks] (hx : st.get x = some (.agg cs)) (hy : st.get y = some (.agg ds)) (h1 : plains cs = some us) (h2 : plains ds = some vs) (h3 : fitsB ks us = true) (h4 : fitsB ks vs = true) :
    OpEv P ⟨dst, .binOp .eql t x y t', ty, pos, after, g⟩ st (.val (.bool (eqVs us vs))) :=
  ev_eqa hx hy he.g fun S R w us' vs' hu hv => by
    rw [plains_map h1] at hu
    rw [plains_map h2] at hv
    rw [agg_vals hu, agg_vals hv]
    have e1 : ∀ zs : List Value, mkV true zs = .agg zs.toArray := fun zs => by unfold mkV; cases zs <;> rfl
    rw [← e1, ← e1]
    exact he.h us vs w h3 h4
theorem ev_net {t t' : TypeId} {x y : Operand} {cs ds : List AV} {us vs : List Value} {ks : List CK} [he : EqT P t ks] (hx : st.get x = some (.agg cs)) (hy : st.get y = some (.agg ds)) (h1 : plains cs = some us) (h2 : plains ds = some vs) (h3 : fitsB ks us = true) (h4 : fitsB ks vs = true) :
    OpEv P ⟨dst, .binOp .neq t x y t', ty, pos, after, g⟩ st (.val (.bool (!(eqVs us vs)))) :=
  ev_nea hx hy he.g fun S R w us' vs' hu hv => by
    rw [plains_map h1] at hu
    rw [plains_map h2] at hv
    rw [agg_vals hu, agg_vals hv]
    have e1 : ∀ zs : List Value, mkV true zs = .agg zs.toArray := fun zs => by unfold mkV; cases zs <;> rfl
    rw [← e1, ← e1]
    exact he.h us vs w h3 h4
end

end Go.Proofs.YtmenbolalghljaaA
