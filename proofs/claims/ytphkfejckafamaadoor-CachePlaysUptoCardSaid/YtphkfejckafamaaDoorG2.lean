import Derived.Test.YtphkfejckafamaaDoorG1
import Derived.Laws.StructEq
import Derived.Laws.Pointers
import Derived.Laws.Cover3
import Derived.Lib.UnsafeStr
import Derived.Lib.Builder
import Derived.Laws.Externs
/- '==' of structs, cell by cell. -/
set_option linter.unusedVariables false
namespace Go.Proofs.YtphkfejckafamaaDoorA
open Go.RowKit

inductive CK where
  | str
  | int (k : IntKind)
  | bool

def fit1 : CK → Value → Bool
  | .str, .string _ => true
  | .int k, .int k' _ => k == k'
  | .bool, .bool _ => true
  | _, _ => false

def fitsB : List CK → List Value → Bool
  | [], [] => true
  | c :: cs, v :: vs => fit1 c v && fitsB cs vs
  | _, _ => false

def eqV : Value → Value → Bool
  | .string a, .string b => a.toList == b.toList
  | .int _ a, .int _ b => a == b
  | .bool a, .bool b => a == b
  | _, _ => false

def eqVs : List Value → List Value → Bool
  | [], [] => true
  | x :: xs, y :: ys => eqV x y && eqVs xs ys
  | _, _ => false

def mkV (ag : Bool) (us : List Value) : Value :=
  match ag, us with
  | false, [v] => v
  | _, us => .agg us.toArray

theorem fitsB_len : ∀ {ks : List CK} {us : List Value}, fitsB ks us = true → us.length = ks.length
  | [], [], _ => rfl
  | c :: cs, v :: vs, h => by
    simp only [fitsB, Bool.and_eq_true] at h
    simp [fitsB_len h.2]
theorem fitsB_app : ∀ {ks1 ks2 : List CK} {us : List Value}, fitsB (ks1 ++ ks2) us = true → fitsB ks1 (us.take ks1.length) = true ∧ fitsB ks2 (us.drop ks1.length) = true
  | [], ks2, us, h => by simpa [fitsB] using h
  | c :: cs, ks2, v :: vs, h => by
    simp only [List.cons_append, fitsB, Bool.and_eq_true] at h
    obtain ⟨h1, h2⟩ := fitsB_app h.2
    simp [fitsB, h.1, h1, h2]
theorem eqVs_app : ∀ (xs ys us vs : List Value), xs.length = ys.length → eqVs (xs ++ us) (ys ++ vs) = (eqVs xs ys && eqVs us vs)
  | [], [], us, vs, _ => by simp [eqVs]
  | x :: xs, y :: ys, us, vs, h => by
    simp only [List.cons_append, eqVs, eqVs_app xs ys us vs (by simpa using h), Bool.and_assoc]

section
variable {P : Program}

def EqD (P : Program) (d : Nat) (t : TypeId) (ks : List CK) (ag : Bool) : Prop := ∀ (us vs : List Value) (w : World), fitsB ks us = true → fitsB ks vs = true → (Op.equalIn d t (mkV ag us) (mkV ag vs)).run P w = .ok (eqVs us vs) w
def EqFl (P : Program) (d : Nat) (fs : List Field) (off : Nat) (ks : List CK) : Prop := ∀ (xs ys us vs : List Value) (w : World), xs.length = off → ys.length = off → fitsB ks us = true → fitsB ks vs = true →
  (Op.eqFields d (xs ++ us).toArray (ys ++ vs).toArray fs).run P w = .ok (eqVs us vs) w

theorem fit_one {c : CK} {us : List Value} (h : fitsB [c] us = true) : ∃ v, us = [v] ∧ fit1 c v = true := by
  match us, h with
  | [v], h => exact ⟨v, rfl, by simpa [fitsB] using h⟩
  | v :: u :: r, h => simp [fitsB] at h
theorem fit_str {v : Value} (h : fit1 .str v = true) : ∃ s, v = .string s := by cases v <;> first | exact ⟨_, rfl⟩ | cases h
theorem fit_bool {v : Value} (h : fit1 .bool v = true) : ∃ s, v = .bool s := by cases v <;> first | exact ⟨_, rfl⟩ | cases h
theorem fit_int {k : IntKind} {v : Value} (h : fit1 (.int k) v = true) : ∃ n, v = .int k n := by
  cases v <;> first | (simp only [fit1, beq_iff_eq] at h; subst h; exact ⟨_, rfl⟩) | cases h

theorem eqd_str {d : Nat} {t : TypeId} [hu : Und P t .string] : EqD P (d + 1) t [.str] false := fun us vs w h1 h2 => by
  obtain ⟨u, rfl, g1⟩ := fit_one h1
  obtain ⟨v, rfl, g2⟩ := fit_one h2
  obtain ⟨u, rfl⟩ := fit_str g1
  obtain ⟨v, rfl⟩ := fit_str g2
  simp [mkV, eqVs, eqV, run_equalIn_string (P := P) w d t _ _ hu.h]
theorem eqd_bool {d : Nat} {t : TypeId} [hu : Und P t .bool] : EqD P (d + 1) t [.bool] false := fun us vs w h1 h2 => by
  obtain ⟨u, rfl, g1⟩ := fit_one h1
  obtain ⟨v, rfl, g2⟩ := fit_one h2
  obtain ⟨u, rfl⟩ := fit_bool g1
  obtain ⟨v, rfl⟩ := fit_bool g2
  simp [mkV, eqVs, eqV, run_equalIn_bool' (P := P) w d t _ _ hu.h]
theorem eqd_int {d : Nat} {t : TypeId} {k : IntKind} [hu : Und P t (.int k)] : EqD P (d + 1) t [.int k] false := fun us vs w h1 h2 => by
  obtain ⟨u, rfl, g1⟩ := fit_one h1
  obtain ⟨v, rfl, g2⟩ := fit_one h2
  obtain ⟨u, rfl⟩ := fit_int g1
  obtain ⟨v, rfl⟩ := fit_int g2
  simp [mkV, eqVs, eqV, run_equalIn_int (P := P) w d t _ _ _ _ hu.h]
theorem eqf_nil {d off : Nat} : EqFl P d [] off [] := fun xs ys us vs w _ _ h1 h2 => by
  match us, vs, h1, h2 with
  | [], [], _, _ => simp [Op.eqFields, eqVs]
theorem eqf_cons {d off : Nat} {f : Field} {fs : List Field} {ks1 ks2 : List CK} {ag : Bool} (hn : (f.name == "_") = false) (ho : f.offset = off) (he : EqD P d f.type ks1 ag) (hag : ∀ w, (isAgg f.type).run P w = .ok ag w) (hsz : ∀ w, (sizeOf f.type).run P w = .ok ks1.length w) (h1 : ag = false → ks1.length = 1)
    (hr : EqFl P d fs (off + ks1.length) ks2) : EqFl P d (f :: fs) off (ks1 ++ ks2) := fun xs ys us vs w hx hy hu hv => by
  obtain ⟨hu1, hu2⟩ := fitsB_app hu
  obtain ⟨hv1, hv2⟩ := fitsB_app hv
  have hul := fitsB_len hu
  have hvl := fitsB_len hv
  simp only [List.length_append] at hul hvl
  have hpart : ∀ (zs ws : List Value), zs.length = off → ks1.length ≤ ws.length → (part f.type (zs ++ ws).toArray f.offset).run P w = .ok (mkV ag (ws.take ks1.length)) w := by
    intro zs ws hz hw
    subst ho
    cases ag with
    | true =>
      have : (zs ++ ws).toArray.extract f.offset (f.offset + ks1.length) = (ws.take ks1.length).toArray := by
        apply Array.ext'
        simp [← hz]
      simp only [part, Sem.run_bind, hag, Result.andThen_ok, if_true, hsz, Sem.run_pure, this, mkV]
    | false =>
      have hk := h1 rfl
      have hlt : 0 < ws.length := by omega
      obtain ⟨u, ws', rfl⟩ : ∃ u ws', ws = u :: ws' := by cases ws with
        | nil => simp at hlt
        | cons u ws' => exact ⟨u, ws', rfl⟩
      have : (zs ++ u :: ws').toArray[f.offset]? = some u := by simp [← hz]
      simp only [part, Sem.run_bind, hag, Result.andThen_ok, Bool.false_eq_true, if_false, this, Sem.run_pure, hk, List.take_succ_cons, List.take_zero, mkV]
  have hn' : f.name ≠ "_" := by simpa using hn
  rw [Op.eqFields, if_pos hn']
  simp only [Sem.run_bind, hpart xs us hx (by omega), hpart ys vs hy (by omega), Result.andThen_ok, he _ _ w hu1 hv1]
  have hrest := hr (xs ++ us.take ks1.length) (ys ++ vs.take ks1.length) (us.drop ks1.length) (vs.drop ks1.length) w (by simp; omega) (by simp; omega) hu2 hv2
  simp only [List.append_assoc, List.take_append_drop] at hrest
  have happ := eqVs_app (us.take ks1.length) (vs.take ks1.length) (us.drop ks1.length) (vs.drop ks1.length) (by simp; omega)
  simp only [List.take_append_drop] at happ
  rw [happ]
  cases eqVs (us.take ks1.length) (vs.take ks1.length)
  · simp
  · simpa using hrest
theorem eqd_struct {d : Nat} {t : TypeId} {fs : Array Field} {ks : List CK} (hu : P.underlying t = some (.struct fs)) (hs : P.stoodInHeld t = false) (h : EqFl P d fs.toList 0 ks) : EqD P (d + 1) t ks true := fun us vs w h1 h2 => by
  have hf : P.fieldsOf t = fs := by simp [Program.fieldsOf, hu]
  have e1 : mkV true us = .agg us.toArray := by unfold mkV; cases us <;> rfl
  have e2 : mkV true vs = .agg vs.toArray := by unfold mkV; cases vs <;> rfl
  rw [e1, e2, run_equalIn_struct (P := P) w d t _ _ (by rw [hf]; exact hu) hs, hf]
  exact h [] [] us vs w rfl rfl h1 h2

class EqT (P : Program) (t : TypeId) (ks : outParam (List CK)) : Prop where
  g : P.eqGuardType P.depth t = false
  h : EqD P 10000 t ks true

def plains : List AV → Option (List Value)
  | [] => some []
  | .val v :: r => match plains r with
    | some vs => some (v :: vs)
    | none => none
  | _ => none

theorem plains_map : ∀ {cs : List AV} {vs : List Value}, plains cs = some vs → cs = vs.map .val
  | [], vs, h => by cases h; rfl
  | .val v :: r, vs, h => by
    simp only [plains] at h
    split at h
    · rename_i ws hw
      cases h
      simp [plains_map hw]
    · cases h

variable {st : St} {dst : Option Tmp} {ty : TypeId} {pos : String} {after : Array Edge} {g : Option (Nat × Bool)}

theorem ev_eqt {t t' : TypeId} {x y : Operand} {cs ds : List AV} {us vs : List Value} {ks : List CK} [he : EqT P t ks] (hx : st.get x = some (.agg cs)) (hy : st.get y = some (.agg ds)) (h1 : plains cs = some us) (h2 : plains ds = some vs) (h3 : fitsB ks us = true) (h4 : fitsB ks vs = true) :
    OpEv P ⟨dst, .binOp .eql t x y t', ty, pos, after, g⟩ st (.val (.bool (eqVs us vs))) :=
  ev_eqa hx hy he.g fun S R w us' vs' hu hv => by
    rw [plains_map h1] at hu
    rw [plains_map h2] at hv
    rw [agg_vals hu, agg_vals hv]
    have e1 : ∀ zs : List Value, mkV true zs = .agg zs.toArray := fun zs => by unfold mkV; cases zs <;> rfl
    rw [← e1, ← e1]
    exact he.h us vs w h3 h4
theorem ev_net {t t' : TypeId} {x y : Operand} {cs ds : List AV} {us vs : List Value} {ks : List CK} [he : EqT P t ks] (hx : st.get x = some (.agg cs)) (hy : st.get y = some (.agg ds)) (h1 : plains cs = some us) (h2 : plains ds = some vs) (h3 : fitsB ks us = true) (h4 : fitsB ks vs = true) :
    OpEv P ⟨dst, .binOp .neq t x y t', ty, pos, after, g⟩ st (.val (.bool (!(eqVs us vs)))) :=
  ev_nea hx hy he.g fun S R w us' vs' hu hv => by
    rw [plains_map h1] at hu
    rw [plains_map h2] at hv
    rw [agg_vals hu, agg_vals hv]
    have e1 : ∀ zs : List Value, mkV true zs = .agg zs.toArray := fun zs => by unfold mkV; cases zs <;> rfl
    rw [← e1, ← e1]
    exact he.h us vs w h3 h4
end

end Go.Proofs.YtphkfejckafamaaDoorA

/- The rules as they are used: a region's operations one by one, whether it draws its order or not; states written out. -/
set_option linter.unusedVariables false
namespace Go.Proofs.YtphkfejckafamaaDoorA
open Go.RowKit

section
variable {P : Program} {n : Nat} {ro : Option Nat} {G : CtxR P n ro} {l rest : List Oper} {sl : List (Nat × AV)} {ts : List (Nat × Tok)} {K : Kont}

/-- A region's run: m operations are still free. -/
structure AR {ro : Option Nat} (G : CtxR P n ro) (l : List Oper) (m : Nat) (rest : List Oper) (st : St) (K : Kont) : Prop where
  h : ∃ xs : List AV, xs.length = m ∧ m ≤ rest.length ∧ (∀ (i : Nat) (o : Oper) (x : AV), rest[i]? = some o → xs[i]? = some x → GEv P l (finSl st.sl rest (xs.take i)) st.toks o x ∧ dstOk o.dst n = true) ∧
    AWo G l.toArray (rest.drop m) ⟨finSl st.sl rest xs, st.toks⟩ K

theorem ar_of {st : St} (h : AWo G l.toArray rest st K) : AR G l 0 rest st K := ⟨[], rfl, Nat.zero_le _, by simp, by cases rest <;> simpa [finSl] using h⟩
theorem AR.awo {st : St} (h : AR G l 0 rest st K) : AWo G l.toArray rest st K := by
  obtain ⟨xs, hx, _, _, h⟩ := h.h
  have : xs = [] := List.eq_nil_of_length_eq_zero hx
  subst this
  cases rest <;> simpa [finSl] using h

theorem a_region {id : Nat} {st : St} (h : AR G l 0 l st K) : AW G (.region id l.toArray false) st K := aw_region h.awo

theorem finSl_append (l1 l2 : List Oper) : ∀ (xs1 : List AV) (xs2 : List AV) (sl : List (Nat × AV)), l1.length = xs1.length → finSl sl (l1 ++ l2) (xs1 ++ xs2) = finSl (finSl sl l1 xs1) l2 xs2 := by
  induction l1 with
  | nil => intro xs1 xs2 sl h; cases xs1 with
    | nil => simp [finSl]
    | cons _ _ => simp at h
  | cons o l1 ih => intro xs1 xs2 sl h; cases xs1 with
    | nil => simp at h
    | cons x xs1 => simp only [List.cons_append, finSl]; exact ih xs1 xs2 _ (by simpa using h)

theorem finSl_hit {l : List Oper} : ∀ {xs : List AV} {sl : List (Nat × AV)} {i d : Nat} {o : Oper} {x : AV}, l[i]? = some o → xs[i]? = some x → o.dst = some d → (∀ (j : Nat) (p : Oper), i < j → j < xs.length → l[j]? = some p → p.dst ≠ some d) → look (finSl sl l xs) d = some x := by
  induction l with
  | nil => intro xs sl i d o x h; simp at h
  | cons p l ih =>
    intro xs sl i d o x ho hx hd hno
    cases xs with
    | nil => simp at hx
    | cons y xs =>
      simp only [finSl]
      cases i with
      | succ i => exact ih (by simpa using ho) (by simpa using hx) hd (fun j q hj hl hq => hno (j + 1) q (by omega) (by simpa using hl) (by simpa using hq))
      | zero =>
        simp only [List.getElem?_cons_zero, Option.some.injEq] at ho hx
        subst ho
        subst hx
        rw [hd]
        -- no later one writes it
        cases hl : look (finSl (putSl sl (some d) y) l xs) d with
        | none =>
          exfalso
          have : ∀ (l : List Oper) (xs : List AV) (sl : List (Nat × AV)), (∃ z, look sl d = some z) → ∃ z, look (finSl sl l xs) d = some z := by
            intro l
            induction l with
            | nil => intro xs sl h; simpa [finSl] using h
            | cons q l ih2 =>
              intro xs sl h
              cases xs with
              | nil => simpa [finSl] using h
              | cons u xs =>
                refine ih2 xs _ ?_
                cases hq : q.dst with
                | none => exact h
                | some e =>
                  simp only [putSl, look]
                  by_cases hed : e = d
                  · subst hed; rw [Nat.beq_refl]; exact ⟨u, rfl⟩
                  · rw [beq_of_ne hed]; exact h
          obtain ⟨z, hz⟩ := this l xs (putSl sl (some d) y) ⟨y, by simp only [putSl, look, Nat.beq_refl, cond_true]⟩
          rw [hl] at hz; cases hz
        | some z =>
          rcases finSl_look l xs _ d z hl with ⟨j, q, h1, h2, h3⟩ | ⟨h1, _⟩
          · exact absurd h3 (hno (j + 1) q (by omega) (by simpa using (List.getElem?_eq_some_iff.1 h2).1) (by simpa using h1))
          · simp only [putSl, look, Nat.beq_refl, cond_true] at h1
            exact h1.symm

theorem OpEv.of_looks {o : Oper} {x : AV} {sl sl' : List (Nat × AV)} (h : OpEv P o ⟨sl, ts⟩ x) (hl : ∀ t, Operand.tmp t ∈ o.op.operands → ∀ y, look sl t = some y → look sl' t = some y) : OpEv P o ⟨sl', ts⟩ x :=
  ⟨fun S R a w hh ho => h.h S R a w hh fun z hz y hy => ho z hz y (by
    cases z with
    | tmp t => exact hl t hz y hy
    | _ => exact hy)⟩

/-- How many operations at a region's head only reckon, read or call. -/
def freeOp : Op → Bool
  | .store .. => false
  | .alloc .. => false
  | .box .. => false
  | .mapUpdate .. => false
  | .insert .. => false
  | .makeMap .. => false
  | .makeSlice .. => false
  | .range .. => false
  | .next .. => false
  | .call ⟨.builtin .append, _, _⟩ => false
  | .call ⟨.builtin .copy, _, _⟩ => false
  | .call ⟨.builtin .delete, _, _⟩ => false
  | _ => true
def freeN : List Oper → Nat
  | [] => 0
  | o :: r => bif freeOp o.op then freeN r + 1 else 0

theorem a_draw {id : Nat} {st : St} [hm : Mix P] (m : Nat) (hok : drawOk l m = true) (h : AR G l m l st K) : AW G (.region id l.toArray true) st K := by
  obtain ⟨xs, rfl, hml, hev, htail⟩ := h.h
  have hok' := hok
  simp only [drawOk, Bool.and_eq_true] at hok'
  -- what the operations look at is what it is in the end
  have hlook : ∀ (i : Nat) (o : Oper) (x : AV), l[i]? = some o → xs[i]? = some x → ∀ t, t ∈ looks l o → ∀ y, look (finSl st.sl l (xs.take i)) t = some y → look (finSl st.sl l xs) t = some y := by
    intro i o x ho hx t ht y hy
    have him : i < xs.length := (List.getElem?_eq_some_iff.1 hx).1
    have hrow := allB_iff hok'.1 (show i < l.length by omega)
    simp only [ho, Bool.and_eq_true] at hrow
    rw [if_pos (by simp [Nat.blt_eq]; omega)] at hrow
    -- whoever writes t is an ancestor, so stands ahead
    have hanc : ∀ (j : Nat) (p : Oper), j < xs.length → l[j]? = some p → p.dst = some t → j < i := by
      intro j p hj hp hd
      have := allB_iff hrow.2 hj
      simp only [hp, hd, Bool.and_eq_true, Bool.or_eq_true, Bool.not_eq_true'] at this
      have ha : ancB l l.length i j = true := by
        rcases this.1 with h6 | h6
        · rw [List.contains_iff_mem.2 ht] at h6; cases h6
        · exact h6
      have hlow : ∀ (f i j : Nat), ancB l f i j = true → j < i := by
        intro f
        induction f with
        | zero => intro i j h; cases h
        | succ f ih =>
          intro i j h
          cases hq : l[i]? with
          | none => simp [ancB, hq] at h
          | some q =>
            have hil := (List.getElem?_eq_some_iff.1 hq).1
            have hr := allB_iff hok'.1 hil
            simp only [hq, Bool.and_eq_true] at hr
            simp only [ancB, hq, List.any_eq_true, Bool.or_eq_true] at h
            obtain ⟨e, he, h1 | h1⟩ := h
            · have := List.all_eq_true.1 hr.1 e he
              simp [Nat.blt_eq] at this
              rw [← Nat.eq_of_beq_eq_true h1]; exact this
            · have := List.all_eq_true.1 hr.1 e he
              simp [Nat.blt_eq] at this
              exact Nat.lt_trans (ih e j h1) this
      exact hlow _ _ _ ha
    -- the same, for two that write one slot: there are none
    rcases finSl_look l (xs.take i) st.sl t y hy with ⟨j, p, h1, h2, h3⟩ | ⟨h1, h2⟩
    · have hji : j < i := by have := (List.getElem?_eq_some_iff.1 h2).1; rw [List.length_take] at this; omega
      rw [List.getElem?_take, if_pos hji] at h2
      refine finSl_hit h1 h2 h3 (fun j' p' hj' hl' hp' hd' => ?_)
      have hrow' := allB_iff hok'.1 (show j' < l.length by omega)
      simp only [hp', Bool.and_eq_true] at hrow'
      rw [if_pos (by simp [Nat.blt_eq]; omega)] at hrow'
      have := allB_iff hrow'.2 (show j < xs.length by omega)
      simp only [h1, h3, Bool.and_eq_true, Bool.or_eq_true] at this
      rcases this.2 with h6 | h6
      · have := Nat.eq_of_beq_eq_true h6; omega
      · simp [hd'] at h6
    · -- nobody writes it
      have hno : ∀ (j : Nat) (p : Oper), j < xs.length → l[j]? = some p → p.dst ≠ some t := fun j p hj hp hd => by
        have hji := hanc j p hj hp hd
        exact h2 j p (by rw [List.length_take]; omega) hp hd
      have keep : ∀ (l' : List Oper) (xs' : List AV) (sl' : List (Nat × AV)), look sl' t = some y → (∀ (j : Nat) (p : Oper), j < xs'.length → l'[j]? = some p → p.dst ≠ some t) → look (finSl sl' l' xs') t = some y := by
        intro l'
        induction l' with
        | nil => intro xs' sl' h _; simpa [finSl] using h
        | cons q l' ih =>
          intro xs' sl' h hno'
          cases xs' with
          | nil => simpa [finSl] using h
          | cons u xs' =>
            refine ih xs' _ ?_ (fun j p hj hp => hno' (j + 1) p (by simpa using hj) (by simpa using hp))
            have := hno' 0 q (by simp) rfl
            cases hq : q.dst with
            | none => exact h
            | some e =>
              simp only [putSl, look]
              rw [beq_of_ne (fun he => this (by rw [hq, he]))]
              exact h
      exact keep l xs st.sl h1 hno
  refine aw_draw xs hok ?_ htail
  have hconv : ∀ (i : Nat) (o : Oper) (x : AV), l[i]? = some o → xs[i]? = some x → GEv P l (finSl st.sl l xs) st.toks o x := by
    intro i o x ho hx
    have hl := hlook i o x ho hx
    have hops : ∀ t, Operand.tmp t ∈ o.op.operands → t ∈ looks l o := fun t ht => by
      simp only [looks, List.mem_append, List.mem_filterMap]
      exact .inl ⟨.tmp t, by simpa using ht, rfl⟩
    have hgd : ∀ (j d : Nat) (b : Bool) (p : Oper), o.guard = some (j, b) → l[j]? = some p → p.dst = some d → d ∈ looks l o := fun j d b p hg hp hd => by
      simp only [looks, hg, hp, List.mem_append]
      exact .inr (by simp [hd])
    cases (hev i o x ho hx).1 with
    | plain hg h => exact .plain hg (h.of_looks fun t ht => hl t (hops t ht))
    | take hg hp hd hy h => exact .take hg hp hd (hl _ (hgd _ _ _ _ hg hp hd) _ hy) (h.of_looks fun t ht => hl t (hops t ht))
    | skip hg hp hd hy hn => exact .skip hg hp hd (hl _ (hgd _ _ _ _ hg hp hd) _ hy) hn
  have hall : ∀ (r : List Oper) (ys : List AV), ys.length ≤ r.length → (∀ (i : Nat) (o : Oper) (x : AV), r[i]? = some o → ys[i]? = some x → GEv P l (finSl st.sl l xs) st.toks o x ∧ dstOk o.dst n = true) → GEvs P l n (finSl st.sl l xs) st.toks r ys := by
    intro r
    induction r with
    | nil => intro ys hl _; cases ys with
      | nil => exact .nil
      | cons _ _ => simp at hl
    | cons o r ih => intro ys hl hf; cases ys with
      | nil => exact .nil
      | cons y ys =>
        have h0 := hf 0 o y rfl rfl
        exact .cons h0.1 h0.2 (ih ys (by simpa using hl) (fun i p z hp hz => hf (i + 1) p z (by simpa using hp) (by simpa using hz)))
  exact hall l xs hml (fun i o x ho hx => ⟨hconv i o x ho hx, (hev i o x ho hx).2⟩)

theorem a_drawN {id : Nat} {st : St} [hm : Mix P] (m : Nat) (hf : Nat.beq (freeN l) m = true) (hok : drawOk l m = true) (h : AR G l m l st K) : AW G (.region id l.toArray true) st K := a_draw m hok h

theorem ar_cons {m : Nat} {o : Oper} {x : AV} {st : St} (he : GEv P l st.sl st.toks o x) (hd : dstOk o.dst n = true) (h : AR G l m rest ⟨putSl st.sl o.dst x, st.toks⟩ K) : AR G l (m + 1) (o :: rest) st K := by
  obtain ⟨xs, rfl, hml, hev, ht⟩ := h.h
  refine ⟨x :: xs, rfl, by simpa using hml, fun i p y hp hy => ?_, by simpa [finSl] using ht⟩
  cases i with
  | zero =>
    simp only [List.getElem?_cons_zero, Option.some.injEq] at hp hy
    subst hp
    subst hy
    exact ⟨by simpa [finSl] using he, hd⟩
  | succ i =>
    have := hev i p y (by simpa using hp) (by simpa using hy)
    simpa [finSl] using this

theorem ar_ev {m d : Nat} {op : Op} {ty : TypeId} {pos : String} {after : Array Edge} {x : AV} (he : OpEv P ⟨some d, op, ty, pos, after, none⟩ ⟨sl, ts⟩ x) (hd : Nat.blt d n = true) (h : AR G l (m - 1) rest ⟨(d, x) :: sl, ts⟩ K) : AR G l m (⟨some d, op, ty, pos, after, none⟩ :: rest) ⟨sl, ts⟩ K := by
  cases m with
  | zero => exact ar_of (awo_ev he hd h.awo)
  | succ m => exact ar_cons (.plain rfl he) hd h

theorem awo_take' {d d0 j : Nat} {op : Op} {ty : TypeId} {pos : String} {after : Array Edge} {b : Bool} {o : Oper} {x : AV} (ho : l[j]? = some o) (hod : o.dst = some d0) (hx : look sl d0 = some (.val (.bool b))) (he : OpEv P ⟨some d, op, ty, pos, after, none⟩ ⟨sl, ts⟩ x) : OpEv P ⟨some d, op, ty, pos, after, some (j, b)⟩ ⟨sl, ts⟩ x := ⟨he.h⟩

/-- A guarded operation whose guard says yes. -/
theorem ar_take {m d d0 j : Nat} {op : Op} {ty : TypeId} {pos : String} {after : Array Edge} {b : Bool} {o : Oper} {x : AV} (ho : l[j]? = some o) (hod : o.dst = some d0) (hx : look sl d0 = some (.val (.bool b))) (he : OpEv P ⟨some d, op, ty, pos, after, none⟩ ⟨sl, ts⟩ x) (hd : Nat.blt d n = true)
    (h : AR G l (m - 1) rest ⟨(d, x) :: sl, ts⟩ K) : AR G l m (⟨some d, op, ty, pos, after, some (j, b)⟩ :: rest) ⟨sl, ts⟩ K := by
  cases m with
  | zero => exact ar_of (awo_take ho hod hx (awo_ev he hd h.awo))
  | succ m => exact ar_cons (.take rfl ho hod hx ⟨he.h⟩) hd h
theorem ar_skip {m d d0 j : Nat} {op : Op} {ty : TypeId} {pos : String} {after : Array Edge} {b : Bool} {u : Value} {o : Oper} (ho : l[j]? = some o) (hod : o.dst = some d0) (hx : look sl d0 = some (.val u)) (hn : skipB u b = true) (hd : Nat.blt d n = true)
    (h : AR G l (m - 1) rest ⟨(d, .val undef) :: sl, ts⟩ K) : AR G l m (⟨some d, op, ty, pos, after, some (j, b)⟩ :: rest) ⟨sl, ts⟩ K := by
  cases m with
  | zero => exact ar_of (awo_skip ho hod hx hn hd h.awo)
  | succ m => exact ar_cons (.skip rfl ho hod hx hn) hd h

theorem ar_nil {st : St} (h : Goes G K .normal st) : AR G l 0 [] st K := ar_of (awo_nil h)

/-- What makes or changes one token. -/
theorem ar_new {d : Nat} {op : Op} {ty : TypeId} {pos : String} {after : Array Edge} {us rs : List (Nat × Tok)} {T : Tok} {X : Nat → AV} (he : OpEff P ⟨some d, op, ty, pos, after, none⟩ ⟨sl, ts⟩ us (fun ts' r => ∃ lab, ts' = [(lab, T)] ∧ r = X lab)) (ht : Takes ts us rs) (hd : Nat.blt d n = true)
    (h : ∀ lab, AR G l 0 rest ⟨(d, X lab) :: sl, (lab, T) :: rs⟩ K) : AR G l 0 (⟨some d, op, ty, pos, after, none⟩ :: rest) ⟨sl, ts⟩ K :=
  ar_of (awo_eff he ht hd fun ts' r ⟨lab, h1, h2⟩ => by subst h1; subst h2; exact (h lab).awo)
theorem ar_set {op : Op} {ty : TypeId} {pos : String} {after : Array Edge} {us rs : List (Nat × Tok)} {lab : Nat} {T : Tok} {r0 : AV} (he : OpEff P ⟨none, op, ty, pos, after, none⟩ ⟨sl, ts⟩ us (fun ts' r => ts' = [(lab, T)] ∧ r = r0)) (ht : Takes ts us rs)
    (h : AR G l 0 rest ⟨sl, (lab, T) :: rs⟩ K) : AR G l 0 (⟨none, op, ty, pos, after, none⟩ :: rest) ⟨sl, ts⟩ K :=
  ar_of (awo_eff he ht rfl fun ts' r ⟨h1, h2⟩ => by subst h1; subst h2; exact h.awo)
theorem ar_eff {d : Nat} {op : Op} {ty : TypeId} {pos : String} {after : Array Edge} {us rs : List (Nat × Tok)} {Post : List (Nat × Tok) → AV → Prop} (he : OpEff P ⟨some d, op, ty, pos, after, none⟩ ⟨sl, ts⟩ us Post) (ht : Takes ts us rs) (hd : Nat.blt d n = true)
    (h : ∀ ts' r, Post ts' r → AR G l 0 rest ⟨(d, r) :: sl, ts' ++ rs⟩ K) : AR G l 0 (⟨some d, op, ty, pos, after, none⟩ :: rest) ⟨sl, ts⟩ K :=
  ar_of (awo_eff he ht hd fun ts' r hp => (h ts' r hp).awo)
theorem ar_freeze (d : Nat) {lab off m : Nat} {e : TypeId} {k : Nat} {xs : List (List AV)} {rs : List (Nat × Tok)} (hd : look sl d = some (.own lab off m)) (ht : Take ts lab (.row e k xs) rs) (hm : off + m ≤ xs.length) (h : AR G l 0 rest ⟨(d, .sl k (xs.drop off) m) :: sl, rs⟩ K) : AR G l 0 rest ⟨sl, ts⟩ K :=
  ar_of (AWo.freeze d hd ht hm h.awo)
theorem ar_adopt (d : Nat) (e : TypeId) (k : Nat) (hd : look sl d = some (.val (.slice none 0 0))) (h : ∀ lab, AR G l 0 rest ⟨(d, .own lab 0 0) :: sl, (lab, .row e k []) :: ts⟩ K) : AR G l 0 rest ⟨sl, ts⟩ K :=
  ar_of (AWo.adopt d e k hd fun lab => (h lab).awo)
theorem ar_sub {st st' : St} (hs : Sub st st') (h : AR G l 0 rest st' K) : AR G l 0 rest st K := ar_of (AWo.sub hs h.awo)

/-! ### Loops, with what holds -/
theorem a_loop {c : Code} {st : St} {ι : Type} (I : ι → St) (Inv : ι → Prop) (μ : ι → Nat) (i0 : ι) (h0 : Sub st (I i0)) (hi : Inv i0)
    (round : ∀ i, Inv i → AW G c (I i) (.loop (fun st' => ∃ i', Inv i' ∧ μ i' < μ i ∧ Sub st' (I i')) K)) : AW G (.loop c) st K :=
  aw_loop (ι := { i : ι // Inv i }) (fun i => I i.1) (fun i => μ i.1) ⟨i0, hi⟩ h0 fun i => ⟨fun a w hr => by
    refine wpIn_mono ((round i.1 i.2).h a w hr) ?_
    rintro e a' w' ⟨st', hq, hr'⟩
    cases e with
    | normal =>
      obtain ⟨i', h1, h2, h3⟩ := hq
      exact ⟨st', ⟨⟨i', h1⟩, h2, h3⟩, hr'⟩
    | _ => exact ⟨st', hq, hr'⟩⟩

/-! ### Ends -/
theorem g_ret0 {Post : List (Nat × Tok) → AV → Prop} {us rs : List (Nat × Tok)} (ht : Takes ts us rs) (hp : Post us (.tup [])) : Goes G (.nil (RetQ P #[] Post)) .ret ⟨sl, ts⟩ := go_nil (ret0 ht hp)
theorem g_end0 {Post : List (Nat × Tok) → AV → Prop} {us rs : List (Nat × Tok)} (ht : Takes ts us rs) (hp : Post us (.tup [])) : Goes G (.nil (RetQ P #[] Post)) .normal ⟨sl, ts⟩ := go_nil (ret0 ht hp)
theorem g_ret1 {Post : List (Nat × Tok) → AV → Prop} {rv : ResultVar} {x : AV} {us rs : List (Nat × Tok)} (h : Res1 P ⟨sl, ts⟩ rv x) (ht : Takes ts us rs) (hp : Post us x) : Goes G (.nil (RetQ P #[rv] Post)) .ret ⟨sl, ts⟩ := go_nil (ret1 h ht hp)
theorem g_ret2 {Post : List (Nat × Tok) → AV → Prop} {r1 r2 : ResultVar} {x1 x2 : AV} {us rs : List (Nat × Tok)} (h1 : Res1 P ⟨sl, ts⟩ r1 x1) (h2 : Res1 P ⟨sl, ts⟩ r2 x2) (ht : Takes ts us rs) (hp : Post us (.tup [x1, x2])) : Goes G (.nil (RetQ P #[r1, r2] Post)) .ret ⟨sl, ts⟩ := go_nil (ret2 h1 h2 ht hp)
theorem g_ret3 {Post : List (Nat × Tok) → AV → Prop} {r1 r2 r3 : ResultVar} {x1 x2 x3 : AV} {us rs : List (Nat × Tok)} (h1 : Res1 P ⟨sl, ts⟩ r1 x1) (h2 : Res1 P ⟨sl, ts⟩ r2 x2) (h3 : Res1 P ⟨sl, ts⟩ r3 x3) (ht : Takes ts us rs) (hp : Post us (.tup [x1, x2, x3])) : Goes G (.nil (RetQ P #[r1, r2, r3] Post)) .ret ⟨sl, ts⟩ := go_nil (ret3 h1 h2 h3 ht hp)
theorem g_ret4 {Post : List (Nat × Tok) → AV → Prop} {r1 r2 r3 r4 : ResultVar} {x1 x2 x3 x4 : AV} {us rs : List (Nat × Tok)} (h1 : Res1 P ⟨sl, ts⟩ r1 x1) (h2 : Res1 P ⟨sl, ts⟩ r2 x2) (h3 : Res1 P ⟨sl, ts⟩ r3 x3) (h4 : Res1 P ⟨sl, ts⟩ r4 x4) (ht : Takes ts us rs) (hp : Post us (.tup [x1, x2, x3, x4])) : Goes G (.nil (RetQ P #[r1, r2, r3, r4] Post)) .ret ⟨sl, ts⟩ := go_nil (ret4 h1 h2 h3 h4 ht hp)
theorem r_tmp {st : St} {t : Tmp} {x : AV} (h : look st.sl t = some x) : Res1 P st (.tmp t) x := res_tmp h Le.refl
theorem r_nil {st : St} {t : Tmp} {k : Nat} (h : look st.sl t = some (.val (.slice none 0 0))) : Res1 P st (.tmp t) (.sl k [] 0) := res_tmp h Le.nil
theorem r_cell {st : St} {t e : TypeId} {ad : Tmp} {z : Value} {kt b k l i j : Nat} {xs : List (List AV)} {cs : List AV} {r : List (Nat × Tok)} [hu : AgF P t true] [he : ElF P t z kt b] (hx : look st.sl ad = some (.ptr l i j)) (ht : Take st.toks l (.row e k xs) r) (hcs : xs[i]? = some cs) (hk : Nat.ble (j + kt) cs.length = true) :
    Res1 P st (.cell ad t) (.agg ((cs.drop j).take kt)) := res_cell hx ht hcs (Nat.le_of_ble_eq_true hk)
end

end Go.Proofs.YtphkfejckafamaaDoorA

/- A region that draws its order, some of whose operations write: it is read in one order (T); those that only reckon may come anywhere the edges allow, the others follow one another. -/
set_option linter.unusedVariables false
namespace Go.Proofs.YtphkfejckafamaaDoorA
open Go.RowKit

/-- An alloc without a guard: it may be done ahead of its turn. -/
def isAl (l : List Oper) (i : Nat) : Bool :=
  match l[i]? with
  | some ⟨some _, .alloc _, _, _, _, none⟩ => true
  | _ => false

/-- i is read behind j. -/
def prB (l : List Oper) (bs : List Bool) (i j : Nat) : Bool :=
  !Nat.beq i j && (match l[i]?, l[j]? with
    | some o, some p =>
      (match p.dst with
        | some d => (!(looks l o).contains d || ancB l l.length i j) && !(o.dst == some d)
        | none => true) &&
      (match o.dst with
        | some d => !(looks l p).contains d || ancB l l.length i j
        | none => true) &&
      (bs.getD j false || ancB l l.length i j || isAl l i)
    | _, _ => false)

def pairsB (f : Nat → Nat → Bool) : List Nat → Bool
  | [] => true
  | i :: r => r.all (f i) && pairsB f r

/-- T: the order in which it is read; bs: which only reckon. -/
def ordOk (l : List Oper) (bs : List Bool) (T : List Nat) : Bool :=
  allB l.length (fun i => T.contains i && (match l[i]? with
    | some o => (edgesOf o).all (fun e => Nat.blt e i) && (match o.dst with
      | some d => !(looks l o).contains d
      | none => true) && !(isAl l i && bs.getD i false)
    | none => false)) && (pairsB (prB l bs) T.reverse && T.all (fun j => Nat.blt j l.length))

theorem pairsB_iff {f : Nat → Nat → Bool} : ∀ {l : List Nat}, pairsB f l = true → l.Pairwise (fun i j => f i j = true)
  | [], _ => .nil
  | i :: r, h => by
    simp only [pairsB, Bool.and_eq_true] at h
    exact List.pairwise_cons.2 ⟨fun j hj => List.all_eq_true.1 h.1 j hj, pairsB_iff h.2⟩

structure PR (l : List Oper) (bs : List Bool) (i j : Nat) : Prop where
  ne : i ≠ j
  reads : ∀ (o p : Oper) (d : Nat), l[i]? = some o → l[j]? = some p → p.dst = some d → d ∈ looks l o → ancB l l.length i j = true
  dsts : ∀ (o p : Oper) (d : Nat), l[i]? = some o → l[j]? = some p → p.dst = some d → o.dst ≠ some d
  over : ∀ (o p : Oper) (d : Nat), l[i]? = some o → l[j]? = some p → o.dst = some d → d ∈ looks l p → ancB l l.length i j = true
  write : bs.getD j false = false → ancB l l.length i j = true ∨ isAl l i = true

theorem prB_iff {l : List Oper} {bs : List Bool} {i j : Nat} (h : prB l bs i j = true) : PR l bs i j := by
  simp only [prB, Bool.and_eq_true] at h
  obtain ⟨h1, h2⟩ := h
  cases hi : l[i]? with
  | none => simp [hi] at h2
  | some o =>
    cases hj : l[j]? with
    | none => simp [hi, hj] at h2
    | some p =>
      simp only [hi, hj, Bool.and_eq_true] at h2
      obtain ⟨⟨h2, h3⟩, h4⟩ := h2
      refine ⟨fun e => by subst e; simp [Nat.beq_refl] at h1, fun o' p' d ho hp hd hm => ?_, fun o' p' d ho hp hd => ?_, fun o' p' d ho hp hd hm => ?_, fun hb => ?_⟩
      · cases Option.some.inj (ho.symm.trans hi); cases Option.some.inj (hp.symm.trans hj)
        rw [hd] at h2
        simp only [Bool.and_eq_true, Bool.or_eq_true, Bool.not_eq_true'] at h2
        rcases h2.1 with h6 | h6
        · rw [List.contains_iff_mem.2 hm] at h6; cases h6
        · exact h6
      · cases Option.some.inj (ho.symm.trans hi); cases Option.some.inj (hp.symm.trans hj)
        rw [hd] at h2
        simp only [Bool.and_eq_true] at h2
        intro he
        simp [he] at h2
      · cases Option.some.inj (ho.symm.trans hi); cases Option.some.inj (hp.symm.trans hj)
        rw [hd] at h3
        simp only [Bool.or_eq_true, Bool.not_eq_true'] at h3
        rcases h3 with h6 | h6
        · rw [List.contains_iff_mem.2 hm] at h6; cases h6
        · exact h6
      · rw [hb] at h4
        simpa using h4

/-- What was read: the operation, and what it gives; the last one first. -/
def envOf (sl0 : List (Nat × AV)) : List (Nat × Oper × AV) → List (Nat × AV)
  | [] => sl0
  | p :: h => putSl (envOf sl0 h) p.2.1.dst p.2.2

theorem envOf_look {sl0 : List (Nat × AV)} : ∀ {h : List (Nat × Oper × AV)} {d : Nat} {y : AV}, look (envOf sl0 h) d = some y →
    (∃ p, p ∈ h ∧ p.2.1.dst = some d ∧ p.2.2 = y) ∨ (look sl0 d = some y ∧ ∀ p, p ∈ h → p.2.1.dst ≠ some d)
  | [], d, y, h => .inr ⟨h, fun _ hp => by cases hp⟩
  | p :: h, d, y, hl => by
    by_cases hd : p.2.1.dst = some d
    · simp only [envOf, hd, putSl, look, Nat.beq_refl, cond_true] at hl
      exact .inl ⟨p, List.mem_cons_self, hd, by cases hl; rfl⟩
    · have hl' : look (envOf sl0 h) d = some y := by
        simp only [envOf] at hl
        cases hod : p.2.1.dst with
        | none => rw [hod] at hl; exact hl
        | some e =>
          rw [hod] at hl
          simp only [putSl, look] at hl
          rw [beq_of_ne (fun he => hd (by rw [hod, he]))] at hl
          exact hl
      rcases envOf_look hl' with ⟨q, h1, h2, h3⟩ | ⟨h1, h2⟩
      · exact .inl ⟨q, List.mem_cons_of_mem _ h1, h2, h3⟩
      · refine .inr ⟨h1, fun q hq => ?_⟩
        rcases List.mem_cons.1 hq with rfl | hq
        · exact hd
        · exact h2 q hq

section
variable {P : Program} {n : Nat} {ro : Option Nat} {G : CtxR P n ro}

/-- Which slots hold what: V. -/
structure MidS {ro : Option Nat} (G : CtxR P n ro) (V : Nat → AV → Prop) (toks : List (Nat × Tok)) (S : Nat → Prop) (R : Lab) (a : Act) (w : World) : Prop where
  holds : Holds S R w toks
  slots : ∀ d x, V d x → RepV S R w x (a.tmps.getD d undef)
  out : Out G.w0 G.S0 G.R0 G.F0 G.K0 S R w toks
  defers : a.defers = G.ds
  size : a.tmps.size = n

theorem MidS.rel1 {V : Nat → AV → Prop} {toks : List (Nat × Tok)} {S : Nat → Prop} {R : Lab} {a : Act} {w : World} (h : MidS G V toks S R a w) {sl : List (Nat × AV)} (hs : ∀ d x, look sl d = some x → V d x) : RelAt G S R ⟨sl, toks⟩ a w :=
  ⟨h.holds, fun d x hx => h.slots d x (hs d x hx), h.out, h.defers, h.size⟩

theorem look_one {d d' : Nat} {x y : AV} (h : look [(d, x)] d' = some y) : d = d' ∧ x = y := by
  by_cases hd : d = d'
  · subst hd
    simp only [look, Nat.beq_refl, cond_true] at h
    exact ⟨rfl, Option.some.inj h⟩
  · simp only [look, beq_of_ne hd, cond_false] at h
    cases h

theorem MidS.of_rel {V : Nat → AV → Prop} {toks toks' : List (Nat × Tok)} {S S' : Nat → Prop} {R R' : Lab} {a : Act} {w w' : World} (h : MidS G V toks S R a w)
    (hf : ∀ sl, RelAt G S R ⟨sl, toks⟩ a w → RelAt G S' R' ⟨sl, toks'⟩ a w') : MidS G V toks' S' R' a w' := by
  have h0 := hf [] (h.rel1 (fun d x hx => by cases hx))
  refine ⟨h0.holds, fun d x hx => ?_, h0.out, h0.defers, h0.size⟩
  have h1 := hf [(d, x)] (h.rel1 (fun d' y hy => by obtain ⟨rfl, rfl⟩ := look_one hy; exact hx))
  exact h1.slots d x (by simp [look, Nat.beq_refl])

theorem MidS.put {V V' : Nat → AV → Prop} {toks : List (Nat × Tok)} {S : Nat → Prop} {R : Lab} {a : Act} {w : World} (h : MidS G V toks S R a w) {dst : Option Tmp} {x : AV} {v : Value} (hd : dstOk dst n = true) (hv : RepV S R w x v)
    (hV : ∀ d y, V' d y → (dst = some d → y = x) ∧ (dst ≠ some d → V d y)) : MidS G V' toks S R (a.put dst v) w := by
  refine ⟨h.holds, fun d y hy => ?_, h.out, (put_defers ..).trans h.defers, (put_size ..).trans h.size⟩
  obtain ⟨h1, h2⟩ := hV d y hy
  cases hod : dst with
  | none =>
    exact h.slots d y (h2 (by rw [hod]; simp))
  | some e =>
    by_cases he : e = d
    · subst he
      have : e < a.tmps.size := by rw [h.size]; exact dstOk_lt hd e hod
      have hx : y = x := h1 hod
      subst hx
      simp [Act.put, this]
      exact hv
    · have := h.slots d y (h2 (by rw [hod]; simpa using he))
      simpa [Act.put, Array.getElem?_setIfInBounds_ne he] using this

def GOk (l : List Oper) (sl : List (Nat × AV)) (o : Oper) : Prop :=
  o.guard = none ∨ ∃ (j d : Nat) (p : Oper) (b : Bool), o.guard = some (j, b) ∧ l[j]? = some p ∧ p.dst = some d ∧ look sl d = some (.val (.bool b))

/-- An operation that takes tokens and gives others back; the state's are only read. -/
structure OpEffR (P : Program) (o : Oper) (st : St) (us : List (Nat × Tok)) (Post : List (Nat × Tok) → AV → Prop) : Prop where
  h : ∀ (S : Nat → Prop) (R : Lab) (a : Act) (w : World), Holds S R w (us ++ st.toks) → OpsAt S R w st a o.op → ∀ (next : Act → World → Prop) (Q : Exit → Act → World → Prop),
    (∀ v r S' R' w' ts', Post ts' r → Holds S' R' w' ts' → RepV S' R' w' r v → Out w S R (Foot R us) (fun l => ∃ t, (l, t) ∈ us) S' R' w' ts' → next (a.put o.dst v) w') → o.wp P a w next Q

/-- It stands ahead of all that write. -/
def rdB (l : List Oper) (bs : List Bool) (i : Nat) : Bool := allB l.length fun j => bs.getD j false || isAl l j || ancB l l.length j i

/-- What is read, one behind the other; rs: the tokens that those that only reckon read. -/
inductive TL {ro : Option Nat} (G : CtxR P n ro) (l : List Oper) (bs : List Bool) (rs : List (Nat × Tok)) (K : Kont) : List Nat → List (Nat × AV) → List (Nat × Tok) → Prop
  | nil {sl : List (Nat × AV)} {ts : List (Nat × Tok)} (h : Goes G K .normal ⟨sl, ts ++ rs⟩) : TL G l bs rs K [] sl ts
  | ev {i : Nat} {r : List Nat} {o : Oper} {sl : List (Nat × AV)} {ts : List (Nat × Tok)} {x : AV} (ho : l[i]? = some o) (hb : bs.getD i false = true) (he : GEv P l sl rs o x) (hd : dstOk o.dst n = true) (h : TL G l bs rs K r (putSl sl o.dst x) ts) : TL G l bs rs K (i :: r) sl ts
  | evw {i : Nat} {r : List Nat} {o : Oper} {sl : List (Nat × AV)} {ts : List (Nat × Tok)} {x : AV} (ho : l[i]? = some o) (hb : bs.getD i false = false) (hna : isAl l i = false) (he : GEv P l sl (ts ++ rs) o x) (hd : dstOk o.dst n = true) (h : TL G l bs rs K r (putSl sl o.dst x) ts) : TL G l bs rs K (i :: r) sl ts
  | eff {i : Nat} {r : List Nat} {o : Oper} {sl : List (Nat × AV)} {ts us ts2 : List (Nat × Tok)} {Post : List (Nat × Tok) → AV → Prop} (ho : l[i]? = some o) (hb : bs.getD i false = false) (hna : isAl l i = false) (hg : GOk l sl o) (ht : Takes ts us ts2) (he : OpEff P o ⟨sl, []⟩ us Post) (hd : dstOk o.dst n = true)
      (h : ∀ ts' x, Post ts' x → TL G l bs rs K r (putSl sl o.dst x) (ts' ++ ts2)) : TL G l bs rs K (i :: r) sl ts

  | al {i : Nat} {r : List Nat} {d : Nat} {t ty : TypeId} {pos : String} {after : Array Edge} {sl : List (Nat × AV)} {ts : List (Nat × Tok)} {z : Value} {k b : Nat} (ho : l[i]? = some ⟨some d, .alloc t, ty, pos, after, none⟩) (hb : bs.getD i false = false) (he : ElF P t z k b) (hd : dstOk (some d) n = true)
      (h : ∀ lab, TL G l bs rs K r ((d, .ptr lab 0 0) :: sl) ((lab, .row t k [vcells z]) :: ts)) : TL G l bs rs K (i :: r) sl ts
  | effr {i : Nat} {r : List Nat} {o : Oper} {sl : List (Nat × AV)} {ts us ts2 : List (Nat × Tok)} {Post : List (Nat × Tok) → AV → Prop} (ho : l[i]? = some o) (hb : bs.getD i false = false) (hna : isAl l i = false) (hg : GOk l sl o) (ht : Takes ts us ts2) (he : OpEffR P o ⟨sl, rs⟩ us Post) (hd : dstOk o.dst n = true)
      (h : ∀ ts' x, Post ts' x → TL G l bs rs K r (putSl sl o.dst x) (ts' ++ ts2)) : TL G l bs rs K (i :: r) sl ts
  | evr {i : Nat} {r : List Nat} {o : Oper} {sl : List (Nat × AV)} {ts us1 z : List (Nat × Tok)} {x : AV} (ho : l[i]? = some o) (hb : bs.getD i false = true) (hrd : rdB l bs i = true) (hp : ts.Perm (us1 ++ z)) (he : GEv P l sl (us1 ++ rs) o x) (hd : dstOk o.dst n = true) (h : TL G l bs rs K r (putSl sl o.dst x) ts) : TL G l bs rs K (i :: r) sl ts

/-- What the slots hold behind those that are done. -/
def VOf (sl0 : List (Nat × AV)) (D : List (Nat × Oper × AV)) (d : Nat) (x : AV) : Prop :=
  (∃ p, p ∈ D ∧ p.2.1.dst = some d ∧ p.2.2 = x) ∨ (look sl0 d = some x ∧ ∀ p, p ∈ D → p.2.1.dst ≠ some d)

/-- An alloc that is done ahead of its turn: its place, itself, what it gives; its token. -/
structure Early where
  p : Nat × Oper × AV
  t : Nat × Tok

/-- It is what an alloc gives. -/
def EOk (P : Program) (n : Nat) (l : List Oper) (e : Early) : Prop :=
  ∃ (d : Nat) (t ty : TypeId) (pos : String) (after : Array Edge) (z : Value) (k b : Nat), l[e.p.1]? = some e.p.2.1 ∧ e.p.2.1 = ⟨some d, .alloc t, ty, pos, after, none⟩ ∧ ElF P t z k b ∧ e.t = (e.t.1, .row t k [vcells z]) ∧ e.p.2.2 = .ptr e.t.1 0 0

theorem elf_same {P : Program} {t : TypeId} {z z' : Value} {k k' b b' : Nat} (h : ElF P t z k b) (h' : ElF P t z' k' b') : z = z' ∧ k = k' := by
  obtain ⟨i, h1, h2, h3, _⟩ := h.h
  obtain ⟨i', h1', h2', h3', _⟩ := h'.h
  rw [h1] at h1'
  cases h1'
  rw [h2] at h2'
  cases h2'
  exact ⟨rfl, by rw [← h3, h3']⟩

def etoks (E : List Early) : List (Nat × Tok) := E.map (·.t)

/-- Nothing of us1 was written yet; or else one that writes is done. -/
def Unw (l : List Oper) (bs : List Bool) (L : Nat → Prop) (ts us1 : List (Nat × Tok)) : Prop :=
  (∃ j, j < l.length ∧ L j ∧ bs.getD j false = false ∧ isAl l j = false) ∨ ∃ z, ts.Perm (us1 ++ z)
/-- One that reckons and is read, but not done yet. -/
def Pend (P : Program) (n : Nat) (l : List Oper) (bs : List Bool) (rs : List (Nat × Tok)) (ts : List (Nat × Tok)) (L : Nat → Prop) (sl : List (Nat × AV)) (p : Nat × Oper × AV) : Prop :=
  (bs.getD p.1 false = true ∧ GEv P l sl rs p.2.1 p.2.2 ∧ dstOk p.2.1.dst n = true) ∨ (bs.getD p.1 false = true ∧ rdB l bs p.1 = true ∧ dstOk p.2.1.dst n = true ∧ ∃ us1, GEv P l sl (us1 ++ rs) p.2.1 p.2.2 ∧ Unw l bs L ts us1)
theorem Pend.mono {P : Program} {n : Nat} {l : List Oper} {bs : List Bool} {rs ts ts' : List (Nat × Tok)} {L L' : Nat → Prop} {sl : List (Nat × AV)} {p : Nat × Oper × AV} (h : Pend P n l bs rs ts L sl p) (hr : ∀ us1, Unw l bs L ts us1 → Unw l bs L' ts' us1) : Pend P n l bs rs ts' L' sl p :=
  h.imp id fun ⟨h1, h2, h3, us1, h4, h5⟩ => ⟨h1, h2, h3, us1, h4, hr us1 h5⟩
theorem Unw.more {l : List Oper} {bs : List Bool} {ts : List (Nat × Tok)} {L L' : Nat → Prop} (hL : ∀ j, L j → L' j) {us1 : List (Nat × Tok)} (h : Unw l bs L ts us1) : Unw l bs L' ts us1 :=
  h.imp (fun ⟨j, h1, h2, h3⟩ => ⟨j, h1, hL j h2, h3⟩) id
theorem Unw.grow {l : List Oper} {bs : List Bool} {ts ts' : List (Nat × Tok)} {L : Nat → Prop} (hz : ∃ z, ts'.Perm (ts ++ z)) {us1 : List (Nat × Tok)} (h : Unw l bs L ts us1) : Unw l bs L ts' us1 :=
  h.imp id fun ⟨z, hp⟩ => by
    obtain ⟨y, hy⟩ := hz
    exact ⟨z ++ y, by rw [← List.append_assoc]; exact hy.trans (hp.append_right y)⟩

/-- What was read (h), what is still to be read (r), allocs that are done ahead of their turn (E), what is done (D, L). -/
structure Hist (P : Program) (n : Nat) (l : List Oper) (bs : List Bool) (rs : List (Nat × Tok)) (sl0 : List (Nat × AV)) (T' : List Nat) (D : List (Nat × Oper × AV)) (E : List Early) (h : List (Nat × Oper × AV)) (r : List Nat) (ts : List (Nat × Tok)) (L : Nat → Prop) : Prop where
  order : T' = r.reverse ++ h.map (·.1)
  opers : ∀ p, p ∈ h → l[p.1]? = some p.2.1
  pend : ∀ a p b, h = a ++ p :: b → L p.1 ∨ Pend P n l bs rs ts L (envOf sl0 b) p
  dop : ∀ p, p ∈ D → l[p.1]? = some p.2.1 ∧ L p.1
  hD : ∀ p, p ∈ h → L p.1 → p ∈ D
  dh : ∀ i, L i → i ∈ h.map (·.1) ∨ ∃ e, e ∈ E ∧ e.p.1 = i
  eok : ∀ e, e ∈ E → EOk P n l e
  eD : ∀ e, e ∈ E → e.p ∈ D
  er : ∀ e, e ∈ E → e.p.1 ∈ r
  en : E.Pairwise (fun e e' => e.p.1 ≠ e'.p.1)

theorem Hist.grow {P : Program} {n : Nat} {l : List Oper} {bs : List Bool} {rs : List (Nat × Tok)} {sl0 : List (Nat × AV)} {T' : List Nat} {D : List (Nat × Oper × AV)} {E : List Early} {h : List (Nat × Oper × AV)} {r : List Nat} {ts ts' : List (Nat × Tok)} {L : Nat → Prop} (H : Hist P n l bs rs sl0 T' D E h r ts L) (hz : ∃ z, ts'.Perm (ts ++ z)) : Hist P n l bs rs sl0 T' D E h r ts' L :=
  ⟨H.order, H.opers, fun a p b hab => (H.pend a p b hab).imp id fun hp => hp.mono fun _ hr => hr.grow hz, H.dop, H.hD, H.dh, H.eok, H.eD, H.er, H.en⟩

theorem opsAt_of {S : Nat → Prop} {R : Lab} {w : World} {l : List Oper} {o : Oper} {sl : List (Nat × AV)} {ts : List (Nat × Tok)} {a : Act} (h : ∀ t, t ∈ looks l o → ∀ y, look sl t = some y → RepV S R w y (a.tmps.getD t undef)) : OpsAt S R w ⟨sl, ts⟩ a o.op := by
  intro z hz y hy
  cases z with
  | tmp t =>
    refine h t ?_ y hy
    simp only [looks, List.mem_append, List.mem_filterMap]
    exact .inl ⟨.tmp t, by simpa using hz, rfl⟩
  | const v => cases hy; exact .val _
  | global g => cases hy; exact .val _
  | func f => cases hy; exact RepV.fn (vs := #[]) rfl (fun i x hx => by simp at hx)

/-- What one operation leaves. -/
def After {ro : Option Nat} (G : CtxR P n ro) (l : List Oper) (o : Oper) (i : Nat) (a : Act) (w : World) (S : Nat → Prop) (R : Lab) (toks : List (Nat × Tok)) (next : Act → World → Prop) : Prop :=
  ∀ Q : Exit → Act → World → Prop, wpOpIn (fen ro) 0 P l.toArray Q i next a w

/-- One that reckons is done. -/
theorem run_gev {l : List Oper} {i : Nat} {o : Oper} {x : AV} {sl : List (Nat × AV)} {toks rts : List (Nat × Tok)} {V : Nat → AV → Prop} {S : Nat → Prop} {R : Lab} {a : Act} {w : World} {Q : Exit → Act → World → Prop} {next : Act → World → Prop} (ho : l[i]? = some o)
    (he : GEv P l sl rts o x) (hm : MidS G V toks S R a w) (hr : ∃ us, toks.Perm (us ++ rts)) (hlook : ∀ t, t ∈ looks l o → ∀ y, look sl t = some y → RepV S R w y (a.tmps.getD t undef))
    (hn : ∀ S' R' w' v, MidS G V toks S' R' a w' → RepV S' R' w' x v → next (a.put o.dst v) w') : wpOpIn (fen ro) 0 P l.toArray Q i next a w := by
  obtain ⟨us, hperm⟩ := hr
  have hh : Holds S R w rts := hm.holds.sub ⟨us, hperm.trans List.perm_append_comm⟩
  have hops : OpsAt S R w ⟨sl, rts⟩ a o.op := opsAt_of hlook
  have hguard : ∀ (j d : Nat) (p : Oper) (c b : Bool), o.guard = some (j, b) → l[j]? = some p → p.dst = some d → look sl d = some (.val (.bool c)) → yielded l.toArray a.tmps j = some c := by
    intro j d p c b hg hpj hdj hxj
    have hv := slot_lt (hlook d (by simp only [looks, hg, hpj, List.mem_append]; exact .inr (by simp [hdj])) _ hxj)
    simp [yielded, hpj, hdj, hv]
  have hnext : ∀ v S' R' w', Grow S R w S' R' w' → RepV S' R' w' x v → next (a.put o.dst v) w' := fun v S' R' w' hg hv =>
    hn S' R' w' v (hm.of_rel fun sl h => h.grow hg) hv
  unfold wpOpIn
  simp only [List.getElem?_toArray, ho]
  cases he with
  | plain hg h =>
    rw [if_pos (by simp [Region.wanted, hg])]
    exact oper_in (h.h S R a w hh hops _ _ fun v S' R' w' hg hv => ⟨hnext v S' R' w' hg hv, put_defers ..⟩)
  | take hg hpj hdj hxj h =>
    rw [if_pos (by simp [Region.wanted, hg, hguard _ _ _ _ _ hg hpj hdj hxj])]
    exact oper_in (h.h S R a w hh hops _ _ fun v S' R' w' hg hv => ⟨hnext v S' R' w' hg hv, put_defers ..⟩)
  | skip hg hpj hdj hxj hne =>
    have hv := rep_val (hlook _ (by simp only [looks, hg, hpj, List.mem_append]; exact .inr (by simp [hdj])) _ hxj)
    rw [if_neg (by simpa [Region.wanted, hg] using yielded_ne hpj hdj hv hne)]
    exact ⟨fun _ _ => trivial, hnext _ S R w (.refl w hm.holds.top) (.val undef)⟩

theorem run_geff {l : List Oper} {i : Nat} {o : Oper} {sl : List (Nat × AV)} {toks us rts : List (Nat × Tok)} {Post : List (Nat × Tok) → AV → Prop} {V : Nat → AV → Prop} {S : Nat → Prop} {R : Lab} {a : Act} {w : World} {Q : Exit → Act → World → Prop} {next : Act → World → Prop} (ho : l[i]? = some o)
    (hg : GOk l sl o) (he : OpEff P o ⟨sl, []⟩ us Post) (hm : MidS G V toks S R a w) (hr : toks.Perm (us ++ rts)) (hlook : ∀ t, t ∈ looks l o → ∀ y, look sl t = some y → RepV S R w y (a.tmps.getD t undef))
    (hn : ∀ S' R' w' v x ts', Post ts' x → MidS G V (ts' ++ rts) S' R' a w' → RepV S' R' w' x v → next (a.put o.dst v) w') : wpOpIn (fen ro) 0 P l.toArray Q i next a w := by
  have hh : Holds S R w us := hm.holds.sub ⟨rts, hr⟩
  have hops : OpsAt S R w ⟨sl, []⟩ a o.op := opsAt_of hlook
  have hw : Region.wanted o (yielded l.toArray a.tmps) = true := by
    rcases hg with hg | ⟨j, d, p, b, hg, hpj, hdj, hxj⟩
    · simp [Region.wanted, hg]
    · have hv := slot_lt (hlook d (by simp only [looks, hg, hpj, List.mem_append]; exact .inr (by simp [hdj])) _ hxj)
      simp [Region.wanted, hg, yielded, hpj, hdj, hv]
  unfold wpOpIn
  simp only [List.getElem?_toArray, ho]
  rw [if_pos hw]
  refine oper_in (he.h S R a w hh hops _ _ fun v x S' R' w' ts' hpost hh' hrep out => ⟨hn S' R' w' v x ts' hpost ?_ hrep, put_defers ..⟩)
  exact hm.of_rel fun sl h => h.frame hr hh' out

theorem run_geffr {l : List Oper} {i : Nat} {o : Oper} {sl : List (Nat × AV)} {toks us ts2 rs : List (Nat × Tok)} {Post : List (Nat × Tok) → AV → Prop} {V : Nat → AV → Prop} {S : Nat → Prop} {R : Lab} {a : Act} {w : World} {Q : Exit → Act → World → Prop} {next : Act → World → Prop} (ho : l[i]? = some o)
    (hg : GOk l sl o) (he : OpEffR P o ⟨sl, rs⟩ us Post) (hm : MidS G V toks S R a w) (hr : toks.Perm (us ++ (ts2 ++ rs))) (hlook : ∀ t, t ∈ looks l o → ∀ y, look sl t = some y → RepV S R w y (a.tmps.getD t undef))
    (hn : ∀ S' R' w' v x ts', Post ts' x → MidS G V (ts' ++ (ts2 ++ rs)) S' R' a w' → RepV S' R' w' x v → next (a.put o.dst v) w') : wpOpIn (fen ro) 0 P l.toArray Q i next a w := by
  have hh : Holds S R w (us ++ rs) := hm.holds.sub ⟨ts2, hr.trans (by rw [List.append_assoc]; exact List.perm_append_comm.append_left us)⟩
  have hops : OpsAt S R w ⟨sl, rs⟩ a o.op := opsAt_of hlook
  have hw : Region.wanted o (yielded l.toArray a.tmps) = true := by
    rcases hg with hg | ⟨j, d, p, b, hg, hpj, hdj, hxj⟩
    · simp [Region.wanted, hg]
    · have hv := slot_lt (hlook d (by simp only [looks, hg, hpj, List.mem_append]; exact .inr (by simp [hdj])) _ hxj)
      simp [Region.wanted, hg, yielded, hpj, hdj, hv]
  unfold wpOpIn
  simp only [List.getElem?_toArray, ho]
  rw [if_pos hw]
  refine oper_in (he.h S R a w hh hops _ _ fun v x S' R' w' ts' hpost hh' hrep out => ⟨hn S' R' w' v x ts' hpost ?_ hrep, put_defers ..⟩)
  exact hm.of_rel fun sl h => h.frame hr hh' out

section
variable {l : List Oper} {bs : List Bool} {rs : List (Nat × Tok)} {sl0 : List (Nat × AV)} {T' : List Nat} {D : List (Nat × Oper × AV)} {E : List Early} {h : List (Nat × Oper × AV)} {r : List Nat} {L : Nat → Prop} {K : Kont}

/-- What one looks at. -/
theorem look_gen {b : List (Nat × Oper × AV)} {i : Nat} {o : Oper} {toks : List (Nat × Tok)} {S : Nat → Prop} {R : Lab} {ac : Act} {w : World} (ho : l[i]? = some o) (hown : ∀ d, o.dst = some d → d ∉ looks l o) (hb : ∀ q, q ∈ b → PR l bs i q.1 ∧ l[q.1]? = some q.2.1 ∧ (L q.1 → q ∈ D)) (hD : ∀ p, p ∈ D → l[p.1]? = some p.2.1 ∧ L p.1)
    (hrest : ∀ j, L j → (∃ q, q ∈ b ∧ q.1 = j) ∨ j = i ∨ PR l bs j i) (hanc : ∀ j, ancB l l.length i j = true → L j) (hnot : ∀ j, ancB l l.length j i = true → ¬ L j) (hm : MidS G (VOf sl0 D) toks S R ac w) :
    ∀ t, t ∈ looks l o → ∀ y, Go.Proofs.YtphkfejckafamaaDoorA.look (envOf sl0 b) t = some y → RepV S R w y (ac.tmps.getD t undef) := by
  intro t ht y hy
  rcases envOf_look hy with ⟨q, h1, h2, h3⟩ | ⟨h1, h2⟩
  · obtain ⟨hp, hq, hd⟩ := hb q h1
    exact hm.slots t y (.inl ⟨q, hd (hanc _ (hp.reads _ _ _ ho hq h2 ht)), h2, h3⟩)
  · refine hm.slots t y (.inr ⟨h1, fun p hp hd => ?_⟩)
    obtain ⟨hpo, hpL⟩ := hD p hp
    rcases hrest p.1 hpL with ⟨q, hq, hqp⟩ | hji | hji
    · have := (hb q hq).2.1
      rw [hqp, hpo] at this
      exact h2 q hq (by rw [← Option.some.inj this]; exact hd)
    · rw [hji, ho] at hpo
      exact hown t (by rw [Option.some.inj hpo]; exact hd) ht
    · exact hnot p.1 (hji.over _ _ _ hpo ho hd ht) hpL

/-- One more is done. -/
theorem VOf.step {i : Nat} {o : Oper} {x : AV} (hdst : ∀ p, p ∈ D → ∀ d, o.dst = some d → p.2.1.dst ≠ some d) (d : Nat) (y : AV) (hv : VOf sl0 ((i, o, x) :: D) d y) : (o.dst = some d → y = x) ∧ (o.dst ≠ some d → VOf sl0 D d y) := by
  rcases hv with ⟨q, h1, h2, h3⟩ | ⟨h1, h2⟩
  · rcases List.mem_cons.1 h1 with rfl | h1
    · exact ⟨fun _ => h3.symm, fun hne => absurd h2 hne⟩
    · exact ⟨fun hd => absurd h2 (hdst q h1 d hd), fun _ => .inl ⟨q, h1, h2, h3⟩⟩
  · exact ⟨fun hd => absurd hd (h2 _ List.mem_cons_self), fun _ => .inr ⟨h1, fun q hq => h2 q (List.mem_cons_of_mem _ hq)⟩⟩

theorem Hist.cons {i : Nat} {ts : List (Nat × Tok)} (H : Hist P n l bs rs sl0 T' D E h (i :: r) ts L) (hT : T'.Pairwise (fun i j => PR l bs i j)) {o : Oper} {x : AV} (ho : l[i]? = some o) (hb : bs.getD i false = true) (hna : isAl l i = false) (hpd : Pend P n l bs rs ts L (envOf sl0 h) (i, o, x)) : Hist P n l bs rs sl0 T' D E ((i, o, x) :: h) r ts L := by
  have hiE : ∀ e, e ∈ E → e.p.1 ≠ i := fun e hm hi => by
    obtain ⟨d, t, ty, pos, after, z, k, b, h1, h2, _⟩ := H.eok e hm
    rw [hi, h2] at h1
    simp [isAl, h1] at hna
  have hnl : ¬ L i := fun hl => by
    rcases H.dh i hl with h1 | ⟨e, h1, h2⟩
    · rw [H.order] at hT
      exact ((List.pairwise_append.1 hT).2.2 i (by simp) i h1).ne rfl
    · exact hiE e h1 h2
  refine ⟨by rw [H.order]; simp, fun p hp => ?_, fun a p b hab => ?_, H.dop, fun p hp hl => ?_, fun j hj => ?_, H.eok, H.eD, fun e he' => ?_, H.en⟩
  · rcases List.mem_cons.1 hp with rfl | hp
    · exact ho
    · exact H.opers p hp
  · cases a with
    | nil =>
      simp only [List.nil_append, List.cons.injEq] at hab
      obtain ⟨rfl, rfl⟩ := hab
      exact .inr hpd
    | cons q a =>
      simp only [List.cons_append, List.cons.injEq] at hab
      exact H.pend a p b hab.2
  · rcases List.mem_cons.1 hp with rfl | hp
    · exact absurd hl hnl
    · exact H.hD p hp hl
  · rcases H.dh j hj with h1 | h1
    · exact .inl (by simp only [List.map_cons, List.mem_cons]; exact .inr h1)
    · exact .inr h1
  · rcases List.mem_cons.1 (H.er e he') with h1 | h1
    · exact absurd h1 (hiE e he')
    · exact h1

/-- An alloc that was done ahead of its turn: now it is its turn. -/
theorem Hist.turn {E1 E2 : List Early} {e : Early} {ts : List (Nat × Tok)} (H : Hist P n l bs rs sl0 T' D (E1 ++ e :: E2) h (e.p.1 :: r) ts L) : Hist P n l bs rs sl0 T' D (E1 ++ E2) (e.p :: h) r ts L := by
  have hmem : ∀ e', e' ∈ E1 ++ E2 → e' ∈ E1 ++ e :: E2 := fun e' h' => by
    rcases List.mem_append.1 h' with h1 | h1
    · exact List.mem_append_left _ h1
    · exact List.mem_append_right _ (List.mem_cons_of_mem _ h1)
  have hen := List.pairwise_append.1 H.en
  have hen2 := List.pairwise_cons.1 hen.2.1
  have hne : ∀ e', e' ∈ E1 ++ E2 → e'.p.1 ≠ e.p.1 := fun e' h' => by
    rcases List.mem_append.1 h' with h1 | h1
    · exact hen.2.2 e' h1 e List.mem_cons_self
    · exact (hen2.1 e' h1).symm
  have heD := H.eD e (by simp)
  refine ⟨by rw [H.order]; simp, fun p hp => ?_, fun a p b hab => ?_, H.dop, fun p hp hl => ?_, fun j hj => ?_, fun e' h' => H.eok e' (hmem e' h'), fun e' h' => H.eD e' (hmem e' h'), fun e' h' => ?_, List.pairwise_append.2 ⟨hen.1, hen2.2, fun a ha b hb => hen.2.2 a ha b (List.mem_cons_of_mem _ hb)⟩⟩
  · rcases List.mem_cons.1 hp with rfl | hp
    · exact (H.dop _ heD).1
    · exact H.opers p hp
  · cases a with
    | nil =>
      simp only [List.nil_append, List.cons.injEq] at hab
      obtain ⟨rfl, rfl⟩ := hab
      exact .inl (H.dop _ heD).2
    | cons q a =>
      simp only [List.cons_append, List.cons.injEq] at hab
      exact H.pend a p b hab.2
  · rcases List.mem_cons.1 hp with rfl | hp
    · exact heD
    · exact H.hD p hp hl
  · simp only [List.map_cons, List.mem_cons]
    rcases H.dh j hj with h1 | ⟨e', h1, h2⟩
    · exact .inl (.inr h1)
    · rcases List.mem_append.1 h1 with h3 | h3
      · exact .inr ⟨e', List.mem_append_left _ h3, h2⟩
      · rcases List.mem_cons.1 h3 with rfl | h3
        · exact .inl (.inl h2.symm)
        · exact .inr ⟨e', List.mem_append_right _ h3, h2⟩
  · rcases List.mem_cons.1 (H.er e' (hmem e' h')) with h1 | h1
    · exact absurd h1 (hne e' h')
    · exact h1

/-- What stands ahead is read. -/
theorem TL.advance (hT : T'.Pairwise (fun i j => PR l bs i j)) (hal : ∀ i, isAl l i = true → bs.getD i false = false) {r2 : List Nat} : ∀ (r1 : List Nat) (h : List (Nat × Oper × AV)) (E : List Early) (ts : List (Nat × Tok)), Hist P n l bs rs sl0 T' D E h (r1 ++ r2) ts L → (∀ j, j ∈ r1 → bs.getD j false = true ∨ ∃ e, e ∈ E ∧ e.p.1 = j) →
    TL G l bs rs K (r1 ++ r2) (envOf sl0 h) ts → ∃ h' E' ts', Hist P n l bs rs sl0 T' D E' h' r2 ts' L ∧ TL G l bs rs K r2 (envOf sl0 h') ts' ∧ (ts' ++ etoks E').Perm (ts ++ etoks E)
  | [], h, E, ts, H, _, htl => ⟨h, E, ts, H, htl, .refl _⟩
  | j :: r1, h, E, ts, H, hb, htl => by
    have hbj := hb j List.mem_cons_self
    have isal : ∀ e, e ∈ E → e.p.1 = j → isAl l j = true := fun e hm hj => by
      obtain ⟨d, t, ty, pos, after, z, k, b, h1, h2, _⟩ := H.eok e hm
      rw [hj, h2] at h1
      simp [isAl, h1]
    have hin : bs.getD j false = false → ∃ e, e ∈ E ∧ e.p.1 = j := fun hf => hbj.resolve_left (by rw [hf]; simp)
    cases htl with
    | ev ho hb' he hd h' =>
      rename_i o x
      have hna : isAl l j = false := by
        cases hc : isAl l j with
        | false => rfl
        | true => rw [hal j hc] at hb'; cases hb'
      exact TL.advance hT hal r1 ((j, o, x) :: h) E ts (H.cons hT ho hb' hna (.inl ⟨hb', he, hd⟩)) (fun k hk => hb k (List.mem_cons_of_mem _ hk)) h'
    | evr ho hb' hrd hp he hd h' =>
      rename_i o us1 z x
      have hna : isAl l j = false := by
        cases hc : isAl l j with
        | false => rfl
        | true => rw [hal j hc] at hb'; cases hb'
      exact TL.advance hT hal r1 ((j, o, x) :: h) E ts (H.cons hT ho hb' hna (.inr ⟨hb', hrd, hd, us1, he, .inr ⟨z, hp⟩⟩)) (fun k hk => hb k (List.mem_cons_of_mem _ hk)) h'
    | evw ho hb' hna => obtain ⟨e, h1, h2⟩ := hin hb'; rw [isal e h1 h2] at hna; cases hna
    | eff ho hb' hna => obtain ⟨e, h1, h2⟩ := hin hb'; rw [isal e h1 h2] at hna; cases hna
    | effr ho hb' hna => obtain ⟨e, h1, h2⟩ := hin hb'; rw [isal e h1 h2] at hna; cases hna
    | al ho hb' he hd h' =>
      rename_i d t ty pos after z k b
      obtain ⟨e, h1, rfl⟩ := hin hb'
      obtain ⟨d', t', ty', pos', after', z', k', b', g1, g2, g3, g4, g5⟩ := H.eok e h1
      rw [ho, g2] at g1
      simp only [Option.some.injEq, Oper.mk.injEq, Op.alloc.injEq] at g1
      obtain ⟨rfl, rfl, _⟩ := g1
      obtain ⟨rfl, rfl⟩ := elf_same he g3
      obtain ⟨E1, E2, rfl⟩ := List.append_of_mem h1
      have h2 := h' e.t.1
      have henv : envOf sl0 (e.p :: h) = (d, .ptr e.t.1 0 0) :: envOf sl0 h := by
        simp only [envOf, g2, g5]; rfl
      rw [← henv] at h2
      obtain ⟨h3, E3, ts3, a1, a2, a3⟩ := TL.advance hT hal r1 (e.p :: h) (E1 ++ E2) _ (H.turn.grow ⟨[(e.t.1, .row t k [vcells z])], List.perm_append_comm (l₁ := [_])⟩) (fun j hj => by
        rcases hb j (List.mem_cons_of_mem _ hj) with c1 | ⟨e', c1, c2⟩
        · exact .inl c1
        · rcases List.mem_append.1 c1 with c3 | c3
          · exact .inr ⟨e', List.mem_append_left _ c3, c2⟩
          · rcases List.mem_cons.1 c3 with rfl | c3
            · exfalso
              have hT' := hT
              rw [H.order] at hT'
              have := (List.pairwise_append.1 hT').1
              simp only [List.cons_append, List.reverse_cons] at this
              exact ((List.pairwise_append.1 this).2.2 j (by simp [hj]) e'.p.1 (by simp)).ne c2.symm
            · exact .inr ⟨e', List.mem_append_right _ c3, c2⟩) h2
      refine ⟨h3, E3, ts3, a1, a2, a3.trans ?_⟩
      rw [← g4]
      simp only [etoks, List.map_append, List.map_cons, List.cons_append]
      have : (e.t :: (ts ++ (E1.map (·.t) ++ E2.map (·.t)))).Perm (ts ++ (e.t :: (E1.map (·.t) ++ E2.map (·.t)))) := List.perm_middle.symm
      refine this.trans (List.Perm.append_left ts ?_)
      exact List.perm_middle.symm
end


theorem pw_or {α : Type} {R : α → α → Prop} : ∀ {l : List α}, l.Pairwise R → ∀ i j, i ∈ l → j ∈ l → i ≠ j → R i j ∨ R j i
  | [], _, _, _, h, _, _ => by cases h
  | a :: l, hp, i, j, hi, hj, hne => by
    have hp' := List.pairwise_cons.1 hp
    rcases List.mem_cons.1 hi with e1 | g1
    · rcases List.mem_cons.1 hj with e2 | g2
      · exact absurd (e1.trans e2.symm) hne
      · exact .inl (by rw [e1]; exact hp'.1 j g2)
    · rcases List.mem_cons.1 hj with e2 | g2
      · exact .inr (by rw [e2]; exact hp'.1 i g1)
      · exact pw_or hp'.2 i j g1 g2 hne

theorem MidS.perm {V : Nat → AV → Prop} {toks toks' : List (Nat × Tok)} {S : Nat → Prop} {R : Lab} {a : Act} {w : World} (h : MidS G V toks S R a w) (hp : toks.Perm toks') : MidS G V toks' S R a w := by
  have o := h.out
  exact ⟨h.holds.sub ⟨[], by simpa using hp⟩, h.slots, ⟨o.os, o.tape, o.output, o.size, o.block, o.S0, o.S1, o.R0, fun g ⟨l', t', hm', hg⟩ => o.foot g ⟨l', t', hp.mem_iff.2 hm', hg⟩, fun l' t' hm' => o.keys l' t' (hp.mem_iff.2 hm')⟩, h.defers, h.size⟩

/-- What the allocs make is known. -/
inductive Als (P : Program) (n : Nat) : List Oper → Prop
  | nil : Als P n []
  | al {d : Nat} {t ty : TypeId} {pos : String} {after : Array Edge} {z : Value} {k b : Nat} {r : List Oper} [he : ElF P t z k b] (hd : Nat.blt d n = true) (hr : Als P n r) : Als P n (⟨some d, .alloc t, ty, pos, after, none⟩ :: r)
  | other {o : Oper} {r : List Oper} (ho : isAl [o] 0 = false) (hr : Als P n r) : Als P n (o :: r)

theorem Als.get {l : List Oper} (h : Als P n l) : ∀ (i : Nat), isAl l i = true → ∃ (d : Nat) (t ty : TypeId) (pos : String) (after : Array Edge) (z : Value) (k b : Nat), l[i]? = some ⟨some d, .alloc t, ty, pos, after, none⟩ ∧ ElF P t z k b ∧ dstOk (some d) n = true := by
  induction h with
  | nil => intro i hi; simp [isAl] at hi
  | al hd hr ih =>
    rename_i d t ty pos after z k b r he
    intro i hi
    cases i with
    | zero => exact ⟨d, t, ty, pos, after, z, k, b, rfl, he, hd⟩
    | succ i => simpa using ih i (by simpa [isAl] using hi)
  | other ho hr ih =>
    intro i hi
    cases i with
    | zero =>
      rename_i o r
      have h0 : isAl [o] 0 = true := hi
      rw [ho] at h0
      cases h0
    | succ i => simpa using ih i (by simpa [isAl] using hi)

section
variable {l : List Oper} {bs : List Bool} {rs : List (Nat × Tok)} {sl0 : List (Nat × AV)} {T' : List Nat} {D : List (Nat × Oper × AV)} {E : List Early} {h : List (Nat × Oper × AV)} {r : List Nat} {L : Nat → Prop}

theorem Hist.mark {ts : List (Nat × Tok)} (H : Hist P n l bs rs sl0 T' D E h r ts L) (hT : T'.Pairwise (fun i j => PR l bs i j)) {p : Nat × Oper × AV} (hp : p ∈ h) : Hist P n l bs rs sl0 T' (p :: D) E h r ts (fun j => j = p.1 ∨ L j) := by
  have hpw : (h.map (·.1)).Pairwise (fun i j => PR l bs i j) := by
    rw [H.order] at hT
    exact (List.pairwise_append.1 hT).2.1
  have huniq : ∀ q, q ∈ h → q.1 = p.1 → q = p := by
    intro q hq he
    have : ∀ (m : List (Nat × Oper × AV)), (m.map (·.1)).Pairwise (fun i j => PR l bs i j) → p ∈ m → q ∈ m → q = p := by
      intro m
      induction m with
      | nil => intro _ h1; cases h1
      | cons z m ih =>
        intro hpw h1 h2
        have hpw' := List.pairwise_cons.1 hpw
        rcases List.mem_cons.1 h1 with e1 | g1
        · rcases List.mem_cons.1 h2 with e2 | g2
          · rw [e1, e2]
          · subst e1
            exact absurd he.symm (hpw'.1 q.1 (List.mem_map_of_mem g2)).ne
        · rcases List.mem_cons.1 h2 with e2 | g2
          · subst e2
            exact absurd he (hpw'.1 p.1 (List.mem_map_of_mem g1)).ne
          · exact ih hpw'.2 g1 g2
    exact this h hpw hp hq
  refine ⟨H.order, H.opers, fun a q b hab => (H.pend a q b hab).imp .inr fun hp => hp.mono fun _ hr => hr.more fun _ => .inr, fun q hq => ?_, fun q hq hl => ?_, fun j hj => ?_, H.eok, fun e he => List.mem_cons_of_mem _ (H.eD e he), H.er, H.en⟩
  · rcases List.mem_cons.1 hq with rfl | hq
    · exact ⟨H.opers _ hp, .inl rfl⟩
    · exact ⟨(H.dop q hq).1, .inr (H.dop q hq).2⟩
  · rcases hl with hl | hl
    · rw [huniq q hq hl]; exact List.mem_cons_self
    · exact List.mem_cons_of_mem _ (H.hD q hq hl)
  · rcases hj with rfl | hj
    · exact .inl (List.mem_map_of_mem hp)
    · exact H.dh j hj

theorem Hist.write {i : Nat} {ts ts' : List (Nat × Tok)} (H : Hist P n l bs rs sl0 T' D E h (i :: r) ts L) (hbf : bs.getD i false = false) (hnf : isAl l i = false) (hni : ∀ e, e ∈ E → e.p.1 ≠ i) (hnh : ∀ q, q ∈ h → q.1 ≠ i) {o : Oper} {x : AV} (ho : l[i]? = some o) : Hist P n l bs rs sl0 T' ((i, o, x) :: D) E ((i, o, x) :: h) r ts' (fun j => j = i ∨ L j) := by
  refine ⟨by rw [H.order]; simp, fun p hp => ?_, fun a p b hab => ?_, fun q hq => ?_, fun q hq hl => ?_, fun j hj => ?_, H.eok, fun e he => List.mem_cons_of_mem _ (H.eD e he), fun e he => ?_, H.en⟩
  · rcases List.mem_cons.1 hp with rfl | hp
    · exact ho
    · exact H.opers p hp
  · cases a with
    | nil =>
      simp only [List.nil_append, List.cons.injEq] at hab
      obtain ⟨rfl, rfl⟩ := hab
      exact .inl (.inl rfl)
    | cons q a =>
      simp only [List.cons_append, List.cons.injEq] at hab
      exact (H.pend a p b hab.2).imp .inr fun hp => hp.mono fun _ _ => .inl ⟨i, (List.getElem?_eq_some_iff.1 ho).1, .inl rfl, hbf, hnf⟩
  · rcases List.mem_cons.1 hq with rfl | hq
    · exact ⟨ho, .inl rfl⟩
    · exact ⟨(H.dop q hq).1, .inr (H.dop q hq).2⟩
  · rcases List.mem_cons.1 hq with rfl | hq
    · exact List.mem_cons_self
    · rcases hl with hl | hl
      · exact absurd hl (hnh q hq)
      · exact List.mem_cons_of_mem _ (H.hD q hq hl)
  · simp only [List.map_cons, List.mem_cons]
    rcases hj with rfl | hj
    · exact .inl (.inl rfl)
    · exact (H.dh j hj).imp .inr id
  · rcases List.mem_cons.1 (H.er e he) with h1 | h1
    · exact absurd h1 (hni e he)
    · exact h1
end

theorem mix_aux {l : List Oper} {bs : List Bool} {T : List Nat} {sl0 : List (Nat × AV)} {rs : List (Nat × Tok)} {K : Kont} (hok : ordOk l bs T = true) (hals : Als P n l) :
    ∀ (fuel : Nat) (listed : Array Bool) (a : Act) (w : World) (D : List (Nat × Oper × AV)) (E : List Early) (h : List (Nat × Oper × AV)) (r : List Nat) (ts : List (Nat × Tok)), listed.size = l.length →
      (∀ (i : Nat) (o : Oper), Lst listed i → l[i]? = some o → ∀ e, e ∈ edgesOf o → Lst listed e) → (∀ i, Lst listed i → i < l.length) →
      Hist P n l bs rs sl0 T.reverse D E h r ts (Lst listed) → TL G l bs rs K r (envOf sl0 h) ts →
      (unl l.length listed).length ≤ fuel → (∃ S R, MidS G (VOf sl0 D) (ts ++ (etoks E ++ rs)) S R a w) → wpAnyIn (fen ro) 0 P .any l.toArray (lift G (K.at G)) fuel listed a w := by
  simp only [ordOk, Bool.and_eq_true] at hok
  obtain ⟨hok1, hok2, hok3⟩ := hok
  have hpw : T.reverse.Pairwise (fun i j => PR l bs i j) := (pairsB_iff hok2).imp fun h => prB_iff h
  have hrow : ∀ (i : Nat) (o : Oper), l[i]? = some o → i ∈ T ∧ (∀ e, e ∈ edgesOf o → e < i) ∧ (∀ d, o.dst = some d → d ∉ looks l o) ∧ (isAl l i = true → bs.getD i false = false) := by
    intro i o ho
    have := allB_iff hok1 (List.getElem?_eq_some_iff.1 ho).1
    simp only [ho, Bool.and_eq_true] at this
    refine ⟨List.contains_iff_mem.1 this.1, fun e he => by simpa [Nat.blt_eq] using List.all_eq_true.1 this.2.1.1 e he, fun d hd hm => ?_, fun hal => ?_⟩
    · have h2 := this.2.1.2
      simp only [hd, Bool.not_eq_true'] at h2
      rw [List.contains_iff_mem.2 hm] at h2
      cases h2
    · have h2 := this.2.2
      rw [hal] at h2
      simpa using h2
  have hal : ∀ i, isAl l i = true → bs.getD i false = false := fun i hi => by
    obtain ⟨d, t, ty, pos, after, z, k, b, ho, _⟩ := hals.get i hi
    exact (hrow i _ ho).2.2.2 hi
  have hinT : ∀ (i : Nat) (o : Oper), l[i]? = some o → i ∈ T.reverse := fun i o ho => List.mem_reverse.2 (hrow i o ho).1
  -- no two write one slot
  have hdst : ∀ (i j : Nat) (o p : Oper) (d : Nat), i ≠ j → l[i]? = some o → l[j]? = some p → o.dst = some d → p.dst ≠ some d := by
    intro i j o p d hne ho hp hd hd'
    rcases pw_or hpw i j (hinT i o ho) (hinT j p hp) hne with h1 | h1
    · exact h1.dsts _ _ d ho hp hd' hd
    · exact h1.dsts _ _ d hp ho hd hd'
  have hfin : ∀ (listed : Array Bool) (a : Act) (w : World) (D : List (Nat × Oper × AV)) (E : List Early) (h : List (Nat × Oper × AV)) (r : List Nat) (ts : List (Nat × Tok)), (∀ i, i < l.length → Lst listed i) → Hist P n l bs rs sl0 T.reverse D E h r ts (Lst listed) → TL G l bs rs K r (envOf sl0 h) ts → (∃ S R, MidS G (VOf sl0 D) (ts ++ (etoks E ++ rs)) S R a w) → lift G (K.at G) .normal a w := by
    intro listed a w D E h r ts hall H htl ⟨S, R, hm⟩
    have hrl : ∀ j, j ∈ r → j < l.length → ∃ e, e ∈ E ∧ e.p.1 = j := fun j hj hlt => by
      rcases H.dh j (hall j hlt) with h1 | h1
      · have hp' := hpw
        rw [H.order] at hp'
        exact absurd rfl ((List.pairwise_append.1 hp').2.2 j (by simpa using hj) j h1).ne
      · exact h1
    -- what is left is in the list
    have hlen : ∀ j, j ∈ r → j < l.length := fun j hj => by
      have hjT : j ∈ T.reverse := by rw [H.order]; simp [hj]
      have := List.all_eq_true.1 hok3 j (List.mem_reverse.1 hjT)
      simpa [Nat.blt_eq] using this
    obtain ⟨h', E', ts', H', htl', hperm⟩ := TL.advance hpw hal (r2 := []) r h E ts (by simpa using H) (fun j hj => .inr (hrl j hj (hlen j hj))) (by simpa using htl)
    have hE' : E' = [] := List.eq_nil_iff_forall_not_mem.2 fun e he => by have := H'.er e he; cases this
    subst hE'
    simp only [etoks, List.map_nil, List.append_nil] at hperm
    have hm' : MidS G (VOf sl0 D) (ts' ++ rs) S R a w := hm.perm (by
      rw [← List.append_assoc]
      exact hperm.symm.append_right rs)
    cases htl' with
    | nil hgo =>
      refine ⟨_, hgo.h, S, R, hm'.rel1 fun d x hx => ?_⟩
      rcases envOf_look hx with ⟨p, h1, h2, h3⟩ | ⟨h1, h2⟩
      · exact .inl ⟨p, H'.hD p h1 (hall _ (List.getElem?_eq_some_iff.1 (H'.opers p h1)).1), h2, h3⟩
      · refine .inr ⟨h1, fun p hp hd => ?_⟩
        obtain ⟨g1, g2⟩ := H'.dop p hp
        rcases H'.dh _ g2 with g3 | ⟨e, g3, _⟩
        · obtain ⟨q, hq, hqp⟩ := List.mem_map.1 g3
          have := H'.opers q hq
          rw [hqp, g1] at this
          exact h2 q hq (by rw [← Option.some.inj this]; exact hd)
        · cases g3
  intro fuel
  induction fuel with
  | zero =>
    intro listed a w D E h r ts hs hd hL H htl hf hm
    have hall : ∀ i, i < l.length → Lst listed i := fun i hi => by
      by_cases hl : Lst listed i
      · exact hl
      · have : i ∈ unl l.length listed := by
          simp only [unl, List.mem_filter, List.mem_range]
          refine ⟨hi, ?_⟩
          cases hb : listed.getD i false with
          | true => exact absurd hb hl
          | false => rfl
        have := List.length_pos_of_mem this
        omega
    refine ⟨?_, hfin _ _ _ _ _ _ _ _ hall H htl hm⟩
    rw [List.eq_nil_iff_forall_not_mem]
    intro i hi
    obtain ⟨h1, h2, _⟩ := mem_ready hs hi
    exact h2 (hall i h1)
  | succ fuel ih =>
    intro listed a w D E h r ts hs hd hL H htl hf hmid
    by_cases hall : ∀ i, i < l.length → Lst listed i
    · refine ⟨fun _ => hfin _ _ _ _ _ _ _ _ hall H htl hmid, fun i hi => ?_⟩
      obtain ⟨h1, h2, _⟩ := mem_ready hs hi
      exact absurd (hall i h1) h2
    · have hex : ∃ i, i < l.length ∧ ¬ Lst listed i := Classical.byContradiction fun hc => hall fun i hi => Classical.byContradiction fun hl => hc ⟨i, hi, hl⟩
      obtain ⟨i0, ⟨hi0, hl0⟩, hmin⟩ := exists_least hex
      have hr0 : i0 ∈ Region.ready .any l.toArray listed := ready_mem hs (List.getElem?_eq_getElem hi0) hl0 (fun e he => by
        have := (hrow i0 _ (List.getElem?_eq_getElem hi0)).2.1 e he
        exact Classical.byContradiction fun hc => by have := hmin e ⟨by omega, hc⟩; omega)
      refine ⟨fun hn => (by rw [hn] at hr0; cases hr0), fun i hi => ?_⟩
      obtain ⟨h1, h2, o, ho, he⟩ := mem_ready hs hi
      have hown := (hrow i o ho).2.2.1
      have hanc : ∀ j, ancB l l.length i j = true → Lst listed j := fun j h => anc_lst hd _ _ _ o ho he h
      have hnot : ∀ (j : Nat), ancB l l.length j i = true → ¬ Lst listed j := fun j h hj => by
        cases hq : l[j]? with
        | none =>
          have : ∀ f, ancB l f j i = false := fun f => by cases f <;> simp [ancB, hq]
          rw [this] at h; cases h
        | some q => exact h2 (anc_lst hd _ _ _ q hq (hd j q hj hq) h)
      have hset : Lst (listed.setIfInBounds i true) = fun j => j = i ∨ Lst listed j := funext fun j => propext (lst_set (by omega))
      have hd' : ∀ (j : Nat) (p : Oper), Lst (listed.setIfInBounds i true) j → l[j]? = some p → ∀ e, e ∈ edgesOf p → Lst (listed.setIfInBounds i true) e := fun j p hj hpj e hem => by
        rw [hset] at hj ⊢
        refine .inr ?_
        rcases hj with rfl | h
        · rw [ho] at hpj; cases hpj; exact he e hem
        · exact hd j p h hpj e hem
      have hL' : ∀ j, Lst (listed.setIfInBounds i true) j → j < l.length := fun j hj => by
        rw [hset] at hj
        rcases hj with rfl | hj
        · exact h1
        · exact hL j hj
      have hfu : (unl l.length (listed.setIfInBounds i true)).length ≤ fuel := by have := unl_lt (n := l.length) hs h1 h2; omega
      -- one more is done: the slots
      have hstep : ∀ (D : List (Nat × Oper × AV)) (x : AV), (∀ p, p ∈ D → l[p.1]? = some p.2.1 ∧ Lst listed p.1) → ∀ d y, VOf sl0 ((i, o, x) :: D) d y → (o.dst = some d → y = x) ∧ (o.dst ≠ some d → VOf sl0 D d y) := fun D x hD d y hv =>
        VOf.step (fun p hp d' hd' => hdst i p.1 o p.2.1 d' (fun e => h2 (by rw [e]; exact (hD p hp).2)) ho (hD p hp).1 hd') d y hv
      -- one of the history that only reckons
      have hpend : ∀ (E : List Early) (h : List (Nat × Oper × AV)) (r : List Nat) (ts : List (Nat × Tok)) (a1 b1 : List (Nat × Oper × AV)) (p : Nat × Oper × AV), h = a1 ++ p :: b1 → p.1 = i → Hist P n l bs rs sl0 T.reverse D E h r ts (Lst listed) → TL G l bs rs K r (envOf sl0 h) ts → (∃ S R, MidS G (VOf sl0 D) (ts ++ (etoks E ++ rs)) S R a w) →
          wpOpIn (fen ro) 0 P l.toArray (lift G (K.at G)) i (wpAnyIn (fen ro) 0 P .any l.toArray (lift G (K.at G)) fuel (listed.setIfInBounds i true)) a w := by
        intro E h r ts a1 b1 p hh hpi H htl ⟨S, R, hm⟩
        obtain ⟨pi, po, px⟩ := p
        have hpi' : pi = i := hpi
        subst hpi'
        have hpm : (pi, po, px) ∈ h := by rw [hh]; simp
        have hpo : po = o := Option.some.inj ((H.opers _ hpm).symm.trans ho)
        subst hpo
        have hhT := hpw
        rw [H.order] at hhT
        have hhp := List.pairwise_append.1 hhT
        have hh2 := hhp.2.1
        rw [hh, List.map_append, List.map_cons] at hh2
        have hpw1 := List.pairwise_append.1 hh2
        have hpw2 := List.pairwise_cons.1 hpw1.2.1
        have hpd : pi ∉ ([] : List Nat) := by simp
        have hpp : ∃ rt, (∃ us, (ts ++ (etoks E ++ rs)).Perm (us ++ rt)) ∧ GEv P l (envOf sl0 b1) rt po px ∧ dstOk po.dst n = true := by
          rcases H.pend a1 _ b1 hh with hl | ⟨_, hge, hdk⟩ | ⟨_, hrd, hdk, us1, hge, hrr⟩
          · exact absurd hl h2
          · exact ⟨rs, ⟨ts ++ etoks E, by rw [List.append_assoc]⟩, hge, hdk⟩
          · rcases hrr with ⟨j, hj, hjl, hjb, hja⟩ | ⟨z, hz⟩
            · have h9 := allB_iff hrd hj
              rw [hjb, hja, Bool.false_or, Bool.false_or] at h9
              exact absurd hjl (hnot j h9)
            · refine ⟨us1 ++ rs, ⟨z ++ etoks E, ?_⟩, hge, hdk⟩
              have h9 : (ts ++ (etoks E ++ rs)).Perm ((us1 ++ z) ++ (etoks E ++ rs)) := hz.append_right _
              refine h9.trans ?_
              rw [List.append_assoc, List.append_assoc]
              refine (List.perm_append_comm_assoc _ _ _).trans ?_
              refine List.Perm.append_left z ?_
              exact List.perm_append_comm_assoc _ _ _
        obtain ⟨rt, hrt, hge, hdk⟩ := hpp
        · have hlook := look_gen (b := b1) ho hown (fun q hq => ⟨hpw2.1 q.1 (List.mem_map_of_mem hq), H.opers q (by rw [hh]; simp [hq]), fun hl => H.hD q (by rw [hh]; simp [hq]) hl⟩) H.dop (fun j hj => by
            rcases H.dh j hj with g1 | ⟨e, g1, g2⟩
            · rw [hh, List.map_append, List.map_cons] at g1
              rcases List.mem_append.1 g1 with g3 | g3
              · exact .inr (.inr (hpw1.2.2 j g3 pi (by simp)))
              · rcases List.mem_cons.1 g3 with g4 | g4
                · exact .inr (.inl g4)
                · obtain ⟨q, g5, g6⟩ := List.mem_map.1 g4
                  exact .inl ⟨q, g5, g6⟩
            · have := H.er e g1
              rw [g2] at this
              exact .inr (.inr (hhp.2.2 j (by simpa using this) pi (List.mem_map_of_mem hpm)))) hanc hnot hm
          refine run_gev ho hge hm hrt hlook fun S' R' w' v hm' hv => ?_
          refine ih _ _ _ ((pi, po, px) :: D) E h r ts (by simpa using hs) hd' hL' (by rw [hset]; exact H.mark hpw hpm) htl hfu ⟨S', R', ?_⟩
          exact hm'.put hdk hv (hstep D px H.dop)
      by_cases hih : i ∈ h.map (·.1)
      · obtain ⟨p, hpm, hpi⟩ := List.mem_map.1 hih
        obtain ⟨a1, b1, hab⟩ := List.append_of_mem hpm
        exact hpend E h r ts a1 b1 p hab hpi H htl hmid
      · -- it is still to be read
        have hir : i ∈ r := by
          have hT := hinT i o ho
          rw [H.order] at hT
          rcases List.mem_append.1 hT with h3 | h3
          · exact List.mem_reverse.1 h3
          · exact absurd h3 hih
        have hiE : ∀ e, e ∈ E → e.p.1 ≠ i := fun e he hei => h2 (by rw [← hei]; exact (H.dop _ (H.eD e he)).2)
        by_cases hial : isAl l i = true
        · -- an alloc: ahead of its turn
          obtain ⟨d, t, ty, pos, after, z, k, b, ho', helf, hdk⟩ := hals.get i hial
          have hoo : o = ⟨some d, .alloc t, ty, pos, after, none⟩ := Option.some.inj (ho.symm.trans ho')
          obtain ⟨S, R, hm⟩ := hmid
          have heff : OpEff P o ⟨sl0, []⟩ [] (fun ts' r => ∃ lab, ts' = [(lab, .row t k [vcells z])] ∧ r = .ptr lab 0 0) := by rw [hoo]; exact eff_alloc
          refine run_geff ho (.inl (by rw [hoo])) heff hm (rts := ts ++ (etoks E ++ rs)) (.refl _) (fun t' ht' => by
            rw [hoo] at ht'
            simp [looks, Op.operands] at ht') fun S' R' w' v x ts' hpost hm' hv => ?_
          obtain ⟨lab, rfl, rfl⟩ := hpost
          refine ih _ _ _ ((i, o, .ptr lab 0 0) :: D) (⟨(i, o, .ptr lab 0 0), (lab, .row t k [vcells z])⟩ :: E) h r ts (by simpa using hs) hd' hL' ?_ htl hfu ⟨S', R', ?_⟩
          · rw [hset]
            refine ⟨H.order, H.opers, fun a q b hab => (H.pend a q b hab).imp .inr fun hp => hp.mono fun _ hr => hr.more fun _ => .inr, fun q hq => ?_, fun q hq hl => ?_, fun j hj => ?_, fun e he => ?_, fun e he => ?_, fun e he => ?_, List.pairwise_cons.2 ⟨fun e he => (hiE e he).symm, H.en⟩⟩
            · rcases List.mem_cons.1 hq with rfl | hq
              · exact ⟨ho, .inl rfl⟩
              · exact ⟨(H.dop q hq).1, .inr (H.dop q hq).2⟩
            · rcases hl with hl | hl
              · exact absurd (by rw [← hl]; exact List.mem_map_of_mem hq) hih
              · exact List.mem_cons_of_mem _ (H.hD q hq hl)
            · rcases hj with rfl | hj
              · exact .inr ⟨_, List.mem_cons_self, rfl⟩
              · exact (H.dh j hj).imp id fun ⟨e, g1, g2⟩ => ⟨e, List.mem_cons_of_mem _ g1, g2⟩
            · rcases List.mem_cons.1 he with rfl | he
              · exact ⟨d, t, ty, pos, after, z, k, b, ho, hoo, helf, rfl, rfl⟩
              · exact H.eok e he
            · rcases List.mem_cons.1 he with rfl | he
              · exact List.mem_cons_self
              · exact List.mem_cons_of_mem _ (H.eD e he)
            · rcases List.mem_cons.1 he with rfl | he
              · exact hir
              · exact H.er e he
          · have hm2 := hm'.put (x := .ptr lab 0 0) (v := v) (dst := o.dst) (by rw [hoo]; exact hdk) hv (hstep D (.ptr lab 0 0) H.dop)
            refine hm2.perm ?_
            simp only [etoks, List.map_cons, List.cons_append, List.nil_append]
            exact List.perm_middle.symm
        · have hna : isAl l i = false := by simpa using hial
          obtain ⟨r1, r2, rfl⟩ := List.append_of_mem hir
          have hready : ∀ j, j ∈ r1 → bs.getD j false = true ∨ ∃ e, e ∈ E ∧ e.p.1 = j := fun j hj => by
            cases hb : bs.getD j false with
            | true => exact .inl rfl
            | false =>
              refine .inr ?_
              have hp' := hpw
              rw [H.order] at hp'
              have hp'' := (List.pairwise_append.1 hp')
              have hji : PR l bs i j := by
                have h3 := hp''.1
                simp only [List.reverse_append, List.reverse_cons, List.append_assoc] at h3
                have h4 := (List.pairwise_append.1 h3).2.1
                exact (List.pairwise_cons.1 h4).1 j (List.mem_reverse.2 hj)
              have hjL : Lst listed j := by
                rcases hji.write hb with g1 | g1
                · exact hanc j g1
                · rw [g1] at hna; cases hna
              rcases H.dh j hjL with g1 | g1
              · exact absurd rfl (hp''.2.2 j (by simp [hj]) j g1).ne
              · exact g1
          obtain ⟨h', E', ts', H', htl', hperm⟩ := TL.advance hpw hal r1 h E ts H hready htl
          obtain ⟨S, R, hm⟩ := hmid
          have hm2 : MidS G (VOf sl0 D) (ts' ++ (etoks E' ++ rs)) S R a w := hm.perm (by
            rw [← List.append_assoc, ← List.append_assoc]
            exact hperm.symm.append_right rs)
          have hT' := hpw
          rw [H'.order] at hT'
          have hpa := List.pairwise_append.1 hT'
          have hiE' : ∀ e, e ∈ E' → e.p.1 ≠ i := fun e he hei => h2 (by rw [← hei]; exact (H'.dop _ (H'.eD e he)).2)
          have hnh : ∀ q, q ∈ h' → q.1 ≠ i := fun q hq e => (hpa.2.2 i (by simp) q.1 (List.mem_map_of_mem hq)).ne e.symm
          have hlook := look_gen (b := h') ho hown (fun q hq => ⟨hpa.2.2 i (by simp) q.1 (List.mem_map_of_mem hq), H'.opers q hq, fun hl => H'.hD q hq hl⟩) H'.dop (fun j hj => by
            rcases H'.dh j hj with g1 | ⟨e, g1, g2⟩
            · obtain ⟨q, g5, g6⟩ := List.mem_map.1 g1
              exact .inl ⟨q, g5, g6⟩
            · have := H'.er e g1
              rw [g2] at this
              rcases List.mem_cons.1 this with g3 | g3
              · exact .inr (.inl g3)
              · have g4 := hpa.1
                simp only [List.reverse_cons] at g4
                exact .inr (.inr ((List.pairwise_append.1 g4).2.2 j (by simpa using g3) i (by simp)))) hanc hnot hm2
          cases htl' with
          | ev ho' hb' hge hdk h'' =>
            rename_i o' x
            have : o' = o := Option.some.inj (ho'.symm.trans ho)
            subst this
            exact hpend E' ((i, o', x) :: h') r2 ts' [] h' (i, o', x) rfl rfl (H'.cons hpw ho' hb' hna (.inl ⟨hb', hge, hdk⟩)) h'' ⟨S, R, hm2⟩
          | evr ho' hb' hrd hp hge hdk h'' =>
            rename_i o' us1 z x
            have : o' = o := Option.some.inj (ho'.symm.trans ho)
            subst this
            exact hpend E' ((i, o', x) :: h') r2 ts' [] h' (i, o', x) rfl rfl (H'.cons hpw ho' hb' hna (.inr ⟨hb', hrd, hdk, us1, hge, .inr ⟨z, hp⟩⟩)) h'' ⟨S, R, hm2⟩
          | evw ho' hb' hna' hge hdk h'' =>
            rename_i o' x
            have : o' = o := Option.some.inj (ho'.symm.trans ho)
            subst this
            refine run_gev ho hge hm2 ⟨etoks E', by
              rw [← List.append_assoc, ← List.append_assoc]
              exact List.perm_append_comm.append_right rs⟩ hlook fun S' R' w' v hm' hv => ?_
            refine ih _ _ _ ((i, o', x) :: D) E' ((i, o', x) :: h') r2 ts' (by simpa using hs) hd' hL' (by rw [hset]; exact H'.write hb' hna' hiE' hnh ho) h'' hfu ⟨S', R', ?_⟩
            exact hm'.put hdk hv (hstep D x H'.dop)
          | eff ho' hb' hna' hg ht hge hdk h'' =>
            rename_i o' us ts2 Post
            have : o' = o := Option.some.inj (ho'.symm.trans ho)
            subst this
            have hperm2 : (ts' ++ (etoks E' ++ rs)).Perm (us ++ (ts2 ++ (etoks E' ++ rs))) := by
              have := ht.perm.append_right (etoks E' ++ rs)
              rwa [List.append_assoc] at this
            refine run_geff ho hg hge hm2 hperm2 hlook fun S' R' w' v x ts3 hpost hm' hv => ?_
            refine ih _ _ _ ((i, o', x) :: D) E' ((i, o', x) :: h') r2 (ts3 ++ ts2) (by simpa using hs) hd' hL' (by rw [hset]; exact H'.write hb' hna' hiE' hnh ho) (h'' ts3 x hpost) hfu ⟨S', R', ?_⟩
            rw [List.append_assoc]
            exact hm'.put hdk hv (hstep D x H'.dop)
          | effr ho' hb' hna' hg ht hge hdk h'' =>
            rename_i o' us ts2 Post
            have : o' = o := Option.some.inj (ho'.symm.trans ho)
            subst this
            have hperm2 : (ts' ++ (etoks E' ++ rs)).Perm (us ++ ((ts2 ++ etoks E') ++ rs)) := by
              have := ht.perm.append_right (etoks E' ++ rs)
              rwa [List.append_assoc, ← List.append_assoc ts2] at this
            refine run_geffr ho hg hge hm2 hperm2 hlook fun S' R' w' v x ts3 hpost hm' hv => ?_
            refine ih _ _ _ ((i, o', x) :: D) E' ((i, o', x) :: h') r2 (ts3 ++ ts2) (by simpa using hs) hd' hL' (by rw [hset]; exact H'.write hb' hna' hiE' hnh ho) (h'' ts3 x hpost) hfu ⟨S', R', ?_⟩
            have := hm'.put hdk hv (hstep D x H'.dop)
            refine this.perm ?_
            simp only [List.append_assoc]
            exact .refl _
          | al ho' => simp [isAl, ho'] at hna

/-- The rule. -/
theorem a_mix {id : Nat} {l : List Oper} {K : Kont} {sl : List (Nat × AV)} {ts rs us : List (Nat × Tok)} [hmx : Mix P] (bs : List Bool) (T : List Nat) (hok : ordOk l bs T = true) (hals : Als P n l) (ht : Takes ts us rs) (h : TL G l bs rs K T sl us) : AW G (.region id l.toArray true) ⟨sl, ts⟩ K := by
  refine ⟨?_⟩
  intro a w ⟨S, R, hr⟩
  refine wpIn_region_any hmx.h ?_
  have hz : ∀ i, ¬ Lst (Array.replicate l.toArray.size false) i := fun i hi => by
    simp [Lst, Array.getD_eq_getD_getElem?, Array.getElem?_replicate] at hi
    split at hi <;> simp at hi
  refine mix_aux (G := G) hok hals l.length _ a _ [] [] [] T us (by simp) (fun i o hi => absurd hi (hz i)) (fun i hi => absurd hi (hz i)) ⟨by simp, fun _ hp => (by cases hp), fun a p b hab => (by simp at hab), fun _ hp => (by cases hp), fun _ hp => (by cases hp), fun i hi => absurd hi (hz i), fun _ hp => (by cases hp), fun _ hp => (by cases hp), fun _ hp => (by cases hp), .nil⟩ h (Nat.le_trans (List.length_filter_le _ _) (by simp)) ⟨S, R, ?_⟩
  have hg : Grow S R w S R { w with drawn := w.drawn + 1 } := ⟨⟨rfl, rfl, rfl, Nat.le_refl _, fun _ _ => rfl⟩, fun _ h => h, fun _ h => .inl h, fun _ _ h => h, hr.holds.top⟩
  have hr' := hr.grow hg
  have hms : MidS G (VOf sl []) ts S R a { w with drawn := w.drawn + 1 } := ⟨hr'.holds, fun d x hx => by
    rcases hx with ⟨p, hp', _⟩ | ⟨h1, _⟩
    · cases hp'
    · exact hr'.slots d x h1, hr'.out, hr'.defers, hr'.size⟩
  exact hms.perm (by simpa [etoks] using ht.perm)
end

end Go.Proofs.YtphkfejckafamaaDoorA

/- More rules as they are used: reading a drawn region in an order, splitting at what is asked, comparisons as propositions. -/
set_option linter.unusedVariables false
namespace Go.Proofs.YtphkfejckafamaaDoorA
open Go.RowKit

section
variable {P : Program} {n : Nat} {ro : Option Nat} {G : CtxR P n ro} {l rest : List Oper} {sl : List (Nat × AV)} {ts : List (Nat × Tok)} {K : Kont}
variable {d : Nat} {op : Op} {ty : TypeId} {pos : String} {after : Array Edge}

/-! ### Splitting -/
theorem ar_split {m : Nat} {c : Bool} (he : OpEv P ⟨some d, op, ty, pos, after, none⟩ ⟨sl, ts⟩ (.val (.bool c))) (hd : Nat.blt d n = true) (h1 : c = true → AR G l (m - 1) rest ⟨(d, .val (.bool true)) :: sl, ts⟩ K) (h0 : c = false → AR G l (m - 1) rest ⟨(d, .val (.bool false)) :: sl, ts⟩ K) :
    AR G l m (⟨some d, op, ty, pos, after, none⟩ :: rest) ⟨sl, ts⟩ K := by
  cases c with
  | true => exact ar_ev he hd (h1 rfl)
  | false => exact ar_ev he hd (h0 rfl)
theorem ar_splitp {m : Nat} {p : Prop} {hp : Decidable p} (he : OpEv P ⟨some d, op, ty, pos, after, none⟩ ⟨sl, ts⟩ (.val (.bool (decide p)))) (hd : Nat.blt d n = true) (h1 : p → AR G l (m - 1) rest ⟨(d, .val (.bool true)) :: sl, ts⟩ K) (h0 : ¬ p → AR G l (m - 1) rest ⟨(d, .val (.bool false)) :: sl, ts⟩ K) :
    AR G l m (⟨some d, op, ty, pos, after, none⟩ :: rest) ⟨sl, ts⟩ K :=
  ar_split he hd (fun h => h1 (by simpa using h)) (fun h => h0 (by simpa using h))
theorem ar_tsplit {m d0 j : Nat} {b c : Bool} {o : Oper} (ho : l[j]? = some o) (hod : o.dst = some d0) (hx : look sl d0 = some (.val (.bool b))) (he : OpEv P ⟨some d, op, ty, pos, after, none⟩ ⟨sl, ts⟩ (.val (.bool c))) (hd : Nat.blt d n = true)
    (h1 : c = true → AR G l (m - 1) rest ⟨(d, .val (.bool true)) :: sl, ts⟩ K) (h0 : c = false → AR G l (m - 1) rest ⟨(d, .val (.bool false)) :: sl, ts⟩ K) : AR G l m (⟨some d, op, ty, pos, after, some (j, b)⟩ :: rest) ⟨sl, ts⟩ K := by
  cases c with
  | true => exact ar_take ho hod hx he hd (h1 rfl)
  | false => exact ar_take ho hod hx he hd (h0 rfl)
theorem ar_tsplitp {m d0 j : Nat} {b : Bool} {p : Prop} {hp : Decidable p} {o : Oper} (ho : l[j]? = some o) (hod : o.dst = some d0) (hx : look sl d0 = some (.val (.bool b))) (he : OpEv P ⟨some d, op, ty, pos, after, none⟩ ⟨sl, ts⟩ (.val (.bool (decide p)))) (hd : Nat.blt d n = true)
    (h1 : p → AR G l (m - 1) rest ⟨(d, .val (.bool true)) :: sl, ts⟩ K) (h0 : ¬ p → AR G l (m - 1) rest ⟨(d, .val (.bool false)) :: sl, ts⟩ K) : AR G l m (⟨some d, op, ty, pos, after, some (j, b)⟩ :: rest) ⟨sl, ts⟩ K :=
  ar_tsplit ho hod hx he hd (fun h => h1 (by simpa using h)) (fun h => h0 (by simpa using h))

theorem aw_condp {c : Operand} {A B : Code} {p : Prop} {hp : Decidable p} {st : St} (hc : st.get c = some (.val (.bool (decide p)))) (h1 : p → AW G A st K) (h0 : ¬ p → AW G B st K) : AW G (.cond c A B) st K := by
  by_cases h : p
  · exact aw_cond_t (by rw [hc]; simp [h]) (h1 h)
  · exact aw_cond_f (by rw [hc]; simp [h]) (h0 h)
theorem aw_condb {c : Operand} {A B : Code} {b : Bool} {st : St} (hc : st.get c = some (.val (.bool b))) (h1 : b = true → AW G A st K) (h0 : b = false → AW G B st K) : AW G (.cond c A B) st K := by
  cases b with
  | true => exact aw_cond_t hc (h1 rfl)
  | false => exact aw_cond_f hc (h0 rfl)

/-- A guarded operation that writes, its guard says yes. -/
theorem ar_tset {d0 j : Nat} {b : Bool} {o : Oper} {us rs : List (Nat × Tok)} {lab : Nat} {T : Tok} {r0 : AV} (ho : l[j]? = some o) (hod : o.dst = some d0) (hx : look sl d0 = some (.val (.bool b))) (he : OpEff P ⟨none, op, ty, pos, after, none⟩ ⟨sl, ts⟩ us (fun ts' r => ts' = [(lab, T)] ∧ r = r0)) (ht : Takes ts us rs)
    (h : AR G l 0 rest ⟨sl, (lab, T) :: rs⟩ K) : AR G l 0 (⟨none, op, ty, pos, after, some (j, b)⟩ :: rest) ⟨sl, ts⟩ K :=
  ar_of (awo_take ho hod hx (ar_set he ht h).awo)
theorem ar_teff {d0 j : Nat} {b : Bool} {o : Oper} {us rs : List (Nat × Tok)} {Post : List (Nat × Tok) → AV → Prop} (ho : l[j]? = some o) (hod : o.dst = some d0) (hx : look sl d0 = some (.val (.bool b))) (he : OpEff P ⟨some d, op, ty, pos, after, none⟩ ⟨sl, ts⟩ us Post) (ht : Takes ts us rs) (hd : Nat.blt d n = true)
    (h : ∀ ts' r, Post ts' r → AR G l 0 rest ⟨(d, r) :: sl, ts' ++ rs⟩ K) : AR G l 0 (⟨some d, op, ty, pos, after, some (j, b)⟩ :: rest) ⟨sl, ts⟩ K :=
  ar_of (awo_take ho hod hx (ar_eff he ht hd h).awo)
/-- No value is kept. -/
theorem ar_evn {x : AV} (he : OpEv P ⟨none, op, ty, pos, after, none⟩ ⟨sl, ts⟩ x) (h : AR G l 0 rest ⟨sl, ts⟩ K) : AR G l 0 (⟨none, op, ty, pos, after, none⟩ :: rest) ⟨sl, ts⟩ K := ar_of (awo_ev he rfl h.awo)
theorem ar_effn {us rs : List (Nat × Tok)} {Post : List (Nat × Tok) → AV → Prop} (he : OpEff P ⟨none, op, ty, pos, after, none⟩ ⟨sl, ts⟩ us Post) (ht : Takes ts us rs) (h : ∀ ts' r, Post ts' r → AR G l 0 rest ⟨sl, ts' ++ rs⟩ K) : AR G l 0 (⟨none, op, ty, pos, after, none⟩ :: rest) ⟨sl, ts⟩ K :=
  ar_of (awo_eff he ht rfl fun ts' r hp => (h ts' r hp).awo)

/-! ### A drawn region in an order -/
section
variable {bs : List Bool} {rs : List (Nat × Tok)} {i : Nat} {r : List Nat}

theorem tl_ev {x : AV} (ho : l[i]? = some ⟨some d, op, ty, pos, after, none⟩) (hb : bs.getD i false = true) (he : OpEv P ⟨some d, op, ty, pos, after, none⟩ ⟨sl, rs⟩ x) (hd : Nat.blt d n = true) (h : TL G l bs rs K r ((d, x) :: sl) ts) : TL G l bs rs K (i :: r) sl ts :=
  .ev ho hb (.plain rfl he) hd h
theorem tl_take {d0 j : Nat} {b : Bool} {o : Oper} {x : AV} (ho : l[i]? = some ⟨some d, op, ty, pos, after, some (j, b)⟩) (hb : bs.getD i false = true) (hj : l[j]? = some o) (hod : o.dst = some d0) (hx : look sl d0 = some (.val (.bool b))) (he : OpEv P ⟨some d, op, ty, pos, after, none⟩ ⟨sl, rs⟩ x) (hd : Nat.blt d n = true)
    (h : TL G l bs rs K r ((d, x) :: sl) ts) : TL G l bs rs K (i :: r) sl ts := .ev ho hb (.take rfl hj hod hx ⟨he.h⟩) hd h
theorem tl_skip {d0 j : Nat} {b : Bool} {u : Value} {o : Oper} (ho : l[i]? = some ⟨some d, op, ty, pos, after, some (j, b)⟩) (hb : bs.getD i false = true) (hj : l[j]? = some o) (hod : o.dst = some d0) (hx : look sl d0 = some (.val u)) (hn : skipB u b = true) (hd : Nat.blt d n = true)
    (h : TL G l bs rs K r ((d, .val undef) :: sl) ts) : TL G l bs rs K (i :: r) sl ts := .ev ho hb (.skip rfl hj hod hx hn) hd h
theorem tl_evw {x : AV} (ho : l[i]? = some ⟨some d, op, ty, pos, after, none⟩) (hb : bs.getD i false = false) (hna : isAl l i = false) (he : OpEv P ⟨some d, op, ty, pos, after, none⟩ ⟨sl, ts ++ rs⟩ x) (hd : Nat.blt d n = true) (h : TL G l bs rs K r ((d, x) :: sl) ts) : TL G l bs rs K (i :: r) sl ts :=
  .evw ho hb hna (.plain rfl he) hd h
theorem tl_new {us ts2 : List (Nat × Tok)} {T : Tok} {X : Nat → AV} (ho : l[i]? = some ⟨some d, op, ty, pos, after, none⟩) (hb : bs.getD i false = false) (hna : isAl l i = false) (he : OpEff P ⟨some d, op, ty, pos, after, none⟩ ⟨sl, []⟩ us (fun ts' r => ∃ lab, ts' = [(lab, T)] ∧ r = X lab)) (ht : Takes ts us ts2) (hd : Nat.blt d n = true)
    (h : ∀ lab, TL G l bs rs K r ((d, X lab) :: sl) ((lab, T) :: ts2)) : TL G l bs rs K (i :: r) sl ts :=
  .eff ho hb hna (.inl rfl) ht he hd fun ts' x ⟨lab, h1, h2⟩ => by subst h1; subst h2; exact h lab
theorem tl_set {us ts2 : List (Nat × Tok)} {lab : Nat} {T : Tok} {r0 : AV} (ho : l[i]? = some ⟨none, op, ty, pos, after, none⟩) (hb : bs.getD i false = false) (hna : isAl l i = false) (he : OpEff P ⟨none, op, ty, pos, after, none⟩ ⟨sl, []⟩ us (fun ts' r => ts' = [(lab, T)] ∧ r = r0)) (ht : Takes ts us ts2)
    (h : TL G l bs rs K r sl ((lab, T) :: ts2)) : TL G l bs rs K (i :: r) sl ts :=
  .eff ho hb hna (.inl rfl) ht he rfl fun ts' x ⟨h1, h2⟩ => by subst h1; subst h2; exact h
theorem tl_eff {us ts2 : List (Nat × Tok)} {Post : List (Nat × Tok) → AV → Prop} (ho : l[i]? = some ⟨some d, op, ty, pos, after, none⟩) (hb : bs.getD i false = false) (hna : isAl l i = false) (he : OpEff P ⟨some d, op, ty, pos, after, none⟩ ⟨sl, []⟩ us Post) (ht : Takes ts us ts2) (hd : Nat.blt d n = true)
    (h : ∀ ts' x, Post ts' x → TL G l bs rs K r ((d, x) :: sl) (ts' ++ ts2)) : TL G l bs rs K (i :: r) sl ts :=
  .eff ho hb hna (.inl rfl) ht he hd h
theorem tl_alloc {t : TypeId} {z : Value} {k b : Nat} (ho : l[i]? = some ⟨some d, .alloc t, ty, pos, after, none⟩) (hb : bs.getD i false = false) (he : ElF P t z k b) (hd : Nat.blt d n = true) (h : ∀ lab, TL G l bs rs K r ((d, .ptr lab 0 0) :: sl) ((lab, .row t k [vcells z]) :: ts)) : TL G l bs rs K (i :: r) sl ts :=
  .al ho hb he hd h
theorem tl_nil (h : Goes G K .normal ⟨sl, ts ++ rs⟩) : TL G l bs rs K [] sl ts := .nil h
theorem tl_split {c : Bool} (ho : l[i]? = some ⟨some d, op, ty, pos, after, none⟩) (hb : bs.getD i false = true) (he : OpEv P ⟨some d, op, ty, pos, after, none⟩ ⟨sl, rs⟩ (.val (.bool c))) (hd : Nat.blt d n = true) (h1 : c = true → TL G l bs rs K r ((d, .val (.bool true)) :: sl) ts)
    (h0 : c = false → TL G l bs rs K r ((d, .val (.bool false)) :: sl) ts) : TL G l bs rs K (i :: r) sl ts := by
  cases c with
  | true => exact tl_ev ho hb he hd (h1 rfl)
  | false => exact tl_ev ho hb he hd (h0 rfl)
end
end

/-! ### Comparisons as propositions -/
section
variable {P : Program} {st : St} {dst : Option Tmp} {ty : TypeId} {pos : String} {after : Array Edge} {g : Option (Nat × Bool)}

theorem ev_eqip {t t' : TypeId} {x y : Operand} {k : IntKind} {p q : Int} (hx : st.get x = some (.val (.int k p))) (hy : st.get y = some (.val (.int k q))) :
    OpEv P ⟨dst, .binOp .eql t x y t', ty, pos, after, g⟩ st (.val (.bool (decide (p = q)))) := ev_bin hx hy fun w => by simp [eqGuard, binOp, Op.intCmp]; rfl
theorem ev_neip {t t' : TypeId} {x y : Operand} {k : IntKind} {p q : Int} (hx : st.get x = some (.val (.int k p))) (hy : st.get y = some (.val (.int k q))) :
    OpEv P ⟨dst, .binOp .neq t x y t', ty, pos, after, g⟩ st (.val (.bool (decide (p ≠ q)))) := ev_bin hx hy fun w => by
  simp [eqGuard, binOp, Op.intCmp]
  by_cases h : p = q <;> simp [h]
theorem toList_beq (p q : ByteArray) : (p.toList == q.toList) = decide (p = q) := by
  have hh : ∀ b : ByteArray, b.toList = b.data.toList := fun b => ByteArray.toList_eq b
  rw [hh, hh]
  by_cases h : p = q
  · subst h; simp
  · have : p.data.toList ≠ q.data.toList := fun e => h (by cases p; cases q; simp at e; simp [e])
    rw [decide_eq_false h]
    exact beq_eq_false_iff_ne.2 this
theorem ev_eqsp {t t' : TypeId} {x y : Operand} {p q : ByteArray} (hx : st.get x = some (.val (.string p))) (hy : st.get y = some (.val (.string q))) :
    OpEv P ⟨dst, .binOp .eql t x y t', ty, pos, after, g⟩ st (.val (.bool (decide (p = q)))) := by
  have := ev_eqs (P := P) (dst := dst) (ty := ty) (pos := pos) (after := after) (g := g) (t := t) (t' := t') hx hy
  rwa [toList_beq] at this
theorem ev_nesp {t t' : TypeId} {x y : Operand} {p q : ByteArray} (hx : st.get x = some (.val (.string p))) (hy : st.get y = some (.val (.string q))) :
    OpEv P ⟨dst, .binOp .neq t x y t', ty, pos, after, g⟩ st (.val (.bool (decide (p ≠ q)))) := by
  have := ev_nes (P := P) (dst := dst) (ty := ty) (pos := pos) (after := after) (g := g) (t := t) (t' := t') hx hy
  rw [toList_beq] at this
  rwa [show decide (p ≠ q) = !decide (p = q) from decide_not]
theorem ev_notp {t : TypeId} {x : Operand} {p : Prop} {hp : Decidable p} (hx : st.get x = some (.val (.bool (decide p)))) : OpEv P ⟨dst, .unOp .not t x, ty, pos, after, g⟩ st (.val (.bool (decide (¬ p)))) := by
  have := ev_not (P := P) (dst := dst) (ty := ty) (pos := pos) (after := after) (g := g) (t := t) hx
  rwa [show decide (¬ p) = !decide p from decide_not]

theorem get_map {α β : Type} {ts : List α} {f : α → β} {i : Nat} {t : α} (h : ts[i]? = some t) : (ts.map f)[i]? = some (f t) := by simp [h]

/-- A number that is a place. -/
theorem idx_of {st : St} {x : Operand} {k : IntKind} {p : Int} {i : Nat} (h : st.get x = some (.val (.int k p))) (hp : p = (i : Int)) : st.get x = some (.val (.int k (i : Nat))) := by rw [h, hp]

/-! pointers and nil -/
def isPtr : AV → Bool
  | .ptr .. => true
  | .ip .. => true
  | _ => false

theorem rep_isptr {S : Nat → Prop} {R : Lab} {w : World} {x : AV} {v : Value} (h : RepV S R w x v) (hx : isPtr x = true) : ∃ ad, v = .pointer (some ad) := by
  cases h <;> first | exact ⟨_, rfl⟩ | cases hx

theorem ev_eqnil_p {t t' e : TypeId} {x : Operand} {y : AV} [hu : Und P t (.pointer e)] (hx : st.get x = some y) (hy : isPtr y = true) : OpEv P ⟨dst, .binOp .eql t x (.const (.pointer none)) t', ty, pos, after, g⟩ st (.val (.bool false)) :=
  ev_same fun S R a w _ ho => by
    obtain ⟨ad, hv⟩ := rep_isptr (ho x (by simp [Op.operands]) _ hx) hy
    have hpt : P.underlying t = some (.pointer (P.pointee t)) := by simp [Program.pointee, hu.h]
    refine ⟨.bool false, ?_, .val _⟩
    have := run_equal_pointer_nil (P := P) w t (some ad) hpt
    have hc : a.eval (.const (.pointer none)) = .pointer none := rfl
    simp [execOp, hv, eqGuard, binOp, hc, this]
theorem ev_nenil_p {t t' e : TypeId} {x : Operand} {y : AV} [hu : Und P t (.pointer e)] (hx : st.get x = some y) (hy : isPtr y = true) : OpEv P ⟨dst, .binOp .neq t x (.const (.pointer none)) t', ty, pos, after, g⟩ st (.val (.bool true)) :=
  ev_same fun S R a w _ ho => by
    obtain ⟨ad, hv⟩ := rep_isptr (ho x (by simp [Op.operands]) _ hx) hy
    have hpt : P.underlying t = some (.pointer (P.pointee t)) := by simp [Program.pointee, hu.h]
    refine ⟨.bool true, ?_, .val _⟩
    have := run_equal_pointer_nil (P := P) w t (some ad) hpt
    have hc : a.eval (.const (.pointer none)) = .pointer none := rfl
    simp [execOp, hv, eqGuard, binOp, hc, this]
theorem ev_eqnil_pv {t t' e : TypeId} {x : Operand} [hu : Und P t (.pointer e)] (hx : st.get x = some (.val (.pointer none))) : OpEv P ⟨dst, .binOp .eql t x (.const (.pointer none)) t', ty, pos, after, g⟩ st (.val (.bool true)) :=
  ev_same fun S R a w _ ho => by
    have hv := rep_val (ho x (by simp [Op.operands]) _ hx)
    have hpt : P.underlying t = some (.pointer (P.pointee t)) := by simp [Program.pointee, hu.h]
    refine ⟨.bool true, ?_, .val _⟩
    have := run_equal_pointer_nil (P := P) w t none hpt
    have hc : a.eval (.const (.pointer none)) = .pointer none := rfl
    simp [execOp, hv, eqGuard, binOp, hc, this]
theorem ev_nenil_pv {t t' e : TypeId} {x : Operand} [hu : Und P t (.pointer e)] (hx : st.get x = some (.val (.pointer none))) : OpEv P ⟨dst, .binOp .neq t x (.const (.pointer none)) t', ty, pos, after, g⟩ st (.val (.bool false)) :=
  ev_same fun S R a w _ ho => by
    have hv := rep_val (ho x (by simp [Op.operands]) _ hx)
    have hpt : P.underlying t = some (.pointer (P.pointee t)) := by simp [Program.pointee, hu.h]
    refine ⟨.bool false, ?_, .val _⟩
    have := run_equal_pointer_nil (P := P) w t none hpt
    have hc : a.eval (.const (.pointer none)) = .pointer none := rfl
    simp [execOp, hv, eqGuard, binOp, hc, this]

/-- Is a slice nil? If it is it has no elements. -/
theorem eff_eqnil_sl {t t' e : TypeId} {x : Operand} {k n : Nat} {xs : List (List AV)} [hu : Und P t (.slice e)] (hx : st.get x = some (.sl k xs n)) : OpEff P ⟨dst, .binOp .eql t x (.const (.slice none 0 0)) t', ty, pos, after, g⟩ st [] (fun ts r => ts = [] ∧ ∃ b : Bool, r = .val (.bool b) ∧ (b = true → xs = [])) := by
  refine ⟨?_⟩
  intro S R a w hh ho next Q hk
  have hr := ho x (by simp [Op.operands]) _ hx
  generalize hv : a.eval x = v at hr
  cases hr with
  | sl hn hc hm hkk ha h1 hF =>
    rename_i c ad F
    have hrun := run_equal_slice_nil (P := P) w t e ad n c hu.h
    have hex : (execOp a.eval ⟨dst, .binOp .eql t x (.const (.slice none 0 0)) t', ty, pos, after, g⟩).run P w = .ok (.value (.bool ad.isNone)) w := by
      have hc : a.eval (.const (.slice none 0 0)) = .slice none 0 0 := rfl
      simp [execOp, hv, eqGuard, binOp, hc, hrun]
    unfold Oper.wp
    rw [hex]
    refine hk _ _ S R w [] ⟨rfl, ad.isNone, rfl, fun hb => ?_⟩ hh (.val _) ⟨rfl, rfl, rfl, Nat.le_refl _, fun _ _ _ => rfl, fun _ h => h, fun _ h => .inl h, fun _ _ h => h, fun g hg => .inl hg, fun l' t' hm => (by cases hm)⟩
    by_cases hx0 : xs = []
    · exact hx0
    · obtain ⟨ad', rfl, _⟩ := ha hx0
      cases hb

/-! small ones -/
theorem ev_min {x y : Operand} {tys : Array TypeId} {k : IntKind} {p q : Int} (hx : st.get x = some (.val (.int k p))) (hy : st.get y = some (.val (.int k q))) : OpEv P ⟨dst, .call ⟨.builtin .min, #[x, y], tys⟩, ty, pos, after, g⟩ st (.val (.int k (min p q))) :=
  ev_same fun S R a w _ ho => by
    have e1 := rep_val (ho x (by simp [Op.operands, Call.operands]) _ hx)
    have e2 := rep_val (ho y (by simp [Op.operands, Call.operands]) _ hy)
    refine ⟨.int k (min p q), ?_, .val _⟩
    have := run_min_int2 (P := P) w tys ty k k p q
    have e3 : (if q < p then q else p) = min p q := by omega
    rw [e3] at this
    simp [execOp, resolve, invoke, builtin, e1, e2, this]
theorem ev_max {x y : Operand} {tys : Array TypeId} {k : IntKind} {p q : Int} (hx : st.get x = some (.val (.int k p))) (hy : st.get y = some (.val (.int k q))) : OpEv P ⟨dst, .call ⟨.builtin .max, #[x, y], tys⟩, ty, pos, after, g⟩ st (.val (.int k (max p q))) :=
  ev_same fun S R a w _ ho => by
    have e1 := rep_val (ho x (by simp [Op.operands, Call.operands]) _ hx)
    have e2 := rep_val (ho y (by simp [Op.operands, Call.operands]) _ hy)
    refine ⟨.int k (max p q), ?_, .val _⟩
    have := run_max_int2 (P := P) w tys ty k k p q
    have e3 : (if q > p then q else p) = max p q := by omega
    rw [e3] at this
    simp [execOp, resolve, invoke, builtin, e1, e2, this]
theorem ev_andNot {t t' : TypeId} {x y : Operand} {k : IntKind} {p q : Int} (hx : st.get x = some (.val (.int k p))) (hy : st.get y = some (.val (.int k q))) :
    OpEv P ⟨dst, .binOp .andNot t x y t', ty, pos, after, g⟩ st (.val (.int k (k.wrap ((BitVec.ofInt k.bits p &&& ~~~ BitVec.ofInt k.bits q).toNat)))) := ev_bin hx hy fun w => by simp [eqGuard, binOp, Op.intBits]
end

end Go.Proofs.YtphkfejckafamaaDoorA

/- What is no longer written, at a function's end and ahead of code; strings.Builder's builtins. -/
set_option linter.unusedVariables false
namespace Go.Proofs.YtphkfejckafamaaDoorA
open Go.RowKit

theorem own_to_sl {S S' : Nat → Prop} {R : Lab} {w : World} {lab off m k : Nat} {e : TypeId} {xs : List (List AV)} {v : Value} (htok : TokHolds S R w lab (.row e k xs)) (hv : RepV S R w (.own lab off m) v) (hm : off + m ≤ xs.length) (hS : ∀ b, S b → S' b) (hb : ∀ g, blkOf R lab = some g → S' g) :
    RepV S' R w (.sl k (xs.drop off) m) v := by
  have hmono : ∀ {y : AV} {u : Value}, RepV S R w y u → RepV S' R w y u := fun h => h.mono hS (fun _ _ h => h) (fun _ _ => rfl)
  cases hv with
  | onil h1 =>
    simp only [TokHolds, h1] at htok
    subst htok
    exact .sl (F := fun _ _ => undef) (by simp) (by simp) (by simp [maxLen]) (by simp) (by simp) (by simp) (by simp)
  | own h1 hn hmx hT ha hs =>
    rename_i c q ad
    simp only [TokHolds, h1] at htok
    obtain ⟨rfl, cur, fr, hg, hfr, hcur, hbx, hmt, hrow⟩ := htok
    refine .sl (F := fun i j => cur.getD ((q.b + off + i) * q.k + j) undef) (by simp; omega) (by simp; omega) hmx (fun x hx => ?_) (fun hne => ?_) (fun x hx y hy => ?_) (fun i x j y hx hy => ?_)
    · obtain ⟨i, hi⟩ := List.getElem?_of_mem hx
      rw [List.getElem?_drop] at hi
      exact (hrow _ x hi).1
    · have hlt : off < xs.length := by
        rcases Nat.lt_or_ge off xs.length with h3 | h3
        · exact h3
        · exact absurd (List.drop_eq_nil_of_le h3) hne
      obtain rfl : ad = some ⟨q.g, (q.b + off) * q.k, none⟩ := ha.resolve_left (by omega)
      refine ⟨_, rfl, hb _ (by simp [blkOf, h1]), fun i x j y hx hy => ?_⟩
      rw [List.getElem?_drop] at hx
      obtain ⟨_, u, hu, _⟩ := (hrow _ x hx).2 j y hy
      rw [add_mk, cell_of_row w q.g _ cur e fr hg]
      have e1 : (q.b + off) * q.k + (i * q.k + j) = (q.b + (off + i)) * q.k + j := by rw [← Nat.add_assoc, ← Nat.add_mul, Nat.add_assoc q.b]
      have e2 : (q.b + off + i) * q.k + j = (q.b + (off + i)) * q.k + j := by rw [Nat.add_assoc q.b]
      rw [e1, hu, e2, Array.getD_eq_getD_getElem?, hu]
      rfl
    · obtain ⟨i, hi⟩ := List.getElem?_of_mem hx
      obtain ⟨j, hj⟩ := List.getElem?_of_mem hy
      rw [List.getElem?_drop] at hi
      exact ((hrow _ x hi).2 j y hj).1
    · rw [List.getElem?_drop] at hx
      obtain ⟨_, u, hu, hrep⟩ := (hrow _ x hx).2 j y hy
      have e2 : (q.b + off + i) * q.k + j = (q.b + (off + i)) * q.k + j := by rw [Nat.add_assoc q.b]
      have : cur.getD ((q.b + off + i) * q.k + j) undef = u := by rw [e2, Array.getD_eq_getD_getElem?, hu]; rfl
      rw [this]
      exact hmono hrep

section
variable {P : Program}

/-- A result of one's own that nobody will write. -/
theorem pfn_freeze {f : FuncId} {args : List AV} {e : TypeId} {k off m : Nat} {xs : List (List AV)} (hm : off + m ≤ xs.length) (h : Fn P f [] args (fun ts' r => ∃ l, ts' = [(l, .row e k xs)] ∧ r = .own l off m)) : PFn P f args (.sl k (xs.drop off) m) := by
  refine ⟨fun S R w vs hh hr => (h.h S R w vs hh hr).mono ?_⟩
  rintro en w' ⟨v, r, S', R', ts', he, ⟨l, rfl, rfl⟩, hh', hrep, o⟩
  have htok := hh'.tok l _ List.mem_cons_self
  let S'' : Nat → Prop := fun b => S' b ∨ blkOf R' l = some b
  have hno : ∀ (R : Lab) (g : Nat), ¬ Foot R [] g := by rintro R g ⟨_, _, h, _⟩; simp at h
  refine ⟨v, _, S'', R', [], he, rfl, ⟨hh'.top, .nil, fun _ _ h => (by cases h), fun g hg => (hno _ g hg).elim, ?_⟩, own_to_sl htok hrep hm (fun _ h => .inl h) (fun g hg => .inr hg), ?_⟩
  · rintro b (h1 | h1)
    · exact hh'.low b h1
    · exact htok.lt h1
  · refine ⟨o.os, o.tape, o.output, o.size, o.block, fun b hb => .inl (o.S0 b hb), ?_, o.R0, fun g hg => (hno _ g hg).elim, fun _ _ h => (by cases h)⟩
    rintro b (h1 | h1)
    · exact o.S1 b h1
    · exact .inr (o.foot b ⟨l, _, List.mem_cons_self, h1⟩)

theorem Fn.pure {f : FuncId} {args : List AV} {x : AV} (h : PFn P f args x) : Fn P f [] args (fun ts r => ts = [] ∧ r = x) := by
  refine ⟨fun S R w vs hh hr => (h.h S R w vs hh hr).mono ?_⟩
  rintro en w' ⟨v, r, S', R', ts', he, rfl, hh', hrep, o⟩
  have hno : ∀ (R : Lab) (g : Nat), ¬ Foot R [] g := by rintro R g ⟨_, _, h, _⟩; simp at h
  exact ⟨v, _, S', R', [], he, ⟨rfl, rfl⟩, hh'.sub ⟨ts', by simp⟩, hrep, ⟨o.os, o.tape, o.output, o.size, o.block, o.S0, o.S1, o.R0, fun g hg => (hno _ g hg).elim, fun _ _ h => (by cases h)⟩⟩

variable {n : Nat} {ro : Option Nat} {G : CtxR P n ro} {K : Kont} {st : St}

/-- A row that is no longer written, ahead of code. -/
theorem aw_freeze {c : Code} (d : Nat) {lab off m : Nat} {e : TypeId} {k : Nat} {xs : List (List AV)} {rs : List (Nat × Tok)} (hd : look st.sl d = some (.own lab off m)) (ht : Take st.toks lab (.row e k xs) rs) (hm : off + m ≤ xs.length) (h : AW G c ⟨(d, .sl k (xs.drop off) m) :: st.sl, rs⟩ K) : AW G c st K := by
  refine ⟨?_⟩
  rintro a w ⟨S, R, hr⟩
  have hp := ht.perm
  have hh := hr.holds.sub (us := (lab, .row e k xs) :: rs) ⟨[], by simpa using hp⟩
  have htok := hh.tok lab _ (List.mem_cons_self)
  have hv := hr.slots d _ hd
  let S' : Nat → Prop := fun b => S b ∨ blkOf R lab = some b
  have hmono : ∀ {y : AV} {u : Value}, RepV S R w y u → RepV S' R w y u := fun h => h.mono (fun _ h => .inl h) (fun _ _ h => h) (fun _ _ => rfl)
  have hap := List.pairwise_cons.1 hh.apart
  refine h.h a w ⟨S', R, ⟨hh.top, hap.2, ?_, ?_, ?_⟩, ?_, ?_, hr.defers, hr.size⟩
  · intro l' t' hm'
    exact (hh.tok l' t' (List.mem_cons_of_mem _ hm')).mono (fun _ h => .inl h) (fun _ _ h => h) (fun _ _ => rfl) (fun _ _ => rfl)
  · rintro g ⟨l', t', hm', hg⟩ (h1 | h1)
    · exact hh.notS g ⟨l', t', List.mem_cons_of_mem _ hm', hg⟩ h1
    · exact (hap.1 _ hm').2 g h1 hg
  · rintro b (h1 | h1)
    · exact hh.low b h1
    · exact htok.lt h1
  · intro d' x hx
    simp only [look] at hx
    by_cases hdd : d = d'
    · subst hdd
      rw [Nat.beq_refl] at hx
      cases hx
      exact own_to_sl htok hv hm (fun _ h => .inl h) (fun g hg => .inr hg)
    · rw [beq_of_ne hdd] at hx
      exact hmono (hr.slots d' x hx)
  · have o := hr.out
    refine ⟨o.os, o.tape, o.output, o.size, o.block, fun b hb => .inl (o.S0 b hb), ?_, o.R0, fun g ⟨l', t', hm', hg⟩ => o.foot g ⟨l', t', hp.mem_iff.2 (List.mem_cons_of_mem _ hm'), hg⟩, fun l' t' hm' => o.keys l' t' (hp.mem_iff.2 (List.mem_cons_of_mem _ hm'))⟩
    rintro b (h1 | h1)
    · exact o.S1 b h1
    · exact .inr (o.foot b ⟨lab, _, hp.mem_iff.2 (List.mem_cons_self), h1⟩)

/-- A nil slice as a row of one's own, ahead of code. -/
theorem aw_adopt {c : Code} (d : Nat) (e : TypeId) (k : Nat) (hd : look st.sl d = some (.val (.slice none 0 0))) (h : ∀ lab, AW G c ⟨(d, .own lab 0 0) :: st.sl, (lab, .row e k []) :: st.toks⟩ K) : AW G c st K := by
  refine ⟨?_⟩
  rintro a w ⟨S, R, hr⟩
  obtain ⟨N, hN⟩ := hr.holds.free
  have hfoot : ∀ g, Foot (bindL R N none) ((N, .row e k []) :: st.toks) g → Foot R st.toks g := by
    rintro g ⟨l', t', hm, hg⟩
    rcases List.mem_cons.1 hm with h1 | h1
    · cases h1; simp [blkOf, bindL_same] at hg
    · rw [blkOf_mono (bindL_mono hN) (hr.holds.tok l' t' h1).bound] at hg
      exact ⟨l', t', h1, hg⟩
  have hmono : ∀ {y : AV} {u : Value}, RepV S R w y u → RepV S (bindL R N none) w y u := fun h => h.mono (fun _ h => h) (bindL_mono hN) (fun _ _ => rfl)
  refine (h N).h a w ⟨S, bindL R N none, ⟨bindL_top hr.holds.top, ?_, ?_, fun g hg => hr.holds.notS g (hfoot g hg), hr.holds.low⟩, ?_, ?_, hr.defers, hr.size⟩
  · refine List.pairwise_cons.2 ⟨fun p hp => ⟨fun e1 => ?_, fun g hg => ?_⟩, hr.holds.apart.imp_of_mem fun {p q} hp hq hpq => ⟨hpq.1, fun g => ?_⟩⟩
    · obtain ⟨q, hq⟩ := (hr.holds.tok p.1 p.2 hp).bound
      have e1' : N = p.1 := e1
      rw [← e1', hN] at hq; cases hq
    · simp [blkOf, bindL_same] at hg
    · rw [blkOf_mono (bindL_mono hN) (hr.holds.tok p.1 p.2 hp).bound, blkOf_mono (bindL_mono hN) (hr.holds.tok q.1 q.2 hq).bound]
      exact hpq.2 g
  · intro l' t' hm
    rcases List.mem_cons.1 hm with h1 | h1
    · cases h1; simp [TokHolds, bindL_same]
    · exact (hr.holds.tok l' t' h1).mono (fun _ h => h) (bindL_mono hN) (fun _ _ => rfl) (fun _ _ => rfl)
  · intro d' x hx
    simp only [look] at hx
    by_cases hdd : d = d'
    · subst hdd
      rw [Nat.beq_refl] at hx
      cases hx
      have := rep_val (hr.slots d _ hd)
      rw [this]
      exact .onil bindL_same
    · rw [beq_of_ne hdd] at hx
      exact hmono (hr.slots d' x hx)
  · have o := hr.out
    refine ⟨o.os, o.tape, o.output, o.size, o.block, o.S0, o.S1, fun l q hq => bindL_mono hN _ _ (o.R0 l q hq), fun g hg => o.foot g (hfoot g hg), fun l' t' hm => ?_⟩
    rcases List.mem_cons.1 hm with h1 | h1
    · cases h1
      refine .inr ?_
      cases hb : G.R0 N with
      | none => rfl
      | some q => rw [o.R0 _ q hb] at hN; cases hN
    · exact o.keys l' t' h1

theorem aw_sub {c : Code} {st' : St} (hs : Sub st st') (h : AW G c st' K) : AW G c st K := ⟨fun a w hr => h.h a w (hr.sub hs)⟩
end

/-! ### strings.Builder: its bytes as a string -/
section
variable {P : Program} {st : St} {dst : Option Tmp} {ty : TypeId} {pos : String} {after : Array Edge} {g : Option (Nat × Bool)}

def u8cells (bs : List UInt8) : List (List AV) := bs.map fun c => [.val (.int .u8 c.toNat)]

theorem liesAt_bytes_at {e : TypeId} (hc : P.cellsOf e = 1) (count off n : Nat) (hn : off + n ≤ count) : liesAt P P.depth e count off e n = true := by
  have hd : P.depth = (2 * (P.types.size + Made.depth) + 1) + 1 := rfl
  rw [hd]
  simp only [liesAt, Bool.or_eq_true]
  left
  rw [hd]
  simp [rowAt, hc, hn, sameLayout, Nat.mod_one]

theorem run_unsafeString_at {w : World} (pt it ty e : TypeId) (hp : P.underlying pt = some (.pointer e)) (hc : P.cellsOf e = 1) (g off cells : Nat) (hsh : w.shape? g = some (e, cells)) (l : List UInt8) (h0 : l ≠ []) (hn : off + l.length ≤ cells) (h63 : l.length ≤ 9223372036854775807)
    (hcell : ∀ j x, l[j]? = some x → w.cell? ((⟨g, off, none⟩ : Addr).add j) = some (.int .u8 x.toNat)) :
    (Builtin.unsafeString_ #[pt, it] ty #[.pointer (some ⟨g, off, none⟩), .int .i64 l.length]).run P w = .ok (.string ⟨l.toArray⟩) (w.freeze ⟨g, off, none⟩ l.length) := by
  have hl : l.length ≠ 0 := by simpa using h0
  have hlb := Lib.run_loadBytes (P := P) w l ⟨g, off, none⟩ .empty hcell
  have hlies := liesAt_bytes_at (P := P) hc (cells / P.cellsOf e) off l.length (by rw [hc]; simpa using hn)
  have h63' : ¬ (9223372036854775807 : Int) < (l.length : Int) := by omega
  have hbind : ∀ (f : Int → Sem Value), (asInt (.int .i64 l.length) >>= f) = (asInt (.int .i64 l.length) >>= f) := fun _ => rfl
  refine Eq.trans (congrArg (fun s : Sem Value => s.run P w) (hbind _ : Builtin.unsafeString_ #[pt, it] ty #[.pointer (some ⟨g, off, none⟩), .int .i64 l.length] = _)) ?_
  have hmax : IntKind.i64.max = 9223372036854775807 := rfl
  have hneg : ¬ (l.length : Int) < 0 := by omega
  simp [asInt, asIntOf, hmax, h63', hneg, hl, variablesAt, hsh, elemOf, run_underlying hp, hlies, hlb]

theorem freeze_other (w : World) (a : Addr) (m b : Nat) (hb : b ≠ a.block) : (w.freeze a m).heap[b]? = w.heap[b]? := by
  unfold World.freeze
  split
  · rfl
  · simp [Array.getElem?_modify, Ne.symm hb]
theorem freeze_size (w : World) (a : Addr) (m : Nat) : (w.freeze a m).heap.size = w.heap.size := by
  unfold World.freeze
  split <;> simp
theorem freeze_rest (w : World) (a : Addr) (m : Nat) : (w.freeze a m).os = w.os ∧ (w.freeze a m).tape = w.tape ∧ (w.freeze a m).output = w.output := by
  unfold World.freeze
  split <;> exact ⟨rfl, rfl, rfl⟩

/-- unsafe.String of bytes of one's own: they are never written again. -/
theorem eff_unsafeString {pt it e e' : TypeId} {x y : Operand} {l : Nat} {bs : List UInt8} [hp : Und P pt (.pointer e)] (hc : P.cellsOf e = 1) (he : e' = e) (hx : st.get x = some (.ptr l 0 0)) (hy : st.get y = some (.val (.int .i64 (bs.length : Nat)))) (h0 : bs ≠ []) (h63 : bs.length ≤ 9223372036854775807) :
    OpEff P ⟨dst, .call ⟨.builtin .unsafeString, #[x, y], #[pt, it]⟩, ty, pos, after, g⟩ st [(l, .row e' 1 (u8cells bs))] (fun ts r => ts = [] ∧ r = .val (.string ⟨bs.toArray⟩)) := by
  subst he
  refine ⟨?_⟩
  intro S R a w hh ho next Q hk
  have hxv := ho x (by simp [Op.operands, Call.operands]) _ hx
  have hyv := rep_val (ho y (by simp [Op.operands, Call.operands]) _ hy)
  have htok := hh.tok l _ (List.mem_cons_self)
  generalize hv : a.eval x = v at hxv
  cases hxv with
  | ptr h =>
    rename_i q
    simp only [TokHolds, h] at htok
    obtain ⟨hk1, cur, fr, hg, hfr, hcur, hb, hm, hrow⟩ := htok
    have hlen : (u8cells bs).length = bs.length := by simp [u8cells]
    have hrun := run_unsafeString_at (P := P) (w := w) pt it ty e' hp.h hc q.g ((q.b + 0) * q.k + 0) cur.size (by simp [World.shape?, hg]) bs h0 (by rw [hk1]; omega) h63 (fun j c hj => by
      have hcell : (u8cells bs)[j]? = some [.val (.int .u8 c.toNat)] := by simp [u8cells, hj]
      obtain ⟨_, u, hu, hr⟩ := (hrow j _ hcell).2 0 _ rfl
      have := rep_val hr
      subst this
      rw [add_mk, cell_of_row w q.g _ cur e' fr hg, hk1]
      have e1 : (q.b + 0) * 1 + 0 + j = (q.b + j) * 1 + 0 := by omega
      rw [e1]
      exact (by simpa [hk1] using hu))
    have hex : (execOp a.eval ⟨dst, .call ⟨.builtin .unsafeString, #[x, y], #[pt, it]⟩, ty, pos, after, g⟩).run P w = .ok (.value (.string ⟨bs.toArray⟩)) (w.freeze ⟨q.g, (q.b + 0) * q.k + 0, none⟩ bs.length) := by
      simp [execOp, resolve, invoke, builtin, hv, hyv] at hrun ⊢
      rw [hrun]
      rfl
    unfold Oper.wp
    rw [hex]
    obtain ⟨h1, h2, h3⟩ := freeze_rest w ⟨q.g, (q.b + 0) * q.k + 0, none⟩ bs.length
    have hno : ∀ (R : Lab) (g : Nat), ¬ Foot R [] g := by rintro R g ⟨_, _, h, _⟩; simp at h
    refine hk _ _ S R _ [] ⟨rfl, rfl⟩ ⟨hh.top, .nil, fun _ _ h => (by cases h), fun g hg => (hno _ g hg).elim, fun b hb => by rw [freeze_size]; exact hh.low b hb⟩ (.val _) ⟨h1, h2, h3, by rw [freeze_size]; exact Nat.le_refl _, fun b hb hf => freeze_other _ _ _ _ ?_, fun _ h => h, fun _ h => .inl h, fun _ _ h => h, fun g hg => (hno _ g hg).elim, fun _ _ h => (by cases h)⟩
    rintro rfl
    exact hf ⟨l, _, List.mem_cons_self, by simp [blkOf, h]⟩

theorem ev_unsafeString0 {pt it : TypeId} {x y : Operand} {p : Option Addr} (hx : st.get x = some (.val (.pointer p))) (hy : st.get y = some (.val (.int .i64 0))) :
    OpEv P ⟨dst, .call ⟨.builtin .unsafeString, #[x, y], #[pt, it]⟩, ty, pos, after, g⟩ st (.val (.string .empty)) :=
  ev_same fun S R a w _ ho => by
    have e1 := rep_val (ho x (by simp [Op.operands, Call.operands]) _ hx)
    have e2 := rep_val (ho y (by simp [Op.operands, Call.operands]) _ hy)
    refine ⟨_, ?_, .val _⟩
    have := Lib.run_unsafeString_none (P := P) w pt it ty p
    simp [execOp, resolve, invoke, builtin, e1, e2, this]

/-- unsafe.SliceData of a row with elements. -/
theorem ev_sliceData {t e : TypeId} {x : Operand} {l m k : Nat} {xs : List (List AV)} {r : List (Nat × Tok)} (hx : st.get x = some (.own l 0 m)) (hm : 0 < m) (ht : Take st.toks l (.row e k xs) r) : OpEv P ⟨dst, .call ⟨.builtin .unsafeSliceData, #[x], #[t]⟩, ty, pos, after, g⟩ st (.ptr l 0 0) :=
  ev_same fun S R a w hh ho => by
    have hr := ho x (by simp [Op.operands, Call.operands]) _ hx
    generalize hv : a.eval x = v at hr
    cases hr with
    | onil h => omega
    | own h hn hmx hT ha hs =>
      rename_i c q ad
      obtain rfl : ad = some ⟨q.g, (q.b + 0) * q.k, none⟩ := ha.resolve_left (by omega)
      refine ⟨_, ?_, .ptr h⟩
      have := Lib.run_unsafeSliceData_row (P := P) w #[t] ty ⟨q.g, (q.b + 0) * q.k, none⟩ m c (by omega)
      simp [execOp, resolve, invoke, builtin, hv] at this ⊢
      rw [this]
      rfl
theorem ev_sliceData_nil {t : TypeId} {x : Operand} (hx : st.get x = some (.val (.slice none 0 0))) : OpEv P ⟨dst, .call ⟨.builtin .unsafeSliceData, #[x], #[t]⟩, ty, pos, after, g⟩ st (.val (.pointer none)) :=
  ev_same fun S R a w hh ho => by
    have e1 := rep_val (ho x (by simp [Op.operands, Call.operands]) _ hx)
    refine ⟨_, ?_, .val _⟩
    have := Lib.run_unsafeSliceData_nil (P := P) w #[t] ty 0 0
    simp [execOp, resolve, invoke, builtin, e1, this]
end

end Go.Proofs.YtphkfejckafamaaDoorA

/- Pointers through unsafe.Pointer (strings.Builder's copyCheck), slices' conversions, row makers. -/
set_option linter.unusedVariables false
namespace Go.Proofs.YtphkfejckafamaaDoorA
open Go.RowKit

section
variable {P : Program} {st : St} {dst : Option Tmp} {ty : TypeId} {pos : String} {after : Array Edge} {g : Option (Nat × Bool)}

theorem rowAt_shift {fits : TypeId → Bool} {d : Nat} {e : TypeId} {i r count : Nat} (hr : r < P.cellsOf e) (hi : i < count) (h : rowAt P fits (d + 1) e 1 r 1 = true) : rowAt P fits (d + 1) e count (i * P.cellsOf e + r) 1 = true := by
  have h0 : P.cellsOf e ≠ 0 := by omega
  have e1 : (i * P.cellsOf e + r) % P.cellsOf e = r := by rw [Nat.mul_comm, Nat.mul_add_mod, Nat.mod_eq_of_lt hr]
  have e2 : (i * P.cellsOf e + r) / P.cellsOf e = i := by rw [Nat.mul_comm, Nat.mul_add_div (by omega), Nat.div_eq_of_lt hr]; rfl
  have e3 : r % P.cellsOf e = r := Nat.mod_eq_of_lt hr
  have e4 : r / P.cellsOf e = 0 := Nat.div_eq_of_lt hr
  rw [rowAt] at h ⊢
  simp only [if_neg h0, e1, e2, e3, e4, Bool.or_eq_true, Bool.and_eq_true, decide_eq_true_eq] at h ⊢
  rcases h with ⟨⟨h1, h2⟩, h3⟩ | ⟨h1, h2⟩
  · exact .inl ⟨⟨h1, by omega⟩, h3⟩
  · exact .inr ⟨hi, h2⟩

/-- Where a pointer into a row points. -/
theorem ptr_place {S : Nat → Prop} {R : Lab} {w : World} {l i j k : Nat} {e : TypeId} {xs : List (List AV)} {v : Value} (htok : TokHolds S R w l (.row e k xs)) (hv : RepV S R w (.ptr l i j) v) (hi : i < xs.length) (hj : j < k) :
    ∃ g b t, v = .pointer (some ⟨g, b * k + j, none⟩) ∧ w.shape? g = some (e, t * k) ∧ b < t := by
  cases hv with
  | ptr h =>
    rename_i q
    simp only [TokHolds, h] at htok
    obtain ⟨rfl, cur, fr, hg, hfr, hcur, hb, hm, hrow⟩ := htok
    exact ⟨q.g, q.b + i, q.t, rfl, by simp [World.shape?, hg, hcur], by omega⟩

theorem ev_to_unsafe {src d t e : TypeId} {x : Operand} {l i j k kt bt : Nat} {z : Value} {xs : List (List AV)} {r : List (Nat × Tok)} [hs : Und P src (.pointer t)] (hd : P.underlying d = some .unsafePointer) [he : ElF P t z kt bt] (h0 : Nat.blt 0 kt = true) (hx : st.get x = some (.ptr l i j)) (ht : Take st.toks l (.row e k xs) r) (hi : i < xs.length) (hj : Nat.blt j k = true) :
    OpEv P ⟨dst, .convert src d x, ty, pos, after, g⟩ st (.ptr l i j) :=
  ev_same fun S R a w hh ho => by
    have hr := ho x (by simp [Op.operands]) _ hx
    have htok := hh.tok l _ (ht.perm.mem_iff.2 List.mem_cons_self)
    have hj' : j < k := by simpa [Nat.blt_eq] using hj
    have h0' : 0 < kt := by simpa [Nat.blt_eq] using h0
    obtain ⟨g', b, t', hv, hsh, hb⟩ := ptr_place htok hr hi hj'
    obtain ⟨inf, hinf, _, hsz, _⟩ := he.h
    refine ⟨_, ?_, hr⟩
    rw [hv]
    have := Lib.run_to_unsafe (P := P) w (src := src) (dst := d) (t := t) (j := inf) (e := e) (cells := t' * k) ⟨g', b * k + j, none⟩ hs.h hd hinf (by rw [hsz]; omega) hsh (by
      show b * k + j < t' * k
      calc b * k + j < b * k + k := by omega
        _ = (b + 1) * k := by rw [Nat.add_mul]; omega
        _ ≤ t' * k := Nat.mul_le_mul_right _ (by omega))
    simp [execOp, hv, this]

theorem ev_from_unsafe {src d u e : TypeId} {x : Operand} {l i j k kt bt : Nat} {z : Value} {xs : List (List AV)} {r : List (Nat × Tok)} (hs : P.underlying src = some .unsafePointer) [hd : Und P d (.pointer u)] [he : ElF P u z kt bt] (hk : P.cellsOf e = k) (hrow : rowAt P (sameLayout P P.depth · u) P.depth e 1 j 1 = true)
    (hx : st.get x = some (.ptr l i j)) (ht : Take st.toks l (.row e k xs) r) (hi : i < xs.length) (hj : Nat.blt j k = true) : OpEv P ⟨dst, .convert src d x, ty, pos, after, g⟩ st (.ptr l i j) :=
  ev_same fun S R a w hh ho => by
    have hr := ho x (by simp [Op.operands]) _ hx
    have htok := hh.tok l _ (ht.perm.mem_iff.2 List.mem_cons_self)
    have hj' : j < k := by simpa [Nat.blt_eq] using hj
    obtain ⟨g', b, t', hv, hsh, hb⟩ := ptr_place htok hr hi hj'
    obtain ⟨inf, hinf, _, hsz, _⟩ := he.h
    refine ⟨_, ?_, hr⟩
    rw [hv]
    have hdd : P.depth = (2 * (P.types.size + Made.depth) + 1) + 1 := rfl
    have hlies : liesAt P P.depth e (t' * k / P.cellsOf e) (b * k + j) u 1 = true := by
      have e1 : t' * k / P.cellsOf e = t' := by rw [hk, Nat.mul_div_cancel _ (by omega)]
      rw [e1]
      have h1 : rowAt P (sameLayout P P.depth · u) P.depth e t' (b * k + j) 1 = true := by
        rw [← hk]
        exact rowAt_shift (by rw [hk]; exact hj') hb hrow
      have hun : liesAt P P.depth e t' (b * k + j) u 1 = (rowAt P (sameLayout P P.depth · u) P.depth e t' (b * k + j) 1 || match P.underlying u with
        | some (.array m u') => liesAt P (2 * (P.types.size + Made.depth) + 1) e t' (b * k + j) u' (1 * m)
        | _ => false) := rfl
      rw [hun, h1]
      rfl
    have := Lib.run_from_unsafe (P := P) w (src := src) (dst := d) (u := u) (j := inf) (e := e) (cells := t' * k) ⟨g', b * k + j, none⟩ hs hd.h hinf hsh hlies
    simp [execOp, hv, this]

/-- A function without a body that gives its argument back. -/
theorem ev_same_call {f : FuncId} {x : Operand} {tys : Array TypeId} {y : AV} (hf : ∀ v w, (callFunc f #[v]).run P w = .ok (.value v) w) (hx : st.get x = some y) : OpEv P ⟨dst, .call ⟨.value (.func f), #[x], tys⟩, ty, pos, after, g⟩ st y :=
  ev_same fun S R a w hh ho => by
    have hr := ho x (by simp [Op.operands, Call.operands]) _ hx
    refine ⟨_, ?_, hr⟩
    have hc : a.eval (.func f) = .func (.func f) #[] #[] := rfl
    simp [execOp, resolve, invoke, hc, Deferred.ofValue, hf]

/-- A pointer against itself. -/
theorem ev_neq_ptr_same {t t' e : TypeId} {x y : Operand} {l i j kt bt : Nat} {z : Value} [hu : Und P t (.pointer e)] [he : ElF P e z kt bt] (hx : st.get x = some (.ptr l i j)) (hy : st.get y = some (.ptr l i j)) : OpEv P ⟨dst, .binOp .neq t x y t', ty, pos, after, g⟩ st (.val (.bool false)) :=
  ev_same fun S R a w hh ho => by
    have h1 := ho x (by simp [Op.operands]) _ hx
    have h2 := ho y (by simp [Op.operands]) _ hy
    generalize hu1 : a.eval x = u at h1
    generalize hv1 : a.eval y = v at h2
    cases h1 with
    | ptr g1 =>
      cases h2 with
      | ptr g2 =>
        rw [g1] at g2
        cases g2
        rename_i q
        obtain ⟨inf, hinf, _⟩ := he.h
        refine ⟨.bool false, ?_, .val _⟩
        have := Lib.run_neq_ptr_same (P := P) w (tp := t) (te := e) (j := inf) ⟨q.g, (q.b + i) * q.k + j, none⟩ hu.h hinf
        simp [execOp, hu1, hv1, eqGuard, this]
end

end Go.Proofs.YtphkfejckafamaaDoorA
