import Derived.Test.YtphkfejckafamaaDoorG2
import Derived.ProofKit
import Derived.OpenShut
/- Lending rows of one's own to a function that only reckons. -/
set_option linter.unusedVariables false
namespace Go.Proofs.YtphkfejckafamaaDoorA
open Go.RowKit

inductive Les : List AV → List AV → Prop
  | nil : Les [] []
  | cons {x y : AV} {xs ys : List AV} (h : Le x y) (hs : Les xs ys) : Les (x :: xs) (y :: ys)
theorem Les.len {xs ys : List AV} (h : Les xs ys) : ys.length = xs.length := by
  induction h with
  | nil => rfl
  | cons _ _ ih => simp [ih]
theorem Les.get {xs ys : List AV} (h : Les xs ys) : ∀ (i : Nat) (y : AV), ys[i]? = some y → ∃ x, xs[i]? = some x ∧ Le x y := by
  induction h with
  | nil => intro i y hy; simp at hy
  | cons h hs ih =>
    intro i z hz
    cases i with
    | zero => simp at hz; subst hz; exact ⟨_, rfl, h⟩
    | succ i => simpa using ih i z (by simpa using hz)
theorem Les.refl : ∀ {xs : List AV}, Les xs xs
  | [] => .nil
  | _ :: _ => .cons .refl Les.refl
theorem Le.agg {cs ds : List AV} (h : Les cs ds) : Le (.agg cs) (.agg ds) := fun S R w v hv => by
  cases hv with
  | agg hl hf =>
    refine .agg (by rw [hl, h.len]) fun i y hy => ?_
    obtain ⟨x, hx, hle⟩ := h.get i y hy
    exact hle.rep (hf i x hx)
theorem Le.tup {cs ds : List AV} (h : Les cs ds) : Le (.tup cs) (.tup ds) := fun S R w v hv => by
  cases hv with
  | tup hl hf =>
    refine .tup (by rw [hl, h.len]) fun i y hy => ?_
    obtain ⟨x, hx, hle⟩ := h.get i y hy
    exact hle.rep (hf i x hx)
theorem Le.trans {x y z : AV} (h : Le x y) (h' : Le y z) : Le x z := fun S R w v hv => h'.rep (h.rep hv)
theorem res1_le {P : Program} {st : St} {rv : ResultVar} {x y : AV} (h : Res1 P st rv x) (hl : Le x y) : Res1 P st rv y := fun S R a w hh hs => by
  obtain ⟨v, h1, h2⟩ := h S R a w hh hs
  exact ⟨v, h1, hl.rep h2⟩
theorem fn_args {P : Program} {f : FuncId} {ts : List (Nat × Tok)} {ys zs : List AV} {Post : List (Nat × Tok) → AV → Prop} (h : Fn P f ts zs Post) (hl : Les ys zs) : Fn P f ts ys Post :=
  ⟨fun S R w vs hh hr => h.h S R w vs hh ⟨by rw [hr.1, hl.len], fun i y hy => by
    obtain ⟨x, hx, hle⟩ := hl.get i y hy
    exact hle.rep (hr.2 i x hx)⟩⟩

mutual
/-- Seen as what is only read. -/
inductive Bo (ts : List (Nat × Tok)) : AV → AV → Prop
  | le {x y : AV} (h : Le x y) : Bo ts x y
  | own {l off n k : Nat} {e : TypeId} {xs : List (List AV)} {r : List (Nat × Tok)} (ht : Take ts l (.row e k xs) r) (hn : off + n ≤ xs.length) : Bo ts (.own l off n) (.sl k (xs.drop off) n)
  | ptr {l i j k : Nat} {e : TypeId} {xs : List (List AV)} {cs : List AV} {r : List (Nat × Tok)} (ht : Take ts l (.row e k xs) r) (hc : xs[i]? = some cs) : Bo ts (.ptr l i j) (.ip (cs.drop j))
  | agg {cs ds : List AV} (h : Bos ts cs ds) : Bo ts (.agg cs) (.agg ds)
inductive Bos (ts : List (Nat × Tok)) : List AV → List AV → Prop
  | nil : Bos ts [] []
  | cons {x y : AV} {xs ys : List AV} (h : Bo ts x y) (hs : Bos ts xs ys) : Bos ts (x :: xs) (y :: ys)
end

theorem Bos.len {ts : List (Nat × Tok)} : ∀ {xs ys : List AV}, Bos ts xs ys → ys.length = xs.length
  | [], [], _ => rfl
  | x :: xs, y :: ys, .cons _ hs => by simp [hs.len]

theorem ptr_to_ip {S S' : Nat → Prop} {R : Lab} {w : World} {l i j k : Nat} {e : TypeId} {xs : List (List AV)} {cs : List AV} {v : Value} (htok : TokHolds S R w l (.row e k xs)) (hv : RepV S R w (.ptr l i j) v) (hc : xs[i]? = some cs) (hS : ∀ b, S b → S' b) (hF : ∀ g, blkOf R l = some g → S' g) : RepV S' R w (.ip (cs.drop j)) v := by
  cases hv with
  | ptr h =>
    rename_i q
    simp only [TokHolds, h] at htok
    obtain ⟨rfl, cur, fr, hg, hfr, hcur, hb, hm, hrow⟩ := htok
    have hr := (hrow i cs hc).2
    refine .ip (F := fun m => cur.getD ((q.b + i) * q.k + (j + m)) undef) (hF _ (by simp [blkOf, h])) (fun m y hy => ?_) (fun y hy => ?_) (fun m y hy => ?_)
    · rw [List.getElem?_drop] at hy
      obtain ⟨_, u, hu, _⟩ := hr _ y hy
      rw [add_mk, cell_of_row w q.g _ cur e fr hg, Nat.add_assoc, hu, Array.getD_eq_getD_getElem?, hu]
      rfl
    · obtain ⟨m, hm'⟩ := List.getElem?_of_mem hy
      rw [List.getElem?_drop] at hm'
      exact (hr _ y hm').1
    · rw [List.getElem?_drop] at hy
      obtain ⟨_, u, hu, hrep⟩ := hr _ y hy
      have : cur.getD ((q.b + i) * q.k + (j + m)) undef = u := by rw [Array.getD_eq_getD_getElem?, hu]; rfl
      rw [this]
      exact hrep.mono hS (fun _ _ h => h) (fun _ _ => rfl)

mutual
theorem Bo.rep {ts : List (Nat × Tok)} {S S' : Nat → Prop} {R : Lab} {w : World} (hh : Holds S R w ts) (hS : ∀ b, S b → S' b) (hF : ∀ g, Foot R ts g → S' g) : ∀ {x y : AV} {v : Value}, Bo ts x y → RepV S R w x v → RepV S' R w y v
  | x, _, v, .le hl, h => hl.rep (h.mono hS (fun _ _ h => h) (fun _ _ => rfl))
  | _, _, v, .own ht hn, h => by
    have hm := ht.perm.mem_iff.2 List.mem_cons_self
    exact own_to_sl (hh.tok _ _ hm) h hn hS (fun g hg => hF g ⟨_, _, hm, hg⟩)
  | _, _, v, .ptr ht hc, h => by
    have hm := ht.perm.mem_iff.2 List.mem_cons_self
    exact ptr_to_ip (hh.tok _ _ hm) h hc hS (fun g hg => hF g ⟨_, _, hm, hg⟩)
  | _, _, v, .agg hs, h => by
    cases h with
    | agg hl hf => exact .agg (by rw [hl, hs.len]) (fun i y hy => Bos.rep hh hS hF hs (fun j z hz => hf j z hz) i y hy)
theorem Bos.rep {ts : List (Nat × Tok)} {S S' : Nat → Prop} {R : Lab} {w : World} (hh : Holds S R w ts) (hS : ∀ b, S b → S' b) (hF : ∀ g, Foot R ts g → S' g) : ∀ {xs ys : List AV} {f : Nat → Value}, Bos ts xs ys → (∀ (i : Nat) (x : AV), xs[i]? = some x → RepV S R w x (f i)) → ∀ (i : Nat) (y : AV), ys[i]? = some y → RepV S' R w y (f i)
  | [], [], f, .nil, _, i, y, hy => by simp at hy
  | x :: xs, y :: ys, f, .cons h hs, hf, i, z, hz => by
    cases i with
    | zero =>
      simp at hz
      subst hz
      exact Bo.rep hh hS hF h (hf 0 x rfl)
    | succ i => exact Bos.rep (f := fun i => f (i + 1)) hh hS hF hs (fun j z hz => hf (j + 1) z (by simpa using hz)) i z (by simpa using hz)
end

/-- It hangs on no memory. -/
def plainAV : AV → Bool
  | .val _ => true
  | .dead => true
  | .agg cs => cs.all fun | .val _ => true | _ => false
  | .tup cs => cs.all fun | .val _ => true | .agg ds => ds.all (fun | .val _ => true | _ => false) | _ => false
  | _ => false

theorem all_vals {cs : List AV} (h : cs.all (fun | .val _ => true | _ => false) = true) {x : AV} (hx : x ∈ cs) : ∃ v, x = .val v := by
  have := List.all_eq_true.1 h x hx
  cases x <;> first | exact ⟨_, rfl⟩ | cases this

theorem plain_rep {S S' : Nat → Prop} {R R' : Lab} {w w' : World} {x : AV} {v : Value} (hp : plainAV x = true) (h : RepV S R w x v) : RepV S' R' w' x v := by
  have hagg : ∀ {cs : List AV} {v : Value}, cs.all (fun | .val _ => true | _ => false) = true → RepV S R w (.agg cs) v → RepV S' R' w' (.agg cs) v := by
    intro cs v hc h
    cases h with
    | agg hl hf =>
      refine .agg hl fun i x hx => ?_
      obtain ⟨u, rfl⟩ := all_vals hc (List.mem_of_getElem? hx)
      have := rep_val (hf i _ hx)
      rw [this]; exact .val _
  cases x with
  | val u => have := rep_val h; subst this; exact .val _
  | dead => exact .dead _
  | agg cs => exact hagg hp h
  | tup cs =>
    cases h with
    | tup hl hf =>
      refine .tup hl fun i x hx => ?_
      have hx' := List.all_eq_true.1 hp x (List.mem_of_getElem? hx)
      cases x with
      | val u => have := rep_val (hf i _ hx); rw [this]; exact .val _
      | agg ds => exact hagg hx' (hf i _ hx)
      | _ => cases hx'
  | _ => cases hp

section
variable {P : Program} {st : St} {dst : Option Tmp} {ty : TypeId} {pos : String} {after : Array Edge} {g : Option (Nat × Bool)}

/-- A call of a function that only reckons; what is one's own is lent. -/
theorem ev_callB {c : Operand} {xs : List Operand} {tys : Array TypeId} {f : FuncId} {ys zs : List AV} {x : AV} [Ent P f] (hc : st.get c = some (.fn f [])) (hx : gets st xs = some ys) (hb : Bos st.toks ys zs) (hF : PFn P f zs x) (hp : plainAV x = true) : OpEv P ⟨dst, .call ⟨.value c, xs.toArray, tys⟩, ty, pos, after, g⟩ st x := by
  refine ⟨?_⟩
  intro S R a w hh ho next Q hk
  obtain ⟨vs, hv, hcap⟩ := rep_fn (ho c (by simp [Op.operands, Call.operands]) _ hc)
  have hargs := gets_reps (S := S) (R := R) (w := w) (a := a) hx (fun z hz => ho z (by simp [Op.operands, Call.operands, hz]))
  have hvs : vs.toList = [] := List.eq_nil_of_length_eq_zero (by simpa using hcap.1)
  unfold Oper.wp
  rw [run_call hv]
  rw [Oper.upon_enter]
  let S' : Nat → Prop := fun b => S b ∨ Foot R st.toks b
  have hno : ∀ (R : Lab) (g : Nat), ¬ Foot R [] g := by rintro R g ⟨_, _, h, _⟩; simp at h
  have hh' : Holds S' R w [] := ⟨hh.top, .nil, fun _ _ h => (by cases h), fun g hg => (hno _ g hg).elim, fun b hb => by
    rcases hb with hb | ⟨l, t, hm, hg⟩
    · exact hh.low b hb
    · exact (hh.tok l t hm).lt hg⟩
  have hreps : Reps S' R w zs ((xs.map a.eval) ++ vs.toList) := by
    rw [hvs, List.append_nil]
    refine ⟨by rw [hargs.1, hb.len], fun i y hy => ?_⟩
    exact Bos.rep hh (fun _ h => .inl h) (fun g hg => .inr hg) hb (fun j z hz => hargs.2 j z hz) i y hy
  refine (hF.h S' R w _ hh' hreps).mono ?_
  rintro e w' ⟨v, r, S2, R2, ts', rfl, rfl, h2, hrep, o⟩
  refine hk v S R2 w' ⟨⟨o.os, o.tape, o.output, o.size, fun b hb => o.block b hb (hno _ b)⟩, fun _ h => h, fun b hb => .inl hb, o.R0, h2.top⟩ (plain_rep hp hrep)
end

end Go.Proofs.YtphkfejckafamaaDoorA

/- Bits of numbers by their names. -/
set_option linter.unusedVariables false
namespace Go.Proofs.YtphkfejckafamaaDoorA
open Go.RowKit

@[irreducible] def andI (p q : Int) : Int := IntKind.i64.wrap ((BitVec.ofInt IntKind.i64.bits p &&& BitVec.ofInt IntKind.i64.bits q).toNat)
@[irreducible] def orI (p q : Int) : Int := IntKind.i64.wrap ((BitVec.ofInt IntKind.i64.bits p ||| BitVec.ofInt IntKind.i64.bits q).toNat)
@[irreducible] def nandI (p q : Int) : Int := IntKind.i64.wrap ((BitVec.ofInt IntKind.i64.bits p &&& ~~~ BitVec.ofInt IntKind.i64.bits q).toNat)

section
variable {P : Program} {st : St} {dst : Option Tmp} {ty : TypeId} {pos : String} {after : Array Edge} {g : Option (Nat × Bool)}
theorem ev_andI {t t' : TypeId} {x y : Operand} {p q : Int} (hx : st.get x = some (.val (.int .i64 p))) (hy : st.get y = some (.val (.int .i64 q))) : OpEv P ⟨dst, .binOp .and t x y t', ty, pos, after, g⟩ st (.val (.int .i64 (andI p q))) := by rw [andI]; exact ev_and hx hy
theorem ev_orI {t t' : TypeId} {x y : Operand} {p q : Int} (hx : st.get x = some (.val (.int .i64 p))) (hy : st.get y = some (.val (.int .i64 q))) : OpEv P ⟨dst, .binOp .or t x y t', ty, pos, after, g⟩ st (.val (.int .i64 (orI p q))) := by rw [orI]; exact ev_or hx hy
theorem ev_nandI {t t' : TypeId} {x y : Operand} {p q : Int} (hx : st.get x = some (.val (.int .i64 p))) (hy : st.get y = some (.val (.int .i64 q))) : OpEv P ⟨dst, .binOp .andNot t x y t', ty, pos, after, g⟩ st (.val (.int .i64 (nandI p q))) := by rw [nandI]; exact ev_andNot hx hy
end

end Go.Proofs.YtphkfejckafamaaDoorA

/- Appends onto nil. -/
set_option linter.unusedVariables false
namespace Go.Proofs.YtphkfejckafamaaDoorA
open Go.RowKit

/-- A contract (a name that nothing else has). -/
abbrev FnC (P : Program) (f : FuncId) (ts : List (Nat × Tok)) (args : List AV) (Post : List (Nat × Tok) → AV → Prop) : Prop := Fn P f ts args Post

section
variable {P : Program} {st : St} {dst : Option Tmp} {ty : TypeId} {pos : String} {after : Array Edge} {g : Option (Nat × Bool)}

/-- append(nil, immutable...) -/
theorem eff_append_nil {t e : TypeId} {x y : Operand} {k b m : Nat} {z : Value} {ys : List (List AV)} [hu : Und P t (.slice e)] [he : ElF P e z k b] (hx : st.get x = some (.val (.slice none 0 0))) (hy : st.get y = some (.sl k ys m)) (hb : m * b ≤ 140737488355328) (hnm : m ≤ 140737488355328) :
    OpEff P ⟨dst, .call ⟨.builtin .append, #[x, y], #[t, t]⟩, ty, pos, after, g⟩ st [] (fun ts r => ∃ l', ts = [(l', .row e k (ys.take m))] ∧ r = .own l' 0 m) := by
  refine ⟨?_⟩
  intro S R a w hh ho next Q hk
  have hxv := rep_val (ho x (by simp [Op.operands, Call.operands]) _ hx)
  have hyv := ho y (by simp [Op.operands, Call.operands]) _ hy
  obtain ⟨news, hs, hrep⟩ := src_sl (P := P) hu.h hyv
  have hm : (ys.take m).length = m := by
    generalize a.eval y = u at hyv
    cases hyv with
    | sl hn _ _ _ _ _ _ => simp; omega
  obtain ⟨N, hN⟩ := hh.free
  have hmono : ∀ {y : AV} {u : Value}, RepV S R w y u → RepV S (bindL R N none) w y u := fun h => h.mono (fun _ h => h) (bindL_mono hN) (fun _ _ => rfl)
  have hno : ∀ g, ¬ Foot (bindL R N none) [(N, .row e k [])] g := by
    rintro g ⟨l', t', hm', hg⟩
    simp at hm'
    obtain ⟨rfl, rfl⟩ := hm'
    simp [blkOf, bindL_same] at hg
  have hno0 : ∀ (R : Lab) (g : Nat), ¬ Foot R [] g := by rintro R g ⟨_, _, h, _⟩; simp at h
  have hh' : Holds S (bindL R N none) w [(N, .row e k [])] := ⟨bindL_top hh.top, by simp, fun l' t' hm' => by
    simp at hm'
    obtain ⟨rfl, rfl⟩ := hm'
    simp [TokHolds, bindL_same], fun g hg => (hno g hg).elim, hh.low⟩
  obtain ⟨r, w', R', N', hrun, h1, h2, h3⟩ := app_core (P := P) (ty := ty) (t := t) (t2 := t) (xs := []) (off := 0) (n := 0) (ys := ys.take m) hh' (.onil bindL_same) (by simp) hs (fun i x hx' hi => by
    obtain ⟨h4, h5⟩ := hrep i x hi (by rwa [List.getElem?_take, if_pos hi] at hx')
    exact ⟨h4, fun j y hy => by
      obtain ⟨h6, u, h7, h8⟩ := h5 j y hy
      exact ⟨h6, u, h7, hmono h8⟩⟩) hm (by simpa using hb) (by simpa using hnm)
  rw [← hxv] at hrun
  unfold Oper.wp
  rw [exec_append hrun]
  simp only [List.drop_nil, List.take_nil, List.nil_append, Nat.zero_add] at h1 h2 h3
  refine hk r _ S R' w' _ ⟨N', rfl, rfl⟩ h1 h2 ⟨h3.os, h3.tape, h3.output, h3.size, fun b hb _ => h3.block b hb (hno b), h3.S0, fun b hb => ?_, fun l q hq => h3.R0 l q (bindL_mono hN l q hq), fun g hg => ?_, fun l' t' hm' => ?_⟩
  · rcases h3.S1 b hb with h4 | h4 | h4
    · exact .inl h4
    · exact (hno b h4).elim
    · exact .inr (.inr h4)
  · rcases h3.foot g hg with h4 | h4
    · exact (hno g h4).elim
    · exact .inr h4
  · refine .inr ?_
    rcases h3.keys l' t' hm' with ⟨t2, h4⟩ | h4
    · simp at h4
      rw [h4.1]; exact hN
    · unfold bindL at h4
      split at h4
      · cases h4
      · exact h4
end

end Go.Proofs.YtphkfejckafamaaDoorA

/- Stores and appends with their token found first. -/
set_option linter.unusedVariables false
namespace Go.Proofs.YtphkfejckafamaaDoorA
open Go.RowKit

theorem row_len {S : Nat → Prop} {R : Lab} {w : World} {l i k : Nat} {e : TypeId} {xs : List (List AV)} {cs : List AV} (h : TokHolds S R w l (.row e k xs)) (hcs : xs[i]? = some cs) : cs.length = k := by
  cases hR : R l with
  | none => simp [TokHolds, hR] at h
  | some q =>
    cases q with
    | none =>
      simp only [TokHolds, hR] at h
      subst h
      simp at hcs
    | some q =>
      simp only [TokHolds, hR] at h
      obtain ⟨rfl, cur, fr, hg, hfr, hcur, hb, hm, hrow⟩ := h
      exact (hrow i cs hcs).1

section
variable {P : Program} {st : St} {dst : Option Tmp} {ty : TypeId} {pos : String} {after : Array Edge} {g : Option (Nat × Bool)}
theorem eff_store_k {t e : TypeId} {p x : Operand} {y : AV} {l i j k kt b : Nat} {z : Value} {xs : List (List AV)} {cs : List AV} [he : ElF P t z kt b] (hp : st.get p = some (.ptr l i j)) (hx : st.get x = some y) (hl : y.lies) (hcs : xs[i]? = some cs) (hk : y.cells.length = kt) (hj : j + kt ≤ k) :
    OpEff P ⟨dst, .store t p x, ty, pos, after, g⟩ st [(l, .row e k xs)] (fun ts r => ts = [(l, .row e k (xs.set i (putCells cs j y.cells)))] ∧ r = .dead) :=
  ⟨fun S R a w hh ho next Q hkk => (eff_store hp hx hl hcs hk (by rw [row_len (hh.tok l _ List.mem_cons_self) hcs]; exact hj)).h S R a w hh ho next Q hkk⟩
theorem eff_store_1 {t e : TypeId} {p x : Operand} {y : AV} {l i j k b : Nat} {z : Value} {xs : List (List AV)} {cs : List AV} [he : ElF P t z 1 b] (hp : st.get p = some (.ptr l i j)) (hx : st.get x = some y) (hl : y.one = true) (hcs : xs[i]? = some cs) (hj : j < k) :
    OpEff P ⟨dst, .store t p x, ty, pos, after, g⟩ st [(l, .row e k xs)] (fun ts r => ts = [(l, .row e k (xs.set i (cs.set j y)))] ∧ r = .dead) := by
  have hc : y.cells = [y] := by cases y <;> first | rfl | cases hl
  refine ⟨fun S R a w hh ho next Q hkk => ?_⟩
  have hlen := row_len (hh.tok l _ List.mem_cons_self) hcs
  have hlies : y.lies := ⟨.inl hl, fun u hu => by rw [hc] at hu; simp at hu; subst hu; exact hl⟩
  have hput : putCells cs j y.cells = cs.set j y := by
    rw [hc]
    apply List.ext_getElem?
    intro m
    simp only [putCells, List.append_assoc, List.getElem?_append, List.length_take, List.getElem?_set]
    have hmin : min j cs.length = j := by omega
    rw [hmin]
    by_cases h1 : m < j
    · rw [if_pos h1, List.getElem?_take, if_pos h1, if_neg (by omega)]
    · rw [if_neg h1]
      by_cases h2 : m = j
      · subst h2
        simp; omega
      · rw [if_neg (by simp; omega), if_neg (by omega), List.getElem?_drop]
        congr 1
        simp; omega
  have := (eff_store (P := P) (dst := dst) (ty := ty) (pos := pos) (after := after) (g := g) (e := e) hp hx hlies hcs (by rw [hc]; rfl) (by omega)).h S R a w hh ho next Q
  rw [hput] at this
  exact this hkk
end

section
variable {P : Program} {n : Nat} {ro : Option Nat} {G : CtxR P n ro} {l rest : List Oper} {sl : List (Nat × AV)} {ts : List (Nat × Tok)} {K : Kont}
variable {d : Nat} {ty : TypeId} {pos : String} {after : Array Edge} {bs : List Bool} {rs0 : List (Nat × Tok)} {q : Nat} {r : List Nat}

theorem ar_store {t e : TypeId} {p x : Operand} {y : AV} {lb i j k kt b : Nat} {z : Value} {xs : List (List AV)} {cs : List AV} {rs : List (Nat × Tok)} [he : ElF P t z kt b] (hp : St.get ⟨sl, ts⟩ p = some (.ptr lb i j)) (ht : Take ts lb (.row e k xs) rs) (hx : St.get ⟨sl, ts⟩ x = some y) (hl : liesB y = true) (hcs : xs[i]? = some cs) (hk : Nat.beq y.cells.length kt = true) (hj : Nat.ble (j + kt) k = true)
    (h : AR G l 0 rest ⟨sl, (lb, .row e k (xs.set i (putCells cs j y.cells))) :: rs⟩ K) : AR G l 0 (⟨none, .store t p x, ty, pos, after, none⟩ :: rest) ⟨sl, ts⟩ K :=
  ar_set (eff_store_k hp hx (lies_of hl) hcs (Nat.eq_of_beq_eq_true hk) (Nat.le_of_ble_eq_true hj)) (.cons ht .nil) h
theorem ar_store1 {t e : TypeId} {p x : Operand} {y : AV} {lb i j k b : Nat} {z : Value} {xs : List (List AV)} {cs : List AV} {rs : List (Nat × Tok)} [he : ElF P t z 1 b] (hp : St.get ⟨sl, ts⟩ p = some (.ptr lb i j)) (ht : Take ts lb (.row e k xs) rs) (hx : St.get ⟨sl, ts⟩ x = some y) (hl : y.one = true) (hcs : xs[i]? = some cs) (hj : Nat.blt j k = true)
    (h : AR G l 0 rest ⟨sl, (lb, .row e k (xs.set i (cs.set j y))) :: rs⟩ K) : AR G l 0 (⟨none, .store t p x, ty, pos, after, none⟩ :: rest) ⟨sl, ts⟩ K :=
  ar_set (eff_store_1 hp hx hl hcs (by simpa [Nat.blt_eq] using hj)) (.cons ht .nil) h
theorem tl_store {t e : TypeId} {p x : Operand} {y : AV} {lb i j k kt b : Nat} {z : Value} {xs : List (List AV)} {cs : List AV} {rs : List (Nat × Tok)} (ho : l[q]? = some ⟨none, .store t p x, ty, pos, after, none⟩) (hb : bs.getD q false = false) (hna : isAl l q = false) (he : ElF P t z kt b) (hp : St.get ⟨sl, []⟩ p = some (.ptr lb i j)) (ht : Take ts lb (.row e k xs) rs) (hx : St.get ⟨sl, []⟩ x = some y) (hl : liesB y = true) (hcs : xs[i]? = some cs) (hk : Nat.beq y.cells.length kt = true) (hj : Nat.ble (j + kt) k = true)
    (h : TL G l bs rs0 K r sl ((lb, .row e k (xs.set i (putCells cs j y.cells))) :: rs)) : TL G l bs rs0 K (q :: r) sl ts :=
  tl_set ho hb hna (eff_store_k hp hx (lies_of hl) hcs (Nat.eq_of_beq_eq_true hk) (Nat.le_of_ble_eq_true hj)) (.cons ht .nil) h
theorem tl_store1 {t e : TypeId} {p x : Operand} {y : AV} {lb i j k b : Nat} {z : Value} {xs : List (List AV)} {cs : List AV} {rs : List (Nat × Tok)} (ho : l[q]? = some ⟨none, .store t p x, ty, pos, after, none⟩) (hb : bs.getD q false = false) (hna : isAl l q = false) (he : ElF P t z 1 b) (hp : St.get ⟨sl, []⟩ p = some (.ptr lb i j)) (ht : Take ts lb (.row e k xs) rs) (hx : St.get ⟨sl, []⟩ x = some y) (hl : y.one = true) (hcs : xs[i]? = some cs) (hj : Nat.blt j k = true)
    (h : TL G l bs rs0 K r sl ((lb, .row e k (xs.set i (cs.set j y))) :: rs)) : TL G l bs rs0 K (q :: r) sl ts :=
  tl_set ho hb hna (eff_store_1 hp hx hl hcs (by simpa [Nat.blt_eq] using hj)) (.cons ht .nil) h

theorem ar_append {t e : TypeId} {x y : Operand} {k b lb off m m2 : Nat} {z : Value} {xs ys : List (List AV)} {rs : List (Nat × Tok)} [hu : Und P t (.slice e)] [he : ElF P e z k b] (hx : St.get ⟨sl, ts⟩ x = some (.own lb off m)) (ht : Take ts lb (.row e k xs) rs) (hy : St.get ⟨sl, ts⟩ y = some (.sl k ys m2)) (hoff : off + m ≤ xs.length) (hb : (m + m2) * b ≤ 140737488355328) (hnm : m + m2 ≤ 140737488355328) (hd : Nat.blt d n = true)
    (h : ∀ lab, AR G l 0 rest ⟨(d, .own lab 0 (m + m2)) :: sl, (lab, .row e k ((xs.drop off).take m ++ ys.take m2)) :: rs⟩ K) : AR G l 0 (⟨some d, .call ⟨.builtin .append, #[x, y], #[t, t]⟩, ty, pos, after, none⟩ :: rest) ⟨sl, ts⟩ K :=
  ar_new (eff_append hx hy hoff hb hnm) (.cons ht .nil) hd h
theorem tl_append {t e : TypeId} {x y : Operand} {k b lb off m m2 : Nat} {z : Value} {xs ys : List (List AV)} {rs : List (Nat × Tok)} (ho : l[q]? = some ⟨some d, .call ⟨.builtin .append, #[x, y], #[t, t]⟩, ty, pos, after, none⟩) (hbs : bs.getD q false = false) (hna : isAl l q = false) (hu : Und P t (.slice e)) (he : ElF P e z k b) (hx : St.get ⟨sl, []⟩ x = some (.own lb off m)) (ht : Take ts lb (.row e k xs) rs) (hy : St.get ⟨sl, []⟩ y = some (.sl k ys m2)) (hoff : off + m ≤ xs.length) (hb : (m + m2) * b ≤ 140737488355328) (hnm : m + m2 ≤ 140737488355328) (hd : Nat.blt d n = true)
    (h : ∀ lab, TL G l bs rs0 K r ((d, .own lab 0 (m + m2)) :: sl) ((lab, .row e k ((xs.drop off).take m ++ ys.take m2)) :: rs)) : TL G l bs rs0 K (q :: r) sl ts :=
  tl_new ho hbs hna (eff_append hx hy hoff hb hnm) (.cons ht .nil) hd h
theorem ar_append_str {t t2 e : TypeId} {x y : Operand} {b lb off m : Nat} {z : Value} {xs : List (List AV)} {s : ByteArray} {rs : List (Nat × Tok)} [hu : Und P t (.slice e)] [he : ElF P e z 1 b] [hu2 : Und P t2 .string] (hx : St.get ⟨sl, ts⟩ x = some (.own lb off m)) (ht : Take ts lb (.row e 1 xs) rs) (hy : St.get ⟨sl, ts⟩ y = some (.val (.string s))) (hoff : off + m ≤ xs.length) (hb : (m + s.size) * b ≤ 140737488355328) (hnm : m + s.size ≤ 140737488355328) (hd : Nat.blt d n = true)
    (h : ∀ lab, AR G l 0 rest ⟨(d, .own lab 0 (m + s.size)) :: sl, (lab, .row e 1 ((xs.drop off).take m ++ u8cells s.data.toList)) :: rs⟩ K) : AR G l 0 (⟨some d, .call ⟨.builtin .append, #[x, y], #[t, t2]⟩, ty, pos, after, none⟩ :: rest) ⟨sl, ts⟩ K :=
  ar_new (eff_append_str hx hy hoff hb hnm) (.cons ht .nil) hd h
end


section
variable {P : Program} {n : Nat} {ro : Option Nat} {G : CtxR P n ro} {l rest : List Oper} {sl : List (Nat × AV)} {ts : List (Nat × Tok)} {K : Kont}
variable {d : Nat} {ty : TypeId} {pos : String} {after : Array Edge} {bs : List Bool} {rs0 : List (Nat × Tok)} {q : Nat} {r : List Nat}
/-- A call that takes tokens and gives others. -/
theorem ar_call {c : Operand} {xs : List Operand} {tys : Array TypeId} {f : FuncId} {ys : List AV} {us rs : List (Nat × Tok)} {Post : List (Nat × Tok) → AV → Prop} [Ent P f] (hF : Fn P f us ys Post) (hc : St.get ⟨sl, ts⟩ c = some (.fn f [])) (hx : gets ⟨sl, ts⟩ xs = some ys) (ht : Takes ts us rs) (hd : Nat.blt d n = true)
    (h : ∀ ts' r, Post ts' r → AR G l 0 rest ⟨(d, r) :: sl, ts' ++ rs⟩ K) : AR G l 0 (⟨some d, .call ⟨.value c, xs.toArray, tys⟩, ty, pos, after, none⟩ :: rest) ⟨sl, ts⟩ K :=
  ar_eff (eff_call hc hx (by rw [List.append_nil]; exact hF)) ht hd h
theorem ar_tcall {d0 j : Nat} {b : Bool} {o : Oper} {c : Operand} {xs : List Operand} {tys : Array TypeId} {f : FuncId} {ys : List AV} {us rs : List (Nat × Tok)} {Post : List (Nat × Tok) → AV → Prop} [Ent P f] (hF : Fn P f us ys Post) (hj : l[j]? = some o) (hod : o.dst = some d0) (hg : look sl d0 = some (.val (.bool b))) (hc : St.get ⟨sl, ts⟩ c = some (.fn f [])) (hx : gets ⟨sl, ts⟩ xs = some ys) (ht : Takes ts us rs) (hd : Nat.blt d n = true)
    (h : ∀ ts' r, Post ts' r → AR G l 0 rest ⟨(d, r) :: sl, ts' ++ rs⟩ K) : AR G l 0 (⟨some d, .call ⟨.value c, xs.toArray, tys⟩, ty, pos, after, some (j, b)⟩ :: rest) ⟨sl, ts⟩ K :=
  ar_teff hj hod hg (eff_call hc hx (by rw [List.append_nil]; exact hF)) ht hd h
theorem tl_call {c : Operand} {xs : List Operand} {tys : Array TypeId} {f : FuncId} {ys : List AV} {us rs : List (Nat × Tok)} {Post : List (Nat × Tok) → AV → Prop} [Ent P f] (hF : Fn P f us ys Post) (ho : l[q]? = some ⟨some d, .call ⟨.value c, xs.toArray, tys⟩, ty, pos, after, none⟩) (hb : bs.getD q false = false) (hna : isAl l q = false) (hc : St.get ⟨sl, []⟩ c = some (.fn f [])) (hx : gets ⟨sl, []⟩ xs = some ys) (ht : Takes ts us rs) (hd : Nat.blt d n = true)
    (h : ∀ ts' x, Post ts' x → TL G l bs rs0 K r ((d, x) :: sl) (ts' ++ rs)) : TL G l bs rs0 K (q :: r) sl ts :=
  tl_eff ho hb hna (eff_call hc hx (by rw [List.append_nil]; exact hF)) ht hd h
end

theorem r_cell_le {P : Program} {st : St} {t e : TypeId} {ad : Tmp} {z : Value} {kt b k l i j : Nat} {xs : List (List AV)} {cs : List AV} {r : List (Nat × Tok)} {y : AV} [hu : AgF P t true] [he : ElF P t z kt b] (hx : look st.sl ad = some (.ptr l i j)) (ht : Take st.toks l (.row e k xs) r) (hcs : xs[i]? = some cs) (hk : Nat.ble (j + kt) cs.length = true) (hl : Le (.agg ((cs.drop j).take kt)) y) :
    Res1 P st (.cell ad t) y := res1_le (r_cell hx ht hcs hk) hl

/-- unsafe.SliceData of an empty row: some pointer. -/
theorem eff_sliceData0 {P : Program} {st : St} {dst : Option Tmp} {ty : TypeId} {pos : String} {after : Array Edge} {g : Option (Nat × Bool)} {t u e : TypeId} {x : Operand} {l k : Nat} [hu : Und P ty (.pointer u)] (hx : st.get x = some (.own l 0 0)) :
    OpEff P ⟨dst, .call ⟨.builtin .unsafeSliceData, #[x], #[t]⟩, ty, pos, after, g⟩ st [(l, .row e k [])] (fun ts r => ts = [(l, .row e k [])] ∧ ∃ p, r = .val (.pointer p)) := by
  refine ⟨?_⟩
  intro S R a w hh ho next Q hk
  have hr := ho x (by simp [Op.operands, Call.operands]) _ hx
  have htok := hh.tok l _ List.mem_cons_self
  have same : ∀ (v : Option Addr), (Builtin.unsafeSliceData_ #[t] ty #[a.eval x]).run P w = .ok (.pointer v) w → (⟨dst, .call ⟨.builtin .unsafeSliceData, #[x], #[t]⟩, ty, pos, after, g⟩ : Oper).wp P a w next Q := by
    intro v hrun
    have hex : (execOp a.eval ⟨dst, .call ⟨.builtin .unsafeSliceData, #[x], #[t]⟩, ty, pos, after, g⟩).run P w = .ok (.value (.pointer v)) w := by
      simp [execOp, resolve, invoke, builtin, hrun]
    unfold Oper.wp
    rw [hex]
    exact hk _ _ S R w _ ⟨rfl, v, rfl⟩ hh (.val _) ⟨rfl, rfl, rfl, Nat.le_refl _, fun _ _ _ => rfl, fun _ h => h, fun _ h => .inl h, fun _ _ h => h, fun g hg => .inl hg, fun l' t' hm => .inl ⟨t', hm⟩⟩
  generalize hv : a.eval x = v at hr same
  cases hr with
  | onil h => exact same none (Lib.run_unsafeSliceData_nil (P := P) w #[t] ty 0 0)
  | own h hn hmx hT ha hs =>
    rename_i c q ad
    obtain ⟨ad', rfl, hb⟩ := hs
    by_cases hc : c = 0
    · subst hc
      simp only [TokHolds, h] at htok
      obtain ⟨hk1, cur, fr, hg, hrest⟩ := htok
      -- the address of a slice without room: a block of its own; if it is known it is the row's
      have hrun := Lib.run_unsafeSliceData_zero (P := P) w #[t] ty u hu.h ad' 0 (e, cur.size) (by rw [hb]; simp [World.shape?, hg])
      have hex : (execOp a.eval ⟨dst, .call ⟨.builtin .unsafeSliceData, #[x], #[t]⟩, ty, pos, after, g⟩).run P w = .ok (.value (.pointer (some ⟨w.heap.size, 0, none⟩))) (w.alloc (.view ad' u)) := by
        simp [execOp, resolve, invoke, builtin, hv, hrun]
      unfold Oper.wp
      rw [hex]
      have hblk : ∀ b, b < w.heap.size → (w.alloc (.view ad' u)).heap[b]? = w.heap[b]? := fun b hb => Below.heap_alloc _ _ _ hb
      refine hk _ _ S R _ _ ⟨rfl, _, rfl⟩ (hh.mono (fun _ h => h) (fun _ h => .inl h) (fun _ _ h => h) hh.top (by simp) hblk) (.val _) ⟨rfl, rfl, rfl, by simp, fun b hb _ => hblk b hb, fun _ h => h, fun _ h => .inl h, fun _ _ h => h, fun g hg => .inl hg, fun l' t' hm => .inl ⟨t', hm⟩⟩
    · exact same _ (Lib.run_unsafeSliceData_row (P := P) w #[t] ty ad' 0 c hc)

end Go.Proofs.YtphkfejckafamaaDoorA

/- Calls that take tokens while others are lent. -/
set_option linter.unusedVariables false
namespace Go.Proofs.YtphkfejckafamaaDoorA
open Go.RowKit

theorem Bo.ptrd {ts : List (Nat × Tok)} {l i j k : Nat} {e : TypeId} {xs : List (List AV)} {cs ds : List AV} {r : List (Nat × Tok)} (ht : Take ts l (.row e k xs) r) (hc : xs[i]? = some cs) (hd : cs.drop j = ds) : Bo ts (.ptr l i j) (.ip ds) := by subst hd; exact .ptr ht hc
theorem Bo.ownd {ts : List (Nat × Tok)} {l off n k : Nat} {e : TypeId} {xs ys : List (List AV)} {r : List (Nat × Tok)} (ht : Take ts l (.row e k xs) r) (hn : off + n ≤ xs.length) (hd : xs.drop off = ys) : Bo ts (.own l off n) (.sl k ys n) := by subst hd; exact .own ht hn

section
variable {P : Program} {st : St} {dst : Option Tmp} {ty : TypeId} {pos : String} {after : Array Edge} {g : Option (Nat × Bool)}

/-- A call that uses tokens up and answers plainly; what the state holds is lent. -/
theorem effr_callB {c : Operand} {xs : List Operand} {tys : Array TypeId} {f : FuncId} {ys zs : List AV} {us : List (Nat × Tok)} {x : AV} [Ent P f] (hF : Fn P f us zs (fun ts r => ts = [] ∧ r = x)) (hc : st.get c = some (.fn f [])) (hx : gets st xs = some ys) (hb : Bos st.toks ys zs) (hp : plainAV x = true) :
    OpEffR P ⟨dst, .call ⟨.value c, xs.toArray, tys⟩, ty, pos, after, g⟩ st us (fun ts r => ts = [] ∧ r = x) := by
  refine ⟨?_⟩
  intro S R a w hh ho next Q hk
  obtain ⟨vs, hv, hcap⟩ := rep_fn (ho c (by simp [Op.operands, Call.operands]) _ hc)
  have hargs := gets_reps (S := S) (R := R) (w := w) (a := a) hx (fun z hz => ho z (by simp [Op.operands, Call.operands, hz]))
  have hvs : vs.toList = [] := List.eq_nil_of_length_eq_zero (by simpa using hcap.1)
  have hap := List.pairwise_append.1 hh.apart
  have hrd : Holds S R w st.toks := hh.sub ⟨us, List.perm_append_comm⟩
  have hus : Holds S R w us := hh.sub ⟨st.toks, .refl _⟩
  unfold Oper.wp
  rw [run_call hv]
  rw [Oper.upon_enter]
  let S' : Nat → Prop := fun b => S b ∨ Foot R st.toks b
  have hh' : Holds S' R w us := by
    refine ⟨hh.top, hap.1, fun l t hm => (hus.tok l t hm).mono (fun _ h => .inl h) (fun _ _ h => h) (fun _ _ => rfl) (fun _ _ => rfl), ?_, ?_⟩
    · rintro b ⟨l, t, hm, hg⟩ (hb | ⟨l', t', hm', hg'⟩)
      · exact hus.notS b ⟨l, t, hm, hg⟩ hb
      · exact (hap.2.2 _ hm _ hm').2 b hg hg'
    · rintro b (hb | ⟨l, t, hm, hg⟩)
      · exact hh.low b hb
      · exact (hrd.tok l t hm).lt hg
  have hreps : Reps S' R w zs ((xs.map a.eval) ++ vs.toList) := by
    rw [hvs, List.append_nil]
    refine ⟨by rw [hargs.1, hb.len], fun i y hy => ?_⟩
    exact Bos.rep hrd (fun _ h => .inl h) (fun g hg => .inr hg) hb (fun j z hz => hargs.2 j z hz) i y hy
  refine (hF.h S' R w _ hh' hreps).mono ?_
  rintro e w' ⟨v, r, S2, R2, ts', rfl, ⟨rfl, rfl⟩, h2, hrep, o⟩
  have hno : ∀ (R : Lab) (g : Nat), ¬ Foot R [] g := by rintro R g ⟨_, _, h, _⟩; simp at h
  refine hk v _ S R2 w' [] ⟨rfl, rfl⟩ ⟨h2.top, .nil, fun _ _ h => (by cases h), fun g hg => (hno _ g hg).elim, fun b hb => Nat.lt_of_lt_of_le (hh.low b hb) o.size⟩ (plain_rep hp hrep) ⟨o.os, o.tape, o.output, o.size, o.block, fun _ h => h, fun _ h => .inl h, o.R0, fun g hg => (hno _ g hg).elim, fun _ _ h => (by cases h)⟩
end

section
variable {P : Program} {n : Nat} {ro : Option Nat} {G : CtxR P n ro} {l : List Oper} {sl : List (Nat × AV)} {ts : List (Nat × Tok)} {K : Kont} {d : Nat} {ty : TypeId} {pos : String} {after : Array Edge} {bs : List Bool} {rs0 : List (Nat × Tok)} {q : Nat} {r : List Nat}
theorem tl_callB {c : Operand} {xs : List Operand} {tys : Array TypeId} {f : FuncId} {ys zs : List AV} {us rs : List (Nat × Tok)} {x : AV} [Ent P f] (hF : Fn P f us zs (fun ts r => ts = [] ∧ r = x)) (ho : l[q]? = some ⟨some d, .call ⟨.value c, xs.toArray, tys⟩, ty, pos, after, none⟩) (hb : bs.getD q false = false) (hna : isAl l q = false) (hc : St.get ⟨sl, rs0⟩ c = some (.fn f [])) (hx : gets ⟨sl, rs0⟩ xs = some ys) (hbo : Bos rs0 ys zs) (hp : plainAV x = true) (ht : Takes ts us rs) (hd : Nat.blt d n = true)
    (h : TL G l bs rs0 K r ((d, x) :: sl) rs) : TL G l bs rs0 K (q :: r) sl ts :=
  .effr ho hb hna (.inl rfl) ht (effr_callB hF hc hx hbo hp) hd fun ts' y ⟨h1, h2⟩ => by subst h1; subst h2; exact h
end

end Go.Proofs.YtphkfejckafamaaDoorA

/- Tokens up to equality; small rules. -/
namespace Go.Proofs.YtphkfejckafamaaDoorA
open Go.RowKit

theorem Take.cast {ts : List (Nat × Tok)} {l : Nat} {t t' : Tok} {r : List (Nat × Tok)} (h : Take ts l t r) (e : t = t') : Take ts l t' r := e ▸ h
theorem Take.rowc {ts : List (Nat × Tok)} {l : Nat} {e : TypeId} {k : Nat} {xs ys : List (List AV)} {r : List (Nat × Tok)} (he : xs = ys) (h : Take ts l (.row e k xs) r) : Take ts l (.row e k ys) r := he ▸ h
variable {P : Program} {st : St} {dst : Option Tmp} {ty : TypeId} {pos : String} {after : Array Edge} {g : Option (Nat × Bool)}
theorem ev_indexAddr_own0 {t e e' : TypeId} {x ix : Operand} {ki : IntKind} {k n i b l : Nat} {z : Value} {xs : List (List AV)} {r : List (Nat × Tok)} [hu : Und P t (.slice e)] [he : ElF P e z k b] (hx : st.get x = some (.own l 0 n)) (hi : st.get ix = some (.val (.int ki (i : Nat)))) (hn : i < n) (ht : Take st.toks l (.row e' k xs) r) : OpEv P ⟨dst, .indexAddr t x ix, ty, pos, after, g⟩ st (.ptr l i 0) := by
  have h := ev_indexAddr_own (P := P) (t := t) (e := e) (z := z) (b := b) (dst := dst) (ty := ty) (pos := pos) (after := after) (g := g) hx hi hn ht
  rwa [Nat.zero_add] at h
end Go.Proofs.YtphkfejckafamaaDoorA

/- Deep conversions: what is one's own seen as what is only read, with all that it holds; lending to any call. -/
set_option linter.unusedVariables false
namespace Go.Proofs.YtphkfejckafamaaDoorA
open Go.RowKit

/-- Where the tokens ts are no longer written, x reads as y. -/
def Cv (ts : List (Nat × Tok)) (x y : AV) : Prop :=
  ∀ (S S' : Nat → Prop) (R : Lab) (w : World), Holds S R w ts → (∀ b, S b → S' b) → (∀ g, Foot R ts g → S' g) → ∀ v, RepV S' R w x v → RepV S' R w y v

theorem Cv.refl {ts : List (Nat × Tok)} {x : AV} : Cv ts x x := fun _ _ _ _ _ _ _ _ h => h
theorem Cv.le {ts : List (Nat × Tok)} {x y : AV} (h : Le x y) : Cv ts x y := fun _ _ _ _ _ _ _ _ hv => h.rep hv
theorem Cv.trans {ts : List (Nat × Tok)} {x y z : AV} (h : Cv ts x y) (h' : Cv ts y z) : Cv ts x z := fun S S' R w hh hS hF v hv => h' S S' R w hh hS hF v (h S S' R w hh hS hF v hv)
theorem Cv.more {ts us : List (Nat × Tok)} {x y : AV} (h : Cv us x y) (hs : ∃ r, ts.Perm (us ++ r)) : Cv ts x y := fun S S' R w hh hS hF v hv => by
  obtain ⟨r, hp⟩ := hs
  exact h S S' R w (hh.sub ⟨r, hp⟩) hS (fun g ⟨l, t, hm, hg⟩ => hF g ⟨l, t, hp.mem_iff.2 (List.mem_append_left _ hm), hg⟩) v hv
theorem Cv.takes {ts us rs : List (Nat × Tok)} {x y : AV} (h : Cv us x y) (ht : Takes ts us rs) : Cv ts x y := h.more ⟨rs, ht.perm⟩

theorem own_rep {S S' : Nat → Prop} {R : Lab} {w : World} {l off n : Nat} {v : Value} (h : RepV S R w (.own l off n) v) : RepV S' R w (.own l off n) v := by
  cases h with
  | own h1 hn hm ht ha hs => exact .own h1 hn hm ht ha hs
  | onil h1 => exact .onil h1
theorem ptr_rep {S S' : Nat → Prop} {R : Lab} {w : World} {l i j : Nat} {v : Value} (h : RepV S R w (.ptr l i j) v) : RepV S' R w (.ptr l i j) v := by
  cases h with
  | ptr h1 => exact .ptr h1

theorem Cv.own {ts r : List (Nat × Tok)} {l off n k : Nat} {e : TypeId} {xs : List (List AV)} (ht : Take ts l (.row e k xs) r) (hn : off + n ≤ xs.length) : Cv ts (.own l off n) (.sl k (xs.drop off) n) := by
  intro S S' R w hh hS hF v hv
  have hm := ht.perm.mem_iff.2 List.mem_cons_self
  exact own_to_sl (hh.tok _ _ hm) (own_rep hv) hn hS (fun g hg => hF g ⟨_, _, hm, hg⟩)
theorem Cv.own0 {ts r : List (Nat × Tok)} {l n k : Nat} {e : TypeId} {xs : List (List AV)} (ht : Take ts l (.row e k xs) r) (hn : n ≤ xs.length) : Cv ts (.own l 0 n) (.sl k xs n) := by
  have := Cv.own (off := 0) (n := n) ht (by omega)
  simpa using this
theorem Cv.ptr {ts r : List (Nat × Tok)} {l i j k : Nat} {e : TypeId} {xs : List (List AV)} {cs : List AV} (ht : Take ts l (.row e k xs) r) (hc : xs[i]? = some cs) : Cv ts (.ptr l i j) (.ip (cs.drop j)) := by
  intro S S' R w hh hS hF v hv
  have hm := ht.perm.mem_iff.2 List.mem_cons_self
  exact ptr_to_ip (hh.tok _ _ hm) (ptr_rep hv) hc hS (fun g hg => hF g ⟨_, _, hm, hg⟩)
theorem Cv.ptr0 {ts r : List (Nat × Tok)} {l i k : Nat} {e : TypeId} {xs : List (List AV)} {cs : List AV} (ht : Take ts l (.row e k xs) r) (hc : xs[i]? = some cs) : Cv ts (.ptr l i 0) (.ip cs) := Cv.ptr (j := 0) ht hc

/-- One by one. -/
inductive Cvs (ts : List (Nat × Tok)) : List AV → List AV → Prop
  | nil : Cvs ts [] []
  | cons {x y : AV} {xs ys : List AV} (h : Cv ts x y) (hs : Cvs ts xs ys) : Cvs ts (x :: xs) (y :: ys)
theorem Cvs.refl {ts : List (Nat × Tok)} : ∀ {xs : List AV}, Cvs ts xs xs
  | [] => .nil
  | _ :: _ => .cons .refl Cvs.refl
theorem Cvs.len {ts : List (Nat × Tok)} {xs ys : List AV} (h : Cvs ts xs ys) : ys.length = xs.length := by
  induction h with
  | nil => rfl
  | cons _ _ ih => simp [ih]
theorem Cvs.get {ts : List (Nat × Tok)} {xs ys : List AV} (h : Cvs ts xs ys) : ∀ (i : Nat) (y : AV), ys[i]? = some y → ∃ x, xs[i]? = some x ∧ Cv ts x y := by
  induction h with
  | nil => intro i y hy; simp at hy
  | cons h hs ih =>
    intro i z hz
    cases i with
    | zero => simp at hz; subst hz; exact ⟨_, rfl, h⟩
    | succ i => simpa using ih i z (by simpa using hz)
theorem Cvs.more {ts us : List (Nat × Tok)} {xs ys : List AV} (h : Cvs us xs ys) (hs : ∃ r, ts.Perm (us ++ r)) : Cvs ts xs ys := by
  induction h with
  | nil => exact .nil
  | cons h _ ih => exact .cons (h.more hs) ih
theorem Cv.agg {ts : List (Nat × Tok)} {cs ds : List AV} (h : Cvs ts cs ds) : Cv ts (.agg cs) (.agg ds) := fun S S' R w hh hS hF v hv => by
  cases hv with
  | agg hl hf =>
    refine .agg (by rw [hl, h.len]) fun i y hy => ?_
    obtain ⟨x, hx, hc⟩ := h.get i y hy
    exact hc S S' R w hh hS hF _ (hf i x hx)
theorem Cv.tup {ts : List (Nat × Tok)} {cs ds : List AV} (h : Cvs ts cs ds) : Cv ts (.tup cs) (.tup ds) := fun S S' R w hh hS hF v hv => by
  cases hv with
  | tup hl hf =>
    refine .tup (by rw [hl, h.len]) fun i y hy => ?_
    obtain ⟨x, hx, hc⟩ := h.get i y hy
    exact hc S S' R w hh hS hF _ (hf i x hx)

/-- Cells that may stand in rows. -/
def onesL (xs : List AV) : Prop := ∀ x, x ∈ xs → x.one = true
/-- Rows' elements, one by one; the new ones fit cells too. -/
inductive Cvr (ts : List (Nat × Tok)) : List (List AV) → List (List AV) → Prop
  | nil : Cvr ts [] []
  | cons {x y : List AV} {xs ys : List (List AV)} (h : Cvs ts x y) (h1 : onesL y) (hs : Cvr ts xs ys) : Cvr ts (x :: xs) (y :: ys)
theorem Cvr.len {ts : List (Nat × Tok)} {xs ys : List (List AV)} (h : Cvr ts xs ys) : ys.length = xs.length := by
  induction h with
  | nil => rfl
  | cons _ _ _ ih => simp [ih]
theorem Cvr.get {ts : List (Nat × Tok)} {xs ys : List (List AV)} (h : Cvr ts xs ys) : ∀ (i : Nat) (y : List AV), ys[i]? = some y → ∃ x, xs[i]? = some x ∧ Cvs ts x y ∧ onesL y := by
  induction h with
  | nil => intro i y hy; simp at hy
  | cons h h1 hs ih =>
    intro i z hz
    cases i with
    | zero => simp at hz; subst hz; exact ⟨_, rfl, h, h1⟩
    | succ i => simpa using ih i z (by simpa using hz)
theorem Cvr.map {ts : List (Nat × Tok)} {α : Type} {f g : α → List AV} : ∀ (l : List α), (∀ x, x ∈ l → Cvs ts (f x) (g x) ∧ onesL (g x)) → Cvr ts (l.map f) (l.map g)
  | [], _ => .nil
  | x :: l, h => .cons (h x List.mem_cons_self).1 (h x List.mem_cons_self).2 (Cvr.map l fun y hy => h y (List.mem_cons_of_mem _ hy))
theorem Cvr.refl {ts : List (Nat × Tok)} : ∀ {xs : List (List AV)}, (∀ x, x ∈ xs → onesL x) → Cvr ts xs xs
  | [], _ => .nil
  | _ :: _, h => .cons .refl (h _ List.mem_cons_self) (Cvr.refl fun y hy => h y (List.mem_cons_of_mem _ hy))
theorem Cvr.append {ts : List (Nat × Tok)} {xs ys us vs : List (List AV)} (h : Cvr ts xs ys) (h' : Cvr ts us vs) : Cvr ts (xs ++ us) (ys ++ vs) := by
  induction h with
  | nil => exact h'
  | cons h h1 _ ih => exact .cons h h1 ih
theorem Cv.sl {ts : List (Nat × Tok)} {k n : Nat} {xs ys : List (List AV)} (h : Cvr ts xs ys) : Cv ts (.sl k xs n) (.sl k ys n) := fun S S' R w hh hS hF v hv => by
  cases hv with
  | sl hn hc hm hk ha h1 hf =>
    rename_i c a F
    refine .sl (F := F) (by rw [h.len]; exact hn) (by rw [h.len]; exact hc) hm (fun x hx => ?_) (fun hne => ?_) (fun x hx y hy => ?_) (fun i x j y hx hy => ?_)
    · obtain ⟨i, hi⟩ := List.getElem?_of_mem hx
      obtain ⟨z, hz, hc, _⟩ := h.get i x hi
      rw [hc.len]
      exact hk z (List.mem_of_getElem? hz)
    · obtain ⟨ad, e, hb, hcell⟩ := ha (fun h0 => hne (by have := h.len; rw [h0] at this; exact List.eq_nil_of_length_eq_zero this))
      refine ⟨ad, e, hb, fun i x j y hx hy => ?_⟩
      obtain ⟨z, hz, hc, _⟩ := h.get i x hx
      obtain ⟨u, hu, _⟩ := hc.get j y hy
      exact hcell i z j u hz hu
    · obtain ⟨i, hi⟩ := List.getElem?_of_mem hx
      obtain ⟨z, hz, hc, ho⟩ := h.get i x hi
      exact ho y hy
    · obtain ⟨z, hz, hc, _⟩ := h.get i x hx
      obtain ⟨u, hu, hcv⟩ := hc.get j y hy
      exact hcv S S' R w hh hS hF _ (hf i z j u hz hu)
theorem Cv.ip {ts : List (Nat × Tok)} {xs ys : List AV} (h : Cvs ts xs ys) (h1 : onesL ys) : Cv ts (.ip xs) (.ip ys) := fun S S' R w hh hS hF v hv => by
  cases hv with
  | ip hS2 hc h2 hf =>
    rename_i ad F
    refine .ip (F := F) hS2 (fun j y hy => ?_) h1 (fun j y hy => ?_)
    · obtain ⟨x, hx, _⟩ := h.get j y hy
      exact hc j x hx
    · obtain ⟨x, hx, hcv⟩ := h.get j y hy
      exact hcv S S' R w hh hS hF _ (hf j x hx)
/-- A row of one's own with all that it holds. -/
theorem Cv.ownr {ts r : List (Nat × Tok)} {l n k : Nat} {e : TypeId} {xs ys : List (List AV)} (ht : Take ts l (.row e k xs) r) (hn : n ≤ xs.length) (h : Cvr ts xs ys) : Cv ts (.own l 0 n) (.sl k ys n) := (Cv.own0 ht hn).trans (.sl h)
theorem Cv.ptrr {ts r : List (Nat × Tok)} {l i k : Nat} {e : TypeId} {xs : List (List AV)} {cs ds : List AV} (ht : Take ts l (.row e k xs) r) (hc : xs[i]? = some cs) (h : Cvs ts cs ds) (h1 : onesL ds) : Cv ts (.ptr l i 0) (.ip ds) := (Cv.ptr0 ht hc).trans (.ip h h1)

section
variable {P : Program}
/-- Results of one's own that nobody will write. -/
theorem fn_cv {f : FuncId} {us : List (Nat × Tok)} {args : List AV} {Post Post' : List (Nat × Tok) → AV → Prop} (h : Fn P f us args Post) (hc : ∀ ts r, Post ts r → ∃ ts1 ts2 r', ts.Perm (ts1 ++ ts2) ∧ Cv ts1 r r' ∧ Post' ts2 r') : Fn P f us args Post' := by
  refine ⟨fun S R w vs hh hr => (h.h S R w vs hh hr).mono ?_⟩
  rintro en w' ⟨v, r, S', R', ts', he, hp, hh', hrep, o⟩
  obtain ⟨ts1, ts2, r', hperm, hcv, hp'⟩ := hc ts' r hp
  have ha : Holds S' R' w' (ts1 ++ ts2) := hh'.sub ⟨[], by simpa using hperm⟩
  have h1 : Holds S' R' w' ts1 := ha.sub ⟨ts2, .refl _⟩
  have h2 : Holds S' R' w' ts2 := ha.sub ⟨ts1, List.perm_append_comm⟩
  have hap := List.pairwise_append.1 ha.apart
  have hin1 : ∀ p, p ∈ ts1 → p ∈ ts' := fun p hp => hperm.mem_iff.2 (List.mem_append_left _ hp)
  have hin2 : ∀ p, p ∈ ts2 → p ∈ ts' := fun p hp => hperm.mem_iff.2 (List.mem_append_right _ hp)
  let S'' : Nat → Prop := fun b => S' b ∨ Foot R' ts1 b
  refine ⟨v, r', S'', R', ts2, he, hp', ⟨hh'.top, hap.2.1, fun l t hm => (h2.tok l t hm).mono (fun _ h => .inl h) (fun _ _ h => h) (fun _ _ => rfl) (fun _ _ => rfl), ?_, ?_⟩, hcv S' S'' R' w' h1 (fun _ h => .inl h) (fun g hg => .inr hg) v (hrep.mono (fun _ h => .inl h) (fun _ _ h => h) (fun _ _ => rfl)), ?_⟩
  · rintro g ⟨l, t, hm, hg⟩ (hb | ⟨l', t', hm', hg'⟩)
    · exact h2.notS g ⟨l, t, hm, hg⟩ hb
    · exact (hap.2.2 _ hm' _ hm).2 g hg' hg
  · rintro b (hb | ⟨l, t, hm, hg⟩)
    · exact hh'.low b hb
    · exact (h1.tok l t hm).lt hg
  · refine ⟨o.os, o.tape, o.output, o.size, o.block, fun b hb => .inl (o.S0 b hb), ?_, o.R0, fun g ⟨l, t, hm, hg⟩ => o.foot g ⟨l, t, hin2 _ hm, hg⟩, fun l t hm => o.keys l t (hin2 _ hm)⟩
    rintro b (hb | ⟨l, t, hm, hg⟩)
    · exact o.S1 b hb
    · exact .inr (o.foot b ⟨l, t, hin1 _ hm, hg⟩)
theorem pfn_cv {f : FuncId} {args : List AV} {Post : List (Nat × Tok) → AV → Prop} {x : AV} (h : Fn P f [] args Post) (hc : ∀ ts r, Post ts r → Cv ts r x) : PFn P f args x :=
  fn_cv h fun ts r hp => ⟨ts, [], x, by simp, hc ts r hp, rfl⟩

variable {n : Nat} {ro : Option Nat} {G : CtxR P n ro} {K : Kont} {st : St}
theorem RelAt.cv {S : Nat → Prop} {R : Lab} {a : Act} {w : World} (hr : RelAt G S R st a w) (d : Nat) {us rs : List (Nat × Tok)} {x y : AV} (hd : look st.sl d = some x) (ht : Takes st.toks us rs) (hcv : Cv us x y) : RelAt G (fun b => S b ∨ Foot R us b) R ⟨(d, y) :: st.sl, rs⟩ a w := by
  have hperm := ht.perm
  have ha : Holds S R w (us ++ rs) := hr.holds.sub ⟨[], by simpa using hperm⟩
  have h1 : Holds S R w us := ha.sub ⟨rs, .refl _⟩
  have h2 : Holds S R w rs := ha.sub ⟨us, List.perm_append_comm⟩
  have hap := List.pairwise_append.1 ha.apart
  have hin1 : ∀ p, p ∈ us → p ∈ st.toks := fun p hp => hperm.mem_iff.2 (List.mem_append_left _ hp)
  have hin2 : ∀ p, p ∈ rs → p ∈ st.toks := fun p hp => hperm.mem_iff.2 (List.mem_append_right _ hp)
  have hmono : ∀ {y : AV} {u : Value}, RepV S R w y u → RepV (fun b => S b ∨ Foot R us b) R w y u := fun h => h.mono (fun _ h => .inl h) (fun _ _ h => h) (fun _ _ => rfl)
  refine ⟨⟨hr.holds.top, hap.2.1, fun l t hm => (h2.tok l t hm).mono (fun _ h => .inl h) (fun _ _ h => h) (fun _ _ => rfl) (fun _ _ => rfl), ?_, ?_⟩, ?_, ?_, hr.defers, hr.size⟩
  · rintro g ⟨l, t, hm, hg⟩ (hb | ⟨l', t', hm', hg'⟩)
    · exact h2.notS g ⟨l, t, hm, hg⟩ hb
    · exact (hap.2.2 _ hm' _ hm).2 g hg' hg
  · rintro b (hb | ⟨l, t, hm, hg⟩)
    · exact hr.holds.low b hb
    · exact (h1.tok l t hm).lt hg
  · intro d' z hx
    simp only [look] at hx
    by_cases hdd : d = d'
    · subst hdd
      rw [Nat.beq_refl] at hx
      cases hx
      exact hcv S _ R w h1 (fun _ h => .inl h) (fun g hg => .inr hg) _ (hmono (hr.slots d _ hd))
    · rw [beq_of_ne hdd] at hx
      exact hmono (hr.slots d' z hx)
  · have o := hr.out
    refine ⟨o.os, o.tape, o.output, o.size, o.block, fun b hb => .inl (o.S0 b hb), ?_, o.R0, fun g ⟨l, t, hm, hg⟩ => o.foot g ⟨l, t, hin2 _ hm, hg⟩, fun l t hm => o.keys l t (hin2 _ hm)⟩
    rintro b (hb | ⟨l, t, hm, hg⟩)
    · exact o.S1 b hb
    · exact .inr (o.foot b ⟨l, t, hin1 _ hm, hg⟩)
/-- What slot d holds is no longer written, nor what it reaches: us. -/
theorem aw_cv {c : Code} (d : Nat) {us rs : List (Nat × Tok)} {x y : AV} (hd : look st.sl d = some x) (ht : Takes st.toks us rs) (hcv : Cv us x y) (h : AW G c ⟨(d, y) :: st.sl, rs⟩ K) : AW G c st K :=
  ⟨fun a w ⟨S, R, hr⟩ => h.h a w ⟨_, R, hr.cv d hd ht hcv⟩⟩
theorem awo_cv {ops : Array Oper} {l : List Oper} (d : Nat) {us rs : List (Nat × Tok)} {x y : AV} (hd : look st.sl d = some x) (ht : Takes st.toks us rs) (hcv : Cv us x y) (h : AWo G ops l ⟨(d, y) :: st.sl, rs⟩ K) : AWo G ops l st K :=
  ⟨fun a w ⟨S, R, hr⟩ => h.h a w ⟨_, R, hr.cv d hd ht hcv⟩⟩
theorem ar_cv {l rest : List Oper} {sl : List (Nat × AV)} {ts : List (Nat × Tok)} (d : Nat) {us rs : List (Nat × Tok)} {x y : AV} (hd : look sl d = some x) (ht : Takes ts us rs) (hcv : Cv us x y) (h : AR G l 0 rest ⟨(d, y) :: sl, rs⟩ K) : AR G l 0 rest ⟨sl, ts⟩ K :=
  ar_of (awo_cv d hd ht hcv h.awo)
theorem go_cv {e : Exit} {sl : List (Nat × AV)} {ts : List (Nat × Tok)} {Q : Exit → St → Prop} (d : Nat) {us rs : List (Nat × Tok)} {x y : AV} (hd : look sl d = some x) (ht : Takes ts us rs) (hcv : Cv us x y) (h : AW G .skip ⟨(d, y) :: sl, rs⟩ K) : AW G .skip ⟨sl, ts⟩ K :=
  aw_cv d hd ht hcv h
end

/-! ### What hangs on no memory that is lent -/
inductive AVFree : AV → Prop
  | val (v : Value) : AVFree (.val v)
  | dead : AVFree .dead
  | agg {cs : List AV} (h : ∀ x, x ∈ cs → AVFree x) : AVFree (.agg cs)
  | tup {cs : List AV} (h : ∀ x, x ∈ cs → AVFree x) : AVFree (.tup cs)
  | ptr (l i j : Nat) : AVFree (.ptr l i j)
  | own (l off n : Nat) : AVFree (.own l off n)
  | mref (l : Nat) : AVFree (.mref l)
  | fn (f : FuncId) : AVFree (.fn f [])
inductive TokFree : Tok → Prop
  | row {e : TypeId} {k : Nat} {xs : List (List AV)} (h : ∀ x, x ∈ xs → ∀ y, y ∈ x → AVFree y) : TokFree (.row e k xs)
  | map {es : List (AV × AV)} (h : ∀ p, p ∈ es → AVFree p.1 ∧ AVFree p.2) : TokFree (.map es)
theorem AVFree.rep {S S' : Nat → Prop} {R : Lab} {w : World} {x : AV} (hx : AVFree x) : ∀ {v : Value}, RepV S R w x v → RepV S' R w x v := by
  induction hx with
  | val u => intro v h; have := rep_val h; subst this; exact .val _
  | dead => intro v h; exact .dead _
  | agg _ ih => intro v h; cases h with | agg hl hf => exact .agg hl fun i x hx => ih x (List.mem_of_getElem? hx) (hf i x hx)
  | tup _ ih => intro v h; cases h with | tup hl hf => exact .tup hl fun i x hx => ih x (List.mem_of_getElem? hx) (hf i x hx)
  | ptr => intro v h; exact ptr_rep h
  | own => intro v h; exact own_rep h
  | mref => intro v h; cases h with | mref h => exact .mref h
  | fn => intro v h; cases h with | fn hl hf => exact .fn hl fun i x hx => by simp at hx
theorem TokFree.holds {S S' : Nat → Prop} {R : Lab} {w : World} {l : Nat} {t : Tok} (hf : TokFree t) (h : TokHolds S R w l t) : TokHolds S' R w l t := by
  unfold TokHolds at h ⊢
  split at h
  · rename_i e; (try rw [e]); exact h
  · cases hf
  · rename_i q ty k xs e
    (try rw [e])
    obtain ⟨hk, cur, fr, hh, hfr, hs, hb, hm, hr⟩ := h
    cases hf with
    | row hf =>
      refine ⟨hk, cur, fr, hh, hfr, hs, hb, hm, fun i x hx => ⟨(hr i x hx).1, fun j y hy => ?_⟩⟩
      obtain ⟨h1, u, hu, hrep⟩ := (hr i x hx).2 j y hy
      exact ⟨h1, u, hu, (hf x (List.mem_of_getElem? hx) y (List.mem_of_getElem? hy)).rep hrep⟩
  · rename_i q es e
    (try rw [e])
    obtain ⟨ents, clock, hh, hs, hr⟩ := h
    cases hf with
    | map hf =>
      refine ⟨ents, clock, hh, hs, fun i p hp => ?_⟩
      obtain ⟨m, hm, h1, h2⟩ := hr i p hp
      have := hf p (List.mem_of_getElem? hp)
      exact ⟨m, hm, this.1.rep h1, this.2.rep h2⟩
  · rename_i e; (try rw [e]); exact h
  · exact h.elim

section
variable {P : Program} {st : St} {dst : Option Tmp} {ty : TypeId} {pos : String} {after : Array Edge} {g : Option (Nat × Bool)}
/-- Any call: it takes the tokens us; what else the state holds is lent. -/
theorem effr_callL {c : Operand} {xs : List Operand} {tys : Array TypeId} {f : FuncId} {ys zs : List AV} {us : List (Nat × Tok)} {Post : List (Nat × Tok) → AV → Prop} [Ent P f] (hF : Fn P f us zs Post) (hfree : ∀ ts r, Post ts r → AVFree r ∧ ∀ p, p ∈ ts → TokFree p.2) (hc : st.get c = some (.fn f [])) (hx : gets st xs = some ys) (hb : Cvs st.toks ys zs) :
    OpEffR P ⟨dst, .call ⟨.value c, xs.toArray, tys⟩, ty, pos, after, g⟩ st us Post := by
  refine ⟨?_⟩
  intro S R a w hh ho next Q hk
  obtain ⟨vs, hv, hcap⟩ := rep_fn (ho c (by simp [Op.operands, Call.operands]) _ hc)
  have hargs := gets_reps (S := S) (R := R) (w := w) (a := a) hx (fun z hz => ho z (by simp [Op.operands, Call.operands, hz]))
  have hvs : vs.toList = [] := List.eq_nil_of_length_eq_zero (by simpa using hcap.1)
  have hap := List.pairwise_append.1 hh.apart
  have hrd : Holds S R w st.toks := hh.sub ⟨us, List.perm_append_comm⟩
  have hus : Holds S R w us := hh.sub ⟨st.toks, .refl _⟩
  unfold Oper.wp
  rw [run_call hv]
  rw [Oper.upon_enter]
  let S' : Nat → Prop := fun b => S b ∨ Foot R st.toks b
  have hh' : Holds S' R w us := by
    refine ⟨hh.top, hap.1, fun l t hm => (hus.tok l t hm).mono (fun _ h => .inl h) (fun _ _ h => h) (fun _ _ => rfl) (fun _ _ => rfl), ?_, ?_⟩
    · rintro b ⟨l, t, hm, hg⟩ (hb | ⟨l', t', hm', hg'⟩)
      · exact hus.notS b ⟨l, t, hm, hg⟩ hb
      · exact (hap.2.2 _ hm _ hm').2 b hg hg'
    · rintro b (hb | ⟨l, t, hm, hg⟩)
      · exact hh.low b hb
      · exact (hrd.tok l t hm).lt hg
  have hreps : Reps S' R w zs ((xs.map a.eval) ++ vs.toList) := by
    rw [hvs, List.append_nil]
    refine ⟨by rw [hargs.1, hb.len], fun i y hy => ?_⟩
    obtain ⟨x, hxx, hcv⟩ := hb.get i y hy
    exact hcv S S' R w hrd (fun _ h => .inl h) (fun g hg => .inr hg) _ ((hargs.2 i x hxx).mono (fun _ h => .inl h) (fun _ _ h => h) (fun _ _ => rfl))
  refine (hF.h S' R w _ hh' hreps).mono ?_
  rintro e w' ⟨v, r, S2, R2, ts', rfl, hpost, h2, hrep, o⟩
  obtain ⟨hfr, hft⟩ := hfree ts' r hpost
  -- S is what stays stable
  refine hk v r S R2 w' ts' hpost ⟨h2.top, h2.apart, fun l t hm => (hft _ hm).holds (h2.tok l t hm), fun g hg hs => ?_, fun b hb => Nat.lt_of_lt_of_le (hh.low b hb) o.size⟩ (hfr.rep hrep) ⟨o.os, o.tape, o.output, o.size, o.block, fun _ h => h, fun _ h => .inl h, o.R0, o.foot, o.keys⟩
  exact h2.notS g hg (o.S0 g (.inl hs))
end

section
variable {P : Program} {n : Nat} {ro : Option Nat} {G : CtxR P n ro} {l : List Oper} {sl : List (Nat × AV)} {ts : List (Nat × Tok)} {K : Kont} {d : Nat} {ty : TypeId} {pos : String} {after : Array Edge} {bs : List Bool} {rs0 : List (Nat × Tok)} {q : Nat} {r : List Nat} {rest : List Oper}
theorem awo_effr {ops : Array Oper} {st : St} {dst : Option Tmp} {op : Op} {us rs : List (Nat × Tok)} {Post : List (Nat × Tok) → AV → Prop}
    (he : OpEffR P ⟨dst, op, ty, pos, after, none⟩ ⟨st.sl, rs⟩ us Post) (ht : Takes st.toks us rs) (hd : dstOk dst n = true) (h : ∀ ts' r, Post ts' r → AWo G ops rest ⟨putSl st.sl dst r, ts' ++ rs⟩ K) : AWo G ops (⟨dst, op, ty, pos, after, none⟩ :: rest) st K := by
  refine ⟨?_⟩
  rintro a w ⟨S, R, hr⟩
  refine wpListIn_plain rfl fun k hk => ?_
  refine oper_in (he.h S R a w (hr.holds.sub ⟨[], by simpa using ht.perm⟩) (opsAt (st := ⟨st.sl, rs⟩) hr.slots op) _ _ fun v r S' R' w' ts' hpost hh' hrep o => ⟨hk _ _ ((h ts' r hpost).h _ _ ?_), put_defers ..⟩)
  have hf := hr.frame ht.perm hh' o
  exact ⟨S', R', hf.holds, hf.slots.put hrep (fun d e => by rw [hr.size]; exact dstOk_lt hd d e), hf.out, (put_defers ..).trans hr.defers, (put_size ..).trans hr.size⟩
theorem ar_callL {c : Operand} {xs : List Operand} {tys : Array TypeId} {f : FuncId} {ys zs : List AV} {us rs : List (Nat × Tok)} {Post : List (Nat × Tok) → AV → Prop} [Ent P f] (hF : Fn P f us zs Post) (hc : St.get ⟨sl, rs⟩ c = some (.fn f [])) (hx : gets ⟨sl, rs⟩ xs = some ys) (ht : Takes ts us rs) (hb : Cvs rs ys zs) (hfree : ∀ ts r, Post ts r → AVFree r ∧ ∀ p, p ∈ ts → TokFree p.2) (hd : Nat.blt d n = true)
    (h : ∀ ts' r, Post ts' r → AR G l 0 rest ⟨(d, r) :: sl, ts' ++ rs⟩ K) : AR G l 0 (⟨some d, .call ⟨.value c, xs.toArray, tys⟩, ty, pos, after, none⟩ :: rest) ⟨sl, ts⟩ K :=
  ar_of (awo_effr (effr_callL hF hfree hc hx hb) ht hd fun ts' r hp => (h ts' r hp).awo)
theorem tl_callL {c : Operand} {xs : List Operand} {tys : Array TypeId} {f : FuncId} {ys zs : List AV} {us rs : List (Nat × Tok)} {Post : List (Nat × Tok) → AV → Prop} [Ent P f] (hF : Fn P f us zs Post) (ho : l[q]? = some ⟨some d, .call ⟨.value c, xs.toArray, tys⟩, ty, pos, after, none⟩) (hbs : bs.getD q false = false) (hna : isAl l q = false) (hc : St.get ⟨sl, rs0⟩ c = some (.fn f [])) (hx : gets ⟨sl, rs0⟩ xs = some ys) (ht : Takes ts us rs) (hb : Cvs rs0 ys zs) (hfree : ∀ ts r, Post ts r → AVFree r ∧ ∀ p, p ∈ ts → TokFree p.2) (hd : Nat.blt d n = true)
    (h : ∀ ts' x, Post ts' x → TL G l bs rs0 K r ((d, x) :: sl) (ts' ++ rs)) : TL G l bs rs0 K (q :: r) sl ts :=
  .effr ho hbs hna (.inl rfl) ht (effr_callL hF hfree hc hx hb) hd fun ts' y hp => h ts' y hp

/-- A call that only reckons, with what is one's own lent: its answer hangs on none of it. -/
theorem ev_callL {st : St} {dst : Option Tmp} {g : Option (Nat × Bool)} {c : Operand} {xs : List Operand} {tys : Array TypeId} {f : FuncId} {ys zs : List AV} {x : AV} [Ent P f] (hF : PFn P f zs x) (hc : st.get c = some (.fn f [])) (hx : gets st xs = some ys) (hb : Cvs st.toks ys zs) (hp : AVFree x) : OpEv P ⟨dst, .call ⟨.value c, xs.toArray, tys⟩, ty, pos, after, g⟩ st x := by
  refine ⟨?_⟩
  intro S R a w hh ho next Q hk
  refine (effr_callL (st := st) (us := []) (Fn.pure hF) (by rintro ts r ⟨rfl, rfl⟩; exact ⟨hp, by simp⟩) hc hx hb).h S R a w (by simpa using hh) ho next Q ?_
  rintro v r S' R' w' ts' ⟨rfl, rfl⟩ h2 hrep o
  have hno : ∀ (R : Lab) (g : Nat), ¬ Foot R [] g := by rintro R g ⟨_, _, h, _⟩; simp at h
  refine hk v S' R' w' ⟨⟨o.os, o.tape, o.output, o.size, fun b hb => o.block b hb (hno _ b)⟩, o.S0, fun b hb => ?_, o.R0, h2.top⟩ hrep
  rcases o.S1 b hb with h1 | h1 | h1
  · exact .inl h1
  · exact (hno _ b h1).elim
  · exact .inr ⟨h1, h2.low b hb⟩
end

end Go.Proofs.YtphkfejckafamaaDoorA

/- Tokens in bundles. -/
set_option linter.unusedVariables false
namespace Go.Proofs.YtphkfejckafamaaDoorA
open Go.RowKit

theorem Take.right {a b r : List (Nat × Tok)} {l : Nat} {t : Tok} (h : Take b l t r) : Take (a ++ b) l t (a ++ r) := by
  induction a with
  | nil => exact h
  | cons p a ih => exact .tail ih
theorem takes_blk {a b : List (Nat × Tok)} : Takes (a ++ b) a b := by
  induction a with
  | nil => exact .nil
  | cons p a ih => exact .cons .head ih
theorem takes_all {a : List (Nat × Tok)} : Takes a a [] := by
  have := takes_blk (a := a) (b := [])
  rwa [List.append_nil] at this
theorem takes_right {a b us rs : List (Nat × Tok)} (h : Takes b us rs) : Takes (a ++ b) us (a ++ rs) := by
  induction h with
  | nil => exact .nil
  | cons h _ ih => exact .cons h.right ih
theorem takes_skip {p : Nat × Tok} {b us rs : List (Nat × Tok)} (h : Takes b us rs) : Takes (p :: b) us (p :: rs) := by
  induction h with
  | nil => exact .nil
  | cons h _ ih => exact .cons (.tail h) ih
theorem takes_app {ts us r1 vs r2 : List (Nat × Tok)} (h : Takes ts us r1) (h' : Takes r1 vs r2) : Takes ts (us ++ vs) r2 := by
  induction h with
  | nil => exact h'
  | cons h _ ih => exact .cons h (ih h')
theorem takes_cons {ts us r1 r2 : List (Nat × Tok)} {l : Nat} {t : Tok} (h : Take ts l t r1) (h' : Takes r1 us r2) : Takes ts ((l, t) :: us) r2 := .cons h h'

section
variable {P : Program} {n : Nat} {ro : Option Nat} {G : CtxR P n ro} {l : List Oper} {sl : List (Nat × AV)} {ts : List (Nat × Tok)} {K : Kont} {d : Nat} {ty : TypeId} {pos : String} {after : Array Edge} {bs : List Bool} {rs0 : List (Nat × Tok)} {q : Nat} {r : List Nat} {rest : List Oper}
theorem ar_callA {c : Operand} {xs : List Operand} {tys : Array TypeId} {f : FuncId} {ys zs : List AV} {us rs : List (Nat × Tok)} {Post : List (Nat × Tok) → AV → Prop} [Ent P f] (hF : Fn P f us zs Post) (hc : St.get ⟨sl, ts⟩ c = some (.fn f [])) (hx : gets ⟨sl, ts⟩ xs = some ys) (hl : Les ys zs) (ht : Takes ts us rs) (hd : Nat.blt d n = true)
    (h : ∀ ts' r, Post ts' r → AR G l 0 rest ⟨(d, r) :: sl, ts' ++ rs⟩ K) : AR G l 0 (⟨some d, .call ⟨.value c, xs.toArray, tys⟩, ty, pos, after, none⟩ :: rest) ⟨sl, ts⟩ K :=
  ar_call (fn_args hF hl) hc hx ht hd h
theorem tl_callA {c : Operand} {xs : List Operand} {tys : Array TypeId} {f : FuncId} {ys zs : List AV} {us rs : List (Nat × Tok)} {Post : List (Nat × Tok) → AV → Prop} [Ent P f] (hF : Fn P f us zs Post) (ho : l[q]? = some ⟨some d, .call ⟨.value c, xs.toArray, tys⟩, ty, pos, after, none⟩) (hb : bs.getD q false = false) (hna : isAl l q = false) (hc : St.get ⟨sl, []⟩ c = some (.fn f [])) (hx : gets ⟨sl, []⟩ xs = some ys) (hl : Les ys zs) (ht : Takes ts us rs) (hd : Nat.blt d n = true)
    (h : ∀ ts' x, Post ts' x → TL G l bs rs0 K r ((d, x) :: sl) (ts' ++ rs)) : TL G l bs rs0 K (q :: r) sl ts :=
  tl_call (fn_args hF hl) ho hb hna hc hx ht hd h
theorem ev_callA {st : St} {dst : Option Tmp} {g : Option (Nat × Bool)} {c : Operand} {xs : List Operand} {tys : Array TypeId} {f : FuncId} {ys zs : List AV} {x : AV} [Ent P f] (hF : PFn P f zs x) (hc : st.get c = some (.fn f [])) (hx : gets st xs = some ys) (hl : Les ys zs) : OpEv P ⟨dst, .call ⟨.value c, xs.toArray, tys⟩, ty, pos, after, g⟩ st x :=
  ev_call hc hx (by rw [List.append_nil]; exact fn_args hF hl)
end
end Go.Proofs.YtphkfejckafamaaDoorA

/- From a statement's reading to values that bear their contents; what a law's contract gives the statement. -/
set_option linter.unusedVariables false
namespace Go.Proofs.YtphkfejckafamaaDoorA
open Go.RowKit Go.ChangeShapes

mutual
def bulk {H : Type} : DataW H → Nat
  | .lit (.string bytes) => bytes.length + 1
  | .lit _ => 1
  | .nil => 1
  | .ptr d => bulk d + 1
  | .slice elems spare => bulkAll elems + bulkAll spare + 1
  | .agg parts => bulkAll parts + 1
  | .iface _ d => bulk d + 1
  | .map entries => bulkEntries entries + 1
  | .held _ => 1
def bulkAll {H : Type} : List (DataW H) → Nat
  | [] => 0
  | d :: r => bulk d + bulkAll r
def bulkEntries {H : Type} : List (Lit × DataW H) → Nat
  | [] => 0
  | x :: r => bulkEntry x + bulkEntries r
def bulkEntry {H : Type} : Lit × DataW H → Nat
  | (.string bytes, d) => bytes.length + bulk d + 1
  | (_, d) => bulk d + 1
end

/-- Cells that read as d are those of some a. -/
def Rd (P : Program) (t : TypeId) {α : Type} (cells : α → List AV) (sz : α → Nat) (inv : α → Prop) : Prop :=
  ∀ (H : Type) (enc : TypeId × Value → H) (w : World) (n : Nat) (cs : List Value) (d : DataW H) (ps : List MemPlace), DataW.trod enc P w 0 (fun _ => true) true n t cs = some (d, ps) →
    ∃ a : α, sz a ≤ bulk d ∧ inv a ∧ cs.length = (cells a).length ∧ onesL (cells a) ∧ ∀ (S : Nat → Prop) (R : Lab), (∀ b, b < w.heap.size → S b) → ∀ (i : Nat) (x : AV), (cells a)[i]? = some x → RepV S R w x (cs.getD i undef)

theorem rep_one {S : Nat → Prop} {R : Lab} {w : World} {y : AV} {v : Value} (h : RepV S R w y v) (i : Nat) (x : AV) (hx : [y][i]? = some x) : RepV S R w x ([v].getD i undef) := by
  cases i with
  | zero => simp at hx; subst hx; exact h
  | succ i => simp at hx
theorem ones_one {y : AV} (h : y.one = true) : onesL [y] := by
  intro x hx; simp at hx; subst hx; exact h

variable {P : Program}
theorem rd_int {t : TypeId} {k : IntKind} (hu : P.underlying t = some (.int k)) : Rd P t (fun n : Int => [.val (.int k n)]) (fun _ => 1) (fun n => (Lit.int k n).wf = true) := by
  intro H enc w n cs d ps h
  cases n with
  | zero => simp [DataW.trod] at h
  | succ n =>
    unfold DataW.trod at h
    rw [hu] at h
    split at h
    all_goals first
      | (exfalso; simp_all; done)
      | skip
    all_goals first
      | (rename_i heq; simp at heq; done)
      | skip
    rename_i k0 k' m heq
    cases heq
    split at h
    · rename_i hw
      obtain ⟨rfl, hw⟩ := hw
      simp only [Option.some.injEq, Prod.mk.injEq] at h
      obtain ⟨rfl, rfl⟩ := h
      exact ⟨m, by simp [bulk], hw, rfl, ones_one rfl, fun S R hS i x hx => rep_one (.val _) i x hx⟩
    · cases h
theorem rd_bool {t : TypeId} (hu : P.underlying t = some .bool) : Rd P t (fun b : Bool => [.val (.bool b)]) (fun _ => 1) (fun _ => True) := by
  intro H enc w n cs d ps h
  cases n with
  | zero => simp [DataW.trod] at h
  | succ n =>
    unfold DataW.trod at h
    rw [hu] at h
    split at h
    all_goals first
      | (exfalso; simp_all; done)
      | skip
    all_goals first
      | (rename_i heq; simp at heq; done)
      | skip
    rename_i b heq
    simp only [Option.some.injEq, Prod.mk.injEq] at h
    obtain ⟨rfl, rfl⟩ := h
    exact ⟨b, by simp [bulk], trivial, rfl, ones_one rfl, fun S R hS i x hx => rep_one (.val _) i x hx⟩
theorem rd_string {t : TypeId} (hu : P.underlying t = some .string) : Rd P t (fun s : ByteArray => [.val (.string s)]) (fun s => s.size + 1) (fun _ => True) := by
  intro H enc w n cs d ps h
  cases n with
  | zero => simp [DataW.trod] at h
  | succ n =>
    unfold DataW.trod at h
    rw [hu] at h
    split at h
    all_goals first
      | (exfalso; simp_all; done)
      | skip
    all_goals first
      | (rename_i heq; simp at heq; done)
      | skip
    rename_i s heq
    split at h
    · simp only [Option.some.injEq, Prod.mk.injEq] at h
      obtain ⟨rfl, rfl⟩ := h
      exact ⟨s, by simp [bulk], trivial, rfl, ones_one rfl, fun S R hS i x hx => rep_one (.val _) i x hx⟩
    · cases h

theorem bulkAll_sum {H : Type} : ∀ (l : List (DataW H)), bulkAll l = (l.map bulk).sum
  | [] => rfl
  | d :: r => by simp [bulkAll, bulkAll_sum r]

/-- A list, its elements read one by one. -/
theorem each_of {α β : Type} {Q : β → α → Prop} : ∀ (l : List β), (∀ x, x ∈ l → ∃ a, Q x a) → ∃ as : List α, as.length = l.length ∧ ∀ (i : Nat) (x : β), l[i]? = some x → ∃ a, as[i]? = some a ∧ Q x a
  | [], _ => ⟨[], rfl, by simp⟩
  | x :: l, h => by
    obtain ⟨a, ha⟩ := h x List.mem_cons_self
    obtain ⟨as, h1, h2⟩ := each_of l fun y hy => h y (List.mem_cons_of_mem _ hy)
    refine ⟨a :: as, by simp [h1], fun i y hy => ?_⟩
    cases i with
    | zero => simp at hy; subst hy; exact ⟨a, rfl, ha⟩
    | succ i => simpa using h2 i y (by simpa using hy)
theorem sum_le {α β : Type} {f : α → Nat} {g : β → Nat} : ∀ (as : List α) (l : List β), as.length = l.length → (∀ (i : Nat) (x : β), l[i]? = some x → ∃ a, as[i]? = some a ∧ f a ≤ g x) → (as.map f).sum ≤ (l.map g).sum
  | [], [], _, _ => by simp
  | a :: as, x :: l, hl, h => by
    obtain ⟨a', h1, h2⟩ := h 0 x rfl
    simp at h1; subst h1
    have := sum_le as l (by simpa using hl) fun i y hy => by simpa using h (i + 1) y (by simpa using hy)
    simp; omega
  | [], _ :: _, hl, _ => by simp at hl
  | _ :: _, [], hl, _ => by simp at hl

theorem rd_slice {t e : TypeId} {α : Type} {cells : α → List AV} {sz : α → Nat} {inv : α → Prop} {k : Nat} (hu : P.underlying t = some (.slice e)) (he : Rd P e cells sz inv) (hc : P.cellsOf e = k) (hk : ∀ a, (cells a).length = k) (hk0 : 0 < k) :
    Rd P t (fun l : List α => [.sl k (l.map cells) l.length]) (fun l => (l.map sz).sum + 1) (fun l => ∀ x, x ∈ l → inv x) := by
  intro H enc w n cs d ps h
  cases n with
  | zero => simp [DataW.trod] at h
  | succ n =>
    unfold DataW.trod at h
    rw [hu] at h
    split at h <;> try (simp_all; done)
    · rename_i heq
      simp at h
      obtain ⟨rfl, rfl⟩ := h
      refine ⟨[], by simp [bulk], by simp, rfl, ones_one rfl, fun S R hS i x hx => ?_⟩
      refine rep_one ?_ i x hx
      exact .sl (F := fun _ _ => undef) (by simp) (by simp) (by simp [maxLen]) (by simp) (by simp) (by simp) (by simp)
    · rename_i e' a len cap heq
      cases heq
      split at h
      · rename_i hb
        obtain ⟨hb0, hlc, hcm⟩ := hb
        rw [Option.bind_eq_some_iff] at h
        obtain ⟨elems, hel, h⟩ := h
        rw [Option.map_eq_some_iff] at h
        obtain ⟨rest, hrest, h⟩ := h
        simp only [Prod.mk.injEq] at h
        obtain ⟨rfl, rfl⟩ := h
        have hlen : elems.length = len := by simpa using mapM_some_length hel
        -- one element
        have hone : ∀ (i : Nat) (z : DataW H × List MemPlace), elems[i]? = some z → ∃ vs : List Value, w.cells? 0 (a.add (i * k)) k = some vs ∧ DataW.trod enc P w 0 (fun _ => true) true n e vs = some z := by
          intro i z hz
          have hi : i < len := by rw [← hlen]; exact (List.getElem?_eq_some_iff.1 hz).1
          have := mapM_some_get hel i i (by simp [hi])
          rw [hz] at this
          rw [Option.bind_eq_some_iff] at this
          obtain ⟨vs, h1, h2⟩ := this
          rw [hc] at h1
          exact ⟨vs, h1, h2⟩
        obtain ⟨as, hal, has⟩ := each_of (Q := fun (z : Nat × (DataW H × List MemPlace)) (x : α) => sz x ≤ bulk z.2.1 ∧ inv x ∧ onesL (cells x) ∧ ∃ vs : List Value, w.cells? 0 (a.add (z.1 * k)) k = some vs ∧ ∀ (S : Nat → Prop) (R : Lab), (∀ b, b < w.heap.size → S b) → ∀ (i : Nat) (y : AV), (cells x)[i]? = some y → RepV S R w y (vs.getD i undef)) (elems.zipIdx.map fun p => (p.2, p.1)) (by
          rintro ⟨i, z⟩ hz
          obtain ⟨⟨z', i'⟩, hz', e1⟩ := List.mem_map.1 hz
          cases e1
          obtain ⟨vs, h1, h2⟩ := hone i' z' (by simpa using List.mem_zipIdx_iff_getElem?.1 hz')
          obtain ⟨x, q1, q2, q3, q4, q5⟩ := he H enc w n vs z'.1 z'.2 h2
          exact ⟨x, q1, q2, q4, vs, h1, q5⟩)
        have hal' : as.length = elems.length := by simpa using hal
        have has' : ∀ (i : Nat) (z : DataW H × List MemPlace), elems[i]? = some z → ∃ x, as[i]? = some x ∧ sz x ≤ bulk z.1 ∧ inv x ∧ onesL (cells x) ∧ ∃ vs : List Value, w.cells? 0 (a.add (i * k)) k = some vs ∧ ∀ (S : Nat → Prop) (R : Lab), (∀ b, b < w.heap.size → S b) → ∀ (i : Nat) (y : AV), (cells x)[i]? = some y → RepV S R w y (vs.getD i undef) := by
          intro i z hz
          obtain ⟨x, h1, h2⟩ := has i (i, z) (by simp [List.getElem?_zipIdx, hz])
          exact ⟨x, h1, h2⟩
        have hat : ∀ (i : Nat) (x : α), as[i]? = some x → ∃ z, elems[i]? = some z ∧ sz x ≤ bulk z.1 ∧ inv x ∧ onesL (cells x) ∧ ∃ vs : List Value, w.cells? 0 (a.add (i * k)) k = some vs ∧ ∀ (S : Nat → Prop) (R : Lab), (∀ b, b < w.heap.size → S b) → ∀ (i : Nat) (y : AV), (cells x)[i]? = some y → RepV S R w y (vs.getD i undef) := by
          intro i x hx
          have hi : i < elems.length := by rw [← hal']; exact (List.getElem?_eq_some_iff.1 hx).1
          obtain ⟨x', h1, h2⟩ := has' i elems[i] (List.getElem?_eq_getElem hi)
          rw [hx] at h1
          cases h1
          exact ⟨_, List.getElem?_eq_getElem hi, h2⟩
        refine ⟨as, ?_, fun x hx => ?_, rfl, ones_one rfl, fun S R hS i x hx => ?_⟩
        · have := sum_le (f := sz) (g := bulk) as (elems.map (·.1)) (by simpa using hal') (by
            intro i y hy
            rw [List.getElem?_map, Option.map_eq_some_iff] at hy
            obtain ⟨z, hz, rfl⟩ := hy
            obtain ⟨x, h1, h2, _⟩ := has' i z hz
            exact ⟨x, h1, h2⟩)
          simp only [bulk, bulkAll_sum]
          omega
        · obtain ⟨i, hi⟩ := List.getElem?_of_mem hx
          obtain ⟨z, _, _, h3, _⟩ := hat i x hi
          exact h3
        · refine rep_one ?_ i x hx
          refine hal'.trans hlen ▸ ?_
          refine .sl (F := fun i j => (w.cell? (a.add (i * k + j))).getD undef) (by simp) (by simp; omega) hcm (fun y hy => ?_) (fun hne => ⟨a, rfl, hS _ ?_, fun i y j u hy hu => ?_⟩) (fun y hy u hu => ?_) (fun i y j u hy hu => ?_)
          · obtain ⟨x', _, rfl⟩ := List.mem_map.1 hy
            exact hk x'
          · have hpos : 0 < as.length := List.length_pos_iff.2 (fun h0 => hne (by rw [h0]; rfl))
            obtain ⟨z, _, _, _, _, vs, h6, _⟩ := hat 0 as[0] (List.getElem?_eq_getElem hpos)
            have := World.cells?_block h6 hk0
            rwa [add_block] at this
          · rw [List.getElem?_map, Option.map_eq_some_iff] at hy
            obtain ⟨x', hx', rfl⟩ := hy
            obtain ⟨z, _, _, _, _, vs, h6, _⟩ := hat i x' hx'
            obtain ⟨_, h7, h8⟩ := World.cells?_some h6
            have hj : j < k := by rw [← hk x']; exact (List.getElem?_eq_some_iff.1 hu).1
            have h9 := h8 j hj
            rw [Addr.add_add] at h9
            rw [h9, List.getElem?_eq_getElem (by omega)]
            rfl
          · obtain ⟨x', hx', rfl⟩ := List.mem_map.1 hy
            obtain ⟨i, hi⟩ := List.getElem?_of_mem hx'
            obtain ⟨z, _, _, _, h5, _⟩ := hat i x' hi
            exact h5 u hu
          · rw [List.getElem?_map, Option.map_eq_some_iff] at hy
            obtain ⟨x', hx', rfl⟩ := hy
            obtain ⟨z, _, _, _, _, vs, h6, h10⟩ := hat i x' hx'
            obtain ⟨_, h7, h8⟩ := World.cells?_some h6
            have hj : j < k := by rw [← hk x']; exact (List.getElem?_eq_some_iff.1 hu).1
            have h9 := h8 j hj
            rw [Addr.add_add] at h9
            have := h10 S R hS j u hu
            rwa [h9, ← List.getD_eq_getElem?_getD]
      · simp at h
end Go.Proofs.YtphkfejckafamaaDoorA

/- Readings of structs; what a law's contract gives the statement. -/
set_option linter.unusedVariables false
namespace Go.Proofs.YtphkfejckafamaaDoorA
open Go.RowKit Go.ChangeShapes

variable {P : Program}
/-- Fields one behind the other, from off on; they take k cells. -/
def RdF (P : Program) (fs : List Field) (off k : Nat) {α : Type} (cells : α → List AV) (sz : α → Nat) (inv : α → Prop) : Prop :=
  ∀ (H : Type) (enc : TypeId × Value → H) (w : World) (n : Nat) (cs : List Value) (zs : List (DataW H × List MemPlace)), off + k ≤ cs.length →
    (fs.mapM fun f => DataW.trod enc P w 0 (fun _ => true) true n f.type ((cs.drop f.offset).take (P.cellsOf f.type))) = some zs →
    ∃ a : α, sz a ≤ bulkAll (zs.map (·.1)) ∧ inv a ∧ (cells a).length = k ∧ onesL (cells a) ∧ ∀ (S : Nat → Prop) (R : Lab), (∀ b, b < w.heap.size → S b) → ∀ (i : Nat) (x : AV), (cells a)[i]? = some x → RepV S R w x (cs.getD (off + i) undef)
theorem rdf_nil {off : Nat} : RdF P [] off 0 (fun _ : Unit => []) (fun _ => 0) (fun _ => True) := by
  intro H enc w n cs zs hl h
  exact ⟨(), Nat.zero_le _, trivial, rfl, (by intro x hx; cases hx), fun S R hS i x hx => by simp at hx⟩
theorem rdf_cons {f : Field} {fs : List Field} {off k1 k2 : Nat} {α β : Type} {c1 : α → List AV} {s1 : α → Nat} {i1 : α → Prop} {c2 : β → List AV} {s2 : β → Nat} {i2 : β → Prop} (ho : f.offset = off) (hc : P.cellsOf f.type = k1) (h1 : Rd P f.type c1 s1 i1) (h2 : RdF P fs (off + k1) k2 c2 s2 i2) :
    RdF P (f :: fs) off (k1 + k2) (fun p : α × β => c1 p.1 ++ c2 p.2) (fun p => s1 p.1 + s2 p.2) (fun p => i1 p.1 ∧ i2 p.2) := by
  intro H enc w n cs zs hl h
  rw [List.mapM_cons] at h
  simp only [Option.pure_def, Option.bind_eq_bind, Option.bind_eq_some_iff, Option.some.injEq] at h
  obtain ⟨z, hz, zs', hzs, rfl⟩ := h
  rw [ho, hc] at hz
  obtain ⟨a, q1, q2, q3, q4, q5⟩ := h1 H enc w n _ z.1 z.2 hz
  obtain ⟨b, r1, r2, r3, r4, r5⟩ := h2 H enc w n cs zs' (by omega) hzs
  have hk1 : (c1 a).length = k1 := by rw [← q3]; simp; omega
  refine ⟨(a, b), by simp [bulkAll]; omega, ⟨q2, r2⟩, by simp [hk1, r3], ?_, fun S R hS i x hx => ?_⟩
  · intro x hx
    rcases List.mem_append.1 hx with h | h
    · exact q4 x h
    · exact r4 x h
  · replace hx : (c1 a ++ c2 b)[i]? = some x := hx
    rcases Nat.lt_or_ge i k1 with hi | hi
    · rw [List.getElem?_append_left (by omega)] at hx
      have := q5 S R hS i x hx
      rw [List.getD_eq_getElem?_getD, List.getElem?_take_of_lt hi, List.getElem?_drop] at this
      rw [List.getD_eq_getElem?_getD]
      exact this
    · rw [List.getElem?_append_right (by omega), hk1] at hx
      have := r5 S R hS (i - k1) x hx
      rwa [show off + k1 + (i - k1) = off + i by omega] at this
theorem rd_struct {t : TypeId} {fs : Array Field} {k : Nat} {α : Type} {cells : α → List AV} {sz : α → Nat} {inv : α → Prop} (hu : P.underlying t = some (.struct fs)) (hk : P.cellsOf t = k) (h : RdF P fs.toList 0 k cells sz inv) : Rd P t cells sz inv := by
  intro H enc w n cs d ps hd
  cases n with
  | zero => simp [DataW.trod] at hd
  | succ n =>
    unfold DataW.trod at hd
    rw [hu] at hd
    split at hd
    all_goals first
      | (exfalso; simp_all; done)
      | skip
    all_goals first
      | (rename_i heq; simp at heq; done)
      | skip
    rename_i heq
    cases heq
    rename_i cs0 x0 cs1
    split at hd
    · rename_i hlen
      rw [Option.map_eq_some_iff] at hd
      obtain ⟨zs, hzs, e⟩ := hd
      simp only [Prod.mk.injEq] at e
      obtain ⟨rfl, rfl⟩ := e
      obtain ⟨a, q1, q2, q3, q4, q5⟩ := h H enc w n cs0 zs (by omega) hzs
      refine ⟨a, by simp only [bulk]; omega, q2, by omega, q4, fun S R hS i x hx => ?_⟩
      have := q5 S R hS i x hx
      rwa [Nat.zero_add] at this
    · cases hd
theorem rd_map {t : TypeId} {α β : Type} {c1 : α → List AV} {s1 : α → Nat} {i1 : α → Prop} {c2 : β → List AV} {s2 : β → Nat} {i2 : β → Prop} (h : Rd P t c1 s1 i1) (g : α → β) (hc : ∀ a, c2 (g a) = c1 a) (hs : ∀ a, s2 (g a) ≤ s1 a) (hi : ∀ a, i1 a → i2 (g a)) : Rd P t c2 s2 i2 := by
  intro H enc w n cs d ps hd
  obtain ⟨a, q1, q2, q3, q4, q5⟩ := h H enc w n cs d ps hd
  exact ⟨g a, Nat.le_trans (hs a) q1, hi a q2, by rw [hc]; exact q3, by rw [hc]; exact q4, fun S R hS i x hx => q5 S R hS i x (by rwa [← hc])⟩

/-! ### Parameters -/
/-- A parameter's value reads as one of these. -/
def Par (P : Program) (t : TypeId) {α : Type} (av : α → AV) (sz : α → Nat) (inv : α → Prop) : Prop :=
  ∀ (H : Type) (enc : TypeId × Value → H) (w : World) (base : Nat) (v : Value) (d : DataW H) (ps : List MemPlace), Value.okWide P w .any base t v → DataW.Trod enc P w 0 (fun _ => true) true t v d ps →
    ∃ a : α, sz a ≤ bulk d ∧ inv a ∧ ∀ (S : Nat → Prop) (R : Lab), (∀ b, b < w.heap.size → S b) → RepV S R w (av a) v
theorem par_one {t : TypeId} {α : Type} {x : α → AV} {sz : α → Nat} {inv : α → Prop} (h : Rd P t (fun a => [x a]) sz inv) (hv : ∀ (w : World) (base : Nat) (v : Value), Value.okWide P w .any base t v → v.cells.toList = [v]) : Par P t x sz inv := by
  intro H enc w base v d ps hok ⟨n, hn⟩
  rw [hv w base v hok] at hn
  obtain ⟨a, q1, q2, q3, q4, q5⟩ := h H enc w n _ d ps hn
  exact ⟨a, q1, q2, fun S R hS => q5 S R hS 0 (x a) rfl⟩
theorem par_int {t : TypeId} {k : IntKind} (hu : P.underlying t = some (.int k)) : Par P t (fun n : Int => .val (.int k n)) (fun _ => 1) (fun n => (Lit.int k n).wf = true) :=
  par_one (rd_int hu) fun w base v hok => by obtain ⟨n, rfl⟩ := Go.WideShapes.okWide_int hu hok; rfl
theorem par_bool {t : TypeId} (hu : P.underlying t = some .bool) : Par P t (fun b : Bool => .val (.bool b)) (fun _ => 1) (fun _ => True) :=
  par_one (rd_bool hu) fun w base v hok => by obtain ⟨n, rfl⟩ := Go.WideShapes.okWide_bool hu hok; rfl
theorem par_string {t : TypeId} (hu : P.underlying t = some .string) : Par P t (fun s : ByteArray => .val (.string s)) (fun s => s.size + 1) (fun _ => True) :=
  par_one (rd_string hu) fun w base v hok => by obtain ⟨n, rfl⟩ := Go.WideShapes.okWide_string hu hok; rfl
theorem par_slice {t e : TypeId} {α : Type} {cells : α → List AV} {sz : α → Nat} {inv : α → Prop} {k : Nat} (hu : P.underlying t = some (.slice e)) (he : Rd P e cells sz inv) (hc : P.cellsOf e = k) (hk : ∀ a, (cells a).length = k) (hk0 : 0 < k) :
    Par P t (fun l : List α => .sl k (l.map cells) l.length) (fun l => (l.map sz).sum + 1) (fun l => ∀ x, x ∈ l → inv x) :=
  par_one (rd_slice hu he hc hk hk0) fun w base v hok => by obtain ⟨a, n, c, rfl⟩ := Go.WideShapes.okWide_slice hu hok; rfl
theorem par_struct {t : TypeId} {fs : Array Field} {α : Type} {cells : α → List AV} {sz : α → Nat} {inv : α → Prop} (hu : P.underlying t = some (.struct fs)) (h : Rd P t cells sz inv) : Par P t (fun a => .agg (cells a)) sz inv := by
  intro H enc w base v d ps hok ⟨n, hn⟩
  obtain ⟨cs, rfl, hcs⟩ := Go.WideShapes.okWide_struct hu hok
  obtain ⟨a, q1, q2, q3, q4, q5⟩ := h H enc w n _ d ps hn
  have e : (Value.agg cs).cells.toList = cs.toList := rfl
  rw [e] at q3 q5
  refine ⟨a, q1, q2, fun S R hS => .agg (by simpa using q3) fun i x hx => ?_⟩
  have := q5 S R hS i x hx
  rwa [List.getD_eq_getElem?_getD, Array.getElem?_toList, ← Array.getD_eq_getD_getElem?] at this

/-- Parameters, one by one. -/
inductive Pars (P : Program) : List TypeId → (α : Type) → (α → List AV) → (α → Nat) → (α → Prop) → Prop
  | nil : Pars P [] Unit (fun _ => []) (fun _ => 0) (fun _ => True)
  | cons {t : TypeId} {ts : List TypeId} {α β : Type} {x : α → AV} {s1 : α → Nat} {i1 : α → Prop} {xs : β → List AV} {s2 : β → Nat} {i2 : β → Prop} (h : Par P t x s1 i1) (hs : Pars P ts β xs s2 i2) : Pars P (t :: ts) (α × β) (fun p => x p.1 :: xs p.2) (fun p => s1 p.1 + s2 p.2) (fun p => i1 p.1 ∧ i2 p.2)
theorem Pars.read {ts : List TypeId} {α : Type} {xs : α → List AV} {sz : α → Nat} {inv : α → Prop} (h : Pars P ts α xs sz inv) : ∀ (H : Type) (enc : TypeId × Value → H) (w : World) (base : Nat) (vs : List Value) (ds : List (DataW H)) (ps : List MemPlace),
    (∀ (j : Nat) (t : TypeId) (v : Value), ts[j]? = some t → vs[j]? = some v → Value.okWide P w .any base t v) → DataW.TrodAll enc P w 0 (fun _ => true) true ts vs ds ps →
    ∃ a : α, sz a ≤ bulkAll ds ∧ inv a ∧ ds.length = ts.length ∧ ∀ (S : Nat → Prop) (R : Lab), (∀ b, b < w.heap.size → S b) → Reps S R w (xs a) vs := by
  induction h with
  | nil =>
    intro H enc w base vs ds ps hok ht
    obtain ⟨rfl, rfl, rfl⟩ := trodAll_nil ht
    exact ⟨(), Nat.zero_le _, trivial, rfl, fun S R hS => ⟨rfl, by intro i x hx; simp at hx⟩⟩
  | cons h1 hs ih =>
    intro H enc w base vs ds ps hok ht
    obtain ⟨v, vs', d, ds', p, q, rfl, rfl, rfl, h0, hr⟩ := trodAll_cons ht
    obtain ⟨a, q1, q2, q3⟩ := h1 H enc w base v d p (hok 0 _ _ rfl rfl) h0
    obtain ⟨b, r1, r2, r4, r3⟩ := ih H enc w base vs' ds' q (fun j t v hj hv => hok (j + 1) t v hj hv) hr
    refine ⟨(a, b), by simp only [bulkAll]; omega, ⟨q2, r2⟩, by simp [r4], fun S R hS => ⟨by simp [(r3 S R hS).1], fun i x hx => ?_⟩⟩
    cases i with
    | zero => simp at hx; subst hx; exact q3 S R hS
    | succ i => exact (r3 S R hS).2 i x (by simpa using hx)

/-! ### The statement -/
theorem trodAll_stays {H : Type} {enc : TypeId × Value → H} (hl : laidOutB P = true) {W W' : World} {sp : Nat → Bool} : ∀ {ts : List TypeId} {vs : List Value} {ds : List (DataW H)} {ps : List MemPlace},
    (∀ t, t ∈ ts → P.readableRec t = true ∧ t < P.types.size) → DataW.TrodAll enc P W 0 (fun _ => true) true ts vs ds ps → (∀ p, p ∈ ps → W.sameAt W' p) → (∀ p, p ∈ ps → sp p.block = true) → DataW.TrodAll enc P W' 0 sp true ts vs ds ps
  | [], _, _, _, _, h, _, _ => by
    obtain ⟨rfl, rfl, rfl⟩ := trodAll_nil h
    exact trodAll_mk0
  | t :: ts, _, _, _, hr, h, h1, h2 => by
    obtain ⟨v, vs', d, ds', p, q, rfl, rfl, rfl, h0, hq⟩ := trodAll_cons h
    exact trodAll_cons_mk (Go.WideElems.Trod_stays hl (hr t List.mem_cons_self).1 (hr t List.mem_cons_self).2 h0 (fun x hx => h1 x (List.mem_append_left _ hx)) (fun x hx => h2 x (List.mem_append_left _ hx)))
      (trodAll_stays hl (fun t ht => hr t (List.mem_cons_of_mem _ ht)) hq (fun x hx => h1 x (List.mem_append_right _ hx)) (fun x hx => h2 x (List.mem_append_right _ hx)))

theorem law_post {H : Type} {enc : TypeId × Value → H} {f : Func} {s : ChangeSpec} {apart fresh handsOn again : Bool} {W W' : World} {args : Array Value} {ds gs : List (DataW H)} {before : List MemPlace} {t4 : TypeId}
    (hl : laidOutB P = true) (hr : ∀ t, t ∈ f.params.toList → P.readableRec t = true ∧ t < P.types.size) (hb : Below W.heap.size W W')
    (hrt : f.resultTypes = #[t4]) (h4 : P.underlying t4 = some .bool) (hsv : s.vars = []) (hsr : (s.fn H (ds ++ gs)).results = [.lit (.bool true)]) (hsa : (s.fn H (ds ++ gs)).args = ds) (hsg : (s.fn H (ds ++ gs)).vars = [])
    (hW : DataW.Whole enc P f.params.toList s.vars apart W args.toList ds gs before) : s.post enc P f apart fresh handsOn again W args (.bool true) W' := by
  have hlt : ∀ p ∈ before, p.block < W.heap.size := hW.lt
  have hW0 := hW
  obtain ⟨p, q, hA, hV, rfl, hz, hn⟩ := hW
  rw [hsv] at hV
  obtain ⟨rfl, rfl⟩ := trodVars_none hV
  simp only [List.append_nil] at hlt hz hn hW0 hsr hsa hsg
  have hargs : ∀ sp : Nat → Bool, (∀ x ∈ p, sp x.block = true) → DataW.TrodAll enc P W' 0 sp true f.params.toList args.toList ds p := fun sp hsp =>
    trodAll_stays hl hr hA (fun x hx => hb.same (hlt x hx)) hsp
  have hres : ∀ (b : Nat) (sp : Nat → Bool) (hd : Bool), DataW.TrodAll enc P W' b sp hd f.resultTypes.toList ((Value.bool true).resultList f.resultTypes.size) [.lit (.bool true)] [] := fun b sp hd => by
    rw [hrt]
    exact trodAll_cons_mk (shut_bool h4 _) trodAll_mk0
  have hvs : ∀ sp : Nat → Bool, DataW.TrodVars enc P W' sp s.vars [] [] := fun sp => by rw [hsv]; rfl
  refine ⟨ds, [], p, [], p, [], hW0, ?_, ?_, ?_, ?_, fun ha => ?_⟩
  · rw [List.append_nil, hsr]; exact hres _ _ _
  · rw [List.append_nil, hsa]; exact hargs _ (fun x hx => by simpa using hlt x hx)
  · rw [List.append_nil, hsg]; exact hvs _
  · exact World.keptBut_mono (fun x hx => ⟨hx, .inr (.inl hx)⟩) (hb.frame _)
  · refine ⟨ok_one hrt rfl (okWide_bool_mk h4 _), .lit (.bool true) :: ds, [], p, ⟨[] ++ p, [], trodAll_append (hargs _ (fun _ _ => rfl)) (hres _ _ _), hvs _, by simp, ?_, ?_⟩, fun x hx _ => hx⟩
    · intro b off hp
      rw [hb.frozen (p := ⟨b, off, none⟩) (hlt _ hp)]
      exact hz b off hp
    · exact hn

theorem law_calls {f : FuncId} {xs : List AV} {args : Array Value} {W : World} (hF : PFn P f xs (.val (.bool true))) (hr : ∀ (S : Nat → Prop) (R : Lab), (∀ b, b < W.heap.size → S b) → Reps S R W xs args.toList) :
    Calls P f args W fun e W' => e = .returned (.bool true) ∧ Below W.heap.size W W' := by
  have h := hF.h (fun b => b < W.heap.size) (fun _ => none) W args.toList ⟨⟨0, fun _ _ => rfl⟩, .nil, (by intro l t h; cases h), (by rintro g ⟨_, _, h, _⟩; cases h), fun _ h => h⟩ (hr _ _ (fun _ h => h))
  refine h.mono ?_
  rintro e W' ⟨v, r, S', R', ts', rfl, rfl, hh, hrep, o⟩
  have hv := rep_val hrep
  subst hv
  exact ⟨rfl, ⟨o.os, o.tape, o.output, o.size, fun b hb => o.block b hb (by rintro ⟨_, _, h, _⟩; cases h)⟩⟩

/-- The law's contract, for what its parameters read as. -/
theorem law_holds {H : Type} {enc : TypeId × Value → H} {fid : FuncId} {f : Func} {s : ChangeSpec} {apart fresh handsOn again : Bool} {W : World} {base : Nat} {args : Array Value} {ds gs : List (DataW H)} {before : List MemPlace} {t4 : TypeId} {α : Type} {xs : α → List AV} {sz : α → Nat} {inv : α → Prop}
    (hl : laidOutB P = true) (hr : ∀ t, t ∈ f.params.toList → P.readableRec t = true ∧ t < P.types.size) (hrt : f.resultTypes = #[t4]) (h4 : P.underlying t4 = some .bool) (hsv : s.vars = [])
    (hs : ∀ ds : List (DataW H), ds.length = f.params.toList.length → (s.fn H ds).results = [.lit (.bool true)] ∧ (s.fn H ds).args = ds ∧ (s.fn H ds).vars = [])
    (hp : Pars P f.params.toList α xs sz inv) (hlaw : ∀ a, inv a → sz a ≤ bulkAll (ds ++ gs) → PFn P fid (xs a) (.val (.bool true)))
    (hval : ∀ (j : Nat) (t : TypeId) (v : Value), f.params[j]? = some t → args[j]? = some v → Value.okWide P W .any base t v)
    (hW : DataW.Whole enc P f.params.toList s.vars apart W args.toList ds gs before) :
    Calls P fid args W fun e W' => ∃ v, e = .returned v ∧ s.post enc P f apart fresh handsOn again W args v W' := by
  have hW0 := hW
  obtain ⟨p, q, hA, hV, rfl, hz, hn⟩ := hW
  rw [hsv] at hV
  obtain ⟨rfl, rfl⟩ := trodVars_none hV
  obtain ⟨a, q1, q2, q4, q3⟩ := hp.read H enc W base args.toList ds p (fun j t v hj hv => hval j t v (by simpa using hj) (by simpa using hv)) hA
  rw [List.append_nil] at hlaw
  refine (law_calls (hlaw a q2 q1) q3).mono ?_
  rintro e W' ⟨rfl, hb⟩
  obtain ⟨h1, h2, h3⟩ := hs (ds ++ []) (by simpa using q4)
  exact ⟨_, rfl, law_post hl hr hb hrt h4 hsv h1 (by rw [h2, List.append_nil]) h3 hW0⟩
end Go.Proofs.YtphkfejckafamaaDoorA
