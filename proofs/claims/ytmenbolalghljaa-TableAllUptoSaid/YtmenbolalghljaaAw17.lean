/- Lending rows of one's own to a function that only reckons. -/
import Derived.Test.YtmenbolalghljaaAw16
set_option linter.unusedVariables false
namespace Go.Proofs.YtmenbolalghljaaA
open Go.RowKit

inductive Les : List AV → List AV → Prop
  | nil : Les [] []
  | cons {x y : AV} {xs ys : List AV} (h : Le x y) (hs : Les xs ys) : Les (x :: xs) (y :: ys)
theorem Les.len {xs ys : List AV} (h : Les xs ys) : ys.length = xs.length := by
  induction h with
  | nil => rfl
  | cons _ _ ih => simp [ih]
theorem Les.get {xs ys : List AV} (h : Les xs ys) : ∀ (i : Nat) (y : AV), ys[i]? = some y → ∃ x, xs[i]? = some x ∧ Le x y := by
  induction h with
  | nil => intro i y hy; simp at hy
  | cons h hs ih =>
    intro i z hz
    cases i with
    | zero => simp at hz; subst hz; exact ⟨_, rfl, h⟩
    | succ i => simpa using ih i z (by simpa using hz)
theorem Les.refl : ∀ {xs : List AV}, Les xs xs
  | [] => .nil
  | _ :: _ => .cons .refl Les.refl
theorem Le.agg {cs ds : List AV} (h : Les cs ds) : Le (.agg cs) (.agg ds) := fun S R w v hv => by
  cases hv with
  | agg hl hf =>
    refine .agg (by rw [hl, h.len]) fun i y hy => ?_
    obtain ⟨x, hx, hle⟩ := h.get i y hy
    exact hle.rep (hf i x hx)
theorem Le.tup {cs ds : List AV} (h : Les cs ds) : Le (.tup cs) (.tup ds) := fun S R w v hv => by
  cases hv with
  | tup hl hf =>
    refine .tup (by rw [hl, h.len]) fun i y hy => ?_
    obtain ⟨x, hx, hle⟩ := h.get i y hy
    exact hle.rep (hf i x hx)
theorem Le.trans {x y z : AV} (h : Le x y) (h' : Le y z) : Le x z := fun S R w v hv => h'.rep (h.rep hv)
theorem res1_le {P : Program} {st : St} {rv : ResultVar} {x y : AV} (h : Res1 P st rv x) (hl : Le x y) : Res1 P st rv y := fun S R a w hh hs => by
  obtain ⟨v, h1, h2⟩ := h S R a w hh hs
  exact ⟨v, h1, hl.rep h2⟩
theorem fn_args {P : Program} {f : FuncId} {ts : List (Nat × Tok)} {ys zs : List AV} {Post : List (Nat × Tok) → AV → Prop} (h : Fn P f ts zs Post) (hl : Les ys zs) : Fn P f ts ys Post :=
  ⟨fun S R w vs hh hr => h.h S R w vs hh ⟨by rw [hr.1, hl.len], fun i y hy => by
    obtain ⟨x, hx, hle⟩ := hl.get i y hy
    exact hle.rep (hr.2 i x hx)⟩⟩

mutual
/-- Seen as what is only read. -/
inductive Bo (ts : List (Nat × Tok)) : AV → AV → Prop
  | le {x y : AV} (h : Le x y) : Bo ts x y
  | own {l off n k : Nat} {e : TypeId} {xs : List (List AV)} {r : List (Nat × Tok)} (ht : Take ts l (.row e k xs) r) (hn : off + n ≤ xs.length) : Bo ts (.own l off n) (.sl k (xs.drop off) n)
  | ptr {l i j k : Nat} {e : TypeId} {xs : List (List AV)} {cs : List AV} {r : List (Nat × Tok)} (ht : Take ts l (.row e k xs) r) (hc : xs[i]? = some cs) : Bo ts (.ptr l i j) (.ip (cs.drop j))
  | agg {cs ds : List AV} (h : Bos ts cs ds) : Bo ts (.agg cs) (.agg ds)
inductive Bos (ts : List (Nat × Tok)) : List AV → List AV → Prop
  | nil : Bos ts [] []
  | cons {x y : AV} {xs ys : List AV} (h : Bo ts x y) (hs : Bos ts xs ys) : Bos ts (x :: xs) (y :: ys)
end

theorem Bos.len {ts : List (Nat × Tok)} : ∀ {xs ys : List AV}, Bos ts xs ys → ys.length = xs.length
  | [], [], _ => rfl
  | x :: xs, y :: ys, .cons _ hs => by simp [hs.len]

theorem ptr_to_ip {S S' : Nat → Prop} {R : Lab} {w : World} {l i j k : Nat} {e : TypeId} {xs : List (List AV)} {cs : List AV} {v : Value} (htok : TokHolds S R w l (.row e k xs)) (hv : RepV S R w (.ptr l i j) v) (hc : xs[i]? = some cs) (hS : ∀ b, S b → S' b) (hF : ∀ g, blkOf R l = some g → S' g) : RepV S' R w (.ip (cs.drop j)) v := by
  cases hv with
  | ptr h =>
    rename_i q
    simp only [TokHolds, h] at htok
    obtain ⟨rfl, cur, fr, hg, hfr, hcur, hb, hm, hrow⟩ := htok
    have hr := (hrow i cs hc).2
    refine .ip (F := fun m => cur.getD ((q.b + i) * q.k + (j + m)) undef) (hF _ (by simp [blkOf, h])) (fun m y hy => ?_) (fun y hy => ?_) (fun m y hy => ?_)
    · rw [List.getElem?_drop] at hy
      obtain ⟨_, u, hu, _⟩ := hr _ y hy
      rw [add_mk, cell_of_row w q.g _ cur e fr hg, Nat.add_assoc, hu, Array.getD_eq_getD_getElem?, hu]
      rfl
    · obtain ⟨m, hm'⟩ := List.getElem?_of_mem hy
      rw [List.getElem?_drop] at hm'
      exact (hr _ y hm').1
    · rw [List.getElem?_drop] at hy
      obtain ⟨_, u, hu, hrep⟩ := hr _ y hy
      have : cur.getD ((q.b + i) * q.k + (j + m)) undef = u := by rw [Array.getD_eq_getD_getElem?, hu]; rfl
      rw [this]
      exact hrep.mono hS (fun _ _ h => h) (fun _ _ => rfl)

mutual
theorem Bo.rep {ts : List (Nat × Tok)} {S S' : Nat → Prop} {R : Lab} {w : World} (hh : Holds S R w ts) (hS : ∀ b, S b → S' b) (hF : ∀ g, Foot R ts g → S' g) : ∀ {x y : AV} {v : Value}, Bo ts x y → RepV S R w x v → RepV S' R w y v
  | x, _, v, .le hl, h => hl.rep (h.mono hS (fun _ _ h => h) (fun _ _ => rfl))
  | _, _, v, .own ht hn, h => by
    have hm := ht.perm.mem_iff.2 List.mem_cons_self
    exact own_to_sl (hh.tok _ _ hm) h hn hS (fun g hg => hF g ⟨_, _, hm, hg⟩)
  | _, _, v, .ptr ht hc, h => by
    have hm := ht.perm.mem_iff.2 List.mem_cons_self
    exact ptr_to_ip (hh.tok _ _ hm) h hc hS (fun g hg => hF g ⟨_, _, hm, hg⟩)
  | _, _, v, .agg hs, h => by
    cases h with
    | agg hl hf => exact .agg (by rw [hl, hs.len]) (fun i y hy => Bos.rep hh hS hF hs (fun j z hz => hf j z hz) i y hy)
theorem Bos.rep {ts : List (Nat × Tok)} {S S' : Nat → Prop} {R : Lab} {w : World} (hh : Holds S R w ts) (hS : ∀ b, S b → S' b) (hF : ∀ g, Foot R ts g → S' g) : ∀ {xs ys : List AV} {f : Nat → Value}, Bos ts xs ys → (∀ (i : Nat) (x : AV), xs[i]? = some x → RepV S R w x (f i)) → ∀ (i : Nat) (y : AV), ys[i]? = some y → RepV S' R w y (f i)
  | [], [], f, .nil, _, i, y, hy => by simp at hy
  | x :: xs, y :: ys, f, .cons h hs, hf, i, z, hz => by
    cases i with
    | zero =>
      simp at hz
      subst hz
      exact Bo.rep hh hS hF h (hf 0 x rfl)
    | succ i => exact Bos.rep (f := fun i => f (i + 1)) hh hS hF hs (fun j z hz => hf (j + 1) z (by simpa using hz)) i z (by simpa using hz)
end

/-- It hangs on no memory. -/
def plainAV : AV → Bool
  | .val _ => true
  | .dead => true
  | .agg cs => cs.all fun | .val _ => true | _ => false
  | .tup cs => cs.all fun | .val _ => true | .agg ds => ds.all (fun | .val _ => true | _ => false) | _ => false
  | _ => false

theorem all_vals {cs : List AV} (h : cs.all (fun | .val _ => true | _ => false) = true) {x : AV} (hx : x ∈ cs) : ∃ v, x = .val v := by
  have := List.all_eq_true.1 h x hx
  cases x <;> first | exact ⟨_, rfl⟩ | cases this

theorem plain_rep {S S' : Nat → Prop} {R R' : Lab} {w w' : World} {x : AV} {v : Value} (hp : plainAV x = true) (h : RepV S R w x v) : RepV S' R' w' x v := by
  have hagg : ∀ {cs : List AV} {v : Value}, cs.all (fun | .val _ => true | _ => false) = true → RepV S R w (.agg cs) v → RepV S' R' w' (.agg cs) v := by
    intro cs v hc h
    cases h with
    | agg hl hf =>
      refine .agg hl fun i x hx => ?_
      obtain ⟨u, rfl⟩ := all_vals hc (List.mem_of_getElem? hx)
      have := rep_val (hf i _ hx)
      rw [this]; exact .val _
  cases x with
  | val u => have := rep_val h; subst this; exact .val _
  | dead => exact .dead _
  | agg cs => exact hagg hp h
  | tup cs =>
    cases h with
    | tup hl hf =>
      refine .tup hl fun i x hx => ?_
      have hx' := List.all_eq_true.1 hp x (List.mem_of_getElem? hx)
      cases x with
      | val u => have := rep_val (hf i _ hx); rw [this]; exact .val _
      | agg ds => exact hagg hx' (hf i _ hx)
      | _ => cases hx'
  | _ => cases hp

section
variable {P : Program} {st : St} {dst : Option Tmp} {ty : TypeId} {pos : String} {after : Array Edge} {g : Option (Nat × Bool)}

/-- A call of a function that only reckons; what is one's own is lent. -/
theorem ev_callB {c : Operand} {xs : List Operand} {tys : Array TypeId} {f : FuncId} {ys zs : List AV} {x : AV} [Ent P f] (hc : st.get c = some (.fn f [])) (hx : gets st xs = some ys) (hb : Bos st.toks ys zs) (hF : PFn P f zs x) (hp : plainAV x = true) : OpEv P ⟨dst, .call ⟨.value c, xs.toArray, tys⟩, ty, pos, after, g⟩ st x := by
  refine ⟨?_⟩
  intro S R a w hh ho next Q hk
  obtain ⟨vs, hv, hcap⟩ := rep_fn (ho c (by simp [Op.operands, Call.operands]) _ hc)
  have hargs := gets_reps (S := S) (R := R) (w := w) (a := a) hx (fun z hz => ho z (by simp [Op.operands, Call.operands, hz]))
  have hvs : vs.toList = [] := List.eq_nil_of_length_eq_zero (by simpa using hcap.1)
  unfold Oper.wp
  rw [run_call hv]
  rw [Oper.upon_enter]
  let S' : Nat → Prop := fun b => S b ∨ Foot R st.toks b
  have hno : ∀ (R : Lab) (g : Nat), ¬ Foot R [] g := by rintro R g ⟨_, _, h, _⟩; simp at h
  have hh' : Holds S' R w [] := ⟨hh.top, .nil, fun _ _ h => (by cases h), fun g hg => (hno _ g hg).elim, fun b hb => by
    rcases hb with hb | ⟨l, t, hm, hg⟩
    · exact hh.low b hb
    · exact (hh.tok l t hm).lt hg⟩
  have hreps : Reps S' R w zs ((xs.map a.eval) ++ vs.toList) := by
    rw [hvs, List.append_nil]
    refine ⟨by rw [hargs.1, hb.len], fun i y hy => ?_⟩
    exact Bos.rep hh (fun _ h => .inl h) (fun g hg => .inr hg) hb (fun j z hz => hargs.2 j z hz) i y hy
  refine (hF.h S' R w _ hh' hreps).mono ?_
  rintro e w' ⟨v, r, S2, R2, ts', rfl, rfl, h2, hrep, o⟩
  refine hk v S R2 w' ⟨⟨o.os, o.tape, o.output, o.size, fun b hb => o.block b hb (hno _ b)⟩, fun _ h => h, fun b hb => .inl hb, o.R0, h2.top⟩ (plain_rep hp hrep)
end

end Go.Proofs.YtmenbolalghljaaA
