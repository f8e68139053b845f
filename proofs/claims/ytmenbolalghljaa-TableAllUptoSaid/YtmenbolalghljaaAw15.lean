/- What is no longer written, at a function's end and ahead of code; strings.Builder's builtins. -/
import Derived.Test.YtmenbolalghljaaAw14
import Derived.Lib.UnsafeStr
set_option linter.unusedVariables false
namespace Go.Proofs.YtmenbolalghljaaA
open Go.RowKit

theorem own_to_sl {S S' : Nat → Prop} {R : Lab} {w : World} {lab off m k : Nat} {e : TypeId} {xs : List (List AV)} {v : Value} (htok : TokHolds S R w lab (.row e k xs)) (hv : RepV S R w (.own lab off m) v) (hm : off + m ≤ xs.length) (hS : ∀ b, S b → S' b) (hb : ∀ g, blkOf R lab = some g → S' g) :
    RepV S' R w (.sl k (xs.drop off) m) v := by
  have hmono : ∀ {y : AV} {u : Value}, RepV S R w y u → RepV S' R w y u := fun h => h.mono hS (fun _ _ h => h) (fun _ _ => rfl)
  cases hv with
  | onil h1 =>
    simp only [TokHolds, h1] at htok
    subst htok
    exact .sl (F := fun _ _ => undef) (by simp) (by simp) (by simp [maxLen]) (by simp) (by simp) (by simp) (by simp)
  | own h1 hn hmx hT ha hs =>
    rename_i c q ad
    simp only [TokHolds, h1] at htok
    obtain ⟨rfl, cur, fr, hg, hfr, hcur, hbx, hmt, hrow⟩ := htok
    refine .sl (F := fun i j => cur.getD ((q.b + off + i) * q.k + j) undef) (by simp; omega) (by simp; omega) hmx (fun x hx => ?_) (fun hne => ?_) (fun x hx y hy => ?_) (fun i x j y hx hy => ?_)
    · obtain ⟨i, hi⟩ := List.getElem?_of_mem hx
      rw [List.getElem?_drop] at hi
      exact (hrow _ x hi).1
    · have hlt : off < xs.length := by
        rcases Nat.lt_or_ge off xs.length with h3 | h3
        · exact h3
        · exact absurd (List.drop_eq_nil_of_le h3) hne
      obtain rfl : ad = some ⟨q.g, (q.b + off) * q.k, none⟩ := ha.resolve_left (by omega)
      refine ⟨_, rfl, hb _ (by simp [blkOf, h1]), fun i x j y hx hy => ?_⟩
      rw [List.getElem?_drop] at hx
      obtain ⟨_, u, hu, _⟩ := (hrow _ x hx).2 j y hy
      rw [add_mk, cell_of_row w q.g _ cur e fr hg]
      have e1 : (q.b + off) * q.k + (i * q.k + j) = (q.b + (off + i)) * q.k + j := by rw [← Nat.add_assoc, ← Nat.add_mul, Nat.add_assoc q.b]
      have e2 : (q.b + off + i) * q.k + j = (q.b + (off + i)) * q.k + j := by rw [Nat.add_assoc q.b]
      rw [e1, hu, e2, Array.getD_eq_getD_getElem?, hu]
      rfl
    · obtain ⟨i, hi⟩ := List.getElem?_of_mem hx
      obtain ⟨j, hj⟩ := List.getElem?_of_mem hy
      rw [List.getElem?_drop] at hi
      exact ((hrow _ x hi).2 j y hj).1
    · rw [List.getElem?_drop] at hx
      obtain ⟨_, u, hu, hrep⟩ := (hrow _ x hx).2 j y hy
      have e2 : (q.b + off + i) * q.k + j = (q.b + (off + i)) * q.k + j := by rw [Nat.add_assoc q.b]
      have : cur.getD ((q.b + off + i) * q.k + j) undef = u := by rw [e2, Array.getD_eq_getD_getElem?, hu]; rfl
      rw [this]
      exact hmono hrep

section
variable {P : Program}

/-- A result of one's own that nobody will write. -/
theorem pfn_freeze {f : FuncId} {args : List AV} {e : TypeId} {k off m : Nat} {xs : List (List AV)} (hm : off + m ≤ xs.length) (h : Fn P f [] args (fun ts' r => ∃ l, ts' = [(l, .row e k xs)] ∧ r = .own l off m)) : PFn P f args (.sl k (xs.drop off) m) := by
  refine ⟨fun S R w vs hh hr => (h.h S R w vs hh hr).mono ?_⟩
  rintro en w' ⟨v, r, S', R', ts', he, ⟨l, rfl, rfl⟩, hh', hrep, o⟩
  have htok := hh'.tok l _ List.mem_cons_self
  let S'' : Nat → Prop := fun b => S' b ∨ blkOf R' l = some b
  have hno : ∀ (R : Lab) (g : Nat), ¬ Foot R [] g := by rintro R g ⟨_, _, h, _⟩; simp at h
  refine ⟨v, _, S'', R', [], he, rfl, ⟨hh'.top, .nil, fun _ _ h => (by cases h), fun g hg => (hno _ g hg).elim, ?_⟩, own_to_sl htok hrep hm (fun _ h => .inl h) (fun g hg => .inr hg), ?_⟩
  · rintro b (h1 | h1)
    · exact hh'.low b h1
    · exact htok.lt h1
  · refine ⟨o.os, o.tape, o.output, o.size, o.block, fun b hb => .inl (o.S0 b hb), ?_, o.R0, fun g hg => (hno _ g hg).elim, fun _ _ h => (by cases h)⟩
    rintro b (h1 | h1)
    · exact o.S1 b h1
    · exact .inr (o.foot b ⟨l, _, List.mem_cons_self, h1⟩)

theorem Fn.pure {f : FuncId} {args : List AV} {x : AV} (h : PFn P f args x) : Fn P f [] args (fun ts r => ts = [] ∧ r = x) := by
  refine ⟨fun S R w vs hh hr => (h.h S R w vs hh hr).mono ?_⟩
  rintro en w' ⟨v, r, S', R', ts', he, rfl, hh', hrep, o⟩
  have hno : ∀ (R : Lab) (g : Nat), ¬ Foot R [] g := by rintro R g ⟨_, _, h, _⟩; simp at h
  exact ⟨v, _, S', R', [], he, ⟨rfl, rfl⟩, hh'.sub ⟨ts', by simp⟩, hrep, ⟨o.os, o.tape, o.output, o.size, o.block, o.S0, o.S1, o.R0, fun g hg => (hno _ g hg).elim, fun _ _ h => (by cases h)⟩⟩

variable {n : Nat} {ro : Option Nat} {G : CtxR P n ro} {K : Kont} {st : St}

/-- A row that is no longer written, ahead of code. -/
theorem aw_freeze {c : Code} (d : Nat) {lab off m : Nat} {e : TypeId} {k : Nat} {xs : List (List AV)} {rs : List (Nat × Tok)} (hd : look st.sl d = some (.own lab off m)) (ht : Take st.toks lab (.row e k xs) rs) (hm : off + m ≤ xs.length) (h : AW G c ⟨(d, .sl k (xs.drop off) m) :: st.sl, rs⟩ K) : AW G c st K := by
  refine ⟨?_⟩
  rintro a w ⟨S, R, hr⟩
  have hp := ht.perm
  have hh := hr.holds.sub (us := (lab, .row e k xs) :: rs) ⟨[], by simpa using hp⟩
  have htok := hh.tok lab _ (List.mem_cons_self)
  have hv := hr.slots d _ hd
  let S' : Nat → Prop := fun b => S b ∨ blkOf R lab = some b
  have hmono : ∀ {y : AV} {u : Value}, RepV S R w y u → RepV S' R w y u := fun h => h.mono (fun _ h => .inl h) (fun _ _ h => h) (fun _ _ => rfl)
  have hap := List.pairwise_cons.1 hh.apart
  refine h.h a w ⟨S', R, ⟨hh.top, hap.2, ?_, ?_, ?_⟩, ?_, ?_, hr.defers, hr.size⟩
  · intro l' t' hm'
    exact (hh.tok l' t' (List.mem_cons_of_mem _ hm')).mono (fun _ h => .inl h) (fun _ _ h => h) (fun _ _ => rfl) (fun _ _ => rfl)
  · rintro g ⟨l', t', hm', hg⟩ (h1 | h1)
    · exact hh.notS g ⟨l', t', List.mem_cons_of_mem _ hm', hg⟩ h1
    · exact (hap.1 _ hm').2 g h1 hg
  · rintro b (h1 | h1)
    · exact hh.low b h1
    · exact htok.lt h1
  · intro d' x hx
    simp only [look] at hx
    by_cases hdd : d = d'
    · subst hdd
      rw [Nat.beq_refl] at hx
      cases hx
      exact own_to_sl htok hv hm (fun _ h => .inl h) (fun g hg => .inr hg)
    · rw [beq_of_ne hdd] at hx
      exact hmono (hr.slots d' x hx)
  · have o := hr.out
    refine ⟨o.os, o.tape, o.output, o.size, o.block, fun b hb => .inl (o.S0 b hb), ?_, o.R0, fun g ⟨l', t', hm', hg⟩ => o.foot g ⟨l', t', hp.mem_iff.2 (List.mem_cons_of_mem _ hm'), hg⟩, fun l' t' hm' => o.keys l' t' (hp.mem_iff.2 (List.mem_cons_of_mem _ hm'))⟩
    rintro b (h1 | h1)
    · exact o.S1 b h1
    · exact .inr (o.foot b ⟨lab, _, hp.mem_iff.2 (List.mem_cons_self), h1⟩)

/-- A nil slice as a row of one's own, ahead of code. -/
theorem aw_adopt {c : Code} (d : Nat) (e : TypeId) (k : Nat) (hd : look st.sl d = some (.val (.slice none 0 0))) (h : ∀ lab, AW G c ⟨(d, .own lab 0 0) :: st.sl, (lab, .row e k []) :: st.toks⟩ K) : AW G c st K := by
  refine ⟨?_⟩
  rintro a w ⟨S, R, hr⟩
  obtain ⟨N, hN⟩ := hr.holds.free
  have hfoot : ∀ g, Foot (bindL R N none) ((N, .row e k []) :: st.toks) g → Foot R st.toks g := by
    rintro g ⟨l', t', hm, hg⟩
    rcases List.mem_cons.1 hm with h1 | h1
    · cases h1; simp [blkOf, bindL_same] at hg
    · rw [blkOf_mono (bindL_mono hN) (hr.holds.tok l' t' h1).bound] at hg
      exact ⟨l', t', h1, hg⟩
  have hmono : ∀ {y : AV} {u : Value}, RepV S R w y u → RepV S (bindL R N none) w y u := fun h => h.mono (fun _ h => h) (bindL_mono hN) (fun _ _ => rfl)
  refine (h N).h a w ⟨S, bindL R N none, ⟨bindL_top hr.holds.top, ?_, ?_, fun g hg => hr.holds.notS g (hfoot g hg), hr.holds.low⟩, ?_, ?_, hr.defers, hr.size⟩
  · refine List.pairwise_cons.2 ⟨fun p hp => ⟨fun e1 => ?_, fun g hg => ?_⟩, hr.holds.apart.imp_of_mem fun {p q} hp hq hpq => ⟨hpq.1, fun g => ?_⟩⟩
    · obtain ⟨q, hq⟩ := (hr.holds.tok p.1 p.2 hp).bound
      have e1' : N = p.1 := e1
      rw [← e1', hN] at hq; cases hq
    · simp [blkOf, bindL_same] at hg
    · rw [blkOf_mono (bindL_mono hN) (hr.holds.tok p.1 p.2 hp).bound, blkOf_mono (bindL_mono hN) (hr.holds.tok q.1 q.2 hq).bound]
      exact hpq.2 g
  · intro l' t' hm
    rcases List.mem_cons.1 hm with h1 | h1
    · cases h1; simp [TokHolds, bindL_same]
    · exact (hr.holds.tok l' t' h1).mono (fun _ h => h) (bindL_mono hN) (fun _ _ => rfl) (fun _ _ => rfl)
  · intro d' x hx
    simp only [look] at hx
    by_cases hdd : d = d'
    · subst hdd
      rw [Nat.beq_refl] at hx
      cases hx
      have := rep_val (hr.slots d _ hd)
      rw [this]
      exact .onil bindL_same
    · rw [beq_of_ne hdd] at hx
      exact hmono (hr.slots d' x hx)
  · have o := hr.out
    refine ⟨o.os, o.tape, o.output, o.size, o.block, o.S0, o.S1, fun l q hq => bindL_mono hN _ _ (o.R0 l q hq), fun g hg => o.foot g (hfoot g hg), fun l' t' hm => ?_⟩
    rcases List.mem_cons.1 hm with h1 | h1
    · cases h1
      refine .inr ?_
      cases hb : G.R0 N with
      | none => rfl
      | some q => rw [o.R0 _ q hb] at hN; cases hN
    · exact o.keys l' t' h1

theorem aw_sub {c : Code} {st' : St} (hs : Sub st st') (h : AW G c st' K) : AW G c st K := ⟨fun a w hr => h.h a w (hr.sub hs)⟩
end

/-! ### strings.Builder: its bytes as a string -/
section
variable {P : Program} {st : St} {dst : Option Tmp} {ty : TypeId} {pos : String} {after : Array Edge} {g : Option (Nat × Bool)}

def u8cells (bs : List UInt8) : List (List AV) := bs.map fun c => [.val (.int .u8 c.toNat)]

theorem liesAt_bytes_at {e : TypeId} (hc : P.cellsOf e = 1) (count off n : Nat) (hn : off + n ≤ count) : liesAt P P.depth e count off e n = true := by
  have hd : P.depth = (2 * (P.types.size + Made.depth) + 1) + 1 := rfl
  rw [hd]
  simp only [liesAt, Bool.or_eq_true]
  left
  rw [hd]
  simp [rowAt, hc, hn, sameLayout, Nat.mod_one]

theorem run_unsafeString_at {w : World} (pt it ty e : TypeId) (hp : P.underlying pt = some (.pointer e)) (hc : P.cellsOf e = 1) (g off cells : Nat) (hsh : w.shape? g = some (e, cells)) (l : List UInt8) (h0 : l ≠ []) (hn : off + l.length ≤ cells) (h63 : l.length ≤ 9223372036854775807)
    (hcell : ∀ j x, l[j]? = some x → w.cell? ((⟨g, off, none⟩ : Addr).add j) = some (.int .u8 x.toNat)) :
    (Builtin.unsafeString_ #[pt, it] ty #[.pointer (some ⟨g, off, none⟩), .int .i64 l.length]).run P w = .ok (.string ⟨l.toArray⟩) (w.freeze ⟨g, off, none⟩ l.length) := by
  have hl : l.length ≠ 0 := by simpa using h0
  have hlb := Lib.run_loadBytes (P := P) w l ⟨g, off, none⟩ .empty hcell
  have hlies := liesAt_bytes_at (P := P) hc (cells / P.cellsOf e) off l.length (by rw [hc]; simpa using hn)
  have h63' : ¬ (9223372036854775807 : Int) < (l.length : Int) := by omega
  have hbind : ∀ (f : Int → Sem Value), (asInt (.int .i64 l.length) >>= f) = (asInt (.int .i64 l.length) >>= f) := fun _ => rfl
  refine Eq.trans (congrArg (fun s : Sem Value => s.run P w) (hbind _ : Builtin.unsafeString_ #[pt, it] ty #[.pointer (some ⟨g, off, none⟩), .int .i64 l.length] = _)) ?_
  have hmax : IntKind.i64.max = 9223372036854775807 := rfl
  have hneg : ¬ (l.length : Int) < 0 := by omega
  simp [asInt, asIntOf, hmax, h63', hneg, hl, variablesAt, hsh, elemOf, run_underlying hp, hlies, hlb]

theorem freeze_other (w : World) (a : Addr) (m b : Nat) (hb : b ≠ a.block) : (w.freeze a m).heap[b]? = w.heap[b]? := by
  unfold World.freeze
  split
  · rfl
  · simp [Array.getElem?_modify, Ne.symm hb]
theorem freeze_size (w : World) (a : Addr) (m : Nat) : (w.freeze a m).heap.size = w.heap.size := by
  unfold World.freeze
  split <;> simp
theorem freeze_rest (w : World) (a : Addr) (m : Nat) : (w.freeze a m).os = w.os ∧ (w.freeze a m).tape = w.tape ∧ (w.freeze a m).output = w.output := by
  unfold World.freeze
  split <;> exact ⟨rfl, rfl, rfl⟩

/-- unsafe.String of bytes of one's own: they are never written again. -/
theorem eff_unsafeString {pt it e e' : TypeId} {x y : Operand} {l : Nat} {bs : List UInt8} [hp : Und P pt (.pointer e)] (hc : P.cellsOf e = 1) (he : e' = e) (hx : st.get x = some (.ptr l 0 0)) (hy : st.get y = some (.val (.int .i64 (bs.length : Nat)))) (h0 : bs ≠ []) (h63 : bs.length ≤ 9223372036854775807) :
    OpEff P ⟨dst, .call ⟨.builtin .unsafeString, #[x, y], #[pt, it]⟩, ty, pos, after, g⟩ st [(l, .row e' 1 (u8cells bs))] (fun ts r => ts = [] ∧ r = .val (.string ⟨bs.toArray⟩)) := by
  subst he
  refine ⟨?_⟩
  intro S R a w hh ho next Q hk
  have hxv := ho x (by simp [Op.operands, Call.operands]) _ hx
  have hyv := rep_val (ho y (by simp [Op.operands, Call.operands]) _ hy)
  have htok := hh.tok l _ (List.mem_cons_self)
  generalize hv : a.eval x = v at hxv
  cases hxv with
  | ptr h =>
    rename_i q
    simp only [TokHolds, h] at htok
    obtain ⟨hk1, cur, fr, hg, hfr, hcur, hb, hm, hrow⟩ := htok
    have hlen : (u8cells bs).length = bs.length := by simp [u8cells]
    have hrun := run_unsafeString_at (P := P) (w := w) pt it ty e' hp.h hc q.g ((q.b + 0) * q.k + 0) cur.size (by simp [World.shape?, hg]) bs h0 (by rw [hk1]; omega) h63 (fun j c hj => by
      have hcell : (u8cells bs)[j]? = some [.val (.int .u8 c.toNat)] := by simp [u8cells, hj]
      obtain ⟨_, u, hu, hr⟩ := (hrow j _ hcell).2 0 _ rfl
      have := rep_val hr
      subst this
      rw [add_mk, cell_of_row w q.g _ cur e' fr hg, hk1]
      have e1 : (q.b + 0) * 1 + 0 + j = (q.b + j) * 1 + 0 := by omega
      rw [e1]
      exact (by simpa [hk1] using hu))
    have hex : (execOp a.eval ⟨dst, .call ⟨.builtin .unsafeString, #[x, y], #[pt, it]⟩, ty, pos, after, g⟩).run P w = .ok (.value (.string ⟨bs.toArray⟩)) (w.freeze ⟨q.g, (q.b + 0) * q.k + 0, none⟩ bs.length) := by
      simp [execOp, resolve, invoke, builtin, hv, hyv] at hrun ⊢
      rw [hrun]
      rfl
    unfold Oper.wp
    rw [hex]
    obtain ⟨h1, h2, h3⟩ := freeze_rest w ⟨q.g, (q.b + 0) * q.k + 0, none⟩ bs.length
    have hno : ∀ (R : Lab) (g : Nat), ¬ Foot R [] g := by rintro R g ⟨_, _, h, _⟩; simp at h
    refine hk _ _ S R _ [] ⟨rfl, rfl⟩ ⟨hh.top, .nil, fun _ _ h => (by cases h), fun g hg => (hno _ g hg).elim, fun b hb => by rw [freeze_size]; exact hh.low b hb⟩ (.val _) ⟨h1, h2, h3, by rw [freeze_size]; exact Nat.le_refl _, fun b hb hf => freeze_other _ _ _ _ ?_, fun _ h => h, fun _ h => .inl h, fun _ _ h => h, fun g hg => (hno _ g hg).elim, fun _ _ h => (by cases h)⟩
    rintro rfl
    exact hf ⟨l, _, List.mem_cons_self, by simp [blkOf, h]⟩

theorem ev_unsafeString0 {pt it : TypeId} {x y : Operand} {p : Option Addr} (hx : st.get x = some (.val (.pointer p))) (hy : st.get y = some (.val (.int .i64 0))) :
    OpEv P ⟨dst, .call ⟨.builtin .unsafeString, #[x, y], #[pt, it]⟩, ty, pos, after, g⟩ st (.val (.string .empty)) :=
  ev_same fun S R a w _ ho => by
    have e1 := rep_val (ho x (by simp [Op.operands, Call.operands]) _ hx)
    have e2 := rep_val (ho y (by simp [Op.operands, Call.operands]) _ hy)
    refine ⟨_, ?_, .val _⟩
    have := Lib.run_unsafeString_none (P := P) w pt it ty p
    simp [execOp, resolve, invoke, builtin, e1, e2, this]

/-- unsafe.SliceData of a row with elements. -/
theorem ev_sliceData {t e : TypeId} {x : Operand} {l m k : Nat} {xs : List (List AV)} {r : List (Nat × Tok)} (hx : st.get x = some (.own l 0 m)) (hm : 0 < m) (ht : Take st.toks l (.row e k xs) r) : OpEv P ⟨dst, .call ⟨.builtin .unsafeSliceData, #[x], #[t]⟩, ty, pos, after, g⟩ st (.ptr l 0 0) :=
  ev_same fun S R a w hh ho => by
    have hr := ho x (by simp [Op.operands, Call.operands]) _ hx
    generalize hv : a.eval x = v at hr
    cases hr with
    | onil h => omega
    | own h hn hmx hT ha hs =>
      rename_i c q ad
      obtain rfl : ad = some ⟨q.g, (q.b + 0) * q.k, none⟩ := ha.resolve_left (by omega)
      refine ⟨_, ?_, .ptr h⟩
      have := Lib.run_unsafeSliceData_row (P := P) w #[t] ty ⟨q.g, (q.b + 0) * q.k, none⟩ m c (by omega)
      simp [execOp, resolve, invoke, builtin, hv] at this ⊢
      rw [this]
      rfl
theorem ev_sliceData_nil {t : TypeId} {x : Operand} (hx : st.get x = some (.val (.slice none 0 0))) : OpEv P ⟨dst, .call ⟨.builtin .unsafeSliceData, #[x], #[t]⟩, ty, pos, after, g⟩ st (.val (.pointer none)) :=
  ev_same fun S R a w hh ho => by
    have e1 := rep_val (ho x (by simp [Op.operands, Call.operands]) _ hx)
    refine ⟨_, ?_, .val _⟩
    have := Lib.run_unsafeSliceData_nil (P := P) w #[t] ty 0 0
    simp [execOp, resolve, invoke, builtin, e1, this]
end

end Go.Proofs.YtmenbolalghljaaA
