/- Stores and appends with their token found first. -/
import Derived.Test.YtmenbolalghljaaAw19
set_option linter.unusedVariables false
namespace Go.Proofs.YtmenbolalghljaaA
open Go.RowKit

theorem row_len {S : Nat → Prop} {R : Lab} {w : World} {l i k : Nat} {e : TypeId} {xs : List (List AV)} {cs : List AV} (h : TokHolds S R w l (.row e k xs)) (hcs : xs[i]? = some cs) : cs.length = k := by
  cases hR : R l with
  | none => simp [TokHolds, hR] at h
  | some q =>
    cases q with
    | none =>
      simp only [TokHolds, hR] at h
      subst h
      simp at hcs
    | some q =>
      simp only [TokHolds, hR] at h
      obtain ⟨rfl, cur, fr, hg, hfr, hcur, hb, hm, hrow⟩ := h
      exact (hrow i cs hcs).1

section
variable {P : Program} {st : St} {dst : Option Tmp} {ty : TypeId} {pos : String} {after : Array Edge} {g : Option (Nat × Bool)}
theorem eff_store_k {t e : TypeId} {p x : Operand} {y : AV} {l i j k kt b : Nat} {z : Value} {xs : List (List AV)} {cs : List AV} [he : ElF P t z kt b] (hp : st.get p = some (.ptr l i j)) (hx : st.get x = some y) (hl : y.lies) (hcs : xs[i]? = some cs) (hk : y.cells.length = kt) (hj : j + kt ≤ k) :
    OpEff P ⟨dst, .store t p x, ty, pos, after, g⟩ st [(l, .row e k xs)] (fun ts r => ts = [(l, .row e k (xs.set i (putCells cs j y.cells)))] ∧ r = .dead) :=
  ⟨fun S R a w hh ho next Q hkk => (eff_store hp hx hl hcs hk (by rw [row_len (hh.tok l _ List.mem_cons_self) hcs]; exact hj)).h S R a w hh ho next Q hkk⟩
theorem eff_store_1 {t e : TypeId} {p x : Operand} {y : AV} {l i j k b : Nat} {z : Value} {xs : List (List AV)} {cs : List AV} [he : ElF P t z 1 b] (hp : st.get p = some (.ptr l i j)) (hx : st.get x = some y) (hl : y.one = true) (hcs : xs[i]? = some cs) (hj : j < k) :
    OpEff P ⟨dst, .store t p x, ty, pos, after, g⟩ st [(l, .row e k xs)] (fun ts r => ts = [(l, .row e k (xs.set i (cs.set j y)))] ∧ r = .dead) := by
  have hc : y.cells = [y] := by cases y <;> first | rfl | cases hl
  refine ⟨fun S R a w hh ho next Q hkk => ?_⟩
  have hlen := row_len (hh.tok l _ List.mem_cons_self) hcs
  have hlies : y.lies := ⟨.inl hl, fun u hu => by rw [hc] at hu; simp at hu; subst hu; exact hl⟩
  have hput : putCells cs j y.cells = cs.set j y := by
    rw [hc]
    apply List.ext_getElem?
    intro m
    simp only [putCells, List.append_assoc, List.getElem?_append, List.length_take, List.getElem?_set]
    have hmin : min j cs.length = j := by omega
    rw [hmin]
    by_cases h1 : m < j
    · rw [if_pos h1, List.getElem?_take, if_pos h1, if_neg (by omega)]
    · rw [if_neg h1]
      by_cases h2 : m = j
      · subst h2
        simp; omega
      · rw [if_neg (by simp; omega), if_neg (by omega), List.getElem?_drop]
        congr 1
        simp; omega
  have := (eff_store (P := P) (dst := dst) (ty := ty) (pos := pos) (after := after) (g := g) (e := e) hp hx hlies hcs (by rw [hc]; rfl) (by omega)).h S R a w hh ho next Q
  rw [hput] at this
  exact this hkk
end

section
variable {P : Program} {n : Nat} {ro : Option Nat} {G : CtxR P n ro} {l rest : List Oper} {sl : List (Nat × AV)} {ts : List (Nat × Tok)} {K : Kont}
variable {d : Nat} {ty : TypeId} {pos : String} {after : Array Edge} {bs : List Bool} {rs0 : List (Nat × Tok)} {q : Nat} {r : List Nat}

theorem ar_store {t e : TypeId} {p x : Operand} {y : AV} {lb i j k kt b : Nat} {z : Value} {xs : List (List AV)} {cs : List AV} {rs : List (Nat × Tok)} [he : ElF P t z kt b] (hp : St.get ⟨sl, ts⟩ p = some (.ptr lb i j)) (ht : Take ts lb (.row e k xs) rs) (hx : St.get ⟨sl, ts⟩ x = some y) (hl : liesB y = true) (hcs : xs[i]? = some cs) (hk : Nat.beq y.cells.length kt = true) (hj : Nat.ble (j + kt) k = true)
    (h : AR G l 0 rest ⟨sl, (lb, .row e k (xs.set i (putCells cs j y.cells))) :: rs⟩ K) : AR G l 0 (⟨none, .store t p x, ty, pos, after, none⟩ :: rest) ⟨sl, ts⟩ K :=
  ar_set (eff_store_k hp hx (lies_of hl) hcs (Nat.eq_of_beq_eq_true hk) (Nat.le_of_ble_eq_true hj)) (.cons ht .nil) h
theorem ar_store1 {t e : TypeId} {p x : Operand} {y : AV} {lb i j k b : Nat} {z : Value} {xs : List (List AV)} {cs : List AV} {rs : List (Nat × Tok)} [he : ElF P t z 1 b] (hp : St.get ⟨sl, ts⟩ p = some (.ptr lb i j)) (ht : Take ts lb (.row e k xs) rs) (hx : St.get ⟨sl, ts⟩ x = some y) (hl : y.one = true) (hcs : xs[i]? = some cs) (hj : Nat.blt j k = true)
    (h : AR G l 0 rest ⟨sl, (lb, .row e k (xs.set i (cs.set j y))) :: rs⟩ K) : AR G l 0 (⟨none, .store t p x, ty, pos, after, none⟩ :: rest) ⟨sl, ts⟩ K :=
  ar_set (eff_store_1 hp hx hl hcs (by simpa [Nat.blt_eq] using hj)) (.cons ht .nil) h
theorem tl_store {t e : TypeId} {p x : Operand} {y : AV} {lb i j k kt b : Nat} {z : Value} {xs : List (List AV)} {cs : List AV} {rs : List (Nat × Tok)} (ho : l[q]? = some ⟨none, .store t p x, ty, pos, after, none⟩) (hb : bs.getD q false = false) (hna : isAl l q = false) (he : ElF P t z kt b) (hp : St.get ⟨sl, []⟩ p = some (.ptr lb i j)) (ht : Take ts lb (.row e k xs) rs) (hx : St.get ⟨sl, []⟩ x = some y) (hl : liesB y = true) (hcs : xs[i]? = some cs) (hk : Nat.beq y.cells.length kt = true) (hj : Nat.ble (j + kt) k = true)
    (h : TL G l bs rs0 K r sl ((lb, .row e k (xs.set i (putCells cs j y.cells))) :: rs)) : TL G l bs rs0 K (q :: r) sl ts :=
  tl_set ho hb hna (eff_store_k hp hx (lies_of hl) hcs (Nat.eq_of_beq_eq_true hk) (Nat.le_of_ble_eq_true hj)) (.cons ht .nil) h
theorem tl_store1 {t e : TypeId} {p x : Operand} {y : AV} {lb i j k b : Nat} {z : Value} {xs : List (List AV)} {cs : List AV} {rs : List (Nat × Tok)} (ho : l[q]? = some ⟨none, .store t p x, ty, pos, after, none⟩) (hb : bs.getD q false = false) (hna : isAl l q = false) (he : ElF P t z 1 b) (hp : St.get ⟨sl, []⟩ p = some (.ptr lb i j)) (ht : Take ts lb (.row e k xs) rs) (hx : St.get ⟨sl, []⟩ x = some y) (hl : y.one = true) (hcs : xs[i]? = some cs) (hj : Nat.blt j k = true)
    (h : TL G l bs rs0 K r sl ((lb, .row e k (xs.set i (cs.set j y))) :: rs)) : TL G l bs rs0 K (q :: r) sl ts :=
  tl_set ho hb hna (eff_store_1 hp hx hl hcs (by simpa [Nat.blt_eq] using hj)) (.cons ht .nil) h

theorem ar_append {t e : TypeId} {x y : Operand} {k b lb off m m2 : Nat} {z : Value} {xs ys : List (List AV)} {rs : List (Nat × Tok)} [hu : Und P t (.slice e)] [he : ElF P e z k b] (hx : St.get ⟨sl, ts⟩ x = some (.own lb off m)) (ht : Take ts lb (.row e k xs) rs) (hy : St.get ⟨sl, ts⟩ y = some (.sl k ys m2)) (hoff : off + m ≤ xs.length) (hb : (m + m2) * b ≤ 140737488355328) (hnm : m + m2 ≤ 140737488355328) (hd : Nat.blt d n = true)
    (h : ∀ lab, AR G l 0 rest ⟨(d, .own lab 0 (m + m2)) :: sl, (lab, .row e k ((xs.drop off).take m ++ ys.take m2)) :: rs⟩ K) : AR G l 0 (⟨some d, .call ⟨.builtin .append, #[x, y], #[t, t]⟩, ty, pos, after, none⟩ :: rest) ⟨sl, ts⟩ K :=
  ar_new (eff_append hx hy hoff hb hnm) (.cons ht .nil) hd h
theorem tl_append {t e : TypeId} {x y : Operand} {k b lb off m m2 : Nat} {z : Value} {xs ys : List (List AV)} {rs : List (Nat × Tok)} (ho : l[q]? = some ⟨some d, .call ⟨.builtin .append, #[x, y], #[t, t]⟩, ty, pos, after, none⟩) (hbs : bs.getD q false = false) (hna : isAl l q = false) (hu : Und P t (.slice e)) (he : ElF P e z k b) (hx : St.get ⟨sl, []⟩ x = some (.own lb off m)) (ht : Take ts lb (.row e k xs) rs) (hy : St.get ⟨sl, []⟩ y = some (.sl k ys m2)) (hoff : off + m ≤ xs.length) (hb : (m + m2) * b ≤ 140737488355328) (hnm : m + m2 ≤ 140737488355328) (hd : Nat.blt d n = true)
    (h : ∀ lab, TL G l bs rs0 K r ((d, .own lab 0 (m + m2)) :: sl) ((lab, .row e k ((xs.drop off).take m ++ ys.take m2)) :: rs)) : TL G l bs rs0 K (q :: r) sl ts :=
  tl_new ho hbs hna (eff_append hx hy hoff hb hnm) (.cons ht .nil) hd h
theorem ar_append_str {t t2 e : TypeId} {x y : Operand} {b lb off m : Nat} {z : Value} {xs : List (List AV)} {s : ByteArray} {rs : List (Nat × Tok)} [hu : Und P t (.slice e)] [he : ElF P e z 1 b] [hu2 : Und P t2 .string] (hx : St.get ⟨sl, ts⟩ x = some (.own lb off m)) (ht : Take ts lb (.row e 1 xs) rs) (hy : St.get ⟨sl, ts⟩ y = some (.val (.string s))) (hoff : off + m ≤ xs.length) (hb : (m + s.size) * b ≤ 140737488355328) (hnm : m + s.size ≤ 140737488355328) (hd : Nat.blt d n = true)
    (h : ∀ lab, AR G l 0 rest ⟨(d, .own lab 0 (m + s.size)) :: sl, (lab, .row e 1 ((xs.drop off).take m ++ u8cells s.data.toList)) :: rs⟩ K) : AR G l 0 (⟨some d, .call ⟨.builtin .append, #[x, y], #[t, t2]⟩, ty, pos, after, none⟩ :: rest) ⟨sl, ts⟩ K :=
  ar_new (eff_append_str hx hy hoff hb hnm) (.cons ht .nil) hd h
end


section
variable {P : Program} {n : Nat} {ro : Option Nat} {G : CtxR P n ro} {l rest : List Oper} {sl : List (Nat × AV)} {ts : List (Nat × Tok)} {K : Kont}
variable {d : Nat} {ty : TypeId} {pos : String} {after : Array Edge} {bs : List Bool} {rs0 : List (Nat × Tok)} {q : Nat} {r : List Nat}
/-- A call that takes tokens and gives others. -/
theorem ar_call {c : Operand} {xs : List Operand} {tys : Array TypeId} {f : FuncId} {ys : List AV} {us rs : List (Nat × Tok)} {Post : List (Nat × Tok) → AV → Prop} [Ent P f] (hF : Fn P f us ys Post) (hc : St.get ⟨sl, ts⟩ c = some (.fn f [])) (hx : gets ⟨sl, ts⟩ xs = some ys) (ht : Takes ts us rs) (hd : Nat.blt d n = true)
    (h : ∀ ts' r, Post ts' r → AR G l 0 rest ⟨(d, r) :: sl, ts' ++ rs⟩ K) : AR G l 0 (⟨some d, .call ⟨.value c, xs.toArray, tys⟩, ty, pos, after, none⟩ :: rest) ⟨sl, ts⟩ K :=
  ar_eff (eff_call hc hx (by rw [List.append_nil]; exact hF)) ht hd h
theorem ar_tcall {d0 j : Nat} {b : Bool} {o : Oper} {c : Operand} {xs : List Operand} {tys : Array TypeId} {f : FuncId} {ys : List AV} {us rs : List (Nat × Tok)} {Post : List (Nat × Tok) → AV → Prop} [Ent P f] (hF : Fn P f us ys Post) (hj : l[j]? = some o) (hod : o.dst = some d0) (hg : look sl d0 = some (.val (.bool b))) (hc : St.get ⟨sl, ts⟩ c = some (.fn f [])) (hx : gets ⟨sl, ts⟩ xs = some ys) (ht : Takes ts us rs) (hd : Nat.blt d n = true)
    (h : ∀ ts' r, Post ts' r → AR G l 0 rest ⟨(d, r) :: sl, ts' ++ rs⟩ K) : AR G l 0 (⟨some d, .call ⟨.value c, xs.toArray, tys⟩, ty, pos, after, some (j, b)⟩ :: rest) ⟨sl, ts⟩ K :=
  ar_teff hj hod hg (eff_call hc hx (by rw [List.append_nil]; exact hF)) ht hd h
theorem tl_call {c : Operand} {xs : List Operand} {tys : Array TypeId} {f : FuncId} {ys : List AV} {us rs : List (Nat × Tok)} {Post : List (Nat × Tok) → AV → Prop} [Ent P f] (hF : Fn P f us ys Post) (ho : l[q]? = some ⟨some d, .call ⟨.value c, xs.toArray, tys⟩, ty, pos, after, none⟩) (hb : bs.getD q false = false) (hna : isAl l q = false) (hc : St.get ⟨sl, []⟩ c = some (.fn f [])) (hx : gets ⟨sl, []⟩ xs = some ys) (ht : Takes ts us rs) (hd : Nat.blt d n = true)
    (h : ∀ ts' x, Post ts' x → TL G l bs rs0 K r ((d, x) :: sl) (ts' ++ rs)) : TL G l bs rs0 K (q :: r) sl ts :=
  tl_eff ho hb hna (eff_call hc hx (by rw [List.append_nil]; exact hF)) ht hd h
end

theorem r_cell_le {P : Program} {st : St} {t e : TypeId} {ad : Tmp} {z : Value} {kt b k l i j : Nat} {xs : List (List AV)} {cs : List AV} {r : List (Nat × Tok)} {y : AV} [hu : AgF P t true] [he : ElF P t z kt b] (hx : look st.sl ad = some (.ptr l i j)) (ht : Take st.toks l (.row e k xs) r) (hcs : xs[i]? = some cs) (hk : Nat.ble (j + kt) cs.length = true) (hl : Le (.agg ((cs.drop j).take kt)) y) :
    Res1 P st (.cell ad t) y := res1_le (r_cell hx ht hcs hk) hl

/-- unsafe.SliceData of an empty row: some pointer. -/
theorem eff_sliceData0 {P : Program} {st : St} {dst : Option Tmp} {ty : TypeId} {pos : String} {after : Array Edge} {g : Option (Nat × Bool)} {t u e : TypeId} {x : Operand} {l k : Nat} [hu : Und P ty (.pointer u)] (hx : st.get x = some (.own l 0 0)) :
    OpEff P ⟨dst, .call ⟨.builtin .unsafeSliceData, #[x], #[t]⟩, ty, pos, after, g⟩ st [(l, .row e k [])] (fun ts r => ts = [(l, .row e k [])] ∧ ∃ p, r = .val (.pointer p)) := by
  refine ⟨?_⟩
  intro S R a w hh ho next Q hk
  have hr := ho x (by simp [Op.operands, Call.operands]) _ hx
  have htok := hh.tok l _ List.mem_cons_self
  have same : ∀ (v : Option Addr), (Builtin.unsafeSliceData_ #[t] ty #[a.eval x]).run P w = .ok (.pointer v) w → (⟨dst, .call ⟨.builtin .unsafeSliceData, #[x], #[t]⟩, ty, pos, after, g⟩ : Oper).wp P a w next Q := by
    intro v hrun
    have hex : (execOp a.eval ⟨dst, .call ⟨.builtin .unsafeSliceData, #[x], #[t]⟩, ty, pos, after, g⟩).run P w = .ok (.value (.pointer v)) w := by
      simp [execOp, resolve, invoke, builtin, hrun]
    unfold Oper.wp
    rw [hex]
    exact hk _ _ S R w _ ⟨rfl, v, rfl⟩ hh (.val _) ⟨rfl, rfl, rfl, Nat.le_refl _, fun _ _ _ => rfl, fun _ h => h, fun _ h => .inl h, fun _ _ h => h, fun g hg => .inl hg, fun l' t' hm => .inl ⟨t', hm⟩⟩
  generalize hv : a.eval x = v at hr same
  cases hr with
  | onil h => exact same none (Lib.run_unsafeSliceData_nil (P := P) w #[t] ty 0 0)
  | own h hn hmx hT ha hs =>
    rename_i c q ad
    obtain ⟨ad', rfl, hb⟩ := hs
    by_cases hc : c = 0
    · subst hc
      simp only [TokHolds, h] at htok
      obtain ⟨hk1, cur, fr, hg, hrest⟩ := htok
      -- the address of a slice without room: a block of its own; if it is known it is the row's
      have hrun := Lib.run_unsafeSliceData_zero (P := P) w #[t] ty u hu.h ad' 0 (e, cur.size) (by rw [hb]; simp [World.shape?, hg])
      have hex : (execOp a.eval ⟨dst, .call ⟨.builtin .unsafeSliceData, #[x], #[t]⟩, ty, pos, after, g⟩).run P w = .ok (.value (.pointer (some ⟨w.heap.size, 0, none⟩))) (w.alloc (.view ad' u)) := by
        simp [execOp, resolve, invoke, builtin, hv, hrun]
      unfold Oper.wp
      rw [hex]
      have hblk : ∀ b, b < w.heap.size → (w.alloc (.view ad' u)).heap[b]? = w.heap[b]? := fun b hb => Below.heap_alloc _ _ _ hb
      refine hk _ _ S R _ _ ⟨rfl, _, rfl⟩ (hh.mono (fun _ h => h) (fun _ h => .inl h) (fun _ _ h => h) hh.top (by simp) hblk) (.val _) ⟨rfl, rfl, rfl, by simp, fun b hb _ => hblk b hb, fun _ h => h, fun _ h => .inl h, fun _ _ h => h, fun g hg => .inl hg, fun l' t' hm => .inl ⟨t', hm⟩⟩
    · exact same _ (Lib.run_unsafeSliceData_row (P := P) w #[t] ty ad' 0 c hc)

end Go.Proofs.YtmenbolalghljaaA
