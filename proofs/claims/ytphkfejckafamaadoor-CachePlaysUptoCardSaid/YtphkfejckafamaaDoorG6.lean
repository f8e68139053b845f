import Derived.Test.YtphkfejckafamaaDoorG5
/- What a list of one's own is cut by, in its place: s[i:j:k], append onto itself, clear. -/
set_option linter.unusedVariables false
namespace Go.Proofs.YtphkfejckafamaaDoorA
open Go.RowKit

section
variable {P : Program} {st : St} {dst : Option Tmp} {ty : TypeId} {pos : String} {after : Array Edge} {g : Option (Nat × Bool)}

/-- s[l:h:m] within its length: it may be reckoned (nobody reads it). -/
theorem ev_slice3_own {t e e' : TypeId} {x lo hi mx : Operand} {k n l h m b lab off : Nat} {k1 k2 k3 : IntKind} {z : Value} {xs : List (List AV)} {r : List (Nat × Tok)} [hu : Und P t (.slice e)] [he : ElF P e z k b] (hx : st.get x = some (.own lab off n)) (ht : Take st.toks lab (.row e' k xs) r)
    (hl : st.get lo = some (.val (.int k1 (l : Nat)))) (hh : st.get hi = some (.val (.int k2 (h : Nat)))) (hm : st.get mx = some (.val (.int k3 (m : Nat)))) (h1 : l ≤ h) (h2 : h ≤ m) (h3 : off + m ≤ xs.length) :
    OpEv P ⟨dst, .slice t x (some lo) (some hi) (some mx), ty, pos, after, g⟩ st .dead :=
  ev_same fun S R a w hh' ho => by
    have e1 := rep_val (ho lo (by simp [Op.operands]) _ hl)
    have e2 := rep_val (ho hi (by simp [Op.operands]) _ hh)
    have e3 := rep_val (ho mx (by simp [Op.operands]) _ hm)
    have hr := ho x (by simp [Op.operands]) _ hx
    have htok := hh'.tok lab _ (ht.perm.mem_iff.2 (List.mem_cons_self))
    generalize hv : a.eval x = v at hr
    cases hr with
    | own hlab hn hmx hT ha hs =>
      rename_i c q ad
      simp only [TokHolds, hlab] at htok
      obtain ⟨hk, cur, fr, hg, hfr, hcur, hb, hmt, hrow⟩ := htok
      exact ⟨_, by simp [execOp, Instr.sliceAt, run_underlying hu.h, Instr.slice, hv, Instr.sliceBounds, e1, e2, e3, run_sliceBound (show m ≤ c by omega), run_sliceBound h1, run_sliceBound h2, ElF.size (P := P) (t := e)]; rfl, .dead _⟩
    | onil hlab =>
      simp only [TokHolds, hlab] at htok
      subst htok
      simp at h3
      obtain rfl : m = 0 := by omega
      obtain rfl : h = 0 := by omega
      obtain rfl : l = 0 := by omega
      exact ⟨_, by simp [execOp, Instr.sliceAt, run_underlying hu.h, Instr.slice, hv, Instr.sliceBounds, e1, e2, e3, ElF.size (P := P) (t := e)]; rfl, .dead _⟩

theorem cell_at {k i j s n : Nat} (hj : j < k) (hi : i < n) : (s + i) * k + j < s * k + n * k := by
  have : (s + i) * k + k ≤ s * k + n * k := by
    rw [← Nat.add_mul]
    calc (s + i) * k + k = (s + i + 1) * k := by rw [Nat.add_mul (s + i) 1]; omega
      _ ≤ (s + n) * k := Nat.mul_le_mul_right _ (by omega)
  omega

/-- The cells of a part of a row. -/
theorem src_own {S : Nat → Prop} {R : Lab} {w : World} {t e : TypeId} {q : Blk} {cur : Array Value} {fr : Nat × Nat} {xs : List (List AV)} {off m : Nat} {v : Value} {l : Nat} (ht : P.underlying t = some (.slice e)) (hl : R l = some (some q)) (hg : w.heap[q.g]? = some (.cells cur e fr)) (hcur : cur.size = q.t * q.k) (hb : q.b + xs.length ≤ q.t)
    (hrow : RowAt S R w q cur xs) (h2 : off + m ≤ xs.length) (hv : RepV S R w (.own l off m) v) :
    Src P w q.k m t v ((cur.toList.drop ((q.b + off) * q.k)).take (m * q.k)) := by
  have hfit : (q.b + off) * q.k + m * q.k ≤ cur.size := by
    rw [hcur, ← Nat.add_mul]
    exact Nat.mul_le_mul_right _ (by omega)
  have hlen : ((cur.toList.drop ((q.b + off) * q.k)).take (m * q.k)).length = m * q.k := by simp; omega
  have hone : ∀ u ∈ (cur.toList.drop ((q.b + off) * q.k)).take (m * q.k), u.oneCell' = true := fun u hu => by
    obtain ⟨p, hp⟩ := List.getElem?_of_mem hu
    have hpl : p < m * q.k := by
      have := (List.getElem?_eq_some_iff.1 hp).1
      omega
    have hk0 : 0 < q.k := Nat.pos_of_ne_zero (fun e => by rw [e] at hpl; simp at hpl)
    have hi : p / q.k < m := Nat.div_lt_of_lt_mul (by rwa [Nat.mul_comm] at hpl)
    have hx : off + p / q.k < xs.length := by omega
    obtain ⟨h3, h4⟩ := hrow (off + p / q.k) _ (List.getElem?_eq_getElem hx)
    have hj : p % q.k < (xs[off + p / q.k]).length := by rw [h3]; exact Nat.mod_lt _ hk0
    obtain ⟨h5, u', hu', h6⟩ := h4 (p % q.k) _ (List.getElem?_eq_getElem hj)
    have e1 : (q.b + (off + p / q.k)) * q.k + p % q.k = (q.b + off) * q.k + p := by
      have : p / q.k * q.k + p % q.k = p := by rw [Nat.mul_comm]; exact Nat.div_add_mod p q.k
      rw [← Nat.add_assoc, Nat.add_mul]; omega
    rw [e1] at hu'
    rw [List.getElem?_take, if_pos hpl, List.getElem?_drop, Array.getElem?_toList, hu'] at hp
    cases hp
    exact h6.one h5
  cases hv with
  | onil h => rw [hl] at h; cases h
  | own h hn hmx hT ha hs =>
    rename_i c q' ad
    rw [hl] at h
    cases h
    refine ⟨.inr ⟨_, ht⟩, fun w' => by simp [Builtin.lenOf], fun w' hw => ?_, hlen, hone⟩
    by_cases hm0 : m = 0
    · subst hm0
      cases ad <;> simp [Builtin.firstCells, loadCells, loadCellsFrom]
    · obtain rfl : ad = some ⟨q.g, (q.b + off) * q.k, none⟩ := ha.resolve_left (by omega)
      refine run_firstCells_some (P := P) w' q.k m _ m c _ hlen (fun p u hu => ?_)
      have hp : p < m * q.k := by
        have := (List.getElem?_eq_some_iff.1 hu).1
        omega
      rw [List.getElem?_take, if_pos hp, List.getElem?_drop, Array.getElem?_toList] at hu
      rw [add_mk, World.cell?_of_block (w := w) (by rw [hw]), cell_of_row w q.g _ cur e fr hg]
      exact hu

/-- A row of one's own is written over from one place on, as long as what is written. -/
theorem room_holds {S : Nat → Prop} {R : Lab} {w : World} {l : Nat} {q : Blk} {e : TypeId} {cur : Array Value} {fr : Nat × Nat} {xs ys : List (List AV)} {o m : Nat} {news : List Value} (hh : Holds S R w [(l, .row e q.k xs)]) (h : R l = some (some q)) (hg : w.heap[q.g]? = some (.cells cur e fr)) (hfr : cur.size ≤ fr.1 ∨ fr = (0, 0)) (hcur : cur.size = q.t * q.k) (hb : q.b + xs.length ≤ q.t) (hmt : q.t ≤ maxLen)
    (hrow : RowAt S R w q cur xs) (ho : o + m ≤ q.t - q.b) (ho2 : o ≤ xs.length) (hnum : news.length = m * q.k) (hys : ys.length ≤ xs.length) (hle : ∀ (i : Nat) (x : List AV), ys[i]? = some x → ((i < o ∨ o + m ≤ i) ∧ xs[i]? = some x) ∨ (o ≤ i ∧ x.length = q.k ∧ ∀ (j : Nat) (y : AV), x[j]? = some y → y.one = true ∧ ∃ u, news[(i - o) * q.k + j]? = some u ∧ RepV S R w y u)) :
    Holds S R (w.setRow q.g (seg cur ((q.b + o) * q.k) news)) [(l, .row e q.k ys)] ∧ Out w S R (Foot R [(l, Tok.row e q.k xs)]) (fun l' => ∃ t', (l', t') ∈ [(l, Tok.row e q.k xs)]) S R (w.setRow q.g (seg cur ((q.b + o) * q.k) news)) [(l, .row e q.k ys)] := by
  have hfit' : (q.b + o) * q.k + news.length ≤ cur.size := by
    rw [hnum, hcur, ← Nat.add_mul]
    exact Nat.mul_le_mul_right _ (by omega)
  have hS : ∀ b, S b → b ≠ q.g := fun b hb' e' => hh.notS q.g ⟨l, _, List.mem_cons_self, by simp [blkOf, h]⟩ (e' ▸ hb')
  have hlow : ∀ b, S b → (w.setRow q.g (seg cur ((q.b + o) * q.k) news)).heap[b]? = w.heap[b]? := fun b hb' => by
    rw [setRow_other]
    exact fun e' => hS b hb' e'
  refine ⟨⟨hh.top, by simp, ?_, ?_, fun b hb => by simpa using hh.low b hb⟩, ⟨rfl, rfl, rfl, by simp, fun b hb hf => ?_, fun _ h => h, fun _ h => .inl h, fun _ _ h => h, ?_, ?_⟩⟩
  · intro l' t' hm'
    simp at hm'
    obtain ⟨rfl, rfl⟩ := hm'
    simp only [TokHolds, h]
    refine ⟨trivial, _, fr, setRow_heap w q.g cur _ e _ hg, by rw [seg_size hfit']; exact hfr, by rw [seg_size hfit']; exact hcur, by omega, hmt, fun i x hx => ?_⟩
    rcases hle i x hx with ⟨hi, hx'⟩ | ⟨hi, h1, h2⟩
    · obtain ⟨h1, h2⟩ := hrow i x hx'
      refine ⟨h1, fun j y hy => ?_⟩
      obtain ⟨h3, u, hu', h4⟩ := h2 j y hy
      have hj : j < q.k := by rw [← h1]; exact (List.getElem?_eq_some_iff.1 hy).1
      refine ⟨h3, u, ?_, h4.mono (fun _ h => h) (fun _ _ h => h) hlow⟩
      rcases hi with hi | hi
      · rw [seg_get hfit', if_pos]
        · exact hu'
        · have := cell_at (k := q.k) (s := q.b) hj hi
          rw [Nat.add_mul q.b o]; omega
      · have h9 : (q.b + o) * q.k + news.length ≤ (q.b + i) * q.k := by
          rw [hnum, ← Nat.add_mul]
          exact Nat.mul_le_mul_right _ (by omega)
        rw [seg_get hfit', if_neg (by omega), if_neg (by omega)]
        exact hu'
    · refine ⟨h1, fun j y hy => ?_⟩
      obtain ⟨h3, u, hu', h4⟩ := h2 j y hy
      refine ⟨h3, u, ?_, h4.mono (fun _ h => h) (fun _ _ h => h) hlow⟩
      have hlt' : (i - o) * q.k + j < news.length := (List.getElem?_eq_some_iff.1 hu').1
      have e1 : (q.b + i) * q.k + j = (q.b + o) * q.k + ((i - o) * q.k + j) := by
        rw [← Nat.add_assoc, ← Nat.add_mul]; congr 2; omega
      rw [e1, seg_get hfit', if_neg (by omega), if_pos (by omega), Nat.add_sub_cancel_left]
      exact hu'
  · rintro g ⟨l', t', hm', hg'⟩
    simp at hm'
    obtain ⟨rfl, rfl⟩ := hm'
    exact hh.notS g ⟨l', _, List.mem_cons_self, hg'⟩
  · rw [setRow_other]
    rintro rfl
    exact hf ⟨l, _, List.mem_cons_self, by simp [blkOf, h]⟩
  · rintro g ⟨l', t', hm', hg'⟩
    simp at hm'
    obtain ⟨rfl, rfl⟩ := hm'
    exact .inl ⟨l', _, List.mem_cons_self, hg'⟩
  · intro l' t' hm'
    simp at hm'
    exact .inl ⟨_, by rw [hm'.1]; exact List.mem_cons_self⟩

/-- append(s[..n], s[off2:]...) where there is room: what stands behind is moved down. -/
theorem eff_append_room {t e : TypeId} {x y : Operand} {k b l n off2 m : Nat} {z : Value} {xs : List (List AV)} [hu : Und P t (.slice e)] [he : ElF P e z k b] (hx : st.get x = some (.own l 0 n)) (hy : st.get y = some (.own l off2 m)) (h1 : n ≤ off2) (h2 : off2 + m ≤ xs.length) :
    OpEff P ⟨dst, .call ⟨.builtin .append, #[x, y], #[t, t]⟩, ty, pos, after, g⟩ st [(l, .row e k xs)] (fun ts r => ts = [(l, .row e k (xs.take n ++ (xs.drop off2).take m ++ xs.drop (n + m)))] ∧ r = .own l 0 (n + m)) := by
  refine ⟨?_⟩
  intro S R a w hh ho next Q hk
  have hxv := ho x (by simp [Op.operands, Call.operands]) _ hx
  have hyv := ho y (by simp [Op.operands, Call.operands]) _ hy
  have htok := hh.tok l _ List.mem_cons_self
  unfold Oper.wp
  suffices hs : ∃ r w', (Builtin.append_ #[t, t] ty #[a.eval x, a.eval y]).run P w = .ok r w' ∧ RepV S R w' (.own l 0 (n + m)) r ∧ Holds S R w' [(l, .row e k (xs.take n ++ (xs.drop off2).take m ++ xs.drop (n + m)))] ∧ Out w S R (Foot R [(l, Tok.row e k xs)]) (fun l' => ∃ t', (l', t') ∈ [(l, Tok.row e k xs)]) S R w' [(l, .row e k (xs.take n ++ (xs.drop off2).take m ++ xs.drop (n + m)))] by
    obtain ⟨r, w', hrun, g1, g2, g3⟩ := hs
    rw [exec_append hrun]
    exact hk r _ S R w' _ ⟨rfl, rfl⟩ g2 g1 g3
  generalize a.eval x = sv at hxv
  generalize a.eval y = yv at hyv
  cases hxv with
  | onil h =>
    simp only [TokHolds, h] at htok
    subst htok
    simp at h2
    obtain ⟨rfl, rfl⟩ := h2
    cases hyv with
    | own h' => rw [h] at h'; cases h'
    | onil h' =>
      have hs : Src P w k 0 t (.slice none 0 0) [] := ⟨.inr ⟨_, hu.h⟩, fun w' => by simp [Builtin.lenOf], fun w' _ => by simp [Builtin.firstCells], by simp, by simp⟩
      exact ⟨_, w, run_append_none (P := P) (ty := ty) (t := t) (e := e) (ad := none) (c := 0) hu.h hs, .onil h, hh, ⟨rfl, rfl, rfl, Nat.le_refl _, fun _ _ _ => rfl, fun _ h => h, fun _ h => .inl h, fun _ _ h => h, fun g hg => .inl hg, fun l' t' ht => .inl ⟨t', ht⟩⟩⟩
  | own h hn hmx hT ha hsad =>
    rename_i c q ad
    simp only [TokHolds, h] at htok
    obtain ⟨rfl, cur, fr, hg, hfr, hcur, hbx, hmt, hrow⟩ := htok
    have hsrc := src_own (P := P) hu.h h hg hcur hbx hrow h2 hyv
    by_cases hc0 : c = 0
    · subst hc0
      obtain ⟨rfl, rfl⟩ : n = 0 ∧ m = 0 := by omega
      simp only [Nat.zero_mul, List.take_zero] at hsrc
      have hx0 : xs = [] := List.eq_nil_of_length_eq_zero (by omega)
      subst hx0
      exact ⟨_, w, run_append_none (P := P) (ty := ty) (t := t) (e := e) (ad := ad) (c := 0) hu.h hsrc, .own h hn hmx hT ha hsad, hh, ⟨rfl, rfl, rfl, Nat.le_refl _, fun _ _ _ => rfl, fun _ h => h, fun _ h => .inl h, fun _ _ h => h, fun g hg => .inl hg, fun l' t' ht => .inl ⟨t', ht⟩⟩⟩
    · obtain rfl : ad = some ⟨q.g, (q.b + 0) * q.k, none⟩ := ha.resolve_left hc0
      have hroom : n + m ≤ c := by omega
      have hfit : (q.b + 0) * q.k + n * q.k + m * q.k ≤ cur.size := by
        rw [hcur, ← Nat.add_mul, ← Nat.add_mul]
        exact Nat.mul_le_mul_right _ (by omega)
      have hrun := run_append_room' (P := P) (ty := ty) (t := t) (e := e) hu.h hsrc hg hfr hroom hfit
      have hfit2 : (q.b + off2) * q.k + m * q.k ≤ cur.size := by
        rw [hcur, ← Nat.add_mul]
        exact Nat.mul_le_mul_right _ (by omega)
      have hnum : ((cur.toList.drop ((q.b + off2) * q.k)).take (m * q.k)).length = m * q.k := by simp; omega
      have e0 : (q.b + 0) * q.k + n * q.k = (q.b + n) * q.k := by rw [Nat.add_zero, ← Nat.add_mul]
      rw [e0] at hrun
      have hl1 : (xs.take n).length = n := by simp; omega
      have hl2 : ((xs.drop off2).take m).length = m := by simp; omega
      have hR := room_holds hh h hg hfr hcur hbx hmt hrow (o := n) (m := m) (by omega) (by omega) hnum (ys := xs.take n ++ (xs.drop off2).take m ++ xs.drop (n + m)) (by simp; omega) (fun i x hx' => by
        rw [List.append_assoc, List.getElem?_append, hl1] at hx'
        split at hx'
        · rename_i hin
          rw [List.getElem?_take, if_pos hin] at hx'
          exact .inl ⟨.inl hin, hx'⟩
        · rename_i hin
          rw [List.getElem?_append, hl2] at hx'
          split at hx'
          · rename_i him
            rw [List.getElem?_take, if_pos him, List.getElem?_drop] at hx'
            obtain ⟨h3, h4⟩ := hrow _ x hx'
            refine .inr ⟨by omega, h3, fun j y hy => ?_⟩
            obtain ⟨h5, u, hu', h6⟩ := h4 j y hy
            have hj : j < q.k := by rw [← h3]; exact (List.getElem?_eq_some_iff.1 hy).1
            have hp : (i - n) * q.k + j < m * q.k := by
              have := cell_at (k := q.k) (s := 0) hj him
              simpa using this
            refine ⟨h5, u, ?_, h6⟩
            rw [List.getElem?_take, if_pos hp, List.getElem?_drop, Array.getElem?_toList, ← Nat.add_assoc, ← Nat.add_mul, Nat.add_assoc q.b]
            exact hu'
          · rename_i him
            rw [List.getElem?_drop] at hx'
            have e3 : n + m + (i - n - m) = i := by omega
            rw [e3] at hx'
            exact .inl ⟨.inr (by omega), hx'⟩)
      exact ⟨_, _, hrun, .own h hroom hmx hT (.inr rfl) hsad, hR.1, hR.2⟩

theorem exec_clear {a : Act} {x : Operand} {t : TypeId} {w w' : World} {v : Value} (h : (Builtin.clear_ #[t] ty #[a.eval x]).run P w = .ok v w') :
    (execOp a.eval ⟨dst, .call ⟨.builtin .clear, #[x], #[t]⟩, ty, pos, after, g⟩).run P w = .ok (.value v) w' := by
  simp [execOp, resolve, invoke, builtin, h]

/-- clear(s[off:]): what stood there is told no more. -/
theorem eff_clear {t e : TypeId} {x : Operand} {k b l off n : Nat} {z : Value} {xs : List (List AV)} [hu : Und P t (.slice e)] [he : ElF P e z k b] (hx : st.get x = some (.own l off n)) (h1 : off + n ≤ xs.length) :
    OpEff P ⟨dst, .call ⟨.builtin .clear, #[x], #[t]⟩, ty, pos, after, g⟩ st [(l, .row e k xs)] (fun ts r => ts = [(l, .row e k (xs.take off))] ∧ r = .dead) := by
  refine ⟨?_⟩
  intro S R a w hh ho next Q hk
  have hxv := ho x (by simp [Op.operands, Call.operands]) _ hx
  have htok := hh.tok l _ List.mem_cons_self
  unfold Oper.wp
  suffices hs : ∃ r w', (Builtin.clear_ #[t] ty #[a.eval x]).run P w = .ok r w' ∧ Holds S R w' [(l, .row e k (xs.take off))] ∧ Out w S R (Foot R [(l, Tok.row e k xs)]) (fun l' => ∃ t', (l', t') ∈ [(l, Tok.row e k xs)]) S R w' [(l, .row e k (xs.take off))] by
    obtain ⟨r, w', hrun, g2, g3⟩ := hs
    rw [exec_clear hrun]
    exact hk r _ S R w' _ ⟨rfl, rfl⟩ g2 (.dead _) g3
  generalize a.eval x = sv at hxv
  cases hxv with
  | onil h =>
    simp only [TokHolds, h] at htok
    subst htok
    refine ⟨.tuple #[], w, by simp [Builtin.clear_, run_underlying hu.h], hh, ⟨rfl, rfl, rfl, Nat.le_refl _, fun _ _ _ => rfl, fun _ h => h, fun _ h => .inl h, fun _ _ h => h, fun g hg => .inl hg, fun l' t' ht => .inl ⟨_, ht⟩⟩⟩
  | own h hn hmx hT ha hsad =>
    rename_i c q ad
    simp only [TokHolds, h] at htok
    obtain ⟨rfl, cur, fr, hg, hfr, hcur, hbx, hmt, hrow⟩ := htok
    obtain ⟨i0, hi, hz, hk0, hbb, hzc, hall⟩ := he.h
    have hone : ∀ u ∈ (Builtin.zeroCells z.cells n).toList, u.oneCell' = true := fun u hu => by
      simp only [Builtin.zeroCells, Array.toList_map, List.mem_map, Array.toList_range, List.mem_range] at hu
      obtain ⟨p, hp, rfl⟩ := hu
      have hs0 : 0 < z.cells.size := Nat.pos_of_ne_zero fun e0 => by rw [e0] at hp; simp at hp
      rw [getElem!_pos z.cells (p % z.cells.size) (Nat.mod_lt _ hs0)]
      exact List.all_eq_true.1 hall _ (by simp)
    have hnum : (Builtin.zeroCells z.cells n).toList.length = n * q.k := by simp [Builtin.zeroCells, hzc]
    have hR : ∀ (news : List Value), news.length = n * q.k → _ := fun news hnum => room_holds hh h hg hfr hcur hbx hmt hrow (o := off) (m := n) (by omega) (by omega) hnum (ys := xs.take off) (by rw [List.length_take]; omega) (fun i x hx' => by
        rw [List.getElem?_take] at hx'
        split at hx'
        · rename_i hin
          exact .inl ⟨.inl hin, hx'⟩
        · cases hx')
    by_cases hn0 : n = 0
    · subst hn0
      have h2 := hR [] (by simp)
      have e2 : w.setRow q.g (seg cur ((q.b + off) * q.k) []) = w := by
        have : seg cur ((q.b + off) * q.k) [] = cur := by simp [seg]
        rw [this, setRow_self w q.g cur e fr hg]
      rw [e2] at h2
      refine ⟨.tuple #[], w, by cases ad <;> simp [Builtin.clear_, run_underlying hu.h], h2⟩
    · obtain rfl : ad = some ⟨q.g, (q.b + off) * q.k, none⟩ := ha.resolve_left (by omega)
      have hst := run_storeCells_seg P q.g e fr (Builtin.zeroCells z.cells n).toList ((q.b + off) * q.k) 0 cur w hg hfr (by
        rw [hnum, hcur, Nat.add_zero, ← Nat.add_mul]
        exact Nat.mul_le_mul_right _ (by omega)) hone
      rw [Nat.add_zero] at hst
      obtain ⟨n', rfl⟩ : ∃ n', n = n' + 1 := ⟨n - 1, by omega⟩
      exact ⟨.tuple #[], _, by simp [Builtin.clear_, run_underlying hu.h, zeroValue, typeInfo, hi, hz, hst], hR _ hnum⟩
end
end Go.Proofs.YtphkfejckafamaaDoorA
namespace Go.Proofs.YtphkfejckafamaaDoorA
section
variable {P : Program} {n : Nat} {ro : Option Nat} {G : CtxR P n ro} {l : List Oper} {sl : List (Nat × AV)} {ts : List (Nat × Tok)} {K : Kont} {d : Nat} {op : Op} {ty : TypeId} {pos : String} {after : Array Edge} {bs : List Bool} {rs : List (Nat × Tok)} {i : Nat} {r : List Nat}
/-- One that reads what is written later in the region, ahead of all that write there. -/
theorem tl_evr {x : AV} (ho : l[i]? = some ⟨some d, op, ty, pos, after, none⟩) (hb : bs.getD i false = true) (hrd : rdB l bs i = true) (he : OpEv P ⟨some d, op, ty, pos, after, none⟩ ⟨sl, ts ++ rs⟩ x) (hd : Nat.blt d n = true) (h : TL G l bs rs K r ((d, x) :: sl) ts) : TL G l bs rs K (i :: r) sl ts :=
  .evr (us1 := ts) (z := []) ho hb hrd (by rw [List.append_nil]) (.plain rfl he) hd h
/-- A call whose answer is one's own and is only read from then on; all tokens are lent to it. -/
theorem ev_callLF {st : St} {dst : Option Tmp} {g : Option (Nat × Bool)} {c : Operand} {xs : List Operand} {tys : Array TypeId} {f : FuncId} {ys zs : List AV} {x : AV} {Post : List (Nat × Tok) → AV → Prop} [Ent P f] (hF : Fn P f [] zs Post) (hcv : ∀ ts r, Post ts r → Cv ts r x ∧ AVFree r ∧ ∀ p, p ∈ ts → TokFree p.2) (hc : st.get c = some (.fn f [])) (hx : gets st xs = some ys) (hb : Cvs st.toks ys zs) :
    OpEv P ⟨dst, .call ⟨.value c, xs.toArray, tys⟩, ty, pos, after, g⟩ st x := by
  refine ⟨?_⟩
  intro S R a w hh ho next Q hk
  refine (effr_callL (st := st) (us := []) hF (fun ts r hp => (hcv ts r hp).2) hc hx hb).h S R a w (by simpa using hh) ho next Q ?_
  rintro v r S' R' w' ts' hpost h2 hrep o
  have hno : ∀ (R : Lab) (g : Nat), ¬ Foot R [] g := by rintro R g ⟨_, _, h, _⟩; simp at h
  let S'' : Nat → Prop := fun b => S' b ∨ Foot R' ts' b
  have hnew : ∀ b, Foot R' ts' b → w.heap.size ≤ b := fun b hb => (o.foot b hb).resolve_left (hno _ b)
  have hlt : ∀ b, Foot R' ts' b → b < w'.heap.size := fun b ⟨l, t, hm, hg⟩ => (h2.tok l t hm).lt hg
  refine hk v S'' R' w' ⟨⟨o.os, o.tape, o.output, o.size, fun b hb => o.block b hb (hno _ b)⟩, fun b hb => .inl (o.S0 b hb), fun b hb => ?_, o.R0, h2.top⟩ ?_
  · rcases hb with hb | hb
    · rcases o.S1 b hb with h1 | h1 | h1
      · exact .inl h1
      · exact (hno _ b h1).elim
      · exact .inr ⟨h1, h2.low b hb⟩
    · exact .inr ⟨hnew b hb, hlt b hb⟩
  · exact (hcv ts' r hpost).1 S' S'' R' w' h2 (fun _ h => .inl h) (fun g hg => .inr hg) v (hrep.mono (fun _ h => .inl h) (fun _ _ h => h) (fun _ _ => rfl))
end
end Go.Proofs.YtphkfejckafamaaDoorA
