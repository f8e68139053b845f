/- Appends, slice literals, what is no longer written. -/
import Derived.Test.YtmenbolalghljaaAw8
set_option linter.unusedVariables false
namespace Go.Proofs.YtmenbolalghljaaA
open Go.RowKit

section
variable {P : Program} {st : St} {dst : Option Tmp} {ty : TypeId} {pos : String} {after : Array Edge} {g : Option (Nat × Bool)}

/-- What is appended: how many, and their cells. -/
structure Src (P : Program) (w : World) (k m : Nat) (t2 : TypeId) (v : Value) (news : List Value) : Prop where
  ty : P.underlying t2 = some .string ∨ ∃ e, P.underlying t2 = some (.slice e)
  len : ∀ w', (Builtin.lenOf v).run P w' = .ok m w'
  cells : ∀ w' : World, w'.heap = w.heap → (Builtin.firstCells k m v).run P w' = .ok news.toArray w'
  num : news.length = m * k
  one : ∀ u ∈ news, u.oneCell' = true

theorem run_append_room' {w : World} {t t2 e : TypeId} {z : Value} {k b : Nat} [he : ElF P e z k b] (ht : P.underlying t = some (.slice e)) {gb o n c m : Nat} {cur : Array Value} {t0 : TypeId} {fr : Nat × Nat} {v : Value} {news : List Value}
    (hs : Src P w k m t2 v news) (hg : w.heap[gb]? = some (.cells cur t0 fr)) (hfr : cur.size ≤ fr.1 ∨ fr = (0, 0)) (hroom : n + m ≤ c) (hfit : o + n * k + m * k ≤ cur.size) :
    (Builtin.append_ #[t, t2] ty #[.slice (some ⟨gb, o, none⟩) n c, v]).run P w = .ok (.slice (some ⟨gb, o, none⟩) (n + m) c) (w.setRow gb (seg cur (o + n * k) news)) := by
  have hst := run_storeCells_seg P gb t0 fr news (o + n * k) 0 cur w hg hfr (by rw [hs.num]; omega) hs.one
  simp only [Nat.add_zero] at hst
  have hc := hs.cells w rfl
  rcases hs.ty with hd | ⟨e2, hd⟩ <;>
    simp only [Builtin.append_, List.getElem?_toArray, List.getElem?_cons_zero, List.getElem?_cons_succ, Sem.run_bind, run_underlying ht, Result.andThen_ok, ElF.size (P := P) (t := e), run_underlying hd, Sem.run_pure,
      Bool.false_eq_true, if_false, hs.len, hroom, if_true, Bool.not_false, hc, add_mk, hst]

/-- Nothing is appended. -/
theorem run_append_none {w : World} {t t2 e : TypeId} {z : Value} {k b : Nat} [he : ElF P e z k b] (ht : P.underlying t = some (.slice e)) {ad : Option Addr} {c : Nat} {v : Value} (hs : Src P w k 0 t2 v []) :
    (Builtin.append_ #[t, t2] ty #[.slice ad 0 c, v]).run P w = .ok (.slice ad 0 c) w := by
  have hc := hs.cells w rfl
  have hl := hs.len w
  have h0 : 0 + 0 ≤ c := Nat.zero_le _
  rcases hs.ty with hd | ⟨e2, hd⟩ <;> cases ad <;>
    simp only [Builtin.append_, List.getElem?_toArray, List.getElem?_cons_zero, List.getElem?_cons_succ, Sem.run_bind, run_underlying ht, Result.andThen_ok, ElF.size (P := P) (t := e), run_underlying hd, Sem.run_pure,
      Bool.false_eq_true, if_false, hl, h0, if_true, Bool.not_false, hc, storeCells]

theorem run_append_grow' {w : World} {t t2 e : TypeId} {z : Value} {k b : Nat} [he : ElF P e z k b] (ht : P.underlying t = some (.slice e)) {base : Option Addr} {n c m : Nat} {v : Value} {olds news : List Value}
    (hs : Src P w k m t2 v news) (ho : ∀ w' : World, w'.heap = w.heap → (Builtin.firstCells k n (.slice base n c)).run P w' = .ok olds.toArray w') (hroom : c < n + m) (hb : (n + m) * b ≤ 140737488355328) (hm : n + m ≤ 140737488355328) :
    (Builtin.append_ #[t, t2] ty #[.slice base n c, v]).run P w = .ok (.slice (some ⟨w.heap.size, 0, none⟩) (n + m) (grownCap w (n + m) c e))
      (w.drew.alloc (.cells (olds.toArray ++ news.toArray ++ Builtin.zeroCells z.cells (grownCap w (n + m) c e - (n + m))) e)) := by
  obtain ⟨i, hi, hz, hk, hbb, hzc, hall⟩ := he.h
  have h48 := growslice_fits hroom hb
  subst hk
  subst hbb
  have hn : ¬ (n + m ≤ c) := by omega
  have h63' : ¬ (9223372036854775807 < ((n : Int) + (m : Int))) := by omega
  have h48' : ¬ (281474976710656 < Builtin.nextslicecap (n + m) c * i.bytes) := by omega
  have hc1 := hs.cells w.drew rfl
  have hc2 := ho w.drew rfl
  have hl := hs.len w
  rcases hs.ty with hd | ⟨e2, hd⟩ <;>
    simp [Builtin.append_, run_underlying ht, run_underlying hd, sizeOf, typeInfo, zeroValue, hi, hz, hl, hn, h63', h48', Question.forced, hc1, hc2, newRow, grownCap] <;>
    (congr 2; apply Array.ext'; simp)

theorem src_sl {S : Nat → Prop} {R : Lab} {w : World} {t e : TypeId} {k n : Nat} {xs : List (List AV)} {v : Value} (ht : P.underlying t = some (.slice e)) (h : RepV S R w (.sl k xs n) v) :
    ∃ news, Src P w k n t v news ∧ ∀ (i : Nat) (x : List AV), i < n → xs[i]? = some x → x.length = k ∧ ∀ (j : Nat) (y : AV), x[j]? = some y → y.one = true ∧ ∃ u, news[i * k + j]? = some u ∧ RepV S R w y u := by
  cases h with
  | sl hn hc hm hk ha h1 hF =>
    rename_i c a F
    let news : List Value := (List.range (n * k)).map fun p => F (p / k) (p % k)
    have hget : ∀ p, p < n * k → ∃ x y, xs[p / k]? = some x ∧ x[p % k]? = some y := fun p hp => by
      have hk0 : 0 < k := Nat.pos_of_ne_zero (fun e => by subst e; simp at hp)
      have hq : p / k < n := Nat.div_lt_of_lt_mul (by rwa [Nat.mul_comm] at hp)
      have hx : p / k < xs.length := by omega
      have hxl := hk _ (List.getElem_mem hx)
      exact ⟨xs[p / k], _, List.getElem?_eq_getElem hx, List.getElem?_eq_getElem (by rw [hxl]; exact Nat.mod_lt _ hk0)⟩
    have hnews : ∀ (p : Nat) (u : Value), news[p]? = some u → p < n * k ∧ u = F (p / k) (p % k) := fun p u hu => by
      simp only [news, List.getElem?_map, Option.map_eq_some_iff] at hu
      obtain ⟨q, hq, rfl⟩ := hu
      have := List.getElem?_eq_some_iff.1 hq
      obtain ⟨h1, h2⟩ := this
      simp at h1 h2
      subst h2
      exact ⟨h1, rfl⟩
    refine ⟨news, ⟨.inr ⟨_, ht⟩, fun w' => by simp [Builtin.lenOf], fun w' hw => ?_, by simp [news], fun u hu => ?_⟩, fun i x hi hx => ⟨hk x (List.mem_of_getElem? hx), fun j y hy => ⟨h1 x (List.mem_of_getElem? hx) y (List.mem_of_getElem? hy), F i j, ?_, hF i x j y hx hy⟩⟩⟩
    · by_cases hx0 : xs = []
      · subst hx0
        have hn0 : n = 0 := by simpa using hn
        subst hn0
        have : news = [] := by simp [news]
        rw [this]
        cases a <;> simp [Builtin.firstCells, loadCells, loadCellsFrom]
      · obtain ⟨ad, rfl, hS, hcell⟩ := ha hx0
        refine run_firstCells_some (P := P) w' k n ad n c news (by simp [news]) (fun p u hu => ?_)
        obtain ⟨hp, rfl⟩ := hnews p u hu
        obtain ⟨x, y, hx, hy⟩ := hget p hp
        have := hcell _ x _ y hx hy
        have e1 : p / k * k + p % k = p := by rw [Nat.mul_comm]; exact Nat.div_add_mod p k
        rw [e1] at this
        rw [← this]
        exact World.cell?_of_block (by rw [hw])
    · obtain ⟨p, hp⟩ := List.getElem?_of_mem hu
      obtain ⟨hp', rfl⟩ := hnews p u hp
      obtain ⟨x, y, hx, hy⟩ := hget p hp'
      exact (hF _ x _ y hx hy).one (h1 x (List.mem_of_getElem? hx) y (List.mem_of_getElem? hy))
    · have hj : j < k := by rw [← hk x (List.mem_of_getElem? hx)]; exact (List.getElem?_eq_some_iff.1 hy).1
      have hp : i * k + j < n * k := by
        calc i * k + j < i * k + k := by omega
          _ = (i + 1) * k := by rw [Nat.add_mul]; omega
          _ ≤ n * k := Nat.mul_le_mul_right _ (by omega)
      have hk0 : 0 < k := by omega
      have e1 : (i * k + j) / k = i := by rw [Nat.mul_comm, Nat.mul_add_div hk0, Nat.div_eq_of_lt hj]; rfl
      have e2 : (i * k + j) % k = j := by rw [Nat.mul_comm, Nat.mul_add_mod, Nat.mod_eq_of_lt hj]
      simp [news, hp, e1, e2]

theorem src_str {w : World} {t2 : TypeId} {s : ByteArray} (ht : P.underlying t2 = some .string) : Src P w 1 s.size t2 (.string s) (s.data.toList.map fun b => .int .u8 b.toNat) := by
  refine ⟨.inl ht, fun w' => by simp [Builtin.lenOf], fun w' _ => ?_, by simp, fun u hu => by simp at hu; obtain ⟨b, _, rfl⟩ := hu; rfl⟩
  have : s.extract 0 s.size = s := by simp
  simp [Builtin.firstCells, this]
  apply Array.ext'
  simp

/-- The whole of an append onto a row of one's own. -/
theorem app_core2 {S : Nat → Prop} {R : Lab} {w : World} {t t2 e : TypeId} {z : Value} {k b l off n m : Nat} {xs ys : List (List AV)} {sv v : Value} {news : List Value} [hu : Und P t (.slice e)] [he : ElF P e z k b]
    (hh : Holds S R w [(l, .row e k xs)]) (hsv : RepV S R w (.own l off n) sv) (hoff : off + n ≤ xs.length) (hs : Src P w k m t2 v news)
    (hrep : ∀ (i : Nat) (x : List AV), ys[i]? = some x → i < m → x.length = k ∧ ∀ (j : Nat) (y : AV), x[j]? = some y → y.one = true ∧ ∃ u, news[i * k + j]? = some u ∧ RepV S R w y u) (hm : ys.length = m) (hb : (n + m) * b ≤ 140737488355328) (hnm : n + m ≤ 140737488355328) :
    ∃ r w' R' N, (Builtin.append_ #[t, t2] ty #[sv, v]).run P w = .ok r w' ∧ Holds S R' w' [(N, .row e k ((xs.drop off).take n ++ ys))] ∧ RepV S R' w' (.own N 0 (n + m)) r ∧ Out w S R (Foot R [(l, Tok.row e k xs)]) (fun l' => ∃ t', (l', t') ∈ [(l, Tok.row e k xs)]) S R' w' [(N, .row e k ((xs.drop off).take n ++ ys))] ∧ R N = none ∧ ((∃ q, R l = some (some q) ∧ R' N = some (some ⟨q.g, q.b + off, q.k, q.t⟩)) ∨ Out w S R (Foot R []) (fun l' => ∃ t', (l', t') ∈ ([] : List (Nat × Tok))) S R' w' [(N, .row e k ((xs.drop off).take n ++ ys))]) := by
  obtain ⟨N, hN⟩ := hh.free
  have htok := hh.tok l _ (List.mem_cons_self)
  have hlen : ((xs.drop off).take n ++ ys).length = n + m := by simp; omega
  have hml : maxLen = 9223372036854775807 := rfl
  -- what a fresh block gives
  have fresh : ∀ (base : Option Addr) (c : Nat) (olds : List Value), c < n + m → (∀ w' : World, w'.heap = w.heap → (Builtin.firstCells k n (.slice base n c)).run P w' = .ok olds.toArray w') → olds.length = n * k →
      (∀ (i : Nat) (x : List AV), (xs.drop off)[i]? = some x → i < n → x.length = k ∧ ∀ (j : Nat) (y : AV), x[j]? = some y → y.one = true ∧ ∃ u, olds[i * k + j]? = some u ∧ RepV S R w y u) →
      ∃ r w' R' N, (Builtin.append_ #[t, t2] ty #[.slice base n c, v]).run P w = .ok r w' ∧ Holds S R' w' [(N, .row e k ((xs.drop off).take n ++ ys))] ∧ RepV S R' w' (.own N 0 (n + m)) r ∧ Out w S R (Foot R []) (fun l' => ∃ t', (l', t') ∈ ([] : List (Nat × Tok))) S R' w' [(N, .row e k ((xs.drop off).take n ++ ys))] ∧ R N = none := by
    intro base c olds hc hol hoz hor
    have hrun := run_append_grow' (P := P) (ty := ty) (t := t) (e := e) hu.h hs hol hc hb hnm
    have hge := grownCap_ge w (n + m) c e
    have hle := grownCap_le_maxLen w (n + m) c e (by rw [hml]; omega)
    obtain ⟨i0, hi, hz, hk0, hbb, hzc, hall⟩ := he.h
    have hf := fresh_row (S := S) (R := R) (w := w) (N := N) (e := e) (w1 := w.drew) hN hh.top hh.low ((Below.refl _ w).drew) rfl
      (cur := olds.toArray ++ news.toArray ++ Builtin.zeroCells z.cells (grownCap w (n + m) c e - (n + m))) (k := k) (t := grownCap w (n + m) c e) (xs := (xs.drop off).take n ++ ys)
      (by simp only [Array.size_append, List.size_toArray, size_zeroCells, hzc, hoz, hs.num, ← Nat.add_mul]; congr 1; omega) (by omega) hle (fun i x hx => by
        rw [List.getElem?_append] at hx
        simp only [Array.append_assoc]
        split at hx
        · rename_i hlt
          have hin : i < n := by simp at hlt; omega
          rw [List.getElem?_take, if_pos hin] at hx
          obtain ⟨h1, h2⟩ := hor i x hx hin
          refine ⟨h1, fun j y hy => ?_⟩
          obtain ⟨h3, u, hu', h4⟩ := h2 j y hy
          have hlt' : i * k + j < olds.length := (List.getElem?_eq_some_iff.1 hu').1
          exact ⟨h3, u, by rw [Array.getElem?_append_left (by simpa using hlt')]; simpa using hu', h4⟩
        · rename_i hge'
          have hl : ((xs.drop off).take n).length = n := by simp; omega
          rw [hl] at hx hge'
          obtain ⟨h1, h2⟩ := hrep (i - n) x hx (by rw [← hm]; exact (List.getElem?_eq_some_iff.1 hx).1)
          refine ⟨h1, fun j y hy => ?_⟩
          obtain ⟨h3, u, hu', h4⟩ := h2 j y hy
          have hlt' : (i - n) * k + j < news.length := (List.getElem?_eq_some_iff.1 hu').1
          have e1 : i * k + j - olds.length = (i - n) * k + j := by
            have : i * k = (i - n) * k + n * k := by rw [← Nat.add_mul]; congr 1; omega
            omega
          have hge2 : olds.length ≤ i * k + j := by
            rw [hoz]
            have : n * k ≤ i * k := Nat.mul_le_mul_right _ (by omega)
            omega
          refine ⟨h3, u, ?_, h4⟩
          rw [Array.getElem?_append_right (by simpa using hge2), Array.getElem?_append_left (by simp only [List.size_toArray]; omega)]
          simp only [List.size_toArray, e1]
          simpa using hu')
    refine ⟨_, _, _, N, hrun, hf.1, ?_, hf.2, hN⟩
    have := RepV.own (S := S) (R := bindL R N (some ⟨w.heap.size, 0, k, grownCap w (n + m) c e⟩)) (w := w.drew.alloc (.cells (olds.toArray ++ news.toArray ++ Builtin.zeroCells z.cells (grownCap w (n + m) c e - (n + m))) e)) (off := 0) (n := n + m) (c := grownCap w (n + m) c e) (a := some ⟨w.heap.size, 0, none⟩) bindL_same hge hle (by simp) (.inr (by simp)) ⟨_, rfl, rfl⟩
    exact this
  have out_of : ∀ {S' : Nat → Prop} {R' : Lab} {w' : World} {ts' : List (Nat × Tok)}, Out w S R (Foot R []) (fun l' => ∃ t', (l', t') ∈ ([] : List (Nat × Tok))) S' R' w' ts' → Out w S R (Foot R [(l, Tok.row e k xs)]) (fun l' => ∃ t', (l', t') ∈ [(l, Tok.row e k xs)]) S' R' w' ts' := fun o =>
    have hno : ∀ g, ¬ Foot R [] g := by rintro g ⟨_, _, h, _⟩; simp at h
    ⟨o.os, o.tape, o.output, o.size, fun b hb _ => o.block b hb (hno b), o.S0, fun b hb => (o.S1 b hb).imp id (fun h => h.imp (fun h => (hno b h).elim) id), o.R0, fun g hg => (o.foot g hg).imp (fun h => (hno g h).elim) id, fun l' t' ht => by
      rcases o.keys l' t' ht with ⟨t2, h2⟩ | h2
      · simp at h2
      · exact .inr h2⟩
  cases hsv with
  | onil h =>
    simp only [TokHolds, h] at htok
    subst htok
    by_cases hm0 : m = 0
    · subst hm0
      have hys : ys = [] := List.eq_nil_of_length_eq_zero hm
      subst hys
      have hnews : news = [] := List.eq_nil_of_length_eq_zero (by rw [hs.num]; simp)
      subst hnews
      have hrun := run_append_none (P := P) (ty := ty) (t := t) (e := e) (ad := none) (c := 0) hu.h hs
      refine ⟨_, w, bindL R N none, N, hrun, ⟨bindL_top hh.top, by simp, ?_, ?_, hh.low⟩, .onil bindL_same, ⟨rfl, rfl, rfl, Nat.le_refl _, fun _ _ _ => rfl, fun _ h => h, fun _ h => .inl h, bindL_mono hN, ?_, ?_⟩, hN, .inr ⟨rfl, rfl, rfl, Nat.le_refl _, fun _ _ _ => rfl, fun _ h => h, fun _ h => .inl h, bindL_mono hN, ?_, ?_⟩⟩
      · intro l' t' hm'
        simp at hm'
        obtain ⟨rfl, rfl⟩ := hm'
        simp [TokHolds, bindL_same]
      · rintro g ⟨l', t', hm', hg⟩
        simp at hm'
        obtain ⟨rfl, rfl⟩ := hm'
        simp [blkOf, bindL_same] at hg
      · rintro g ⟨l', t', hm', hg⟩
        simp at hm'
        obtain ⟨rfl, rfl⟩ := hm'
        simp [blkOf, bindL_same] at hg
      · intro l' t' hm'
        simp at hm'
        exact .inr (by rw [hm'.1]; exact hN)
      · rintro g ⟨l', t', hm', hg⟩
        simp at hm'
        obtain ⟨rfl, rfl⟩ := hm'
        simp [blkOf, bindL_same] at hg
      · intro l' t' hm'
        simp at hm'
        exact .inr (by rw [hm'.1]; exact hN)
    · obtain ⟨r, w', R', N', h1, h2, h3, h4, h5⟩ := fresh none 0 [] (by omega) (fun w' _ => by simp [Builtin.firstCells]) (by simp) (by simp)
      exact ⟨r, w', R', N', h1, h2, h3, out_of h4, h5, .inr h4⟩
  | own h hn hmx hT ha hsad =>
    rename_i c q ad
    simp only [TokHolds, h] at htok
    obtain ⟨rfl, cur, fr, hg, hfr, hcur, hbx, hmt, hrow⟩ := htok
    have hcells : ∀ (i : Nat) (x : List AV), (xs.drop off)[i]? = some x → i < n → x.length = q.k ∧ ∀ (j : Nat) (y : AV), x[j]? = some y → y.one = true ∧ ∃ u, cur[(q.b + off + i) * q.k + j]? = some u ∧ RepV S R w y u := fun i x hx hi => by
      rw [List.getElem?_drop] at hx
      have := hrow _ x hx
      rw [← Nat.add_assoc] at this
      exact this
    by_cases hroom : n + m ≤ c
    · -- it is written in its place
      by_cases hc0 : c = 0
      · -- nothing at all
        subst hc0
        obtain ⟨rfl, rfl⟩ : n = 0 ∧ m = 0 := by omega
        have hys : ys = [] := List.eq_nil_of_length_eq_zero hm
        subst hys
        have hnews : news = [] := List.eq_nil_of_length_eq_zero (by rw [hs.num]; simp)
        subst hnews
        have hrun := run_append_none (P := P) (ty := ty) (t := t) (e := e) (ad := ad) (c := 0) hu.h hs
        refine ⟨_, w, bindL R N (some ⟨q.g, q.b + off, q.k, q.t⟩), N, hrun, ⟨bindL_top hh.top, by simp, ?_, ?_, hh.low⟩, ?_, ⟨rfl, rfl, rfl, Nat.le_refl _, fun _ _ _ => rfl, fun _ h => h, fun _ h => .inl h, bindL_mono hN, ?_, ?_⟩, hN, .inl ⟨q, h, bindL_same⟩⟩
        · intro l' t' hm'
          simp at hm'
          obtain ⟨rfl, rfl⟩ := hm'
          simp only [TokHolds, bindL_same]
          exact ⟨trivial, cur, fr, hg, hfr, hcur, by simp; omega, hmt, by simp [RowAt]⟩
        · rintro g ⟨l', t', hm', hg'⟩
          simp at hm'
          obtain ⟨rfl, rfl⟩ := hm'
          simp [blkOf, bindL_same] at hg'
          subst hg'
          exact hh.notS _ ⟨l, _, List.mem_cons_self, by simp [blkOf, h]⟩
        · exact .own bindL_same (by omega) hmx (by simpa using hT) (.inl rfl) hsad
        · rintro g ⟨l', t', hm', hg'⟩
          simp at hm'
          obtain ⟨rfl, rfl⟩ := hm'
          simp [blkOf, bindL_same] at hg'
          subst hg'
          exact .inl ⟨l, _, List.mem_cons_self, by simp [blkOf, h]⟩
        · intro l' t' hm'
          simp at hm'
          exact .inr (by rw [hm'.1]; exact hN)
      · obtain rfl : ad = some ⟨q.g, (q.b + off) * q.k, none⟩ := ha.resolve_left hc0
        have hfit : (q.b + off) * q.k + n * q.k + m * q.k ≤ cur.size := by
          rw [hcur, ← Nat.add_mul, ← Nat.add_mul]
          exact Nat.mul_le_mul_right _ (by omega)
        have hrun := run_append_room' (P := P) (ty := ty) (t := t) (e := e) hu.h hs hg hfr hroom hfit
        have hfit' : (q.b + off) * q.k + n * q.k + news.length ≤ cur.size := by rw [hs.num]; exact hfit
        have hlow : ∀ b, S b → (w.setRow q.g (seg cur ((q.b + off) * q.k + n * q.k) news)).heap[b]? = w.heap[b]? := fun b hb => by
          rw [setRow_other]
          rintro rfl
          exact hh.notS q.g ⟨l, _, List.mem_cons_self, by simp [blkOf, h]⟩ hb
        refine ⟨_, _, bindL R N (some ⟨q.g, q.b + off, q.k, q.t⟩), N, hrun, ⟨bindL_top hh.top, by simp, ?_, ?_, fun b hb => by simpa using hh.low b hb⟩, ?_, ⟨rfl, rfl, rfl, by simp, fun b hb hf => ?_, fun _ h => h, fun _ h => .inl h, bindL_mono hN, ?_, ?_⟩, hN, .inl ⟨q, h, bindL_same⟩⟩
        · intro l' t' hm'
          simp at hm'
          obtain ⟨rfl, rfl⟩ := hm'
          simp only [TokHolds, bindL_same]
          refine ⟨trivial, _, fr, setRow_heap w q.g cur _ e _ hg, by rw [seg_size hfit']; exact hfr, by rw [seg_size hfit']; exact hcur, by simp only [hlen]; omega, hmt, fun i x hx => ?_⟩
          rw [List.getElem?_append] at hx
          have hl : ((xs.drop off).take n).length = n := by simp; omega
          rw [hl] at hx
          split at hx
          · rename_i hin
            rw [List.getElem?_take, if_pos hin] at hx
            obtain ⟨h1, h2⟩ := hcells i x hx hin
            refine ⟨h1, fun j y hy => ?_⟩
            obtain ⟨h3, u, hu', h4⟩ := h2 j y hy
            have hj : j < q.k := by rw [← h1]; exact (List.getElem?_eq_some_iff.1 hy).1
            refine ⟨h3, u, ?_, h4.mono (fun _ h => h) (bindL_mono hN) hlow⟩
            rw [seg_get hfit', if_pos]
            · exact hu'
            · have : (q.b + off + i) * q.k + q.k ≤ (q.b + off) * q.k + n * q.k := by
                rw [← Nat.add_mul]
                calc (q.b + off + i) * q.k + q.k = (q.b + off + i + 1) * q.k := by rw [Nat.add_mul (q.b + off + i) 1]; omega
                  _ ≤ (q.b + off + n) * q.k := Nat.mul_le_mul_right _ (by omega)
              show (q.b + off + i) * q.k + j < _
              omega
          · rename_i hin
            obtain ⟨h1, h2⟩ := hrep (i - n) x hx (by rw [← hm]; exact (List.getElem?_eq_some_iff.1 hx).1)
            refine ⟨h1, fun j y hy => ?_⟩
            obtain ⟨h3, u, hu', h4⟩ := h2 j y hy
            refine ⟨h3, u, ?_, h4.mono (fun _ h => h) (bindL_mono hN) hlow⟩
            have hlt' : (i - n) * q.k + j < news.length := (List.getElem?_eq_some_iff.1 hu').1
            have e1 : (q.b + off + i) * q.k + j = (q.b + off) * q.k + n * q.k + ((i - n) * q.k + j) := by
              rw [← Nat.add_mul, ← Nat.add_assoc, ← Nat.add_mul]; congr 2; omega
            show (seg cur ((q.b + off) * q.k + n * q.k) news)[(q.b + off + i) * q.k + j]? = some u
            rw [e1, seg_get hfit', if_neg (by omega), if_pos (by omega)]
            rw [Nat.add_sub_cancel_left]
            exact hu'
        · rintro g ⟨l', t', hm', hg'⟩
          simp at hm'
          obtain ⟨rfl, rfl⟩ := hm'
          simp [blkOf, bindL_same] at hg'
          subst hg'
          exact hh.notS _ ⟨l, _, List.mem_cons_self, by simp [blkOf, h]⟩
        · exact .own bindL_same hroom hmx (by simpa using hT) (.inr (by simp)) ⟨_, rfl, rfl⟩
        · rw [setRow_other]
          rintro rfl
          exact hf ⟨l, _, List.mem_cons_self, by simp [blkOf, h]⟩
        · rintro g ⟨l', t', hm', hg'⟩
          simp at hm'
          obtain ⟨rfl, rfl⟩ := hm'
          simp [blkOf, bindL_same] at hg'
          subst hg'
          exact .inl ⟨l, _, List.mem_cons_self, by simp [blkOf, h]⟩
        · intro l' t' hm'
          simp at hm'
          exact .inr (by rw [hm'.1]; exact hN)
    · -- a new block
      have hol : ∃ olds : List Value, (∀ w' : World, w'.heap = w.heap → (Builtin.firstCells q.k n (.slice ad n c)).run P w' = .ok olds.toArray w') ∧ olds.length = n * q.k ∧
          (∀ (i : Nat) (x : List AV), (xs.drop off)[i]? = some x → i < n → x.length = q.k ∧ ∀ (j : Nat) (y : AV), x[j]? = some y → y.one = true ∧ ∃ u, olds[i * q.k + j]? = some u ∧ RepV S R w y u) := by
        by_cases hn0 : n = 0
        · subst hn0
          refine ⟨[], fun w' _ => ?_, by simp, fun i x _ hi => by omega⟩
          cases ad <;> simp [Builtin.firstCells, loadCells, loadCellsFrom]
        · obtain rfl : ad = some ⟨q.g, (q.b + off) * q.k, none⟩ := ha.resolve_left (by omega)
          have hsz : (q.b + off) * q.k + n * q.k ≤ cur.size := by
            rw [hcur, ← Nat.add_mul]
            exact Nat.mul_le_mul_right _ (by omega)
          refine ⟨(cur.toList.drop ((q.b + off) * q.k)).take (n * q.k), fun w' hw => ?_, by simp; omega, fun i x hx hi => ?_⟩
          · refine run_firstCells_some (P := P) w' q.k n _ n c _ (by simp; omega) (fun p u hu => ?_)
            have hp : p < n * q.k := by
              have := (List.getElem?_eq_some_iff.1 hu).1
              simp at this; omega
            rw [List.getElem?_take, if_pos hp, List.getElem?_drop, Array.getElem?_toList] at hu
            rw [add_mk, World.cell?_of_block (w := w) (by rw [hw]), cell_of_row w q.g _ cur e fr hg]
            exact hu
          · obtain ⟨h1, h2⟩ := hcells i x hx hi
            refine ⟨h1, fun j y hy => ?_⟩
            obtain ⟨h3, u, hu', h4⟩ := h2 j y hy
            have hj : j < q.k := by rw [← h1]; exact (List.getElem?_eq_some_iff.1 hy).1
            have hp : i * q.k + j < n * q.k := by
              calc i * q.k + j < i * q.k + q.k := by omega
                _ = (i + 1) * q.k := by rw [Nat.add_mul]; omega
                _ ≤ n * q.k := Nat.mul_le_mul_right _ (by omega)
            refine ⟨h3, u, ?_, h4⟩
            rw [List.getElem?_take, if_pos hp, List.getElem?_drop, Array.getElem?_toList, ← Nat.add_assoc, ← Nat.add_mul]
            exact hu'
      obtain ⟨olds, ho1, ho2, ho3⟩ := hol
      obtain ⟨r, w', R', N', h1, h2, h3, h4, h5⟩ := fresh ad c olds (by omega) ho1 ho2 ho3
      exact ⟨r, w', R', N', h1, h2, h3, out_of h4, h5, .inr h4⟩

/-- The whole of an append onto a row of one's own. -/
theorem app_core {S : Nat → Prop} {R : Lab} {w : World} {t t2 e : TypeId} {z : Value} {k b l off n m : Nat} {xs ys : List (List AV)} {sv v : Value} {news : List Value} [hu : Und P t (.slice e)] [he : ElF P e z k b]
    (hh : Holds S R w [(l, .row e k xs)]) (hsv : RepV S R w (.own l off n) sv) (hoff : off + n ≤ xs.length) (hs : Src P w k m t2 v news)
    (hrep : ∀ (i : Nat) (x : List AV), ys[i]? = some x → i < m → x.length = k ∧ ∀ (j : Nat) (y : AV), x[j]? = some y → y.one = true ∧ ∃ u, news[i * k + j]? = some u ∧ RepV S R w y u) (hm : ys.length = m) (hb : (n + m) * b ≤ 140737488355328) (hnm : n + m ≤ 140737488355328) :
    ∃ r w' R' N, (Builtin.append_ #[t, t2] ty #[sv, v]).run P w = .ok r w' ∧ Holds S R' w' [(N, .row e k ((xs.drop off).take n ++ ys))] ∧ RepV S R' w' (.own N 0 (n + m)) r ∧ Out w S R (Foot R [(l, Tok.row e k xs)]) (fun l' => ∃ t', (l', t') ∈ [(l, Tok.row e k xs)]) S R' w' [(N, .row e k ((xs.drop off).take n ++ ys))] := by
  obtain ⟨r, w', R', N, h1, h2, h3, h4, _⟩ := app_core2 (P := P) (ty := ty) (t := t) (t2 := t2) hh hsv hoff hs hrep hm hb hnm
  exact ⟨r, w', R', N, h1, h2, h3, h4⟩

theorem exec_append {a : Act} {x y : Operand} {t t2 : TypeId} {w w' : World} {v : Value} (h : (Builtin.append_ #[t, t2] ty #[a.eval x, a.eval y]).run P w = .ok v w') :
    (execOp a.eval ⟨dst, .call ⟨.builtin .append, #[x, y], #[t, t2]⟩, ty, pos, after, g⟩).run P w = .ok (.value v) w' := by
  simp [execOp, resolve, invoke, builtin, h]

/-- append(own, immutable...) -/
theorem eff_append {t e : TypeId} {x y : Operand} {k b l off n m : Nat} {z : Value} {xs ys : List (List AV)} [hu : Und P t (.slice e)] [he : ElF P e z k b] (hx : st.get x = some (.own l off n)) (hy : st.get y = some (.sl k ys m)) (hoff : off + n ≤ xs.length) (hb : (n + m) * b ≤ 140737488355328) (hnm : n + m ≤ 140737488355328) :
    OpEff P ⟨dst, .call ⟨.builtin .append, #[x, y], #[t, t]⟩, ty, pos, after, g⟩ st [(l, .row e k xs)] (fun ts r => ∃ l', ts = [(l', .row e k ((xs.drop off).take n ++ ys.take m))] ∧ r = .own l' 0 (n + m)) := by
  refine ⟨?_⟩
  intro S R a w hh ho next Q hk
  have hxv := ho x (by simp [Op.operands, Call.operands]) _ hx
  have hyv := ho y (by simp [Op.operands, Call.operands]) _ hy
  obtain ⟨news, hs, hrep⟩ := src_sl (P := P) hu.h hyv
  have hm : (ys.take m).length = m := by
    generalize a.eval y = u at hyv
    cases hyv with
    | sl hn _ _ _ _ _ _ => simp; omega
  obtain ⟨r, w', R', N, hrun, h1, h2, h3⟩ := app_core (P := P) (ty := ty) (t := t) (t2 := t) (ys := ys.take m) hh hxv hoff hs (fun i x hx' hi => hrep i x hi (by rwa [List.getElem?_take, if_pos hi] at hx')) hm hb hnm
  unfold Oper.wp
  rw [exec_append hrun]
  exact hk r _ S R' w' _ ⟨N, rfl, rfl⟩ h1 h2 h3

/-- append(own, string...) -/
theorem eff_append_str {t t2 e : TypeId} {x y : Operand} {b l off n : Nat} {z : Value} {xs : List (List AV)} {s : ByteArray} [hu : Und P t (.slice e)] [he : ElF P e z 1 b] [hu2 : Und P t2 .string] (hx : st.get x = some (.own l off n)) (hy : st.get y = some (.val (.string s))) (hoff : off + n ≤ xs.length) (hb : (n + s.size) * b ≤ 140737488355328) (hnm : n + s.size ≤ 140737488355328) :
    OpEff P ⟨dst, .call ⟨.builtin .append, #[x, y], #[t, t2]⟩, ty, pos, after, g⟩ st [(l, .row e 1 xs)] (fun ts r => ∃ l', ts = [(l', .row e 1 ((xs.drop off).take n ++ s.data.toList.map fun c => [.val (.int .u8 c.toNat)]))] ∧ r = .own l' 0 (n + s.size)) := by
  refine ⟨?_⟩
  intro S R a w hh ho next Q hk
  have hxv := ho x (by simp [Op.operands, Call.operands]) _ hx
  have hyv := rep_val (ho y (by simp [Op.operands, Call.operands]) _ hy)
  have hs := src_str (P := P) (w := w) (s := s) hu2.h
  rw [← hyv] at hs
  obtain ⟨r, w', R', N, hrun, h1, h2, h3⟩ := app_core (P := P) (ty := ty) (t := t) (t2 := t2) (ys := s.data.toList.map fun c => [.val (.int .u8 c.toNat)]) hh hxv hoff hs (fun i x hx' hi => by
    simp only [List.getElem?_map, Option.map_eq_some_iff] at hx'
    obtain ⟨c, hc, rfl⟩ := hx'
    refine ⟨rfl, fun j y hy' => ?_⟩
    match j, hy' with
    | 0, hy' =>
      cases hy'
      exact ⟨rfl, _, by simp only [Nat.mul_one, Nat.add_zero, List.getElem?_map, hc, Option.map_some], .val _⟩) (by simp) hb hnm
  unfold Oper.wp
  rw [exec_append hrun]
  exact hk r _ S R' w' _ ⟨N, rfl, rfl⟩ h1 h2 h3

/-- A nil slice as a row of one's own. -/
theorem AWo.adopt {n : Nat} {ro : Option Nat} {G : CtxR P n ro} {ops : Array Oper} {l : List Oper} {K : Kont} (d : Nat) (e : TypeId) (k : Nat) (hd : look st.sl d = some (.val (.slice none 0 0))) (h : ∀ lab, AWo G ops l ⟨(d, .own lab 0 0) :: st.sl, (lab, .row e k []) :: st.toks⟩ K) : AWo G ops l st K := by
  refine ⟨?_⟩
  rintro a w ⟨S, R, hr⟩
  obtain ⟨N, hN⟩ := hr.holds.free
  have hfoot : ∀ g, Foot (bindL R N none) ((N, .row e k []) :: st.toks) g → Foot R st.toks g := by
    rintro g ⟨l', t', hm, hg⟩
    rcases List.mem_cons.1 hm with h1 | h1
    · cases h1; simp [blkOf, bindL_same] at hg
    · rw [blkOf_mono (bindL_mono hN) (hr.holds.tok l' t' h1).bound] at hg
      exact ⟨l', t', h1, hg⟩
  have hmono : ∀ {y : AV} {u : Value}, RepV S R w y u → RepV S (bindL R N none) w y u := fun h => h.mono (fun _ h => h) (bindL_mono hN) (fun _ _ => rfl)
  refine (h N).h a w ⟨S, bindL R N none, ⟨bindL_top hr.holds.top, ?_, ?_, fun g hg => hr.holds.notS g (hfoot g hg), hr.holds.low⟩, ?_, ?_, hr.defers, hr.size⟩
  · refine List.pairwise_cons.2 ⟨fun p hp => ⟨fun e1 => ?_, fun g hg => ?_⟩, hr.holds.apart.imp_of_mem fun {p q} hp hq hpq => ⟨hpq.1, fun g => ?_⟩⟩
    · obtain ⟨q, hq⟩ := (hr.holds.tok p.1 p.2 hp).bound
      have e1' : N = p.1 := e1
      rw [← e1', hN] at hq; cases hq
    · simp [blkOf, bindL_same] at hg
    · rw [blkOf_mono (bindL_mono hN) (hr.holds.tok p.1 p.2 hp).bound, blkOf_mono (bindL_mono hN) (hr.holds.tok q.1 q.2 hq).bound]
      exact hpq.2 g
  · intro l' t' hm
    rcases List.mem_cons.1 hm with h1 | h1
    · cases h1; simp [TokHolds, bindL_same]
    · exact (hr.holds.tok l' t' h1).mono (fun _ h => h) (bindL_mono hN) (fun _ _ => rfl) (fun _ _ => rfl)
  · intro d' x hx
    simp only [look] at hx
    by_cases hdd : d = d'
    · subst hdd
      rw [Nat.beq_refl] at hx
      cases hx
      have := rep_val (hr.slots d _ hd)
      rw [this]
      exact .onil bindL_same
    · rw [beq_of_ne hdd] at hx
      exact hmono (hr.slots d' x hx)
  · have o := hr.out
    refine ⟨o.os, o.tape, o.output, o.size, o.block, o.S0, o.S1, fun l q hq => bindL_mono hN _ _ (o.R0 l q hq), fun g hg => o.foot g (hfoot g hg), fun l' t' hm => ?_⟩
    rcases List.mem_cons.1 hm with h1 | h1
    · cases h1
      refine .inr ?_
      cases hb : G.R0 N with
      | none => rfl
      | some q => rw [o.R0 _ q hb] at hN; cases hN
    · exact o.keys l' t' h1

/-- A row that is no longer written. -/
theorem AWo.freeze {n : Nat} {ro : Option Nat} {G : CtxR P n ro} {ops : Array Oper} {l : List Oper} {K : Kont} (d : Nat) {lab off m : Nat} {e : TypeId} {k : Nat} {xs : List (List AV)} {rs : List (Nat × Tok)} (hd : look st.sl d = some (.own lab off m)) (ht : Take st.toks lab (.row e k xs) rs) (hm : off + m ≤ xs.length)
    (h : AWo G ops l ⟨(d, .sl k (xs.drop off) m) :: st.sl, rs⟩ K) : AWo G ops l st K := by
  refine ⟨?_⟩
  rintro a w ⟨S, R, hr⟩
  have hp := ht.perm
  have hh := hr.holds.sub (us := (lab, .row e k xs) :: rs) ⟨[], by simpa using hp⟩
  have htok := hh.tok lab _ (List.mem_cons_self)
  have hv := hr.slots d _ hd
  let S' : Nat → Prop := fun b => S b ∨ blkOf R lab = some b
  have hmono : ∀ {y : AV} {u : Value}, RepV S R w y u → RepV S' R w y u := fun h => h.mono (fun _ h => .inl h) (fun _ _ h => h) (fun _ _ => rfl)
  have hap := List.pairwise_cons.1 hh.apart
  have hrs : Foot R rs = fun g => ∃ l t, (l, t) ∈ rs ∧ blkOf R l = some g := rfl
  refine h.h a w ⟨S', R, ⟨hh.top, hap.2, ?_, ?_, ?_⟩, ?_, ?_, hr.defers, hr.size⟩
  · intro l' t' hm'
    exact (hh.tok l' t' (List.mem_cons_of_mem _ hm')).mono (fun _ h => .inl h) (fun _ _ h => h) (fun _ _ => rfl) (fun _ _ => rfl)
  · rintro g ⟨l', t', hm', hg⟩ (h1 | h1)
    · exact hh.notS g ⟨l', t', List.mem_cons_of_mem _ hm', hg⟩ h1
    · exact (hap.1 _ hm').2 g h1 hg
  · rintro b (h1 | h1)
    · exact hh.low b h1
    · exact htok.lt h1
  · intro d' x hx
    simp only [look] at hx
    by_cases hdd : d = d'
    · subst hdd
      rw [Nat.beq_refl] at hx
      cases hx
      generalize a.tmps.getD d undef = v at hv
      cases hv with
      | onil h1 =>
        simp only [TokHolds, h1] at htok
        subst htok
        exact .sl (F := fun _ _ => undef) (by simp) (by simp) (by simp [maxLen]) (by simp) (by simp) (by simp) (by simp)
      | own h1 hn hmx hT ha hs =>
        rename_i c q ad
        simp only [TokHolds, h1] at htok
        obtain ⟨rfl, cur, fr, hg, hfr, hcur, hbx, hmt, hrow⟩ := htok
        refine .sl (F := fun i j => cur.getD ((q.b + off + i) * q.k + j) undef) (by simp; omega) (by simp; omega) hmx (fun x hx => ?_) (fun hne => ?_) (fun x hx y hy => ?_) (fun i x j y hx hy => ?_)
        · obtain ⟨i, hi⟩ := List.getElem?_of_mem hx
          rw [List.getElem?_drop] at hi
          exact (hrow _ x hi).1
        · have hlt : off < xs.length := by
            rcases Nat.lt_or_ge off xs.length with h3 | h3
            · exact h3
            · exact absurd (List.drop_eq_nil_of_le h3) hne
          obtain rfl : ad = some ⟨q.g, (q.b + off) * q.k, none⟩ := ha.resolve_left (by omega)
          refine ⟨_, rfl, .inr (by simp [blkOf, h1]), fun i x j y hx hy => ?_⟩
          rw [List.getElem?_drop] at hx
          obtain ⟨_, u, hu, _⟩ := (hrow _ x hx).2 j y hy
          rw [add_mk, cell_of_row w q.g _ cur e fr hg]
          have e1 : (q.b + off) * q.k + (i * q.k + j) = (q.b + (off + i)) * q.k + j := by rw [← Nat.add_assoc, ← Nat.add_mul, Nat.add_assoc q.b]
          have e2 : (q.b + off + i) * q.k + j = (q.b + (off + i)) * q.k + j := by rw [Nat.add_assoc q.b]
          rw [e1, hu, e2, Array.getD_eq_getD_getElem?, hu]
          rfl
        · obtain ⟨i, hi⟩ := List.getElem?_of_mem hx
          obtain ⟨j, hj⟩ := List.getElem?_of_mem hy
          rw [List.getElem?_drop] at hi
          exact ((hrow _ x hi).2 j y hj).1
        · rw [List.getElem?_drop] at hx
          obtain ⟨_, u, hu, hrep⟩ := (hrow _ x hx).2 j y hy
          have e2 : (q.b + off + i) * q.k + j = (q.b + (off + i)) * q.k + j := by rw [Nat.add_assoc q.b]
          have : cur.getD ((q.b + off + i) * q.k + j) undef = u := by rw [e2, Array.getD_eq_getD_getElem?, hu]; rfl
          rw [this]
          exact hmono hrep
    · rw [beq_of_ne hdd] at hx
      exact hmono (hr.slots d' x hx)
  · have o := hr.out
    refine ⟨o.os, o.tape, o.output, o.size, o.block, fun b hb => .inl (o.S0 b hb), ?_, o.R0, fun g ⟨l', t', hm', hg⟩ => o.foot g ⟨l', t', hp.mem_iff.2 (List.mem_cons_of_mem _ hm'), hg⟩, fun l' t' hm' => o.keys l' t' (hp.mem_iff.2 (List.mem_cons_of_mem _ hm'))⟩
    rintro b (h1 | h1)
    · exact o.S1 b h1
    · exact .inr (o.foot b ⟨lab, _, hp.mem_iff.2 (List.mem_cons_self), h1⟩)
end

end Go.Proofs.YtmenbolalghljaaA
