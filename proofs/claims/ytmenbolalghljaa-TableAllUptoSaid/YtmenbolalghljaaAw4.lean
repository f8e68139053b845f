/- Facts on types; operations that read. -/
import Derived.Test.YtmenbolalghljaaAw3
namespace Go.Proofs.YtmenbolalghljaaA
open Go.RowKit

class Und (P : Program) (t : TypeId) (d : outParam TypeDesc) : Prop where
  h : P.underlying t = some d
class ElF (P : Program) (t : TypeId) (z : outParam Value) (k b : outParam Nat) : Prop where
  h : ∃ i, P.info? t = some i ∧ i.zero = some z ∧ i.size = k ∧ i.bytes = b ∧ z.cells.size = k ∧ z.cells.toList.all (·.oneCell') = true
/-- A struct's field: where it begins, its cells, whether it is a struct or an array. -/
class FldF (P : Program) (t : TypeId) (f : Nat) (off k : outParam Nat) (ag : outParam Bool) : Prop where
  h : ∃ fs fd, P.underlying t = some (.struct fs) ∧ fs[f]? = some fd ∧ fd.offset = off ∧ 0 < k ∧ (∀ w, (sizeOf fd.type).run P w = .ok k w) ∧ (∀ w, (isAgg fd.type).run P w = .ok ag w)

/-- Is a value of the type several cells? -/
class AgF (P : Program) (t : TypeId) (ag : outParam Bool) : Prop where
  h : ∀ w, (isAgg t).run P w = .ok ag w
theorem ElF.size {P : Program} {t : TypeId} {z : Value} {k b : Nat} [e : ElF P t z k b] (w : World) : (sizeOf t).run P w = .ok k w := by
  obtain ⟨i, hi, _, hk, _⟩ := e.h
  simp [sizeOf, typeInfo, hi, hk]
theorem ElF.zero {P : Program} {t : TypeId} {z : Value} {k b : Nat} [e : ElF P t z k b] (w : World) : (zeroValue t).run P w = .ok z w := by
  obtain ⟨i, hi, hz, _⟩ := e.h
  simp [zeroValue, typeInfo, hi, hz]

theorem add_add (a : Addr) (m n : Nat) : (a.add m).add n = a.add (m + n) := by
  unfold Addr.add
  by_cases h1 : m = 0
  · subst h1; simp
  · by_cases h2 : n = 0
    · subst h2; simp [h1]
    · simp [h1, h2, Nat.add_assoc]
theorem add_mk (g o n : Nat) : (⟨g, o, none⟩ : Addr).add n = ⟨g, o + n, none⟩ := by
  unfold Addr.add
  split <;> simp_all

/-- The bytes of a string, by their places. -/
def byteAt (s : ByteArray) (i : Nat) : Nat := (s.data.toList[i]?.getD 0).toNat

section
variable {P : Program} {st : St} {dst : Option Tmp} {ty : TypeId} {pos : String} {after : Array Edge} {g : Option (Nat × Bool)}

theorem rep_sl {S : Nat → Prop} {R : Lab} {w : World} {k n : Nat} {xs : List (List AV)} {v : Value} (h : RepV S R w (.sl k xs n) v) : ∃ a c, v = .slice a n c := by cases h; exact ⟨_, _, rfl⟩
theorem rep_own {S : Nat → Prop} {R : Lab} {w : World} {l off n : Nat} {v : Value} (h : RepV S R w (.own l off n) v) : ∃ a c, v = .slice a n c := by cases h <;> exact ⟨_, _, rfl⟩

theorem run_len_slice {t e : TypeId} (h : P.underlying t = some (.slice e)) (a : Option Addr) (n c : Nat) (w : World) (ty : TypeId) : (Builtin.len_ #[t] ty #[.slice a n c]).run P w = .ok (.int .i64 n) w := by
  simp [Builtin.len_, run_underlying h, goInt]
theorem run_len_string {t : TypeId} (h : P.underlying t = some .string) (s : ByteArray) (w : World) (ty : TypeId) : (Builtin.len_ #[t] ty #[.string s]).run P w = .ok (.int .i64 s.size) w := by
  simp [Builtin.len_, run_underlying h, goInt]

theorem exec_len {a : Act} {x : Operand} {t : TypeId} {w : World} {v : Value} (h : (Builtin.len_ #[t] ty #[a.eval x]).run P w = .ok v w) :
    (execOp a.eval ⟨dst, .call ⟨.builtin .len, #[x], #[t]⟩, ty, pos, after, g⟩).run P w = .ok (.value v) w := by
  simp [execOp, resolve, invoke, builtin, h]

theorem ev_len_sl {t e : TypeId} {x : Operand} {k n : Nat} {xs : List (List AV)} [hu : Und P t (.slice e)] (hx : st.get x = some (.sl k xs n)) : OpEv P ⟨dst, .call ⟨.builtin .len, #[x], #[t]⟩, ty, pos, after, g⟩ st (.val (.int .i64 n)) :=
  ev_same fun S R a w _ ho => by
    obtain ⟨ad, c, e⟩ := rep_sl (ho x (by simp [Op.operands, Call.operands]) _ hx)
    exact ⟨_, exec_len (by rw [e]; exact run_len_slice hu.h ..), .val _⟩
theorem ev_len_own {t e : TypeId} {x : Operand} {l off n : Nat} [hu : Und P t (.slice e)] (hx : st.get x = some (.own l off n)) : OpEv P ⟨dst, .call ⟨.builtin .len, #[x], #[t]⟩, ty, pos, after, g⟩ st (.val (.int .i64 n)) :=
  ev_same fun S R a w _ ho => by
    obtain ⟨ad, c, e⟩ := rep_own (ho x (by simp [Op.operands, Call.operands]) _ hx)
    exact ⟨_, exec_len (by rw [e]; exact run_len_slice hu.h ..), .val _⟩
theorem ev_len_val {t e : TypeId} {x : Operand} {ad : Option Addr} {n c : Nat} [hu : Und P t (.slice e)] (hx : st.get x = some (.val (.slice ad n c))) : OpEv P ⟨dst, .call ⟨.builtin .len, #[x], #[t]⟩, ty, pos, after, g⟩ st (.val (.int .i64 n)) :=
  ev_same fun S R a w _ ho => ⟨_, exec_len (by rw [rep_val (ho x (by simp [Op.operands, Call.operands]) _ hx)]; exact run_len_slice hu.h ..), .val _⟩
theorem ev_len_str {t : TypeId} {x : Operand} {s : ByteArray} [hu : Und P t .string] (hx : st.get x = some (.val (.string s))) : OpEv P ⟨dst, .call ⟨.builtin .len, #[x], #[t]⟩, ty, pos, after, g⟩ st (.val (.int .i64 s.size)) :=
  ev_same fun S R a w _ ho => ⟨_, exec_len (by rw [rep_val (ho x (by simp [Op.operands, Call.operands]) _ hx)]; exact run_len_string hu.h ..), .val _⟩

/-! fields of values -/
theorem getD_of {vs : Array Value} {i : Nat} {u : Value} (hi : i < vs.size) (h : vs.getD i undef = u) : vs[i]? = some u := by
  rw [Array.getElem?_eq_getElem hi]
  simpa [hi] using h

theorem ev_field_one {t : TypeId} {x : Operand} {f off k : Nat} {cs : List AV} {y : AV} [hf : FldF P t f off k false] (hx : st.get x = some (.agg cs)) (hy : cs[off]? = some y) : OpEv P ⟨dst, .field t x f, ty, pos, after, g⟩ st y :=
  ev_same fun S R a w _ ho => by
    have hr := ho x (by simp [Op.operands]) _ hx
    generalize hv : a.eval x = v at hr
    cases hr with
    | agg hl h =>
      rename_i vs
      obtain ⟨fs, fd, hu, hfd, rfl, hk, hs, ha⟩ := hf.h
      have hlt : fd.offset < vs.size := by rw [hl]; exact (List.getElem?_eq_some_iff.1 hy).1
      refine ⟨_, ?_, h _ _ hy⟩
      simp [execOp, Instr.field, run_underlying hu, hfd, hv, asAgg, part, ha, hlt]
theorem ev_field_agg {t : TypeId} {x : Operand} {f off k : Nat} {cs : List AV} [hf : FldF P t f off k true] (hx : st.get x = some (.agg cs)) (hk : off + k ≤ cs.length) : OpEv P ⟨dst, .field t x f, ty, pos, after, g⟩ st (.agg ((cs.drop off).take k)) :=
  ev_same fun S R a w _ ho => by
    have hr := ho x (by simp [Op.operands]) _ hx
    generalize hv : a.eval x = v at hr
    cases hr with
    | agg hl h =>
      rename_i vs
      obtain ⟨fs, fd, hu, hfd, rfl, hk0, hs, ha⟩ := hf.h
      refine ⟨.agg (vs.extract fd.offset (fd.offset + k)), ?_, .agg ?_ ?_⟩
      · simp [execOp, Instr.field, run_underlying hu, hfd, hv, asAgg, part, ha, hs]
      · simp; omega
      · intro i y hy
        have hi := (List.getElem?_eq_some_iff.1 hy).1
        simp at hi
        rw [List.getElem?_take, if_pos (by omega), List.getElem?_drop] at hy
        have := h _ _ hy
        have e : (vs.extract fd.offset (fd.offset + k)).getD i undef = vs.getD (fd.offset + i) undef := by
          simp only [Array.getD_eq_getD_getElem?, Array.getElem?_extract]
          rw [if_pos (by omega)]
        rw [e]; exact this

theorem ev_extract {x : Operand} {i : Nat} {cs : List AV} {y : AV} (hx : st.get x = some (.tup cs)) (hy : cs[i]? = some y) : OpEv P ⟨dst, .extract x i, ty, pos, after, g⟩ st y :=
  ev_same fun S R a w _ ho => by
    have hr := ho x (by simp [Op.operands]) _ hx
    generalize hv : a.eval x = v at hr
    cases hr with
    | tup hl h =>
      rename_i vs
      have hlt : i < vs.size := by rw [hl]; exact (List.getElem?_eq_some_iff.1 hy).1
      refine ⟨_, ?_, h _ _ hy⟩
      simp [execOp, Instr.extract, hv, hlt]

/-! addresses -/
theorem run_fieldAt {t : TypeId} {f off k : Nat} {ag : Bool} [hf : FldF P t f off k ag] (ad : Addr) (w : World) : (Instr.fieldAt t (.pointer (some ad)) f).run P w = .ok (.pointer (some (ad.add off))) w := by
  obtain ⟨fs, fd, hu, hfd, rfl, hk, hs, _⟩ := hf.h
  have : k ≠ 0 := by omega
  simp [Instr.fieldAt, run_underlying hu, hfd, Instr.sureAddr, fieldPlace, hs, this]

theorem ev_fieldAddr_ip {t : TypeId} {x : Operand} {f off k : Nat} {ag : Bool} {cs : List AV} [hf : FldF P t f off k ag] (hx : st.get x = some (.ip cs)) : OpEv P ⟨dst, .fieldAddr t x f, ty, pos, after, g⟩ st (.ip (cs.drop off)) :=
  ev_same fun S R a w _ ho => by
    have hr := ho x (by simp [Op.operands]) _ hx
    generalize hv : a.eval x = v at hr
    cases hr with
    | ip hS hc h1 hF =>
      rename_i ad F
      refine ⟨.pointer (some (ad.add off)), ?_, .ip (F := fun j => F (off + j)) (by rw [add_block]; exact hS) (fun j y hy => ?_) (fun y hy => h1 y (List.mem_of_mem_drop hy)) (fun j y hy => hF _ _ (by rwa [List.getElem?_drop] at hy))⟩
      · simp [execOp, hv, run_fieldAt]
      · rw [add_add]; exact hc _ _ (by rwa [List.getElem?_drop] at hy)
theorem ev_fieldAddr_ptr {t : TypeId} {x : Operand} {f off k : Nat} {ag : Bool} {l i j : Nat} [hf : FldF P t f off k ag] (hx : st.get x = some (.ptr l i j)) : OpEv P ⟨dst, .fieldAddr t x f, ty, pos, after, g⟩ st (.ptr l i (j + off)) :=
  ev_same fun S R a w _ ho => by
    have hr := ho x (by simp [Op.operands]) _ hx
    generalize hv : a.eval x = v at hr
    cases hr with
    | ptr h =>
      rename_i q
      refine ⟨_, ?_, .ptr h⟩
      simp [execOp, hv, run_fieldAt, add_mk, Nat.add_assoc]

theorem ev_indexAddr_sl {t e : TypeId} {x ix : Operand} {ki : IntKind} {k n i b : Nat} {z : Value} {xs : List (List AV)} {cs : List AV} [hu : Und P t (.slice e)] [he : ElF P e z k b] (hx : st.get x = some (.sl k xs n)) (hi : st.get ix = some (.val (.int ki (i : Nat))))
    (hn : i < n) (hcs : xs[i]? = some cs) : OpEv P ⟨dst, .indexAddr t x ix, ty, pos, after, g⟩ st (.ip cs) :=
  ev_same fun S R a w _ ho => by
    have hr := ho x (by simp [Op.operands]) _ hx
    have hi' := rep_val (ho ix (by simp [Op.operands]) _ hi)
    generalize hv : a.eval x = v at hr
    cases hr with
    | sl hn' hc hm hk ha h1 hF =>
      rename_i c ad F
      obtain ⟨ad, rfl, hS, hcell⟩ := ha (by intro e; subst e; simp at hcs)
      refine ⟨.pointer (some (ad.add (i * k))), ?_, .ip (F := fun j => F i j) (by rw [add_block]; exact hS) (fun j y hy => ?_) (h1 cs (List.mem_of_getElem? hcs)) (fun j y hy => hF i cs j y hcs hy)⟩
      · simp [execOp, Instr.indexAt, hv, hi', asIntOf, run_underlying hu.h, ElF.size (P := P) (t := e)]
        exact fun hh => absurd hh (by omega)
      · rw [add_add]; exact hcell i cs j y hcs hy

theorem ev_indexAddr_own {t e e' : TypeId} {x ix : Operand} {ki : IntKind} {k n i b l off : Nat} {z : Value} {xs : List (List AV)} {r : List (Nat × Tok)} [hu : Und P t (.slice e)] [he : ElF P e z k b] (hx : st.get x = some (.own l off n)) (hi : st.get ix = some (.val (.int ki (i : Nat))))
    (hn : i < n) (ht : Take st.toks l (.row e' k xs) r) : OpEv P ⟨dst, .indexAddr t x ix, ty, pos, after, g⟩ st (.ptr l (off + i) 0) :=
  ev_same fun S R a w hh ho => by
    have hr := ho x (by simp [Op.operands]) _ hx
    have hi' := rep_val (ho ix (by simp [Op.operands]) _ hi)
    have htok := hh.tok l _ (ht.perm.mem_iff.2 (List.mem_cons_self))
    generalize hv : a.eval x = v at hr
    cases hr with
    | own h hn' hm hT ha hs =>
      rename_i c q ad
      rcases ha with rfl | rfl
      · omega
      · simp only [TokHolds, h] at htok
        obtain ⟨hk, _⟩ := htok
        refine ⟨_, ?_, .ptr h⟩
        simp [execOp, Instr.indexAt, hv, hi', asIntOf, run_underlying hu.h, ElF.size (P := P) (t := e), add_mk, hk, Nat.add_mul, Nat.add_assoc]
        exact fun hh => absurd hh (by omega)
    | onil h => omega

theorem ev_nilCheck_ip {x : Operand} {cs : List AV} (hx : st.get x = some (.ip cs)) : OpEv P ⟨dst, .nilCheck x, ty, pos, after, g⟩ st (.ip cs) :=
  ev_same fun S R a w _ ho => by
    have hr := ho x (by simp [Op.operands]) _ hx
    generalize hv : a.eval x = v at hr
    refine ⟨v, ?_, hr⟩
    cases hr
    simp [execOp, hv]
theorem ev_nilCheck_ptr {x : Operand} {l i j : Nat} (hx : st.get x = some (.ptr l i j)) : OpEv P ⟨dst, .nilCheck x, ty, pos, after, g⟩ st (.ptr l i j) :=
  ev_same fun S R a w _ ho => by
    have hr := ho x (by simp [Op.operands]) _ hx
    generalize hv : a.eval x = v at hr
    refine ⟨v, ?_, hr⟩
    cases hr
    simp [execOp, hv]

/-! loads -/
theorem run_loadVar_agg {t : TypeId} {z : Value} {k b : Nat} [hu : AgF P t true] [he : ElF P t z k b] (ad : Addr) (vs : List Value) (hl : vs.length = k) (w : World) (h : ∀ j v, vs[j]? = some v → w.cell? (ad.add j) = some v) :
    (loadVar t ad).run P w = .ok (.agg vs.toArray) w := by
  have := run_loadCells_list (P := P) (w := w) ad vs h
  rw [hl] at this
  simp [loadVar, hu.h, ElF.size (P := P) (t := t), this]
theorem run_loadVar_one {t : TypeId} [hu : AgF P t false] (ad : Addr) (v : Value) (w : World) (h : w.cell? ad = some v) : (loadVar t ad).run P w = .ok v w := by
  simp [loadVar, hu.h, h]

theorem ev_load_ip_one {t : TypeId} {x : Operand} {y : AV} {cs r : List AV} [hu : AgF P t false] (hx : st.get x = some (.ip cs)) (hc : cs = y :: r) : OpEv P ⟨dst, .load t x, ty, pos, after, g⟩ st y :=
  ev_same fun S R a w _ ho => by
    have hr := ho x (by simp [Op.operands]) _ hx
    generalize hv : a.eval x = v at hr
    subst hc
    cases hr with
    | ip hS hc h1 hF =>
      rename_i ad F
      refine ⟨_, ?_, hF 0 y rfl⟩
      have := hc 0 y rfl
      have h0 : ad.add 0 = ad := by simp [Addr.add]
      rw [h0] at this
      simp [execOp, Instr.loadAt, hv, Instr.sureAddr, run_loadVar_one (P := P) (t := t) ad _ w this]
theorem ev_load_ip_agg {t : TypeId} {x : Operand} {z : Value} {k b : Nat} {cs : List AV} [hu : AgF P t true] [he : ElF P t z k b] (hx : st.get x = some (.ip cs)) (hk : k ≤ cs.length) : OpEv P ⟨dst, .load t x, ty, pos, after, g⟩ st (.agg (cs.take k)) :=
  ev_same fun S R a w _ ho => by
    have hr := ho x (by simp [Op.operands]) _ hx
    generalize hv : a.eval x = v at hr
    cases hr with
    | ip hS hc h1 hF =>
      rename_i ad F
      have hr : ∀ j y, (cs.take k)[j]? = some y → j < k ∧ cs[j]? = some y := fun j y hy => by
        have hj := (List.getElem?_eq_some_iff.1 hy).1
        rw [List.length_take] at hj
        rw [List.getElem?_take, if_pos (by omega)] at hy
        exact ⟨by omega, hy⟩
      refine ⟨.agg ((List.range k).map F).toArray, ?_, .agg (by simp; omega) (fun i y hy => ?_)⟩
      · have := run_loadVar_agg (P := P) (t := t) ad ((List.range k).map F) (by simp) w (fun j v hjv => by
          have hj := (List.getElem?_eq_some_iff.1 hjv).1
          simp at hj
          simp [hj] at hjv
          obtain ⟨y, hy⟩ : ∃ y, cs[j]? = some y := ⟨_, List.getElem?_eq_getElem (by omega)⟩
          rw [hc j y hy, hjv])
        simp [execOp, Instr.loadAt, hv, Instr.sureAddr, this]
      · obtain ⟨hik, hy'⟩ := hr i y hy
        have := hF i y hy'
        simpa [hik] using this

theorem rowAt_cell {S : Nat → Prop} {R : Lab} {w : World} {q : Blk} {cur : Array Value} {xs : List (List AV)} {e : TypeId} {fr : Nat × Nat} {i j : Nat} {cs : List AV} {y : AV} (hg : w.heap[q.g]? = some (.cells cur e fr)) (h : RowAt S R w q cur xs) (hx : xs[i]? = some cs) (hy : cs[j]? = some y) :
    ∃ u, w.cell? ⟨q.g, (q.b + i) * q.k + j, none⟩ = some u ∧ RepV S R w y u ∧ y.one = true := by
  obtain ⟨h1, u, hu, hr⟩ := (h i cs hx).2 j y hy
  exact ⟨u, by rw [cell_of_row w q.g _ cur e fr hg]; exact hu, hr, h1⟩

theorem ev_load_ptr_one {t e' : TypeId} {x : Operand} {k l i j : Nat} {y : AV} {xs : List (List AV)} {cs : List AV} {r : List (Nat × Tok)} [hu : AgF P t false] (hx : st.get x = some (.ptr l i j)) (ht : Take st.toks l (.row e' k xs) r)
    (hcs : xs[i]? = some cs) (hy : cs[j]? = some y) : OpEv P ⟨dst, .load t x, ty, pos, after, g⟩ st y :=
  ev_same fun S R a w hh ho => by
    have hr := ho x (by simp [Op.operands]) _ hx
    have htok := hh.tok l _ (ht.perm.mem_iff.2 (List.mem_cons_self))
    generalize hv : a.eval x = v at hr
    cases hr with
    | ptr h =>
      rename_i q
      simp only [TokHolds, h] at htok
      obtain ⟨hk, cur, fr, hg, _, _, _, _, hrow⟩ := htok
      obtain ⟨u, hu', hr', _⟩ := rowAt_cell hg hrow hcs hy
      refine ⟨u, ?_, hr'⟩
      simp [execOp, Instr.loadAt, hv, Instr.sureAddr, run_loadVar_one (P := P) (t := t) _ _ w hu']
theorem ev_load_ptr_agg {t e' : TypeId} {x : Operand} {z : Value} {kt b k l i j : Nat} {xs : List (List AV)} {cs : List AV} {r : List (Nat × Tok)} [hu : AgF P t true] [he : ElF P t z kt b] (hx : st.get x = some (.ptr l i j)) (ht : Take st.toks l (.row e' k xs) r)
    (hcs : xs[i]? = some cs) (hk : j + kt ≤ cs.length) : OpEv P ⟨dst, .load t x, ty, pos, after, g⟩ st (.agg ((cs.drop j).take kt)) :=
  ev_same fun S R a w hh ho => by
    have hr := ho x (by simp [Op.operands]) _ hx
    have htok := hh.tok l _ (ht.perm.mem_iff.2 (List.mem_cons_self))
    generalize hv : a.eval x = v at hr
    cases hr with
    | ptr h =>
      rename_i q
      simp only [TokHolds, h] at htok
      obtain ⟨hkk, cur, fr, hg, _, _, _, _, hrow⟩ := htok
      have hcell : ∀ m, m < kt → ∃ y u, cs[j + m]? = some y ∧ w.cell? ⟨q.g, (q.b + i) * q.k + (j + m), none⟩ = some u ∧ RepV S R w y u := fun m hm => by
        obtain ⟨y, hy⟩ : ∃ y, cs[j + m]? = some y := ⟨_, List.getElem?_eq_getElem (by omega)⟩
        obtain ⟨u, hu', hr', _⟩ := rowAt_cell hg hrow hcs hy
        exact ⟨y, u, hy, hu', hr'⟩
      have hF : ∃ F : Nat → Value, ∀ m, m < kt → ∃ y, cs[j + m]? = some y ∧ w.cell? ⟨q.g, (q.b + i) * q.k + (j + m), none⟩ = some (F m) ∧ RepV S R w y (F m) := by
        refine ⟨fun m => if hm : m < kt then Classical.choose (Classical.choose_spec (hcell m hm)) else undef, fun m hm => ?_⟩
        simp only [hm, dif_pos]
        exact ⟨_, Classical.choose_spec (Classical.choose_spec (hcell m hm))⟩
      obtain ⟨F, hF⟩ := hF
      refine ⟨.agg ((List.range kt).map F).toArray, ?_, .agg (by simp; omega) (fun m y hy => ?_)⟩
      · have := run_loadVar_agg (P := P) (t := t) ⟨q.g, (q.b + i) * q.k + j, none⟩ ((List.range kt).map F) (by simp) w (fun m v hmv => by
          have hm := (List.getElem?_eq_some_iff.1 hmv).1
          simp at hm
          simp [hm] at hmv
          obtain ⟨y, _, hc, _⟩ := hF m hm
          rw [add_mk, Nat.add_assoc, hc, hmv])
        simp [execOp, Instr.loadAt, hv, Instr.sureAddr, this]
      · have hm := (List.getElem?_eq_some_iff.1 hy).1
        rw [List.length_take] at hm
        have hm : m < kt := by omega
        rw [List.getElem?_take, if_pos hm, List.getElem?_drop] at hy
        obtain ⟨y', hy', _, hr'⟩ := hF m hm
        rw [hy] at hy'
        cases hy'
        simpa [hm] using hr'
end

end Go.Proofs.YtmenbolalghljaaA
