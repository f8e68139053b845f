import Derived.Test.YtkidjeejhhfbpaaK
set_option linter.unusedVariables false
set_option linter.unusedSimpArgs false
set_option maxRecDepth 100000
namespace Go.Proofs.Ytkidjeejhhfbpaa
open Go.Proofs Go.Proofs.YtkidjeejhhfbpaaA

/-! Rules in another order. -/
abbrev r0 : Rl := ((es, es), [])
def rotF (rs : List Rl) (s j : Nat) : Rl := (rs[(j + s) % rs.length]?).getD r0
def rotTo (rs : List Rl) (s k : Nat) : List Rl := ((List.range k).map (rotF rs s)).reverse
theorem rotTo_succ (rs : List Rl) (s k : Nat) : rotTo rs s (k + 1) = rotF rs s k :: rotTo rs s k := by
  unfold rotTo
  rw [List.range_succ, List.map_append, List.reverse_append]; rfl
theorem rotTo_len (rs : List Rl) (s k : Nat) : (rotTo rs s k).length = k := by simp [rotTo]
theorem rotF_get {rs : List Rl} {s j : Nat} (h : 0 < rs.length) : rs[(j + s) % rs.length]? = some (rotF rs s j) := by
  have := Nat.mod_lt (j + s) h
  unfold rotF
  rw [List.getElem?_eq_getElem this]; rfl
theorem rot_mem {rs : List Rl} {s k : Nat} (h : 0 < rs.length) {r : Rl} (hr : r ∈ rotTo rs s k) : r ∈ rs := by
  unfold rotTo at hr
  rw [List.mem_reverse] at hr
  obtain ⟨j, _, rfl⟩ := List.mem_map.1 hr
  exact List.mem_of_getElem? (rotF_get h)
theorem mod_inj {n a b s : Nat} (ha : a < n) (hb : b < n) (h : (a + s) % n = (b + s) % n) : a = b := by
  have key : ∀ {a b : Nat}, a ≤ b → b < n → (a + s) % n = (b + s) % n → a = b := fun {a b} hab hb h => by
    have h1 := Nat.sub_mod_eq_zero_of_mod_eq h.symm
    rw [show b + s - (a + s) = b - a by omega, Nat.mod_eq_of_lt (by omega)] at h1
    omega
  rcases Nat.le_total a b with h1 | h1
  · exact key h1 hb h
  · exact (key h1 ha h.symm).symm
theorem mod_sur {n i s : Nat} (hi : i < n) : ((i + (n - s % n)) % n + s) % n = i := by
  have hr := Nat.mod_lt s (show 0 < n by omega)
  have hs := Nat.mod_add_div s n
  rw [Nat.mod_add_mod]
  have e : i + (n - s % n) + s = i + n * (1 + s / n) := by
    rw [Nat.mul_add, Nat.mul_one]
    generalize n * (s / n) = p at *
    omega
  rw [e, Nat.add_mul_mod_self_left, Nat.mod_eq_of_lt hi]
theorem rot_all {rs : List Rl} {s : Nat} {r : Rl} (hr : r ∈ rs) : r ∈ rotTo rs s rs.length := by
  obtain ⟨i, hi⟩ := List.mem_iff_getElem?.1 hr
  have hl := (List.getElem?_eq_some_iff.1 hi).1
  unfold rotTo
  rw [List.mem_reverse]
  refine List.mem_map.2 ⟨(i + (rs.length - s % rs.length)) % rs.length, List.mem_range.2 (Nat.mod_lt _ (by omega)), ?_⟩
  unfold rotF
  rw [mod_sur hl, hi]; rfl
theorem key_inj {rs : List Rl} (hd : (rs.map (·.1)).Nodup) {i j : Nat} {a b : Rl} (ha : rs[i]? = some a) (hb : rs[j]? = some b) (h : a.1 = b.1) : i = j := by
  have e1 := map_get1 ha
  have e2 := map_get1 hb
  obtain ⟨h1, f1⟩ := List.getElem?_eq_some_iff.1 e1
  obtain ⟨h2, f2⟩ := List.getElem?_eq_some_iff.1 e2
  exact (List.getElem_inj (h₀ := h1) (h₁ := h2) hd).1 (f1.trans (h.trans f2.symm))
theorem rot_nodup {rs : List Rl} {s : Nat} (hd : (rs.map (·.1)).Nodup) : ((rotTo rs s rs.length).map (·.1)).Nodup := by
  unfold rotTo
  rw [List.map_reverse, List.map_map]
  refine List.Nodup.perm ?_ (List.reverse_perm _).symm
  unfold List.Nodup
  rw [List.pairwise_map]
  refine (List.nodup_range (n := rs.length)).imp_of_mem fun {a b} ha hb hab h => hab ?_
  have ha := List.mem_range.1 ha
  have hb := List.mem_range.1 hb
  exact mod_inj ha hb (key_inj hd (rotF_get (by omega)) (rotF_get (by omega)) h)
theorem nm_mem : ∀ {rs : List Rl}, (rs.map (·.1)).Nodup → ∀ r, r ∈ rs → nmOf rs r.1 = r.2
  | q :: rs, hd, r, hr => by
    rw [List.map_cons, List.nodup_cons] at hd
    unfold nmOf
    rcases List.mem_cons.1 hr with rfl | hr
    · rw [if_pos rfl]
    · rw [if_neg (fun h => hd.1 (by rw [h]; exact List.mem_map.2 ⟨r, hr, rfl⟩)), nm_mem hd.2 r hr]
theorem nm_none : ∀ {rs : List Rl} {t : Tg}, t ∉ rs.map (·.1) → nmOf rs t = []
  | [], t, _ => rfl
  | q :: rs, t, h => by
    rw [List.map_cons, List.mem_cons] at h
    unfold nmOf
    rw [if_neg (fun e => h (.inl e.symm)), nm_none (fun e => h (.inr e))]
theorem nm_same {rs qs : List Rl} (h1 : (rs.map (·.1)).Nodup) (h2 : (qs.map (·.1)).Nodup) (hm : ∀ r, r ∈ rs ↔ r ∈ qs) : nmOf qs = nmOf rs := by
  funext t
  by_cases h : t ∈ rs.map (·.1)
  · obtain ⟨r, hr, rfl⟩ := List.mem_map.1 h
    rw [nm_mem h1 r hr, nm_mem h2 r ((hm r).1 hr)]
  · rw [nm_none h, nm_none]
    intro h3
    obtain ⟨r, hr, rfl⟩ := List.mem_map.1 h3
    exact h (List.mem_map.2 ⟨r, (hm r).2 hr, rfl⟩)
structure RotOk (rs qs : List Rl) : Prop where
  len : qs.length ≤ 16
  ok : ∀ r, r ∈ qs → OkR r
  err : errN qs = 0
  nm : nmOf qs = nmOf rs
theorem rot_ok (es : List Ed) (s : Nat) : RotOk (madeN es) (rotTo (madeN es) s (madeN es).length) := by
  have hlen := made_len es
  by_cases h0 : (madeN es).length = 0
  · have e : madeN es = [] := List.length_eq_zero_iff.1 h0
    rw [e]
    have e2 : rotTo [] s ([] : List Rl).length = [] := rfl
    rw [e2]
    exact ⟨by simp, fun r hr => by simp at hr, by rw [← e]; exact made_err es, rfl⟩
  · have hpos : 0 < (madeN es).length := by omega
    have hm : ∀ r, r ∈ rotTo (madeN es) s (madeN es).length → r ∈ madeN es := fun r => rot_mem hpos
    have hnd := rot_nodup (s := s) (made_nodup es)
    refine ⟨by rw [rotTo_len]; exact hlen, fun r hr => made_okR es r (hm r hr), err_of (by rw [rotTo_len]; omega) (fun r hr => made_len8 es r (hm r hr)) (fun r hr => ?_) hnd (fun r hr => ?_), nm_same (made_nodup es) hnd fun r => ⟨rot_all, hm r⟩⟩
    · obtain ⟨i, hi, rfl, _⟩ := made_mem (hm r hr)
      refine ⟨pg_right hi, fun t ht => ?_⟩
      obtain ⟨k, hk, rfl⟩ := (push_ok es i).page t ht
      exact pg_right hk
    · obtain ⟨i, hi, rfl, _⟩ := made_mem (hm r hr)
      exact (push_ok es i).nodup
end Go.Proofs.Ytkidjeejhhfbpaa
