import Derived.Test.YtmenbolalghljaaF
set_option linter.unusedVariables false
set_option linter.unusedSimpArgs false
set_option maxRecDepth 100000
namespace Go.Proofs.Ytmenbolalghljaa
open Go.Proofs Go.Proofs.YtmenbolalghljaaA

/-! A table's entries stay within its max. -/
structure WfT (mx : Int) (l : List En) : Prop where
  ok : ∀ e, e ∈ l → OkE e
  sum : (sumE l : Int) ≤ mx
theorem shr_bound (m : Int) : ∀ l : List En, (sumE (shr m l) : Int) ≤ m ∨ shr m l = []
  | [] => .inr rfl
  | e :: r => by
    unfold shr
    split
    · exact shr_bound m r
    · exact .inl (by omega)
theorem sum_len32 : ∀ l : List En, 32 * l.length ≤ sumE l
  | [] => Nat.le_refl _
  | e :: r => by
    have := sum_len32 r
    simp only [sumE, List.length_cons, szE]
    omega
theorem WfT.add {mx : Int} {l : List En} {e : En} (h : WfT mx l) (he : OkE e) (hm : 0 ≤ mx) : WfT mx (addN mx l e) := by
  have hb := shr_bound (mx - szE e) l
  unfold addN
  split
  · rename_i hk
    refine ⟨fun x hx => ?_, ?_⟩
    · rcases List.mem_append.1 hx with hx | hx
      · exact h.ok x (shr_mem _ _ _ hx)
      · rw [List.mem_singleton.1 hx]; exact he
    · rw [sumE_append]
      simp only [sumE]
      rcases hb with hb | hb
      · omega
      · rw [hb]; simp only [sumE]; omega
  · rename_i hk
    refine ⟨fun x hx => h.ok x (shr_mem _ _ _ hx), ?_⟩
    rcases hb with hb | hb
    · omega
    · rw [hb]; simp only [sumE]; omega
theorem WfT.shr {mx m : Int} {l : List En} (h : WfT mx l) (hm : 0 ≤ m) : WfT m (shr m l) := by
  refine ⟨fun x hx => h.ok x (shr_mem _ _ _ hx), ?_⟩
  rcases shr_bound m l with hb | hb
  · exact hb
  · rw [hb]; exact hm
def addsN (mx : Int) (l : List En) (es : List En) : List En := es.foldl (addN mx) l
/-- Add, at a table that is well. -/
theorem AddW_ok (lt lm : Nat) (pre : List (List AV)) (mx : Int) (l : List En) (e : En) (hw : WfT mx l) (he : OkE e) (hm : 0 ≤ mx ∧ mx ≤ 65536) : FnC Try.prog 17 (tabT lt lm pre mx l) [.ptr lt 0 0, vs e.1, vs e.2] (fun ts r => (∃ lm' pre', ts = tabT lt lm' pre' mx (addN mx l e)) ∧ r = .tup []) := by
  have h1 := hw.sum
  have h2 := sum_len32 l
  exact Add_ok lt lm pre mx l e (by omega) hw.ok he (by omega) hm fun m => ⟨Nat.le_trans (shr_le m l).1 (by omega), (shr_le m l).2⟩
/-! The law TableFinds. -/
def stepS (nm vl : ByteArray) (n : Nat) (x : En × Nat) : Nat := if (x.1.1 = nm ∧ x.1.2 = vl) ∧ n = 0 then x.2 else n
theorem foldS_keep (nm vl : ByteArray) (n : Nat) (hn : n ≠ 0) : ∀ xs : List (En × Nat), xs.foldl (stepS nm vl) n = n
  | [] => rfl
  | x :: xs => by rw [List.foldl_cons, show stepS nm vl n x = n from if_neg (fun h => hn h.2)]; exact foldS_keep nm vl n hn xs
theorem foldS_find (nm vl : ByteArray) : ∀ xs : List (En × Nat), (∀ x, x ∈ xs → x.2 ≠ 0) → xs.foldl (stepS nm vl) 0 = match xs.find? (hitB nm vl) with | some x => x.2 | none => 0
  | [], _ => rfl
  | x :: xs, h => by
    rw [List.foldl_cons, List.find?_cons]
    by_cases hx : x.1.1 = nm ∧ x.1.2 = vl
    · rw [show hitB nm vl x = true from decide_eq_true hx, show stepS nm vl 0 x = x.2 from if_pos ⟨hx, rfl⟩]
      exact foldS_keep nm vl _ (h x List.mem_cons_self) xs
    · rw [show hitB nm vl x = false from decide_eq_false hx, show stepS nm vl 0 x = 0 from if_neg fun h => hx h.1]
      exact foldS_find nm vl xs fun y hy => h y (List.mem_cons_of_mem _ hy)
theorem allX_pos (l : List En) : ∀ x, x ∈ allX l → x.2 ≠ 0 := fun x hx => by
  have := List.mem_zipIdx (x := x.1) (i := x.2) (by exact hx)
  omega
theorem find_law (l : List En) (nm vl : ByteArray) : (if 0 < (allX l).foldl (stepS nm vl) 0 then ((findN l nm vl).2 && decide ((findN l nm vl).1 = (allX l).foldl (stepS nm vl) 0)) else (!(findN l nm vl).2 && decide ((findN l nm vl).1 = (allX l).foldl (stepN nm) 0))) = true := by
  have h := foldS_find nm vl (allX l) (allX_pos l)
  unfold findN
  cases hf : (allX l).find? (hitB nm vl) with
  | none => rw [hf] at h; rw [h]; simp
  | some x =>
    rw [hf] at h
    rw [h]
    have := allX_pos l x (List.mem_of_find?_eq_some hf)
    simp; omega
end Go.Proofs.Ytmenbolalghljaa
