/- The statement 'for .. := range g' where g is a bound method. -/
import Derived.Test.YtmenbolalghljaaAw35
namespace Go.Proofs.YtmenbolalghljaaA
open Go.RowKit

section
variable {P : Program} {n : Nat} {ro : Option Nat}

theorem obj_foot {R : Lab} {N : Nat} {q : Blk} (hR : R N = some (some q)) {t : Tok} {g : Nat} (h : Foot R [(N, t)] g) : g = q.g := by
  obtain ⟨l', t', hm, hg⟩ := h
  obtain ⟨rfl, rfl⟩ : l' = N ∧ t' = t := by simpa using hm
  simp only [blkOf, hR] at hg
  exact (Option.some.inj hg).symm

/-- A block for the machine's own books. -/
theorem RelAt.newObj {G : CtxR P n ro} {S : Nat → Prop} {R : Lab} {sl : List (Nat × AV)} {ts : List (Nat × Tok)} {a : Act} {w : World} (hr : RelAt G S R ⟨sl, ts⟩ a w) (o : Obj) :
    ∃ N R', (∀ l q, R l = some q → R' l = some q) ∧ R' N = some (some ⟨w.heap.size, 0, 0, 0⟩) ∧ RelAt G S R' ⟨sl, (N, .obj o) :: ts⟩ a (w.alloc o) := by
  obtain ⟨N, hN⟩ := hr.holds.free
  have hblk : w.heap.size < (w.alloc o).heap.size := by rw [alloc_heap]; simp
  have hfoot : ∀ g, Foot (bindL R N (some ⟨w.heap.size, 0, 0, 0⟩)) [(N, .obj o)] g → g = w.heap.size := fun g hg => obj_foot bindL_same hg
  refine ⟨N, bindL R N (some ⟨w.heap.size, 0, 0, 0⟩), bindL_mono hN, bindL_same, ?_⟩
  refine hr.frame (ts := []) (ts' := [(N, .obj o)]) (rs := ts) (.refl _) ⟨bindL_top hr.holds.top, by simp, ?_, ?_, fun b hb => Nat.lt_trans (hr.holds.low b hb) hblk⟩
    ⟨rfl, rfl, rfl, Nat.le_of_lt hblk, fun b hb _ => ?_, fun _ h => h, fun _ h => .inl h, bindL_mono hN, fun g hg => .inr ?_, fun l t hm => ?_⟩
  · intro l' t' hm
    obtain ⟨rfl, rfl⟩ : l' = N ∧ t' = .obj o := by simpa using hm
    simp only [TokHolds, bindL_same]
    rw [alloc_heap]; simp
  · rintro g hg hs
    have := hfoot g hg
    subst this
    exact absurd (hr.holds.low _ hs) (Nat.lt_irrefl _)
  · rw [alloc_heap, Array.getElem?_push, if_neg (by omega)]
  · rw [hfoot g hg]; exact Nat.le_refl _
  · obtain ⟨rfl, rfl⟩ : l = N ∧ t = .obj o := by simpa using hm
    exact .inr hN

/-- What lies there. -/
theorem RelAt.obj {G : CtxR P n ro} {S : Nat → Prop} {R : Lab} {st : St} {N : Nat} {o : Obj} {q : Blk} {a : Act} {w : World} (hr : RelAt G S R st a w) (hm : (N, Tok.obj o) ∈ st.toks) (hR : R N = some (some q)) : w.heap[q.g]? = some o := by
  have := hr.holds.tok _ _ hm
  simpa only [TokHolds, hR] using this

/-- It is turned. -/
theorem RelAt.putObj {G : CtxR P n ro} {S : Nat → Prop} {R : Lab} {sl : List (Nat × AV)} {ts : List (Nat × Tok)} {N : Nat} {o : Obj} {q : Blk} {a : Act} {w : World} (hr : RelAt G S R ⟨sl, (N, .obj o) :: ts⟩ a w) (hR : R N = some (some q)) (o' : Obj) : RelAt G S R ⟨sl, (N, .obj o') :: ts⟩ a (w.putObj q.g o') := by
  have hlt : q.g < w.heap.size := (Array.getElem?_eq_some_iff.1 (hr.obj (o := o) List.mem_cons_self hR)).1
  have hF : Foot R [(N, .obj o)] q.g := ⟨N, _, List.mem_singleton.2 rfl, by simp only [blkOf, hR]⟩
  refine hr.frame (ts := [(N, .obj o)]) (ts' := [(N, .obj o')]) (rs := ts) (.refl _) ⟨hr.holds.top, by simp, ?_, ?_, fun b hb => by rw [World.putObj_size]; exact hr.holds.low b hb⟩
    ⟨rfl, rfl, rfl, by rw [World.putObj_size]; exact Nat.le_refl _, fun b hb hnf => ?_, fun _ h => h, fun _ h => .inl h, fun _ _ h => h, fun g hg => .inl ?_, fun l t hm => .inl ?_⟩
  · intro l' t' hm
    obtain ⟨rfl, rfl⟩ : l' = N ∧ t' = .obj o' := by simpa using hm
    simp only [TokHolds, hR]
    exact World.putObj_heap_same hlt
  · rintro g hg hs
    have := obj_foot hR hg
    subst this
    exact hr.holds.notS _ ⟨N, .obj o, List.mem_cons_self, by simp only [blkOf, hR]⟩ hs
  · exact World.putObj_heap_other fun e => hnf (e ▸ hF)
  · rw [obj_foot hR hg]; exact hF
  · obtain ⟨rfl, rfl⟩ : l = N ∧ t = .obj o' := by simpa using hm
    exact ⟨_, List.mem_singleton.2 rfl⟩

theorem RelAt.sub {G : CtxR P n ro} {S : Nat → Prop} {R : Lab} {st st' : St} {a : Act} {w : World} (hr : RelAt G S R st a w) (hs : Sub st st') : RelAt G S R st' a w := by
  obtain ⟨h1, r, hp⟩ := hs S R a w hr.slots hr.holds
  exact ⟨hr.holds.sub ⟨r, hp⟩, h1, hr.out.sub (fun p hm => hp.mem_iff.2 (List.mem_append_left _ hm)), hr.defers, hr.size⟩
theorem RelAt.perm' {G : CtxR P n ro} {S : Nat → Prop} {R : Lab} {sl : List (Nat × AV)} {ts us : List (Nat × Tok)} {a : Act} {w : World} (hr : RelAt G S R ⟨sl, ts⟩ a w) (hp : ts.Perm us) : RelAt G S R ⟨sl, us⟩ a w :=
  ⟨hr.holds.sub ⟨[], by simpa using hp⟩, hr.slots, hr.out.sub (fun p hm => hp.mem_iff.2 hm), hr.defers, hr.size⟩
end
end Go.Proofs.YtmenbolalghljaaA
