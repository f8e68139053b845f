/- A function that holds a range over a bound method: its contract. -/
import Derived.Test.YtmenbolalghljaaAw37
namespace Go.Proofs.YtmenbolalghljaaA
open Go.RowKit

/-- How a bound method comes to be. -/
theorem ev_makeBound {P : Program} {st : St} {dst : Option Tmp} {ty : TypeId} {pos : String} {after : Array Edge} {g : Option (Nat × Bool)} {f : FuncId} {xs : List Operand} {ys : List AV} (hx : gets st xs = some ys) : OpEv P ⟨dst, .makeFunc (.func f) xs.toArray #[], ty, pos, after, g⟩ st (.bm f ys) :=
  ev_same fun S R a w hh ho => by
    have hr := gets_reps (S := S) (R := R) (w := w) (a := a) hx (fun z hz => ho z (by simp [Op.operands, hz]))
    refine ⟨.func (.func f) (xs.map a.eval).toArray #[], by simp [execOp, Instr.makeFunc], .bm (by simpa using hr.1) (fun i y hy => by simpa using hr.2 i y hy)⟩

theorem fn_rf {P : Program} {f : FuncId} {fn : Func} {A B C D as bd : Code} {id n : Nat} {g : Operand} {p1 p2 : Tmp} {rvs : Array ResultVar} {ts : List (Nat × Tok)} {args : List AV} {Post : List (Nat × Tok) → AV → Prop} (hf : P.funcs[f]? = some fn)
    (hb : fn.body = some (A.seq (B.seq ((C.seq (.block id (.rangeFunc g #[p1, p2] as bd))).seq D)))) (hn : fn.ntmps = n) (hrv : fn.results = rvs) (hl' : Nat.ble args.length n = true)
    (h : ∀ G : Ctx P n, AW G A ⟨argSl 0 args, ts⟩ (.seq B (.seq C (.nil fun e st => e = .normal ∧ Nonempty (Rng P n g p1 p2 as bd D rvs Post st))))) : Fn P f ts args Post := by
  refine ⟨?_⟩
  intro S R w vs hh hr
  have hl := Nat.le_of_ble_eq_true hl'
  refine callsIn_wide.1 (callsIn_of_wp_marks (F := Fence.wide) (n := 0) hf hb trivial ?_ rfl)
  have hsz : (vs.toArray ++ Array.replicate (fn.ntmps - vs.toArray.size) undef).size = n := by
    have := hr.1
    simp [hn]; omega
  obtain ⟨G, hG⟩ : ∃ G : Ctx P n, G = ⟨w, S, R, Foot R ts, fun l => ∃ t, (l, t) ∈ ts, []⟩ := ⟨_, rfl⟩
  have hr0 : RelAt G S R ⟨argSl 0 args, ts⟩ { tmps := vs.toArray ++ Array.replicate (fn.ntmps - vs.toArray.size) undef, defers := [] } w := by
    rw [hG]
    refine ⟨hh, ?_, ?_, rfl, hsz⟩
    · intro d x hx
      obtain ⟨_, h2⟩ := look_argSl args 0 d x hx
      have hd : d < args.length := by
        have := (List.getElem?_eq_some_iff.1 h2).1
        simpa using this
      have hv := hr.2 d x (by simpa using h2)
      have : d < vs.length := by rw [hr.1]; exact hd
      have e : (vs.toArray ++ Array.replicate (fn.ntmps - vs.toArray.size) undef).getD d undef = vs.getD d undef := by
        simp [Array.getElem?_append, this]
      show RepV S R w x ((vs.toArray ++ Array.replicate (fn.ntmps - vs.toArray.size) undef).getD d undef)
      rw [e]; exact hv
    · refine ⟨rfl, rfl, rfl, Nat.le_refl _, fun _ _ _ => rfl, fun _ h => h, fun _ h => .inl h, fun _ _ h => h, fun g h => .inl h, fun l t ht => .inl ⟨t, ht⟩⟩
  have hds : G.ds = [] := by rw [hG]
  -- how it is left
  have hfin : ∀ a' w', Fin G rvs Post a' w' → LeavesInM Fence.wide 0 P fn a'.tmps (FnPost S R w ts Post) a'.defers .returning w' := by
    rintro a' w' ⟨q, S1, R1, N, sl, ts1, hr1, hN, hres⟩
    rw [hr1.defers]
    have hr2 := hr1.putObj hN (.deferred none)
    refine ⟨by simp, .inl ⟨_, _, rfl, run_takeDeferred (hr1.obj List.mem_cons_self hN), ?_⟩⟩
    obtain ⟨r, hrs, ts', rest, ht, hp⟩ := hres
    have hr3 : RelAt (G.wds [{ target := .collected q.g, args := #[] }]) S1 R1 ⟨sl, ts1⟩ a' (w'.putObj q.g (.deferred none)) := ⟨hr2.holds.sub ⟨[_], List.perm_append_comm (l₁ := [_])⟩, hr2.slots, hr2.out.sub (fun p hp => List.mem_cons_of_mem _ hp), hr2.defers, hr2.size⟩
    obtain ⟨v, hv, hrep⟩ := hrs S1 R1 a' _ hr3.holds hr3.slots fn hrv
    have ho := hr3.out.sub (us := ts') fun p hm => ht.perm.mem_iff.2 (List.mem_append_left _ hm)
    rw [hG] at ho
    exact ⟨v, hv, v, r, S1, R1, ts', rfl, hp, hr3.holds.sub ⟨rest, ht.perm⟩, hrep, ho⟩
  refine wpIn_seq (wpIn_mono ((h G).h _ _ ⟨S, R, hr0⟩) ?_)
  rintro e a1 w1 ⟨st1, hq1, hr1⟩
  cases e with
  | normal =>
    refine wpIn_seq (wpIn_mono (hq1 _ _ hr1) ?_)
    rintro e a2 w2 ⟨st2, hq2, hr2⟩
    cases e with
    | normal =>
      refine wpIn_seq (wpIn_seq (wpIn_mono (hq2 _ _ hr2) ?_))
      rintro e a3 w3 ⟨st3, ⟨rfl, ⟨hrng⟩⟩, hr3⟩
      refine wpIn_block (rng_wp hds hrng hr3 (fun a4 w4 hD => ?_) (fun a4 w4 hF => hfin _ _ hF))
      refine wpIn_mono hD ?_
      rintro e a5 w5 ⟨rfl | rfl, hF⟩
      · exact hfin _ _ hF
      · exact hfin _ _ hF
    | _ => exact absurd hq2.1 (by simp)
  | _ => exact absurd hq1.1 (by simp)

/-- A result that lies in a cell. -/
theorem res_cell1 {P : Program} {st : St} {t e : TypeId} {ad : Tmp} {k l i j : Nat} {xs : List (List AV)} {cs : List AV} {y : AV} {r : List (Nat × Tok)} [hu : AgF P t false] (hx : look st.sl ad = some (.ptr l i j)) (ht : Take st.toks l (.row e k xs) r) (hcs : xs[i]? = some cs) (hy : cs[j]? = some y) :
    Res1 P st (.cell ad t) y := by
  intro S R a w hh hs
  have hv := hs ad _ hx
  generalize hvv : a.tmps.getD ad undef = v at hv
  cases hv with
  | ptr h =>
    rename_i q
    have htok := hh.tok l _ (ht.perm.mem_iff.2 (List.mem_cons_self))
    simp only [TokHolds, h] at htok
    obtain ⟨hkk, cur, fr, hg, _, _, _, _, hrow⟩ := htok
    obtain ⟨u, hu', hr', _⟩ := rowAt_cell hg hrow hcs hy
    refine ⟨u, ?_, hr'⟩
    simp only [resOne, Sem.run_bind, hvv, asAddr, Sem.run_pure, Result.andThen_ok]
    exact run_loadVar_one _ u w hu'
end Go.Proofs.YtmenbolalghljaaA
