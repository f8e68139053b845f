/- Places in arrays; functions without a body that answer a plain value. -/
import Derived.Test.YtmenbolalghljaaAwS1
import Derived.Lib.Bytealg
set_option linter.unusedVariables false
namespace Go.Proofs.YtmenbolalghljaaA
open Go.RowKit
section
variable {P : Program} {st : St} {dst : Option Tmp} {ty : TypeId} {pos : String} {after : Array Edge} {g : Option (Nat × Bool)}

theorem ev_indexAddr_arr {t e : TypeId} {x ix : Operand} {ki : IntKind} {len k q b l i j : Nat} {z : Value} [hu : Und P t (.array len e)] [he : ElF P e z k b] (hx : st.get x = some (.ptr l i j)) (hi : st.get ix = some (.val (.int ki (q : Nat)))) (hq : q < len) :
    OpEv P ⟨dst, .indexAddr t x ix, ty, pos, after, g⟩ st (.ptr l i (j + q * k)) :=
  ev_same fun S R a w _ ho => by
    have hr := ho x (by simp [Op.operands]) _ hx
    have hi' := rep_val (ho ix (by simp [Op.operands]) _ hi)
    generalize hv : a.eval x = v at hr
    cases hr with
    | ptr h =>
      refine ⟨_, ?_, .ptr h⟩
      simp [execOp, Instr.indexAt, Instr.sureAddr, hv, hi', asIntOf, run_underlying hu.h, ElF.size (P := P) (t := e), add_mk, Nat.add_assoc]
      exact fun hh => absurd hh (by omega)
theorem ev_indexAddr_arrip {t e : TypeId} {x ix : Operand} {ki : IntKind} {len k q b : Nat} {z : Value} {cs : List AV} [hu : Und P t (.array len e)] [he : ElF P e z k b] (hx : st.get x = some (.ip cs)) (hi : st.get ix = some (.val (.int ki (q : Nat)))) (hq : q < len) :
    OpEv P ⟨dst, .indexAddr t x ix, ty, pos, after, g⟩ st (.ip (cs.drop (q * k))) :=
  ev_same fun S R a w _ ho => by
    have hr := ho x (by simp [Op.operands]) _ hx
    have hi' := rep_val (ho ix (by simp [Op.operands]) _ hi)
    generalize hv : a.eval x = v at hr
    cases hr with
    | ip hS hc h1 hF =>
      rename_i ad F
      refine ⟨.pointer (some (ad.add (q * k))), ?_, .ip (F := fun j => F (q * k + j)) (by rw [add_block]; exact hS) (fun j y hy => ?_) (fun y hy => h1 y (List.mem_of_mem_drop hy)) (fun j y hy => hF _ _ (by rwa [List.getElem?_drop] at hy))⟩
      · simp [execOp, Instr.indexAt, Instr.sureAddr, hv, hi', asIntOf, run_underlying hu.h, ElF.size (P := P) (t := e)]
        exact fun hh => absurd hh (by omega)
      · rw [add_add]; exact hc _ _ (by rwa [List.getElem?_drop] at hy)

/-- A call of a function without a body, two plain arguments, a plain answer. -/
theorem ev_call_val2 {f : FuncId} {x y : Operand} {tys : Array TypeId} {u v r : Value} (hf : ∀ w, (callFunc f #[u, v]).run P w = .ok (.value r) w) (hx : st.get x = some (.val u)) (hy : st.get y = some (.val v)) :
    OpEv P ⟨dst, .call ⟨.value (.func f), #[x, y], tys⟩, ty, pos, after, g⟩ st (.val r) :=
  ev_same fun S R a w hh ho => by
    have h1 := rep_val (ho x (by simp [Op.operands, Call.operands]) _ hx)
    have h2 := rep_val (ho y (by simp [Op.operands, Call.operands]) _ hy)
    refine ⟨_, ?_, .val r⟩
    have hc : a.eval (.func f) = .func (.func f) #[] #[] := rfl
    simp [execOp, resolve, invoke, hc, Deferred.ofValue, h1, h2, hf]
end

/-- A loop's ways out come together ahead of what is behind its block. -/
theorem aw_joinb {P : Program} {n : Nat} {ro : Option Nat} {G : CtxR P n ro} {K : Kont} {st : St} {c y : Code} {id : Nat} {ι : Type} (I : ι → St) (Inv : ι → Prop) (h1 : AW G c st (.block id (.loop (fun st' => ∃ g, Inv g ∧ Sub st' (I g)) K))) (h2 : ∀ g, Inv g → AW G y (I g) K) : AW G c st (.block id (.seq y K)) := by
  have hn : ∀ st', (∃ g, Inv g ∧ Sub st' (I g)) → AWP G y st' (K.at G) := fun st' ⟨g, hg, hs⟩ => ((h2 g hg).sub hs).h
  refine ⟨fun a w hr => wpIn_mono (h1.h a w hr) ?_⟩
  rintro e a' w' ⟨st', hq, hr'⟩
  refine ⟨st', ?_, hr'⟩
  cases e with
  | normal => exact hn st' hq
  | exit id' =>
    change (if id' = id then _ else _) at hq
    show (if id' = id then _ else _)
    by_cases he : id' = id
    · rw [if_pos he] at hq ⊢; exact hn st' hq
    · rw [if_neg he] at hq ⊢; exact hq
  | _ => exact hq

theorem Cv.fn {ts : List (Nat × Tok)} {f : FuncId} {cs ds : List AV} (h : Cvs ts cs ds) : Cv ts (.fn f cs) (.fn f ds) := fun S S' R w hh hS hF v hv => by
  cases hv with
  | fn hl hf =>
    refine .fn (by rw [hl, h.len]) fun i y hy => ?_
    obtain ⟨x, hx, hc⟩ := h.get i y hy
    exact hc S S' R w hh hS hF _ (hf i x hx)

/-- A list with more behind it. -/
theorem Le.take {k n : Nat} {xs ys : List (List AV)} (hn : n ≤ xs.length) : Le (.sl k (xs ++ ys) n) (.sl k xs n) := fun S R w v hv => by
  cases hv with
  | sl hn0 hc hm hk ha h1 hf =>
    rename_i c a F
    have hg : ∀ {i : Nat} {x : List AV}, xs[i]? = some x → (xs ++ ys)[i]? = some x := fun {i x} h => by
      rw [List.getElem?_append_left (List.getElem?_eq_some_iff.1 h).1]; exact h
    refine .sl (F := F) hn (by rw [List.length_append] at hc; omega) hm (fun x hx => hk x (List.mem_append_left _ hx)) (fun hne => ?_) (fun x hx => h1 x (List.mem_append_left _ hx)) (fun i x j y hx hy => hf i x j y (hg hx) hy)
    obtain ⟨ad, e, hb, hcell⟩ := ha (fun h => hne (List.append_eq_nil_iff.1 h).1)
    exact ⟨ad, e, hb, fun i x j y hx hy => hcell i x j y (hg hx) hy⟩
theorem Cv.own_pre {ts r : List (Nat × Tok)} {l n k : Nat} {e : TypeId} {xs ys : List (List AV)} (ht : Take ts l (.row e k (xs ++ ys)) r) (hn : n ≤ xs.length) : Cv ts (.own l 0 n) (.sl k xs n) :=
  (Cv.own0 ht (by rw [List.length_append]; omega)).trans (Cv.le (Le.take hn))

/-! Bytes of texts. -/
theorem byteAt_bl {s : ByteArray} {i : Nat} {c : UInt8} (h : (bl s)[i]? = some c) : byteAt s i = c.toNat := by
  unfold byteAt; unfold bl at h; rw [h]; rfl
theorem ev_index_bl {P : Program} {st : St} {dst : Option Tmp} {ty : TypeId} {pos : String} {after : Array Edge} {g : Option (Nat × Bool)} {t : TypeId} {x ix : Operand} {ki : IntKind} {s : ByteArray} {i : Nat} {c : UInt8} [hu : Und P t .string] (hx : st.get x = some (.val (.string s))) (hi : st.get ix = some (.val (.int ki (i : Nat)))) (h : (bl s)[i]? = some c) :
    OpEv P ⟨dst, .index t x ix, ty, pos, after, g⟩ st (.val (.int .u8 c.toNat)) := by
  rw [← byteAt_bl h]
  exact ev_index_str hx hi (by have := (List.getElem?_eq_some_iff.1 h).1; rwa [bl_length] at this)
theorem BA_extract (l : List UInt8) (i j : Nat) : (BA l).extract i j = BA ((l.drop i).take (j - i)) := by
  rw [← bl_inj, bl_extract, bl_BA, bl_BA]
theorem extract_BA (s : ByteArray) (i j : Nat) : s.extract i j = BA (((bl s).drop i).take (j - i)) := by
  rw [← bl_inj, bl_extract, bl_BA]
theorem indexByte_none {c : UInt8} {l : List UInt8} (h : c ∉ l) : Lib.indexByte l c = -1 := by
  induction l with
  | nil => rfl
  | cons b l ih =>
    have h1 : ¬ b = c := fun e => h (e ▸ List.mem_cons_self)
    have h2 := ih fun hc => h (List.mem_cons_of_mem _ hc)
    simp [Lib.indexByte, h1, h2]
theorem indexByte_cut {c : UInt8} {l m : List UInt8} (h : c ∉ l) : Lib.indexByte (l ++ c :: m) c = l.length := by
  induction l with
  | nil => simp [Lib.indexByte]
  | cons b l ih =>
    have h1 : ¬ b = c := fun e => h (e ▸ List.mem_cons_self)
    have h2 := ih fun hc => h (List.mem_cons_of_mem _ hc)
    have h3 : ¬ ((l.length : Int) = -1) := by omega
    simp [Lib.indexByte, h1, h2, h3]
theorem cut_of_mem {c : UInt8} {l : List UInt8} (h : c ∈ l) : ∃ a b, l = a ++ c :: b ∧ c ∉ a := by
  induction l with
  | nil => cases h
  | cons x l ih =>
    by_cases hx : x = c
    · exact ⟨[], l, by simp [hx], by simp⟩
    · have : c ∈ l := by
        rcases List.mem_cons.1 h with h | h
        · exact absurd h.symm hx
        · exact h
      obtain ⟨a, b, rfl, hb⟩ := ih this
      refine ⟨x :: a, b, rfl, fun hm => ?_⟩
      rcases List.mem_cons.1 hm with h | h
      · exact hx h.symm
      · exact hb h
theorem pieces_length (sep : UInt8) (l : List UInt8) : (pieces sep l).length = l.count sep + 1 := by
  induction l with
  | nil => rfl
  | cons c r ih =>
    unfold pieces
    by_cases h : c = sep
    · rw [if_pos h, List.length_cons, ih, h, List.count_cons_self]
    · rw [if_neg h, List.count_cons_of_ne (by simpa using h)]
      cases hp : pieces sep r with
      | nil => exact absurd hp (pieces_ne _ _)
      | cons a t => rw [hp] at ih; simpa using ih
end Go.Proofs.YtmenbolalghljaaA
