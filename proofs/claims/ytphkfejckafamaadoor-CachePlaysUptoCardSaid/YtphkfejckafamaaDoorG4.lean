import Derived.Test.YtphkfejckafamaaDoorG3
import Derived.Laws.MakeOwn
import Derived.MapKept
import Derived.Laws.IdiomStrings
import Derived.Lib.Bytealg
import Derived.RangeFuncLeaves
import Derived.RangeFuncSeq
import Derived.RangeFuncRecord
/- Laws of bits. -/
namespace Go.Proofs.YtphkfejckafamaaDoorA
theorem wrap_bv (x : BitVec 64) : IntKind.i64.wrap (x.toNat : Int) = x.toInt := by
  rw [BitVec.toInt_eq_toNat_cond]
  have h := x.isLt
  have e : (x.toNat : Int) % (2 ^ IntKind.i64.bits : Int) = x.toNat := by
    show (x.toNat : Int) % 2 ^ 64 = x.toNat
    omega
  unfold IntKind.wrap
  simp only [e]
  by_cases hx : 2 * x.toNat < 2 ^ 64
  · rw [if_pos hx, if_neg]
    intro h2
    simp only [Bool.and_eq_true, decide_eq_true_eq] at h2
    have h3 : (x.toNat : Int) ≥ 2 ^ 63 := h2.2
    omega
  · rw [if_neg hx, if_pos]
    · rfl
    · simp only [Bool.and_eq_true, decide_eq_true_eq]
      refine ⟨rfl, ?_⟩
      show (x.toNat : Int) ≥ 2 ^ 63
      omega
theorem ofInt_toInt (x : BitVec 64) : BitVec.ofInt 64 x.toInt = x := by simp
theorem andI_bv (p q : Int) : andI p q = (BitVec.ofInt 64 p &&& BitVec.ofInt 64 q).toInt := by rw [andI]; exact wrap_bv _
theorem orI_bv (p q : Int) : orI p q = (BitVec.ofInt 64 p ||| BitVec.ofInt 64 q).toInt := by rw [orI]; exact wrap_bv _
theorem nandI_bv (p q : Int) : nandI p q = (BitVec.ofInt 64 p &&& ~~~ BitVec.ofInt 64 q).toInt := by rw [nandI]; exact wrap_bv _
theorem andI_nandI (a m k : Int) (h : ~~~ BitVec.ofInt 64 m &&& BitVec.ofInt 64 k = BitVec.ofInt 64 k) : andI (nandI a m) k = andI a k := by
  rw [andI_bv, nandI_bv, ofInt_toInt, BitVec.and_assoc, h, ← andI_bv]
theorem andI_orI (a m k : Int) (h : BitVec.ofInt 64 m &&& BitVec.ofInt 64 k = 0) : andI (orI a m) k = andI a k := by
  rw [andI_bv, orI_bv, ofInt_toInt, andI_bv]
  congr 1
  generalize BitVec.ofInt 64 a = x at *
  generalize BitVec.ofInt 64 m = y at *
  generalize BitVec.ofInt 64 k = z at *
  apply BitVec.eq_of_getLsbD_eq
  intro i hi
  have h2 : (y &&& z).getLsbD i = (0#64).getLsbD i := congrArg (fun b => b.getLsbD i) h
  rw [BitVec.getLsbD_and, BitVec.getLsbD_zero] at h2
  rw [BitVec.getLsbD_and, BitVec.getLsbD_or, BitVec.getLsbD_and]
  generalize x.getLsbD i = p at *
  generalize y.getLsbD i = q at *
  generalize z.getLsbD i = r at *
  revert h2
  cases p <;> cases q <;> cases r <;> decide
theorem andI_same (a m : Int) : andI (orI a m) m = (BitVec.ofInt 64 m).toInt := by
  rw [andI_bv, orI_bv, ofInt_toInt]
  congr 1
  generalize BitVec.ofInt 64 a = x
  generalize BitVec.ofInt 64 m = y
  apply BitVec.eq_of_getLsbD_eq
  intro i hi
  simp
  cases y.getLsbD i <;> simp
theorem andI_nandI_same (a m : Int) : andI (nandI a m) m = 0 := by
  rw [andI_bv, nandI_bv, ofInt_toInt, BitVec.and_assoc]
  have : ~~~ BitVec.ofInt 64 m &&& BitVec.ofInt 64 m = 0 := by
    generalize BitVec.ofInt 64 m = y
    apply BitVec.eq_of_getLsbD_eq
    intro i hi
    simp
  rw [this]
  simp
theorem nandI_orI (a m : Int) : nandI (orI a m) m = nandI a m := by
  rw [nandI_bv, orI_bv, ofInt_toInt, nandI_bv]
  congr 1
  generalize BitVec.ofInt 64 a = x
  generalize BitVec.ofInt 64 m = y
  apply BitVec.eq_of_getLsbD_eq
  intro i hi
  simp
  cases y.getLsbD i <;> simp
theorem nandI_nandI (a m : Int) : nandI (nandI a m) m = nandI a m := by
  rw [nandI_bv, nandI_bv, ofInt_toInt, BitVec.and_assoc]
  congr 2
  simp
theorem andI_range (a : Int) (m : Nat) (hm : m < 2 ^ 63) : 0 ≤ andI a m ∧ andI a m ≤ m := by
  rw [andI_bv, BitVec.toInt_eq_toNat_cond, BitVec.toNat_and]
  have h1 : (BitVec.ofInt 64 (m : Int)).toNat = m := by
    rw [BitVec.ofInt_natCast, BitVec.toNat_ofNat]
    omega
  rw [h1]
  have h2 := Nat.and_le_right (n := (BitVec.ofInt 64 a).toNat) (m := m)
  rw [if_pos (by omega)]
  omega
theorem andI_8 (a : Int) : andI (nandI a 4) 8 = andI a 8 := andI_nandI _ _ _ (by decide)
theorem andI_32 (a : Int) : andI (nandI a 4) 32 = andI a 32 := andI_nandI _ _ _ (by decide)
end Go.Proofs.YtphkfejckafamaaDoorA

/- make of slices; bytes of one's own as a string. -/
set_option linter.unusedVariables false
namespace Go.Proofs.YtphkfejckafamaaDoorA
open Go.RowKit
section
variable {P : Program} {st : St} {dst : Option Tmp} {ty : TypeId} {pos : String} {after : Array Edge} {g : Option (Nat × Bool)}

theorem made_get {zs : Array Value} {n i : Nat} (hi : i < n) (hz : 0 < zs.size) : (madeCells zs n)[i]? = some (zs.getD (i % zs.size) undef) := by
  have hm : i % zs.size < zs.size := Nat.mod_lt _ hz
  simp [madeCells, hi, hm, Array.getD_eq_getD_getElem?]

/-- make([]T, n, c) -/
theorem eff_makeSlice {t e : TypeId} {x y : Operand} {kl kc : IntKind} {k b n c : Nat} {z : Value} [hu : Und P t (.slice e)] [he : ElF P e z k b] (hx : st.get x = some (.val (.int kl (n : Nat)))) (hy : st.get y = some (.val (.int kc (c : Nat)))) (hnc : n ≤ c) (hb : c * b ≤ 281474976710656) (hm : c ≤ 1099511627776) (hk0 : 0 < k) :
    OpEff P ⟨dst, .makeSlice t x y, ty, pos, after, g⟩ st [] (fun ts r => ∃ l, ts = [(l, .row e k (List.replicate c (vcells z)))] ∧ r = .own l 0 n) := by
  refine ⟨?_⟩
  intro S R a w hh ho next Q hk
  obtain ⟨N, hN⟩ := hh.free
  obtain ⟨i, hi, hz, hsz, hbt, hzc, hall⟩ := he.h
  have e1 := rep_val (ho x (by simp [Op.operands]) _ hx)
  have e2 := rep_val (ho y (by simp [Op.operands]) _ hy)
  have hbb : (i.bytes : Int) * (c : Int) ≤ 281474976710656 := by
    have h1 : ((b * c : Nat) : Int) ≤ 281474976710656 := by rw [Nat.mul_comm]; omega
    rw [hbt]
    rwa [Int.natCast_mul] at h1
  have hrun := run_make (P := P) w t e i z hu.h hi hz kl kc n c (by omega) (by omega) hbb (by omega)
  simp only [Int.toNat_natCast] at hrun
  rw [hsz] at hrun
  have hf := fresh_row (e := e) hN hh.top hh.low (Below.refl _ w) rfl (cur := madeCells z.cells (c * k)) (k := k) (t := c) (xs := List.replicate c (vcells z)) (by simp [madeCells]) (by simp) (by simp [maxLen]; omega) (fun j u hu2 => by
    have hj : j < c := by have := (List.getElem?_eq_some_iff.1 hu2).1; simpa using this
    rw [List.getElem?_replicate, if_pos hj] at hu2
    cases hu2
    refine ⟨by simp [vcells, hzc], fun m v hv => ?_⟩
    simp only [vcells, List.getElem?_map, Option.map_eq_some_iff] at hv
    obtain ⟨q, hq, rfl⟩ := hv
    have hm2 : m < k := by rw [← hzc]; have := (List.getElem?_eq_some_iff.1 hq).1; simpa using this
    refine ⟨List.all_eq_true.1 hall q (List.mem_of_getElem? hq), q, ?_, .val _⟩
    have hlt : j * k + m < c * k := by
      have : (j + 1) * k ≤ c * k := Nat.mul_le_mul_right k (by omega)
      rw [Nat.add_mul, Nat.one_mul] at this
      omega
    rw [made_get hlt (by rw [hzc]; exact hk0), hzc, Nat.mul_comm j k, Nat.mul_add_mod, Nat.mod_eq_of_lt hm2]
    simp only [Array.getElem?_toList] at hq
    simp [Array.getD_eq_getD_getElem?, hq])
  unfold Oper.wp
  have hex : (execOp a.eval ⟨dst, .makeSlice t x y, ty, pos, after, g⟩).run P w = .ok (.value (.slice (some ⟨w.heap.size, 0, none⟩) n c)) (w.alloc (.cells (madeCells z.cells (c * k)) e)) := by
    simp [execOp, e1, e2, hrun]
  rw [hex]
  have hp : RepV S (bindL R N (some ⟨w.heap.size, 0, k, c⟩)) (w.alloc (.cells (madeCells z.cells (c * k)) e)) (.own N 0 n) (.slice (some ⟨w.heap.size, 0, none⟩) n c) :=
    .own (bindL_same (R := R) (q := some ⟨w.heap.size, 0, k, c⟩)) hnc (by simp [maxLen]; omega) (by simp) (.inr (by simp)) ⟨_, rfl, rfl⟩
  exact hk _ _ S _ _ _ ⟨N, rfl, rfl⟩ hf.1 hp hf.2

/-- string(bytes of one's own) -/
theorem ev_conv_own {src d e e' : TypeId} {x : Operand} {l : Nat} {bs : List UInt8} {r : List (Nat × Tok)} [hs : Und P src (.slice e)] [he : Und P e (.int .u8)] [hd : Und P d .string] (hx : st.get x = some (.own l 0 bs.length)) (ht : Take st.toks l (.row e' 1 (u8cells bs)) r) :
    OpEv P ⟨dst, .convert src d x, ty, pos, after, g⟩ st (.val (.string ⟨bs.toArray⟩)) := by
  refine ev_same fun S R a w hh ho => ?_
  have hv := ho x (by simp [Op.operands]) _ hx
  have htok := hh.tok l _ (ht.perm.mem_iff.2 List.mem_cons_self)
  have hsl := own_to_sl (S' := fun b => S b ∨ blkOf R l = some b) htok hv (by simp [u8cells]) (fun _ h => .inl h) (fun g hg => .inr hg)
  simp only [List.drop_zero] at hsl
  generalize hve : a.eval x = v at hsl
  cases hsl with
  | sl hn hc hm hk ha h1 hF =>
    rename_i c ad F
    refine ⟨_, ?_, .val _⟩
    have hrun := run_conv_bytes (P := P) (src := src) (d := d) (e := e) (w := w) (a := ad) (n := bs.length) (c := c) (ns := bs.map fun b => (b.toNat : Int)) (by simp) (fun hpos => by
      have h9 : (u8cells bs).length = bs.length := by simp [u8cells]
      obtain ⟨ad', e1, hS, hcell⟩ := ha (fun h0 => by rw [h0] at h9; simp at h9; omega)
      refine ⟨ad', e1, fun j p hp => ?_⟩
      rw [List.getElem?_map, Option.map_eq_some_iff] at hp
      obtain ⟨q, hq, rfl⟩ := hp
      have hx2 : (u8cells bs)[j]? = some [.val (.int .u8 q.toNat)] := by simp [u8cells, hq]
      have h3 := hcell j _ 0 _ hx2 rfl
      have h4 := rep_val (hF j _ 0 _ hx2 rfl)
      rw [h4] at h3
      simpa using h3)
    have hof : ofInts (bs.map fun b => (b.toNat : Int)) = ⟨bs.toArray⟩ := by
      apply ByteArray.ext
      simp only [ofInts, List.map_map]
      congr 1
      rw [List.map_congr_left (g := id) (fun b _ => by simp)]
      simp
    rw [hof] at hrun
    simp only [execOp, hve]
    simp [hrun]
theorem u8_zeros (n : Nat) : List.replicate n [AV.val (.int .u8 0)] = u8cells (List.replicate n 0) := by
  simp [u8cells]
end
end Go.Proofs.YtphkfejckafamaaDoorA

/- Where ways come together. -/
set_option linter.unusedVariables false
namespace Go.Proofs.YtphkfejckafamaaDoorA
open Go.RowKit
section
variable {P : Program} {n : Nat} {ro : Option Nat} {G : CtxR P n ro} {K : Kont} {st : St}
/-- Behind x the ways come together in states I g; y goes on from there. -/
theorem aw_join {x y : Code} {ι : Type} (I : ι → St) (Inv : ι → Prop) (h1 : AW G x st (.loop (fun st' => ∃ g, Inv g ∧ Sub st' (I g)) K)) (h2 : ∀ g, Inv g → AW G y (I g) K) : AW G x st (.seq y K) := by
  refine ⟨fun a w hr => wpIn_mono (h1.h a w hr) ?_⟩
  rintro e a' w' ⟨st', hq, hr'⟩
  refine ⟨st', ?_, hr'⟩
  cases e with
  | normal =>
    obtain ⟨g, hg, hs⟩ := hq
    exact ((h2 g hg).sub hs).h
  | _ => exact hq
end
end Go.Proofs.YtphkfejckafamaaDoorA

/- Maps whose keys are structs of plain cells. -/
set_option linter.unusedVariables false
namespace Go.Proofs.YtphkfejckafamaaDoorA
open Go.RowKit
variable {P : Program}

theorem chk_str {t : TypeId} [hu : Und P t .string] (e : Bool) (n : Nat) (v : Value) (w : World) : (Instr.checkKey e (n + 1) t v).run P w = .ok () w := by
  unfold Instr.checkKey
  simp [run_underlying hu.h]
theorem chk_int {t : TypeId} {k : IntKind} [hu : Und P t (.int k)] (e : Bool) (n : Nat) (v : Value) (w : World) : (Instr.checkKey e (n + 1) t v).run P w = .ok () w := by
  unfold Instr.checkKey
  simp [run_underlying hu.h]
theorem chk_bool {t : TypeId} [hu : Und P t .bool] (e : Bool) (n : Nat) (v : Value) (w : World) : (Instr.checkKey e (n + 1) t v).run P w = .ok () w := by
  unfold Instr.checkKey
  simp [run_underlying hu.h]
/-- A field's type is plain and of one cell. -/
structure ChkD (P : Program) (n : Nat) (t : TypeId) : Prop where
  chk : ∀ (e : Bool) (v : Value) (w : World), (Instr.checkKey e n t v).run P w = .ok () w
  ag : ∀ w, (isAgg t).run P w = .ok false w
theorem chkd_str {n : Nat} {t : TypeId} [hu : Und P t .string] (ha : ∀ w, (isAgg t).run P w = .ok false w) : ChkD P (n + 1) t := ⟨fun e v w => chk_str e n v w, ha⟩
theorem chkd_int {n : Nat} {t : TypeId} {k : IntKind} [hu : Und P t (.int k)] (ha : ∀ w, (isAgg t).run P w = .ok false w) : ChkD P (n + 1) t := ⟨fun e v w => chk_int e n v w, ha⟩
theorem chkd_bool {n : Nat} {t : TypeId} [hu : Und P t .bool] (ha : ∀ w, (isAgg t).run P w = .ok false w) : ChkD P (n + 1) t := ⟨fun e v w => chk_bool e n v w, ha⟩
theorem chk_struct {t : TypeId} {fs : Array Field} {n : Nat} (hu : P.underlying t = some (.struct fs)) (h : ∀ f, f ∈ fs.toList → ChkD P n f.type) (e : Bool) (us : List Value) (hlen : ∀ f, f ∈ fs.toList → f.offset < us.length) (w : World) : (Instr.checkKey e (n + 1) t (.agg us.toArray)).run P w = .ok () w := by
  unfold Instr.checkKey
  simp only [Sem.run_bind, run_underlying hu, Result.andThen_ok]
  rw [← Array.forIn_toList]
  have key : ∀ l : List Field, (∀ f, f ∈ l → ChkD P n f.type) → (∀ f, f ∈ l → f.offset < us.length) → (forIn l PUnit.unit fun (f : Field) (__s : PUnit) =>
      if f.name ≠ "_" then do
        let c ← part f.type us.toArray f.offset
        Instr.checkKey e n f.type c
        pure (ForInStep.yield PUnit.unit)
      else pure (ForInStep.yield PUnit.unit) : Sem PUnit).run P w = .ok () w := by
    intro l
    induction l with
    | nil => intro _ _; simp
    | cons f l ih =>
      intro h1 h2
      have hf := h1 f List.mem_cons_self
      have hl := h2 f List.mem_cons_self
      have hrest := ih (fun g hg => h1 g (List.mem_cons_of_mem _ hg)) (fun g hg => h2 g (List.mem_cons_of_mem _ hg))
      have hpart : (part f.type us.toArray f.offset).run P w = .ok (us.toArray[f.offset]'(by simpa using hl)) w := by
        simp [part, hf.ag, hl]
      rw [List.forIn_cons]
      by_cases hn : f.name ≠ "_"
      · rw [if_pos hn]
        simp only [Sem.run_bind, hpart, Result.andThen_ok, hf.chk, Sem.run_pure]
        exact hrest
      · rw [if_neg hn]
        simp only [Sem.run_bind, Result.andThen_ok, Sem.run_pure]
        exact hrest
  rw [key fs.toList h hlen]
  rfl

/-- A key's type: a struct of plain cells of these kinds. -/
class KeyF (P : Program) (kt : TypeId) (ks : outParam (List CK)) : Prop where
  chk : ∀ (e : Bool) (us : List Value) (w : World), fitsB ks us = true → (Instr.checkKey e 10000 kt (.agg us.toArray)).run P w = .ok () w
  eq : EqD P 10000 kt ks true
  str : ∃ fs, P.underlying kt = some (.struct fs)

def findIx (us : List Value) : List (List Value × AV) → Option Nat
  | [] => none
  | p :: r => if eqVs us p.1 then some 0 else (findIx us r).map (· + 1)

theorem mkV_true (us : List Value) : mkV true us = .agg us.toArray := by unfold mkV; cases us <;> rfl

theorem run_findAsking {kt : TypeId} {ks : List CK} [hk : KeyF P kt ks] {us : List Value} {w : World} (hu : fitsB ks us = true) : ∀ (L : List MapEntry) (es : List (List Value × AV)) (i0 : Nat), L.length = es.length → (∀ (i : Nat) (m : MapEntry) (p : List Value × AV), L[i]? = some m → es[i]? = some p → m.key = .agg p.1.toArray) → (∀ p, p ∈ es → fitsB ks p.1 = true) →
    (findIx us es = none → (Instr.findAsking kt (.agg us.toArray) L i0).run P w = .ok none w) ∧ (∀ i, findIx us es = some i → ∃ m, L[i]? = some m ∧ (Instr.findAsking kt (.agg us.toArray) L i0).run P w = .ok (some (i0 + i, m.val)) w)
  | [], [], i0, _, _, _ => ⟨fun _ => by simp [Instr.findAsking], fun i h => by simp [findIx] at h⟩
  | m :: L, p :: es, i0, hl, hkey, hfit => by
    have ih := run_findAsking (kt := kt) (w := w) hu L es (i0 + 1) (by simpa using hl) (fun i m p h1 h2 => hkey (i + 1) m p (by simpa using h1) (by simpa using h2)) (fun p hp => hfit p (List.mem_cons_of_mem _ hp))
    have hm := hkey 0 m p rfl rfl
    have he : (Op.equal kt (.agg us.toArray) m.key).run P w = .ok (eqVs us p.1) w := by
      rw [hm]
      have := hk.eq us p.1 w hu (hfit p List.mem_cons_self)
      rw [mkV_true, mkV_true] at this
      exact this
    unfold Instr.findAsking findIx
    simp only [Sem.run_bind, he, Result.andThen_ok]
    by_cases hb : eqVs us p.1 = true
    · simp only [hb, if_true, Sem.run_pure]
      exact ⟨(fun h => by cases h), fun i h => by cases h; exact ⟨m, rfl, rfl⟩⟩
    · simp only [Bool.not_eq_true] at hb
      simp only [hb, Bool.false_eq_true, if_false]
      refine ⟨fun h => ih.1 (by simpa using h), fun i h => ?_⟩
      rw [Option.map_eq_some_iff] at h
      obtain ⟨j, hj, rfl⟩ := h
      obtain ⟨m', h1, h2⟩ := ih.2 j hj
      exact ⟨m', by simpa using h1, by rw [h2]; congr 3; omega⟩
  | [], _ :: _, _, hl, _, _ => by simp at hl
  | _ :: _, [], _, hl, _, _ => by simp at hl

theorem run_findKey {kt : TypeId} {ks : List CK} [hk : KeyF P kt ks] {us : List Value} {w : World} (hu : fitsB ks us = true) (L : List MapEntry) (es : List (List Value × AV)) (hl : L.length = es.length) (hkey : ∀ (i : Nat) (m : MapEntry) (p : List Value × AV), L[i]? = some m → es[i]? = some p → m.key = .agg p.1.toArray) (hfit : ∀ p, p ∈ es → fitsB ks p.1 = true) :
    (findIx us es = none → (Instr.findKey kt (.agg us.toArray) L).run P w = .ok none w) ∧ (∀ i, findIx us es = some i → ∃ m, L[i]? = some m ∧ (Instr.findKey kt (.agg us.toArray) L).run P w = .ok (some (i, m.val)) w) := by
  obtain ⟨fs, hfs⟩ := hk.str
  have h := run_findAsking (P := P) (kt := kt) (w := w) hu L es 0 hl hkey hfit
  have e : (Instr.findKey kt (.agg us.toArray) L).run P w = (Instr.findAsking kt (.agg us.toArray) L 0).run P w := by
    unfold Instr.findKey
    simp only [Sem.run_bind, run_underlying hfs, Result.andThen_ok]
    cases L with
    | nil => simp [Instr.findNow, Instr.findAsking]
    | cons m L => simp [Instr.findNow, Instr.sameNow]
  rw [e]
  refine ⟨h.1, fun i hi => ?_⟩
  obtain ⟨m, h1, h2⟩ := h.2 i hi
  exact ⟨m, h1, by rw [h2, Nat.zero_add]⟩

/-- Entries as a token has them. -/
def encE (es : List (List Value × AV)) : List (AV × AV) := es.map fun p => (.agg (p.1.map .val), p.2)

theorem mapAt_get {S : Nat → Prop} {R : Lab} {w : World} {ents : Array MapEntry} {es : List (List Value × AV)} (h : MapAt S R w ents (encE es)) : ents.toList.length = es.length ∧ (∀ (i : Nat) (m : MapEntry) (p : List Value × AV), ents.toList[i]? = some m → es[i]? = some p → m.key = .agg p.1.toArray ∧ RepV S R w p.2 m.val) := by
  obtain ⟨h1, h2⟩ := h
  refine ⟨by simpa [encE] using h1, fun i m p hm hp => ?_⟩
  have hp' : (encE es)[i]? = some (.agg (p.1.map .val), p.2) := by simp [encE, hp]
  obtain ⟨m', hm', hk, hv⟩ := h2 i _ hp'
  rw [Array.getElem?_toList] at hm
  rw [hm] at hm'
  cases hm'
  refine ⟨?_, hv⟩
  generalize m.key = kk at hk
  cases hk with
  | agg hl hf =>
    rename_i vs
    have := agg_vals (S := S) (R := R) (w := w) (RepV.agg hl hf)
    rw [this]

section
variable {st : St} {dst : Option Tmp} {ty : TypeId} {pos : String} {after : Array Edge} {g : Option (Nat × Bool)}

theorem eff_makeMap {t : TypeId} : OpEff P ⟨dst, .makeMap t none, ty, pos, after, g⟩ st [] (fun ts r => ∃ l, ts = [(l, .map (encE []))] ∧ r = .mref l) := by
  refine ⟨?_⟩
  intro S R a w hh ho next Q hk
  obtain ⟨N, hN⟩ := hh.free
  have hrun : (execOp a.eval ⟨dst, .makeMap t none, ty, pos, after, g⟩).run P w = .ok (.value (.map (some w.heap.size))) (w.alloc (.map #[] 0)) := rfl
  unfold Oper.wp
  rw [hrun]
  have hblk : w.heap.size < (w.alloc (.map #[] 0)).heap.size := by rw [alloc_heap]; simp
  have hb : blkOf (bindL R N (some ⟨w.heap.size, 0, 0, 0⟩)) N = some w.heap.size := by simp [blkOf, bindL_same]
  have hfoot : ∀ g, Foot (bindL R N (some ⟨w.heap.size, 0, 0, 0⟩)) [(N, .map (encE []))] g → g = w.heap.size := by
    rintro g ⟨l', t', hm, hg⟩
    simp at hm
    obtain ⟨rfl, rfl⟩ := hm
    rw [hb] at hg
    exact (Option.some.inj hg).symm
  refine hk _ (.mref N) S (bindL R N (some ⟨w.heap.size, 0, 0, 0⟩)) _ _ ⟨N, rfl, rfl⟩ ⟨bindL_top hh.top, by simp, ?_, ?_, fun b hb => Nat.lt_trans (hh.low b hb) hblk⟩ (.mref (q := ⟨w.heap.size, 0, 0, 0⟩) bindL_same) ⟨rfl, rfl, rfl, Nat.le_of_lt hblk, fun b hb _ => ?_, fun _ h => h, fun _ h => .inl h, fun m q hq => bindL_mono hN m q hq, fun g hg => .inr ?_, fun l' t' hm => ?_⟩
  · intro l' t' hm
    simp at hm
    obtain ⟨rfl, rfl⟩ := hm
    simp only [TokHolds, bindL_same]
    exact ⟨#[], 0, by rw [alloc_heap]; simp, ⟨rfl, by intro i p hp; simp [encE] at hp⟩⟩
  · rintro g hg hs
    have := hfoot g hg
    subst this
    exact absurd (hh.low _ hs) (Nat.lt_irrefl _)
  · rw [alloc_heap, Array.getElem?_push, if_neg (by omega)]
  · rw [hfoot g hg]; exact Nat.le_refl _
  · simp at hm
    exact .inr (by rw [hm.1]; exact hN)

/-- What an empty place of a type reads as. -/
def zeroAV (ag : Bool) (z : Value) : AV := if ag then .agg (vcells z) else .val z
theorem look_run {t kt e : TypeId} {ks : List CK} {x ix : Operand} {us : List Value} {l : Nat} {es : List (List Value × AV)} {ok : Bool} [hm : Und P t (.map kt e)] [hk : KeyF P kt ks] {S : Nat → Prop} {R : Lab} {a : Act} {w : World} (htok : TokHolds S R w l (.map (encE es))) (hx : RepV S R w (.mref l) (a.eval x)) (hi : a.eval ix = .agg us.toArray) (hu : fitsB ks us = true) (hfit : ∀ p, p ∈ es → fitsB ks p.1 = true) :
    (findIx us es = none → ∀ z, (zeroValue e).run P w = .ok z w → (execOp a.eval ⟨dst, .lookup t x ix ok, ty, pos, after, g⟩).run P w = .ok (.value (if ok then .tuple #[z, .bool false] else z)) w) ∧
    (∀ i p, findIx us es = some i → es[i]? = some p → ∃ v, RepV S R w p.2 v ∧ (execOp a.eval ⟨dst, .lookup t x ix ok, ty, pos, after, g⟩).run P w = .ok (.value (if ok then .tuple #[v, .bool true] else v)) w) := by
  generalize hxe : a.eval x = xv at hx
  cases hx with
  | mref h =>
    rename_i q
    simp only [TokHolds, h] at htok
    obtain ⟨ents, clock, hg, hat⟩ := htok
    obtain ⟨h1, h2⟩ := mapAt_get hat
    have hf := run_findKey (P := P) (kt := kt) (w := w) hu ents.toList es h1 (fun i m p hm hp => (h2 i m p hm hp).1) hfit
    have hget := Go.MapKept.run_getObj_map (P := P) hg
    constructor
    · intro hn z hz
      have hf1 := hf.1 hn
      simp [execOp, Instr.lookup, run_underlying hm.h, hxe, hi, hget, hk.chk _ us w hu, hf1, hz]
    · intro i p hi2 hp
      obtain ⟨m, hm1, hm2⟩ := hf.2 i hi2
      refine ⟨m.val, (h2 i m p hm1 hp).2, ?_⟩
      simp [execOp, Instr.lookup, run_underlying hm.h, hxe, hi, hget, hk.chk _ us w hu, hm2]

theorem findIx_lt {us : List Value} : ∀ {es : List (List Value × AV)} {i : Nat}, findIx us es = some i → ∃ p, es[i]? = some p
  | p :: r, i, h => by
    unfold findIx at h
    split at h
    · cases h; exact ⟨p, rfl⟩
    · rw [Option.map_eq_some_iff] at h
      obtain ⟨j, hj, rfl⟩ := h
      simpa using findIx_lt hj
/-- v, ok := m[k] -/
theorem ev_lookup_ok {t kt e : TypeId} {ks : List CK} {z : Value} {k b : Nat} {ag : Bool} {x ix : Operand} {cs : List AV} {us : List Value} {l : Nat} {es : List (List Value × AV)} {r : List (Nat × Tok)} [hm : Und P t (.map kt e)] [hk : KeyF P kt ks] [he : ElF P e z k b] [hag : AgF P e ag] (hx : st.get x = some (.mref l)) (hi : st.get ix = some (.agg cs)) (hp : plains cs = some us) (hu : fitsB ks us = true) (ht : Take st.toks l (.map (encE es)) r) (hfit : ∀ p, p ∈ es → fitsB ks p.1 = true) (hz : ag = true → ∃ zs, z = .agg zs) :
    OpEv P ⟨dst, .lookup t x ix true, ty, pos, after, g⟩ st (.tup [match (findIx us es).bind (es[·]?) with | some p => p.2 | none => zeroAV ag z, .val (.bool (findIx us es).isSome)]) := by
  refine ev_same fun S R a w hh ho => ?_
  have hxv := ho x (by simp [Op.operands]) _ hx
  have hiv := ho ix (by simp [Op.operands]) _ hi
  have htok := hh.tok l _ (ht.perm.mem_iff.2 List.mem_cons_self)
  rw [plains_map hp] at hiv
  have hie : a.eval ix = .agg us.toArray := by
    generalize a.eval ix = iv at hiv
    cases hiv with
    | agg hl hf => rw [agg_vals (.agg hl hf)]
  have hl := look_run (P := P) (t := t) (dst := dst) (ty := ty) (pos := pos) (after := after) (g := g) (ok := true) htok hxv hie hu hfit
  have htup : ∀ (y1 : AV) (v1 v2 : Value), RepV S R w y1 v1 → RepV S R w (.tup [y1, .val v2]) (.tuple #[v1, v2]) := fun y1 v1 v2 h => by
    refine .tup rfl fun i x hx => ?_
    match i, hx with
    | 0, hx => simp at hx; subst hx; exact h
    | 1, hx => simp at hx; subst hx; exact .val _
  cases hfx : findIx us es with
  | none =>
    refine ⟨_, hl.1 hfx z (ElF.zero (P := P) (t := e) w), ?_⟩
    simp only [Option.bind_none, Option.isSome_none, if_true]
    refine htup _ _ _ ?_
    unfold zeroAV
    cases ag with
    | false => exact .val _
    | true =>
      obtain ⟨zs, rfl⟩ := hz rfl
      simp only [if_true]
      refine .agg (by simp [vcells, Value.cells]) fun i y hy => ?_
      simp only [vcells, Value.cells, List.getElem?_map, Option.map_eq_some_iff] at hy
      obtain ⟨u, hu, rfl⟩ := hy
      have : zs.getD i undef = u := by
        simp only [Array.getElem?_toList] at hu
        simp [Array.getD_eq_getD_getElem?, hu]
      rw [this]; exact .val _
  | some i =>
    obtain ⟨p, hp⟩ := findIx_lt hfx
    obtain ⟨v, hv, hrun⟩ := hl.2 i p hfx hp
    refine ⟨_, hrun, ?_⟩
    simp only [Option.bind_some, hp, Option.isSome_some, if_true]
    exact htup _ _ _ hv
/-- m[k] -/
theorem ev_lookup {t kt e : TypeId} {ks : List CK} {z : Value} {k b : Nat} {ag : Bool} {x ix : Operand} {cs : List AV} {us : List Value} {l : Nat} {es : List (List Value × AV)} {r : List (Nat × Tok)} [hm : Und P t (.map kt e)] [hk : KeyF P kt ks] [he : ElF P e z k b] [hag : AgF P e ag] (hx : st.get x = some (.mref l)) (hi : st.get ix = some (.agg cs)) (hp : plains cs = some us) (hu : fitsB ks us = true) (ht : Take st.toks l (.map (encE es)) r) (hfit : ∀ p, p ∈ es → fitsB ks p.1 = true) (hz : ag = true → ∃ zs, z = .agg zs) :
    OpEv P ⟨dst, .lookup t x ix false, ty, pos, after, g⟩ st (match (findIx us es).bind (es[·]?) with | some p => p.2 | none => zeroAV ag z) := by
  refine ev_same fun S R a w hh ho => ?_
  have hxv := ho x (by simp [Op.operands]) _ hx
  have hiv := ho ix (by simp [Op.operands]) _ hi
  have htok := hh.tok l _ (ht.perm.mem_iff.2 List.mem_cons_self)
  rw [plains_map hp] at hiv
  have hie : a.eval ix = .agg us.toArray := by
    generalize a.eval ix = iv at hiv
    cases hiv with
    | agg hl hf => rw [agg_vals (.agg hl hf)]
  have hl := look_run (P := P) (t := t) (dst := dst) (ty := ty) (pos := pos) (after := after) (g := g) (ok := false) htok hxv hie hu hfit
  cases hfx : findIx us es with
  | none =>
    refine ⟨_, hl.1 hfx z (ElF.zero (P := P) (t := e) w), ?_⟩
    simp only [Option.bind_none, Bool.false_eq_true, if_false]
    unfold zeroAV
    cases ag with
    | false => exact .val _
    | true =>
      obtain ⟨zs, rfl⟩ := hz rfl
      simp only [if_true]
      refine .agg (by simp [vcells, Value.cells]) fun i y hy => ?_
      simp only [vcells, Value.cells, List.getElem?_map, Option.map_eq_some_iff] at hy
      obtain ⟨u, hu, rfl⟩ := hy
      have : zs.getD i undef = u := by
        simp only [Array.getElem?_toList] at hu
        simp [Array.getD_eq_getD_getElem?, hu]
      rw [this]; exact .val _
  | some i =>
    obtain ⟨p, hp⟩ := findIx_lt hfx
    obtain ⟨v, hv, hrun⟩ := hl.2 i p hfx hp
    refine ⟨_, hrun, ?_⟩
    simp only [Option.bind_some, hp, Bool.false_eq_true, if_false]
    exact hv

/-- m[k] = v, a key that is new -/
theorem eff_mapPush {t kt e : TypeId} {ks : List CK} {m ix x : Operand} {cs : List AV} {us : List Value} {y : AV} {l : Nat} {es : List (List Value × AV)} [hm : Und P t (.map kt e)] [hk : KeyF P kt ks] (hmx : st.get m = some (.mref l)) (hi : st.get ix = some (.agg cs)) (hp : plains cs = some us) (hu : fitsB ks us = true) (hx : st.get x = some y) (hfit : ∀ p, p ∈ es → fitsB ks p.1 = true) (hn : findIx us es = none) :
    OpEff P ⟨dst, .mapUpdate t m ix x, ty, pos, after, g⟩ st [(l, .map (encE es))] (fun ts r => ts = [(l, .map (encE (es ++ [(us, y)])))] ∧ r = .dead) := by
  refine ⟨?_⟩
  intro S R a w hh ho next Q hkk
  have hmv := ho m (by simp [Op.operands]) _ hmx
  have hiv := ho ix (by simp [Op.operands]) _ hi
  have hxv := ho x (by simp [Op.operands]) _ hx
  have htok := hh.tok l _ List.mem_cons_self
  rw [plains_map hp] at hiv
  have hie : a.eval ix = .agg us.toArray := by
    generalize a.eval ix = iv at hiv
    cases hiv with
    | agg hl hf => rw [agg_vals (.agg hl hf)]
  generalize hme : a.eval m = mv at hmv
  cases hmv with
  | mref h =>
    rename_i q
    simp only [TokHolds, h] at htok
    obtain ⟨ents, clock, hg, hat⟩ := htok
    obtain ⟨h1, h2⟩ := mapAt_get hat
    have hf := (run_findKey (P := P) (kt := kt) (w := w) hu ents.toList es h1 (fun i m p hm hp => (h2 i m p hm hp).1) hfit).1 hn
    have hget := Go.MapKept.run_getObj_map (P := P) hg
    have hlt : q.g < w.heap.size := (Array.getElem?_eq_some_iff.1 hg).1
    let o' : Obj := .map (ents.push { key := .agg us.toArray, val := a.eval x, born := clock }) (clock + 1)
    have hset := Go.MapKept.run_setObj_map (P := P) o' hg
    generalize hw' : ({ w with heap := w.heap.setIfInBounds q.g o' } : World) = w' at hset
    have hheap : w'.heap = w.heap.setIfInBounds q.g o' := by rw [← hw']
    have hrun : (execOp a.eval ⟨dst, .mapUpdate t m ix x, ty, pos, after, g⟩).run P w = .ok .skip w' := by
      simp [execOp, Instr.mapUpdate, run_underlying hm.h, hme, hie, hget, hk.chk _ us w hu, hf]
      rw [show (Obj.map (ents.push { key := .agg us.toArray, val := a.eval x, born := clock }) (clock + 1)) = o' from rfl, hset]
      rfl
    unfold Oper.wp
    rw [hrun]
    have hother : ∀ b, b ≠ q.g → w'.heap[b]? = w.heap[b]? := fun b hb => by
      rw [hheap, Array.getElem?_setIfInBounds, if_neg (fun e => hb e.symm)]
    have hsz : w'.heap.size = w.heap.size := by rw [hheap]; simp
    have hnS : ¬ S q.g := fun hs => hh.notS q.g ⟨l, _, List.mem_cons_self, by simp [blkOf, h]⟩ hs
    have hlow : ∀ b, S b → w'.heap[b]? = w.heap[b]? := fun b hb => hother b (fun e => hnS (e ▸ hb))
    have hfoot : ∀ (es' : List (AV × AV)) g, Foot R [(l, .map es')] g → g = q.g := by
      rintro es' g ⟨l', t', hm', hg'⟩
      simp at hm'
      obtain ⟨rfl, rfl⟩ := hm'
      simp [blkOf, h] at hg'
      exact hg'.symm
    refine hkk undef .dead S R w' _ ⟨rfl, rfl⟩ ⟨hh.top, by simp, ?_, ?_, fun b hb => by rw [hsz]; exact hh.low b hb⟩ (.dead _) ⟨by rw [← hw'], by rw [← hw'], by rw [← hw'], Nat.le_of_eq hsz.symm, fun b hb hf => hother b (fun e => hf ⟨l, _, List.mem_cons_self, by rw [e]; simp [blkOf, h]⟩), fun _ h => h, fun _ h => .inl h, fun _ _ h => h, fun g hg' => .inl ?_, fun l' t' hm' => .inl ?_⟩
    · intro l' t' hm'
      simp at hm'
      obtain ⟨rfl, rfl⟩ := hm'
      simp only [TokHolds, h]
      refine ⟨_, clock + 1, by rw [hheap, Array.getElem?_setIfInBounds, if_pos rfl, if_pos hlt], ?_, ?_⟩
      · simp [encE]; simpa using h1
      · intro i p hp
        simp only [encE, List.map_append, List.map_cons, List.map_nil] at hp
        rcases Nat.lt_or_ge i es.length with hi | hi
        · rw [List.getElem?_append_left (by simpa using hi)] at hp
          obtain ⟨m0, hm0, hk0, hv0⟩ := hat.2 i p (by simpa [encE] using hp)
          refine ⟨m0, ?_, hk0.mono (fun _ h => h) (fun _ _ h => h) hlow, hv0.mono (fun _ h => h) (fun _ _ h => h) hlow⟩
          rw [Array.getElem?_push, if_neg (by have := (Array.getElem?_eq_some_iff.1 hm0).1; omega)]
          exact hm0
        · rw [List.getElem?_append_right (by simpa using hi)] at hp
          have hi2 : i = es.length := by
            have := (List.getElem?_eq_some_iff.1 hp).1
            simp at this
            omega
          subst hi2
          simp at hp
          subst hp
          refine ⟨⟨.agg us.toArray, a.eval x, clock⟩, ?_, ?_, hxv.mono (fun _ h => h) (fun _ _ h => h) hlow⟩
          · rw [Array.getElem?_push, if_pos (by simpa using h1.symm)]
          · exact .agg (by simp) fun i y hy => by
              simp only [List.getElem?_map, Option.map_eq_some_iff] at hy
              obtain ⟨u, hu, rfl⟩ := hy
              have : us.toArray.getD i undef = u := by simp [Array.getD_eq_getD_getElem?, hu]
              rw [this]; exact .val _
    · rintro g hg' hs
      have := hfoot _ g hg'
      subst this
      exact hnS hs
    · exact ⟨l, _, List.mem_cons_self, by rw [hfoot _ g hg']; simp [blkOf, h]⟩
    · simp at hm'
      exact ⟨_, by rw [hm'.1]; exact List.mem_cons_self⟩
end
end Go.Proofs.YtphkfejckafamaaDoorA

/- []byte(s): bytes of one's own. -/
set_option linter.unusedVariables false
namespace Go.Proofs.YtphkfejckafamaaDoorA
open Go.RowKit
/-- One token over a fresh block, whatever its mark. -/
theorem fresh_rowf {S : Nat → Prop} {R : Lab} {w : World} {N : Nat} (hN : R N = none) (htop : ∃ N, ∀ m, N ≤ m → R m = none) (hlow : ∀ b, S b → b < w.heap.size) {w1 : World} (hw1 : Below w.heap.size w w1) (hs1 : w1.heap.size = w.heap.size) {cur : Array Value} {e : TypeId} {fr : Nat × Nat} {k t : Nat} {xs : List (List AV)} (hfr : cur.size ≤ fr.1 ∨ fr = (0, 0)) (hc : cur.size = t * k) (ht : xs.length ≤ t) (hm : t ≤ maxLen)
    (hr : ∀ (i : Nat) (x : List AV), xs[i]? = some x → x.length = k ∧ ∀ (j : Nat) (y : AV), x[j]? = some y → y.one = true ∧ ∃ u, cur[i * k + j]? = some u ∧ RepV S R w y u) :
    Holds S (bindL R N (some ⟨w.heap.size, 0, k, t⟩)) (w1.alloc (.cells cur e fr)) [(N, .row e k xs)] ∧ Out w S R (Foot R []) (fun l => ∃ t, (l, t) ∈ ([] : List (Nat × Tok))) S (bindL R N (some ⟨w.heap.size, 0, k, t⟩)) (w1.alloc (.cells cur e fr)) [(N, .row e k xs)] := by
  have hfoot : ∀ g, Foot (bindL R N (some ⟨w.heap.size, 0, k, t⟩)) [(N, .row e k xs)] g → g = w.heap.size := by
    rintro g ⟨l, t', hm', hg⟩
    simp at hm'
    obtain ⟨rfl, rfl⟩ := hm'
    simp [blkOf, bindL] at hg
    exact hg.symm
  have hsz : (w1.alloc (.cells cur e fr)).heap.size = w.heap.size + 1 := by simp [hs1]
  have hb : ∀ b, b < w.heap.size → (w1.alloc (.cells cur e fr)).heap[b]? = w.heap[b]? := fun b hb => (Below.heap_alloc _ _ _ (by omega)).trans (hw1.block b hb)
  refine ⟨⟨bindL_top htop, by simp, ?_, ?_, fun b hb => by rw [hsz]; have := hlow b hb; omega⟩, ?_⟩
  · intro l t' hm'
    simp at hm'
    obtain ⟨rfl, rfl⟩ := hm'
    simp only [TokHolds, bindL_same]
    refine ⟨trivial, cur, fr, ?_, hfr, hc, by simpa using ht, hm, fun i x hx => ⟨(hr i x hx).1, fun j y hy => ?_⟩⟩
    · show (w1.heap.push (.cells cur e fr))[w.heap.size]? = _
      rw [← hs1]; simp
    · obtain ⟨h1, u, hu, hrep⟩ := (hr i x hx).2 j y hy
      exact ⟨h1, u, by simpa using hu, hrep.mono (fun _ h => h) (bindL_mono hN) (fun b hb' => hb b (hlow b hb'))⟩
  · intro g hg hs
    have := hfoot g hg
    have := hlow g hs
    omega
  · refine ⟨hw1.os, hw1.tape, hw1.output, by rw [hsz]; omega, fun b hb' _ => hb b hb', fun _ h => h, fun _ h => .inl h, bindL_mono hN, fun g hg => .inr (by rw [hfoot g hg]; exact Nat.le_refl _), fun l t' hm' => ?_⟩
    simp at hm'
    exact .inr (by rw [hm'.1]; exact hN)

section
variable {P : Program} {st : St} {dst : Option Tmp} {ty : TypeId} {pos : String} {after : Array Edge} {g : Option (Nat × Bool)}
theorem eff_conv_bytes {src d e : TypeId} {x : Operand} {s : ByteArray} [hs : Und P src .string] [hd : Und P d (.slice e)] [he : Und P e (.int .u8)] (hx : st.get x = some (.val (.string s))) (hm : s.size ≤ 1099511627776) :
    OpEff P ⟨dst, .convert src d x, ty, pos, after, g⟩ st [] (fun ts r => ∃ l, ts = [(l, .row e 1 (u8cells s.data.toList))] ∧ r = .own l 0 s.size) := by
  refine ⟨?_⟩
  intro S R a w hh ho next Q hk
  obtain ⟨N, hN⟩ := hh.free
  have e1 := rep_val (ho x (by simp [Op.operands]) _ hx)
  have hrun := run_bytes_of_string (P := P) w src d e s hs.h hd.h he.h
  have hge := grownCap_ge w s.size 0 e
  have hle := grownCap_le_maxLen w s.size 0 e (by simp [maxLen]; omega)
  generalize hcap : grownCap w s.size 0 e = cap at *
  have hsz : (bytesRow s cap).size = cap := by
    simp only [bytesRow, Array.size_append, Array.size_map, Array.size_replicate]
    have : s.data.size = s.size := rfl
    omega
  have hf := fresh_rowf (e := e) (w1 := w.drew) hN hh.top hh.low ((Below.refl _ w).drew) rfl (cur := bytesRow s cap) (fr := ((bytesRow s cap).size, (bytesRow s cap).size + 1)) (k := 1) (t := cap) (xs := u8cells s.data.toList) (.inl (Nat.le_refl _)) (by rw [hsz, Nat.mul_one]) (by simp [u8cells]; exact hge) hle (fun i y hy => by
    simp only [u8cells, List.getElem?_map, Option.map_eq_some_iff] at hy
    obtain ⟨c, hc, rfl⟩ := hy
    refine ⟨rfl, fun j v hv => ?_⟩
    match j, hv with
    | 0, hv =>
      simp at hv
      subst hv
      have hlt : i < s.data.size := by have := (List.getElem?_eq_some_iff.1 hc).1; simpa using this
      refine ⟨rfl, _, ?_, .val _⟩
      rw [Nat.mul_one, Nat.add_zero, bytesRow_at s cap i hlt]
      rw [Array.getElem?_toList, Array.getElem?_eq_getElem hlt] at hc
      cases hc
      rfl)
  unfold Oper.wp
  have hex : (execOp a.eval ⟨dst, .convert src d x, ty, pos, after, g⟩).run P w = .ok (.value (.slice (some ⟨w.heap.size, 0, none⟩) s.size cap)) (w.drew.alloc (.cells (bytesRow s cap) e ((bytesRow s cap).size, (bytesRow s cap).size + 1))) := by
    simp [execOp, e1, hrun]
  rw [hex]
  have hp : RepV S (bindL R N (some ⟨w.heap.size, 0, 1, cap⟩)) (w.drew.alloc (.cells (bytesRow s cap) e ((bytesRow s cap).size, (bytesRow s cap).size + 1))) (.own N 0 s.size) (.slice (some ⟨w.heap.size, 0, none⟩) s.size cap) :=
    .own (bindL_same (R := R) (q := some ⟨w.heap.size, 0, 1, cap⟩)) hge hle (by simp) (.inr (by simp)) ⟨_, rfl, rfl⟩
  exact hk _ _ S _ _ _ ⟨N, rfl, rfl⟩ hf.1 hp hf.2
end
end Go.Proofs.YtphkfejckafamaaDoorA

/- Texts as lists of bytes: small letters, blanks, pieces. -/
set_option linter.unusedVariables false
namespace Go.Proofs.YtphkfejckafamaaDoorA

def lowB (c : UInt8) : UInt8 := if 65 ≤ c.toNat ∧ c.toNat ≤ 90 then c + 32 else c
def BA (l : List UInt8) : ByteArray := ⟨l.toArray⟩
def bl (s : ByteArray) : List UInt8 := s.data.toList
@[simp] theorem bl_BA (l : List UInt8) : bl (BA l) = l := by simp [bl, BA]
@[simp] theorem BA_bl (s : ByteArray) : BA (bl s) = s := by simp [bl, BA]
theorem BA_inj {l m : List UInt8} : BA l = BA m ↔ l = m := ⟨fun h => by simpa using congrArg bl h, fun h => h ▸ rfl⟩
theorem bl_inj {s t : ByteArray} : bl s = bl t ↔ s = t := ⟨fun h => by simpa using congrArg BA h, fun h => h ▸ rfl⟩
theorem bl_length (s : ByteArray) : (bl s).length = s.size := by simp [bl]
theorem BA_size (l : List UInt8) : (BA l).size = l.length := by simp [BA, ByteArray.size]
theorem bl_append (s t : ByteArray) : bl (s ++ t) = bl s ++ bl t := by simp [bl, ByteArray.data_append]
theorem bl_extract (s : ByteArray) (i j : Nat) : bl (s.extract i j) = ((bl s).drop i).take (j - i) := by
  simp [bl, ByteArray.data_extract, List.extract_eq_take_drop]
theorem low_toNat (c : UInt8) (h : 65 ≤ c.toNat ∧ c.toNat ≤ 90) : (c + 32).toNat = c.toNat + 32 := by
  rw [UInt8.toNat_add]
  have : (32 : UInt8).toNat = 32 := rfl
  omega
theorem lowB_lowB (c : UInt8) : lowB (lowB c) = lowB c := by
  unfold lowB
  by_cases h : 65 ≤ c.toNat ∧ c.toNat ≤ 90
  · have := low_toNat c h
    rw [if_pos h, if_neg (by omega)]
  · rw [if_neg h, if_neg h]

def bk (c : UInt8) : Bool := c == 32 || c == 9
def trimL (l : List UInt8) : List UInt8 := l.dropWhile bk
def trimR (l : List UInt8) : List UInt8 := (l.reverse.dropWhile bk).reverse
def trim (l : List UInt8) : List UInt8 := trimR (trimL l)
theorem trimR_append {l m : List UInt8} (h : ∃ c, c ∈ m ∧ bk c = false) : trimR (l ++ m) = l ++ trimR m := by
  unfold trimR
  rw [List.reverse_append]
  have : ∀ (m l : List UInt8), (∃ c, c ∈ m ∧ bk c = false) → (m ++ l).dropWhile bk = m.dropWhile bk ++ l := by
    intro m l
    induction m with
    | nil => rintro ⟨c, hc, _⟩; cases hc
    | cons a m ih =>
      rintro ⟨c, hc, hb⟩
      by_cases ha : bk a = true
      · rw [List.cons_append, List.dropWhile_cons_of_pos ha, List.dropWhile_cons_of_pos ha]
        refine ih ⟨c, ?_, hb⟩
        rcases List.mem_cons.1 hc with rfl | h
        · rw [ha] at hb; cases hb
        · exact h
      · rw [List.cons_append, List.dropWhile_cons_of_neg ha, List.dropWhile_cons_of_neg ha, List.cons_append]
  rw [this _ _ (by obtain ⟨c, h1, h2⟩ := h; exact ⟨c, by simpa using h1, h2⟩)]
  simp
theorem trim_comm (l : List UInt8) : trimL (trimR l) = trimR (trimL l) := by
  induction l with
  | nil => rfl
  | cons a l ih =>
    by_cases ha : bk a = true
    · have e1 : trimL (a :: l) = trimL l := List.dropWhile_cons_of_pos ha
      rw [e1, ← ih]
      by_cases hx : ∃ c, c ∈ l ∧ bk c = false
      · have : trimR (a :: l) = a :: trimR l := trimR_append (l := [a]) hx
        rw [this]
        exact List.dropWhile_cons_of_pos ha
      · have hall : ∀ c, c ∈ l → bk c = true := fun c hc => by
          cases hb : bk c with
          | true => rfl
          | false => exact absurd ⟨c, hc, hb⟩ hx
        have h1 : ∀ m : List UInt8, (∀ c, c ∈ m → bk c = true) → m.dropWhile bk = [] := by
          intro m
          induction m with
          | nil => intro _; rfl
          | cons b m ih2 => intro h; rw [List.dropWhile_cons_of_pos (h b List.mem_cons_self)]; exact ih2 fun c hc => h c (List.mem_cons_of_mem _ hc)
        have e2 : trimR (a :: l) = [] := by
          unfold trimR
          rw [h1 _ (by intro c hc; rcases List.mem_cons.1 (List.mem_reverse.1 hc) with rfl | h; exact ha; exact hall c h)]
          rfl
        have e3 : trimR l = [] := by
          unfold trimR
          rw [h1 _ (by intro c hc; exact hall c (List.mem_reverse.1 hc))]
          rfl
        rw [e2, e3]
    · have e1 : trimL (a :: l) = a :: l := List.dropWhile_cons_of_neg ha
      rw [e1]
      have hx : ∃ c, c ∈ a :: l ∧ bk c = false := ⟨a, List.mem_cons_self, by simpa using ha⟩
      cases hl : trimR (a :: l) with
      | nil => rfl
      | cons b m =>
        by_cases hy : ∃ c, c ∈ l ∧ bk c = false
        · have : trimR (a :: l) = a :: trimR l := trimR_append (l := [a]) hy
          rw [this] at hl
          cases hl
          exact List.dropWhile_cons_of_neg ha
        · have hb : b = a := by
            have hp : (a :: l).reverse.dropWhile bk = (b :: m).reverse := by
              have := congrArg List.reverse hl
              simpa [trimR] using this
            have hs : (b :: m).reverse <:+ (a :: l).reverse := hp ▸ List.dropWhile_suffix _
            have : b :: m <+: a :: l := List.reverse_suffix.1 hs
            exact (List.cons_prefix_cons.1 this).1
          subst hb
          exact List.dropWhile_cons_of_neg ha

/-- The pieces of a text between a byte. -/
def pieces (sep : UInt8) : List UInt8 → List (List UInt8)
  | [] => [[]]
  | c :: r => if c = sep then [] :: pieces sep r else match pieces sep r with
    | h :: t => (c :: h) :: t
    | [] => [[c]]
theorem pieces_ne (sep : UInt8) (l : List UInt8) : pieces sep l ≠ [] := by
  cases l with
  | nil => simp [pieces]
  | cons c r =>
    unfold pieces
    split
    · simp
    · split <;> simp
theorem pieces_none {sep : UInt8} {l : List UInt8} (h : sep ∉ l) : pieces sep l = [l] := by
  induction l with
  | nil => rfl
  | cons c r ih =>
    have h1 : c ≠ sep := fun e => h (e ▸ List.mem_cons_self)
    have h2 := ih fun hc => h (List.mem_cons_of_mem _ hc)
    unfold pieces
    rw [if_neg h1, h2]
theorem pieces_cut {sep : UInt8} {l m : List UInt8} (h : sep ∉ l) : pieces sep (l ++ sep :: m) = l :: pieces sep m := by
  induction l with
  | nil => simp [pieces]
  | cons c r ih =>
    have h1 : c ≠ sep := fun e => h (e ▸ List.mem_cons_self)
    have h2 := ih fun hc => h (List.mem_cons_of_mem _ hc)
    rw [List.cons_append, pieces, if_neg h1, h2]
end Go.Proofs.YtphkfejckafamaaDoorA

/- Places in arrays; functions without a body that answer a plain value. -/
set_option linter.unusedVariables false
namespace Go.Proofs.YtphkfejckafamaaDoorA
open Go.RowKit
section
variable {P : Program} {st : St} {dst : Option Tmp} {ty : TypeId} {pos : String} {after : Array Edge} {g : Option (Nat × Bool)}

theorem ev_indexAddr_arr {t e : TypeId} {x ix : Operand} {ki : IntKind} {len k q b l i j : Nat} {z : Value} [hu : Und P t (.array len e)] [he : ElF P e z k b] (hx : st.get x = some (.ptr l i j)) (hi : st.get ix = some (.val (.int ki (q : Nat)))) (hq : q < len) :
    OpEv P ⟨dst, .indexAddr t x ix, ty, pos, after, g⟩ st (.ptr l i (j + q * k)) :=
  ev_same fun S R a w _ ho => by
    have hr := ho x (by simp [Op.operands]) _ hx
    have hi' := rep_val (ho ix (by simp [Op.operands]) _ hi)
    generalize hv : a.eval x = v at hr
    cases hr with
    | ptr h =>
      refine ⟨_, ?_, .ptr h⟩
      simp [execOp, Instr.indexAt, Instr.sureAddr, hv, hi', asIntOf, run_underlying hu.h, ElF.size (P := P) (t := e), add_mk, Nat.add_assoc]
      exact fun hh => absurd hh (by omega)
theorem ev_indexAddr_arrip {t e : TypeId} {x ix : Operand} {ki : IntKind} {len k q b : Nat} {z : Value} {cs : List AV} [hu : Und P t (.array len e)] [he : ElF P e z k b] (hx : st.get x = some (.ip cs)) (hi : st.get ix = some (.val (.int ki (q : Nat)))) (hq : q < len) :
    OpEv P ⟨dst, .indexAddr t x ix, ty, pos, after, g⟩ st (.ip (cs.drop (q * k))) :=
  ev_same fun S R a w _ ho => by
    have hr := ho x (by simp [Op.operands]) _ hx
    have hi' := rep_val (ho ix (by simp [Op.operands]) _ hi)
    generalize hv : a.eval x = v at hr
    cases hr with
    | ip hS hc h1 hF =>
      rename_i ad F
      refine ⟨.pointer (some (ad.add (q * k))), ?_, .ip (F := fun j => F (q * k + j)) (by rw [add_block]; exact hS) (fun j y hy => ?_) (fun y hy => h1 y (List.mem_of_mem_drop hy)) (fun j y hy => hF _ _ (by rwa [List.getElem?_drop] at hy))⟩
      · simp [execOp, Instr.indexAt, Instr.sureAddr, hv, hi', asIntOf, run_underlying hu.h, ElF.size (P := P) (t := e)]
        exact fun hh => absurd hh (by omega)
      · rw [add_add]; exact hc _ _ (by rwa [List.getElem?_drop] at hy)

/-- A call of a function without a body, two plain arguments, a plain answer. -/
theorem ev_call_val2 {f : FuncId} {x y : Operand} {tys : Array TypeId} {u v r : Value} (hf : ∀ w, (callFunc f #[u, v]).run P w = .ok (.value r) w) (hx : st.get x = some (.val u)) (hy : st.get y = some (.val v)) :
    OpEv P ⟨dst, .call ⟨.value (.func f), #[x, y], tys⟩, ty, pos, after, g⟩ st (.val r) :=
  ev_same fun S R a w hh ho => by
    have h1 := rep_val (ho x (by simp [Op.operands, Call.operands]) _ hx)
    have h2 := rep_val (ho y (by simp [Op.operands, Call.operands]) _ hy)
    refine ⟨_, ?_, .val r⟩
    have hc : a.eval (.func f) = .func (.func f) #[] #[] := rfl
    simp [execOp, resolve, invoke, hc, Deferred.ofValue, h1, h2, hf]
end

/-- A loop's ways out come together ahead of what is behind its block. -/
theorem aw_joinb {P : Program} {n : Nat} {ro : Option Nat} {G : CtxR P n ro} {K : Kont} {st : St} {c y : Code} {id : Nat} {ι : Type} (I : ι → St) (Inv : ι → Prop) (h1 : AW G c st (.block id (.loop (fun st' => ∃ g, Inv g ∧ Sub st' (I g)) K))) (h2 : ∀ g, Inv g → AW G y (I g) K) : AW G c st (.block id (.seq y K)) := by
  have hn : ∀ st', (∃ g, Inv g ∧ Sub st' (I g)) → AWP G y st' (K.at G) := fun st' ⟨g, hg, hs⟩ => ((h2 g hg).sub hs).h
  refine ⟨fun a w hr => wpIn_mono (h1.h a w hr) ?_⟩
  rintro e a' w' ⟨st', hq, hr'⟩
  refine ⟨st', ?_, hr'⟩
  cases e with
  | normal => exact hn st' hq
  | exit id' =>
    change (if id' = id then _ else _) at hq
    show (if id' = id then _ else _)
    by_cases he : id' = id
    · rw [if_pos he] at hq ⊢; exact hn st' hq
    · rw [if_neg he] at hq ⊢; exact hq
  | _ => exact hq

theorem Cv.fn {ts : List (Nat × Tok)} {f : FuncId} {cs ds : List AV} (h : Cvs ts cs ds) : Cv ts (.fn f cs) (.fn f ds) := fun S S' R w hh hS hF v hv => by
  cases hv with
  | fn hl hf =>
    refine .fn (by rw [hl, h.len]) fun i y hy => ?_
    obtain ⟨x, hx, hc⟩ := h.get i y hy
    exact hc S S' R w hh hS hF _ (hf i x hx)

/-- A list with more behind it. -/
theorem Le.take {k n : Nat} {xs ys : List (List AV)} (hn : n ≤ xs.length) : Le (.sl k (xs ++ ys) n) (.sl k xs n) := fun S R w v hv => by
  cases hv with
  | sl hn0 hc hm hk ha h1 hf =>
    rename_i c a F
    have hg : ∀ {i : Nat} {x : List AV}, xs[i]? = some x → (xs ++ ys)[i]? = some x := fun {i x} h => by
      rw [List.getElem?_append_left (List.getElem?_eq_some_iff.1 h).1]; exact h
    refine .sl (F := F) hn (by rw [List.length_append] at hc; omega) hm (fun x hx => hk x (List.mem_append_left _ hx)) (fun hne => ?_) (fun x hx => h1 x (List.mem_append_left _ hx)) (fun i x j y hx hy => hf i x j y (hg hx) hy)
    obtain ⟨ad, e, hb, hcell⟩ := ha (fun h => hne (List.append_eq_nil_iff.1 h).1)
    exact ⟨ad, e, hb, fun i x j y hx hy => hcell i x j y (hg hx) hy⟩
theorem Cv.own_pre {ts r : List (Nat × Tok)} {l n k : Nat} {e : TypeId} {xs ys : List (List AV)} (ht : Take ts l (.row e k (xs ++ ys)) r) (hn : n ≤ xs.length) : Cv ts (.own l 0 n) (.sl k xs n) :=
  (Cv.own0 ht (by rw [List.length_append]; omega)).trans (Cv.le (Le.take hn))

/-! Bytes of texts. -/
theorem byteAt_bl {s : ByteArray} {i : Nat} {c : UInt8} (h : (bl s)[i]? = some c) : byteAt s i = c.toNat := by
  unfold byteAt; unfold bl at h; rw [h]; rfl
theorem ev_index_bl {P : Program} {st : St} {dst : Option Tmp} {ty : TypeId} {pos : String} {after : Array Edge} {g : Option (Nat × Bool)} {t : TypeId} {x ix : Operand} {ki : IntKind} {s : ByteArray} {i : Nat} {c : UInt8} [hu : Und P t .string] (hx : st.get x = some (.val (.string s))) (hi : st.get ix = some (.val (.int ki (i : Nat)))) (h : (bl s)[i]? = some c) :
    OpEv P ⟨dst, .index t x ix, ty, pos, after, g⟩ st (.val (.int .u8 c.toNat)) := by
  rw [← byteAt_bl h]
  exact ev_index_str hx hi (by have := (List.getElem?_eq_some_iff.1 h).1; rwa [bl_length] at this)
theorem BA_extract (l : List UInt8) (i j : Nat) : (BA l).extract i j = BA ((l.drop i).take (j - i)) := by
  rw [← bl_inj, bl_extract, bl_BA, bl_BA]
theorem extract_BA (s : ByteArray) (i j : Nat) : s.extract i j = BA (((bl s).drop i).take (j - i)) := by
  rw [← bl_inj, bl_extract, bl_BA]
theorem indexByte_none {c : UInt8} {l : List UInt8} (h : c ∉ l) : Lib.indexByte l c = -1 := by
  induction l with
  | nil => rfl
  | cons b l ih =>
    have h1 : ¬ b = c := fun e => h (e ▸ List.mem_cons_self)
    have h2 := ih fun hc => h (List.mem_cons_of_mem _ hc)
    simp [Lib.indexByte, h1, h2]
theorem indexByte_cut {c : UInt8} {l m : List UInt8} (h : c ∉ l) : Lib.indexByte (l ++ c :: m) c = l.length := by
  induction l with
  | nil => simp [Lib.indexByte]
  | cons b l ih =>
    have h1 : ¬ b = c := fun e => h (e ▸ List.mem_cons_self)
    have h2 := ih fun hc => h (List.mem_cons_of_mem _ hc)
    have h3 : ¬ ((l.length : Int) = -1) := by omega
    simp [Lib.indexByte, h1, h2, h3]
theorem cut_of_mem {c : UInt8} {l : List UInt8} (h : c ∈ l) : ∃ a b, l = a ++ c :: b ∧ c ∉ a := by
  induction l with
  | nil => cases h
  | cons x l ih =>
    by_cases hx : x = c
    · exact ⟨[], l, by simp [hx], by simp⟩
    · have : c ∈ l := by
        rcases List.mem_cons.1 h with h | h
        · exact absurd h.symm hx
        · exact h
      obtain ⟨a, b, rfl, hb⟩ := ih this
      refine ⟨x :: a, b, rfl, fun hm => ?_⟩
      rcases List.mem_cons.1 hm with h | h
      · exact hx h.symm
      · exact hb h
theorem pieces_length (sep : UInt8) (l : List UInt8) : (pieces sep l).length = l.count sep + 1 := by
  induction l with
  | nil => rfl
  | cons c r ih =>
    unfold pieces
    by_cases h : c = sep
    · rw [if_pos h, List.length_cons, ih, h, List.count_cons_self]
    · rw [if_neg h, List.count_cons_of_ne (by simpa using h)]
      cases hp : pieces sep r with
      | nil => exact absurd hp (pieces_ne _ _)
      | cons a t => rw [hp] at ih; simpa using ih
end Go.Proofs.YtphkfejckafamaaDoorA

/- Maps that are only read. -/
set_option linter.unusedVariables false
namespace Go.Proofs.YtphkfejckafamaaDoorA
open Go.RowKit

theorem mapAt_imap {S : Nat → Prop} {R : Lab} {w : World} {g : Nat} {ents : Array MapEntry} {clock : _} {es : List (AV × AV)} (hS : S g) (hh : w.heap[g]? = some (.map ents clock)) (h : MapAt S R w ents es) : RepV S R w (.imap es) (.map (some g)) := by
  obtain ⟨hl, h⟩ := h
  refine .imap (A := fun i => match ents[i]? with | some m => m.key | none => undef) (B := fun i => match ents[i]? with | some m => m.val | none => undef) hS hh hl (fun i p hp => ?_) (fun i p hp => ?_) (fun i p hp => ?_)
  · obtain ⟨m, hm, _⟩ := h i p hp
    exact ⟨m, hm, by simp only [hm], by simp only [hm]⟩
  · obtain ⟨m, hm, h1, _⟩ := h i p hp
    simpa only [hm] using h1
  · obtain ⟨m, hm, _, h2⟩ := h i p hp
    simpa only [hm] using h2
theorem imap_mapAt {S : Nat → Prop} {R : Lab} {w : World} {es : List (AV × AV)} {v : Value} (h : RepV S R w (.imap es) v) : ∃ g ents clock, v = .map (some g) ∧ w.heap[g]? = some (.map ents clock) ∧ MapAt S R w ents es := by
  cases h with
  | imap hS hh hl hm hk hv =>
    refine ⟨_, _, _, rfl, hh, hl, fun i p hp => ?_⟩
    obtain ⟨m, h1, h2, h3⟩ := hm i p hp
    exact ⟨m, h1, h2 ▸ hk i p hp, h3 ▸ hv i p hp⟩

theorem Cv.map {ts r : List (Nat × Tok)} {l : Nat} {es : List (AV × AV)} (ht : Take ts l (.map es) r) : Cv ts (.mref l) (.imap es) := fun S S' R w hh hS hF v hv => by
  have htok := hh.tok l _ (ht.perm.mem_iff.2 List.mem_cons_self)
  cases hv with
  | mref h =>
    rename_i q
    simp only [TokHolds, h] at htok
    obtain ⟨ents, clock, hg, hl, hat⟩ := htok
    refine mapAt_imap (hF _ ⟨l, _, ht.perm.mem_iff.2 List.mem_cons_self, by simp [blkOf, h]⟩) hg ⟨hl, fun i p hp => ?_⟩
    obtain ⟨m, h1, h2, h3⟩ := hat i p hp
    exact ⟨m, h1, h2.mono hS (fun _ _ h => h) (fun _ _ => rfl), h3.mono hS (fun _ _ h => h) (fun _ _ => rfl)⟩

section
variable {P : Program} {st : St} {dst : Option Tmp} {ty : TypeId} {pos : String} {after : Array Edge} {g : Option (Nat × Bool)}
theorem look_runi {t kt e : TypeId} {ks : List CK} {x ix : Operand} {us : List Value} {es : List (List Value × AV)} {ok : Bool} [hm : Und P t (.map kt e)] [hk : KeyF P kt ks] {S : Nat → Prop} {R : Lab} {a : Act} {w : World} (hx : RepV S R w (.imap (encE es)) (a.eval x)) (hi : a.eval ix = .agg us.toArray) (hu : fitsB ks us = true) (hfit : ∀ p, p ∈ es → fitsB ks p.1 = true) :
    (findIx us es = none → ∀ z, (zeroValue e).run P w = .ok z w → (execOp a.eval ⟨dst, .lookup t x ix ok, ty, pos, after, g⟩).run P w = .ok (.value (if ok then .tuple #[z, .bool false] else z)) w) ∧
    (∀ i p, findIx us es = some i → es[i]? = some p → ∃ v, RepV S R w p.2 v ∧ (execOp a.eval ⟨dst, .lookup t x ix ok, ty, pos, after, g⟩).run P w = .ok (.value (if ok then .tuple #[v, .bool true] else v)) w) := by
  obtain ⟨gg, ents, clock, hxe, hg, hat⟩ := imap_mapAt hx
  obtain ⟨h1, h2⟩ := mapAt_get hat
  have hf := run_findKey (P := P) (kt := kt) (w := w) hu ents.toList es h1 (fun i m p hm hp => (h2 i m p hm hp).1) hfit
  have hget := Go.MapKept.run_getObj_map (P := P) hg
  constructor
  · intro hn z hz
    have hf1 := hf.1 hn
    simp [execOp, Instr.lookup, run_underlying hm.h, hxe, hi, hget, hk.chk _ us w hu, hf1, hz]
  · intro i p hi2 hp
    obtain ⟨m, hm1, hm2⟩ := hf.2 i hi2
    refine ⟨m.val, (h2 i m p hm1 hp).2, ?_⟩
    simp [execOp, Instr.lookup, run_underlying hm.h, hxe, hi, hget, hk.chk _ us w hu, hm2]
/-- m[k] of a map that is only read. -/
theorem ev_lookupi {t kt e : TypeId} {ks : List CK} {z : Value} {k b : Nat} {ag : Bool} {x ix : Operand} {cs : List AV} {us : List Value} {es : List (List Value × AV)} [hm : Und P t (.map kt e)] [hk : KeyF P kt ks] [he : ElF P e z k b] [hag : AgF P e ag] (hx : st.get x = some (.imap (encE es))) (hi : st.get ix = some (.agg cs)) (hp : plains cs = some us) (hu : fitsB ks us = true) (hfit : ∀ p, p ∈ es → fitsB ks p.1 = true) (hz : ag = true → ∃ zs, z = .agg zs) :
    OpEv P ⟨dst, .lookup t x ix false, ty, pos, after, g⟩ st (match (findIx us es).bind (es[·]?) with | some p => p.2 | none => zeroAV ag z) := by
  refine ev_same fun S R a w hh ho => ?_
  have hxv := ho x (by simp [Op.operands]) _ hx
  have hiv := ho ix (by simp [Op.operands]) _ hi
  rw [plains_map hp] at hiv
  have hie : a.eval ix = .agg us.toArray := by
    generalize a.eval ix = iv at hiv
    cases hiv with
    | agg hl hf => rw [agg_vals (.agg hl hf)]
  have hl := look_runi (P := P) (t := t) (dst := dst) (ty := ty) (pos := pos) (after := after) (g := g) (ok := false) hxv hie hu hfit
  cases hfx : findIx us es with
  | none =>
    refine ⟨_, hl.1 hfx z (ElF.zero (P := P) (t := e) w), ?_⟩
    simp only [Option.bind_none, Bool.false_eq_true, if_false]
    unfold zeroAV
    cases ag with
    | false => exact .val _
    | true =>
      obtain ⟨zs, rfl⟩ := hz rfl
      simp only [if_true]
      refine .agg (by simp [vcells, Value.cells]) fun i y hy => ?_
      simp only [vcells, Value.cells, List.getElem?_map, Option.map_eq_some_iff] at hy
      obtain ⟨u, hu, rfl⟩ := hy
      have : zs.getD i undef = u := by
        simp only [Array.getElem?_toList] at hu
        simp [Array.getD_eq_getD_getElem?, hu]
      rw [this]; exact .val _
  | some i =>
    obtain ⟨p, hp⟩ := findIx_lt hfx
    obtain ⟨v, hv, hrun⟩ := hl.2 i p hfx hp
    refine ⟨_, hrun, ?_⟩
    simp only [Option.bind_some, hp, Bool.false_eq_true, if_false]
    exact hv
end
/-- From here on the code is walked once for all states I i. -/
theorem aw_via {P : Program} {n : Nat} {ro : Option Nat} {G : CtxR P n ro} {c : Code} {st : St} {K : Kont} {ι : Type} (I : ι → St) (h1 : (∀ i, AW G c (I i) K) → AW G c st K) (h2 : ∀ i, AW G c (I i) K) : AW G c st K := h1 h2
section
variable {P : Program} {n : Nat} {ro : Option Nat} {G : CtxR P n ro} {K : Kont} {st : St}
theorem row_adopt {S : Nat → Prop} {R : Lab} {w : World} {l N i j k : Nat} {e : TypeId} {xs : List (List AV)} {cs : List AV} (hN : R N = none) (hi : xs[i]? = some cs) (hj : cs[j]? = some (.val (.slice none 0 0))) (h : TokHolds S R w l (.row e k xs)) : TokHolds S (bindL R N none) w l (.row e k (xs.set i (cs.set j (.own N 0 0)))) := by
  unfold TokHolds at h ⊢
  split at h
  · rename_i e1
    cases e1
    simp_all
  · rename_i e2; cases e2
  · rename_i q ty k' xs' e1 e2
    cases e2
    rw [bindL_mono hN _ _ e1]
    obtain ⟨hk, cur, fr, hh, hfr, hs, hb, hm, hrow⟩ := h
    refine ⟨hk, cur, fr, hh, hfr, hs, by rw [List.length_set]; exact hb, hm, fun i' x hx => ?_⟩
    have hlt := (List.getElem?_eq_some_iff.1 hi).1
    have hmono : ∀ {y : AV} {u : Value}, RepV S R w y u → RepV S (bindL R N none) w y u := fun h => h.mono (fun _ h => h) (bindL_mono hN) (fun _ _ => rfl)
    by_cases hii : i = i'
    · subst hii
      rw [List.getElem?_set_self hlt] at hx
      cases hx
      obtain ⟨hl, hc⟩ := hrow i cs hi
      refine ⟨by rw [List.length_set]; exact hl, fun j' y hy => ?_⟩
      have hjl := (List.getElem?_eq_some_iff.1 hj).1
      by_cases hjj : j = j'
      · subst hjj
        rw [List.getElem?_set_self hjl] at hy
        cases hy
        obtain ⟨_, u, hu, hr⟩ := hc j _ hj
        refine ⟨rfl, u, hu, ?_⟩
        rw [rep_val hr]
        exact .onil bindL_same
      · rw [List.getElem?_set_ne hjj] at hy
        obtain ⟨h1, u, hu, hr⟩ := hc j' y hy
        exact ⟨h1, u, hu, hmono hr⟩
    · rw [List.getElem?_set_ne hii] at hx
      obtain ⟨hl, hc⟩ := hrow i' x hx
      refine ⟨hl, fun j' y hy => ?_⟩
      obtain ⟨h1, u, hu, hr⟩ := hc j' y hy
      exact ⟨h1, u, hu, hmono hr⟩
  · rename_i e2; cases e2
  · rename_i e2; cases e2
  · exact h.elim

/-- A nil slice in a cell as a row of one's own. -/
theorem aw_adoptc {c : Code} {l i j k : Nat} {e : TypeId} (e2 : TypeId) (k2 : Nat) {xs : List (List AV)} {cs : List AV} {r : List (Nat × Tok)} (ht : Take st.toks l (.row e k xs) r) (hi : xs[i]? = some cs) (hj : cs[j]? = some (.val (.slice none 0 0)))
    (h : ∀ lab, AW G c ⟨st.sl, (lab, .row e2 k2 []) :: (l, .row e k (xs.set i (cs.set j (.own lab 0 0)))) :: r⟩ K) : AW G c st K := by
  refine ⟨?_⟩
  rintro a w ⟨S, R, hr0⟩
  have hr : RelAt G S R ⟨st.sl, (l, .row e k xs) :: r⟩ a w := ⟨hr0.holds.sub ⟨[], by simpa using ht.perm⟩, hr0.slots, hr0.out.sub (fun p hp => ht.perm.mem_iff.2 hp), hr0.defers, hr0.size⟩
  obtain ⟨N, hN⟩ := hr.holds.free
  have hb : ∀ p, p ∈ (l, Tok.row e k xs) :: r → blkOf (bindL R N none) p.1 = blkOf R p.1 := fun p hp => blkOf_mono (bindL_mono hN) (hr.holds.tok p.1 p.2 hp).bound
  have hlb := hb (l, .row e k xs) List.mem_cons_self
  have hfoot : ∀ g, Foot (bindL R N none) ((N, .row e2 k2 []) :: (l, .row e k (xs.set i (cs.set j (.own N 0 0)))) :: r) g → Foot R ((l, .row e k xs) :: r) g := by
    rintro g ⟨l', t', hm, hg⟩
    rcases List.mem_cons.1 hm with h1 | h1
    · cases h1; simp [blkOf, bindL_same] at hg
    · rcases List.mem_cons.1 h1 with h2 | h2
      · cases h2
        rw [hlb] at hg
        exact ⟨l, _, List.mem_cons_self, hg⟩
      · rw [hb (l', t') (List.mem_cons_of_mem _ h2)] at hg
        exact ⟨l', t', List.mem_cons_of_mem _ h2, hg⟩
  have hmono : ∀ {y : AV} {u : Value}, RepV S R w y u → RepV S (bindL R N none) w y u := fun h => h.mono (fun _ h => h) (bindL_mono hN) (fun _ _ => rfl)
  have hne : ∀ p, p ∈ (l, Tok.row e k xs) :: r → N ≠ p.1 := fun p hp e1 => by
    obtain ⟨q, hq⟩ := (hr.holds.tok p.1 p.2 hp).bound
    rw [← e1, hN] at hq; cases hq
  have hap := List.pairwise_cons.1 hr.holds.apart
  refine (h N).h a w ⟨S, bindL R N none, ⟨bindL_top hr.holds.top, ?_, ?_, fun g hg => hr.holds.notS g (hfoot g hg), hr.holds.low⟩, ?_, ?_, hr.defers, hr.size⟩
  · refine List.pairwise_cons.2 ⟨fun p hp => ⟨fun e1 => ?_, fun g hg => ?_⟩, List.pairwise_cons.2 ⟨fun p hp => ⟨(hap.1 p hp).1, fun g hg => ?_⟩, hap.2.imp_of_mem fun {p q} hp hq hpq => ⟨hpq.1, fun g => ?_⟩⟩⟩
    · rcases List.mem_cons.1 hp with h2 | h2
      · subst h2; exact hne (l, .row e k xs) List.mem_cons_self e1
      · exact hne p (List.mem_cons_of_mem _ h2) e1
    · simp [blkOf, bindL_same] at hg
    · rw [hb p (List.mem_cons_of_mem _ hp)]
      exact (hap.1 p hp).2 g (by rw [← hlb]; exact hg)
    · rw [hb p (List.mem_cons_of_mem _ hp), hb q (List.mem_cons_of_mem _ hq)]
      exact hpq.2 g
  · intro l' t' hm
    rcases List.mem_cons.1 hm with h1 | h1
    · cases h1; simp [TokHolds, bindL_same]
    · rcases List.mem_cons.1 h1 with h2 | h2
      · cases h2; exact row_adopt hN hi hj (hr.holds.tok l _ List.mem_cons_self)
      · exact (hr.holds.tok l' t' (List.mem_cons_of_mem _ h2)).mono (fun _ h => h) (bindL_mono hN) (fun _ _ => rfl) (fun _ _ => rfl)
  · exact fun d x hx => hmono (hr.slots d x hx)
  · have o := hr.out
    refine ⟨o.os, o.tape, o.output, o.size, o.block, o.S0, o.S1, fun l q hq => bindL_mono hN _ _ (o.R0 l q hq), fun g hg => o.foot g (hfoot g hg), fun l' t' hm => ?_⟩
    rcases List.mem_cons.1 hm with h1 | h1
    · cases h1
      refine .inr ?_
      cases hq : G.R0 N with
      | none => rfl
      | some q => have := o.R0 N q hq; rw [hN] at this; cases this
    · rcases List.mem_cons.1 h1 with h2 | h2
      · cases h2; exact o.keys l _ List.mem_cons_self
      · exact o.keys l' t' (List.mem_cons_of_mem _ h2)
end
section
variable {P : Program} {n : Nat} {ro : Option Nat} {G : CtxR P n ro} {K : Kont} {st : St}
theorem row_cvc {S : Nat → Prop} {R : Lab} {w : World} {l i j k : Nat} {e : TypeId} {xs : List (List AV)} {cs : List AV} {x y : AV} (hi : xs[i]? = some cs) (hj : cs[j]? = some x) (hy : y.one = true) (hc : ∀ u, RepV S R w x u → RepV S R w y u) (h : TokHolds S R w l (.row e k xs)) : TokHolds S R w l (.row e k (xs.set i (cs.set j y))) := by
  unfold TokHolds at h ⊢
  split at h
  · rename_i e1
    cases e1
    simp_all
  · rename_i e2; cases e2
  · rename_i q ty k' xs' e1 e2
    cases e2
    rw [e1]
    obtain ⟨hk, cur, fr, hh, hfr, hs, hb, hm, hrow⟩ := h
    refine ⟨hk, cur, fr, hh, hfr, hs, by rw [List.length_set]; exact hb, hm, fun i' z hz => ?_⟩
    have hlt := (List.getElem?_eq_some_iff.1 hi).1
    by_cases hii : i = i'
    · subst hii
      rw [List.getElem?_set_self hlt] at hz
      cases hz
      obtain ⟨hl, hcell⟩ := hrow i cs hi
      refine ⟨by rw [List.length_set]; exact hl, fun j' z hz => ?_⟩
      have hjl := (List.getElem?_eq_some_iff.1 hj).1
      by_cases hjj : j = j'
      · subst hjj
        rw [List.getElem?_set_self hjl] at hz
        cases hz
        obtain ⟨_, u, hu, hr⟩ := hcell j _ hj
        exact ⟨hy, u, hu, hc u hr⟩
      · rw [List.getElem?_set_ne hjj] at hz
        exact hcell j' z hz
    · rw [List.getElem?_set_ne hii] at hz
      exact hrow i' z hz
  · rename_i e2; cases e2
  · rename_i e2; cases e2
  · exact h.elim

/-- What a cell of one's own holds is no longer written, nor what it reaches. -/
theorem aw_cvc {c : Code} {l i j k : Nat} {e : TypeId} {xs : List (List AV)} {cs : List AV} {x y : AV} {us rs0 rs : List (Nat × Tok)} (ht : Takes st.toks us rs0) (hl : Take rs0 l (.row e k xs) rs) (hi : xs[i]? = some cs) (hj : cs[j]? = some x) (hcv : Cv us x y) (hy : y.one = true)
    (h : AW G c ⟨st.sl, (l, .row e k (xs.set i (cs.set j y))) :: rs⟩ K) : AW G c st K := by
  refine ⟨?_⟩
  rintro a w ⟨S, R, hr⟩
  have hperm : st.toks.Perm (us ++ ((l, .row e k xs) :: rs)) := ht.perm.trans (hl.perm.append_left us)
  have ha : Holds S R w (us ++ ((l, .row e k xs) :: rs)) := hr.holds.sub ⟨[], by simpa using hperm⟩
  have h1 : Holds S R w us := ha.sub ⟨_, .refl _⟩
  have h2 : Holds S R w ((l, .row e k xs) :: rs) := ha.sub ⟨us, List.perm_append_comm⟩
  have hap := List.pairwise_append.1 ha.apart
  have hin1 : ∀ p, p ∈ us → p ∈ st.toks := fun p hp => hperm.mem_iff.2 (List.mem_append_left _ hp)
  have hin2 : ∀ p, p ∈ (l, Tok.row e k xs) :: rs → p ∈ st.toks := fun p hp => hperm.mem_iff.2 (List.mem_append_right _ hp)
  have hmono : ∀ {y : AV} {u : Value}, RepV S R w y u → RepV (fun b => S b ∨ Foot R us b) R w y u := fun h => h.mono (fun _ h => .inl h) (fun _ _ h => h) (fun _ _ => rfl)
  have hfoot : ∀ g, Foot R ((l, .row e k (xs.set i (cs.set j y))) :: rs) g → Foot R ((l, .row e k xs) :: rs) g := by
    rintro g ⟨l', t', hm, hg⟩
    rcases List.mem_cons.1 hm with h3 | h3
    · cases h3; exact ⟨l, _, List.mem_cons_self, hg⟩
    · exact ⟨l', t', List.mem_cons_of_mem _ h3, hg⟩
  refine h.h a w ⟨fun b => S b ∨ Foot R us b, R, ⟨hr.holds.top, ?_, ?_, ?_, ?_⟩, fun d x hx => hmono (hr.slots d x hx), ?_, hr.defers, hr.size⟩
  · have := List.pairwise_cons.1 hap.2.1
    exact List.pairwise_cons.2 ⟨fun p hp => this.1 p hp, this.2⟩
  · intro l' t' hm
    rcases List.mem_cons.1 hm with h3 | h3
    · cases h3
      exact row_cvc hi hj hy (fun u hu => hcv S _ R w h1 (fun _ h => .inl h) (fun g hg => .inr hg) u hu) ((h2.tok l _ List.mem_cons_self).mono (fun _ h => .inl h) (fun _ _ h => h) (fun _ _ => rfl) (fun _ _ => rfl))
    · exact (h2.tok l' t' (List.mem_cons_of_mem _ h3)).mono (fun _ h => .inl h) (fun _ _ h => h) (fun _ _ => rfl) (fun _ _ => rfl)
  · rintro g hf (hb | ⟨l', t', hm', hg'⟩)
    · exact h2.notS g (hfoot g hf) hb
    · obtain ⟨l2, t2, hm2, hg2⟩ := hfoot g hf
      exact (hap.2.2 _ hm' _ hm2).2 g hg' hg2
  · rintro b (hb | ⟨l', t', hm, hg⟩)
    · exact hr.holds.low b hb
    · exact (h1.tok l' t' hm).lt hg
  · have o := hr.out
    refine ⟨o.os, o.tape, o.output, o.size, o.block, fun b hb => .inl (o.S0 b hb), ?_, o.R0, fun g hf => ?_, fun l' t' hm => ?_⟩
    · rintro b (hb | ⟨l', t', hm, hg⟩)
      · exact o.S1 b hb
      · exact .inr (o.foot b ⟨l', t', hin1 _ hm, hg⟩)
    · obtain ⟨l2, t2, hm2, hg2⟩ := hfoot g hf
      exact o.foot g ⟨l2, t2, hin2 _ hm2, hg2⟩
    · rcases List.mem_cons.1 hm with h3 | h3
      · cases h3; exact o.keys l _ (hin2 _ List.mem_cons_self)
      · exact o.keys l' t' (hin2 _ (List.mem_cons_of_mem _ h3))
end
section
variable {P : Program} {st : St} {dst : Option Tmp} {ty : TypeId} {pos : String} {after : Array Edge} {g : Option (Nat × Bool)}
/-- What makes something new reckons, if nobody will write that. -/
theorem ev_of_eff {o : Oper} {Post : List (Nat × Tok) → AV → Prop} {x : AV} (he : OpEff P o st [] Post) (hc : ∀ ts r, Post ts r → Cv ts r x) : OpEv P o st x := ⟨fun S R a w hh ho next Q hk => by
  have h0 : Holds S R w [] := ⟨hh.top, by simp, by simp, by rintro g ⟨_, _, h, _⟩; simp at h, hh.low⟩
  refine he.h S R a w h0 ho next Q fun v r S' R' w' ts' hp hh' hr o => ?_
  have hf : ∀ b, ¬ Foot R [] b := by rintro b ⟨_, _, h, _⟩; simp at h
  refine hk v (fun b => S' b ∨ Foot R' ts' b) R' w' ⟨⟨o.os, o.tape, o.output, o.size, fun b hb => o.block b hb (hf b)⟩, fun b hb => .inl (o.S0 b hb), ?_, o.R0, hh'.top⟩ (hc ts' r hp S' _ R' w' hh' (fun _ h => .inl h) (fun g hg => .inr hg) v (hr.mono (fun _ h => .inl h) (fun _ _ h => h) (fun _ _ => rfl)))
  rintro b (hb | ⟨l, t, hm, hg⟩)
  · rcases o.S1 b hb with h1 | h1 | h1
    · exact .inl h1
    · exact (hf b h1).elim
    · exact .inr ⟨h1, hh'.low b hb⟩
  · refine .inr ⟨?_, (hh'.tok l t hm).lt hg⟩
    rcases o.foot b ⟨l, t, hm, hg⟩ with h1 | h1
    · exact (hf b h1).elim
    · exact h1⟩
/-- append(nil, ys...), only read from then on. -/
theorem ev_append_nil {t e : TypeId} {x y : Operand} {k b m : Nat} {z : Value} {ys : List (List AV)} [hu : Und P t (.slice e)] [he : ElF P e z k b] (hx : st.get x = some (.val (.slice none 0 0))) (hy : st.get y = some (.sl k ys m)) (hm : m = ys.length) (hb : m * b ≤ 140737488355328) (hnm : m ≤ 140737488355328) :
    OpEv P ⟨dst, .call ⟨.builtin .append, #[x, y], #[t, t]⟩, ty, pos, after, g⟩ st (.sl k ys m) :=
  ev_of_eff (eff_append_nil hx hy hb hnm) (by
    rintro _ _ ⟨l', rfl, rfl⟩
    rw [List.take_of_length_le (by omega)]
    exact Cv.own0 .head (by omega))
end
section
variable {P : Program} {st : St} {dst : Option Tmp} {ty : TypeId} {pos : String} {after : Array Edge} {g : Option (Nat × Bool)}
/-- append(own, ys...), and what it was made longer from can still be read: it stands in its place, or the new one stands in a block of its own. -/
theorem eff_append_keep {t e : TypeId} {x y : Operand} {k b l n m : Nat} {z : Value} {xs ys : List (List AV)} [hu : Und P t (.slice e)] [he : ElF P e z k b] (hx : st.get x = some (.own l 0 n)) (hy : st.get y = some (.sl k ys m)) (hoff : n ≤ xs.length) (hb : (n + m) * b ≤ 140737488355328) (hnm : n + m ≤ 140737488355328) :
    OpEff P ⟨dst, .call ⟨.builtin .append, #[x, y], #[t, t]⟩, ty, pos, after, g⟩ st [(l, .row e k xs)] (fun ts r => (ts = [(l, .row e k (xs.take n ++ ys.take m))] ∧ r = .own l 0 (n + m)) ∨ ∃ l', ts = [(l', .row e k (xs.take n ++ ys.take m)), (l, .row e k xs)] ∧ r = .own l' 0 (n + m)) := by
  refine ⟨?_⟩
  intro S R a w hh ho next Q hk
  have hxv := ho x (by simp [Op.operands, Call.operands]) _ hx
  have hyv := ho y (by simp [Op.operands, Call.operands]) _ hy
  obtain ⟨news, hs, hrep⟩ := src_sl (P := P) hu.h hyv
  have hm : (ys.take m).length = m := by
    generalize a.eval y = u at hyv
    cases hyv with
    | sl hn _ _ _ _ _ _ => simp; omega
  obtain ⟨r, w', R', N, hrun, h1, h2, h3, hN, h4⟩ := app_core2 (P := P) (ty := ty) (t := t) (t2 := t) (ys := ys.take m) hh hxv (by omega) hs (fun i x hx' hi => hrep i x hi (by rwa [List.getElem?_take, if_pos hi] at hx')) hm hb hnm
  unfold Oper.wp
  rw [exec_append hrun]
  rw [List.drop_zero] at h1 h3 h4
  have hne : N ≠ l := fun e => by
    obtain ⟨q, hq⟩ := (hh.tok l _ List.mem_cons_self).bound
    rw [← e, hN] at hq; cases hq
  rcases h4 with ⟨q, hq, hq'⟩ | h4
  · rw [Nat.add_zero] at hq'
    have hRl : R' l = some (some q) := h3.R0 l _ hq
    have hqe : (⟨q.g, q.b, q.k, q.t⟩ : Blk) = q := rfl
    rw [hqe] at hq'
    have hblk : blkOf R' l = blkOf R' N := by simp [blkOf, hRl, hq']
    have htokN := h1.tok N _ List.mem_cons_self
    have hfoot : ∀ g, Foot R' [(l, Tok.row e k (xs.take n ++ ys.take m))] g → Foot R' [(N, Tok.row e k (xs.take n ++ ys.take m))] g := by
      rintro g ⟨l', t', hm', hg⟩
      simp at hm'
      obtain ⟨rfl, rfl⟩ := hm'
      exact ⟨N, _, List.mem_cons_self, by rw [← hblk]; exact hg⟩
    refine hk r (.own l 0 (n + m)) S R' w' [(l, .row e k (xs.take n ++ ys.take m))] (.inl ⟨rfl, rfl⟩) ⟨h1.top, by simp, ?_, fun g hg => h1.notS g (hfoot g hg), h1.low⟩ ?_ ⟨h3.os, h3.tape, h3.output, h3.size, h3.block, h3.S0, h3.S1, h3.R0, fun g hg => h3.foot g (hfoot g hg), ?_⟩
    · intro l' t' hm'
      simp at hm'
      obtain ⟨rfl, rfl⟩ := hm'
      simp only [TokHolds, hRl]
      simpa only [TokHolds, hq'] using htokN
    · generalize n + m = nm at h2 ⊢
      cases h2 with
      | own h5 h6 h7 h8 h9 h10 =>
        rw [hq'] at h5
        cases h5
        exact .own hRl h6 h7 h8 h9 h10
      | onil h5 => rw [hq'] at h5; cases h5
    · intro l' t' hm'
      simp at hm'
      obtain ⟨rfl, rfl⟩ := hm'
      exact .inl ⟨_, List.mem_cons_self⟩
  · have hno : ∀ g, ¬ Foot R [] g := by rintro g ⟨_, _, h, _⟩; simp at h
    have htl := hh.tok l _ List.mem_cons_self
    have hbl : blkOf R' l = blkOf R l := blkOf_mono h3.R0 htl.bound
    have hbN : ∀ g, blkOf R' N = some g → w.heap.size ≤ g := fun g hg => (h4.foot g ⟨N, _, List.mem_cons_self, hg⟩).resolve_left (hno g)
    refine hk r (.own N 0 (n + m)) S R' w' [(N, .row e k (xs.take n ++ ys.take m)), (l, .row e k xs)] (.inr ⟨N, rfl, rfl⟩) ⟨h1.top, ?_, ?_, ?_, h1.low⟩ h2 ⟨h3.os, h3.tape, h3.output, h3.size, h3.block, h3.S0, h3.S1, h3.R0, ?_, ?_⟩
    · refine List.pairwise_cons.2 ⟨fun p hp => ⟨fun e1 => ?_, fun g hg => ?_⟩, by simp⟩
      · obtain rfl := List.mem_singleton.1 hp; exact hne e1
      · obtain rfl := List.mem_singleton.1 hp
        show blkOf R' l ≠ some g
        rw [hbl]
        intro hl
        have := htl.lt hl
        have := hbN g hg
        omega
    · intro l' t' hm'
      rcases List.mem_cons.1 hm' with h5 | h5
      · cases h5; exact h1.tok N _ List.mem_cons_self
      · cases List.mem_singleton.1 h5
        exact htl.mono (fun _ h => h) h3.R0 (fun b hb => h4.block b (hh.low b hb) (hno b)) (fun g hg => h4.block g (htl.lt hg) (hno g))
    · rintro g ⟨l', t', hm', hg⟩
      rcases List.mem_cons.1 hm' with h5 | h5
      · cases h5; exact h1.notS g ⟨N, _, List.mem_cons_self, hg⟩
      · cases List.mem_singleton.1 h5
        rw [hbl] at hg
        exact hh.notS g ⟨l, _, List.mem_cons_self, hg⟩
    · rintro g ⟨l', t', hm', hg⟩
      rcases List.mem_cons.1 hm' with h5 | h5
      · cases h5; exact .inr (hbN g hg)
      · cases List.mem_singleton.1 h5
        rw [hbl] at hg
        exact .inl ⟨l, _, List.mem_cons_self, hg⟩
    · intro l' t' hm'
      rcases List.mem_cons.1 hm' with h5 | h5
      · cases h5; exact .inr hN
      · cases List.mem_singleton.1 h5; exact .inl ⟨_, List.mem_cons_self⟩
end
end Go.Proofs.YtphkfejckafamaaDoorA

/- Bundles: a state that says less, by a permutation; maps' values converted. -/
set_option linter.unusedVariables false
namespace Go.Proofs.YtphkfejckafamaaDoorA
open Go.RowKit

theorem Sub.perm {st st' : St} (h1 : SlLe st.sl st'.sl) {r : List (Nat × Tok)} (h2 : st.toks.Perm (st'.toks ++ r)) : Sub st st' :=
  fun S R a w hs _ => ⟨fun d y hy => by obtain ⟨x, hx, hle⟩ := h1.get d y hy; exact hle.rep (hs d x hx), r, h2⟩
theorem take_mem {ts : List (Nat × Tok)} {l : Nat} {t : Tok} (h : (l, t) ∈ ts) : ∃ r, Take ts l t r := by
  induction ts with
  | nil => cases h
  | cons p ts ih =>
    rcases List.mem_cons.1 h with h | h
    · subst h; exact ⟨ts, .head⟩
    · obtain ⟨r, hr⟩ := ih h
      exact ⟨p :: r, .tail hr⟩
theorem Cv.imapv {ts : List (Nat × Tok)} {es es' : List (AV × AV)} (hl : es'.length = es.length) (h : ∀ (i : Nat) (p q : AV × AV), es[i]? = some p → es'[i]? = some q → p.1 = q.1 ∧ Cv ts p.2 q.2) : Cv ts (.imap es) (.imap es') := fun S S' R w hh hS hF v hv => by
  have hget : ∀ (i : Nat) (q : AV × AV), es'[i]? = some q → ∃ p, es[i]? = some p := fun i q hq => by
    have := (List.getElem?_eq_some_iff.1 hq).1
    exact ⟨_, List.getElem?_eq_getElem (by omega)⟩
  cases hv with
  | imap hb hh2 hl2 hm hk hv2 =>
    rename_i g ents clock A B
    refine .imap (A := A) (B := B) hb hh2 (by rw [hl2, hl]) (fun i q hq => ?_) (fun i q hq => ?_) (fun i q hq => ?_)
    · obtain ⟨p, hp⟩ := hget i q hq
      exact hm i p hp
    · obtain ⟨p, hp⟩ := hget i q hq
      rw [← (h i p q hp hq).1]
      exact hk i p hp
    · obtain ⟨p, hp⟩ := hget i q hq
      exact (h i p q hp hq).2 S S' R w hh hS hF _ (hv2 i p hp)
/-- Ahead of code: the same tokens in another order. -/
theorem aw_perm {P : Program} {n : Nat} {ro : Option Nat} {G : CtxR P n ro} {c : Code} {sl : List (Nat × AV)} {ts us : List (Nat × Tok)} {K : Kont} (hp : ts.Perm us) (h : AW G c ⟨sl, us⟩ K) : AW G c ⟨sl, ts⟩ K :=
  AW.sub (st' := ⟨sl, us⟩) (fun S R a w hs _ => ⟨hs, [], by rw [List.append_nil]; exact hp⟩) h
end Go.Proofs.YtphkfejckafamaaDoorA

/- A range over a function: what yield is to the iterator; the statement; a function that holds one. -/
namespace Go.Proofs.YtphkfejckafamaaDoorA
open Go.RowKit

/-- Where something was proved: what was stable then, what was bound. -/
structure Base where
  S : Nat → Prop
  R : Lab
  w : World
/-- Later than that. -/
structure Base.Ext (B : Base) (S : Nat → Prop) (R : Lab) (w : World) : Prop where
  S : ∀ b, B.S b → S b
  R : ∀ l q, B.R l = some q → R l = some q
  w : ∀ b, B.S b → w.heap[b]? = B.w.heap[b]?
theorem Base.Ext.rep {B : Base} {S : Nat → Prop} {R : Lab} {w : World} (h : B.Ext S R w) {x : AV} {v : Value} (hv : RepV B.S B.R B.w x v) : RepV S R w x v := hv.mono h.S h.R h.w

/-- A contract at whatever is later than that. -/
structure FnB (B : Base) (P : Program) (f : FuncId) (ts : List (Nat × Tok)) (args : List AV) (Post : List (Nat × Tok) → AV → Prop) : Prop where
  h : ∀ (S : Nat → Prop) (R : Lab) (w : World) (vs : List Value), B.Ext S R w → Holds S R w ts → Reps S R w args vs → Calls P f vs.toArray w (FnPost S R w ts Post)
/-- What a call of yield does. -/
structure Yld (B : Base) (P : Program) (l : Nat) (ts : List (Nat × Tok)) (args : List AV) (Post : List (Nat × Tok) → AV → Prop) : Prop where
  h : ∀ (S : Nat → Prop) (R : Lab) (w : World) (vs : List Value), B.Ext S R w → Holds S R w ts → Reps S R w args vs → YieldAt Fence.wide 0 P l vs.toArray w (FnPost S R w ts Post)

/-- The context of a function that is called later than that. -/
structure CtxR.After {P : Program} {n : Nat} {ro : Option Nat} (G : CtxR P n ro) (B : Base) : Prop where
  ext : B.Ext G.S0 G.R0 G.w0
  low : ∀ b, G.S0 b → b < G.w0.heap.size
  notF : ∀ b, G.S0 b → ¬ G.F0 b
theorem RelAt.ext {P : Program} {n : Nat} {ro : Option Nat} {G : CtxR P n ro} {B : Base} (hG : G.After B) {S : Nat → Prop} {R : Lab} {st : St} {a : Act} {w : World} (h : RelAt G S R st a w) : B.Ext S R w :=
  ⟨fun b hb => h.out.S0 b (hG.ext.S b hb), fun l q hq => h.out.R0 l q (hG.ext.R l q hq), fun b hb => (h.out.block b (hG.low b (hG.ext.S b hb)) (hG.notF b (hG.ext.S b hb))).trans (hG.ext.w b hb)⟩

theorem fnB_of {B : Base} {P : Program} {f : FuncId} {fn : Func} {c : Code} {n : Nat} {rvs : Array ResultVar} {ts : List (Nat × Tok)} {args : List AV} {Post : List (Nat × Tok) → AV → Prop} (hf : P.funcs[f]? = some fn) (hb : fn.body = some c) (hn : fn.ntmps = n) (hrv : fn.results = rvs) (hl' : Nat.ble args.length n = true)
    (h : ∀ G : Ctx P n, G.After B → AW G c ⟨argSl 0 args, ts⟩ (.nil (RetQ P rvs Post))) : FnB B P f ts args Post := by
  refine ⟨?_⟩
  intro S R w vs hB hh hr
  have hl := Nat.le_of_ble_eq_true hl'
  refine calls_of_wp hf hb ?_
  have hsz : (vs.toArray ++ Array.replicate (fn.ntmps - vs.toArray.size) undef).size = n := by
    have := hr.1
    simp [hn]; omega
  refine (wpIn_wide (n := 0)).1 (wpIn_mono ((h ⟨w, S, R, Foot R ts, fun l => ∃ t, (l, t) ∈ ts, []⟩ ⟨hB, hh.low, fun b hb hf => hh.notS b hf hb⟩).h _ w ⟨S, R, hh, ?_, ?_, rfl, hsz⟩) ?_)
  · intro d x hx
    obtain ⟨_, h2⟩ := look_argSl args 0 d x hx
    have hd : d < args.length := by
      have := (List.getElem?_eq_some_iff.1 h2).1
      simpa using this
    have hv := hr.2 d x (by simpa using h2)
    have : d < vs.length := by rw [hr.1]; exact hd
    have e : (vs.toArray ++ Array.replicate (fn.ntmps - vs.toArray.size) undef).getD d undef = vs.getD d undef := by
      simp [Array.getElem?_append, this]
    show RepV S R w x ((vs.toArray ++ Array.replicate (fn.ntmps - vs.toArray.size) undef).getD d undef)
    rw [e]; exact hv
  · refine ⟨rfl, rfl, rfl, Nat.le_refl _, fun _ _ _ => rfl, fun _ h => h, fun _ h => .inl h, fun _ _ h => h, fun g h => .inl h, fun l t ht => .inl ⟨t, ht⟩⟩
  · rintro e a' w' ⟨st', hq, S', R', hr'⟩
    have fin : ResQ P rvs Post st' → a'.defers = [] ∧ ∃ v, (results fn a'.tmps).run P w' = .ok v w' ∧ FnPost S R w ts Post (.returned v) w' := by
      rintro ⟨r, hres, ts', rest, ht, hp⟩
      obtain ⟨v, hv, hrep⟩ := hres S' R' a' w' hr'.holds hr'.slots fn hrv
      refine ⟨hr'.defers, v, hv, v, r, S', R', ts', rfl, hp, hr'.holds.sub ⟨rest, ht.perm⟩, hrep, ?_⟩
      exact hr'.out.sub fun p hm => ht.perm.mem_iff.2 (List.mem_append_left _ hm)
    cases e with
    | normal => exact fin hq
    | ret => exact fin hq
    | _ => exact hq.elim

/-! ### A call of yield -/
theorem run_callY {P : Program} {a : Act} {dst : Option Tmp} {ty : TypeId} {pos : String} {after : Array Edge} {g : Option (Nat × Bool)} {c : Operand} {xs : List Operand} {tys : Array TypeId} {l : Nat} {w : World} (hc : a.eval c = .func (.yield l) #[] #[]) :
    (execOp a.eval ⟨dst, .call ⟨.value c, xs.toArray, tys⟩, ty, pos, after, g⟩).run P w = (Instr.yield l (xs.map a.eval).toArray).run P w := by
  simp [execOp, resolve, hc, Deferred.ofValue, invoke]

section
variable {P : Program} {n : Nat} {G : Ctx P n} {l : List Oper} {sl : List (Nat × AV)} {ts : List (Nat × Tok)} {K : Kont} {d : Nat} {ty : TypeId} {pos : String} {after : Array Edge} {rest : List Oper}
theorem ar_yield {B : Base} {lo : Nat} {c : Operand} {xs : List Operand} {tys : Array TypeId} {ys : List AV} {us rs : List (Nat × Tok)} {Post : List (Nat × Tok) → AV → Prop} (hG : G.After B) (hY : Yld B P lo us ys Post) (hc : St.get ⟨sl, ts⟩ c = some (.val (.func (.yield lo) #[] #[]))) (hx : gets ⟨sl, ts⟩ xs = some ys)
    (ht : Takes ts us rs) (hd : Nat.blt d n = true) (h : ∀ ts' r, Post ts' r → AR G l 0 rest ⟨(d, r) :: sl, ts' ++ rs⟩ K) : AR G l 0 (⟨some d, .call ⟨.value c, xs.toArray, tys⟩, ty, pos, after, none⟩ :: rest) ⟨sl, ts⟩ K := by
  refine ar_of ⟨?_⟩
  rintro a w ⟨S, R, hr⟩
  refine wpListIn_plain rfl fun k hk => ⟨fun _ _ => trivial, ?_⟩
  have hcv : a.eval c = .func (.yield lo) #[] #[] := rep_val (hr.slots.eval hc)
  rw [show Oper.semAt (fen none).round a.eval _ = execOp a.eval _ from Oper.semAt_none a.eval _, run_callY hcv]
  obtain ⟨fn, tmps, as, bd, hy, hR⟩ := hY.h S R w (xs.map a.eval) (hr.ext hG) (hr.holds.sub ⟨rs, ht.perm⟩) (gets_reps hx fun z _ y hz => hr.slots.eval hz)
  rw [hy]
  refine ⟨fun h => (nomatch h), hR.mono ?_⟩
  rintro e w' ⟨v, r, S', R', ts', rfl, hpost, hh', hrep, o⟩
  have hf := hr.frame ht.perm hh' o
  exact hk _ _ ((h ts' r hpost).awo.h _ _ ⟨S', R', hf.holds, hf.slots.put (dst := some d) hrep (fun d' e => by cases e; rw [hr.size]; simpa [Nat.blt_eq] using hd), hf.out, (put_defers ..).trans hr.defers, (put_size ..).trans hr.size⟩)
end

end Go.Proofs.YtphkfejckafamaaDoorA

/- The statement 'for .. := range g' where g is a bound method. -/
namespace Go.Proofs.YtphkfejckafamaaDoorA
open Go.RowKit

section
variable {P : Program} {n : Nat} {ro : Option Nat}

theorem obj_foot {R : Lab} {N : Nat} {q : Blk} (hR : R N = some (some q)) {t : Tok} {g : Nat} (h : Foot R [(N, t)] g) : g = q.g := by
  obtain ⟨l', t', hm, hg⟩ := h
  obtain ⟨rfl, rfl⟩ : l' = N ∧ t' = t := by simpa using hm
  simp only [blkOf, hR] at hg
  exact (Option.some.inj hg).symm

/-- A block for the machine's own books. -/
theorem RelAt.newObj {G : CtxR P n ro} {S : Nat → Prop} {R : Lab} {sl : List (Nat × AV)} {ts : List (Nat × Tok)} {a : Act} {w : World} (hr : RelAt G S R ⟨sl, ts⟩ a w) (o : Obj) :
    ∃ N R', (∀ l q, R l = some q → R' l = some q) ∧ R' N = some (some ⟨w.heap.size, 0, 0, 0⟩) ∧ RelAt G S R' ⟨sl, (N, .obj o) :: ts⟩ a (w.alloc o) := by
  obtain ⟨N, hN⟩ := hr.holds.free
  have hblk : w.heap.size < (w.alloc o).heap.size := by rw [alloc_heap]; simp
  have hfoot : ∀ g, Foot (bindL R N (some ⟨w.heap.size, 0, 0, 0⟩)) [(N, .obj o)] g → g = w.heap.size := fun g hg => obj_foot bindL_same hg
  refine ⟨N, bindL R N (some ⟨w.heap.size, 0, 0, 0⟩), bindL_mono hN, bindL_same, ?_⟩
  refine hr.frame (ts := []) (ts' := [(N, .obj o)]) (rs := ts) (.refl _) ⟨bindL_top hr.holds.top, by simp, ?_, ?_, fun b hb => Nat.lt_trans (hr.holds.low b hb) hblk⟩
    ⟨rfl, rfl, rfl, Nat.le_of_lt hblk, fun b hb _ => ?_, fun _ h => h, fun _ h => .inl h, bindL_mono hN, fun g hg => .inr ?_, fun l t hm => ?_⟩
  · intro l' t' hm
    obtain ⟨rfl, rfl⟩ : l' = N ∧ t' = .obj o := by simpa using hm
    simp only [TokHolds, bindL_same]
    rw [alloc_heap]; simp
  · rintro g hg hs
    have := hfoot g hg
    subst this
    exact absurd (hr.holds.low _ hs) (Nat.lt_irrefl _)
  · rw [alloc_heap, Array.getElem?_push, if_neg (by omega)]
  · rw [hfoot g hg]; exact Nat.le_refl _
  · obtain ⟨rfl, rfl⟩ : l = N ∧ t = .obj o := by simpa using hm
    exact .inr hN

/-- What lies there. -/
theorem RelAt.obj {G : CtxR P n ro} {S : Nat → Prop} {R : Lab} {st : St} {N : Nat} {o : Obj} {q : Blk} {a : Act} {w : World} (hr : RelAt G S R st a w) (hm : (N, Tok.obj o) ∈ st.toks) (hR : R N = some (some q)) : w.heap[q.g]? = some o := by
  have := hr.holds.tok _ _ hm
  simp only [TokHolds, hR] at this
  exact this.2

/-- It is turned. -/
theorem RelAt.putObj {G : CtxR P n ro} {S : Nat → Prop} {R : Lab} {sl : List (Nat × AV)} {ts : List (Nat × Tok)} {N : Nat} {o : Obj} {q : Blk} {a : Act} {w : World} (hr : RelAt G S R ⟨sl, (N, .obj o) :: ts⟩ a w) (hR : R N = some (some q)) (o' : Obj) : RelAt G S R ⟨sl, (N, .obj o') :: ts⟩ a (w.putObj q.g o') := by
  have hlt : q.g < w.heap.size := (Array.getElem?_eq_some_iff.1 (hr.obj (o := o) List.mem_cons_self hR)).1
  have hF : Foot R [(N, .obj o)] q.g := ⟨N, _, List.mem_singleton.2 rfl, by simp only [blkOf, hR]⟩
  refine hr.frame (ts := [(N, .obj o)]) (ts' := [(N, .obj o')]) (rs := ts) (.refl _) ⟨hr.holds.top, by simp, ?_, ?_, fun b hb => by rw [World.putObj_size]; exact hr.holds.low b hb⟩
    ⟨rfl, rfl, rfl, by rw [World.putObj_size]; exact Nat.le_refl _, fun b hb hnf => ?_, fun _ h => h, fun _ h => .inl h, fun _ _ h => h, fun g hg => .inl ?_, fun l t hm => .inl ?_⟩
  · intro l' t' hm
    obtain ⟨rfl, rfl⟩ : l' = N ∧ t' = .obj o' := by simpa using hm
    have h0 := hr.holds.tok _ _ List.mem_cons_self
    simp only [TokHolds, hR] at h0 ⊢
    exact ⟨h0.1, World.putObj_heap_same hlt⟩
  · rintro g hg hs
    have := obj_foot hR hg
    subst this
    exact hr.holds.notS _ ⟨N, .obj o, List.mem_cons_self, by simp only [blkOf, hR]⟩ hs
  · exact World.putObj_heap_other fun e => hnf (e ▸ hF)
  · rw [obj_foot hR hg]; exact hF
  · obtain ⟨rfl, rfl⟩ : l = N ∧ t = .obj o' := by simpa using hm
    exact ⟨_, List.mem_singleton.2 rfl⟩

theorem RelAt.sub {G : CtxR P n ro} {S : Nat → Prop} {R : Lab} {st st' : St} {a : Act} {w : World} (hr : RelAt G S R st a w) (hs : Sub st st') : RelAt G S R st' a w := by
  obtain ⟨h1, r, hp⟩ := hs S R a w hr.slots hr.holds
  exact ⟨hr.holds.sub ⟨r, hp⟩, h1, hr.out.sub (fun p hm => hp.mem_iff.2 (List.mem_append_left _ hm)), hr.defers, hr.size⟩
theorem RelAt.perm' {G : CtxR P n ro} {S : Nat → Prop} {R : Lab} {sl : List (Nat × AV)} {ts us : List (Nat × Tok)} {a : Act} {w : World} (hr : RelAt G S R ⟨sl, ts⟩ a w) (hp : ts.Perm us) : RelAt G S R ⟨sl, us⟩ a w :=
  ⟨hr.holds.sub ⟨[], by simpa using hp⟩, hr.slots, hr.out.sub (fun p hm => hp.mem_iff.2 hm), hr.defers, hr.size⟩
end
end Go.Proofs.YtphkfejckafamaaDoorA
