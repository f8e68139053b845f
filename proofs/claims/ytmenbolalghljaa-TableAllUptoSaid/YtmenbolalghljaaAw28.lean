/- make of slices; bytes of one's own as a string. -/
import Derived.Test.YtmenbolalghljaaAw27
import Derived.Laws.MakeOwn
set_option linter.unusedVariables false
namespace Go.Proofs.YtmenbolalghljaaA
open Go.RowKit
section
variable {P : Program} {st : St} {dst : Option Tmp} {ty : TypeId} {pos : String} {after : Array Edge} {g : Option (Nat × Bool)}

theorem made_get {zs : Array Value} {n i : Nat} (hi : i < n) (hz : 0 < zs.size) : (madeCells zs n)[i]? = some (zs.getD (i % zs.size) undef) := by
  have hm : i % zs.size < zs.size := Nat.mod_lt _ hz
  simp [madeCells, hi, hm, Array.getD_eq_getD_getElem?]

/-- make([]T, n, c) -/
theorem eff_makeSlice {t e : TypeId} {x y : Operand} {kl kc : IntKind} {k b n c : Nat} {z : Value} [hu : Und P t (.slice e)] [he : ElF P e z k b] (hx : st.get x = some (.val (.int kl (n : Nat)))) (hy : st.get y = some (.val (.int kc (c : Nat)))) (hnc : n ≤ c) (hb : c * b ≤ 281474976710656) (hm : c ≤ 1099511627776) (hk0 : 0 < k) :
    OpEff P ⟨dst, .makeSlice t x y, ty, pos, after, g⟩ st [] (fun ts r => ∃ l, ts = [(l, .row e k (List.replicate c (vcells z)))] ∧ r = .own l 0 n) := by
  refine ⟨?_⟩
  intro S R a w hh ho next Q hk
  obtain ⟨N, hN⟩ := hh.free
  obtain ⟨i, hi, hz, hsz, hbt, hzc, hall⟩ := he.h
  have e1 := rep_val (ho x (by simp [Op.operands]) _ hx)
  have e2 := rep_val (ho y (by simp [Op.operands]) _ hy)
  have hbb : (i.bytes : Int) * (c : Int) ≤ 281474976710656 := by
    have h1 : ((b * c : Nat) : Int) ≤ 281474976710656 := by rw [Nat.mul_comm]; omega
    rw [hbt]
    rwa [Int.natCast_mul] at h1
  have hrun := run_make (P := P) w t e i z hu.h hi hz kl kc n c (by omega) (by omega) hbb (by omega)
  simp only [Int.toNat_natCast] at hrun
  rw [hsz] at hrun
  have hf := fresh_row (e := e) hN hh.top hh.low (Below.refl _ w) rfl (cur := madeCells z.cells (c * k)) (k := k) (t := c) (xs := List.replicate c (vcells z)) (by simp [madeCells]) (by simp) (by simp [maxLen]; omega) (fun j u hu2 => by
    have hj : j < c := by have := (List.getElem?_eq_some_iff.1 hu2).1; simpa using this
    rw [List.getElem?_replicate, if_pos hj] at hu2
    cases hu2
    refine ⟨by simp [vcells, hzc], fun m v hv => ?_⟩
    simp only [vcells, List.getElem?_map, Option.map_eq_some_iff] at hv
    obtain ⟨q, hq, rfl⟩ := hv
    have hm2 : m < k := by rw [← hzc]; have := (List.getElem?_eq_some_iff.1 hq).1; simpa using this
    refine ⟨List.all_eq_true.1 hall q (List.mem_of_getElem? hq), q, ?_, .val _⟩
    have hlt : j * k + m < c * k := by
      have : (j + 1) * k ≤ c * k := Nat.mul_le_mul_right k (by omega)
      rw [Nat.add_mul, Nat.one_mul] at this
      omega
    rw [made_get hlt (by rw [hzc]; exact hk0), hzc, Nat.mul_comm j k, Nat.mul_add_mod, Nat.mod_eq_of_lt hm2]
    simp only [Array.getElem?_toList] at hq
    simp [Array.getD_eq_getD_getElem?, hq])
  unfold Oper.wp
  have hex : (execOp a.eval ⟨dst, .makeSlice t x y, ty, pos, after, g⟩).run P w = .ok (.value (.slice (some ⟨w.heap.size, 0, none⟩) n c)) (w.alloc (.cells (madeCells z.cells (c * k)) e)) := by
    simp [execOp, e1, e2, hrun]
  rw [hex]
  have hp : RepV S (bindL R N (some ⟨w.heap.size, 0, k, c⟩)) (w.alloc (.cells (madeCells z.cells (c * k)) e)) (.own N 0 n) (.slice (some ⟨w.heap.size, 0, none⟩) n c) :=
    .own (bindL_same (R := R) (q := some ⟨w.heap.size, 0, k, c⟩)) hnc (by simp [maxLen]; omega) (by simp) (.inr (by simp)) ⟨_, rfl, rfl⟩
  exact hk _ _ S _ _ _ ⟨N, rfl, rfl⟩ hf.1 hp hf.2

/-- string(bytes of one's own) -/
theorem ev_conv_own {src d e e' : TypeId} {x : Operand} {l : Nat} {bs : List UInt8} {r : List (Nat × Tok)} [hs : Und P src (.slice e)] [he : Und P e (.int .u8)] [hd : Und P d .string] (hx : st.get x = some (.own l 0 bs.length)) (ht : Take st.toks l (.row e' 1 (u8cells bs)) r) :
    OpEv P ⟨dst, .convert src d x, ty, pos, after, g⟩ st (.val (.string ⟨bs.toArray⟩)) := by
  refine ev_same fun S R a w hh ho => ?_
  have hv := ho x (by simp [Op.operands]) _ hx
  have htok := hh.tok l _ (ht.perm.mem_iff.2 List.mem_cons_self)
  have hsl := own_to_sl (S' := fun b => S b ∨ blkOf R l = some b) htok hv (by simp [u8cells]) (fun _ h => .inl h) (fun g hg => .inr hg)
  simp only [List.drop_zero] at hsl
  generalize hve : a.eval x = v at hsl
  cases hsl with
  | sl hn hc hm hk ha h1 hF =>
    rename_i c ad F
    refine ⟨_, ?_, .val _⟩
    have hrun := run_conv_bytes (P := P) (src := src) (d := d) (e := e) (w := w) (a := ad) (n := bs.length) (c := c) (ns := bs.map fun b => (b.toNat : Int)) (by simp) (fun hpos => by
      have h9 : (u8cells bs).length = bs.length := by simp [u8cells]
      obtain ⟨ad', e1, hS, hcell⟩ := ha (fun h0 => by rw [h0] at h9; simp at h9; omega)
      refine ⟨ad', e1, fun j p hp => ?_⟩
      rw [List.getElem?_map, Option.map_eq_some_iff] at hp
      obtain ⟨q, hq, rfl⟩ := hp
      have hx2 : (u8cells bs)[j]? = some [.val (.int .u8 q.toNat)] := by simp [u8cells, hq]
      have h3 := hcell j _ 0 _ hx2 rfl
      have h4 := rep_val (hF j _ 0 _ hx2 rfl)
      rw [h4] at h3
      simpa using h3)
    have hof : ofInts (bs.map fun b => (b.toNat : Int)) = ⟨bs.toArray⟩ := by
      apply ByteArray.ext
      simp only [ofInts, List.map_map]
      congr 1
      rw [List.map_congr_left (g := id) (fun b _ => by simp)]
      simp
    rw [hof] at hrun
    simp only [execOp, hve]
    simp [hrun]
theorem u8_zeros (n : Nat) : List.replicate n [AV.val (.int .u8 0)] = u8cells (List.replicate n 0) := by
  simp [u8cells]
end
end Go.Proofs.YtmenbolalghljaaA
