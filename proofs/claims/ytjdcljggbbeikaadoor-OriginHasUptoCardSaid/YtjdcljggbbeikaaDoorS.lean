import Derived.Test.YtjdcljggbbeikaaDoorR
set_option linter.unusedVariables false
set_option linter.unusedSimpArgs false
set_option maxRecDepth 100000
namespace Go.Proofs.YtjdcljggbbeikaaDoor
open Go.Proofs Go.Proofs.YtjdcljggbbeikaaDoorA

/-! Bits of a mask. -/
@[irreducible] def shM (mask : Int) (i : Nat) : Int := mask.fdiv (2 ^ (min (i % 60) 64))
@[irreducible] def bM (mask : Int) (i : Nat) : Int := IntKind.u64.wrap ((BitVec.ofInt IntKind.u64.bits (shM mask i) &&& BitVec.ofInt IntKind.u64.bits 1).toNat)
section
variable {P : Program} {st : St} {dst : Option Tmp} {ty : TypeId} {pos : String} {after : Array Edge} {g : Option (Nat × Bool)}
theorem ev_shr {t t' : TypeId} {x y : Operand} {k k2 : IntKind} {p q : Int} (hx : st.get x = some (.val (.int k p))) (hy : st.get y = some (.val (.int k2 q))) (h0 : 0 ≤ q) :
    OpEv P ⟨dst, .binOp .shr t x y t', ty, pos, after, g⟩ st (.val (.int k (p.fdiv (2 ^ (min q.toNat k.bits))))) := ev_bin hx hy fun w => by
  have : ¬ q < 0 := by omega
  simp [eqGuard, binOp, Op.shift, this]
theorem ev_shM {t t' : TypeId} {x y : Operand} {k2 : IntKind} {p : Int} {i : Nat} (hx : st.get x = some (.val (.int .u64 p))) (hy : st.get y = some (.val (.int k2 ((i % 60 : Nat) : Int)))) :
    OpEv P ⟨dst, .binOp .shr t x y t', ty, pos, after, g⟩ st (.val (.int .u64 (shM p i))) := by
  have h := ev_shr (P := P) (t := t) (t' := t') (dst := dst) (ty := ty) (pos := pos) (after := after) (g := g) hx hy (by omega)
  unfold shM
  exact h
theorem ev_bM {t t' : TypeId} {x y : Operand} {p : Int} {i : Nat} (hx : st.get x = some (.val (.int .u64 (shM p i)))) (hy : st.get y = some (.val (.int .u64 1))) :
    OpEv P ⟨dst, .binOp .and t x y t', ty, pos, after, g⟩ st (.val (.int .u64 (bM p i))) := by
  unfold bM
  exact ev_and hx hy
end
theorem bM_zero (i : Nat) : bM 0 i = 0 := by
  unfold bM shM
  rw [Int.zero_fdiv]
  rfl
def upB (b : Bool) (c : UInt8) : UInt8 := if b = true ∧ 97 ≤ c.toNat ∧ c.toNat ≤ 122 then c - 32 else c
def upM (mask : Int) (l : List UInt8) : List UInt8 := l.mapIdx fun i c => upB (decide (bM mask i = 1)) c
theorem up_nat (c : UInt8) (h : 97 ≤ c.toNat ∧ c.toNat ≤ 122) : (c - 32).toNat = c.toNat - 32 := by
  have : (32 : UInt8).toNat = 32 := rfl
  rw [UInt8.toNat_sub_of_le _ _ (UInt8.le_iff_toNat_le.2 (by omega)), this]
theorem low_up (b : Bool) (c : UInt8) : lowB (upB b c) = lowB c := by
  unfold upB
  split
  · rename_i h
    have h1 := up_nat c h.2
    unfold lowB
    rw [if_pos (by omega), if_neg (by omega)]
    apply UInt8.toNat_inj.1
    rw [UInt8.toNat_add, h1]
    have : (32 : UInt8).toNat = 32 := rfl
    omega
  · rfl
theorem upM_low (mask : Int) (l : List UInt8) : (upM mask l).map lowB = l.map lowB := by
  unfold upM
  apply List.ext_getElem?
  intro i
  simp only [List.getElem?_map, List.getElem?_mapIdx]
  cases l[i]? with
  | none => rfl
  | some c => simp [low_up]
theorem upM_zero (l : List UInt8) : upM 0 l = l := by
  unfold upM
  apply List.ext_getElem?
  intro i
  simp only [List.getElem?_mapIdx]
  cases l[i]? with
  | none => rfl
  | some c => simp [bM_zero, upB]
theorem upM_len (mask : Int) (l : List UInt8) : (upM mask l).length = l.length := by simp [upM]
theorem upM_snoc (mask : Int) {l : List UInt8} {i : Nat} {c : UInt8} (h : l[i]? = some c) : upM mask (l.take (i + 1)) = upM mask (l.take i) ++ [upB (decide (bM mask i = 1)) c] := by
  have hi := (List.getElem?_eq_some_iff.1 h).1
  unfold upM
  rw [List.take_add_one, h]
  simp [List.mapIdx_append, Nat.min_eq_left (Nat.le_of_lt hi)]
end Go.Proofs.YtjdcljggbbeikaaDoor
