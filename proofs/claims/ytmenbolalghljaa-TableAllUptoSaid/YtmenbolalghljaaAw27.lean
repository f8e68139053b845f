/- Laws of bits. -/
import Derived.Test.YtmenbolalghljaaAw26
namespace Go.Proofs.YtmenbolalghljaaA
theorem wrap_bv (x : BitVec 64) : IntKind.i64.wrap (x.toNat : Int) = x.toInt := by
  rw [BitVec.toInt_eq_toNat_cond]
  have h := x.isLt
  have e : (x.toNat : Int) % (2 ^ IntKind.i64.bits : Int) = x.toNat := by
    show (x.toNat : Int) % 2 ^ 64 = x.toNat
    omega
  unfold IntKind.wrap
  simp only [e]
  by_cases hx : 2 * x.toNat < 2 ^ 64
  · rw [if_pos hx, if_neg]
    intro h2
    simp only [Bool.and_eq_true, decide_eq_true_eq] at h2
    have h3 : (x.toNat : Int) ≥ 2 ^ 63 := h2.2
    omega
  · rw [if_neg hx, if_pos]
    · rfl
    · simp only [Bool.and_eq_true, decide_eq_true_eq]
      refine ⟨rfl, ?_⟩
      show (x.toNat : Int) ≥ 2 ^ 63
      omega
theorem ofInt_toInt (x : BitVec 64) : BitVec.ofInt 64 x.toInt = x := by simp
theorem andI_bv (p q : Int) : andI p q = (BitVec.ofInt 64 p &&& BitVec.ofInt 64 q).toInt := by rw [andI]; exact wrap_bv _
theorem orI_bv (p q : Int) : orI p q = (BitVec.ofInt 64 p ||| BitVec.ofInt 64 q).toInt := by rw [orI]; exact wrap_bv _
theorem nandI_bv (p q : Int) : nandI p q = (BitVec.ofInt 64 p &&& ~~~ BitVec.ofInt 64 q).toInt := by rw [nandI]; exact wrap_bv _
theorem andI_nandI (a m k : Int) (h : ~~~ BitVec.ofInt 64 m &&& BitVec.ofInt 64 k = BitVec.ofInt 64 k) : andI (nandI a m) k = andI a k := by
  rw [andI_bv, nandI_bv, ofInt_toInt, BitVec.and_assoc, h, ← andI_bv]
theorem andI_orI (a m k : Int) (h : BitVec.ofInt 64 m &&& BitVec.ofInt 64 k = 0) : andI (orI a m) k = andI a k := by
  rw [andI_bv, orI_bv, ofInt_toInt, andI_bv]
  congr 1
  generalize BitVec.ofInt 64 a = x at *
  generalize BitVec.ofInt 64 m = y at *
  generalize BitVec.ofInt 64 k = z at *
  apply BitVec.eq_of_getLsbD_eq
  intro i hi
  have h2 : (y &&& z).getLsbD i = (0#64).getLsbD i := congrArg (fun b => b.getLsbD i) h
  rw [BitVec.getLsbD_and, BitVec.getLsbD_zero] at h2
  rw [BitVec.getLsbD_and, BitVec.getLsbD_or, BitVec.getLsbD_and]
  generalize x.getLsbD i = p at *
  generalize y.getLsbD i = q at *
  generalize z.getLsbD i = r at *
  revert h2
  cases p <;> cases q <;> cases r <;> decide
theorem andI_same (a m : Int) : andI (orI a m) m = (BitVec.ofInt 64 m).toInt := by
  rw [andI_bv, orI_bv, ofInt_toInt]
  congr 1
  generalize BitVec.ofInt 64 a = x
  generalize BitVec.ofInt 64 m = y
  apply BitVec.eq_of_getLsbD_eq
  intro i hi
  simp
  cases y.getLsbD i <;> simp
theorem andI_nandI_same (a m : Int) : andI (nandI a m) m = 0 := by
  rw [andI_bv, nandI_bv, ofInt_toInt, BitVec.and_assoc]
  have : ~~~ BitVec.ofInt 64 m &&& BitVec.ofInt 64 m = 0 := by
    generalize BitVec.ofInt 64 m = y
    apply BitVec.eq_of_getLsbD_eq
    intro i hi
    simp
  rw [this]
  simp
theorem nandI_orI (a m : Int) : nandI (orI a m) m = nandI a m := by
  rw [nandI_bv, orI_bv, ofInt_toInt, nandI_bv]
  congr 1
  generalize BitVec.ofInt 64 a = x
  generalize BitVec.ofInt 64 m = y
  apply BitVec.eq_of_getLsbD_eq
  intro i hi
  simp
  cases y.getLsbD i <;> simp
theorem nandI_nandI (a m : Int) : nandI (nandI a m) m = nandI a m := by
  rw [nandI_bv, nandI_bv, ofInt_toInt, BitVec.and_assoc]
  congr 2
  simp
theorem andI_range (a : Int) (m : Nat) (hm : m < 2 ^ 63) : 0 ≤ andI a m ∧ andI a m ≤ m := by
  rw [andI_bv, BitVec.toInt_eq_toNat_cond, BitVec.toNat_and]
  have h1 : (BitVec.ofInt 64 (m : Int)).toNat = m := by
    rw [BitVec.ofInt_natCast, BitVec.toNat_ofNat]
    omega
  rw [h1]
  have h2 := Nat.and_le_right (n := (BitVec.ofInt 64 a).toNat) (m := m)
  rw [if_pos (by omega)]
  omega
theorem andI_8 (a : Int) : andI (nandI a 4) 8 = andI a 8 := andI_nandI _ _ _ (by decide)
theorem andI_32 (a : Int) : andI (nandI a 4) 32 = andI a 32 := andI_nandI _ _ _ (by decide)
end Go.Proofs.YtmenbolalghljaaA
