import Derived.Test.YbulkcsqkGreatSxOps
namespace Go.Proofs.YbulkcsqkGreat
namespace Sx
/-! ### Bits of a word -/
def bitOf (x : Int) (k : Nat) : Bool := (BitVec.ofInt 64 x).getLsbD k
theorem wrap_nat (n : Nat) (h : n < 18446744073709551616) : IntKind.wrap .u64 (n : Int) = (n : Int) := wrap_u64 (by omega) (by omega)
theorem ofInt_toNat (b : BitVec 64) : BitVec.ofInt 64 (b.toNat : Int) = b := by
  rw [BitVec.ofInt_natCast, BitVec.ofNat_toNat, BitVec.setWidth_eq]
theorem or64_eq (a c : Int) : or64 a c = ((BitVec.ofInt 64 a ||| BitVec.ofInt 64 c).toNat : Int) := wrap_nat _ (BitVec.isLt _)
theorem and64_eq (a c : Int) : and64 a c = ((BitVec.ofInt 64 a &&& BitVec.ofInt 64 c).toNat : Int) := wrap_nat _ (BitVec.isLt _)
theorem shl64_one {q : Nat} (hq : q < 64) : shl64 1 (q : Int) = ((2 ^ q : Nat) : Int) := by
  unfold shl64
  have h1 : min (q : Int).toNat 64 = q := by
    rw [Int.toNat_natCast]; omega
  rw [h1, Int.one_mul]
  have h2 : (2 : Nat) ^ q < 18446744073709551616 := Nat.lt_of_lt_of_eq (Nat.pow_lt_pow_right (by decide) hq) (by decide)
  have h3 : ((2 : Int) ^ q) = ((2 ^ q : Nat) : Int) := by simp
  rw [h3]; exact wrap_nat _ h2
theorem bit_or (a c : Int) (k : Nat) : bitOf (or64 a c) k = (bitOf a k || bitOf c k) := by
  unfold bitOf
  rw [or64_eq, ofInt_toNat, BitVec.getLsbD_or]
theorem bit_shl {q k : Nat} (hq : q < 64) (hk : k < 64) : bitOf (shl64 1 (q : Int)) k = decide (k = q) := by
  unfold bitOf
  rw [shl64_one hq, BitVec.ofInt_natCast, BitVec.getLsbD_ofNat]
  simp only [hk, decide_true, Bool.true_and]
  rw [Nat.testBit_two_pow]
  by_cases e : k = q
  · simp [e]
  · have : ¬ q = k := fun h => e h.symm
    simp [e, this]
theorem bit_zero (k : Nat) : bitOf 0 k = false := by
  unfold bitOf
  simp
theorem and_zero (a : Int) {q : Nat} (hq : q < 64) : and64 a (shl64 1 (q : Int)) = 0 ↔ bitOf a q = false := by
  rw [and64_eq]
  constructor
  · intro h
    have h0 : (BitVec.ofInt 64 a &&& BitVec.ofInt 64 (shl64 1 (q : Int))) = 0#64 := by
      apply BitVec.eq_of_toNat_eq
      have : (BitVec.ofInt 64 a &&& BitVec.ofInt 64 (shl64 1 (q : Int))).toNat = 0 := by omega
      rw [this]; rfl
    have h1 := congrArg (fun b => BitVec.getLsbD b q) h0
    simp only [BitVec.getLsbD_and] at h1
    have h2 := bit_shl hq hq
    unfold bitOf at h2
    rw [h2] at h1
    simpa [bitOf] using h1
  · intro h
    have h0 : (BitVec.ofInt 64 a &&& BitVec.ofInt 64 (shl64 1 (q : Int))) = 0#64 := by
      apply BitVec.eq_of_getLsbD_eq
      intro k hk
      rw [BitVec.getLsbD_and]
      have h2 := bit_shl hq hk
      unfold bitOf at h2 h
      rw [h2]
      by_cases e : k = q
      · rw [e, h]; simp
      · simp [e]
    rw [h0]; rfl
end Sx
end Go.Proofs.YbulkcsqkGreat
