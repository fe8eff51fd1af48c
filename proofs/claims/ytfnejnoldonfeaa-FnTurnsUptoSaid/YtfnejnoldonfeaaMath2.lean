/-
  The number of at most eight bytes, put together by exclusive or.
  Conditions: none.
-/
import Derived.Test.YtfnejnoldonfeaaMath
namespace Go.Proofs.Ytfnejnoldonfeaa
theorem mulp {n : Nat} (x : BitVec n) (c k : Nat) (h : 2 ^ k = c) : x * BitVec.ofNat n c = x <<< k := by rw [← h, mul_pow]
theorem le8_xor (l : List UInt8) : le8 l = bw 64 (l.getD 7 0) * 72057594037927936#64 ^^^ bw 64 (l.getD 6 0) * 281474976710656#64 ^^^ bw 64 (l.getD 5 0) * 1099511627776#64 ^^^ bw 64 (l.getD 4 0) * 4294967296#64 ^^^
    bw 64 (l.getD 3 0) * 16777216#64 ^^^ bw 64 (l.getD 2 0) * 65536#64 ^^^ bw 64 (l.getD 1 0) * 256#64 ^^^ bw 64 (l.getD 0 0) := by
  apply BitVec.eq_of_getLsbD_eq
  intro i h
  rw [le8_bit, mulp _ 72057594037927936 56 (by decide), mulp _ 281474976710656 48 (by decide), mulp _ 1099511627776 40 (by decide), mulp _ 4294967296 32 (by decide), mulp _ 16777216 24 (by decide), mulp _ 65536 16 (by decide), mulp _ 256 8 (by decide)]
  simp only [BitVec.getLsbD_xor, BitVec.getLsbD_shiftLeft, bw_bit]
  have h8 : i / 8 = 0 ∨ i / 8 = 1 ∨ i / 8 = 2 ∨ i / 8 = 3 ∨ i / 8 = 4 ∨ i / 8 = 5 ∨ i / 8 = 6 ∨ i / 8 = 7 := by omega
  rcases h8 with e | e | e | e | e | e | e | e
  · have e' : i % 8 = i - 0 := by omega
    rw [e, e']
    simp [show (i < 8) = True from by simp; omega, show (i < 16) = True from by simp; omega, show (i < 24) = True from by simp; omega, show (i < 32) = True from by simp; omega, show (i < 40) = True from by simp; omega, show (i < 48) = True from by simp; omega, show (i < 56) = True from by simp; omega, show (i < 64) = True from by simp; omega]
  · have e' : i % 8 = i - 8 := by omega
    rw [e, e']
    simp [show (i < 8) = False from by simp; omega, show (i < 16) = True from by simp; omega, show (i < 24) = True from by simp; omega, show (i < 32) = True from by simp; omega, show (i < 40) = True from by simp; omega, show (i < 48) = True from by simp; omega, show (i < 56) = True from by simp; omega, show (i < 64) = True from by simp; omega, show (i - 8 < 64) = True from by simp; omega, byte_high _ i (by omega)]
  · have e' : i % 8 = i - 16 := by omega
    rw [e, e']
    simp [show (i < 8) = False from by simp; omega, show (i < 16) = False from by simp; omega, show (i < 24) = True from by simp; omega, show (i < 32) = True from by simp; omega, show (i < 40) = True from by simp; omega, show (i < 48) = True from by simp; omega, show (i < 56) = True from by simp; omega, show (i < 64) = True from by simp; omega, show (i - 8 < 64) = True from by simp; omega, show (i - 16 < 64) = True from by simp; omega, byte_high _ i (by omega), byte_high _ (i - 8) (by omega)]
  · have e' : i % 8 = i - 24 := by omega
    rw [e, e']
    simp [show (i < 8) = False from by simp; omega, show (i < 16) = False from by simp; omega, show (i < 24) = False from by simp; omega, show (i < 32) = True from by simp; omega, show (i < 40) = True from by simp; omega, show (i < 48) = True from by simp; omega, show (i < 56) = True from by simp; omega, show (i < 64) = True from by simp; omega, show (i - 8 < 64) = True from by simp; omega, show (i - 16 < 64) = True from by simp; omega, show (i - 24 < 64) = True from by simp; omega, byte_high _ i (by omega), byte_high _ (i - 8) (by omega), byte_high _ (i - 16) (by omega)]
  · have e' : i % 8 = i - 32 := by omega
    rw [e, e']
    simp [show (i < 8) = False from by simp; omega, show (i < 16) = False from by simp; omega, show (i < 24) = False from by simp; omega, show (i < 32) = False from by simp; omega, show (i < 40) = True from by simp; omega, show (i < 48) = True from by simp; omega, show (i < 56) = True from by simp; omega, show (i < 64) = True from by simp; omega, show (i - 8 < 64) = True from by simp; omega, show (i - 16 < 64) = True from by simp; omega, show (i - 24 < 64) = True from by simp; omega, show (i - 32 < 64) = True from by simp; omega, byte_high _ i (by omega), byte_high _ (i - 8) (by omega), byte_high _ (i - 16) (by omega), byte_high _ (i - 24) (by omega)]
  · have e' : i % 8 = i - 40 := by omega
    rw [e, e']
    simp [show (i < 8) = False from by simp; omega, show (i < 16) = False from by simp; omega, show (i < 24) = False from by simp; omega, show (i < 32) = False from by simp; omega, show (i < 40) = False from by simp; omega, show (i < 48) = True from by simp; omega, show (i < 56) = True from by simp; omega, show (i < 64) = True from by simp; omega, show (i - 8 < 64) = True from by simp; omega, show (i - 16 < 64) = True from by simp; omega, show (i - 24 < 64) = True from by simp; omega, show (i - 32 < 64) = True from by simp; omega, show (i - 40 < 64) = True from by simp; omega, byte_high _ i (by omega), byte_high _ (i - 8) (by omega), byte_high _ (i - 16) (by omega), byte_high _ (i - 24) (by omega), byte_high _ (i - 32) (by omega)]
  · have e' : i % 8 = i - 48 := by omega
    rw [e, e']
    simp [show (i < 8) = False from by simp; omega, show (i < 16) = False from by simp; omega, show (i < 24) = False from by simp; omega, show (i < 32) = False from by simp; omega, show (i < 40) = False from by simp; omega, show (i < 48) = False from by simp; omega, show (i < 56) = True from by simp; omega, show (i < 64) = True from by simp; omega, show (i - 8 < 64) = True from by simp; omega, show (i - 16 < 64) = True from by simp; omega, show (i - 24 < 64) = True from by simp; omega, show (i - 32 < 64) = True from by simp; omega, show (i - 40 < 64) = True from by simp; omega, show (i - 48 < 64) = True from by simp; omega, byte_high _ i (by omega), byte_high _ (i - 8) (by omega), byte_high _ (i - 16) (by omega), byte_high _ (i - 24) (by omega), byte_high _ (i - 32) (by omega), byte_high _ (i - 40) (by omega)]
  · have e' : i % 8 = i - 56 := by omega
    rw [e, e']
    simp [show (i < 8) = False from by simp; omega, show (i < 16) = False from by simp; omega, show (i < 24) = False from by simp; omega, show (i < 32) = False from by simp; omega, show (i < 40) = False from by simp; omega, show (i < 48) = False from by simp; omega, show (i < 56) = False from by simp; omega, show (i < 64) = True from by simp; omega, show (i - 8 < 64) = True from by simp; omega, show (i - 16 < 64) = True from by simp; omega, show (i - 24 < 64) = True from by simp; omega, show (i - 32 < 64) = True from by simp; omega, show (i - 40 < 64) = True from by simp; omega, show (i - 48 < 64) = True from by simp; omega, show (i - 56 < 64) = True from by simp; omega, byte_high _ i (by omega), byte_high _ (i - 8) (by omega), byte_high _ (i - 16) (by omega), byte_high _ (i - 24) (by omega), byte_high _ (i - 32) (by omega), byte_high _ (i - 40) (by omega), byte_high _ (i - 48) (by omega)]
end Go.Proofs.Ytfnejnoldonfeaa
