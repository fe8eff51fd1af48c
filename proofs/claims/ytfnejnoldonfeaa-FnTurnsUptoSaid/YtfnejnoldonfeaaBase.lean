/-
  Words of 32 and 64 bits as the walk spells them: 'un x' is the number of a word; what Go's operations on such numbers come to.
  Conditions: none.
-/
import Derived.WalkKit
import Derived.Deep.QuietTactic
import Derived.BigQuiet
import Derived.Handy
import Derived.WalkLawsBesides
import Derived.WalkSpells
import Derived.Lib.Hide
import Derived.KernelRfl
namespace Go.Proofs.Ytfnejnoldonfeaa

/-- The number of a word. -/
def un {n : Nat} (x : BitVec n) : Int := (x.toNat : Int)
/-- A byte as a word. -/
def bw (n : Nat) (x : UInt8) : BitVec n := BitVec.ofNat n x.toNat
def rotl {n : Nat} (x : BitVec n) (k : Nat) : BitVec n := x <<< k ||| x >>> (n - k)
def xs {n : Nat} (x : BitVec n) (k : Nat) : BitVec n := x ^^^ x >>> k

theorem ofInt_un {n : Nat} (x : BitVec n) : BitVec.ofInt n (un x) = x := by
  unfold un; rw [BitVec.ofInt_natCast]; simp
theorem un_nonneg {n : Nat} (x : BitVec n) : 0 ≤ un x := by unfold un; omega
theorem un_lt32 (x : BitVec 32) : un x < 4294967296 := by unfold un; have := x.isLt; omega
theorem un_lt64 (x : BitVec 64) : un x < 18446744073709551616 := by unfold un; have := x.isLt; omega
theorem un_inj {n : Nat} {x y : BitVec n} (h : un x = un y) : x = y := by
  unfold un at h; exact BitVec.eq_of_toNat_eq (by omega)
theorem un_ofInt32 (a : Int) : IntKind.u32.wrap a = un (BitVec.ofInt 32 a) := by
  unfold un; rw [BitVec.toNat_ofInt, IntKind.wrap_u32']; omega
theorem un_ofInt64 (a : Int) : IntKind.u64.wrap a = un (BitVec.ofInt 64 a) := by
  unfold un; rw [BitVec.toNat_ofInt, IntKind.wrap_u64]; omega

theorem wmul32 (x : BitVec 32) (a : Int) : IntKind.u32.wrap (un x * a) = un (x * BitVec.ofInt 32 a) := by
  rw [un_ofInt32, BitVec.ofInt_mul, ofInt_un]
theorem wadd32 (x : BitVec 32) (a : Int) : IntKind.u32.wrap (un x + a) = un (x + BitVec.ofInt 32 a) := by
  rw [un_ofInt32, BitVec.ofInt_add, ofInt_un]
theorem wmul64 (x : BitVec 64) (a : Int) : IntKind.u64.wrap (un x * a) = un (x * BitVec.ofInt 64 a) := by
  rw [un_ofInt64, BitVec.ofInt_mul, ofInt_un]
theorem wadd64 (x : BitVec 64) (a : Int) : IntKind.u64.wrap (un x + a) = un (x + BitVec.ofInt 64 a) := by
  rw [un_ofInt64, BitVec.ofInt_add, ofInt_un]
theorem ofInt_neg' {n : Nat} (a b : Int) : BitVec.ofInt n (a - b) = BitVec.ofInt n a - BitVec.ofInt n b := by
  rw [Int.sub_eq_add_neg, BitVec.ofInt_add, BitVec.ofInt_neg, BitVec.sub_eq_add_neg]
theorem wsub32 (x : BitVec 32) (a : Int) : IntKind.u32.wrap (un x - a) = un (x - BitVec.ofInt 32 a) := by
  rw [un_ofInt32, ofInt_neg', ofInt_un]
theorem wsub64 (x : BitVec 64) (a : Int) : IntKind.u64.wrap (un x - a) = un (x - BitVec.ofInt 64 a) := by
  rw [un_ofInt64, ofInt_neg', ofInt_un]
theorem wrsub64 (x : BitVec 64) (a : Int) : IntKind.u64.wrap (a - un x) = un (BitVec.ofInt 64 a - x) := by
  rw [un_ofInt64, ofInt_neg', ofInt_un]
theorem wun32 (x : BitVec 32) : IntKind.u32.wrap (un x) = un x := by rw [un_ofInt32, ofInt_un]
theorem wun64 (x : BitVec 64) : IntKind.u64.wrap (un x) = un x := by rw [un_ofInt64, ofInt_un]
theorem w3264 (x : BitVec 64) : IntKind.u32.wrap (un x) = un (x.setWidth 32) := by
  unfold un; rw [IntKind.wrap_u32', BitVec.toNat_setWidth]; omega
theorem w6432 (x : BitVec 32) : IntKind.u64.wrap (un x) = un (x.setWidth 64) := by
  rw [un_ofInt64]; congr 1; apply BitVec.eq_of_toNat_eq; rw [BitVec.toNat_ofInt]; unfold un; simp; have := x.isLt; omega
theorem wb32 (x : UInt8) : IntKind.u32.wrap (x.toNat : Int) = un (bw 32 x) := by
  rw [un_ofInt32]; unfold bw; rw [BitVec.ofInt_natCast]
theorem wb64 (x : UInt8) : IntKind.u64.wrap (x.toNat : Int) = un (bw 64 x) := by
  rw [un_ofInt64]; unfold bw; rw [BitVec.ofInt_natCast]
theorem bxor32 (x y : BitVec 32) : bits .xor .u32 (un x) (un y) = un (x ^^^ y) := by
  show IntKind.u32.wrap ((BitVec.ofInt 32 (un x) ^^^ BitVec.ofInt 32 (un y)).toNat : Int) = _
  rw [ofInt_un, ofInt_un]; exact wun32 _
theorem bor32 (x y : BitVec 32) : bits .or .u32 (un x) (un y) = un (x ||| y) := by
  show IntKind.u32.wrap ((BitVec.ofInt 32 (un x) ||| BitVec.ofInt 32 (un y)).toNat : Int) = _
  rw [ofInt_un, ofInt_un]; exact wun32 _
theorem bxor64 (x y : BitVec 64) : bits .xor .u64 (un x) (un y) = un (x ^^^ y) := by
  show IntKind.u64.wrap ((BitVec.ofInt 64 (un x) ^^^ BitVec.ofInt 64 (un y)).toNat : Int) = _
  rw [ofInt_un, ofInt_un]; exact wun64 _
theorem bor64 (x y : BitVec 64) : bits .or .u64 (un x) (un y) = un (x ||| y) := by
  show IntKind.u64.wrap ((BitVec.ofInt 64 (un x) ||| BitVec.ofInt 64 (un y)).toNat : Int) = _
  rw [ofInt_un, ofInt_un]; exact wun64 _
theorem shr_un {n : Nat} (x : BitVec n) (k : Nat) : un x / ((2 ^ k : Nat) : Int) = un (x >>> k) := by
  unfold un; rw [BitVec.toNat_ushiftRight, Nat.shiftRight_eq_div_pow]; simp
theorem mul_pow {n : Nat} (x : BitVec n) (k : Nat) : x * BitVec.ofNat n (2 ^ k) = x <<< k := by
  apply BitVec.eq_of_toNat_eq
  rw [BitVec.toNat_mul, BitVec.toNat_shiftLeft, BitVec.toNat_ofNat, Nat.shiftLeft_eq, Nat.mul_mod, Nat.mod_mod, ← Nat.mul_mod]
theorem rot32_13 (x : BitVec 32) : bits .or .u32 (un (x * 8192#32)) (un x / 524288) = un (rotl x 13) := by
  have h := shr_un x 19
  have m := mul_pow x 13
  simp only [Nat.reducePow] at h m
  rw [show ((524288 : Nat) : Int) = 524288 from rfl] at h
  rw [h, m, bor32]; rfl
theorem rot32_15 (x : BitVec 32) : bits .or .u32 (un (x * 32768#32)) (un x / 131072) = un (rotl x 15) := by
  have h := shr_un x 17
  have m := mul_pow x 15
  simp only [Nat.reducePow] at h m
  rw [show ((131072 : Nat) : Int) = 131072 from rfl] at h
  rw [h, m, bor32]; rfl
theorem rot32_17 (x : BitVec 32) : bits .or .u32 (un (x * 131072#32)) (un x / 32768) = un (rotl x 17) := by
  have h := shr_un x 15
  have m := mul_pow x 17
  simp only [Nat.reducePow] at h m
  rw [show ((32768 : Nat) : Int) = 32768 from rfl] at h
  rw [h, m, bor32]; rfl
theorem rot32_19 (x : BitVec 32) : bits .or .u32 (un (x * 524288#32)) (un x / 8192) = un (rotl x 19) := by
  have h := shr_un x 13
  have m := mul_pow x 19
  simp only [Nat.reducePow] at h m
  rw [show ((8192 : Nat) : Int) = 8192 from rfl] at h
  rw [h, m, bor32]; rfl
theorem rot64_27 (x : BitVec 64) : bits .or .u64 (un (x * 134217728#64)) (un x / 137438953472) = un (rotl x 27) := by
  have h := shr_un x 37
  have m := mul_pow x 27
  simp only [Nat.reducePow] at h m
  rw [show ((137438953472 : Nat) : Int) = 137438953472 from rfl] at h
  rw [h, m, bor64]; rfl
theorem rot64_31 (x : BitVec 64) : bits .or .u64 (un (x * 2147483648#64)) (un x / 8589934592) = un (rotl x 31) := by
  have h := shr_un x 33
  have m := mul_pow x 31
  simp only [Nat.reducePow] at h m
  rw [show ((8589934592 : Nat) : Int) = 8589934592 from rfl] at h
  rw [h, m, bor64]; rfl
theorem rot64_33 (x : BitVec 64) : bits .or .u64 (un (x * 8589934592#64)) (un x / 2147483648) = un (rotl x 33) := by
  have h := shr_un x 31
  have m := mul_pow x 33
  simp only [Nat.reducePow] at h m
  rw [show ((2147483648 : Nat) : Int) = 2147483648 from rfl] at h
  rw [h, m, bor64]; rfl
theorem rot64_37 (x : BitVec 64) : bits .or .u64 (un (x * 137438953472#64)) (un x / 134217728) = un (rotl x 37) := by
  have h := shr_un x 27
  have m := mul_pow x 37
  simp only [Nat.reducePow] at h m
  rw [show ((134217728 : Nat) : Int) = 134217728 from rfl] at h
  rw [h, m, bor64]; rfl
theorem xs32_13 (x : BitVec 32) : bits .xor .u32 (un x) (un x / 8192) = un (xs x 13) := by
  have h := shr_un x 13
  simp only [Nat.reducePow] at h
  rw [show ((8192 : Nat) : Int) = 8192 from rfl] at h
  rw [h, bxor32]; rfl
theorem xs32_16 (x : BitVec 32) : bits .xor .u32 (un x) (un x / 65536) = un (xs x 16) := by
  have h := shr_un x 16
  simp only [Nat.reducePow] at h
  rw [show ((65536 : Nat) : Int) = 65536 from rfl] at h
  rw [h, bxor32]; rfl
theorem xs64_33 (x : BitVec 64) : bits .xor .u64 (un x) (un x / 8589934592) = un (xs x 33) := by
  have h := shr_un x 33
  simp only [Nat.reducePow] at h
  rw [show ((8589934592 : Nat) : Int) = 8589934592 from rfl] at h
  rw [h, bxor64]; rfl
theorem bxor32_0 (y : BitVec 32) : bits .xor .u32 0 (un y) = un y := by
  have h := bxor32 0#32 y
  rw [BitVec.zero_xor] at h; exact h
theorem bxor64_0 (y : BitVec 64) : bits .xor .u64 0 (un y) = un y := by
  have h := bxor64 0#64 y
  rw [BitVec.zero_xor] at h; exact h
theorem bor64_0 (y : BitVec 64) : bits .or .u64 0 (un y) = un y := by
  have h := bor64 0#64 y
  rw [BitVec.zero_or] at h; exact h
theorem cast_beq (a b : Nat) : ((a : Int) == (b : Int)) = (a == b) := by
  by_cases h : a = b
  · subst h; simp
  · have h' : ¬ ((a : Int) = b) := by omega
    rw [beq_eq_false_iff_ne.2 h, beq_eq_false_iff_ne.2 h']
theorem un_beq {n : Nat} (x y : BitVec n) : (un x == un y) = (x == y) := by
  by_cases h : x = y
  · subst h; simp
  · have h' : ¬ un x = un y := fun e => h (un_inj e)
    rw [beq_eq_false_iff_ne.2 h, beq_eq_false_iff_ne.2 h']
attribute [go_sem] wmul32 wadd32 wsub32 bxor32 bor32 wun32 wb32 ofInt_un w3264 w6432 un_nonneg rot32_13 rot32_15 rot32_17 rot32_19 xs32_13 xs32_16 bxor32_0
attribute [go_sem] wmul64 wadd64 wsub64 bxor64 bor64 wun64 wb64 rot64_27 rot64_31 rot64_33 rot64_37 xs64_33 bxor64_0 bor64_0
end Go.Proofs.Ytfnejnoldonfeaa
