/-
  MurmurHash3 as plain functions on words (BitVec) and lists of bytes; what bytes, however they are put together, come to.
  Conditions: none.
-/
import Derived.Test.YtfnejnoldonfeaaBase
namespace Go.Proofs.Ytfnejnoldonfeaa

/-! ### 32 bits -/
def mix (h : BitVec 32) : BitVec 32 := xs (xs (xs h 16 * 2246822507#32) 13 * 3266489909#32) 16
def word (k : BitVec 32) : BitVec 32 := rotl (k * 3432918353#32) 15 * 461845907#32
def step32 (h k : BitVec 32) : BitVec 32 := rotl (h ^^^ word k) 13 * 5#32 + 3864292196#32
/-- The number of at most four bytes, the lowest first. -/
def le4 (l : List UInt8) : BitVec 32 := bw 32 (l.getD 0 0) ||| bw 32 (l.getD 1 0) * 256#32 ||| bw 32 (l.getD 2 0) * 65536#32 ||| bw 32 (l.getD 3 0) * 16777216#32
def st32 (l : List UInt8) (h : BitVec 32) : Nat → BitVec 32
  | 0 => h
  | k + 1 => step32 (st32 l h k) (le4 (l.drop (4 * k)))
def fin32 (h : BitVec 32) (rest : List UInt8) (len : Nat) : BitVec 32 := mix (h ^^^ word (le4 rest) ^^^ BitVec.ofNat 32 len)
def sum32 (l : List UInt8) (seed : BitVec 32) : BitVec 32 := fin32 (st32 l seed (l.length / 4)) (l.drop (4 * (l.length / 4))) l.length

/-! ### 128 bits -/
def blend (h : BitVec 64) : BitVec 64 := xs (xs (xs h 33 * 18397679294719823053#64) 33 * 14181476777654086739#64) 33
def first (k : BitVec 64) : BitVec 64 := rotl (k * 9782798678568883157#64) 31 * 5545529020109919103#64
def second (k : BitVec 64) : BitVec 64 := rotl (k * 5545529020109919103#64) 33 * 9782798678568883157#64
def stepA (h1 h2 k1 : BitVec 64) : BitVec 64 := (rotl (h1 ^^^ first k1) 27 + h2) * 5#64 + 1390208809#64
def stepB (h1 h2 k2 : BitVec 64) : BitVec 64 := (rotl (h2 ^^^ second k2) 31 + h1) * 5#64 + 944331445#64
def le8 (l : List UInt8) : BitVec 64 := (le4 l).setWidth 64 ||| (le4 (l.drop 4)).setWidth 64 * 4294967296#64
def step128 (h : BitVec 64 × BitVec 64) (k1 k2 : BitVec 64) : BitVec 64 × BitVec 64 := (stepA h.1 h.2 k1, stepB (stepA h.1 h.2 k1) h.2 k2)
def st128 (l : List UInt8) (h : BitVec 64 × BitVec 64) : Nat → BitVec 64 × BitVec 64
  | 0 => h
  | k + 1 => step128 (st128 l h k) (le8 (l.drop (16 * k))) (le8 (l.drop (16 * k + 8)))
def finish (h1 h2 : BitVec 64) : BitVec 64 × BitVec 64 :=
  (blend (h1 + h2) + blend (h2 + (h1 + h2)), blend (h2 + (h1 + h2)) + (blend (h1 + h2) + blend (h2 + (h1 + h2))))
def fin128 (h : BitVec 64 × BitVec 64) (rest : List UInt8) (len : Nat) : BitVec 64 × BitVec 64 :=
  finish (h.1 ^^^ first (le8 rest) ^^^ BitVec.ofNat 64 len) (h.2 ^^^ second (le8 (rest.drop 8)) ^^^ BitVec.ofNat 64 len)
def pair (seed : BitVec 32) : BitVec 64 × BitVec 64 := (seed.setWidth 64, seed.setWidth 64)
def sum128 (l : List UInt8) (seed : BitVec 32) : BitVec 64 × BitVec 64 := fin128 (st128 l (pair seed) (l.length / 16)) (l.drop (16 * (l.length / 16))) l.length

/-! ### what bytes come to -/
/-- The reference's 'low': byte by byte. -/
def lowk (l : List UInt8) : Nat → BitVec 64
  | 0 => 0#64
  | k + 1 => lowk l k ||| bw 64 (l.getD k 0) <<< (8 * k)

theorem bw_bit (n : Nat) (x : UInt8) (i : Nat) : (bw n x).getLsbD i = (decide (i < n) && x.toNat.testBit i) := by
  unfold bw; rw [BitVec.getLsbD_ofNat]
theorem byte_high (x : UInt8) (i : Nat) (h : 8 ≤ i) : x.toNat.testBit i = false :=
  Nat.testBit_lt_two_pow (Nat.lt_of_lt_of_le x.toNat_lt (Nat.pow_le_pow_right (by decide) h))
theorem bw0 (n : Nat) : bw n 0 = 0#n := by unfold bw; rfl

theorem mul256 {n : Nat} (x : BitVec n) : x * 256#n = x <<< 8 := mul_pow x 8
theorem mul65536 {n : Nat} (x : BitVec n) : x * 65536#n = x <<< 16 := mul_pow x 16
theorem mul16777216 {n : Nat} (x : BitVec n) : x * 16777216#n = x <<< 24 := mul_pow x 24
theorem mul4294967296 {n : Nat} (x : BitVec n) : x * 4294967296#n = x <<< 32 := mul_pow x 32

/-- bit i of the number of four bytes -/
theorem le4_bit (l : List UInt8) (i : Nat) : (le4 l).getLsbD i = (decide (i < 32) && (l.getD (i / 8) 0).toNat.testBit (i % 8)) := by
  unfold le4
  rw [mul256, mul65536, mul16777216]
  simp only [BitVec.getLsbD_or, BitVec.getLsbD_shiftLeft, bw_bit]
  by_cases h : i < 32
  · by_cases h1 : i < 8
    · have e : i / 8 = 0 := by omega
      have e' : i % 8 = i := by omega
      simp [h, h1, e, e', show i < 16 from by omega, show i < 24 from by omega]
    · by_cases h2 : i < 16
      · have e : i / 8 = 1 := by omega
        have e' : i % 8 = i - 8 := by omega
        simp [h, h1, h2, e, e', show i < 24 from by omega, show i - 8 < 32 from by omega, byte_high _ i (by omega)]
      · by_cases h3 : i < 24
        · have e : i / 8 = 2 := by omega
          have e' : i % 8 = i - 16 := by omega
          simp [h, h1, h2, h3, e, e', show i - 8 < 32 from by omega, show i - 16 < 32 from by omega, byte_high _ i (by omega), byte_high _ (i - 8) (by omega)]
        · have e : i / 8 = 3 := by omega
          have e' : i % 8 = i - 24 := by omega
          simp [h, h1, h2, h3, e, e', show i - 8 < 32 from by omega, show i - 16 < 32 from by omega, show i - 24 < 32 from by omega, byte_high _ i (by omega), byte_high _ (i - 8) (by omega), byte_high _ (i - 16) (by omega)]
  · simp [h]

theorem le8_bit (l : List UInt8) (i : Nat) : (le8 l).getLsbD i = (decide (i < 64) && (l.getD (i / 8) 0).toNat.testBit (i % 8)) := by
  unfold le8
  rw [mul4294967296]
  simp only [BitVec.getLsbD_or, BitVec.getLsbD_shiftLeft, BitVec.getLsbD_setWidth, le4_bit]
  by_cases h : i < 64
  · by_cases h1 : i < 32
    · simp [h, h1]
    · have e : (i - 32) / 8 + 4 = i / 8 := by omega
      have e' : (i - 32) % 8 = i % 8 := by omega
      simp [h, h1, show i - 32 < 32 from by omega, show i - 32 < 64 from by omega, e', ← e, Nat.add_comm]
  · simp [h]

theorem lowk_bit (l : List UInt8) (k i : Nat) (hk : k ≤ 8) : (lowk l k).getLsbD i = (decide (i < 8 * k) && (l.getD (i / 8) 0).toNat.testBit (i % 8)) := by
  induction k with
  | zero => simp [lowk]
  | succ k ih =>
    unfold lowk
    simp only [BitVec.getLsbD_or, BitVec.getLsbD_shiftLeft, bw_bit, ih (by omega)]
    by_cases h : i < 8 * k
    · simp [h, show i < 8 * (k + 1) from by omega]
    · by_cases h1 : i < 8 * (k + 1)
      · have e : i / 8 = k := by omega
        have e' : i % 8 = i - 8 * k := by omega
        simp [h, h1, e, e', show i < 64 from by omega, show i - 8 * k < 64 from by omega]
      · simp [h, h1, byte_high _ (i - 8 * k) (by omega)]

theorem getD_short (l : List UInt8) (i : Nat) (h : l.length ≤ i) : l.getD i 0 = 0 := by
  rw [List.getD_eq_getElem?_getD, List.getElem?_eq_none h]; rfl

theorem low_le8 (l : List UInt8) (h : l.length ≤ 8) : lowk l l.length = le8 l := by
  apply BitVec.eq_of_getLsbD_eq
  intro i hi
  rw [lowk_bit _ _ _ h, le8_bit]
  by_cases h1 : i < 8 * l.length
  · simp [h1, hi]
  · have : l.getD (i / 8) 0 = 0 := getD_short _ _ (by omega)
    rw [this]; simp [h1]
theorem low_le4 (l : List UInt8) (h : l.length ≤ 4) : (lowk l l.length).setWidth 32 = le4 l := by
  apply BitVec.eq_of_getLsbD_eq
  intro i hi
  rw [BitVec.getLsbD_setWidth, lowk_bit _ _ _ (by omega), le4_bit]
  by_cases h1 : i < 8 * l.length
  · simp [h1, hi]
  · have : l.getD (i / 8) 0 = 0 := getD_short _ _ (by omega)
    rw [this]; simp [h1]

theorem rotl0 (n k : Nat) : rotl (0#n) k = 0#n := by unfold rotl; simp
theorem word0 : word 0#32 = 0#32 := by unfold word; rw [BitVec.zero_mul, rotl0, BitVec.zero_mul]
theorem first0 : first 0#64 = 0#64 := by unfold first; rw [BitVec.zero_mul, rotl0, BitVec.zero_mul]
theorem second0 : second 0#64 = 0#64 := by unfold second; rw [BitVec.zero_mul, rotl0, BitVec.zero_mul]
theorem le4_nil : le4 [] = 0#32 := by
  apply BitVec.eq_of_getLsbD_eq; intro i hi; rw [le4_bit]; simp
theorem le8_nil : le8 [] = 0#64 := by
  apply BitVec.eq_of_getLsbD_eq; intro i hi; rw [le8_bit]; simp

theorem times5 (x : BitVec 32) : x * 4#32 + x = x * 5#32 := by
  rw [show (5#32 : BitVec 32) = 4#32 + 1#32 from rfl, BitVec.mul_add, BitVec.mul_one]
theorem le4_xor (l : List UInt8) : le4 l = bw 32 (l.getD 3 0) * 16777216#32 ^^^ bw 32 (l.getD 2 0) * 65536#32 ^^^ bw 32 (l.getD 1 0) * 256#32 ^^^ bw 32 (l.getD 0 0) := by
  apply BitVec.eq_of_getLsbD_eq
  intro i h
  rw [le4_bit, mul256, mul65536, mul16777216]
  simp only [BitVec.getLsbD_xor, BitVec.getLsbD_shiftLeft, bw_bit]
  by_cases h1 : i < 8
  · have e : i / 8 = 0 := by omega
    have e' : i % 8 = i := by omega
    simp [h, h1, e, e', show i < 16 from by omega, show i < 24 from by omega]
  · by_cases h2 : i < 16
    · have e : i / 8 = 1 := by omega
      have e' : i % 8 = i - 8 := by omega
      simp [h, h1, h2, e, e', show i < 24 from by omega, show i - 8 < 32 from by omega, byte_high _ i (by omega)]
    · by_cases h3 : i < 24
      · have e : i / 8 = 2 := by omega
        have e' : i % 8 = i - 16 := by omega
        simp [h, h1, h2, h3, e, e', show i - 8 < 32 from by omega, show i - 16 < 32 from by omega, byte_high _ i (by omega), byte_high _ (i - 8) (by omega)]
      · have e : i / 8 = 3 := by omega
        have e' : i % 8 = i - 24 := by omega
        simp [h, h1, h2, h3, e, e', show i - 8 < 32 from by omega, show i - 16 < 32 from by omega, show i - 24 < 32 from by omega, byte_high _ i (by omega), byte_high _ (i - 8) (by omega), byte_high _ (i - 16) (by omega)]
theorem le4_1 (x : UInt8) : le4 [x] = bw 32 x := by rw [le4_xor]; simp [bw0]
theorem le4_2 (x y : UInt8) : le4 [x, y] = bw 32 y * 256#32 ^^^ bw 32 x := by rw [le4_xor]; simp [bw0]
theorem le4_3 (x y z : UInt8) : le4 [x, y, z] = bw 32 z * 65536#32 ^^^ bw 32 y * 256#32 ^^^ bw 32 x := by rw [le4_xor]; simp [bw0]
theorem short4 (r : List UInt8) (h : r.length < 4) : r = [] ∨ (∃ x, r = [x]) ∨ (∃ x y, r = [x, y]) ∨ ∃ x y z, r = [x, y, z] := by
  rcases r with _ | ⟨x, _ | ⟨y, _ | ⟨z, _ | ⟨t, r⟩⟩⟩⟩
  · exact .inl rfl
  · exact .inr (.inl ⟨x, rfl⟩)
  · exact .inr (.inr (.inl ⟨x, y, rfl⟩))
  · exact .inr (.inr (.inr ⟨x, y, z, rfl⟩))
  · simp at h; omega
theorem fin32_0 (h : BitVec 32) (n : Nat) : fin32 h [] n = mix (h ^^^ BitVec.ofNat 32 n) := by unfold fin32; rw [le4_nil, word0, BitVec.xor_zero]
theorem getD_take (l : List UInt8) (n i : Nat) (h : i < n) : (l.take n).getD i 0 = l.getD i 0 := by
  simp [List.getD_eq_getElem?_getD, h]
theorem le4_take4 (l : List UInt8) : le4 (l.take 4) = le4 l := by
  unfold le4
  rw [getD_take _ _ _ (by omega), getD_take _ _ _ (by omega), getD_take _ _ _ (by omega), getD_take _ _ _ (by omega)]
theorem le8_take8 (l : List UInt8) : le8 (l.take 8) = le8 l := by
  unfold le8
  rw [show (l.take 8).drop 4 = (l.drop 4).take 4 from by rw [List.drop_take], le4_take4, ← le4_take4 (l.take 8), List.take_take, show min 4 8 = 4 from rfl, le4_take4]
end Go.Proofs.Ytfnejnoldonfeaa
