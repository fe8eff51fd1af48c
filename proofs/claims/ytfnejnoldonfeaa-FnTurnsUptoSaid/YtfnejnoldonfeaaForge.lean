/-
  Four bytes (sixteen bytes) behind which a sum is what is asked for: plain laws on words, no program in sight.
  Conditions: none.
-/
import Derived.Test.YtfnejnoldonfeaaInv
namespace Go.Proofs.Ytfnejnoldonfeaa

/-- The reference's 'over', after k rounds. -/
def ovk (x : BitVec 64) : Nat → BitVec 64
  | 0 => x
  | k + 1 => ovk x k * (2#64 - x * ovk x k)
/-- The reference's 'back', after k rounds. -/
def backk (x : BitVec 64) (n : Nat) : Nat → BitVec 64
  | 0 => x
  | k + 1 => x ^^^ backk x n k >>> n

theorem backk_bit (x : BitVec 64) (n k i : Nat) (h : 64 ≤ i + (k + 1) * n) : (backk x n (k + 1)).getLsbD i = (backk x n k).getLsbD i := by
  induction k generalizing i with
  | zero =>
    show (x ^^^ x >>> n).getLsbD i = x.getLsbD i
    rw [BitVec.getLsbD_xor, BitVec.getLsbD_ushiftRight, BitVec.getLsbD_of_ge x (n + i) (by omega)]; simp
  | succ k ih =>
    show (x ^^^ backk x n (k + 1) >>> n).getLsbD i = (x ^^^ backk x n k >>> n).getLsbD i
    rw [BitVec.getLsbD_xor, BitVec.getLsbD_xor, BitVec.getLsbD_ushiftRight, BitVec.getLsbD_ushiftRight, ih (n + i) (by rw [Nat.add_mul] at h; omega)]
theorem xs_back (x : BitVec 64) (n : Nat) (h0 : 0 < n) : xs (backk x n (64 / n)) n = x := by
  have e : backk x n (64 / n + 1) = backk x n (64 / n) := by
    apply BitVec.eq_of_getLsbD_eq
    intro i _
    apply backk_bit
    have := Nat.lt_div_mul_add (a := 64) h0
    rw [Nat.add_mul]; omega
  have e2 : x ^^^ backk x n (64 / n) >>> n = backk x n (64 / n) := e
  unfold xs
  have e3 : (x ^^^ backk x n (64 / n) >>> n) ^^^ backk x n (64 / n) >>> n = x := by
    rw [BitVec.xor_assoc, BitVec.xor_self, BitVec.xor_zero]
  rwa [e2] at e3
theorem xs_low (y : BitVec 64) (s : BitVec 32) (n : Nat) (h0 : 0 < n) (h : xs y n = s.setWidth 64) : xs (y.setWidth 32) n = s := by
  have hi : ∀ m i, 64 - i ≤ m → 32 ≤ i → y.getLsbD i = false := by
    intro m
    induction m with
    | zero => intro i h1 _; exact BitVec.getLsbD_of_ge _ _ (by omega)
    | succ m ih =>
      intro i h1 h2
      by_cases h3 : 64 ≤ i
      · exact BitVec.getLsbD_of_ge _ _ h3
      · have e : (xs y n).getLsbD i = (s.setWidth 64).getLsbD i := by rw [h]
        unfold xs at e
        rw [BitVec.getLsbD_xor, BitVec.getLsbD_ushiftRight, ih (n + i) (by omega) (by omega), BitVec.getLsbD_setWidth, BitVec.getLsbD_of_ge s i (by omega)] at e
        simpa using e
  apply BitVec.eq_of_getLsbD_eq
  intro i h1
  have e : (xs y n).getLsbD i = (s.setWidth 64).getLsbD i := by rw [h]
  unfold xs at e ⊢
  rw [BitVec.getLsbD_xor, BitVec.getLsbD_ushiftRight, BitVec.getLsbD_setWidth] at e
  rw [BitVec.getLsbD_xor, BitVec.getLsbD_ushiftRight, BitVec.getLsbD_setWidth, BitVec.getLsbD_setWidth]
  by_cases h2 : n + i < 32
  · simpa [h1, h2, show i < 64 from by omega] using e
  · rw [hi 64 (n + i) (by omega) (by omega)] at e
    simpa [h1, h2, show i < 64 from by omega] using e
theorem xs_back32 (s : BitVec 32) (n : Nat) (h0 : 0 < n) : xs ((backk (s.setWidth 64) n (64 / n)).setWidth 32) n = s :=
  xs_low _ _ _ h0 (xs_back _ _ h0)
theorem low_mul (a b : BitVec 64) : (a * b).setWidth 32 = a.setWidth 32 * b.setWidth 32 := BitVec.setWidth_mul a b (by decide)

/-! ### 32 bits -/
def forgeA (sum : BitVec 32) : BitVec 64 := backk (sum.setWidth 64) 16 4
def forgeB (sum : BitVec 32) : BitVec 64 := backk (((forgeA sum * ovk 3266489909#64 5).setWidth 32).setWidth 64) 13 4
def forgeC (sum : BitVec 32) : BitVec 64 := backk (((forgeB sum * ovk 2246822507#64 5).setWidth 32).setWidth 64) 16 4
def forgeX (st sum : BitVec 32) (len : Nat) : BitVec 32 :=
  rotl ((((forgeC sum).setWidth 32 ^^^ BitVec.ofNat 32 (len + 4)) - 3864292196#32) * (ovk 5#64 5).setWidth 32) 19 ^^^ st
def forge32 (st sum : BitVec 32) (len : Nat) : BitVec 32 := rotl (forgeX st sum len * (ovk 461845907#64 5).setWidth 32) 17 * (ovk 3432918353#64 5).setWidth 32

theorem mul_undo {n : Nat} (x c d : BitVec n) (h : d * c = 1#n) : x * d * c = x := by rw [BitVec.mul_assoc, h, BitVec.mul_one]
theorem inv1 : (ovk 3266489909#64 5).setWidth 32 * 3266489909#32 = 1#32 := by decide
theorem inv2 : (ovk 2246822507#64 5).setWidth 32 * 2246822507#32 = 1#32 := by decide
theorem inv3 : (ovk 5#64 5).setWidth 32 * 5#32 = 1#32 := by decide
theorem inv4 : (ovk 461845907#64 5).setWidth 32 * 461845907#32 = 1#32 := by decide
theorem inv5 : (ovk 3432918353#64 5).setWidth 32 * 3432918353#32 = 1#32 := by decide
theorem mix_forge (sum : BitVec 32) : mix ((forgeC sum).setWidth 32) = sum := by
  unfold mix
  have e1 : xs ((forgeC sum).setWidth 32) 16 = (forgeB sum * ovk 2246822507#64 5).setWidth 32 := xs_back32 _ 16 (by decide)
  rw [e1, low_mul, mul_undo _ _ _ inv2]
  have e2 : xs ((forgeB sum).setWidth 32) 13 = (forgeA sum * ovk 3266489909#64 5).setWidth 32 := xs_back32 _ 13 (by decide)
  rw [e2, low_mul, mul_undo _ _ _ inv1]
  exact xs_back32 _ 16 (by decide)
theorem rotl_back {n : Nat} (x : BitVec n) (k j : Nat) (h0 : 0 < k) (hk : k + j = n) (hj : 0 < j) : rotl (rotl x k) j = x := by
  have := rotl_rotl x k h0 (by omega)
  rwa [show n - k = j from by omega] at this
theorem sub_add_self {n : Nat} (a b : BitVec n) : a - b + b = a := BitVec.sub_add_cancel a b
theorem step_forge (st sum : BitVec 32) (len : Nat) : step32 st (forge32 st sum len) = (forgeC sum).setWidth 32 ^^^ BitVec.ofNat 32 (len + 4) := by
  unfold step32 word forge32
  rw [mul_undo _ _ _ inv5, rotl_back _ 17 15 (by decide) (by decide) (by decide), mul_undo _ _ _ inv4]
  unfold forgeX
  rw [BitVec.xor_comm _ st, ← BitVec.xor_assoc, BitVec.xor_self, BitVec.zero_xor, rotl_back _ 19 13 (by decide) (by decide) (by decide), mul_undo _ _ _ inv3, sub_add_self]

/-! ### bytes of a word -/
def by8 {n : Nat} (x : BitVec n) (j : Nat) : UInt8 := UInt8.ofNat (x.toNat / 256 ^ j)
theorem by8_bit {n : Nat} (x : BitVec n) (j i : Nat) (h : i < 8) : (by8 x j).toNat.testBit i = x.getLsbD (8 * j + i) := by
  unfold by8
  rw [UInt8.toNat_ofNat', show (256 : Nat) ^ j = 2 ^ (8 * j) from by rw [Nat.pow_mul], Nat.testBit_mod_two_pow, ← Nat.shiftRight_eq_div_pow, Nat.testBit_shiftRight]
  simp [h, BitVec.getLsbD]
def by32 (x : BitVec 32) : List UInt8 := [by8 x 0, by8 x 1, by8 x 2, by8 x 3]
def by64 (x : BitVec 64) : List UInt8 := [by8 x 0, by8 x 1, by8 x 2, by8 x 3, by8 x 4, by8 x 5, by8 x 6, by8 x 7]
theorem le4_by32 (x : BitVec 32) (r : List UInt8) : le4 (by32 x ++ r) = x := by
  apply BitVec.eq_of_getLsbD_eq
  intro i hi
  rw [le4_bit]
  have e : ((by32 x ++ r).getD (i / 8) 0).toNat.testBit (i % 8) = x.getLsbD (8 * (i / 8) + i % 8) := by
    have h4 : i / 8 = 0 ∨ i / 8 = 1 ∨ i / 8 = 2 ∨ i / 8 = 3 := by omega
    rcases h4 with h | h | h | h <;> rw [h] <;> exact by8_bit x _ _ (by omega)
  rw [e, show 8 * (i / 8) + i % 8 = i from by omega]
  simp [hi]
theorem le8_by64 (x : BitVec 64) (r : List UInt8) : le8 (by64 x ++ r) = x := by
  apply BitVec.eq_of_getLsbD_eq
  intro i hi
  rw [le8_bit]
  have e : ((by64 x ++ r).getD (i / 8) 0).toNat.testBit (i % 8) = x.getLsbD (8 * (i / 8) + i % 8) := by
    have h4 : i / 8 = 0 ∨ i / 8 = 1 ∨ i / 8 = 2 ∨ i / 8 = 3 ∨ i / 8 = 4 ∨ i / 8 = 5 ∨ i / 8 = 6 ∨ i / 8 = 7 := by omega
    rcases h4 with h | h | h | h | h | h | h | h <;> rw [h] <;> exact by8_bit x _ _ (by omega)
  rw [e, show 8 * (i / 8) + i % 8 = i from by omega]
  simp [hi]

theorem agree_append (l r : List UInt8) (hi : Nat) (h : hi ≤ l.length) : Agree (l ++ r) l 0 hi := by
  intro i _ h1
  rw [List.getD_eq_getElem?_getD, List.getD_eq_getElem?_getD, List.getElem?_append_left (by omega)]
/-- FORGED: four bytes more have this sum. -/
theorem sum32_forge (l : List UInt8) (seed sum : BitVec 32) (q : Nat) (hl : l.length = 4 * q) :
    sum32 (l ++ by32 (forge32 (st32 l seed q) sum l.length)) seed = sum := by
  have hlen : (l ++ by32 (forge32 (st32 l seed q) sum l.length)).length = 4 * (q + 1) := by simp [by32, hl]; omega
  unfold sum32
  rw [hlen, show 4 * (q + 1) / 4 = q + 1 from by omega, List.drop_of_length_le (by rw [hlen]; omega), fin32_0]
  rw [st32, st32_agree seed q (agree_append l _ _ (by omega)), ← hl, List.drop_left]
  have e := le4_by32 (forge32 (st32 l seed q) sum l.length) []
  rw [List.append_nil] at e
  rw [e, step_forge, BitVec.xor_assoc, show 4 * (q + 1) = l.length + 4 from by omega, BitVec.xor_self, BitVec.xor_zero, mix_forge]

/-! ### 128 bits -/
def unblend (h : BitVec 64) : BitVec 64 := backk (backk (backk h 33 1 * ovk 14181476777654086739#64 5) 33 1 * ovk 18397679294719823053#64 5) 33 1
theorem inv6 : ovk 14181476777654086739#64 5 * 14181476777654086739#64 = 1#64 := by decide
theorem inv7 : ovk 18397679294719823053#64 5 * 18397679294719823053#64 = 1#64 := by decide
theorem inv8 : ovk 5#64 5 * 5#64 = 1#64 := by decide
theorem inv9 : ovk 9782798678568883157#64 5 * 9782798678568883157#64 = 1#64 := by decide
theorem inv10 : ovk 5545529020109919103#64 5 * 5545529020109919103#64 = 1#64 := by decide
theorem xs33 (x : BitVec 64) : xs (backk x 33 1) 33 = x := xs_back x 33 (by decide)
theorem blend_unblend (h : BitVec 64) : blend (unblend h) = h := by
  unfold blend unblend
  rw [xs33, mul_undo _ _ _ inv7, xs33, mul_undo _ _ _ inv6, xs33]
/-- the halves ahead of the end -/
def undoB (s1 s2 : BitVec 64) : BitVec 64 := unblend (s2 - s1) - unblend (s1 - (s2 - s1))
def undoA (s1 s2 : BitVec 64) : BitVec 64 := unblend (s1 - (s2 - s1)) - undoB s1 s2
theorem finish_undo (s1 s2 : BitVec 64) : finish (undoA s1 s2) (undoB s1 s2) = (s1, s2) := by
  have e1 : undoA s1 s2 + undoB s1 s2 = unblend (s1 - (s2 - s1)) := by unfold undoA; exact sub_add_self _ _
  have e2 : undoB s1 s2 + unblend (s1 - (s2 - s1)) = unblend (s2 - s1) := by unfold undoB; exact sub_add_self _ _
  unfold finish
  rw [e1, e2, blend_unblend, blend_unblend, sub_add_self, sub_add_self]
def forgeK2 (h1 h2 w2 : BitVec 64) : BitVec 64 := rotl ((rotl ((h2 - 944331445#64) * ovk 5#64 5 - h1) 33 ^^^ w2) * ovk 9782798678568883157#64 5) 31 * ovk 5545529020109919103#64 5
def forgeK1 (h1 w1 w2 : BitVec 64) : BitVec 64 := rotl ((rotl ((h1 - 1390208809#64) * ovk 5#64 5 - w2) 37 ^^^ w1) * ovk 5545529020109919103#64 5) 33 * ovk 9782798678568883157#64 5
theorem xor_undo {n : Nat} (a b : BitVec n) : a ^^^ (b ^^^ a) = b := by
  rw [BitVec.xor_comm b a, ← BitVec.xor_assoc, BitVec.xor_self, BitVec.zero_xor]
theorem stepA_forge (h1 w1 w2 : BitVec 64) : stepA w1 w2 (forgeK1 h1 w1 w2) = h1 := by
  unfold stepA first forgeK1
  rw [mul_undo _ _ _ inv9, rotl_back _ 33 31 (by decide) (by decide) (by decide), mul_undo _ _ _ inv10, xor_undo, rotl_back _ 37 27 (by decide) (by decide) (by decide), sub_add_self, mul_undo _ _ _ inv8, sub_add_self]
theorem stepB_forge (h1 h2 w2 : BitVec 64) : stepB h1 w2 (forgeK2 h1 h2 w2) = h2 := by
  unfold stepB second forgeK2
  rw [mul_undo _ _ _ inv10, rotl_back _ 31 33 (by decide) (by decide) (by decide), mul_undo _ _ _ inv9, xor_undo, rotl_back _ 33 31 (by decide) (by decide) (by decide), sub_add_self, mul_undo _ _ _ inv8, sub_add_self]
def forgeH1 (s1 s2 : BitVec 64) (len : Nat) : BitVec 64 := undoA s1 s2 ^^^ BitVec.ofNat 64 (len + 16)
def forgeH2 (s1 s2 : BitVec 64) (len : Nat) : BitVec 64 := undoB s1 s2 ^^^ BitVec.ofNat 64 (len + 16)
def forge128 (st : BitVec 64 × BitVec 64) (s1 s2 : BitVec 64) (len : Nat) : List UInt8 :=
  by64 (forgeK1 (forgeH1 s1 s2 len) st.1 st.2) ++ by64 (forgeK2 (forgeH1 s1 s2 len) (forgeH2 s1 s2 len) st.2)
/-- FORGED: sixteen bytes more have this sum. -/
theorem sum128_forge (l : List UInt8) (seed : BitVec 32) (s1 s2 : BitVec 64) (q : Nat) (hl : l.length = 16 * q) :
    sum128 (l ++ forge128 (st128 l (pair seed) q) s1 s2 l.length) seed = (s1, s2) := by
  have hlen : (l ++ forge128 (st128 l (pair seed) q) s1 s2 l.length).length = 16 * (q + 1) := by simp [forge128, by64, hl]; omega
  unfold sum128
  rw [hlen, show 16 * (q + 1) / 16 = q + 1 from by omega, List.drop_of_length_le (by rw [hlen]; omega)]
  rw [st128, st128_agree _ q (agree_append l _ _ (by omega))]
  have e1 : le8 ((l ++ forge128 (st128 l (pair seed) q) s1 s2 l.length).drop (16 * q)) = forgeK1 (forgeH1 s1 s2 l.length) (st128 l (pair seed) q).1 (st128 l (pair seed) q).2 := by
    rw [← hl, List.drop_left]; exact le8_by64 _ _
  have e2 : le8 ((l ++ forge128 (st128 l (pair seed) q) s1 s2 l.length).drop (16 * q + 8)) = forgeK2 (forgeH1 s1 s2 l.length) (forgeH2 s1 s2 l.length) (st128 l (pair seed) q).2 := by
    rw [← List.drop_drop, ← hl, List.drop_left]
    have e := le8_by64 (forgeK2 (forgeH1 s1 s2 l.length) (forgeH2 s1 s2 l.length) (st128 l (pair seed) q).2) []
    rw [List.append_nil] at e
    exact e
  rw [e1, e2]
  unfold step128 fin128
  rw [stepA_forge, stepB_forge, le8_nil, show ([] : List UInt8).drop 8 = [] from rfl, le8_nil, first0, second0, BitVec.xor_zero, BitVec.xor_zero]
  unfold forgeH1 forgeH2
  rw [show 16 * (q + 1) = l.length + 16 from by omega, BitVec.xor_assoc, BitVec.xor_assoc, BitVec.xor_self, BitVec.xor_zero, BitVec.xor_zero, finish_undo]
end Go.Proofs.Ytfnejnoldonfeaa
