/-
  Each step of the sums can be undone: plain laws on words, no program in sight.
  Conditions: none.
-/
import Derived.Test.YtfnejnoldonfeaaMath
namespace Go.Proofs.Ytfnejnoldonfeaa

theorem rotl_bit {n : Nat} (x : BitVec n) (k i : Nat) (hk : k < n) (hi : i < n) : (rotl x k).getLsbD i = if i < k then x.getLsbD (n - k + i) else x.getLsbD (i - k) := by
  unfold rotl
  rw [BitVec.getLsbD_or, BitVec.getLsbD_shiftLeft, BitVec.getLsbD_ushiftRight]
  by_cases h : i < k
  · simp [h]
  · have : x.getLsbD (n - k + i) = false := BitVec.getLsbD_of_ge _ _ (by omega)
    simp [h, hi, this]
theorem rotl_rotl {n : Nat} (x : BitVec n) (k : Nat) (h0 : 0 < k) (hk : k < n) : rotl (rotl x k) (n - k) = x := by
  apply BitVec.eq_of_getLsbD_eq
  intro i hi
  rw [rotl_bit _ _ _ (by omega) hi]
  by_cases h : i < n - k
  · rw [if_pos h, rotl_bit _ _ _ hk (by omega), if_neg (by omega)]; congr 1; omega
  · rw [if_neg h, rotl_bit _ _ _ hk (by omega), if_pos (by omega)]; congr 1; omega
theorem rotl_inj {n : Nat} {x y : BitVec n} (k : Nat) (h0 : 0 < k) (hk : k < n) (h : rotl x k = rotl y k) : x = y := by
  rw [← rotl_rotl x k h0 hk, h, rotl_rotl y k h0 hk]
theorem xs_inj {n : Nat} {x y : BitVec n} (k : Nat) (h0 : 0 < k) (h : xs x k = xs y k) : x = y := by
  have key : ∀ m i, n - i ≤ m → x.getLsbD i = y.getLsbD i := by
    intro m
    induction m with
    | zero => intro i hi; rw [BitVec.getLsbD_of_ge _ _ (by omega), BitVec.getLsbD_of_ge _ _ (by omega)]
    | succ m ih =>
      intro i hi
      have e : (xs x k).getLsbD i = (xs y k).getLsbD i := by rw [h]
      unfold xs at e
      rw [BitVec.getLsbD_xor, BitVec.getLsbD_xor, BitVec.getLsbD_ushiftRight, BitVec.getLsbD_ushiftRight] at e
      by_cases hn : i < n
      · rw [ih (k + i) (by omega)] at e
        simpa using e
      · rw [BitVec.getLsbD_of_ge _ _ (by omega), BitVec.getLsbD_of_ge _ _ (by omega)]
  exact BitVec.eq_of_getLsbD_eq fun i _ => key _ i (Nat.le_refl _)
theorem mul_inj {n : Nat} {x y : BitVec n} (c d : BitVec n) (hcd : c * d = 1#n) (h : x * c = y * c) : x = y := by
  have e : x * c * d = y * c * d := by rw [h]
  rwa [BitVec.mul_assoc, BitVec.mul_assoc, hcd, BitVec.mul_one, BitVec.mul_one] at e
theorem xor_inj {n : Nat} {x y : BitVec n} (z : BitVec n) (h : x ^^^ z = y ^^^ z) : x = y := by
  have e : x ^^^ z ^^^ z = y ^^^ z ^^^ z := by rw [h]
  simpa [BitVec.xor_assoc] using e
theorem xor_inj' {n : Nat} {x y : BitVec n} (z : BitVec n) (h : z ^^^ x = z ^^^ y) : x = y := by
  rw [BitVec.xor_comm z x, BitVec.xor_comm z y] at h; exact xor_inj z h
theorem add_inj {n : Nat} {x y : BitVec n} (z : BitVec n) (h : x + z = y + z) : x = y := by
  have e : x + z - z = y + z - z := by rw [h]
  rwa [BitVec.add_sub_cancel, BitVec.add_sub_cancel] at e

theorem mix_inj {x y : BitVec 32} (h : mix x = mix y) : x = y := by
  unfold mix at h
  have h := xs_inj 16 (by decide) h
  have h := mul_inj 3266489909#32 2127672349#32 (by decide) h
  have h := xs_inj 13 (by decide) h
  have h := mul_inj 2246822507#32 2781581891#32 (by decide) h
  exact xs_inj 16 (by decide) h

theorem word_inj {x y : BitVec 32} (h : word x = word y) : x = y := by
  unfold word at h
  have h := mul_inj 461845907#32 1458385051#32 (by decide) h
  have h := rotl_inj 15 (by decide) (by decide) h
  exact mul_inj 3432918353#32 3739302833#32 (by decide) h
theorem step32_state {h g k : BitVec 32} (e : step32 h k = step32 g k) : h = g := by
  unfold step32 at e
  have e := add_inj _ e
  have e := mul_inj 5#32 3435973837#32 (by decide) e
  have e := rotl_inj 13 (by decide) (by decide) e
  exact xor_inj _ e
theorem step32_word {h k j : BitVec 32} (e : step32 h k = step32 h j) : k = j := by
  unfold step32 at e
  have e := add_inj _ e
  have e := mul_inj 5#32 3435973837#32 (by decide) e
  have e := rotl_inj 13 (by decide) (by decide) e
  exact word_inj (xor_inj' _ e)
theorem fin32_state {h g : BitVec 32} {r : List UInt8} {n : Nat} (e : fin32 h r n = fin32 g r n) : h = g := by
  unfold fin32 at e
  exact xor_inj _ (xor_inj _ (mix_inj e))
theorem fin32_rest {h : BitVec 32} {r q : List UInt8} {n : Nat} (e : fin32 h r n = fin32 h q n) : le4 r = le4 q := by
  unfold fin32 at e
  exact word_inj (xor_inj' _ (xor_inj _ (mix_inj e)))

theorem st32_seed (l : List UInt8) (h g : BitVec 32) (k : Nat) (e : st32 l h k = st32 l g k) : h = g := by
  induction k with
  | zero => exact e
  | succ k ih => exact ih (step32_state e)
theorem sum32_seed (l : List UInt8) (h g : BitVec 32) (e : sum32 l h = sum32 l g) : h = g := st32_seed l h g _ (fin32_state e)

/-! ### bytes -/
theorem getD_drop (l : List UInt8) (k i : Nat) : (l.drop k).getD i 0 = l.getD (k + i) 0 := by
  simp [List.getD_eq_getElem?_getD]
theorem byte_ext {x y : UInt8} (h : ∀ i, i < 8 → x.toNat.testBit i = y.toNat.testBit i) : x = y := by
  apply UInt8.toNat_inj.1
  apply Nat.eq_of_testBit_eq
  intro i
  by_cases hi : i < 8
  · exact h i hi
  · rw [byte_high _ _ (by omega), byte_high _ _ (by omega)]
theorem le4_inj {l m : List UInt8} (h : le4 l = le4 m) (j : Nat) (hj : j < 4) : l.getD j 0 = m.getD j 0 := by
  apply byte_ext
  intro i hi
  have e : (le4 l).getLsbD (8 * j + i) = (le4 m).getLsbD (8 * j + i) := by rw [h]
  rw [le4_bit, le4_bit, show (8 * j + i) / 8 = j from by omega, show (8 * j + i) % 8 = i from by omega] at e
  simpa [show 8 * j + i < 32 from by omega] using e
theorem le8_inj {l m : List UInt8} (h : le8 l = le8 m) (j : Nat) (hj : j < 8) : l.getD j 0 = m.getD j 0 := by
  apply byte_ext
  intro i hi
  have e : (le8 l).getLsbD (8 * j + i) = (le8 m).getLsbD (8 * j + i) := by rw [h]
  rw [le8_bit, le8_bit, show (8 * j + i) / 8 = j from by omega, show (8 * j + i) % 8 = i from by omega] at e
  simpa [show 8 * j + i < 64 from by omega] using e
theorem le4_congr {l m : List UInt8} (h : ∀ j, j < 4 → l.getD j 0 = m.getD j 0) : le4 l = le4 m := by
  unfold le4; rw [h 0 (by omega), h 1 (by omega), h 2 (by omega), h 3 (by omega)]
theorem le8_congr {l m : List UInt8} (h : ∀ j, j < 8 → l.getD j 0 = m.getD j 0) : le8 l = le8 m := by
  unfold le8
  rw [le4_congr (l := l) (m := m) (fun j hj => h j (by omega)), le4_congr (l := l.drop 4) (m := m.drop 4) (fun j hj => by rw [getD_drop, getD_drop]; exact h _ (by omega))]
theorem list_ext {l m : List UInt8} (hl : l.length = m.length) (h : ∀ i, i < l.length → l.getD i 0 = m.getD i 0) : l = m := by
  apply List.ext_getElem hl
  intro i h1 h2
  have := h i h1
  rw [List.getD_eq_getElem?_getD, List.getD_eq_getElem?_getD, List.getElem?_eq_getElem h1, List.getElem?_eq_getElem h2] at this
  simpa using this
/-- The two lists hold the same bytes from place lo to place hi. -/
def Agree (l m : List UInt8) (lo hi : Nat) : Prop := ∀ i, lo ≤ i → i < hi → l.getD i 0 = m.getD i 0
theorem st32_agree {l m : List UInt8} (h : BitVec 32) (k : Nat) (a : Agree l m 0 (4 * k)) : st32 l h k = st32 m h k := by
  induction k with
  | zero => rfl
  | succ k ih =>
    unfold st32
    rw [ih (fun i h0 h1 => a i h0 (by omega)), le4_congr (l := l.drop (4 * k)) (m := m.drop (4 * k)) (fun j hj => by rw [getD_drop, getD_drop]; exact a _ (by omega) (by omega))]
theorem st32_back {l m : List UInt8} (h : BitVec 32) (j n : Nat) (a : Agree l m (4 * j) (4 * (j + n))) (e : st32 l h (j + n) = st32 m h (j + n)) : st32 l h j = st32 m h j := by
  induction n with
  | zero => exact e
  | succ n ih =>
    have e' : step32 (st32 l h (j + n)) (le4 (l.drop (4 * (j + n)))) = step32 (st32 m h (j + n)) (le4 (m.drop (4 * (j + n)))) := e
    rw [le4_congr (l := l.drop (4 * (j + n))) (m := m.drop (4 * (j + n))) (fun i hi => by rw [getD_drop, getD_drop]; exact a _ (by omega) (by omega))] at e'
    exact ih (fun i h0 h1 => a i h0 (by omega)) (step32_state e')
/-- Another word of four bytes (at the end, of fewer): another sum. -/
theorem sum32_word {l m : List UInt8} (h : BitVec 32) (j : Nat) (hl : m.length = l.length) (a0 : Agree l m 0 (4 * j)) (a1 : Agree l m (4 * j + 4) l.length) (e : sum32 l h = sum32 m h) : l = m := by
  unfold sum32 at e
  rw [hl] at e
  by_cases hj : j < l.length / 4
  · have hrest : l.drop (4 * (l.length / 4)) = m.drop (4 * (l.length / 4)) := by
      apply list_ext (by simp [hl])
      intro i hi
      rw [getD_drop, getD_drop]
      exact a1 _ (by omega) (by simp at hi; omega)
    rw [hrest] at e
    have e := fin32_state e
    obtain ⟨n, hn⟩ : ∃ n, l.length / 4 = (j + 1) + n := ⟨l.length / 4 - (j + 1), by omega⟩
    rw [hn] at e
    have e := st32_back h (j + 1) n (fun i h0 h1 => a1 i (by omega) (by omega)) e
    have e' : step32 (st32 l h j) (le4 (l.drop (4 * j))) = step32 (st32 m h j) (le4 (m.drop (4 * j))) := e
    rw [st32_agree h j a0] at e'
    have e := le4_inj (step32_word e')
    apply list_ext hl.symm
    intro i hi
    by_cases h1 : i < 4 * j
    · exact a0 i (by omega) h1
    · by_cases h2 : i < 4 * j + 4
      · have := e (i - 4 * j) (by omega)
        rw [getD_drop, getD_drop, show 4 * j + (i - 4 * j) = i from by omega] at this; exact this
      · exact a1 i (by omega) hi
  · rw [st32_agree h (l.length / 4) (fun i h0 h1 => a0 i h0 (by omega))] at e
    have e := le4_inj (fin32_rest e)
    apply list_ext hl.symm
    intro i hi
    by_cases h1 : i < 4 * (l.length / 4)
    · exact a0 i (by omega) (by omega)
    · have := e (i - 4 * (l.length / 4)) (by omega)
      rw [getD_drop, getD_drop, show 4 * (l.length / 4) + (i - 4 * (l.length / 4)) = i from by omega] at this; exact this

/-! ### 128 bits -/
theorem blend_inj {x y : BitVec 64} (h : blend x = blend y) : x = y := by
  unfold blend at h
  have h := xs_inj 33 (by decide) h
  have h := mul_inj 14181476777654086739#64 11291846944257947611#64 (by decide) h
  have h := xs_inj 33 (by decide) h
  have h := mul_inj 18397679294719823053#64 5725274745694666757#64 (by decide) h
  exact xs_inj 33 (by decide) h
theorem first_inj {x y : BitVec 64} (h : first x = first y) : x = y := by
  unfold first at h
  have h := mul_inj 5545529020109919103#64 12114143059468233855#64 (by decide) h
  have h := rotl_inj 31 (by decide) (by decide) h
  exact mul_inj 9782798678568883157#64 12214898983567248765#64 (by decide) h
theorem second_inj {x y : BitVec 64} (h : second x = second y) : x = y := by
  unfold second at h
  have h := mul_inj 9782798678568883157#64 12214898983567248765#64 (by decide) h
  have h := rotl_inj 33 (by decide) (by decide) h
  exact mul_inj 5545529020109919103#64 12114143059468233855#64 (by decide) h
theorem add_inj' {n : Nat} {x y : BitVec n} (z : BitVec n) (h : z + x = z + y) : x = y := by
  rw [BitVec.add_comm z x, BitVec.add_comm z y] at h; exact add_inj z h
theorem finish_inj {a b c d : BitVec 64} (h : finish a b = finish c d) : a = c ∧ b = d := by
  unfold finish at h
  injection h with h1 h2
  rw [h1] at h2
  have e2 := add_inj _ h2
  rw [e2] at h1
  have e1 := blend_inj (add_inj _ h1)
  have e2 := blend_inj e2
  rw [e1] at e2
  have e3 := add_inj _ e2
  rw [e3] at e1
  exact ⟨add_inj _ e1, e3⟩
theorem stepA_mid {a b h k j : BitVec 64} (e : stepA a h k = stepA b h j) : a ^^^ first k = b ^^^ first j := by
  unfold stepA at e
  have e := add_inj _ e
  have e := mul_inj 5#64 14757395258967641293#64 (by decide) e
  exact rotl_inj 27 (by decide) (by decide) (add_inj _ e)
theorem stepB_mid {a b h k j : BitVec 64} (e : stepB h a k = stepB h b j) : a ^^^ second k = b ^^^ second j := by
  unfold stepB at e
  have e := add_inj _ e
  have e := mul_inj 5#64 14757395258967641293#64 (by decide) e
  exact rotl_inj 31 (by decide) (by decide) (add_inj _ e)
theorem step128_state {h g : BitVec 64 × BitVec 64} {k j : BitVec 64} (e : step128 h k j = step128 g k j) : h = g := by
  unfold step128 at e
  injection e with e1 e2
  rw [e1] at e2
  have e3 := xor_inj _ (stepB_mid e2)
  rw [e3] at e1
  have e4 := xor_inj _ (stepA_mid e1)
  exact Prod.ext e4 e3
theorem step128_words {h : BitVec 64 × BitVec 64} {k k' j j' : BitVec 64} (e : step128 h k k' = step128 h j j') : k = j ∧ k' = j' := by
  unfold step128 at e
  injection e with e1 e2
  rw [e1] at e2
  exact ⟨first_inj (xor_inj' _ (stepA_mid e1)), second_inj (xor_inj' _ (stepB_mid e2))⟩
theorem fin128_state {h g : BitVec 64 × BitVec 64} {r : List UInt8} {n : Nat} (e : fin128 h r n = fin128 g r n) : h = g := by
  unfold fin128 at e
  obtain ⟨e1, e2⟩ := finish_inj e
  exact Prod.ext (xor_inj _ (xor_inj _ e1)) (xor_inj _ (xor_inj _ e2))
theorem fin128_rest {h : BitVec 64 × BitVec 64} {r q : List UInt8} {n : Nat} (e : fin128 h r n = fin128 h q n) : le8 r = le8 q ∧ le8 (r.drop 8) = le8 (q.drop 8) := by
  unfold fin128 at e
  obtain ⟨e1, e2⟩ := finish_inj e
  exact ⟨first_inj (xor_inj' _ (xor_inj _ e1)), second_inj (xor_inj' _ (xor_inj _ e2))⟩
theorem st128_agree {l m : List UInt8} (h : BitVec 64 × BitVec 64) (k : Nat) (a : Agree l m 0 (16 * k)) : st128 l h k = st128 m h k := by
  induction k with
  | zero => rfl
  | succ k ih =>
    unfold st128
    rw [ih (fun i h0 h1 => a i h0 (by omega)), le8_congr (l := l.drop (16 * k)) (m := m.drop (16 * k)) (fun j hj => by rw [getD_drop, getD_drop]; exact a _ (by omega) (by omega)),
      le8_congr (l := l.drop (16 * k + 8)) (m := m.drop (16 * k + 8)) (fun j hj => by rw [getD_drop, getD_drop]; exact a _ (by omega) (by omega))]
theorem st128_back {l m : List UInt8} (h : BitVec 64 × BitVec 64) (j n : Nat) (a : Agree l m (16 * j) (16 * (j + n))) (e : st128 l h (j + n) = st128 m h (j + n)) : st128 l h j = st128 m h j := by
  induction n with
  | zero => exact e
  | succ n ih =>
    have e' : step128 (st128 l h (j + n)) (le8 (l.drop (16 * (j + n)))) (le8 (l.drop (16 * (j + n) + 8))) = step128 (st128 m h (j + n)) (le8 (m.drop (16 * (j + n)))) (le8 (m.drop (16 * (j + n) + 8))) := e
    rw [le8_congr (l := l.drop (16 * (j + n))) (m := m.drop (16 * (j + n))) (fun i hi => by rw [getD_drop, getD_drop]; exact a _ (by omega) (by omega)),
      le8_congr (l := l.drop (16 * (j + n) + 8)) (m := m.drop (16 * (j + n) + 8)) (fun i hi => by rw [getD_drop, getD_drop]; exact a _ (by omega) (by omega))] at e'
    exact ih (fun i h0 h1 => a i h0 (by omega)) (step128_state e')
/-- Another block of sixteen bytes (at the end, of fewer): another sum. -/
theorem sum128_block {l m : List UInt8} (h : BitVec 32) (j : Nat) (hl : m.length = l.length) (a0 : Agree l m 0 (16 * j)) (a1 : Agree l m (16 * j + 16) l.length) (e : sum128 l h = sum128 m h) : l = m := by
  unfold sum128 at e
  rw [hl] at e
  by_cases hj : j < l.length / 16
  · have hrest : l.drop (16 * (l.length / 16)) = m.drop (16 * (l.length / 16)) := by
      apply list_ext (by simp [hl])
      intro i hi
      rw [getD_drop, getD_drop]
      exact a1 _ (by omega) (by simp at hi; omega)
    rw [hrest] at e
    have e := fin128_state e
    obtain ⟨n, hn⟩ : ∃ n, l.length / 16 = (j + 1) + n := ⟨l.length / 16 - (j + 1), by omega⟩
    rw [hn] at e
    have e := st128_back _ (j + 1) n (fun i h0 h1 => a1 i (by omega) (by omega)) e
    have e' : step128 (st128 l (pair h) j) (le8 (l.drop (16 * j))) (le8 (l.drop (16 * j + 8))) = step128 (st128 m (pair h) j) (le8 (m.drop (16 * j))) (le8 (m.drop (16 * j + 8))) := e
    rw [st128_agree _ j a0] at e'
    obtain ⟨e1, e2⟩ := step128_words e'
    have e1 := le8_inj e1
    have e2 := le8_inj e2
    apply list_ext hl.symm
    intro i hi
    by_cases h1 : i < 16 * j
    · exact a0 i (by omega) h1
    · by_cases h2 : i < 16 * j + 8
      · have := e1 (i - 16 * j) (by omega)
        rw [getD_drop, getD_drop, show 16 * j + (i - 16 * j) = i from by omega] at this; exact this
      · by_cases h3 : i < 16 * j + 16
        · have := e2 (i - (16 * j + 8)) (by omega)
          rw [getD_drop, getD_drop, show 16 * j + 8 + (i - (16 * j + 8)) = i from by omega] at this; exact this
        · exact a1 i (by omega) hi
  · rw [st128_agree _ (l.length / 16) (fun i h0 h1 => a0 i h0 (by omega))] at e
    obtain ⟨e1, e2⟩ := fin128_rest e
    rw [List.drop_drop, List.drop_drop] at e2
    have e1 := le8_inj e1
    have e2 := le8_inj e2
    apply list_ext hl.symm
    intro i hi
    by_cases h1 : i < 16 * (l.length / 16)
    · exact a0 i (by omega) (by omega)
    · by_cases h2 : i < 16 * (l.length / 16) + 8
      · have := e1 (i - 16 * (l.length / 16)) (by omega)
        rw [getD_drop, getD_drop, show 16 * (l.length / 16) + (i - 16 * (l.length / 16)) = i from by omega] at this; exact this
      · have := e2 (i - (16 * (l.length / 16) + 8)) (by omega)
        rw [getD_drop, getD_drop, show 16 * (l.length / 16) + 8 + (i - (16 * (l.length / 16) + 8)) = i from by omega] at this; exact this
end Go.Proofs.Ytfnejnoldonfeaa
