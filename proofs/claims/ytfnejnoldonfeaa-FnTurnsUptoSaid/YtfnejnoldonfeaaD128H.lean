/-
  What digest128.Sum128 returns, at each number of pending bytes.
  Conditions: the digest's fields lie in memory as said.
-/
import Derived.Test.YtfnejnoldonfeaaW128
import Derived.Test.YtfnejnoldonfeaaMath2
import Derived.Deep.DeepCutAuto
namespace Go.Proofs.Ytfnejnoldonfeaa
open Go.RowKit
theorem le8_1 (x0 : UInt8) : le8 [x0] = bw 64 x0 := by rw [le8_xor]; simp [bw0]
theorem le8_2 (x0 x1 : UInt8) : le8 [x0, x1] = bw 64 x1 * 256#64 ^^^ bw 64 x0 := by rw [le8_xor]; simp [bw0]
theorem le8_3 (x0 x1 x2 : UInt8) : le8 [x0, x1, x2] = bw 64 x2 * 65536#64 ^^^ bw 64 x1 * 256#64 ^^^ bw 64 x0 := by rw [le8_xor]; simp [bw0]
theorem le8_4 (x0 x1 x2 x3 : UInt8) : le8 [x0, x1, x2, x3] = bw 64 x3 * 16777216#64 ^^^ bw 64 x2 * 65536#64 ^^^ bw 64 x1 * 256#64 ^^^ bw 64 x0 := by rw [le8_xor]; simp [bw0]
theorem le8_5 (x0 x1 x2 x3 x4 : UInt8) : le8 [x0, x1, x2, x3, x4] = bw 64 x4 * 4294967296#64 ^^^ bw 64 x3 * 16777216#64 ^^^ bw 64 x2 * 65536#64 ^^^ bw 64 x1 * 256#64 ^^^ bw 64 x0 := by rw [le8_xor]; simp [bw0]
theorem le8_6 (x0 x1 x2 x3 x4 x5 : UInt8) : le8 [x0, x1, x2, x3, x4, x5] = bw 64 x5 * 1099511627776#64 ^^^ bw 64 x4 * 4294967296#64 ^^^ bw 64 x3 * 16777216#64 ^^^ bw 64 x2 * 65536#64 ^^^ bw 64 x1 * 256#64 ^^^ bw 64 x0 := by rw [le8_xor]; simp [bw0]
theorem le8_7 (x0 x1 x2 x3 x4 x5 x6 : UInt8) : le8 [x0, x1, x2, x3, x4, x5, x6] = bw 64 x6 * 281474976710656#64 ^^^ bw 64 x5 * 1099511627776#64 ^^^ bw 64 x4 * 4294967296#64 ^^^ bw 64 x3 * 16777216#64 ^^^ bw 64 x2 * 65536#64 ^^^ bw 64 x1 * 256#64 ^^^ bw 64 x0 := by rw [le8_xor]; simp [bw0]
theorem le8_8 (x0 x1 x2 x3 x4 x5 x6 x7 : UInt8) (r : List UInt8) : le8 (x0 :: x1 :: x2 :: x3 :: x4 :: x5 :: x6 :: x7 :: r) = bw 64 x7 * 72057594037927936#64 ^^^ bw 64 x6 * 281474976710656#64 ^^^ bw 64 x5 * 1099511627776#64 ^^^ bw 64 x4 * 4294967296#64 ^^^ bw 64 x3 * 16777216#64 ^^^ bw 64 x2 * 65536#64 ^^^ bw 64 x1 * 256#64 ^^^ bw 64 x0 := by rw [le8_xor]; rfl
/-! An exit out of many blocks, step by step (the walk's own way through such a chain costs the kernel minutes). -/
theorem out_then {K : Act → World → Prop} {Q : Exit → Act → World → Prop} {j : Nat} {a : Act} {w : World} (h : Q (.exit j) a w) : Exit.then K Q (.exit j) a w := h
theorem out_block {k j : Nat} {Q : Exit → Act → World → Prop} {a : Act} {w : World} (hne : Nat.beq j k = false) (h : Q (.exit j) a w) : Exit.inBlock k Q (.exit j) a w := by
  show (if j = k then Q .normal a w else Q (.exit j) a w)
  rw [if_neg (Nat.ne_of_beq_eq_false hne)]; exact h
theorem in_block {k : Nat} {Q : Exit → Act → World → Prop} {a : Act} {w : World} (h : Q .normal a w) : Exit.inBlock k Q (.exit k) a w := by
  show (if k = k then Q .normal a w else Q (.exit k) a w)
  rw [if_pos rfl]; exact h
end Go.Proofs.Ytfnejnoldonfeaa
