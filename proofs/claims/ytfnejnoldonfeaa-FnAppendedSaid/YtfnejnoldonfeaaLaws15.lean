/-
  The law FnAppended as a walk: it returns true.
  Conditions: each slice's bytes lie in memory.
-/
import Derived.Test.YtfnejnoldonfeaaApd
import Derived.Test.YtfnejnoldonfeaaHigh
import Derived.Test.YtfnejnoldonfeaaLaws7
namespace Go.Proofs.Ytfnejnoldonfeaa
open Go.RowKit BigFrame
theorem be4_hi (x : BitVec 32) : hiB (x.setWidth 64) 4 4 = be4 x := by
  have e : ∀ k, by8 (x.setWidth 64) k = by8 x k := fun k => by unfold by8; rw [BitVec.toNat_setWidth, Nat.mod_eq_of_lt (by have := x.isLt; omega)]
  simp [hiB, be4, List.range_succ, e]
theorem be8_hi (x : BitVec 64) : hiB x 8 8 = be8 x := by simp [hiB, be8, List.range_succ]
theorem high4w (x : BitVec 32) (w : World) : Calls Try.prog 35 #[.int .u64 (un (x.setWidth 64)), .int .i64 4] w fun e w' => e = .returned (.string (str (be4 x))) ∧ Below w.heap.size w w' := by
  have h := high_any (x.setWidth 64) 4 (by omega) w
  rw [be4_hi] at h
  exact h
theorem high4 (x : BitVec 32) (w : World) : Calls Try.prog 35 #[.int .u64 (un x), .int .i64 4] w fun e w' => e = .returned (.string (str (be4 x))) ∧ Below w.heap.size w w' := by
  have h := high_any (x.setWidth 64) 4 (by omega) w
  rw [be4_hi] at h
  have e : un (x.setWidth 64) = un x := by unfold un; rw [BitVec.toNat_setWidth, Nat.mod_eq_of_lt (by have := x.isLt; omega)]
  rw [e] at h
  exact h
theorem high8 (x : BitVec 64) (w : World) : Calls Try.prog 35 #[.int .u64 (un x), .int .i64 8] w fun e w' => e = .returned (.string (str (be8 x))) ∧ Below w.heap.size w w' := by
  have h := high_any x 8 (by omega) w
  rw [be8_hi] at h
  exact h
attribute [local go_sem] str_app
set_option maxRecDepth 100000 in
set_option maxHeartbeats 1600000 in
theorem fnAppended_any (seed : BitVec 32) (a : Option Addr) (len cap : Nat) (l : List UInt8) (A : Option Addr) (m c : Nat) (q : List UInt8) (w : World) (hb : Bs w a l) (hl : l.length = len) (hc : len ≤ cap) (hm : cap ≤ 9223372036854775807)
    (hq : Bs w A q) (hlq : q.length = m) (_hcq : m ≤ c) (_hmq : c ≤ 9223372036854775807) :
   Calls Try.prog 15 #[.int .u32 (un seed), .slice a len cap, .slice A m c] w fun e w' => e = .returned (.bool true) ∧ Below w.heap.size w w' := by
  have Hl := Lib.hid hl
  have Hlq := Lib.hid hlq
  clear hl hlq
  by_cases hbig : 2147483647 < len
  · go_enter Try.func15, Try.ntmps15
    go_wp2_with fail
    go_ret
    exact ⟨rfl, Below.refl _ _⟩
  · by_cases hbig2 : 2147483647 < m
    · go_enter Try.func15, Try.ntmps15
      go_wp2_with fail
      go_ret
      exact ⟨rfl, Below.refl _ _⟩
    · have Hb := Lib.hid hb
      have Hq := Lib.hid hq
      clear hb hq
      go_enter Try.func15, Try.ntmps15
      go_wp2_with fail
      refine (appended_any seed a len cap l A m c q w Hb.out Hl.out hc hm Hq.out Hlq.out (by omega)).mono ?_
      rintro e w1 ⟨a1, c1, a2, c2, a3, c3, rfl, b1, x1, x2, x3⟩
      go_wp2_with fail
      have z1 : (w1.alloc (.cells #[.slice a1 (m + 4) c1, .slice a2 (m + 8) c2, .slice a3 (m + 16) c3] 48)).heap.size = w1.heap.size + 1 := by simp
      have g1 := heap_alloc_new w1 (.cells #[.slice a1 (m + 4) c1, .slice a2 (m + 8) c2, .slice a3 (m + 16) c3] 48)
      have b12 : Below w1.heap.size w1 (w1.alloc (.cells #[.slice a1 (m + 4) c1, .slice a2 (m + 8) c2, .slice a3 (m + 16) c3] 48)) := (Below.refl _ _).alloc (Nat.le_refl _) _
      generalize w1.alloc (.cells #[.slice a1 (m + 4) c1, .slice a2 (m + 8) c2, .slice a3 (m + 16) c3] 48) = W at z1 g1 b12 ⊢
      have b0W := b1.trans (b12.mono b1.size)
      refine (told_any _ _ _ l seed W (Hb.out.mem b0W) Hl.out hc hm).mono ?_
      rintro e w2 ⟨rfl, b2⟩
      have g2 := (b2.block w1.heap.size (by omega)).trans g1
      have b02 := b0W.trans (b2.mono b0W.size)
      have y1 := (x1.mem b12).mem b2
      have y2 := (x2.mem b12).mem b2
      have y3 := (x3.mem b12).mem b2
      have zz : w1.heap.size < w2.heap.size := by have := b2.size; omega
      clear g1 b2 x1 x2 x3 b12 b1 z1 b0W
      unfold sums4
      have hsq := fun W' (h : Below w2.heap.size w2 W') => conv_str W' A m c q ((Hq.out.mem b02).mem h) Hlq.out
      have hs0 := hsq _ ((Below.refl w2.heap.size w2).alloc (Nat.le_refl _) (.cells #[.int .u32 (un (sum32 l seed)), .int .u64 (un (sum128 l seed).1), .int .u64 (un (sum128 l seed).1), .int .u64 (un (sum128 l seed).2)] 38))
      clear hsq
      go_wp2_with fail
      clear hs0
      have g3 := heap_alloc_new w2 (.cells #[.int .u32 (un (sum32 l seed)), .int .u64 (un (sum128 l seed).1), .int .u64 (un (sum128 l seed).1), .int .u64 (un (sum128 l seed).2)] 38)
      have b23 : Below w2.heap.size w2 (w2.alloc (.cells #[.int .u32 (un (sum32 l seed)), .int .u64 (un (sum128 l seed).1), .int .u64 (un (sum128 l seed).1), .int .u64 (un (sum128 l seed).2)] 38)) := (Below.refl _ _).alloc (Nat.le_refl _) _
      have z3 : (w2.alloc (.cells #[.int .u32 (un (sum32 l seed)), .int .u64 (un (sum128 l seed).1), .int .u64 (un (sum128 l seed).1), .int .u64 (un (sum128 l seed).2)] 38)).heap.size = w2.heap.size + 1 := by simp
      generalize w2.alloc (.cells #[.int .u32 (un (sum32 l seed)), .int .u64 (un (sum128 l seed).1), .int .u64 (un (sum128 l seed).1), .int .u64 (un (sum128 l seed).2)] 38) = w3 at g3 b23 z3 ⊢
      have g2 := (b23.block w1.heap.size zz).trans g2
      have b03 := b02.trans (b23.mono b02.size)
      have G2 : ∀ x : Ext w3, x.at.heap[w1.heap.size]? = _ := fun x => (x.below.block w1.heap.size (by omega)).trans g2
      have G3 : ∀ x : Ext w3, x.at.heap[w2.heap.size]? = _ := fun x => (x.below.block w2.heap.size (by omega)).trans g3
      have k0 : ∀ x : Ext w3, x.at.cell? ⟨w1.heap.size, 0, none⟩ = some (.slice a1 (m + 4) c1) := fun x => cell_of_row x.at _ 0 _ 48 (0, 0) (G2 x)
      have k1 : ∀ x : Ext w3, x.at.cell? ⟨w1.heap.size, 1, none⟩ = some (.slice a2 (m + 8) c2) := fun x => cell_of_row x.at _ 1 _ 48 (0, 0) (G2 x)
      have k2 : ∀ x : Ext w3, x.at.cell? ⟨w1.heap.size, 2, none⟩ = some (.slice a3 (m + 16) c3) := fun x => cell_of_row x.at _ 2 _ 48 (0, 0) (G2 x)
      have j0 : ∀ x : Ext w3, x.at.cell? ⟨w2.heap.size, 0, none⟩ = some (.int .u32 (un (sum32 l seed))) := fun x => cell_of_row x.at _ 0 _ 38 (0, 0) (G3 x)
      have j1 : ∀ x : Ext w3, x.at.cell? ⟨w2.heap.size, 1, none⟩ = some (.int .u64 (un (sum128 l seed).1)) := fun x => cell_of_row x.at _ 1 _ 38 (0, 0) (G3 x)
      have j2 : ∀ x : Ext w3, x.at.cell? ⟨w2.heap.size, 2, none⟩ = some (.int .u64 (un (sum128 l seed).1)) := fun x => cell_of_row x.at _ 2 _ 38 (0, 0) (G3 x)
      have j3 : ∀ x : Ext w3, x.at.cell? ⟨w2.heap.size, 3, none⟩ = some (.int .u64 (un (sum128 l seed).2)) := fun x => cell_of_row x.at _ 3 _ 38 (0, 0) (G3 x)
      have s1 : ∀ x : Ext w3, (convert 22 9 (.slice a1 (m + 4) c1)).run Try.prog x.at = .ok (.string (str (q ++ be4 (sum32 l seed)))) x.at := fun x => conv_str _ _ _ _ _ ((y1.mem b23).mem x.below) (by simp [be4, Hlq.out])
      have s2 : ∀ x : Ext w3, (convert 22 9 (.slice a2 (m + 8) c2)).run Try.prog x.at = .ok (.string (str (q ++ be8 (sum128 l seed).1))) x.at := fun x => conv_str _ _ _ _ _ ((y2.mem b23).mem x.below) (by simp [be8, Hlq.out])
      have s3 : ∀ x : Ext w3, (convert 22 9 (.slice a3 (m + 16) c3)).run Try.prog x.at = .ok (.string (str (q ++ be8 (sum128 l seed).1 ++ be8 (sum128 l seed).2))) x.at := fun x => conv_str _ _ _ _ _ (by rw [List.append_assoc]; exact (y3.mem b23).mem x.below) (by simp [be8, Hlq.out])
      have zq : q.length ≤ 2147483647 := by have := Hlq.out; omega
      have t1 : ¬ (9223372036854775807 < (str q).size + (str (be4 (sum32 l seed))).size) := by simp only [str_size]; simp [be4]; omega
      have t2 : ∀ y : BitVec 64, ¬ (9223372036854775807 < (str q).size + (str (be8 y)).size) := fun y => by simp only [str_size]; simp [be8]; omega
      have t3 : ∀ y z : BitVec 64, ¬ (9223372036854775807 < (str (q ++ be8 y)).size + (str (be8 z)).size) := fun y z => by simp only [str_size]; simp [be8]; omega
      clear g2 g3 G2 G3 y1 y2 y3 b23
      refine wp_region_ext (by kernel_rfl) (by kernel_rfl) ?_
      repeat go_big_quiet_step ((first
        | (go_at_call_of 35 (Value.int .u64 (un (sum32 l seed))); exact Calls.ext_of_below (high4 (sum32 l seed) _))
        | (go_at_call_of 35 (Value.int .u64 (un (BitVec.setWidth 64 (sum32 l seed)))); exact Calls.ext_of_below (high4w (sum32 l seed) _))
        | (go_at_call_of 35 (Value.int .u64 (un (sum128 l seed).1)); exact Calls.ext_of_below (high8 (sum128 l seed).1 _))
        | (go_at_call_of 35 (Value.int .u64 (un (sum128 l seed).2)); exact Calls.ext_of_below (high8 (sum128 l seed).2 _))))
      refine wpQuiet_nil ?_
      rintro _ ⟨x, rfl⟩
      have hxb := x.below
      go_wp2_with fail
      go_ret
      exact ⟨rfl, b03.trans (hxb.mono b03.size)⟩
end Go.Proofs.Ytfnejnoldonfeaa
