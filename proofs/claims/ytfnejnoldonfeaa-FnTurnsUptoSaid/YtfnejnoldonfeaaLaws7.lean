/-
  The sum of 64 bits; the laws FnSum64 and FnKept as walks: they return true.
  Conditions: each slice's bytes lie in memory as 'Bs' says.
-/
import Derived.Test.YtfnejnoldonfeaaI128
import Derived.Test.YtfnejnoldonfeaaS128
import Derived.Test.YtfnejnoldonfeaaEqt
namespace Go.Proofs.Ytfnejnoldonfeaa
open Go.RowKit
set_option maxRecDepth 100000 in
set_option maxHeartbeats 800000 in
theorem sum64_any (a : Option Addr) (len cap : Nat) (l : List UInt8) (seed : BitVec 32) (w : World) (hb : Bs w a l) (hl : l.length = len) (hc : len ≤ cap) (hm : cap ≤ 9223372036854775807) :
   Calls Try.prog 57 #[.slice a len cap, .int .u32 (un seed)] w fun e w' =>
     e = .returned (.int .u64 (un (sum128 l seed).1)) ∧ Below w.heap.size w w' := by
  have Hl := Lib.hid hl
  clear hl
  go_enter Try.func57, Try.ntmps57
  go_wp2_with fail
  refine (bmix128_any w.heap.size (dnew seed .nilIface (pair seed)) (seed.setWidth 64) (seed.setWidth 64) a len cap l (w.alloc (.cells (dnew seed .nilIface (pair seed)) 110)) (heap_alloc_new w _) rfl rfl
    (hb.mem ((Below.refl _ _).alloc (Nat.le_refl _) _)) Hl.out hc hm).mono ?_
  rintro e w2 ⟨rfl, n, hw2⟩
  have hS : Hid ((st128 l (BitVec.setWidth 64 seed, BitVec.setWidth 64 seed) (len / 16)) = st128 l (pair seed) (len / 16)) := rfl
  rw [hS.out] at hw2
  generalize hT : st128 l (pair seed) (len / 16) = T at *
  have HT := Lib.hid hT
  clear hT hS
  have hg2 := heap_set _ w.heap.size 21 _ 110 (.int .u64 (un T.2)) (heap_set ((w.alloc (.cells (dnew seed .nilIface (pair seed)) 110)).drewN n) w.heap.size 20 (dnew seed .nilIface (pair seed)) 110 (.int .u64 (un T.1)) (heap_alloc_new w _))
  rw [← hw2] at hg2
  have hb2 : Below w.heap.size w w2 := by
    rw [hw2]
    exact ((below_drewN ((Below.refl _ _).alloc (Nat.le_refl _) _) n).setCell (Nat.le_refl _) _).setCell (Nat.le_refl _) _
  clear hw2
  have c0 : w2.cell? ⟨w.heap.size, 0, none⟩ = some (.int .i64 0) := cell_of_row w2 _ 0 _ 110 (0, 0) hg2
  have c1 : w2.cell? ⟨w.heap.size, 1, none⟩ = some (.slice none 0 0) := cell_of_row w2 _ 1 _ 110 (0, 0) hg2
  have f0 := frozen_row w2 _ 0 _ 110 hg2
  have f1 := frozen_row w2 _ 1 _ 110 hg2
  have Hg2 := Lib.hid hg2
  clear hg2
  go_wp2_with fail
  have hg4 := heap_set _ _ 0 _ 110 (.int .i64 (len : Int)) (heap_set w2 _ 1 _ 110 (.slice (cutA a cap (16 * (len / 16))) (len - 16 * (len / 16)) (cap - 16 * (len / 16))) Hg2.out)
  have hb4 : Below w.heap.size w ((w2.setCell ⟨w.heap.size, 1, none⟩ (.slice (cutA a cap (16 * (len / 16))) (len - 16 * (len / 16)) (cap - 16 * (len / 16)))).setCell ⟨w.heap.size, 0, none⟩ (.int .i64 (len : Int))) :=
    (hb2.setCell (Nat.le_refl _) _).setCell (Nat.le_refl _) _
  refine (dsum128_any w.heap.size len (cutA a cap (16 * (len / 16))) (l.drop (16 * (len / 16))) (len - 16 * (len / 16)) (cap - 16 * (len / 16)) T.1 T.2 _ (cell_of_row _ _ 0 _ 110 (0, 0) hg4) (cell_of_row _ _ 1 _ 110 (0, 0) hg4)
    (cell_of_row _ _ 20 _ 110 (0, 0) hg4) (cell_of_row _ _ 21 _ 110 (0, 0) hg4) ((hb.drop cap _ (by rw [Hl.out]; exact hc)).mem hb4) (by rw [List.length_drop, Hl.out]) (by omega)).mono ?_
  rintro e w' ⟨rfl, n2, rfl⟩
  clear hg4
  go_wp2_with fail
  go_ret
  refine ⟨?_, below_drewN hb4 _⟩
  have e1 : sum128 l seed = fin128 T (l.drop (16 * (len / 16))) len := by rw [← HT.out, ← Hl.out]; rfl
  rw [e1]; rfl
theorem impl64_any (a : Option Addr) (len cap : Nat) (l : List UInt8) (seed : BitVec 32) (w : World) (hb : Bs w a l) (hl : l.length = len) (hc : len ≤ cap) (hm : cap ≤ 9223372036854775807) :
   Calls Try.prog 28 #[.slice a len cap, .int .u32 (un seed)] w fun e w' => e = .returned (.int .u64 (un (sum128 l seed).1)) ∧ Below w.heap.size w w' := by
  have Hl := Lib.hid hl
  clear hl
  go_enter Try.func28, Try.ntmps28
  go_wp2_with fail
  refine (sum64_any a len cap l seed _ hb Hl.out hc hm).mono ?_
  rintro e w' ⟨rfl, hbel⟩
  go_wp2_with fail
  go_ret
  exact ⟨rfl, hbel⟩
theorem told_any (a : Option Addr) (len cap : Nat) (l : List UInt8) (seed : BitVec 32) (w : World) (hb : Bs w a l) (hl : l.length = len) (hc : len ≤ cap) (hm : cap ≤ 9223372036854775807) :
   Calls Try.prog 29 #[.slice a len cap, .int .u32 (un seed)] w fun e w' => e = .returned (sums4 (sum32 l seed) (sum128 l seed).1 (sum128 l seed).1 (sum128 l seed).2) ∧ Below w.heap.size w w' := by
  have Hl := Lib.hid hl
  clear hl
  go_enter Try.func29, Try.ntmps29
  go_wp2_with fail
  have hb0 := hb.mem ((Below.refl w.heap.size w).alloc (Nat.le_refl _) (.cells #[.int .u32 0, .int .u64 0, .int .u64 0, .int .u64 0] 38))
  refine (spec128_any a len cap l seed _ hb0 Hl.out hc hm).mono ?_
  rintro e w1 ⟨rfl, n1, rfl⟩
  go_wp2_with fail
  refine (spec32_any a len cap l seed _ (hb0.drewN _) Hl.out hc hm).mono ?_
  rintro e w2 ⟨rfl, n2, rfl⟩
  go_wp2_with fail
  refine (impl64_any a len cap l seed _ (hb0.drewN _) Hl.out hc hm).mono ?_
  rintro e w3 ⟨rfl, hb3⟩
  have hg3 : w3.heap[w.heap.size]? = some (.cells #[.int .u32 0, .int .u64 0, .int .u64 0, .int .u64 0] 38 (0, 0)) := by
    rw [hb3.block w.heap.size (by simp)]; exact heap_alloc_new w _
  have hbw : Below w.heap.size w w3 := (below_drewN ((Below.refl w.heap.size w).alloc (Nat.le_refl _) (.cells #[.int .u32 0, .int .u64 0, .int .u64 0, .int .u64 0] 38)) (n1 + n2)).trans (hb3.mono (by simp))
  have c0 : w3.cell? ⟨w.heap.size, 0, none⟩ = some (.int .u32 0) := cell_of_row w3 _ 0 _ 38 (0, 0) hg3
  have c1 : w3.cell? ⟨w.heap.size, 1, none⟩ = some (.int .u64 0) := cell_of_row w3 _ 1 _ 38 (0, 0) hg3
  have c2 : w3.cell? ⟨w.heap.size, 2, none⟩ = some (.int .u64 0) := cell_of_row w3 _ 2 _ 38 (0, 0) hg3
  have c3 : w3.cell? ⟨w.heap.size, 3, none⟩ = some (.int .u64 0) := cell_of_row w3 _ 3 _ 38 (0, 0) hg3
  have f0 := frozen_row w3 _ 0 _ 38 hg3
  have f1 := frozen_row w3 _ 1 _ 38 hg3
  have f2 := frozen_row w3 _ 2 _ 38 hg3
  have f3 := frozen_row w3 _ 3 _ 38 hg3
  clear hg3
  go_wp2_with fail
  refine bodyPost_ret (v := sums4 (sum32 l seed) (sum128 l seed).1 (sum128 l seed).1 (sum128 l seed).2) (by simp [results, Try.results29, go_sem, c0, c1, c2, c3, sums4]) rfl ⟨rfl, (((hbw.setCell (Nat.le_refl _) _).setCell (Nat.le_refl _) _).setCell (Nat.le_refl _) _).setCell (Nat.le_refl _) _⟩
theorem fnSum64_any (a : Option Addr) (len cap : Nat) (l : List UInt8) (seed : BitVec 32) (w : World) (hb : Bs w a l) (hl : l.length = len) (hc : len ≤ cap) (hm : cap ≤ 9223372036854775807) :
   Calls Try.prog 11 #[.slice a len cap, .int .u32 (un seed)] w fun e w' => e = .returned (.bool true) ∧ Below w.heap.size w w' := by
  have Hl := Lib.hid hl
  clear hl
  by_cases hbig : 2147483647 < len
  · go_enter Try.func11, Try.ntmps11
    go_wp2_with fail
    go_ret
    exact ⟨rfl, Below.refl _ _⟩
  · go_enter Try.func11, Try.ntmps11
    go_wp2_with fail
    refine (impl128_any _ _ _ l _ _ hb Hl.out hc hm).mono ?_
    rintro e w1 ⟨rfl, hb1⟩
    go_wp2_with fail
    refine (spec128_any _ _ _ l _ _ (hb.mem hb1) Hl.out hc hm).mono ?_
    rintro e w' ⟨rfl, n2, rfl⟩
    go_wp2_with fail
    refine (impl64_any _ _ _ l _ _ ((hb.mem hb1).drewN _) Hl.out hc hm).mono ?_
    rintro e w3 ⟨rfl, hb3⟩
    have hb13 := (below_drewN hb1 n2).trans (hb3.mono (by simpa using hb1.size))
    go_wp2_with fail
    refine (works_any _).mono ?_
    rintro e w' ⟨rfl, hw⟩
    go_wp2_with fail
    go_ret
    exact ⟨rfl, hb13.trans (hw.mono hb13.size)⟩
end Go.Proofs.Ytfnejnoldonfeaa
