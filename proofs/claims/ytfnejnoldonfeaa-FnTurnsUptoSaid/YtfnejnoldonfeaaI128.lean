/-
  What the program's functions of the sum of 128 bits return.
  Conditions: each slice's bytes lie in memory as 'Bs' says.
-/
import Derived.Test.YtfnejnoldonfeaaD128
namespace Go.Proofs.Ytfnejnoldonfeaa
open Go.RowKit
/-- A block known whole, behind stores into it. -/
theorem heap_set (W : World) (g i : Nat) (cs : Array Value) (t : TypeId) (v : Value) (hg : W.heap[g]? = some (.cells cs t (0, 0))) : (W.setCell ⟨g, i, none⟩ v).heap[g]? = some (.cells (cs.setIfInBounds i v) t (0, 0)) := by
  simp [World.setCell, Array.getElem?_modify, hg]
theorem frozen_row (W : World) (g i : Nat) (cs : Array Value) (t : TypeId) (hg : W.heap[g]? = some (.cells cs t (0, 0))) : W.frozen? ⟨g, i, none⟩ = false := by
  simp [World.frozen?, hg]
/-- A new digest's cells. -/
def dnew (seed : BitVec 32) (bm : Value) (h : BitVec 64 × BitVec 64) : Array Value :=
  #[.int .i64 0, .slice none 0 0, .int .u8 0, .int .u8 0, .int .u8 0, .int .u8 0, .int .u8 0, .int .u8 0, .int .u8 0, .int .u8 0, .int .u8 0, .int .u8 0, .int .u8 0, .int .u8 0, .int .u8 0, .int .u8 0, .int .u8 0, .int .u8 0, .int .u32 (un seed), bm, .int .u64 (un h.1), .int .u64 (un h.2)]
set_option maxRecDepth 100000 in
set_option maxHeartbeats 800000 in
theorem sum128_any (a : Option Addr) (len cap : Nat) (l : List UInt8) (seed : BitVec 32) (w : World) (hb : Bs w a l) (hl : l.length = len) (hc : len ≤ cap) (hm : cap ≤ 9223372036854775807) :
   Calls Try.prog 49 #[.slice a len cap, .int .u32 (un seed)] w fun e w' =>
     e = .returned (.tuple #[.int .u64 (un (sum128 l seed).1), .int .u64 (un (sum128 l seed).2)]) ∧ Below w.heap.size w w' := by
  have Hl := Lib.hid hl
  clear hl
  go_enter Try.func49, Try.ntmps49
  go_wp2_with fail
  refine (bmix128_any w.heap.size (dnew seed .nilIface (pair seed)) (seed.setWidth 64) (seed.setWidth 64) a len cap l (w.alloc (.cells (dnew seed .nilIface (pair seed)) 110)) (heap_alloc_new w _) rfl rfl
    (hb.mem ((Below.refl _ _).alloc (Nat.le_refl _) _)) Hl.out hc hm).mono ?_
  rintro e w2 ⟨rfl, n, hw2⟩
  have hS : Hid ((st128 l (BitVec.setWidth 64 seed, BitVec.setWidth 64 seed) (len / 16)) = st128 l (pair seed) (len / 16)) := rfl
  rw [hS.out] at hw2
  generalize hT : st128 l (pair seed) (len / 16) = T at *
  have HT := Lib.hid hT
  clear hT hS
  have hg2 := heap_set _ w.heap.size 21 _ 110 (.int .u64 (un T.2)) (heap_set ((w.alloc (.cells (dnew seed .nilIface (pair seed)) 110)).drewN n) w.heap.size 20 (dnew seed .nilIface (pair seed)) 110 (.int .u64 (un T.1)) (heap_alloc_new w _))
  rw [← hw2] at hg2
  have hb2 : Below w.heap.size w w2 := by
    rw [hw2]
    exact ((below_drewN ((Below.refl _ _).alloc (Nat.le_refl _) _) n).setCell (Nat.le_refl _) _).setCell (Nat.le_refl _) _
  clear hw2
  have c0 : w2.cell? ⟨w.heap.size, 0, none⟩ = some (.int .i64 0) := cell_of_row w2 _ 0 _ 110 (0, 0) hg2
  have c1 : w2.cell? ⟨w.heap.size, 1, none⟩ = some (.slice none 0 0) := cell_of_row w2 _ 1 _ 110 (0, 0) hg2
  have f0 := frozen_row w2 _ 0 _ 110 hg2
  have f1 := frozen_row w2 _ 1 _ 110 hg2
  have Hg2 := Lib.hid hg2
  clear hg2
  go_wp2_with fail
  have hg4 := heap_set _ _ 0 _ 110 (.int .i64 (len : Int)) (heap_set w2 _ 1 _ 110 (.slice (cutA a cap (16 * (len / 16))) (len - 16 * (len / 16)) (cap - 16 * (len / 16))) Hg2.out)
  have hb4 : Below w.heap.size w ((w2.setCell ⟨w.heap.size, 1, none⟩ (.slice (cutA a cap (16 * (len / 16))) (len - 16 * (len / 16)) (cap - 16 * (len / 16)))).setCell ⟨w.heap.size, 0, none⟩ (.int .i64 (len : Int))) :=
    (hb2.setCell (Nat.le_refl _) _).setCell (Nat.le_refl _) _
  refine (dsum128_any w.heap.size len (cutA a cap (16 * (len / 16))) (l.drop (16 * (len / 16))) (len - 16 * (len / 16)) (cap - 16 * (len / 16)) T.1 T.2 _ (cell_of_row _ _ 0 _ 110 (0, 0) hg4) (cell_of_row _ _ 1 _ 110 (0, 0) hg4)
    (cell_of_row _ _ 20 _ 110 (0, 0) hg4) (cell_of_row _ _ 21 _ 110 (0, 0) hg4) ((hb.drop cap _ (by rw [Hl.out]; exact hc)).mem hb4) (by rw [List.length_drop, Hl.out]) (by omega)).mono ?_
  rintro e w' ⟨rfl, n2, rfl⟩
  clear hg4
  go_wp2_with fail
  go_ret2
  refine ⟨?_, below_drewN hb4 _⟩
  have e1 : sum128 l seed = fin128 T (l.drop (16 * (len / 16))) len := by rw [← HT.out, ← Hl.out]; rfl
  rw [e1]; rfl
theorem impl128_any (a : Option Addr) (len cap : Nat) (l : List UInt8) (seed : BitVec 32) (w : World) (hb : Bs w a l) (hl : l.length = len) (hc : len ≤ cap) (hm : cap ≤ 9223372036854775807) :
   Calls Try.prog 25 #[.slice a len cap, .int .u32 (un seed)] w fun e w' =>
     e = .returned (.tuple #[.int .u64 (un (sum128 l seed).1), .int .u64 (un (sum128 l seed).2)]) ∧ Below w.heap.size w w' := by
  have Hl := Lib.hid hl
  clear hl
  go_enter Try.func25, Try.ntmps25
  go_wp2_with fail
  refine (sum128_any a len cap l seed _ hb Hl.out hc hm).mono ?_
  rintro e w' ⟨rfl, hbel⟩
  go_wp2_with fail
  go_ret2
  exact ⟨rfl, hbel⟩
end Go.Proofs.Ytfnejnoldonfeaa
