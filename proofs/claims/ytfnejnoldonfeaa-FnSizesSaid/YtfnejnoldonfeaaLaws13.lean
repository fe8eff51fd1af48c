/-
  The law FnSizes as a walk: it returns true.
  Conditions: the bytes lie in memory.
-/
import Derived.Test.YtfnejnoldonfeaaApd
namespace Go.Proofs.Ytfnejnoldonfeaa
open Go.RowKit BigFrame
theorem equal_two (w : World) : (Op.equalIn 10000 50 (.agg #[.int .i64 4, .int .i64 16]) (.agg #[.int .i64 4, .int .i64 16])).run Try.prog w = .ok true w := by kernel_rfl
attribute [local go_sem] equal_two
set_option maxRecDepth 100000 in
set_option maxHeartbeats 1600000 in
theorem fnSizes_any (seed : BitVec 32) (a : Option Addr) (len cap : Nat) (l : List UInt8) (w : World) (hb : Bs w a l) (hl : l.length = len) (hc : len ≤ cap) (hm : cap ≤ 9223372036854775807) :
   Calls Try.prog 14 #[.int .u32 (un seed), .slice a len cap] w fun e w' => e = .returned (.bool true) ∧ Below w.heap.size w w' := by
  have Hl := Lib.hid hl
  clear hl
  by_cases hbig : 2147483647 < len
  · go_enter Try.func14, Try.ntmps14
    go_wp2_with fail
    go_ret
    exact ⟨rfl, Below.refl _ _⟩
  · go_enter Try.func14, Try.ntmps14
    go_wp2_with fail
    refine (appended_any seed a len cap l none 0 0 [] w hb Hl.out hc hm (.inl rfl) rfl (by omega)).mono ?_
    rintro e w1 ⟨a1, c1, a2, c2, a3, c3, rfl, b1, -, -, -⟩
    simp only [Nat.zero_add]
    go_wp2_with fail
    have z1 : (w1.alloc (.cells #[.slice a1 4 c1, .slice a2 8 c2, .slice a3 16 c3] 48)).heap.size = w1.heap.size + 1 := by simp
    have g1 := heap_alloc_new w1 (.cells #[.slice a1 4 c1, .slice a2 8 c2, .slice a3 16 c3] 48)
    have b01 : Below w.heap.size w (w1.alloc (.cells #[.slice a1 4 c1, .slice a2 8 c2, .slice a3 16 c3] 48)) := b1.alloc b1.size _
    generalize w1.alloc (.cells #[.slice a1 4 c1, .slice a2 8 c2, .slice a3 16 c3] 48) = W at z1 g1 b01 ⊢
    refine (sizes_any _).mono ?_
    rintro e w2 ⟨rfl, b2⟩
    have b02 := b01.trans (b2.mono b01.size)
    have g2 := (b2.block _ (by omega)).trans g1
    have k0 : w2.cell? ⟨w1.heap.size, 0, none⟩ = some (.slice a1 4 c1) := cell_of_row w2 _ 0 _ 48 (0, 0) g2
    have k2 : w2.cell? ⟨w1.heap.size, 2, none⟩ = some (.slice a3 16 c3) := cell_of_row w2 _ 2 _ 48 (0, 0) g2
    have zz : w1.heap.size < w2.heap.size := by have := b2.size; omega
    clear g1 g2 b01 b2 b1 z1
    go_wp2_with fail
    go_ret
    exact ⟨rfl, b02.alloc b02.size _⟩
end Go.Proofs.Ytfnejnoldonfeaa
