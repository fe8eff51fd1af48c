/-
  The law FnBare as a walk: it returns true.
  Conditions: the bytes lie in memory.
-/
import Derived.Test.YtfnejnoldonfeaaB1
import Derived.Test.YtfnejnoldonfeaaEqw
namespace Go.Proofs.Ytfnejnoldonfeaa
open Go.RowKit
set_option maxRecDepth 100000 in
set_option maxHeartbeats 1600000 in
theorem fnBare_any (a : Option Addr) (len cap : Nat) (l : List UInt8) (w : World) (hb : Bs w a l) (hl : l.length = len) (hc : len ≤ cap) (hm : cap ≤ 9223372036854775807) :
   Calls Try.prog 16 #[.slice a len cap] w fun e w' => e = .returned (.bool true) ∧ Below w.heap.size w w' := by
  have Hl := Lib.hid hl
  clear hl
  by_cases hbig : 2147483647 < len
  · go_enter Try.func16, Try.ntmps16
    go_wp2_with fail
    go_ret
    exact ⟨rfl, Below.refl _ _⟩
  · go_enter Try.func16, Try.ntmps16
    go_wp2_with fail
    refine (told_any _ _ _ l 0#32 _ hb Hl.out hc hm).mono ?_
    rintro e w1 ⟨rfl, hb1⟩
    have HB := Lib.hid hb
    clear hb
    unfold sums4
    go_wp2_with fail
    have gW := heap_alloc_new w1 (.cells #[.int .u32 (un (sum32 l 0#32)), .int .u64 (un (sum128 l 0#32).1), .int .u64 (un (sum128 l 0#32).1), .int .u64 (un (sum128 l 0#32).2)] 38)
    have bW : Below w.heap.size w (w1.alloc (.cells #[.int .u32 (un (sum32 l 0#32)), .int .u64 (un (sum128 l 0#32).1), .int .u64 (un (sum128 l 0#32).1), .int .u64 (un (sum128 l 0#32).2)] 38)) := hb1.alloc hb1.size _
    have zW : (w1.alloc (.cells #[.int .u32 (un (sum32 l 0#32)), .int .u64 (un (sum128 l 0#32).1), .int .u64 (un (sum128 l 0#32).1), .int .u64 (un (sum128 l 0#32).2)] 38)).heap.size = w1.heap.size + 1 := by simp
    generalize w1.alloc (.cells #[.int .u32 (un (sum32 l 0#32)), .int .u64 (un (sum128 l 0#32).1), .int .u64 (un (sum128 l 0#32).1), .int .u64 (un (sum128 l 0#32).2)] 38) = W at gW bW zW ⊢
    refine (bare_any _ _ _ l _ (HB.out.mem bW) Hl.out hc hm).mono ?_
    rintro e w2 ⟨rfl, hb2⟩
    go_wp2_with fail
    have b2 := bW.trans (hb2.mono bW.size)
    refine (new_any _ _ _ l _ (HB.out.mem b2) Hl.out hc hm).mono ?_
    rintro e w3 ⟨rfl, hb3⟩
    have b3 := b2.trans (hb3.mono b2.size)
    have g3 : w3.heap[w1.heap.size]? = _ := ((hb3.block _ (by have := hb2.size; omega)).trans (hb2.block _ (by omega))).trans gW
    have c0 : w3.cell? ⟨w1.heap.size, 0, none⟩ = some (.int .u32 (un (sum32 l 0#32))) := cell_of_row w3 _ 0 _ 38 (0, 0) g3
    have c1 : w3.cell? ⟨w1.heap.size, 1, none⟩ = some (.int .u64 (un (sum128 l 0#32).1)) := cell_of_row w3 _ 1 _ 38 (0, 0) g3
    have c2 : w3.cell? ⟨w1.heap.size, 2, none⟩ = some (.int .u64 (un (sum128 l 0#32).1)) := cell_of_row w3 _ 2 _ 38 (0, 0) g3
    have c3 : w3.cell? ⟨w1.heap.size, 3, none⟩ = some (.int .u64 (un (sum128 l 0#32).2)) := cell_of_row w3 _ 3 _ 38 (0, 0) g3
    clear g3 gW hb2 hb3 bW b2
    go_wp2_with (refine wpList_eql38 (by rfl) _ _ _ rfl _ _ _ _ _ _ _ _ rfl rfl ?_)
    refine (works_any _).mono ?_
    rintro e w' ⟨rfl, hw⟩
    go_wp2_with fail
    go_ret
    exact ⟨rfl, b3.trans (hw.mono b3.size)⟩
end Go.Proofs.Ytfnejnoldonfeaa
