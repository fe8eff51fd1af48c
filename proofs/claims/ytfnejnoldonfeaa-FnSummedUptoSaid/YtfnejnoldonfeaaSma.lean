/-
  (sums).sum: Sum of each of the three hashers, onto nothing.
  Conditions: the digests lie in memory as 'Sums' says.
-/
import Derived.Test.YtfnejnoldonfeaaDs
namespace Go.Proofs.Ytfnejnoldonfeaa
open Go.RowKit BigFrame

set_option maxRecDepth 100000 in
set_option maxHeartbeats 1600000 in
theorem sumAll_any (g : Nat) (seed : BitVec 32) (l : List UInt8) (w : World) (s : Sums g seed l w) :
   Calls Try.prog 68 #[sumsV g] w fun e w' => e = .returned (.tuple #[]) ∧ Below w.heap.size w w' := by
  have S := Lib.hid s
  have hlt := s.s128.lt
  clear s
  unfold sumsV
  go_enter Try.func68, Try.ntmps68
  go_wp2_with fail
  refine wp_loop_rounds 4 ?_
  rw [rounds_succ]
  go_wp2_with fail
  have zB : (w.alloc (.cells #[.iface 114 (.pointer (some ⟨g, 0, none⟩)), .iface 117 (.pointer (some ⟨g + 1, 0, none⟩)), .iface 103 (.pointer (some ⟨g + 2, 0, none⟩))] 78)).heap.size = w.heap.size + 1 := by simp
  have bW : Below w.heap.size w ((w.alloc (.cells #[.iface 114 (.pointer (some ⟨g, 0, none⟩)), .iface 117 (.pointer (some ⟨g + 1, 0, none⟩)), .iface 103 (.pointer (some ⟨g + 2, 0, none⟩))] 78)).alloc (.cells #[.iface 114 (.pointer (some ⟨g, 0, none⟩)), .iface 117 (.pointer (some ⟨g + 1, 0, none⟩)), .iface 103 (.pointer (some ⟨g + 2, 0, none⟩))] 82)) := ((Below.refl w.heap.size w).alloc (Nat.le_refl _) _).alloc (by omega) _
  have gW := heap_alloc_new (w.alloc (.cells #[.iface 114 (.pointer (some ⟨g, 0, none⟩)), .iface 117 (.pointer (some ⟨g + 1, 0, none⟩)), .iface 103 (.pointer (some ⟨g + 2, 0, none⟩))] 78)) (.cells #[.iface 114 (.pointer (some ⟨g, 0, none⟩)), .iface 117 (.pointer (some ⟨g + 1, 0, none⟩)), .iface 103 (.pointer (some ⟨g + 2, 0, none⟩))] 82)
  have zW : (World.alloc (w.alloc (.cells #[.iface 114 (.pointer (some ⟨g, 0, none⟩)), .iface 117 (.pointer (some ⟨g + 1, 0, none⟩)), .iface 103 (.pointer (some ⟨g + 2, 0, none⟩))] 78)) (.cells #[.iface 114 (.pointer (some ⟨g, 0, none⟩)), .iface 117 (.pointer (some ⟨g + 1, 0, none⟩)), .iface 103 (.pointer (some ⟨g + 2, 0, none⟩))] 82)).heap.size = w.heap.size + 2 := by simp
  generalize hW : World.alloc (w.alloc (.cells #[.iface 114 (.pointer (some ⟨g, 0, none⟩)), .iface 117 (.pointer (some ⟨g + 1, 0, none⟩)), .iface 103 (.pointer (some ⟨g + 2, 0, none⟩))] 78)) (.cells #[.iface 114 (.pointer (some ⟨g, 0, none⟩)), .iface 117 (.pointer (some ⟨g + 1, 0, none⟩)), .iface 103 (.pointer (some ⟨g + 2, 0, none⟩))] 82) = W at bW gW zW ⊢
  rw [zB] at gW
  have S0 := S.out.below bW
  have cells : ∀ w' : World, Below W.heap.size W w' → w'.cell? ⟨w.heap.size + 1, 0, none⟩ = some (.iface 114 (.pointer (some ⟨g, 0, none⟩))) ∧
      w'.cell? ⟨w.heap.size + 1, 1, none⟩ = some (.iface 117 (.pointer (some ⟨g + 1, 0, none⟩))) ∧ w'.cell? ⟨w.heap.size + 1, 2, none⟩ = some (.iface 103 (.pointer (some ⟨g + 2, 0, none⟩))) := fun w' h =>
    have h := h.block (w.heap.size + 1) (by omega)
    ⟨cell_of_row w' _ 0 _ 82 (0, 0) (h.trans gW), cell_of_row w' _ 1 _ 82 (0, 0) (h.trans gW), cell_of_row w' _ 2 _ 82 (0, 0) (h.trans gW)⟩
  have Hcells := Lib.hid cells
  clear cells gW hW zB zW
  refine (sums32_any g seed l W.heap.size none 0 0 [] W S0.s32 (Own.nil _ _) (by decide) (Nat.le_refl _)).mono ?_
  rintro e w1 ⟨A1, C1, rfl, -, o1⟩
  obtain ⟨c0, c1, c2⟩ := Hcells.out w1 o1
  go_wp2_with fail
  rw [rounds_succ]
  go_wp2_with fail
  clear c0 c1 c2
  have S1 := S0.below o1
  refine (sums64_any (g + 1) seed l W.heap.size none 0 0 [] w1 S1.s64 (Own.nil _ _) (by decide) o1.size).mono ?_
  rintro e w2 ⟨A2, C2, rfl, -, o2⟩
  have o2 := o1.trans o2
  obtain ⟨c0, c1, c2⟩ := Hcells.out w2 o2
  go_wp2_with fail
  rw [rounds_succ]
  go_wp2_with fail
  clear c0 c1 c2
  have S2 := S0.below o2
  refine (sums128_any (g + 2) seed l W.heap.size none 0 0 [] w2 S2.s128 (Own.nil _ _) (by decide) o2.size).mono ?_
  rintro e w3 ⟨A3, C3, rfl, -, o3⟩
  have o3 := o2.trans o3
  obtain ⟨c0, c1, c2⟩ := Hcells.out w3 o3
  go_wp2_with fail
  rw [rounds_succ]
  go_wp2_with fail
  go_end0
  exact ⟨rfl, bW.trans (o3.mono bW.size)⟩
end Go.Proofs.Ytfnejnoldonfeaa
