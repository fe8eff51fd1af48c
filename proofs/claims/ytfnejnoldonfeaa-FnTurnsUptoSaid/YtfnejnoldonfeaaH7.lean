/-
  The three hashers together: bytes written to each; what they come to.
  Conditions: the digests lie in memory as 'Sums' says.
-/
import Derived.Test.YtfnejnoldonfeaaH6
namespace Go.Proofs.Ytfnejnoldonfeaa
open Go.RowKit BigFrame

set_option maxRecDepth 100000 in
set_option maxHeartbeats 1600000 in
theorem writes_any (g : Nat) (seed : BitVec 32) (l : List UInt8) (a : Option Addr) (len cap : Nat) (q : List UInt8) (w : World) (s : Sums g seed l w)
    (hb : Low g w a q) (hl : q.length = len) (hc : len ≤ cap) (hm : cap ≤ 9223372036854775807) (hn : l.length + len ≤ 9223372036854775807) :
   Calls Try.prog 60 #[sumsV g, .slice a len cap] w fun e w' => e = .returned (.bool true) ∧ Turn g 3 w w' ∧ Sums g seed (l ++ q) w' := by
  have Hl := Lib.hid hl
  have Hb := Lib.hid hb
  have S := Lib.hid s
  have hlt := s.s128.lt
  clear hl hb s
  unfold sumsV
  go_enter Try.func60, Try.ntmps60
  go_wp2_with fail
  refine wp_loop_rounds 4 ?_
  rw [rounds_succ]
  go_wp2_with fail
  have zB : (w.alloc (.cells #[.iface 114 (.pointer (some ⟨g, 0, none⟩)), .iface 117 (.pointer (some ⟨g + 1, 0, none⟩)), .iface 103 (.pointer (some ⟨g + 2, 0, none⟩))] 78)).heap.size = w.heap.size + 1 := by simp
  have bW : Below w.heap.size w ((w.alloc (.cells #[.iface 114 (.pointer (some ⟨g, 0, none⟩)), .iface 117 (.pointer (some ⟨g + 1, 0, none⟩)), .iface 103 (.pointer (some ⟨g + 2, 0, none⟩))] 78)).alloc (.cells #[.iface 114 (.pointer (some ⟨g, 0, none⟩)), .iface 117 (.pointer (some ⟨g + 1, 0, none⟩)), .iface 103 (.pointer (some ⟨g + 2, 0, none⟩))] 82)) := ((Below.refl w.heap.size w).alloc (Nat.le_refl _) _).alloc (by omega) _
  have gW := heap_alloc_new (w.alloc (.cells #[.iface 114 (.pointer (some ⟨g, 0, none⟩)), .iface 117 (.pointer (some ⟨g + 1, 0, none⟩)), .iface 103 (.pointer (some ⟨g + 2, 0, none⟩))] 78)) (.cells #[.iface 114 (.pointer (some ⟨g, 0, none⟩)), .iface 117 (.pointer (some ⟨g + 1, 0, none⟩)), .iface 103 (.pointer (some ⟨g + 2, 0, none⟩))] 82)
  generalize hW : World.alloc (w.alloc (.cells #[.iface 114 (.pointer (some ⟨g, 0, none⟩)), .iface 117 (.pointer (some ⟨g + 1, 0, none⟩)), .iface 103 (.pointer (some ⟨g + 2, 0, none⟩))] 78)) (.cells #[.iface 114 (.pointer (some ⟨g, 0, none⟩)), .iface 117 (.pointer (some ⟨g + 1, 0, none⟩)), .iface 103 (.pointer (some ⟨g + 2, 0, none⟩))] 82) = W at bW gW ⊢
  rw [zB] at gW
  have t0 : Turn g 3 w W := Turn.of_below bW
  have S0 := S.out.below bW
  have L0 := Hb.out.below bW (by omega)
  have cells : ∀ w' : World, w'.heap[w.heap.size + 1]? = W.heap[w.heap.size + 1]? → w'.cell? ⟨w.heap.size + 1, 0, none⟩ = some (.iface 114 (.pointer (some ⟨g, 0, none⟩))) ∧
      w'.cell? ⟨w.heap.size + 1, 1, none⟩ = some (.iface 117 (.pointer (some ⟨g + 1, 0, none⟩))) ∧ w'.cell? ⟨w.heap.size + 1, 2, none⟩ = some (.iface 103 (.pointer (some ⟨g + 2, 0, none⟩))) := fun w' h =>
    ⟨cell_of_row w' _ 0 _ 82 (0, 0) (h.trans gW), cell_of_row w' _ 1 _ 82 (0, 0) (h.trans gW), cell_of_row w' _ 2 _ 82 (0, 0) (h.trans gW)⟩
  have Hcells := Lib.hid cells
  clear cells bW gW hW zB
  refine (write32 g seed l a len cap q _ S0.s32 (L0.far (Nat.le_refl _)) Hl.out hc hm hn).mono ?_
  rintro e w1 ⟨rfl, o1, s1⟩
  obtain ⟨c0, c1, c2⟩ := Hcells.out w1 (o1.block _ (by omega))
  go_wp2_with fail
  rw [rounds_succ]
  go_wp2_with fail
  have S1 := S0.s64.keep (o1.block _ (by omega))
  have L1 := L0.below (o1.below (Nat.le_refl _)) (Nat.le_refl _)
  clear c0 c1 c2
  refine (write128 (g + 1) seed l a len cap q _ S1 (L1.far (by omega)) Hl.out hc hm hn).mono ?_
  rintro e w2 ⟨rfl, o2, s2⟩
  obtain ⟨c0, c1, c2⟩ := Hcells.out w2 ((o2.block _ (by omega)).trans (o1.block _ (by omega)))
  go_wp2_with fail
  rw [rounds_succ]
  go_wp2_with fail
  have S2 := S0.s128.keep ((o2.block (g + 2) (by omega)).trans (o1.block _ (by omega)))
  have L2 := L1.below (o2.below (Nat.le_succ g)) (Nat.le_refl _)
  clear c0 c1 c2
  refine (write128 (g + 2) seed l a len cap q _ S2 (L2.far (by omega)) Hl.out hc hm hn).mono ?_
  rintro e w3 ⟨rfl, o3, s3⟩
  obtain ⟨c0, c1, c2⟩ := Hcells.out w3 ((o3.block _ (by omega)).trans ((o2.block _ (by omega)).trans (o1.block _ (by omega))))
  go_wp2_with fail
  rw [rounds_succ]
  go_wp2_with fail
  go_ret
  refine ⟨rfl, ((t0.trans (Turn.of_only o1 (by omega) (by omega))).trans (Turn.of_only o2 (by omega) (by omega))).trans (Turn.of_only o3 (by omega) (by omega)), ?_, ?_, s3⟩
  · exact s1.keep ((o3.block _ (by omega)).trans (o2.block _ (by omega)))
  · exact s2.keep (o3.block _ (by omega))
end Go.Proofs.Ytfnejnoldonfeaa
