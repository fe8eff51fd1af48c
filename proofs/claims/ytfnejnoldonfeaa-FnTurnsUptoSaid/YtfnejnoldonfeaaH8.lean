/-
  The three hashers together: what they come to.
  Conditions: the digests lie in memory as 'Sums' says.
-/
import Derived.Test.YtfnejnoldonfeaaH7
import Derived.Test.YtfnejnoldonfeaaQt
import Derived.Test.YtfnejnoldonfeaaEqt
namespace Go.Proofs.Ytfnejnoldonfeaa
open Go.RowKit BigFrame

theorem wpQuiet_inv2 {ops : Array Oper} {C : World → Prop} {Q : Act → Prop} {rest : List Oper} {o : Oper} {a : Act} (hg : o.guard = none) (x : Operand) (nm : String) (ho : o.op = .call { callee := .invoke x nm, args := #[], argTypes := #[] })
    (v : Value) (r : Value) (hx : a.eval x = v) (F : FuncId) (hm : ∀ W, (invoke (.fn (.method nm) #[]) #[v]).run Try.prog W = .ok (.enter F #[r]) W) (u : Value) (hc : ∀ w, C w → Calls Try.prog F #[r] w fun e w'' => e = .returned u ∧ C w'')
    (hk : wpQuiet Try.prog ops C Q rest (a.put o.dst u)) : wpQuiet Try.prog ops C Q (o :: rest) a := by
  refine wpQuiet_step fun K hK => ?_
  rw [if_pos (by simp [Region.wanted, hg])]
  refine ⟨u, fun w hC => ?_, hK _ hk⟩
  unfold Oper.quietAt
  have : (execOp a.eval o).run Try.prog w = .ok (.enter F #[r]) w := by
    unfold execOp
    simp only [ho, resolve, Sem.run_bind, Sem.run_pure, Result.andThen_ok, hx]
    rw [show (#[v] ++ Array.map a.eval #[]) = #[v] from by simp]; exact hm w
  rw [this]
  exact ⟨rfl, hc w hC⟩
theorem m32 (g : Nat) (W : World) : (invoke (.fn (.method "Sum32") #[]) #[.iface 114 (.pointer (some ⟨g, 0, none⟩))]).run Try.prog W = .ok (.enter 102 #[.pointer (some ⟨g, 0, none⟩)]) W := by kernel_rfl
theorem m64 (g : Nat) (W : World) : (invoke (.fn (.method "Sum64") #[]) #[.iface 117 (.pointer (some ⟨g, 0, none⟩))]).run Try.prog W = .ok (.enter 106 #[.pointer (some ⟨g, 0, none⟩)]) W := by kernel_rfl

set_option maxRecDepth 100000 in
set_option maxHeartbeats 1600000 in
theorem tolds_any (g : Nat) (seed : BitVec 32) (l : List UInt8) (w : World) (s : Sums g seed l w) :
   Calls Try.prog 59 #[sumsV g] w fun e w' => e = .returned (sums4 (sum32 l seed) (sum128 l seed).1 (sum128 l seed).1 (sum128 l seed).2) ∧ Below w.heap.size w w' := by
  have S := Lib.hid s
  have hlt := s.s128.lt
  clear s
  unfold sumsV
  go_enter Try.func59, Try.ntmps59
  go_wp2_with fail
  have zB : (w.alloc (.cells #[.iface 114 (.pointer (some ⟨g, 0, none⟩)), .iface 117 (.pointer (some ⟨g + 1, 0, none⟩)), .iface 103 (.pointer (some ⟨g + 2, 0, none⟩))] 78)).heap.size = w.heap.size + 1 := by simp
  have b1 : Below w.heap.size w (w.alloc (.cells #[.iface 114 (.pointer (some ⟨g, 0, none⟩)), .iface 117 (.pointer (some ⟨g + 1, 0, none⟩)), .iface 103 (.pointer (some ⟨g + 2, 0, none⟩))] 78)) := (Below.refl w.heap.size w).alloc (Nat.le_refl _) _
  have g1 := heap_alloc_new w (.cells #[.iface 114 (.pointer (some ⟨g, 0, none⟩)), .iface 117 (.pointer (some ⟨g + 1, 0, none⟩)), .iface 103 (.pointer (some ⟨g + 2, 0, none⟩))] 78)
  generalize World.alloc w (.cells #[.iface 114 (.pointer (some ⟨g, 0, none⟩)), .iface 117 (.pointer (some ⟨g + 1, 0, none⟩)), .iface 103 (.pointer (some ⟨g + 2, 0, none⟩))] 78) = W1 at zB b1 g1 ⊢
  have b2 : Below (w.heap.size + 1) W1 (W1.alloc (.cells #[.int .u32 0, .int .u64 0, .int .u64 0, .int .u64 0] 38)) := (Below.refl _ W1).alloc (by omega) _
  have g2 := heap_alloc_new W1 (.cells #[.int .u32 0, .int .u64 0, .int .u64 0, .int .u64 0] 38)
  generalize World.alloc W1 (.cells #[.int .u32 0, .int .u64 0, .int .u64 0, .int .u64 0] 38) = W at b2 g2 ⊢
  rw [zB] at g2
  have g1 := (b2.block w.heap.size (by omega)).trans g1
  have S2 := (S.out.below b1).below (b2.mono (by omega))
  have bw := b1.trans (b2.mono (Nat.le_succ _))
  refine (dsumSt128 (g + 2) seed l W S2.s128).mono ?_
  rintro e w1 ⟨rfl, n1, rfl⟩
  go_wp2_with fail
  have c0 : W.cell? ⟨w.heap.size, 0, none⟩ = some (.iface 114 (.pointer (some ⟨g, 0, none⟩))) := cell_of_row W _ 0 _ 78 (0, 0) g1
  have c1 : W.cell? ⟨w.heap.size, 1, none⟩ = some (.iface 117 (.pointer (some ⟨g + 1, 0, none⟩))) := cell_of_row W _ 1 _ 78 (0, 0) g1
  refine wp_region_quiet_tail (fun w' => ∃ n, w' = W.drewN n) 9 (by kernel_rfl) (by kernel_rfl) ⟨n1 + 1, rfl⟩ ?_
  simp only [List.take_succ_cons, List.take_zero, List.drop_succ_cons, List.drop_zero]
  repeat (go_big_quiet_step (fail))
  refine wpQuiet_inv2 rfl _ _ rfl _ _ rfl 102 (fun W => m32 g W) (.int .u32 (un (sum32 l seed))) (by rintro _ ⟨n, rfl⟩; exact Calls.quiet_of (dsumSt32 g seed l _ (S2.s32.keep rfl))) ?_
  simp only [Act.put, List.setIfInBounds_toArray, List.set_cons_succ, List.set_cons_zero]
  repeat (go_big_quiet_step (fail))
  refine wpQuiet_inv2 rfl _ _ rfl _ _ rfl 106 (fun W => m64 (g + 1) W) (.int .u64 (un (sum128 l seed).1)) (by rintro _ ⟨n, rfl⟩; exact Calls.quiet_of (dsumSt64 (g + 1) seed l _ (S2.s64.keep rfl))) ?_
  simp only [Act.put, List.setIfInBounds_toArray, List.set_cons_succ, List.set_cons_zero]
  repeat (go_big_quiet_step (fail))
  refine wpQuiet_nil ?_
  rintro _ ⟨nq, rfl⟩
  have hbw : Below w.heap.size w (W.drewN nq) := below_drewN bw nq
  have g3 : (W.drewN nq).heap[w.heap.size + 1]? = some (.cells #[.int .u32 0, .int .u64 0, .int .u64 0, .int .u64 0] 38 (0, 0)) := g2
  generalize W.drewN nq = w3 at hbw g3 ⊢
  have c0 : w3.cell? ⟨w.heap.size + 1, 0, none⟩ = some (.int .u32 0) := cell_of_row w3 _ 0 _ 38 (0, 0) g3
  have c1 : w3.cell? ⟨w.heap.size + 1, 1, none⟩ = some (.int .u64 0) := cell_of_row w3 _ 1 _ 38 (0, 0) g3
  have c2 : w3.cell? ⟨w.heap.size + 1, 2, none⟩ = some (.int .u64 0) := cell_of_row w3 _ 2 _ 38 (0, 0) g3
  have c3 : w3.cell? ⟨w.heap.size + 1, 3, none⟩ = some (.int .u64 0) := cell_of_row w3 _ 3 _ 38 (0, 0) g3
  have f0 := frozen_row w3 _ 0 _ 38 g3
  have f1 := frozen_row w3 _ 1 _ 38 g3
  have f2 := frozen_row w3 _ 2 _ 38 g3
  have f3 := frozen_row w3 _ 3 _ 38 g3
  clear g3
  go_wp2_with fail
  refine bodyPost_ret (v := sums4 (sum32 l seed) (sum128 l seed).1 (sum128 l seed).1 (sum128 l seed).2) (by simp [results, Try.results59, go_sem, c0, c1, c2, c3, sums4]) rfl ⟨rfl, (((hbw.setCell (Nat.le_succ _) _).setCell (Nat.le_succ _) _).setCell (Nat.le_succ _) _).setCell (Nat.le_succ _) _⟩
end Go.Proofs.Ytfnejnoldonfeaa
