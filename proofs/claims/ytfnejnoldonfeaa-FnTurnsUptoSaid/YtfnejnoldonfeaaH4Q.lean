/-
  A quiet region that calls Size through an interface.
  Conditions: the digest lies in memory as 'Dig' says; the bytes lie elsewhere.
-/
import Derived.Test.YtfnejnoldonfeaaH4
import Derived.BigQuiet
namespace Go.Proofs.Ytfnejnoldonfeaa
open Go.RowKit BigFrame

theorem wpQuiet_inv {ops : Array Oper} {C : World → Prop} {Q : Act → Prop} {rest : List Oper} {o : Oper} {a : Act} (hg : o.guard = none) (x : Operand) (nm : String) (ho : o.op = .call { callee := .invoke x nm, args := #[], argTypes := #[] })
    (v : Value) (r : Value) (hx : a.eval x = v) (F : FuncId) (hm : ∀ W, (invoke (.fn (.method nm) #[]) #[v]).run Try.prog W = .ok (.enter F #[r]) W) (u : Value) (hc : ∀ w, C w → Calls Try.prog F #[r] w fun e w'' => e = .returned u ∧ C w'')
    (hk : wpQuiet Try.prog ops C Q rest (a.put o.dst u)) : wpQuiet Try.prog ops C Q (o :: rest) a := by
  refine wpQuiet_step fun K hK => ?_
  rw [if_pos (by simp [Region.wanted, hg])]
  refine ⟨u, fun w hC => ?_, hK _ hk⟩
  unfold Oper.quietAt
  have : (execOp a.eval o).run Try.prog w = .ok (.enter F #[r]) w := by
    unfold execOp
    simp only [ho, resolve, Sem.run_bind, Sem.run_pure, Result.andThen_ok, hx]
    rw [show (#[v] ++ Array.map a.eval #[]) = #[v] from by simp]; exact hm w
  rw [this]
  exact ⟨rfl, hc w hC⟩
theorem msize128 (g : Nat) (W : World) : (invoke (.fn (.method "Size") #[]) #[.iface 103 (.pointer (some ⟨g, 0, none⟩))]).run Try.prog W = .ok (.enter 77 #[.pointer (some ⟨g, 0, none⟩)]) W := by kernel_rfl
theorem msize32 (g : Nat) (W : World) : (invoke (.fn (.method "Size") #[]) #[.iface 114 (.pointer (some ⟨g, 0, none⟩))]).run Try.prog W = .ok (.enter 100 #[.pointer (some ⟨g, 0, none⟩)]) W := by kernel_rfl
end Go.Proofs.Ytfnejnoldonfeaa
