/-
  The comparison of two values of the sums, as a step of a walk.
  Conditions: none.
-/
import Derived.Test.YtfnejnoldonfeaaEqt
namespace Go.Proofs.Ytfnejnoldonfeaa
open Go.RowKit
theorem wpList_eql38 {ops : Array Oper} {rest : List Oper} {o : Oper} {ac : Act} {Q : Exit → Act → World → Prop} {w : World} (hw : Region.wanted o (yielded ops ac.tmps) = true) (x y : Operand) (rt : TypeId)
    (ho : o.op = .binOp .eql 38 x y rt) (a a' : BitVec 32) (b b' c c' d d' : BitVec 64) (hx : ac.eval x = sums4 a b c d) (hy : ac.eval y = sums4 a' b' c' d')
    (h : wpList Try.prog ops Q rest (ac.put o.dst (.bool (a == a' && (b == b' && (c == c' && d == d'))))) w) : wpList Try.prog ops Q (o :: rest) ac w := by
  refine wpList_step fun K hK => ?_
  rw [if_pos hw]
  unfold Oper.wp execOp
  simp only [ho, Sem.run_bind, hx, hy, guard_sums, eq_sums, Result.andThen_ok, Sem.run_pure]
  exact hK _ _ h
theorem wpList_neq38 {ops : Array Oper} {rest : List Oper} {o : Oper} {ac : Act} {Q : Exit → Act → World → Prop} {w : World} (hw : Region.wanted o (yielded ops ac.tmps) = true) (x y : Operand) (rt : TypeId)
    (ho : o.op = .binOp .neq 38 x y rt) (a a' : BitVec 32) (b b' c c' d d' : BitVec 64) (hx : ac.eval x = sums4 a b c d) (hy : ac.eval y = sums4 a' b' c' d')
    (h : wpList Try.prog ops Q rest (ac.put o.dst (.bool (!(a == a' && (b == b' && (c == c' && d == d')))))) w) : wpList Try.prog ops Q (o :: rest) ac w := by
  refine wpList_step fun K hK => ?_
  rw [if_pos hw]
  unfold Oper.wp execOp
  simp only [ho, Sem.run_bind, hx, hy, guard_sums, neq_sums, Result.andThen_ok, Sem.run_pure]
  exact hK _ _ h
end Go.Proofs.Ytfnejnoldonfeaa
