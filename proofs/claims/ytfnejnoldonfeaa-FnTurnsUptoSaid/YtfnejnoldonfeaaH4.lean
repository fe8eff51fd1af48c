/-
  What Write of a digest needs: where the pending bytes lie.
  Conditions: the digest lies in memory as 'Dig' says; the bytes lie elsewhere.
-/
import Derived.Test.YtfnejnoldonfeaaH3
namespace Go.Proofs.Ytfnejnoldonfeaa
open Go.RowKit

/-- Where the pending bytes lie. -/
def TailOk (g : Nat) (A : Option Addr) (tl tc : Nat) (buf r : List UInt8) : Prop := r.length = tl ∧ ((r = [] ∧ A = none ∧ tc = 0) ∨ (A = some ⟨g, 2, none⟩ ∧ tc = 16 ∧ buf.take r.length = r))
/-- The bytes lie in memory, and not in block g. -/
def Far (g : Nat) (w : World) (a : Option Addr) (l : List UInt8) : Prop := l = [] ∨ ∃ b off, a = some ⟨b, off, none⟩ ∧ b ≠ g ∧ ∀ i, i < l.length → w.cell? ⟨b, off + i, none⟩ = some (.int .u8 ((l.getD i 0).toNat : Int))
theorem Far.bs {g : Nat} {w : World} {a : Option Addr} {l : List UInt8} (h : Far g w a l) : Bs w a l := by
  rcases h with h | ⟨b, off, h1, _, h2⟩
  · exact .inl h
  · exact .inr ⟨b, off, h1, h2⟩
theorem Far.only {g : Nat} {w w' : World} {a : Option Addr} {l : List UInt8} (h : Far g w a l) (o : Only g w w') : Far g w' a l := by
  rcases h with h | ⟨b, off, h1, hne, h2⟩
  · exact .inl h
  · exact .inr ⟨b, off, h1, hne, fun i hi => by rw [World.cell?_of_block (w := w) (o.block b hne)]; exact h2 i hi⟩
theorem sliceBuf (g : Nat) (W : World) : (Instr.sliceAt 104 (.pointer (some ⟨g, 2, none⟩)) none none none).run Try.prog W = .ok (.slice (some ⟨g, 2, none⟩) 16 16) W := by kernel_rfl
theorem sliceBufTo (g n : Nat) (hn : n ≤ 16) (W : World) : (Instr.sliceAt 104 (.pointer (some ⟨g, 2, none⟩)) none (some (.int .i64 (n : Int))) none).run Try.prog W = .ok (.slice (some ⟨g, 2, none⟩) n 16) W := by
  have ea : Try.prog.arrayLen 104 = 16 := by kernel_rfl
  rw [run_sliceAt_array_h (P := Try.prog) (w := W) 104 ⟨g, 2, none⟩ (by kernel_rfl) .i64 (n : Int) (by omega) (by rw [ea]; omega)]
  rw [show (Sem.run Try.prog (sizeOf (Try.prog.elem 104)) W) = .ok 1 W from by kernel_rfl, ea]
  simp [Result.andThen, slicedAt, Addr.add]
theorem upto_rest (bs n m : Nat) (q buf : List UInt8) (h : q.length - bs * (q.length / bs) = n) : (q.drop (bs * (q.length / bs)) ++ buf.drop m).take n = q.drop (bs * (q.length / bs)) := by
  rw [List.take_append_of_le_length (by simp; omega), List.take_of_length_le (by simp; omega)]
end Go.Proofs.Ytfnejnoldonfeaa
