/-
  A slice of bytes as it lies in memory ('Bs'), and its parts; the program's slice expressions.
  Conditions: none.
-/
import Derived.Test.YtfnejnoldonfeaaMath
import Derived.Test.YtfnejnoldonfeaaProg
namespace Go.Proofs.Ytfnejnoldonfeaa
open Go.RowKit

/-- The bytes of a slice, as they lie in memory. -/
def Bs (w : World) (a : Option Addr) (l : List UInt8) : Prop :=
  l = [] ∨ ∃ b off, a = some ⟨b, off, none⟩ ∧ ∀ i, i < l.length → w.cell? ⟨b, off + i, none⟩ = some (.int .u8 ((l.getD i 0).toNat : Int))
/-- Where 's[k:]' lies. -/
def cutA (a : Option Addr) (cap k : Nat) : Option Addr := if cap = k then a else a.map (·.add k)

theorem Bs.drop {w : World} {a : Option Addr} {l : List UInt8} (h : Bs w a l) (cap k : Nat) (hc : l.length ≤ cap) : Bs w (cutA a cap k) (l.drop k) := by
  by_cases hk : l.length ≤ k
  · exact .inl (by simp [List.drop_eq_nil_iff, hk])
  · rcases h with rfl | ⟨b, off, rfl, h⟩
    · simp at hk
    · refine .inr ⟨b, off + k, ?_, fun i hi => ?_⟩
      · unfold cutA; rw [if_neg (by omega)]; simp [Addr.add]
      · have := h (k + i) (by simp at hi; omega)
        rw [Nat.add_assoc, this]; simp [List.getD_eq_getElem?_getD]
theorem Bs.take {w : World} {a : Option Addr} {l : List UInt8} (h : Bs w a l) (k : Nat) : Bs w a (l.take k) := by
  rcases h with rfl | ⟨b, off, rfl, h⟩
  · exact .inl (by simp)
  · refine .inr ⟨b, off, rfl, fun i hi => ?_⟩
    rw [List.length_take] at hi
    rw [getD_take _ _ _ (by omega)]
    exact h i (by omega)
theorem Bs.drewN {w : World} {a : Option Addr} {l : List UInt8} (h : Bs w a l) (n : Nat) : Bs (w.drewN n) a l := by
  rcases h with rfl | ⟨b, off, rfl, h⟩
  · exact .inl rfl
  · exact .inr ⟨b, off, rfl, fun i hi => by have := h i hi; simpa using this⟩
theorem Bs.at4 {w : World} {a : Option Addr} {l : List UInt8} (h : Bs w a l) (hl : 4 ≤ l.length) : ∃ b off, a = some ⟨b, off, none⟩ ∧
    w.cell? ⟨b, off, none⟩ = some (.int .u8 ((l.getD 0 0).toNat : Int)) ∧ w.cell? ⟨b, off + 1, none⟩ = some (.int .u8 ((l.getD 1 0).toNat : Int)) ∧
    w.cell? ⟨b, off + 2, none⟩ = some (.int .u8 ((l.getD 2 0).toNat : Int)) ∧ w.cell? ⟨b, off + 3, none⟩ = some (.int .u8 ((l.getD 3 0).toNat : Int)) := by
  rcases h with rfl | ⟨b, off, rfl, h⟩
  · simp at hl
  · exact ⟨b, off, rfl, h 0 (by omega), h 1 (by omega), h 2 (by omega), h 3 (by omega)⟩

theorem slice_from (a : Option Addr) (len cap k : Nat) (W : World) (h : k ≤ len) :
    (Instr.slice 22 (.slice a len cap) (some (.int .i64 (k : Int))) none none).run Try.prog W = .ok (.slice (cutA a cap k) (len - k) (cap - k)) W := by
  rw [run_slice_l (P := Try.prog) (w := W) 22 a len cap (by kernel_rfl) .i64 (k : Int) (by omega) (by omega)]
  rw [show (Sem.run Try.prog (sizeOf (Try.prog.elem 22)) W) = .ok 1 W from by kernel_rfl]
  simp [Result.andThen, sliced, cutA]
theorem slice_to (a : Option Addr) (len cap k : Nat) (W : World) (h : k ≤ cap) :
    (Instr.slice 22 (.slice a len cap) none (some (.int .i64 (k : Int))) none).run Try.prog W = .ok (.slice a k cap) W := by
  rw [run_slice_h (P := Try.prog) (w := W) 22 a len cap (by kernel_rfl) .i64 (k : Int) (by omega) (by omega)]
  rw [show (Sem.run Try.prog (sizeOf (Try.prog.elem 22)) W) = .ok 1 W from by kernel_rfl]
  simp [Result.andThen, sliced, Addr.add]
theorem slice_mid (a : Option Addr) (len cap k j : Nat) (W : World) (h : k ≤ j) (hj : j ≤ cap) :
    (Instr.slice 22 (.slice a len cap) (some (.int .i64 (k : Int))) (some (.int .i64 (j : Int))) none).run Try.prog W = .ok (.slice (cutA a cap k) (j - k) (cap - k)) W := by
  rw [run_slice_lh (P := Try.prog) (w := W) 22 a len cap (by kernel_rfl) .i64 .i64 (k : Int) (j : Int) (by omega) (by omega) (by omega)]
  rw [show (Sem.run Try.prog (sizeOf (Try.prog.elem 22)) W) = .ok 1 W from by kernel_rfl]
  simp [Result.andThen, sliced, cutA]
end Go.Proofs.Ytfnejnoldonfeaa
