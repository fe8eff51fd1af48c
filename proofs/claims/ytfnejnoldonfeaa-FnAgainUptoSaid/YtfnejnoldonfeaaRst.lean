/-
  Reset of each of the three hashers.
  Conditions: the digests lie in memory as 'St32', 'St128' say.
-/
import Derived.Test.YtfnejnoldonfeaaH6
namespace Go.Proofs.Ytfnejnoldonfeaa
open Go.RowKit BigFrame

theorem resetSt32 (g : Nat) (seed : BitVec 32) (l : List UInt8) (w : World) (s : St32 g seed l w) : Calls Try.prog 79 #[.pointer (some ⟨g, 0, none⟩)] w fun e w' =>
    e = .returned (.tuple #[]) ∧ St32 g seed [] w' ∧ Only g w w' := by
  obtain ⟨A, tc, buf, d, _⟩ := s
  refine (resets32_any g _ _ buf seed _ w d).mono ?_
  rintro e w' ⟨rfl, d', o⟩
  exact ⟨rfl, ⟨none, 0, buf, d', .inl ⟨rfl, rfl⟩⟩, o⟩
theorem resetSt128 (g : Nat) (seed : BitVec 32) (l : List UInt8) (w : World) (s : St128 g seed l w) : Calls Try.prog 79 #[.pointer (some ⟨g, 0, none⟩)] w fun e w' =>
    e = .returned (.tuple #[]) ∧ St128 g seed [] w' ∧ Only g w w' := by
  obtain ⟨A, tc, buf, d, _⟩ := s
  refine (resets128_any g _ _ buf seed _ _ w d).mono ?_
  rintro e w' ⟨rfl, d', o⟩
  exact ⟨rfl, ⟨none, 0, buf, d', .inl ⟨rfl, rfl⟩⟩, o⟩
end Go.Proofs.Ytfnejnoldonfeaa
