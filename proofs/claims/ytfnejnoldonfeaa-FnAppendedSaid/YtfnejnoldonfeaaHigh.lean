/-
  laws.high: the bytes of a word, the highest first, as a text.
  Conditions: none.
-/
import Derived.Test.YtfnejnoldonfeaaLaws6
import Derived.Test.YtfnejnoldonfeaaDs
namespace Go.Proofs.Ytfnejnoldonfeaa
open Go.RowKit BigFrame
def hiB (x : BitVec 64) (n k : Nat) : List UInt8 := (List.range k).map fun i => by8 x (n - 1 - i)
theorem hiB_succ (x : BitVec 64) (n k : Nat) : hiB x n (k + 1) = hiB x n k ++ [by8 x (n - 1 - k)] := by simp [hiB, List.range_succ]
theorem str_size (l : List UInt8) : (str l).size = l.length := by simp [str, ByteArray.size]
theorem str_app (l m : List UInt8) : str l ++ str m = str (l ++ m) := by
  apply ByteArray.ext
  simp [str]
set_option maxRecDepth 100000 in
theorem high_any (x : BitVec 64) (n : Nat) (hn : n ≤ 8) (w : World) : Calls Try.prog 35 #[.int .u64 (un x), .int .i64 (n : Int)] w fun e w' => e = .returned (.string (str (hiB x n n))) ∧ Below w.heap.size w w' := by
  go_enter Try.func35, Try.ntmps35
  go_wp2_with fail
  go_loopw [5, 6] (fun s i wr => ∃ j : Nat, j ≤ n ∧ i = .int .i64 ((j : Int) - 1) ∧ s = .string (str (hiB x n (n - j))) ∧ Below w.heap.size w wr) (fun _ i _ => (intOf i + 1).toNat)
  case atStart => exact ⟨n, by omega, rfl, by simp [hiB, str], Below.refl _ _⟩
  case round =>
    obtain ⟨j, hj, rfl, rfl, hbel⟩ := hrel
    rcases j with _ | p
    · go_wp2_with fail
      go_ret
      exact ⟨rfl, hbel⟩
    · have hp : ((p + 1 : Nat) : Int) - 1 = (p : Int) := by omega
      rw [hp]
      have hbv := byte64 x p
      have hs := conv_str _ (some ⟨wr.heap.size, 0, none⟩) 1 1 [by8 x p] (Bs_one wr (by8 x p) _ rfl) rfl
      have hsz : ¬ (9223372036854775807 < (str (hiB x n (n - (p + 1)))).size + (str [by8 x p]).size) := by
        simp only [str_size]; simp [hiB]; omega
      go_wp2_with fail
      refine ⟨⟨p, by omega, rfl, ?_, hbel.alloc hbel.size _⟩, by simp [intOf]⟩
      rw [str_app, show n - p = n - (p + 1) + 1 from by omega, hiB_succ, show n - 1 - (n - (p + 1)) = p from by omega]
end Go.Proofs.Ytfnejnoldonfeaa
