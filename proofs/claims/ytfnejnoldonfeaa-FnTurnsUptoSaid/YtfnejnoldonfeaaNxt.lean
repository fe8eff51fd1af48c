/-
  The three hashers together: the next slice of a slice of slices written to each.
  Conditions: the slices lie in memory, below the hashers, and are small together.
-/
import Derived.Test.YtfnejnoldonfeaaFit
namespace Go.Proofs.Ytfnejnoldonfeaa
open Go.RowKit BigFrame
theorem Ls.mem {L : List Sl} {w w' : World} {P : Option Addr} (h : Ls w P L) (hb : Below w.heap.size w w') : Ls w' P L :=
  ⟨h.1.imp id fun ⟨b, off, h1, h2⟩ => ⟨b, off, h1, fun i hi => (hb.cell (p := ⟨b, off + i, none⟩) (cell_in (h2 i hi))).trans (h2 i hi)⟩, fun s hs => (h.2 s hs).mem hb⟩
theorem write_next (g : Nat) (seed : BitVec 32) {P : Option Addr} {n : Nat} {L : List Sl} {w : World} (H : Ls w P L) (S : Sm L n) (k : Nat) (hk : k < L.length) (wr : World) (hb : Below w.heap.size w wr) (hg : w.heap.size ≤ g) (hS : Sums g seed (pre L k) wr) :
    Calls Try.prog 60 #[sumsV g, .slice (L[k]).a (L[k]).len (L[k]).cap] wr fun e w' => e = .returned (.bool true) ∧ Turn g 3 wr w' ∧ Sums g seed (pre L (k + 1)) w' := by
  have hs := H.2 _ (List.getElem_mem hk)
  have h1 := S.one H k hk
  rw [pre_succ L k hk]
  generalize L[k] = s at hs h1
  exact writes_any g seed (pre L k) s.a s.len s.cap s.l wr hS ((Low.of hs.bs).below hb (Nat.le_refl _) |>.mono hg) hs.hl hs.hc hs.hm (by omega)
end Go.Proofs.Ytfnejnoldonfeaa
