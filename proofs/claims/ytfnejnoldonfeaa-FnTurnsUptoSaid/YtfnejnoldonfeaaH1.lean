/-
  A digest as it lies in memory: its block's cells; a new one, reset.
  Conditions: none.
-/
import Derived.Test.YtfnejnoldonfeaaI128
import Derived.Test.YtfnejnoldonfeaaApp
import Derived.StillTailTactics
import Derived.BigRegion
import Derived.ChangeAlike
namespace Go.Proofs.Ytfnejnoldonfeaa
open Go.RowKit

/-- A digest's cells: length, pending bytes, buffer, seed, mixer, state. -/
def dc (clen : Nat) (tail : Value) (buf : List UInt8) (seed : BitVec 32) (bm : Value) (h : List Value) : List Value :=
  .int .i64 (clen : Int) :: tail :: (buf.map bc ++ (.int .u32 (un seed) :: bm :: h))
/-- Block g is a digest. -/
structure Dig (w : World) (g : Nat) (E : TypeId) (clen : Nat) (tail : Value) (buf : List UInt8) (seed : BitVec 32) (bm : Value) (h : List Value) : Prop where
  len : buf.length = 16
  heap : w.heap[g]? = some (.cells (dc clen tail buf seed bm h).toArray E (0, 0))
section
variable {w : World} {g clen : Nat} {E : TypeId} {tail bm : Value} {buf : List UInt8} {seed : BitVec 32} {h : List Value}
theorem Dig.cell (d : Dig w g E clen tail buf seed bm h) (i : Nat) : w.cell? ⟨g, i, none⟩ = (dc clen tail buf seed bm h)[i]? := by
  rw [cell_of_row w g i _ E (0, 0) d.heap]; simp
theorem Dig.free (d : Dig w g E clen tail buf seed bm h) (i : Nat) : w.frozen? ⟨g, i, none⟩ = false := frozen_row w g i _ E d.heap
theorem Dig.lt (d : Dig w g E clen tail buf seed bm h) : g < w.heap.size := (Array.getElem?_eq_some_iff.1 d.heap).1
theorem Dig.c0 (d : Dig w g E clen tail buf seed bm h) : w.cell? ⟨g, 0, none⟩ = some (.int .i64 (clen : Int)) := d.cell 0
theorem Dig.c1 (d : Dig w g E clen tail buf seed bm h) : w.cell? ⟨g, 1, none⟩ = some tail := d.cell 1
theorem dc_hi (d : buf.length = 16) (i : Nat) : (dc clen tail buf seed bm h)[18 + i]? = (.int .u32 (un seed) :: bm :: h)[i]? := by
  unfold dc
  rw [show 18 + i = (16 + i) + 1 + 1 from by omega, List.getElem?_cons_succ, List.getElem?_cons_succ, List.getElem?_append_right (by simp [d])]
  simp [d]
theorem Dig.c18 (d : Dig w g E clen tail buf seed bm h) : w.cell? ⟨g, 18, none⟩ = some (.int .u32 (un seed)) := by rw [d.cell, dc_hi d.len 0]; rfl
theorem Dig.c19 (d : Dig w g E clen tail buf seed bm h) : w.cell? ⟨g, 19, none⟩ = some bm := by rw [d.cell, dc_hi d.len 1]; rfl
theorem Dig.c20 (d : Dig w g E clen tail buf seed bm h) : w.cell? ⟨g, 20, none⟩ = h[0]? := by rw [d.cell, dc_hi d.len 2]; rfl
theorem Dig.c21 (d : Dig w g E clen tail buf seed bm h) : w.cell? ⟨g, 21, none⟩ = h[1]? := by rw [d.cell, dc_hi d.len 3]; rfl
theorem Dig.bufAt (d : Dig w g E clen tail buf seed bm h) (i : Nat) (hi : i < 16) : w.cell? ⟨g, 2 + i, none⟩ = some (bc (buf.getD i 0)) := by
  rw [d.cell]
  unfold dc
  rw [show 2 + i = i + 1 + 1 from by omega, List.getElem?_cons_succ, List.getElem?_cons_succ, List.getElem?_append_left (by simp [d.len, hi]), List.getElem?_map, List.getElem?_eq_getElem (by rw [d.len]; exact hi), List.getD_eq_getElem?_getD, List.getElem?_eq_getElem (by rw [d.len]; exact hi)]
  rfl
theorem Dig.set (d : Dig w g E clen tail buf seed bm h) (i : Nat) (v : Value) : (w.setCell ⟨g, i, none⟩ v).heap[g]? = some (.cells ((dc clen tail buf seed bm h).set i v).toArray E (0, 0)) := by
  rw [heap_set w g i _ E v d.heap]; simp
theorem Dig.set0 (d : Dig w g E clen tail buf seed bm h) (n : Nat) : Dig (w.setCell ⟨g, 0, none⟩ (.int .i64 (n : Int))) g E n tail buf seed bm h := ⟨d.len, d.set 0 _⟩
theorem Dig.set1 (d : Dig w g E clen tail buf seed bm h) (v : Value) : Dig (w.setCell ⟨g, 1, none⟩ v) g E clen v buf seed bm h := ⟨d.len, d.set 1 _⟩
theorem dc_set_hi (d : buf.length = 16) (i : Nat) (v : Value) : (dc clen tail buf seed bm h).set (20 + i) v = dc clen tail buf seed bm (h.set i v) := by
  unfold dc
  rw [show 20 + i = (16 + (i + 1 + 1)) + 1 + 1 from by omega, List.set_cons_succ, List.set_cons_succ, List.set_append_right _ _ (by simp [d])]
  simp [d]
theorem Dig.set20 (d : Dig w g E clen tail buf seed bm h) (i : Nat) (v : Value) : Dig (w.setCell ⟨g, 20 + i, none⟩ v) g E clen tail buf seed bm (h.set i v) :=
  ⟨d.len, by rw [d.set, dc_set_hi d.len]⟩
theorem Dig.keep {w' : World} (d : Dig w g E clen tail buf seed bm h) (hw : w'.heap[g]? = w.heap[g]?) : Dig w' g E clen tail buf seed bm h := ⟨d.len, by rw [hw]; exact d.heap⟩
theorem Dig.drewN (d : Dig w g E clen tail buf seed bm h) (n : Nat) : Dig (w.drewN n) g E clen tail buf seed bm h := d.keep rfl
theorem Dig.drew (d : Dig w g E clen tail buf seed bm h) : Dig w.drew g E clen tail buf seed bm h := d.keep rfl
theorem Dig.setH (d : Dig w g E clen tail buf seed bm h) (j : Nat) (i : Nat) (v : Value) (hj : j = 20 + i) : Dig (w.setCell ⟨g, j, none⟩ v) g E clen tail buf seed bm (h.set i v) := by subst hj; exact d.set20 i v
end
/-- Only block g has turned; nothing was made. -/
structure Only (g : Nat) (w w' : World) : Prop where
  os : w'.os = w.os
  tape : w'.tape = w.tape
  output : w'.output = w.output
  size : w'.heap.size = w.heap.size
  block : ∀ k, k ≠ g → w'.heap[k]? = w.heap[k]?
theorem Only.refl (g : Nat) (w : World) : Only g w w := ⟨rfl, rfl, rfl, rfl, fun _ _ => rfl⟩
theorem Only.trans {g : Nat} {a b c : World} (h : Only g a b) (k : Only g b c) : Only g a c :=
  ⟨k.os.trans h.os, k.tape.trans h.tape, k.output.trans h.output, k.size.trans h.size, fun i hi => (k.block i hi).trans (h.block i hi)⟩
theorem Only.setCell {g : Nat} {a w : World} (h : Only g a w) (i : Nat) (v : Value) : Only g a (w.setCell ⟨g, i, none⟩ v) :=
  h.trans ⟨rfl, rfl, rfl, by simp [World.setCell], fun k hk => Below.heap_setCell _ _ _ _ hk⟩
theorem Only.drewN {g : Nat} {a w : World} (h : Only g a w) (n : Nat) : Only g a (w.drewN n) := h.trans ⟨rfl, rfl, rfl, rfl, fun _ _ => rfl⟩
theorem Only.drew {g : Nat} {a w : World} (h : Only g a w) : Only g a w.drew := h.trans ⟨rfl, rfl, rfl, rfl, fun _ _ => rfl⟩
theorem Only.below {g B : Nat} {w w' : World} (h : Only g w w') (hB : B ≤ g) : Below B w w' := ⟨h.os, h.tape, h.output, Nat.le_of_eq h.size.symm, fun k hk => h.block k (by omega)⟩

def zeros : List UInt8 := [0, 0, 0, 0, 0, 0, 0, 0, 0, 0, 0, 0, 0, 0, 0, 0]
theorem reset128_any (g clen : Nat) (tail bm : Value) (buf : List UInt8) (seed : BitVec 32) (a b : Value) (w : World) (d : Dig w g 110 clen tail buf seed bm [a, b]) : Calls Try.prog 99 #[.pointer (some ⟨g, 0, none⟩)] w fun e w' =>
    e = .returned (.tuple #[]) ∧ Dig w' g 110 clen tail buf seed bm [.int .u64 (un (seed.setWidth 64)), .int .u64 (un (seed.setWidth 64))] ∧ Only g w w' := by
  have c18 := d.c18
  have c20 : w.cell? ⟨g, 20, none⟩ = some a := d.c20
  have c21 : w.cell? ⟨g, 21, none⟩ = some b := d.c21
  have f20 := d.free 20
  have f21 := d.free 21
  go_enter Try.func99, Try.ntmps99
  go_wp2_with fail
  go_region
  go_end0
  exact ⟨rfl, ((d.set20 0 _).set20 1 _).drew, (((Only.refl g w).setCell 20 _).setCell 21 _).drew⟩
theorem reset32_any (g clen : Nat) (tail bm : Value) (buf : List UInt8) (seed : BitVec 32) (a : Value) (w : World) (d : Dig w g 116 clen tail buf seed bm [a]) : Calls Try.prog 104 #[.pointer (some ⟨g, 0, none⟩)] w fun e w' =>
    e = .returned (.tuple #[]) ∧ Dig w' g 116 clen tail buf seed bm [.int .u32 (un seed)] ∧ Only g w w' := by
  have c18 := d.c18
  have c20 : w.cell? ⟨g, 20, none⟩ = some a := d.c20
  have f20 := d.free 20
  go_enter Try.func104, Try.ntmps104
  go_wp2_with fail
  go_end0
  exact ⟨rfl, d.set20 0 _, (Only.refl g w).setCell 20 _⟩
theorem resets128_any (g clen : Nat) (tail : Value) (buf : List UInt8) (seed : BitVec 32) (a b : Value) (w : World) (d : Dig w g 110 clen tail buf seed (.iface 103 (.pointer (some ⟨g, 0, none⟩))) [a, b]) :
    Calls Try.prog 79 #[.pointer (some ⟨g, 0, none⟩)] w fun e w' =>
      e = .returned (.tuple #[]) ∧ Dig w' g 110 0 (.slice none 0 0) buf seed (.iface 103 (.pointer (some ⟨g, 0, none⟩))) [.int .u64 (un (seed.setWidth 64)), .int .u64 (un (seed.setWidth 64))] ∧ Only g w w' := by
  have c0 := d.c0
  have c1 := d.c1
  have c19 := d.c19
  have f0 := d.free 0
  have f1 := d.free 1
  go_enter Try.func79, Try.ntmps79
  go_wp2_with fail
  refine (reset128_any g 0 (.slice none 0 0) _ buf seed a b _ ((d.set0 0).set1 _)).mono ?_
  rintro e w2 ⟨rfl, d2, o2⟩
  go_wp2_with fail
  go_end0
  exact ⟨rfl, d2, (((Only.refl g w).setCell 0 _).setCell 1 _).trans o2⟩
theorem new128_any (seed : BitVec 32) (w : World) : Calls Try.prog 75 #[.int .u32 (un seed)] w fun e w' =>
    e = .returned (.iface 103 (.pointer (some ⟨w.heap.size, 0, none⟩))) ∧ Dig w' w.heap.size 110 0 (.slice none 0 0) zeros seed (.iface 103 (.pointer (some ⟨w.heap.size, 0, none⟩))) [.int .u64 (un (seed.setWidth 64)), .int .u64 (un (seed.setWidth 64))] ∧
      Below w.heap.size w w' ∧ w'.heap.size = w.heap.size + 1 := by
  have d : Dig (w.alloc (.cells (dc 0 (.slice none 0 0) zeros seed (.iface 103 (.pointer (some ⟨w.heap.size, 0, none⟩))) [.int .u64 0, .int .u64 0]).toArray 110)) w.heap.size 110 0 (.slice none 0 0) zeros seed (.iface 103 (.pointer (some ⟨w.heap.size, 0, none⟩))) [.int .u64 0, .int .u64 0] :=
    ⟨rfl, heap_alloc_new w _⟩
  have D := Lib.hid d
  clear d
  go_enter Try.func75, Try.ntmps75
  go_wp2_with fail
  refine (resets128_any w.heap.size 0 _ zeros seed (.int .u64 0) (.int .u64 0) _ D.out).mono ?_
  rintro e w2 ⟨rfl, d2, o2⟩
  go_wp2_with fail
  go_ret
  exact ⟨rfl, d2, ((Below.refl w.heap.size w).alloc (Nat.le_refl _) _).trans (o2.below (Nat.le_refl _)), by rw [o2.size]; simp⟩
theorem resets32_any (g clen : Nat) (tail : Value) (buf : List UInt8) (seed : BitVec 32) (a : Value) (w : World) (d : Dig w g 116 clen tail buf seed (.iface 114 (.pointer (some ⟨g, 0, none⟩))) [a]) :
    Calls Try.prog 79 #[.pointer (some ⟨g, 0, none⟩)] w fun e w' =>
      e = .returned (.tuple #[]) ∧ Dig w' g 116 0 (.slice none 0 0) buf seed (.iface 114 (.pointer (some ⟨g, 0, none⟩))) [.int .u32 (un seed)] ∧ Only g w w' := by
  have c0 := d.c0
  have c1 := d.c1
  have c19 := d.c19
  have f0 := d.free 0
  have f1 := d.free 1
  go_enter Try.func79, Try.ntmps79
  go_wp2_with fail
  refine (reset32_any g 0 (.slice none 0 0) _ buf seed a _ ((d.set0 0).set1 _)).mono ?_
  rintro e w2 ⟨rfl, d2, o2⟩
  go_wp2_with fail
  go_end0
  exact ⟨rfl, d2, (((Only.refl g w).setCell 0 _).setCell 1 _).trans o2⟩
theorem new32_any (seed : BitVec 32) (w : World) : Calls Try.prog 73 #[.int .u32 (un seed)] w fun e w' =>
    e = .returned (.iface 114 (.pointer (some ⟨w.heap.size, 0, none⟩))) ∧ Dig w' w.heap.size 116 0 (.slice none 0 0) zeros seed (.iface 114 (.pointer (some ⟨w.heap.size, 0, none⟩))) [.int .u32 (un seed)] ∧
      Below w.heap.size w w' ∧ w'.heap.size = w.heap.size + 1 := by
  have d : Dig (w.alloc (.cells (dc 0 (.slice none 0 0) zeros seed (.iface 114 (.pointer (some ⟨w.heap.size, 0, none⟩))) [.int .u32 0]).toArray 116)) w.heap.size 116 0 (.slice none 0 0) zeros seed (.iface 114 (.pointer (some ⟨w.heap.size, 0, none⟩))) [.int .u32 0] :=
    ⟨rfl, heap_alloc_new w _⟩
  have D := Lib.hid d
  clear d
  go_enter Try.func73, Try.ntmps73
  go_wp2_with fail
  refine (resets32_any w.heap.size 0 _ zeros seed (.int .u32 0) _ D.out).mono ?_
  rintro e w2 ⟨rfl, d2, o2⟩
  go_wp2_with fail
  go_ret
  exact ⟨rfl, d2, ((Below.refl w.heap.size w).alloc (Nat.le_refl _) _).trans (o2.below (Nat.le_refl _)), by rw [o2.size]; simp⟩
theorem assert103 (v : Value) (W : World) : (Instr.typeAssert (.iface 103 v) 76 103 false).run Try.prog W = .ok v W := by kernel_rfl
set_option maxRecDepth 100000 in
theorem new64_any (seed : BitVec 32) (w : World) : Calls Try.prog 74 #[.int .u32 (un seed)] w fun e w' =>
    e = .returned (.iface 117 (.pointer (some ⟨w.heap.size, 0, none⟩))) ∧ Dig w' w.heap.size 110 0 (.slice none 0 0) zeros seed (.iface 103 (.pointer (some ⟨w.heap.size, 0, none⟩))) [.int .u64 (un (seed.setWidth 64)), .int .u64 (un (seed.setWidth 64))] ∧
      Below w.heap.size w w' ∧ w'.heap.size = w.heap.size + 1 := by
  go_enter Try.func74, Try.ntmps74
  go_wp2_with fail
  refine (new128_any seed _).mono ?_
  rintro e w2 ⟨rfl, d2, b2, s2⟩
  have D := Lib.hid d2
  have S := Lib.hid s2
  have hta := fun W => assert103 (.pointer (some ⟨w.heap.size, 0, none⟩)) W
  clear d2 s2
  go_wp2_with fail
  go_ret
  exact ⟨rfl, D.out, b2, S.out⟩
end Go.Proofs.Ytfnejnoldonfeaa
